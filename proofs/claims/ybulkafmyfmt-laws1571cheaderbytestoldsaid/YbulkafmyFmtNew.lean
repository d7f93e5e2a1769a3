/-
  NewWriter: what each of its seven stores leaves.
-/
import Derived.Test.YbulkafmyFmtBuf
namespace Go.Proofs.YbulkafmyFmt
open Go.RowKit Go.Deep

theorem length_set4 (L : List Value) (off : Nat) (a b c d : Value) : (set4 L off a b c d).length = L.length := by simp [set4]
theorem length_set2 (L : List Value) (off : Nat) (a b : Value) : (set2 L off a b).length = L.length := by simp [set2]

theorem filled_cell {w w1 : World} {bb : Nat} {t : TypeId} {L : List Value} {b i : Nat} {v : Value} (h : Filled w w1 bb t L) (hc : w.cell? ⟨b, i, none⟩ = some v) (hne : b ≠ bb) : w1.cell? ⟨b, i, none⟩ = some v :=
  h.1.cell hc (by simpa using hne)

/-- One store of four bytes: the row, its length, the header's block, what lies below. -/
theorem step4 {w w0 w1 : World} {L : List Value} {off : Nat} {a b c d : Value} {HD : List Value} {B : Nat} (h : Filled w0.drew w1 (B + 1) 54 (set4 L off a b c d)) (hl : L.length = 24) (hd : Hid (RowIs w0 B 36 HD)) (hb : Hid (Below B w w0)) :
    ∃ L1, Hid (L1 = set4 L off a b c d) ∧ Hid (RowIs w1 (B + 1) 54 L1) ∧ L1.length = 24 ∧ Hid (RowIs w1 B 36 HD) ∧ Hid (Below B w w1) :=
  ⟨_, rfl, h.2, (length_set4 ..).trans hl, (h.1.block B hd.out.lt (by simp)).trans hd.out, hb.out.trans ⟨h.1.os, h.1.tape, h.1.output, h.1.size, fun k hk => h.1.block k (Nat.lt_trans hk hd.out.lt) (by simp; omega)⟩⟩
theorem step2 {w w0 w1 : World} {L : List Value} {off : Nat} {a b : Value} {HD : List Value} {B : Nat} (h : Filled w0.drew w1 (B + 1) 54 (set2 L off a b)) (hl : L.length = 24) (hd : Hid (RowIs w0 B 36 HD)) (hb : Hid (Below B w w0)) :
    ∃ L1, Hid (L1 = set2 L off a b) ∧ Hid (RowIs w1 (B + 1) 54 L1) ∧ L1.length = 24 ∧ Hid (RowIs w1 B 36 HD) ∧ Hid (Below B w w1) :=
  ⟨_, rfl, h.2, (length_set2 ..).trans hl, (h.1.block B hd.out.lt (by simp)).trans hd.out, hb.out.trans ⟨h.1.os, h.1.tape, h.1.output, h.1.size, fun k hk => h.1.block k (Nat.lt_trans hk hd.out.lt) (by simp; omega)⟩⟩

theorem wrapU32 (z : Int) : 0 ≤ IntKind.u32.wrap z ∧ IntKind.u32.wrap z ≤ 4294967295 := by
  simp only [IntKind.wrap, IntKind.signed, IntKind.bits]
  simp
  omega

def Z24 : List Value := List.replicate 24 (.int .u8 0)
def hdr (o : Value) (nano : Bool) (maj min zone sig snap link : Int) : List Value := [o, .bool nano, .int .u16 maj, .int .u16 min, .int .i32 zone, .int .u32 sig, .int .u32 snap, .int .u32 link]

/-- The world in which the stores begin: the header's block and the buffer's. -/
def begun (w : World) (o : Value) (nano : Bool) (maj min zone sig snap link : Int) : World := (w.alloc (.cells (hdr o nano maj min zone sig snap link).toArray 36)).alloc (.cells #[.int .u8 0, .int .u8 0, .int .u8 0, .int .u8 0, .int .u8 0, .int .u8 0, .int .u8 0, .int .u8 0, .int .u8 0, .int .u8 0, .int .u8 0, .int .u8 0, .int .u8 0, .int .u8 0, .int .u8 0, .int .u8 0, .int .u8 0, .int .u8 0, .int .u8 0, .int .u8 0, .int .u8 0, .int .u8 0, .int .u8 0, .int .u8 0] 54)

theorem begun_row (w : World) (o : Value) (nano : Bool) (maj min zone sig snap link : Int) : RowIs (begun w o nano maj min zone sig snap link) (w.heap.size + 1) 54 Z24 := heap_alloc2_new w _ _
theorem begun_hdr (w : World) (o : Value) (nano : Bool) (maj min zone sig snap link : Int) : RowIs (begun w o nano maj min zone sig snap link) w.heap.size 36 (hdr o nano maj min zone sig snap link) := heap_alloc2_old w _ _
theorem begun_below (w : World) (o : Value) (nano : Bool) (maj min zone sig snap link : Int) : Below w.heap.size w (begun w o nano maj min zone sig snap link) := ((Below.refl _ _).alloc (Nat.le_refl _) _).alloc (by simp) _

theorem rowIs_heap {w w' : World} (h : w'.heap = w.heap) {b : Nat} {t : TypeId} {L : List Value} (k : RowIs w b t L) : RowIs w' b t L := by unfold RowIs; rw [h]; exact k

theorem bw_write24 (b g q N s cq : Nat) (L cur : List Value) (w : World) (hL : L.length = 24) (hb : RowIs w b 61 [.nilIface, .slice (some ⟨g, 0, none⟩) N N, .int .i64 0, .iface 29 (.pointer (some ⟨s, 0, none⟩))]) (hg : RowIs w g 5 cur) (hcur : cur.length = N) (hLN : 24 ≤ N) (hN : N ≤ 65536)
    (hq : RowIs w q 54 L) (hone : ∀ u ∈ L, u.oneCell' = true) (hbg : b ≠ g) :
    Calls Ybaf.prog 12 #[.pointer (some ⟨b, 0, none⟩), .slice (some ⟨q, 0, none⟩) 24 cq] w fun e w' => e = .returned (.tuple #[.int .i64 24, .nilIface]) ∧
      w'.Alike ((w.setRow g (splice cur 0 L).toArray).setCell ⟨b, 2, none⟩ (.int .i64 24)) ∧ w'.tape = w.tape := by
  have h := bw_write b g q N s cq L cur w hb hg hcur (by omega) hN (fun j u hu => by rw [hq.cell]; exact hu) hone hbg
  rw [hL] at h
  exact h

/-- The world behind the header's Write: the buffer's row, the buffered writer's block, what lies below. -/
theorem after_write {w w7 w9 : World} {B : Nat} {C R X : List Value} {v : Value} (hb : Below B w w7) (hB : B ≤ w7.heap.size)
    (hal : w9.Alike ((((w7.alloc (.cells C.toArray 5)).alloc (.cells R.toArray 61)).setRow w7.heap.size X.toArray).setCell ⟨w7.heap.size + 1, 2, none⟩ v)) (htp : w9.tape = w7.tape) :
    RowIs w9 w7.heap.size 5 X ∧ RowIs w9 (w7.heap.size + 1) 61 (R.set 2 v) ∧ Below B w w9 ∧ w7.heap.size + 1 < w9.heap.size := by
  obtain ⟨h1, h2, h3⟩ := hal
  have r0 : RowIs ((w7.alloc (.cells C.toArray 5)).alloc (.cells R.toArray 61)) w7.heap.size 5 C := heap_alloc2_old w7 _ _
  have r1 : RowIs ((w7.alloc (.cells C.toArray 5)).alloc (.cells R.toArray 61)) (w7.heap.size + 1) 61 R := heap_alloc2_new w7 _ _
  have r2 := setRow_row r0 X
  have r3 : RowIs (((w7.alloc (.cells C.toArray 5)).alloc (.cells R.toArray 61)).setRow w7.heap.size X.toArray) (w7.heap.size + 1) 61 R := (setRow_other _ _ _ _ (by omega)).trans r1
  have r4 := r3.set 2 v
  have hbb : Below B w ((((w7.alloc (.cells C.toArray 5)).alloc (.cells R.toArray 61)).setRow w7.heap.size X.toArray).setCell ⟨w7.heap.size + 1, 2, none⟩ v) :=
    (below_setRow ((hb.alloc hB _).alloc (by simp; omega) _) hB _).setCell (by show B ≤ w7.heap.size + 1; omega) _
  have r5 : RowIs w9 (w7.heap.size + 1) 61 (R.set 2 v) := rowIs_heap h1 r4
  exact ⟨rowIs_heap h1 ((Below.heap_setCell _ _ _ _ (by show w7.heap.size ≠ w7.heap.size + 1; omega)).trans r2), r5, ⟨h2.trans hbb.os, htp.trans hb.tape, h3.trans hbb.output, by rw [h1]; exact hbb.size, fun k hk => by rw [h1]; exact hbb.block k hk⟩, r5.lt⟩

/-- What NewWriter leaves: the Writer at r, over a buffered writer at b whose buffer (block g) begins with the header's bytes. -/
def Made (w : World) (s : Nat) (o : Value) (HB : List Value) (e : Ending) (w' : World) : Prop :=
  ∃ (N r b g : Nat) (G : List Value), e = .returned (.pointer (some ⟨r, 0, none⟩)) ∧ 24 ≤ N ∧ N ≤ 65536 ∧ w'.cell? ⟨r, 0, none⟩ = some (.pointer (some ⟨b, 0, none⟩)) ∧ w'.cell? ⟨r, 1, none⟩ = some o ∧ w'.cell? ⟨r, 2, none⟩ = some .nilIface ∧
    RowIs w' b 61 [.nilIface, .slice (some ⟨g, 0, none⟩) N N, .int .i64 24, .iface 29 (.pointer (some ⟨s, 0, none⟩))] ∧ RowIs w' g 5 G ∧ (∀ (j : Nat) (u : Value), HB[j]? = some u → G[j]? = some u) ∧ Below w.heap.size w w' ∧ w.heap.size ≤ r ∧ w.heap.size ≤ b ∧ w.heap.size ≤ g

def le4 (v : Int) : List Int := [v % 256, v / 256 % 256, v / 65536 % 256, v / 16777216]
def le2 (v : Int) : List Int := [v % 256, v / 256]
def hdrL (m maj min z sig snap link : Int) : List Int := le4 m ++ le2 maj ++ le2 min ++ le4 z ++ le4 sig ++ le4 snap ++ le4 link
def hdrB (m maj min z sig snap link : Int) : List Int := (le4 m).reverse ++ (le2 maj).reverse ++ (le2 min).reverse ++ (le4 z).reverse ++ (le4 sig).reverse ++ (le4 snap).reverse ++ (le4 link).reverse

theorem chainL (m maj min z sig snap link : Int) : (set4 (set4 (set4 (set4 (set2 (set2 (set4 Z24 0 (by8 (m % 256)) (by8 (m / 256 % 256)) (by8 (m / 65536 % 256)) (by8 (m / 16777216))) 4 (by8 (maj % 256)) (by8 (maj / 256))) 6 (by8 (min % 256)) (by8 (min / 256))) 8 (by8 (z % 256)) (by8 (z / 256 % 256)) (by8 (z / 65536 % 256)) (by8 (z / 16777216))) 12 (by8 (sig % 256)) (by8 (sig / 256 % 256)) (by8 (sig / 65536 % 256)) (by8 (sig / 16777216))) 16 (by8 (snap % 256)) (by8 (snap / 256 % 256)) (by8 (snap / 65536 % 256)) (by8 (snap / 16777216))) 20 (by8 (link % 256)) (by8 (link / 256 % 256)) (by8 (link / 65536 % 256)) (by8 (link / 16777216))) = (hdrL m maj min z sig snap link).map by8 := by kernel_rfl
theorem chainB (m maj min z sig snap link : Int) : (set4 (set4 (set4 (set4 (set2 (set2 (set4 Z24 0 (by8 (m / 16777216)) (by8 (m / 65536 % 256)) (by8 (m / 256 % 256)) (by8 (m % 256))) 4 (by8 (maj / 256)) (by8 (maj % 256))) 6 (by8 (min / 256)) (by8 (min % 256))) 8 (by8 (z / 16777216)) (by8 (z / 65536 % 256)) (by8 (z / 256 % 256)) (by8 (z % 256))) 12 (by8 (sig / 16777216)) (by8 (sig / 65536 % 256)) (by8 (sig / 256 % 256)) (by8 (sig % 256))) 16 (by8 (snap / 16777216)) (by8 (snap / 65536 % 256)) (by8 (snap / 256 % 256)) (by8 (snap % 256))) 20 (by8 (link / 16777216)) (by8 (link / 65536 % 256)) (by8 (link / 256 % 256)) (by8 (link % 256))) = (hdrB m maj min z sig snap link).map by8 := by kernel_rfl

theorem by8_one (l : List Int) : ∀ u ∈ l.map by8, u.oneCell' = true := by
  intro u hu
  obtain ⟨n, _, rfl⟩ := List.mem_map.1 hu
  rfl

theorem splice_head {L C : List Value} : ∀ (j : Nat) (u : Value), L[j]? = some u → (splice C 0 L)[j]? = some u := by
  intro j u hu
  have hj : j < L.length := (List.getElem?_eq_some_iff.1 hu).1
  simp [splice, List.getElem?_append_left hj, hu]

end Go.Proofs.YbulkafmyFmt
