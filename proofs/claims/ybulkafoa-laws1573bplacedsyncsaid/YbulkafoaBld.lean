/-
  zzs1573bbuild BY ITS CONTRACT.
-/
import Derived.Test.YbulkafoaBuild
import Derived.Test.YbulkafoaCheck
import Derived.Test.YbulkafoaSync
namespace Go.Proofs.Ybulkafoa
open Go.RowKit Go.Deep

theorem Yba.info2' : (Yba.prog.info? 2).map (fun i => (i.zero, i.size, i.bytes)) = some (some (.int .i64 0), 1, 8) := by kernel_rfl
theorem Yba.info64 : (Yba.prog.info? 64).map (fun i => (i.zero.isSome, i.size, i.bytes)) = some (true, 9, 56) := by kernel_rfl
theorem shl_of (e : Int) (_ : 0 ≤ e) : ∃ l : Nat, 1 ≤ l ∧ l ≤ 16 ∧ wrap64 (2 ^ (e % 5).toNat) = (l : Int) := by
  have h : e % 5 = 0 ∨ e % 5 = 1 ∨ e % 5 = 2 ∨ e % 5 = 3 ∨ e % 5 = 4 := by omega
  rcases h with h | h | h | h | h <;> rw [h]
  · exact ⟨1, by omega, by omega, by kernel_rfl⟩
  · exact ⟨2, by omega, by omega, by kernel_rfl⟩
  · exact ⟨4, by omega, by omega, by kernel_rfl⟩
  · exact ⟨8, by omega, by omega, by kernel_rfl⟩
  · exact ⟨16, by omega, by omega, by kernel_rfl⟩

theorem make_blocks (m : Nat) (hm : m ≤ 1024) : ∃ C : List Value, C.length = m * 9 ∧ ∀ w : World, (Instr.makeSlice 58 (.int .i64 (m : Int)) (.int .i64 (m : Int))).run Yba.prog w = .ok (.slice (some ⟨w.heap.size, 0, none⟩) m m) (w.alloc (.cells C.toArray 64)) := by
  obtain ⟨i, hi, hz⟩ := Option.map_eq_some_iff.1 Yba.info64
  simp only [Prod.mk.injEq] at hz
  obtain ⟨h1, h2, h3⟩ := hz
  obtain ⟨z, hz⟩ := Option.isSome_iff_exists.1 h1
  refine ⟨(madeCells z.cells (m * 9)).toList, by simp [size_madeCells], fun w => ?_⟩
  have h := run_make (P := Yba.prog) w 58 64 i z Yba.underlying58 hi hz .i64 .i64 m m (by omega) (Int.le_refl _) (by rw [h3]; omega) (by omega)
  rw [h2] at h
  simpa using h

theorem cell_lt {w : World} {a : Addr} {v : Value} (h : w.cell? a = some v) : a.block < w.heap.size := by
  apply Classical.byContradiction
  intro hn
  have : w.heap[a.block]? = none := by simp; omega
  simp [World.cell?, this] at h

theorem grownBy_new {a b : World} (h : a.grownBy b none) (g i : Nat) (v : Value) (hg : a.heap.size ≤ g) : a.grownBy (b.setCell ⟨g, i, none⟩ v) none :=
  ⟨h.os, h.tape, h.output, by simpa using h.size, fun k hk hr => (Below.heap_setCell _ _ _ _ (by show k ≠ g; omega)).trans (h.block k hk hr)⟩

/-- Block j's nine cells. -/
def nine (L : List Value) (j : Nat) (a b c : Int) : List Value :=
  ((((((((L.set (j * 9) (.int .i32 0)).set (j * 9 + 1) (.int .i32 0)).set (j * 9 + 2) (.int .i64 0)).set (j * 9 + 3) (.int .i64 a)).set (j * 9 + 4) (.int .i64 b)).set (j * 9 + 5) (.int .i64 0)).set (j * 9 + 6) (.int .i64 0)).set (j * 9 + 7) (.int .i32 c)).set (j * 9 + 8) (.int .u8 0)
theorem nine_length (L : List Value) (j : Nat) (a b c : Int) : (nine L j a b c).length = L.length := by simp [nine]
theorem nine_self (L : List Value) (j : Nat) (a b c : Int) (h : j * 9 + 9 ≤ L.length) : (nine L j a b c)[j * 9 + 3]? = some (.int .i64 a) ∧ (nine L j a b c)[j * 9 + 4]? = some (.int .i64 b) ∧ (nine L j a b c)[j * 9 + 7]? = some (.int .i32 c) := by
  unfold nine
  refine ⟨?_, ?_, ?_⟩
  all_goals
    repeat rw [List.getElem?_set_ne (by omega)]
    rw [List.getElem?_set_self (by simp; omega)]
theorem nine_other (L : List Value) (j i o : Nat) (a b c : Int) (h : i < j) (ho : o < 9) : (nine L j a b c)[i * 9 + o]? = L[i * 9 + o]? := by
  unfold nine
  repeat rw [List.getElem?_set_ne (by omega)]
theorem rem32 (x : Int) (l : Nat) (h1 : 1 ≤ l) (h2 : l ≤ 16) : wrap32 (x % (l : Int)) = x % (l : Int) := by
  have a := Int.emod_nonneg x (b := (l : Int)) (by omega)
  have b := Int.emod_lt_of_pos x (b := (l : Int)) (by omega)
  generalize x % (l : Int) = q at a b
  unfold wrap32
  omega

theorem RowIs.drew {w : World} {b : Nat} {t : TypeId} {L : List Value} (h : RowIs w b t L) : RowIs w.drew b t L := h
theorem size_drew (w : World) : w.drew.heap.size = w.heap.size := rfl
theorem row_nine {wr : World} {g j : Nat} {L : List Value} {a b c : Int} (h : RowIs wr g 64 L) :
    RowIs (((((((((wr.setCell ⟨g, j * 9, none⟩ (.int .i32 0)).setCell ⟨g, j * 9 + 1, none⟩ (.int .i32 0)).setCell ⟨g, j * 9 + 2, none⟩ (.int .i64 0)).setCell ⟨g, j * 9 + 3, none⟩ (.int .i64 a)).setCell ⟨g, j * 9 + 4, none⟩ (.int .i64 b)).setCell ⟨g, j * 9 + 5, none⟩ (.int .i64 0)).setCell ⟨g, j * 9 + 6, none⟩ (.int .i64 0)).setCell ⟨g, j * 9 + 7, none⟩ (.int .i32 c)).setCell ⟨g, j * 9 + 8, none⟩ (.int .u8 0)).drew g 64 (nine L j a b c) := by
  have h1 := h.set (j * 9) (.int .i32 0)
  have h2 := h1.set (j * 9 + 1) (.int .i32 0)
  have h3 := h2.set (j * 9 + 2) (.int .i64 0)
  have h4 := h3.set (j * 9 + 3) (.int .i64 a)
  have h5 := h4.set (j * 9 + 4) (.int .i64 b)
  have h6 := h5.set (j * 9 + 5) (.int .i64 0)
  have h7 := h6.set (j * 9 + 6) (.int .i64 0)
  have h8 := h7.set (j * 9 + 7) (.int .i32 c)
  have h9 := (h8.set (j * 9 + 8) (.int .u8 0)).drew
  unfold nine
  exact h9
theorem grown_nine {w1 wr : World} {g j : Nat} {a b c : Int} (h : w1.grownBy wr none) (hg : w1.heap.size ≤ g) : w1.grownBy (((((((((wr.setCell ⟨g, j * 9, none⟩ (.int .i32 0)).setCell ⟨g, j * 9 + 1, none⟩ (.int .i32 0)).setCell ⟨g, j * 9 + 2, none⟩ (.int .i64 0)).setCell ⟨g, j * 9 + 3, none⟩ (.int .i64 a)).setCell ⟨g, j * 9 + 4, none⟩ (.int .i64 b)).setCell ⟨g, j * 9 + 5, none⟩ (.int .i64 0)).setCell ⟨g, j * 9 + 6, none⟩ (.int .i64 0)).setCell ⟨g, j * 9 + 7, none⟩ (.int .i32 c)).setCell ⟨g, j * 9 + 8, none⟩ (.int .u8 0)).drew none := by
  have h1 := grownBy_new h g (j * 9) (.int .i32 0) hg
  have h2 := grownBy_new h1 g (j * 9 + 1) (.int .i32 0) hg
  have h3 := grownBy_new h2 g (j * 9 + 2) (.int .i64 0) hg
  have h4 := grownBy_new h3 g (j * 9 + 3) (.int .i64 a) hg
  have h5 := grownBy_new h4 g (j * 9 + 4) (.int .i64 b) hg
  have h6 := grownBy_new h5 g (j * 9 + 5) (.int .i64 0) hg
  have h7 := grownBy_new h6 g (j * 9 + 6) (.int .i64 0) hg
  have h8 := grownBy_new h7 g (j * 9 + 7) (.int .i32 c) hg
  exact grownBy_drew (grownBy_new h8 g (j * 9 + 8) (.int .u8 0) hg)
theorem size_nine {wr : World} {g j : Nat} {a b c : Int} : (((((((((wr.setCell ⟨g, j * 9, none⟩ (.int .i32 0)).setCell ⟨g, j * 9 + 1, none⟩ (.int .i32 0)).setCell ⟨g, j * 9 + 2, none⟩ (.int .i64 0)).setCell ⟨g, j * 9 + 3, none⟩ (.int .i64 a)).setCell ⟨g, j * 9 + 4, none⟩ (.int .i64 b)).setCell ⟨g, j * 9 + 5, none⟩ (.int .i64 0)).setCell ⟨g, j * 9 + 6, none⟩ (.int .i64 0)).setCell ⟨g, j * 9 + 7, none⟩ (.int .i32 c)).setCell ⟨g, j * 9 + 8, none⟩ (.int .u8 0)).drew.heap.size = wr.heap.size := by
  rw [size_drew]
  simp only [World.size_setCell]

/-- What zzs1573bbuild leaves: two trees' rows, the blocks, the profile. -/
def Built (w : World) (m : Nat) (mn mx pl : Nat → Int) (ex : Ending) (w' : World) : Prop :=
  ∃ (l : Nat) (ts ls : List Int), ex = .returned (.tuple #[.pointer (some ⟨w.heap.size + 3, 0, none⟩), .int .i64 (l : Int)]) ∧ 1 ≤ l ∧ l ≤ 16 ∧ ts.length = 2 * l ∧ ls.length = 2 * l ∧ RowIs w' w.heap.size 2 (ints ts) ∧ RowIs w' (w.heap.size + 1) 2 (ints ls) ∧
    Prof w' (w.heap.size + 3) w.heap.size (w.heap.size + 1) (w.heap.size + 2) m (2 * l) l ∧
    (∀ j, j < m → w'.cell? ⟨w.heap.size + 2, j * 9 + 3, none⟩ = some (.int .i64 (mn j)) ∧ w'.cell? ⟨w.heap.size + 2, j * 9 + 4, none⟩ = some (.int .i64 (mx j)) ∧ w'.cell? ⟨w.heap.size + 2, j * 9 + 7, none⟩ = some (.int .i32 (pl j % (l : Int)))) ∧
    Below w.heap.size w w' ∧ w'.heap.size = w.heap.size + 4

theorem built_of {w w1 w2 : World} {m l : Nat} {mn mx pl : Nat → Int} {ts ls : List Int} {L : List Value} {V : Array Value} (h1 : 1 ≤ l) (h2 : l ≤ 16) (ht : ts.length = 2 * l) (hl : ls.length = 2 * l) (rt : RowIs w1 w.heap.size 2 (ints ts)) (rl : RowIs w1 (w.heap.size + 1) 2 (ints ls))
    (hd : Below w.heap.size w w1) (hsz : w1.heap.size = w.heap.size + 2) (hg : w1.grownBy w2 none) (hsz2 : w2.heap.size = w1.heap.size + 1) (rb : RowIs w2 w1.heap.size 64 L)
    (hc : ∀ i, i < m → L[i * 9 + 3]? = some (.int .i64 (mn i)) ∧ L[i * 9 + 4]? = some (.int .i64 (mx i)) ∧ L[i * 9 + 7]? = some (.int .i32 (pl i % l)))
    (v0 : V[1803]? = some (.slice (some ⟨w1.heap.size, 0, none⟩) m m)) (v1 : V[1806]? = some (.slice (some ⟨w.heap.size, 0, none⟩) (2 * l) (2 * l))) (v2 : V[1807]? = some (.int .i64 l)) (v3 : V[1808]? = some (.bool true)) (v4 : V[1809]? = some (.slice (some ⟨w.heap.size + 1, 0, none⟩) (2 * l) (2 * l))) (v5 : V[1810]? = some (.int .i64 l)) :
    Built w m mn mx pl (.returned (.tuple #[.pointer (some ⟨w1.heap.size + 1, 0, none⟩), .int .i64 (l : Int)])) (w2.alloc (.cells V 61)) := by
  have rp : RowIs (w2.alloc (.cells V 61)) w2.heap.size 61 V.toList := by
    unfold RowIs
    show (w2.heap.push _)[w2.heap.size]? = _
    simp
  rw [hsz2, hsz] at rp
  rw [hsz] at rb v0
  have cellV : ∀ i, (w2.alloc (.cells V 61)).cell? ⟨w.heap.size + 3, i, none⟩ = V[i]? := fun i => by rw [rp.cell]; simp
  refine ⟨l, ts, ls, by rw [hsz], h1, h2, ht, hl, (rt.grown hg (by simp)).alloc _, (rl.grown hg (by simp)).alloc _, ⟨(cellV _).trans v0, (cellV _).trans v1, (cellV _).trans v2, (cellV _).trans v3, (cellV _).trans v4, (cellV _).trans v5⟩, fun j hj => ?_, ?_, by simp [hsz2, hsz]⟩
  · have rb' := rb.alloc (.cells V 61)
    obtain ⟨k1, k2, k3⟩ := hc j hj
    exact ⟨(rb'.cell _).trans k1, (rb'.cell _).trans k2, (rb'.cell _).trans k3⟩
  · exact (hd.grown hg (by omega) (by simp)).alloc (by omega) _

set_option maxHeartbeats 1000000 in
set_option maxRecDepth 100000 in
theorem build_any (e : Int) (ai : Option Addr) (ni ci : Nat) (bb ob m cb : Nat) (mn mx pl : Nat → Int) (w : World) (he0 : 0 ≤ e) (he1 : e ≤ 255) (hni : ni ≤ 1024) (hm1 : 1 ≤ m) (hm2 : m ≤ 1024)
    (hi : ∀ i, i < ni → ∃ y z, ai = some y ∧ w.cell? (y.add i) = some (.int .i64 z)) (hb : ∀ j, j < m → w.cell? ⟨bb, ob + j * 3, none⟩ = some (.int .i64 (mn j)) ∧ w.cell? ⟨bb, ob + j * 3 + 1, none⟩ = some (.int .i64 (mx j)) ∧ w.cell? ⟨bb, ob + j * 3 + 2, none⟩ = some (.int .u8 (pl j)))
    (hp : ∀ j, j < m → 0 ≤ pl j ∧ pl j ≤ 255) :
    Calls Yba.prog 10 #[.int .u8 e, .slice ai ni ci, .slice (some ⟨bb, ob, none⟩) m cb, .bool true] w (Built w m mn mx pl) := by
  obtain ⟨l, hl1, hl2, hshl⟩ := shl_of e he0
  have HI : Hid (∀ i, i < ni → ∃ y z, ai = some y ∧ w.cell? (y.add i) = some (.int .i64 z)) := hi
  have HB : Hid (∀ j, j < m → w.cell? ⟨bb, ob + j * 3, none⟩ = some (.int .i64 (mn j)) ∧ w.cell? ⟨bb, ob + j * 3 + 1, none⟩ = some (.int .i64 (mx j)) ∧ w.cell? ⟨bb, ob + j * 3 + 2, none⟩ = some (.int .u8 (pl j))) := hb
  have HP : Hid (∀ j, j < m → 0 ≤ pl j ∧ pl j ≤ 255) := hp
  have hmk2 := run_make_row' (P := Yba.prog) 37 2 (.int .i64 0) 8 Yba.underlying37 Yba.info2' rfl .i64 .i64 (2 * l) (by omega) (by omega)
  rw [show (((2 * l : Nat) : Int)) = 2 * (l : Int) from by omega] at hmk2
  obtain ⟨C, hC, hmk3⟩ := make_blocks m hm2
  clear hi hb hp
  go_enter Yba.func10, Yba.ntmps10
  go_wp2
  go_loopw [13] (fun t wr => ∃ (i : Nat) (ts ls : List Int), t = .int .i64 i ∧ i ≤ 2 * l ∧ ts.length = 2 * l ∧ ls.length = 2 * l ∧ RowIs wr w.heap.size 2 (ints ts) ∧ RowIs wr (w.heap.size + 1) 2 (ints ls) ∧ Below w.heap.size w wr ∧ wr.heap.size = w.heap.size + 2) (fun t _ => 2 * l - (intOf t).toNat)
  case atStart =>
    have e0 : ints (List.replicate (2 * l) 0) = List.replicate (2 * l) (.int .i64 0) := by simp [ints]
    refine ⟨0, List.replicate (2 * l) 0, List.replicate (2 * l) 0, rfl, by omega, by simp, by simp, ?_, ?_, ((Below.refl _ w).alloc (Nat.le_refl _) _).alloc (by simp) _, by simp⟩
    · rw [e0]; exact (made_row w 2 (.int .i64 0) (2 * l)).alloc _
    · rw [e0]
      have := made_row (w.alloc (.cells (madeCells #[.int .i64 0] (2 * l)) 2)) 2 (.int .i64 0) (2 * l)
      rw [show (w.alloc (.cells (madeCells #[.int .i64 0] (2 * l)) 2)).heap.size = w.heap.size + 1 from by simp] at this
      exact this
  case round =>
    obtain ⟨i, ts, ls, rfl, hi1, hts, hls, rt, rl, hbel, hsz⟩ := hrel
    by_cases hil : i < 2 * l
    · have t1 := ints_cell rt (i := i) (by omega)
      have t2 := ints_cell rl (i := i) (by omega)
      have f1 : wr.frozen? ⟨w.heap.size, i, none⟩ = false := rt.frozen _
      have f2 : wr.frozen? ⟨w.heap.size + 1, i, none⟩ = false := rl.frozen _
      have RT : Hid (RowIs wr w.heap.size 2 (ints ts)) := rt
      have RL : Hid (RowIs wr (w.heap.size + 1) 2 (ints ls)) := rl
      have HD : Hid (Below w.heap.size w wr) := hbel
      have HTS : Hid (ts.length = 2 * l) := hts
      have HLS : Hid (ls.length = 2 * l) := hls
      have HSZ : Hid (wr.heap.size = w.heap.size + 2) := hsz
      clear rt rl hbel hts hls hsz
      by_cases hin : i < ni
      · obtain ⟨y, z, rfl, hy⟩ := HI.out i hin
        have hylt : (y.add i).block < w.heap.size := cell_lt hy
        have hy' : wr.cell? (y.add i) = some (.int .i64 z) := (HD.out.cell (p := y.add i) hylt).trans hy
        have hy2 : (wr.setCell ⟨w.heap.size, i, none⟩ (.int .i64 z)).cell? (y.add i) = some (.int .i64 z) := ((HD.out.setCell (p := ⟨w.heap.size, i, none⟩) (Nat.le_refl _) _).cell (p := y.add i) hylt).trans hy
        go_wp2
        go_roundw
        case rel =>
          refine ⟨i + 1, ts.set i z, ls.set i (wrap64 (-z)), by go_num, by omega, by simp [HTS.out], by simp [HLS.out], ?_, ?_, (HD.out.setCell (Nat.le_refl _) _).setCell (by show w.heap.size ≤ w.heap.size + 1; omega) _, by simp [HSZ.out]⟩
          · rw [← ints_set]; exact (RT.out.set _ _).other _ _ _ (by omega)
          · rw [← ints_set]; exact (RL.out.other _ _ _ (by omega)).set _ _
        case measure => simp [intOf]; omega
      · go_wp2
        go_roundw
        case rel =>
          refine ⟨i + 1, ts.set i (-9223372036854775808), ls.set i (-9223372036854775808), by go_num, by omega, by simp [HTS.out], by simp [HLS.out], ?_, ?_, (HD.out.setCell (Nat.le_refl _) _).setCell (by show w.heap.size ≤ w.heap.size + 1; omega) _, by simp [HSZ.out]⟩
          · rw [← ints_set]; exact (RT.out.set _ _).other _ _ _ (by omega)
          · rw [← ints_set]; exact (RL.out.other _ _ _ (by omega)).set _ _
        case measure => simp [intOf]; omega
    · have RT : Hid (RowIs wr w.heap.size 2 (ints ts)) := rt
      have RL : Hid (RowIs wr (w.heap.size + 1) 2 (ints ls)) := rl
      have HD : Hid (Below w.heap.size w wr) := hbel
      have HTS : Hid (ts.length = 2 * l) := hts
      have HLS : Hid (ls.length = 2 * l) := hls
      have HSZ : Hid (wr.heap.size = w.heap.size + 2) := hsz
      clear rt rl hbel hts hls hsz
      rename World => w1
      go_wp2
      go_loopw [15] (fun t w2 => ∃ (j : Nat) (L : List Value), t = .int .i64 j ∧ j ≤ m ∧ L.length = m * 9 ∧ RowIs w2 w1.heap.size 64 L ∧ Hid (∀ i, i < j → L[i * 9 + 3]? = some (.int .i64 (mn i)) ∧ L[i * 9 + 4]? = some (.int .i64 (mx i)) ∧ L[i * 9 + 7]? = some (.int .i32 (pl i % l))) ∧ w1.grownBy w2 none ∧ w2.heap.size = w1.heap.size + 1) (fun t _ => m - (intOf t).toNat)
      case atStart =>
        refine ⟨0, C, rfl, by omega, hC, ?_, fun i hi => absurd hi (by omega), ⟨rfl, rfl, rfl, by simp, fun k hk _ => Below.heap_alloc _ _ _ hk⟩, by simp⟩
        unfold RowIs
        show (w1.heap.push _)[w1.heap.size]? = _
        simp
      case round =>
        obtain ⟨j, L, rfl, hj, hL, hrow, HC, hgr, hsz2⟩ := hrel
        have HROW : Hid (RowIs wr w1.heap.size 64 L) := hrow
        have HG : Hid (w1.grownBy wr none) := hgr
        have HL : Hid (L.length = m * 9) := hL
        by_cases hjm : j < m
        · obtain ⟨c0, c1, c2⟩ := HB.out j hjm
          obtain ⟨q0, q1⟩ := HP.out j hjm
          have d0 : wr.cell? ⟨bb, ob + j * 3, none⟩ = some (.int .i64 (mn j)) := hgr.cell (HD.out.cell (cell_lt c0) |>.trans c0) (by simp)
          have d1 : wr.cell? ⟨bb, ob + j * 3 + 1, none⟩ = some (.int .i64 (mx j)) := hgr.cell (HD.out.cell (cell_lt c1) |>.trans c1) (by simp)
          have d2 : wr.cell? ⟨bb, ob + j * 3 + 2, none⟩ = some (.int .u8 (pl j)) := hgr.cell (HD.out.cell (cell_lt c2) |>.trans c2) (by simp)
          obtain ⟨s0, e0⟩ : ∃ v, wr.cell? ⟨w1.heap.size, j * 9, none⟩ = some v := ⟨_, (hrow.cell _).trans (List.getElem?_eq_getElem (by omega))⟩
          obtain ⟨s1, e1⟩ : ∃ v, wr.cell? ⟨w1.heap.size, j * 9 + 1, none⟩ = some v := ⟨_, (hrow.cell _).trans (List.getElem?_eq_getElem (by omega))⟩
          obtain ⟨s2, e2⟩ : ∃ v, wr.cell? ⟨w1.heap.size, j * 9 + 2, none⟩ = some v := ⟨_, (hrow.cell _).trans (List.getElem?_eq_getElem (by omega))⟩
          obtain ⟨s3, e3⟩ : ∃ v, wr.cell? ⟨w1.heap.size, j * 9 + 3, none⟩ = some v := ⟨_, (hrow.cell _).trans (List.getElem?_eq_getElem (by omega))⟩
          obtain ⟨s4, e4⟩ : ∃ v, wr.cell? ⟨w1.heap.size, j * 9 + 4, none⟩ = some v := ⟨_, (hrow.cell _).trans (List.getElem?_eq_getElem (by omega))⟩
          obtain ⟨s5, e5⟩ : ∃ v, wr.cell? ⟨w1.heap.size, j * 9 + 5, none⟩ = some v := ⟨_, (hrow.cell _).trans (List.getElem?_eq_getElem (by omega))⟩
          obtain ⟨s6, e6⟩ : ∃ v, wr.cell? ⟨w1.heap.size, j * 9 + 6, none⟩ = some v := ⟨_, (hrow.cell _).trans (List.getElem?_eq_getElem (by omega))⟩
          obtain ⟨s7, e7⟩ : ∃ v, wr.cell? ⟨w1.heap.size, j * 9 + 7, none⟩ = some v := ⟨_, (hrow.cell _).trans (List.getElem?_eq_getElem (by omega))⟩
          obtain ⟨s8, e8⟩ : ∃ v, wr.cell? ⟨w1.heap.size, j * 9 + 8, none⟩ = some v := ⟨_, (hrow.cell _).trans (List.getElem?_eq_getElem (by omega))⟩
          have fz : ∀ o, wr.frozen? ⟨w1.heap.size, o, none⟩ = false := fun o => hrow.frozen o
          clear hrow hgr hL c0 c1 c2
          go_wp2
          go_region
          go_wp2
          go_roundw
          case rel =>
            refine ⟨j + 1, nine L j (mn j) (mx j) (wrap32 (pl j % l)), by go_num, by omega, by rw [nine_length, HL.out], ?_, ?_, ?_, size_nine.trans hsz2⟩
            · exact row_nine HROW.out
            · intro i hi
              by_cases hij : i = j
              · subst hij
                have hq := rem32 (pl i) l hl1 hl2
                rw [hq]
                exact nine_self L i _ _ _ (by rw [HL.out]; omega)
              · have hlt : i < j := by omega
                rw [nine_other _ _ _ _ _ _ _ hlt (by omega), nine_other _ _ _ _ _ _ _ hlt (by omega), nine_other _ _ _ _ _ _ _ hlt (by omega)]
                exact HC.out i hlt
            · exact grown_nine HG.out (Nat.le_refl _)
          case measure => simp [intOf]; omega
        · have hjm' : j = m := by omega
          subst hjm'
          clear hrow hgr hL
          obtain ⟨V, hV, v0, v1, v2, v3, v4, v5⟩ := prof_value (some ⟨w1.heap.size, 0, none⟩) j (some ⟨w.heap.size, 0, none⟩) (2 * l) l (some ⟨w.heap.size + 1, 0, none⟩) true
          have HV : Hid (V[1803]? = some (.slice (some ⟨w1.heap.size, 0, none⟩) j j) ∧ V[1806]? = some (.slice (some ⟨w.heap.size, 0, none⟩) (2 * l) (2 * l)) ∧ V[1807]? = some (.int .i64 l) ∧ V[1808]? = some (.bool true) ∧ V[1809]? = some (.slice (some ⟨w.heap.size + 1, 0, none⟩) (2 * l) (2 * l)) ∧ V[1810]? = some (.int .i64 l)) := ⟨v0, v1, v2, v3, v4, v5⟩
          clear v0 v1 v2 v3 v4 v5
          go_wp2_with (refine wpList_build rfl 61 #[(12, .tmp 90), (15, .tmp 93), (17, .tmp 96), (16, .tmp 97)] rfl #[(12, .slice (some ⟨w1.heap.size, 0, none⟩) j j), (15, .agg #[.slice (some ⟨w.heap.size, 0, none⟩) (2 * l) (2 * l), .int .i64 l]), (17, .agg #[.slice (some ⟨w.heap.size + 1, 0, none⟩) (2 * l) (2 * l), .int .i64 l]), (16, .bool true)] ?hv (.agg V) (hV _) ?_)
          go_ret2
          exact built_of hl1 hl2 HTS.out HLS.out RT.out RL.out HD.out HSZ.out HG.out hsz2 HROW.out HC.out HV.out.1 HV.out.2.1 HV.out.2.2.1 HV.out.2.2.2.1 HV.out.2.2.2.2.1 HV.out.2.2.2.2.2

end Go.Proofs.Ybulkafoa
