/-
  (littleEndian|bigEndian).PutUint16|32 BY THEIR CONTRACTS: of a row of bytes that is known whole.
-/
import Derived.Test.YbulkafmyFmtRows
import Derived.WalkKit
import Derived.WalkSpells
import Derived.WalkLawsBesides
namespace Go.Proofs.YbulkafmyFmt
open Go.RowKit

/-- Block b of the world is the row L, nothing of it frozen. -/
def RowIs (w : World) (b : Nat) (t : TypeId) (L : List Value) : Prop := w.heap[b]? = some (.cells L.toArray t (0, 0))

theorem RowIs.lt {w : World} {b : Nat} {t : TypeId} {L : List Value} (h : RowIs w b t L) : b < w.heap.size := (Array.getElem?_eq_some_iff.1 h).1
theorem RowIs.cell {w : World} {b : Nat} {t : TypeId} {L : List Value} (h : RowIs w b t L) (i : Nat) : w.cell? ⟨b, i, none⟩ = L[i]? := by
  rw [cell_of_row w b i _ _ _ h]; simp
theorem RowIs.frozen {w : World} {b : Nat} {t : TypeId} {L : List Value} (h : RowIs w b t L) (i : Nat) : w.frozen? ⟨b, i, none⟩ = false := frozen_of_row w b i _ _ h
theorem RowIs.set {w : World} {b : Nat} {t : TypeId} {L : List Value} (h : RowIs w b t L) (i : Nat) (v : Value) : RowIs (w.setCell ⟨b, i, none⟩ v) b t (L.set i v) := by
  have := heap_setCell_same w b i _ t v h
  unfold RowIs
  rw [this]
  simp
theorem RowIs.alloc {w : World} {b : Nat} {t : TypeId} {L : List Value} (h : RowIs w b t L) (o : Obj) : RowIs (w.alloc o) b t L := (Below.heap_alloc w o _ h.lt).trans h
theorem RowIs.drew {w : World} {b : Nat} {t : TypeId} {L : List Value} (h : RowIs w b t L) : RowIs w.drew b t L := h

/-- New blocks, and writes to block b alone, which is the row L behind them. -/
def Filled (w w' : World) (b : Nat) (t : TypeId) (L : List Value) : Prop := w.grownBy w' (some b) ∧ RowIs w' b t L

theorem grownBy_setCell (w : World) (b i : Nat) (v : Value) : w.grownBy (w.setCell ⟨b, i, none⟩ v) (some b) :=
  ⟨rfl, rfl, rfl, by simp, fun k _ hk => Below.heap_setCell _ _ _ _ (fun e => hk (by rw [e]))⟩
theorem grownBy_trans {a b c : World} {r : Option Nat} (h : a.grownBy b r) (k : b.grownBy c r) : a.grownBy c r :=
  ⟨k.os.trans h.os, k.tape.trans h.tape, k.output.trans h.output, Nat.le_trans h.size k.size, fun i hi hr => (k.block i (Nat.lt_of_lt_of_le hi h.size) hr).trans (h.block i hi hr)⟩

def set4 (L : List Value) (off : Nat) (a b c d : Value) : List Value := (((L.set off a).set (off + 1) b).set (off + 2) c).set (off + 3) d
def set2 (L : List Value) (off : Nat) (a b : Value) : List Value := (L.set off a).set (off + 1) b
def by8 (n : Int) : Value := .int .u8 n
theorem by8_eq (n : Int) : by8 n = .int .u8 n := rfl

theorem filled4 {w : World} {b off : Nat} {t : TypeId} {L : List Value} (h : RowIs w b t L) (x0 x1 x2 x3 : Value) (o : Obj) :
    Filled w (((((w.setCell ⟨b, off, none⟩ x0).setCell ⟨b, off + 1, none⟩ x1).setCell ⟨b, off + 2, none⟩ x2).setCell ⟨b, off + 3, none⟩ x3).alloc o) b t (set4 L off x0 x1 x2 x3) :=
  ⟨grownBy_trans (grownBy_trans (grownBy_trans (grownBy_trans (grownBy_setCell _ _ _ _) (grownBy_setCell _ _ _ _)) (grownBy_setCell _ _ _ _)) (grownBy_setCell _ _ _ _)) (World.grownBy_alloc _ _ _), ((((h.set _ _).set _ _).set _ _).set _ _).alloc _⟩
theorem filled2 {w : World} {b off : Nat} {t : TypeId} {L : List Value} (h : RowIs w b t L) (x0 x1 : Value) (o : Obj) :
    Filled w (((w.setCell ⟨b, off, none⟩ x0).setCell ⟨b, off + 1, none⟩ x1).alloc o) b t (set2 L off x0 x1) :=
  ⟨grownBy_trans (grownBy_trans (grownBy_setCell _ _ _ _) (grownBy_setCell _ _ _ _)) (World.grownBy_alloc _ _ _), ((h.set _ _).set _ _).alloc _⟩

theorem at_lt {w : World} {b : Nat} {t : TypeId} {L : List Value} (h : RowIs w b t L) {i : Nat} (hi : i < L.length) : ∃ u, w.cell? ⟨b, i, none⟩ = some u := ⟨_, (h.cell i).trans (List.getElem?_eq_getElem hi)⟩

set_option maxHeartbeats 400000 in
theorem le32 (b off n c : Nat) (t : TypeId) (L : List Value) (v : Int) (w : World) (h0 : 0 ≤ v) (h1 : v ≤ 4294967295) (hn : 4 ≤ (n : Int)) (hr : RowIs w b t L) (hl : off + 4 ≤ L.length) :
    Calls Ybaf.prog 33 #[.agg #[], .slice (some ⟨b, off, none⟩) n c, .int .u32 v] w fun e w' => e = .returned (.tuple #[]) ∧ Filled w w' b t (set4 L off (by8 (v % 256)) (by8 (v / 256 % 256)) (by8 (v / 65536 % 256)) (by8 (v / 16777216))) := by
  obtain ⟨u0, c0⟩ := at_lt hr (i := off) (by omega)
  obtain ⟨u1, c1⟩ := at_lt hr (i := off + 1) (by omega)
  obtain ⟨u2, c2⟩ := at_lt hr (i := off + 2) (by omega)
  obtain ⟨u3, c3⟩ := at_lt hr (i := off + 3) (by omega)
  have f : ∀ i, w.frozen? ⟨b, i, none⟩ = false := hr.frozen
  have hb : b < w.heap.size := hr.lt
  have HR : Hid (RowIs w b t L) := hr
  clear hr
  go_enter Ybaf.func33, Ybaf.ntmps33
  go_wp2
  go_end0
  exact ⟨rfl, filled4 HR.out _ _ _ _ _⟩

set_option maxHeartbeats 400000 in
theorem be32 (b off n c : Nat) (t : TypeId) (L : List Value) (v : Int) (w : World) (h0 : 0 ≤ v) (h1 : v ≤ 4294967295) (hn : 4 ≤ (n : Int)) (hr : RowIs w b t L) (hl : off + 4 ≤ L.length) :
    Calls Ybaf.prog 37 #[.agg #[], .slice (some ⟨b, off, none⟩) n c, .int .u32 v] w fun e w' => e = .returned (.tuple #[]) ∧ Filled w w' b t (set4 L off (by8 (v / 16777216)) (by8 (v / 65536 % 256)) (by8 (v / 256 % 256)) (by8 (v % 256))) := by
  obtain ⟨u0, c0⟩ := at_lt hr (i := off) (by omega)
  obtain ⟨u1, c1⟩ := at_lt hr (i := off + 1) (by omega)
  obtain ⟨u2, c2⟩ := at_lt hr (i := off + 2) (by omega)
  obtain ⟨u3, c3⟩ := at_lt hr (i := off + 3) (by omega)
  have f : ∀ i, w.frozen? ⟨b, i, none⟩ = false := hr.frozen
  have hb : b < w.heap.size := hr.lt
  have HR : Hid (RowIs w b t L) := hr
  clear hr
  go_enter Ybaf.func37, Ybaf.ntmps37
  go_wp2
  go_end0
  exact ⟨rfl, filled4 HR.out _ _ _ _ _⟩

set_option maxHeartbeats 400000 in
theorem le16 (b off n c : Nat) (t : TypeId) (L : List Value) (v : Int) (w : World) (h0 : 0 ≤ v) (h1 : v ≤ 65535) (hn : 2 ≤ (n : Int)) (hr : RowIs w b t L) (hl : off + 2 ≤ L.length) :
    Calls Ybaf.prog 32 #[.agg #[], .slice (some ⟨b, off, none⟩) n c, .int .u16 v] w fun e w' => e = .returned (.tuple #[]) ∧ Filled w w' b t (set2 L off (by8 (v % 256)) (by8 (v / 256))) := by
  obtain ⟨u0, c0⟩ := at_lt hr (i := off) (by omega)
  obtain ⟨u1, c1⟩ := at_lt hr (i := off + 1) (by omega)
  have f : ∀ i, w.frozen? ⟨b, i, none⟩ = false := hr.frozen
  have hb : b < w.heap.size := hr.lt
  have HR : Hid (RowIs w b t L) := hr
  clear hr
  go_enter Ybaf.func32, Ybaf.ntmps32
  go_wp2
  go_end0
  exact ⟨rfl, filled2 HR.out _ _ _⟩

set_option maxHeartbeats 400000 in
theorem be16 (b off n c : Nat) (t : TypeId) (L : List Value) (v : Int) (w : World) (h0 : 0 ≤ v) (h1 : v ≤ 65535) (hn : 2 ≤ (n : Int)) (hr : RowIs w b t L) (hl : off + 2 ≤ L.length) :
    Calls Ybaf.prog 36 #[.agg #[], .slice (some ⟨b, off, none⟩) n c, .int .u16 v] w fun e w' => e = .returned (.tuple #[]) ∧ Filled w w' b t (set2 L off (by8 (v / 256)) (by8 (v % 256))) := by
  obtain ⟨u0, c0⟩ := at_lt hr (i := off) (by omega)
  obtain ⟨u1, c1⟩ := at_lt hr (i := off + 1) (by omega)
  have f : ∀ i, w.frozen? ⟨b, i, none⟩ = false := hr.frozen
  have hb : b < w.heap.size := hr.lt
  have HR : Hid (RowIs w b t L) := hr
  clear hr
  go_enter Ybaf.func36, Ybaf.ntmps36
  go_wp2
  go_end0
  exact ⟨rfl, filled2 HR.out _ _ _⟩

end Go.Proofs.YbulkafmyFmt
