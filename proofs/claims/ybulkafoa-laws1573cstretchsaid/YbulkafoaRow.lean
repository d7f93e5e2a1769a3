/-
  Rows of cells that are known whole; the plain tree.
-/
import Derived.Test.YbulkafoaRows
import Derived.WalkKit
import Derived.WalkSpells
import Derived.WalkLawsBesides
namespace Go.Proofs.Ybulkafoa
open Go.RowKit

/-- Block b of the world is the row L, nothing of it frozen. -/
def RowIs (w : World) (b : Nat) (t : TypeId) (L : List Value) : Prop := w.heap[b]? = some (.cells L.toArray t (0, 0))

theorem RowIs.lt {w : World} {b : Nat} {t : TypeId} {L : List Value} (h : RowIs w b t L) : b < w.heap.size := (Array.getElem?_eq_some_iff.1 h).1
theorem RowIs.cell {w : World} {b : Nat} {t : TypeId} {L : List Value} (h : RowIs w b t L) (i : Nat) : w.cell? ⟨b, i, none⟩ = L[i]? := by
  rw [cell_of_row w b i _ _ _ h]; simp
theorem RowIs.frozen {w : World} {b : Nat} {t : TypeId} {L : List Value} (h : RowIs w b t L) (i : Nat) : w.frozen? ⟨b, i, none⟩ = false := frozen_of_row w b i _ _ h
theorem RowIs.set {w : World} {b : Nat} {t : TypeId} {L : List Value} (h : RowIs w b t L) (i : Nat) (v : Value) : RowIs (w.setCell ⟨b, i, none⟩ v) b t (L.set i v) := by
  have := heap_setCell_same w b i _ t v h
  unfold RowIs
  rw [this]
  simp
theorem RowIs.alloc {w : World} {b : Nat} {t : TypeId} {L : List Value} (h : RowIs w b t L) (o : Obj) : RowIs (w.alloc o) b t L := (Below.heap_alloc w o _ h.lt).trans h
theorem RowIs.other {w : World} {b : Nat} {t : TypeId} {L : List Value} (h : RowIs w b t L) (g i : Nat) (v : Value) (hne : b ≠ g) : RowIs (w.setCell ⟨g, i, none⟩ v) b t L := (Below.heap_setCell _ _ _ _ hne).trans h
theorem RowIs.grown {w w' : World} {b : Nat} {t : TypeId} {L : List Value} {r : Option Nat} (h : RowIs w b t L) (hg : w.grownBy w' r) (hne : some b ≠ r) : RowIs w' b t L := (hg.block b h.lt hne).trans h
theorem RowIs.below {w w' : World} {b B : Nat} {t : TypeId} {L : List Value} (h : RowIs w b t L) (hb : Below B w w') (hlt : b < B) : RowIs w' b t L := (hb.block b hlt).trans h
theorem RowIs.heap {w w' : World} (h : w'.heap = w.heap) {b : Nat} {t : TypeId} {L : List Value} (k : RowIs w b t L) : RowIs w' b t L := by unfold RowIs; rw [h]; exact k

theorem grownBy_setCell (w : World) (b i : Nat) (v : Value) : w.grownBy (w.setCell ⟨b, i, none⟩ v) (some b) :=
  ⟨rfl, rfl, rfl, by simp, fun k _ hk => Below.heap_setCell _ _ _ _ (fun e => hk (by rw [e]))⟩
theorem grownBy_trans {a b c : World} {r : Option Nat} (h : a.grownBy b r) (k : b.grownBy c r) : a.grownBy c r :=
  ⟨k.os.trans h.os, k.tape.trans h.tape, k.output.trans h.output, Nat.le_trans h.size k.size, fun i hi hr => (k.block i (Nat.lt_of_lt_of_le hi h.size) hr).trans (h.block i hi hr)⟩
theorem grownBy_refl (w : World) (r : Option Nat) : w.grownBy w r := ⟨rfl, rfl, rfl, Nat.le_refl _, fun _ _ _ => rfl⟩
theorem grownBy_drew {a b : World} {r : Option Nat} (h : a.grownBy b r) : a.grownBy b.drew r := ⟨h.os, h.tape, h.output, h.size, h.block⟩

def ints (zs : List Int) : List Value := zs.map (.int .i64)
theorem ints_get (zs : List Int) (i : Nat) (h : i < zs.length) : (ints zs)[i]? = some (.int .i64 (zs.getD i 0)) := by simp [ints, List.getD, h]
theorem ints_set (zs : List Int) (i : Nat) (v : Int) : (ints zs).set i (.int .i64 v) = ints (zs.set i v) := by simp [ints]
theorem ints_cell {w : World} {g : Nat} {t : TypeId} {zs : List Int} (h : RowIs w g t (ints zs)) {i : Nat} (hi : i < zs.length) : w.cell? ⟨g, i, none⟩ = some (.int .i64 (zs.getD i 0)) := by rw [h.cell, ints_get zs i hi]

/-! ### The plain tree -/
/-- From node k up to the root: each parent becomes the larger of its children. -/
def climb : Nat → Nat → List Int → List Int
  | 0, _, zs => zs
  | f + 1, k, zs => if 1 < k then climb f (k / 2) (zs.set (k / 2) (max (zs.getD (2 * (k / 2)) 0) (zs.getD (2 * (k / 2) + 1) 0))) else zs
def setTree (zs : List Int) (k : Nat) (v : Int) : List Int := climb k k (zs.set k v)

theorem climb_fuel : ∀ (f f' k : Nat) (zs : List Int), k ≤ f → k ≤ f' → climb f k zs = climb f' k zs
  | 0, f', k, zs, h, _ => by
    obtain rfl : k = 0 := by omega
    cases f' <;> simp [climb]
  | f + 1, 0, k, zs, _, h => by
    obtain rfl : k = 0 := by omega
    simp [climb]
  | f + 1, f' + 1, k, zs, h, h' => by
    simp only [climb]
    split
    · exact climb_fuel f f' _ _ (by omega) (by omega)
    · rfl

theorem climb_one (k : Nat) (zs : List Int) (h : k ≤ 1) : climb k k zs = zs := by
  cases k with
  | zero => rfl
  | succ k => simp only [climb]; rw [if_neg (by omega)]

theorem climb_step (k : Nat) (zs : List Int) (h : 1 < k) : climb k k zs = climb (k / 2) (k / 2) (zs.set (k / 2) (max (zs.getD (2 * (k / 2)) 0) (zs.getD (2 * (k / 2) + 1) 0))) := by
  obtain ⟨f, rfl⟩ : ∃ f, k = f + 1 := ⟨k - 1, by omega⟩
  simp only [climb]
  rw [if_pos h]
  exact climb_fuel _ _ _ _ (by omega) (by omega)

theorem climb_length : ∀ (f k : Nat) (zs : List Int), (climb f k zs).length = zs.length
  | 0, _, _ => rfl
  | f + 1, k, zs => by
    simp only [climb]
    split
    · rw [climb_length f]; simp
    · rfl
theorem setTree_length (zs : List Int) (k : Nat) (v : Int) : (setTree zs k v).length = zs.length := by simp [setTree, climb_length]

end Go.Proofs.Ybulkafoa
