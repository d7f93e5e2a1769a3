/-
  (boundTree).set BY ITS CONTRACT.
-/
import Derived.Test.YbulkafoaRow
namespace Go.Proofs.Ybulkafoa
open Go.RowKit

set_option maxHeartbeats 1000000 in
theorem set_any (p o g n k : Nat) (lv i v : Int) (zs : List Int) (w : World) (c0 : w.cell? ⟨p, o, none⟩ = some (.slice (some ⟨g, 0, none⟩) n n)) (c1 : w.cell? ⟨p, o + 1, none⟩ = some (.int .i64 lv)) (hr : RowIs w g 2 (ints zs))
    (hz : zs.length = n) (hk : (k : Int) = lv + i) (hkn : k < n) (hn : n ≤ 32) (hev : n % 2 = 0) (_ : 0 ≤ lv) (_ : lv ≤ 16) (_ : 0 ≤ i) (_ : i ≤ 16) (hgp : g ≠ p) :
    Calls Yba.prog 23 #[.pointer (some ⟨p, o, none⟩), .int .i64 i, .int .i64 v] w fun e w' => e = .returned (.tuple #[]) ∧ RowIs w' g 2 (ints (setTree zs k v)) ∧ w.grownBy w' (some g) := by
  have HR : Hid (RowIs w g 2 (ints zs)) := hr
  have ck := ints_cell hr (i := k) (by omega)
  have fk : w.frozen? ⟨g, k, none⟩ = false := hr.frozen k
  have HZ : Hid (zs.length = n) := hz
  have HK : Hid ((k : Int) = lv + i) := hk
  have hk' : lv + i = (k : Int) := hk.symm
  clear hr hz hk
  go_enter Yba.func23, Yba.ntmps23
  go_wp2
  go_loopw [6] (fun t wr => ∃ (j : Nat) (ys : List Int), t = .int .i64 j ∧ j < n ∧ ys.length = n ∧ RowIs wr g 2 (ints ys) ∧ Hid (climb j j ys = setTree zs k v) ∧ w.grownBy wr (some g)) (fun t _ => (intOf t).toNat)
  case atStart => exact ⟨k, zs.set k v, rfl, hkn, by simp [HZ.out], by rw [← ints_set]; exact HR.out.set k _, rfl, grownBy_setCell _ _ _ _⟩
  case round =>
    obtain ⟨j, ys, rfl, hj, hy, hrow, HC, hgr⟩ := hrel
    have d0 : wr.cell? ⟨p, o, none⟩ = some (.slice (some ⟨g, 0, none⟩) n n) := hgr.cell c0 (by simpa using Ne.symm hgp)
    by_cases hlt : 1 < j
    · have e1 := ints_cell hrow (i := 2 * (j / 2)) (by omega)
      have e2 := ints_cell hrow (i := 2 * (j / 2) + 1) (by omega)
      have e3 := ints_cell hrow (i := j / 2) (by omega)
      have f3 : wr.frozen? ⟨g, j / 2, none⟩ = false := hrow.frozen _
      have b1 : 2 * ((j : Int) / 2) < n := by omega
      have b2 : 2 * ((j : Int) / 2) + 1 < n := by omega
      have b3 : (j : Int) / 2 < n := by omega
      have HROW : Hid (RowIs wr g 2 (ints ys)) := hrow
      have HG : Hid (w.grownBy wr (some g)) := hgr
      have HY : Hid (ys.length = n) := hy
      clear hrow hgr hy
      go_wp2
      go_region
      go_wp2
      go_roundw
      case rel =>
        refine ⟨j / 2, ys.set (j / 2) (max (ys.getD (2 * (j / 2)) 0) (ys.getD (2 * (j / 2) + 1) 0)), by go_num, by omega, by simp [HY.out], ?_, by rw [← climb_step j ys hlt]; exact HC, ?_⟩
        · have e : ∀ a b : Int, (if a < b then b else a) = max a b := fun a b => by rw [Int.max_def]; split <;> split <;> omega
          rw [← ints_set, ← e]
          exact HROW.out.set _ _
        · exact grownBy_drew (grownBy_trans HG.out (grownBy_setCell _ _ _ _))
      case measure => simp [intOf]; omega
    · have HROW : Hid (RowIs wr g 2 (ints ys)) := hrow
      have HG : Hid (w.grownBy wr (some g)) := hgr
      clear hrow hgr hy
      go_wp2
      go_end0
      exact ⟨rfl, by rw [← HC.out, climb_one j ys (by omega)]; exact HROW.out, HG.out⟩

end Go.Proofs.Ybulkafoa
