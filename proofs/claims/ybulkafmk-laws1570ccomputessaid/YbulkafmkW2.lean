/-
  THE WALK OF price.
-/
import Derived.Test.YbulkafmkW1
namespace Go.Proofs.Ybulkafmk
open Go.RowKit
attribute [local go_sem] run_store_float

set_option maxHeartbeats 1000000 in
theorem price_any (bs bw g len cap c0 c2 nl x : Nat) (am dl wt ni : Int) (w : World)
    (hs3 : w.cell? ⟨bs, 3, none⟩ = some (.int .u64 dl)) (hs4 : w.cell? ⟨bs, 4, none⟩ = some (.int .u64 wt)) (hs6 : w.cell? ⟨bs, 6, none⟩ = some (.slice (some ⟨g, 0, none⟩) len cap))
    (hw0 : w.cell? ⟨bw, 0, none⟩ = some (.int .i64 ni)) (hw1 : w.cell? ⟨bw, 1, none⟩ = some (.float .f64 c0)) (hw2 : w.cell? ⟨bw, 2, none⟩ = some (.float .f64 c2)) (hw3 : w.cell? ⟨bw, 3, none⟩ = some (.int .u64 am)) (hw6 : w.cell? ⟨bw, 6, none⟩ = some (.float .f64 nl))
    (fr1 : w.frozen? ⟨bw, 1, none⟩ = false) (fr2 : w.frozen? ⟨bw, 2, none⟩ = false) (hn0 : 0 ≤ ni) (hn : ni < (len : Int)) (hx : w.cell? ⟨g, ni.toNat, none⟩ = some (.float .f64 x))
    (_hsw : bs ≠ bw) (hgw : g ≠ bw) :
    Calls Yba.prog 6 #[.pointer (some ⟨bs, 0, none⟩), .pointer (some ⟨bw, 0, none⟩)] w fun e w' => ∃ (w1 w2 w3 : World) (c b : Nat), c = fBits .add (floatOfInt .f64 (IntKind.u64.wrap (am - dl))) (fBits .mul (floatOfInt .f64 wt) nl w1) w2 ∧ b = fBits .add c x w3 ∧
      e = .returned (.bool (!(FloatKind.f64.format.order b 9218868437227405311 == some .gt))) ∧ w'.Alike ((w.setCell ⟨bw, 1, none⟩ (.float .f64 c)).setCell ⟨bw, 2, none⟩ (.float .f64 b)) ∧ w'.tape = w.tape := by
  have hadd := fun (a b : Nat) (w : World) => run_f (P := Yba.prog) .add (.inl rfl) 23 a b w
  have hmul := fun (a b : Nat) (w : World) => run_f (P := Yba.prog) .mul (.inr rfl) 23 a b w
  go_enter Yba.func6, Yba.ntmps6
  go_wp2
  go_region
  all_goals go_wp2
  all_goals go_region
  all_goals go_wp2
  go_ret
  exact ⟨_, _, _, _, _, rfl, rfl, rfl, ⟨rfl, rfl, rfl⟩, rfl⟩

end Go.Proofs.Ybulkafmk
