/-
  THE WALKS OF THE CALLEES: zzs1570ceq, math.IsInf at sign 1, price.
-/
import Derived.Test.YbulkafmkRows
import Derived.Test.YbulkafmkFl
import Derived.WalkSpells
namespace Go.Proofs.Ybulkafmk
open Go.RowKit

set_option maxHeartbeats 400000 in
theorem eq_any (a b : Nat) (w : World) :
    Calls Yba.prog 7 #[.float .f64 a, .float .f64 b] w fun e w' => e = .returned (.bool (eqB a b)) ∧ w' = w := by
  unfold eqB
  cases h : (FloatKind.f64.format.order a a != some .eq) with
  | true =>
    go_enter Yba.func7, Yba.ntmps7
    go_wp2
    go_ret
    exact ⟨rfl, rfl⟩
  | false =>
    go_enter Yba.func7, Yba.ntmps7
    go_wp2
    go_ret
    exact ⟨rfl, rfl⟩

set_option maxHeartbeats 400000 in
theorem isInf_any (a : Nat) (w : World) :
    Calls Yba.prog 8 #[.float .f64 a, .int .i64 1] w fun e w' => e = .returned (.bool (FloatKind.f64.format.order a 9218868437227405311 == some .gt)) ∧ w' = w := by
  go_enter Yba.func8, Yba.ntmps8
  go_wp2
  go_ret
  exact ⟨rfl, rfl⟩

end Go.Proofs.Ybulkafmk
