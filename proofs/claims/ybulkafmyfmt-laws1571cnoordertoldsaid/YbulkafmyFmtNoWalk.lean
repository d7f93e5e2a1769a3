/-
  THE WALK OF LawS1571CNoOrder.
-/
import Derived.Test.YbulkafmyFmtRows
import Derived.WalkKit
import Derived.WalkSpells
import Derived.WalkLawsBesides
namespace Go.Proofs.YbulkafmyFmt
open Go.RowKit

set_option maxHeartbeats 400000 in
theorem no_any (nano : Bool) (maj snap link : Int) (w : World) :
    Calls Ybaf.prog 4 #[.bool nano, .int .u16 maj, .int .u32 snap, .int .u32 link] w fun e w' => e = .returned (.bool true) ∧ Grown w w' := by
  go_enter Ybaf.func4, Ybaf.ntmps4
  go_wp2
  go_ret
  exact ⟨rfl, by repeat (first | exact Grown.refl _ | apply Grown.drew | apply Grown.alloc)⟩

end Go.Proofs.YbulkafmyFmt
