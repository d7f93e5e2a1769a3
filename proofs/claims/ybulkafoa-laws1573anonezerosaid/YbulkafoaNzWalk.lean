/-
  THE WALK OF LawS1573ANoneZero.
-/
import Derived.Test.YbulkafoaMachine
namespace Go.Proofs.Ybulkafoa
open Go.RowKit

set_option maxHeartbeats 400000 in
theorem nz_n (a1 : Int) (a2 a3 : ByteArray) (w : World) (t : Bool) (h1 : (a1 == 0) = t) :
    Calls Yba.prog 4 #[.int .i64 0, .int .i64 a1, .string a2, .string a3] w fun e w' => e = .returned (.bool true) ∧ Grown w w' := by
  go_enter Yba.func4, Yba.ntmps4
  go_wp2_with fail
  refine (machine_n w.heap.size ⟨#[77, 97, 120, 78, 111, 100, 101, 115]⟩ a3 a1 _ ?_ ?_ ?_ ?_).mono ?_
  case refine_1 => simp
  case refine_2 => simp
  case refine_3 => simp
  case refine_4 => simp
  rintro e w' ⟨rfl, rfl⟩
  cases t
  all_goals
    go_wp2
    go_ret
    exact ⟨rfl, by repeat (first | exact Grown.refl _ | apply Grown.drew | apply Grown.alloc)⟩

set_option maxHeartbeats 400000 in
theorem nz_p (a0 a1 : Int) (a2 a3 : ByteArray) (w : World) (h0 : (a0 == 0) = false) :
    Calls Yba.prog 4 #[.int .i64 a0, .int .i64 a1, .string a2, .string a3] w fun e w' => e = .returned (.bool true) ∧ Grown w w' := by
  go_enter Yba.func4, Yba.ntmps4
  go_wp2_with fail
  refine (machine_p w.heap.size ⟨#[77, 97, 120, 80, 114, 111, 99, 115]⟩ a2 a0 _ h0 ?_ ?_ ?_).mono ?_
  case refine_1 => simp
  case refine_2 => simp
  case refine_3 => simp
  rintro e w' ⟨rfl, rfl⟩
  go_wp2
  go_ret
  exact ⟨rfl, by repeat (first | exact Grown.refl _ | apply Grown.drew | apply Grown.alloc)⟩

end Go.Proofs.Ybulkafoa
