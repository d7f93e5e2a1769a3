/-
  THE WALK OF LawS1573AChoice.
-/
import Derived.Test.YbulkafoaMachine
import Derived.Deep.RegionWith
namespace Go.Proofs.Ybulkafoa
open Go.RowKit

set_option maxHeartbeats 1000000 in
theorem ch_n (a0 a1 a3 a4 : ByteArray) (a5 : Int) (w : World) :
    Calls Yba.prog 3 #[.string a0, .string a1, .int .i64 0, .string a3, .string a4, .int .i64 a5] w fun e w' => e = .returned (.bool true) ∧ Grown w w' := by
  go_enter Yba.func3, Yba.ntmps3
  go_wp2_with fail
  refine (machine_n (w.heap.size + 1 + 1) a3 a4 a5 _ ?_ ?_ ?_ ?_).mono ?_
  case refine_1 => rw [World.cell?_alloc_at _ _ _ _ (by simp)]; rfl
  case refine_2 => rw [World.cell?_alloc_at _ _ _ _ (by simp)]; rfl
  case refine_3 => rw [World.cell?_alloc_at _ _ _ _ (by simp)]; rfl
  case refine_4 => rw [World.cell?_alloc_at _ _ _ _ (by simp)]; rfl
  rintro e w' ⟨rfl, rfl⟩
  go_wp2_with fail
  refine (eq_same a3 a4 a5 _).mono ?_
  rintro e w' ⟨rfl, rfl⟩
  go_wp2_with fail
  go_region_with (first | (go_at_call_of 9 (Value.string a0); refine (eq_same a0 a1 0 _).mono ?_; rintro e w' ⟨rfl, rfl⟩) | (go_at_call_of 9 (Value.string a3); refine (eq_same a3 a4 a5 _).mono ?_; rintro e w' ⟨rfl, rfl⟩))
  all_goals (try go_wp2)
  all_goals (go_ret; refine ⟨rfl, ?_⟩)
  all_goals exact (((((((((((((Grown.refl _).alloc _ _).alloc _ _).alloc _ _).alloc _ _).alloc _ _).alloc _ _).alloc _ _).alloc _ _).alloc _ _).alloc _ _).alloc _ _).alloc _ _).drew


set_option maxHeartbeats 1000000 in
theorem ch_p (a0 a1 a3 a4 : ByteArray) (a2 a5 : Int) (w : World) (h2 : (a2 == 0) = false) :
    Calls Yba.prog 3 #[.string a0, .string a1, .int .i64 a2, .string a3, .string a4, .int .i64 a5] w fun e w' => e = .returned (.bool true) ∧ Grown w w' := by
  go_enter Yba.func3, Yba.ntmps3
  go_wp2_with fail
  refine (machine_p (w.heap.size + 1 + 1) a0 a1 a2 _ h2 ?_ ?_ ?_).mono ?_
  case refine_1 => rw [World.cell?_alloc_at _ _ _ _ (by simp)]; rfl
  case refine_2 => rw [World.cell?_alloc_at _ _ _ _ (by simp)]; rfl
  case refine_3 => rw [World.cell?_alloc_at _ _ _ _ (by simp)]; rfl
  rintro e w' ⟨rfl, rfl⟩
  go_wp2_with fail
  refine (eq_same a0 a1 a2 _).mono ?_
  rintro e w' ⟨rfl, rfl⟩
  go_wp2_with fail
  go_region_with (first | (go_at_call_of 9 (Value.string a0); refine (eq_same a0 a1 a2 _).mono ?_; rintro e w' ⟨rfl, rfl⟩) | (go_at_call_of 9 (Value.string a3); refine (eq_same a3 a4 a5 _).mono ?_; rintro e w' ⟨rfl, rfl⟩))
  all_goals (try go_wp2)
  all_goals (go_ret; refine ⟨rfl, ?_⟩)
  all_goals exact (((((((((((((Grown.refl _).alloc _ _).alloc _ _).alloc _ _).alloc _ _).alloc _ _).alloc _ _).alloc _ _).alloc _ _).alloc _ _).alloc _ _).alloc _ _).alloc _ _).drew


end Go.Proofs.Ybulkafoa
