/-
  machineLine BY ITS CONTRACTS, and zzs1573aeq.
-/
import Derived.Test.YbulkafoaRows
import Derived.WalkKit
import Derived.WalkSpells
namespace Go.Proofs.Ybulkafoa
open Go.RowKit

set_option maxHeartbeats 400000 in
theorem machine_p (b : Nat) (k v : ByteArray) (n : Int) (w : World) (hn : (n == 0) = false) (h7 : w.cell? ⟨b, 7, none⟩ = some (.string k)) (h8 : w.cell? ⟨b, 8, none⟩ = some (.string v)) (h9 : w.cell? ⟨b, 9, none⟩ = some (.int .i64 n)) :
    Calls Yba.prog 8 #[.pointer (some ⟨b, 0, none⟩)] w fun e w' => e = .returned (.agg #[.string k, .string v, .int .i64 n]) ∧ w' = w.alloc (.cells #[.string k, .string v, .int .i64 n] 23) := by
  have hb : b < w.heap.size := block_lt_of_cell h9
  go_enter Yba.func8, Yba.ntmps8
  go_wp2
  exact bodyPost_ret (v := .agg #[.string k, .string v, .int .i64 n]) (by simp [results, Yba.results8, go_sem]) rfl ⟨rfl, rfl⟩

set_option maxHeartbeats 400000 in
theorem machine_n (b : Nat) (k v : ByteArray) (n : Int) (w : World) (h9 : w.cell? ⟨b, 9, none⟩ = some (.int .i64 0)) (h10 : w.cell? ⟨b, 10, none⟩ = some (.string k)) (h11 : w.cell? ⟨b, 11, none⟩ = some (.string v)) (h12 : w.cell? ⟨b, 12, none⟩ = some (.int .i64 n)) :
    Calls Yba.prog 8 #[.pointer (some ⟨b, 0, none⟩)] w fun e w' => e = .returned (.agg #[.string k, .string v, .int .i64 n]) ∧ w' = w.alloc (.cells #[.string k, .string v, .int .i64 n] 23) := by
  have hb : b < w.heap.size := block_lt_of_cell h9
  go_enter Yba.func8, Yba.ntmps8
  go_wp2
  exact bodyPost_ret (v := .agg #[.string k, .string v, .int .i64 n]) (by simp [results, Yba.results8, go_sem]) rfl ⟨rfl, rfl⟩

set_option maxHeartbeats 400000 in
theorem eq_same (k v : ByteArray) (n : Int) (w : World) :
    Calls Yba.prog 9 #[.agg #[.string k, .string v, .int .i64 n], .agg #[.string k, .string v, .int .i64 n]] w fun e w' => e = .returned (.bool true) ∧ w' = (w.alloc (.cells #[.string k, .string v, .int .i64 n] 23)).alloc (.cells #[.string k, .string v, .int .i64 n] 23) := by
  go_enter Yba.func9, Yba.ntmps9
  go_wp2
  go_ret
  exact ⟨rfl, rfl⟩

end Go.Proofs.Ybulkafoa
