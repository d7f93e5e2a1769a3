/-
  offset's before, maxOffset, plus BY THEIR CONTRACTS.
-/
import Derived.Test.YbulkafoaModel
import Derived.Laws.Externs
import Derived.Laws.Rows
namespace Go.Proofs.Ybulkafoa
open Go.RowKit

theorem add0 (b i : Nat) (j : Nat) : (⟨b, i, none⟩ : Addr).add j = ⟨b, i + j, none⟩ := by unfold Addr.add; split <;> simp_all
theorem load51 {w : World} {b o : Nat} {u v : Value} (c0 : w.cell? ⟨b, o, none⟩ = some u) (c1 : w.cell? ⟨b, o + 1, none⟩ = some v) : (loadVar 51 ⟨b, o, none⟩).run Yba.prog w = .ok (.agg #[u, v]) w := by
  go_simp

theorem results_cell1 {P : Program} {fn : Func} {t : Tmp} {ty : TypeId} (h : fn.results = #[.cell t ty]) {tmps : Array Value} {w : World} {a : Addr} {v : Value} (ht : tmps.getD t undef = .pointer (some a)) (hl : (loadVar ty a).run P w = .ok v w) :
    (results fn tmps).run P w = .ok v w := by
  have ht' : tmps[t]?.getD undef = .pointer (some a) := by simpa using ht
  simp [results, h, ht', asAddr, hl]
theorem results_cell2 {P : Program} {fn : Func} {t u : Tmp} {ty : TypeId} (h : fn.results = #[.cell t ty, .tmp u]) {tmps : Array Value} {w : World} {a : Addr} {v : Value} (ht : tmps.getD t undef = .pointer (some a)) (hl : (loadVar ty a).run P w = .ok v w) :
    (results fn tmps).run P w = .ok (.tuple #[v, tmps.getD u undef]) w := by
  have ht' : tmps[t]?.getD undef = .pointer (some a) := by simpa using ht
  simp [results, h, ht', asAddr, hl]

theorem grownBy_alloc {a b : World} {r : Option Nat} (h : a.grownBy b r) (o : Obj) : a.grownBy (b.alloc o) r :=
  ⟨h.os, h.tape, h.output, by have := h.size; simp; omega, fun k hk hr => (Below.heap_alloc _ _ _ (Nat.lt_of_lt_of_le hk h.size)).trans (h.block k hk hr)⟩

set_option maxHeartbeats 400000 in
theorem before_any (a b : Int) (w : World) :
    Calls Yba.prog 21 #[.agg #[.int .u64 0, .int .u64 a], .agg #[.int .u64 0, .int .u64 b]] w fun e w' => e = .returned (.bool (decide (a < b))) ∧ w.grownBy w' none := by
  go_enter Yba.func21, Yba.ntmps21
  go_wp2
  go_ret
  exact ⟨rfl, grownBy_alloc (grownBy_alloc (grownBy_refl _ _) _) _⟩

set_option maxHeartbeats 400000 in
theorem max_any (a b : Int) (w : World) :
    Calls Yba.prog 19 #[.agg #[.int .u64 0, .int .u64 a], .agg #[.int .u64 0, .int .u64 b]] w fun e w' => e = .returned (.agg #[.int .u64 0, .int .u64 (max a b)]) ∧ w.grownBy w' none := by
  by_cases hab : a < b
  · rw [show max a b = b from by omega]
    go_enter Yba.func19, Yba.ntmps19
    go_wp2
    refine bodyPost_ret (results_cell1 rfl rfl (load51 (u := .int .u64 0) (v := .int .u64 b) ?_ ?_)) rfl ?_
    · go_simp
    · go_simp
    · exact ⟨rfl, grownBy_alloc (grownBy_alloc (grownBy_alloc (grownBy_alloc (grownBy_alloc (grownBy_refl _ _) _) _) _) _) _⟩
  · rw [show max a b = a from by omega]
    go_enter Yba.func19, Yba.ntmps19
    go_wp2
    refine bodyPost_ret (results_cell1 rfl rfl (load51 (u := .int .u64 0) (v := .int .u64 a) ?_ ?_)) rfl ?_
    · go_simp
    · go_simp
    · exact ⟨rfl, grownBy_alloc (grownBy_alloc (grownBy_alloc (grownBy_alloc (grownBy_alloc (grownBy_refl _ _) _) _) _) _) _⟩

theorem add_run (x y : Int) (hx : 0 ≤ x) (hy : 0 ≤ y) (hs : x + y < 18446744073709551616) (w : World) :
    (callFunc 26 #[.int .u64 x, .int .u64 y, .int .u64 0]).run Yba.prog w = .ok (.value (.tuple #[.int .u64 (x + y), .int .u64 0])) w := by
  rw [run_callFunc_extern Yba.func26 (by kernel_rfl) (by kernel_rfl) (by kernel_rfl) (e := add64Entry) (by kernel_rfl), run_add64 x y 0 hx hy (by omega) (by omega)]
  rw [show (x + y + 0) % 18446744073709551616 = x + y from by omega, show (x + y + 0) / 18446744073709551616 = 0 from by omega]
  rfl

set_option maxHeartbeats 400000 in
theorem plus_any (a d : Int) (w : World) (a0 : 0 ≤ a) (a1 : a ≤ 100000) (d0 : 1 ≤ d) (d1 : d ≤ 65536) :
    Calls Yba.prog 20 #[.agg #[.int .u64 0, .int .u64 a], .int .i64 d] w fun e w' => e = .returned (.agg #[.int .u64 0, .int .u64 (a + d)]) ∧ w.grownBy w' none := by
  have hadd := add_run a d a0 (by omega) (by omega)
  go_enter Yba.func20, Yba.ntmps20
  go_wp2
  refine bodyPost_ret (results_cell1 rfl rfl (load51 (u := .int .u64 0) (v := .int .u64 (a + d)) ?_ ?_)) rfl ?_
  · go_simp
  · go_simp
  · exact ⟨rfl, grownBy_alloc (grownBy_alloc (grownBy_refl _ _) _) _⟩

end Go.Proofs.Ybulkafoa
