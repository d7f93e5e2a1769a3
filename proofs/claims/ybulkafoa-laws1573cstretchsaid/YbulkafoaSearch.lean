/-
  (*profile).search BY ITS CONTRACT.
-/
import Derived.Test.YbulkafoaPf
namespace Go.Proofs.Ybulkafoa
open Go.RowKit

/-- Step k is the one in which at falls. -/
def Found (n : Nat) (A : Nat → Int) (at' : Int) (k : Nat) : Prop := k < n ∧ A k ≤ at' ∧ (k + 1 < n → at' < A (k + 1))

set_option maxHeartbeats 1000000 in
theorem search_any (p gl gk gb gs n : Nat) (A F : Nat → Int) (at' : Int) (w : World) (h : Pf w p gl gk gb gs n A F) (ha : 0 ≤ at') :
    Calls Yba.prog 25 #[.pointer (some ⟨p, 0, none⟩), .agg #[.int .u64 0, .int .u64 at']] w fun e w' => (∃ k : Nat, e = .returned (.int .i32 k) ∧ Found n A at' k) ∧ w.grownBy w' none := by
  have hn := h.n1
  have hn2 := h.n2
  have HP : Hid (Pf w p gl gk gb gs n A F) := h
  have a0 := h.a0
  have c1 := h.seq
  have c2 := h.blocks
  have c3 := h.s0
  have c4 := h.b0
  have l0 := cell_block c1
  have l1 := cell_block c3
  have l2 := cell_block c4
  clear h
  go_enter Yba.func25, Yba.ntmps25
  go_wp2
  go_region
  go_wp2
  go_region
  go_wp2
  have G0 : Hid (w.grownBy (w.alloc (Obj.cells #[Value.int IntKind.u64 0, Value.int IntKind.u64 at'] 51)).drew.drew none) := grownBy_drew (grownBy_drew (grownBy_alloc (grownBy_refl _ _) _))
  have B0 : (w.alloc (Obj.cells #[Value.int IntKind.u64 0, Value.int IntKind.u64 at'] 51)).drew.drew.cell? ⟨w.heap.size, 0, none⟩ = some (.int .u64 0) := by go_simp
  have B1 : (w.alloc (Obj.cells #[Value.int IntKind.u64 0, Value.int IntKind.u64 at'] 51)).drew.drew.cell? ⟨w.heap.size, 1, none⟩ = some (.int .u64 at') := by go_simp
  generalize (w.alloc (Obj.cells #[Value.int IntKind.u64 0, Value.int IntKind.u64 at'] 51)).drew.drew = w0 at G0 B0 B1 ⊢
  go_loopw [5, 6] (fun a b wr => a = .int .i64 1 ∧ b = .int .i64 1 ∧ w0 = wr) (fun _ _ _ => 0)
  case atStart => exact ⟨rfl, rfl, rfl⟩
  case round =>
    obtain ⟨rfl, rfl, rfl⟩ := hrel
    have HP0 : Hid (Pf w0 p gl gk gb gs n A F) := HP.out.grown G0.out
    have d1 := HP0.out.seq
    have d2 := HP0.out.blocks
    have d3 := HP0.out.s0
    have d4 := HP0.out.b0
    clear c1 c2 c3 c4
    go_wp2
    go_region
    go_wp2
    go_loopw [9] (fun a wr => ∃ k : Nat, a = .int .i32 k ∧ k < n ∧ A k ≤ at' ∧ w.grownBy wr none ∧ wr.cell? ⟨w.heap.size, 0, none⟩ = some (.int .u64 0) ∧ wr.cell? ⟨w.heap.size, 1, none⟩ = some (.int .u64 at')) (fun a _ => n - (intOf a).toNat)
    case atStart => exact ⟨0, rfl, by omega, by omega, grownBy_drew G0.out, B0, B1⟩
    case round =>
      obtain ⟨k, rfl, hk, hA, hg, b0, b1⟩ := hrel
      have HG : Hid (w.grownBy wr none) := hg
      have HPr : Hid (Pf wr p gl gk gb gs n A F) := HP.out.grown hg
      have e1 := HPr.out.b1
      have e2 := HPr.out.links
      clear hg B0 B1 d1 d2 d3 d4
      by_cases hl : k + 1 < n
      · obtain ⟨k1, hk1⟩ : ∃ k1 : Nat, k1 = k + 1 := ⟨_, rfl⟩
        have e3 := HPr.out.next k hl
        have ek : ((k : Int) + 1) = ((k1 : Nat) : Int) := by omega
        rw [ek] at e3
        have hk1n : k1 < n := by omega
        have e4 := HPr.out.hi k1 hk1n
        have e5 := HPr.out.lo k1 hk1n
        have HK1 : Hid (k1 = k + 1) := hk1
        have hlast : ((k : Int) = (n : Int) - 1) = False := by simp; omega
        clear ek hk1
        go_wp2
        go_region_held3 (fun w' => w'.cell? ⟨w.heap.size, 0, none⟩ = some (.int .u64 0) ∧ w'.cell? ⟨w.heap.size, 1, none⟩ = some (.int .u64 at') ∧ w'.cell? ⟨p, 0, none⟩ = some (.slice (some ⟨gl, 0, none⟩) n n) ∧ w'.cell? ⟨gl, k1 * 5, none⟩ = some (.int .u64 0) ∧ w'.cell? ⟨gl, k1 * 5 + 1, none⟩ = some (.int .u64 (A k1))) (go_keep) (first
          | (go_at_call 21; refine (before_any at' (A k1) wr.drew).mono ?_; rintro e w1 ⟨rfl, g1⟩; have q1 := g1.cell b0 (by simp); have q2 := g1.cell b1 (by simp); have q3 := g1.cell e2 (by simp); have q4 := g1.cell e4 (by simp); have q5 := g1.cell e5 (by simp)))
        have HG1 : Hid (w.grownBy w1 none) := grownBy_trans HG.out ⟨g1.os, g1.tape, g1.output, g1.size, g1.block⟩
        clear g1
        by_cases hb : at' < A k1
        · go_wp2
          go_ret
          refine ⟨⟨k, rfl, hk, hA, fun _ => ?_⟩, HG1.out⟩
          rw [← HK1.out]; exact hb
        · go_wp2
          go_roundw
          case rel => exact ⟨k1, rfl, hk1n, by omega, HG1.out, q1, q2⟩
          case measure => have := HK1.out; simp [intOf]; omega
      · have hlast : (k : Int) = (n : Int) - 1 := by omega
        go_wp2
        go_ret
        exact ⟨⟨k, rfl, hk, hA, fun h => absurd h hl⟩, HG.out⟩

end Go.Proofs.Ybulkafoa
