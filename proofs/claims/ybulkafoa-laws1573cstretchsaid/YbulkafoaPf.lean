/-
  The profile of one block; start BY ITS CONTRACT.
-/
import Derived.Test.YbulkafoaOff
import Derived.Deep.RegionHeld3
namespace Go.Proofs.Ybulkafoa
open Go.RowKit

/-- What the walks read of the profile. -/
structure Pf (w : World) (p gl gk gb gs n : Nat) (A F : Nat → Int) : Prop where
  links : w.cell? ⟨p, 0, none⟩ = some (.slice (some ⟨gl, 0, none⟩) n n)
  blockOf : w.cell? ⟨p, 1, none⟩ = some (.slice (some ⟨gk, 0, none⟩) n n)
  head : w.cell? ⟨p, 1799, none⟩ = some (.int .i32 0)
  blocks : w.cell? ⟨p, 1803, none⟩ = some (.slice (some ⟨gb, 0, none⟩) 1 1)
  seq : w.cell? ⟨p, 1805, none⟩ = some (.slice (some ⟨gs, 0, none⟩) 1 1)
  hi : ∀ i, i < n → w.cell? ⟨gl, i * 5, none⟩ = some (.int .u64 0)
  lo : ∀ i, i < n → w.cell? ⟨gl, i * 5 + 1, none⟩ = some (.int .u64 (A i))
  free : ∀ i, i < n → w.cell? ⟨gl, i * 5 + 2, none⟩ = some (.int .i64 (F i))
  next : ∀ i, i + 1 < n → w.cell? ⟨gl, i * 5 + 4, none⟩ = some (.int .i32 ((i : Int) + 1))
  last : ∀ i, i + 1 = n → w.cell? ⟨gl, i * 5 + 4, none⟩ = some (.int .i32 (-1))
  bo : w.cell? ⟨gk, 0, none⟩ = some (.int .i32 0)
  b0 : w.cell? ⟨gb, 0, none⟩ = some (.int .i32 0)
  b1 : w.cell? ⟨gb, 1, none⟩ = some (.int .i32 ((n : Int) - 1))
  s0 : w.cell? ⟨gs, 0, none⟩ = some (.int .i32 0)
  fz : w.frozen? ⟨p, 1800, none⟩ = false
  inc : Inc n A
  a0 : A 0 = 0
  top : ∀ i, i < n → A i ≤ 100000
  n1 : 1 ≤ n
  n2 : n ≤ 300
  ne : gl ≠ p ∧ gk ≠ p ∧ gb ≠ p ∧ gs ≠ p

theorem Pf.cellwise {w w' : World} {p gl gk gb gs n : Nat} {A F : Nat → Int} (h : Pf w p gl gk gb gs n A F) (hf : w'.frozen? ⟨p, 1800, none⟩ = false) (hc : ∀ g o v, (g = p → o ≠ 1800) → w.cell? ⟨g, o, none⟩ = some v → w'.cell? ⟨g, o, none⟩ = some v) : Pf w' p gl gk gb gs n A F := by
  obtain ⟨n1, n2, n3, n4⟩ := h.ne
  exact ⟨hc _ _ _ (by simp) h.links, hc _ _ _ (by simp) h.blockOf, hc _ _ _ (by simp) h.head, hc _ _ _ (by simp) h.blocks, hc _ _ _ (by simp) h.seq,
    fun i hi => hc _ _ _ (fun e => absurd e n1) (h.hi i hi), fun i hi => hc _ _ _ (fun e => absurd e n1) (h.lo i hi), fun i hi => hc _ _ _ (fun e => absurd e n1) (h.free i hi), fun i hi => hc _ _ _ (fun e => absurd e n1) (h.next i hi), fun i hi => hc _ _ _ (fun e => absurd e n1) (h.last i hi),
    hc _ _ _ (fun e => absurd e n2) h.bo, hc _ _ _ (fun e => absurd e n3) h.b0, hc _ _ _ (fun e => absurd e n3) h.b1, hc _ _ _ (fun e => absurd e n4) h.s0, hf, h.inc, h.a0, h.top, h.n1, h.n2, h.ne⟩

theorem cell_block {w : World} {g o : Nat} {v : Value} (h : w.cell? ⟨g, o, none⟩ = some v) : g < w.heap.size := by
  apply Classical.byContradiction
  intro hn
  have : w.heap[g]? = none := by simp; omega
  simp [World.cell?, this] at h

theorem Pf.grown {w w' : World} {p gl gk gb gs n : Nat} {A F : Nat → Int} (h : Pf w p gl gk gb gs n A F) (k : w.grownBy w' none) : Pf w' p gl gk gb gs n A F :=
  h.cellwise ((World.frozen?_of_block (w := w) (k.block p (cell_block h.head) (by simp))).trans h.fz) (fun _ _ _ _ e => k.cell e (by simp))

set_option maxHeartbeats 1000000 in
theorem start_any (p gl gk gb gs n : Nat) (A F : Nat → Int) (w : World) (h : Pf w p gl gk gb gs n A F) :
    Calls Yba.prog 24 #[.pointer (some ⟨p, 0, none⟩)] w fun e w' => e = .returned (.agg #[.int .u64 0, .int .u64 0]) ∧ w.grownBy w' none := by
  have c0 := h.links
  have c1 := h.head
  have c2 := h.hi 0 (by have := h.n1; omega)
  have c3 := h.lo 0 (by have := h.n1; omega)
  rw [h.a0] at c3
  have hn := h.n1
  have hn2 := h.n2
  simp only [Nat.zero_mul, Nat.zero_add] at c2 c3
  have l0 := cell_block c0
  have l2 := cell_block c2
  clear h
  go_enter Yba.func24, Yba.ntmps24
  go_wp2
  go_region
  go_wp2
  refine bodyPost_ret (results_cell1 rfl rfl (load51 (u := .int .u64 0) (v := .int .u64 0) ?_ ?_)) rfl ?_
  · go_simp
  · go_simp
  · exact ⟨rfl, grownBy_drew (grownBy_alloc (grownBy_refl _ _) _)⟩

end Go.Proofs.Ybulkafoa
