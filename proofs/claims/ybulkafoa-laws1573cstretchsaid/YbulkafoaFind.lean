/-
  (*profile).find BY ITS CONTRACT.
-/
import Derived.Test.YbulkafoaSearch
namespace Go.Proofs.Ybulkafoa
open Go.RowKit

theorem grownBy_any {a b : World} (h : a.grownBy b none) (r : Option Nat) : a.grownBy b r := ⟨h.os, h.tape, h.output, h.size, fun k hk _ => h.block k hk (by simp)⟩

theorem before_yes (a b : Int) (w : World) (h : a < b) : Calls Yba.prog 21 #[.agg #[.int .u64 0, .int .u64 a], .agg #[.int .u64 0, .int .u64 b]] w fun e w' => e = .returned (.bool true) ∧ w.grownBy w' none :=
  (before_any a b w).mono fun e w' ⟨he, hg⟩ => ⟨by rw [he]; simp [h], hg⟩
theorem before_no (a b : Int) (w : World) (h : ¬ a < b) : Calls Yba.prog 21 #[.agg #[.int .u64 0, .int .u64 a], .agg #[.int .u64 0, .int .u64 b]] w fun e w' => e = .returned (.bool false) ∧ w.grownBy w' none :=
  (before_any a b w).mono fun e w' ⟨he, hg⟩ => ⟨by rw [he, decide_eq_false h], hg⟩

/-- What find leaves. -/
def Finds (w : World) (p gl gk gb gs n : Nat) (A F : Nat → Int) (at' : Int) (e : Ending) (w' : World) : Prop := ∃ k : Nat, e = .returned (.int .i32 k) ∧ Found n A at' k ∧ Pf w' p gl gk gb gs n A F ∧ w.grownBy w' (some p)

set_option maxHeartbeats 2000000 in
theorem find_any (p gl gk gb gs n : Nat) (A F : Nat → Int) (at' : Int) (w : World) (h : Pf w p gl gk gb gs n A F) (hh : w.cell? ⟨p, 1800, none⟩ = some (.int .i32 0)) (ha : 0 ≤ at') :
    Calls Yba.prog 18 #[.pointer (some ⟨p, 0, none⟩), .agg #[.int .u64 0, .int .u64 at']] w (Finds w p gl gk gb gs n A F at') := by
  have hn := h.n1
  have hn2 := h.n2
  have HP : Hid (Pf w p gl gk gb gs n A F) := h
  have a0 := h.a0
  have l0 := cell_block h.head
  have G0 : Hid (w.grownBy (w.alloc (Obj.cells #[Value.int IntKind.u64 0, Value.int IntKind.u64 at'] 51)) none) := grownBy_alloc (grownBy_refl _ _) _
  have HP0 : Hid (Pf (w.alloc (Obj.cells #[Value.int IntKind.u64 0, Value.int IntKind.u64 at'] 51)) p gl gk gb gs n A F) := h.grown G0.out
  have B0 : (w.alloc (Obj.cells #[Value.int IntKind.u64 0, Value.int IntKind.u64 at'] 51)).cell? ⟨w.heap.size, 0, none⟩ = some (.int .u64 0) := by go_simp
  have B1 : (w.alloc (Obj.cells #[Value.int IntKind.u64 0, Value.int IntKind.u64 at'] 51)).cell? ⟨w.heap.size, 1, none⟩ = some (.int .u64 at') := by go_simp
  have B2 : (w.alloc (Obj.cells #[Value.int IntKind.u64 0, Value.int IntKind.u64 at'] 51)).cell? ⟨p, 1800, none⟩ = some (.int .i32 0) := G0.out.cell hh (by simp)
  clear h
  by_cases hz : at' = 0
  · subst hz
    go_enter Yba.func18, Yba.ntmps18
    go_wp2
    generalize (w.alloc (Obj.cells #[Value.int IntKind.u64 0, Value.int IntKind.u64 0] 51)) = w0 at G0 B0 B1 B2 HP0 ⊢
    go_region_held3 (fun w' => w'.cell? ⟨w.heap.size, 0, none⟩ = some (.int .u64 0) ∧ w'.cell? ⟨w.heap.size, 1, none⟩ = some (.int .u64 0)) (go_keep) (first
      | (go_at_call 24; refine (start_any p gl gk gb gs n A F w0.drew ?_).mono ?_; exact HP0.out.grown (grownBy_drew (grownBy_refl _ _)); rintro e w1 ⟨rfl, g1⟩; have q1 := g1.cell B0 (by simp); have q2 := g1.cell B1 (by simp); have hd := g1.cell HP0.out.head (by simp)))
    have HG1 : Hid (w.grownBy w1 none) := grownBy_trans G0.out ⟨g1.os, g1.tape, g1.output, g1.size, g1.block⟩
    clear g1
    go_wp2
    go_ret
    refine ⟨0, rfl, ⟨by omega, by omega, fun h1 => ?_⟩, HP.out.grown HG1.out, grownBy_any HG1.out _⟩
    have := HP.out.inc 0 1 (by omega) h1
    show 0 < A 1
    omega
  · go_enter Yba.func18, Yba.ntmps18
    go_wp2
    generalize (w.alloc (Obj.cells #[Value.int IntKind.u64 0, Value.int IntKind.u64 at'] 51)) = w0 at G0 B0 B1 B2 HP0 ⊢
    go_region_held3 (fun w' => w'.cell? ⟨w.heap.size, 0, none⟩ = some (.int .u64 0) ∧ w'.cell? ⟨w.heap.size, 1, none⟩ = some (.int .u64 at')) (go_keep) (first
      | (go_at_call 24; refine (start_any p gl gk gb gs n A F w0.drew ?_).mono ?_; exact HP0.out.grown (grownBy_drew (grownBy_refl _ _)); rintro e w1 ⟨rfl, g1⟩; have q1 := g1.cell B0 (by simp); have q2 := g1.cell B1 (by simp); have q3 := g1.cell B2 (by simp)))
    have HG1 : Hid (w.grownBy w1 none) := grownBy_trans G0.out ⟨g1.os, g1.tape, g1.output, g1.size, g1.block⟩
    have HP1 : Hid (Pf w1 p gl gk gb gs n A F) := HP.out.grown HG1.out
    have r1 := HP1.out.links
    have r2 := HP1.out.blockOf
    have r3 := HP1.out.bo
    have r4 := HP1.out.hi 0 (by omega)
    have r5 := HP1.out.lo 0 (by omega)
    rw [a0] at r5
    simp only [Nat.zero_mul, Nat.zero_add] at r4 r5
    have hd : decide (IntKind.i64.wrap 0 < (n : Int)) = true := by rw [show IntKind.i64.wrap 0 = 0 from by kernel_rfl]; simp; omega
    have hpos : (0 : Int) < (n : Int) := by omega
    have hpos2 : 0 < n := by omega
    clear g1 B0 B1 B2
    go_wp2
    go_region_held3 (fun w' => w'.cell? ⟨w.heap.size, 0, none⟩ = some (.int .u64 0) ∧ w'.cell? ⟨w.heap.size, 1, none⟩ = some (.int .u64 at') ∧ w'.cell? ⟨p, 0, none⟩ = some (.slice (some ⟨gl, 0, none⟩) n n) ∧ w'.cell? ⟨p, 1, none⟩ = some (.slice (some ⟨gk, 0, none⟩) n n) ∧ w'.cell? ⟨gk, 0, none⟩ = some (.int .i32 0) ∧ w'.cell? ⟨gl, 0, none⟩ = some (.int .u64 0) ∧ w'.cell? ⟨gl, 1, none⟩ = some (.int .u64 0)) (go_keep) (first
      | (go_at_call 21; refine (before_no at' 0 w1.drew (by omega)).mono ?_; rintro e w2 ⟨rfl, g2⟩; have s1 := g2.cell q1 (by simp); have s2 := g2.cell q2 (by simp); have s3 := g2.cell r1 (by simp); have s4 := g2.cell r2 (by simp); have s5 := g2.cell r3 (by simp); have s6 := g2.cell r4 (by simp); have s7 := g2.cell r5 (by simp)))
    have HG2 : Hid (w.grownBy w2 none) := grownBy_trans HG1.out ⟨g2.os, g2.tape, g2.output, g2.size, g2.block⟩
    clear g2 q1 q2 q3 r1 r2 r3 r4 r5 s3 s4 s5 s6 s7 hd
    go_wp2
    go_loopw [5, 52] (fun a c wr => ∃ k d : Nat, a = .int .i32 k ∧ c = .int .i64 d ∧ d ≤ 2 ∧ k < n ∧ A k ≤ at' ∧ w.grownBy wr none ∧ wr.cell? ⟨w.heap.size, 0, none⟩ = some (.int .u64 0) ∧ wr.cell? ⟨w.heap.size, 1, none⟩ = some (.int .u64 at')) (fun _ c _ => 2 - (intOf c).toNat)
    case atStart => exact ⟨0, 0, rfl, rfl, by omega, by omega, by omega, HG2.out, s1, s2⟩
    case round =>
      obtain ⟨k, d, rfl, rfl, hd2, hk, hA, hg, b0, b1⟩ := hrel
      have HG : Hid (w.grownBy wr none) := hg
      have HPr : Hid (Pf wr p gl gk gb gs n A F) := HP.out.grown hg
      have e2 := HPr.out.links
      clear hg s1 s2
      by_cases hdd : d < 2
      · by_cases hl : k + 1 < n
        · obtain ⟨k1, hk1⟩ : ∃ k1 : Nat, k1 = k + 1 := ⟨_, rfl⟩
          have e3 := HPr.out.next k hl
          have ek : ((k : Int) + 1) = ((k1 : Nat) : Int) := by omega
          rw [ek] at e3
          have hk1n : k1 < n := by omega
          have hk1z : (k1 : Int) < (n : Int) := by omega
          have hk1p : (0 : Int) ≤ (k1 : Int) := by omega
          have e4 := HPr.out.hi k1 hk1n
          have e5 := HPr.out.lo k1 hk1n
          have HK1 : Hid (k1 = k + 1) := hk1
          have hne : ((k1 : Int) == -1) = false := by simp
          have hne2 : decide ((k1 : Int) = -1) = false := by simp
          clear ek hk1
          by_cases hb : at' < A k1
          · go_wp2
            go_region_held3 (fun w' => w'.cell? ⟨w.heap.size, 0, none⟩ = some (.int .u64 0) ∧ w'.cell? ⟨w.heap.size, 1, none⟩ = some (.int .u64 at') ∧ w'.cell? ⟨p, 0, none⟩ = some (.slice (some ⟨gl, 0, none⟩) n n) ∧ w'.cell? ⟨gl, k1 * 5, none⟩ = some (.int .u64 0) ∧ w'.cell? ⟨gl, k1 * 5 + 1, none⟩ = some (.int .u64 (A k1))) (go_keep) (first
              | (go_at_call 21; refine (before_yes at' (A k1) wr.drew hb).mono ?_; rintro e w3 ⟨rfl, g1⟩; have q1 := g1.cell b0 (by simp); have q2 := g1.cell b1 (by simp); have q3 := g1.cell e2 (by simp); have q4 := g1.cell e4 (by simp); have q5 := g1.cell e5 (by simp)))
            have HG3 : Hid (w.grownBy w3 none) := grownBy_trans HG.out ⟨g1.os, g1.tape, g1.output, g1.size, g1.block⟩
            clear g1
            go_wp2
            go_ret
            refine ⟨k, rfl, ⟨hk, hA, fun _ => ?_⟩, HP.out.grown HG3.out, grownBy_any HG3.out _⟩
            rw [← HK1.out]; exact hb
          · go_wp2
            go_region_held3 (fun w' => w'.cell? ⟨w.heap.size, 0, none⟩ = some (.int .u64 0) ∧ w'.cell? ⟨w.heap.size, 1, none⟩ = some (.int .u64 at') ∧ w'.cell? ⟨p, 0, none⟩ = some (.slice (some ⟨gl, 0, none⟩) n n) ∧ w'.cell? ⟨gl, k1 * 5, none⟩ = some (.int .u64 0) ∧ w'.cell? ⟨gl, k1 * 5 + 1, none⟩ = some (.int .u64 (A k1))) (go_keep) (first
              | (go_at_call 21; refine (before_no at' (A k1) wr.drew (by omega)).mono ?_; rintro e w3 ⟨rfl, g1⟩; have q1 := g1.cell b0 (by simp); have q2 := g1.cell b1 (by simp); have q3 := g1.cell e2 (by simp); have q4 := g1.cell e4 (by simp); have q5 := g1.cell e5 (by simp)))
            have HG3 : Hid (w.grownBy w3 none) := grownBy_trans HG.out ⟨g1.os, g1.tape, g1.output, g1.size, g1.block⟩
            clear g1
            go_wp2
            go_roundw
            case rel => exact ⟨k1, d + 1, rfl, by go_num, by omega, hk1n, by omega, HG3.out, q1, q2⟩
            case measure => simp [intOf]; omega
        · have e3 := HPr.out.last k (by omega)
          go_wp2
          go_region
          go_wp2
          go_ret
          exact ⟨k, rfl, ⟨hk, hA, fun h => absurd h hl⟩, HP.out.grown (grownBy_drew HG.out), grownBy_any (grownBy_drew HG.out) _⟩
      · go_wp2_with (go_at_call 25; refine (search_any p gl gk gb gs n A F at' wr HPr.out ha).mono ?_; rintro e w4 ⟨⟨k', rfl, hf⟩, g4⟩; have HF4 : Hid (Found n A at' k') := hf; have HG4 : Hid (w.grownBy w4 none) := grownBy_trans HG.out g4; have z1 := g4.cell (HG.out.cell hh (by simp)) (by simp); have z2 := (HP.out.grown HG4.out).fz; clear hf g4)
        go_ret
        refine ⟨k', rfl, HF4.out, ?_, ?_⟩
        · exact (HP.out.grown HG4.out).cellwise (by rw [World.frozen?_setCell]; exact z2) (fun g o v hg e => (World.cell?_setCell_other w4 ⟨p, 1800, none⟩ ⟨g, o, none⟩ (.int .i32 k') (by intro h; simp at h; exact hg h.1.symm h.2.symm)).trans e)
        · exact grownBy_trans (grownBy_any HG4.out _) (grownBy_setCell _ _ _ _)

end Go.Proofs.Ybulkafoa
