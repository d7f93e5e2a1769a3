/-
  LawS1573BPlacedSync: the walk, the long way.
-/
import Derived.Test.YbulkafoaPs
namespace Go.Proofs.Ybulkafoa
open Go.RowKit Go.Deep

theorem wrap_same (x : Int) : IntKind.i64.wrap (-x) = wrap64 (-x) := by simp only [IntKind.wrap_i64, wrap64]

theorem check_set (ga gb cap l q : Nat) (v : Int) (B : List Int) (w : World) (ha : RowIs w ga 2 (ints (setTree B (l + q) v))) (hB : B.length = 2 * l) (hc : ∀ i, i < 2 * l → w.cell? ⟨gb, i, none⟩ = some (.int .i64 (B.getD i 0))) (hgb : gb < w.heap.size) (hl : 1 ≤ l) (hl2 : l ≤ 16) (hq : q < l) :
    Calls Yba.prog 13 #[.slice (some ⟨ga, 0, none⟩) (2 * l) (2 * l), .slice (some ⟨gb, 0, none⟩) (2 * l) cap, .int .i64 l, .int .i64 ((l : Int) + (q : Int)), .int .i64 v] w fun e w' => e = .returned (.bool true) ∧ Below w.heap.size w w' := by
  obtain ⟨t1, t2, t3, t4⟩ := tree_law B (2 * l) l (l + q) v hB rfl (by omega) (by omega)
  have h := check_any ga gb (2 * l) cap l (l + q) v (setTree B (l + q) v) B _ w ha (by rw [setTree_length, hB]) hc hgb rfl hl2 hl (by omega) t1 rfl t2 t3 t4
  rw [Int.natCast_add] at h
  exact h

set_option maxHeartbeats 2000000 in
theorem law_main (e s : Int) (ai : Option Addr) (ni ci bb ob m cb : Nat) (mn mx pl : Nat → Int) (w : World) (he0 : 0 ≤ e) (he1 : e ≤ 255) (hs0 : 0 ≤ s) (hs1 : s ≤ 255) (hni : ni ≤ 1024) (hm1 : 1 ≤ m) (hm2 : m ≤ 1024)
    (hi : ∀ i, i < ni → ∃ y z, ai = some y ∧ w.cell? (y.add i) = some (.int .i64 z)) (hb : ∀ j, j < m → w.cell? ⟨bb, ob + j * 3, none⟩ = some (.int .i64 (mn j)) ∧ w.cell? ⟨bb, ob + j * 3 + 1, none⟩ = some (.int .i64 (mx j)) ∧ w.cell? ⟨bb, ob + j * 3 + 2, none⟩ = some (.int .u8 (pl j)))
    (hp : ∀ j, j < m → 0 ≤ pl j ∧ pl j ≤ 255) :
    Calls Yba.prog 5 #[.int .u8 e, .slice ai ni ci, .slice (some ⟨bb, ob, none⟩) m cb, .int .u8 s] w fun e w' => e = .returned (.bool true) ∧ Below w.heap.size w w' := by
  obtain ⟨b, hsb, hbm⟩ := rem_nat s m hm1
  have HBUILD : Hid (Calls Yba.prog 10 #[.int .u8 e, .slice ai ni ci, .slice (some ⟨bb, ob, none⟩) m cb, .bool true] w (Built w m mn mx pl)) := build_any e ai ni ci bb ob m cb mn mx pl w he0 he1 hni hm1 hm2 hi hb hp
  have HBB : Hid (w.cell? ⟨bb, ob + b * 3, none⟩ = some (.int .i64 (mn b)) ∧ w.cell? ⟨bb, ob + b * 3 + 1, none⟩ = some (.int .i64 (mx b))) := ⟨(hb b hbm).1, (hb b hbm).2.1⟩
  clear hi hb hp
  go_enter Yba.func5, Yba.ntmps5
  go_wp2_with (first
    | (go_at_call 10; refine HBUILD.out.mono ?_; rintro ex w1 ⟨l, ts, ls, rfl, hl1, hl2, hts, hls, hrt, hrl, hprof, hcells, hbel, hsz⟩
       obtain ⟨q, hq, hql⟩ := rem_nat (pl b) l hl1
       have L1 : Hid (Live w w1 m b bb ob l (mn b) (mx b) q) := ⟨hprof, (hcells b hbm).1, (hcells b hbm).2.1, hq ▸ (hcells b hbm).2.2, (hbel.cell (cell_lt HBB.out.1)).trans HBB.out.1, (hbel.cell (cell_lt HBB.out.2)).trans HBB.out.2, hbel, by omega, cell_lt HBB.out.1⟩
       have RT1 : Hid (RowIs w1 w.heap.size 2 (ints ts)) := hrt
       have RL1 : Hid (RowIs w1 (w.heap.size + 1) 2 (ints ls)) := hrl
       have p1 := L1.out.prof.tops
       have tok1 : Hid True := trivial
       clear hprof hcells hbel hrt hrl hq)
    | (go_at_call 11; have tok1' := tok1; clear tok1'; refine (clone_any w.heap.size (2 * l) ts w1 hts (by omega) RT1.out).mono ?_; rintro ex w2 ⟨v2, rfl, own2, nn2, bel2⟩
       obtain ⟨g2, cap2, rfl, hg2, hg2', hcl2⟩ := clone_at own2 nn2
       have L2 : Hid (Live w w2 m b bb ob l (mn b) (mx b) q) := L1.out.below bel2
       have RT2 : Hid (RowIs w2 w.heap.size 2 (ints ts)) := RT1.out.below bel2 RT1.out.lt
       have RL2 : Hid (RowIs w2 (w.heap.size + 1) 2 (ints ls)) := RL1.out.below bel2 RL1.out.lt
       have CL2 : Hid (∀ i, i < 2 * l → w2.cell? ⟨g2, i, none⟩ = some (.int .i64 (ts.getD i 0))) := hcl2
       have p2 := L2.out.prof.lows
       clear own2 nn2 bel2 hcl2 tok1)
    | (go_at_call 11; refine (clone_any (w.heap.size + 1) (2 * l) ls w2 hls (by omega) RL2.out).mono ?_; rintro ex w3 ⟨v3, rfl, own3, nn3, bel3⟩
       obtain ⟨g3, cap3, rfl, hg3, hg3', hcl3⟩ := clone_at own3 nn3
       have L3 : Hid (Live w w3 m b bb ob l (mn b) (mx b) q) := L2.out.below bel3
       have RT3 : Hid (RowIs w3 w.heap.size 2 (ints ts)) := RT2.out.below bel3 RT2.out.lt
       have RL3 : Hid (RowIs w3 (w.heap.size + 1) 2 (ints ls)) := RL2.out.below bel3 RL2.out.lt
       have CL3 : Hid (∀ i, i < 2 * l → w3.cell? ⟨g3, i, none⟩ = some (.int .i64 (ls.getD i 0))) := hcl3
       have CL2' : Hid (∀ i, i < 2 * l → w3.cell? ⟨g2, i, none⟩ = some (.int .i64 (ts.getD i 0))) := fun i hi => (bel3.cell (p := ⟨g2, i, none⟩) hg2').trans (CL2.out i hi)
       clear own3 nn3 bel3 hcl3)
    | (go_at_call 12; refine (sync_any (w.heap.size + 3) w.heap.size (w.heap.size + 1) (w.heap.size + 2) m (2 * l) b (l + q) l q (mn b) (mx b) ts ls w3 L3.out.prof hbm L3.out.c3 L3.out.c4 L3.out.c7 RT3.out RL3.out hts hls (by omega) (by omega) (by omega) (by omega) (by omega) (by omega) (by omega) (by omega) (by omega) (by omega) (by omega) (by omega) (by omega)).mono ?_; rintro ex w4 ⟨rfl, hrt4, hrl4, wm, gr1, gr2⟩
       have L4 : Hid (Live w w4 m b bb ob l (mn b) (mx b) q) := (L3.out.grown gr1 (.inl rfl)).grown gr2 (.inr rfl)
       have RT4 : Hid (RowIs w4 w.heap.size 2 (ints (setTree ts (l + q) (mx b)))) := hrt4
       have RL4 : Hid (RowIs w4 (w.heap.size + 1) 2 (ints (setTree ls (l + q) (IntKind.i64.wrap (-(mn b)))))) := hrl4
       have hs1' := L1.out.size
       have hs2' := L2.out.size
       have CL24 : Hid (∀ i, i < 2 * l → w4.cell? ⟨g2, i, none⟩ = some (.int .i64 (ts.getD i 0))) := fun i hi => gr2.cell (gr1.cell (CL2'.out i hi) (by simp; omega)) (by simp; omega)
       have CL34 : Hid (∀ i, i < 2 * l → w4.cell? ⟨g3, i, none⟩ = some (.int .i64 (ls.getD i 0))) := fun i hi => gr2.cell (gr1.cell (CL3.out i hi) (by simp; omega)) (by simp; omega)
       have hg24 : g2 < w4.heap.size := cell_lt (CL24.out 0 (by omega))
       have hg34 : g3 < w4.heap.size := cell_lt (CL34.out 0 (by omega))
       have o1 := L4.out.prof.blocks
       have o2 := L4.out.c7
       have o3 := L4.out.d0
       have o4 := L4.out.d1
       have o5 := L4.out.prof.tops
       have tok4 : Hid True := trivial
       clear hrt4 hrl4 gr1 gr2)
    | (go_at_call 13; have tok4' := tok4; clear tok4'; refine (check_set w.heap.size g2 cap2 l q (mx b) ts w4 RT4.out hts CL24.out hg24 hl1 hl2 hql).mono ?_; rintro ex w5 ⟨rfl, bel5⟩
       have L5 : Hid (Live w w5 m b bb ob l (mn b) (mx b) q) := L4.out.below bel5
       have RL5 : Hid (RowIs w5 (w.heap.size + 1) 2 (ints (setTree ls (l + q) (wrap64 (-(mn b)))))) := wrap_same (mn b) ▸ RL4.out.below bel5 RL4.out.lt
       have CL35 : Hid (∀ i, i < 2 * l → w5.cell? ⟨g3, i, none⟩ = some (.int .i64 (ls.getD i 0))) := fun i hi => (bel5.cell (p := ⟨g3, i, none⟩) hg34).trans (CL34.out i hi)
       have hg35 : g3 < w5.heap.size := cell_lt (CL35.out 0 (by omega))
       have o6 := L5.out.prof.lows
       clear bel5 tok4)
    | (go_at_call 13; refine (check_set (w.heap.size + 1) g3 cap3 l q (wrap64 (-(mn b))) ls w5 RL5.out hls CL35.out hg35 hl1 hl2 hql).mono ?_; rintro ex w6 ⟨rfl, bel6⟩
       have L6 : Hid (Live w w6 m b bb ob l (mn b) (mx b) q) := L5.out.below bel6
       have u1 := L6.out.prof.placed
       have u2 := L6.out.prof.topsN
       have u3 := L6.out.prof.lowsN
       clear bel6))
  go_ret
  exact ⟨rfl, L6.out.bel⟩

end Go.Proofs.Ybulkafoa
