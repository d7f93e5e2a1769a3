/-
  LawS1571CHeaderBytes walked: the little end, microseconds.
-/
import Derived.Test.YbulkafmyFmtHb
import Derived.Test.YbulkafmyFmtNewL0
namespace Go.Proofs.YbulkafmyFmt
open Go.RowKit Go.Deep

set_option maxHeartbeats 4000000 in
theorem law_L0 (maj min zone sig snap link : Int) (w : World) (m0 : 0 ≤ maj) (m1 : maj ≤ 65535) (n0 : 0 ≤ min) (n1 : min ≤ 65535) (s0 : 0 ≤ sig) (s1 : sig ≤ 4294967295) (p0 : 0 ≤ snap) (p1 : snap ≤ 4294967295) (l0 : 0 ≤ link) (l1 : link ≤ 4294967295) :
    Calls Ybaf.prog 3 #[.bool false, .bool false, .int .u16 maj, .int .u16 min, .int .i32 zone, .int .u32 sig, .int .u32 snap, .int .u32 link] w fun e w' => e = .returned (.bool true) ∧ Below w.heap.size w w' := by
  have z0 := (wrapU32 zone).1
  have z1 := (wrapU32 zone).2
  have hno := neqOrder25
  obtain ⟨HB, hHB⟩ : ∃ HB : List Int, HB = hdrL 2712847316 maj min (IntKind.u32.wrap zone) sig snap link := ⟨_, rfl⟩
  have HE : Hid (HB = hdrL 2712847316 maj min (IntKind.u32.wrap zone) sig snap link) := hHB
  have hlen : (HB.map by8).length = 24 := by rw [hHB]; rfl
  clear hHB
  have hsink : RowIs (w.alloc (.cells #[.slice none 0 0, .int .i64 0] 32)) w.heap.size 32 [.slice none 0 0, .int .i64 0] := heap_alloc_new _ _
  have HS : Hid (RowIs (w.alloc (.cells #[.slice none 0 0, .int .i64 0] 32)) w.heap.size 32 [.slice none 0 0, .int .i64 0]) := hsink
  clear hsink
  go_enter Ybaf.func3, Ybaf.ntmps3
  go_wp2_with fail
  refine (newL_false w.heap.size maj min zone sig snap link _ m0 m1 n0 n1 s0 s1 p0 p1 l0 l1).mono ?_
  rintro e w1 ⟨N, r, b, g, G, rfl, hN1, hN2, c0, c1, c2, hb, hg, hGL, hbel, hr, hbb, hgg⟩
  rw [← HE.out] at hGL
  simp only [World.size_alloc] at hr hbb hgg
  have k2 : w1.cell? ⟨b, 2, none⟩ = some (.int .i64 24) := by rw [hb.cell]; rfl
  have hs1 : RowIs w1 w.heap.size 32 [.slice none 0 0, .int .i64 0] := (hbel.block _ (by simp)).trans HS.out
  have k3 : w1.cell? ⟨w.heap.size, 1, none⟩ = some (.int .i64 0) := by rw [hs1.cell]; rfl
  have F1 : Hid (RowIs w1 b 61 [.nilIface, .slice (some ⟨g, 0, none⟩) N N, .int .i64 24, .iface 29 (.pointer (some ⟨w.heap.size, 0, none⟩))]) := hb
  have F2 : Hid (RowIs w1 g 5 G) := hg
  have F3 : Hid (∀ (j : Nat) (u : Value), (HB.map by8)[j]? = some u → G[j]? = some u) := hGL
  have F4 : Hid (RowIs w1 w.heap.size 32 [.slice none 0 0, .int .i64 0]) := hs1
  have F5 : Hid (Below w.heap.size w w1) := ((Below.refl _ _).alloc (Nat.le_refl _) _).trans (hbel.mono (by simp))
  have hw1 : w.heap.size < w1.heap.size := hs1.lt
  clear hb hg hGL hs1 hbel HS
  go_wp2_with fail
  refine (buffered_any b 24 _ k2).mono ?_
  rintro e w1' ⟨rfl, rfl⟩
  go_wp2_with fail
  refine (flush24 b w.heap.size g N (HB.map by8) G _ hlen F1.out F4.out F2.out hN1 hN2 F3.out (by8_one _) (by omega) (by omega)).mono ?_
  rintro e w2 ⟨rfl, v, hv1, hv2, hv3⟩
  obtain ⟨g1, cap1, rfl, hg1, hg1', hgc1⟩ := own24 hv2
  have A1 : Hid (RowIs w2 w.heap.size 32 [.slice (some ⟨g1, 0, none⟩) 24 cap1, .int .i64 1]) := hv1
  have A2 : Hid (∀ k, k < 24 → w2.cell? ⟨g1, k, none⟩ = some (.int .u8 (HB.getD k 0))) := hgc1
  have A3 : Hid (Below w.heap.size w w2) := F5.out.trans hv3
  clear hv1 hv2 hv3 hgc1 F1 F2 F3 F4 F5 k2 k3 c0 c1 c2
  obtain ⟨X0, Y0, Q0, P0⟩ : ∃ X : List Value, X.length = 0 ∧ Hid (X = []) ∧ Hid (w2.ownsRow w2.heap.size 5 1 (.slice none 0 0) X.length X) := ⟨[], rfl, rfl, World.ownsRow_nil _ _ _ _⟩
  have S0 : w2.heap.size ≤ w2.heap.size := Nat.le_refl _
  have D0 : Hid (Below w2.heap.size w2 w2) := Below.refl _ _
  go_wp2_with fail
  refine (cput_L4 w2.heap.size (.slice none 0 0) X0 2712847316 _ (by omega) (by omega) (by omega) ?_ ?_).mono ?_
  case refine_1 => exact S0
  case refine_2 => exact P0.out
  rintro e v1 ⟨sv1, he, p1, d1, S1⟩
  obtain ⟨X1, y1, Q1, P1⟩ := nextP p1 (putL_length ..)
  have Y1 : X1.length = 4 := by omega
  have D1 : Hid (Below w2.heap.size w2 v1) := D0.out.trans d1
  subst he
  clear p1 d1 y1 S0 P0 D0
  go_wp2_with fail
  refine (cput_L2 w2.heap.size sv1 X1 maj _ (by omega) (by omega) (by omega) ?_ ?_).mono ?_
  case refine_1 => exact S1
  case refine_2 => exact P1.out
  rintro e v2 ⟨sv2, he, p2, d2, S2⟩
  obtain ⟨X2, y2, Q2, P2⟩ := nextP p2 (putL_length ..)
  have Y2 : X2.length = 6 := by omega
  have D2 : Hid (Below w2.heap.size w2 v2) := D1.out.trans d2
  subst he
  clear p2 d2 y2 S1 P1 D1
  go_wp2_with fail
  refine (cput_L2 w2.heap.size sv2 X2 min _ (by omega) (by omega) (by omega) ?_ ?_).mono ?_
  case refine_1 => exact S2
  case refine_2 => exact P2.out
  rintro e v3 ⟨sv3, he, p3, d3, S3⟩
  obtain ⟨X3, y3, Q3, P3⟩ := nextP p3 (putL_length ..)
  have Y3 : X3.length = 8 := by omega
  have D3 : Hid (Below w2.heap.size w2 v3) := D2.out.trans d3
  subst he
  clear p3 d3 y3 S2 P2 D2
  go_wp2_with fail
  refine (cput_L4 w2.heap.size sv3 X3 (IntKind.u32.wrap zone) _ (by omega) (by omega) (by omega) ?_ ?_).mono ?_
  case refine_1 => exact S3
  case refine_2 => exact P3.out
  rintro e v4 ⟨sv4, he, p4, d4, S4⟩
  obtain ⟨X4, y4, Q4, P4⟩ := nextP p4 (putL_length ..)
  have Y4 : X4.length = 12 := by omega
  have D4 : Hid (Below w2.heap.size w2 v4) := D3.out.trans d4
  subst he
  clear p4 d4 y4 S3 P3 D3
  go_wp2_with fail
  refine (cput_L4 w2.heap.size sv4 X4 sig _ (by omega) (by omega) (by omega) ?_ ?_).mono ?_
  case refine_1 => exact S4
  case refine_2 => exact P4.out
  rintro e v5 ⟨sv5, he, p5, d5, S5⟩
  obtain ⟨X5, y5, Q5, P5⟩ := nextP p5 (putL_length ..)
  have Y5 : X5.length = 16 := by omega
  have D5 : Hid (Below w2.heap.size w2 v5) := D4.out.trans d5
  subst he
  clear p5 d5 y5 S4 P4 D4
  go_wp2_with fail
  refine (cput_L4 w2.heap.size sv5 X5 snap _ (by omega) (by omega) (by omega) ?_ ?_).mono ?_
  case refine_1 => exact S5
  case refine_2 => exact P5.out
  rintro e v6 ⟨sv6, he, p6, d6, S6⟩
  obtain ⟨X6, y6, Q6, P6⟩ := nextP p6 (putL_length ..)
  have Y6 : X6.length = 20 := by omega
  have D6 : Hid (Below w2.heap.size w2 v6) := D5.out.trans d6
  subst he
  clear p6 d6 y6 S5 P5 D5
  go_wp2_with fail
  refine (cput_L4 w2.heap.size sv6 X6 link _ (by omega) (by omega) (by omega) ?_ ?_).mono ?_
  case refine_1 => exact S6
  case refine_2 => exact P6.out
  rintro e v7 ⟨sv7, he, p7, d7, S7⟩
  obtain ⟨X7, y7, Q7, P7⟩ := nextP p7 (putL_length ..)
  have Y7 : X7.length = 24 := by omega
  have D7 : Hid (Below w2.heap.size w2 v7) := D6.out.trans d7
  have hX : X7 = HB.map by8 := by
    rw [Q7.out, Q6.out, Q5.out, Q4.out, Q3.out, Q2.out, Q1.out, Q0.out, HE.out, putL_4 _ (by omega) (by omega), putL_2 maj m0 m1, putL_2 min n0 n1, putL_4 _ z0 z1, putL_4 sig s0 s1, putL_4 snap p0 p1, putL_4 link l0 l1]
    simp [hdrL, List.map_append]
  have P7' := P7.out
  rw [hX, hlen] at P7'
  obtain ⟨g2, cap2, hsv, hg2, hg2', hgc2⟩ := own24 P7'
  rw [hsv] at he
  have A4 : Hid (∀ k, k < 24 → v7.cell? ⟨g2, k, none⟩ = some (.int .u8 (HB.getD k 0))) := hgc2
  have A5 : Hid (∀ k, k < 24 → v7.cell? ⟨g1, k, none⟩ = some (.int .u8 (HB.getD k 0))) := fun k hk => (D7.out.cell (p := ⟨g1, k, none⟩) hg1').trans (A2.out k hk)
  have A6 : Hid (RowIs v7 w.heap.size 32 [.slice (some ⟨g1, 0, none⟩) 24 cap1, .int .i64 1]) := (D7.out.block _ A1.out.lt).trans A1.out
  have A7 : Hid (Below w.heap.size w v7) := A3.out.trans (D7.out.mono A3.out.size)
  have e0 : v7.cell? ⟨w.heap.size, 0, none⟩ = some (.slice (some ⟨g1, 0, none⟩) 24 cap1) := by rw [A6.out.cell]; rfl
  have e1 : v7.cell? ⟨w.heap.size, 1, none⟩ = some (.int .i64 1) := by rw [A6.out.cell]; rfl
  clear hgc2 hX P7' A1 A2 A3 A6 Q7 Q6 Q5 Q4 Q3 Q2 Q1 Q0 HE hsv P7 Y0 Y1 Y2 Y3 Y4 Y5 Y6 Y7 hlen D7
  subst he
  clear p7 d7 y7 S6 P6 D6
  go_wp2
  go_loopw [23] (fun i wr => ∃ k n : Nat, k ≤ 24 ∧ i = .int .i64 k ∧ wr = v7.drewN n) (fun i _ => 24 - (intOf i).toNat)
  case atStart => exact ⟨0, 0, by omega, rfl, rfl⟩
  case round =>
    obtain ⟨k, n, hk, rfl, hwr⟩ := hrel
    subst hwr
    by_cases hlt : k < 24
    · have f1 := A5.out k hlt
      have f2 := A4.out k hlt
      have hlt' : (k : Int) < 24 := by omega
      go_wp2
      go_region
      go_wp2
      go_roundw
      case rel => exact ⟨k + 1, _, by omega, by go_num, rfl⟩
      case measure => simp [intOf]; omega
    · have hk' : ¬ (k : Int) < 24 := by omega
      go_wp2
      go_ret
      have h7 := A7.out
      exact ⟨rfl, ⟨h7.os, h7.tape, h7.output, h7.size, h7.block⟩⟩

end Go.Proofs.YbulkafmyFmt
