/-
  NewWriter with the little end BY ITS CONTRACT.
-/
import Derived.Test.YbulkafmyFmtMet
namespace Go.Proofs.YbulkafmyFmt
open Go.RowKit Go.Deep

set_option maxHeartbeats 4000000 in
theorem newL_true (s : Nat) (maj min zone sig snap link : Int) (w : World) (m0 : 0 ≤ maj) (m1 : maj ≤ 65535) (n0 : 0 ≤ min) (n1 : min ≤ 65535) (s0 : 0 ≤ sig) (s1 : sig ≤ 4294967295) (p0 : 0 ≤ snap) (p1 : snap ≤ 4294967295) (l0 : 0 ≤ link) (l1 : link ≤ 4294967295) :
    Calls Ybaf.prog 5 #[.iface 29 (.pointer (some ⟨s, 0, none⟩)), .agg #[.iface 25 (.agg #[]), .bool true, .int .u16 maj, .int .u16 min, .int .i32 zone, .int .u32 sig, .int .u32 snap, .int .u32 link]] w (Made w s (.iface 25 (.agg #[])) ((hdrL 2712812621 maj min (IntKind.u32.wrap zone) sig snap link).map by8)) := by
  have z0 := (wrapU32 zone).1
  have z1 := (wrapU32 zone).2
  have q1 := nil32L
  have q2 := nil16L
  have q3 := met32L
  have q4 := met16L
  have H0 : Hid (RowIs (begun w (.iface 25 (.agg #[])) true maj min zone sig snap link) w.heap.size 36 (hdr (.iface 25 (.agg #[])) true maj min zone sig snap link)) := begun_hdr ..
  have D0 : Hid (Below w.heap.size w (begun w (.iface 25 (.agg #[])) true maj min zone sig snap link)) := begun_below ..
  have N0' : Z24.length = 24 := by decide
  obtain ⟨L0, E0, N0, R0⟩ : ∃ L0, Hid (L0 = Z24) ∧ L0.length = 24 ∧ Hid (RowIs (begun w (.iface 25 (.agg #[])) true maj min zone sig snap link) (w.heap.size + 1) 54 L0) := ⟨Z24, rfl, N0', begun_row ..⟩
  go_enter Ybaf.func5, Ybaf.ntmps5
  go_wp2
  go_region_held3 (fun _ => True) (trivial) (first
    | (go_at_call 33; refine (le32 (w.heap.size + 1) 0 24 24 54 L0 _ _ ?_ ?_ (by omega) ?_ ?_).mono ?_; omega; omega; exact R0.out; (rw [N0]; omega); rintro e w1 ⟨rfl, hf1⟩))
  obtain ⟨L1, E1, R1, N1, H1, D1⟩ := step4 hf1 N0 H0 D0
  have C1 : w1.cell? ⟨w.heap.size, 2, none⟩ = some (.int .u16 maj) := by rw [H1.out.cell]; rfl
  clear hf1
  go_wp2
  go_region_held3 (fun w' => w'.cell? ⟨w.heap.size, 2, none⟩ = some (.int .u16 maj)) (go_keep) (first
    | (go_at_call 32; refine (le16 (w.heap.size + 1) 4 20 20 54 L1 _ _ ?_ ?_ (by omega) ?_ ?_).mono ?_; omega; omega; exact R1.out; (rw [N1]; omega); rintro e w2 ⟨rfl, hf2⟩; have hkeep := filled_cell hf2 C1 (by omega)))
  obtain ⟨L2, E2, R2, N2, H2, D2⟩ := step2 hf2 N1 H1 D1
  have C2 : w2.cell? ⟨w.heap.size, 3, none⟩ = some (.int .u16 min) := by rw [H2.out.cell]; rfl
  clear hf2
  go_wp2
  go_region_held3 (fun w' => w'.cell? ⟨w.heap.size, 3, none⟩ = some (.int .u16 min)) (go_keep) (first
    | (go_at_call 32; refine (le16 (w.heap.size + 1) 6 18 18 54 L2 _ _ ?_ ?_ (by omega) ?_ ?_).mono ?_; omega; omega; exact R2.out; (rw [N2]; omega); rintro e w3 ⟨rfl, hf3⟩; have hkeep := filled_cell hf3 C2 (by omega)))
  obtain ⟨L3, E3, R3, N3, H3, D3⟩ := step2 hf3 N2 H2 D2
  have C3 : w3.cell? ⟨w.heap.size, 4, none⟩ = some (.int .i32 zone) := by rw [H3.out.cell]; rfl
  clear hf3
  go_wp2
  go_region_held3 (fun w' => w'.cell? ⟨w.heap.size, 4, none⟩ = some (.int .i32 zone)) (go_keep) (first
    | (go_at_call 33; refine (le32 (w.heap.size + 1) 8 16 16 54 L3 _ _ ?_ ?_ (by omega) ?_ ?_).mono ?_; omega; omega; exact R3.out; (rw [N3]; omega); rintro e w4 ⟨rfl, hf4⟩; have hkeep := filled_cell hf4 C3 (by omega)))
  obtain ⟨L4, E4, R4, N4, H4, D4⟩ := step4 hf4 N3 H3 D3
  have C4 : w4.cell? ⟨w.heap.size, 5, none⟩ = some (.int .u32 sig) := by rw [H4.out.cell]; rfl
  clear hf4
  go_wp2
  go_region_held3 (fun w' => w'.cell? ⟨w.heap.size, 5, none⟩ = some (.int .u32 sig)) (go_keep) (first
    | (go_at_call 33; refine (le32 (w.heap.size + 1) 12 12 12 54 L4 _ _ ?_ ?_ (by omega) ?_ ?_).mono ?_; omega; omega; exact R4.out; (rw [N4]; omega); rintro e w5 ⟨rfl, hf5⟩; have hkeep := filled_cell hf5 C4 (by omega)))
  obtain ⟨L5, E5, R5, N5, H5, D5⟩ := step4 hf5 N4 H4 D4
  have C5 : w5.cell? ⟨w.heap.size, 6, none⟩ = some (.int .u32 snap) := by rw [H5.out.cell]; rfl
  clear hf5
  go_wp2
  go_region_held3 (fun w' => w'.cell? ⟨w.heap.size, 6, none⟩ = some (.int .u32 snap)) (go_keep) (first
    | (go_at_call 33; refine (le32 (w.heap.size + 1) 16 8 8 54 L5 _ _ ?_ ?_ (by omega) ?_ ?_).mono ?_; omega; omega; exact R5.out; (rw [N5]; omega); rintro e w6 ⟨rfl, hf6⟩; have hkeep := filled_cell hf6 C5 (by omega)))
  obtain ⟨L6, E6, R6, N6, H6, D6⟩ := step4 hf6 N5 H5 D5
  have C6 : w6.cell? ⟨w.heap.size, 7, none⟩ = some (.int .u32 link) := by rw [H6.out.cell]; rfl
  clear hf6
  go_wp2
  go_region_held3 (fun w' => w'.cell? ⟨w.heap.size, 7, none⟩ = some (.int .u32 link)) (go_keep) (first
    | (go_at_call 33; refine (le32 (w.heap.size + 1) 20 4 4 54 L6 _ _ ?_ ?_ (by omega) ?_ ?_).mono ?_; omega; omega; exact R6.out; (rw [N6]; omega); rintro e w7 ⟨rfl, hf7⟩; have hkeep := filled_cell hf7 C6 (by omega)))
  obtain ⟨L7, E7, R7, N7, H7, D7⟩ := step4 hf7 N6 H6 D6
  clear hf7
  go_wp2_with fail
  refine (nws_any s w7).mono ?_
  rintro e w8 ⟨N, C, hC, hN1, hN2, rfl, rfl⟩
  have hL7 : L7 = (hdrL 2712812621 maj min (IntKind.u32.wrap zone) sig snap link).map by8 := by rw [E7.out, E6.out, E5.out, E4.out, E3.out, E2.out, E1.out, E0.out]; exact chainL _ _ _ _ _ _ _
  have hone : ∀ u ∈ L7, u.oneCell' = true := by rw [hL7]; exact by8_one _
  have HL7 : Hid (L7 = (hdrL 2712812621 maj min (IntKind.u32.wrap zone) sig snap link).map by8) := hL7
  have hbel := D7.out
  have hsz := hbel.size
  have hBlt : w.heap.size + 1 < w7.heap.size := R7.out.lt
  clear hL7 E7 E6 E5 E4 E3 E2 E1 E0 H7 H6 H5 H4 H3 H2 H1 H0 D0 D1 D2 D3 D4 D5 D6 R0 R1 R2 R3 R4 R5 R6 N0 N1 N2 N3 N4 N5 N6
  clear C1 C2 C3 C4 C5 C6
  go_wp2_with fail
  refine (bw_write24 (w7.heap.size + 1) w7.heap.size (w.heap.size + 1) N s 24 L7 C _ N7 (heap_alloc2_new w7 _ _) (heap_alloc2_old w7 _ _) hC hN1 hN2 ((R7.out.alloc _).alloc _) hone (by omega)).mono ?_
  rintro e w9 ⟨rfl, hal, htp⟩
  obtain ⟨g1, g2, g3, g4⟩ := after_write (C := C) (R := [.nilIface, .slice (some ⟨w7.heap.size, 0, none⟩) N N, .int .i64 0, .iface 29 (.pointer (some ⟨s, 0, none⟩))]) (X := splice C 0 L7) hbel (by omega) hal htp
  have G1 : Hid (RowIs w9 w7.heap.size 5 (splice C 0 L7)) := g1
  have G2 : Hid (RowIs w9 (w7.heap.size + 1) 61 [.nilIface, .slice (some ⟨w7.heap.size, 0, none⟩) N N, .int .i64 24, .iface 29 (.pointer (some ⟨s, 0, none⟩))]) := g2
  have G3 : Hid (Below w.heap.size w w9) := g3
  clear g1 g2 g3 hal htp hone
  go_wp2
  go_ret
  have h9 := G3.out.size
  exact ⟨N, w9.heap.size, w7.heap.size + 1, w7.heap.size, _, rfl, hN1, hN2, by simp, by simp, by simp, G2.out.alloc _, G1.out.alloc _, by rw [← HL7.out]; exact splice_head, G3.out.alloc h9 _, h9, by omega, by omega⟩

end Go.Proofs.YbulkafmyFmt
