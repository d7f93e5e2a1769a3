/-
  bufio's Buffered and Flush BY THEIR CONTRACTS: a writer over the sink that holds the bytes L.
-/
import Derived.Test.YbulkafmyFmtSink
import Derived.Deep.RegionHeld3
namespace Go.Proofs.YbulkafmyFmt
open Go.RowKit

theorem Ybaf.sinkMethod (a : Addr) (w : World) : (Go.method 196 29 (.pointer (some a)) "Write").run Ybaf.prog w = .ok (43, .pointer (some a)) w := by kernel_rfl

theorem sunk_cells {w w1 : World} {s B b : Nat} {L : List Value} {x y z : Value} (h : Sunk w w1 s B L) (hbs : b ≠ s) (h1 : w.cell? ⟨b, 1, none⟩ = some x) (h2 : w.cell? ⟨b, 2, none⟩ = some y) (h3 : w.cell? ⟨b, 3, none⟩ = some z) :
    w1.cell? ⟨b, 1, none⟩ = some x ∧ w1.cell? ⟨b, 2, none⟩ = some y ∧ w1.cell? ⟨b, 3, none⟩ = some z := by
  obtain ⟨v, _, _, hg⟩ := h
  exact ⟨hg.cell h1 (by simpa using hbs), hg.cell h2 (by simpa using hbs), hg.cell h3 (by simpa using hbs)⟩

set_option maxHeartbeats 1000000 in
theorem flush_any (b s g N : Nat) (L G : List Value) (w : World) (hb : RowIs w b 61 [.nilIface, .slice (some ⟨g, 0, none⟩) N N, .int .i64 L.length, .iface 29 (.pointer (some ⟨s, 0, none⟩))])
    (hs : RowIs w s 32 [.slice none 0 0, .int .i64 0]) (hg : RowIs w g 5 G) (hLN : L.length ≤ N) (_hN : N ≤ 65536) (hL0 : 0 < L.length) (hL1 : L.length ≤ 1000) (hGL : ∀ (j : Nat) (u : Value), L[j]? = some u → G[j]? = some u) (hone : ∀ u ∈ L, u.oneCell' = true) (hgs : g ≠ s) (hsb : s < b) :
    Calls Ybaf.prog 7 #[.pointer (some ⟨b, 0, none⟩)] w fun e w' => e = .returned .nilIface ∧ ∃ v, RowIs w' s 32 [v, .int .i64 1] ∧ w'.ownsRow w.heap.size 5 1 v L.length L ∧ Below s w w' := by
  have hbs : b ≠ s := by omega
  have b0 : w.cell? ⟨b, 0, none⟩ = some .nilIface := by rw [hb.cell]; rfl
  have b1 : w.cell? ⟨b, 1, none⟩ = some (.slice (some ⟨g, 0, none⟩) N N) := by rw [hb.cell]; rfl
  have b2 : w.cell? ⟨b, 2, none⟩ = some (.int .i64 L.length) := by rw [hb.cell]; rfl
  have b3 : w.cell? ⟨b, 3, none⟩ = some (.iface 29 (.pointer (some ⟨s, 0, none⟩))) := by rw [hb.cell]; rfl
  have hl0 : ((L.length : Int) == 0) = false := by simp; intro h; rw [h] at hL0; exact absurd hL0 (by simp)
  have hm := Ybaf.sinkMethod
  have HS : Hid (RowIs w s 32 [.slice none 0 0, .int .i64 0]) := hs
  have HB : Hid (RowIs w b 61 [.nilIface, .slice (some ⟨g, 0, none⟩) N N, .int .i64 L.length, .iface 29 (.pointer (some ⟨s, 0, none⟩))]) := hb
  have HC : Hid (∀ (j : Nat) (u : Value), L[j]? = some u → w.cell? ⟨g, j, none⟩ = some u) := fun j u hu => by rw [hg.cell]; exact hGL j u hu
  clear hs hb hg hGL
  go_enter Ybaf.func7, Ybaf.ntmps7
  go_wp2
  go_region_held3 (fun w' => w'.cell? ⟨b, 1, none⟩ = some (.slice (some ⟨g, 0, none⟩) N N) ∧ w'.cell? ⟨b, 2, none⟩ = some (.int .i64 L.length) ∧ w'.cell? ⟨b, 3, none⟩ = some (.iface 29 (.pointer (some ⟨s, 0, none⟩)))) (go_keep) (first
    | (go_at_call 43; refine (sink_write s g N L _ ?_ hL0 hL1 ?_ hgs hone).mono ?_; exact HS.out; exact HC; rintro e w1 ⟨rfl, hsunk⟩; obtain ⟨k1, k2, k3⟩ := sunk_cells hsunk hbs b1 b2 b3))
  obtain ⟨v, hv1, hv2, hv3⟩ := hsunk
  have hlt := HB.out.lt
  have hbr : RowIs w1 b 61 [.nilIface, .slice (some ⟨g, 0, none⟩) N N, .int .i64 L.length, .iface 29 (.pointer (some ⟨s, 0, none⟩))] := (hv3.block b hlt (by simpa using hbs)).trans HB.out
  have fz : w1.frozen? ⟨b, 2, none⟩ = false := hbr.frozen 2
  have HV1 : Hid (RowIs w1 s 32 [v, .int .i64 1]) := hv1
  have HV2 : Hid (w1.ownsRow w.heap.size 5 1 v L.length L) := hv2
  have HV3 : Hid (w.drew.grownBy w1 (some s)) := hv3
  clear hv1 hv2 hv3 hbr
  go_wp2
  go_ret
  refine ⟨rfl, v, (Below.heap_setCell _ _ _ _ (fun e => hbs e.symm)).trans HV1.out, ownsRow_setCell_below HV2.out (a := ⟨b, 2, none⟩) hlt _, ?_⟩
  have hgr := HV3.out
  have hsl := HS.out.lt
  have hB : Below s w w1 := ⟨hgr.os, hgr.tape, hgr.output, hgr.size, fun k hk => hgr.block k (by simp; omega) (by simp; omega)⟩
  exact hB.setCell (p := ⟨b, 2, none⟩) (by show s ≤ b; omega) _

set_option maxHeartbeats 400000 in
theorem buffered_any (b : Nat) (n : Int) (w : World) (h : w.cell? ⟨b, 2, none⟩ = some (.int .i64 n)) :
    Calls Ybaf.prog 6 #[.pointer (some ⟨b, 0, none⟩)] w fun e w' => e = .returned (.int .i64 n) ∧ w' = w := by
  go_enter Ybaf.func6, Ybaf.ntmps6
  go_wp2
  go_ret
  exact ⟨rfl, rfl⟩

end Go.Proofs.YbulkafmyFmt
