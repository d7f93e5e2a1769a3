/-
  The sink's Write BY ITS CONTRACT.
-/
import Derived.Test.YbulkafmyFmtPut
namespace Go.Proofs.YbulkafmyFmt
open Go.RowKit

theorem Ybaf.info5 : (Ybaf.prog.info? 5).map (fun i => (i.zero, i.size, i.bytes)) = some (some (.int .u8 0), 1, 1) := by kernel_rfl

theorem add0 (g j : Nat) : (⟨g, 0, none⟩ : Addr).add j = ⟨g, j, none⟩ := by unfold Addr.add; split <;> simp_all

/-- An owned slice of at least one element: its shape. -/
theorem own_shape {w : World} {B : Nat} {e : TypeId} {v : Value} {n : Nat} {xs : List Value} (h : w.ownsRow B e 1 v n xs) (hn : 0 < n) : ∃ g cap, v = .slice (some ⟨g, 0, none⟩) n cap ∧ B ≤ g ∧ g < w.heap.size := by
  rcases h.2 with ⟨_, h0⟩ | ⟨g, cap, cur, hv, hb, hh, _⟩
  · omega
  · exact ⟨g, cap, hv, hb, (Array.getElem?_eq_some_iff.1 hh).1⟩

/-- Behind the sink's Write of L: its block holds a slice of its own with just L, and one call. -/
def Sunk (w w' : World) (s B : Nat) (L : List Value) : Prop :=
  ∃ v, RowIs w' s 32 [v, .int .i64 1] ∧ w'.ownsRow B 5 1 v L.length L ∧ w.grownBy w' (some s)

set_option maxHeartbeats 400000 in
theorem sink_write (s g c : Nat) (L : List Value) (w : World) (hs : RowIs w s 32 [.slice none 0 0, .int .i64 0]) (hL0 : 0 < L.length) (hL1 : L.length ≤ 1000) (hc : ∀ j u, L[j]? = some u → w.cell? ⟨g, j, none⟩ = some u) (hgs : g ≠ s) (hone : ∀ u ∈ L, u.oneCell' = true) :
    Calls Ybaf.prog 43 #[.pointer (some ⟨s, 0, none⟩), .slice (some ⟨g, 0, none⟩) L.length c] w fun e w' => e = .returned (.tuple #[.int .i64 L.length, .nilIface]) ∧ Sunk w w' s w.heap.size L := by
  obtain ⟨i0, hi, hz0, hz1, hz2⟩ := info_parts Ybaf.info5
  have s0 : w.cell? ⟨s, 0, none⟩ = some (.slice none 0 0) := by rw [hs.cell]; rfl
  have s1 : w.cell? ⟨s, 1, none⟩ = some (.int .i64 0) := by rw [hs.cell]; rfl
  have f0 : w.frozen? ⟨s, 0, none⟩ = false := hs.frozen 0
  have f1 : w.frozen? ⟨s, 1, none⟩ = false := hs.frozen 1
  have hlt := hs.lt
  have HS : Hid (RowIs w s 32 [.slice none 0 0, .int .i64 0]) := hs
  have HC : Hid (∀ j u, L[j]? = some u → w.cell? ⟨g, j, none⟩ = some u) := hc
  clear hs hc
  go_enter Ybaf.func43, Ybaf.ntmps43
  go_wp2_with (at_builtin; refine wpList_append_own _ rfl (.tmp 17) (.tmp 18) 30 rfl w.heap.size 5 i0 (.int .u8 0) 1 1 Ybaf.underlying30 hi hz0 hz1 hz2 rfl (by decide) _ 0 [] rfl (World.ownsRow_nil _ _ _ _) ⟨g, 0, none⟩ L.length c L rfl ?c0 ?c1 hone ?c3 ?c4 ?c5 ?_)
  case c0 => omega
  case c1 =>
    intro j u hu
    rw [add0, World.cell?_setCell_other _ _ _ _ (fun h => hgs (congrArg Addr.block h).symm)]
    exact HC.out j u hu
  case c3 => unfold maxLen; omega
  case c4 => omega
  case c5 => simp
  intro v' w1 hown hgr _
  simp only [Value.ownBlock] at hgr
  obtain ⟨g', cap', hv, hg1, hg2⟩ := own_shape hown hL0
  rw [hv]
  have hrow1 : RowIs w1 s 32 [.slice none 0 0, .int .i64 1] := by
    have h1 := HS.out.set 1 (.int .i64 1)
    exact (hgr.block s (by simpa using hlt) (by simp)).trans h1
  have r0 : w1.cell? ⟨s, 0, none⟩ = some (.slice none 0 0) := by rw [hrow1.cell]; rfl
  have r1 : w1.frozen? ⟨s, 0, none⟩ = false := hrow1.frozen 0
  have HO : Hid (w1.ownsRow w.heap.size 5 1 v' L.length L) := hown
  have HG : Hid ((w.setCell ⟨s, 1, none⟩ (.int .i64 1)).grownBy w1 none) := hgr
  have HV : Hid (v' = .slice (some ⟨g', 0, none⟩) L.length cap') := hv
  have HR : Hid (RowIs w1 s 32 [.slice none 0 0, .int .i64 1]) := hrow1
  clear hown hgr hv hrow1 s0 s1 f0 f1
  go_wp2
  go_ret2
  refine ⟨rfl, .slice (some ⟨g', 0, none⟩) L.length cap', HR.out.set 0 _, ?_, ?_⟩
  · have h := HO.out
    rw [HV.out] at h
    exact ownsRow_setCell_below h (a := ⟨s, 0, none⟩) hlt _
  · have hg0 := HG.out
    exact grownBy_trans (grownBy_trans (grownBy_setCell w s 1 (.int .i64 1)) ⟨hg0.os, hg0.tape, hg0.output, hg0.size, fun k hk _ => hg0.block k hk (by simp)⟩) (grownBy_setCell _ _ _ _)

end Go.Proofs.YbulkafmyFmt
