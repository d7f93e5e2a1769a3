/-
  LawS1571CHeaderBytes: the plain law on bytes; contracts at the header's length.
-/
import Derived.Test.YbulkafmyFmtNew
import Derived.Test.YbulkafmyFmtFlush
import Derived.Test.YbulkafmyFmtCput
namespace Go.Proofs.YbulkafmyFmt
open Go.RowKit Go.Deep

theorem putL_4 (v : Int) (h0 : 0 ≤ v) (h1 : v ≤ 4294967295) : putL false v 4 4 = le4 v := by
  have e : v / 16777216 % 256 = v / 16777216 := by omega
  simp [putL, List.range_succ, byteAt, le4]
  omega
theorem putL_2 (v : Int) (h0 : 0 ≤ v) (h1 : v ≤ 65535) : putL false v 2 2 = le2 v := by
  simp [putL, List.range_succ, byteAt, le2]
  omega
theorem putB_4 (v : Int) (h0 : 0 ≤ v) (h1 : v ≤ 4294967295) : putL true v 4 4 = (le4 v).reverse := by
  simp [putL, List.range_succ, byteAt, le4]
  omega
theorem putB_2 (v : Int) (h0 : 0 ≤ v) (h1 : v ≤ 65535) : putL true v 2 2 = (le2 v).reverse := by
  simp [putL, List.range_succ, byteAt, le2]
  omega

theorem flush24 (b s g N : Nat) (L G : List Value) (w : World) (hL : L.length = 24) (hb : RowIs w b 61 [.nilIface, .slice (some ⟨g, 0, none⟩) N N, .int .i64 24, .iface 29 (.pointer (some ⟨s, 0, none⟩))])
    (hs : RowIs w s 32 [.slice none 0 0, .int .i64 0]) (hg : RowIs w g 5 G) (hLN : 24 ≤ N) (hN : N ≤ 65536) (hGL : ∀ (j : Nat) (u : Value), L[j]? = some u → G[j]? = some u) (hone : ∀ u ∈ L, u.oneCell' = true) (hgs : g ≠ s) (hsb : s < b) :
    Calls Ybaf.prog 7 #[.pointer (some ⟨b, 0, none⟩)] w fun e w' => e = .returned .nilIface ∧ ∃ v, RowIs w' s 32 [v, .int .i64 1] ∧ w'.ownsRow w.heap.size 5 1 v 24 L ∧ Below s w w' := by
  have h := flush_any b s g N L G w (by rw [hL]; exact hb) hs hg (by omega) hN (by omega) (by omega) hGL hone hgs hsb
  rw [hL] at h
  exact h

theorem neqOrder25 (w : World) : (binOp .neq 27 (.iface 25 (.agg #[])) (.iface 25 (.agg #[]))).run Ybaf.prog w = .ok (.bool false) w := by kernel_rfl
theorem neqOrder28 (w : World) : (binOp .neq 27 (.iface 28 (.agg #[])) (.iface 28 (.agg #[]))).run Ybaf.prog w = .ok (.bool false) w := by kernel_rfl

/-- An owned slice of 24 elements: its shape, and its cells. -/
theorem own24 {w : World} {B : Nat} {v : Value} {L : List Int} (h : w.ownsRow B 5 1 v 24 (L.map by8)) : ∃ g cap, v = .slice (some ⟨g, 0, none⟩) 24 cap ∧ B ≤ g ∧ g < w.heap.size ∧ ∀ k, k < 24 → w.cell? ⟨g, k, none⟩ = some (.int .u8 (L.getD k 0)) := by
  obtain ⟨g, cap, hv, hb, hlt⟩ := own_shape h (by omega)
  have hl : L.length = 24 := by simpa using h.1
  refine ⟨g, cap, hv, hb, hlt, fun k hk => ?_⟩
  have := h.cells (g := g) (by rw [hv]; rfl) k (by8 (L.getD k 0)) (by simp [List.getD, hl, hk])
  rw [add0] at this
  exact this

theorem nextP {w : World} {B n : Nat} {sv : Value} {xs : List Value} {ys : List Int} (p : w.ownsRow B 5 1 sv (xs.length + n) (xs ++ ys.map by8)) (hy : ys.length = n) :
    ∃ X, X.length = xs.length + n ∧ Hid (X = xs ++ ys.map by8) ∧ Hid (w.ownsRow B 5 1 sv X.length X) := by
  have hl : (xs ++ ys.map by8).length = xs.length + n := by simp [hy]
  exact ⟨_, hl, rfl, by rw [hl]; exact p⟩

theorem cput_L4 (B : Nat) (sv : Value) (xs : List Value) (v : Int) (w : World) (h0 : 0 ≤ v) (h1 : v ≤ 4294967295) (hx : xs.length ≤ 100) (hB : B ≤ w.heap.size) (hown : w.ownsRow B 5 1 sv xs.length xs) :
    Calls Ybaf.prog 8 #[sv, .bool false, .int .u32 v, .int .i64 4] w fun e w' => ∃ sv', e = .returned sv' ∧ w'.ownsRow B 5 1 sv' (xs.length + 4) (xs ++ (putL false v 4 4).map by8) ∧ Below B w w' ∧ B ≤ w'.heap.size :=
  cput_L B sv xs v 4 w h0 h1 (by omega) hx hB hown

theorem cput_L2 (B : Nat) (sv : Value) (xs : List Value) (v : Int) (w : World) (h0 : 0 ≤ v) (h1 : v ≤ 4294967295) (hx : xs.length ≤ 100) (hB : B ≤ w.heap.size) (hown : w.ownsRow B 5 1 sv xs.length xs) :
    Calls Ybaf.prog 8 #[sv, .bool false, .int .u32 v, .int .i64 2] w fun e w' => ∃ sv', e = .returned sv' ∧ w'.ownsRow B 5 1 sv' (xs.length + 2) (xs ++ (putL false v 2 2).map by8) ∧ Below B w w' ∧ B ≤ w'.heap.size :=
  cput_L B sv xs v 2 w h0 h1 (by omega) hx hB hown

theorem cput_B4 (B : Nat) (sv : Value) (xs : List Value) (v : Int) (w : World) (h0 : 0 ≤ v) (h1 : v ≤ 4294967295) (hx : xs.length ≤ 100) (hB : B ≤ w.heap.size) (hown : w.ownsRow B 5 1 sv xs.length xs) :
    Calls Ybaf.prog 8 #[sv, .bool true, .int .u32 v, .int .i64 4] w fun e w' => ∃ sv', e = .returned sv' ∧ w'.ownsRow B 5 1 sv' (xs.length + 4) (xs ++ (putL true v 4 4).map by8) ∧ Below B w w' ∧ B ≤ w'.heap.size :=
  cput_B B sv xs v 4 w h0 h1 (by omega) hx hB hown

theorem cput_B2 (B : Nat) (sv : Value) (xs : List Value) (v : Int) (w : World) (h0 : 0 ≤ v) (h1 : v ≤ 4294967295) (hx : xs.length ≤ 100) (hB : B ≤ w.heap.size) (hown : w.ownsRow B 5 1 sv xs.length xs) :
    Calls Ybaf.prog 8 #[sv, .bool true, .int .u32 v, .int .i64 2] w fun e w' => ∃ sv', e = .returned sv' ∧ w'.ownsRow B 5 1 sv' (xs.length + 2) (xs ++ (putL true v 2 2).map by8) ∧ Below B w w' ∧ B ≤ w'.heap.size :=
  cput_B B sv xs v 2 w h0 h1 (by omega) hx hB hown

end Go.Proofs.YbulkafmyFmt
