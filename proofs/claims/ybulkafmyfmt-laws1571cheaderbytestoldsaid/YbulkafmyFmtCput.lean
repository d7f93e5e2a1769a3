/-
  zzs1571cput BY ITS CONTRACT: n bytes of v are appended to a slice of the call's own.
-/
import Derived.Test.YbulkafmyFmtSink
namespace Go.Proofs.YbulkafmyFmt
open Go.RowKit

/-- Byte k of the n bytes of v, least first or greatest first. -/
def byteAt (big : Bool) (v : Int) (n k : Nat) : Int := if big then v / 2 ^ (8 * (n - 1 - k)) % 256 else v / 2 ^ (8 * k) % 256
def putL (big : Bool) (v : Int) (n k : Nat) : List Int := (List.range k).map (byteAt big v n)
theorem putL_succ (big : Bool) (v : Int) (n k : Nat) : putL big v n (k + 1) = putL big v n k ++ [byteAt big v n k] := by simp [putL, List.range_succ]
theorem putL_length (big : Bool) (v : Int) (n k : Nat) : (putL big v n k).length = k := by simp [putL]

set_option maxHeartbeats 1000000 in
theorem cput_L (B : Nat) (sv : Value) (xs : List Value) (v : Int) (n : Nat) (w : World) (_h0 : 0 ≤ v) (_h1 : v ≤ 4294967295) (hn : n ≤ 4) (hx : xs.length ≤ 100) (hB : B ≤ w.heap.size) (hown : w.ownsRow B 5 1 sv xs.length xs) :
    Calls Ybaf.prog 8 #[sv, .bool false, .int .u32 v, .int .i64 n] w fun e w' => ∃ sv', e = .returned sv' ∧ w'.ownsRow B 5 1 sv' (xs.length + n) (xs ++ (putL false v n n).map by8) ∧ Below B w w' ∧ B ≤ w'.heap.size := by
  obtain ⟨i0, hi, hz0, hz1, hz2⟩ := info_parts Ybaf.info5
  have HO : Hid (w.ownsRow B 5 1 sv xs.length xs) := hown
  clear hown
  go_enter Ybaf.func8, Ybaf.ntmps8
  go_wp2
  go_loopw [0, 9] (fun sl i wr => ∃ k : Nat, k ≤ n ∧ i = .int .i64 k ∧ wr.ownsRow B 5 1 sl (xs.length + k) (xs ++ (putL false v n k).map by8) ∧ Below B w wr ∧ B ≤ wr.heap.size) (fun _ i _ => n - (intOf i).toNat)
  case atStart => exact ⟨0, Nat.zero_le _, rfl, by simpa [putL] using HO.out, Below.refl _ _, hB⟩
  case round =>
    obtain ⟨k, hk, rfl, hown', hbel, hsz⟩ := hrel
    by_cases hlt : k < n
    · have HW : Hid (wr.ownsRow B 5 1 u0 (xs.length + k) (xs ++ (putL false v n k).map by8)) := hown'
      clear hown'
      go_wp2_with (at_builtin; refine wpList_append_own _ rfl (.tmp 26) (.tmp 31) 30 rfl B 5 i0 (.int .u8 0) 1 1 Ybaf.underlying30 hi hz0 hz1 hz2 rfl (by decide) _ (xs.length + k) (xs ++ (putL false v n k).map by8) rfl (HW.out.alloc _) ⟨wr.heap.size, 0, none⟩ 1 1 [.int .u8 (v / 2 ^ (8 * k) % 256)] rfl rfl ?c1 ?c2 ?c3 ?c4 ?c5 ?_)
      case c1 => exact cell_one_new _ _ _
      case c2 => intro u hu; simp at hu; subst hu; rfl
      case c3 => unfold maxLen; omega
      case c4 => omega
      case c5 => simp; omega
      intro v' w1 hown1 hgr _
      have hrow : ∀ j, u0.ownBlock = some j → B ≤ j := fun j hj => (HW.out.lt j hj).1
      have hb1 : Below B w w1 := (hbel.alloc hsz _).grown hgr (by simp; omega) hrow
      have hs1 : B ≤ w1.heap.size := by have := hgr.size; simp at this; omega
      have H1 : Hid (w1.ownsRow B 5 1 v' (xs.length + (k + 1)) (xs ++ (putL false v n (k + 1)).map by8)) := by
        rw [putL_succ, List.map_append]
        exact hown1
      clear hown1 hgr hrow HW
      go_wp2
      go_roundw
      case rel => exact ⟨k + 1, by omega, by go_num, H1.out, hb1, hs1⟩
      case measure => simp [intOf]; omega
    · obtain rfl : k = n := by omega
      have HW : Hid (wr.ownsRow B 5 1 u0 (xs.length + k) (xs ++ (putL false v k k).map by8)) := hown'
      clear hown'
      go_wp2
      go_ret
      exact ⟨u0, rfl, HW.out, hbel, hsz⟩

set_option maxHeartbeats 1000000 in
theorem cput_B (B : Nat) (sv : Value) (xs : List Value) (v : Int) (n : Nat) (w : World) (_h0 : 0 ≤ v) (_h1 : v ≤ 4294967295) (hn : n ≤ 4) (hx : xs.length ≤ 100) (hB : B ≤ w.heap.size) (hown : w.ownsRow B 5 1 sv xs.length xs) :
    Calls Ybaf.prog 8 #[sv, .bool true, .int .u32 v, .int .i64 n] w fun e w' => ∃ sv', e = .returned sv' ∧ w'.ownsRow B 5 1 sv' (xs.length + n) (xs ++ (putL true v n n).map by8) ∧ Below B w w' ∧ B ≤ w'.heap.size := by
  obtain ⟨i0, hi, hz0, hz1, hz2⟩ := info_parts Ybaf.info5
  have HO : Hid (w.ownsRow B 5 1 sv xs.length xs) := hown
  clear hown
  go_enter Ybaf.func8, Ybaf.ntmps8
  go_wp2
  go_loopw [0, 9] (fun sl i wr => ∃ k : Nat, k ≤ n ∧ i = .int .i64 k ∧ wr.ownsRow B 5 1 sl (xs.length + k) (xs ++ (putL true v n k).map by8) ∧ Below B w wr ∧ B ≤ wr.heap.size) (fun _ i _ => n - (intOf i).toNat)
  case atStart => exact ⟨0, Nat.zero_le _, rfl, by simpa [putL] using HO.out, Below.refl _ _, hB⟩
  case round =>
    obtain ⟨k, hk, rfl, hown', hbel, hsz⟩ := hrel
    by_cases hlt : k < n
    · have HW : Hid (wr.ownsRow B 5 1 u0 (xs.length + k) (xs ++ (putL true v n k).map by8)) := hown'
      clear hown'
      go_wp2_with (at_builtin; refine wpList_append_own _ rfl (.tmp 26) (.tmp 31) 30 rfl B 5 i0 (.int .u8 0) 1 1 Ybaf.underlying30 hi hz0 hz1 hz2 rfl (by decide) _ (xs.length + k) (xs ++ (putL true v n k).map by8) rfl (HW.out.alloc _) ⟨wr.heap.size, 0, none⟩ 1 1 [.int .u8 (v / 2 ^ (8 * (n - 1 - k)) % 256)] rfl rfl ?c1 ?c2 ?c3 ?c4 ?c5 ?_)
      case c1 => exact cell_one_new _ _ _
      case c2 => intro u hu; simp at hu; subst hu; rfl
      case c3 => unfold maxLen; omega
      case c4 => omega
      case c5 => simp; omega
      intro v' w1 hown1 hgr _
      have hrow : ∀ j, u0.ownBlock = some j → B ≤ j := fun j hj => (HW.out.lt j hj).1
      have hb1 : Below B w w1 := (hbel.alloc hsz _).grown hgr (by simp; omega) hrow
      have hs1 : B ≤ w1.heap.size := by have := hgr.size; simp at this; omega
      have H1 : Hid (w1.ownsRow B 5 1 v' (xs.length + (k + 1)) (xs ++ (putL true v n (k + 1)).map by8)) := by
        rw [putL_succ, List.map_append]
        exact hown1
      clear hown1 hgr hrow HW
      go_wp2
      go_roundw
      case rel => exact ⟨k + 1, by omega, by go_num, H1.out, hb1, hs1⟩
      case measure => simp [intOf]; omega
    · obtain rfl : k = n := by omega
      have HW : Hid (wr.ownsRow B 5 1 u0 (xs.length + k) (xs ++ (putL true v k k).map by8)) := hown'
      clear hown'
      go_wp2
      go_ret
      exact ⟨u0, rfl, HW.out, hbel, hsz⟩

end Go.Proofs.YbulkafmyFmt
