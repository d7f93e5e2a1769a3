/-
  zzs1573cfits BY ITS CONTRACT.
-/
import Derived.Test.YbulkafoaFit
namespace Go.Proofs.Ybulkafoa
open Go.RowKit

/-- It returns whether p. -/
def Says (e : Ending) (p : Prop) : Prop := ∃ b : Bool, e = .returned (.bool b) ∧ (b = true ↔ p)

set_option maxHeartbeats 1000000 in
theorem fits_any (ga n cf : Nat) (y : Addr) (A F : Nat → Int) (x t size h : Int) (w : World) (hA : ∀ i, i < n → w.cell? ⟨ga, i, none⟩ = some (.int .u64 (A i))) (hF : ∀ i, i < n → w.cell? (y.add i) = some (.int .i64 (F i)))
    (inc : Inc n A) (a0 : A 0 = 0) (hn1 : 1 ≤ n) (hn2 : n ≤ 300) (x0 : 0 ≤ x) (x1 : x ≤ 100000) (h0 : 1 ≤ h) (h1 : h ≤ 65536) :
    Calls Yba.prog 22 #[.slice (some ⟨ga, 0, none⟩) n n, .slice (some y) n cf, .int .u64 x, .int .u64 t, .int .i64 size, .int .u64 h] w fun e w' => Says e (Fit n A F t size h x) ∧ w' = w := by
  have HA : Hid (∀ i, i < n → w.cell? ⟨ga, i, none⟩ = some (.int .u64 (A i))) := hA
  have HF : Hid (∀ i, i < n → w.cell? (y.add i) = some (.int .i64 (F i))) := hF
  have HI : Hid (Inc n A) := inc
  clear hA hF inc
  by_cases ht : t < x + h
  · go_enter Yba.func22, Yba.ntmps22
    go_wp2
    go_ret
    exact ⟨⟨false, rfl, by constructor; · intro h; cases h
                           · intro h; have := h.1; omega⟩, rfl⟩
  · go_enter Yba.func22, Yba.ntmps22
    go_wp2
    go_loopw [13, 14] (fun ti tj wr => ∃ i j : Nat, ti = .int .i64 i ∧ tj = .int .i64 j ∧ 1 ≤ j ∧ j ≤ n ∧ i < j ∧ A i ≤ x ∧ Hid (∀ i', i < i' → i' < j → x < A i') ∧ w = wr) (fun _ tj _ => n - (intOf tj).toNat)
    case atStart => exact ⟨0, 1, rfl, rfl, by omega, by omega, by omega, by omega, fun i' _ _ => by omega, rfl⟩
    case round =>
      obtain ⟨i, j, rfl, rfl, hj1, hjn, hij, hAi, HL, rfl⟩ := hrel
      by_cases hlt : j < n
      · have c := HA.out j hlt
        by_cases hAj : A j ≤ x
        · go_wp2
          go_roundw
          case rel => exact ⟨j, j + 1, rfl, by go_num, by omega, by omega, by omega, hAj, (fun i' _ _ => by omega), by first | rfl | trivial⟩
          case measure => simp [intOf]; omega
        · go_wp2
          go_roundw
          case rel => exact ⟨i, j + 1, rfl, by go_num, by omega, by omega, by omega, hAi, fun i' h1 h2 => by
            by_cases e : i' = j
            · subst e; omega
            · exact HL.out i' h1 (by omega), by first | rfl | trivial⟩
          case measure => simp [intOf]; omega
      · obtain rfl : j = n := by omega
        have cF := HF.out i hij
        have hnext : i + 1 < j → x < A (i + 1) := fun k => HL.out (i + 1) (by omega) k
        have FI : Hid (Fit j A F t size h x ↔ ∀ k, i ≤ k → k < j → A k < x + h → size ≤ F k) := fit_iff HI.out hij hAi hnext (by omega)
        clear hnext
        by_cases hf : F i < size
        · go_wp2
          go_ret
          refine ⟨⟨false, rfl, ?_⟩, rfl⟩
          rw [FI.out]
          refine ⟨fun h => (by cases h), fun h => ?_⟩
          have := h i (by omega) hij (by omega)
          omega
        · go_wp2
          go_loopw [15] (fun tk wr => ∃ k : Nat, tk = .int .i64 k ∧ i < k ∧ k ≤ j ∧ Hid (∀ i', i ≤ i' → i' < k → size ≤ F i') ∧ w = wr) (fun tk _ => j - (intOf tk).toNat)
          case atStart => exact ⟨i + 1, by go_num, by omega, by omega, fun i' a b => by
            obtain rfl : i' = i := by omega
            omega, by first | rfl | trivial⟩
          case round =>
            obtain ⟨k, rfl, hk1, hk2, HK, rfl⟩ := hrel
            by_cases hkj : k < j
            · have c1 := HA.out k hkj
              have c2 := HF.out k hkj
              by_cases hAk : A k < x + h
              · by_cases hfk : F k < size
                · go_wp2
                  go_ret
                  refine ⟨⟨false, rfl, ?_⟩, rfl⟩
                  rw [FI.out]
                  refine ⟨fun h => (by cases h), fun h => ?_⟩
                  have := h k (by omega) hkj hAk
                  omega
                · go_wp2
                  go_roundw
                  case rel => exact ⟨k + 1, by go_num, by omega, by omega, fun i' a b => by
                    by_cases e : i' = k
                    · subst e; omega
                    · exact HK.out i' a (by omega), by first | rfl | trivial⟩
                  case measure => simp [intOf]; omega
              · go_wp2
                go_ret
                refine ⟨⟨true, rfl, ?_⟩, rfl⟩
                rw [FI.out]
                refine ⟨fun _ q a b c => ?_, fun _ => rfl⟩
                by_cases e : q < k
                · exact HK.out q a e
                · have := HI.out.le (i := k) (j := q) (by omega) b
                  omega
            · go_wp2
              go_ret
              refine ⟨⟨true, rfl, ?_⟩, rfl⟩
              rw [FI.out]
              exact ⟨fun _ q a b c => HK.out q a (by omega), fun _ => rfl⟩

end Go.Proofs.Ybulkafoa
