/-
  stretch's loop: THE PLAIN LAW.
-/
import Derived.Test.YbulkafoaSearch
namespace Go.Proofs.Ybulkafoa

/-- The loop's invariant at step k. 'o': a stretch is open, from x on. -/
def Scan (n : Nat) (A F : Nat → Int) (f t size h : Int) (k : Nat) : Option Int → Prop
  | none => k < n ∧ (k + 1 < n → f < A (k + 1)) ∧ ∀ y, Cand n A f y → y < max f (A k) → ¬ Fit n A F t size h y
  | some x => k < n ∧ (k + 1 < n → f < A (k + 1)) ∧ Cand n A f x ∧ f ≤ x ∧ (∀ y, Cand n A f y → y < x → ¬ Fit n A F t size h y) ∧ (∀ j, j < k → x < A (j + 1) → size ≤ F j) ∧ A k < x + h ∧ x + h ≤ t

variable {n : Nat} {A F : Nat → Int} {f t size h : Int} {k : Nat}

theorem Cand.ge {y : Int} (c : Cand n A f y) : f ≤ y := by
  rcases c with rfl | ⟨j, _, rfl, hj⟩ <;> omega

theorem scan_start (hk : Found n A f k) : Scan n A F f t size h k none :=
  ⟨hk.1, hk.2.2, fun y hy hlt => by have := hy.ge; have := hk.2.1; omega⟩

/-- Step k is too full: no candidate below the next step fits. -/
theorem scan_full (o : Option Int) (hs : Scan n A F f t size h k o) (h0 : 1 ≤ h) (hf : F k < size) : ∀ y, Cand n A f y → (k + 1 < n → y < A (k + 1)) → ¬ Fit n A F t size h y := by
  intro y hy hlt hfit
  cases o with
  | none =>
    obtain ⟨hk, _, hb⟩ := hs
    by_cases hm : y < max f (A k)
    · exact hb y hy hm hfit
    · have := hfit.2 k hk (by omega) hlt
      omega
  | some x =>
    obtain ⟨hk, _, _, _, hb, _, hA, _⟩ := hs
    by_cases hm : y < x
    · exact hb y hy hm hfit
    · have := hfit.2 k hk (by omega) hlt
      omega

theorem full_end (o : Option Int) (hs : Scan n A F f t size h k o) (h0 : 1 ≤ h) (hf : F k < size) (hl : ¬ k + 1 < n ∨ t ≤ A (k + 1)) : Ans n A F f t size h none := by
  intro y hy hfit
  by_cases hlt : k + 1 < n → y < A (k + 1)
  · exact scan_full o hs h0 hf y hy hlt hfit
  · have := hfit.1
    rcases hl with hl | hl
    · exact hlt (fun h => absurd h hl)
    · have : ¬ y < A (k + 1) := fun q => hlt (fun _ => q)
      omega

theorem full_next (o : Option Int) (hs : Scan n A F f t size h k o) (h0 : 1 ≤ h) (hf : F k < size) (hl : k + 1 < n) (inc : Inc n A) : Scan n A F f t size h (k + 1) none := by
  have hfa : f < A (k + 1) := by
    cases o with
    | none => exact hs.2.1 hl
    | some x => exact hs.2.1 hl
  refine ⟨hl, fun h2 => ?_, fun y hy hlt => scan_full o hs h0 hf y hy (fun _ => by omega)⟩
  have := inc (k + 1) (k + 2) (by omega) h2
  show f < A (k + 2)
  omega

/-- Where the stretch is open from, behind step k that has room. -/
def openAt (f a : Int) : Option Int → Int
  | none => max a f
  | some x => x

/-- What is known of it. -/
def Opened (n : Nat) (A F : Nat → Int) (f t size h : Int) (k : Nat) (x : Int) : Prop :=
  k < n ∧ (k + 1 < n → f < A (k + 1)) ∧ Cand n A f x ∧ f ≤ x ∧ (∀ y, Cand n A f y → y < x → ¬ Fit n A F t size h y) ∧ (∀ j, j < k + 1 → (j = k ∨ x < A (j + 1)) → size ≤ F j) ∧ A k < x + h

theorem scan_open (o : Option Int) (hs : Scan n A F f t size h k o) (h0 : 1 ≤ h) (hf : ¬ F k < size) (inc : Inc n A) : Opened n A F f t size h k (openAt f (A k) o) := by
  cases o with
  | none =>
    obtain ⟨hk, hn, hb⟩ := hs
    show Opened n A F f t size h k (max (A k) f)
    refine ⟨hk, hn, ?_, by omega, fun y hy hlt => hb y hy (by omega), fun j hj hx => ?_, by omega⟩
    · by_cases hfa : f < A k
      · exact .inr ⟨k, hk, by omega, hfa⟩
      · exact .inl (by omega)
    · by_cases e : j = k
      · subst e; omega
      · have := inc.le (i := j + 1) (j := k) (by omega) hk
        rcases hx with hx | hx <;> omega
  | some x =>
    obtain ⟨hk, hn, hc, hfx, hb, hj, hA, ht⟩ := hs
    show Opened n A F f t size h k x
    refine ⟨hk, hn, hc, hfx, hb, fun j hjk hx => ?_, hA⟩
    by_cases e : j = k
    · subst e; omega
    · exact hj j (by omega) (hx.resolve_left e)

theorem open_late {x : Int} (ho : Opened n A F f t size h k x) (hl : t < x + h) : Ans n A F f t size h none := by
  intro y hy hfit
  by_cases hlt : y < x
  · exact ho.2.2.2.2.1 y hy hlt hfit
  · have := hfit.1
    omega

theorem open_fits {x : Int} (ho : Opened n A F f t size h k x) (ht : ¬ t < x + h) (hl : ¬ k + 1 < n ∨ x + h ≤ A (k + 1)) (inc : Inc n A) : Ans n A F f t size h (some x) := by
  obtain ⟨hk, hn, hc, hfx, hb, hj, hA⟩ := ho
  refine ⟨hc, ⟨by omega, fun j hjn hAj hx => ?_⟩, hb⟩
  by_cases hjk : j ≤ k
  · by_cases hj1 : j + 1 < n
    · exact hj j (by omega) (.inr (hx hj1))
    · exact hj j (by omega) (.inl (by omega))
  · have := inc.le (i := k + 1) (j := j) (by omega) hjn
    omega

theorem open_next {x : Int} (ho : Opened n A F f t size h k x) (ht : ¬ t < x + h) (hl : k + 1 < n) (ha : A (k + 1) < x + h) (inc : Inc n A) : Scan n A F f t size h (k + 1) (some x) := by
  obtain ⟨hk, hn, hc, hfx, hb, hj, hA⟩ := ho
  refine ⟨hl, fun h2 => ?_, hc, hfx, hb, fun j h3 h4 => hj j h3 (.inr h4), ha, by omega⟩
  have := inc (k + 1) (k + 2) (by omega) h2
  have := hn hl
  show f < A (k + 2)
  omega

end Go.Proofs.Ybulkafoa
