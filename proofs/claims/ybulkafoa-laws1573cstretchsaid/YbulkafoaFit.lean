/-
  LawS1573CStretch: THE PLAIN LAW, and zzs1573cfits, zzs1573cmodel BY THEIR CONTRACTS.
-/
import Derived.Test.YbulkafoaRow
namespace Go.Proofs.Ybulkafoa
open Go.RowKit

/-- Every step that meets [x, x + h) has size or more free, and x + h is at or before t. -/
def Fit (n : Nat) (A F : Nat → Int) (t size h x : Int) : Prop :=
  x + h ≤ t ∧ ∀ j, j < n → A j < x + h → (j + 1 < n → x < A (j + 1)) → size ≤ F j
def Cand (n : Nat) (A : Nat → Int) (from' y : Int) : Prop := y = from' ∨ ∃ j, j < n ∧ y = A j ∧ from' < A j
/-- r is the least candidate that fits, if any does. -/
def Ans (n : Nat) (A F : Nat → Int) (from' t size h : Int) : Option Int → Prop
  | some x => Cand n A from' x ∧ Fit n A F t size h x ∧ ∀ y, Cand n A from' y → y < x → ¬ Fit n A F t size h y
  | none => ∀ y, Cand n A from' y → ¬ Fit n A F t size h y

theorem Ans.unique {n : Nat} {A F : Nat → Int} {from' t size h : Int} : ∀ {r s : Option Int}, Ans n A F from' t size h r → Ans n A F from' t size h s → r = s
  | none, none, _, _ => rfl
  | none, some x, a, b => absurd b.2.1 (a x b.1)
  | some x, none, a, b => absurd a.2.1 (b x a.1)
  | some x, some y, a, b => by
    rcases Int.lt_trichotomy x y with h | h | h
    · exact absurd a.2.1 (b.2.2 x a.1 h)
    · rw [h]
    · exact absurd b.2.1 (a.2.2 y b.1 h)

/-- Strictly increasing, as far as n. -/
def Inc (n : Nat) (A : Nat → Int) : Prop := ∀ i j, i < j → j < n → A i < A j
theorem Inc.le {n : Nat} {A : Nat → Int} (h : Inc n A) {i j : Nat} (hij : i ≤ j) (hj : j < n) : A i ≤ A j := by
  rcases Nat.lt_or_ge i j with k | k
  · exact Int.le_of_lt (h i j k hj)
  · obtain rfl : i = j := by omega
    exact Int.le_refl _

/-- The loop of fits has found the step of x. -/
theorem fit_iff {n : Nat} {A F : Nat → Int} {t size h x : Int} {i : Nat} (inc : Inc n A) (hi : i < n) (h1 : A i ≤ x) (h2 : i + 1 < n → x < A (i + 1)) (ht : x + h ≤ t) :
    Fit n A F t size h x ↔ ∀ j, i ≤ j → j < n → A j < x + h → size ≤ F j := by
  refine ⟨fun hf j hij hj hA => hf.2 j hj hA (fun hj1 => ?_), fun hf => ⟨ht, fun j hj hA he => ?_⟩⟩
  · have := h2 (by omega)
    have := inc.le (i := i + 1) (j := j + 1) (by omega) hj1
    omega
  · by_cases hij : i ≤ j
    · exact hf j hij hj hA
    · have := he (by omega)
      have := inc.le (i := j + 1) (j := i) (by omega) hi
      omega

end Go.Proofs.Ybulkafoa
