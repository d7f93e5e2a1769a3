/-
  THE PLAIN LAW: a set tree is what the check wants.
-/
import Derived.Test.YbulkafoaCheck
namespace Go.Proofs.Ybulkafoa

/-- i lies on the way from j up to the root. -/
inductive Up : Nat → Nat → Prop where
  | here (j : Nat) : 1 ≤ j → Up j j
  | above (j i : Nat) : 1 ≤ j → Up (j / 2) i → Up j i

theorem Up.le {j i : Nat} (h : Up j i) : 1 ≤ i ∧ i ≤ j := by
  induction h with
  | here j hj => exact ⟨hj, Nat.le_refl _⟩
  | above j i _ _ ih => omega
theorem Up.cases' {j i : Nat} (h : Up j i) : i = j ∨ Up (j / 2) i := by
  cases h with
  | here hj => exact .inl rfl
  | above _ _ hj h => exact .inr h

theorem getD_set_self (zs : List Int) (p : Nat) (x : Int) (h : p < zs.length) : (zs.set p x).getD p 0 = x := by simp [List.getD, h]
theorem getD_set_ne (zs : List Int) (p i : Nat) (x : Int) (h : p ≠ i) : (zs.set p x).getD i 0 = zs.getD i 0 := by simp [List.getD, List.getElem?_set_ne h]
theorem getB_set_self (zs : List Bool) (p : Nat) (x : Bool) (h : p < zs.length) : (zs.set p x).getD p false = x := by simp [List.getD, h]
theorem getB_set_ne (zs : List Bool) (p i : Nat) (x : Bool) (h : p ≠ i) : (zs.set p x).getD i false = zs.getD i false := by simp [List.getD, List.getElem?_set_ne h]

theorem climb_law (k : Nat) : ∀ (zs : List Int), k < zs.length →
    (∀ i, ¬ Up (k / 2) i → (climb k k zs).getD i 0 = zs.getD i 0) ∧ (∀ i, Up (k / 2) i → (climb k k zs).getD i 0 = max ((climb k k zs).getD (2 * i) 0) ((climb k k zs).getD (2 * i + 1) 0)) := by
  induction k using Nat.strongRecOn with
  | _ k ih =>
    intro zs hk
    by_cases h1 : 1 < k
    · rw [climb_step k zs h1]
      generalize hx : max (zs.getD (2 * (k / 2)) 0) (zs.getD (2 * (k / 2) + 1) 0) = x
      obtain ⟨ha, hb⟩ := ih (k / 2) (by omega) (zs.set (k / 2) x) (by simp; omega)
      refine ⟨fun i hi => ?_, fun i hi => ?_⟩
      · have n1 : k / 2 ≠ i := fun e => hi (e ▸ Up.here _ (by omega))
        rw [ha i (fun h => hi (Up.above _ _ (by omega) h)), getD_set_ne _ _ _ _ n1]
      · rcases hi.cases' with rfl | h
        · rw [ha _ (fun h => by have := h.le; omega), getD_set_self _ _ _ (by omega), ha (2 * (k / 2)) (fun h => by have := h.le; omega), ha (2 * (k / 2) + 1) (fun h => by have := h.le; omega), getD_set_ne _ _ _ _ (by omega), getD_set_ne _ _ _ _ (by omega), hx]
        · exact hb i h
    · have hz : k / 2 = 0 := by omega
      rw [climb_one k zs (by omega), hz]
      exact ⟨fun _ _ => rfl, fun i hi => by have := hi.le; omega⟩

theorem mark_law (k : Nat) : ∀ (ps : List Bool), k < ps.length → ∀ i, ((mark k k ps).getD i false = true ↔ (ps.getD i false = true ∨ Up k i)) := by
  induction k using Nat.strongRecOn with
  | _ k ih =>
    intro ps hk i
    by_cases h1 : 1 ≤ k
    · rw [mark_step k ps h1, ih (k / 2) (by omega) _ (by simp; omega)]
      by_cases hki : k = i
      · subst hki
        rw [getB_set_self _ _ _ hk]
        exact ⟨fun _ => .inr (.here _ h1), fun _ => .inl rfl⟩
      · rw [getB_set_ne _ _ _ _ hki]
        refine ⟨fun h => h.imp id (fun h => Up.above _ _ h1 h), fun h => h.imp id (fun h => ?_)⟩
        rcases h.cases' with e | h
        · exact absurd e.symm hki
        · exact h
    · rw [mark_zero k ps h1]
      exact ⟨.inl, fun h => h.resolve_right (fun h => by have := h.le; omega)⟩

theorem mark_length : ∀ (f k : Nat) (ps : List Bool), (mark f k ps).length = ps.length
  | 0, _, _ => rfl
  | f + 1, k, ps => by
    simp only [mark]
    split
    · rw [mark_length f]; simp
    · rfl

theorem tree_law (B : List Int) (n l k : Nat) (v : Int) (hB : B.length = n) (hn : n = 2 * l) (hk1 : 1 ≤ k) (hk : k < n) :
    (setTree B k v).getD 0 0 = B.getD 0 0 ∧ (mark (k / 2) (k / 2) (List.replicate n false)).length = n ∧ (∀ i, (mark (k / 2) (k / 2) (List.replicate n false)).getD i false = true → 2 * i + 1 < n) ∧
      ∀ i, 1 ≤ i → i < n → wants (setTree B k v) B (mark (k / 2) (k / 2) (List.replicate n false)) k v i := by
  obtain ⟨ha, hb⟩ := climb_law k (B.set k v) (by simp; omega)
  have hm : ∀ i, ((mark (k / 2) (k / 2) (List.replicate n false)).getD i false = true ↔ Up (k / 2) i) := by
    intro i
    rw [mark_law (k / 2) _ (by simp; omega) i]
    refine ⟨fun h => h.resolve_left ?_, .inr⟩
    simp [List.getD, List.getElem?_replicate]
    split <;> simp
  refine ⟨?_, by rw [mark_length]; simp, fun i hi => ?_, fun i h1 h2 => ?_⟩
  · unfold setTree
    rw [ha 0 (fun h => by have := h.le; omega), getD_set_ne _ _ _ _ (by omega)]
  · have := ((hm i).1 hi).le
    omega
  · unfold wants setTree
    by_cases hik : i = k
    · subst hik
      rw [if_pos rfl, ha i (fun h => by have := h.le; omega), getD_set_self _ _ _ (by omega)]
    · rw [if_neg hik]
      by_cases hu : Up (k / 2) i
      · rw [if_pos ((hm i).2 hu)]
        exact hb i hu
      · rw [if_neg (fun h => hu ((hm i).1 h)), ha i hu, getD_set_ne _ _ _ _ (fun e => hik e.symm)]

end Go.Proofs.Ybulkafoa
