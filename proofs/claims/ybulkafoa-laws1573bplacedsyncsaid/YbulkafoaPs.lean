/-
  LawS1573BPlacedSync: the walk.
-/
import Derived.Test.YbulkafoaBld
import Derived.Test.YbulkafoaClone
import Derived.Test.YbulkafoaTree
namespace Go.Proofs.Ybulkafoa
open Go.RowKit Go.Deep

/-- What the walk reads, world by world. -/
structure Live (w w' : World) (m b bb ob l : Nat) (mn mx : Int) (q : Nat) : Prop where
  prof : Prof w' (w.heap.size + 3) w.heap.size (w.heap.size + 1) (w.heap.size + 2) m (2 * l) l
  c3 : w'.cell? ⟨w.heap.size + 2, b * 9 + 3, none⟩ = some (.int .i64 mn)
  c4 : w'.cell? ⟨w.heap.size + 2, b * 9 + 4, none⟩ = some (.int .i64 mx)
  c7 : w'.cell? ⟨w.heap.size + 2, b * 9 + 7, none⟩ = some (.int .i32 (q : Int))
  d0 : w'.cell? ⟨bb, ob + b * 3, none⟩ = some (.int .i64 mn)
  d1 : w'.cell? ⟨bb, ob + b * 3 + 1, none⟩ = some (.int .i64 mx)
  bel : Below w.heap.size w w'
  size : w.heap.size + 4 ≤ w'.heap.size
  blt : bb < w.heap.size

theorem Live.below {w w1 w2 : World} {m b bb ob l q : Nat} {mn mx : Int} (h : Live w w1 m b bb ob l mn mx q) (k : Below w1.heap.size w1 w2) : Live w w2 m b bb ob l mn mx q := by
  have hs := h.size
  have hb := h.blt
  have c : ∀ (g o : Nat) (v : Value), g < w.heap.size + 4 → w1.cell? ⟨g, o, none⟩ = some v → w2.cell? ⟨g, o, none⟩ = some v := fun g o v hg e => (k.cell (p := ⟨g, o, none⟩) (by show g < _; omega)).trans e
  exact ⟨⟨c _ _ _ (by omega) h.prof.blocks, c _ _ _ (by omega) h.prof.tops, c _ _ _ (by omega) h.prof.topsN, c _ _ _ (by omega) h.prof.placed, c _ _ _ (by omega) h.prof.lows, c _ _ _ (by omega) h.prof.lowsN⟩,
    c _ _ _ (by omega) h.c3, c _ _ _ (by omega) h.c4, c _ _ _ (by omega) h.c7, c _ _ _ (by omega) h.d0, c _ _ _ (by omega) h.d1, h.bel.trans (k.mono (by omega)), Nat.le_trans hs k.size, hb⟩

theorem Live.grown {w w1 w2 : World} {m b bb ob l q g : Nat} {mn mx : Int} (h : Live w w1 m b bb ob l mn mx q) (k : w1.grownBy w2 (some g)) (hg : g = w.heap.size ∨ g = w.heap.size + 1) : Live w w2 m b bb ob l mn mx q := by
  have hs := h.size
  have hb := h.blt
  have c : ∀ (p o : Nat) (v : Value), p ≠ g → w1.cell? ⟨p, o, none⟩ = some v → w2.cell? ⟨p, o, none⟩ = some v := fun p o v hp e => k.cell e (by simpa using hp)
  exact ⟨⟨c _ _ _ (by omega) h.prof.blocks, c _ _ _ (by omega) h.prof.tops, c _ _ _ (by omega) h.prof.topsN, c _ _ _ (by omega) h.prof.placed, c _ _ _ (by omega) h.prof.lows, c _ _ _ (by omega) h.prof.lowsN⟩,
    c _ _ _ (by omega) h.c3, c _ _ _ (by omega) h.c4, c _ _ _ (by omega) h.c7, c _ _ _ (by omega) h.d0, c _ _ _ (by omega) h.d1, h.bel.grown k (by omega) (by intro k hk; simp at hk; omega), Nat.le_trans hs k.size, hb⟩

theorem Live.drew {w w1 : World} {m b bb ob l q : Nat} {mn mx : Int} (h : Live w w1 m b bb ob l mn mx q) : Live w w1.drew m b bb ob l mn mx q :=
  ⟨⟨h.prof.blocks, h.prof.tops, h.prof.topsN, h.prof.placed, h.prof.lows, h.prof.lowsN⟩, h.c3, h.c4, h.c7, h.d0, h.d1, h.bel.drew, h.size, h.blt⟩

/-- A clone: where it lies, what it holds. -/
theorem clone_at {w' : World} {B n : Nat} {v : Value} {zs : List Int} (h : w'.ownsRow B 2 1 v n (ints zs)) (hn : v ≠ .slice none 0 0) :
    ∃ g c, v = .slice (some ⟨g, 0, none⟩) n c ∧ B ≤ g ∧ g < w'.heap.size ∧ ∀ i, i < n → w'.cell? ⟨g, i, none⟩ = some (.int .i64 (zs.getD i 0)) := by
  obtain ⟨hl, h0 | ⟨g, c, cur, rfl, hb, hrow, hnc, hcm, hsz, htk⟩⟩ := h
  · exact absurd h0.1 hn
  · refine ⟨g, c, rfl, hb, (Array.getElem?_eq_some_iff.1 hrow).1, fun i hi => ?_⟩
    have hzl : zs.length = n := by simpa [ints] using hl
    rw [cell_of_row w' g i _ _ _ hrow, ← ints_get zs i (by omega), ← htk]
    simp [hi]

theorem rem_nat (x : Int) (l : Nat) (h1 : 1 ≤ l) : ∃ q : Nat, x % (l : Int) = (q : Int) ∧ q < l := by
  have a := Int.emod_nonneg x (b := (l : Int)) (by omega)
  have b := Int.emod_lt_of_pos x (b := (l : Int)) (by omega)
  exact ⟨(x % (l : Int)).toNat, by omega, by omega⟩

set_option maxHeartbeats 400000 in
theorem law_short (e s : Int) (ai ab : Option Addr) (ni ci m cb : Nat) (w : World) (h : 1024 < m ∨ 1024 < ni ∨ m = 0) (hm : (m : Int) ≤ 9223372036854775807) (hn : (ni : Int) ≤ 9223372036854775807) :
    Calls Yba.prog 5 #[.int .u8 e, .slice ai ni ci, .slice ab m cb, .int .u8 s] w fun e w' => e = .returned (.bool true) ∧ Below w.heap.size w w' := by
  by_cases h1 : 1024 < m
  · go_enter Yba.func5, Yba.ntmps5
    go_wp2
    go_ret
    exact ⟨rfl, Below.refl _ _⟩
  · by_cases h2 : 1024 < ni
    · go_enter Yba.func5, Yba.ntmps5
      go_wp2
      go_ret
      exact ⟨rfl, Below.refl _ _⟩
    · obtain rfl : m = 0 := by omega
      go_enter Yba.func5, Yba.ntmps5
      go_wp2
      go_ret
      exact ⟨rfl, Below.refl _ _⟩

end Go.Proofs.Ybulkafoa
