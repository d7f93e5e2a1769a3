/-
  LawS1573CStretch: the profile's value, the rows that the law makes.
-/
import Derived.Test.YbulkafoaBuild
import Derived.Test.YbulkafoaRow
import Derived.Deep.OwnRows
namespace Go.Proofs.Ybulkafoa
open Go.RowKit Go.Deep

theorem prof2_run (a b c d : Option Addr) (n : Nat) (w : World) :
    (Instr.build 61 #[(0, .slice a n n), (1, .slice b n n), (12, .slice c 1 1), (14, .slice d 1 1)]).run Yba.prog w = .ok (.agg (builtBy Yba.prog 61 #[(0, .slice a n n), (1, .slice b n n), (12, .slice c 1 1), (14, .slice d 1 1)])) w := by kernel_rfl
theorem prof2_value (a b c d : Option Addr) (n : Nat) :
    ∃ V : Array Value, (∀ w : World, (Instr.build 61 #[(0, .slice a n n), (1, .slice b n n), (12, .slice c 1 1), (14, .slice d 1 1)]).run Yba.prog w = .ok (.agg V) w) ∧
      V[0]? = some (.slice a n n) ∧ V[1]? = some (.slice b n n) ∧ V[1799]? = some (.int .i32 0) ∧ V[1800]? = some (.int .i32 0) ∧ V[1803]? = some (.slice c 1 1) ∧ V[1805]? = some (.slice d 1 1) :=
  ⟨_, prof2_run a b c d n, by kernel_rfl, by kernel_rfl, by kernel_rfl, by kernel_rfl, by kernel_rfl, by kernel_rfl⟩

theorem Yba.info49 : (Yba.prog.info? 49).map (fun i => (i.zero, i.size, i.bytes)) = some (some (.int .u64 0), 1, 8) := by kernel_rfl
theorem Yba.info21 : (Yba.prog.info? 21).map (fun i => (i.zero, i.size, i.bytes)) = some (some (.int .i32 0), 1, 4) := by kernel_rfl
theorem Yba.info75 : (Yba.prog.info? 75).map (fun i => (i.zero.isSome, i.size, i.bytes)) = some (true, 5, 32) := by kernel_rfl

theorem make_links (n : Nat) (hn : n ≤ 300) : ∃ C : List Value, C.length = n * 5 ∧ ∀ w : World, (Instr.makeSlice 45 (.int .i64 (n : Int)) (.int .i64 (n : Int))).run Yba.prog w = .ok (.slice (some ⟨w.heap.size, 0, none⟩) n n) (w.alloc (.cells C.toArray 75)) := by
  obtain ⟨i, hi, hz⟩ := Option.map_eq_some_iff.1 Yba.info75
  simp only [Prod.mk.injEq] at hz
  obtain ⟨h1, h2, h3⟩ := hz
  obtain ⟨z, hz⟩ := Option.isSome_iff_exists.1 h1
  refine ⟨(madeCells z.cells (n * 5)).toList, by simp [size_madeCells], fun w => ?_⟩
  have h := run_make (P := Yba.prog) w 45 75 i z Yba.underlying45 hi hz .i64 .i64 n n (by omega) (Int.le_refl _) (by rw [h3]; omega) (by omega)
  rw [h2] at h
  simpa using h

def u64s (zs : List Int) : List Value := zs.map (.int .u64)
theorem u64s_get (zs : List Int) (i : Nat) (h : i < zs.length) : (u64s zs)[i]? = some (.int .u64 (zs.getD i 0)) := by simp [u64s, List.getD, h]
theorem u64s_set (zs : List Int) (i : Nat) (v : Int) : (u64s zs).set i (.int .u64 v) = u64s (zs.set i v) := by simp [u64s]
theorem u64s_cell {w : World} {g : Nat} {t : TypeId} {zs : List Int} (h : RowIs w g t (u64s zs)) {i : Nat} (hi : i < zs.length) : w.cell? ⟨g, i, none⟩ = some (.int .u64 (zs.getD i 0)) := by rw [h.cell, u64s_get zs i hi]

theorem made_row2 (w : World) (t : TypeId) (z : Value) (n : Nat) : RowIs (w.alloc (.cells (madeCells #[z] n) t)) w.heap.size t (List.replicate n z) := by
  unfold RowIs
  rw [← toList_madeCells_one z n]
  show (w.heap.push _)[w.heap.size]? = _
  simp
theorem new_row2 (w : World) (t : TypeId) (L : List Value) : RowIs (w.alloc (.cells L.toArray t)) w.heap.size t L := by
  unfold RowIs
  show (w.heap.push _)[w.heap.size]? = _
  simp

/-- The offsets so far. -/
def Rising (L : List Int) (i : Nat) : Prop := L.getD 0 0 = 0 ∧ (∀ a b, a < b → b < i → L.getD a 0 < L.getD b 0) ∧ ∀ j, j < i → 0 ≤ L.getD j 0 ∧ L.getD j 0 ≤ 256 * j

theorem rising_start (n : Nat) : Rising (List.replicate n 0) 1 := by
  have e : ∀ j, (List.replicate n (0 : Int)).getD j 0 = 0 := fun j => by simp [List.getD, List.getElem?_replicate]; split <;> rfl
  exact ⟨e 0, fun a b h1 h2 => by omega, fun j hj => by rw [e j]; omega⟩
theorem rising_next {L : List Int} {i : Nat} {g : Int} (h : Rising L i) (hi1 : 1 ≤ i) (hi : i < L.length) (g1 : 1 ≤ g) (g2 : g ≤ 256) : Rising (L.set i (L.getD (i - 1) 0 + g)) (i + 1) := by
  have self : (L.set i (L.getD (i - 1) 0 + g)).getD i 0 = L.getD (i - 1) 0 + g := by simp [List.getD, hi]
  have ne : ∀ j, j ≠ i → (L.set i (L.getD (i - 1) 0 + g)).getD j 0 = L.getD j 0 := fun j hj => by simp [List.getD, List.getElem?_set_ne (Ne.symm hj)]
  obtain ⟨h0, h1, h2⟩ := h
  refine ⟨by rw [ne 0 (by omega)]; exact h0, fun a b hab hb => ?_, fun j hj => ?_⟩
  · by_cases e : b = i
    · subst e
      rw [self, ne a (by omega)]
      by_cases e2 : a = b - 1
      · subst e2; omega
      · have := h1 a (b - 1) (by omega) (by omega)
        omega
    · rw [ne a (by omega), ne b e]
      exact h1 a b hab (by omega)
  · by_cases e : j = i
    · subst e
      rw [self]
      have := h2 (j - 1) (by omega)
      omega
    · rw [ne j e]
      exact h2 j (by omega)

/-- Link j's five cells. -/
def five (L : List Value) (j : Nat) (a b : Int) (p q : Int) : List Value :=
  ((((L.set (j * 5) (.int .u64 0)).set (j * 5 + 1) (.int .u64 a)).set (j * 5 + 2) (.int .i64 b)).set (j * 5 + 3) (.int .i32 p)).set (j * 5 + 4) (.int .i32 q)
theorem five_length (L : List Value) (j : Nat) (a b p q : Int) : (five L j a b p q).length = L.length := by simp [five]
theorem five_self (L : List Value) (j : Nat) (a b p q : Int) (h : j * 5 + 5 ≤ L.length) : (five L j a b p q)[j * 5]? = some (.int .u64 0) ∧ (five L j a b p q)[j * 5 + 1]? = some (.int .u64 a) ∧ (five L j a b p q)[j * 5 + 2]? = some (.int .i64 b) ∧ (five L j a b p q)[j * 5 + 4]? = some (.int .i32 q) := by
  unfold five
  refine ⟨?_, ?_, ?_, ?_⟩
  all_goals
    repeat rw [List.getElem?_set_ne (by omega)]
    rw [List.getElem?_set_self (by first | omega | (simp; omega))]
theorem five_other (L : List Value) (j i o : Nat) (a b p q : Int) (h : i < j) (ho : o < 5) : (five L j a b p q)[i * 5 + o]? = L[i * 5 + o]? := by
  unfold five
  repeat rw [List.getElem?_set_ne (by omega)]
theorem row_five {wr : World} {g j : Nat} {L : List Value} {a b p q : Int} (h : RowIs wr g 75 L) :
    RowIs (((((wr.setCell ⟨g, j * 5, none⟩ (.int .u64 0)).setCell ⟨g, j * 5 + 1, none⟩ (.int .u64 a)).setCell ⟨g, j * 5 + 2, none⟩ (.int .i64 b)).setCell ⟨g, j * 5 + 3, none⟩ (.int .i32 p)).setCell ⟨g, j * 5 + 4, none⟩ (.int .i32 q)) g 75 (five L j a b p q) := by
  have h1 := h.set (j * 5) (.int .u64 0)
  have h2 := h1.set (j * 5 + 1) (.int .u64 a)
  have h3 := h2.set (j * 5 + 2) (.int .i64 b)
  have h4 := h3.set (j * 5 + 3) (.int .i32 p)
  have h5 := h4.set (j * 5 + 4) (.int .i32 q)
  unfold five
  exact h5
theorem grown_five {w1 wr : World} {g j : Nat} {a b p q : Value} {z : Value} (h : w1.grownBy wr (some g)) :
    w1.grownBy (((((wr.setCell ⟨g, j * 5, none⟩ z).setCell ⟨g, j * 5 + 1, none⟩ a).setCell ⟨g, j * 5 + 2, none⟩ b).setCell ⟨g, j * 5 + 3, none⟩ p).setCell ⟨g, j * 5 + 4, none⟩ q) (some g) := by
  have h1 := grownBy_trans h (grownBy_setCell wr g (j * 5) z)
  have h2 := grownBy_trans h1 (grownBy_setCell _ g (j * 5 + 1) a)
  have h3 := grownBy_trans h2 (grownBy_setCell _ g (j * 5 + 2) b)
  have h4 := grownBy_trans h3 (grownBy_setCell _ g (j * 5 + 3) p)
  exact grownBy_trans h4 (grownBy_setCell _ g (j * 5 + 4) q)

end Go.Proofs.Ybulkafoa
