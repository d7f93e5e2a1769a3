/-
  THE WALK OF zzs1570cleast.
-/
import Derived.Test.YbulkafmkW1
import Derived.Laws.CopyOwn
namespace Go.Proofs.Ybulkafmk
open Go.RowKit

/-- A slice of floats that came in: no element, or each element's cell. -/
def IsRowF (w : World) (a : Option Addr) (len : Nat) (z : Nat → Nat) : Prop :=
  len = 0 ∨ ∃ x, a = some x ∧ ∀ i, i < len → w.cell? (x.add i) = some (.float .f64 (z i))

/-- What zzs1570cleast leaves: a slice of its own with at least one element, all floats; nothing old has turned. -/
def Least (w : World) (e : Ending) (w' : World) : Prop :=
  ∃ (m : Nat) (bs : Nat → Nat), 0 < m ∧ m ≤ 1024 ∧ e = .returned (.slice (some ⟨w.heap.size, 0, none⟩) m m) ∧ Below w.heap.size w w' ∧ w.heap.size < w'.heap.size ∧
    ∀ i, i < m → w'.cell? ⟨w.heap.size, i, none⟩ = some (.float .f64 (bs i))

set_option maxHeartbeats 400000 in
theorem least_zero (a : Option Addr) (cap x : Nat) (w : World) :
    Calls Yba.prog 5 #[.slice a 0 cap, .float .f64 x] w (Least w) := by
  go_enter Yba.func5, Yba.ntmps5
  go_wp2
  go_ret
  refine ⟨1, fun _ => x, by omega, by omega, rfl, (Below.refl _ _).alloc (Nat.le_refl _) _, by simp, ?_⟩
  intro i hi
  obtain rfl : i = 0 := by omega
  simp

theorem Yba.info23 : (Yba.prog.info? 23).map (fun i => (i.zero, i.size, i.bytes)) = some (some (.float .f64 0), 1, 8) := by kernel_rfl
theorem Yba.size23 : (Yba.prog.info? 23).map (·.size) = some 1 := by kernel_rfl

theorem row_of_own {w : World} {B g n c : Nat} {xs : List Value} (h : w.ownsRow B 23 1 (.slice (some ⟨g, 0, none⟩) n c) n xs) (hn : 0 < n) : ∃ cur : List Value, w.heap[g]? = some (.cells cur.toArray 23 (0, 0)) ∧ cur.length = c := by
  rcases h.2 with ⟨_, h0⟩ | ⟨g', cap, cur, hv, _, hh, _, _, hs, _⟩
  · omega
  · simp only [Value.slice.injEq, Option.some.injEq, Addr.mk.injEq] at hv
    obtain ⟨⟨rfl, _⟩, _, rfl⟩ := hv
    exact ⟨cur.toList, by simpa using hh, by simpa using hs⟩

set_option maxHeartbeats 400000 in
theorem least_pos (a : Addr) (len cap x : Nat) (z : Nat → Nat) (w : World) (h0 : 0 < len) (h1 : len ≤ 1024) (hc : ∀ i, i < len → w.cell? (a.add i) = some (.float .f64 (z i))) :
    Calls Yba.prog 5 #[.slice (some a) len cap, .float .f64 x] w (Least w) := by
  obtain ⟨i0, hi, hz0, hz1, hz2⟩ := info_parts Yba.info23
  have hl0 : ((len : Int) == 0) = false := by simp; omega
  obtain ⟨cs, hcs⟩ : ∃ cs, cs = (List.range len).map fun i => Value.float .f64 (z i) := ⟨_, rfl⟩
  have hcl : cs.length = len := by subst hcs; simp
  have hcg : ∀ j v, cs[j]? = some v → w.cell? (a.add j) = some v := by
    intro j v hv
    subst hcs
    have hj : j < len := by
      rcases Nat.lt_or_ge j len with h | h
      · exact h
      · rw [List.getElem?_eq_none (by simpa using h)] at hv; cases hv
    simp [hj] at hv
    rw [hc j hj, ← hv]
  have hone : ∀ v ∈ cs, v.oneCell' = true := by
    intro v hv
    subst hcs
    simp at hv
    obtain ⟨j, _, rfl⟩ := hv
    rfl
  have hblk : ∀ j v, cs[j]? = some v → (a.add j).block < w.heap.size := fun j v hv => block_lt_of_cell (hcg j v hv)
  have HCS : Hid (cs = (List.range len).map fun i => Value.float .f64 (z i)) := hcs
  have HCL : Hid (cs.length = len) := hcl
  clear hcs hcl hc
  go_enter Yba.func5, Yba.ntmps5
  go_wp2_with (first
    | (at_make; refine wpList_make_full _ rfl (.tmp 12) (.tmp 12) 22 rfl w.heap.size 23 i0 (.float .f64 0) 1 Yba.underlying22 hi hz0 hz1 .i64 .i64 _ _ len rfl rfl rfl rfl (by rw [hz2]; omega) (by unfold maxLen; omega) (Nat.le_refl _) ?_; intro w1 hown1 hg1; obtain ⟨cur, hcur, hsz⟩ := row_of_own hown1 h0; clear hown1)
    | (have _t := hcur; refine wpList_copy_splice rfl (.tmp 14) (.tmp 15) 22 22 rfl 23 Yba.underlying22 Yba.size23 _ _ _ _ _ _ rfl rfl w.heap.size 0 cur 23 hcur cs ?c1 ?c2 ?c3 hone w.heap.size w ?c4 (Nat.le_refl _) ?_))
  case c1 => rw [HCL.out]; simp
  case c2 =>
    intro _ j v hv
    rw [← hcg j v hv]
    exact ((Below.refl _ _).grown hg1 (Nat.le_refl _) (fun k hk => by cases hk)).cell (hblk j v hv)
  case c3 => rw [HCL.out, hsz]; omega
  case c4 => exact (Below.refl _ _).grown hg1 (Nat.le_refl _) (fun k hk => by cases hk)
  intro w2 hw2 hb2
  have hlt : w.heap.size < w2.heap.size := (Array.getElem?_eq_some_iff.1 hw2.out).1
  clear hcg hone hblk hg1 hcur
  go_wp2
  go_ret
  refine ⟨len, z, h0, h1, rfl, hb2, hlt, ?_⟩
  intro i hi'
  rw [cell_of_row w2 _ i _ _ _ hw2.out]
  have e : splice cur 0 cs = cs := by
    unfold splice
    simp
    have := HCL.out
    omega
  rw [e, HCS.out]
  simp [hi']

end Go.Proofs.Ybulkafmk
