/-
  zzs1573bcheck BY ITS CONTRACT.
-/
import Derived.Test.YbulkafoaRow
import Derived.Deep.OwnRows
namespace Go.Proofs.Ybulkafoa
open Go.RowKit Go.Deep

theorem Yba.info4 : (Yba.prog.info? 4).map (fun i => (i.zero, i.size, i.bytes)) = some (some (.bool false), 1, 1) := by kernel_rfl

def bools (ps : List Bool) : List Value := ps.map .bool
theorem bools_get (ps : List Bool) (i : Nat) (h : i < ps.length) : (bools ps)[i]? = some (.bool (ps.getD i false)) := by simp [bools, List.getD, h]
theorem bools_set (ps : List Bool) (i : Nat) (v : Bool) : (bools ps).set i (.bool v) = bools (ps.set i v) := by simp [bools]
theorem bools_cell {w : World} {g : Nat} {t : TypeId} {ps : List Bool} (h : RowIs w g t (bools ps)) {i : Nat} (hi : i < ps.length) : w.cell? ⟨g, i, none⟩ = some (.bool (ps.getD i false)) := by rw [h.cell, bools_get ps i hi]

/-- The path from node k up to the root is marked. -/
def mark : Nat → Nat → List Bool → List Bool
  | 0, _, ps => ps
  | f + 1, k, ps => if 1 ≤ k then mark f (k / 2) (ps.set k true) else ps
theorem mark_fuel : ∀ (f f' k : Nat) (ps : List Bool), k ≤ f → k ≤ f' → mark f k ps = mark f' k ps
  | 0, f', k, ps, h, _ => by
    obtain rfl : k = 0 := by omega
    cases f' <;> simp [mark]
  | f + 1, 0, k, ps, _, h => by
    obtain rfl : k = 0 := by omega
    simp [mark]
  | f + 1, f' + 1, k, ps, h, h' => by
    simp only [mark]
    split
    · exact mark_fuel f f' _ _ (by omega) (by omega)
    · rfl
theorem mark_step (k : Nat) (ps : List Bool) (h : 1 ≤ k) : mark k k ps = mark (k / 2) (k / 2) (ps.set k true) := by
  obtain ⟨f, rfl⟩ : ∃ f, k = f + 1 := ⟨k - 1, by omega⟩
  simp only [mark]
  rw [if_pos h]
  exact mark_fuel _ _ _ _ (by omega) (by omega)
theorem mark_zero (k : Nat) (ps : List Bool) (h : ¬ 1 ≤ k) : mark k k ps = ps := by
  obtain rfl : k = 0 := by omega
  rfl

theorem made_row (w : World) (t : TypeId) (z : Value) (n : Nat) : RowIs (w.alloc (.cells (madeCells #[z] n) t)) w.heap.size t (List.replicate n z) := by
  unfold RowIs
  rw [← toList_madeCells_one z n]
  show (w.heap.push _)[w.heap.size]? = _
  simp

/-- What the check asks of node i. -/
def wants (A B : List Int) (ms : List Bool) (k : Nat) (v : Int) (i : Nat) : Prop :=
  A.getD i 0 = if i = k then v else if ms.getD i false = true then max (A.getD (2 * i) 0) (A.getD (2 * i + 1) 0) else B.getD i 0

set_option maxHeartbeats 2000000 in
theorem check_any (ga gb n cap l k : Nat) (v : Int) (A B : List Int) (ms : List Bool) (w : World) (ha : RowIs w ga 2 (ints A)) (hA : A.length = n) (hB : ∀ i, i < n → w.cell? ⟨gb, i, none⟩ = some (.int .i64 (B.getD i 0))) (hgb : gb < w.heap.size)
    (hn : n = 2 * l) (hl : l ≤ 16) (hl1 : 1 ≤ l) (hk : k < n) (h0 : A.getD 0 0 = B.getD 0 0) (hms : mark (k / 2) (k / 2) (List.replicate n false) = ms) (hml : ms.length = n) (hmk : ∀ i, ms.getD i false = true → 2 * i + 1 < n) (hw : ∀ i, 1 ≤ i → i < n → wants A B ms k v i) :
    Calls Yba.prog 13 #[.slice (some ⟨ga, 0, none⟩) n n, .slice (some ⟨gb, 0, none⟩) n cap, .int .i64 l, .int .i64 k, .int .i64 v] w fun e w' => e = .returned (.bool true) ∧ Below w.heap.size w w' := by
  have HA : Hid (RowIs w ga 2 (ints A)) := ha
  have HLA : Hid (A.length = n) := hA
  have HB : Hid (∀ i, i < n → w.cell? ⟨gb, i, none⟩ = some (.int .i64 (B.getD i 0))) := hB
  have HM : Hid (mark (k / 2) (k / 2) (List.replicate n false) = ms) := hms
  have HML : Hid (ms.length = n) := hml
  have HMK : Hid (∀ i, ms.getD i false = true → 2 * i + 1 < n) := hmk
  have HW : Hid (∀ i, 1 ≤ i → i < n → wants A B ms k v i) := hw
  have hga := ha.lt
  have a0 := ints_cell ha (i := 0) (by omega)
  have b0 := hB 0 (by omega)
  rw [← h0] at b0
  have hmk2 := run_make_row' (P := Yba.prog) 81 4 (.bool false) 1 Yba.underlying81 Yba.info4 rfl .i64 .i64 n (by omega) (by omega)
  subst hn
  rw [show (((2 * l : Nat) : Int)) = 2 * (l : Int) from by omega] at hmk2
  clear ha hA hB hms hml hmk hw h0
  go_enter Yba.func13, Yba.ntmps13
  go_wp2
  go_region
  go_wp2
  go_loopw [12] (fun t wr => ∃ (j : Nat) (ps : List Bool), t = .int .i64 j ∧ 2 * j + 1 < 2 * l ∧ ps.length = 2 * l ∧ RowIs wr w.heap.size 4 (bools ps) ∧ Hid (mark j j ps = ms) ∧ Below w.heap.size w wr) (fun t _ => (intOf t).toNat)
  case atStart =>
    refine ⟨k / 2, List.replicate (2 * l) false, by go_num, by omega, by simp, ?_, HM, ((Below.refl _ w).drew).alloc (by simp) _⟩
    have e : bools (List.replicate (2 * l) false) = List.replicate (2 * l) (.bool false) := by simp [bools]
    rw [e]
    exact made_row w.drew 4 (.bool false) (2 * l)
  case round =>
    obtain ⟨j, ps, rfl, hj, hpl, hrow, HC, hbel⟩ := hrel
    by_cases hlt : 1 ≤ j
    · have e1 := bools_cell hrow (i := j) (by omega)
      have f1 : wr.frozen? ⟨w.heap.size, j, none⟩ = false := hrow.frozen _
      have HROW : Hid (RowIs wr w.heap.size 4 (bools ps)) := hrow
      have HD : Hid (Below w.heap.size w wr) := hbel
      have HPL : Hid (ps.length = 2 * l) := hpl
      clear hrow hbel hpl
      go_wp2
      go_roundw
      case rel => exact ⟨j / 2, ps.set j true, by go_num, by omega, by simp [HPL.out], by rw [← bools_set]; exact HROW.out.set _ _, by rw [← mark_step j ps hlt]; exact HC, HD.out.setCell (Nat.le_refl _) _⟩
      case measure => simp [intOf]; omega
    · have hps : ps = ms := by rw [← mark_zero j ps hlt]; exact HC.out
      subst hps
      have HROW : Hid (RowIs wr w.heap.size 4 (bools ps)) := hrow
      have HD : Hid (Below w.heap.size w wr) := hbel
      have HPL : Hid (ps.length = 2 * l) := hpl
      clear hrow hbel hpl
      go_wp2
      go_loopw [13] (fun t wr => ∃ i : Nat, t = .int .i64 i ∧ 1 ≤ i ∧ i ≤ 2 * l ∧ RowIs wr w.heap.size 4 (bools ps) ∧ Below w.heap.size w wr) (fun t _ => 2 * l - (intOf t).toNat)
      case atStart => exact ⟨1, rfl, by omega, by omega, HROW.out, HD.out⟩
      case round =>
        obtain ⟨i, rfl, hi1, hi2, hrow2, hbel2⟩ := hrel
        have HROW2 : Hid (RowIs wr w.heap.size 4 (bools ps)) := hrow2
        have HD2 : Hid (Below w.heap.size w wr) := hbel2
        clear hrow2 hbel2
        by_cases hil : i < 2 * l
        · have arow : RowIs wr ga 2 (ints A) := HA.out.below HD2.out hga
          have ai := ints_cell arow (i := i) (by rw [HLA.out]; exact hil)
          have hwi := HW.out i hi1 hil
          unfold wants at hwi
          rw [hwi] at ai
          clear hwi
          by_cases hik : i = k
          · rw [if_pos hik] at ai
            subst hik
            clear arow
            go_wp2
            go_roundw
            case rel => exact ⟨i + 1, by go_num, by omega, by omega, HROW2.out, HD2.out⟩
            case measure => simp [intOf]; omega
          · have hik' : ¬ (i : Int) = (k : Int) := by omega
            rw [if_neg hik] at ai
            have pi := bools_cell HROW2.out (i := i) (by rw [HPL.out]; exact hil)
            by_cases hm : ps.getD i false = true
            · have h2 := HMK.out i hm
              rw [if_pos hm] at ai
              rw [hm] at pi
              have x1 := ints_cell arow (i := 2 * i) (by rw [HLA.out]; omega)
              have x2 := ints_cell arow (i := 2 * i + 1) (by rw [HLA.out]; omega)
              generalize A.getD (2 * i) 0 = x at x1 ai
              generalize A.getD (2 * i + 1) 0 = y at x2 ai
              clear arow hm
              rw [show max x y = if x < y then y else x from by rw [Int.max_def]; split <;> split <;> omega] at ai
              by_cases hxy : x < y
              · rw [if_pos hxy] at ai
                go_wp2
                go_region
                go_wp2
                go_roundw
                case rel => exact ⟨i + 1, by go_num, by omega, by omega, HROW2.out, HD2.out.drew⟩
                case measure => simp [intOf]; omega
              · rw [if_neg hxy] at ai
                go_wp2
                go_region
                go_wp2
                go_roundw
                case rel => exact ⟨i + 1, by go_num, by omega, by omega, HROW2.out, HD2.out.drew⟩
                case measure => simp [intOf]; omega
            · have hm' : ps.getD i false = false := by simpa using hm
              rw [if_neg hm] at ai
              rw [hm'] at pi
              have bi : wr.cell? ⟨gb, i, none⟩ = some (.int .i64 (B.getD i 0)) := (HD2.out.cell (p := ⟨gb, i, none⟩) hgb).trans (HB.out i hil)
              generalize B.getD i 0 = y at bi ai
              clear arow hm hm'
              go_wp2
              go_roundw
              case rel => exact ⟨i + 1, by go_num, by omega, by omega, HROW2.out, HD2.out⟩
              case measure => simp [intOf]; omega
        · go_wp2
          go_ret
          exact ⟨rfl, HD2.out⟩

end Go.Proofs.Ybulkafoa
