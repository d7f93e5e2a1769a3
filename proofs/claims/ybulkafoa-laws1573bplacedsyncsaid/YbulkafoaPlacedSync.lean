/-
  'Rows.LawS1573BPlacedSyncSaid' PROVED.
-/
import Derived.Test.YbulkafoaRows
import Derived.Test.YbulkafoaPsLaw
import Derived.ProofKit
import Derived.OpenShut
import Derived.ChangeOld
import Derived.Below
import Derived.Deep.Slices
import Derived.Deep.Strs
namespace Go.Proofs.Ybulkafoa.lawS1573BPlacedSync
open Go.ChangeShapes Go.WideShapes Go.ChangeAt Go.RowKit
set_option linter.unusedVariables false

theorem own : ownKnob Yba.prog.godebug = none := by kernel_rfl
theorem laidOut : laidOutB Yba.prog = true := by kernel_rfl
theorem Yba.cells66 : Yba.prog.cellsOf 66 = 3 := by kernel_rfl
theorem Yba.cells2 : Yba.prog.cellsOf 2 = 1 := by kernel_rfl
theorem Yba.cells5 : Yba.prog.cellsOf 5 = 1 := by kernel_rfl

/-- Three cells read at an address. -/
theorem cells3 {w : World} {base : Nat} {a : Addr} {cs : List Value} (h : w.cells? base a 3 = some cs) : ∃ x y z, cs = [x, y, z] ∧ w.cell? a = some x ∧ w.cell? (a.add 1) = some y ∧ w.cell? (a.add 2) = some z := by
  obtain ⟨hb, hl, hc⟩ := World.cells?_some h
  match cs, hl with
  | [x, y, z], _ =>
    refine ⟨x, y, z, rfl, ?_, ?_, ?_⟩
    · simpa [Addr.add] using hc 0 (by omega)
    · simpa using hc 1 (by omega)
    · simpa using hc 2 (by omega)

theorem under66 : ∃ f0 f1 f2 : Field, Yba.prog.underlying 66 = some (.struct #[f0, f1, f2]) ∧ f0.type = 2 ∧ f0.offset = 0 ∧ f1.type = 2 ∧ f1.offset = 1 ∧ f2.type = 5 ∧ f2.offset = 2 := ⟨_, _, _, Yba.underlying66, rfl, rfl, rfl, rfl, rfl, rfl⟩

/-- One block of the second slice, read as data. -/
theorem block_of {H : Type} {enc : TypeId × Value → H} {w : World} {base : Nat} {spare : Nat → Bool} {held : Bool} {n : Nat} {cs : List Value} {x : DataW H × List MemPlace} (h : DataW.trod enc Yba.prog w base spare held n 66 cs = some x) :
    ∃ a b c : Int, cs = [.int .i64 a, .int .i64 b, .int .u8 c] ∧ 0 ≤ c ∧ c ≤ 255 := by
  obtain ⟨f0, f1, f2, hu, t0, o0, t1, o1, t2, o2⟩ := under66
  obtain ⟨y0, y1, y2, k, _, hl, h0, h1, h2⟩ := Deep.trod_struct3 hu h
  rw [t0, o0, Yba.cells2] at h0
  rw [t1, o1, Yba.cells2] at h1
  rw [t2, o2, Yba.cells5] at h2
  rw [Yba.cells66] at hl
  match cs, hl with
  | [x, y, z], _ =>
    obtain ⟨a, ha, _, _⟩ := DataW.trod_int Yba.underlying2 h0
    obtain ⟨b, hb, _, _⟩ := DataW.trod_int Yba.underlying2 h1
    obtain ⟨c, hc, _, hw⟩ := DataW.trod_int Yba.underlying5 h2
    simp at ha hb hc
    obtain ⟨q0, q1⟩ := bounds_u8 hw
    exact ⟨a, b, c, by rw [ha, hb, hc], q0, q1⟩

/-- What the second argument's reading says. -/
def IsBlocks (w : World) (ab : Option Addr) (m : Nat) : Prop :=
  m = 0 ∨ ∃ (bb ob : Nat) (mn mx pl : Nat → Int), ab = some ⟨bb, ob, none⟩ ∧ (∀ j, j < m → w.cell? ⟨bb, ob + j * 3, none⟩ = some (.int .i64 (mn j)) ∧ w.cell? ⟨bb, ob + j * 3 + 1, none⟩ = some (.int .i64 (mx j)) ∧ w.cell? ⟨bb, ob + j * 3 + 2, none⟩ = some (.int .u8 (pl j))) ∧ ∀ j, j < m → 0 ≤ pl j ∧ pl j ≤ 255

theorem walk (e s : Int) (ai ab : Option Addr) (ni ci m cb : Nat) (w : World) (w0 : (Lit.int .u8 e).wf = true) (w3 : (Lit.int .u8 s).wf = true) (hm : m ≤ maxLen) (hn : ni ≤ maxLen)
    (hi : ∀ i, i < ni → ∃ y z, ai = some y ∧ w.cell? (y.add i) = some (.int .i64 z)) (hb : IsBlocks w ab m) :
    Calls Yba.prog 5 #[.int .u8 e, .slice ai ni ci, .slice ab m cb, .int .u8 s] w fun e w' => e = .returned (.bool true) ∧ Below w.heap.size w w' := by
  have b0 := bounds_u8 w0
  have b3 := bounds_u8 w3
  unfold maxLen at hm hn
  by_cases h : 1024 < m ∨ 1024 < ni ∨ m = 0
  · exact law_short e s ai ab ni ci m cb w h (by omega) (by omega)
  · rcases hb with h0 | ⟨bb, ob, mn, mx, pl, rfl, h1, h2⟩
    · exact absurd (.inr (.inr h0)) h
    · exact law_main e s ai ni ci bb ob m cb mn mx pl w b0.1 b0.2 b3.1 b3.2 (by omega) (by omega) (by omega) hi h1 h2

set_option maxRecDepth 100000 in
theorem lifted (os : Os) (started : os.Started) (H : Type) (enc : TypeId × Value → H) :
    ReturnsInHanded {} Yba.checked os 5 .any (Rows.lawS1573BPlacedSyncSpec.pre6 enc Yba.prog Yba.f5 Rows.lawS1573BPlacedSyncRow.domain false) (Rows.lawS1573BPlacedSyncSpec.post enc Yba.prog Yba.f5 false true false false) := by
  refine returnsInHanded_of_change (C := Yba.checked) own started (by kernel_rfl) Yba.func5
    (ChangeSpec.witness6 (enc := enc) (C := Yba.checked) false ⟨#[], #[.int .u8 0, .slice none 0 0, .slice none 0 0, .int .u8 0], []⟩ 8 (by kernel_rfl) (by kernel_rfl) (by kernel_rfl) (by kernel_rfl)) ?_
  intro W base args ds gs before hval0 hW hcnd _
  have hval : ∀ (j : Nat) t v, Yba.f5.params[j]? = some t → args[j]? = some v → Value.okWide Yba.prog W .any base t v := hval0
  have hW' := hW
  obtain ⟨p, q, hA0, hV, rfl, hfz, hnd⟩ := hW
  have hA : DataW.TrodAll enc Yba.prog W 0 (fun _ => true) true Yba.f5.params.toList args.toList ds p := hA0
  rw [Yba.params5] at hA hval
  obtain ⟨v0, vs0, d0, ds0, p0, q0, hargs, rfl, rfl, h0, r0⟩ := trodAll_cons hA
  obtain ⟨v1, vs1, d1, ds1, p1, q1, rfl, rfl, rfl, h1, r1⟩ := trodAll_cons r0
  obtain ⟨v2, vs2, d2, ds2, p2, q2, rfl, rfl, rfl, h2, r2⟩ := trodAll_cons r1
  obtain ⟨v3, vs3, d3, ds3, p3, q3, rfl, rfl, rfl, h3, r3⟩ := trodAll_cons r2
  obtain ⟨rfl, rfl, rfl⟩ := trodAll_nil r3
  obtain rfl : args = #[v0, v1, v2, v3] := by cases args; simp_all
  obtain ⟨rfl, rfl⟩ := trodVars_none hV
  obtain ⟨a0, rfl, rfl, rfl, w0⟩ := open_int Yba.underlying5 (hval 0 5 v0 rfl rfl) h0
  obtain ⟨a1, len1, cap1, rfl⟩ := okWide_slice Yba.underlying37 (hval 1 37 v1 rfl rfl)
  have k1 := h1
  have lt1 : ∀ x ∈ p1, x.block < W.heap.size := by obtain ⟨m, hm⟩ := k1; exact DataW.trod_lt m _ _ _ hm
  obtain ⟨m1, hi1⟩ : len1 ≤ maxLen ∧ ∀ i, i < len1 → ∃ y z, a1 = some y ∧ W.cell? (y.add i) = some (.int .i64 z) := by
    obtain ⟨fuel, hf⟩ := h1
    rcases open_ints Yba.underlying37 Yba.underlying2 Yba.cells2 hf with ⟨hcs, _⟩ | ⟨x, l, c, zs, hcs, _, hl, hm, hzl, _, hx, _⟩
    · simp [Value.cells] at hcs
      obtain ⟨rfl, rfl, rfl⟩ := hcs
      exact ⟨by unfold maxLen; omega, fun i hi => absurd hi (by omega)⟩
    · simp [Value.cells] at hcs
      obtain ⟨rfl, rfl, rfl⟩ := hcs
      simp only [if_true] at hzl
      exact ⟨by omega, fun i hi => ⟨x, _, rfl, hx i (by omega)⟩⟩
  obtain ⟨a2, len2, cap2, rfl⟩ := okWide_slice Yba.underlying38 (hval 2 38 v2 rfl rfl)
  have k2 := h2
  have lt2 : ∀ x ∈ p2, x.block < W.heap.size := by obtain ⟨m, hm⟩ := k2; exact DataW.trod_lt m _ _ _ hm
  obtain ⟨m2, hi2⟩ : len2 ≤ maxLen ∧ IsBlocks W a2 len2 := by
    obtain ⟨fuel, hf⟩ := h2
    rcases Deep.open_slice Yba.underlying38 hf with ⟨hcs, _⟩ | ⟨x, l, c, m, n, D, Pl, hcs, _, hl, hm, hmm, _, hx⟩
    · simp [Value.cells] at hcs
      obtain ⟨rfl, rfl, rfl⟩ := hcs
      exact ⟨by unfold maxLen; omega, .inl rfl⟩
    · simp [Value.cells] at hcs
      obtain ⟨rfl, rfl, rfl⟩ := hcs
      simp only [if_true] at hmm
      refine ⟨by omega, ?_⟩
      by_cases hz : len2 = 0
      · exact .inl hz
      · right
        rw [Yba.cells66] at hx
        obtain ⟨f, hf⟩ := Deep.choose_lt (α := Int × Int × Int) (n := len2) (p := fun j t => W.cell? (x.add (j * 3)) = some (.int .i64 t.1) ∧ W.cell? ((x.add (j * 3)).add 1) = some (.int .i64 t.2.1) ∧ W.cell? ((x.add (j * 3)).add 2) = some (.int .u8 t.2.2) ∧ 0 ≤ t.2.2 ∧ t.2.2 ≤ 255) (fun j hj => by
          obtain ⟨cs', hc, ht⟩ := hx j (by omega)
          obtain ⟨u0, u1, u2, rfl, e0, e1, e2⟩ := cells3 hc
          obtain ⟨a, b, c, hcs, c0, c1⟩ := block_of ht
          simp at hcs
          obtain ⟨rfl, rfl, rfl⟩ := hcs
          exact ⟨(a, b, c), e0, e1, e2, c0, c1⟩)
        obtain ⟨bb, ob, spot⟩ := x
        have hsp : spot = none := by
          have := World.cell?_spot (hf 0 (by omega)).1
          simpa [Addr.add] using this
        subst hsp
        refine ⟨bb, ob, fun j => (f j).1, fun j => (f j).2.1, fun j => (f j).2.2, rfl, fun j hj => ?_, fun j hj => (hf j hj).2.2.2⟩
        obtain ⟨g0, g1, g2, _, _⟩ := hf j hj
        rw [Addr.add_lit] at g0 g1 g2
        rw [Addr.add_lit] at g1 g2
        exact ⟨g0, g1, g2⟩
  obtain ⟨a3, rfl, rfl, rfl, w3⟩ := open_int Yba.underlying5 (hval 3 5 v3 rfl rfl) h3
  clear hA0 hval0
  refine (walk a0 a3 a1 a2 len1 cap1 len2 cap2 W w0 w3 m2 m1 hi1 hi2).mono fun e W' ⟨he, bel⟩ => ?_
  subst he
  exact ⟨_, rfl, _, _, _, [], _, [], hW', trodAll_mk1 (shut_bool Yba.underlying4 _), (trodAll_cons_mk (shut_int Yba.underlying5 w0) (trodAll_cons_mk (Below.trod laidOut (by kernel_rfl) (of_decide_eq_true (by kernel_rfl)) k1 bel lt1) (trodAll_cons_mk (Below.trod laidOut (by kernel_rfl) (of_decide_eq_true (by kernel_rfl)) k2 bel lt2) (trodAll_cons_mk (shut_int Yba.underlying5 w3) trodAll_mk0)))), rfl, bel.frame _, fun h => by cases h⟩

theorem over : Rows.lawS1573BPlacedSyncRow.holds Yba.pinned (OpenSpec.ofChange Rows.lawS1573BPlacedSyncSpec) :=
  OpenClaim.holds_of_wide 5 Yba.f5 rfl rfl rfl rfl rfl rfl rfl ⟨rfl, rfl, rfl, rfl, rfl⟩ rfl rfl rfl rfl rfl (by kernel_rfl) Yba.func5 (by kernel_rfl)
    (of_decide_eq_true (by kernel_rfl)) (by unfold Func.isWrapper; first | (rw [if_pos (by decide +kernel)]; kernel_rfl) | (rw [if_neg (by decide +kernel)]; exact ⟨rfl, rfl⟩))
    (fun os started H enc _ => lifted os started H enc)

/-- THE STATEMENT -/
theorem proved : Rows.LawS1573BPlacedSyncSaid := over
end Go.Proofs.Ybulkafoa.lawS1573BPlacedSync
