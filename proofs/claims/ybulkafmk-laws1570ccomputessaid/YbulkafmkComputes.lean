/-
  'Rows.LawS1570CComputesSaid' PROVED. The frame after the guide's own template (howto/template/XProofs.lean; Derived/Test/ChunkProofs.lean for 'Below').
-/
import Derived.Test.YbulkafmkW4
import Derived.ProofKit
import Derived.OpenShut
import Derived.ChangeOld
import Derived.Below
import Derived.Deep.Slices
namespace Go.Proofs.Ybulkafmk.lawS1570CComputes
open Go.ChangeShapes Go.WideShapes Go.ChangeAt Go.RowKit
set_option linter.unusedVariables false

theorem own : ownKnob Yba.prog.godebug = none := by kernel_rfl
theorem laidOut : laidOutB Yba.prog = true := by kernel_rfl

theorem float_of_trod {H : Type} {enc : TypeId × Value → H} {P : Program} {w : World} {base : Nat} {spare : Nat → Bool} {held : Bool} {n : Nat} {t : TypeId} {v : Value} {y : DataW H × List MemPlace}
    (ht : P.underlying t = some (.float .f64)) (h : DataW.trod enc P w base spare held n t [v] = some y) : ∃ b, v = .float .f64 b := by
  cases n with
  | zero => simp [DataW.trod] at h
  | succ n =>
    simp only [DataW.trod, ht] at h
    cases v <;> simp at h
    rename_i k b
    obtain ⟨⟨rfl, _⟩, _⟩ := h
    exact ⟨b, rfl⟩

theorem walk (a0 : Option Addr) (len0 cap0 : Nat) (z0 : Nat → Nat) (a1 : Nat) (a2 a3 a4 a5 : Int) (a6 : Nat) (w : World) (w0 : IsRowF w a0 len0 z0) (w2 : (Lit.int .u64 a2).wf = true) :
    Calls Yba.prog 3 #[.slice a0 len0 cap0, .float .f64 a1, .int .u64 a2, .int .u64 a3, .int .u64 a4, .int .u64 a5, .float .f64 a6] w fun e w' => e = .returned (.bool true) ∧ Below w.heap.size w w' := by
  have hb := bounds_u64 w2
  rcases Nat.lt_or_ge 1024 len0 with h | h
  · exact law_long a0 len0 cap0 a1 a2 a3 a4 a5 a6 w (by omega)
  · exact law_any a0 len0 cap0 a1 z0 a2 a3 a4 a5 a6 w (by omega) (by omega) h w0

set_option maxRecDepth 100000 in
theorem lifted (os : Os) (started : os.Started) (H : Type) (enc : TypeId × Value → H) :
    ReturnsInHanded {} Yba.checked os 3 .any (Rows.lawS1570CComputesSpec.pre6 enc Yba.prog Yba.f3 Rows.lawS1570CComputesRow.domain false) (Rows.lawS1570CComputesSpec.post enc Yba.prog Yba.f3 false true false false) := by
  refine returnsInHanded_of_change (C := Yba.checked) own started (by kernel_rfl) Yba.func3
    (ChangeSpec.witness6 (enc := enc) (C := Yba.checked) false ⟨#[], #[.slice none 0 0, .float .f64 0, .int .u64 0, .int .u64 0, .int .u64 0, .int .u64 0, .float .f64 0], []⟩ 8 (by kernel_rfl) (by kernel_rfl) (by kernel_rfl) (by kernel_rfl)) ?_
  intro W base args ds gs before hval0 hW hcnd _
  have hval : ∀ (j : Nat) t v, Yba.f3.params[j]? = some t → args[j]? = some v → Value.okWide Yba.prog W .any base t v := hval0
  have hW' := hW
  obtain ⟨p, q, hA0, hV, rfl, hfz, hnd⟩ := hW
  have hA : DataW.TrodAll enc Yba.prog W 0 (fun _ => true) true Yba.f3.params.toList args.toList ds p := hA0
  rw [Yba.params3] at hA hval
  obtain ⟨v0, vs0, d0, ds0, p0, q0, hargs, rfl, rfl, h0, r0⟩ := trodAll_cons hA
  obtain ⟨v1, vs1, d1, ds1, p1, q1, rfl, rfl, rfl, h1, r1⟩ := trodAll_cons r0
  obtain ⟨v2, vs2, d2, ds2, p2, q2, rfl, rfl, rfl, h2, r2⟩ := trodAll_cons r1
  obtain ⟨v3, vs3, d3, ds3, p3, q3, rfl, rfl, rfl, h3, r3⟩ := trodAll_cons r2
  obtain ⟨v4, vs4, d4, ds4, p4, q4, rfl, rfl, rfl, h4, r4⟩ := trodAll_cons r3
  obtain ⟨v5, vs5, d5, ds5, p5, q5, rfl, rfl, rfl, h5, r5⟩ := trodAll_cons r4
  obtain ⟨v6, vs6, d6, ds6, p6, q6, rfl, rfl, rfl, h6, r6⟩ := trodAll_cons r5
  obtain ⟨rfl, rfl, rfl⟩ := trodAll_nil r6
  obtain rfl : args = #[v0, v1, v2, v3, v4, v5, v6] := by cases args; simp_all
  obtain ⟨rfl, rfl⟩ := trodVars_none hV
  obtain ⟨a0, len0, cap0, rfl⟩ := okWide_slice Yba.underlying22 (hval 0 22 v0 rfl rfl)
  have k0 := h0
  have lt0 : ∀ x ∈ p0, x.block < W.heap.size := by obtain ⟨m, hm⟩ := k0; exact DataW.trod_lt m _ _ _ hm
  obtain ⟨z0, w0⟩ : ∃ z, IsRowF W a0 len0 z := by
    obtain ⟨fuel, hf⟩ := h0
    rcases Deep.open_slice1 Yba.underlying22 (by kernel_rfl) hf with ⟨hcs, _⟩ | ⟨x, l, c, m, n, V, D, Pl, hcs, _, hl, hm, hmm, _, hx⟩
    · simp [Value.cells] at hcs
      obtain ⟨rfl, rfl, rfl⟩ := hcs
      exact ⟨fun _ => 0, .inl rfl⟩
    · simp [Value.cells] at hcs
      obtain ⟨rfl, rfl, rfl⟩ := hcs
      simp only [if_true] at hmm
      obtain ⟨f, hf⟩ := Deep.choose_lt (α := Nat) (n := len0) (p := fun i b => W.cell? (x.add i) = some (.float .f64 b)) (fun i hi => by
        obtain ⟨hc, ht⟩ := hx i (by omega)
        obtain ⟨b, hb⟩ := float_of_trod Yba.underlying23 ht
        exact ⟨b, by rw [hc, hb]⟩)
      exact ⟨f, .inr ⟨x, rfl, hf⟩⟩
  obtain ⟨a1, rfl, rfl, rfl, w1⟩ := open_float Yba.underlying23 (hval 1 23 v1 rfl rfl) h1
  obtain ⟨a2, rfl, rfl, rfl, w2⟩ := open_int Yba.underlying24 (hval 2 24 v2 rfl rfl) h2
  obtain ⟨a3, rfl, rfl, rfl, w3⟩ := open_int Yba.underlying25 (hval 3 25 v3 rfl rfl) h3
  obtain ⟨a4, rfl, rfl, rfl, w4⟩ := open_int Yba.underlying25 (hval 4 25 v4 rfl rfl) h4
  obtain ⟨a5, rfl, rfl, rfl, w5⟩ := open_int Yba.underlying25 (hval 5 25 v5 rfl rfl) h5
  obtain ⟨a6, rfl, rfl, rfl, w6⟩ := open_float Yba.underlying23 (hval 6 23 v6 rfl rfl) h6
  clear hA0 hval0
  refine (walk a0 len0 cap0 z0 a1 a2 a3 a4 a5 a6 W w0 w2).mono fun e W' ⟨he, bel⟩ => ?_
  subst he
  exact ⟨_, rfl, _, _, _, [], _, [], hW', trodAll_mk1 (shut_bool Yba.underlying4 _), (trodAll_cons_mk (Below.trod laidOut (by kernel_rfl) (of_decide_eq_true (by kernel_rfl)) k0 bel lt0) (trodAll_cons_mk (shut_float Yba.underlying23 w1) (trodAll_cons_mk (shut_int Yba.underlying24 w2) (trodAll_cons_mk (shut_int Yba.underlying25 w3) (trodAll_cons_mk (shut_int Yba.underlying25 w4) (trodAll_cons_mk (shut_int Yba.underlying25 w5) (trodAll_cons_mk (shut_float Yba.underlying23 w6) trodAll_mk0))))))), rfl, bel.frame _, fun h => by cases h⟩

theorem over : Rows.lawS1570CComputesRow.holds Yba.pinned (OpenSpec.ofChange Rows.lawS1570CComputesSpec) :=
  OpenClaim.holds_of_wide 3 Yba.f3 rfl rfl rfl rfl rfl rfl rfl ⟨rfl, rfl, rfl, rfl, rfl⟩ rfl rfl rfl rfl rfl (by kernel_rfl) Yba.func3 (by kernel_rfl)
    (of_decide_eq_true (by kernel_rfl)) (by unfold Func.isWrapper; first | (rw [if_pos (by decide +kernel)]; kernel_rfl) | (rw [if_neg (by decide +kernel)]; exact ⟨rfl, rfl⟩))
    (fun os started H enc _ => lifted os started H enc)

/-- THE STATEMENT -/
theorem proved : Rows.LawS1570CComputesSaid := over
end Go.Proofs.Ybulkafmk.lawS1570CComputes
