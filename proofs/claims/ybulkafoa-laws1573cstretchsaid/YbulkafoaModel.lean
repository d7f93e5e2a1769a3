/-
  zzs1573cmodel BY ITS CONTRACT.
-/
import Derived.Test.YbulkafoaFits
namespace Go.Proofs.Ybulkafoa
open Go.RowKit

/-- What the walks of the law's own arithmetic are told. -/
structure Given (w : World) (ga n : Nat) (y : Addr) (A F : Nat → Int) : Prop where
  ats : ∀ i, i < n → w.cell? ⟨ga, i, none⟩ = some (.int .u64 (A i))
  frees : ∀ i, i < n → w.cell? (y.add i) = some (.int .i64 (F i))
  inc : Inc n A
  a0 : A 0 = 0
  hi : ∀ i, i < n → A i ≤ 100000
  n1 : 1 ≤ n
  n2 : n ≤ 300

theorem fits_yes {ga n cf : Nat} {y : Addr} {A F : Nat → Int} {x t size h : Int} {w : World} (g : Given w ga n y A F) (x0 : 0 ≤ x) (x1 : x ≤ 100000) (h0 : 1 ≤ h) (h1 : h ≤ 65536) (hf : Fit n A F t size h x) :
    Calls Yba.prog 22 #[.slice (some ⟨ga, 0, none⟩) n n, .slice (some y) n cf, .int .u64 x, .int .u64 t, .int .i64 size, .int .u64 h] w fun e w' => e = .returned (.bool true) ∧ w' = w :=
  (fits_any ga n cf y A F x t size h w g.ats g.frees g.inc g.a0 g.n1 g.n2 x0 x1 h0 h1).mono fun e w' ⟨⟨b, he, hb⟩, hw⟩ => ⟨by rw [he, hb.2 hf], hw⟩
theorem fits_no {ga n cf : Nat} {y : Addr} {A F : Nat → Int} {x t size h : Int} {w : World} (g : Given w ga n y A F) (x0 : 0 ≤ x) (x1 : x ≤ 100000) (h0 : 1 ≤ h) (h1 : h ≤ 65536) (hf : ¬ Fit n A F t size h x) :
    Calls Yba.prog 22 #[.slice (some ⟨ga, 0, none⟩) n n, .slice (some y) n cf, .int .u64 x, .int .u64 t, .int .i64 size, .int .u64 h] w fun e w' => e = .returned (.bool false) ∧ w' = w :=
  (fits_any ga n cf y A F x t size h w g.ats g.frees g.inc g.a0 g.n1 g.n2 x0 x1 h0 h1).mono fun e w' ⟨⟨b, he, hb⟩, hw⟩ => ⟨by cases b <;> simp_all, hw⟩

/-- It returns r: the number and whether there is one. -/
def Gives (e : Ending) (p : Option Int → Prop) : Prop := ∃ r : Option Int, e = .returned (.tuple #[.int .u64 (r.getD 0), .bool r.isSome]) ∧ p r

set_option maxHeartbeats 1000000 in
theorem model_any (ga n cf : Nat) (y : Addr) (A F : Nat → Int) (f t size h : Int) (w : World) (g : Given w ga n y A F) (f0 : 0 ≤ f) (f1 : f ≤ 65535) (h0 : 1 ≤ h) (h1 : h ≤ 65536) :
    Calls Yba.prog 16 #[.slice (some ⟨ga, 0, none⟩) n n, .slice (some y) n cf, .int .u64 f, .int .u64 t, .int .i64 size, .int .u64 h] w fun e w' => Gives e (Ans n A F f t size h) ∧ w' = w := by
  have G : Hid (Given w ga n y A F) := g
  have n1 := g.n1
  have n2 := g.n2
  clear g
  by_cases hf : Fit n A F t size h f
  · have HC : Hid (Calls Yba.prog 22 #[.slice (some ⟨ga, 0, none⟩) n n, .slice (some y) n cf, .int .u64 f, .int .u64 t, .int .i64 size, .int .u64 h] w fun e w' => e = .returned (.bool true) ∧ w' = w) := fits_yes G.out f0 (by omega) h0 h1 hf
    have HF : Hid (Fit n A F t size h f) := hf
    clear hf
    go_enter Yba.func16, Yba.ntmps16
    go_wp2_with (go_at_call 22; refine HC.out.mono ?_; rintro e w1 ⟨rfl, rfl⟩)
    go_ret2
    refine ⟨⟨some f, rfl, .inl rfl, HF.out, fun y hy hlt => ?_⟩, rfl⟩
    rcases hy with rfl | ⟨j, _, rfl, hj⟩ <;> omega
  · have HC : Hid (Calls Yba.prog 22 #[.slice (some ⟨ga, 0, none⟩) n n, .slice (some y) n cf, .int .u64 f, .int .u64 t, .int .i64 size, .int .u64 h] w fun e w' => e = .returned (.bool false) ∧ w' = w) := fits_no G.out f0 (by omega) h0 h1 hf
    have HF : Hid (¬ Fit n A F t size h f) := hf
    clear hf
    go_enter Yba.func16, Yba.ntmps16
    go_wp2_with (go_at_call 22; refine HC.out.mono ?_; rintro e w1 ⟨rfl, rfl⟩)
    rename World => w
    go_loopw [14] (fun tj wr => ∃ j : Nat, tj = .int .i64 j ∧ j ≤ n ∧ Hid (∀ i, i < j → f < A i → ¬ Fit n A F t size h (A i)) ∧ w = wr) (fun tj _ => n - (intOf tj).toNat)
    case atStart => exact ⟨0, rfl, by omega, (fun i hi => by omega), rfl⟩
    case round =>
      obtain ⟨j, rfl, hj, HJ, rfl⟩ := hrel
      by_cases hlt : j < n
      · have c := G.out.ats j hlt
        have aj := G.out.hi j hlt
        by_cases hfa : f < A j
        · by_cases hf : Fit n A F t size h (A j)
          · have HD : Hid (Calls Yba.prog 22 #[.slice (some ⟨ga, 0, none⟩) n n, .slice (some y) n cf, .int .u64 (A j), .int .u64 t, .int .i64 size, .int .u64 h] w fun e w' => e = .returned (.bool true) ∧ w' = w) := fits_yes G.out (by omega) aj h0 h1 hf
            have HFJ : Hid (Fit n A F t size h (A j)) := hf
            clear hf
            go_wp2_with (go_at_call 22; refine HD.out.mono ?_; rintro e w1 ⟨rfl, rfl⟩)
            go_ret2
            refine ⟨⟨some (A j), rfl, .inr ⟨j, hlt, rfl, hfa⟩, HFJ.out, fun y hy hly => ?_⟩, rfl⟩
            rcases hy with rfl | ⟨i, hi, rfl, hfi⟩
            · exact HF.out
            · have hij : i < j := by
                apply Classical.byContradiction
                intro hn
                have := G.out.inc.le (i := j) (j := i) (by omega) hi
                omega
              exact HJ.out i hij hfi
          · have HD : Hid (Calls Yba.prog 22 #[.slice (some ⟨ga, 0, none⟩) n n, .slice (some y) n cf, .int .u64 (A j), .int .u64 t, .int .i64 size, .int .u64 h] w fun e w' => e = .returned (.bool false) ∧ w' = w) := fits_no G.out (by omega) aj h0 h1 hf
            have HFJ : Hid (¬ Fit n A F t size h (A j)) := hf
            clear hf
            go_wp2_with (go_at_call 22; refine HD.out.mono ?_; rintro e w1 ⟨rfl, rfl⟩)
            go_roundw
            case rel => exact ⟨j + 1, by go_num, by omega, (fun i hi hfi => by
              by_cases e : i = j
              · subst e; exact HFJ.out
              · exact HJ.out i (by omega) hfi), by first | rfl | trivial⟩
            case measure => simp [intOf]; omega
        · go_wp2
          go_roundw
          case rel => exact ⟨j + 1, by go_num, by omega, (fun i hi hfi => by
            by_cases e : i = j
            · subst e; exact absurd hfi hfa
            · exact HJ.out i (by omega) hfi), by first | rfl | trivial⟩
          case measure => simp [intOf]; omega
      · go_wp2
        go_ret2
        refine ⟨⟨none, rfl, fun y hy => ?_⟩, rfl⟩
        rcases hy with rfl | ⟨i, hi, rfl, hfi⟩
        · exact HF.out
        · exact HJ.out i (by omega) hfi

end Go.Proofs.Ybulkafoa
