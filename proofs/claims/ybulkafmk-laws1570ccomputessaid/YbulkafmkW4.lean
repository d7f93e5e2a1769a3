/-
  THE WALK OF THE LAW.
-/
import Derived.Test.YbulkafmkW2
import Derived.Test.YbulkafmkW3
namespace Go.Proofs.Ybulkafmk
open Go.RowKit

theorem least_any (a : Option Addr) (len cap x : Nat) (z : Nat → Nat) (w : World) (h1 : len ≤ 1024) (h : IsRowF w a len z) :
    Calls Yba.prog 5 #[.slice a len cap, .float .f64 x] w (Least w) := by
  rcases Nat.eq_zero_or_pos len with rfl | h0
  · exact least_zero a cap x w
  · rcases h with h | ⟨ad, rfl, hc⟩
    · omega
    · exact least_pos ad len cap x z w h0 h1 hc

theorem cell_of_heap {w w' : World} (h : w'.heap = w.heap) (p : Addr) : w'.cell? p = w.cell? p := by simp [World.cell?, h]

theorem ret_bool {p q : Bool} (h : p = q) : Ending.returned (.bool p) = .returned (.bool q) := by rw [h]

theorem eq_true (a b : Nat) (w : World) (h : Same a b) :
    Calls Yba.prog 7 #[.float .f64 a, .float .f64 b] w fun e w' => e = .returned (.bool true) ∧ w' = w := by
  refine (eq_any a b w).mono ?_
  rintro e w' ⟨rfl, rfl⟩
  rw [h.eqB]
  exact ⟨rfl, rfl⟩

/-- Behind price: the label's two cells; older blocks read as before; nothing below has turned. -/
theorem after_price {w1 w2 : World} {o : Obj} {L : Array Value} {t : TypeId} {x y : Value} {B : Nat} {w : World} (hL : 2 < L.size) (hb : Below B w w1) (hB : B ≤ w1.heap.size)
    (hal : w2.Alike ((((w1.alloc o).alloc (.cells L t)).setCell ⟨w1.heap.size + 1, 1, none⟩ x).setCell ⟨w1.heap.size + 1, 2, none⟩ y)) (htp : w2.tape = w1.tape) :
    w2.cell? ⟨w1.heap.size + 1, 1, none⟩ = some x ∧ w2.cell? ⟨w1.heap.size + 1, 2, none⟩ = some y ∧ (∀ g i, g < w1.heap.size → w2.cell? ⟨g, i, none⟩ = w1.cell? ⟨g, i, none⟩) ∧ Below B w w2 := by
  obtain ⟨h1, h2, h3⟩ := hal
  rw [World.setCell_alloc_at L t _ _ _ (by simp), World.setCell_alloc_at _ t _ _ _ (by simp)] at h1 h2 h3
  refine ⟨?_, ?_, ?_, ?_⟩
  · rw [cell_of_heap h1, World.cell?_alloc_at _ _ _ _ (by simp)]
    simp [show 1 < L.size by omega]
  · rw [cell_of_heap h1, World.cell?_alloc_at _ _ _ _ (by simp)]
    simp [hL]
  · intro g i hg
    rw [cell_of_heap h1, World.cell?_alloc_past _ _ _ (by simp; omega), World.cell?_alloc_past _ _ _ hg]
  · have hb2 := (hb.alloc hB o).alloc (by simp; omega) (.cells ((L.setIfInBounds 1 x).setIfInBounds 2 y) t)
    exact ⟨h2.trans hb2.os, htp.trans hb.tape, h3.trans hb2.output, by rw [h1]; exact hb2.size, fun k hk => by rw [h1]; exact hb2.block k hk⟩

set_option maxHeartbeats 1000000 in
theorem law_any (a : Option Addr) (len cap x : Nat) (z : Nat → Nat) (idx am dl wt : Int) (nl : Nat) (w : World) (hidx : 0 ≤ idx) (hidx2 : idx ≤ 18446744073709551615) (hlen : len ≤ 1024) (hrow : IsRowF w a len z) :
    Calls Yba.prog 3 #[.slice a len cap, .float .f64 x, .int .u64 idx, .int .u64 am, .int .u64 dl, .int .u64 wt, .float .f64 nl] w fun e w' => e = .returned (.bool true) ∧ Below w.heap.size w w' := by
  have hadd := fun (a b : Nat) (w : World) => run_f (P := Yba.prog) .add (.inl rfl) 23 a b w
  have hmul := fun (a b : Nat) (w : World) => run_f (P := Yba.prog) .mul (.inr rfl) 23 a b w
  go_enter Yba.func3, Yba.ntmps3
  go_wp2_with fail
  refine (least_any a len cap x z w hlen hrow).mono ?_
  rintro e w1 ⟨m, bs, hm0, hm1, rfl, hb1, hlt1, hc1⟩
  have hmod0 : 0 ≤ idx % (m : Int) := Int.emod_nonneg _ (by omega)
  have hmod1 : idx % (m : Int) < (m : Int) := Int.emod_lt_of_pos _ (by omega)
  have hcn := hc1 (idx % (m : Int)).toNat (by omega)
  clear hc1
  go_wp2_with fail
  refine (price_any w1.heap.size (w1.heap.size + 1) w.heap.size m m 0 0 nl (bs (idx % (m : Int)).toNat) am dl wt (idx % (m : Int)) _ ?_ ?_ ?_ ?_ ?_ ?_ ?_ ?_ ?_ ?_ hmod0 hmod1 ?_ (by omega) (by omega)).mono ?_
  case refine_1 => simp
  case refine_2 => simp
  case refine_3 => simp
  case refine_4 => simp
  case refine_5 => simp
  case refine_6 => simp
  case refine_7 => simp
  case refine_8 => simp
  case refine_9 => simp
  case refine_10 => simp
  case refine_11 => rw [World.cell?_alloc_past _ _ _ (by simp; omega), World.cell?_alloc_past _ _ _ hlt1]; exact hcn
  rintro e w2 ⟨u1, u2, u3, c, b, hcc, hbb, rfl, hal, htp⟩
  obtain ⟨k1, k2, k3, hb2⟩ := after_price (by simp) hb1 (by omega) hal (by simpa using htp)
  have k4 := k3 w.heap.size (idx % (m : Int)).toNat hlt1
  rw [hcn] at k4
  have HCC : Hid (c = fBits .add (floatOfInt .f64 (IntKind.u64.wrap (am - dl))) (fBits .mul (floatOfInt .f64 wt) nl u1) u2) := hcc
  have HBB : Hid (b = fBits .add c (bs (idx % (m : Int)).toNat) u3) := hbb
  clear hcc hbb hal htp k3 hcn
  go_wp2_with fail
  refine (eq_true _ _ _ ?_).mono ?_
  · rw [HCC.out]
    exact Same.fBits (.inl rfl) (.refl _) (Same.fBits (.inr rfl) (.refl _) (.refl _) _ _) _ _
  rintro e w3 ⟨rfl, rfl⟩
  go_wp2_with fail
  refine (eq_true _ _ _ ?_).mono ?_
  · rw [HBB.out, HCC.out]
    exact Same.fBits (.inl rfl) (Same.fBits (.inl rfl) (.refl _) (Same.fBits (.inr rfl) (.refl _) (.refl _) _ _) _ _) (.refl _) _ _
  rintro e w4 ⟨rfl, rfl⟩
  go_wp2
  go_ret
  refine ⟨ret_bool ?_, ⟨hb2.os, hb2.tape, hb2.output, hb2.size, hb2.block⟩⟩
  have hS := Same.fBits (op := .add) (.inl rfl) (Same.fBits (op := .add) (.inl rfl) (.refl (floatOfInt .f64 (IntKind.u64.wrap (am - dl)))) (Same.fBits (op := .mul) (.inr rfl) (.refl (floatOfInt .f64 wt)) (.refl nl) u1 w2) u2 (w2.drewN (fNum .mul (floatOfInt .f64 wt) nl))) (.refl (bs (idx % (m : Int)).toNat)) u3 (w2.drewN (fNum .mul (floatOfInt .f64 wt) nl + fNum .add (floatOfInt .f64 (IntKind.u64.wrap (am - dl))) (fBits .mul (floatOfInt .f64 wt) nl w2)))
  rw [HBB.out, HCC.out, hS.order]
  simp

set_option maxHeartbeats 400000 in
theorem law_long (a : Option Addr) (len cap x : Nat) (idx am dl wt : Int) (nl : Nat) (w : World) (hlen : 1024 < (len : Int)) :
    Calls Yba.prog 3 #[.slice a len cap, .float .f64 x, .int .u64 idx, .int .u64 am, .int .u64 dl, .int .u64 wt, .float .f64 nl] w fun e w' => e = .returned (.bool true) ∧ Below w.heap.size w w' := by
  go_enter Yba.func3, Yba.ntmps3
  go_wp2
  go_ret
  exact ⟨rfl, Below.refl _ _⟩

end Go.Proofs.Ybulkafmk
