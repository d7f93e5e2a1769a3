/-
  FLOATS, PLAINLY: what '+' and '*' on float64 give in the model (valid: the rounded bits; invalid: some NaN out of the tape), and when two results are the same to the law's own test ('equal, or both NaN').
-/
import Derived.WalkKit
import Derived.WalkLawsBesides
import Derived.Deep.Draws
namespace Go.Proofs.Ybulkafmk
open Go.RowKit

def fNum (op : BinOp) (x y : Nat) : Nat := match floatBits op .f64 x y with
  | some _ => 0
  | none => 1
def nanAt (w : World) (x y : Nat) : Nat := Question.cut (.nanBits .f64 x y) (w.tape w.drawn (.nanBits .f64 x y))
def fBits (op : BinOp) (x y : Nat) (w : World) : Nat := match floatBits op .f64 x y with
  | some r => r
  | none => nanAt w x y

def nanB (x : Nat) : Bool := (FloatKind.f64.decode x).isNaN

theorem run_f {P : Program} (op : BinOp) (hop : op = .add ∨ op = .mul) (t : TypeId) (x y : Nat) (w : World) :
    (binOp op t (.float .f64 x) (.float .f64 y)).run P w = .ok (.float .f64 (fBits op x y w)) (w.drewN (fNum op x y)) := by
  unfold fBits fNum
  split
  · rename_i r h
    exact run_float_arith w op t .f64 x y r h
  · rename_i h
    rcases hop with rfl | rfl
    all_goals
      simp only [floatBits] at h
      simp [binOp, Op.floatArith, h, choose, Question.forced, nanAt, Sem.run]
      rfl

theorem nanB_nanAt (w : World) (x y : Nat) : nanB (nanAt w x y) = true := by
  unfold nanAt
  generalize w.tape w.drawn (.nanBits .f64 x y) = t
  have e : Question.cut (.nanBits .f64 x y) t = (t % 2) * 2 ^ 63 + 0x7ff0000000000000 + 1 + (t / 2) % (2 ^ 52 - 1) := rfl
  rw [e, show (2 : Nat) ^ 63 = 9223372036854775808 from by decide, show (2 : Nat) ^ 52 - 1 = 4503599627370495 from by decide]
  have h2 : (t / 2) % 4503599627370495 < 4503599627370495 := Nat.mod_lt _ (by omega)
  generalize (t / 2) % 4503599627370495 = r at h2
  have h1 : t % 2 < 2 := Nat.mod_lt _ (by omega)
  generalize t % 2 = s at h1
  have hr : (s * 9223372036854775808 + 0x7ff0000000000000 + 1 + r) % 9223372036854775808 = 9218868437227405312 + (1 + r) := by omega
  have hs : Ieee.Format.signWeight Ieee.double = 9223372036854775808 := by decide
  have hb : Ieee.Format.binade Ieee.double = 4503599627370496 := by decide
  have hi : Ieee.Format.infRung Ieee.double = 9218868437227405312 := by decide
  show (Ieee.Format.read Ieee.double _).isNaN = true
  unfold Ieee.Format.read
  simp only [hs, hb, hi, hr]
  rw [if_neg (by omega), if_neg (by omega), if_neg (by omega)]
  rfl

theorem isNaN_nan {d : Ieee.Datum} (h : d.isNaN = true) : ∃ s f, d = .nan s f := by
  cases d with
  | nan s f => exact ⟨s, f, rfl⟩
  | number s m e => cases h
  | infinity s => cases h

theorem floatBits_nan_left {op : BinOp} (hop : op = .add ∨ op = .mul) {x : Nat} (y : Nat) (h : nanB x = true) : floatBits op .f64 x y = none := by
  obtain ⟨s, f, e⟩ := isNaN_nan h
  have e' : Ieee.Format.read Ieee.double x = .nan s f := e
  rcases hop with rfl | rfl
  · show (((Ieee.double.read x).sum (Ieee.double.read y)).map Ieee.double.write) = none
    rw [e']; rfl
  · show (((Ieee.double.read x).product (Ieee.double.read y)).map Ieee.double.write) = none
    rw [e']; rfl

theorem floatBits_nan_right {op : BinOp} (hop : op = .add ∨ op = .mul) (x : Nat) {y : Nat} (h : nanB y = true) : floatBits op .f64 x y = none := by
  obtain ⟨s, f, e⟩ := isNaN_nan h
  have e' : Ieee.Format.read Ieee.double y = .nan s f := e
  rcases hop with rfl | rfl
  · show (((Ieee.double.read x).sum (Ieee.double.read y)).map Ieee.double.write) = none
    rw [e']; cases Ieee.double.read x <;> rfl
  · show (((Ieee.double.read x).product (Ieee.double.read y)).map Ieee.double.write) = none
    rw [e']; cases Ieee.double.read x <;> rfl

theorem order_nan_left {x : Nat} (y : Nat) (h : nanB x = true) : FloatKind.f64.format.order x y = none := by
  obtain ⟨s, f, e⟩ := isNaN_nan h
  have e' : Ieee.Format.read Ieee.double x = .nan s f := e
  show (Ieee.double.read x).order (Ieee.double.read y) = none
  rw [e']; rfl

/-- THE LAW's OWN SAMENESS: equal bits, or both NaN. -/
def Same (x y : Nat) : Prop := x = y ∨ (nanB x = true ∧ nanB y = true)

theorem Same.refl (x : Nat) : Same x x := .inl rfl

theorem fBits_none {op : BinOp} {x y : Nat} (w : World) (h : floatBits op .f64 x y = none) : nanB (fBits op x y w) = true := by
  unfold fBits; rw [h]; exact nanB_nanAt w x y

theorem Same.fBits {op : BinOp} (hop : op = .add ∨ op = .mul) {x x' y y' : Nat} (hx : Same x x') (hy : Same y y') (w w' : World) : Same (fBits op x y w) (fBits op x' y' w') := by
  rcases hx with rfl | ⟨h1, h2⟩
  · rcases hy with rfl | ⟨h1, h2⟩
    · cases h : floatBits op .f64 x y with
      | some r => left; unfold Ybulkafmk.fBits; rw [h]
      | none => exact .inr ⟨fBits_none w h, fBits_none w' h⟩
    · exact .inr ⟨fBits_none w (floatBits_nan_right hop x h1), fBits_none w' (floatBits_nan_right hop x h2)⟩
  · exact .inr ⟨fBits_none w (floatBits_nan_left hop y h1), fBits_none w' (floatBits_nan_left hop y' h2)⟩

/-- What 'zzs1570ceq' answers. -/
def eqB (a b : Nat) : Bool := if FloatKind.f64.format.order a a != some .eq then FloatKind.f64.format.order b b != some .eq else FloatKind.f64.format.order a b == some .eq

theorem Same.eqB {a b : Nat} (h : Same a b) : eqB a b = true := by
  unfold Ybulkafmk.eqB
  rcases h with rfl | ⟨h1, h2⟩
  · cases h : (FloatKind.f64.format.order a a != some .eq) with
    | true => rfl
    | false => simpa using h
  · rw [order_nan_left a h1, order_nan_left b h2]; rfl

theorem Same.order {a b : Nat} (h : Same a b) (m : Nat) : FloatKind.f64.format.order a m = FloatKind.f64.format.order b m := by
  rcases h with rfl | ⟨h1, h2⟩
  · rfl
  · rw [order_nan_left m h1, order_nan_left m h2]

theorem run_store_float (P : Program) (w : World) (a : Addr) (k : FloatKind) (n : Nat) (m : Mode) : (store a (.float k n) m).run P w = stored P w a (.float k n) m := run_store P w a _ m rfl

end Go.Proofs.Ybulkafmk
