/-
  A profile of 1812 cells, built: what its cells are, without laying them out.
-/
import Derived.Test.YbulkafoaRows
import Derived.WalkKit
namespace Go.Proofs.Ybulkafoa

/-- What 'build' gives, as a function of the parts alone. -/
def builtBy (P : Program) (t : TypeId) (parts : Array (Nat × Value)) : Array Value :=
  match (Instr.build t parts).run P default with
  | .ok (.agg a) _ => a
  | _ => #[]

theorem prof_run (x0 : Option Addr) (m : Nat) (t0 : Option Addr) (n : Nat) (l : Int) (s0 : Option Addr) (b : Bool) (w : World) :
    (Instr.build 61 #[(12, .slice x0 m m), (15, .agg #[.slice t0 n n, .int .i64 l]), (17, .agg #[.slice s0 n n, .int .i64 l]), (16, .bool b)]).run Yba.prog w =
      .ok (.agg (builtBy Yba.prog 61 #[(12, .slice x0 m m), (15, .agg #[.slice t0 n n, .int .i64 l]), (17, .agg #[.slice s0 n n, .int .i64 l]), (16, .bool b)])) w := by kernel_rfl

theorem prof_1803 (x0 : Option Addr) (m : Nat) (t0 : Option Addr) (n : Nat) (l : Int) (s0 : Option Addr) (b : Bool) :
    (builtBy Yba.prog 61 #[(12, .slice x0 m m), (15, .agg #[.slice t0 n n, .int .i64 l]), (17, .agg #[.slice s0 n n, .int .i64 l]), (16, .bool b)])[1803]? = some (.slice x0 m m) := by kernel_rfl
theorem prof_1806 (x0 : Option Addr) (m : Nat) (t0 : Option Addr) (n : Nat) (l : Int) (s0 : Option Addr) (b : Bool) :
    (builtBy Yba.prog 61 #[(12, .slice x0 m m), (15, .agg #[.slice t0 n n, .int .i64 l]), (17, .agg #[.slice s0 n n, .int .i64 l]), (16, .bool b)])[1806]? = some (.slice t0 n n) := by kernel_rfl
theorem prof_1807 (x0 : Option Addr) (m : Nat) (t0 : Option Addr) (n : Nat) (l : Int) (s0 : Option Addr) (b : Bool) :
    (builtBy Yba.prog 61 #[(12, .slice x0 m m), (15, .agg #[.slice t0 n n, .int .i64 l]), (17, .agg #[.slice s0 n n, .int .i64 l]), (16, .bool b)])[1807]? = some (.int .i64 l) := by kernel_rfl
theorem prof_1808 (x0 : Option Addr) (m : Nat) (t0 : Option Addr) (n : Nat) (l : Int) (s0 : Option Addr) (b : Bool) :
    (builtBy Yba.prog 61 #[(12, .slice x0 m m), (15, .agg #[.slice t0 n n, .int .i64 l]), (17, .agg #[.slice s0 n n, .int .i64 l]), (16, .bool b)])[1808]? = some (.bool b) := by kernel_rfl
theorem prof_1809 (x0 : Option Addr) (m : Nat) (t0 : Option Addr) (n : Nat) (l : Int) (s0 : Option Addr) (b : Bool) :
    (builtBy Yba.prog 61 #[(12, .slice x0 m m), (15, .agg #[.slice t0 n n, .int .i64 l]), (17, .agg #[.slice s0 n n, .int .i64 l]), (16, .bool b)])[1809]? = some (.slice s0 n n) := by kernel_rfl
theorem prof_1810 (x0 : Option Addr) (m : Nat) (t0 : Option Addr) (n : Nat) (l : Int) (s0 : Option Addr) (b : Bool) :
    (builtBy Yba.prog 61 #[(12, .slice x0 m m), (15, .agg #[.slice t0 n n, .int .i64 l]), (17, .agg #[.slice s0 n n, .int .i64 l]), (16, .bool b)])[1810]? = some (.int .i64 l) := by kernel_rfl

/-- 'build' at its operation, the value given. -/
theorem wpList_build {P : Program} {w : World} {ops : Array Oper} {rest : List Oper} {o : Oper} {a : Act} {Q : Exit → Act → World → Prop}
    (hg : o.guard = none) (t : TypeId) (parts : Array (Nat × Operand)) (hop : o.op = Op.build t parts) (vals : Array (Nat × Value)) (hvals : (parts.map fun (i, x) => (i, a.eval x)) = vals) (v : Value)
    (hrun : (Instr.build t vals).run P w = .ok v w) (hK : wpList P ops Q rest (a.put o.dst v) w) :
    wpList P ops Q (o :: rest) a w := by
  refine wpList_plain hg fun K hK' => ?_
  unfold Oper.wp
  simp [execOp, hop, hvals, hrun, Result.andThen]
  exact hK' _ _ hK

/-- The profile's value: what its cells are. -/
theorem prof_value (x0 : Option Addr) (m : Nat) (t0 : Option Addr) (n : Nat) (l : Int) (s0 : Option Addr) (b : Bool) :
    ∃ V : Array Value, (∀ w : World, (Instr.build 61 #[(12, .slice x0 m m), (15, .agg #[.slice t0 n n, .int .i64 l]), (17, .agg #[.slice s0 n n, .int .i64 l]), (16, .bool b)]).run Yba.prog w = .ok (.agg V) w) ∧
      V[1803]? = some (.slice x0 m m) ∧ V[1806]? = some (.slice t0 n n) ∧ V[1807]? = some (.int .i64 l) ∧ V[1808]? = some (.bool b) ∧ V[1809]? = some (.slice s0 n n) ∧ V[1810]? = some (.int .i64 l) :=
  ⟨_, prof_run x0 m t0 n l s0 b, prof_1803 x0 m t0 n l s0 b, prof_1806 x0 m t0 n l s0 b, prof_1807 x0 m t0 n l s0 b, prof_1808 x0 m t0 n l s0 b, prof_1809 x0 m t0 n l s0 b, prof_1810 x0 m t0 n l s0 b⟩

end Go.Proofs.Ybulkafoa
