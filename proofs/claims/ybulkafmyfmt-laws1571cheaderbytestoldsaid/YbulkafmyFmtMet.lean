/-
  CLOSED FACTS: the methods behind the byte orders.
-/
import Derived.Test.YbulkafmyFmtNew
namespace Go.Proofs.YbulkafmyFmt

theorem nil32L (w : World) : (nilAhead 196 25 (.agg #[]) "PutUint32").run Ybaf.prog w = .ok (some false) w := by kernel_rfl
theorem nil16L (w : World) : (nilAhead 196 25 (.agg #[]) "PutUint16").run Ybaf.prog w = .ok (some false) w := by kernel_rfl
theorem met32L (w : World) : (Go.method 196 25 (.agg #[]) "PutUint32").run Ybaf.prog w = .ok (33, .agg #[]) w := by kernel_rfl
theorem met16L (w : World) : (Go.method 196 25 (.agg #[]) "PutUint16").run Ybaf.prog w = .ok (32, .agg #[]) w := by kernel_rfl
theorem nil32B (w : World) : (nilAhead 196 28 (.agg #[]) "PutUint32").run Ybaf.prog w = .ok (some false) w := by kernel_rfl
theorem nil16B (w : World) : (nilAhead 196 28 (.agg #[]) "PutUint16").run Ybaf.prog w = .ok (some false) w := by kernel_rfl
theorem met32B (w : World) : (Go.method 196 28 (.agg #[]) "PutUint32").run Ybaf.prog w = .ok (37, .agg #[]) w := by kernel_rfl
theorem met16B (w : World) : (Go.method 196 28 (.agg #[]) "PutUint16").run Ybaf.prog w = .ok (36, .agg #[]) w := by kernel_rfl

end Go.Proofs.YbulkafmyFmt
