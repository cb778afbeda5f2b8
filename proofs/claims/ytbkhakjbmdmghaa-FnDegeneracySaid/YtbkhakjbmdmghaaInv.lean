/- What a method of the graphs is, called through an interface value. -/
import Derived.Test.YtbkhakjbmdmghaaProg
import Derived.WalkKit
import Derived.KernelRfl
namespace Go.Proofs.Ytbkhakjbmdmghaa
open Go.RowKit

theorem um_Node (a : Addr) (w : World) : (method 261 43 (.agg #[.pointer (some a)]) "Node").run Try.prog w = .ok (89, .agg #[.pointer (some a)]) w := by kernel_rfl
theorem ua_Node (a : Addr) (w : World) : (nilAhead 261 43 (.agg #[.pointer (some a)]) "Node").run Try.prog w = .ok (some false) w := by kernel_rfl
theorem um_Nodes (a : Addr) (w : World) : (method 261 43 (.agg #[.pointer (some a)]) "Nodes").run Try.prog w = .ok (90, .agg #[.pointer (some a)]) w := by kernel_rfl
theorem ua_Nodes (a : Addr) (w : World) : (nilAhead 261 43 (.agg #[.pointer (some a)]) "Nodes").run Try.prog w = .ok (some false) w := by kernel_rfl
theorem um_From (a : Addr) (w : World) : (method 261 43 (.agg #[.pointer (some a)]) "From").run Try.prog w = .ok (88, .agg #[.pointer (some a)]) w := by kernel_rfl
theorem ua_From (a : Addr) (w : World) : (nilAhead 261 43 (.agg #[.pointer (some a)]) "From").run Try.prog w = .ok (some false) w := by kernel_rfl
theorem um_HasEdgeBetween (a : Addr) (w : World) : (method 261 43 (.agg #[.pointer (some a)]) "HasEdgeBetween").run Try.prog w = .ok (110, .agg #[.pointer (some a)]) w := by kernel_rfl
theorem ua_HasEdgeBetween (a : Addr) (w : World) : (nilAhead 261 43 (.agg #[.pointer (some a)]) "HasEdgeBetween").run Try.prog w = .ok (some false) w := by kernel_rfl
theorem um_Edge (a : Addr) (w : World) : (method 261 43 (.agg #[.pointer (some a)]) "Edge").run Try.prog w = .ok (108, .agg #[.pointer (some a)]) w := by kernel_rfl
theorem ua_Edge (a : Addr) (w : World) : (nilAhead 261 43 (.agg #[.pointer (some a)]) "Edge").run Try.prog w = .ok (some false) w := by kernel_rfl
theorem um_EdgeBetween (a : Addr) (w : World) : (method 261 43 (.agg #[.pointer (some a)]) "EdgeBetween").run Try.prog w = .ok (109, .agg #[.pointer (some a)]) w := by kernel_rfl
theorem ua_EdgeBetween (a : Addr) (w : World) : (nilAhead 261 43 (.agg #[.pointer (some a)]) "EdgeBetween").run Try.prog w = .ok (some false) w := by kernel_rfl
end Go.Proofs.Ytbkhakjbmdmghaa
