/- What a method of the graphs is, called through an interface value. -/
import Derived.Test.YtnfkbjgijelfdaaGreatProg
import Derived.WalkKit
import Derived.KernelRfl
namespace Go.Proofs.YtnfkbjgijelfdaaGreat
open Go.RowKit

theorem dm_Node (a : Addr) (w : World) : (method 393 72 (.agg #[.pointer (some a)]) "Node").run Tryz.prog w = .ok (216, .agg #[.pointer (some a)]) w := by kernel_rfl
theorem da_Node (a : Addr) (w : World) : (nilAhead 393 72 (.agg #[.pointer (some a)]) "Node").run Tryz.prog w = .ok (some false) w := by kernel_rfl
theorem dm_Nodes (a : Addr) (w : World) : (method 393 72 (.agg #[.pointer (some a)]) "Nodes").run Tryz.prog w = .ok (217, .agg #[.pointer (some a)]) w := by kernel_rfl
theorem da_Nodes (a : Addr) (w : World) : (nilAhead 393 72 (.agg #[.pointer (some a)]) "Nodes").run Tryz.prog w = .ok (some false) w := by kernel_rfl
theorem dm_From (a : Addr) (w : World) : (method 393 72 (.agg #[.pointer (some a)]) "From").run Tryz.prog w = .ok (215, .agg #[.pointer (some a)]) w := by kernel_rfl
theorem da_From (a : Addr) (w : World) : (nilAhead 393 72 (.agg #[.pointer (some a)]) "From").run Tryz.prog w = .ok (some false) w := by kernel_rfl
theorem dm_To (a : Addr) (w : World) : (method 393 72 (.agg #[.pointer (some a)]) "To").run Tryz.prog w = .ok (218, .agg #[.pointer (some a)]) w := by kernel_rfl
theorem da_To (a : Addr) (w : World) : (nilAhead 393 72 (.agg #[.pointer (some a)]) "To").run Tryz.prog w = .ok (some false) w := by kernel_rfl
theorem dm_HasEdgeFromTo (a : Addr) (w : World) : (method 393 72 (.agg #[.pointer (some a)]) "HasEdgeFromTo").run Tryz.prog w = .ok (219, .agg #[.pointer (some a)]) w := by kernel_rfl
theorem da_HasEdgeFromTo (a : Addr) (w : World) : (nilAhead 393 72 (.agg #[.pointer (some a)]) "HasEdgeFromTo").run Tryz.prog w = .ok (some false) w := by kernel_rfl
theorem dm_HasEdgeBetween (a : Addr) (w : World) : (method 393 72 (.agg #[.pointer (some a)]) "HasEdgeBetween").run Tryz.prog w = .ok (256, .agg #[.pointer (some a)]) w := by kernel_rfl
theorem da_HasEdgeBetween (a : Addr) (w : World) : (nilAhead 393 72 (.agg #[.pointer (some a)]) "HasEdgeBetween").run Tryz.prog w = .ok (some false) w := by kernel_rfl
theorem dm_Edge (a : Addr) (w : World) : (method 393 72 (.agg #[.pointer (some a)]) "Edge").run Tryz.prog w = .ok (214, .agg #[.pointer (some a)]) w := by kernel_rfl
theorem da_Edge (a : Addr) (w : World) : (nilAhead 393 72 (.agg #[.pointer (some a)]) "Edge").run Tryz.prog w = .ok (some false) w := by kernel_rfl
theorem dm_WeightedEdge (a : Addr) (w : World) : (method 393 72 (.agg #[.pointer (some a)]) "WeightedEdge").run Tryz.prog w = .ok (258, .agg #[.pointer (some a)]) w := by kernel_rfl
theorem da_WeightedEdge (a : Addr) (w : World) : (nilAhead 393 72 (.agg #[.pointer (some a)]) "WeightedEdge").run Tryz.prog w = .ok (some false) w := by kernel_rfl
theorem dm_Weight (a : Addr) (w : World) : (method 393 72 (.agg #[.pointer (some a)]) "Weight").run Tryz.prog w = .ok (257, .agg #[.pointer (some a)]) w := by kernel_rfl
theorem da_Weight (a : Addr) (w : World) : (nilAhead 393 72 (.agg #[.pointer (some a)]) "Weight").run Tryz.prog w = .ok (some false) w := by kernel_rfl
theorem um_Node (a : Addr) (w : World) : (method 393 219 (.agg #[.pointer (some a)]) "Node").run Tryz.prog w = .ok (234, .agg #[.pointer (some a)]) w := by kernel_rfl
theorem ua_Node (a : Addr) (w : World) : (nilAhead 393 219 (.agg #[.pointer (some a)]) "Node").run Tryz.prog w = .ok (some false) w := by kernel_rfl
theorem um_Nodes (a : Addr) (w : World) : (method 393 219 (.agg #[.pointer (some a)]) "Nodes").run Tryz.prog w = .ok (235, .agg #[.pointer (some a)]) w := by kernel_rfl
theorem ua_Nodes (a : Addr) (w : World) : (nilAhead 393 219 (.agg #[.pointer (some a)]) "Nodes").run Tryz.prog w = .ok (some false) w := by kernel_rfl
theorem um_From (a : Addr) (w : World) : (method 393 219 (.agg #[.pointer (some a)]) "From").run Tryz.prog w = .ok (232, .agg #[.pointer (some a)]) w := by kernel_rfl
theorem ua_From (a : Addr) (w : World) : (nilAhead 393 219 (.agg #[.pointer (some a)]) "From").run Tryz.prog w = .ok (some false) w := by kernel_rfl
theorem um_HasEdgeBetween (a : Addr) (w : World) : (method 393 219 (.agg #[.pointer (some a)]) "HasEdgeBetween").run Tryz.prog w = .ok (233, .agg #[.pointer (some a)]) w := by kernel_rfl
theorem ua_HasEdgeBetween (a : Addr) (w : World) : (nilAhead 393 219 (.agg #[.pointer (some a)]) "HasEdgeBetween").run Tryz.prog w = .ok (some false) w := by kernel_rfl
theorem um_Edge (a : Addr) (w : World) : (method 393 219 (.agg #[.pointer (some a)]) "Edge").run Tryz.prog w = .ok (231, .agg #[.pointer (some a)]) w := by kernel_rfl
theorem ua_Edge (a : Addr) (w : World) : (nilAhead 393 219 (.agg #[.pointer (some a)]) "Edge").run Tryz.prog w = .ok (some false) w := by kernel_rfl
theorem um_WeightedEdge (a : Addr) (w : World) : (method 393 219 (.agg #[.pointer (some a)]) "WeightedEdge").run Tryz.prog w = .ok (237, .agg #[.pointer (some a)]) w := by kernel_rfl
theorem ua_WeightedEdge (a : Addr) (w : World) : (nilAhead 393 219 (.agg #[.pointer (some a)]) "WeightedEdge").run Tryz.prog w = .ok (some false) w := by kernel_rfl
theorem um_Weight (a : Addr) (w : World) : (method 393 219 (.agg #[.pointer (some a)]) "Weight").run Tryz.prog w = .ok (236, .agg #[.pointer (some a)]) w := by kernel_rfl
theorem ua_Weight (a : Addr) (w : World) : (nilAhead 393 219 (.agg #[.pointer (some a)]) "Weight").run Tryz.prog w = .ok (some false) w := by kernel_rfl
end Go.Proofs.YtnfkbjgijelfdaaGreat
