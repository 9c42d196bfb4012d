/- Closed facts for bmp.Encode: type assertions on the four kinds of pictures, their method Bounds, make([]byte, 1024). -/
import Derived.Test.YtfefgopomhhpfaaDoorKeep
namespace Go.Proofs.YtfefgopomhhpfaaDoor
open Go.RowKit

theorem nil_bounds73 (a : Addr) (w : World) : (nilAhead 272 73 (.pointer (some a)) "Bounds").run Tryd.prog w = .ok (some false) w := by kernel_rfl
theorem method_bounds73 (a : Addr) (w : World) : (method 272 73 (.pointer (some a)) "Bounds").run Tryd.prog w = .ok (61, .pointer (some a)) w := by kernel_rfl
theorem assert_73_73 (a : Addr) (w : World) : (Instr.typeAssert (.iface 73 (.pointer (some a))) 51 73 true).run Tryd.prog w = .ok (.tuple #[.pointer (some a), .bool true]) w := by kernel_rfl
theorem assert_73_74 (a : Addr) (w : World) : (Instr.typeAssert (.iface 73 (.pointer (some a))) 51 74 true).run Tryd.prog w = .ok (.tuple #[.pointer none, .bool false]) w := by kernel_rfl
theorem assert_73_83 (a : Addr) (w : World) : (Instr.typeAssert (.iface 73 (.pointer (some a))) 51 83 true).run Tryd.prog w = .ok (.tuple #[.pointer none, .bool false]) w := by kernel_rfl
theorem assert_73_85 (a : Addr) (w : World) : (Instr.typeAssert (.iface 73 (.pointer (some a))) 51 85 true).run Tryd.prog w = .ok (.tuple #[.pointer none, .bool false]) w := by kernel_rfl
theorem nil_bounds74 (a : Addr) (w : World) : (nilAhead 272 74 (.pointer (some a)) "Bounds").run Tryd.prog w = .ok (some false) w := by kernel_rfl
theorem method_bounds74 (a : Addr) (w : World) : (method 272 74 (.pointer (some a)) "Bounds").run Tryd.prog w = .ok (67, .pointer (some a)) w := by kernel_rfl
theorem assert_74_73 (a : Addr) (w : World) : (Instr.typeAssert (.iface 74 (.pointer (some a))) 51 73 true).run Tryd.prog w = .ok (.tuple #[.pointer none, .bool false]) w := by kernel_rfl
theorem assert_74_74 (a : Addr) (w : World) : (Instr.typeAssert (.iface 74 (.pointer (some a))) 51 74 true).run Tryd.prog w = .ok (.tuple #[.pointer (some a), .bool true]) w := by kernel_rfl
theorem assert_74_83 (a : Addr) (w : World) : (Instr.typeAssert (.iface 74 (.pointer (some a))) 51 83 true).run Tryd.prog w = .ok (.tuple #[.pointer none, .bool false]) w := by kernel_rfl
theorem assert_74_85 (a : Addr) (w : World) : (Instr.typeAssert (.iface 74 (.pointer (some a))) 51 85 true).run Tryd.prog w = .ok (.tuple #[.pointer none, .bool false]) w := by kernel_rfl
theorem nil_bounds83 (a : Addr) (w : World) : (nilAhead 272 83 (.pointer (some a)) "Bounds").run Tryd.prog w = .ok (some false) w := by kernel_rfl
theorem method_bounds83 (a : Addr) (w : World) : (method 272 83 (.pointer (some a)) "Bounds").run Tryd.prog w = .ok (73, .pointer (some a)) w := by kernel_rfl
theorem assert_83_73 (a : Addr) (w : World) : (Instr.typeAssert (.iface 83 (.pointer (some a))) 51 73 true).run Tryd.prog w = .ok (.tuple #[.pointer none, .bool false]) w := by kernel_rfl
theorem assert_83_74 (a : Addr) (w : World) : (Instr.typeAssert (.iface 83 (.pointer (some a))) 51 74 true).run Tryd.prog w = .ok (.tuple #[.pointer none, .bool false]) w := by kernel_rfl
theorem assert_83_83 (a : Addr) (w : World) : (Instr.typeAssert (.iface 83 (.pointer (some a))) 51 83 true).run Tryd.prog w = .ok (.tuple #[.pointer (some a), .bool true]) w := by kernel_rfl
theorem assert_83_85 (a : Addr) (w : World) : (Instr.typeAssert (.iface 83 (.pointer (some a))) 51 85 true).run Tryd.prog w = .ok (.tuple #[.pointer none, .bool false]) w := by kernel_rfl
theorem nil_bounds85 (a : Addr) (w : World) : (nilAhead 272 85 (.pointer (some a)) "Bounds").run Tryd.prog w = .ok (some false) w := by kernel_rfl
theorem method_bounds85 (a : Addr) (w : World) : (method 272 85 (.pointer (some a)) "Bounds").run Tryd.prog w = .ok (78, .pointer (some a)) w := by kernel_rfl
theorem assert_85_73 (a : Addr) (w : World) : (Instr.typeAssert (.iface 85 (.pointer (some a))) 51 73 true).run Tryd.prog w = .ok (.tuple #[.pointer none, .bool false]) w := by kernel_rfl
theorem assert_85_74 (a : Addr) (w : World) : (Instr.typeAssert (.iface 85 (.pointer (some a))) 51 74 true).run Tryd.prog w = .ok (.tuple #[.pointer none, .bool false]) w := by kernel_rfl
theorem assert_85_83 (a : Addr) (w : World) : (Instr.typeAssert (.iface 85 (.pointer (some a))) 51 83 true).run Tryd.prog w = .ok (.tuple #[.pointer none, .bool false]) w := by kernel_rfl
theorem assert_85_85 (a : Addr) (w : World) : (Instr.typeAssert (.iface 85 (.pointer (some a))) 51 85 true).run Tryd.prog w = .ok (.tuple #[.pointer (some a), .bool true]) w := by kernel_rfl

/-- make([]byte, 1024). -/
theorem make1024 : ∃ M : Array Value, (∀ w : World, (Instr.makeSlice 22 (.int .i64 1024) (.int .i64 1024)).run Tryd.prog w = .ok (.slice (some ⟨w.heap.size, 0, none⟩) 1024 1024) (w.alloc (.cells M 5))) ∧
    ∀ w : World, (w.alloc (.cells M 5)).rowIs w.heap.size 5 1024 (fun _ => .int .u8 0) :=
  ⟨madeCells #[.int .u8 0] 1024, fun w => run_make_row' (P := Tryd.prog) 22 5 (.int .u8 0) 1 Tryd.underlying22 info5 rfl .i64 .i64 1024 (by omega) (by omega) w, fun w => World.rowIs_made w _ _ _⟩
end Go.Proofs.YtfefgopomhhpfaaDoor
