/-
  The type switch of impl.node: what each assertion gives.
-/
import Derived.Test.YtnpnmfblcogkmaaDoorTok
namespace Go.Proofs.YtnpnmfblcogkmaaDoor
open Go.RowKit

theorem as_Ident_Ident (v : Value) (w : World) : (Instr.typeAssert (.iface 56 v) 46 56 true).run Tryd.prog w = .ok (.tuple #[v, .bool true]) w := by kernel_rfl
theorem as_BasicLit_Ident (v : Value) (w : World) : (Instr.typeAssert (.iface 61 v) 46 56 true).run Tryd.prog w = .ok (.tuple #[.pointer none, .bool false]) w := by kernel_rfl
theorem as_BasicLit_BasicLit (v : Value) (w : World) : (Instr.typeAssert (.iface 61 v) 46 61 true).run Tryd.prog w = .ok (.tuple #[v, .bool true]) w := by kernel_rfl
theorem as_ParenExpr_Ident (v : Value) (w : World) : (Instr.typeAssert (.iface 64 v) 46 56 true).run Tryd.prog w = .ok (.tuple #[.pointer none, .bool false]) w := by kernel_rfl
theorem as_ParenExpr_BasicLit (v : Value) (w : World) : (Instr.typeAssert (.iface 64 v) 46 61 true).run Tryd.prog w = .ok (.tuple #[.pointer none, .bool false]) w := by kernel_rfl
theorem as_ParenExpr_ParenExpr (v : Value) (w : World) : (Instr.typeAssert (.iface 64 v) 46 64 true).run Tryd.prog w = .ok (.tuple #[v, .bool true]) w := by kernel_rfl
theorem as_UnaryExpr_Ident (v : Value) (w : World) : (Instr.typeAssert (.iface 68 v) 46 56 true).run Tryd.prog w = .ok (.tuple #[.pointer none, .bool false]) w := by kernel_rfl
theorem as_UnaryExpr_BasicLit (v : Value) (w : World) : (Instr.typeAssert (.iface 68 v) 46 61 true).run Tryd.prog w = .ok (.tuple #[.pointer none, .bool false]) w := by kernel_rfl
theorem as_UnaryExpr_ParenExpr (v : Value) (w : World) : (Instr.typeAssert (.iface 68 v) 46 64 true).run Tryd.prog w = .ok (.tuple #[.pointer none, .bool false]) w := by kernel_rfl
theorem as_UnaryExpr_UnaryExpr (v : Value) (w : World) : (Instr.typeAssert (.iface 68 v) 46 68 true).run Tryd.prog w = .ok (.tuple #[v, .bool true]) w := by kernel_rfl
theorem as_StarExpr_Ident (v : Value) (w : World) : (Instr.typeAssert (.iface 71 v) 46 56 true).run Tryd.prog w = .ok (.tuple #[.pointer none, .bool false]) w := by kernel_rfl
theorem as_StarExpr_BasicLit (v : Value) (w : World) : (Instr.typeAssert (.iface 71 v) 46 61 true).run Tryd.prog w = .ok (.tuple #[.pointer none, .bool false]) w := by kernel_rfl
theorem as_StarExpr_ParenExpr (v : Value) (w : World) : (Instr.typeAssert (.iface 71 v) 46 64 true).run Tryd.prog w = .ok (.tuple #[.pointer none, .bool false]) w := by kernel_rfl
theorem as_StarExpr_UnaryExpr (v : Value) (w : World) : (Instr.typeAssert (.iface 71 v) 46 68 true).run Tryd.prog w = .ok (.tuple #[.pointer none, .bool false]) w := by kernel_rfl
theorem as_StarExpr_StarExpr (v : Value) (w : World) : (Instr.typeAssert (.iface 71 v) 46 71 true).run Tryd.prog w = .ok (.tuple #[v, .bool true]) w := by kernel_rfl
theorem as_BinaryExpr_Ident (v : Value) (w : World) : (Instr.typeAssert (.iface 74 v) 46 56 true).run Tryd.prog w = .ok (.tuple #[.pointer none, .bool false]) w := by kernel_rfl
theorem as_BinaryExpr_BasicLit (v : Value) (w : World) : (Instr.typeAssert (.iface 74 v) 46 61 true).run Tryd.prog w = .ok (.tuple #[.pointer none, .bool false]) w := by kernel_rfl
theorem as_BinaryExpr_ParenExpr (v : Value) (w : World) : (Instr.typeAssert (.iface 74 v) 46 64 true).run Tryd.prog w = .ok (.tuple #[.pointer none, .bool false]) w := by kernel_rfl
theorem as_BinaryExpr_UnaryExpr (v : Value) (w : World) : (Instr.typeAssert (.iface 74 v) 46 68 true).run Tryd.prog w = .ok (.tuple #[.pointer none, .bool false]) w := by kernel_rfl
theorem as_BinaryExpr_StarExpr (v : Value) (w : World) : (Instr.typeAssert (.iface 74 v) 46 71 true).run Tryd.prog w = .ok (.tuple #[.pointer none, .bool false]) w := by kernel_rfl
theorem as_BinaryExpr_BinaryExpr (v : Value) (w : World) : (Instr.typeAssert (.iface 74 v) 46 74 true).run Tryd.prog w = .ok (.tuple #[v, .bool true]) w := by kernel_rfl
theorem as_SelectorExpr_Ident (v : Value) (w : World) : (Instr.typeAssert (.iface 77 v) 46 56 true).run Tryd.prog w = .ok (.tuple #[.pointer none, .bool false]) w := by kernel_rfl
theorem as_SelectorExpr_BasicLit (v : Value) (w : World) : (Instr.typeAssert (.iface 77 v) 46 61 true).run Tryd.prog w = .ok (.tuple #[.pointer none, .bool false]) w := by kernel_rfl
theorem as_SelectorExpr_ParenExpr (v : Value) (w : World) : (Instr.typeAssert (.iface 77 v) 46 64 true).run Tryd.prog w = .ok (.tuple #[.pointer none, .bool false]) w := by kernel_rfl
theorem as_SelectorExpr_UnaryExpr (v : Value) (w : World) : (Instr.typeAssert (.iface 77 v) 46 68 true).run Tryd.prog w = .ok (.tuple #[.pointer none, .bool false]) w := by kernel_rfl
theorem as_SelectorExpr_StarExpr (v : Value) (w : World) : (Instr.typeAssert (.iface 77 v) 46 71 true).run Tryd.prog w = .ok (.tuple #[.pointer none, .bool false]) w := by kernel_rfl
theorem as_SelectorExpr_BinaryExpr (v : Value) (w : World) : (Instr.typeAssert (.iface 77 v) 46 74 true).run Tryd.prog w = .ok (.tuple #[.pointer none, .bool false]) w := by kernel_rfl
theorem as_SelectorExpr_SelectorExpr (v : Value) (w : World) : (Instr.typeAssert (.iface 77 v) 46 77 true).run Tryd.prog w = .ok (.tuple #[v, .bool true]) w := by kernel_rfl
theorem as_IndexExpr_Ident (v : Value) (w : World) : (Instr.typeAssert (.iface 80 v) 46 56 true).run Tryd.prog w = .ok (.tuple #[.pointer none, .bool false]) w := by kernel_rfl
theorem as_IndexExpr_BasicLit (v : Value) (w : World) : (Instr.typeAssert (.iface 80 v) 46 61 true).run Tryd.prog w = .ok (.tuple #[.pointer none, .bool false]) w := by kernel_rfl
theorem as_IndexExpr_ParenExpr (v : Value) (w : World) : (Instr.typeAssert (.iface 80 v) 46 64 true).run Tryd.prog w = .ok (.tuple #[.pointer none, .bool false]) w := by kernel_rfl
theorem as_IndexExpr_UnaryExpr (v : Value) (w : World) : (Instr.typeAssert (.iface 80 v) 46 68 true).run Tryd.prog w = .ok (.tuple #[.pointer none, .bool false]) w := by kernel_rfl
theorem as_IndexExpr_StarExpr (v : Value) (w : World) : (Instr.typeAssert (.iface 80 v) 46 71 true).run Tryd.prog w = .ok (.tuple #[.pointer none, .bool false]) w := by kernel_rfl
theorem as_IndexExpr_BinaryExpr (v : Value) (w : World) : (Instr.typeAssert (.iface 80 v) 46 74 true).run Tryd.prog w = .ok (.tuple #[.pointer none, .bool false]) w := by kernel_rfl
theorem as_IndexExpr_SelectorExpr (v : Value) (w : World) : (Instr.typeAssert (.iface 80 v) 46 77 true).run Tryd.prog w = .ok (.tuple #[.pointer none, .bool false]) w := by kernel_rfl
theorem as_IndexExpr_IndexExpr (v : Value) (w : World) : (Instr.typeAssert (.iface 80 v) 46 80 true).run Tryd.prog w = .ok (.tuple #[v, .bool true]) w := by kernel_rfl
theorem as_SliceExpr_Ident (v : Value) (w : World) : (Instr.typeAssert (.iface 87 v) 46 56 true).run Tryd.prog w = .ok (.tuple #[.pointer none, .bool false]) w := by kernel_rfl
theorem as_SliceExpr_BasicLit (v : Value) (w : World) : (Instr.typeAssert (.iface 87 v) 46 61 true).run Tryd.prog w = .ok (.tuple #[.pointer none, .bool false]) w := by kernel_rfl
theorem as_SliceExpr_ParenExpr (v : Value) (w : World) : (Instr.typeAssert (.iface 87 v) 46 64 true).run Tryd.prog w = .ok (.tuple #[.pointer none, .bool false]) w := by kernel_rfl
theorem as_SliceExpr_UnaryExpr (v : Value) (w : World) : (Instr.typeAssert (.iface 87 v) 46 68 true).run Tryd.prog w = .ok (.tuple #[.pointer none, .bool false]) w := by kernel_rfl
theorem as_SliceExpr_StarExpr (v : Value) (w : World) : (Instr.typeAssert (.iface 87 v) 46 71 true).run Tryd.prog w = .ok (.tuple #[.pointer none, .bool false]) w := by kernel_rfl
theorem as_SliceExpr_BinaryExpr (v : Value) (w : World) : (Instr.typeAssert (.iface 87 v) 46 74 true).run Tryd.prog w = .ok (.tuple #[.pointer none, .bool false]) w := by kernel_rfl
theorem as_SliceExpr_SelectorExpr (v : Value) (w : World) : (Instr.typeAssert (.iface 87 v) 46 77 true).run Tryd.prog w = .ok (.tuple #[.pointer none, .bool false]) w := by kernel_rfl
theorem as_SliceExpr_IndexExpr (v : Value) (w : World) : (Instr.typeAssert (.iface 87 v) 46 80 true).run Tryd.prog w = .ok (.tuple #[.pointer none, .bool false]) w := by kernel_rfl
theorem as_SliceExpr_IndexListExpr (v : Value) (w : World) : (Instr.typeAssert (.iface 87 v) 46 83 true).run Tryd.prog w = .ok (.tuple #[.pointer none, .bool false]) w := by kernel_rfl
theorem as_SliceExpr_SliceExpr (v : Value) (w : World) : (Instr.typeAssert (.iface 87 v) 46 87 true).run Tryd.prog w = .ok (.tuple #[v, .bool true]) w := by kernel_rfl
theorem as_CallExpr_Ident (v : Value) (w : World) : (Instr.typeAssert (.iface 91 v) 46 56 true).run Tryd.prog w = .ok (.tuple #[.pointer none, .bool false]) w := by kernel_rfl
theorem as_CallExpr_BasicLit (v : Value) (w : World) : (Instr.typeAssert (.iface 91 v) 46 61 true).run Tryd.prog w = .ok (.tuple #[.pointer none, .bool false]) w := by kernel_rfl
theorem as_CallExpr_ParenExpr (v : Value) (w : World) : (Instr.typeAssert (.iface 91 v) 46 64 true).run Tryd.prog w = .ok (.tuple #[.pointer none, .bool false]) w := by kernel_rfl
theorem as_CallExpr_UnaryExpr (v : Value) (w : World) : (Instr.typeAssert (.iface 91 v) 46 68 true).run Tryd.prog w = .ok (.tuple #[.pointer none, .bool false]) w := by kernel_rfl
theorem as_CallExpr_StarExpr (v : Value) (w : World) : (Instr.typeAssert (.iface 91 v) 46 71 true).run Tryd.prog w = .ok (.tuple #[.pointer none, .bool false]) w := by kernel_rfl
theorem as_CallExpr_BinaryExpr (v : Value) (w : World) : (Instr.typeAssert (.iface 91 v) 46 74 true).run Tryd.prog w = .ok (.tuple #[.pointer none, .bool false]) w := by kernel_rfl
theorem as_CallExpr_SelectorExpr (v : Value) (w : World) : (Instr.typeAssert (.iface 91 v) 46 77 true).run Tryd.prog w = .ok (.tuple #[.pointer none, .bool false]) w := by kernel_rfl
theorem as_CallExpr_IndexExpr (v : Value) (w : World) : (Instr.typeAssert (.iface 91 v) 46 80 true).run Tryd.prog w = .ok (.tuple #[.pointer none, .bool false]) w := by kernel_rfl
theorem as_CallExpr_IndexListExpr (v : Value) (w : World) : (Instr.typeAssert (.iface 91 v) 46 83 true).run Tryd.prog w = .ok (.tuple #[.pointer none, .bool false]) w := by kernel_rfl
theorem as_CallExpr_SliceExpr (v : Value) (w : World) : (Instr.typeAssert (.iface 91 v) 46 87 true).run Tryd.prog w = .ok (.tuple #[.pointer none, .bool false]) w := by kernel_rfl
theorem as_CallExpr_CallExpr (v : Value) (w : World) : (Instr.typeAssert (.iface 91 v) 46 91 true).run Tryd.prog w = .ok (.tuple #[v, .bool true]) w := by kernel_rfl
theorem as_TypeAssertExpr_Ident (v : Value) (w : World) : (Instr.typeAssert (.iface 94 v) 46 56 true).run Tryd.prog w = .ok (.tuple #[.pointer none, .bool false]) w := by kernel_rfl
theorem as_TypeAssertExpr_BasicLit (v : Value) (w : World) : (Instr.typeAssert (.iface 94 v) 46 61 true).run Tryd.prog w = .ok (.tuple #[.pointer none, .bool false]) w := by kernel_rfl
theorem as_TypeAssertExpr_ParenExpr (v : Value) (w : World) : (Instr.typeAssert (.iface 94 v) 46 64 true).run Tryd.prog w = .ok (.tuple #[.pointer none, .bool false]) w := by kernel_rfl
theorem as_TypeAssertExpr_UnaryExpr (v : Value) (w : World) : (Instr.typeAssert (.iface 94 v) 46 68 true).run Tryd.prog w = .ok (.tuple #[.pointer none, .bool false]) w := by kernel_rfl
theorem as_TypeAssertExpr_StarExpr (v : Value) (w : World) : (Instr.typeAssert (.iface 94 v) 46 71 true).run Tryd.prog w = .ok (.tuple #[.pointer none, .bool false]) w := by kernel_rfl
theorem as_TypeAssertExpr_BinaryExpr (v : Value) (w : World) : (Instr.typeAssert (.iface 94 v) 46 74 true).run Tryd.prog w = .ok (.tuple #[.pointer none, .bool false]) w := by kernel_rfl
theorem as_TypeAssertExpr_SelectorExpr (v : Value) (w : World) : (Instr.typeAssert (.iface 94 v) 46 77 true).run Tryd.prog w = .ok (.tuple #[.pointer none, .bool false]) w := by kernel_rfl
theorem as_TypeAssertExpr_IndexExpr (v : Value) (w : World) : (Instr.typeAssert (.iface 94 v) 46 80 true).run Tryd.prog w = .ok (.tuple #[.pointer none, .bool false]) w := by kernel_rfl
theorem as_TypeAssertExpr_IndexListExpr (v : Value) (w : World) : (Instr.typeAssert (.iface 94 v) 46 83 true).run Tryd.prog w = .ok (.tuple #[.pointer none, .bool false]) w := by kernel_rfl
theorem as_TypeAssertExpr_SliceExpr (v : Value) (w : World) : (Instr.typeAssert (.iface 94 v) 46 87 true).run Tryd.prog w = .ok (.tuple #[.pointer none, .bool false]) w := by kernel_rfl
theorem as_TypeAssertExpr_CallExpr (v : Value) (w : World) : (Instr.typeAssert (.iface 94 v) 46 91 true).run Tryd.prog w = .ok (.tuple #[.pointer none, .bool false]) w := by kernel_rfl
theorem as_TypeAssertExpr_TypeAssertExpr (v : Value) (w : World) : (Instr.typeAssert (.iface 94 v) 46 94 true).run Tryd.prog w = .ok (.tuple #[v, .bool true]) w := by kernel_rfl
theorem as_CompositeLit_Ident (v : Value) (w : World) : (Instr.typeAssert (.iface 97 v) 46 56 true).run Tryd.prog w = .ok (.tuple #[.pointer none, .bool false]) w := by kernel_rfl
theorem as_CompositeLit_BasicLit (v : Value) (w : World) : (Instr.typeAssert (.iface 97 v) 46 61 true).run Tryd.prog w = .ok (.tuple #[.pointer none, .bool false]) w := by kernel_rfl
theorem as_CompositeLit_ParenExpr (v : Value) (w : World) : (Instr.typeAssert (.iface 97 v) 46 64 true).run Tryd.prog w = .ok (.tuple #[.pointer none, .bool false]) w := by kernel_rfl
theorem as_CompositeLit_UnaryExpr (v : Value) (w : World) : (Instr.typeAssert (.iface 97 v) 46 68 true).run Tryd.prog w = .ok (.tuple #[.pointer none, .bool false]) w := by kernel_rfl
theorem as_CompositeLit_StarExpr (v : Value) (w : World) : (Instr.typeAssert (.iface 97 v) 46 71 true).run Tryd.prog w = .ok (.tuple #[.pointer none, .bool false]) w := by kernel_rfl
theorem as_CompositeLit_BinaryExpr (v : Value) (w : World) : (Instr.typeAssert (.iface 97 v) 46 74 true).run Tryd.prog w = .ok (.tuple #[.pointer none, .bool false]) w := by kernel_rfl
theorem as_CompositeLit_SelectorExpr (v : Value) (w : World) : (Instr.typeAssert (.iface 97 v) 46 77 true).run Tryd.prog w = .ok (.tuple #[.pointer none, .bool false]) w := by kernel_rfl
theorem as_CompositeLit_IndexExpr (v : Value) (w : World) : (Instr.typeAssert (.iface 97 v) 46 80 true).run Tryd.prog w = .ok (.tuple #[.pointer none, .bool false]) w := by kernel_rfl
theorem as_CompositeLit_IndexListExpr (v : Value) (w : World) : (Instr.typeAssert (.iface 97 v) 46 83 true).run Tryd.prog w = .ok (.tuple #[.pointer none, .bool false]) w := by kernel_rfl
theorem as_CompositeLit_SliceExpr (v : Value) (w : World) : (Instr.typeAssert (.iface 97 v) 46 87 true).run Tryd.prog w = .ok (.tuple #[.pointer none, .bool false]) w := by kernel_rfl
theorem as_CompositeLit_CallExpr (v : Value) (w : World) : (Instr.typeAssert (.iface 97 v) 46 91 true).run Tryd.prog w = .ok (.tuple #[.pointer none, .bool false]) w := by kernel_rfl
theorem as_CompositeLit_TypeAssertExpr (v : Value) (w : World) : (Instr.typeAssert (.iface 97 v) 46 94 true).run Tryd.prog w = .ok (.tuple #[.pointer none, .bool false]) w := by kernel_rfl
theorem as_CompositeLit_CompositeLit (v : Value) (w : World) : (Instr.typeAssert (.iface 97 v) 46 97 true).run Tryd.prog w = .ok (.tuple #[v, .bool true]) w := by kernel_rfl
theorem as_KeyValueExpr_Ident (v : Value) (w : World) : (Instr.typeAssert (.iface 100 v) 46 56 true).run Tryd.prog w = .ok (.tuple #[.pointer none, .bool false]) w := by kernel_rfl
theorem as_KeyValueExpr_BasicLit (v : Value) (w : World) : (Instr.typeAssert (.iface 100 v) 46 61 true).run Tryd.prog w = .ok (.tuple #[.pointer none, .bool false]) w := by kernel_rfl
theorem as_KeyValueExpr_ParenExpr (v : Value) (w : World) : (Instr.typeAssert (.iface 100 v) 46 64 true).run Tryd.prog w = .ok (.tuple #[.pointer none, .bool false]) w := by kernel_rfl
theorem as_KeyValueExpr_UnaryExpr (v : Value) (w : World) : (Instr.typeAssert (.iface 100 v) 46 68 true).run Tryd.prog w = .ok (.tuple #[.pointer none, .bool false]) w := by kernel_rfl
theorem as_KeyValueExpr_StarExpr (v : Value) (w : World) : (Instr.typeAssert (.iface 100 v) 46 71 true).run Tryd.prog w = .ok (.tuple #[.pointer none, .bool false]) w := by kernel_rfl
theorem as_KeyValueExpr_BinaryExpr (v : Value) (w : World) : (Instr.typeAssert (.iface 100 v) 46 74 true).run Tryd.prog w = .ok (.tuple #[.pointer none, .bool false]) w := by kernel_rfl
theorem as_KeyValueExpr_SelectorExpr (v : Value) (w : World) : (Instr.typeAssert (.iface 100 v) 46 77 true).run Tryd.prog w = .ok (.tuple #[.pointer none, .bool false]) w := by kernel_rfl
theorem as_KeyValueExpr_IndexExpr (v : Value) (w : World) : (Instr.typeAssert (.iface 100 v) 46 80 true).run Tryd.prog w = .ok (.tuple #[.pointer none, .bool false]) w := by kernel_rfl
theorem as_KeyValueExpr_IndexListExpr (v : Value) (w : World) : (Instr.typeAssert (.iface 100 v) 46 83 true).run Tryd.prog w = .ok (.tuple #[.pointer none, .bool false]) w := by kernel_rfl
theorem as_KeyValueExpr_SliceExpr (v : Value) (w : World) : (Instr.typeAssert (.iface 100 v) 46 87 true).run Tryd.prog w = .ok (.tuple #[.pointer none, .bool false]) w := by kernel_rfl
theorem as_KeyValueExpr_CallExpr (v : Value) (w : World) : (Instr.typeAssert (.iface 100 v) 46 91 true).run Tryd.prog w = .ok (.tuple #[.pointer none, .bool false]) w := by kernel_rfl
theorem as_KeyValueExpr_TypeAssertExpr (v : Value) (w : World) : (Instr.typeAssert (.iface 100 v) 46 94 true).run Tryd.prog w = .ok (.tuple #[.pointer none, .bool false]) w := by kernel_rfl
theorem as_KeyValueExpr_CompositeLit (v : Value) (w : World) : (Instr.typeAssert (.iface 100 v) 46 97 true).run Tryd.prog w = .ok (.tuple #[.pointer none, .bool false]) w := by kernel_rfl
theorem as_KeyValueExpr_KeyValueExpr (v : Value) (w : World) : (Instr.typeAssert (.iface 100 v) 46 100 true).run Tryd.prog w = .ok (.tuple #[v, .bool true]) w := by kernel_rfl
theorem as_ArrayType_Ident (v : Value) (w : World) : (Instr.typeAssert (.iface 103 v) 46 56 true).run Tryd.prog w = .ok (.tuple #[.pointer none, .bool false]) w := by kernel_rfl
theorem as_ArrayType_BasicLit (v : Value) (w : World) : (Instr.typeAssert (.iface 103 v) 46 61 true).run Tryd.prog w = .ok (.tuple #[.pointer none, .bool false]) w := by kernel_rfl
theorem as_ArrayType_ParenExpr (v : Value) (w : World) : (Instr.typeAssert (.iface 103 v) 46 64 true).run Tryd.prog w = .ok (.tuple #[.pointer none, .bool false]) w := by kernel_rfl
theorem as_ArrayType_UnaryExpr (v : Value) (w : World) : (Instr.typeAssert (.iface 103 v) 46 68 true).run Tryd.prog w = .ok (.tuple #[.pointer none, .bool false]) w := by kernel_rfl
theorem as_ArrayType_StarExpr (v : Value) (w : World) : (Instr.typeAssert (.iface 103 v) 46 71 true).run Tryd.prog w = .ok (.tuple #[.pointer none, .bool false]) w := by kernel_rfl
theorem as_ArrayType_BinaryExpr (v : Value) (w : World) : (Instr.typeAssert (.iface 103 v) 46 74 true).run Tryd.prog w = .ok (.tuple #[.pointer none, .bool false]) w := by kernel_rfl
theorem as_ArrayType_SelectorExpr (v : Value) (w : World) : (Instr.typeAssert (.iface 103 v) 46 77 true).run Tryd.prog w = .ok (.tuple #[.pointer none, .bool false]) w := by kernel_rfl
theorem as_ArrayType_IndexExpr (v : Value) (w : World) : (Instr.typeAssert (.iface 103 v) 46 80 true).run Tryd.prog w = .ok (.tuple #[.pointer none, .bool false]) w := by kernel_rfl
theorem as_ArrayType_IndexListExpr (v : Value) (w : World) : (Instr.typeAssert (.iface 103 v) 46 83 true).run Tryd.prog w = .ok (.tuple #[.pointer none, .bool false]) w := by kernel_rfl
theorem as_ArrayType_SliceExpr (v : Value) (w : World) : (Instr.typeAssert (.iface 103 v) 46 87 true).run Tryd.prog w = .ok (.tuple #[.pointer none, .bool false]) w := by kernel_rfl
theorem as_ArrayType_CallExpr (v : Value) (w : World) : (Instr.typeAssert (.iface 103 v) 46 91 true).run Tryd.prog w = .ok (.tuple #[.pointer none, .bool false]) w := by kernel_rfl
theorem as_ArrayType_TypeAssertExpr (v : Value) (w : World) : (Instr.typeAssert (.iface 103 v) 46 94 true).run Tryd.prog w = .ok (.tuple #[.pointer none, .bool false]) w := by kernel_rfl
theorem as_ArrayType_CompositeLit (v : Value) (w : World) : (Instr.typeAssert (.iface 103 v) 46 97 true).run Tryd.prog w = .ok (.tuple #[.pointer none, .bool false]) w := by kernel_rfl
theorem as_ArrayType_KeyValueExpr (v : Value) (w : World) : (Instr.typeAssert (.iface 103 v) 46 100 true).run Tryd.prog w = .ok (.tuple #[.pointer none, .bool false]) w := by kernel_rfl
theorem as_ArrayType_ArrayType (v : Value) (w : World) : (Instr.typeAssert (.iface 103 v) 46 103 true).run Tryd.prog w = .ok (.tuple #[v, .bool true]) w := by kernel_rfl
theorem as_MapType_Ident (v : Value) (w : World) : (Instr.typeAssert (.iface 106 v) 46 56 true).run Tryd.prog w = .ok (.tuple #[.pointer none, .bool false]) w := by kernel_rfl
theorem as_MapType_BasicLit (v : Value) (w : World) : (Instr.typeAssert (.iface 106 v) 46 61 true).run Tryd.prog w = .ok (.tuple #[.pointer none, .bool false]) w := by kernel_rfl
theorem as_MapType_ParenExpr (v : Value) (w : World) : (Instr.typeAssert (.iface 106 v) 46 64 true).run Tryd.prog w = .ok (.tuple #[.pointer none, .bool false]) w := by kernel_rfl
theorem as_MapType_UnaryExpr (v : Value) (w : World) : (Instr.typeAssert (.iface 106 v) 46 68 true).run Tryd.prog w = .ok (.tuple #[.pointer none, .bool false]) w := by kernel_rfl
theorem as_MapType_StarExpr (v : Value) (w : World) : (Instr.typeAssert (.iface 106 v) 46 71 true).run Tryd.prog w = .ok (.tuple #[.pointer none, .bool false]) w := by kernel_rfl
theorem as_MapType_BinaryExpr (v : Value) (w : World) : (Instr.typeAssert (.iface 106 v) 46 74 true).run Tryd.prog w = .ok (.tuple #[.pointer none, .bool false]) w := by kernel_rfl
theorem as_MapType_SelectorExpr (v : Value) (w : World) : (Instr.typeAssert (.iface 106 v) 46 77 true).run Tryd.prog w = .ok (.tuple #[.pointer none, .bool false]) w := by kernel_rfl
theorem as_MapType_IndexExpr (v : Value) (w : World) : (Instr.typeAssert (.iface 106 v) 46 80 true).run Tryd.prog w = .ok (.tuple #[.pointer none, .bool false]) w := by kernel_rfl
theorem as_MapType_IndexListExpr (v : Value) (w : World) : (Instr.typeAssert (.iface 106 v) 46 83 true).run Tryd.prog w = .ok (.tuple #[.pointer none, .bool false]) w := by kernel_rfl
theorem as_MapType_SliceExpr (v : Value) (w : World) : (Instr.typeAssert (.iface 106 v) 46 87 true).run Tryd.prog w = .ok (.tuple #[.pointer none, .bool false]) w := by kernel_rfl
theorem as_MapType_CallExpr (v : Value) (w : World) : (Instr.typeAssert (.iface 106 v) 46 91 true).run Tryd.prog w = .ok (.tuple #[.pointer none, .bool false]) w := by kernel_rfl
theorem as_MapType_TypeAssertExpr (v : Value) (w : World) : (Instr.typeAssert (.iface 106 v) 46 94 true).run Tryd.prog w = .ok (.tuple #[.pointer none, .bool false]) w := by kernel_rfl
theorem as_MapType_CompositeLit (v : Value) (w : World) : (Instr.typeAssert (.iface 106 v) 46 97 true).run Tryd.prog w = .ok (.tuple #[.pointer none, .bool false]) w := by kernel_rfl
theorem as_MapType_KeyValueExpr (v : Value) (w : World) : (Instr.typeAssert (.iface 106 v) 46 100 true).run Tryd.prog w = .ok (.tuple #[.pointer none, .bool false]) w := by kernel_rfl
theorem as_MapType_ArrayType (v : Value) (w : World) : (Instr.typeAssert (.iface 106 v) 46 103 true).run Tryd.prog w = .ok (.tuple #[.pointer none, .bool false]) w := by kernel_rfl
theorem as_MapType_MapType (v : Value) (w : World) : (Instr.typeAssert (.iface 106 v) 46 106 true).run Tryd.prog w = .ok (.tuple #[v, .bool true]) w := by kernel_rfl
end Go.Proofs.YtnpnmfblcogkmaaDoor
