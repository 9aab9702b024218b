/-
  The type switch of impl.node: what each assertion gives.
  The type switch of ast.Walk: what each assertion gives.
-/
import Derived.Test.YtjbhjbpamnoebaaGreatFmtK1
namespace Go.Proofs.YtjbhjbpamnoebaaGreatFmt
open Go.RowKit

theorem as_Ident_Ident (v : Value) (w : World) : (Instr.typeAssert (.iface 80 v) 44 80 true).run Tryz.prog w = .ok (.tuple #[v, .bool true]) w := by kernel_rfl
theorem as_BasicLit_Ident (v : Value) (w : World) : (Instr.typeAssert (.iface 76 v) 44 80 true).run Tryz.prog w = .ok (.tuple #[.pointer none, .bool false]) w := by kernel_rfl
theorem as_BasicLit_BasicLit (v : Value) (w : World) : (Instr.typeAssert (.iface 76 v) 44 76 true).run Tryz.prog w = .ok (.tuple #[v, .bool true]) w := by kernel_rfl
theorem as_ParenExpr_Ident (v : Value) (w : World) : (Instr.typeAssert (.iface 100 v) 44 80 true).run Tryz.prog w = .ok (.tuple #[.pointer none, .bool false]) w := by kernel_rfl
theorem as_ParenExpr_BasicLit (v : Value) (w : World) : (Instr.typeAssert (.iface 100 v) 44 76 true).run Tryz.prog w = .ok (.tuple #[.pointer none, .bool false]) w := by kernel_rfl
theorem as_ParenExpr_ParenExpr (v : Value) (w : World) : (Instr.typeAssert (.iface 100 v) 44 100 true).run Tryz.prog w = .ok (.tuple #[v, .bool true]) w := by kernel_rfl
theorem as_UnaryExpr_Ident (v : Value) (w : World) : (Instr.typeAssert (.iface 124 v) 44 80 true).run Tryz.prog w = .ok (.tuple #[.pointer none, .bool false]) w := by kernel_rfl
theorem as_UnaryExpr_BasicLit (v : Value) (w : World) : (Instr.typeAssert (.iface 124 v) 44 76 true).run Tryz.prog w = .ok (.tuple #[.pointer none, .bool false]) w := by kernel_rfl
theorem as_UnaryExpr_ParenExpr (v : Value) (w : World) : (Instr.typeAssert (.iface 124 v) 44 100 true).run Tryz.prog w = .ok (.tuple #[.pointer none, .bool false]) w := by kernel_rfl
theorem as_UnaryExpr_UnaryExpr (v : Value) (w : World) : (Instr.typeAssert (.iface 124 v) 44 124 true).run Tryz.prog w = .ok (.tuple #[v, .bool true]) w := by kernel_rfl
theorem as_StarExpr_Ident (v : Value) (w : World) : (Instr.typeAssert (.iface 121 v) 44 80 true).run Tryz.prog w = .ok (.tuple #[.pointer none, .bool false]) w := by kernel_rfl
theorem as_StarExpr_BasicLit (v : Value) (w : World) : (Instr.typeAssert (.iface 121 v) 44 76 true).run Tryz.prog w = .ok (.tuple #[.pointer none, .bool false]) w := by kernel_rfl
theorem as_StarExpr_ParenExpr (v : Value) (w : World) : (Instr.typeAssert (.iface 121 v) 44 100 true).run Tryz.prog w = .ok (.tuple #[.pointer none, .bool false]) w := by kernel_rfl
theorem as_StarExpr_UnaryExpr (v : Value) (w : World) : (Instr.typeAssert (.iface 121 v) 44 124 true).run Tryz.prog w = .ok (.tuple #[.pointer none, .bool false]) w := by kernel_rfl
theorem as_StarExpr_StarExpr (v : Value) (w : World) : (Instr.typeAssert (.iface 121 v) 44 121 true).run Tryz.prog w = .ok (.tuple #[v, .bool true]) w := by kernel_rfl
theorem as_BinaryExpr_Ident (v : Value) (w : World) : (Instr.typeAssert (.iface 128 v) 44 80 true).run Tryz.prog w = .ok (.tuple #[.pointer none, .bool false]) w := by kernel_rfl
theorem as_BinaryExpr_BasicLit (v : Value) (w : World) : (Instr.typeAssert (.iface 128 v) 44 76 true).run Tryz.prog w = .ok (.tuple #[.pointer none, .bool false]) w := by kernel_rfl
theorem as_BinaryExpr_ParenExpr (v : Value) (w : World) : (Instr.typeAssert (.iface 128 v) 44 100 true).run Tryz.prog w = .ok (.tuple #[.pointer none, .bool false]) w := by kernel_rfl
theorem as_BinaryExpr_UnaryExpr (v : Value) (w : World) : (Instr.typeAssert (.iface 128 v) 44 124 true).run Tryz.prog w = .ok (.tuple #[.pointer none, .bool false]) w := by kernel_rfl
theorem as_BinaryExpr_StarExpr (v : Value) (w : World) : (Instr.typeAssert (.iface 128 v) 44 121 true).run Tryz.prog w = .ok (.tuple #[.pointer none, .bool false]) w := by kernel_rfl
theorem as_BinaryExpr_BinaryExpr (v : Value) (w : World) : (Instr.typeAssert (.iface 128 v) 44 128 true).run Tryz.prog w = .ok (.tuple #[v, .bool true]) w := by kernel_rfl
theorem as_SelectorExpr_Ident (v : Value) (w : World) : (Instr.typeAssert (.iface 103 v) 44 80 true).run Tryz.prog w = .ok (.tuple #[.pointer none, .bool false]) w := by kernel_rfl
theorem as_SelectorExpr_BasicLit (v : Value) (w : World) : (Instr.typeAssert (.iface 103 v) 44 76 true).run Tryz.prog w = .ok (.tuple #[.pointer none, .bool false]) w := by kernel_rfl
theorem as_SelectorExpr_ParenExpr (v : Value) (w : World) : (Instr.typeAssert (.iface 103 v) 44 100 true).run Tryz.prog w = .ok (.tuple #[.pointer none, .bool false]) w := by kernel_rfl
theorem as_SelectorExpr_UnaryExpr (v : Value) (w : World) : (Instr.typeAssert (.iface 103 v) 44 124 true).run Tryz.prog w = .ok (.tuple #[.pointer none, .bool false]) w := by kernel_rfl
theorem as_SelectorExpr_StarExpr (v : Value) (w : World) : (Instr.typeAssert (.iface 103 v) 44 121 true).run Tryz.prog w = .ok (.tuple #[.pointer none, .bool false]) w := by kernel_rfl
theorem as_SelectorExpr_BinaryExpr (v : Value) (w : World) : (Instr.typeAssert (.iface 103 v) 44 128 true).run Tryz.prog w = .ok (.tuple #[.pointer none, .bool false]) w := by kernel_rfl
theorem as_SelectorExpr_SelectorExpr (v : Value) (w : World) : (Instr.typeAssert (.iface 103 v) 44 103 true).run Tryz.prog w = .ok (.tuple #[v, .bool true]) w := by kernel_rfl
theorem as_IndexExpr_Ident (v : Value) (w : World) : (Instr.typeAssert (.iface 106 v) 44 80 true).run Tryz.prog w = .ok (.tuple #[.pointer none, .bool false]) w := by kernel_rfl
theorem as_IndexExpr_BasicLit (v : Value) (w : World) : (Instr.typeAssert (.iface 106 v) 44 76 true).run Tryz.prog w = .ok (.tuple #[.pointer none, .bool false]) w := by kernel_rfl
theorem as_IndexExpr_ParenExpr (v : Value) (w : World) : (Instr.typeAssert (.iface 106 v) 44 100 true).run Tryz.prog w = .ok (.tuple #[.pointer none, .bool false]) w := by kernel_rfl
theorem as_IndexExpr_UnaryExpr (v : Value) (w : World) : (Instr.typeAssert (.iface 106 v) 44 124 true).run Tryz.prog w = .ok (.tuple #[.pointer none, .bool false]) w := by kernel_rfl
theorem as_IndexExpr_StarExpr (v : Value) (w : World) : (Instr.typeAssert (.iface 106 v) 44 121 true).run Tryz.prog w = .ok (.tuple #[.pointer none, .bool false]) w := by kernel_rfl
theorem as_IndexExpr_BinaryExpr (v : Value) (w : World) : (Instr.typeAssert (.iface 106 v) 44 128 true).run Tryz.prog w = .ok (.tuple #[.pointer none, .bool false]) w := by kernel_rfl
theorem as_IndexExpr_SelectorExpr (v : Value) (w : World) : (Instr.typeAssert (.iface 106 v) 44 103 true).run Tryz.prog w = .ok (.tuple #[.pointer none, .bool false]) w := by kernel_rfl
theorem as_IndexExpr_IndexExpr (v : Value) (w : World) : (Instr.typeAssert (.iface 106 v) 44 106 true).run Tryz.prog w = .ok (.tuple #[v, .bool true]) w := by kernel_rfl
theorem as_SliceExpr_Ident (v : Value) (w : World) : (Instr.typeAssert (.iface 112 v) 44 80 true).run Tryz.prog w = .ok (.tuple #[.pointer none, .bool false]) w := by kernel_rfl
theorem as_SliceExpr_BasicLit (v : Value) (w : World) : (Instr.typeAssert (.iface 112 v) 44 76 true).run Tryz.prog w = .ok (.tuple #[.pointer none, .bool false]) w := by kernel_rfl
theorem as_SliceExpr_ParenExpr (v : Value) (w : World) : (Instr.typeAssert (.iface 112 v) 44 100 true).run Tryz.prog w = .ok (.tuple #[.pointer none, .bool false]) w := by kernel_rfl
theorem as_SliceExpr_UnaryExpr (v : Value) (w : World) : (Instr.typeAssert (.iface 112 v) 44 124 true).run Tryz.prog w = .ok (.tuple #[.pointer none, .bool false]) w := by kernel_rfl
theorem as_SliceExpr_StarExpr (v : Value) (w : World) : (Instr.typeAssert (.iface 112 v) 44 121 true).run Tryz.prog w = .ok (.tuple #[.pointer none, .bool false]) w := by kernel_rfl
theorem as_SliceExpr_BinaryExpr (v : Value) (w : World) : (Instr.typeAssert (.iface 112 v) 44 128 true).run Tryz.prog w = .ok (.tuple #[.pointer none, .bool false]) w := by kernel_rfl
theorem as_SliceExpr_SelectorExpr (v : Value) (w : World) : (Instr.typeAssert (.iface 112 v) 44 103 true).run Tryz.prog w = .ok (.tuple #[.pointer none, .bool false]) w := by kernel_rfl
theorem as_SliceExpr_IndexExpr (v : Value) (w : World) : (Instr.typeAssert (.iface 112 v) 44 106 true).run Tryz.prog w = .ok (.tuple #[.pointer none, .bool false]) w := by kernel_rfl
theorem as_SliceExpr_IndexListExpr (v : Value) (w : World) : (Instr.typeAssert (.iface 112 v) 44 109 true).run Tryz.prog w = .ok (.tuple #[.pointer none, .bool false]) w := by kernel_rfl
theorem as_SliceExpr_SliceExpr (v : Value) (w : World) : (Instr.typeAssert (.iface 112 v) 44 112 true).run Tryz.prog w = .ok (.tuple #[v, .bool true]) w := by kernel_rfl
theorem as_CallExpr_Ident (v : Value) (w : World) : (Instr.typeAssert (.iface 118 v) 44 80 true).run Tryz.prog w = .ok (.tuple #[.pointer none, .bool false]) w := by kernel_rfl
theorem as_CallExpr_BasicLit (v : Value) (w : World) : (Instr.typeAssert (.iface 118 v) 44 76 true).run Tryz.prog w = .ok (.tuple #[.pointer none, .bool false]) w := by kernel_rfl
theorem as_CallExpr_ParenExpr (v : Value) (w : World) : (Instr.typeAssert (.iface 118 v) 44 100 true).run Tryz.prog w = .ok (.tuple #[.pointer none, .bool false]) w := by kernel_rfl
theorem as_CallExpr_UnaryExpr (v : Value) (w : World) : (Instr.typeAssert (.iface 118 v) 44 124 true).run Tryz.prog w = .ok (.tuple #[.pointer none, .bool false]) w := by kernel_rfl
theorem as_CallExpr_StarExpr (v : Value) (w : World) : (Instr.typeAssert (.iface 118 v) 44 121 true).run Tryz.prog w = .ok (.tuple #[.pointer none, .bool false]) w := by kernel_rfl
theorem as_CallExpr_BinaryExpr (v : Value) (w : World) : (Instr.typeAssert (.iface 118 v) 44 128 true).run Tryz.prog w = .ok (.tuple #[.pointer none, .bool false]) w := by kernel_rfl
theorem as_CallExpr_SelectorExpr (v : Value) (w : World) : (Instr.typeAssert (.iface 118 v) 44 103 true).run Tryz.prog w = .ok (.tuple #[.pointer none, .bool false]) w := by kernel_rfl
theorem as_CallExpr_IndexExpr (v : Value) (w : World) : (Instr.typeAssert (.iface 118 v) 44 106 true).run Tryz.prog w = .ok (.tuple #[.pointer none, .bool false]) w := by kernel_rfl
theorem as_CallExpr_IndexListExpr (v : Value) (w : World) : (Instr.typeAssert (.iface 118 v) 44 109 true).run Tryz.prog w = .ok (.tuple #[.pointer none, .bool false]) w := by kernel_rfl
theorem as_CallExpr_SliceExpr (v : Value) (w : World) : (Instr.typeAssert (.iface 118 v) 44 112 true).run Tryz.prog w = .ok (.tuple #[.pointer none, .bool false]) w := by kernel_rfl
theorem as_CallExpr_CallExpr (v : Value) (w : World) : (Instr.typeAssert (.iface 118 v) 44 118 true).run Tryz.prog w = .ok (.tuple #[v, .bool true]) w := by kernel_rfl
theorem as_TypeAssertExpr_Ident (v : Value) (w : World) : (Instr.typeAssert (.iface 115 v) 44 80 true).run Tryz.prog w = .ok (.tuple #[.pointer none, .bool false]) w := by kernel_rfl
theorem as_TypeAssertExpr_BasicLit (v : Value) (w : World) : (Instr.typeAssert (.iface 115 v) 44 76 true).run Tryz.prog w = .ok (.tuple #[.pointer none, .bool false]) w := by kernel_rfl
theorem as_TypeAssertExpr_ParenExpr (v : Value) (w : World) : (Instr.typeAssert (.iface 115 v) 44 100 true).run Tryz.prog w = .ok (.tuple #[.pointer none, .bool false]) w := by kernel_rfl
theorem as_TypeAssertExpr_UnaryExpr (v : Value) (w : World) : (Instr.typeAssert (.iface 115 v) 44 124 true).run Tryz.prog w = .ok (.tuple #[.pointer none, .bool false]) w := by kernel_rfl
theorem as_TypeAssertExpr_StarExpr (v : Value) (w : World) : (Instr.typeAssert (.iface 115 v) 44 121 true).run Tryz.prog w = .ok (.tuple #[.pointer none, .bool false]) w := by kernel_rfl
theorem as_TypeAssertExpr_BinaryExpr (v : Value) (w : World) : (Instr.typeAssert (.iface 115 v) 44 128 true).run Tryz.prog w = .ok (.tuple #[.pointer none, .bool false]) w := by kernel_rfl
theorem as_TypeAssertExpr_SelectorExpr (v : Value) (w : World) : (Instr.typeAssert (.iface 115 v) 44 103 true).run Tryz.prog w = .ok (.tuple #[.pointer none, .bool false]) w := by kernel_rfl
theorem as_TypeAssertExpr_IndexExpr (v : Value) (w : World) : (Instr.typeAssert (.iface 115 v) 44 106 true).run Tryz.prog w = .ok (.tuple #[.pointer none, .bool false]) w := by kernel_rfl
theorem as_TypeAssertExpr_IndexListExpr (v : Value) (w : World) : (Instr.typeAssert (.iface 115 v) 44 109 true).run Tryz.prog w = .ok (.tuple #[.pointer none, .bool false]) w := by kernel_rfl
theorem as_TypeAssertExpr_SliceExpr (v : Value) (w : World) : (Instr.typeAssert (.iface 115 v) 44 112 true).run Tryz.prog w = .ok (.tuple #[.pointer none, .bool false]) w := by kernel_rfl
theorem as_TypeAssertExpr_CallExpr (v : Value) (w : World) : (Instr.typeAssert (.iface 115 v) 44 118 true).run Tryz.prog w = .ok (.tuple #[.pointer none, .bool false]) w := by kernel_rfl
theorem as_TypeAssertExpr_TypeAssertExpr (v : Value) (w : World) : (Instr.typeAssert (.iface 115 v) 44 115 true).run Tryz.prog w = .ok (.tuple #[v, .bool true]) w := by kernel_rfl
theorem as_CompositeLit_Ident (v : Value) (w : World) : (Instr.typeAssert (.iface 95 v) 44 80 true).run Tryz.prog w = .ok (.tuple #[.pointer none, .bool false]) w := by kernel_rfl
theorem as_CompositeLit_BasicLit (v : Value) (w : World) : (Instr.typeAssert (.iface 95 v) 44 76 true).run Tryz.prog w = .ok (.tuple #[.pointer none, .bool false]) w := by kernel_rfl
theorem as_CompositeLit_ParenExpr (v : Value) (w : World) : (Instr.typeAssert (.iface 95 v) 44 100 true).run Tryz.prog w = .ok (.tuple #[.pointer none, .bool false]) w := by kernel_rfl
theorem as_CompositeLit_UnaryExpr (v : Value) (w : World) : (Instr.typeAssert (.iface 95 v) 44 124 true).run Tryz.prog w = .ok (.tuple #[.pointer none, .bool false]) w := by kernel_rfl
theorem as_CompositeLit_StarExpr (v : Value) (w : World) : (Instr.typeAssert (.iface 95 v) 44 121 true).run Tryz.prog w = .ok (.tuple #[.pointer none, .bool false]) w := by kernel_rfl
theorem as_CompositeLit_BinaryExpr (v : Value) (w : World) : (Instr.typeAssert (.iface 95 v) 44 128 true).run Tryz.prog w = .ok (.tuple #[.pointer none, .bool false]) w := by kernel_rfl
theorem as_CompositeLit_SelectorExpr (v : Value) (w : World) : (Instr.typeAssert (.iface 95 v) 44 103 true).run Tryz.prog w = .ok (.tuple #[.pointer none, .bool false]) w := by kernel_rfl
theorem as_CompositeLit_IndexExpr (v : Value) (w : World) : (Instr.typeAssert (.iface 95 v) 44 106 true).run Tryz.prog w = .ok (.tuple #[.pointer none, .bool false]) w := by kernel_rfl
theorem as_CompositeLit_IndexListExpr (v : Value) (w : World) : (Instr.typeAssert (.iface 95 v) 44 109 true).run Tryz.prog w = .ok (.tuple #[.pointer none, .bool false]) w := by kernel_rfl
theorem as_CompositeLit_SliceExpr (v : Value) (w : World) : (Instr.typeAssert (.iface 95 v) 44 112 true).run Tryz.prog w = .ok (.tuple #[.pointer none, .bool false]) w := by kernel_rfl
theorem as_CompositeLit_CallExpr (v : Value) (w : World) : (Instr.typeAssert (.iface 95 v) 44 118 true).run Tryz.prog w = .ok (.tuple #[.pointer none, .bool false]) w := by kernel_rfl
theorem as_CompositeLit_TypeAssertExpr (v : Value) (w : World) : (Instr.typeAssert (.iface 95 v) 44 115 true).run Tryz.prog w = .ok (.tuple #[.pointer none, .bool false]) w := by kernel_rfl
theorem as_CompositeLit_CompositeLit (v : Value) (w : World) : (Instr.typeAssert (.iface 95 v) 44 95 true).run Tryz.prog w = .ok (.tuple #[v, .bool true]) w := by kernel_rfl
theorem as_KeyValueExpr_Ident (v : Value) (w : World) : (Instr.typeAssert (.iface 131 v) 44 80 true).run Tryz.prog w = .ok (.tuple #[.pointer none, .bool false]) w := by kernel_rfl
theorem as_KeyValueExpr_BasicLit (v : Value) (w : World) : (Instr.typeAssert (.iface 131 v) 44 76 true).run Tryz.prog w = .ok (.tuple #[.pointer none, .bool false]) w := by kernel_rfl
theorem as_KeyValueExpr_ParenExpr (v : Value) (w : World) : (Instr.typeAssert (.iface 131 v) 44 100 true).run Tryz.prog w = .ok (.tuple #[.pointer none, .bool false]) w := by kernel_rfl
theorem as_KeyValueExpr_UnaryExpr (v : Value) (w : World) : (Instr.typeAssert (.iface 131 v) 44 124 true).run Tryz.prog w = .ok (.tuple #[.pointer none, .bool false]) w := by kernel_rfl
theorem as_KeyValueExpr_StarExpr (v : Value) (w : World) : (Instr.typeAssert (.iface 131 v) 44 121 true).run Tryz.prog w = .ok (.tuple #[.pointer none, .bool false]) w := by kernel_rfl
theorem as_KeyValueExpr_BinaryExpr (v : Value) (w : World) : (Instr.typeAssert (.iface 131 v) 44 128 true).run Tryz.prog w = .ok (.tuple #[.pointer none, .bool false]) w := by kernel_rfl
theorem as_KeyValueExpr_SelectorExpr (v : Value) (w : World) : (Instr.typeAssert (.iface 131 v) 44 103 true).run Tryz.prog w = .ok (.tuple #[.pointer none, .bool false]) w := by kernel_rfl
theorem as_KeyValueExpr_IndexExpr (v : Value) (w : World) : (Instr.typeAssert (.iface 131 v) 44 106 true).run Tryz.prog w = .ok (.tuple #[.pointer none, .bool false]) w := by kernel_rfl
theorem as_KeyValueExpr_IndexListExpr (v : Value) (w : World) : (Instr.typeAssert (.iface 131 v) 44 109 true).run Tryz.prog w = .ok (.tuple #[.pointer none, .bool false]) w := by kernel_rfl
theorem as_KeyValueExpr_SliceExpr (v : Value) (w : World) : (Instr.typeAssert (.iface 131 v) 44 112 true).run Tryz.prog w = .ok (.tuple #[.pointer none, .bool false]) w := by kernel_rfl
theorem as_KeyValueExpr_CallExpr (v : Value) (w : World) : (Instr.typeAssert (.iface 131 v) 44 118 true).run Tryz.prog w = .ok (.tuple #[.pointer none, .bool false]) w := by kernel_rfl
theorem as_KeyValueExpr_TypeAssertExpr (v : Value) (w : World) : (Instr.typeAssert (.iface 131 v) 44 115 true).run Tryz.prog w = .ok (.tuple #[.pointer none, .bool false]) w := by kernel_rfl
theorem as_KeyValueExpr_CompositeLit (v : Value) (w : World) : (Instr.typeAssert (.iface 131 v) 44 95 true).run Tryz.prog w = .ok (.tuple #[.pointer none, .bool false]) w := by kernel_rfl
theorem as_KeyValueExpr_KeyValueExpr (v : Value) (w : World) : (Instr.typeAssert (.iface 131 v) 44 131 true).run Tryz.prog w = .ok (.tuple #[v, .bool true]) w := by kernel_rfl
theorem as_ArrayType_Ident (v : Value) (w : World) : (Instr.typeAssert (.iface 134 v) 44 80 true).run Tryz.prog w = .ok (.tuple #[.pointer none, .bool false]) w := by kernel_rfl
theorem as_ArrayType_BasicLit (v : Value) (w : World) : (Instr.typeAssert (.iface 134 v) 44 76 true).run Tryz.prog w = .ok (.tuple #[.pointer none, .bool false]) w := by kernel_rfl
theorem as_ArrayType_ParenExpr (v : Value) (w : World) : (Instr.typeAssert (.iface 134 v) 44 100 true).run Tryz.prog w = .ok (.tuple #[.pointer none, .bool false]) w := by kernel_rfl
theorem as_ArrayType_UnaryExpr (v : Value) (w : World) : (Instr.typeAssert (.iface 134 v) 44 124 true).run Tryz.prog w = .ok (.tuple #[.pointer none, .bool false]) w := by kernel_rfl
theorem as_ArrayType_StarExpr (v : Value) (w : World) : (Instr.typeAssert (.iface 134 v) 44 121 true).run Tryz.prog w = .ok (.tuple #[.pointer none, .bool false]) w := by kernel_rfl
theorem as_ArrayType_BinaryExpr (v : Value) (w : World) : (Instr.typeAssert (.iface 134 v) 44 128 true).run Tryz.prog w = .ok (.tuple #[.pointer none, .bool false]) w := by kernel_rfl
theorem as_ArrayType_SelectorExpr (v : Value) (w : World) : (Instr.typeAssert (.iface 134 v) 44 103 true).run Tryz.prog w = .ok (.tuple #[.pointer none, .bool false]) w := by kernel_rfl
theorem as_ArrayType_IndexExpr (v : Value) (w : World) : (Instr.typeAssert (.iface 134 v) 44 106 true).run Tryz.prog w = .ok (.tuple #[.pointer none, .bool false]) w := by kernel_rfl
theorem as_ArrayType_IndexListExpr (v : Value) (w : World) : (Instr.typeAssert (.iface 134 v) 44 109 true).run Tryz.prog w = .ok (.tuple #[.pointer none, .bool false]) w := by kernel_rfl
theorem as_ArrayType_SliceExpr (v : Value) (w : World) : (Instr.typeAssert (.iface 134 v) 44 112 true).run Tryz.prog w = .ok (.tuple #[.pointer none, .bool false]) w := by kernel_rfl
theorem as_ArrayType_CallExpr (v : Value) (w : World) : (Instr.typeAssert (.iface 134 v) 44 118 true).run Tryz.prog w = .ok (.tuple #[.pointer none, .bool false]) w := by kernel_rfl
theorem as_ArrayType_TypeAssertExpr (v : Value) (w : World) : (Instr.typeAssert (.iface 134 v) 44 115 true).run Tryz.prog w = .ok (.tuple #[.pointer none, .bool false]) w := by kernel_rfl
theorem as_ArrayType_CompositeLit (v : Value) (w : World) : (Instr.typeAssert (.iface 134 v) 44 95 true).run Tryz.prog w = .ok (.tuple #[.pointer none, .bool false]) w := by kernel_rfl
theorem as_ArrayType_KeyValueExpr (v : Value) (w : World) : (Instr.typeAssert (.iface 134 v) 44 131 true).run Tryz.prog w = .ok (.tuple #[.pointer none, .bool false]) w := by kernel_rfl
theorem as_ArrayType_ArrayType (v : Value) (w : World) : (Instr.typeAssert (.iface 134 v) 44 134 true).run Tryz.prog w = .ok (.tuple #[v, .bool true]) w := by kernel_rfl
theorem as_MapType_Ident (v : Value) (w : World) : (Instr.typeAssert (.iface 145 v) 44 80 true).run Tryz.prog w = .ok (.tuple #[.pointer none, .bool false]) w := by kernel_rfl
theorem as_MapType_BasicLit (v : Value) (w : World) : (Instr.typeAssert (.iface 145 v) 44 76 true).run Tryz.prog w = .ok (.tuple #[.pointer none, .bool false]) w := by kernel_rfl
theorem as_MapType_ParenExpr (v : Value) (w : World) : (Instr.typeAssert (.iface 145 v) 44 100 true).run Tryz.prog w = .ok (.tuple #[.pointer none, .bool false]) w := by kernel_rfl
theorem as_MapType_UnaryExpr (v : Value) (w : World) : (Instr.typeAssert (.iface 145 v) 44 124 true).run Tryz.prog w = .ok (.tuple #[.pointer none, .bool false]) w := by kernel_rfl
theorem as_MapType_StarExpr (v : Value) (w : World) : (Instr.typeAssert (.iface 145 v) 44 121 true).run Tryz.prog w = .ok (.tuple #[.pointer none, .bool false]) w := by kernel_rfl
theorem as_MapType_BinaryExpr (v : Value) (w : World) : (Instr.typeAssert (.iface 145 v) 44 128 true).run Tryz.prog w = .ok (.tuple #[.pointer none, .bool false]) w := by kernel_rfl
theorem as_MapType_SelectorExpr (v : Value) (w : World) : (Instr.typeAssert (.iface 145 v) 44 103 true).run Tryz.prog w = .ok (.tuple #[.pointer none, .bool false]) w := by kernel_rfl
theorem as_MapType_IndexExpr (v : Value) (w : World) : (Instr.typeAssert (.iface 145 v) 44 106 true).run Tryz.prog w = .ok (.tuple #[.pointer none, .bool false]) w := by kernel_rfl
theorem as_MapType_IndexListExpr (v : Value) (w : World) : (Instr.typeAssert (.iface 145 v) 44 109 true).run Tryz.prog w = .ok (.tuple #[.pointer none, .bool false]) w := by kernel_rfl
theorem as_MapType_SliceExpr (v : Value) (w : World) : (Instr.typeAssert (.iface 145 v) 44 112 true).run Tryz.prog w = .ok (.tuple #[.pointer none, .bool false]) w := by kernel_rfl
theorem as_MapType_CallExpr (v : Value) (w : World) : (Instr.typeAssert (.iface 145 v) 44 118 true).run Tryz.prog w = .ok (.tuple #[.pointer none, .bool false]) w := by kernel_rfl
theorem as_MapType_TypeAssertExpr (v : Value) (w : World) : (Instr.typeAssert (.iface 145 v) 44 115 true).run Tryz.prog w = .ok (.tuple #[.pointer none, .bool false]) w := by kernel_rfl
theorem as_MapType_CompositeLit (v : Value) (w : World) : (Instr.typeAssert (.iface 145 v) 44 95 true).run Tryz.prog w = .ok (.tuple #[.pointer none, .bool false]) w := by kernel_rfl
theorem as_MapType_KeyValueExpr (v : Value) (w : World) : (Instr.typeAssert (.iface 145 v) 44 131 true).run Tryz.prog w = .ok (.tuple #[.pointer none, .bool false]) w := by kernel_rfl
theorem as_MapType_ArrayType (v : Value) (w : World) : (Instr.typeAssert (.iface 145 v) 44 134 true).run Tryz.prog w = .ok (.tuple #[.pointer none, .bool false]) w := by kernel_rfl
theorem as_MapType_MapType (v : Value) (w : World) : (Instr.typeAssert (.iface 145 v) 44 145 true).run Tryz.prog w = .ok (.tuple #[v, .bool true]) w := by kernel_rfl
end Go.Proofs.YtjbhjbpamnoebaaGreatFmt

namespace Go.Proofs.YtjbhjbpamnoebaaGreatFmt
open Go.RowKit

theorem nd_Ident_Comment (v : Value) (w : World) : (Instr.typeAssert (.iface 80 v) 51 68 true).run Tryz.prog w = .ok (.tuple #[.pointer none, .bool false]) w := by kernel_rfl
theorem nd_Ident_CommentGroup (v : Value) (w : World) : (Instr.typeAssert (.iface 80 v) 51 69 true).run Tryz.prog w = .ok (.tuple #[.pointer none, .bool false]) w := by kernel_rfl
theorem nd_Ident_Field (v : Value) (w : World) : (Instr.typeAssert (.iface 80 v) 51 74 true).run Tryz.prog w = .ok (.tuple #[.pointer none, .bool false]) w := by kernel_rfl
theorem nd_Ident_FieldList (v : Value) (w : World) : (Instr.typeAssert (.iface 80 v) 51 81 true).run Tryz.prog w = .ok (.tuple #[.pointer none, .bool false]) w := by kernel_rfl
theorem nd_Ident_BadExpr (v : Value) (w : World) : (Instr.typeAssert (.iface 80 v) 51 86 true).run Tryz.prog w = .ok (.tuple #[.pointer none, .bool false]) w := by kernel_rfl
theorem nd_Ident_Ident (v : Value) (w : World) : (Instr.typeAssert (.iface 80 v) 51 80 true).run Tryz.prog w = .ok (.tuple #[v, .bool true]) w := by kernel_rfl
theorem nd_Ident_BasicLit (v : Value) (w : World) : (Instr.typeAssert (.iface 80 v) 51 76 true).run Tryz.prog w = .ok (.tuple #[.pointer none, .bool false]) w := by kernel_rfl
theorem nd_BasicLit_Comment (v : Value) (w : World) : (Instr.typeAssert (.iface 76 v) 51 68 true).run Tryz.prog w = .ok (.tuple #[.pointer none, .bool false]) w := by kernel_rfl
theorem nd_BasicLit_CommentGroup (v : Value) (w : World) : (Instr.typeAssert (.iface 76 v) 51 69 true).run Tryz.prog w = .ok (.tuple #[.pointer none, .bool false]) w := by kernel_rfl
theorem nd_BasicLit_Field (v : Value) (w : World) : (Instr.typeAssert (.iface 76 v) 51 74 true).run Tryz.prog w = .ok (.tuple #[.pointer none, .bool false]) w := by kernel_rfl
theorem nd_BasicLit_FieldList (v : Value) (w : World) : (Instr.typeAssert (.iface 76 v) 51 81 true).run Tryz.prog w = .ok (.tuple #[.pointer none, .bool false]) w := by kernel_rfl
theorem nd_BasicLit_BadExpr (v : Value) (w : World) : (Instr.typeAssert (.iface 76 v) 51 86 true).run Tryz.prog w = .ok (.tuple #[.pointer none, .bool false]) w := by kernel_rfl
theorem nd_BasicLit_Ident (v : Value) (w : World) : (Instr.typeAssert (.iface 76 v) 51 80 true).run Tryz.prog w = .ok (.tuple #[.pointer none, .bool false]) w := by kernel_rfl
theorem nd_BasicLit_BasicLit (v : Value) (w : World) : (Instr.typeAssert (.iface 76 v) 51 76 true).run Tryz.prog w = .ok (.tuple #[v, .bool true]) w := by kernel_rfl
theorem nd_ParenExpr_Comment (v : Value) (w : World) : (Instr.typeAssert (.iface 100 v) 51 68 true).run Tryz.prog w = .ok (.tuple #[.pointer none, .bool false]) w := by kernel_rfl
theorem nd_ParenExpr_CommentGroup (v : Value) (w : World) : (Instr.typeAssert (.iface 100 v) 51 69 true).run Tryz.prog w = .ok (.tuple #[.pointer none, .bool false]) w := by kernel_rfl
theorem nd_ParenExpr_Field (v : Value) (w : World) : (Instr.typeAssert (.iface 100 v) 51 74 true).run Tryz.prog w = .ok (.tuple #[.pointer none, .bool false]) w := by kernel_rfl
theorem nd_ParenExpr_FieldList (v : Value) (w : World) : (Instr.typeAssert (.iface 100 v) 51 81 true).run Tryz.prog w = .ok (.tuple #[.pointer none, .bool false]) w := by kernel_rfl
theorem nd_ParenExpr_BadExpr (v : Value) (w : World) : (Instr.typeAssert (.iface 100 v) 51 86 true).run Tryz.prog w = .ok (.tuple #[.pointer none, .bool false]) w := by kernel_rfl
theorem nd_ParenExpr_Ident (v : Value) (w : World) : (Instr.typeAssert (.iface 100 v) 51 80 true).run Tryz.prog w = .ok (.tuple #[.pointer none, .bool false]) w := by kernel_rfl
theorem nd_ParenExpr_BasicLit (v : Value) (w : World) : (Instr.typeAssert (.iface 100 v) 51 76 true).run Tryz.prog w = .ok (.tuple #[.pointer none, .bool false]) w := by kernel_rfl
theorem nd_ParenExpr_Ellipsis (v : Value) (w : World) : (Instr.typeAssert (.iface 100 v) 51 87 true).run Tryz.prog w = .ok (.tuple #[.pointer none, .bool false]) w := by kernel_rfl
theorem nd_ParenExpr_FuncLit (v : Value) (w : World) : (Instr.typeAssert (.iface 100 v) 51 90 true).run Tryz.prog w = .ok (.tuple #[.pointer none, .bool false]) w := by kernel_rfl
theorem nd_ParenExpr_CompositeLit (v : Value) (w : World) : (Instr.typeAssert (.iface 100 v) 51 95 true).run Tryz.prog w = .ok (.tuple #[.pointer none, .bool false]) w := by kernel_rfl
theorem nd_ParenExpr_ParenExpr (v : Value) (w : World) : (Instr.typeAssert (.iface 100 v) 51 100 true).run Tryz.prog w = .ok (.tuple #[v, .bool true]) w := by kernel_rfl
theorem nd_UnaryExpr_Comment (v : Value) (w : World) : (Instr.typeAssert (.iface 124 v) 51 68 true).run Tryz.prog w = .ok (.tuple #[.pointer none, .bool false]) w := by kernel_rfl
theorem nd_UnaryExpr_CommentGroup (v : Value) (w : World) : (Instr.typeAssert (.iface 124 v) 51 69 true).run Tryz.prog w = .ok (.tuple #[.pointer none, .bool false]) w := by kernel_rfl
theorem nd_UnaryExpr_Field (v : Value) (w : World) : (Instr.typeAssert (.iface 124 v) 51 74 true).run Tryz.prog w = .ok (.tuple #[.pointer none, .bool false]) w := by kernel_rfl
theorem nd_UnaryExpr_FieldList (v : Value) (w : World) : (Instr.typeAssert (.iface 124 v) 51 81 true).run Tryz.prog w = .ok (.tuple #[.pointer none, .bool false]) w := by kernel_rfl
theorem nd_UnaryExpr_BadExpr (v : Value) (w : World) : (Instr.typeAssert (.iface 124 v) 51 86 true).run Tryz.prog w = .ok (.tuple #[.pointer none, .bool false]) w := by kernel_rfl
theorem nd_UnaryExpr_Ident (v : Value) (w : World) : (Instr.typeAssert (.iface 124 v) 51 80 true).run Tryz.prog w = .ok (.tuple #[.pointer none, .bool false]) w := by kernel_rfl
theorem nd_UnaryExpr_BasicLit (v : Value) (w : World) : (Instr.typeAssert (.iface 124 v) 51 76 true).run Tryz.prog w = .ok (.tuple #[.pointer none, .bool false]) w := by kernel_rfl
theorem nd_UnaryExpr_Ellipsis (v : Value) (w : World) : (Instr.typeAssert (.iface 124 v) 51 87 true).run Tryz.prog w = .ok (.tuple #[.pointer none, .bool false]) w := by kernel_rfl
theorem nd_UnaryExpr_FuncLit (v : Value) (w : World) : (Instr.typeAssert (.iface 124 v) 51 90 true).run Tryz.prog w = .ok (.tuple #[.pointer none, .bool false]) w := by kernel_rfl
theorem nd_UnaryExpr_CompositeLit (v : Value) (w : World) : (Instr.typeAssert (.iface 124 v) 51 95 true).run Tryz.prog w = .ok (.tuple #[.pointer none, .bool false]) w := by kernel_rfl
theorem nd_UnaryExpr_ParenExpr (v : Value) (w : World) : (Instr.typeAssert (.iface 124 v) 51 100 true).run Tryz.prog w = .ok (.tuple #[.pointer none, .bool false]) w := by kernel_rfl
theorem nd_UnaryExpr_SelectorExpr (v : Value) (w : World) : (Instr.typeAssert (.iface 124 v) 51 103 true).run Tryz.prog w = .ok (.tuple #[.pointer none, .bool false]) w := by kernel_rfl
theorem nd_UnaryExpr_IndexExpr (v : Value) (w : World) : (Instr.typeAssert (.iface 124 v) 51 106 true).run Tryz.prog w = .ok (.tuple #[.pointer none, .bool false]) w := by kernel_rfl
theorem nd_UnaryExpr_IndexListExpr (v : Value) (w : World) : (Instr.typeAssert (.iface 124 v) 51 109 true).run Tryz.prog w = .ok (.tuple #[.pointer none, .bool false]) w := by kernel_rfl
theorem nd_UnaryExpr_SliceExpr (v : Value) (w : World) : (Instr.typeAssert (.iface 124 v) 51 112 true).run Tryz.prog w = .ok (.tuple #[.pointer none, .bool false]) w := by kernel_rfl
theorem nd_UnaryExpr_TypeAssertExpr (v : Value) (w : World) : (Instr.typeAssert (.iface 124 v) 51 115 true).run Tryz.prog w = .ok (.tuple #[.pointer none, .bool false]) w := by kernel_rfl
theorem nd_UnaryExpr_CallExpr (v : Value) (w : World) : (Instr.typeAssert (.iface 124 v) 51 118 true).run Tryz.prog w = .ok (.tuple #[.pointer none, .bool false]) w := by kernel_rfl
theorem nd_UnaryExpr_StarExpr (v : Value) (w : World) : (Instr.typeAssert (.iface 124 v) 51 121 true).run Tryz.prog w = .ok (.tuple #[.pointer none, .bool false]) w := by kernel_rfl
theorem nd_UnaryExpr_UnaryExpr (v : Value) (w : World) : (Instr.typeAssert (.iface 124 v) 51 124 true).run Tryz.prog w = .ok (.tuple #[v, .bool true]) w := by kernel_rfl
theorem nd_StarExpr_Comment (v : Value) (w : World) : (Instr.typeAssert (.iface 121 v) 51 68 true).run Tryz.prog w = .ok (.tuple #[.pointer none, .bool false]) w := by kernel_rfl
theorem nd_StarExpr_CommentGroup (v : Value) (w : World) : (Instr.typeAssert (.iface 121 v) 51 69 true).run Tryz.prog w = .ok (.tuple #[.pointer none, .bool false]) w := by kernel_rfl
theorem nd_StarExpr_Field (v : Value) (w : World) : (Instr.typeAssert (.iface 121 v) 51 74 true).run Tryz.prog w = .ok (.tuple #[.pointer none, .bool false]) w := by kernel_rfl
theorem nd_StarExpr_FieldList (v : Value) (w : World) : (Instr.typeAssert (.iface 121 v) 51 81 true).run Tryz.prog w = .ok (.tuple #[.pointer none, .bool false]) w := by kernel_rfl
theorem nd_StarExpr_BadExpr (v : Value) (w : World) : (Instr.typeAssert (.iface 121 v) 51 86 true).run Tryz.prog w = .ok (.tuple #[.pointer none, .bool false]) w := by kernel_rfl
theorem nd_StarExpr_Ident (v : Value) (w : World) : (Instr.typeAssert (.iface 121 v) 51 80 true).run Tryz.prog w = .ok (.tuple #[.pointer none, .bool false]) w := by kernel_rfl
theorem nd_StarExpr_BasicLit (v : Value) (w : World) : (Instr.typeAssert (.iface 121 v) 51 76 true).run Tryz.prog w = .ok (.tuple #[.pointer none, .bool false]) w := by kernel_rfl
theorem nd_StarExpr_Ellipsis (v : Value) (w : World) : (Instr.typeAssert (.iface 121 v) 51 87 true).run Tryz.prog w = .ok (.tuple #[.pointer none, .bool false]) w := by kernel_rfl
theorem nd_StarExpr_FuncLit (v : Value) (w : World) : (Instr.typeAssert (.iface 121 v) 51 90 true).run Tryz.prog w = .ok (.tuple #[.pointer none, .bool false]) w := by kernel_rfl
theorem nd_StarExpr_CompositeLit (v : Value) (w : World) : (Instr.typeAssert (.iface 121 v) 51 95 true).run Tryz.prog w = .ok (.tuple #[.pointer none, .bool false]) w := by kernel_rfl
theorem nd_StarExpr_ParenExpr (v : Value) (w : World) : (Instr.typeAssert (.iface 121 v) 51 100 true).run Tryz.prog w = .ok (.tuple #[.pointer none, .bool false]) w := by kernel_rfl
theorem nd_StarExpr_SelectorExpr (v : Value) (w : World) : (Instr.typeAssert (.iface 121 v) 51 103 true).run Tryz.prog w = .ok (.tuple #[.pointer none, .bool false]) w := by kernel_rfl
theorem nd_StarExpr_IndexExpr (v : Value) (w : World) : (Instr.typeAssert (.iface 121 v) 51 106 true).run Tryz.prog w = .ok (.tuple #[.pointer none, .bool false]) w := by kernel_rfl
theorem nd_StarExpr_IndexListExpr (v : Value) (w : World) : (Instr.typeAssert (.iface 121 v) 51 109 true).run Tryz.prog w = .ok (.tuple #[.pointer none, .bool false]) w := by kernel_rfl
theorem nd_StarExpr_SliceExpr (v : Value) (w : World) : (Instr.typeAssert (.iface 121 v) 51 112 true).run Tryz.prog w = .ok (.tuple #[.pointer none, .bool false]) w := by kernel_rfl
theorem nd_StarExpr_TypeAssertExpr (v : Value) (w : World) : (Instr.typeAssert (.iface 121 v) 51 115 true).run Tryz.prog w = .ok (.tuple #[.pointer none, .bool false]) w := by kernel_rfl
theorem nd_StarExpr_CallExpr (v : Value) (w : World) : (Instr.typeAssert (.iface 121 v) 51 118 true).run Tryz.prog w = .ok (.tuple #[.pointer none, .bool false]) w := by kernel_rfl
theorem nd_StarExpr_StarExpr (v : Value) (w : World) : (Instr.typeAssert (.iface 121 v) 51 121 true).run Tryz.prog w = .ok (.tuple #[v, .bool true]) w := by kernel_rfl
theorem nd_BinaryExpr_Comment (v : Value) (w : World) : (Instr.typeAssert (.iface 128 v) 51 68 true).run Tryz.prog w = .ok (.tuple #[.pointer none, .bool false]) w := by kernel_rfl
theorem nd_BinaryExpr_CommentGroup (v : Value) (w : World) : (Instr.typeAssert (.iface 128 v) 51 69 true).run Tryz.prog w = .ok (.tuple #[.pointer none, .bool false]) w := by kernel_rfl
theorem nd_BinaryExpr_Field (v : Value) (w : World) : (Instr.typeAssert (.iface 128 v) 51 74 true).run Tryz.prog w = .ok (.tuple #[.pointer none, .bool false]) w := by kernel_rfl
theorem nd_BinaryExpr_FieldList (v : Value) (w : World) : (Instr.typeAssert (.iface 128 v) 51 81 true).run Tryz.prog w = .ok (.tuple #[.pointer none, .bool false]) w := by kernel_rfl
theorem nd_BinaryExpr_BadExpr (v : Value) (w : World) : (Instr.typeAssert (.iface 128 v) 51 86 true).run Tryz.prog w = .ok (.tuple #[.pointer none, .bool false]) w := by kernel_rfl
theorem nd_BinaryExpr_Ident (v : Value) (w : World) : (Instr.typeAssert (.iface 128 v) 51 80 true).run Tryz.prog w = .ok (.tuple #[.pointer none, .bool false]) w := by kernel_rfl
theorem nd_BinaryExpr_BasicLit (v : Value) (w : World) : (Instr.typeAssert (.iface 128 v) 51 76 true).run Tryz.prog w = .ok (.tuple #[.pointer none, .bool false]) w := by kernel_rfl
theorem nd_BinaryExpr_Ellipsis (v : Value) (w : World) : (Instr.typeAssert (.iface 128 v) 51 87 true).run Tryz.prog w = .ok (.tuple #[.pointer none, .bool false]) w := by kernel_rfl
theorem nd_BinaryExpr_FuncLit (v : Value) (w : World) : (Instr.typeAssert (.iface 128 v) 51 90 true).run Tryz.prog w = .ok (.tuple #[.pointer none, .bool false]) w := by kernel_rfl
theorem nd_BinaryExpr_CompositeLit (v : Value) (w : World) : (Instr.typeAssert (.iface 128 v) 51 95 true).run Tryz.prog w = .ok (.tuple #[.pointer none, .bool false]) w := by kernel_rfl
theorem nd_BinaryExpr_ParenExpr (v : Value) (w : World) : (Instr.typeAssert (.iface 128 v) 51 100 true).run Tryz.prog w = .ok (.tuple #[.pointer none, .bool false]) w := by kernel_rfl
theorem nd_BinaryExpr_SelectorExpr (v : Value) (w : World) : (Instr.typeAssert (.iface 128 v) 51 103 true).run Tryz.prog w = .ok (.tuple #[.pointer none, .bool false]) w := by kernel_rfl
theorem nd_BinaryExpr_IndexExpr (v : Value) (w : World) : (Instr.typeAssert (.iface 128 v) 51 106 true).run Tryz.prog w = .ok (.tuple #[.pointer none, .bool false]) w := by kernel_rfl
theorem nd_BinaryExpr_IndexListExpr (v : Value) (w : World) : (Instr.typeAssert (.iface 128 v) 51 109 true).run Tryz.prog w = .ok (.tuple #[.pointer none, .bool false]) w := by kernel_rfl
theorem nd_BinaryExpr_SliceExpr (v : Value) (w : World) : (Instr.typeAssert (.iface 128 v) 51 112 true).run Tryz.prog w = .ok (.tuple #[.pointer none, .bool false]) w := by kernel_rfl
theorem nd_BinaryExpr_TypeAssertExpr (v : Value) (w : World) : (Instr.typeAssert (.iface 128 v) 51 115 true).run Tryz.prog w = .ok (.tuple #[.pointer none, .bool false]) w := by kernel_rfl
theorem nd_BinaryExpr_CallExpr (v : Value) (w : World) : (Instr.typeAssert (.iface 128 v) 51 118 true).run Tryz.prog w = .ok (.tuple #[.pointer none, .bool false]) w := by kernel_rfl
theorem nd_BinaryExpr_StarExpr (v : Value) (w : World) : (Instr.typeAssert (.iface 128 v) 51 121 true).run Tryz.prog w = .ok (.tuple #[.pointer none, .bool false]) w := by kernel_rfl
theorem nd_BinaryExpr_UnaryExpr (v : Value) (w : World) : (Instr.typeAssert (.iface 128 v) 51 124 true).run Tryz.prog w = .ok (.tuple #[.pointer none, .bool false]) w := by kernel_rfl
theorem nd_BinaryExpr_BinaryExpr (v : Value) (w : World) : (Instr.typeAssert (.iface 128 v) 51 128 true).run Tryz.prog w = .ok (.tuple #[v, .bool true]) w := by kernel_rfl
theorem nd_SelectorExpr_Comment (v : Value) (w : World) : (Instr.typeAssert (.iface 103 v) 51 68 true).run Tryz.prog w = .ok (.tuple #[.pointer none, .bool false]) w := by kernel_rfl
theorem nd_SelectorExpr_CommentGroup (v : Value) (w : World) : (Instr.typeAssert (.iface 103 v) 51 69 true).run Tryz.prog w = .ok (.tuple #[.pointer none, .bool false]) w := by kernel_rfl
theorem nd_SelectorExpr_Field (v : Value) (w : World) : (Instr.typeAssert (.iface 103 v) 51 74 true).run Tryz.prog w = .ok (.tuple #[.pointer none, .bool false]) w := by kernel_rfl
theorem nd_SelectorExpr_FieldList (v : Value) (w : World) : (Instr.typeAssert (.iface 103 v) 51 81 true).run Tryz.prog w = .ok (.tuple #[.pointer none, .bool false]) w := by kernel_rfl
theorem nd_SelectorExpr_BadExpr (v : Value) (w : World) : (Instr.typeAssert (.iface 103 v) 51 86 true).run Tryz.prog w = .ok (.tuple #[.pointer none, .bool false]) w := by kernel_rfl
theorem nd_SelectorExpr_Ident (v : Value) (w : World) : (Instr.typeAssert (.iface 103 v) 51 80 true).run Tryz.prog w = .ok (.tuple #[.pointer none, .bool false]) w := by kernel_rfl
theorem nd_SelectorExpr_BasicLit (v : Value) (w : World) : (Instr.typeAssert (.iface 103 v) 51 76 true).run Tryz.prog w = .ok (.tuple #[.pointer none, .bool false]) w := by kernel_rfl
theorem nd_SelectorExpr_Ellipsis (v : Value) (w : World) : (Instr.typeAssert (.iface 103 v) 51 87 true).run Tryz.prog w = .ok (.tuple #[.pointer none, .bool false]) w := by kernel_rfl
theorem nd_SelectorExpr_FuncLit (v : Value) (w : World) : (Instr.typeAssert (.iface 103 v) 51 90 true).run Tryz.prog w = .ok (.tuple #[.pointer none, .bool false]) w := by kernel_rfl
theorem nd_SelectorExpr_CompositeLit (v : Value) (w : World) : (Instr.typeAssert (.iface 103 v) 51 95 true).run Tryz.prog w = .ok (.tuple #[.pointer none, .bool false]) w := by kernel_rfl
theorem nd_SelectorExpr_ParenExpr (v : Value) (w : World) : (Instr.typeAssert (.iface 103 v) 51 100 true).run Tryz.prog w = .ok (.tuple #[.pointer none, .bool false]) w := by kernel_rfl
theorem nd_SelectorExpr_SelectorExpr (v : Value) (w : World) : (Instr.typeAssert (.iface 103 v) 51 103 true).run Tryz.prog w = .ok (.tuple #[v, .bool true]) w := by kernel_rfl
theorem nd_IndexExpr_Comment (v : Value) (w : World) : (Instr.typeAssert (.iface 106 v) 51 68 true).run Tryz.prog w = .ok (.tuple #[.pointer none, .bool false]) w := by kernel_rfl
theorem nd_IndexExpr_CommentGroup (v : Value) (w : World) : (Instr.typeAssert (.iface 106 v) 51 69 true).run Tryz.prog w = .ok (.tuple #[.pointer none, .bool false]) w := by kernel_rfl
theorem nd_IndexExpr_Field (v : Value) (w : World) : (Instr.typeAssert (.iface 106 v) 51 74 true).run Tryz.prog w = .ok (.tuple #[.pointer none, .bool false]) w := by kernel_rfl
theorem nd_IndexExpr_FieldList (v : Value) (w : World) : (Instr.typeAssert (.iface 106 v) 51 81 true).run Tryz.prog w = .ok (.tuple #[.pointer none, .bool false]) w := by kernel_rfl
theorem nd_IndexExpr_BadExpr (v : Value) (w : World) : (Instr.typeAssert (.iface 106 v) 51 86 true).run Tryz.prog w = .ok (.tuple #[.pointer none, .bool false]) w := by kernel_rfl
theorem nd_IndexExpr_Ident (v : Value) (w : World) : (Instr.typeAssert (.iface 106 v) 51 80 true).run Tryz.prog w = .ok (.tuple #[.pointer none, .bool false]) w := by kernel_rfl
theorem nd_IndexExpr_BasicLit (v : Value) (w : World) : (Instr.typeAssert (.iface 106 v) 51 76 true).run Tryz.prog w = .ok (.tuple #[.pointer none, .bool false]) w := by kernel_rfl
theorem nd_IndexExpr_Ellipsis (v : Value) (w : World) : (Instr.typeAssert (.iface 106 v) 51 87 true).run Tryz.prog w = .ok (.tuple #[.pointer none, .bool false]) w := by kernel_rfl
theorem nd_IndexExpr_FuncLit (v : Value) (w : World) : (Instr.typeAssert (.iface 106 v) 51 90 true).run Tryz.prog w = .ok (.tuple #[.pointer none, .bool false]) w := by kernel_rfl
theorem nd_IndexExpr_CompositeLit (v : Value) (w : World) : (Instr.typeAssert (.iface 106 v) 51 95 true).run Tryz.prog w = .ok (.tuple #[.pointer none, .bool false]) w := by kernel_rfl
theorem nd_IndexExpr_ParenExpr (v : Value) (w : World) : (Instr.typeAssert (.iface 106 v) 51 100 true).run Tryz.prog w = .ok (.tuple #[.pointer none, .bool false]) w := by kernel_rfl
theorem nd_IndexExpr_SelectorExpr (v : Value) (w : World) : (Instr.typeAssert (.iface 106 v) 51 103 true).run Tryz.prog w = .ok (.tuple #[.pointer none, .bool false]) w := by kernel_rfl
theorem nd_IndexExpr_IndexExpr (v : Value) (w : World) : (Instr.typeAssert (.iface 106 v) 51 106 true).run Tryz.prog w = .ok (.tuple #[v, .bool true]) w := by kernel_rfl
theorem nd_SliceExpr_Comment (v : Value) (w : World) : (Instr.typeAssert (.iface 112 v) 51 68 true).run Tryz.prog w = .ok (.tuple #[.pointer none, .bool false]) w := by kernel_rfl
theorem nd_SliceExpr_CommentGroup (v : Value) (w : World) : (Instr.typeAssert (.iface 112 v) 51 69 true).run Tryz.prog w = .ok (.tuple #[.pointer none, .bool false]) w := by kernel_rfl
theorem nd_SliceExpr_Field (v : Value) (w : World) : (Instr.typeAssert (.iface 112 v) 51 74 true).run Tryz.prog w = .ok (.tuple #[.pointer none, .bool false]) w := by kernel_rfl
theorem nd_SliceExpr_FieldList (v : Value) (w : World) : (Instr.typeAssert (.iface 112 v) 51 81 true).run Tryz.prog w = .ok (.tuple #[.pointer none, .bool false]) w := by kernel_rfl
theorem nd_SliceExpr_BadExpr (v : Value) (w : World) : (Instr.typeAssert (.iface 112 v) 51 86 true).run Tryz.prog w = .ok (.tuple #[.pointer none, .bool false]) w := by kernel_rfl
theorem nd_SliceExpr_Ident (v : Value) (w : World) : (Instr.typeAssert (.iface 112 v) 51 80 true).run Tryz.prog w = .ok (.tuple #[.pointer none, .bool false]) w := by kernel_rfl
theorem nd_SliceExpr_BasicLit (v : Value) (w : World) : (Instr.typeAssert (.iface 112 v) 51 76 true).run Tryz.prog w = .ok (.tuple #[.pointer none, .bool false]) w := by kernel_rfl
theorem nd_SliceExpr_Ellipsis (v : Value) (w : World) : (Instr.typeAssert (.iface 112 v) 51 87 true).run Tryz.prog w = .ok (.tuple #[.pointer none, .bool false]) w := by kernel_rfl
theorem nd_SliceExpr_FuncLit (v : Value) (w : World) : (Instr.typeAssert (.iface 112 v) 51 90 true).run Tryz.prog w = .ok (.tuple #[.pointer none, .bool false]) w := by kernel_rfl
theorem nd_SliceExpr_CompositeLit (v : Value) (w : World) : (Instr.typeAssert (.iface 112 v) 51 95 true).run Tryz.prog w = .ok (.tuple #[.pointer none, .bool false]) w := by kernel_rfl
theorem nd_SliceExpr_ParenExpr (v : Value) (w : World) : (Instr.typeAssert (.iface 112 v) 51 100 true).run Tryz.prog w = .ok (.tuple #[.pointer none, .bool false]) w := by kernel_rfl
theorem nd_SliceExpr_SelectorExpr (v : Value) (w : World) : (Instr.typeAssert (.iface 112 v) 51 103 true).run Tryz.prog w = .ok (.tuple #[.pointer none, .bool false]) w := by kernel_rfl
theorem nd_SliceExpr_IndexExpr (v : Value) (w : World) : (Instr.typeAssert (.iface 112 v) 51 106 true).run Tryz.prog w = .ok (.tuple #[.pointer none, .bool false]) w := by kernel_rfl
theorem nd_SliceExpr_IndexListExpr (v : Value) (w : World) : (Instr.typeAssert (.iface 112 v) 51 109 true).run Tryz.prog w = .ok (.tuple #[.pointer none, .bool false]) w := by kernel_rfl
theorem nd_SliceExpr_SliceExpr (v : Value) (w : World) : (Instr.typeAssert (.iface 112 v) 51 112 true).run Tryz.prog w = .ok (.tuple #[v, .bool true]) w := by kernel_rfl
theorem nd_CallExpr_Comment (v : Value) (w : World) : (Instr.typeAssert (.iface 118 v) 51 68 true).run Tryz.prog w = .ok (.tuple #[.pointer none, .bool false]) w := by kernel_rfl
theorem nd_CallExpr_CommentGroup (v : Value) (w : World) : (Instr.typeAssert (.iface 118 v) 51 69 true).run Tryz.prog w = .ok (.tuple #[.pointer none, .bool false]) w := by kernel_rfl
theorem nd_CallExpr_Field (v : Value) (w : World) : (Instr.typeAssert (.iface 118 v) 51 74 true).run Tryz.prog w = .ok (.tuple #[.pointer none, .bool false]) w := by kernel_rfl
theorem nd_CallExpr_FieldList (v : Value) (w : World) : (Instr.typeAssert (.iface 118 v) 51 81 true).run Tryz.prog w = .ok (.tuple #[.pointer none, .bool false]) w := by kernel_rfl
theorem nd_CallExpr_BadExpr (v : Value) (w : World) : (Instr.typeAssert (.iface 118 v) 51 86 true).run Tryz.prog w = .ok (.tuple #[.pointer none, .bool false]) w := by kernel_rfl
theorem nd_CallExpr_Ident (v : Value) (w : World) : (Instr.typeAssert (.iface 118 v) 51 80 true).run Tryz.prog w = .ok (.tuple #[.pointer none, .bool false]) w := by kernel_rfl
theorem nd_CallExpr_BasicLit (v : Value) (w : World) : (Instr.typeAssert (.iface 118 v) 51 76 true).run Tryz.prog w = .ok (.tuple #[.pointer none, .bool false]) w := by kernel_rfl
theorem nd_CallExpr_Ellipsis (v : Value) (w : World) : (Instr.typeAssert (.iface 118 v) 51 87 true).run Tryz.prog w = .ok (.tuple #[.pointer none, .bool false]) w := by kernel_rfl
theorem nd_CallExpr_FuncLit (v : Value) (w : World) : (Instr.typeAssert (.iface 118 v) 51 90 true).run Tryz.prog w = .ok (.tuple #[.pointer none, .bool false]) w := by kernel_rfl
theorem nd_CallExpr_CompositeLit (v : Value) (w : World) : (Instr.typeAssert (.iface 118 v) 51 95 true).run Tryz.prog w = .ok (.tuple #[.pointer none, .bool false]) w := by kernel_rfl
theorem nd_CallExpr_ParenExpr (v : Value) (w : World) : (Instr.typeAssert (.iface 118 v) 51 100 true).run Tryz.prog w = .ok (.tuple #[.pointer none, .bool false]) w := by kernel_rfl
theorem nd_CallExpr_SelectorExpr (v : Value) (w : World) : (Instr.typeAssert (.iface 118 v) 51 103 true).run Tryz.prog w = .ok (.tuple #[.pointer none, .bool false]) w := by kernel_rfl
theorem nd_CallExpr_IndexExpr (v : Value) (w : World) : (Instr.typeAssert (.iface 118 v) 51 106 true).run Tryz.prog w = .ok (.tuple #[.pointer none, .bool false]) w := by kernel_rfl
theorem nd_CallExpr_IndexListExpr (v : Value) (w : World) : (Instr.typeAssert (.iface 118 v) 51 109 true).run Tryz.prog w = .ok (.tuple #[.pointer none, .bool false]) w := by kernel_rfl
theorem nd_CallExpr_SliceExpr (v : Value) (w : World) : (Instr.typeAssert (.iface 118 v) 51 112 true).run Tryz.prog w = .ok (.tuple #[.pointer none, .bool false]) w := by kernel_rfl
theorem nd_CallExpr_TypeAssertExpr (v : Value) (w : World) : (Instr.typeAssert (.iface 118 v) 51 115 true).run Tryz.prog w = .ok (.tuple #[.pointer none, .bool false]) w := by kernel_rfl
theorem nd_CallExpr_CallExpr (v : Value) (w : World) : (Instr.typeAssert (.iface 118 v) 51 118 true).run Tryz.prog w = .ok (.tuple #[v, .bool true]) w := by kernel_rfl
theorem nd_TypeAssertExpr_Comment (v : Value) (w : World) : (Instr.typeAssert (.iface 115 v) 51 68 true).run Tryz.prog w = .ok (.tuple #[.pointer none, .bool false]) w := by kernel_rfl
theorem nd_TypeAssertExpr_CommentGroup (v : Value) (w : World) : (Instr.typeAssert (.iface 115 v) 51 69 true).run Tryz.prog w = .ok (.tuple #[.pointer none, .bool false]) w := by kernel_rfl
theorem nd_TypeAssertExpr_Field (v : Value) (w : World) : (Instr.typeAssert (.iface 115 v) 51 74 true).run Tryz.prog w = .ok (.tuple #[.pointer none, .bool false]) w := by kernel_rfl
theorem nd_TypeAssertExpr_FieldList (v : Value) (w : World) : (Instr.typeAssert (.iface 115 v) 51 81 true).run Tryz.prog w = .ok (.tuple #[.pointer none, .bool false]) w := by kernel_rfl
theorem nd_TypeAssertExpr_BadExpr (v : Value) (w : World) : (Instr.typeAssert (.iface 115 v) 51 86 true).run Tryz.prog w = .ok (.tuple #[.pointer none, .bool false]) w := by kernel_rfl
theorem nd_TypeAssertExpr_Ident (v : Value) (w : World) : (Instr.typeAssert (.iface 115 v) 51 80 true).run Tryz.prog w = .ok (.tuple #[.pointer none, .bool false]) w := by kernel_rfl
theorem nd_TypeAssertExpr_BasicLit (v : Value) (w : World) : (Instr.typeAssert (.iface 115 v) 51 76 true).run Tryz.prog w = .ok (.tuple #[.pointer none, .bool false]) w := by kernel_rfl
theorem nd_TypeAssertExpr_Ellipsis (v : Value) (w : World) : (Instr.typeAssert (.iface 115 v) 51 87 true).run Tryz.prog w = .ok (.tuple #[.pointer none, .bool false]) w := by kernel_rfl
theorem nd_TypeAssertExpr_FuncLit (v : Value) (w : World) : (Instr.typeAssert (.iface 115 v) 51 90 true).run Tryz.prog w = .ok (.tuple #[.pointer none, .bool false]) w := by kernel_rfl
theorem nd_TypeAssertExpr_CompositeLit (v : Value) (w : World) : (Instr.typeAssert (.iface 115 v) 51 95 true).run Tryz.prog w = .ok (.tuple #[.pointer none, .bool false]) w := by kernel_rfl
theorem nd_TypeAssertExpr_ParenExpr (v : Value) (w : World) : (Instr.typeAssert (.iface 115 v) 51 100 true).run Tryz.prog w = .ok (.tuple #[.pointer none, .bool false]) w := by kernel_rfl
theorem nd_TypeAssertExpr_SelectorExpr (v : Value) (w : World) : (Instr.typeAssert (.iface 115 v) 51 103 true).run Tryz.prog w = .ok (.tuple #[.pointer none, .bool false]) w := by kernel_rfl
theorem nd_TypeAssertExpr_IndexExpr (v : Value) (w : World) : (Instr.typeAssert (.iface 115 v) 51 106 true).run Tryz.prog w = .ok (.tuple #[.pointer none, .bool false]) w := by kernel_rfl
theorem nd_TypeAssertExpr_IndexListExpr (v : Value) (w : World) : (Instr.typeAssert (.iface 115 v) 51 109 true).run Tryz.prog w = .ok (.tuple #[.pointer none, .bool false]) w := by kernel_rfl
theorem nd_TypeAssertExpr_SliceExpr (v : Value) (w : World) : (Instr.typeAssert (.iface 115 v) 51 112 true).run Tryz.prog w = .ok (.tuple #[.pointer none, .bool false]) w := by kernel_rfl
theorem nd_TypeAssertExpr_TypeAssertExpr (v : Value) (w : World) : (Instr.typeAssert (.iface 115 v) 51 115 true).run Tryz.prog w = .ok (.tuple #[v, .bool true]) w := by kernel_rfl
theorem nd_CompositeLit_Comment (v : Value) (w : World) : (Instr.typeAssert (.iface 95 v) 51 68 true).run Tryz.prog w = .ok (.tuple #[.pointer none, .bool false]) w := by kernel_rfl
theorem nd_CompositeLit_CommentGroup (v : Value) (w : World) : (Instr.typeAssert (.iface 95 v) 51 69 true).run Tryz.prog w = .ok (.tuple #[.pointer none, .bool false]) w := by kernel_rfl
theorem nd_CompositeLit_Field (v : Value) (w : World) : (Instr.typeAssert (.iface 95 v) 51 74 true).run Tryz.prog w = .ok (.tuple #[.pointer none, .bool false]) w := by kernel_rfl
theorem nd_CompositeLit_FieldList (v : Value) (w : World) : (Instr.typeAssert (.iface 95 v) 51 81 true).run Tryz.prog w = .ok (.tuple #[.pointer none, .bool false]) w := by kernel_rfl
theorem nd_CompositeLit_BadExpr (v : Value) (w : World) : (Instr.typeAssert (.iface 95 v) 51 86 true).run Tryz.prog w = .ok (.tuple #[.pointer none, .bool false]) w := by kernel_rfl
theorem nd_CompositeLit_Ident (v : Value) (w : World) : (Instr.typeAssert (.iface 95 v) 51 80 true).run Tryz.prog w = .ok (.tuple #[.pointer none, .bool false]) w := by kernel_rfl
theorem nd_CompositeLit_BasicLit (v : Value) (w : World) : (Instr.typeAssert (.iface 95 v) 51 76 true).run Tryz.prog w = .ok (.tuple #[.pointer none, .bool false]) w := by kernel_rfl
theorem nd_CompositeLit_Ellipsis (v : Value) (w : World) : (Instr.typeAssert (.iface 95 v) 51 87 true).run Tryz.prog w = .ok (.tuple #[.pointer none, .bool false]) w := by kernel_rfl
theorem nd_CompositeLit_FuncLit (v : Value) (w : World) : (Instr.typeAssert (.iface 95 v) 51 90 true).run Tryz.prog w = .ok (.tuple #[.pointer none, .bool false]) w := by kernel_rfl
theorem nd_CompositeLit_CompositeLit (v : Value) (w : World) : (Instr.typeAssert (.iface 95 v) 51 95 true).run Tryz.prog w = .ok (.tuple #[v, .bool true]) w := by kernel_rfl
theorem nd_KeyValueExpr_Comment (v : Value) (w : World) : (Instr.typeAssert (.iface 131 v) 51 68 true).run Tryz.prog w = .ok (.tuple #[.pointer none, .bool false]) w := by kernel_rfl
theorem nd_KeyValueExpr_CommentGroup (v : Value) (w : World) : (Instr.typeAssert (.iface 131 v) 51 69 true).run Tryz.prog w = .ok (.tuple #[.pointer none, .bool false]) w := by kernel_rfl
theorem nd_KeyValueExpr_Field (v : Value) (w : World) : (Instr.typeAssert (.iface 131 v) 51 74 true).run Tryz.prog w = .ok (.tuple #[.pointer none, .bool false]) w := by kernel_rfl
theorem nd_KeyValueExpr_FieldList (v : Value) (w : World) : (Instr.typeAssert (.iface 131 v) 51 81 true).run Tryz.prog w = .ok (.tuple #[.pointer none, .bool false]) w := by kernel_rfl
theorem nd_KeyValueExpr_BadExpr (v : Value) (w : World) : (Instr.typeAssert (.iface 131 v) 51 86 true).run Tryz.prog w = .ok (.tuple #[.pointer none, .bool false]) w := by kernel_rfl
theorem nd_KeyValueExpr_Ident (v : Value) (w : World) : (Instr.typeAssert (.iface 131 v) 51 80 true).run Tryz.prog w = .ok (.tuple #[.pointer none, .bool false]) w := by kernel_rfl
theorem nd_KeyValueExpr_BasicLit (v : Value) (w : World) : (Instr.typeAssert (.iface 131 v) 51 76 true).run Tryz.prog w = .ok (.tuple #[.pointer none, .bool false]) w := by kernel_rfl
theorem nd_KeyValueExpr_Ellipsis (v : Value) (w : World) : (Instr.typeAssert (.iface 131 v) 51 87 true).run Tryz.prog w = .ok (.tuple #[.pointer none, .bool false]) w := by kernel_rfl
theorem nd_KeyValueExpr_FuncLit (v : Value) (w : World) : (Instr.typeAssert (.iface 131 v) 51 90 true).run Tryz.prog w = .ok (.tuple #[.pointer none, .bool false]) w := by kernel_rfl
theorem nd_KeyValueExpr_CompositeLit (v : Value) (w : World) : (Instr.typeAssert (.iface 131 v) 51 95 true).run Tryz.prog w = .ok (.tuple #[.pointer none, .bool false]) w := by kernel_rfl
theorem nd_KeyValueExpr_ParenExpr (v : Value) (w : World) : (Instr.typeAssert (.iface 131 v) 51 100 true).run Tryz.prog w = .ok (.tuple #[.pointer none, .bool false]) w := by kernel_rfl
theorem nd_KeyValueExpr_SelectorExpr (v : Value) (w : World) : (Instr.typeAssert (.iface 131 v) 51 103 true).run Tryz.prog w = .ok (.tuple #[.pointer none, .bool false]) w := by kernel_rfl
theorem nd_KeyValueExpr_IndexExpr (v : Value) (w : World) : (Instr.typeAssert (.iface 131 v) 51 106 true).run Tryz.prog w = .ok (.tuple #[.pointer none, .bool false]) w := by kernel_rfl
theorem nd_KeyValueExpr_IndexListExpr (v : Value) (w : World) : (Instr.typeAssert (.iface 131 v) 51 109 true).run Tryz.prog w = .ok (.tuple #[.pointer none, .bool false]) w := by kernel_rfl
theorem nd_KeyValueExpr_SliceExpr (v : Value) (w : World) : (Instr.typeAssert (.iface 131 v) 51 112 true).run Tryz.prog w = .ok (.tuple #[.pointer none, .bool false]) w := by kernel_rfl
theorem nd_KeyValueExpr_TypeAssertExpr (v : Value) (w : World) : (Instr.typeAssert (.iface 131 v) 51 115 true).run Tryz.prog w = .ok (.tuple #[.pointer none, .bool false]) w := by kernel_rfl
theorem nd_KeyValueExpr_CallExpr (v : Value) (w : World) : (Instr.typeAssert (.iface 131 v) 51 118 true).run Tryz.prog w = .ok (.tuple #[.pointer none, .bool false]) w := by kernel_rfl
theorem nd_KeyValueExpr_StarExpr (v : Value) (w : World) : (Instr.typeAssert (.iface 131 v) 51 121 true).run Tryz.prog w = .ok (.tuple #[.pointer none, .bool false]) w := by kernel_rfl
theorem nd_KeyValueExpr_UnaryExpr (v : Value) (w : World) : (Instr.typeAssert (.iface 131 v) 51 124 true).run Tryz.prog w = .ok (.tuple #[.pointer none, .bool false]) w := by kernel_rfl
theorem nd_KeyValueExpr_BinaryExpr (v : Value) (w : World) : (Instr.typeAssert (.iface 131 v) 51 128 true).run Tryz.prog w = .ok (.tuple #[.pointer none, .bool false]) w := by kernel_rfl
theorem nd_KeyValueExpr_KeyValueExpr (v : Value) (w : World) : (Instr.typeAssert (.iface 131 v) 51 131 true).run Tryz.prog w = .ok (.tuple #[v, .bool true]) w := by kernel_rfl
theorem nd_ArrayType_Comment (v : Value) (w : World) : (Instr.typeAssert (.iface 134 v) 51 68 true).run Tryz.prog w = .ok (.tuple #[.pointer none, .bool false]) w := by kernel_rfl
theorem nd_ArrayType_CommentGroup (v : Value) (w : World) : (Instr.typeAssert (.iface 134 v) 51 69 true).run Tryz.prog w = .ok (.tuple #[.pointer none, .bool false]) w := by kernel_rfl
theorem nd_ArrayType_Field (v : Value) (w : World) : (Instr.typeAssert (.iface 134 v) 51 74 true).run Tryz.prog w = .ok (.tuple #[.pointer none, .bool false]) w := by kernel_rfl
theorem nd_ArrayType_FieldList (v : Value) (w : World) : (Instr.typeAssert (.iface 134 v) 51 81 true).run Tryz.prog w = .ok (.tuple #[.pointer none, .bool false]) w := by kernel_rfl
theorem nd_ArrayType_BadExpr (v : Value) (w : World) : (Instr.typeAssert (.iface 134 v) 51 86 true).run Tryz.prog w = .ok (.tuple #[.pointer none, .bool false]) w := by kernel_rfl
theorem nd_ArrayType_Ident (v : Value) (w : World) : (Instr.typeAssert (.iface 134 v) 51 80 true).run Tryz.prog w = .ok (.tuple #[.pointer none, .bool false]) w := by kernel_rfl
theorem nd_ArrayType_BasicLit (v : Value) (w : World) : (Instr.typeAssert (.iface 134 v) 51 76 true).run Tryz.prog w = .ok (.tuple #[.pointer none, .bool false]) w := by kernel_rfl
theorem nd_ArrayType_Ellipsis (v : Value) (w : World) : (Instr.typeAssert (.iface 134 v) 51 87 true).run Tryz.prog w = .ok (.tuple #[.pointer none, .bool false]) w := by kernel_rfl
theorem nd_ArrayType_FuncLit (v : Value) (w : World) : (Instr.typeAssert (.iface 134 v) 51 90 true).run Tryz.prog w = .ok (.tuple #[.pointer none, .bool false]) w := by kernel_rfl
theorem nd_ArrayType_CompositeLit (v : Value) (w : World) : (Instr.typeAssert (.iface 134 v) 51 95 true).run Tryz.prog w = .ok (.tuple #[.pointer none, .bool false]) w := by kernel_rfl
theorem nd_ArrayType_ParenExpr (v : Value) (w : World) : (Instr.typeAssert (.iface 134 v) 51 100 true).run Tryz.prog w = .ok (.tuple #[.pointer none, .bool false]) w := by kernel_rfl
theorem nd_ArrayType_SelectorExpr (v : Value) (w : World) : (Instr.typeAssert (.iface 134 v) 51 103 true).run Tryz.prog w = .ok (.tuple #[.pointer none, .bool false]) w := by kernel_rfl
theorem nd_ArrayType_IndexExpr (v : Value) (w : World) : (Instr.typeAssert (.iface 134 v) 51 106 true).run Tryz.prog w = .ok (.tuple #[.pointer none, .bool false]) w := by kernel_rfl
theorem nd_ArrayType_IndexListExpr (v : Value) (w : World) : (Instr.typeAssert (.iface 134 v) 51 109 true).run Tryz.prog w = .ok (.tuple #[.pointer none, .bool false]) w := by kernel_rfl
theorem nd_ArrayType_SliceExpr (v : Value) (w : World) : (Instr.typeAssert (.iface 134 v) 51 112 true).run Tryz.prog w = .ok (.tuple #[.pointer none, .bool false]) w := by kernel_rfl
theorem nd_ArrayType_TypeAssertExpr (v : Value) (w : World) : (Instr.typeAssert (.iface 134 v) 51 115 true).run Tryz.prog w = .ok (.tuple #[.pointer none, .bool false]) w := by kernel_rfl
theorem nd_ArrayType_CallExpr (v : Value) (w : World) : (Instr.typeAssert (.iface 134 v) 51 118 true).run Tryz.prog w = .ok (.tuple #[.pointer none, .bool false]) w := by kernel_rfl
theorem nd_ArrayType_StarExpr (v : Value) (w : World) : (Instr.typeAssert (.iface 134 v) 51 121 true).run Tryz.prog w = .ok (.tuple #[.pointer none, .bool false]) w := by kernel_rfl
theorem nd_ArrayType_UnaryExpr (v : Value) (w : World) : (Instr.typeAssert (.iface 134 v) 51 124 true).run Tryz.prog w = .ok (.tuple #[.pointer none, .bool false]) w := by kernel_rfl
theorem nd_ArrayType_BinaryExpr (v : Value) (w : World) : (Instr.typeAssert (.iface 134 v) 51 128 true).run Tryz.prog w = .ok (.tuple #[.pointer none, .bool false]) w := by kernel_rfl
theorem nd_ArrayType_KeyValueExpr (v : Value) (w : World) : (Instr.typeAssert (.iface 134 v) 51 131 true).run Tryz.prog w = .ok (.tuple #[.pointer none, .bool false]) w := by kernel_rfl
theorem nd_ArrayType_ArrayType (v : Value) (w : World) : (Instr.typeAssert (.iface 134 v) 51 134 true).run Tryz.prog w = .ok (.tuple #[v, .bool true]) w := by kernel_rfl
theorem nd_MapType_Comment (v : Value) (w : World) : (Instr.typeAssert (.iface 145 v) 51 68 true).run Tryz.prog w = .ok (.tuple #[.pointer none, .bool false]) w := by kernel_rfl
theorem nd_MapType_CommentGroup (v : Value) (w : World) : (Instr.typeAssert (.iface 145 v) 51 69 true).run Tryz.prog w = .ok (.tuple #[.pointer none, .bool false]) w := by kernel_rfl
theorem nd_MapType_Field (v : Value) (w : World) : (Instr.typeAssert (.iface 145 v) 51 74 true).run Tryz.prog w = .ok (.tuple #[.pointer none, .bool false]) w := by kernel_rfl
theorem nd_MapType_FieldList (v : Value) (w : World) : (Instr.typeAssert (.iface 145 v) 51 81 true).run Tryz.prog w = .ok (.tuple #[.pointer none, .bool false]) w := by kernel_rfl
theorem nd_MapType_BadExpr (v : Value) (w : World) : (Instr.typeAssert (.iface 145 v) 51 86 true).run Tryz.prog w = .ok (.tuple #[.pointer none, .bool false]) w := by kernel_rfl
theorem nd_MapType_Ident (v : Value) (w : World) : (Instr.typeAssert (.iface 145 v) 51 80 true).run Tryz.prog w = .ok (.tuple #[.pointer none, .bool false]) w := by kernel_rfl
theorem nd_MapType_BasicLit (v : Value) (w : World) : (Instr.typeAssert (.iface 145 v) 51 76 true).run Tryz.prog w = .ok (.tuple #[.pointer none, .bool false]) w := by kernel_rfl
theorem nd_MapType_Ellipsis (v : Value) (w : World) : (Instr.typeAssert (.iface 145 v) 51 87 true).run Tryz.prog w = .ok (.tuple #[.pointer none, .bool false]) w := by kernel_rfl
theorem nd_MapType_FuncLit (v : Value) (w : World) : (Instr.typeAssert (.iface 145 v) 51 90 true).run Tryz.prog w = .ok (.tuple #[.pointer none, .bool false]) w := by kernel_rfl
theorem nd_MapType_CompositeLit (v : Value) (w : World) : (Instr.typeAssert (.iface 145 v) 51 95 true).run Tryz.prog w = .ok (.tuple #[.pointer none, .bool false]) w := by kernel_rfl
theorem nd_MapType_ParenExpr (v : Value) (w : World) : (Instr.typeAssert (.iface 145 v) 51 100 true).run Tryz.prog w = .ok (.tuple #[.pointer none, .bool false]) w := by kernel_rfl
theorem nd_MapType_SelectorExpr (v : Value) (w : World) : (Instr.typeAssert (.iface 145 v) 51 103 true).run Tryz.prog w = .ok (.tuple #[.pointer none, .bool false]) w := by kernel_rfl
theorem nd_MapType_IndexExpr (v : Value) (w : World) : (Instr.typeAssert (.iface 145 v) 51 106 true).run Tryz.prog w = .ok (.tuple #[.pointer none, .bool false]) w := by kernel_rfl
theorem nd_MapType_IndexListExpr (v : Value) (w : World) : (Instr.typeAssert (.iface 145 v) 51 109 true).run Tryz.prog w = .ok (.tuple #[.pointer none, .bool false]) w := by kernel_rfl
theorem nd_MapType_SliceExpr (v : Value) (w : World) : (Instr.typeAssert (.iface 145 v) 51 112 true).run Tryz.prog w = .ok (.tuple #[.pointer none, .bool false]) w := by kernel_rfl
theorem nd_MapType_TypeAssertExpr (v : Value) (w : World) : (Instr.typeAssert (.iface 145 v) 51 115 true).run Tryz.prog w = .ok (.tuple #[.pointer none, .bool false]) w := by kernel_rfl
theorem nd_MapType_CallExpr (v : Value) (w : World) : (Instr.typeAssert (.iface 145 v) 51 118 true).run Tryz.prog w = .ok (.tuple #[.pointer none, .bool false]) w := by kernel_rfl
theorem nd_MapType_StarExpr (v : Value) (w : World) : (Instr.typeAssert (.iface 145 v) 51 121 true).run Tryz.prog w = .ok (.tuple #[.pointer none, .bool false]) w := by kernel_rfl
theorem nd_MapType_UnaryExpr (v : Value) (w : World) : (Instr.typeAssert (.iface 145 v) 51 124 true).run Tryz.prog w = .ok (.tuple #[.pointer none, .bool false]) w := by kernel_rfl
theorem nd_MapType_BinaryExpr (v : Value) (w : World) : (Instr.typeAssert (.iface 145 v) 51 128 true).run Tryz.prog w = .ok (.tuple #[.pointer none, .bool false]) w := by kernel_rfl
theorem nd_MapType_KeyValueExpr (v : Value) (w : World) : (Instr.typeAssert (.iface 145 v) 51 131 true).run Tryz.prog w = .ok (.tuple #[.pointer none, .bool false]) w := by kernel_rfl
theorem nd_MapType_ArrayType (v : Value) (w : World) : (Instr.typeAssert (.iface 145 v) 51 134 true).run Tryz.prog w = .ok (.tuple #[.pointer none, .bool false]) w := by kernel_rfl
theorem nd_MapType_StructType (v : Value) (w : World) : (Instr.typeAssert (.iface 145 v) 51 137 true).run Tryz.prog w = .ok (.tuple #[.pointer none, .bool false]) w := by kernel_rfl
theorem nd_MapType_FuncType (v : Value) (w : World) : (Instr.typeAssert (.iface 145 v) 51 91 true).run Tryz.prog w = .ok (.tuple #[.pointer none, .bool false]) w := by kernel_rfl
theorem nd_MapType_InterfaceType (v : Value) (w : World) : (Instr.typeAssert (.iface 145 v) 51 142 true).run Tryz.prog w = .ok (.tuple #[.pointer none, .bool false]) w := by kernel_rfl
theorem nd_MapType_MapType (v : Value) (w : World) : (Instr.typeAssert (.iface 145 v) 51 145 true).run Tryz.prog w = .ok (.tuple #[v, .bool true]) w := by kernel_rfl
end Go.Proofs.YtjbhjbpamnoebaaGreatFmt
