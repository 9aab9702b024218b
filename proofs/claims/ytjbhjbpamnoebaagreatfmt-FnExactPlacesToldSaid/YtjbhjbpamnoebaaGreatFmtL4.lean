/-
  Pos and End of the node of each kind: what its method gives, those of the nodes below being known.
  Pos and End of any node of the expression of a shaped tree: the place of its first token, and the end of its last one.
-/
import Derived.Test.YtjbhjbpamnoebaaGreatFmtK8
import Derived.Test.YtjbhjbpamnoebaaGreatFmtK10
import Derived.Deep.QuietTactic
import Derived.BigQuiet
import Derived.Test.YtjbhjbpamnoebaaGreatFmtL1
import Derived.Test.YtjbhjbpamnoebaaGreatFmtK16
namespace Go.Proofs.YtjbhjbpamnoebaaGreatFmt
open Go.RowKit

/-- A node answers to the method nm, in the world w, with a place of which G holds. -/
def MOf (nm : String) (w : World) (v : Value) (G : Int → Prop) : Prop := ∃ (T : TypeId) (b : Nat) (f : FuncId), v = .iface T (.pointer (some ⟨b, 0, none⟩)) ∧
  (∀ w', Sem.run Tryz.prog (method 438 T (.pointer (some ⟨b, 0, none⟩)) nm) w' = .ok (f, .pointer (some ⟨b, 0, none⟩)) w') ∧
  (∀ args w', Sem.run Tryz.prog (callFunc f args) w' = .ok (.enter f args) w') ∧
  Calls Tryz.prog f #[.pointer (some ⟨b, 0, none⟩)] w fun e w' => (∃ r, e = .returned (.int .i64 r) ∧ G r) ∧ Below w.heap.size w w'
theorem MOf.mono {nm : String} {w : World} {v : Value} {G G' : Int → Prop} (h : MOf nm w v G) (hG : ∀ r, G r → G' r) : MOf nm w v G' := by
  obtain ⟨T, b, f, h1, h2, h3, h4⟩ := h
  exact ⟨T, b, f, h1, h2, h3, h4.mono fun e w' he => ⟨he.1.elim fun r hr => ⟨r, hr.1, hG r hr.2⟩, he.2⟩⟩
section
variable {w : World} {b : Nat} {cs : Array Value} {G : Int → Prop}
theorem Ident_Pos {p : Int} (hb : Blk w b 273 cs) (h0 : cs[0]? = some (.int .i64 p)) (hG : G p) : MOf "Pos" w (ptr 80 b) G := by
  refine ⟨80, b, 106, rfl, fun w => by kernel_rfl, fun a w => by kernel_rfl, ?_⟩
  have c0 : w.cell? ⟨b, 0, none⟩ = some (.int .i64 p) := (hb.cell 0).trans h0
  clear hb h0
  go_enter Tryz.func106, Tryz.ntmps106
  go_wp2_with fail
  go_ret
  exact ⟨⟨_, rfl, hG⟩, Below.refl _ _⟩
theorem BasicLit_Pos {p : Int} (hb : Blk w b 269 cs) (h0 : cs[0]? = some (.int .i64 p)) (hG : G p) : MOf "Pos" w (ptr 76 b) G := by
  refine ⟨76, b, 107, rfl, fun w => by kernel_rfl, fun a w => by kernel_rfl, ?_⟩
  have c0 : w.cell? ⟨b, 0, none⟩ = some (.int .i64 p) := (hb.cell 0).trans h0
  clear hb h0
  go_enter Tryz.func107, Tryz.ntmps107
  go_wp2_with fail
  go_ret
  exact ⟨⟨_, rfl, hG⟩, Below.refl _ _⟩
theorem ParenExpr_Pos {p : Int} (hb : Blk w b 102 cs) (h0 : cs[0]? = some (.int .i64 p)) (hG : G p) : MOf "Pos" w (ptr 100 b) G := by
  refine ⟨100, b, 133, rfl, fun w => by kernel_rfl, fun a w => by kernel_rfl, ?_⟩
  have c0 : w.cell? ⟨b, 0, none⟩ = some (.int .i64 p) := (hb.cell 0).trans h0
  clear hb h0
  go_enter Tryz.func133, Tryz.ntmps133
  go_wp2_with fail
  go_ret
  exact ⟨⟨_, rfl, hG⟩, Below.refl _ _⟩
theorem StarExpr_Pos {p : Int} (hb : Blk w b 123 cs) (h0 : cs[0]? = some (.int .i64 p)) (hG : G p) : MOf "Pos" w (ptr 121 b) G := by
  refine ⟨121, b, 154, rfl, fun w => by kernel_rfl, fun a w => by kernel_rfl, ?_⟩
  have c0 : w.cell? ⟨b, 0, none⟩ = some (.int .i64 p) := (hb.cell 0).trans h0
  clear hb h0
  go_enter Tryz.func154, Tryz.ntmps154
  go_wp2_with fail
  go_ret
  exact ⟨⟨_, rfl, hG⟩, Below.refl _ _⟩
theorem UnaryExpr_Pos {p : Int} (hb : Blk w b 127 cs) (h0 : cs[0]? = some (.int .i64 p)) (hG : G p) : MOf "Pos" w (ptr 124 b) G := by
  refine ⟨124, b, 157, rfl, fun w => by kernel_rfl, fun a w => by kernel_rfl, ?_⟩
  have c0 : w.cell? ⟨b, 0, none⟩ = some (.int .i64 p) := (hb.cell 0).trans h0
  clear hb h0
  go_enter Tryz.func157, Tryz.ntmps157
  go_wp2_with fail
  go_ret
  exact ⟨⟨_, rfl, hG⟩, Below.refl _ _⟩
theorem MapType_Pos {p : Int} (hb : Blk w b 147 cs) (h0 : cs[0]? = some (.int .i64 p)) (hG : G p) : MOf "Pos" w (ptr 145 b) G := by
  refine ⟨145, b, 176, rfl, fun w => by kernel_rfl, fun a w => by kernel_rfl, ?_⟩
  have c0 : w.cell? ⟨b, 0, none⟩ = some (.int .i64 p) := (hb.cell 0).trans h0
  clear hb h0
  go_enter Tryz.func176, Tryz.ntmps176
  go_wp2_with fail
  go_ret
  exact ⟨⟨_, rfl, hG⟩, Below.refl _ _⟩
theorem ArrayType_Pos {p : Int} (hb : Blk w b 136 cs) (h0 : cs[0]? = some (.int .i64 p)) (hG : G p) : MOf "Pos" w (ptr 134 b) G := by
  refine ⟨134, b, 167, rfl, fun w => by kernel_rfl, fun a w => by kernel_rfl, ?_⟩
  have c0 : w.cell? ⟨b, 0, none⟩ = some (.int .i64 p) := (hb.cell 0).trans h0
  clear hb h0
  go_enter Tryz.func167, Tryz.ntmps167
  go_wp2_with fail
  go_ret
  exact ⟨⟨_, rfl, hG⟩, Below.refl _ _⟩
theorem BinaryExpr_Pos {u : Value} (hb : Blk w b 130 cs) (h0 : cs[0]? = some u) (hu : MOf "Pos" w u G) : MOf "Pos" w (ptr 128 b) G := by
  obtain ⟨T1, b1, f1, rfl, hm, he, hc⟩ := hu
  refine ⟨128, b, 161, rfl, fun w => by kernel_rfl, fun a w => by kernel_rfl, ?_⟩
  have c0 : w.cell? ⟨b, 0, none⟩ = some (.iface T1 (.pointer (some ⟨b1, 0, none⟩))) := (hb.cell 0).trans h0
  have HC := Lib.hid hc
  clear hb h0 hc
  go_enter Tryz.func161, Tryz.ntmps161
  go_wp2_with fail
  refine HC.out.mono ?_
  rintro e w1 ⟨⟨r, rfl, hG⟩, hb1⟩
  go_wp2_with fail
  go_ret
  exact ⟨⟨_, rfl, hG⟩, hb1⟩
theorem SelectorExpr_Pos {u : Value} (hb : Blk w b 105 cs) (h0 : cs[0]? = some u) (hu : MOf "Pos" w u G) : MOf "Pos" w (ptr 103 b) G := by
  obtain ⟨T1, b1, f1, rfl, hm, he, hc⟩ := hu
  refine ⟨103, b, 136, rfl, fun w => by kernel_rfl, fun a w => by kernel_rfl, ?_⟩
  have c0 : w.cell? ⟨b, 0, none⟩ = some (.iface T1 (.pointer (some ⟨b1, 0, none⟩))) := (hb.cell 0).trans h0
  have HC := Lib.hid hc
  clear hb h0 hc
  go_enter Tryz.func136, Tryz.ntmps136
  go_wp2_with fail
  refine HC.out.mono ?_
  rintro e w1 ⟨⟨r, rfl, hG⟩, hb1⟩
  go_wp2_with fail
  go_ret
  exact ⟨⟨_, rfl, hG⟩, hb1⟩
theorem IndexExpr_Pos {u : Value} (hb : Blk w b 108 cs) (h0 : cs[0]? = some u) (hu : MOf "Pos" w u G) : MOf "Pos" w (ptr 106 b) G := by
  obtain ⟨T1, b1, f1, rfl, hm, he, hc⟩ := hu
  refine ⟨106, b, 139, rfl, fun w => by kernel_rfl, fun a w => by kernel_rfl, ?_⟩
  have c0 : w.cell? ⟨b, 0, none⟩ = some (.iface T1 (.pointer (some ⟨b1, 0, none⟩))) := (hb.cell 0).trans h0
  have HC := Lib.hid hc
  clear hb h0 hc
  go_enter Tryz.func139, Tryz.ntmps139
  go_wp2_with fail
  refine HC.out.mono ?_
  rintro e w1 ⟨⟨r, rfl, hG⟩, hb1⟩
  go_wp2_with fail
  go_ret
  exact ⟨⟨_, rfl, hG⟩, hb1⟩
theorem TypeAssertExpr_Pos {u : Value} (hb : Blk w b 117 cs) (h0 : cs[0]? = some u) (hu : MOf "Pos" w u G) : MOf "Pos" w (ptr 115 b) G := by
  obtain ⟨T1, b1, f1, rfl, hm, he, hc⟩ := hu
  refine ⟨115, b, 148, rfl, fun w => by kernel_rfl, fun a w => by kernel_rfl, ?_⟩
  have c0 : w.cell? ⟨b, 0, none⟩ = some (.iface T1 (.pointer (some ⟨b1, 0, none⟩))) := (hb.cell 0).trans h0
  have HC := Lib.hid hc
  clear hb h0 hc
  go_enter Tryz.func148, Tryz.ntmps148
  go_wp2_with fail
  refine HC.out.mono ?_
  rintro e w1 ⟨⟨r, rfl, hG⟩, hb1⟩
  go_wp2_with fail
  go_ret
  exact ⟨⟨_, rfl, hG⟩, hb1⟩
theorem KeyValueExpr_Pos {u : Value} (hb : Blk w b 133 cs) (h0 : cs[0]? = some u) (hu : MOf "Pos" w u G) : MOf "Pos" w (ptr 131 b) G := by
  obtain ⟨T1, b1, f1, rfl, hm, he, hc⟩ := hu
  refine ⟨131, b, 164, rfl, fun w => by kernel_rfl, fun a w => by kernel_rfl, ?_⟩
  have c0 : w.cell? ⟨b, 0, none⟩ = some (.iface T1 (.pointer (some ⟨b1, 0, none⟩))) := (hb.cell 0).trans h0
  have HC := Lib.hid hc
  clear hb h0 hc
  go_enter Tryz.func164, Tryz.ntmps164
  go_wp2_with fail
  refine HC.out.mono ?_
  rintro e w1 ⟨⟨r, rfl, hG⟩, hb1⟩
  go_wp2_with fail
  go_ret
  exact ⟨⟨_, rfl, hG⟩, hb1⟩
theorem SliceExpr_Pos {u : Value} (hb : Blk w b 114 cs) (h0 : cs[0]? = some u) (hu : MOf "Pos" w u G) : MOf "Pos" w (ptr 112 b) G := by
  obtain ⟨T1, b1, f1, rfl, hm, he, hc⟩ := hu
  refine ⟨112, b, 145, rfl, fun w => by kernel_rfl, fun a w => by kernel_rfl, ?_⟩
  have c0 : w.cell? ⟨b, 0, none⟩ = some (.iface T1 (.pointer (some ⟨b1, 0, none⟩))) := (hb.cell 0).trans h0
  have HC := Lib.hid hc
  clear hb h0 hc
  go_enter Tryz.func145, Tryz.ntmps145
  go_wp2_with fail
  refine HC.out.mono ?_
  rintro e w1 ⟨⟨r, rfl, hG⟩, hb1⟩
  go_wp2_with fail
  go_ret
  exact ⟨⟨_, rfl, hG⟩, hb1⟩
theorem CallExpr_Pos {u : Value} (hb : Blk w b 120 cs) (h0 : cs[0]? = some u) (hu : MOf "Pos" w u G) : MOf "Pos" w (ptr 118 b) G := by
  obtain ⟨T1, b1, f1, rfl, hm, he, hc⟩ := hu
  refine ⟨118, b, 151, rfl, fun w => by kernel_rfl, fun a w => by kernel_rfl, ?_⟩
  have c0 : w.cell? ⟨b, 0, none⟩ = some (.iface T1 (.pointer (some ⟨b1, 0, none⟩))) := (hb.cell 0).trans h0
  have HC := Lib.hid hc
  clear hb h0 hc
  go_enter Tryz.func151, Tryz.ntmps151
  go_wp2_with fail
  refine HC.out.mono ?_
  rintro e w1 ⟨⟨r, rfl, hG⟩, hb1⟩
  go_wp2_with fail
  go_ret
  exact ⟨⟨_, rfl, hG⟩, hb1⟩
theorem CompositeLit_Pos {u : Value} (hb : Blk w b 98 cs) (h0 : cs[0]? = some u) (hu : MOf "Pos" w u G) : MOf "Pos" w (ptr 95 b) G := by
  obtain ⟨T1, b1, f1, rfl, hm, he, hc⟩ := hu
  refine ⟨95, b, 130, rfl, fun w => by kernel_rfl, fun a w => by kernel_rfl, ?_⟩
  have c0 : w.cell? ⟨b, 0, none⟩ = some (.iface T1 (.pointer (some ⟨b1, 0, none⟩))) := (hb.cell 0).trans h0
  have HC := Lib.hid hc
  clear hb h0 hc
  go_enter Tryz.func130, Tryz.ntmps130
  go_wp2_with fail
  refine HC.out.mono ?_
  rintro e w1 ⟨⟨r, rfl, hG⟩, hb1⟩
  go_wp2_with fail
  go_ret
  exact ⟨⟨_, rfl, hG⟩, hb1⟩
theorem CompositeLit_Pos0 {p : Int} (hb : Blk w b 98 cs) (h0 : cs[0]? = some .nilIface) (h1 : cs[1]? = some (.int .i64 p)) (hG : G p) : MOf "Pos" w (ptr 95 b) G := by
  refine ⟨95, b, 130, rfl, fun w => by kernel_rfl, fun a w => by kernel_rfl, ?_⟩
  have c0 : w.cell? ⟨b, 0, none⟩ = some .nilIface := (hb.cell 0).trans h0
  have c1 : w.cell? ⟨b, 1, none⟩ = some (.int .i64 p) := (hb.cell 1).trans h1
  clear hb h0 h1
  go_enter Tryz.func130, Tryz.ntmps130
  go_wp2_with fail
  go_ret
  exact ⟨⟨_, rfl, hG⟩, Below.refl _ _⟩
theorem ParenExpr_End {p : Int} (hb : Blk w b 102 cs) (h0 : cs[2]? = some (.int .i64 p)) (h1 : IntKind.i64.wrap (p + 1) = p + 1) (hG : G (p + 1)) : MOf "End" w (ptr 100 b) G := by
  refine ⟨100, b, 132, rfl, fun w => by kernel_rfl, fun a w => by kernel_rfl, ?_⟩
  have c0 : w.cell? ⟨b, 2, none⟩ = some (.int .i64 p) := (hb.cell 2).trans h0
  clear hb h0
  go_enter Tryz.func132, Tryz.ntmps132
  go_wp2_with fail
  go_ret
  exact ⟨⟨_, rfl, hG⟩, Below.refl _ _⟩
theorem IndexExpr_End {p : Int} (hb : Blk w b 108 cs) (h0 : cs[3]? = some (.int .i64 p)) (h1 : IntKind.i64.wrap (p + 1) = p + 1) (hG : G (p + 1)) : MOf "End" w (ptr 106 b) G := by
  refine ⟨106, b, 138, rfl, fun w => by kernel_rfl, fun a w => by kernel_rfl, ?_⟩
  have c0 : w.cell? ⟨b, 3, none⟩ = some (.int .i64 p) := (hb.cell 3).trans h0
  clear hb h0
  go_enter Tryz.func138, Tryz.ntmps138
  go_wp2_with fail
  go_ret
  exact ⟨⟨_, rfl, hG⟩, Below.refl _ _⟩
theorem TypeAssertExpr_End {p : Int} (hb : Blk w b 117 cs) (h0 : cs[3]? = some (.int .i64 p)) (h1 : IntKind.i64.wrap (p + 1) = p + 1) (hG : G (p + 1)) : MOf "End" w (ptr 115 b) G := by
  refine ⟨115, b, 147, rfl, fun w => by kernel_rfl, fun a w => by kernel_rfl, ?_⟩
  have c0 : w.cell? ⟨b, 3, none⟩ = some (.int .i64 p) := (hb.cell 3).trans h0
  clear hb h0
  go_enter Tryz.func147, Tryz.ntmps147
  go_wp2_with fail
  go_ret
  exact ⟨⟨_, rfl, hG⟩, Below.refl _ _⟩
theorem SliceExpr_End {p : Int} (hb : Blk w b 114 cs) (h0 : cs[6]? = some (.int .i64 p)) (h1 : IntKind.i64.wrap (p + 1) = p + 1) (hG : G (p + 1)) : MOf "End" w (ptr 112 b) G := by
  refine ⟨112, b, 144, rfl, fun w => by kernel_rfl, fun a w => by kernel_rfl, ?_⟩
  have c0 : w.cell? ⟨b, 6, none⟩ = some (.int .i64 p) := (hb.cell 6).trans h0
  clear hb h0
  go_enter Tryz.func144, Tryz.ntmps144
  go_wp2_with fail
  go_ret
  exact ⟨⟨_, rfl, hG⟩, Below.refl _ _⟩
theorem CallExpr_End {p : Int} (hb : Blk w b 120 cs) (h0 : cs[4]? = some (.int .i64 p)) (h1 : IntKind.i64.wrap (p + 1) = p + 1) (hG : G (p + 1)) : MOf "End" w (ptr 118 b) G := by
  refine ⟨118, b, 150, rfl, fun w => by kernel_rfl, fun a w => by kernel_rfl, ?_⟩
  have c0 : w.cell? ⟨b, 4, none⟩ = some (.int .i64 p) := (hb.cell 4).trans h0
  clear hb h0
  go_enter Tryz.func150, Tryz.ntmps150
  go_wp2_with fail
  go_ret
  exact ⟨⟨_, rfl, hG⟩, Below.refl _ _⟩
theorem CompositeLit_End {p : Int} (hb : Blk w b 98 cs) (h0 : cs[3]? = some (.int .i64 p)) (h1 : IntKind.i64.wrap (p + 1) = p + 1) (hG : G (p + 1)) : MOf "End" w (ptr 95 b) G := by
  refine ⟨95, b, 129, rfl, fun w => by kernel_rfl, fun a w => by kernel_rfl, ?_⟩
  have c0 : w.cell? ⟨b, 3, none⟩ = some (.int .i64 p) := (hb.cell 3).trans h0
  clear hb h0
  go_enter Tryz.func129, Tryz.ntmps129
  go_wp2_with fail
  go_ret
  exact ⟨⟨_, rfl, hG⟩, Below.refl _ _⟩
theorem StarExpr_End {u : Value} (hb : Blk w b 123 cs) (h0 : cs[1]? = some u) (hu : MOf "End" w u G) : MOf "End" w (ptr 121 b) G := by
  obtain ⟨T1, b1, f1, rfl, hm, he, hc⟩ := hu
  refine ⟨121, b, 153, rfl, fun w => by kernel_rfl, fun a w => by kernel_rfl, ?_⟩
  have c0 : w.cell? ⟨b, 1, none⟩ = some (.iface T1 (.pointer (some ⟨b1, 0, none⟩))) := (hb.cell 1).trans h0
  have HC := Lib.hid hc
  clear hb h0 hc
  go_enter Tryz.func153, Tryz.ntmps153
  go_wp2_with fail
  refine HC.out.mono ?_
  rintro e w1 ⟨⟨r, rfl, hG⟩, hb1⟩
  go_wp2_with fail
  go_ret
  exact ⟨⟨_, rfl, hG⟩, hb1⟩
theorem UnaryExpr_End {u : Value} (hb : Blk w b 127 cs) (h0 : cs[2]? = some u) (hu : MOf "End" w u G) : MOf "End" w (ptr 124 b) G := by
  obtain ⟨T1, b1, f1, rfl, hm, he, hc⟩ := hu
  refine ⟨124, b, 156, rfl, fun w => by kernel_rfl, fun a w => by kernel_rfl, ?_⟩
  have c0 : w.cell? ⟨b, 2, none⟩ = some (.iface T1 (.pointer (some ⟨b1, 0, none⟩))) := (hb.cell 2).trans h0
  have HC := Lib.hid hc
  clear hb h0 hc
  go_enter Tryz.func156, Tryz.ntmps156
  go_wp2_with fail
  refine HC.out.mono ?_
  rintro e w1 ⟨⟨r, rfl, hG⟩, hb1⟩
  go_wp2_with fail
  go_ret
  exact ⟨⟨_, rfl, hG⟩, hb1⟩
theorem BinaryExpr_End {u : Value} (hb : Blk w b 130 cs) (h0 : cs[3]? = some u) (hu : MOf "End" w u G) : MOf "End" w (ptr 128 b) G := by
  obtain ⟨T1, b1, f1, rfl, hm, he, hc⟩ := hu
  refine ⟨128, b, 160, rfl, fun w => by kernel_rfl, fun a w => by kernel_rfl, ?_⟩
  have c0 : w.cell? ⟨b, 3, none⟩ = some (.iface T1 (.pointer (some ⟨b1, 0, none⟩))) := (hb.cell 3).trans h0
  have HC := Lib.hid hc
  clear hb h0 hc
  go_enter Tryz.func160, Tryz.ntmps160
  go_wp2_with fail
  refine HC.out.mono ?_
  rintro e w1 ⟨⟨r, rfl, hG⟩, hb1⟩
  go_wp2_with fail
  go_ret
  exact ⟨⟨_, rfl, hG⟩, hb1⟩
theorem KeyValueExpr_End {u : Value} (hb : Blk w b 133 cs) (h0 : cs[2]? = some u) (hu : MOf "End" w u G) : MOf "End" w (ptr 131 b) G := by
  obtain ⟨T1, b1, f1, rfl, hm, he, hc⟩ := hu
  refine ⟨131, b, 163, rfl, fun w => by kernel_rfl, fun a w => by kernel_rfl, ?_⟩
  have c0 : w.cell? ⟨b, 2, none⟩ = some (.iface T1 (.pointer (some ⟨b1, 0, none⟩))) := (hb.cell 2).trans h0
  have HC := Lib.hid hc
  clear hb h0 hc
  go_enter Tryz.func163, Tryz.ntmps163
  go_wp2_with fail
  refine HC.out.mono ?_
  rintro e w1 ⟨⟨r, rfl, hG⟩, hb1⟩
  go_wp2_with fail
  go_ret
  exact ⟨⟨_, rfl, hG⟩, hb1⟩
theorem MapType_End {u : Value} (hb : Blk w b 147 cs) (h0 : cs[2]? = some u) (hu : MOf "End" w u G) : MOf "End" w (ptr 145 b) G := by
  obtain ⟨T1, b1, f1, rfl, hm, he, hc⟩ := hu
  refine ⟨145, b, 175, rfl, fun w => by kernel_rfl, fun a w => by kernel_rfl, ?_⟩
  have c0 : w.cell? ⟨b, 2, none⟩ = some (.iface T1 (.pointer (some ⟨b1, 0, none⟩))) := (hb.cell 2).trans h0
  have HC := Lib.hid hc
  clear hb h0 hc
  go_enter Tryz.func175, Tryz.ntmps175
  go_wp2_with fail
  refine HC.out.mono ?_
  rintro e w1 ⟨⟨r, rfl, hG⟩, hb1⟩
  go_wp2_with fail
  go_ret
  exact ⟨⟨_, rfl, hG⟩, hb1⟩
theorem ArrayType_End {u : Value} (hb : Blk w b 136 cs) (h0 : cs[2]? = some u) (hu : MOf "End" w u G) : MOf "End" w (ptr 134 b) G := by
  obtain ⟨T1, b1, f1, rfl, hm, he, hc⟩ := hu
  refine ⟨134, b, 166, rfl, fun w => by kernel_rfl, fun a w => by kernel_rfl, ?_⟩
  have c0 : w.cell? ⟨b, 2, none⟩ = some (.iface T1 (.pointer (some ⟨b1, 0, none⟩))) := (hb.cell 2).trans h0
  have HC := Lib.hid hc
  clear hb h0 hc
  go_enter Tryz.func166, Tryz.ntmps166
  go_wp2_with fail
  refine HC.out.mono ?_
  rintro e w1 ⟨⟨r, rfl, hG⟩, hb1⟩
  go_wp2_with fail
  go_ret
  exact ⟨⟨_, rfl, hG⟩, hb1⟩
set_option maxRecDepth 100000 in
theorem IdentEnd_any {p : Int} {tx : ByteArray} (hb : Blk w b 273 cs) (h0 : cs[0]? = some (.int .i64 p)) (h1 : cs[1]? = some (.string tx)) (hG : G (wrap64 (p + tx.size))) :
    Calls Tryz.prog 105 #[.pointer (some ⟨b, 0, none⟩)] w fun e w' => (∃ r, e = .returned (.int .i64 r) ∧ G r) ∧ Below w.heap.size w w' := by
  have c0 : w.cell? ⟨b, 0, none⟩ = some (.int .i64 p) := (hb.cell 0).trans h0
  have c1 : w.cell? ⟨b, 1, none⟩ = some (.string tx) := (hb.cell 1).trans h1
  clear hb h0 h1
  go_enter Tryz.func105, Tryz.ntmps105
  go_wp2_with fail
  go_quiet (fail)
  go_wp2_with fail
  go_ret
  exact ⟨⟨_, rfl, hG⟩, below_drewN (Below.refl _ _) _⟩
theorem Ident_End {p : Int} {tx : ByteArray} (hb : Blk w b 273 cs) (h0 : cs[0]? = some (.int .i64 p)) (h1 : cs[1]? = some (.string tx)) (hG : G (wrap64 (p + tx.size))) : MOf "End" w (ptr 80 b) G := by
  refine ⟨80, b, 105, rfl, fun w => by kernel_rfl, fun a w => by kernel_rfl, ?_⟩
  exact IdentEnd_any hb h0 h1 hG
theorem SelectorExpr_End {p : Int} {tx : ByteArray} {c : Nat} {ds : Array Value} (hb : Blk w b 105 cs) (h : cs[1]? = some (.pointer (some ⟨c, 0, none⟩))) (hd : Blk w c 273 ds) (h0 : ds[0]? = some (.int .i64 p)) (h1 : ds[1]? = some (.string tx)) (hG : G (wrap64 (p + tx.size))) : MOf "End" w (ptr 103 b) G := by
  refine ⟨103, b, 135, rfl, fun w => by kernel_rfl, fun a w => by kernel_rfl, ?_⟩
  have c0 : w.cell? ⟨b, 1, none⟩ = some (.pointer (some ⟨c, 0, none⟩)) := (hb.cell 1).trans h
  have HC := Lib.hid (IdentEnd_any hd h0 h1 hG)
  clear hb h hd h0 h1 hG
  go_enter Tryz.func135, Tryz.ntmps135
  go_wp2_with fail
  refine HC.out.mono ?_
  rintro e w1 ⟨⟨r, rfl, hG⟩, hb1⟩
  go_wp2_with fail
  go_ret
  exact ⟨⟨_, rfl, hG⟩, hb1⟩
theorem BasicLit_End {p : Int} (hb : Blk w b 269 cs) (h0 : cs[1]? = some (.int .i64 p)) (hp : p ≠ 0) (hG : G p) : MOf "End" w (ptr 76 b) G := by
  refine ⟨76, b, 104, rfl, fun w => by kernel_rfl, fun a w => by kernel_rfl, ?_⟩
  have c0 : w.cell? ⟨b, 1, none⟩ = some (.int .i64 p) := (hb.cell 1).trans h0
  have HC := Lib.hid (valid_p p hp w)
  clear hb h0 hp
  go_enter Tryz.func104, Tryz.ntmps104
  go_wp2_with fail
  refine HC.out.mono ?_
  rintro e w1 ⟨rfl, rfl⟩
  go_wp2_with fail
  go_ret
  exact ⟨⟨_, rfl, hG⟩, Below.refl _ _⟩
theorem BasicLit_End0 {p : Int} {tx : ByteArray} (hb : Blk w b 269 cs) (h0 : cs[0]? = some (.int .i64 p)) (h1 : cs[1]? = some (.int .i64 0)) (h3 : cs[3]? = some (.string tx)) (hG : G (wrap64 (p + tx.size))) : MOf "End" w (ptr 76 b) G := by
  refine ⟨76, b, 104, rfl, fun w => by kernel_rfl, fun a w => by kernel_rfl, ?_⟩
  have c0 : w.cell? ⟨b, 0, none⟩ = some (.int .i64 p) := (hb.cell 0).trans h0
  have c1 : w.cell? ⟨b, 1, none⟩ = some (.int .i64 0) := (hb.cell 1).trans h1
  have c3 : w.cell? ⟨b, 3, none⟩ = some (.string tx) := (hb.cell 3).trans h3
  have HC := Lib.hid (valid_0 w)
  clear hb h0 h1 h3
  go_enter Tryz.func104, Tryz.ntmps104
  go_wp2_with fail
  refine HC.out.mono ?_
  rintro e w1 ⟨rfl, rfl⟩
  go_wp2_with fail
  go_quiet (fail)
  go_wp2_with fail
  go_ret
  exact ⟨⟨_, rfl, hG⟩, below_drewN (Below.refl _ _) _⟩
end
end Go.Proofs.YtjbhjbpamnoebaaGreatFmt

namespace Go.Proofs.YtjbhjbpamnoebaaGreatFmt
open Go.RowKit

section
variable {w : World} {S : Nat → Prop} {P : Nat → Int}
theorem v0_kid {ks : List Nd} {is : List Nat} {vs : List Value} (h : ExL w S P is ks vs) {j s : Nat} {k : Nd} (hk : ks[j]? = some k) (hs : is[j]? = some s) : ExR w S P s k (v0 vs j) := by
  obtain ⟨_, _, hat⟩ := exl_at h
  obtain ⟨i, v, h1, h2, h3⟩ := hat j k hk
  rw [hs] at h1
  cases h1
  unfold v0
  rw [List.getD_eq_getElem?_getD, h2]
  exact h3
theorem pos_any : ∀ n : Nd, n.shapedB = true → ∀ (i : Nat) (v : Value), ExR w S P i n v → MOf "Pos" w v (fun r => r = P i) := by
  refine Nd.ind fun n ih h i v hX => ?_
  have h' := h
  rw [Nd.shapedB_eq, Bool.and_eq_true, List.all_eq_true] at h'
  have hm : manyC (kcode n.kd) n.tx n.ks.length = true := h'.2
  obtain ⟨kd, tx, ad, cp, ks⟩ := n
  obtain ⟨vs, hl, b, hb, hn⟩ := hX
  dsimp only at h' hm ih
  have hkid : ∀ (j s : Nat) (k : Nd), ks[j]? = some k → (starts (kcode kd) tx (ks.map Nd.ntok) i)[j]? = some s → MOf "Pos" w (v0 vs j) (fun r => r = P s) := fun j s k hk hs =>
    ih k (List.mem_of_getElem? hk) (h'.1 k (List.mem_of_getElem? hk)) s _ (v0_kid hl hk hs)
  have hfirst : (kcode kd = 5 ∨ kcode kd = 6 ∨ kcode kd = 7 ∨ kcode kd = 8 ∨ kcode kd = 9 ∨ kcode kd = 11 ∨ kcode kd = 12 ∨ (kcode kd = 13 ∧ tx.data.toList.isEmpty = false)) → MOf "Pos" w (v0 vs 0) (fun r => r = P i) := fun hc => by
    obtain ⟨k, hk, hs⟩ := first_kid (i := i) hm hc
    exact hkid 0 i k hk hs
  split at hn
  case h_1 => exact hn.1 ▸ Ident_Pos hn.2 rfl rfl
  case h_2 => exact hn.1 ▸ BasicLit_Pos hn.2 rfl rfl
  case h_3 => exact hn.1 ▸ ParenExpr_Pos hn.2 rfl rfl
  case h_4 => exact hn.1 ▸ StarExpr_Pos hn.2 rfl rfl
  case h_5 => exact hn.1 ▸ UnaryExpr_Pos hn.2 rfl rfl
  case h_6 e => exact hn.1 ▸ BinaryExpr_Pos hn.2 rfl (hfirst (by omega))
  case h_7 e =>
    obtain ⟨rfl, b2, h2, hblk, hblk2⟩ := hn
    exact SelectorExpr_Pos hblk rfl (hfirst (by omega))
  case h_8 e => exact hn.1 ▸ IndexExpr_Pos hn.2 rfl (hfirst (by omega))
  case h_9 e => exact hn.1 ▸ TypeAssertExpr_Pos hn.2 rfl (hfirst (by omega))
  case h_10 e => exact hn.1 ▸ KeyValueExpr_Pos hn.2 rfl (hfirst (by omega))
  case h_11 => exact hn.1 ▸ MapType_Pos hn.2 rfl rfl
  case h_12 e => exact hn.1 ▸ SliceExpr_Pos hn.2 rfl (hfirst (by omega))
  case h_13 e =>
    obtain ⟨rfl, sv, hs, hblk⟩ := hn
    exact CallExpr_Pos hblk rfl (hfirst (by omega))
  case h_14 e =>
    obtain ⟨rfl, sv, hs, hblk⟩ := hn
    cases hc : tx.data.toList.isEmpty
    · rw [hc] at hblk
      exact CompositeLit_Pos hblk rfl (hfirst (by right; right; right; right; right; right; right; exact ⟨e, hc⟩))
    · rw [hc] at hblk
      exact CompositeLit_Pos0 hblk rfl rfl rfl
  case h_15 => exact hn.1 ▸ ArrayType_Pos hn.2 rfl rfl
  case h_16 => exact hn.elim
theorem end_any (hP : ∀ k, 0 ≤ P k ∧ P k ≤ 4611686018427387904) : ∀ n : Nd, n.shapedB = true → ∀ (i : Nat) (v : Value), ExR w S P i n v → MOf "End" w v (fun r => n.shortB = true → r = endOf P i n) := by
  refine Nd.ind fun n ih h i v hX => ?_
  have h' := h
  rw [Nd.shapedB_eq, Bool.and_eq_true, List.all_eq_true] at h'
  have hshd : n.shortB = true → n.tx.size ≤ 1048576 ∧ ∀ k ∈ n.ks, k.shortB = true := fun h => by rwa [Nd.shortB_eq, Bool.and_eq_true, List.all_eq_true, decide_eq_true_eq] at h
  have hm : manyC (kcode n.kd) n.tx n.ks.length = true := h'.2
  have hone := end_one (P := P) (n := n) (i := i)
  have hclose := end_close (P := P) (i := i) h
  have hsel := end_sel (P := P) (i := i) h
  have hnt := ntok_def n
  have hlast : ∀ {j : Nat} {vs : List Value} {is : List Nat}, is = starts (kcode n.kd) n.tx (n.ks.map Nd.ntok) i → ExL w S P is n.ks vs → (((kcode n.kd = 3 ∨ kcode n.kd = 4) ∧ j = 0) ∨ ((kcode n.kd = 5 ∨ kcode n.kd = 9 ∨ kcode n.kd = 10) ∧ j = 1) ∨ (kcode n.kd = 14 ∧ n.ks.length = j + 1)) → MOf "End" w (v0 vs j) (fun r => n.shortB = true → r = endOf P i n) := fun {j vs is} his hl hc => by
    subst his
    obtain ⟨k, s, hk, hs, he⟩ := last_kid (i := i) hm hc
    have hmem := List.mem_of_getElem? hk
    rw [end_in (s := s) (h'.1 k hmem) (kid_at h i j s k hs hk) (by rw [toks_len k (h'.1 k hmem), toks_len n h, hnt]; exact he)]
    exact (ih k hmem (h'.1 k hmem) s _ (v0_kid hl hk hs)).mono fun r hr hn => hr ((hshd hn).2 k hmem)
  have hw : ∀ k, IntKind.i64.wrap (P k + 1) = P k + 1 := fun k => wrap_small _ (by have := (hP k).1; omega) (by have := (hP k).2; omega)
  have hwt : ∀ k, n.shortB = true → wrap64 (P k + n.tx.size) = P k + n.tx.size := fun k hn => by have h1 := hP k; have h2 := (hshd hn).1; unfold wrap64; omega
  obtain ⟨kd, tx, ad, cp, ks⟩ := n
  obtain ⟨vs, hl, b, hb, hn⟩ := hX
  dsimp only at h' hm hone hclose hsel hnt hwt hlast
  rw [hnt] at hclose
  split at hn
  case h_1 e => rw [hone (by omega)]; exact hn.1 ▸ Ident_End hn.2 rfl rfl (hwt i)
  case h_2 e =>
    rw [hone (by omega)]
    by_cases hz : P i + (tx.size : Int) = 0
    · have hn2 := hn.2
      rw [hz] at hn2
      exact hn.1 ▸ BasicLit_End0 hn2 rfl rfl rfl (hwt i)
    · exact hn.1 ▸ BasicLit_End hn.2 rfl hz (fun _ => rfl)
  case h_3 e => rw [hclose (by omega)]; exact hn.1 ▸ ParenExpr_End hn.2 rfl (hw _) (fun _ => rfl)
  case h_4 e => exact hn.1 ▸ StarExpr_End hn.2 rfl (hlast rfl hl (by omega))
  case h_5 e => exact hn.1 ▸ UnaryExpr_End hn.2 rfl (hlast rfl hl (by omega))
  case h_6 e => exact hn.1 ▸ BinaryExpr_End hn.2 rfl (hlast rfl hl (by omega))
  case h_7 e =>
    obtain ⟨rfl, b2, h2, hblk, hblk2⟩ := hn
    rw [hsel (by omega)]
    exact SelectorExpr_End hblk rfl hblk2 rfl rfl (hwt _)
  case h_8 e => rw [hclose (by omega)]; exact hn.1 ▸ IndexExpr_End hn.2 rfl (hw _) (fun _ => rfl)
  case h_9 e => rw [hclose (by omega)]; exact hn.1 ▸ TypeAssertExpr_End hn.2 rfl (hw _) (fun _ => rfl)
  case h_10 e => exact hn.1 ▸ KeyValueExpr_End hn.2 rfl (hlast rfl hl (by omega))
  case h_11 e => exact hn.1 ▸ MapType_End hn.2 rfl (hlast rfl hl (by omega))
  case h_12 e => rw [hclose (by omega)]; exact hn.1 ▸ SliceExpr_End hn.2 rfl (hw _) (fun _ => rfl)
  case h_13 e =>
    obtain ⟨rfl, sv, hs, hblk⟩ := hn
    rw [hclose (by omega)]
    exact CallExpr_End hblk rfl (hw _) (fun _ => rfl)
  case h_14 e =>
    obtain ⟨rfl, sv, hs, hblk⟩ := hn
    rw [hclose (by omega)]
    exact CompositeLit_End hblk rfl (hw _) (fun _ => rfl)
  case h_15 e =>
    have hk : ks.length = 1 ∨ ks.length = 2 := by
      rcases forms hm with ⟨h3, hk⟩ | ⟨h3, hk⟩ | ⟨h3, hk⟩ | ⟨h3, hk⟩ | ⟨h3, hk⟩ | ⟨h3, hk⟩ | ⟨h3, hk⟩ <;> omega
    have hn2 := hn.2
    rw [List.length_map] at hn2
    rcases hk with hk | hk
    · rw [if_neg (by omega), if_neg (by omega)] at hn2
      exact hn.1 ▸ ArrayType_End hn2 rfl (hlast (j := 0) rfl hl (by omega))
    · rw [if_pos hk, if_pos hk] at hn2
      exact hn.1 ▸ ArrayType_End hn2 rfl (hlast (j := 1) rfl hl (by omega))
  case h_16 => exact hn.elim
end
end Go.Proofs.YtjbhjbpamnoebaaGreatFmt
