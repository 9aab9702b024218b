/-
  impl.node: names, literals, parentheses, stars.
-/
import Derived.Test.YtnpnmfblcogkmaaDoorNa
namespace Go.Proofs.YtnpnmfblcogkmaaDoor
open Go.RowKit

set_option maxRecDepth 100000 in
theorem node_name (P : Nat → Int) (tx : ByteArray) (ad : Option Addr) (cp : Nat) : NOf P ⟨⟨#[110, 97, 109, 101]⟩, tx, ad, cp, []⟩ := by
  intro W lo hi i v hT hhi hX
  obtain ⟨vs, hl, hn⟩ := hX
  obtain ⟨b, hb, hv⟩ : NodeAt W (Rng lo hi) P 0 tx [] i _ vs v := hn
  obtain ⟨rfl, hblk⟩ := hv
  have k1 : W.cell? ⟨b, 1, none⟩ = some (.string tx) := hblk.cell 1
  have hblt := hblk.lt
  have N0 := Lib.hid (NAt.start W)
  have HT := Lib.hid hT
  show Calls _ _ #[.iface 56 (.pointer (some ⟨b, 0, none⟩))] W _
  clear hT hblk hb
  go_enter Tryd.func24, Tryd.ntmps24
  have t0 := as_Ident_Ident
  go_wp2_with fail
  exact node_leaf (by rfl) (by rfl)

set_option maxRecDepth 100000 in
theorem node_literal (P : Nat → Int) (tx : ByteArray) (ad : Option Addr) (cp : Nat) : NOf P ⟨⟨#[108, 105, 116, 101, 114, 97, 108]⟩, tx, ad, cp, []⟩ := by
  intro W lo hi i v hT hhi hX
  obtain ⟨vs, hl, hn⟩ := hX
  obtain ⟨b, hb, hv⟩ : NodeAt W (Rng lo hi) P 1 tx [] i _ vs v := hn
  obtain ⟨rfl, hblk⟩ := hv
  have k3 : W.cell? ⟨b, 3, none⟩ = some (.string tx) := hblk.cell 3
  have hblt := hblk.lt
  have N0 := Lib.hid (NAt.start W)
  have HT := Lib.hid hT
  show Calls _ _ #[.iface 61 (.pointer (some ⟨b, 0, none⟩))] W _
  clear hT hblk hb
  go_enter Tryd.func24, Tryd.ntmps24
  have t0 := as_BasicLit_Ident
  have t1 := as_BasicLit_BasicLit
  go_wp2_with fail
  exact node_leaf (by rfl) (by rfl)

set_option maxRecDepth 100000 in
theorem node_paren (P : Nat → Int) (ad : Option Addr) (cp : Nat) (x : Nd) (IHx : NOf P x) : NOf P ⟨⟨#[112, 97, 114, 101, 110]⟩, ⟨#[]⟩, ad, cp, [x]⟩ := by
  intro W lo hi i v hT hhi hX
  obtain ⟨vs, hl, hn⟩ := hX
  obtain ⟨b, hb, hv⟩ : NodeAt W (Rng lo hi) P 2 ⟨#[]⟩ [x.ntok] i _ vs v := hn
  obtain ⟨rfl, hblk⟩ := hv
  obtain ⟨ix, qx, cx, rfl, hx⟩ := exl1 hl
  have k1 : W.cell? ⟨b, 1, none⟩ = some (.iface qx (.pointer (some ⟨cx, 0, none⟩))) := hblk.cell 1
  have hblt := hblk.lt
  have N0 := Lib.hid (NAt.start W)
  have HT := Lib.hid hT
  have Hx := Lib.hid hx
  have Ix := Lib.hid IHx
  show Calls _ _ #[.iface 64 (.pointer (some ⟨b, 0, none⟩))] W _
  clear hT hl hblk hb hx IHx
  go_enter Tryd.func24, Tryd.ntmps24
  have t0 := as_ParenExpr_Ident
  have t1 := as_ParenExpr_BasicLit
  have t2 := as_ParenExpr_ParenExpr
  go_wp2_with fail
  refine (nodes_at N0.out HT.out [x] (by simpa using Ix.out) [.iface qx (.pointer (some ⟨cx, 0, none⟩))] hhi (.take Hx.out .nil) (by simp) _ rfl _ rfl _ (by first | rfl | simp)).mono ?_
  rintro e w1 ⟨A, cap, ms, rfl, hin, hsm, hN, hbl⟩
  have N1 := Lib.hid hN
  have HI := Lib.hid hin
  have HS := Lib.hid hsm
  have hz := N1.out.size
  clear hin hsm hbl hN
  have r0 := N1.out.c0
  have f0 := N1.out.frozen 0
  have r1 := N1.out.c1
  have f1 := N1.out.frozen 1
  have r2 := N1.out.c2
  have f2 := N1.out.frozen 2
  go_wp2_with fail
  exact node_end N1.out HI.out (by first | (simp; done) | (simp; omega) | omega) HS.out (by rfl) (by rfl)

set_option maxRecDepth 100000 in
theorem node_star (P : Nat → Int) (ad : Option Addr) (cp : Nat) (x : Nd) (IHx : NOf P x) : NOf P ⟨⟨#[115, 116, 97, 114]⟩, ⟨#[]⟩, ad, cp, [x]⟩ := by
  intro W lo hi i v hT hhi hX
  obtain ⟨vs, hl, hn⟩ := hX
  obtain ⟨b, hb, hv⟩ : NodeAt W (Rng lo hi) P 3 ⟨#[]⟩ [x.ntok] i _ vs v := hn
  obtain ⟨rfl, hblk⟩ := hv
  obtain ⟨ix, qx, cx, rfl, hx⟩ := exl1 hl
  have k1 : W.cell? ⟨b, 1, none⟩ = some (.iface qx (.pointer (some ⟨cx, 0, none⟩))) := hblk.cell 1
  have hblt := hblk.lt
  have N0 := Lib.hid (NAt.start W)
  have HT := Lib.hid hT
  have Hx := Lib.hid hx
  have Ix := Lib.hid IHx
  show Calls _ _ #[.iface 71 (.pointer (some ⟨b, 0, none⟩))] W _
  clear hT hl hblk hb hx IHx
  go_enter Tryd.func24, Tryd.ntmps24
  have t0 := as_StarExpr_Ident
  have t1 := as_StarExpr_BasicLit
  have t2 := as_StarExpr_ParenExpr
  have t3 := as_StarExpr_UnaryExpr
  have t4 := as_StarExpr_StarExpr
  go_wp2_with fail
  refine (nodes_at N0.out HT.out [x] (by simpa using Ix.out) [.iface qx (.pointer (some ⟨cx, 0, none⟩))] hhi (.take Hx.out .nil) (by simp) _ rfl _ rfl _ (by first | rfl | simp)).mono ?_
  rintro e w1 ⟨A, cap, ms, rfl, hin, hsm, hN, hbl⟩
  have N1 := Lib.hid hN
  have HI := Lib.hid hin
  have HS := Lib.hid hsm
  have hz := N1.out.size
  clear hin hsm hbl hN
  have r0 := N1.out.c0
  have f0 := N1.out.frozen 0
  have r1 := N1.out.c1
  have f1 := N1.out.frozen 1
  have r2 := N1.out.c2
  have f2 := N1.out.frozen 2
  go_wp2_with fail
  exact node_end N1.out HI.out (by first | (simp; done) | (simp; omega) | omega) HS.out (by rfl) (by rfl)
end Go.Proofs.YtnpnmfblcogkmaaDoor
