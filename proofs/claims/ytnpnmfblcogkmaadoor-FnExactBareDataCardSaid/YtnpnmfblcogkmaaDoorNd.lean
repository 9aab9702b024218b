/-
  impl.node: operators.
-/
import Derived.Test.YtnpnmfblcogkmaaDoorNa
namespace Go.Proofs.YtnpnmfblcogkmaaDoor
open Go.RowKit

set_option maxRecDepth 100000 in
theorem node_unary (P : Nat → Int) (tx : ByteArray) (ad : Option Addr) (cp : Nat) (hop : tx.data.toList ∈ opTexts) (x : Nd) (IHx : NOf P x) : NOf P ⟨⟨#[117, 110, 97, 114, 121]⟩, tx, ad, cp, [x]⟩ := by
  intro W lo hi i v hT hhi hX
  obtain ⟨vs, hl, hn⟩ := hX
  obtain ⟨b, hb, hv⟩ : NodeAt W (Rng lo hi) P 4 tx [x.ntok] i _ vs v := hn
  obtain ⟨rfl, hblk⟩ := hv
  obtain ⟨ix, qx, cx, rfl, hx⟩ := exl1 hl
  have k1 : W.cell? ⟨b, 1, none⟩ = some (int (opNo tx)) := hblk.cell 1
  have k2 : W.cell? ⟨b, 2, none⟩ = some (.iface qx (.pointer (some ⟨cx, 0, none⟩))) := hblk.cell 2
  have hblt := hblk.lt
  have N0 := Lib.hid (NAt.start W)
  have HT := Lib.hid hT
  have Hx := Lib.hid hx
  have Ix := Lib.hid IHx
  have HOP := Lib.hid hop
  show Calls _ _ #[.iface 68 (.pointer (some ⟨b, 0, none⟩))] W _
  clear hT hl hblk hb hx IHx hop
  go_enter Tryd.func24, Tryd.ntmps24
  have t0 := as_UnaryExpr_Ident
  have t1 := as_UnaryExpr_BasicLit
  have t2 := as_UnaryExpr_ParenExpr
  have t3 := as_UnaryExpr_UnaryExpr
  go_wp2_with fail
  go_region_held3 (fun w' => w'.cell? ⟨b, 1, none⟩ = some (int (opNo tx)) ∧ w'.cell? ⟨b, 2, none⟩ = some (.iface qx (.pointer (some ⟨cx, 0, none⟩)))) (first | with_reducible exact ⟨N1.out.kept3 hblt k1, N1.out.kept3 hblt k2⟩ | with_reducible exact ⟨N1.out.kept hblt k1, N1.out.kept hblt k2⟩ | with_reducible exact ⟨(N0.out.alloc _).drew.kept hblt k1, (N0.out.alloc _).drew.kept hblt k2⟩ | with_reducible exact ⟨N0.out.drew.kept hblt k1, N0.out.drew.kept hblt k2⟩ | exact ⟨N0.out.drew.kept hblt k1, N0.out.drew.kept hblt k2⟩) (first | (go_at_call 16; refine (op_at tx HOP.out _ (NAt.tok (by first | with_reducible exact N1.out | with_reducible exact (N0.out.alloc _).drew | exact N0.out.drew) HT.out)).mono ?_; rintro e w2 ⟨rfl, rfl⟩) | (go_at_call 32; refine (nodes_at N0.out.drew HT.out [x] (by simpa using Ix.out) [.iface qx (.pointer (some ⟨cx, 0, none⟩))] hhi (.take Hx.out .nil) (by simp) _ rfl _ rfl _ (by first | rfl | simp)).mono ?_; rintro e w1 ⟨A, cap, ms, rfl, hin, hsm, hN, hbl⟩; have N1 := Lib.hid hN; have HI := Lib.hid hin; have HS := Lib.hid hsm; have hz := N1.out.size; clear hin hsm hbl hN; have r0 := N1.out.c0; have f0 := N1.out.frozen 0; have r1 := N1.out.c1; have f1 := N1.out.frozen 1; have r2 := N1.out.c2; have f2 := N1.out.frozen 2))
  all_goals try go_wp2_with fail
  all_goals exact node_end N1.out HI.out (by first | (simp; done) | (simp; omega) | omega) HS.out (by rfl) (by rfl)

set_option maxRecDepth 100000 in
theorem node_binary (P : Nat → Int) (tx : ByteArray) (ad : Option Addr) (cp : Nat) (hop : tx.data.toList ∈ opTexts) (x : Nd) (y : Nd) (IHx : NOf P x) (IHy : NOf P y) : NOf P ⟨⟨#[98, 105, 110, 97, 114, 121]⟩, tx, ad, cp, [x, y]⟩ := by
  intro W lo hi i v hT hhi hX
  obtain ⟨vs, hl, hn⟩ := hX
  obtain ⟨b, hb, hv⟩ : NodeAt W (Rng lo hi) P 5 tx [x.ntok, y.ntok] i _ vs v := hn
  obtain ⟨rfl, hblk⟩ := hv
  obtain ⟨ix, qx, cx, iy, qy, cy, rfl, hx, hy⟩ := exl2 hl
  have k0 : W.cell? ⟨b, 0, none⟩ = some (.iface qx (.pointer (some ⟨cx, 0, none⟩))) := hblk.cell 0
  have k2 : W.cell? ⟨b, 2, none⟩ = some (int (opNo tx)) := hblk.cell 2
  have k3 : W.cell? ⟨b, 3, none⟩ = some (.iface qy (.pointer (some ⟨cy, 0, none⟩))) := hblk.cell 3
  have hblt := hblk.lt
  have N0 := Lib.hid (NAt.start W)
  have HT := Lib.hid hT
  have Hx := Lib.hid hx
  have Ix := Lib.hid IHx
  have Hy := Lib.hid hy
  have Iy := Lib.hid IHy
  have HOP := Lib.hid hop
  show Calls _ _ #[.iface 74 (.pointer (some ⟨b, 0, none⟩))] W _
  clear hT hl hblk hb hx IHx hy IHy hop
  go_enter Tryd.func24, Tryd.ntmps24
  have t0 := as_BinaryExpr_Ident
  have t1 := as_BinaryExpr_BasicLit
  have t2 := as_BinaryExpr_ParenExpr
  have t3 := as_BinaryExpr_UnaryExpr
  have t4 := as_BinaryExpr_StarExpr
  have t5 := as_BinaryExpr_BinaryExpr
  go_wp2_with fail
  go_region_held3 (fun w' => w'.cell? ⟨b, 0, none⟩ = some (.iface qx (.pointer (some ⟨cx, 0, none⟩))) ∧ w'.cell? ⟨b, 2, none⟩ = some (int (opNo tx)) ∧ w'.cell? ⟨b, 3, none⟩ = some (.iface qy (.pointer (some ⟨cy, 0, none⟩)))) (first | with_reducible exact ⟨N1.out.kept3 hblt k0, N1.out.kept3 hblt k2, N1.out.kept3 hblt k3⟩ | with_reducible exact ⟨N1.out.kept hblt k0, N1.out.kept hblt k2, N1.out.kept hblt k3⟩ | with_reducible exact ⟨(N0.out.alloc _).drew.kept hblt k0, (N0.out.alloc _).drew.kept hblt k2, (N0.out.alloc _).drew.kept hblt k3⟩ | with_reducible exact ⟨N0.out.drew.kept hblt k0, N0.out.drew.kept hblt k2, N0.out.drew.kept hblt k3⟩ | exact ⟨N0.out.drew.kept hblt k0, N0.out.drew.kept hblt k2, N0.out.drew.kept hblt k3⟩) (first | (go_at_call 16; refine (op_at tx HOP.out _ (NAt.tok (by first | with_reducible exact N1.out | with_reducible exact (N0.out.alloc _).drew | exact N0.out.drew) HT.out)).mono ?_; rintro e w2 ⟨rfl, rfl⟩) | (go_at_call 32; refine (nodes_at N0.out.drew HT.out [x, y] (by simpa using And.intro Ix.out Iy.out) [.iface qx (.pointer (some ⟨cx, 0, none⟩)), .iface qy (.pointer (some ⟨cy, 0, none⟩))] hhi (.take Hx.out (.take Hy.out .nil)) (by simp) _ rfl _ rfl _ (by first | rfl | simp)).mono ?_; rintro e w1 ⟨A, cap, ms, rfl, hin, hsm, hN, hbl⟩; have N1 := Lib.hid hN; have HI := Lib.hid hin; have HS := Lib.hid hsm; have hz := N1.out.size; clear hin hsm hbl hN; have r0 := N1.out.c0; have f0 := N1.out.frozen 0; have r1 := N1.out.c1; have f1 := N1.out.frozen 1; have r2 := N1.out.c2; have f2 := N1.out.frozen 2))
  all_goals try go_wp2_with fail
  all_goals exact node_end N1.out HI.out (by first | (simp; done) | (simp; omega) | omega) HS.out (by rfl) (by rfl)
end Go.Proofs.YtnpnmfblcogkmaaDoor
