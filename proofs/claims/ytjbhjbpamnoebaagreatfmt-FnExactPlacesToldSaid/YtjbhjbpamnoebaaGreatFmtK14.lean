/-
  impl.ends, at the six texts of a slice.
  impl.node: slices, of four of the six texts.
  impl.node: slices with three ends.
-/
import Derived.Test.YtjbhjbpamnoebaaGreatFmtK10
namespace Go.Proofs.YtjbhjbpamnoebaaGreatFmt
open Go.RowKit

theorem ends_e (w : World) (b : Nat) (h2 : w.cell? ⟨b, 2, none⟩ = some (.nilIface)) (h3 : w.cell? ⟨b, 3, none⟩ = some (.nilIface)) (h4 : w.cell? ⟨b, 4, none⟩ = some (.nilIface)) (h5 : w.cell? ⟨b, 5, none⟩ = some (.bool false)) :
    Calls Tryz.prog 63 #[.pointer (some ⟨b, 0, none⟩)] w fun e w' => e = .returned (.string ⟨#[]⟩) ∧ w = w' := by
  go_enter Tryz.func63, Tryz.ntmps63
  go_wp2
  go_ret
  exact ⟨rfl, rfl⟩

theorem ends_l (w : World) (b : Nat) (qy : TypeId) (cy : Nat) (h2 : w.cell? ⟨b, 2, none⟩ = some (.iface qy (.pointer (some ⟨cy, 0, none⟩)))) (h3 : w.cell? ⟨b, 3, none⟩ = some (.nilIface)) (h4 : w.cell? ⟨b, 4, none⟩ = some (.nilIface)) (h5 : w.cell? ⟨b, 5, none⟩ = some (.bool false)) :
    Calls Tryz.prog 63 #[.pointer (some ⟨b, 0, none⟩)] w fun e w' => e = .returned (.string ⟨#[108]⟩) ∧ w = w' := by
  go_enter Tryz.func63, Tryz.ntmps63
  go_wp2
  go_ret
  exact ⟨rfl, rfl⟩

theorem ends_h (w : World) (b : Nat) (qy : TypeId) (cy : Nat) (h2 : w.cell? ⟨b, 2, none⟩ = some (.nilIface)) (h3 : w.cell? ⟨b, 3, none⟩ = some (.iface qy (.pointer (some ⟨cy, 0, none⟩)))) (h4 : w.cell? ⟨b, 4, none⟩ = some (.nilIface)) (h5 : w.cell? ⟨b, 5, none⟩ = some (.bool false)) :
    Calls Tryz.prog 63 #[.pointer (some ⟨b, 0, none⟩)] w fun e w' => e = .returned (.string ⟨#[104]⟩) ∧ w = w' := by
  go_enter Tryz.func63, Tryz.ntmps63
  go_wp2
  go_ret
  exact ⟨rfl, rfl⟩

theorem ends_lh (w : World) (b : Nat) (qy : TypeId) (cy : Nat) (qz : TypeId) (cz : Nat) (h2 : w.cell? ⟨b, 2, none⟩ = some (.iface qy (.pointer (some ⟨cy, 0, none⟩)))) (h3 : w.cell? ⟨b, 3, none⟩ = some (.iface qz (.pointer (some ⟨cz, 0, none⟩)))) (h4 : w.cell? ⟨b, 4, none⟩ = some (.nilIface)) (h5 : w.cell? ⟨b, 5, none⟩ = some (.bool false)) :
    Calls Tryz.prog 63 #[.pointer (some ⟨b, 0, none⟩)] w fun e w' => e = .returned (.string ⟨#[108, 104]⟩) ∧ w = w' := by
  go_enter Tryz.func63, Tryz.ntmps63
  go_wp2
  go_ret
  exact ⟨rfl, rfl⟩

theorem ends_hms (w : World) (b : Nat) (qy : TypeId) (cy : Nat) (qz : TypeId) (cz : Nat) (h2 : w.cell? ⟨b, 2, none⟩ = some (.nilIface)) (h3 : w.cell? ⟨b, 3, none⟩ = some (.iface qy (.pointer (some ⟨cy, 0, none⟩)))) (h4 : w.cell? ⟨b, 4, none⟩ = some (.iface qz (.pointer (some ⟨cz, 0, none⟩)))) (h5 : w.cell? ⟨b, 5, none⟩ = some (.bool true)) :
    Calls Tryz.prog 63 #[.pointer (some ⟨b, 0, none⟩)] w fun e w' => e = .returned (.string ⟨#[104, 109, 115]⟩) ∧ w = w' := by
  go_enter Tryz.func63, Tryz.ntmps63
  go_wp2
  go_ret
  exact ⟨rfl, rfl⟩

theorem ends_lhms (w : World) (b : Nat) (qy : TypeId) (cy : Nat) (qz : TypeId) (cz : Nat) (qu : TypeId) (cu : Nat) (h2 : w.cell? ⟨b, 2, none⟩ = some (.iface qy (.pointer (some ⟨cy, 0, none⟩)))) (h3 : w.cell? ⟨b, 3, none⟩ = some (.iface qz (.pointer (some ⟨cz, 0, none⟩)))) (h4 : w.cell? ⟨b, 4, none⟩ = some (.iface qu (.pointer (some ⟨cu, 0, none⟩)))) (h5 : w.cell? ⟨b, 5, none⟩ = some (.bool true)) :
    Calls Tryz.prog 63 #[.pointer (some ⟨b, 0, none⟩)] w fun e w' => e = .returned (.string ⟨#[108, 104, 109, 115]⟩) ∧ w = w' := by
  go_enter Tryz.func63, Tryz.ntmps63
  go_wp2
  go_ret
  exact ⟨rfl, rfl⟩
end Go.Proofs.YtjbhjbpamnoebaaGreatFmt

namespace Go.Proofs.YtjbhjbpamnoebaaGreatFmt
open Go.RowKit

set_option maxHeartbeats 2000000 in
set_option maxRecDepth 100000 in
theorem node_slice_e (P : Nat → Int) (ad : Option Addr) (cp : Nat) (x : Nd) (IHx : NOf P x) : NOf P ⟨⟨#[115, 108, 105, 99, 101]⟩, ⟨#[]⟩, ad, cp, [x]⟩ := by
  intro W lo hi i v hT hhi hX
  obtain ⟨vs, hl, hn⟩ := hX
  obtain ⟨b, hb, hv⟩ : NodeAt W (Rng lo hi) P 11 ⟨#[]⟩ [x.ntok] i _ vs v := hn
  obtain ⟨rfl, hblk⟩ := hv
  obtain ⟨ix, qx, cx, rfl, hx⟩ := exl1 hl
  have k0 : W.cell? ⟨b, 0, none⟩ = some (.iface qx (.pointer (some ⟨cx, 0, none⟩))) := hblk.cell 0
  have k2 : W.cell? ⟨b, 2, none⟩ = some (.nilIface) := hblk.cell 2
  have k3 : W.cell? ⟨b, 3, none⟩ = some (.nilIface) := hblk.cell 3
  have k4 : W.cell? ⟨b, 4, none⟩ = some (.nilIface) := hblk.cell 4
  have k5 : W.cell? ⟨b, 5, none⟩ = some (.bool false) := hblk.cell 5
  have hblt := hblk.lt
  have N0 := Lib.hid (NAt.start W)
  have HT := Lib.hid hT
  have Hx := Lib.hid hx
  have Ix := Lib.hid IHx
  show Calls _ _ #[.iface 112 (.pointer (some ⟨b, 0, none⟩))] W _
  clear hT hblk hb hx IHx hl
  go_enter Tryz.func45, Tryz.ntmps45
  have t0 := as_SliceExpr_Ident
  have t1 := as_SliceExpr_BasicLit
  have t2 := as_SliceExpr_ParenExpr
  have t3 := as_SliceExpr_UnaryExpr
  have t4 := as_SliceExpr_StarExpr
  have t5 := as_SliceExpr_BinaryExpr
  have t6 := as_SliceExpr_SelectorExpr
  have t7 := as_SliceExpr_IndexExpr
  have t8 := as_SliceExpr_IndexListExpr
  have t9 := as_SliceExpr_SliceExpr
  go_wp2_with fail
  go_region_held3 (fun w' => w'.cell? ⟨b, 0, none⟩ = some (.iface qx (.pointer (some ⟨cx, 0, none⟩))) ∧ w'.cell? ⟨b, 2, none⟩ = some (.nilIface) ∧ w'.cell? ⟨b, 3, none⟩ = some (.nilIface) ∧ w'.cell? ⟨b, 4, none⟩ = some (.nilIface) ∧ w'.cell? ⟨b, 5, none⟩ = some (.bool false)) (first | with_reducible exact ⟨N1.out.kept3 hblt k0, N1.out.kept3 hblt k2, N1.out.kept3 hblt k3, N1.out.kept3 hblt k4, N1.out.kept3 hblt k5⟩ | with_reducible exact ⟨N1.out.kept hblt k0, N1.out.kept hblt k2, N1.out.kept hblt k3, N1.out.kept hblt k4, N1.out.kept hblt k5⟩ | with_reducible exact ⟨(N0.out.alloc _).drew.kept hblt k0, (N0.out.alloc _).drew.kept hblt k2, (N0.out.alloc _).drew.kept hblt k3, (N0.out.alloc _).drew.kept hblt k4, (N0.out.alloc _).drew.kept hblt k5⟩ | with_reducible exact ⟨N0.out.drew.kept hblt k0, N0.out.drew.kept hblt k2, N0.out.drew.kept hblt k3, N0.out.drew.kept hblt k4, N0.out.drew.kept hblt k5⟩ | exact ⟨N0.out.drew.kept hblt k0, N0.out.drew.kept hblt k2, N0.out.drew.kept hblt k3, N0.out.drew.kept hblt k4, N0.out.drew.kept hblt k5⟩) (first | (go_at_call 63; refine (ends_e _ b (by first | with_reducible exact N1.out.kept hblt k2 | with_reducible exact (N0.out.alloc _).drew.kept hblt k2 | exact N0.out.drew.kept hblt k2) (by first | with_reducible exact N1.out.kept hblt k3 | with_reducible exact (N0.out.alloc _).drew.kept hblt k3 | exact N0.out.drew.kept hblt k3) (by first | with_reducible exact N1.out.kept hblt k4 | with_reducible exact (N0.out.alloc _).drew.kept hblt k4 | exact N0.out.drew.kept hblt k4) (by first | with_reducible exact N1.out.kept hblt k5 | with_reducible exact (N0.out.alloc _).drew.kept hblt k5 | exact N0.out.drew.kept hblt k5)).mono ?_; rintro e w2 ⟨rfl, rfl⟩) | (go_at_call 61; refine (nodes_at N0.out.drew HT.out [x] (by simpa using Ix.out) [.iface qx (.pointer (some ⟨cx, 0, none⟩)), .nilIface, .nilIface, .nilIface] hhi (.take Hx.out (.skip (.skip (.skip .nil)))) (by simp) _ rfl _ rfl _ (by first | rfl | simp)).mono ?_; rintro e w1 ⟨A, cap, ms, rfl, hin, hsm, hN, hbl⟩; have N1 := Lib.hid hN; have HI := Lib.hid hin; have HS := Lib.hid hsm; have hz := N1.out.size; clear hin hsm hbl hN; have r0 := N1.out.c0; have f0 := N1.out.frozen 0; have r1 := N1.out.c1; have f1 := N1.out.frozen 1; have r2 := N1.out.c2; have f2 := N1.out.frozen 2))
  all_goals try go_wp2_with fail
  all_goals exact node_end N1.out HI.out (by first | (simp; done) | (simp; omega) | omega) HS.out (by rfl) (by rfl)

set_option maxHeartbeats 2000000 in
set_option maxRecDepth 100000 in
theorem node_slice_l (P : Nat → Int) (ad : Option Addr) (cp : Nat) (x : Nd) (y : Nd) (IHx : NOf P x) (IHy : NOf P y) : NOf P ⟨⟨#[115, 108, 105, 99, 101]⟩, ⟨#[108]⟩, ad, cp, [x, y]⟩ := by
  intro W lo hi i v hT hhi hX
  obtain ⟨vs, hl, hn⟩ := hX
  obtain ⟨b, hb, hv⟩ : NodeAt W (Rng lo hi) P 11 ⟨#[108]⟩ [x.ntok, y.ntok] i _ vs v := hn
  obtain ⟨rfl, hblk⟩ := hv
  obtain ⟨ix, isx, qx, cx, vx, rfl, hx, hlx⟩ := exl_cons hl
  obtain ⟨iy, qy, cy, rfl, hy⟩ := exl1 hlx
  have k0 : W.cell? ⟨b, 0, none⟩ = some (.iface qx (.pointer (some ⟨cx, 0, none⟩))) := hblk.cell 0
  have k2 : W.cell? ⟨b, 2, none⟩ = some (.iface qy (.pointer (some ⟨cy, 0, none⟩))) := hblk.cell 2
  have k3 : W.cell? ⟨b, 3, none⟩ = some (.nilIface) := hblk.cell 3
  have k4 : W.cell? ⟨b, 4, none⟩ = some (.nilIface) := hblk.cell 4
  have k5 : W.cell? ⟨b, 5, none⟩ = some (.bool false) := hblk.cell 5
  have hblt := hblk.lt
  have N0 := Lib.hid (NAt.start W)
  have HT := Lib.hid hT
  have Hx := Lib.hid hx
  have Ix := Lib.hid IHx
  have Hy := Lib.hid hy
  have Iy := Lib.hid IHy
  show Calls _ _ #[.iface 112 (.pointer (some ⟨b, 0, none⟩))] W _
  clear hT hblk hb hx IHx hy IHy hl hlx
  go_enter Tryz.func45, Tryz.ntmps45
  have t0 := as_SliceExpr_Ident
  have t1 := as_SliceExpr_BasicLit
  have t2 := as_SliceExpr_ParenExpr
  have t3 := as_SliceExpr_UnaryExpr
  have t4 := as_SliceExpr_StarExpr
  have t5 := as_SliceExpr_BinaryExpr
  have t6 := as_SliceExpr_SelectorExpr
  have t7 := as_SliceExpr_IndexExpr
  have t8 := as_SliceExpr_IndexListExpr
  have t9 := as_SliceExpr_SliceExpr
  go_wp2_with fail
  go_region_held3 (fun w' => w'.cell? ⟨b, 0, none⟩ = some (.iface qx (.pointer (some ⟨cx, 0, none⟩))) ∧ w'.cell? ⟨b, 2, none⟩ = some (.iface qy (.pointer (some ⟨cy, 0, none⟩))) ∧ w'.cell? ⟨b, 3, none⟩ = some (.nilIface) ∧ w'.cell? ⟨b, 4, none⟩ = some (.nilIface) ∧ w'.cell? ⟨b, 5, none⟩ = some (.bool false)) (first | with_reducible exact ⟨N1.out.kept3 hblt k0, N1.out.kept3 hblt k2, N1.out.kept3 hblt k3, N1.out.kept3 hblt k4, N1.out.kept3 hblt k5⟩ | with_reducible exact ⟨N1.out.kept hblt k0, N1.out.kept hblt k2, N1.out.kept hblt k3, N1.out.kept hblt k4, N1.out.kept hblt k5⟩ | with_reducible exact ⟨(N0.out.alloc _).drew.kept hblt k0, (N0.out.alloc _).drew.kept hblt k2, (N0.out.alloc _).drew.kept hblt k3, (N0.out.alloc _).drew.kept hblt k4, (N0.out.alloc _).drew.kept hblt k5⟩ | with_reducible exact ⟨N0.out.drew.kept hblt k0, N0.out.drew.kept hblt k2, N0.out.drew.kept hblt k3, N0.out.drew.kept hblt k4, N0.out.drew.kept hblt k5⟩ | exact ⟨N0.out.drew.kept hblt k0, N0.out.drew.kept hblt k2, N0.out.drew.kept hblt k3, N0.out.drew.kept hblt k4, N0.out.drew.kept hblt k5⟩) (first | (go_at_call 63; refine (ends_l _ b _ _ (by first | with_reducible exact N1.out.kept hblt k2 | with_reducible exact (N0.out.alloc _).drew.kept hblt k2 | exact N0.out.drew.kept hblt k2) (by first | with_reducible exact N1.out.kept hblt k3 | with_reducible exact (N0.out.alloc _).drew.kept hblt k3 | exact N0.out.drew.kept hblt k3) (by first | with_reducible exact N1.out.kept hblt k4 | with_reducible exact (N0.out.alloc _).drew.kept hblt k4 | exact N0.out.drew.kept hblt k4) (by first | with_reducible exact N1.out.kept hblt k5 | with_reducible exact (N0.out.alloc _).drew.kept hblt k5 | exact N0.out.drew.kept hblt k5)).mono ?_; rintro e w2 ⟨rfl, rfl⟩) | (go_at_call 61; refine (nodes_at N0.out.drew HT.out [x, y] (by simpa using And.intro Ix.out Iy.out) [.iface qx (.pointer (some ⟨cx, 0, none⟩)), .iface qy (.pointer (some ⟨cy, 0, none⟩)), .nilIface, .nilIface] hhi (.take Hx.out (.take Hy.out (.skip (.skip .nil)))) (by simp) _ rfl _ rfl _ (by first | rfl | simp)).mono ?_; rintro e w1 ⟨A, cap, ms, rfl, hin, hsm, hN, hbl⟩; have N1 := Lib.hid hN; have HI := Lib.hid hin; have HS := Lib.hid hsm; have hz := N1.out.size; clear hin hsm hbl hN; have r0 := N1.out.c0; have f0 := N1.out.frozen 0; have r1 := N1.out.c1; have f1 := N1.out.frozen 1; have r2 := N1.out.c2; have f2 := N1.out.frozen 2))
  all_goals try go_wp2_with fail
  all_goals exact node_end N1.out HI.out (by first | (simp; done) | (simp; omega) | omega) HS.out (by rfl) (by rfl)

set_option maxHeartbeats 2000000 in
set_option maxRecDepth 100000 in
theorem node_slice_h (P : Nat → Int) (ad : Option Addr) (cp : Nat) (x : Nd) (y : Nd) (IHx : NOf P x) (IHy : NOf P y) : NOf P ⟨⟨#[115, 108, 105, 99, 101]⟩, ⟨#[104]⟩, ad, cp, [x, y]⟩ := by
  intro W lo hi i v hT hhi hX
  obtain ⟨vs, hl, hn⟩ := hX
  obtain ⟨b, hb, hv⟩ : NodeAt W (Rng lo hi) P 11 ⟨#[104]⟩ [x.ntok, y.ntok] i _ vs v := hn
  obtain ⟨rfl, hblk⟩ := hv
  obtain ⟨ix, isx, qx, cx, vx, rfl, hx, hlx⟩ := exl_cons hl
  obtain ⟨iy, qy, cy, rfl, hy⟩ := exl1 hlx
  have k0 : W.cell? ⟨b, 0, none⟩ = some (.iface qx (.pointer (some ⟨cx, 0, none⟩))) := hblk.cell 0
  have k2 : W.cell? ⟨b, 2, none⟩ = some (.nilIface) := hblk.cell 2
  have k3 : W.cell? ⟨b, 3, none⟩ = some (.iface qy (.pointer (some ⟨cy, 0, none⟩))) := hblk.cell 3
  have k4 : W.cell? ⟨b, 4, none⟩ = some (.nilIface) := hblk.cell 4
  have k5 : W.cell? ⟨b, 5, none⟩ = some (.bool false) := hblk.cell 5
  have hblt := hblk.lt
  have N0 := Lib.hid (NAt.start W)
  have HT := Lib.hid hT
  have Hx := Lib.hid hx
  have Ix := Lib.hid IHx
  have Hy := Lib.hid hy
  have Iy := Lib.hid IHy
  show Calls _ _ #[.iface 112 (.pointer (some ⟨b, 0, none⟩))] W _
  clear hT hblk hb hx IHx hy IHy hl hlx
  go_enter Tryz.func45, Tryz.ntmps45
  have t0 := as_SliceExpr_Ident
  have t1 := as_SliceExpr_BasicLit
  have t2 := as_SliceExpr_ParenExpr
  have t3 := as_SliceExpr_UnaryExpr
  have t4 := as_SliceExpr_StarExpr
  have t5 := as_SliceExpr_BinaryExpr
  have t6 := as_SliceExpr_SelectorExpr
  have t7 := as_SliceExpr_IndexExpr
  have t8 := as_SliceExpr_IndexListExpr
  have t9 := as_SliceExpr_SliceExpr
  go_wp2_with fail
  go_region_held3 (fun w' => w'.cell? ⟨b, 0, none⟩ = some (.iface qx (.pointer (some ⟨cx, 0, none⟩))) ∧ w'.cell? ⟨b, 2, none⟩ = some (.nilIface) ∧ w'.cell? ⟨b, 3, none⟩ = some (.iface qy (.pointer (some ⟨cy, 0, none⟩))) ∧ w'.cell? ⟨b, 4, none⟩ = some (.nilIface) ∧ w'.cell? ⟨b, 5, none⟩ = some (.bool false)) (first | with_reducible exact ⟨N1.out.kept3 hblt k0, N1.out.kept3 hblt k2, N1.out.kept3 hblt k3, N1.out.kept3 hblt k4, N1.out.kept3 hblt k5⟩ | with_reducible exact ⟨N1.out.kept hblt k0, N1.out.kept hblt k2, N1.out.kept hblt k3, N1.out.kept hblt k4, N1.out.kept hblt k5⟩ | with_reducible exact ⟨(N0.out.alloc _).drew.kept hblt k0, (N0.out.alloc _).drew.kept hblt k2, (N0.out.alloc _).drew.kept hblt k3, (N0.out.alloc _).drew.kept hblt k4, (N0.out.alloc _).drew.kept hblt k5⟩ | with_reducible exact ⟨N0.out.drew.kept hblt k0, N0.out.drew.kept hblt k2, N0.out.drew.kept hblt k3, N0.out.drew.kept hblt k4, N0.out.drew.kept hblt k5⟩ | exact ⟨N0.out.drew.kept hblt k0, N0.out.drew.kept hblt k2, N0.out.drew.kept hblt k3, N0.out.drew.kept hblt k4, N0.out.drew.kept hblt k5⟩) (first | (go_at_call 63; refine (ends_h _ b _ _ (by first | with_reducible exact N1.out.kept hblt k2 | with_reducible exact (N0.out.alloc _).drew.kept hblt k2 | exact N0.out.drew.kept hblt k2) (by first | with_reducible exact N1.out.kept hblt k3 | with_reducible exact (N0.out.alloc _).drew.kept hblt k3 | exact N0.out.drew.kept hblt k3) (by first | with_reducible exact N1.out.kept hblt k4 | with_reducible exact (N0.out.alloc _).drew.kept hblt k4 | exact N0.out.drew.kept hblt k4) (by first | with_reducible exact N1.out.kept hblt k5 | with_reducible exact (N0.out.alloc _).drew.kept hblt k5 | exact N0.out.drew.kept hblt k5)).mono ?_; rintro e w2 ⟨rfl, rfl⟩) | (go_at_call 61; refine (nodes_at N0.out.drew HT.out [x, y] (by simpa using And.intro Ix.out Iy.out) [.iface qx (.pointer (some ⟨cx, 0, none⟩)), .nilIface, .iface qy (.pointer (some ⟨cy, 0, none⟩)), .nilIface] hhi (.take Hx.out (.skip (.take Hy.out (.skip .nil)))) (by simp) _ rfl _ rfl _ (by first | rfl | simp)).mono ?_; rintro e w1 ⟨A, cap, ms, rfl, hin, hsm, hN, hbl⟩; have N1 := Lib.hid hN; have HI := Lib.hid hin; have HS := Lib.hid hsm; have hz := N1.out.size; clear hin hsm hbl hN; have r0 := N1.out.c0; have f0 := N1.out.frozen 0; have r1 := N1.out.c1; have f1 := N1.out.frozen 1; have r2 := N1.out.c2; have f2 := N1.out.frozen 2))
  all_goals try go_wp2_with fail
  all_goals exact node_end N1.out HI.out (by first | (simp; done) | (simp; omega) | omega) HS.out (by rfl) (by rfl)

set_option maxHeartbeats 2000000 in
set_option maxRecDepth 100000 in
theorem node_slice_lh (P : Nat → Int) (ad : Option Addr) (cp : Nat) (x : Nd) (y : Nd) (z : Nd) (IHx : NOf P x) (IHy : NOf P y) (IHz : NOf P z) : NOf P ⟨⟨#[115, 108, 105, 99, 101]⟩, ⟨#[108, 104]⟩, ad, cp, [x, y, z]⟩ := by
  intro W lo hi i v hT hhi hX
  obtain ⟨vs, hl, hn⟩ := hX
  obtain ⟨b, hb, hv⟩ : NodeAt W (Rng lo hi) P 11 ⟨#[108, 104]⟩ [x.ntok, y.ntok, z.ntok] i _ vs v := hn
  obtain ⟨rfl, hblk⟩ := hv
  obtain ⟨ix, isx, qx, cx, vx, rfl, hx, hlx⟩ := exl_cons hl
  obtain ⟨iy, isy, qy, cy, vy, rfl, hy, hly⟩ := exl_cons hlx
  obtain ⟨iz, qz, cz, rfl, hz⟩ := exl1 hly
  have k0 : W.cell? ⟨b, 0, none⟩ = some (.iface qx (.pointer (some ⟨cx, 0, none⟩))) := hblk.cell 0
  have k2 : W.cell? ⟨b, 2, none⟩ = some (.iface qy (.pointer (some ⟨cy, 0, none⟩))) := hblk.cell 2
  have k3 : W.cell? ⟨b, 3, none⟩ = some (.iface qz (.pointer (some ⟨cz, 0, none⟩))) := hblk.cell 3
  have k4 : W.cell? ⟨b, 4, none⟩ = some (.nilIface) := hblk.cell 4
  have k5 : W.cell? ⟨b, 5, none⟩ = some (.bool false) := hblk.cell 5
  have hblt := hblk.lt
  have N0 := Lib.hid (NAt.start W)
  have HT := Lib.hid hT
  have Hx := Lib.hid hx
  have Ix := Lib.hid IHx
  have Hy := Lib.hid hy
  have Iy := Lib.hid IHy
  have Hz := Lib.hid hz
  have Iz := Lib.hid IHz
  show Calls _ _ #[.iface 112 (.pointer (some ⟨b, 0, none⟩))] W _
  clear hT hblk hb hx IHx hy IHy hz IHz hl hlx hly
  go_enter Tryz.func45, Tryz.ntmps45
  have t0 := as_SliceExpr_Ident
  have t1 := as_SliceExpr_BasicLit
  have t2 := as_SliceExpr_ParenExpr
  have t3 := as_SliceExpr_UnaryExpr
  have t4 := as_SliceExpr_StarExpr
  have t5 := as_SliceExpr_BinaryExpr
  have t6 := as_SliceExpr_SelectorExpr
  have t7 := as_SliceExpr_IndexExpr
  have t8 := as_SliceExpr_IndexListExpr
  have t9 := as_SliceExpr_SliceExpr
  go_wp2_with fail
  go_region_held3 (fun w' => w'.cell? ⟨b, 0, none⟩ = some (.iface qx (.pointer (some ⟨cx, 0, none⟩))) ∧ w'.cell? ⟨b, 2, none⟩ = some (.iface qy (.pointer (some ⟨cy, 0, none⟩))) ∧ w'.cell? ⟨b, 3, none⟩ = some (.iface qz (.pointer (some ⟨cz, 0, none⟩))) ∧ w'.cell? ⟨b, 4, none⟩ = some (.nilIface) ∧ w'.cell? ⟨b, 5, none⟩ = some (.bool false)) (first | with_reducible exact ⟨N1.out.kept3 hblt k0, N1.out.kept3 hblt k2, N1.out.kept3 hblt k3, N1.out.kept3 hblt k4, N1.out.kept3 hblt k5⟩ | with_reducible exact ⟨N1.out.kept hblt k0, N1.out.kept hblt k2, N1.out.kept hblt k3, N1.out.kept hblt k4, N1.out.kept hblt k5⟩ | with_reducible exact ⟨(N0.out.alloc _).drew.kept hblt k0, (N0.out.alloc _).drew.kept hblt k2, (N0.out.alloc _).drew.kept hblt k3, (N0.out.alloc _).drew.kept hblt k4, (N0.out.alloc _).drew.kept hblt k5⟩ | with_reducible exact ⟨N0.out.drew.kept hblt k0, N0.out.drew.kept hblt k2, N0.out.drew.kept hblt k3, N0.out.drew.kept hblt k4, N0.out.drew.kept hblt k5⟩ | exact ⟨N0.out.drew.kept hblt k0, N0.out.drew.kept hblt k2, N0.out.drew.kept hblt k3, N0.out.drew.kept hblt k4, N0.out.drew.kept hblt k5⟩) (first | (go_at_call 63; refine (ends_lh _ b _ _ _ _ (by first | with_reducible exact N1.out.kept hblt k2 | with_reducible exact (N0.out.alloc _).drew.kept hblt k2 | exact N0.out.drew.kept hblt k2) (by first | with_reducible exact N1.out.kept hblt k3 | with_reducible exact (N0.out.alloc _).drew.kept hblt k3 | exact N0.out.drew.kept hblt k3) (by first | with_reducible exact N1.out.kept hblt k4 | with_reducible exact (N0.out.alloc _).drew.kept hblt k4 | exact N0.out.drew.kept hblt k4) (by first | with_reducible exact N1.out.kept hblt k5 | with_reducible exact (N0.out.alloc _).drew.kept hblt k5 | exact N0.out.drew.kept hblt k5)).mono ?_; rintro e w2 ⟨rfl, rfl⟩) | (go_at_call 61; refine (nodes_at N0.out.drew HT.out [x, y, z] (by simpa using And.intro Ix.out (And.intro Iy.out Iz.out)) [.iface qx (.pointer (some ⟨cx, 0, none⟩)), .iface qy (.pointer (some ⟨cy, 0, none⟩)), .iface qz (.pointer (some ⟨cz, 0, none⟩)), .nilIface] hhi (.take Hx.out (.take Hy.out (.take Hz.out (.skip .nil)))) (by simp) _ rfl _ rfl _ (by first | rfl | simp)).mono ?_; rintro e w1 ⟨A, cap, ms, rfl, hin, hsm, hN, hbl⟩; have N1 := Lib.hid hN; have HI := Lib.hid hin; have HS := Lib.hid hsm; have hz := N1.out.size; clear hin hsm hbl hN; have r0 := N1.out.c0; have f0 := N1.out.frozen 0; have r1 := N1.out.c1; have f1 := N1.out.frozen 1; have r2 := N1.out.c2; have f2 := N1.out.frozen 2))
  all_goals try go_wp2_with fail
  all_goals exact node_end N1.out HI.out (by first | (simp; done) | (simp; omega) | omega) HS.out (by rfl) (by rfl)
end Go.Proofs.YtjbhjbpamnoebaaGreatFmt

namespace Go.Proofs.YtjbhjbpamnoebaaGreatFmt
open Go.RowKit

set_option maxHeartbeats 2000000 in
set_option maxRecDepth 100000 in
theorem node_slice_hms (P : Nat → Int) (ad : Option Addr) (cp : Nat) (x : Nd) (y : Nd) (z : Nd) (IHx : NOf P x) (IHy : NOf P y) (IHz : NOf P z) : NOf P ⟨⟨#[115, 108, 105, 99, 101]⟩, ⟨#[104, 109, 115]⟩, ad, cp, [x, y, z]⟩ := by
  intro W lo hi i v hT hhi hX
  obtain ⟨vs, hl, hn⟩ := hX
  obtain ⟨b, hb, hv⟩ : NodeAt W (Rng lo hi) P 11 ⟨#[104, 109, 115]⟩ [x.ntok, y.ntok, z.ntok] i _ vs v := hn
  obtain ⟨rfl, hblk⟩ := hv
  obtain ⟨ix, isx, qx, cx, vx, rfl, hx, hlx⟩ := exl_cons hl
  obtain ⟨iy, isy, qy, cy, vy, rfl, hy, hly⟩ := exl_cons hlx
  obtain ⟨iz, qz, cz, rfl, hz⟩ := exl1 hly
  have k0 : W.cell? ⟨b, 0, none⟩ = some (.iface qx (.pointer (some ⟨cx, 0, none⟩))) := hblk.cell 0
  have k2 : W.cell? ⟨b, 2, none⟩ = some (.nilIface) := hblk.cell 2
  have k3 : W.cell? ⟨b, 3, none⟩ = some (.iface qy (.pointer (some ⟨cy, 0, none⟩))) := hblk.cell 3
  have k4 : W.cell? ⟨b, 4, none⟩ = some (.iface qz (.pointer (some ⟨cz, 0, none⟩))) := hblk.cell 4
  have k5 : W.cell? ⟨b, 5, none⟩ = some (.bool true) := hblk.cell 5
  have hblt := hblk.lt
  have N0 := Lib.hid (NAt.start W)
  have HT := Lib.hid hT
  have Hx := Lib.hid hx
  have Ix := Lib.hid IHx
  have Hy := Lib.hid hy
  have Iy := Lib.hid IHy
  have Hz := Lib.hid hz
  have Iz := Lib.hid IHz
  show Calls _ _ #[.iface 112 (.pointer (some ⟨b, 0, none⟩))] W _
  clear hT hblk hb hx IHx hy IHy hz IHz hl hlx hly
  go_enter Tryz.func45, Tryz.ntmps45
  have t0 := as_SliceExpr_Ident
  have t1 := as_SliceExpr_BasicLit
  have t2 := as_SliceExpr_ParenExpr
  have t3 := as_SliceExpr_UnaryExpr
  have t4 := as_SliceExpr_StarExpr
  have t5 := as_SliceExpr_BinaryExpr
  have t6 := as_SliceExpr_SelectorExpr
  have t7 := as_SliceExpr_IndexExpr
  have t8 := as_SliceExpr_IndexListExpr
  have t9 := as_SliceExpr_SliceExpr
  go_wp2_with fail
  go_region_held3 (fun w' => w'.cell? ⟨b, 0, none⟩ = some (.iface qx (.pointer (some ⟨cx, 0, none⟩))) ∧ w'.cell? ⟨b, 2, none⟩ = some (.nilIface) ∧ w'.cell? ⟨b, 3, none⟩ = some (.iface qy (.pointer (some ⟨cy, 0, none⟩))) ∧ w'.cell? ⟨b, 4, none⟩ = some (.iface qz (.pointer (some ⟨cz, 0, none⟩))) ∧ w'.cell? ⟨b, 5, none⟩ = some (.bool true)) (first | with_reducible exact ⟨N1.out.kept3 hblt k0, N1.out.kept3 hblt k2, N1.out.kept3 hblt k3, N1.out.kept3 hblt k4, N1.out.kept3 hblt k5⟩ | with_reducible exact ⟨N1.out.kept hblt k0, N1.out.kept hblt k2, N1.out.kept hblt k3, N1.out.kept hblt k4, N1.out.kept hblt k5⟩ | with_reducible exact ⟨(N0.out.alloc _).drew.kept hblt k0, (N0.out.alloc _).drew.kept hblt k2, (N0.out.alloc _).drew.kept hblt k3, (N0.out.alloc _).drew.kept hblt k4, (N0.out.alloc _).drew.kept hblt k5⟩ | with_reducible exact ⟨N0.out.drew.kept hblt k0, N0.out.drew.kept hblt k2, N0.out.drew.kept hblt k3, N0.out.drew.kept hblt k4, N0.out.drew.kept hblt k5⟩ | exact ⟨N0.out.drew.kept hblt k0, N0.out.drew.kept hblt k2, N0.out.drew.kept hblt k3, N0.out.drew.kept hblt k4, N0.out.drew.kept hblt k5⟩) (first | (go_at_call 63; refine (ends_hms _ b _ _ _ _ (by first | with_reducible exact N1.out.kept hblt k2 | with_reducible exact (N0.out.alloc _).drew.kept hblt k2 | exact N0.out.drew.kept hblt k2) (by first | with_reducible exact N1.out.kept hblt k3 | with_reducible exact (N0.out.alloc _).drew.kept hblt k3 | exact N0.out.drew.kept hblt k3) (by first | with_reducible exact N1.out.kept hblt k4 | with_reducible exact (N0.out.alloc _).drew.kept hblt k4 | exact N0.out.drew.kept hblt k4) (by first | with_reducible exact N1.out.kept hblt k5 | with_reducible exact (N0.out.alloc _).drew.kept hblt k5 | exact N0.out.drew.kept hblt k5)).mono ?_; rintro e w2 ⟨rfl, rfl⟩) | (go_at_call 61; refine (nodes_at N0.out.drew HT.out [x, y, z] (by simpa using And.intro Ix.out (And.intro Iy.out Iz.out)) [.iface qx (.pointer (some ⟨cx, 0, none⟩)), .nilIface, .iface qy (.pointer (some ⟨cy, 0, none⟩)), .iface qz (.pointer (some ⟨cz, 0, none⟩))] hhi (.take Hx.out (.skip (.take Hy.out (.take Hz.out .nil)))) (by simp) _ rfl _ rfl _ (by first | rfl | simp)).mono ?_; rintro e w1 ⟨A, cap, ms, rfl, hin, hsm, hN, hbl⟩; have N1 := Lib.hid hN; have HI := Lib.hid hin; have HS := Lib.hid hsm; have hz := N1.out.size; clear hin hsm hbl hN; have r0 := N1.out.c0; have f0 := N1.out.frozen 0; have r1 := N1.out.c1; have f1 := N1.out.frozen 1; have r2 := N1.out.c2; have f2 := N1.out.frozen 2))
  all_goals try go_wp2_with fail
  all_goals exact node_end N1.out HI.out (by first | (simp; done) | (simp; omega) | omega) HS.out (by rfl) (by rfl)

set_option maxHeartbeats 2000000 in
set_option maxRecDepth 100000 in
theorem node_slice_lhms (P : Nat → Int) (ad : Option Addr) (cp : Nat) (x : Nd) (y : Nd) (z : Nd) (u : Nd) (IHx : NOf P x) (IHy : NOf P y) (IHz : NOf P z) (IHu : NOf P u) : NOf P ⟨⟨#[115, 108, 105, 99, 101]⟩, ⟨#[108, 104, 109, 115]⟩, ad, cp, [x, y, z, u]⟩ := by
  intro W lo hi i v hT hhi hX
  obtain ⟨vs, hl, hn⟩ := hX
  obtain ⟨b, hb, hv⟩ : NodeAt W (Rng lo hi) P 11 ⟨#[108, 104, 109, 115]⟩ [x.ntok, y.ntok, z.ntok, u.ntok] i _ vs v := hn
  obtain ⟨rfl, hblk⟩ := hv
  obtain ⟨ix, isx, qx, cx, vx, rfl, hx, hlx⟩ := exl_cons hl
  obtain ⟨iy, isy, qy, cy, vy, rfl, hy, hly⟩ := exl_cons hlx
  obtain ⟨iz, isz, qz, cz, vz, rfl, hz, hlz⟩ := exl_cons hly
  obtain ⟨iu, qu, cu, rfl, hu⟩ := exl1 hlz
  have k0 : W.cell? ⟨b, 0, none⟩ = some (.iface qx (.pointer (some ⟨cx, 0, none⟩))) := hblk.cell 0
  have k2 : W.cell? ⟨b, 2, none⟩ = some (.iface qy (.pointer (some ⟨cy, 0, none⟩))) := hblk.cell 2
  have k3 : W.cell? ⟨b, 3, none⟩ = some (.iface qz (.pointer (some ⟨cz, 0, none⟩))) := hblk.cell 3
  have k4 : W.cell? ⟨b, 4, none⟩ = some (.iface qu (.pointer (some ⟨cu, 0, none⟩))) := hblk.cell 4
  have k5 : W.cell? ⟨b, 5, none⟩ = some (.bool true) := hblk.cell 5
  have hblt := hblk.lt
  have N0 := Lib.hid (NAt.start W)
  have HT := Lib.hid hT
  have Hx := Lib.hid hx
  have Ix := Lib.hid IHx
  have Hy := Lib.hid hy
  have Iy := Lib.hid IHy
  have Hz := Lib.hid hz
  have Iz := Lib.hid IHz
  have Hu := Lib.hid hu
  have Iu := Lib.hid IHu
  show Calls _ _ #[.iface 112 (.pointer (some ⟨b, 0, none⟩))] W _
  clear hT hblk hb hx IHx hy IHy hz IHz hu IHu hl hlx hly hlz
  go_enter Tryz.func45, Tryz.ntmps45
  have t0 := as_SliceExpr_Ident
  have t1 := as_SliceExpr_BasicLit
  have t2 := as_SliceExpr_ParenExpr
  have t3 := as_SliceExpr_UnaryExpr
  have t4 := as_SliceExpr_StarExpr
  have t5 := as_SliceExpr_BinaryExpr
  have t6 := as_SliceExpr_SelectorExpr
  have t7 := as_SliceExpr_IndexExpr
  have t8 := as_SliceExpr_IndexListExpr
  have t9 := as_SliceExpr_SliceExpr
  go_wp2_with fail
  go_region_held3 (fun w' => w'.cell? ⟨b, 0, none⟩ = some (.iface qx (.pointer (some ⟨cx, 0, none⟩))) ∧ w'.cell? ⟨b, 2, none⟩ = some (.iface qy (.pointer (some ⟨cy, 0, none⟩))) ∧ w'.cell? ⟨b, 3, none⟩ = some (.iface qz (.pointer (some ⟨cz, 0, none⟩))) ∧ w'.cell? ⟨b, 4, none⟩ = some (.iface qu (.pointer (some ⟨cu, 0, none⟩))) ∧ w'.cell? ⟨b, 5, none⟩ = some (.bool true)) (first | with_reducible exact ⟨N1.out.kept3 hblt k0, N1.out.kept3 hblt k2, N1.out.kept3 hblt k3, N1.out.kept3 hblt k4, N1.out.kept3 hblt k5⟩ | with_reducible exact ⟨N1.out.kept hblt k0, N1.out.kept hblt k2, N1.out.kept hblt k3, N1.out.kept hblt k4, N1.out.kept hblt k5⟩ | with_reducible exact ⟨(N0.out.alloc _).drew.kept hblt k0, (N0.out.alloc _).drew.kept hblt k2, (N0.out.alloc _).drew.kept hblt k3, (N0.out.alloc _).drew.kept hblt k4, (N0.out.alloc _).drew.kept hblt k5⟩ | with_reducible exact ⟨N0.out.drew.kept hblt k0, N0.out.drew.kept hblt k2, N0.out.drew.kept hblt k3, N0.out.drew.kept hblt k4, N0.out.drew.kept hblt k5⟩ | exact ⟨N0.out.drew.kept hblt k0, N0.out.drew.kept hblt k2, N0.out.drew.kept hblt k3, N0.out.drew.kept hblt k4, N0.out.drew.kept hblt k5⟩) (first | (go_at_call 63; refine (ends_lhms _ b _ _ _ _ _ _ (by first | with_reducible exact N1.out.kept hblt k2 | with_reducible exact (N0.out.alloc _).drew.kept hblt k2 | exact N0.out.drew.kept hblt k2) (by first | with_reducible exact N1.out.kept hblt k3 | with_reducible exact (N0.out.alloc _).drew.kept hblt k3 | exact N0.out.drew.kept hblt k3) (by first | with_reducible exact N1.out.kept hblt k4 | with_reducible exact (N0.out.alloc _).drew.kept hblt k4 | exact N0.out.drew.kept hblt k4) (by first | with_reducible exact N1.out.kept hblt k5 | with_reducible exact (N0.out.alloc _).drew.kept hblt k5 | exact N0.out.drew.kept hblt k5)).mono ?_; rintro e w2 ⟨rfl, rfl⟩) | (go_at_call 61; refine (nodes_at N0.out.drew HT.out [x, y, z, u] (by simpa using And.intro Ix.out (And.intro Iy.out (And.intro Iz.out Iu.out))) [.iface qx (.pointer (some ⟨cx, 0, none⟩)), .iface qy (.pointer (some ⟨cy, 0, none⟩)), .iface qz (.pointer (some ⟨cz, 0, none⟩)), .iface qu (.pointer (some ⟨cu, 0, none⟩))] hhi (.take Hx.out (.take Hy.out (.take Hz.out (.take Hu.out .nil)))) (by simp) _ rfl _ rfl _ (by first | rfl | simp)).mono ?_; rintro e w1 ⟨A, cap, ms, rfl, hin, hsm, hN, hbl⟩; have N1 := Lib.hid hN; have HI := Lib.hid hin; have HS := Lib.hid hsm; have hz := N1.out.size; clear hin hsm hbl hN; have r0 := N1.out.c0; have f0 := N1.out.frozen 0; have r1 := N1.out.c1; have f1 := N1.out.frozen 1; have r2 := N1.out.c2; have f2 := N1.out.frozen 2))
  all_goals try go_wp2_with fail
  all_goals exact node_end N1.out HI.out (by first | (simp; done) | (simp; omega) | omega) HS.out (by rfl) (by rfl)
end Go.Proofs.YtjbhjbpamnoebaaGreatFmt
