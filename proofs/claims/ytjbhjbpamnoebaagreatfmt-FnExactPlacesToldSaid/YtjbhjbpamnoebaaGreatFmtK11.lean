/-
  impl.node: kinds with two expressions below, and the like.
  impl.node: operators.
-/
import Derived.Test.YtjbhjbpamnoebaaGreatFmtK10
namespace Go.Proofs.YtjbhjbpamnoebaaGreatFmt
open Go.RowKit

set_option maxRecDepth 100000 in
theorem node_index (P : Nat → Int) (ad : Option Addr) (cp : Nat) (x : Nd) (y : Nd) (IHx : NOf P x) (IHy : NOf P y) : NOf P ⟨⟨#[105, 110, 100, 101, 120]⟩, ⟨#[]⟩, ad, cp, [x, y]⟩ := by
  intro W lo hi i v hT hhi hX
  obtain ⟨vs, hl, hn⟩ := hX
  obtain ⟨b, hb, hv⟩ : NodeAt W (Rng lo hi) P 7 ⟨#[]⟩ [x.ntok, y.ntok] i _ vs v := hn
  obtain ⟨rfl, hblk⟩ := hv
  obtain ⟨ix, qx, cx, iy, qy, cy, rfl, hx, hy⟩ := exl2 hl
  have k0 : W.cell? ⟨b, 0, none⟩ = some (.iface qx (.pointer (some ⟨cx, 0, none⟩))) := hblk.cell 0
  have k2 : W.cell? ⟨b, 2, none⟩ = some (.iface qy (.pointer (some ⟨cy, 0, none⟩))) := hblk.cell 2
  have hblt := hblk.lt
  have N0 := Lib.hid (NAt.start W)
  have HT := Lib.hid hT
  have Hx := Lib.hid hx
  have Ix := Lib.hid IHx
  have Hy := Lib.hid hy
  have Iy := Lib.hid IHy
  show Calls _ _ #[.iface 106 (.pointer (some ⟨b, 0, none⟩))] W _
  clear hT hl hblk hb hx IHx hy IHy
  go_enter Tryz.func45, Tryz.ntmps45
  have t0 := as_IndexExpr_Ident
  have t1 := as_IndexExpr_BasicLit
  have t2 := as_IndexExpr_ParenExpr
  have t3 := as_IndexExpr_UnaryExpr
  have t4 := as_IndexExpr_StarExpr
  have t5 := as_IndexExpr_BinaryExpr
  have t6 := as_IndexExpr_SelectorExpr
  have t7 := as_IndexExpr_IndexExpr
  go_wp2_with fail
  go_region_held3 (fun w' => w'.cell? ⟨b, 0, none⟩ = some (.iface qx (.pointer (some ⟨cx, 0, none⟩))) ∧ w'.cell? ⟨b, 2, none⟩ = some (.iface qy (.pointer (some ⟨cy, 0, none⟩)))) (first | with_reducible exact ⟨N1.out.kept3 hblt k0, N1.out.kept3 hblt k2⟩ | with_reducible exact ⟨N1.out.kept hblt k0, N1.out.kept hblt k2⟩ | with_reducible exact ⟨(N0.out.alloc _).drew.kept hblt k0, (N0.out.alloc _).drew.kept hblt k2⟩ | with_reducible exact ⟨N0.out.drew.kept hblt k0, N0.out.drew.kept hblt k2⟩ | exact ⟨N0.out.drew.kept hblt k0, N0.out.drew.kept hblt k2⟩) (first | (go_at_call 61; refine (nodes_at N0.out.drew HT.out [x, y] (by simpa using And.intro Ix.out Iy.out) [.iface qx (.pointer (some ⟨cx, 0, none⟩)), .iface qy (.pointer (some ⟨cy, 0, none⟩))] hhi (.take Hx.out (.take Hy.out .nil)) (by simp) _ rfl _ rfl _ (by first | rfl | simp)).mono ?_; rintro e w1 ⟨A, cap, ms, rfl, hin, hsm, hN, hbl⟩; have N1 := Lib.hid hN; have HI := Lib.hid hin; have HS := Lib.hid hsm; have hz := N1.out.size; clear hin hsm hbl hN; have r0 := N1.out.c0; have f0 := N1.out.frozen 0; have r1 := N1.out.c1; have f1 := N1.out.frozen 1; have r2 := N1.out.c2; have f2 := N1.out.frozen 2))
  try go_wp2_with fail
  exact node_end N1.out HI.out (by first | (simp; done) | (simp; omega) | omega) HS.out (by rfl) (by rfl)

set_option maxRecDepth 100000 in
theorem node_assert (P : Nat → Int) (ad : Option Addr) (cp : Nat) (x : Nd) (y : Nd) (IHx : NOf P x) (IHy : NOf P y) : NOf P ⟨⟨#[97, 115, 115, 101, 114, 116]⟩, ⟨#[]⟩, ad, cp, [x, y]⟩ := by
  intro W lo hi i v hT hhi hX
  obtain ⟨vs, hl, hn⟩ := hX
  obtain ⟨b, hb, hv⟩ : NodeAt W (Rng lo hi) P 8 ⟨#[]⟩ [x.ntok, y.ntok] i _ vs v := hn
  obtain ⟨rfl, hblk⟩ := hv
  obtain ⟨ix, qx, cx, iy, qy, cy, rfl, hx, hy⟩ := exl2 hl
  have k0 : W.cell? ⟨b, 0, none⟩ = some (.iface qx (.pointer (some ⟨cx, 0, none⟩))) := hblk.cell 0
  have k2 : W.cell? ⟨b, 2, none⟩ = some (.iface qy (.pointer (some ⟨cy, 0, none⟩))) := hblk.cell 2
  have hblt := hblk.lt
  have N0 := Lib.hid (NAt.start W)
  have HT := Lib.hid hT
  have Hx := Lib.hid hx
  have Ix := Lib.hid IHx
  have Hy := Lib.hid hy
  have Iy := Lib.hid IHy
  show Calls _ _ #[.iface 115 (.pointer (some ⟨b, 0, none⟩))] W _
  clear hT hl hblk hb hx IHx hy IHy
  go_enter Tryz.func45, Tryz.ntmps45
  have t0 := as_TypeAssertExpr_Ident
  have t1 := as_TypeAssertExpr_BasicLit
  have t2 := as_TypeAssertExpr_ParenExpr
  have t3 := as_TypeAssertExpr_UnaryExpr
  have t4 := as_TypeAssertExpr_StarExpr
  have t5 := as_TypeAssertExpr_BinaryExpr
  have t6 := as_TypeAssertExpr_SelectorExpr
  have t7 := as_TypeAssertExpr_IndexExpr
  have t8 := as_TypeAssertExpr_IndexListExpr
  have t9 := as_TypeAssertExpr_SliceExpr
  have t10 := as_TypeAssertExpr_CallExpr
  have t11 := as_TypeAssertExpr_TypeAssertExpr
  go_wp2_with fail
  go_region_held3 (fun w' => w'.cell? ⟨b, 0, none⟩ = some (.iface qx (.pointer (some ⟨cx, 0, none⟩))) ∧ w'.cell? ⟨b, 2, none⟩ = some (.iface qy (.pointer (some ⟨cy, 0, none⟩)))) (first | with_reducible exact ⟨N1.out.kept3 hblt k0, N1.out.kept3 hblt k2⟩ | with_reducible exact ⟨N1.out.kept hblt k0, N1.out.kept hblt k2⟩ | with_reducible exact ⟨(N0.out.alloc _).drew.kept hblt k0, (N0.out.alloc _).drew.kept hblt k2⟩ | with_reducible exact ⟨N0.out.drew.kept hblt k0, N0.out.drew.kept hblt k2⟩ | exact ⟨N0.out.drew.kept hblt k0, N0.out.drew.kept hblt k2⟩) (first | (go_at_call 61; refine (nodes_at N0.out.drew HT.out [x, y] (by simpa using And.intro Ix.out Iy.out) [.iface qx (.pointer (some ⟨cx, 0, none⟩)), .iface qy (.pointer (some ⟨cy, 0, none⟩))] hhi (.take Hx.out (.take Hy.out .nil)) (by simp) _ rfl _ rfl _ (by first | rfl | simp)).mono ?_; rintro e w1 ⟨A, cap, ms, rfl, hin, hsm, hN, hbl⟩; have N1 := Lib.hid hN; have HI := Lib.hid hin; have HS := Lib.hid hsm; have hz := N1.out.size; clear hin hsm hbl hN; have r0 := N1.out.c0; have f0 := N1.out.frozen 0; have r1 := N1.out.c1; have f1 := N1.out.frozen 1; have r2 := N1.out.c2; have f2 := N1.out.frozen 2))
  try go_wp2_with fail
  exact node_end N1.out HI.out (by first | (simp; done) | (simp; omega) | omega) HS.out (by rfl) (by rfl)

set_option maxRecDepth 100000 in
theorem node_key (P : Nat → Int) (ad : Option Addr) (cp : Nat) (x : Nd) (y : Nd) (IHx : NOf P x) (IHy : NOf P y) : NOf P ⟨⟨#[107, 101, 121]⟩, ⟨#[]⟩, ad, cp, [x, y]⟩ := by
  intro W lo hi i v hT hhi hX
  obtain ⟨vs, hl, hn⟩ := hX
  obtain ⟨b, hb, hv⟩ : NodeAt W (Rng lo hi) P 9 ⟨#[]⟩ [x.ntok, y.ntok] i _ vs v := hn
  obtain ⟨rfl, hblk⟩ := hv
  obtain ⟨ix, qx, cx, iy, qy, cy, rfl, hx, hy⟩ := exl2 hl
  have k0 : W.cell? ⟨b, 0, none⟩ = some (.iface qx (.pointer (some ⟨cx, 0, none⟩))) := hblk.cell 0
  have k2 : W.cell? ⟨b, 2, none⟩ = some (.iface qy (.pointer (some ⟨cy, 0, none⟩))) := hblk.cell 2
  have hblt := hblk.lt
  have N0 := Lib.hid (NAt.start W)
  have HT := Lib.hid hT
  have Hx := Lib.hid hx
  have Ix := Lib.hid IHx
  have Hy := Lib.hid hy
  have Iy := Lib.hid IHy
  show Calls _ _ #[.iface 131 (.pointer (some ⟨b, 0, none⟩))] W _
  clear hT hl hblk hb hx IHx hy IHy
  go_enter Tryz.func45, Tryz.ntmps45
  have t0 := as_KeyValueExpr_Ident
  have t1 := as_KeyValueExpr_BasicLit
  have t2 := as_KeyValueExpr_ParenExpr
  have t3 := as_KeyValueExpr_UnaryExpr
  have t4 := as_KeyValueExpr_StarExpr
  have t5 := as_KeyValueExpr_BinaryExpr
  have t6 := as_KeyValueExpr_SelectorExpr
  have t7 := as_KeyValueExpr_IndexExpr
  have t8 := as_KeyValueExpr_IndexListExpr
  have t9 := as_KeyValueExpr_SliceExpr
  have t10 := as_KeyValueExpr_CallExpr
  have t11 := as_KeyValueExpr_TypeAssertExpr
  have t12 := as_KeyValueExpr_CompositeLit
  have t13 := as_KeyValueExpr_KeyValueExpr
  go_wp2_with fail
  go_region_held3 (fun w' => w'.cell? ⟨b, 0, none⟩ = some (.iface qx (.pointer (some ⟨cx, 0, none⟩))) ∧ w'.cell? ⟨b, 2, none⟩ = some (.iface qy (.pointer (some ⟨cy, 0, none⟩)))) (first | with_reducible exact ⟨N1.out.kept3 hblt k0, N1.out.kept3 hblt k2⟩ | with_reducible exact ⟨N1.out.kept hblt k0, N1.out.kept hblt k2⟩ | with_reducible exact ⟨(N0.out.alloc _).drew.kept hblt k0, (N0.out.alloc _).drew.kept hblt k2⟩ | with_reducible exact ⟨N0.out.drew.kept hblt k0, N0.out.drew.kept hblt k2⟩ | exact ⟨N0.out.drew.kept hblt k0, N0.out.drew.kept hblt k2⟩) (first | (go_at_call 61; refine (nodes_at N0.out.drew HT.out [x, y] (by simpa using And.intro Ix.out Iy.out) [.iface qx (.pointer (some ⟨cx, 0, none⟩)), .iface qy (.pointer (some ⟨cy, 0, none⟩))] hhi (.take Hx.out (.take Hy.out .nil)) (by simp) _ rfl _ rfl _ (by first | rfl | simp)).mono ?_; rintro e w1 ⟨A, cap, ms, rfl, hin, hsm, hN, hbl⟩; have N1 := Lib.hid hN; have HI := Lib.hid hin; have HS := Lib.hid hsm; have hz := N1.out.size; clear hin hsm hbl hN; have r0 := N1.out.c0; have f0 := N1.out.frozen 0; have r1 := N1.out.c1; have f1 := N1.out.frozen 1; have r2 := N1.out.c2; have f2 := N1.out.frozen 2))
  try go_wp2_with fail
  exact node_end N1.out HI.out (by first | (simp; done) | (simp; omega) | omega) HS.out (by rfl) (by rfl)

set_option maxRecDepth 100000 in
theorem node_map (P : Nat → Int) (ad : Option Addr) (cp : Nat) (x : Nd) (y : Nd) (IHx : NOf P x) (IHy : NOf P y) : NOf P ⟨⟨#[109, 97, 112]⟩, ⟨#[]⟩, ad, cp, [x, y]⟩ := by
  intro W lo hi i v hT hhi hX
  obtain ⟨vs, hl, hn⟩ := hX
  obtain ⟨b, hb, hv⟩ : NodeAt W (Rng lo hi) P 10 ⟨#[]⟩ [x.ntok, y.ntok] i _ vs v := hn
  obtain ⟨rfl, hblk⟩ := hv
  obtain ⟨ix, qx, cx, iy, qy, cy, rfl, hx, hy⟩ := exl2 hl
  have k1 : W.cell? ⟨b, 1, none⟩ = some (.iface qx (.pointer (some ⟨cx, 0, none⟩))) := hblk.cell 1
  have k2 : W.cell? ⟨b, 2, none⟩ = some (.iface qy (.pointer (some ⟨cy, 0, none⟩))) := hblk.cell 2
  have hblt := hblk.lt
  have N0 := Lib.hid (NAt.start W)
  have HT := Lib.hid hT
  have Hx := Lib.hid hx
  have Ix := Lib.hid IHx
  have Hy := Lib.hid hy
  have Iy := Lib.hid IHy
  show Calls _ _ #[.iface 145 (.pointer (some ⟨b, 0, none⟩))] W _
  clear hT hl hblk hb hx IHx hy IHy
  go_enter Tryz.func45, Tryz.ntmps45
  have t0 := as_MapType_Ident
  have t1 := as_MapType_BasicLit
  have t2 := as_MapType_ParenExpr
  have t3 := as_MapType_UnaryExpr
  have t4 := as_MapType_StarExpr
  have t5 := as_MapType_BinaryExpr
  have t6 := as_MapType_SelectorExpr
  have t7 := as_MapType_IndexExpr
  have t8 := as_MapType_IndexListExpr
  have t9 := as_MapType_SliceExpr
  have t10 := as_MapType_CallExpr
  have t11 := as_MapType_TypeAssertExpr
  have t12 := as_MapType_CompositeLit
  have t13 := as_MapType_KeyValueExpr
  have t14 := as_MapType_ArrayType
  have t15 := as_MapType_MapType
  go_wp2_with fail
  go_region_held3 (fun w' => w'.cell? ⟨b, 1, none⟩ = some (.iface qx (.pointer (some ⟨cx, 0, none⟩))) ∧ w'.cell? ⟨b, 2, none⟩ = some (.iface qy (.pointer (some ⟨cy, 0, none⟩)))) (first | with_reducible exact ⟨N1.out.kept3 hblt k1, N1.out.kept3 hblt k2⟩ | with_reducible exact ⟨N1.out.kept hblt k1, N1.out.kept hblt k2⟩ | with_reducible exact ⟨(N0.out.alloc _).drew.kept hblt k1, (N0.out.alloc _).drew.kept hblt k2⟩ | with_reducible exact ⟨N0.out.drew.kept hblt k1, N0.out.drew.kept hblt k2⟩ | exact ⟨N0.out.drew.kept hblt k1, N0.out.drew.kept hblt k2⟩) (first | (go_at_call 61; refine (nodes_at N0.out.drew HT.out [x, y] (by simpa using And.intro Ix.out Iy.out) [.iface qx (.pointer (some ⟨cx, 0, none⟩)), .iface qy (.pointer (some ⟨cy, 0, none⟩))] hhi (.take Hx.out (.take Hy.out .nil)) (by simp) _ rfl _ rfl _ (by first | rfl | simp)).mono ?_; rintro e w1 ⟨A, cap, ms, rfl, hin, hsm, hN, hbl⟩; have N1 := Lib.hid hN; have HI := Lib.hid hin; have HS := Lib.hid hsm; have hz := N1.out.size; clear hin hsm hbl hN; have r0 := N1.out.c0; have f0 := N1.out.frozen 0; have r1 := N1.out.c1; have f1 := N1.out.frozen 1; have r2 := N1.out.c2; have f2 := N1.out.frozen 2))
  try go_wp2_with fail
  exact node_end N1.out HI.out (by first | (simp; done) | (simp; omega) | omega) HS.out (by rfl) (by rfl)

set_option maxRecDepth 100000 in
theorem node_array2 (P : Nat → Int) (ad : Option Addr) (cp : Nat) (x : Nd) (y : Nd) (IHx : NOf P x) (IHy : NOf P y) : NOf P ⟨⟨#[97, 114, 114, 97, 121]⟩, ⟨#[]⟩, ad, cp, [x, y]⟩ := by
  intro W lo hi i v hT hhi hX
  obtain ⟨vs, hl, hn⟩ := hX
  obtain ⟨b, hb, hv⟩ : NodeAt W (Rng lo hi) P 14 ⟨#[]⟩ [x.ntok, y.ntok] i _ vs v := hn
  obtain ⟨rfl, hblk⟩ := hv
  obtain ⟨ix, qx, cx, iy, qy, cy, rfl, hx, hy⟩ := exl2 hl
  have k1 : W.cell? ⟨b, 1, none⟩ = some (.iface qx (.pointer (some ⟨cx, 0, none⟩))) := hblk.cell 1
  have k2 : W.cell? ⟨b, 2, none⟩ = some (.iface qy (.pointer (some ⟨cy, 0, none⟩))) := hblk.cell 2
  have hblt := hblk.lt
  have N0 := Lib.hid (NAt.start W)
  have HT := Lib.hid hT
  have Hx := Lib.hid hx
  have Ix := Lib.hid IHx
  have Hy := Lib.hid hy
  have Iy := Lib.hid IHy
  show Calls _ _ #[.iface 134 (.pointer (some ⟨b, 0, none⟩))] W _
  clear hT hl hblk hb hx IHx hy IHy
  go_enter Tryz.func45, Tryz.ntmps45
  have t0 := as_ArrayType_Ident
  have t1 := as_ArrayType_BasicLit
  have t2 := as_ArrayType_ParenExpr
  have t3 := as_ArrayType_UnaryExpr
  have t4 := as_ArrayType_StarExpr
  have t5 := as_ArrayType_BinaryExpr
  have t6 := as_ArrayType_SelectorExpr
  have t7 := as_ArrayType_IndexExpr
  have t8 := as_ArrayType_IndexListExpr
  have t9 := as_ArrayType_SliceExpr
  have t10 := as_ArrayType_CallExpr
  have t11 := as_ArrayType_TypeAssertExpr
  have t12 := as_ArrayType_CompositeLit
  have t13 := as_ArrayType_KeyValueExpr
  have t14 := as_ArrayType_ArrayType
  go_wp2_with fail
  go_region_held3 (fun w' => w'.cell? ⟨b, 1, none⟩ = some (.iface qx (.pointer (some ⟨cx, 0, none⟩))) ∧ w'.cell? ⟨b, 2, none⟩ = some (.iface qy (.pointer (some ⟨cy, 0, none⟩)))) (first | with_reducible exact ⟨N1.out.kept3 hblt k1, N1.out.kept3 hblt k2⟩ | with_reducible exact ⟨N1.out.kept hblt k1, N1.out.kept hblt k2⟩ | with_reducible exact ⟨(N0.out.alloc _).drew.kept hblt k1, (N0.out.alloc _).drew.kept hblt k2⟩ | with_reducible exact ⟨N0.out.drew.kept hblt k1, N0.out.drew.kept hblt k2⟩ | exact ⟨N0.out.drew.kept hblt k1, N0.out.drew.kept hblt k2⟩) (first | (go_at_call 61; refine (nodes_at N0.out.drew HT.out [x, y] (by simpa using And.intro Ix.out Iy.out) [.iface qx (.pointer (some ⟨cx, 0, none⟩)), .iface qy (.pointer (some ⟨cy, 0, none⟩))] hhi (.take Hx.out (.take Hy.out .nil)) (by simp) _ rfl _ rfl _ (by first | rfl | simp)).mono ?_; rintro e w1 ⟨A, cap, ms, rfl, hin, hsm, hN, hbl⟩; have N1 := Lib.hid hN; have HI := Lib.hid hin; have HS := Lib.hid hsm; have hz := N1.out.size; clear hin hsm hbl hN; have r0 := N1.out.c0; have f0 := N1.out.frozen 0; have r1 := N1.out.c1; have f1 := N1.out.frozen 1; have r2 := N1.out.c2; have f2 := N1.out.frozen 2))
  try go_wp2_with fail
  exact node_end N1.out HI.out (by first | (simp; done) | (simp; omega) | omega) HS.out (by rfl) (by rfl)

set_option maxRecDepth 100000 in
theorem node_array1 (P : Nat → Int) (ad : Option Addr) (cp : Nat) (x : Nd) (IHx : NOf P x) : NOf P ⟨⟨#[97, 114, 114, 97, 121]⟩, ⟨#[]⟩, ad, cp, [x]⟩ := by
  intro W lo hi i v hT hhi hX
  obtain ⟨vs, hl, hn⟩ := hX
  obtain ⟨b, hb, hv⟩ : NodeAt W (Rng lo hi) P 14 ⟨#[]⟩ [x.ntok] i _ vs v := hn
  obtain ⟨rfl, hblk⟩ := hv
  obtain ⟨ix, qx, cx, rfl, hx⟩ := exl1 hl
  have k1 : W.cell? ⟨b, 1, none⟩ = some (.nilIface) := hblk.cell 1
  have k2 : W.cell? ⟨b, 2, none⟩ = some (.iface qx (.pointer (some ⟨cx, 0, none⟩))) := hblk.cell 2
  have hblt := hblk.lt
  have N0 := Lib.hid (NAt.start W)
  have HT := Lib.hid hT
  have Hx := Lib.hid hx
  have Ix := Lib.hid IHx
  show Calls _ _ #[.iface 134 (.pointer (some ⟨b, 0, none⟩))] W _
  clear hT hl hblk hb hx IHx
  go_enter Tryz.func45, Tryz.ntmps45
  have t0 := as_ArrayType_Ident
  have t1 := as_ArrayType_BasicLit
  have t2 := as_ArrayType_ParenExpr
  have t3 := as_ArrayType_UnaryExpr
  have t4 := as_ArrayType_StarExpr
  have t5 := as_ArrayType_BinaryExpr
  have t6 := as_ArrayType_SelectorExpr
  have t7 := as_ArrayType_IndexExpr
  have t8 := as_ArrayType_IndexListExpr
  have t9 := as_ArrayType_SliceExpr
  have t10 := as_ArrayType_CallExpr
  have t11 := as_ArrayType_TypeAssertExpr
  have t12 := as_ArrayType_CompositeLit
  have t13 := as_ArrayType_KeyValueExpr
  have t14 := as_ArrayType_ArrayType
  go_wp2_with fail
  go_region_held3 (fun w' => w'.cell? ⟨b, 1, none⟩ = some (.nilIface) ∧ w'.cell? ⟨b, 2, none⟩ = some (.iface qx (.pointer (some ⟨cx, 0, none⟩)))) (first | with_reducible exact ⟨N1.out.kept3 hblt k1, N1.out.kept3 hblt k2⟩ | with_reducible exact ⟨N1.out.kept hblt k1, N1.out.kept hblt k2⟩ | with_reducible exact ⟨(N0.out.alloc _).drew.kept hblt k1, (N0.out.alloc _).drew.kept hblt k2⟩ | with_reducible exact ⟨N0.out.drew.kept hblt k1, N0.out.drew.kept hblt k2⟩ | exact ⟨N0.out.drew.kept hblt k1, N0.out.drew.kept hblt k2⟩) (first | (go_at_call 61; refine (nodes_at N0.out.drew HT.out [x] (by simpa using Ix.out) [.nilIface, .iface qx (.pointer (some ⟨cx, 0, none⟩))] hhi (.skip (.take Hx.out .nil)) (by simp) _ rfl _ rfl _ (by first | rfl | simp)).mono ?_; rintro e w1 ⟨A, cap, ms, rfl, hin, hsm, hN, hbl⟩; have N1 := Lib.hid hN; have HI := Lib.hid hin; have HS := Lib.hid hsm; have hz := N1.out.size; clear hin hsm hbl hN; have r0 := N1.out.c0; have f0 := N1.out.frozen 0; have r1 := N1.out.c1; have f1 := N1.out.frozen 1; have r2 := N1.out.c2; have f2 := N1.out.frozen 2))
  try go_wp2_with fail
  exact node_end N1.out HI.out (by first | (simp; done) | (simp; omega) | omega) HS.out (by rfl) (by rfl)

set_option maxRecDepth 100000 in
theorem node_select (P : Nat → Int) (tx : ByteArray) (ad : Option Addr) (cp : Nat) (x : Nd) (IHx : NOf P x) : NOf P ⟨⟨#[115, 101, 108, 101, 99, 116]⟩, tx, ad, cp, [x]⟩ := by
  intro W lo hi i v hT hhi hX
  obtain ⟨vs, hl, hn⟩ := hX
  obtain ⟨b, hb, hv⟩ : NodeAt W (Rng lo hi) P 6 tx [x.ntok] i _ vs v := hn
  obtain ⟨rfl, b2, hb2, hblk, hblk2⟩ := hv
  obtain ⟨ix, qx, cx, rfl, hx⟩ := exl1 hl
  have k0 : W.cell? ⟨b, 0, none⟩ = some (.iface qx (.pointer (some ⟨cx, 0, none⟩))) := hblk.cell 0
  have k1 : W.cell? ⟨b, 1, none⟩ = some (.pointer (some ⟨b2, 0, none⟩)) := hblk.cell 1
  have m1 : W.cell? ⟨b2, 1, none⟩ = some (.string tx) := hblk2.cell 1
  have hblt2 := hblk2.lt
  have hblt := hblk.lt
  have N0 := Lib.hid (NAt.start W)
  have HT := Lib.hid hT
  have Hx := Lib.hid hx
  have Ix := Lib.hid IHx
  show Calls _ _ #[.iface 103 (.pointer (some ⟨b, 0, none⟩))] W _
  clear hT hl hblk hb hb2 hblk2 hx IHx
  go_enter Tryz.func45, Tryz.ntmps45
  have t0 := as_SelectorExpr_Ident
  have t1 := as_SelectorExpr_BasicLit
  have t2 := as_SelectorExpr_ParenExpr
  have t3 := as_SelectorExpr_UnaryExpr
  have t4 := as_SelectorExpr_StarExpr
  have t5 := as_SelectorExpr_BinaryExpr
  have t6 := as_SelectorExpr_SelectorExpr
  go_wp2_with fail
  go_region_held3 (fun w' => w'.cell? ⟨b, 0, none⟩ = some (.iface qx (.pointer (some ⟨cx, 0, none⟩))) ∧ w'.cell? ⟨b, 1, none⟩ = some (.pointer (some ⟨b2, 0, none⟩)) ∧ w'.cell? ⟨b2, 1, none⟩ = some (.string tx)) (first | with_reducible exact ⟨N1.out.kept3 hblt k0, N1.out.kept3 hblt k1, N1.out.kept3 hblt2 m1⟩ | with_reducible exact ⟨N1.out.kept hblt k0, N1.out.kept hblt k1, N1.out.kept hblt2 m1⟩ | with_reducible exact ⟨(N0.out.alloc _).drew.kept hblt k0, (N0.out.alloc _).drew.kept hblt k1, (N0.out.alloc _).drew.kept hblt2 m1⟩ | with_reducible exact ⟨N0.out.drew.kept hblt k0, N0.out.drew.kept hblt k1, N0.out.drew.kept hblt2 m1⟩ | exact ⟨N0.out.drew.kept hblt k0, N0.out.drew.kept hblt k1, N0.out.drew.kept hblt2 m1⟩) (first | (go_at_call 61; refine (nodes_at N0.out.drew HT.out [x] (by simpa using Ix.out) [.iface qx (.pointer (some ⟨cx, 0, none⟩))] hhi (.take Hx.out .nil) (by simp) _ rfl _ rfl _ (by first | rfl | simp)).mono ?_; rintro e w1 ⟨A, cap, ms, rfl, hin, hsm, hN, hbl⟩; have N1 := Lib.hid hN; have HI := Lib.hid hin; have HS := Lib.hid hsm; have hz := N1.out.size; clear hin hsm hbl hN; have r0 := N1.out.c0; have f0 := N1.out.frozen 0; have r1 := N1.out.c1; have f1 := N1.out.frozen 1; have r2 := N1.out.c2; have f2 := N1.out.frozen 2))
  try go_wp2_with fail
  exact node_end N1.out HI.out (by first | (simp; done) | (simp; omega) | omega) HS.out (by rfl) (by rfl)
end Go.Proofs.YtjbhjbpamnoebaaGreatFmt

namespace Go.Proofs.YtjbhjbpamnoebaaGreatFmt
open Go.RowKit

set_option maxRecDepth 100000 in
theorem node_unary (P : Nat → Int) (tx : ByteArray) (ad : Option Addr) (cp : Nat) (hop : tx.data.toList ∈ opTexts) (x : Nd) (IHx : NOf P x) : NOf P ⟨⟨#[117, 110, 97, 114, 121]⟩, tx, ad, cp, [x]⟩ := by
  intro W lo hi i v hT hhi hX
  obtain ⟨vs, hl, hn⟩ := hX
  obtain ⟨b, hb, hv⟩ : NodeAt W (Rng lo hi) P 4 tx [x.ntok] i _ vs v := hn
  obtain ⟨rfl, hblk⟩ := hv
  obtain ⟨ix, qx, cx, rfl, hx⟩ := exl1 hl
  have k1 : W.cell? ⟨b, 1, none⟩ = some (int (opNo tx)) := hblk.cell 1
  have k2 : W.cell? ⟨b, 2, none⟩ = some (.iface qx (.pointer (some ⟨cx, 0, none⟩))) := hblk.cell 2
  have hblt := hblk.lt
  have N0 := Lib.hid (NAt.start W)
  have HT := Lib.hid hT
  have Hx := Lib.hid hx
  have Ix := Lib.hid IHx
  have HOP := Lib.hid hop
  show Calls _ _ #[.iface 124 (.pointer (some ⟨b, 0, none⟩))] W _
  clear hT hl hblk hb hx IHx hop
  go_enter Tryz.func45, Tryz.ntmps45
  have t0 := as_UnaryExpr_Ident
  have t1 := as_UnaryExpr_BasicLit
  have t2 := as_UnaryExpr_ParenExpr
  have t3 := as_UnaryExpr_UnaryExpr
  go_wp2_with fail
  go_region_held3 (fun w' => w'.cell? ⟨b, 1, none⟩ = some (int (opNo tx)) ∧ w'.cell? ⟨b, 2, none⟩ = some (.iface qx (.pointer (some ⟨cx, 0, none⟩)))) (first | with_reducible exact ⟨N1.out.kept3 hblt k1, N1.out.kept3 hblt k2⟩ | with_reducible exact ⟨N1.out.kept hblt k1, N1.out.kept hblt k2⟩ | with_reducible exact ⟨(N0.out.alloc _).drew.kept hblt k1, (N0.out.alloc _).drew.kept hblt k2⟩ | with_reducible exact ⟨N0.out.drew.kept hblt k1, N0.out.drew.kept hblt k2⟩ | exact ⟨N0.out.drew.kept hblt k1, N0.out.drew.kept hblt k2⟩) (first | (go_at_call 62; refine (op_at tx HOP.out _ (NAt.tok (by first | with_reducible exact N1.out | with_reducible exact (N0.out.alloc _).drew | exact N0.out.drew) HT.out)).mono ?_; rintro e w2 ⟨rfl, rfl⟩) | (go_at_call 61; refine (nodes_at N0.out.drew HT.out [x] (by simpa using Ix.out) [.iface qx (.pointer (some ⟨cx, 0, none⟩))] hhi (.take Hx.out .nil) (by simp) _ rfl _ rfl _ (by first | rfl | simp)).mono ?_; rintro e w1 ⟨A, cap, ms, rfl, hin, hsm, hN, hbl⟩; have N1 := Lib.hid hN; have HI := Lib.hid hin; have HS := Lib.hid hsm; have hz := N1.out.size; clear hin hsm hbl hN; have r0 := N1.out.c0; have f0 := N1.out.frozen 0; have r1 := N1.out.c1; have f1 := N1.out.frozen 1; have r2 := N1.out.c2; have f2 := N1.out.frozen 2))
  all_goals try go_wp2_with fail
  all_goals exact node_end N1.out HI.out (by first | (simp; done) | (simp; omega) | omega) HS.out (by rfl) (by rfl)

set_option maxRecDepth 100000 in
theorem node_binary (P : Nat → Int) (tx : ByteArray) (ad : Option Addr) (cp : Nat) (hop : tx.data.toList ∈ opTexts) (x : Nd) (y : Nd) (IHx : NOf P x) (IHy : NOf P y) : NOf P ⟨⟨#[98, 105, 110, 97, 114, 121]⟩, tx, ad, cp, [x, y]⟩ := by
  intro W lo hi i v hT hhi hX
  obtain ⟨vs, hl, hn⟩ := hX
  obtain ⟨b, hb, hv⟩ : NodeAt W (Rng lo hi) P 5 tx [x.ntok, y.ntok] i _ vs v := hn
  obtain ⟨rfl, hblk⟩ := hv
  obtain ⟨ix, qx, cx, iy, qy, cy, rfl, hx, hy⟩ := exl2 hl
  have k0 : W.cell? ⟨b, 0, none⟩ = some (.iface qx (.pointer (some ⟨cx, 0, none⟩))) := hblk.cell 0
  have k2 : W.cell? ⟨b, 2, none⟩ = some (int (opNo tx)) := hblk.cell 2
  have k3 : W.cell? ⟨b, 3, none⟩ = some (.iface qy (.pointer (some ⟨cy, 0, none⟩))) := hblk.cell 3
  have hblt := hblk.lt
  have N0 := Lib.hid (NAt.start W)
  have HT := Lib.hid hT
  have Hx := Lib.hid hx
  have Ix := Lib.hid IHx
  have Hy := Lib.hid hy
  have Iy := Lib.hid IHy
  have HOP := Lib.hid hop
  show Calls _ _ #[.iface 128 (.pointer (some ⟨b, 0, none⟩))] W _
  clear hT hl hblk hb hx IHx hy IHy hop
  go_enter Tryz.func45, Tryz.ntmps45
  have t0 := as_BinaryExpr_Ident
  have t1 := as_BinaryExpr_BasicLit
  have t2 := as_BinaryExpr_ParenExpr
  have t3 := as_BinaryExpr_UnaryExpr
  have t4 := as_BinaryExpr_StarExpr
  have t5 := as_BinaryExpr_BinaryExpr
  go_wp2_with fail
  go_region_held3 (fun w' => w'.cell? ⟨b, 0, none⟩ = some (.iface qx (.pointer (some ⟨cx, 0, none⟩))) ∧ w'.cell? ⟨b, 2, none⟩ = some (int (opNo tx)) ∧ w'.cell? ⟨b, 3, none⟩ = some (.iface qy (.pointer (some ⟨cy, 0, none⟩)))) (first | with_reducible exact ⟨N1.out.kept3 hblt k0, N1.out.kept3 hblt k2, N1.out.kept3 hblt k3⟩ | with_reducible exact ⟨N1.out.kept hblt k0, N1.out.kept hblt k2, N1.out.kept hblt k3⟩ | with_reducible exact ⟨(N0.out.alloc _).drew.kept hblt k0, (N0.out.alloc _).drew.kept hblt k2, (N0.out.alloc _).drew.kept hblt k3⟩ | with_reducible exact ⟨N0.out.drew.kept hblt k0, N0.out.drew.kept hblt k2, N0.out.drew.kept hblt k3⟩ | exact ⟨N0.out.drew.kept hblt k0, N0.out.drew.kept hblt k2, N0.out.drew.kept hblt k3⟩) (first | (go_at_call 62; refine (op_at tx HOP.out _ (NAt.tok (by first | with_reducible exact N1.out | with_reducible exact (N0.out.alloc _).drew | exact N0.out.drew) HT.out)).mono ?_; rintro e w2 ⟨rfl, rfl⟩) | (go_at_call 61; refine (nodes_at N0.out.drew HT.out [x, y] (by simpa using And.intro Ix.out Iy.out) [.iface qx (.pointer (some ⟨cx, 0, none⟩)), .iface qy (.pointer (some ⟨cy, 0, none⟩))] hhi (.take Hx.out (.take Hy.out .nil)) (by simp) _ rfl _ rfl _ (by first | rfl | simp)).mono ?_; rintro e w1 ⟨A, cap, ms, rfl, hin, hsm, hN, hbl⟩; have N1 := Lib.hid hN; have HI := Lib.hid hin; have HS := Lib.hid hsm; have hz := N1.out.size; clear hin hsm hbl hN; have r0 := N1.out.c0; have f0 := N1.out.frozen 0; have r1 := N1.out.c1; have f1 := N1.out.frozen 1; have r2 := N1.out.c2; have f2 := N1.out.frozen 2))
  all_goals try go_wp2_with fail
  all_goals exact node_end N1.out HI.out (by first | (simp; done) | (simp; omega) | omega) HS.out (by rfl) (by rfl)
end Go.Proofs.YtjbhjbpamnoebaaGreatFmt
