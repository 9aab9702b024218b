/-
  impl.node: calls.
  impl.node: calls with dots.
-/
import Derived.Test.YtjbhjbpamnoebaaGreatFmtK10
namespace Go.Proofs.YtjbhjbpamnoebaaGreatFmt
open Go.RowKit

set_option maxHeartbeats 4000000 in
set_option maxRecDepth 100000 in
theorem node_call (P : Nat → Int) (ad : Option Addr) (cp : Nat) (f : Nd) (IHf : NOf P f) (ks : List Nd) (IH : ∀ k ∈ ks, NOf P k) (hlen : ks.length ≤ 400) : NOf P ⟨⟨#[99, 97, 108, 108]⟩, ⟨#[]⟩, ad, cp, f :: ks⟩ := by
  intro W lo hi i v hT hhi hX
  obtain ⟨vs, hl, hn⟩ := hX
  obtain ⟨b, hb, hv⟩ : NodeAt W (Rng lo hi) P 12 ⟨#[]⟩ ((f :: ks).map Nd.ntok) i _ vs v := hn
  obtain ⟨rfl, sv, hsl, hblk⟩ := hv
  obtain ⟨ix, is', qx, cx, va, rfl, hx, hla⟩ := exl_cons hl
  replace hsl : SlAt W (Rng lo hi) sv va := hsl
  have hnl := NL.of hla
  have hva : va.length ≤ 401 := by have := hla.len; omega
  obtain ⟨A0, n0, c0, rfl⟩ := hsl.form
  have k0 : W.cell? ⟨b, 0, none⟩ = some (.iface qx (.pointer (some ⟨cx, 0, none⟩))) := hblk.cell 0
  have k2 : W.cell? ⟨b, 2, none⟩ = some (.slice A0 n0 c0) := hblk.cell 2
  have k3 : W.cell? ⟨b, 3, none⟩ = some (int 0) := hblk.cell 3
  have hblt := hblk.lt
  have N0 := Lib.hid (NAt.start W)
  have HT := Lib.hid hT
  have Hx := Lib.hid hx
  have Ix := Lib.hid IHf
  have HN := Lib.hid hnl
  have HSL := Lib.hid hsl
  have I := Lib.hid IH
  show Calls _ _ #[.iface 118 (.pointer (some ⟨b, 0, none⟩))] W _
  clear hT hl hla hblk hb hnl hsl IH hx IHf
  go_enter Tryz.func45, Tryz.ntmps45
  have t0 := as_CallExpr_Ident
  have t1 := as_CallExpr_BasicLit
  have t2 := as_CallExpr_ParenExpr
  have t3 := as_CallExpr_UnaryExpr
  have t4 := as_CallExpr_StarExpr
  have t5 := as_CallExpr_BinaryExpr
  have t6 := as_CallExpr_SelectorExpr
  have t7 := as_CallExpr_IndexExpr
  have t8 := as_CallExpr_IndexListExpr
  have t9 := as_CallExpr_SliceExpr
  have t10 := as_CallExpr_CallExpr
  go_wp2_with fail
  go_region_held3 (fun w' => w'.cell? ⟨b, 0, none⟩ = some (.iface qx (.pointer (some ⟨cx, 0, none⟩))) ∧ w'.cell? ⟨b, 2, none⟩ = some (.slice A0 n0 c0) ∧ w'.cell? ⟨b, 3, none⟩ = some (int 0)) (first | with_reducible exact ⟨(((N3.out.far hz3 _).far hz3 _).far hz3 _).kept hblt k0, (((N3.out.far hz3 _).far hz3 _).far hz3 _).kept hblt k2, (((N3.out.far hz3 _).far hz3 _).far hz3 _).kept hblt k3⟩ | with_reducible exact ⟨(N3.out.alloc _).kept hblt k0, (N3.out.alloc _).kept hblt k2, (N3.out.alloc _).kept hblt k3⟩ | with_reducible exact ⟨N3.out.kept hblt k0, N3.out.kept hblt k2, N3.out.kept hblt k3⟩ | with_reducible exact ⟨(N2.out.alloc _).kept hblt k0, (N2.out.alloc _).kept hblt k2, (N2.out.alloc _).kept hblt k3⟩ | with_reducible exact ⟨N2.out.kept hblt k0, N2.out.kept hblt k2, N2.out.kept hblt k3⟩ | with_reducible exact ⟨(N1.out.alloc _).kept hblt k0, (N1.out.alloc _).kept hblt k2, (N1.out.alloc _).kept hblt k3⟩ | with_reducible exact ⟨N1.out.kept hblt k0, N1.out.kept hblt k2, N1.out.kept hblt k3⟩ | with_reducible exact ⟨((N0.out.alloc _).alloc _).drew.kept hblt k0, ((N0.out.alloc _).alloc _).drew.kept hblt k2, ((N0.out.alloc _).alloc _).drew.kept hblt k3⟩ | with_reducible exact ⟨(N0.out.alloc _).drew.kept hblt k0, (N0.out.alloc _).drew.kept hblt k2, (N0.out.alloc _).drew.kept hblt k3⟩ | with_reducible exact ⟨N0.out.drew.kept hblt k0, N0.out.drew.kept hblt k2, N0.out.drew.kept hblt k3⟩ | exact ⟨N0.out.drew.kept hblt k0, N0.out.drew.kept hblt k2, N0.out.drew.kept hblt k3⟩) (first | (have gd := N1.out.size; clear gd; go_at_call 61; refine (nodes_more (by first | with_reducible exact N1.out | exact N1.out.alloc _) HT.out ks I.out va hhi HN.out hva HSL.out _ _ _ rfl).mono ?_; rintro e w2 ⟨A2, d2, ms2, rfl, hs2, hN2, hL2⟩; have N2 := Lib.hid hN2; have S2 := Lib.hid hs2; have L2 := Lib.hid hL2; clear hs2 hN2 hL2) | (go_at_call 61; refine (nodes_row (P := P) (lo := lo) (by first | with_reducible exact (N0.out.alloc _).drew | exact ((N0.out.alloc _).alloc _).drew) HT.out [f] (by simpa using Ix.out) [.iface qx (.pointer (some ⟨cx, 0, none⟩))] hhi (.take Hx.out .nil) (by simp) _ rfl _ (by first | exact blk_a _ _ _ _ | exact blk_b _ _ _ _ _ | exact blk_c _ _ _ _ _)).mono ?_; rintro e w1 ⟨A1, d1, ms1, rfl, hs1, hN1, hL1⟩; have N1 := Lib.hid hN1; have S1 := Lib.hid hs1; have L1 := Lib.hid hL1; clear hs1 hN1 hL1) | (have gd := L2.out.2.1.size; clear gd; refine step_AE rfl _ _ rfl rfl rfl (by first | with_reducible exact (N0.out.alloc _).drew | exact ((N0.out.alloc _).alloc _).drew) L1.out (Below.refl _ _) L2.out (Below.al _ _) (.inr (.inr ⟨rfl, by rw [World.size_alloc]; omega⟩)) (Blk.new _ _ _) (by have := sameL_len S1.out; simp only [List.length_cons, List.length_nil] at this; omega) (by have := sameL_len S2.out; omega) ?_; intro v3 w3 hE3; have E3 := Lib.hid hE3; obtain ⟨A3, d3, rfl⟩ := hE3.form; have N3 := Lib.hid hE3.1; have hz3 := hE3.2.1; have e0 := hE3.2.2.1.z0; have e1 := hE3.2.2.1.z1; have e2 := hE3.2.2.1.z2; have g0 := hE3.2.2.1.frozen 0; have g1 := hE3.2.2.1.frozen 1; have g2 := hE3.2.2.1.frozen 2; clear hE3) | (have gd := L2.out.2.1.size; clear gd; refine step_AE rfl _ _ rfl rfl rfl (by first | with_reducible exact (N0.out.alloc _).drew | exact ((N0.out.alloc _).alloc _).drew) L1.out (Below.al _ _) L2.out (Below.refl _ _) (.inr (.inl ⟨rfl, by rw [World.size_alloc]; omega⟩)) ((Blk.new w1 24 zcs).below L2.out.2.1 (by rw [World.size_alloc]; omega)) (by have := sameL_len S1.out; simp only [List.length_cons, List.length_nil] at this; omega) (by have := sameL_len S2.out; omega) ?_; intro v3 w3 hE3; have E3 := Lib.hid hE3; obtain ⟨A3, d3, rfl⟩ := hE3.form; have N3 := Lib.hid hE3.1; have hz3 := hE3.2.1; have e0 := hE3.2.2.1.z0; have e1 := hE3.2.2.1.z1; have e2 := hE3.2.2.1.z2; have g0 := hE3.2.2.1.frozen 0; have g1 := hE3.2.2.1.frozen 1; have g2 := hE3.2.2.1.frozen 2; clear hE3) | (have gd := L2.out.2.1.size; clear gd; refine step_AE rfl _ _ rfl rfl rfl (((N0.out.alloc (.cells zcs 24)).alloc (.cells #[.iface qx (.pointer (some ⟨cx, 0, none⟩))] 44)).drew) L1.out (Below.refl _ _) L2.out (Below.refl _ _) (E := W.heap.size + 1) (.inl ⟨Nat.le_refl _, by show _ < (World.alloc _ _).heap.size; rw [World.size_alloc, World.size_alloc, World.size_alloc]; omega⟩) (((zblk_b W _ _ _).below L1.out.2.1 (by show _ < (World.alloc _ _).heap.size; rw [World.size_alloc, World.size_alloc, World.size_alloc]; omega)).below L2.out.2.1 (by have := L1.out.2.1.size; have h9 : ((World.alloc _ _).heap.size ≤ w1.heap.size) := this; rw [World.size_alloc, World.size_alloc, World.size_alloc] at h9; omega)) (by have := sameL_len S1.out; simp only [List.length_cons, List.length_nil] at this; omega) (by have := sameL_len S2.out; omega) ?_; intro v3 w3 hE3; have E3 := Lib.hid hE3; obtain ⟨A3, d3, rfl⟩ := hE3.form; have N3 := Lib.hid hE3.1; have hz3 := hE3.2.1; have e0 := hE3.2.2.1.z0; have e1 := hE3.2.2.1.z1; have e2 := hE3.2.2.1.z2; have g0 := hE3.2.2.1.frozen 0; have g1 := hE3.2.2.1.frozen 1; have g2 := hE3.2.2.1.frozen 2; clear hE3) | (have gd := L2.out.2.1.size; clear gd; refine step_AE rfl _ _ rfl rfl rfl (((N0.out.alloc (.cells #[.iface qx (.pointer (some ⟨cx, 0, none⟩))] 44)).alloc (.cells zcs 24)).drew) L1.out (Below.refl _ _) L2.out (Below.refl _ _) (E := W.heap.size + 1 + 1) (.inl ⟨by omega, by show _ < (World.alloc _ _).heap.size; rw [World.size_alloc, World.size_alloc, World.size_alloc]; omega⟩) (((zblk_c W _ _ _).below L1.out.2.1 (by show _ < (World.alloc _ _).heap.size; rw [World.size_alloc, World.size_alloc, World.size_alloc]; omega)).below L2.out.2.1 (by have := L1.out.2.1.size; have h9 : ((World.alloc _ _).heap.size ≤ w1.heap.size) := this; rw [World.size_alloc, World.size_alloc, World.size_alloc] at h9; omega)) (by have := sameL_len S1.out; simp only [List.length_cons, List.length_nil] at this; omega) (by have := sameL_len S2.out; omega) ?_; intro v3 w3 hE3; have E3 := Lib.hid hE3; obtain ⟨A3, d3, rfl⟩ := hE3.form; have N3 := Lib.hid hE3.1; have hz3 := hE3.2.1; have e0 := hE3.2.2.1.z0; have e1 := hE3.2.2.1.z1; have e2 := hE3.2.2.1.z2; have g0 := hE3.2.2.1.frozen 0; have g1 := hE3.2.2.1.frozen 1; have g2 := hE3.2.2.1.frozen 2; clear hE3) | (have gd := L2.out.2.1.size; clear gd; refine step_AE5 rfl _ _ rfl rfl rfl (by exact (N0.out.alloc _).drew) L1.out L2.out (by have := sameL_len S1.out; simp only [List.length_cons, List.length_nil] at this; omega) (by have := sameL_len S2.out; omega) ?_; intro v3 w3 hE3; have E3 := Lib.hid hE3; obtain ⟨A3, d3, rfl⟩ := AE5.form hE3; have N3 := Lib.hid hE3.1; clear hE3))
  all_goals first | have F := Lib.hid (AF.of (kd := ⟨#[99, 97, 108, 108]⟩) (tx := ⟨#[]⟩) E3.out) | have F := Lib.hid (AF.of5 (kd := ⟨#[99, 97, 108, 108]⟩) (tx := ⟨#[]⟩) E3.out)
  all_goals (have r0 := F.out.1.c0; have r1 := F.out.1.c1; have r2 := F.out.1.c2; have f0 := F.out.1.frozen 0; have f1 := F.out.1.frozen 1; have f2 := F.out.1.frozen 2; have q0 := F.out.e0; have q1 := F.out.e1; have q2 := F.out.e2; have qf := F.out.2.2.1.frozen 1)
  all_goals have p0 := F.out.1.kept hblt k0
  all_goals have p3 := F.out.1.kept hblt k3
  all_goals try clear e0 e1 e2 g0 g1 g2
  all_goals clear L1 L2 N1 N2
  all_goals (have n0 := N3.out.c0; have n1 := N3.out.c1; have n2 := N3.out.c2; have m0 := N3.out.frozen 0; have m1 := N3.out.frozen 1; have m2 := N3.out.frozen 2; have hz4 := N3.out.size)
  all_goals go_wp2_with fail
  all_goals refine (valid_0 _).mono ?_
  all_goals rintro e w4 ⟨rfl, rfl⟩
  all_goals go_wp2_with fail
  all_goals exact F.out.end_ (by simp) (sameL_append S1.out S2.out) (by rfl) (by rfl)
end Go.Proofs.YtjbhjbpamnoebaaGreatFmt

namespace Go.Proofs.YtjbhjbpamnoebaaGreatFmt
open Go.RowKit

set_option maxHeartbeats 4000000 in
set_option maxRecDepth 100000 in
theorem node_calld (P : Nat → Int) (hP : ∀ j, P j ≠ 0) (ad : Option Addr) (cp : Nat) (f : Nd) (IHf : NOf P f) (ks : List Nd) (IH : ∀ k ∈ ks, NOf P k) (hlen : ks.length ≤ 400) : NOf P ⟨⟨#[99, 97, 108, 108]⟩, ⟨#[46, 46, 46]⟩, ad, cp, f :: ks⟩ := by
  intro W lo hi i v hT hhi hX
  obtain ⟨vs, hl, hn⟩ := hX
  obtain ⟨b, hb, hv⟩ : NodeAt W (Rng lo hi) P 12 ⟨#[46, 46, 46]⟩ ((f :: ks).map Nd.ntok) i _ vs v := hn
  obtain ⟨rfl, sv, hsl, hblk⟩ := hv
  obtain ⟨ix, is', qx, cx, va, rfl, hx, hla⟩ := exl_cons hl
  replace hsl : SlAt W (Rng lo hi) sv va := hsl
  have hnl := NL.of hla
  have hva : va.length ≤ 401 := by have := hla.len; omega
  obtain ⟨A0, n0, c0, rfl⟩ := hsl.form
  have k0 : W.cell? ⟨b, 0, none⟩ = some (.iface qx (.pointer (some ⟨cx, 0, none⟩))) := hblk.cell 0
  have k2 : W.cell? ⟨b, 2, none⟩ = some (.slice A0 n0 c0) := hblk.cell 2
  have k3 : W.cell? ⟨b, 3, none⟩ = some (int (P (i + (ownTok 12 ⟨#[46, 46, 46]⟩ (f :: ks).length + ntokL (f :: ks)) - 2))) := hblk.cell 3
  have hblt := hblk.lt
  have N0 := Lib.hid (NAt.start W)
  have HT := Lib.hid hT
  have Hx := Lib.hid hx
  have Ix := Lib.hid IHf
  have HN := Lib.hid hnl
  have HSL := Lib.hid hsl
  have I := Lib.hid IH
  have hP' := hP (i + (ownTok 12 ⟨#[46, 46, 46]⟩ (f :: ks).length + ntokL (f :: ks)) - 2)
  show Calls _ _ #[.iface 118 (.pointer (some ⟨b, 0, none⟩))] W _
  clear hT hl hla hblk hb hnl hsl IH hx IHf hP
  go_enter Tryz.func45, Tryz.ntmps45
  have t0 := as_CallExpr_Ident
  have t1 := as_CallExpr_BasicLit
  have t2 := as_CallExpr_ParenExpr
  have t3 := as_CallExpr_UnaryExpr
  have t4 := as_CallExpr_StarExpr
  have t5 := as_CallExpr_BinaryExpr
  have t6 := as_CallExpr_SelectorExpr
  have t7 := as_CallExpr_IndexExpr
  have t8 := as_CallExpr_IndexListExpr
  have t9 := as_CallExpr_SliceExpr
  have t10 := as_CallExpr_CallExpr
  go_wp2_with fail
  go_region_held3 (fun w' => w'.cell? ⟨b, 0, none⟩ = some (.iface qx (.pointer (some ⟨cx, 0, none⟩))) ∧ w'.cell? ⟨b, 2, none⟩ = some (.slice A0 n0 c0) ∧ w'.cell? ⟨b, 3, none⟩ = some (int (P (i + (ownTok 12 ⟨#[46, 46, 46]⟩ (f :: ks).length + ntokL (f :: ks)) - 2)))) (first | with_reducible exact ⟨(((N3.out.far hz3 _).far hz3 _).far hz3 _).kept hblt k0, (((N3.out.far hz3 _).far hz3 _).far hz3 _).kept hblt k2, (((N3.out.far hz3 _).far hz3 _).far hz3 _).kept hblt k3⟩ | with_reducible exact ⟨(N3.out.alloc _).kept hblt k0, (N3.out.alloc _).kept hblt k2, (N3.out.alloc _).kept hblt k3⟩ | with_reducible exact ⟨N3.out.kept hblt k0, N3.out.kept hblt k2, N3.out.kept hblt k3⟩ | with_reducible exact ⟨(N2.out.alloc _).kept hblt k0, (N2.out.alloc _).kept hblt k2, (N2.out.alloc _).kept hblt k3⟩ | with_reducible exact ⟨N2.out.kept hblt k0, N2.out.kept hblt k2, N2.out.kept hblt k3⟩ | with_reducible exact ⟨(N1.out.alloc _).kept hblt k0, (N1.out.alloc _).kept hblt k2, (N1.out.alloc _).kept hblt k3⟩ | with_reducible exact ⟨N1.out.kept hblt k0, N1.out.kept hblt k2, N1.out.kept hblt k3⟩ | with_reducible exact ⟨((N0.out.alloc _).alloc _).drew.kept hblt k0, ((N0.out.alloc _).alloc _).drew.kept hblt k2, ((N0.out.alloc _).alloc _).drew.kept hblt k3⟩ | with_reducible exact ⟨(N0.out.alloc _).drew.kept hblt k0, (N0.out.alloc _).drew.kept hblt k2, (N0.out.alloc _).drew.kept hblt k3⟩ | with_reducible exact ⟨N0.out.drew.kept hblt k0, N0.out.drew.kept hblt k2, N0.out.drew.kept hblt k3⟩ | exact ⟨N0.out.drew.kept hblt k0, N0.out.drew.kept hblt k2, N0.out.drew.kept hblt k3⟩) (first | (have gd := N1.out.size; clear gd; go_at_call 61; refine (nodes_more (by first | with_reducible exact N1.out | exact N1.out.alloc _) HT.out ks I.out va hhi HN.out hva HSL.out _ _ _ rfl).mono ?_; rintro e w2 ⟨A2, d2, ms2, rfl, hs2, hN2, hL2⟩; have N2 := Lib.hid hN2; have S2 := Lib.hid hs2; have L2 := Lib.hid hL2; clear hs2 hN2 hL2) | (go_at_call 61; refine (nodes_row (P := P) (lo := lo) (by first | with_reducible exact (N0.out.alloc _).drew | exact ((N0.out.alloc _).alloc _).drew) HT.out [f] (by simpa using Ix.out) [.iface qx (.pointer (some ⟨cx, 0, none⟩))] hhi (.take Hx.out .nil) (by simp) _ rfl _ (by first | exact blk_a _ _ _ _ | exact blk_b _ _ _ _ _ | exact blk_c _ _ _ _ _)).mono ?_; rintro e w1 ⟨A1, d1, ms1, rfl, hs1, hN1, hL1⟩; have N1 := Lib.hid hN1; have S1 := Lib.hid hs1; have L1 := Lib.hid hL1; clear hs1 hN1 hL1) | (have gd := L2.out.2.1.size; clear gd; refine step_AE rfl _ _ rfl rfl rfl (by first | with_reducible exact (N0.out.alloc _).drew | exact ((N0.out.alloc _).alloc _).drew) L1.out (Below.refl _ _) L2.out (Below.al _ _) (.inr (.inr ⟨rfl, by rw [World.size_alloc]; omega⟩)) (Blk.new _ _ _) (by have := sameL_len S1.out; simp only [List.length_cons, List.length_nil] at this; omega) (by have := sameL_len S2.out; omega) ?_; intro v3 w3 hE3; have E3 := Lib.hid hE3; obtain ⟨A3, d3, rfl⟩ := hE3.form; have N3 := Lib.hid hE3.1; have hz3 := hE3.2.1; have e0 := hE3.2.2.1.z0; have e1 := hE3.2.2.1.z1; have e2 := hE3.2.2.1.z2; have g0 := hE3.2.2.1.frozen 0; have g1 := hE3.2.2.1.frozen 1; have g2 := hE3.2.2.1.frozen 2; clear hE3) | (have gd := L2.out.2.1.size; clear gd; refine step_AE rfl _ _ rfl rfl rfl (by first | with_reducible exact (N0.out.alloc _).drew | exact ((N0.out.alloc _).alloc _).drew) L1.out (Below.al _ _) L2.out (Below.refl _ _) (.inr (.inl ⟨rfl, by rw [World.size_alloc]; omega⟩)) ((Blk.new w1 24 zcs).below L2.out.2.1 (by rw [World.size_alloc]; omega)) (by have := sameL_len S1.out; simp only [List.length_cons, List.length_nil] at this; omega) (by have := sameL_len S2.out; omega) ?_; intro v3 w3 hE3; have E3 := Lib.hid hE3; obtain ⟨A3, d3, rfl⟩ := hE3.form; have N3 := Lib.hid hE3.1; have hz3 := hE3.2.1; have e0 := hE3.2.2.1.z0; have e1 := hE3.2.2.1.z1; have e2 := hE3.2.2.1.z2; have g0 := hE3.2.2.1.frozen 0; have g1 := hE3.2.2.1.frozen 1; have g2 := hE3.2.2.1.frozen 2; clear hE3) | (have gd := L2.out.2.1.size; clear gd; refine step_AE rfl _ _ rfl rfl rfl (((N0.out.alloc (.cells zcs 24)).alloc (.cells #[.iface qx (.pointer (some ⟨cx, 0, none⟩))] 44)).drew) L1.out (Below.refl _ _) L2.out (Below.refl _ _) (E := W.heap.size + 1) (.inl ⟨Nat.le_refl _, by show _ < (World.alloc _ _).heap.size; rw [World.size_alloc, World.size_alloc, World.size_alloc]; omega⟩) (((zblk_b W _ _ _).below L1.out.2.1 (by show _ < (World.alloc _ _).heap.size; rw [World.size_alloc, World.size_alloc, World.size_alloc]; omega)).below L2.out.2.1 (by have := L1.out.2.1.size; have h9 : ((World.alloc _ _).heap.size ≤ w1.heap.size) := this; rw [World.size_alloc, World.size_alloc, World.size_alloc] at h9; omega)) (by have := sameL_len S1.out; simp only [List.length_cons, List.length_nil] at this; omega) (by have := sameL_len S2.out; omega) ?_; intro v3 w3 hE3; have E3 := Lib.hid hE3; obtain ⟨A3, d3, rfl⟩ := hE3.form; have N3 := Lib.hid hE3.1; have hz3 := hE3.2.1; have e0 := hE3.2.2.1.z0; have e1 := hE3.2.2.1.z1; have e2 := hE3.2.2.1.z2; have g0 := hE3.2.2.1.frozen 0; have g1 := hE3.2.2.1.frozen 1; have g2 := hE3.2.2.1.frozen 2; clear hE3) | (have gd := L2.out.2.1.size; clear gd; refine step_AE rfl _ _ rfl rfl rfl (((N0.out.alloc (.cells #[.iface qx (.pointer (some ⟨cx, 0, none⟩))] 44)).alloc (.cells zcs 24)).drew) L1.out (Below.refl _ _) L2.out (Below.refl _ _) (E := W.heap.size + 1 + 1) (.inl ⟨by omega, by show _ < (World.alloc _ _).heap.size; rw [World.size_alloc, World.size_alloc, World.size_alloc]; omega⟩) (((zblk_c W _ _ _).below L1.out.2.1 (by show _ < (World.alloc _ _).heap.size; rw [World.size_alloc, World.size_alloc, World.size_alloc]; omega)).below L2.out.2.1 (by have := L1.out.2.1.size; have h9 : ((World.alloc _ _).heap.size ≤ w1.heap.size) := this; rw [World.size_alloc, World.size_alloc, World.size_alloc] at h9; omega)) (by have := sameL_len S1.out; simp only [List.length_cons, List.length_nil] at this; omega) (by have := sameL_len S2.out; omega) ?_; intro v3 w3 hE3; have E3 := Lib.hid hE3; obtain ⟨A3, d3, rfl⟩ := hE3.form; have N3 := Lib.hid hE3.1; have hz3 := hE3.2.1; have e0 := hE3.2.2.1.z0; have e1 := hE3.2.2.1.z1; have e2 := hE3.2.2.1.z2; have g0 := hE3.2.2.1.frozen 0; have g1 := hE3.2.2.1.frozen 1; have g2 := hE3.2.2.1.frozen 2; clear hE3) | (have gd := L2.out.2.1.size; clear gd; refine step_AE5 rfl _ _ rfl rfl rfl (by exact (N0.out.alloc _).drew) L1.out L2.out (by have := sameL_len S1.out; simp only [List.length_cons, List.length_nil] at this; omega) (by have := sameL_len S2.out; omega) ?_; intro v3 w3 hE3; have E3 := Lib.hid hE3; obtain ⟨A3, d3, rfl⟩ := AE5.form hE3; have N3 := Lib.hid hE3.1; clear hE3))
  all_goals first | have F := Lib.hid (AF.of (kd := ⟨#[99, 97, 108, 108]⟩) (tx := ⟨#[]⟩) E3.out) | have F := Lib.hid (AF.of5 (kd := ⟨#[99, 97, 108, 108]⟩) (tx := ⟨#[]⟩) E3.out)
  all_goals (have r0 := F.out.1.c0; have r1 := F.out.1.c1; have r2 := F.out.1.c2; have f0 := F.out.1.frozen 0; have f1 := F.out.1.frozen 1; have f2 := F.out.1.frozen 2; have q0 := F.out.e0; have q1 := F.out.e1; have q2 := F.out.e2; have qf := F.out.2.2.1.frozen 1)
  all_goals have p0 := F.out.1.kept hblt k0
  all_goals have p3 := F.out.1.kept hblt k3
  all_goals try clear e0 e1 e2 g0 g1 g2
  all_goals clear L1 L2 N1 N2
  all_goals (have n0 := N3.out.c0; have n1 := N3.out.c1; have n2 := N3.out.c2; have m0 := N3.out.frozen 0; have m1 := N3.out.frozen 1; have m2 := N3.out.frozen 2; have hz4 := N3.out.size)
  all_goals go_wp2_with fail
  all_goals refine (valid_p _ hP' _).mono ?_
  all_goals rintro e w4 ⟨rfl, rfl⟩
  all_goals try (have G := Lib.hid (AF.of5 (kd := ⟨#[99, 97, 108, 108]⟩) (tx := ⟨#[46, 46, 46]⟩) E3.out); have h0 := G.out.1.c0; have h1 := G.out.1.c1; have h2 := G.out.1.c2; have h3 := G.out.1.frozen 0; have h4 := G.out.1.frozen 1; have h5 := G.out.1.frozen 2)
  all_goals go_wp2_with fail
  all_goals have SS : sameL (f :: ks) (ms1 ++ ms2) = true := sameL_append S1.out S2.out
  all_goals have hle : (ms1 ++ ms2).length = ms1.length + ms2.length := List.length_append
  all_goals first | with_reducible refine (F.out.text ⟨#[46, 46, 46]⟩).end_ hle SS ?_ ?_ | with_reducible refine (AF.of (kd := ⟨#[99, 97, 108, 108]⟩) (tx := ⟨#[46, 46, 46]⟩) E3.out).end_ hle SS ?_ ?_ | with_reducible refine (AF.of5 (kd := ⟨#[99, 97, 108, 108]⟩) (tx := ⟨#[46, 46, 46]⟩) E3.out).end_ hle SS ?_ ?_
  all_goals rfl
end Go.Proofs.YtjbhjbpamnoebaaGreatFmt
