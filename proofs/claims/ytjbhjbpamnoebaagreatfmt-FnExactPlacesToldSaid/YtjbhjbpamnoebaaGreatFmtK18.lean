/-
  ast.Walk: slices.
  ast.Walk: slices with three ends.
  ast.Walk: calls and composite literals.
-/
import Derived.Test.YtjbhjbpamnoebaaGreatFmtK16
namespace Go.Proofs.YtjbhjbpamnoebaaGreatFmt
open Go.RowKit

section
variable {lo hi : Nat} {P : Nat → Int} {go : List Ev → Bool} {Vt : TypeId} {pay rc : Nat → Value} {fV : FuncId} {Out : List Ev → List (Nd × Nat) → World → Prop}
set_option maxHeartbeats 2000000 in
set_option maxRecDepth 100000 in
theorem wk_slice_e (hV : VS lo hi P go Vt pay rc fV Out) (ad : Option Addr) (cp : Nat) (x : Nd) (IHx : WOf lo hi P go Vt pay Out x) (hsh : Nd.shapedB ⟨⟨#[115, 108, 105, 99, 101]⟩, ⟨#[]⟩, ad, cp, [x]⟩ = true) (hsz : Nd.size ⟨⟨#[115, 108, 105, 99, 101]⟩, ⟨#[]⟩, ad, cp, [x]⟩ ≤ 400) : WOf lo hi P go Vt pay Out ⟨⟨#[115, 108, 105, 99, 101]⟩, ⟨#[]⟩, ad, cp, [x]⟩ := by
  intro d out W i v hbd ho hh hX
  have HX0 := Lib.hid (And.intro ho hX)
  obtain ⟨vs, hl, hn⟩ := hX
  obtain ⟨IS, hIS⟩ : ∃ IS, starts (kcode (⟨#[115, 108, 105, 99, 101]⟩ : ByteArray)) ⟨#[]⟩ (List.map Nd.ntok ([x])) i = IS := ⟨_, rfl⟩
  replace hl : ExL W (Rng lo hi) P IS ([x]) vs := hIS ▸ hl
  obtain ⟨b, hb, hv⟩ : NodeAt W (Rng lo hi) P 11 ⟨#[]⟩ (List.map Nd.ntok ([x])) i _ vs v := hn
  obtain ⟨rfl, hblk⟩ := hv
  obtain ⟨ix, isx, qx, cx, vx, rfl, rfl, hx, hlx⟩ := exl_cons' hl
  obtain rfl := exl_nil hlx
  have k0 : W.cell? ⟨b, 0, none⟩ = some (.iface qx (.pointer (some ⟨cx, 0, none⟩))) := hblk.cell 0
  have k2 : W.cell? ⟨b, 2, none⟩ = some (.nilIface) := hblk.cell 2
  have k3 : W.cell? ⟨b, 3, none⟩ = some (.nilIface) := hblk.cell 3
  have k4 : W.cell? ⟨b, 4, none⟩ = some (.nilIface) := hblk.cell 4
  have HB := Lib.hid hb
  have HV := Lib.hid hV
  have hm := hV.meth
  have hent := hV.ent
  have Hx := Lib.hid hx
  have Ix := Lib.hid IHx
  show Calls _ _ #[.iface Vt (pay d.length), .iface 112 (.pointer (some ⟨b, 0, none⟩))] W _
  have HIS := Lib.hid hIS
  obtain ⟨d1, hd1⟩ : ∃ d1, d1 = d ++ [((⟨⟨#[115, 108, 105, 99, 101]⟩, ⟨#[]⟩, ad, cp, [x]⟩ : Nd), i)] := ⟨_, rfl⟩
  obtain ⟨o1, ho1⟩ : ∃ o1, o1 = out ++ [((some ((⟨⟨#[115, 108, 105, 99, 101]⟩, ⟨#[]⟩, ad, cp, [x]⟩ : Nd), i), d) : Ev)] := ⟨_, rfl⟩
  have hdl : d1.length ≤ d.length + 1 := by rw [hd1]; simp
  have hol : out.length + 1 ≤ o1.length := by rw [ho1]; simp
  have HD := Lib.hid (And.intro hd1 ho1)
  clear ho hblk hb hV hx IHx hl hlx hIS hd1 ho1
  go_enter Tryz.func18, Tryz.ntmps18
  have t0 := nd_SliceExpr_Comment
  have t1 := nd_SliceExpr_CommentGroup
  have t2 := nd_SliceExpr_Field
  have t3 := nd_SliceExpr_FieldList
  have t4 := nd_SliceExpr_BadExpr
  have t5 := nd_SliceExpr_Ident
  have t6 := nd_SliceExpr_BasicLit
  have t7 := nd_SliceExpr_Ellipsis
  have t8 := nd_SliceExpr_FuncLit
  have t9 := nd_SliceExpr_CompositeLit
  have t10 := nd_SliceExpr_ParenExpr
  have t11 := nd_SliceExpr_SelectorExpr
  have t12 := nd_SliceExpr_IndexExpr
  have t13 := nd_SliceExpr_IndexListExpr
  have t14 := nd_SliceExpr_SliceExpr
  go_wp2_with fail
  refine (HV.out.node d out W i _ _ hsh hsz (by have := run_lt go (⟨⟨#[115, 108, 105, 99, 101]⟩, ⟨#[]⟩, ad, cp, [x]⟩) d i out; omega) HX0.out.1 hh HX0.out.2).mono ?_
  rintro e w0 ⟨he, hob, hk1⟩
  rw [← HD.out.1, ← HD.out.2] at he hob
  cases hst : go o1 ; rotate_left
  · rw [hst, if_pos rfl] at he hob
    subst he
    have S0 := Lib.hid (And.intro hob hk1)
    have he := Nd.run_go (n := ⟨⟨#[115, 108, 105, 99, 101]⟩, ⟨#[]⟩, ad, cp, [x]⟩) (i := i) HIS.out HD.out.1 HD.out.2 hst
    replace he : Nd.run go d i ⟨⟨#[115, 108, 105, 99, 101]⟩, ⟨#[]⟩, ad, cp, [x]⟩ out = selRun go d1 11 (i + (List.map Nd.ntok ([x])).getD 0 0 + 1) ⟨#[]⟩ (runL go d1 (ix :: isx) ([x]) o1) ++ [(none, d1)] := he
    rw [selRun_ne (by decide), runL_cons, runL_nil] at he
    obtain ⟨o2, hR2⟩ : ∃ o2, o2 = Nd.run go d1 ix x o1 := ⟨_, rfl⟩
    rw [← hR2] at he
    have hb2 : o1.length ≤ o2.length := by rw [hR2]; exact Nat.le_of_lt (run_lt go x d1 ix o1)
    have HR2 := Lib.hid hR2
    clear hR2
    have hb1 := hbd.1
    have hbz : o2.length + 1 ≤ 5000 := by have h := hbd.2; rw [he, List.length_append] at h; exact h
    have HE := Lib.hid he
    clear hob hk1 hst he
    have a0_0 : w0.cell? ⟨b, 0, none⟩ = some (.iface qx (.pointer (some ⟨cx, 0, none⟩))) := S0.out.2.cell HB.out k0
    have a0_2 : w0.cell? ⟨b, 2, none⟩ = some (.nilIface) := S0.out.2.cell HB.out k2
    have a0_3 : w0.cell? ⟨b, 3, none⟩ = some (.nilIface) := S0.out.2.cell HB.out k3
    have a0_4 : w0.cell? ⟨b, 4, none⟩ = some (.nilIface) := S0.out.2.cell HB.out k4
    go_wp2_with fail
    refine (Ix.out d1 _ w0 ix _ (by rw [← HR2.out]; omega) S0.out.1 (Nat.le_trans hh S0.out.2.1) (S0.out.2.ex Hx.out)).mono ?_
    rintro e w1 ⟨rfl, ho2, hk2⟩
    rw [← HR2.out] at ho2
    have S1 := Lib.hid (And.intro ho2 (S0.out.2.trans hk2))
    clear ho2 hk2 a0_0 a0_2 a0_3 a0_4
    have a1_0 : w1.cell? ⟨b, 0, none⟩ = some (.iface qx (.pointer (some ⟨cx, 0, none⟩))) := S1.out.2.cell HB.out k0
    have a1_2 : w1.cell? ⟨b, 2, none⟩ = some (.nilIface) := S1.out.2.cell HB.out k2
    have a1_3 : w1.cell? ⟨b, 3, none⟩ = some (.nilIface) := S1.out.2.cell HB.out k3
    have a1_4 : w1.cell? ⟨b, 4, none⟩ = some (.nilIface) := S1.out.2.cell HB.out k4
    go_wp2_with fail
    have hn0 := S1.out.1
    rw [HD.out.1] at hn0
    have hn1 := HV.out.nil d _ o2 w1 (by rw [← HD.out.1]; omega) hn0 (Nat.le_trans hh S1.out.2.1)
    rw [← HD.out.1] at hn1
    clear hn0
    refine hn1.mono ?_
    clear hn1
    rintro e wz ⟨⟨r, rfl⟩, ho2, hk2⟩
    have SZ := Lib.hid (And.intro ho2 (S1.out.2.trans hk2))
    clear ho2 hk2 a1_0 a1_2 a1_3 a1_4
    go_wp2_with fail
    (try simp only [Exit.inBlock, Exit.then])
    refine bodyPost_ret (results_none rfl _ _ _) rfl ⟨rfl, ?_, SZ.out.2⟩
    rw [HE.out]
    exact SZ.out.1
  · rw [hst, if_neg Bool.false_ne_true] at he hob
    subst he
    have S0 := Lib.hid (And.intro hob hk1)
    have HE := Lib.hid (Nd.run_stop HD.out.2 hst)
    clear hob hk1 hst
    go_wp2_with fail
    (try simp only [Exit.inBlock, Exit.then])
    refine bodyPost_ret (results_none rfl _ _ _) rfl ⟨rfl, ?_, S0.out.2⟩
    rw [HE.out]
    exact S0.out.1

set_option maxHeartbeats 2000000 in
set_option maxRecDepth 100000 in
theorem wk_slice_l (hV : VS lo hi P go Vt pay rc fV Out) (ad : Option Addr) (cp : Nat) (x : Nd) (y : Nd) (IHx : WOf lo hi P go Vt pay Out x) (IHy : WOf lo hi P go Vt pay Out y) (hsh : Nd.shapedB ⟨⟨#[115, 108, 105, 99, 101]⟩, ⟨#[108]⟩, ad, cp, [x, y]⟩ = true) (hsz : Nd.size ⟨⟨#[115, 108, 105, 99, 101]⟩, ⟨#[108]⟩, ad, cp, [x, y]⟩ ≤ 400) : WOf lo hi P go Vt pay Out ⟨⟨#[115, 108, 105, 99, 101]⟩, ⟨#[108]⟩, ad, cp, [x, y]⟩ := by
  intro d out W i v hbd ho hh hX
  have HX0 := Lib.hid (And.intro ho hX)
  obtain ⟨vs, hl, hn⟩ := hX
  obtain ⟨IS, hIS⟩ : ∃ IS, starts (kcode (⟨#[115, 108, 105, 99, 101]⟩ : ByteArray)) ⟨#[108]⟩ (List.map Nd.ntok ([x, y])) i = IS := ⟨_, rfl⟩
  replace hl : ExL W (Rng lo hi) P IS ([x, y]) vs := hIS ▸ hl
  obtain ⟨b, hb, hv⟩ : NodeAt W (Rng lo hi) P 11 ⟨#[108]⟩ (List.map Nd.ntok ([x, y])) i _ vs v := hn
  obtain ⟨rfl, hblk⟩ := hv
  obtain ⟨ix, isx, qx, cx, vx, rfl, rfl, hx, hlx⟩ := exl_cons' hl
  obtain ⟨iy, isy, qy, cy, vy, rfl, rfl, hy, hly⟩ := exl_cons' hlx
  obtain rfl := exl_nil hly
  have k0 : W.cell? ⟨b, 0, none⟩ = some (.iface qx (.pointer (some ⟨cx, 0, none⟩))) := hblk.cell 0
  have k2 : W.cell? ⟨b, 2, none⟩ = some (.iface qy (.pointer (some ⟨cy, 0, none⟩))) := hblk.cell 2
  have k3 : W.cell? ⟨b, 3, none⟩ = some (.nilIface) := hblk.cell 3
  have k4 : W.cell? ⟨b, 4, none⟩ = some (.nilIface) := hblk.cell 4
  have HB := Lib.hid hb
  have HV := Lib.hid hV
  have hm := hV.meth
  have hent := hV.ent
  have Hx := Lib.hid hx
  have Ix := Lib.hid IHx
  have Hy := Lib.hid hy
  have Iy := Lib.hid IHy
  show Calls _ _ #[.iface Vt (pay d.length), .iface 112 (.pointer (some ⟨b, 0, none⟩))] W _
  have HIS := Lib.hid hIS
  obtain ⟨d1, hd1⟩ : ∃ d1, d1 = d ++ [((⟨⟨#[115, 108, 105, 99, 101]⟩, ⟨#[108]⟩, ad, cp, [x, y]⟩ : Nd), i)] := ⟨_, rfl⟩
  obtain ⟨o1, ho1⟩ : ∃ o1, o1 = out ++ [((some ((⟨⟨#[115, 108, 105, 99, 101]⟩, ⟨#[108]⟩, ad, cp, [x, y]⟩ : Nd), i), d) : Ev)] := ⟨_, rfl⟩
  have hdl : d1.length ≤ d.length + 1 := by rw [hd1]; simp
  have hol : out.length + 1 ≤ o1.length := by rw [ho1]; simp
  have HD := Lib.hid (And.intro hd1 ho1)
  clear ho hblk hb hV hx IHx hy IHy hl hlx hly hIS hd1 ho1
  go_enter Tryz.func18, Tryz.ntmps18
  have t0 := nd_SliceExpr_Comment
  have t1 := nd_SliceExpr_CommentGroup
  have t2 := nd_SliceExpr_Field
  have t3 := nd_SliceExpr_FieldList
  have t4 := nd_SliceExpr_BadExpr
  have t5 := nd_SliceExpr_Ident
  have t6 := nd_SliceExpr_BasicLit
  have t7 := nd_SliceExpr_Ellipsis
  have t8 := nd_SliceExpr_FuncLit
  have t9 := nd_SliceExpr_CompositeLit
  have t10 := nd_SliceExpr_ParenExpr
  have t11 := nd_SliceExpr_SelectorExpr
  have t12 := nd_SliceExpr_IndexExpr
  have t13 := nd_SliceExpr_IndexListExpr
  have t14 := nd_SliceExpr_SliceExpr
  go_wp2_with fail
  refine (HV.out.node d out W i _ _ hsh hsz (by have := run_lt go (⟨⟨#[115, 108, 105, 99, 101]⟩, ⟨#[108]⟩, ad, cp, [x, y]⟩) d i out; omega) HX0.out.1 hh HX0.out.2).mono ?_
  rintro e w0 ⟨he, hob, hk1⟩
  rw [← HD.out.1, ← HD.out.2] at he hob
  cases hst : go o1 ; rotate_left
  · rw [hst, if_pos rfl] at he hob
    subst he
    have S0 := Lib.hid (And.intro hob hk1)
    have he := Nd.run_go (n := ⟨⟨#[115, 108, 105, 99, 101]⟩, ⟨#[108]⟩, ad, cp, [x, y]⟩) (i := i) HIS.out HD.out.1 HD.out.2 hst
    replace he : Nd.run go d i ⟨⟨#[115, 108, 105, 99, 101]⟩, ⟨#[108]⟩, ad, cp, [x, y]⟩ out = selRun go d1 11 (i + (List.map Nd.ntok ([x, y])).getD 0 0 + 1) ⟨#[108]⟩ (runL go d1 (ix :: iy :: isy) ([x, y]) o1) ++ [(none, d1)] := he
    rw [selRun_ne (by decide), runL_cons, runL_cons, runL_nil] at he
    obtain ⟨o2, hR2⟩ : ∃ o2, o2 = Nd.run go d1 ix x o1 := ⟨_, rfl⟩
    rw [← hR2] at he
    have hb2 : o1.length ≤ o2.length := by rw [hR2]; exact Nat.le_of_lt (run_lt go x d1 ix o1)
    have HR2 := Lib.hid hR2
    clear hR2
    obtain ⟨o3, hR3⟩ : ∃ o3, o3 = Nd.run go d1 iy y o2 := ⟨_, rfl⟩
    rw [← hR3] at he
    have hb3 : o2.length ≤ o3.length := by rw [hR3]; exact Nat.le_of_lt (run_lt go y d1 iy o2)
    have HR3 := Lib.hid hR3
    clear hR3
    have hb1 := hbd.1
    have hbz : o3.length + 1 ≤ 5000 := by have h := hbd.2; rw [he, List.length_append] at h; exact h
    have HE := Lib.hid he
    clear hob hk1 hst he
    have a0_0 : w0.cell? ⟨b, 0, none⟩ = some (.iface qx (.pointer (some ⟨cx, 0, none⟩))) := S0.out.2.cell HB.out k0
    have a0_2 : w0.cell? ⟨b, 2, none⟩ = some (.iface qy (.pointer (some ⟨cy, 0, none⟩))) := S0.out.2.cell HB.out k2
    have a0_3 : w0.cell? ⟨b, 3, none⟩ = some (.nilIface) := S0.out.2.cell HB.out k3
    have a0_4 : w0.cell? ⟨b, 4, none⟩ = some (.nilIface) := S0.out.2.cell HB.out k4
    go_wp2_with fail
    refine (Ix.out d1 _ w0 ix _ (by rw [← HR2.out]; omega) S0.out.1 (Nat.le_trans hh S0.out.2.1) (S0.out.2.ex Hx.out)).mono ?_
    rintro e w1 ⟨rfl, ho2, hk2⟩
    rw [← HR2.out] at ho2
    have S1 := Lib.hid (And.intro ho2 (S0.out.2.trans hk2))
    clear ho2 hk2 a0_0 a0_2 a0_3 a0_4
    have a1_0 : w1.cell? ⟨b, 0, none⟩ = some (.iface qx (.pointer (some ⟨cx, 0, none⟩))) := S1.out.2.cell HB.out k0
    have a1_2 : w1.cell? ⟨b, 2, none⟩ = some (.iface qy (.pointer (some ⟨cy, 0, none⟩))) := S1.out.2.cell HB.out k2
    have a1_3 : w1.cell? ⟨b, 3, none⟩ = some (.nilIface) := S1.out.2.cell HB.out k3
    have a1_4 : w1.cell? ⟨b, 4, none⟩ = some (.nilIface) := S1.out.2.cell HB.out k4
    go_wp2_with fail
    refine (Iy.out d1 _ w1 iy _ (by rw [← HR3.out]; omega) S1.out.1 (Nat.le_trans hh S1.out.2.1) (S1.out.2.ex Hy.out)).mono ?_
    rintro e w2 ⟨rfl, ho2, hk2⟩
    rw [← HR3.out] at ho2
    have S2 := Lib.hid (And.intro ho2 (S1.out.2.trans hk2))
    clear ho2 hk2 a1_0 a1_2 a1_3 a1_4
    have a2_0 : w2.cell? ⟨b, 0, none⟩ = some (.iface qx (.pointer (some ⟨cx, 0, none⟩))) := S2.out.2.cell HB.out k0
    have a2_2 : w2.cell? ⟨b, 2, none⟩ = some (.iface qy (.pointer (some ⟨cy, 0, none⟩))) := S2.out.2.cell HB.out k2
    have a2_3 : w2.cell? ⟨b, 3, none⟩ = some (.nilIface) := S2.out.2.cell HB.out k3
    have a2_4 : w2.cell? ⟨b, 4, none⟩ = some (.nilIface) := S2.out.2.cell HB.out k4
    go_wp2_with fail
    have hn0 := S2.out.1
    rw [HD.out.1] at hn0
    have hn1 := HV.out.nil d _ o3 w2 (by rw [← HD.out.1]; omega) hn0 (Nat.le_trans hh S2.out.2.1)
    rw [← HD.out.1] at hn1
    clear hn0
    refine hn1.mono ?_
    clear hn1
    rintro e wz ⟨⟨r, rfl⟩, ho2, hk2⟩
    have SZ := Lib.hid (And.intro ho2 (S2.out.2.trans hk2))
    clear ho2 hk2 a2_0 a2_2 a2_3 a2_4
    go_wp2_with fail
    (try simp only [Exit.inBlock, Exit.then])
    refine bodyPost_ret (results_none rfl _ _ _) rfl ⟨rfl, ?_, SZ.out.2⟩
    rw [HE.out]
    exact SZ.out.1
  · rw [hst, if_neg Bool.false_ne_true] at he hob
    subst he
    have S0 := Lib.hid (And.intro hob hk1)
    have HE := Lib.hid (Nd.run_stop HD.out.2 hst)
    clear hob hk1 hst
    go_wp2_with fail
    (try simp only [Exit.inBlock, Exit.then])
    refine bodyPost_ret (results_none rfl _ _ _) rfl ⟨rfl, ?_, S0.out.2⟩
    rw [HE.out]
    exact S0.out.1

set_option maxHeartbeats 2000000 in
set_option maxRecDepth 100000 in
theorem wk_slice_h (hV : VS lo hi P go Vt pay rc fV Out) (ad : Option Addr) (cp : Nat) (x : Nd) (y : Nd) (IHx : WOf lo hi P go Vt pay Out x) (IHy : WOf lo hi P go Vt pay Out y) (hsh : Nd.shapedB ⟨⟨#[115, 108, 105, 99, 101]⟩, ⟨#[104]⟩, ad, cp, [x, y]⟩ = true) (hsz : Nd.size ⟨⟨#[115, 108, 105, 99, 101]⟩, ⟨#[104]⟩, ad, cp, [x, y]⟩ ≤ 400) : WOf lo hi P go Vt pay Out ⟨⟨#[115, 108, 105, 99, 101]⟩, ⟨#[104]⟩, ad, cp, [x, y]⟩ := by
  intro d out W i v hbd ho hh hX
  have HX0 := Lib.hid (And.intro ho hX)
  obtain ⟨vs, hl, hn⟩ := hX
  obtain ⟨IS, hIS⟩ : ∃ IS, starts (kcode (⟨#[115, 108, 105, 99, 101]⟩ : ByteArray)) ⟨#[104]⟩ (List.map Nd.ntok ([x, y])) i = IS := ⟨_, rfl⟩
  replace hl : ExL W (Rng lo hi) P IS ([x, y]) vs := hIS ▸ hl
  obtain ⟨b, hb, hv⟩ : NodeAt W (Rng lo hi) P 11 ⟨#[104]⟩ (List.map Nd.ntok ([x, y])) i _ vs v := hn
  obtain ⟨rfl, hblk⟩ := hv
  obtain ⟨ix, isx, qx, cx, vx, rfl, rfl, hx, hlx⟩ := exl_cons' hl
  obtain ⟨iy, isy, qy, cy, vy, rfl, rfl, hy, hly⟩ := exl_cons' hlx
  obtain rfl := exl_nil hly
  have k0 : W.cell? ⟨b, 0, none⟩ = some (.iface qx (.pointer (some ⟨cx, 0, none⟩))) := hblk.cell 0
  have k2 : W.cell? ⟨b, 2, none⟩ = some (.nilIface) := hblk.cell 2
  have k3 : W.cell? ⟨b, 3, none⟩ = some (.iface qy (.pointer (some ⟨cy, 0, none⟩))) := hblk.cell 3
  have k4 : W.cell? ⟨b, 4, none⟩ = some (.nilIface) := hblk.cell 4
  have HB := Lib.hid hb
  have HV := Lib.hid hV
  have hm := hV.meth
  have hent := hV.ent
  have Hx := Lib.hid hx
  have Ix := Lib.hid IHx
  have Hy := Lib.hid hy
  have Iy := Lib.hid IHy
  show Calls _ _ #[.iface Vt (pay d.length), .iface 112 (.pointer (some ⟨b, 0, none⟩))] W _
  have HIS := Lib.hid hIS
  obtain ⟨d1, hd1⟩ : ∃ d1, d1 = d ++ [((⟨⟨#[115, 108, 105, 99, 101]⟩, ⟨#[104]⟩, ad, cp, [x, y]⟩ : Nd), i)] := ⟨_, rfl⟩
  obtain ⟨o1, ho1⟩ : ∃ o1, o1 = out ++ [((some ((⟨⟨#[115, 108, 105, 99, 101]⟩, ⟨#[104]⟩, ad, cp, [x, y]⟩ : Nd), i), d) : Ev)] := ⟨_, rfl⟩
  have hdl : d1.length ≤ d.length + 1 := by rw [hd1]; simp
  have hol : out.length + 1 ≤ o1.length := by rw [ho1]; simp
  have HD := Lib.hid (And.intro hd1 ho1)
  clear ho hblk hb hV hx IHx hy IHy hl hlx hly hIS hd1 ho1
  go_enter Tryz.func18, Tryz.ntmps18
  have t0 := nd_SliceExpr_Comment
  have t1 := nd_SliceExpr_CommentGroup
  have t2 := nd_SliceExpr_Field
  have t3 := nd_SliceExpr_FieldList
  have t4 := nd_SliceExpr_BadExpr
  have t5 := nd_SliceExpr_Ident
  have t6 := nd_SliceExpr_BasicLit
  have t7 := nd_SliceExpr_Ellipsis
  have t8 := nd_SliceExpr_FuncLit
  have t9 := nd_SliceExpr_CompositeLit
  have t10 := nd_SliceExpr_ParenExpr
  have t11 := nd_SliceExpr_SelectorExpr
  have t12 := nd_SliceExpr_IndexExpr
  have t13 := nd_SliceExpr_IndexListExpr
  have t14 := nd_SliceExpr_SliceExpr
  go_wp2_with fail
  refine (HV.out.node d out W i _ _ hsh hsz (by have := run_lt go (⟨⟨#[115, 108, 105, 99, 101]⟩, ⟨#[104]⟩, ad, cp, [x, y]⟩) d i out; omega) HX0.out.1 hh HX0.out.2).mono ?_
  rintro e w0 ⟨he, hob, hk1⟩
  rw [← HD.out.1, ← HD.out.2] at he hob
  cases hst : go o1 ; rotate_left
  · rw [hst, if_pos rfl] at he hob
    subst he
    have S0 := Lib.hid (And.intro hob hk1)
    have he := Nd.run_go (n := ⟨⟨#[115, 108, 105, 99, 101]⟩, ⟨#[104]⟩, ad, cp, [x, y]⟩) (i := i) HIS.out HD.out.1 HD.out.2 hst
    replace he : Nd.run go d i ⟨⟨#[115, 108, 105, 99, 101]⟩, ⟨#[104]⟩, ad, cp, [x, y]⟩ out = selRun go d1 11 (i + (List.map Nd.ntok ([x, y])).getD 0 0 + 1) ⟨#[104]⟩ (runL go d1 (ix :: iy :: isy) ([x, y]) o1) ++ [(none, d1)] := he
    rw [selRun_ne (by decide), runL_cons, runL_cons, runL_nil] at he
    obtain ⟨o2, hR2⟩ : ∃ o2, o2 = Nd.run go d1 ix x o1 := ⟨_, rfl⟩
    rw [← hR2] at he
    have hb2 : o1.length ≤ o2.length := by rw [hR2]; exact Nat.le_of_lt (run_lt go x d1 ix o1)
    have HR2 := Lib.hid hR2
    clear hR2
    obtain ⟨o3, hR3⟩ : ∃ o3, o3 = Nd.run go d1 iy y o2 := ⟨_, rfl⟩
    rw [← hR3] at he
    have hb3 : o2.length ≤ o3.length := by rw [hR3]; exact Nat.le_of_lt (run_lt go y d1 iy o2)
    have HR3 := Lib.hid hR3
    clear hR3
    have hb1 := hbd.1
    have hbz : o3.length + 1 ≤ 5000 := by have h := hbd.2; rw [he, List.length_append] at h; exact h
    have HE := Lib.hid he
    clear hob hk1 hst he
    have a0_0 : w0.cell? ⟨b, 0, none⟩ = some (.iface qx (.pointer (some ⟨cx, 0, none⟩))) := S0.out.2.cell HB.out k0
    have a0_2 : w0.cell? ⟨b, 2, none⟩ = some (.nilIface) := S0.out.2.cell HB.out k2
    have a0_3 : w0.cell? ⟨b, 3, none⟩ = some (.iface qy (.pointer (some ⟨cy, 0, none⟩))) := S0.out.2.cell HB.out k3
    have a0_4 : w0.cell? ⟨b, 4, none⟩ = some (.nilIface) := S0.out.2.cell HB.out k4
    go_wp2_with fail
    refine (Ix.out d1 _ w0 ix _ (by rw [← HR2.out]; omega) S0.out.1 (Nat.le_trans hh S0.out.2.1) (S0.out.2.ex Hx.out)).mono ?_
    rintro e w1 ⟨rfl, ho2, hk2⟩
    rw [← HR2.out] at ho2
    have S1 := Lib.hid (And.intro ho2 (S0.out.2.trans hk2))
    clear ho2 hk2 a0_0 a0_2 a0_3 a0_4
    have a1_0 : w1.cell? ⟨b, 0, none⟩ = some (.iface qx (.pointer (some ⟨cx, 0, none⟩))) := S1.out.2.cell HB.out k0
    have a1_2 : w1.cell? ⟨b, 2, none⟩ = some (.nilIface) := S1.out.2.cell HB.out k2
    have a1_3 : w1.cell? ⟨b, 3, none⟩ = some (.iface qy (.pointer (some ⟨cy, 0, none⟩))) := S1.out.2.cell HB.out k3
    have a1_4 : w1.cell? ⟨b, 4, none⟩ = some (.nilIface) := S1.out.2.cell HB.out k4
    go_wp2_with fail
    refine (Iy.out d1 _ w1 iy _ (by rw [← HR3.out]; omega) S1.out.1 (Nat.le_trans hh S1.out.2.1) (S1.out.2.ex Hy.out)).mono ?_
    rintro e w2 ⟨rfl, ho2, hk2⟩
    rw [← HR3.out] at ho2
    have S2 := Lib.hid (And.intro ho2 (S1.out.2.trans hk2))
    clear ho2 hk2 a1_0 a1_2 a1_3 a1_4
    have a2_0 : w2.cell? ⟨b, 0, none⟩ = some (.iface qx (.pointer (some ⟨cx, 0, none⟩))) := S2.out.2.cell HB.out k0
    have a2_2 : w2.cell? ⟨b, 2, none⟩ = some (.nilIface) := S2.out.2.cell HB.out k2
    have a2_3 : w2.cell? ⟨b, 3, none⟩ = some (.iface qy (.pointer (some ⟨cy, 0, none⟩))) := S2.out.2.cell HB.out k3
    have a2_4 : w2.cell? ⟨b, 4, none⟩ = some (.nilIface) := S2.out.2.cell HB.out k4
    go_wp2_with fail
    have hn0 := S2.out.1
    rw [HD.out.1] at hn0
    have hn1 := HV.out.nil d _ o3 w2 (by rw [← HD.out.1]; omega) hn0 (Nat.le_trans hh S2.out.2.1)
    rw [← HD.out.1] at hn1
    clear hn0
    refine hn1.mono ?_
    clear hn1
    rintro e wz ⟨⟨r, rfl⟩, ho2, hk2⟩
    have SZ := Lib.hid (And.intro ho2 (S2.out.2.trans hk2))
    clear ho2 hk2 a2_0 a2_2 a2_3 a2_4
    go_wp2_with fail
    (try simp only [Exit.inBlock, Exit.then])
    refine bodyPost_ret (results_none rfl _ _ _) rfl ⟨rfl, ?_, SZ.out.2⟩
    rw [HE.out]
    exact SZ.out.1
  · rw [hst, if_neg Bool.false_ne_true] at he hob
    subst he
    have S0 := Lib.hid (And.intro hob hk1)
    have HE := Lib.hid (Nd.run_stop HD.out.2 hst)
    clear hob hk1 hst
    go_wp2_with fail
    (try simp only [Exit.inBlock, Exit.then])
    refine bodyPost_ret (results_none rfl _ _ _) rfl ⟨rfl, ?_, S0.out.2⟩
    rw [HE.out]
    exact S0.out.1

set_option maxHeartbeats 2000000 in
set_option maxRecDepth 100000 in
theorem wk_slice_lh (hV : VS lo hi P go Vt pay rc fV Out) (ad : Option Addr) (cp : Nat) (x : Nd) (y : Nd) (z : Nd) (IHx : WOf lo hi P go Vt pay Out x) (IHy : WOf lo hi P go Vt pay Out y) (IHz : WOf lo hi P go Vt pay Out z) (hsh : Nd.shapedB ⟨⟨#[115, 108, 105, 99, 101]⟩, ⟨#[108, 104]⟩, ad, cp, [x, y, z]⟩ = true) (hsz : Nd.size ⟨⟨#[115, 108, 105, 99, 101]⟩, ⟨#[108, 104]⟩, ad, cp, [x, y, z]⟩ ≤ 400) : WOf lo hi P go Vt pay Out ⟨⟨#[115, 108, 105, 99, 101]⟩, ⟨#[108, 104]⟩, ad, cp, [x, y, z]⟩ := by
  intro d out W i v hbd ho hh hX
  have HX0 := Lib.hid (And.intro ho hX)
  obtain ⟨vs, hl, hn⟩ := hX
  obtain ⟨IS, hIS⟩ : ∃ IS, starts (kcode (⟨#[115, 108, 105, 99, 101]⟩ : ByteArray)) ⟨#[108, 104]⟩ (List.map Nd.ntok ([x, y, z])) i = IS := ⟨_, rfl⟩
  replace hl : ExL W (Rng lo hi) P IS ([x, y, z]) vs := hIS ▸ hl
  obtain ⟨b, hb, hv⟩ : NodeAt W (Rng lo hi) P 11 ⟨#[108, 104]⟩ (List.map Nd.ntok ([x, y, z])) i _ vs v := hn
  obtain ⟨rfl, hblk⟩ := hv
  obtain ⟨ix, isx, qx, cx, vx, rfl, rfl, hx, hlx⟩ := exl_cons' hl
  obtain ⟨iy, isy, qy, cy, vy, rfl, rfl, hy, hly⟩ := exl_cons' hlx
  obtain ⟨iz, isz, qz, cz, vz, rfl, rfl, hz, hlz⟩ := exl_cons' hly
  obtain rfl := exl_nil hlz
  have k0 : W.cell? ⟨b, 0, none⟩ = some (.iface qx (.pointer (some ⟨cx, 0, none⟩))) := hblk.cell 0
  have k2 : W.cell? ⟨b, 2, none⟩ = some (.iface qy (.pointer (some ⟨cy, 0, none⟩))) := hblk.cell 2
  have k3 : W.cell? ⟨b, 3, none⟩ = some (.iface qz (.pointer (some ⟨cz, 0, none⟩))) := hblk.cell 3
  have k4 : W.cell? ⟨b, 4, none⟩ = some (.nilIface) := hblk.cell 4
  have HB := Lib.hid hb
  have HV := Lib.hid hV
  have hm := hV.meth
  have hent := hV.ent
  have Hx := Lib.hid hx
  have Ix := Lib.hid IHx
  have Hy := Lib.hid hy
  have Iy := Lib.hid IHy
  have Hz := Lib.hid hz
  have Iz := Lib.hid IHz
  show Calls _ _ #[.iface Vt (pay d.length), .iface 112 (.pointer (some ⟨b, 0, none⟩))] W _
  have HIS := Lib.hid hIS
  obtain ⟨d1, hd1⟩ : ∃ d1, d1 = d ++ [((⟨⟨#[115, 108, 105, 99, 101]⟩, ⟨#[108, 104]⟩, ad, cp, [x, y, z]⟩ : Nd), i)] := ⟨_, rfl⟩
  obtain ⟨o1, ho1⟩ : ∃ o1, o1 = out ++ [((some ((⟨⟨#[115, 108, 105, 99, 101]⟩, ⟨#[108, 104]⟩, ad, cp, [x, y, z]⟩ : Nd), i), d) : Ev)] := ⟨_, rfl⟩
  have hdl : d1.length ≤ d.length + 1 := by rw [hd1]; simp
  have hol : out.length + 1 ≤ o1.length := by rw [ho1]; simp
  have HD := Lib.hid (And.intro hd1 ho1)
  clear ho hblk hb hV hx IHx hy IHy hz IHz hl hlx hly hlz hIS hd1 ho1
  go_enter Tryz.func18, Tryz.ntmps18
  have t0 := nd_SliceExpr_Comment
  have t1 := nd_SliceExpr_CommentGroup
  have t2 := nd_SliceExpr_Field
  have t3 := nd_SliceExpr_FieldList
  have t4 := nd_SliceExpr_BadExpr
  have t5 := nd_SliceExpr_Ident
  have t6 := nd_SliceExpr_BasicLit
  have t7 := nd_SliceExpr_Ellipsis
  have t8 := nd_SliceExpr_FuncLit
  have t9 := nd_SliceExpr_CompositeLit
  have t10 := nd_SliceExpr_ParenExpr
  have t11 := nd_SliceExpr_SelectorExpr
  have t12 := nd_SliceExpr_IndexExpr
  have t13 := nd_SliceExpr_IndexListExpr
  have t14 := nd_SliceExpr_SliceExpr
  go_wp2_with fail
  refine (HV.out.node d out W i _ _ hsh hsz (by have := run_lt go (⟨⟨#[115, 108, 105, 99, 101]⟩, ⟨#[108, 104]⟩, ad, cp, [x, y, z]⟩) d i out; omega) HX0.out.1 hh HX0.out.2).mono ?_
  rintro e w0 ⟨he, hob, hk1⟩
  rw [← HD.out.1, ← HD.out.2] at he hob
  cases hst : go o1 ; rotate_left
  · rw [hst, if_pos rfl] at he hob
    subst he
    have S0 := Lib.hid (And.intro hob hk1)
    have he := Nd.run_go (n := ⟨⟨#[115, 108, 105, 99, 101]⟩, ⟨#[108, 104]⟩, ad, cp, [x, y, z]⟩) (i := i) HIS.out HD.out.1 HD.out.2 hst
    replace he : Nd.run go d i ⟨⟨#[115, 108, 105, 99, 101]⟩, ⟨#[108, 104]⟩, ad, cp, [x, y, z]⟩ out = selRun go d1 11 (i + (List.map Nd.ntok ([x, y, z])).getD 0 0 + 1) ⟨#[108, 104]⟩ (runL go d1 (ix :: iy :: iz :: isz) ([x, y, z]) o1) ++ [(none, d1)] := he
    rw [selRun_ne (by decide), runL_cons, runL_cons, runL_cons, runL_nil] at he
    obtain ⟨o2, hR2⟩ : ∃ o2, o2 = Nd.run go d1 ix x o1 := ⟨_, rfl⟩
    rw [← hR2] at he
    have hb2 : o1.length ≤ o2.length := by rw [hR2]; exact Nat.le_of_lt (run_lt go x d1 ix o1)
    have HR2 := Lib.hid hR2
    clear hR2
    obtain ⟨o3, hR3⟩ : ∃ o3, o3 = Nd.run go d1 iy y o2 := ⟨_, rfl⟩
    rw [← hR3] at he
    have hb3 : o2.length ≤ o3.length := by rw [hR3]; exact Nat.le_of_lt (run_lt go y d1 iy o2)
    have HR3 := Lib.hid hR3
    clear hR3
    obtain ⟨o4, hR4⟩ : ∃ o4, o4 = Nd.run go d1 iz z o3 := ⟨_, rfl⟩
    rw [← hR4] at he
    have hb4 : o3.length ≤ o4.length := by rw [hR4]; exact Nat.le_of_lt (run_lt go z d1 iz o3)
    have HR4 := Lib.hid hR4
    clear hR4
    have hb1 := hbd.1
    have hbz : o4.length + 1 ≤ 5000 := by have h := hbd.2; rw [he, List.length_append] at h; exact h
    have HE := Lib.hid he
    clear hob hk1 hst he
    have a0_0 : w0.cell? ⟨b, 0, none⟩ = some (.iface qx (.pointer (some ⟨cx, 0, none⟩))) := S0.out.2.cell HB.out k0
    have a0_2 : w0.cell? ⟨b, 2, none⟩ = some (.iface qy (.pointer (some ⟨cy, 0, none⟩))) := S0.out.2.cell HB.out k2
    have a0_3 : w0.cell? ⟨b, 3, none⟩ = some (.iface qz (.pointer (some ⟨cz, 0, none⟩))) := S0.out.2.cell HB.out k3
    have a0_4 : w0.cell? ⟨b, 4, none⟩ = some (.nilIface) := S0.out.2.cell HB.out k4
    go_wp2_with fail
    refine (Ix.out d1 _ w0 ix _ (by rw [← HR2.out]; omega) S0.out.1 (Nat.le_trans hh S0.out.2.1) (S0.out.2.ex Hx.out)).mono ?_
    rintro e w1 ⟨rfl, ho2, hk2⟩
    rw [← HR2.out] at ho2
    have S1 := Lib.hid (And.intro ho2 (S0.out.2.trans hk2))
    clear ho2 hk2 a0_0 a0_2 a0_3 a0_4
    have a1_0 : w1.cell? ⟨b, 0, none⟩ = some (.iface qx (.pointer (some ⟨cx, 0, none⟩))) := S1.out.2.cell HB.out k0
    have a1_2 : w1.cell? ⟨b, 2, none⟩ = some (.iface qy (.pointer (some ⟨cy, 0, none⟩))) := S1.out.2.cell HB.out k2
    have a1_3 : w1.cell? ⟨b, 3, none⟩ = some (.iface qz (.pointer (some ⟨cz, 0, none⟩))) := S1.out.2.cell HB.out k3
    have a1_4 : w1.cell? ⟨b, 4, none⟩ = some (.nilIface) := S1.out.2.cell HB.out k4
    go_wp2_with fail
    refine (Iy.out d1 _ w1 iy _ (by rw [← HR3.out]; omega) S1.out.1 (Nat.le_trans hh S1.out.2.1) (S1.out.2.ex Hy.out)).mono ?_
    rintro e w2 ⟨rfl, ho2, hk2⟩
    rw [← HR3.out] at ho2
    have S2 := Lib.hid (And.intro ho2 (S1.out.2.trans hk2))
    clear ho2 hk2 a1_0 a1_2 a1_3 a1_4
    have a2_0 : w2.cell? ⟨b, 0, none⟩ = some (.iface qx (.pointer (some ⟨cx, 0, none⟩))) := S2.out.2.cell HB.out k0
    have a2_2 : w2.cell? ⟨b, 2, none⟩ = some (.iface qy (.pointer (some ⟨cy, 0, none⟩))) := S2.out.2.cell HB.out k2
    have a2_3 : w2.cell? ⟨b, 3, none⟩ = some (.iface qz (.pointer (some ⟨cz, 0, none⟩))) := S2.out.2.cell HB.out k3
    have a2_4 : w2.cell? ⟨b, 4, none⟩ = some (.nilIface) := S2.out.2.cell HB.out k4
    go_wp2_with fail
    refine (Iz.out d1 _ w2 iz _ (by rw [← HR4.out]; omega) S2.out.1 (Nat.le_trans hh S2.out.2.1) (S2.out.2.ex Hz.out)).mono ?_
    rintro e w3 ⟨rfl, ho2, hk2⟩
    rw [← HR4.out] at ho2
    have S3 := Lib.hid (And.intro ho2 (S2.out.2.trans hk2))
    clear ho2 hk2 a2_0 a2_2 a2_3 a2_4
    have a3_0 : w3.cell? ⟨b, 0, none⟩ = some (.iface qx (.pointer (some ⟨cx, 0, none⟩))) := S3.out.2.cell HB.out k0
    have a3_2 : w3.cell? ⟨b, 2, none⟩ = some (.iface qy (.pointer (some ⟨cy, 0, none⟩))) := S3.out.2.cell HB.out k2
    have a3_3 : w3.cell? ⟨b, 3, none⟩ = some (.iface qz (.pointer (some ⟨cz, 0, none⟩))) := S3.out.2.cell HB.out k3
    have a3_4 : w3.cell? ⟨b, 4, none⟩ = some (.nilIface) := S3.out.2.cell HB.out k4
    go_wp2_with fail
    have hn0 := S3.out.1
    rw [HD.out.1] at hn0
    have hn1 := HV.out.nil d _ o4 w3 (by rw [← HD.out.1]; omega) hn0 (Nat.le_trans hh S3.out.2.1)
    rw [← HD.out.1] at hn1
    clear hn0
    refine hn1.mono ?_
    clear hn1
    rintro e wz ⟨⟨r, rfl⟩, ho2, hk2⟩
    have SZ := Lib.hid (And.intro ho2 (S3.out.2.trans hk2))
    clear ho2 hk2 a3_0 a3_2 a3_3 a3_4
    go_wp2_with fail
    (try simp only [Exit.inBlock, Exit.then])
    refine bodyPost_ret (results_none rfl _ _ _) rfl ⟨rfl, ?_, SZ.out.2⟩
    rw [HE.out]
    exact SZ.out.1
  · rw [hst, if_neg Bool.false_ne_true] at he hob
    subst he
    have S0 := Lib.hid (And.intro hob hk1)
    have HE := Lib.hid (Nd.run_stop HD.out.2 hst)
    clear hob hk1 hst
    go_wp2_with fail
    (try simp only [Exit.inBlock, Exit.then])
    refine bodyPost_ret (results_none rfl _ _ _) rfl ⟨rfl, ?_, S0.out.2⟩
    rw [HE.out]
    exact S0.out.1
end
end Go.Proofs.YtjbhjbpamnoebaaGreatFmt

namespace Go.Proofs.YtjbhjbpamnoebaaGreatFmt
open Go.RowKit

section
variable {lo hi : Nat} {P : Nat → Int} {go : List Ev → Bool} {Vt : TypeId} {pay rc : Nat → Value} {fV : FuncId} {Out : List Ev → List (Nd × Nat) → World → Prop}
set_option maxHeartbeats 2000000 in
set_option maxRecDepth 100000 in
theorem wk_slice_hms (hV : VS lo hi P go Vt pay rc fV Out) (ad : Option Addr) (cp : Nat) (x : Nd) (y : Nd) (z : Nd) (IHx : WOf lo hi P go Vt pay Out x) (IHy : WOf lo hi P go Vt pay Out y) (IHz : WOf lo hi P go Vt pay Out z) (hsh : Nd.shapedB ⟨⟨#[115, 108, 105, 99, 101]⟩, ⟨#[104, 109, 115]⟩, ad, cp, [x, y, z]⟩ = true) (hsz : Nd.size ⟨⟨#[115, 108, 105, 99, 101]⟩, ⟨#[104, 109, 115]⟩, ad, cp, [x, y, z]⟩ ≤ 400) : WOf lo hi P go Vt pay Out ⟨⟨#[115, 108, 105, 99, 101]⟩, ⟨#[104, 109, 115]⟩, ad, cp, [x, y, z]⟩ := by
  intro d out W i v hbd ho hh hX
  have HX0 := Lib.hid (And.intro ho hX)
  obtain ⟨vs, hl, hn⟩ := hX
  obtain ⟨IS, hIS⟩ : ∃ IS, starts (kcode (⟨#[115, 108, 105, 99, 101]⟩ : ByteArray)) ⟨#[104, 109, 115]⟩ (List.map Nd.ntok ([x, y, z])) i = IS := ⟨_, rfl⟩
  replace hl : ExL W (Rng lo hi) P IS ([x, y, z]) vs := hIS ▸ hl
  obtain ⟨b, hb, hv⟩ : NodeAt W (Rng lo hi) P 11 ⟨#[104, 109, 115]⟩ (List.map Nd.ntok ([x, y, z])) i _ vs v := hn
  obtain ⟨rfl, hblk⟩ := hv
  obtain ⟨ix, isx, qx, cx, vx, rfl, rfl, hx, hlx⟩ := exl_cons' hl
  obtain ⟨iy, isy, qy, cy, vy, rfl, rfl, hy, hly⟩ := exl_cons' hlx
  obtain ⟨iz, isz, qz, cz, vz, rfl, rfl, hz, hlz⟩ := exl_cons' hly
  obtain rfl := exl_nil hlz
  have k0 : W.cell? ⟨b, 0, none⟩ = some (.iface qx (.pointer (some ⟨cx, 0, none⟩))) := hblk.cell 0
  have k2 : W.cell? ⟨b, 2, none⟩ = some (.nilIface) := hblk.cell 2
  have k3 : W.cell? ⟨b, 3, none⟩ = some (.iface qy (.pointer (some ⟨cy, 0, none⟩))) := hblk.cell 3
  have k4 : W.cell? ⟨b, 4, none⟩ = some (.iface qz (.pointer (some ⟨cz, 0, none⟩))) := hblk.cell 4
  have HB := Lib.hid hb
  have HV := Lib.hid hV
  have hm := hV.meth
  have hent := hV.ent
  have Hx := Lib.hid hx
  have Ix := Lib.hid IHx
  have Hy := Lib.hid hy
  have Iy := Lib.hid IHy
  have Hz := Lib.hid hz
  have Iz := Lib.hid IHz
  show Calls _ _ #[.iface Vt (pay d.length), .iface 112 (.pointer (some ⟨b, 0, none⟩))] W _
  have HIS := Lib.hid hIS
  obtain ⟨d1, hd1⟩ : ∃ d1, d1 = d ++ [((⟨⟨#[115, 108, 105, 99, 101]⟩, ⟨#[104, 109, 115]⟩, ad, cp, [x, y, z]⟩ : Nd), i)] := ⟨_, rfl⟩
  obtain ⟨o1, ho1⟩ : ∃ o1, o1 = out ++ [((some ((⟨⟨#[115, 108, 105, 99, 101]⟩, ⟨#[104, 109, 115]⟩, ad, cp, [x, y, z]⟩ : Nd), i), d) : Ev)] := ⟨_, rfl⟩
  have hdl : d1.length ≤ d.length + 1 := by rw [hd1]; simp
  have hol : out.length + 1 ≤ o1.length := by rw [ho1]; simp
  have HD := Lib.hid (And.intro hd1 ho1)
  clear ho hblk hb hV hx IHx hy IHy hz IHz hl hlx hly hlz hIS hd1 ho1
  go_enter Tryz.func18, Tryz.ntmps18
  have t0 := nd_SliceExpr_Comment
  have t1 := nd_SliceExpr_CommentGroup
  have t2 := nd_SliceExpr_Field
  have t3 := nd_SliceExpr_FieldList
  have t4 := nd_SliceExpr_BadExpr
  have t5 := nd_SliceExpr_Ident
  have t6 := nd_SliceExpr_BasicLit
  have t7 := nd_SliceExpr_Ellipsis
  have t8 := nd_SliceExpr_FuncLit
  have t9 := nd_SliceExpr_CompositeLit
  have t10 := nd_SliceExpr_ParenExpr
  have t11 := nd_SliceExpr_SelectorExpr
  have t12 := nd_SliceExpr_IndexExpr
  have t13 := nd_SliceExpr_IndexListExpr
  have t14 := nd_SliceExpr_SliceExpr
  go_wp2_with fail
  refine (HV.out.node d out W i _ _ hsh hsz (by have := run_lt go (⟨⟨#[115, 108, 105, 99, 101]⟩, ⟨#[104, 109, 115]⟩, ad, cp, [x, y, z]⟩) d i out; omega) HX0.out.1 hh HX0.out.2).mono ?_
  rintro e w0 ⟨he, hob, hk1⟩
  rw [← HD.out.1, ← HD.out.2] at he hob
  cases hst : go o1 ; rotate_left
  · rw [hst, if_pos rfl] at he hob
    subst he
    have S0 := Lib.hid (And.intro hob hk1)
    have he := Nd.run_go (n := ⟨⟨#[115, 108, 105, 99, 101]⟩, ⟨#[104, 109, 115]⟩, ad, cp, [x, y, z]⟩) (i := i) HIS.out HD.out.1 HD.out.2 hst
    replace he : Nd.run go d i ⟨⟨#[115, 108, 105, 99, 101]⟩, ⟨#[104, 109, 115]⟩, ad, cp, [x, y, z]⟩ out = selRun go d1 11 (i + (List.map Nd.ntok ([x, y, z])).getD 0 0 + 1) ⟨#[104, 109, 115]⟩ (runL go d1 (ix :: iy :: iz :: isz) ([x, y, z]) o1) ++ [(none, d1)] := he
    rw [selRun_ne (by decide), runL_cons, runL_cons, runL_cons, runL_nil] at he
    obtain ⟨o2, hR2⟩ : ∃ o2, o2 = Nd.run go d1 ix x o1 := ⟨_, rfl⟩
    rw [← hR2] at he
    have hb2 : o1.length ≤ o2.length := by rw [hR2]; exact Nat.le_of_lt (run_lt go x d1 ix o1)
    have HR2 := Lib.hid hR2
    clear hR2
    obtain ⟨o3, hR3⟩ : ∃ o3, o3 = Nd.run go d1 iy y o2 := ⟨_, rfl⟩
    rw [← hR3] at he
    have hb3 : o2.length ≤ o3.length := by rw [hR3]; exact Nat.le_of_lt (run_lt go y d1 iy o2)
    have HR3 := Lib.hid hR3
    clear hR3
    obtain ⟨o4, hR4⟩ : ∃ o4, o4 = Nd.run go d1 iz z o3 := ⟨_, rfl⟩
    rw [← hR4] at he
    have hb4 : o3.length ≤ o4.length := by rw [hR4]; exact Nat.le_of_lt (run_lt go z d1 iz o3)
    have HR4 := Lib.hid hR4
    clear hR4
    have hb1 := hbd.1
    have hbz : o4.length + 1 ≤ 5000 := by have h := hbd.2; rw [he, List.length_append] at h; exact h
    have HE := Lib.hid he
    clear hob hk1 hst he
    have a0_0 : w0.cell? ⟨b, 0, none⟩ = some (.iface qx (.pointer (some ⟨cx, 0, none⟩))) := S0.out.2.cell HB.out k0
    have a0_2 : w0.cell? ⟨b, 2, none⟩ = some (.nilIface) := S0.out.2.cell HB.out k2
    have a0_3 : w0.cell? ⟨b, 3, none⟩ = some (.iface qy (.pointer (some ⟨cy, 0, none⟩))) := S0.out.2.cell HB.out k3
    have a0_4 : w0.cell? ⟨b, 4, none⟩ = some (.iface qz (.pointer (some ⟨cz, 0, none⟩))) := S0.out.2.cell HB.out k4
    go_wp2_with fail
    refine (Ix.out d1 _ w0 ix _ (by rw [← HR2.out]; omega) S0.out.1 (Nat.le_trans hh S0.out.2.1) (S0.out.2.ex Hx.out)).mono ?_
    rintro e w1 ⟨rfl, ho2, hk2⟩
    rw [← HR2.out] at ho2
    have S1 := Lib.hid (And.intro ho2 (S0.out.2.trans hk2))
    clear ho2 hk2 a0_0 a0_2 a0_3 a0_4
    have a1_0 : w1.cell? ⟨b, 0, none⟩ = some (.iface qx (.pointer (some ⟨cx, 0, none⟩))) := S1.out.2.cell HB.out k0
    have a1_2 : w1.cell? ⟨b, 2, none⟩ = some (.nilIface) := S1.out.2.cell HB.out k2
    have a1_3 : w1.cell? ⟨b, 3, none⟩ = some (.iface qy (.pointer (some ⟨cy, 0, none⟩))) := S1.out.2.cell HB.out k3
    have a1_4 : w1.cell? ⟨b, 4, none⟩ = some (.iface qz (.pointer (some ⟨cz, 0, none⟩))) := S1.out.2.cell HB.out k4
    go_wp2_with fail
    refine (Iy.out d1 _ w1 iy _ (by rw [← HR3.out]; omega) S1.out.1 (Nat.le_trans hh S1.out.2.1) (S1.out.2.ex Hy.out)).mono ?_
    rintro e w2 ⟨rfl, ho2, hk2⟩
    rw [← HR3.out] at ho2
    have S2 := Lib.hid (And.intro ho2 (S1.out.2.trans hk2))
    clear ho2 hk2 a1_0 a1_2 a1_3 a1_4
    have a2_0 : w2.cell? ⟨b, 0, none⟩ = some (.iface qx (.pointer (some ⟨cx, 0, none⟩))) := S2.out.2.cell HB.out k0
    have a2_2 : w2.cell? ⟨b, 2, none⟩ = some (.nilIface) := S2.out.2.cell HB.out k2
    have a2_3 : w2.cell? ⟨b, 3, none⟩ = some (.iface qy (.pointer (some ⟨cy, 0, none⟩))) := S2.out.2.cell HB.out k3
    have a2_4 : w2.cell? ⟨b, 4, none⟩ = some (.iface qz (.pointer (some ⟨cz, 0, none⟩))) := S2.out.2.cell HB.out k4
    go_wp2_with fail
    refine (Iz.out d1 _ w2 iz _ (by rw [← HR4.out]; omega) S2.out.1 (Nat.le_trans hh S2.out.2.1) (S2.out.2.ex Hz.out)).mono ?_
    rintro e w3 ⟨rfl, ho2, hk2⟩
    rw [← HR4.out] at ho2
    have S3 := Lib.hid (And.intro ho2 (S2.out.2.trans hk2))
    clear ho2 hk2 a2_0 a2_2 a2_3 a2_4
    have a3_0 : w3.cell? ⟨b, 0, none⟩ = some (.iface qx (.pointer (some ⟨cx, 0, none⟩))) := S3.out.2.cell HB.out k0
    have a3_2 : w3.cell? ⟨b, 2, none⟩ = some (.nilIface) := S3.out.2.cell HB.out k2
    have a3_3 : w3.cell? ⟨b, 3, none⟩ = some (.iface qy (.pointer (some ⟨cy, 0, none⟩))) := S3.out.2.cell HB.out k3
    have a3_4 : w3.cell? ⟨b, 4, none⟩ = some (.iface qz (.pointer (some ⟨cz, 0, none⟩))) := S3.out.2.cell HB.out k4
    go_wp2_with fail
    have hn0 := S3.out.1
    rw [HD.out.1] at hn0
    have hn1 := HV.out.nil d _ o4 w3 (by rw [← HD.out.1]; omega) hn0 (Nat.le_trans hh S3.out.2.1)
    rw [← HD.out.1] at hn1
    clear hn0
    refine hn1.mono ?_
    clear hn1
    rintro e wz ⟨⟨r, rfl⟩, ho2, hk2⟩
    have SZ := Lib.hid (And.intro ho2 (S3.out.2.trans hk2))
    clear ho2 hk2 a3_0 a3_2 a3_3 a3_4
    go_wp2_with fail
    (try simp only [Exit.inBlock, Exit.then])
    refine bodyPost_ret (results_none rfl _ _ _) rfl ⟨rfl, ?_, SZ.out.2⟩
    rw [HE.out]
    exact SZ.out.1
  · rw [hst, if_neg Bool.false_ne_true] at he hob
    subst he
    have S0 := Lib.hid (And.intro hob hk1)
    have HE := Lib.hid (Nd.run_stop HD.out.2 hst)
    clear hob hk1 hst
    go_wp2_with fail
    (try simp only [Exit.inBlock, Exit.then])
    refine bodyPost_ret (results_none rfl _ _ _) rfl ⟨rfl, ?_, S0.out.2⟩
    rw [HE.out]
    exact S0.out.1

set_option maxHeartbeats 2000000 in
set_option maxRecDepth 100000 in
theorem wk_slice_lhms (hV : VS lo hi P go Vt pay rc fV Out) (ad : Option Addr) (cp : Nat) (x : Nd) (y : Nd) (z : Nd) (u : Nd) (IHx : WOf lo hi P go Vt pay Out x) (IHy : WOf lo hi P go Vt pay Out y) (IHz : WOf lo hi P go Vt pay Out z) (IHu : WOf lo hi P go Vt pay Out u) (hsh : Nd.shapedB ⟨⟨#[115, 108, 105, 99, 101]⟩, ⟨#[108, 104, 109, 115]⟩, ad, cp, [x, y, z, u]⟩ = true) (hsz : Nd.size ⟨⟨#[115, 108, 105, 99, 101]⟩, ⟨#[108, 104, 109, 115]⟩, ad, cp, [x, y, z, u]⟩ ≤ 400) : WOf lo hi P go Vt pay Out ⟨⟨#[115, 108, 105, 99, 101]⟩, ⟨#[108, 104, 109, 115]⟩, ad, cp, [x, y, z, u]⟩ := by
  intro d out W i v hbd ho hh hX
  have HX0 := Lib.hid (And.intro ho hX)
  obtain ⟨vs, hl, hn⟩ := hX
  obtain ⟨IS, hIS⟩ : ∃ IS, starts (kcode (⟨#[115, 108, 105, 99, 101]⟩ : ByteArray)) ⟨#[108, 104, 109, 115]⟩ (List.map Nd.ntok ([x, y, z, u])) i = IS := ⟨_, rfl⟩
  replace hl : ExL W (Rng lo hi) P IS ([x, y, z, u]) vs := hIS ▸ hl
  obtain ⟨b, hb, hv⟩ : NodeAt W (Rng lo hi) P 11 ⟨#[108, 104, 109, 115]⟩ (List.map Nd.ntok ([x, y, z, u])) i _ vs v := hn
  obtain ⟨rfl, hblk⟩ := hv
  obtain ⟨ix, isx, qx, cx, vx, rfl, rfl, hx, hlx⟩ := exl_cons' hl
  obtain ⟨iy, isy, qy, cy, vy, rfl, rfl, hy, hly⟩ := exl_cons' hlx
  obtain ⟨iz, isz, qz, cz, vz, rfl, rfl, hz, hlz⟩ := exl_cons' hly
  obtain ⟨iu, isu, qu, cu, vu, rfl, rfl, hu, hlu⟩ := exl_cons' hlz
  obtain rfl := exl_nil hlu
  have k0 : W.cell? ⟨b, 0, none⟩ = some (.iface qx (.pointer (some ⟨cx, 0, none⟩))) := hblk.cell 0
  have k2 : W.cell? ⟨b, 2, none⟩ = some (.iface qy (.pointer (some ⟨cy, 0, none⟩))) := hblk.cell 2
  have k3 : W.cell? ⟨b, 3, none⟩ = some (.iface qz (.pointer (some ⟨cz, 0, none⟩))) := hblk.cell 3
  have k4 : W.cell? ⟨b, 4, none⟩ = some (.iface qu (.pointer (some ⟨cu, 0, none⟩))) := hblk.cell 4
  have HB := Lib.hid hb
  have HV := Lib.hid hV
  have hm := hV.meth
  have hent := hV.ent
  have Hx := Lib.hid hx
  have Ix := Lib.hid IHx
  have Hy := Lib.hid hy
  have Iy := Lib.hid IHy
  have Hz := Lib.hid hz
  have Iz := Lib.hid IHz
  have Hu := Lib.hid hu
  have Iu := Lib.hid IHu
  show Calls _ _ #[.iface Vt (pay d.length), .iface 112 (.pointer (some ⟨b, 0, none⟩))] W _
  have HIS := Lib.hid hIS
  obtain ⟨d1, hd1⟩ : ∃ d1, d1 = d ++ [((⟨⟨#[115, 108, 105, 99, 101]⟩, ⟨#[108, 104, 109, 115]⟩, ad, cp, [x, y, z, u]⟩ : Nd), i)] := ⟨_, rfl⟩
  obtain ⟨o1, ho1⟩ : ∃ o1, o1 = out ++ [((some ((⟨⟨#[115, 108, 105, 99, 101]⟩, ⟨#[108, 104, 109, 115]⟩, ad, cp, [x, y, z, u]⟩ : Nd), i), d) : Ev)] := ⟨_, rfl⟩
  have hdl : d1.length ≤ d.length + 1 := by rw [hd1]; simp
  have hol : out.length + 1 ≤ o1.length := by rw [ho1]; simp
  have HD := Lib.hid (And.intro hd1 ho1)
  clear ho hblk hb hV hx IHx hy IHy hz IHz hu IHu hl hlx hly hlz hlu hIS hd1 ho1
  go_enter Tryz.func18, Tryz.ntmps18
  have t0 := nd_SliceExpr_Comment
  have t1 := nd_SliceExpr_CommentGroup
  have t2 := nd_SliceExpr_Field
  have t3 := nd_SliceExpr_FieldList
  have t4 := nd_SliceExpr_BadExpr
  have t5 := nd_SliceExpr_Ident
  have t6 := nd_SliceExpr_BasicLit
  have t7 := nd_SliceExpr_Ellipsis
  have t8 := nd_SliceExpr_FuncLit
  have t9 := nd_SliceExpr_CompositeLit
  have t10 := nd_SliceExpr_ParenExpr
  have t11 := nd_SliceExpr_SelectorExpr
  have t12 := nd_SliceExpr_IndexExpr
  have t13 := nd_SliceExpr_IndexListExpr
  have t14 := nd_SliceExpr_SliceExpr
  go_wp2_with fail
  refine (HV.out.node d out W i _ _ hsh hsz (by have := run_lt go (⟨⟨#[115, 108, 105, 99, 101]⟩, ⟨#[108, 104, 109, 115]⟩, ad, cp, [x, y, z, u]⟩) d i out; omega) HX0.out.1 hh HX0.out.2).mono ?_
  rintro e w0 ⟨he, hob, hk1⟩
  rw [← HD.out.1, ← HD.out.2] at he hob
  cases hst : go o1 ; rotate_left
  · rw [hst, if_pos rfl] at he hob
    subst he
    have S0 := Lib.hid (And.intro hob hk1)
    have he := Nd.run_go (n := ⟨⟨#[115, 108, 105, 99, 101]⟩, ⟨#[108, 104, 109, 115]⟩, ad, cp, [x, y, z, u]⟩) (i := i) HIS.out HD.out.1 HD.out.2 hst
    replace he : Nd.run go d i ⟨⟨#[115, 108, 105, 99, 101]⟩, ⟨#[108, 104, 109, 115]⟩, ad, cp, [x, y, z, u]⟩ out = selRun go d1 11 (i + (List.map Nd.ntok ([x, y, z, u])).getD 0 0 + 1) ⟨#[108, 104, 109, 115]⟩ (runL go d1 (ix :: iy :: iz :: iu :: isu) ([x, y, z, u]) o1) ++ [(none, d1)] := he
    rw [selRun_ne (by decide), runL_cons, runL_cons, runL_cons, runL_cons, runL_nil] at he
    obtain ⟨o2, hR2⟩ : ∃ o2, o2 = Nd.run go d1 ix x o1 := ⟨_, rfl⟩
    rw [← hR2] at he
    have hb2 : o1.length ≤ o2.length := by rw [hR2]; exact Nat.le_of_lt (run_lt go x d1 ix o1)
    have HR2 := Lib.hid hR2
    clear hR2
    obtain ⟨o3, hR3⟩ : ∃ o3, o3 = Nd.run go d1 iy y o2 := ⟨_, rfl⟩
    rw [← hR3] at he
    have hb3 : o2.length ≤ o3.length := by rw [hR3]; exact Nat.le_of_lt (run_lt go y d1 iy o2)
    have HR3 := Lib.hid hR3
    clear hR3
    obtain ⟨o4, hR4⟩ : ∃ o4, o4 = Nd.run go d1 iz z o3 := ⟨_, rfl⟩
    rw [← hR4] at he
    have hb4 : o3.length ≤ o4.length := by rw [hR4]; exact Nat.le_of_lt (run_lt go z d1 iz o3)
    have HR4 := Lib.hid hR4
    clear hR4
    obtain ⟨o5, hR5⟩ : ∃ o5, o5 = Nd.run go d1 iu u o4 := ⟨_, rfl⟩
    rw [← hR5] at he
    have hb5 : o4.length ≤ o5.length := by rw [hR5]; exact Nat.le_of_lt (run_lt go u d1 iu o4)
    have HR5 := Lib.hid hR5
    clear hR5
    have hb1 := hbd.1
    have hbz : o5.length + 1 ≤ 5000 := by have h := hbd.2; rw [he, List.length_append] at h; exact h
    have HE := Lib.hid he
    clear hob hk1 hst he
    have a0_0 : w0.cell? ⟨b, 0, none⟩ = some (.iface qx (.pointer (some ⟨cx, 0, none⟩))) := S0.out.2.cell HB.out k0
    have a0_2 : w0.cell? ⟨b, 2, none⟩ = some (.iface qy (.pointer (some ⟨cy, 0, none⟩))) := S0.out.2.cell HB.out k2
    have a0_3 : w0.cell? ⟨b, 3, none⟩ = some (.iface qz (.pointer (some ⟨cz, 0, none⟩))) := S0.out.2.cell HB.out k3
    have a0_4 : w0.cell? ⟨b, 4, none⟩ = some (.iface qu (.pointer (some ⟨cu, 0, none⟩))) := S0.out.2.cell HB.out k4
    go_wp2_with fail
    refine (Ix.out d1 _ w0 ix _ (by rw [← HR2.out]; omega) S0.out.1 (Nat.le_trans hh S0.out.2.1) (S0.out.2.ex Hx.out)).mono ?_
    rintro e w1 ⟨rfl, ho2, hk2⟩
    rw [← HR2.out] at ho2
    have S1 := Lib.hid (And.intro ho2 (S0.out.2.trans hk2))
    clear ho2 hk2 a0_0 a0_2 a0_3 a0_4
    have a1_0 : w1.cell? ⟨b, 0, none⟩ = some (.iface qx (.pointer (some ⟨cx, 0, none⟩))) := S1.out.2.cell HB.out k0
    have a1_2 : w1.cell? ⟨b, 2, none⟩ = some (.iface qy (.pointer (some ⟨cy, 0, none⟩))) := S1.out.2.cell HB.out k2
    have a1_3 : w1.cell? ⟨b, 3, none⟩ = some (.iface qz (.pointer (some ⟨cz, 0, none⟩))) := S1.out.2.cell HB.out k3
    have a1_4 : w1.cell? ⟨b, 4, none⟩ = some (.iface qu (.pointer (some ⟨cu, 0, none⟩))) := S1.out.2.cell HB.out k4
    go_wp2_with fail
    refine (Iy.out d1 _ w1 iy _ (by rw [← HR3.out]; omega) S1.out.1 (Nat.le_trans hh S1.out.2.1) (S1.out.2.ex Hy.out)).mono ?_
    rintro e w2 ⟨rfl, ho2, hk2⟩
    rw [← HR3.out] at ho2
    have S2 := Lib.hid (And.intro ho2 (S1.out.2.trans hk2))
    clear ho2 hk2 a1_0 a1_2 a1_3 a1_4
    have a2_0 : w2.cell? ⟨b, 0, none⟩ = some (.iface qx (.pointer (some ⟨cx, 0, none⟩))) := S2.out.2.cell HB.out k0
    have a2_2 : w2.cell? ⟨b, 2, none⟩ = some (.iface qy (.pointer (some ⟨cy, 0, none⟩))) := S2.out.2.cell HB.out k2
    have a2_3 : w2.cell? ⟨b, 3, none⟩ = some (.iface qz (.pointer (some ⟨cz, 0, none⟩))) := S2.out.2.cell HB.out k3
    have a2_4 : w2.cell? ⟨b, 4, none⟩ = some (.iface qu (.pointer (some ⟨cu, 0, none⟩))) := S2.out.2.cell HB.out k4
    go_wp2_with fail
    refine (Iz.out d1 _ w2 iz _ (by rw [← HR4.out]; omega) S2.out.1 (Nat.le_trans hh S2.out.2.1) (S2.out.2.ex Hz.out)).mono ?_
    rintro e w3 ⟨rfl, ho2, hk2⟩
    rw [← HR4.out] at ho2
    have S3 := Lib.hid (And.intro ho2 (S2.out.2.trans hk2))
    clear ho2 hk2 a2_0 a2_2 a2_3 a2_4
    have a3_0 : w3.cell? ⟨b, 0, none⟩ = some (.iface qx (.pointer (some ⟨cx, 0, none⟩))) := S3.out.2.cell HB.out k0
    have a3_2 : w3.cell? ⟨b, 2, none⟩ = some (.iface qy (.pointer (some ⟨cy, 0, none⟩))) := S3.out.2.cell HB.out k2
    have a3_3 : w3.cell? ⟨b, 3, none⟩ = some (.iface qz (.pointer (some ⟨cz, 0, none⟩))) := S3.out.2.cell HB.out k3
    have a3_4 : w3.cell? ⟨b, 4, none⟩ = some (.iface qu (.pointer (some ⟨cu, 0, none⟩))) := S3.out.2.cell HB.out k4
    go_wp2_with fail
    refine (Iu.out d1 _ w3 iu _ (by rw [← HR5.out]; omega) S3.out.1 (Nat.le_trans hh S3.out.2.1) (S3.out.2.ex Hu.out)).mono ?_
    rintro e w4 ⟨rfl, ho2, hk2⟩
    rw [← HR5.out] at ho2
    have S4 := Lib.hid (And.intro ho2 (S3.out.2.trans hk2))
    clear ho2 hk2 a3_0 a3_2 a3_3 a3_4
    have a4_0 : w4.cell? ⟨b, 0, none⟩ = some (.iface qx (.pointer (some ⟨cx, 0, none⟩))) := S4.out.2.cell HB.out k0
    have a4_2 : w4.cell? ⟨b, 2, none⟩ = some (.iface qy (.pointer (some ⟨cy, 0, none⟩))) := S4.out.2.cell HB.out k2
    have a4_3 : w4.cell? ⟨b, 3, none⟩ = some (.iface qz (.pointer (some ⟨cz, 0, none⟩))) := S4.out.2.cell HB.out k3
    have a4_4 : w4.cell? ⟨b, 4, none⟩ = some (.iface qu (.pointer (some ⟨cu, 0, none⟩))) := S4.out.2.cell HB.out k4
    go_wp2_with fail
    have hn0 := S4.out.1
    rw [HD.out.1] at hn0
    have hn1 := HV.out.nil d _ o5 w4 (by rw [← HD.out.1]; omega) hn0 (Nat.le_trans hh S4.out.2.1)
    rw [← HD.out.1] at hn1
    clear hn0
    refine hn1.mono ?_
    clear hn1
    rintro e wz ⟨⟨r, rfl⟩, ho2, hk2⟩
    have SZ := Lib.hid (And.intro ho2 (S4.out.2.trans hk2))
    clear ho2 hk2 a4_0 a4_2 a4_3 a4_4
    go_wp2_with fail
    (try simp only [Exit.inBlock, Exit.then])
    refine bodyPost_ret (results_none rfl _ _ _) rfl ⟨rfl, ?_, SZ.out.2⟩
    rw [HE.out]
    exact SZ.out.1
  · rw [hst, if_neg Bool.false_ne_true] at he hob
    subst he
    have S0 := Lib.hid (And.intro hob hk1)
    have HE := Lib.hid (Nd.run_stop HD.out.2 hst)
    clear hob hk1 hst
    go_wp2_with fail
    (try simp only [Exit.inBlock, Exit.then])
    refine bodyPost_ret (results_none rfl _ _ _) rfl ⟨rfl, ?_, S0.out.2⟩
    rw [HE.out]
    exact S0.out.1
end
end Go.Proofs.YtjbhjbpamnoebaaGreatFmt

namespace Go.Proofs.YtjbhjbpamnoebaaGreatFmt
open Go.RowKit

section
variable {lo hi : Nat} {P : Nat → Int} {go : List Ev → Bool} {Vt : TypeId} {pay rc : Nat → Value} {fV : FuncId} {Out : List Ev → List (Nd × Nat) → World → Prop}
set_option maxHeartbeats 2000000 in
set_option maxRecDepth 100000 in
theorem wk_call (hV : VS lo hi P go Vt pay rc fV Out) (tx : ByteArray) (ad : Option Addr) (cp : Nat) (g : Nd) (ks : List Nd) (IHg : WOf lo hi P go Vt pay Out g) (IHs : ∀ k ∈ ks, WOf lo hi P go Vt pay Out k) (hlen : ks.length ≤ 400) (hsh : Nd.shapedB ⟨⟨#[99, 97, 108, 108]⟩, tx, ad, cp, (g :: ks)⟩ = true) (hsz : Nd.size ⟨⟨#[99, 97, 108, 108]⟩, tx, ad, cp, (g :: ks)⟩ ≤ 400) : WOf lo hi P go Vt pay Out ⟨⟨#[99, 97, 108, 108]⟩, tx, ad, cp, (g :: ks)⟩ := by
  intro d out W i v hbd ho hh hX
  have HX0 := Lib.hid (And.intro ho hX)
  obtain ⟨vs, hl, hn⟩ := hX
  obtain ⟨IS, hIS⟩ : ∃ IS, starts (kcode (⟨#[99, 97, 108, 108]⟩ : ByteArray)) tx (List.map Nd.ntok ((g :: ks))) i = IS := ⟨_, rfl⟩
  replace hl : ExL W (Rng lo hi) P IS ((g :: ks)) vs := hIS ▸ hl
  obtain ⟨b, hb, hv⟩ : NodeAt W (Rng lo hi) P 12 tx (List.map Nd.ntok ((g :: ks))) i _ vs v := hn
  obtain ⟨rfl, sv, hsl, hblk⟩ := hv
  obtain ⟨ig, isg, qg, cg, vg, rfl, rfl, hg, hlg⟩ := exl_cons' hl
  have hla := hlg
  replace hsl : SlAt W (Rng lo hi) sv vg := hsl
  obtain ⟨A0, n0, c0, rfl⟩ := hsl.form
  have k0 : W.cell? ⟨b, 0, none⟩ = some (.iface qg (.pointer (some ⟨cg, 0, none⟩))) := hblk.cell 0
  have k2 : W.cell? ⟨b, 2, none⟩ = some (.slice A0 n0 c0) := hblk.cell 2
  have HB := Lib.hid hb
  have HV := Lib.hid hV
  have hm := hV.meth
  have hent := hV.ent
  have HL := Lib.hid (And.intro hla hsl)
  have Is := Lib.hid IHs
  have Hg := Lib.hid hg
  have Ig := Lib.hid IHg
  show Calls _ _ #[.iface Vt (pay d.length), .iface 118 (.pointer (some ⟨b, 0, none⟩))] W _
  have HIS := Lib.hid hIS
  obtain ⟨d1, hd1⟩ : ∃ d1, d1 = d ++ [((⟨⟨#[99, 97, 108, 108]⟩, tx, ad, cp, (g :: ks)⟩ : Nd), i)] := ⟨_, rfl⟩
  obtain ⟨o1, ho1⟩ : ∃ o1, o1 = out ++ [((some ((⟨⟨#[99, 97, 108, 108]⟩, tx, ad, cp, (g :: ks)⟩ : Nd), i), d) : Ev)] := ⟨_, rfl⟩
  have hdl : d1.length ≤ d.length + 1 := by rw [hd1]; simp
  have hol : out.length + 1 ≤ o1.length := by rw [ho1]; simp
  have HD := Lib.hid (And.intro hd1 ho1)
  clear ho hblk hb hV hla hsl IHs hg IHg hl hlg hIS hd1 ho1
  go_enter Tryz.func18, Tryz.ntmps18
  have t0 := nd_CallExpr_Comment
  have t1 := nd_CallExpr_CommentGroup
  have t2 := nd_CallExpr_Field
  have t3 := nd_CallExpr_FieldList
  have t4 := nd_CallExpr_BadExpr
  have t5 := nd_CallExpr_Ident
  have t6 := nd_CallExpr_BasicLit
  have t7 := nd_CallExpr_Ellipsis
  have t8 := nd_CallExpr_FuncLit
  have t9 := nd_CallExpr_CompositeLit
  have t10 := nd_CallExpr_ParenExpr
  have t11 := nd_CallExpr_SelectorExpr
  have t12 := nd_CallExpr_IndexExpr
  have t13 := nd_CallExpr_IndexListExpr
  have t14 := nd_CallExpr_SliceExpr
  have t15 := nd_CallExpr_TypeAssertExpr
  have t16 := nd_CallExpr_CallExpr
  go_wp2_with fail
  refine (HV.out.node d out W i _ _ hsh hsz (by have := run_lt go (⟨⟨#[99, 97, 108, 108]⟩, tx, ad, cp, (g :: ks)⟩) d i out; omega) HX0.out.1 hh HX0.out.2).mono ?_
  rintro e w0 ⟨he, hob, hk1⟩
  rw [← HD.out.1, ← HD.out.2] at he hob
  cases hst : go o1 ; rotate_left
  · rw [hst, if_pos rfl] at he hob
    subst he
    have S0 := Lib.hid (And.intro hob hk1)
    have he := Nd.run_go (n := ⟨⟨#[99, 97, 108, 108]⟩, tx, ad, cp, (g :: ks)⟩) (i := i) HIS.out HD.out.1 HD.out.2 hst
    replace he : Nd.run go d i ⟨⟨#[99, 97, 108, 108]⟩, tx, ad, cp, (g :: ks)⟩ out = selRun go d1 12 (i + (List.map Nd.ntok ((g :: ks))).getD 0 0 + 1) tx (runL go d1 (ig :: isg) ((g :: ks)) o1) ++ [(none, d1)] := he
    rw [selRun_ne (by decide), runL_cons] at he
    obtain ⟨o2, hR2⟩ : ∃ o2, o2 = Nd.run go d1 ig g o1 := ⟨_, rfl⟩
    rw [← hR2] at he
    have hb2 : o1.length ≤ o2.length := by rw [hR2]; exact Nat.le_of_lt (run_lt go g d1 ig o1)
    have HR2 := Lib.hid hR2
    clear hR2
    obtain ⟨o3, hR3⟩ : ∃ o3, o3 = runL go d1 isg ks o2 := ⟨_, rfl⟩
    rw [← hR3] at he
    have hb3 : o2.length ≤ o3.length := by rw [hR3]; exact runL_le go ks d1 isg o2
    have HR3 := Lib.hid hR3
    clear hR3
    have hb1 := hbd.1
    have hbz : o3.length + 1 ≤ 5000 := by have h := hbd.2; rw [he, List.length_append] at h; exact h
    have HE := Lib.hid he
    clear hob hk1 hst he
    have a0_0 : w0.cell? ⟨b, 0, none⟩ = some (.iface qg (.pointer (some ⟨cg, 0, none⟩))) := S0.out.2.cell HB.out k0
    have a0_2 : w0.cell? ⟨b, 2, none⟩ = some (.slice A0 n0 c0) := S0.out.2.cell HB.out k2
    go_wp2_with fail
    refine (Ig.out d1 _ w0 ig _ (by rw [← HR2.out]; omega) S0.out.1 (Nat.le_trans hh S0.out.2.1) (S0.out.2.ex Hg.out)).mono ?_
    rintro e w1 ⟨rfl, ho2, hk2⟩
    rw [← HR2.out] at ho2
    have S1 := Lib.hid (And.intro ho2 (S0.out.2.trans hk2))
    clear ho2 hk2 a0_0 a0_2
    have a1_0 : w1.cell? ⟨b, 0, none⟩ = some (.iface qg (.pointer (some ⟨cg, 0, none⟩))) := S1.out.2.cell HB.out k0
    have a1_2 : w1.cell? ⟨b, 2, none⟩ = some (.slice A0 n0 c0) := S1.out.2.cell HB.out k2
    go_wp2_with fail
    refine (walkList_any ks Is.out hlen d1 _ w1 _ _ (by rw [← HR3.out]; omega) S1.out.1 (Nat.le_trans hh S1.out.2.1) (ExL.keep (fun b hb => S1.out.2.2 b hb.1 hb.2) (fun _ hs => hs) HL.out.1) _ (SlAt.keep HL.out.2 (fun b hb => S1.out.2.2 b hb.1 hb.2) (fun _ hs => hs)) _ _ _ rfl).mono ?_
    rintro e w2 ⟨rfl, ho2, hk2⟩
    rw [← HR3.out] at ho2
    have S2 := Lib.hid (And.intro ho2 (S1.out.2.trans hk2))
    clear ho2 hk2 a1_0 a1_2
    have a2_0 : w2.cell? ⟨b, 0, none⟩ = some (.iface qg (.pointer (some ⟨cg, 0, none⟩))) := S2.out.2.cell HB.out k0
    have a2_2 : w2.cell? ⟨b, 2, none⟩ = some (.slice A0 n0 c0) := S2.out.2.cell HB.out k2
    go_wp2_with fail
    have hn0 := S2.out.1
    rw [HD.out.1] at hn0
    have hn1 := HV.out.nil d _ o3 w2 (by rw [← HD.out.1]; omega) hn0 (Nat.le_trans hh S2.out.2.1)
    rw [← HD.out.1] at hn1
    clear hn0
    refine hn1.mono ?_
    clear hn1
    rintro e wz ⟨⟨r, rfl⟩, ho2, hk2⟩
    have SZ := Lib.hid (And.intro ho2 (S2.out.2.trans hk2))
    clear ho2 hk2 a2_0 a2_2
    go_wp2_with fail
    (try simp only [Exit.inBlock, Exit.then])
    refine bodyPost_ret (results_none rfl _ _ _) rfl ⟨rfl, ?_, SZ.out.2⟩
    rw [HE.out]
    exact SZ.out.1
  · rw [hst, if_neg Bool.false_ne_true] at he hob
    subst he
    have S0 := Lib.hid (And.intro hob hk1)
    have HE := Lib.hid (Nd.run_stop HD.out.2 hst)
    clear hob hk1 hst
    go_wp2_with fail
    (try simp only [Exit.inBlock, Exit.then])
    refine bodyPost_ret (results_none rfl _ _ _) rfl ⟨rfl, ?_, S0.out.2⟩
    rw [HE.out]
    exact S0.out.1

set_option maxHeartbeats 2000000 in
set_option maxRecDepth 100000 in
theorem wk_comp0 (hV : VS lo hi P go Vt pay rc fV Out) (ad : Option Addr) (cp : Nat)  (ks : List Nd)  (IHs : ∀ k ∈ ks, WOf lo hi P go Vt pay Out k) (hlen : ks.length ≤ 400) (hsh : Nd.shapedB ⟨⟨#[99, 111, 109, 112, 111, 115, 105, 116, 101]⟩, ⟨#[]⟩, ad, cp, ks⟩ = true) (hsz : Nd.size ⟨⟨#[99, 111, 109, 112, 111, 115, 105, 116, 101]⟩, ⟨#[]⟩, ad, cp, ks⟩ ≤ 400) : WOf lo hi P go Vt pay Out ⟨⟨#[99, 111, 109, 112, 111, 115, 105, 116, 101]⟩, ⟨#[]⟩, ad, cp, ks⟩ := by
  intro d out W i v hbd ho hh hX
  have HX0 := Lib.hid (And.intro ho hX)
  obtain ⟨vs, hl, hn⟩ := hX
  obtain ⟨IS, hIS⟩ : ∃ IS, starts (kcode (⟨#[99, 111, 109, 112, 111, 115, 105, 116, 101]⟩ : ByteArray)) ⟨#[]⟩ (List.map Nd.ntok (ks)) i = IS := ⟨_, rfl⟩
  replace hl : ExL W (Rng lo hi) P IS (ks) vs := hIS ▸ hl
  obtain ⟨b, hb, hv⟩ : NodeAt W (Rng lo hi) P 13 ⟨#[]⟩ (List.map Nd.ntok (ks)) i _ vs v := hn
  obtain ⟨rfl, sv, hsl, hblk⟩ := hv
  have hla := hl
  replace hsl : SlAt W (Rng lo hi) sv vs := hsl
  obtain ⟨A0, n0, c0, rfl⟩ := hsl.form
  have k0 : W.cell? ⟨b, 0, none⟩ = some (.nilIface) := hblk.cell 0
  have k2 : W.cell? ⟨b, 2, none⟩ = some (.slice A0 n0 c0) := hblk.cell 2
  have HB := Lib.hid hb
  have HV := Lib.hid hV
  have hm := hV.meth
  have hent := hV.ent
  have HL := Lib.hid (And.intro hla hsl)
  have Is := Lib.hid IHs
  show Calls _ _ #[.iface Vt (pay d.length), .iface 95 (.pointer (some ⟨b, 0, none⟩))] W _
  have HIS := Lib.hid hIS
  obtain ⟨d1, hd1⟩ : ∃ d1, d1 = d ++ [((⟨⟨#[99, 111, 109, 112, 111, 115, 105, 116, 101]⟩, ⟨#[]⟩, ad, cp, ks⟩ : Nd), i)] := ⟨_, rfl⟩
  obtain ⟨o1, ho1⟩ : ∃ o1, o1 = out ++ [((some ((⟨⟨#[99, 111, 109, 112, 111, 115, 105, 116, 101]⟩, ⟨#[]⟩, ad, cp, ks⟩ : Nd), i), d) : Ev)] := ⟨_, rfl⟩
  have hdl : d1.length ≤ d.length + 1 := by rw [hd1]; simp
  have hol : out.length + 1 ≤ o1.length := by rw [ho1]; simp
  have HD := Lib.hid (And.intro hd1 ho1)
  clear ho hblk hb hV hla hsl IHs hl hIS hd1 ho1
  go_enter Tryz.func18, Tryz.ntmps18
  have t0 := nd_CompositeLit_Comment
  have t1 := nd_CompositeLit_CommentGroup
  have t2 := nd_CompositeLit_Field
  have t3 := nd_CompositeLit_FieldList
  have t4 := nd_CompositeLit_BadExpr
  have t5 := nd_CompositeLit_Ident
  have t6 := nd_CompositeLit_BasicLit
  have t7 := nd_CompositeLit_Ellipsis
  have t8 := nd_CompositeLit_FuncLit
  have t9 := nd_CompositeLit_CompositeLit
  go_wp2_with fail
  refine (HV.out.node d out W i _ _ hsh hsz (by have := run_lt go (⟨⟨#[99, 111, 109, 112, 111, 115, 105, 116, 101]⟩, ⟨#[]⟩, ad, cp, ks⟩) d i out; omega) HX0.out.1 hh HX0.out.2).mono ?_
  rintro e w0 ⟨he, hob, hk1⟩
  rw [← HD.out.1, ← HD.out.2] at he hob
  cases hst : go o1 ; rotate_left
  · rw [hst, if_pos rfl] at he hob
    subst he
    have S0 := Lib.hid (And.intro hob hk1)
    have he := Nd.run_go (n := ⟨⟨#[99, 111, 109, 112, 111, 115, 105, 116, 101]⟩, ⟨#[]⟩, ad, cp, ks⟩) (i := i) HIS.out HD.out.1 HD.out.2 hst
    replace he : Nd.run go d i ⟨⟨#[99, 111, 109, 112, 111, 115, 105, 116, 101]⟩, ⟨#[]⟩, ad, cp, ks⟩ out = selRun go d1 13 (i + (List.map Nd.ntok (ks)).getD 0 0 + 1) ⟨#[]⟩ (runL go d1 IS (ks) o1) ++ [(none, d1)] := he
    rw [selRun_ne (by decide)] at he
    obtain ⟨o2, hR2⟩ : ∃ o2, o2 = runL go d1 IS ks o1 := ⟨_, rfl⟩
    rw [← hR2] at he
    have hb2 : o1.length ≤ o2.length := by rw [hR2]; exact runL_le go ks d1 IS o1
    have HR2 := Lib.hid hR2
    clear hR2
    have hb1 := hbd.1
    have hbz : o2.length + 1 ≤ 5000 := by have h := hbd.2; rw [he, List.length_append] at h; exact h
    have HE := Lib.hid he
    clear hob hk1 hst he
    have a0_0 : w0.cell? ⟨b, 0, none⟩ = some (.nilIface) := S0.out.2.cell HB.out k0
    have a0_2 : w0.cell? ⟨b, 2, none⟩ = some (.slice A0 n0 c0) := S0.out.2.cell HB.out k2
    go_wp2_with fail
    refine (walkList_any ks Is.out hlen d1 _ w0 _ _ (by rw [← HR2.out]; omega) S0.out.1 (Nat.le_trans hh S0.out.2.1) (ExL.keep (fun b hb => S0.out.2.2 b hb.1 hb.2) (fun _ hs => hs) HL.out.1) _ (SlAt.keep HL.out.2 (fun b hb => S0.out.2.2 b hb.1 hb.2) (fun _ hs => hs)) _ _ _ rfl).mono ?_
    rintro e w1 ⟨rfl, ho2, hk2⟩
    rw [← HR2.out] at ho2
    have S1 := Lib.hid (And.intro ho2 (S0.out.2.trans hk2))
    clear ho2 hk2 a0_0 a0_2
    have a1_0 : w1.cell? ⟨b, 0, none⟩ = some (.nilIface) := S1.out.2.cell HB.out k0
    have a1_2 : w1.cell? ⟨b, 2, none⟩ = some (.slice A0 n0 c0) := S1.out.2.cell HB.out k2
    go_wp2_with fail
    have hn0 := S1.out.1
    rw [HD.out.1] at hn0
    have hn1 := HV.out.nil d _ o2 w1 (by rw [← HD.out.1]; omega) hn0 (Nat.le_trans hh S1.out.2.1)
    rw [← HD.out.1] at hn1
    clear hn0
    refine hn1.mono ?_
    clear hn1
    rintro e wz ⟨⟨r, rfl⟩, ho2, hk2⟩
    have SZ := Lib.hid (And.intro ho2 (S1.out.2.trans hk2))
    clear ho2 hk2 a1_0 a1_2
    go_wp2_with fail
    (try simp only [Exit.inBlock, Exit.then])
    refine bodyPost_ret (results_none rfl _ _ _) rfl ⟨rfl, ?_, SZ.out.2⟩
    rw [HE.out]
    exact SZ.out.1
  · rw [hst, if_neg Bool.false_ne_true] at he hob
    subst he
    have S0 := Lib.hid (And.intro hob hk1)
    have HE := Lib.hid (Nd.run_stop HD.out.2 hst)
    clear hob hk1 hst
    go_wp2_with fail
    (try simp only [Exit.inBlock, Exit.then])
    refine bodyPost_ret (results_none rfl _ _ _) rfl ⟨rfl, ?_, S0.out.2⟩
    rw [HE.out]
    exact S0.out.1

set_option maxHeartbeats 2000000 in
set_option maxRecDepth 100000 in
theorem wk_compt (hV : VS lo hi P go Vt pay rc fV Out) (ad : Option Addr) (cp : Nat) (g : Nd) (ks : List Nd) (IHg : WOf lo hi P go Vt pay Out g) (IHs : ∀ k ∈ ks, WOf lo hi P go Vt pay Out k) (hlen : ks.length ≤ 400) (hsh : Nd.shapedB ⟨⟨#[99, 111, 109, 112, 111, 115, 105, 116, 101]⟩, ⟨#[116, 121, 112, 101]⟩, ad, cp, (g :: ks)⟩ = true) (hsz : Nd.size ⟨⟨#[99, 111, 109, 112, 111, 115, 105, 116, 101]⟩, ⟨#[116, 121, 112, 101]⟩, ad, cp, (g :: ks)⟩ ≤ 400) : WOf lo hi P go Vt pay Out ⟨⟨#[99, 111, 109, 112, 111, 115, 105, 116, 101]⟩, ⟨#[116, 121, 112, 101]⟩, ad, cp, (g :: ks)⟩ := by
  intro d out W i v hbd ho hh hX
  have HX0 := Lib.hid (And.intro ho hX)
  obtain ⟨vs, hl, hn⟩ := hX
  obtain ⟨IS, hIS⟩ : ∃ IS, starts (kcode (⟨#[99, 111, 109, 112, 111, 115, 105, 116, 101]⟩ : ByteArray)) ⟨#[116, 121, 112, 101]⟩ (List.map Nd.ntok ((g :: ks))) i = IS := ⟨_, rfl⟩
  replace hl : ExL W (Rng lo hi) P IS ((g :: ks)) vs := hIS ▸ hl
  obtain ⟨b, hb, hv⟩ : NodeAt W (Rng lo hi) P 13 ⟨#[116, 121, 112, 101]⟩ (List.map Nd.ntok ((g :: ks))) i _ vs v := hn
  obtain ⟨rfl, sv, hsl, hblk⟩ := hv
  obtain ⟨ig, isg, qg, cg, vg, rfl, rfl, hg, hlg⟩ := exl_cons' hl
  have hla := hlg
  replace hsl : SlAt W (Rng lo hi) sv vg := hsl
  obtain ⟨A0, n0, c0, rfl⟩ := hsl.form
  have k0 : W.cell? ⟨b, 0, none⟩ = some (.iface qg (.pointer (some ⟨cg, 0, none⟩))) := hblk.cell 0
  have k2 : W.cell? ⟨b, 2, none⟩ = some (.slice A0 n0 c0) := hblk.cell 2
  have HB := Lib.hid hb
  have HV := Lib.hid hV
  have hm := hV.meth
  have hent := hV.ent
  have HL := Lib.hid (And.intro hla hsl)
  have Is := Lib.hid IHs
  have Hg := Lib.hid hg
  have Ig := Lib.hid IHg
  show Calls _ _ #[.iface Vt (pay d.length), .iface 95 (.pointer (some ⟨b, 0, none⟩))] W _
  have HIS := Lib.hid hIS
  obtain ⟨d1, hd1⟩ : ∃ d1, d1 = d ++ [((⟨⟨#[99, 111, 109, 112, 111, 115, 105, 116, 101]⟩, ⟨#[116, 121, 112, 101]⟩, ad, cp, (g :: ks)⟩ : Nd), i)] := ⟨_, rfl⟩
  obtain ⟨o1, ho1⟩ : ∃ o1, o1 = out ++ [((some ((⟨⟨#[99, 111, 109, 112, 111, 115, 105, 116, 101]⟩, ⟨#[116, 121, 112, 101]⟩, ad, cp, (g :: ks)⟩ : Nd), i), d) : Ev)] := ⟨_, rfl⟩
  have hdl : d1.length ≤ d.length + 1 := by rw [hd1]; simp
  have hol : out.length + 1 ≤ o1.length := by rw [ho1]; simp
  have HD := Lib.hid (And.intro hd1 ho1)
  clear ho hblk hb hV hla hsl IHs hg IHg hl hlg hIS hd1 ho1
  go_enter Tryz.func18, Tryz.ntmps18
  have t0 := nd_CompositeLit_Comment
  have t1 := nd_CompositeLit_CommentGroup
  have t2 := nd_CompositeLit_Field
  have t3 := nd_CompositeLit_FieldList
  have t4 := nd_CompositeLit_BadExpr
  have t5 := nd_CompositeLit_Ident
  have t6 := nd_CompositeLit_BasicLit
  have t7 := nd_CompositeLit_Ellipsis
  have t8 := nd_CompositeLit_FuncLit
  have t9 := nd_CompositeLit_CompositeLit
  go_wp2_with fail
  refine (HV.out.node d out W i _ _ hsh hsz (by have := run_lt go (⟨⟨#[99, 111, 109, 112, 111, 115, 105, 116, 101]⟩, ⟨#[116, 121, 112, 101]⟩, ad, cp, (g :: ks)⟩) d i out; omega) HX0.out.1 hh HX0.out.2).mono ?_
  rintro e w0 ⟨he, hob, hk1⟩
  rw [← HD.out.1, ← HD.out.2] at he hob
  cases hst : go o1 ; rotate_left
  · rw [hst, if_pos rfl] at he hob
    subst he
    have S0 := Lib.hid (And.intro hob hk1)
    have he := Nd.run_go (n := ⟨⟨#[99, 111, 109, 112, 111, 115, 105, 116, 101]⟩, ⟨#[116, 121, 112, 101]⟩, ad, cp, (g :: ks)⟩) (i := i) HIS.out HD.out.1 HD.out.2 hst
    replace he : Nd.run go d i ⟨⟨#[99, 111, 109, 112, 111, 115, 105, 116, 101]⟩, ⟨#[116, 121, 112, 101]⟩, ad, cp, (g :: ks)⟩ out = selRun go d1 13 (i + (List.map Nd.ntok ((g :: ks))).getD 0 0 + 1) ⟨#[116, 121, 112, 101]⟩ (runL go d1 (ig :: isg) ((g :: ks)) o1) ++ [(none, d1)] := he
    rw [selRun_ne (by decide), runL_cons] at he
    obtain ⟨o2, hR2⟩ : ∃ o2, o2 = Nd.run go d1 ig g o1 := ⟨_, rfl⟩
    rw [← hR2] at he
    have hb2 : o1.length ≤ o2.length := by rw [hR2]; exact Nat.le_of_lt (run_lt go g d1 ig o1)
    have HR2 := Lib.hid hR2
    clear hR2
    obtain ⟨o3, hR3⟩ : ∃ o3, o3 = runL go d1 isg ks o2 := ⟨_, rfl⟩
    rw [← hR3] at he
    have hb3 : o2.length ≤ o3.length := by rw [hR3]; exact runL_le go ks d1 isg o2
    have HR3 := Lib.hid hR3
    clear hR3
    have hb1 := hbd.1
    have hbz : o3.length + 1 ≤ 5000 := by have h := hbd.2; rw [he, List.length_append] at h; exact h
    have HE := Lib.hid he
    clear hob hk1 hst he
    have a0_0 : w0.cell? ⟨b, 0, none⟩ = some (.iface qg (.pointer (some ⟨cg, 0, none⟩))) := S0.out.2.cell HB.out k0
    have a0_2 : w0.cell? ⟨b, 2, none⟩ = some (.slice A0 n0 c0) := S0.out.2.cell HB.out k2
    go_wp2_with fail
    refine (Ig.out d1 _ w0 ig _ (by rw [← HR2.out]; omega) S0.out.1 (Nat.le_trans hh S0.out.2.1) (S0.out.2.ex Hg.out)).mono ?_
    rintro e w1 ⟨rfl, ho2, hk2⟩
    rw [← HR2.out] at ho2
    have S1 := Lib.hid (And.intro ho2 (S0.out.2.trans hk2))
    clear ho2 hk2 a0_0 a0_2
    have a1_0 : w1.cell? ⟨b, 0, none⟩ = some (.iface qg (.pointer (some ⟨cg, 0, none⟩))) := S1.out.2.cell HB.out k0
    have a1_2 : w1.cell? ⟨b, 2, none⟩ = some (.slice A0 n0 c0) := S1.out.2.cell HB.out k2
    go_wp2_with fail
    refine (walkList_any ks Is.out hlen d1 _ w1 _ _ (by rw [← HR3.out]; omega) S1.out.1 (Nat.le_trans hh S1.out.2.1) (ExL.keep (fun b hb => S1.out.2.2 b hb.1 hb.2) (fun _ hs => hs) HL.out.1) _ (SlAt.keep HL.out.2 (fun b hb => S1.out.2.2 b hb.1 hb.2) (fun _ hs => hs)) _ _ _ rfl).mono ?_
    rintro e w2 ⟨rfl, ho2, hk2⟩
    rw [← HR3.out] at ho2
    have S2 := Lib.hid (And.intro ho2 (S1.out.2.trans hk2))
    clear ho2 hk2 a1_0 a1_2
    have a2_0 : w2.cell? ⟨b, 0, none⟩ = some (.iface qg (.pointer (some ⟨cg, 0, none⟩))) := S2.out.2.cell HB.out k0
    have a2_2 : w2.cell? ⟨b, 2, none⟩ = some (.slice A0 n0 c0) := S2.out.2.cell HB.out k2
    go_wp2_with fail
    have hn0 := S2.out.1
    rw [HD.out.1] at hn0
    have hn1 := HV.out.nil d _ o3 w2 (by rw [← HD.out.1]; omega) hn0 (Nat.le_trans hh S2.out.2.1)
    rw [← HD.out.1] at hn1
    clear hn0
    refine hn1.mono ?_
    clear hn1
    rintro e wz ⟨⟨r, rfl⟩, ho2, hk2⟩
    have SZ := Lib.hid (And.intro ho2 (S2.out.2.trans hk2))
    clear ho2 hk2 a2_0 a2_2
    go_wp2_with fail
    (try simp only [Exit.inBlock, Exit.then])
    refine bodyPost_ret (results_none rfl _ _ _) rfl ⟨rfl, ?_, SZ.out.2⟩
    rw [HE.out]
    exact SZ.out.1
  · rw [hst, if_neg Bool.false_ne_true] at he hob
    subst he
    have S0 := Lib.hid (And.intro hob hk1)
    have HE := Lib.hid (Nd.run_stop HD.out.2 hst)
    clear hob hk1 hst
    go_wp2_with fail
    (try simp only [Exit.inBlock, Exit.then])
    refine bodyPost_ret (results_none rfl _ _ _) rfl ⟨rfl, ?_, S0.out.2⟩
    rw [HE.out]
    exact S0.out.1
end
end Go.Proofs.YtjbhjbpamnoebaaGreatFmt
