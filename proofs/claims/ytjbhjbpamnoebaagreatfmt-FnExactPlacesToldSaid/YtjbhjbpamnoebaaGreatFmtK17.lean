/-
  ast.Walk: two expressions below, and selectors.
-/
import Derived.Test.YtjbhjbpamnoebaaGreatFmtK16
namespace Go.Proofs.YtjbhjbpamnoebaaGreatFmt
open Go.RowKit

theorem sel_name {w : World} {S : Nat → Prop} {P : Nat → Int} {j b : Nat} {tx : ByteArray} (hb : S b) (h : Blk w b 273 #[int (P j), .string tx, .pointer none]) : ExR w S P j (nmNd tx) (.iface 80 (.pointer (some ⟨b, 0, none⟩))) :=
  ⟨[], trivial, b, hb, rfl, h⟩

section
variable {lo hi : Nat} {P : Nat → Int} {go : List Ev → Bool} {Vt : TypeId} {pay rc : Nat → Value} {fV : FuncId} {Out : List Ev → List (Nd × Nat) → World → Prop}
set_option maxHeartbeats 2000000 in
set_option maxRecDepth 100000 in
theorem wk_binary (hV : VS lo hi P go Vt pay rc fV Out) (tx : ByteArray) (ad : Option Addr) (cp : Nat) (x : Nd) (y : Nd) (IHx : WOf lo hi P go Vt pay Out x) (IHy : WOf lo hi P go Vt pay Out y) (hsh : Nd.shapedB ⟨⟨#[98, 105, 110, 97, 114, 121]⟩, tx, ad, cp, [x, y]⟩ = true) (hsz : Nd.size ⟨⟨#[98, 105, 110, 97, 114, 121]⟩, tx, ad, cp, [x, y]⟩ ≤ 400) : WOf lo hi P go Vt pay Out ⟨⟨#[98, 105, 110, 97, 114, 121]⟩, tx, ad, cp, [x, y]⟩ := by
  intro d out W i v hbd ho hh hX
  have HX0 := Lib.hid (And.intro ho hX)
  obtain ⟨vs, hl, hn⟩ := hX
  obtain ⟨IS, hIS⟩ : ∃ IS, starts (kcode (⟨#[98, 105, 110, 97, 114, 121]⟩ : ByteArray)) tx (List.map Nd.ntok ([x, y])) i = IS := ⟨_, rfl⟩
  replace hl : ExL W (Rng lo hi) P IS ([x, y]) vs := hIS ▸ hl
  obtain ⟨b, hb, hv⟩ : NodeAt W (Rng lo hi) P 5 tx (List.map Nd.ntok ([x, y])) i _ vs v := hn
  obtain ⟨rfl, hblk⟩ := hv
  obtain ⟨ix, isx, qx, cx, vx, rfl, rfl, hx, hlx⟩ := exl_cons' hl
  obtain ⟨iy, isy, qy, cy, vy, rfl, rfl, hy, hly⟩ := exl_cons' hlx
  obtain rfl := exl_nil hly
  have k0 : W.cell? ⟨b, 0, none⟩ = some (.iface qx (.pointer (some ⟨cx, 0, none⟩))) := hblk.cell 0
  have k3 : W.cell? ⟨b, 3, none⟩ = some (.iface qy (.pointer (some ⟨cy, 0, none⟩))) := hblk.cell 3
  have HB := Lib.hid hb
  have HV := Lib.hid hV
  have hm := hV.meth
  have hent := hV.ent
  have Hx := Lib.hid hx
  have Ix := Lib.hid IHx
  have Hy := Lib.hid hy
  have Iy := Lib.hid IHy
  show Calls _ _ #[.iface Vt (pay d.length), .iface 128 (.pointer (some ⟨b, 0, none⟩))] W _
  have HIS := Lib.hid hIS
  obtain ⟨d1, hd1⟩ : ∃ d1, d1 = d ++ [((⟨⟨#[98, 105, 110, 97, 114, 121]⟩, tx, ad, cp, [x, y]⟩ : Nd), i)] := ⟨_, rfl⟩
  obtain ⟨o1, ho1⟩ : ∃ o1, o1 = out ++ [((some ((⟨⟨#[98, 105, 110, 97, 114, 121]⟩, tx, ad, cp, [x, y]⟩ : Nd), i), d) : Ev)] := ⟨_, rfl⟩
  have hdl : d1.length ≤ d.length + 1 := by rw [hd1]; simp
  have hol : out.length + 1 ≤ o1.length := by rw [ho1]; simp
  have HD := Lib.hid (And.intro hd1 ho1)
  clear ho hblk hb hV hx IHx hy IHy hl hlx hly hIS hd1 ho1
  go_enter Tryz.func18, Tryz.ntmps18
  have t0 := nd_BinaryExpr_Comment
  have t1 := nd_BinaryExpr_CommentGroup
  have t2 := nd_BinaryExpr_Field
  have t3 := nd_BinaryExpr_FieldList
  have t4 := nd_BinaryExpr_BadExpr
  have t5 := nd_BinaryExpr_Ident
  have t6 := nd_BinaryExpr_BasicLit
  have t7 := nd_BinaryExpr_Ellipsis
  have t8 := nd_BinaryExpr_FuncLit
  have t9 := nd_BinaryExpr_CompositeLit
  have t10 := nd_BinaryExpr_ParenExpr
  have t11 := nd_BinaryExpr_SelectorExpr
  have t12 := nd_BinaryExpr_IndexExpr
  have t13 := nd_BinaryExpr_IndexListExpr
  have t14 := nd_BinaryExpr_SliceExpr
  have t15 := nd_BinaryExpr_TypeAssertExpr
  have t16 := nd_BinaryExpr_CallExpr
  have t17 := nd_BinaryExpr_StarExpr
  have t18 := nd_BinaryExpr_UnaryExpr
  have t19 := nd_BinaryExpr_BinaryExpr
  go_wp2_with fail
  refine (HV.out.node d out W i _ _ hsh hsz (by have := run_lt go (⟨⟨#[98, 105, 110, 97, 114, 121]⟩, tx, ad, cp, [x, y]⟩) d i out; omega) HX0.out.1 hh HX0.out.2).mono ?_
  rintro e w0 ⟨he, hob, hk1⟩
  rw [← HD.out.1, ← HD.out.2] at he hob
  cases hst : go o1 ; rotate_left
  · rw [hst, if_pos rfl] at he hob
    subst he
    have S0 := Lib.hid (And.intro hob hk1)
    have he := Nd.run_go (n := ⟨⟨#[98, 105, 110, 97, 114, 121]⟩, tx, ad, cp, [x, y]⟩) (i := i) HIS.out HD.out.1 HD.out.2 hst
    replace he : Nd.run go d i ⟨⟨#[98, 105, 110, 97, 114, 121]⟩, tx, ad, cp, [x, y]⟩ out = selRun go d1 5 (i + (List.map Nd.ntok ([x, y])).getD 0 0 + 1) tx (runL go d1 (ix :: iy :: isy) ([x, y]) o1) ++ [(none, d1)] := he
    rw [selRun_ne (by decide), runL_cons, runL_cons, runL_nil] at he
    obtain ⟨o2, hR2⟩ : ∃ o2, o2 = Nd.run go d1 ix x o1 := ⟨_, rfl⟩
    rw [← hR2] at he
    have hb2 : o1.length ≤ o2.length := by rw [hR2]; exact Nat.le_of_lt (run_lt go x d1 ix o1)
    have HR2 := Lib.hid hR2
    clear hR2
    obtain ⟨o3, hR3⟩ : ∃ o3, o3 = Nd.run go d1 iy y o2 := ⟨_, rfl⟩
    rw [← hR3] at he
    have hb3 : o2.length ≤ o3.length := by rw [hR3]; exact Nat.le_of_lt (run_lt go y d1 iy o2)
    have HR3 := Lib.hid hR3
    clear hR3
    have hb1 := hbd.1
    have hbz : o3.length + 1 ≤ 5000 := by have h := hbd.2; rw [he, List.length_append] at h; exact h
    have HE := Lib.hid he
    clear hob hk1 hst he
    have a0_0 : w0.cell? ⟨b, 0, none⟩ = some (.iface qx (.pointer (some ⟨cx, 0, none⟩))) := S0.out.2.cell HB.out k0
    have a0_3 : w0.cell? ⟨b, 3, none⟩ = some (.iface qy (.pointer (some ⟨cy, 0, none⟩))) := S0.out.2.cell HB.out k3
    go_wp2_with fail
    refine (Ix.out d1 _ w0 ix _ (by rw [← HR2.out]; omega) S0.out.1 (Nat.le_trans hh S0.out.2.1) (S0.out.2.ex Hx.out)).mono ?_
    rintro e w1 ⟨rfl, ho2, hk2⟩
    rw [← HR2.out] at ho2
    have S1 := Lib.hid (And.intro ho2 (S0.out.2.trans hk2))
    clear ho2 hk2 a0_0 a0_3
    have a1_0 : w1.cell? ⟨b, 0, none⟩ = some (.iface qx (.pointer (some ⟨cx, 0, none⟩))) := S1.out.2.cell HB.out k0
    have a1_3 : w1.cell? ⟨b, 3, none⟩ = some (.iface qy (.pointer (some ⟨cy, 0, none⟩))) := S1.out.2.cell HB.out k3
    go_wp2_with fail
    refine (Iy.out d1 _ w1 iy _ (by rw [← HR3.out]; omega) S1.out.1 (Nat.le_trans hh S1.out.2.1) (S1.out.2.ex Hy.out)).mono ?_
    rintro e w2 ⟨rfl, ho2, hk2⟩
    rw [← HR3.out] at ho2
    have S2 := Lib.hid (And.intro ho2 (S1.out.2.trans hk2))
    clear ho2 hk2 a1_0 a1_3
    have a2_0 : w2.cell? ⟨b, 0, none⟩ = some (.iface qx (.pointer (some ⟨cx, 0, none⟩))) := S2.out.2.cell HB.out k0
    have a2_3 : w2.cell? ⟨b, 3, none⟩ = some (.iface qy (.pointer (some ⟨cy, 0, none⟩))) := S2.out.2.cell HB.out k3
    go_wp2_with fail
    have hn0 := S2.out.1
    rw [HD.out.1] at hn0
    have hn1 := HV.out.nil d _ o3 w2 (by rw [← HD.out.1]; omega) hn0 (Nat.le_trans hh S2.out.2.1)
    rw [← HD.out.1] at hn1
    clear hn0
    refine hn1.mono ?_
    clear hn1
    rintro e wz ⟨⟨r, rfl⟩, ho2, hk2⟩
    have SZ := Lib.hid (And.intro ho2 (S2.out.2.trans hk2))
    clear ho2 hk2 a2_0 a2_3
    go_wp2_with fail
    (try simp only [Exit.inBlock, Exit.then])
    refine bodyPost_ret (results_none rfl _ _ _) rfl ⟨rfl, ?_, SZ.out.2⟩
    rw [HE.out]
    exact SZ.out.1
  · rw [hst, if_neg Bool.false_ne_true] at he hob
    subst he
    have S0 := Lib.hid (And.intro hob hk1)
    have HE := Lib.hid (Nd.run_stop HD.out.2 hst)
    clear hob hk1 hst
    go_wp2_with fail
    (try simp only [Exit.inBlock, Exit.then])
    refine bodyPost_ret (results_none rfl _ _ _) rfl ⟨rfl, ?_, S0.out.2⟩
    rw [HE.out]
    exact S0.out.1

set_option maxHeartbeats 2000000 in
set_option maxRecDepth 100000 in
theorem wk_index (hV : VS lo hi P go Vt pay rc fV Out) (ad : Option Addr) (cp : Nat) (x : Nd) (y : Nd) (IHx : WOf lo hi P go Vt pay Out x) (IHy : WOf lo hi P go Vt pay Out y) (hsh : Nd.shapedB ⟨⟨#[105, 110, 100, 101, 120]⟩, ⟨#[]⟩, ad, cp, [x, y]⟩ = true) (hsz : Nd.size ⟨⟨#[105, 110, 100, 101, 120]⟩, ⟨#[]⟩, ad, cp, [x, y]⟩ ≤ 400) : WOf lo hi P go Vt pay Out ⟨⟨#[105, 110, 100, 101, 120]⟩, ⟨#[]⟩, ad, cp, [x, y]⟩ := by
  intro d out W i v hbd ho hh hX
  have HX0 := Lib.hid (And.intro ho hX)
  obtain ⟨vs, hl, hn⟩ := hX
  obtain ⟨IS, hIS⟩ : ∃ IS, starts (kcode (⟨#[105, 110, 100, 101, 120]⟩ : ByteArray)) ⟨#[]⟩ (List.map Nd.ntok ([x, y])) i = IS := ⟨_, rfl⟩
  replace hl : ExL W (Rng lo hi) P IS ([x, y]) vs := hIS ▸ hl
  obtain ⟨b, hb, hv⟩ : NodeAt W (Rng lo hi) P 7 ⟨#[]⟩ (List.map Nd.ntok ([x, y])) i _ vs v := hn
  obtain ⟨rfl, hblk⟩ := hv
  obtain ⟨ix, isx, qx, cx, vx, rfl, rfl, hx, hlx⟩ := exl_cons' hl
  obtain ⟨iy, isy, qy, cy, vy, rfl, rfl, hy, hly⟩ := exl_cons' hlx
  obtain rfl := exl_nil hly
  have k0 : W.cell? ⟨b, 0, none⟩ = some (.iface qx (.pointer (some ⟨cx, 0, none⟩))) := hblk.cell 0
  have k2 : W.cell? ⟨b, 2, none⟩ = some (.iface qy (.pointer (some ⟨cy, 0, none⟩))) := hblk.cell 2
  have HB := Lib.hid hb
  have HV := Lib.hid hV
  have hm := hV.meth
  have hent := hV.ent
  have Hx := Lib.hid hx
  have Ix := Lib.hid IHx
  have Hy := Lib.hid hy
  have Iy := Lib.hid IHy
  show Calls _ _ #[.iface Vt (pay d.length), .iface 106 (.pointer (some ⟨b, 0, none⟩))] W _
  have HIS := Lib.hid hIS
  obtain ⟨d1, hd1⟩ : ∃ d1, d1 = d ++ [((⟨⟨#[105, 110, 100, 101, 120]⟩, ⟨#[]⟩, ad, cp, [x, y]⟩ : Nd), i)] := ⟨_, rfl⟩
  obtain ⟨o1, ho1⟩ : ∃ o1, o1 = out ++ [((some ((⟨⟨#[105, 110, 100, 101, 120]⟩, ⟨#[]⟩, ad, cp, [x, y]⟩ : Nd), i), d) : Ev)] := ⟨_, rfl⟩
  have hdl : d1.length ≤ d.length + 1 := by rw [hd1]; simp
  have hol : out.length + 1 ≤ o1.length := by rw [ho1]; simp
  have HD := Lib.hid (And.intro hd1 ho1)
  clear ho hblk hb hV hx IHx hy IHy hl hlx hly hIS hd1 ho1
  go_enter Tryz.func18, Tryz.ntmps18
  have t0 := nd_IndexExpr_Comment
  have t1 := nd_IndexExpr_CommentGroup
  have t2 := nd_IndexExpr_Field
  have t3 := nd_IndexExpr_FieldList
  have t4 := nd_IndexExpr_BadExpr
  have t5 := nd_IndexExpr_Ident
  have t6 := nd_IndexExpr_BasicLit
  have t7 := nd_IndexExpr_Ellipsis
  have t8 := nd_IndexExpr_FuncLit
  have t9 := nd_IndexExpr_CompositeLit
  have t10 := nd_IndexExpr_ParenExpr
  have t11 := nd_IndexExpr_SelectorExpr
  have t12 := nd_IndexExpr_IndexExpr
  go_wp2_with fail
  refine (HV.out.node d out W i _ _ hsh hsz (by have := run_lt go (⟨⟨#[105, 110, 100, 101, 120]⟩, ⟨#[]⟩, ad, cp, [x, y]⟩) d i out; omega) HX0.out.1 hh HX0.out.2).mono ?_
  rintro e w0 ⟨he, hob, hk1⟩
  rw [← HD.out.1, ← HD.out.2] at he hob
  cases hst : go o1 ; rotate_left
  · rw [hst, if_pos rfl] at he hob
    subst he
    have S0 := Lib.hid (And.intro hob hk1)
    have he := Nd.run_go (n := ⟨⟨#[105, 110, 100, 101, 120]⟩, ⟨#[]⟩, ad, cp, [x, y]⟩) (i := i) HIS.out HD.out.1 HD.out.2 hst
    replace he : Nd.run go d i ⟨⟨#[105, 110, 100, 101, 120]⟩, ⟨#[]⟩, ad, cp, [x, y]⟩ out = selRun go d1 7 (i + (List.map Nd.ntok ([x, y])).getD 0 0 + 1) ⟨#[]⟩ (runL go d1 (ix :: iy :: isy) ([x, y]) o1) ++ [(none, d1)] := he
    rw [selRun_ne (by decide), runL_cons, runL_cons, runL_nil] at he
    obtain ⟨o2, hR2⟩ : ∃ o2, o2 = Nd.run go d1 ix x o1 := ⟨_, rfl⟩
    rw [← hR2] at he
    have hb2 : o1.length ≤ o2.length := by rw [hR2]; exact Nat.le_of_lt (run_lt go x d1 ix o1)
    have HR2 := Lib.hid hR2
    clear hR2
    obtain ⟨o3, hR3⟩ : ∃ o3, o3 = Nd.run go d1 iy y o2 := ⟨_, rfl⟩
    rw [← hR3] at he
    have hb3 : o2.length ≤ o3.length := by rw [hR3]; exact Nat.le_of_lt (run_lt go y d1 iy o2)
    have HR3 := Lib.hid hR3
    clear hR3
    have hb1 := hbd.1
    have hbz : o3.length + 1 ≤ 5000 := by have h := hbd.2; rw [he, List.length_append] at h; exact h
    have HE := Lib.hid he
    clear hob hk1 hst he
    have a0_0 : w0.cell? ⟨b, 0, none⟩ = some (.iface qx (.pointer (some ⟨cx, 0, none⟩))) := S0.out.2.cell HB.out k0
    have a0_2 : w0.cell? ⟨b, 2, none⟩ = some (.iface qy (.pointer (some ⟨cy, 0, none⟩))) := S0.out.2.cell HB.out k2
    go_wp2_with fail
    refine (Ix.out d1 _ w0 ix _ (by rw [← HR2.out]; omega) S0.out.1 (Nat.le_trans hh S0.out.2.1) (S0.out.2.ex Hx.out)).mono ?_
    rintro e w1 ⟨rfl, ho2, hk2⟩
    rw [← HR2.out] at ho2
    have S1 := Lib.hid (And.intro ho2 (S0.out.2.trans hk2))
    clear ho2 hk2 a0_0 a0_2
    have a1_0 : w1.cell? ⟨b, 0, none⟩ = some (.iface qx (.pointer (some ⟨cx, 0, none⟩))) := S1.out.2.cell HB.out k0
    have a1_2 : w1.cell? ⟨b, 2, none⟩ = some (.iface qy (.pointer (some ⟨cy, 0, none⟩))) := S1.out.2.cell HB.out k2
    go_wp2_with fail
    refine (Iy.out d1 _ w1 iy _ (by rw [← HR3.out]; omega) S1.out.1 (Nat.le_trans hh S1.out.2.1) (S1.out.2.ex Hy.out)).mono ?_
    rintro e w2 ⟨rfl, ho2, hk2⟩
    rw [← HR3.out] at ho2
    have S2 := Lib.hid (And.intro ho2 (S1.out.2.trans hk2))
    clear ho2 hk2 a1_0 a1_2
    have a2_0 : w2.cell? ⟨b, 0, none⟩ = some (.iface qx (.pointer (some ⟨cx, 0, none⟩))) := S2.out.2.cell HB.out k0
    have a2_2 : w2.cell? ⟨b, 2, none⟩ = some (.iface qy (.pointer (some ⟨cy, 0, none⟩))) := S2.out.2.cell HB.out k2
    go_wp2_with fail
    have hn0 := S2.out.1
    rw [HD.out.1] at hn0
    have hn1 := HV.out.nil d _ o3 w2 (by rw [← HD.out.1]; omega) hn0 (Nat.le_trans hh S2.out.2.1)
    rw [← HD.out.1] at hn1
    clear hn0
    refine hn1.mono ?_
    clear hn1
    rintro e wz ⟨⟨r, rfl⟩, ho2, hk2⟩
    have SZ := Lib.hid (And.intro ho2 (S2.out.2.trans hk2))
    clear ho2 hk2 a2_0 a2_2
    go_wp2_with fail
    (try simp only [Exit.inBlock, Exit.then])
    refine bodyPost_ret (results_none rfl _ _ _) rfl ⟨rfl, ?_, SZ.out.2⟩
    rw [HE.out]
    exact SZ.out.1
  · rw [hst, if_neg Bool.false_ne_true] at he hob
    subst he
    have S0 := Lib.hid (And.intro hob hk1)
    have HE := Lib.hid (Nd.run_stop HD.out.2 hst)
    clear hob hk1 hst
    go_wp2_with fail
    (try simp only [Exit.inBlock, Exit.then])
    refine bodyPost_ret (results_none rfl _ _ _) rfl ⟨rfl, ?_, S0.out.2⟩
    rw [HE.out]
    exact S0.out.1

set_option maxHeartbeats 2000000 in
set_option maxRecDepth 100000 in
theorem wk_assert (hV : VS lo hi P go Vt pay rc fV Out) (ad : Option Addr) (cp : Nat) (x : Nd) (y : Nd) (IHx : WOf lo hi P go Vt pay Out x) (IHy : WOf lo hi P go Vt pay Out y) (hsh : Nd.shapedB ⟨⟨#[97, 115, 115, 101, 114, 116]⟩, ⟨#[]⟩, ad, cp, [x, y]⟩ = true) (hsz : Nd.size ⟨⟨#[97, 115, 115, 101, 114, 116]⟩, ⟨#[]⟩, ad, cp, [x, y]⟩ ≤ 400) : WOf lo hi P go Vt pay Out ⟨⟨#[97, 115, 115, 101, 114, 116]⟩, ⟨#[]⟩, ad, cp, [x, y]⟩ := by
  intro d out W i v hbd ho hh hX
  have HX0 := Lib.hid (And.intro ho hX)
  obtain ⟨vs, hl, hn⟩ := hX
  obtain ⟨IS, hIS⟩ : ∃ IS, starts (kcode (⟨#[97, 115, 115, 101, 114, 116]⟩ : ByteArray)) ⟨#[]⟩ (List.map Nd.ntok ([x, y])) i = IS := ⟨_, rfl⟩
  replace hl : ExL W (Rng lo hi) P IS ([x, y]) vs := hIS ▸ hl
  obtain ⟨b, hb, hv⟩ : NodeAt W (Rng lo hi) P 8 ⟨#[]⟩ (List.map Nd.ntok ([x, y])) i _ vs v := hn
  obtain ⟨rfl, hblk⟩ := hv
  obtain ⟨ix, isx, qx, cx, vx, rfl, rfl, hx, hlx⟩ := exl_cons' hl
  obtain ⟨iy, isy, qy, cy, vy, rfl, rfl, hy, hly⟩ := exl_cons' hlx
  obtain rfl := exl_nil hly
  have k0 : W.cell? ⟨b, 0, none⟩ = some (.iface qx (.pointer (some ⟨cx, 0, none⟩))) := hblk.cell 0
  have k2 : W.cell? ⟨b, 2, none⟩ = some (.iface qy (.pointer (some ⟨cy, 0, none⟩))) := hblk.cell 2
  have HB := Lib.hid hb
  have HV := Lib.hid hV
  have hm := hV.meth
  have hent := hV.ent
  have Hx := Lib.hid hx
  have Ix := Lib.hid IHx
  have Hy := Lib.hid hy
  have Iy := Lib.hid IHy
  show Calls _ _ #[.iface Vt (pay d.length), .iface 115 (.pointer (some ⟨b, 0, none⟩))] W _
  have HIS := Lib.hid hIS
  obtain ⟨d1, hd1⟩ : ∃ d1, d1 = d ++ [((⟨⟨#[97, 115, 115, 101, 114, 116]⟩, ⟨#[]⟩, ad, cp, [x, y]⟩ : Nd), i)] := ⟨_, rfl⟩
  obtain ⟨o1, ho1⟩ : ∃ o1, o1 = out ++ [((some ((⟨⟨#[97, 115, 115, 101, 114, 116]⟩, ⟨#[]⟩, ad, cp, [x, y]⟩ : Nd), i), d) : Ev)] := ⟨_, rfl⟩
  have hdl : d1.length ≤ d.length + 1 := by rw [hd1]; simp
  have hol : out.length + 1 ≤ o1.length := by rw [ho1]; simp
  have HD := Lib.hid (And.intro hd1 ho1)
  clear ho hblk hb hV hx IHx hy IHy hl hlx hly hIS hd1 ho1
  go_enter Tryz.func18, Tryz.ntmps18
  have t0 := nd_TypeAssertExpr_Comment
  have t1 := nd_TypeAssertExpr_CommentGroup
  have t2 := nd_TypeAssertExpr_Field
  have t3 := nd_TypeAssertExpr_FieldList
  have t4 := nd_TypeAssertExpr_BadExpr
  have t5 := nd_TypeAssertExpr_Ident
  have t6 := nd_TypeAssertExpr_BasicLit
  have t7 := nd_TypeAssertExpr_Ellipsis
  have t8 := nd_TypeAssertExpr_FuncLit
  have t9 := nd_TypeAssertExpr_CompositeLit
  have t10 := nd_TypeAssertExpr_ParenExpr
  have t11 := nd_TypeAssertExpr_SelectorExpr
  have t12 := nd_TypeAssertExpr_IndexExpr
  have t13 := nd_TypeAssertExpr_IndexListExpr
  have t14 := nd_TypeAssertExpr_SliceExpr
  have t15 := nd_TypeAssertExpr_TypeAssertExpr
  go_wp2_with fail
  refine (HV.out.node d out W i _ _ hsh hsz (by have := run_lt go (⟨⟨#[97, 115, 115, 101, 114, 116]⟩, ⟨#[]⟩, ad, cp, [x, y]⟩) d i out; omega) HX0.out.1 hh HX0.out.2).mono ?_
  rintro e w0 ⟨he, hob, hk1⟩
  rw [← HD.out.1, ← HD.out.2] at he hob
  cases hst : go o1 ; rotate_left
  · rw [hst, if_pos rfl] at he hob
    subst he
    have S0 := Lib.hid (And.intro hob hk1)
    have he := Nd.run_go (n := ⟨⟨#[97, 115, 115, 101, 114, 116]⟩, ⟨#[]⟩, ad, cp, [x, y]⟩) (i := i) HIS.out HD.out.1 HD.out.2 hst
    replace he : Nd.run go d i ⟨⟨#[97, 115, 115, 101, 114, 116]⟩, ⟨#[]⟩, ad, cp, [x, y]⟩ out = selRun go d1 8 (i + (List.map Nd.ntok ([x, y])).getD 0 0 + 1) ⟨#[]⟩ (runL go d1 (ix :: iy :: isy) ([x, y]) o1) ++ [(none, d1)] := he
    rw [selRun_ne (by decide), runL_cons, runL_cons, runL_nil] at he
    obtain ⟨o2, hR2⟩ : ∃ o2, o2 = Nd.run go d1 ix x o1 := ⟨_, rfl⟩
    rw [← hR2] at he
    have hb2 : o1.length ≤ o2.length := by rw [hR2]; exact Nat.le_of_lt (run_lt go x d1 ix o1)
    have HR2 := Lib.hid hR2
    clear hR2
    obtain ⟨o3, hR3⟩ : ∃ o3, o3 = Nd.run go d1 iy y o2 := ⟨_, rfl⟩
    rw [← hR3] at he
    have hb3 : o2.length ≤ o3.length := by rw [hR3]; exact Nat.le_of_lt (run_lt go y d1 iy o2)
    have HR3 := Lib.hid hR3
    clear hR3
    have hb1 := hbd.1
    have hbz : o3.length + 1 ≤ 5000 := by have h := hbd.2; rw [he, List.length_append] at h; exact h
    have HE := Lib.hid he
    clear hob hk1 hst he
    have a0_0 : w0.cell? ⟨b, 0, none⟩ = some (.iface qx (.pointer (some ⟨cx, 0, none⟩))) := S0.out.2.cell HB.out k0
    have a0_2 : w0.cell? ⟨b, 2, none⟩ = some (.iface qy (.pointer (some ⟨cy, 0, none⟩))) := S0.out.2.cell HB.out k2
    go_wp2_with fail
    refine (Ix.out d1 _ w0 ix _ (by rw [← HR2.out]; omega) S0.out.1 (Nat.le_trans hh S0.out.2.1) (S0.out.2.ex Hx.out)).mono ?_
    rintro e w1 ⟨rfl, ho2, hk2⟩
    rw [← HR2.out] at ho2
    have S1 := Lib.hid (And.intro ho2 (S0.out.2.trans hk2))
    clear ho2 hk2 a0_0 a0_2
    have a1_0 : w1.cell? ⟨b, 0, none⟩ = some (.iface qx (.pointer (some ⟨cx, 0, none⟩))) := S1.out.2.cell HB.out k0
    have a1_2 : w1.cell? ⟨b, 2, none⟩ = some (.iface qy (.pointer (some ⟨cy, 0, none⟩))) := S1.out.2.cell HB.out k2
    go_wp2_with fail
    refine (Iy.out d1 _ w1 iy _ (by rw [← HR3.out]; omega) S1.out.1 (Nat.le_trans hh S1.out.2.1) (S1.out.2.ex Hy.out)).mono ?_
    rintro e w2 ⟨rfl, ho2, hk2⟩
    rw [← HR3.out] at ho2
    have S2 := Lib.hid (And.intro ho2 (S1.out.2.trans hk2))
    clear ho2 hk2 a1_0 a1_2
    have a2_0 : w2.cell? ⟨b, 0, none⟩ = some (.iface qx (.pointer (some ⟨cx, 0, none⟩))) := S2.out.2.cell HB.out k0
    have a2_2 : w2.cell? ⟨b, 2, none⟩ = some (.iface qy (.pointer (some ⟨cy, 0, none⟩))) := S2.out.2.cell HB.out k2
    go_wp2_with fail
    have hn0 := S2.out.1
    rw [HD.out.1] at hn0
    have hn1 := HV.out.nil d _ o3 w2 (by rw [← HD.out.1]; omega) hn0 (Nat.le_trans hh S2.out.2.1)
    rw [← HD.out.1] at hn1
    clear hn0
    refine hn1.mono ?_
    clear hn1
    rintro e wz ⟨⟨r, rfl⟩, ho2, hk2⟩
    have SZ := Lib.hid (And.intro ho2 (S2.out.2.trans hk2))
    clear ho2 hk2 a2_0 a2_2
    go_wp2_with fail
    (try simp only [Exit.inBlock, Exit.then])
    refine bodyPost_ret (results_none rfl _ _ _) rfl ⟨rfl, ?_, SZ.out.2⟩
    rw [HE.out]
    exact SZ.out.1
  · rw [hst, if_neg Bool.false_ne_true] at he hob
    subst he
    have S0 := Lib.hid (And.intro hob hk1)
    have HE := Lib.hid (Nd.run_stop HD.out.2 hst)
    clear hob hk1 hst
    go_wp2_with fail
    (try simp only [Exit.inBlock, Exit.then])
    refine bodyPost_ret (results_none rfl _ _ _) rfl ⟨rfl, ?_, S0.out.2⟩
    rw [HE.out]
    exact S0.out.1

set_option maxHeartbeats 2000000 in
set_option maxRecDepth 100000 in
theorem wk_key (hV : VS lo hi P go Vt pay rc fV Out) (ad : Option Addr) (cp : Nat) (x : Nd) (y : Nd) (IHx : WOf lo hi P go Vt pay Out x) (IHy : WOf lo hi P go Vt pay Out y) (hsh : Nd.shapedB ⟨⟨#[107, 101, 121]⟩, ⟨#[]⟩, ad, cp, [x, y]⟩ = true) (hsz : Nd.size ⟨⟨#[107, 101, 121]⟩, ⟨#[]⟩, ad, cp, [x, y]⟩ ≤ 400) : WOf lo hi P go Vt pay Out ⟨⟨#[107, 101, 121]⟩, ⟨#[]⟩, ad, cp, [x, y]⟩ := by
  intro d out W i v hbd ho hh hX
  have HX0 := Lib.hid (And.intro ho hX)
  obtain ⟨vs, hl, hn⟩ := hX
  obtain ⟨IS, hIS⟩ : ∃ IS, starts (kcode (⟨#[107, 101, 121]⟩ : ByteArray)) ⟨#[]⟩ (List.map Nd.ntok ([x, y])) i = IS := ⟨_, rfl⟩
  replace hl : ExL W (Rng lo hi) P IS ([x, y]) vs := hIS ▸ hl
  obtain ⟨b, hb, hv⟩ : NodeAt W (Rng lo hi) P 9 ⟨#[]⟩ (List.map Nd.ntok ([x, y])) i _ vs v := hn
  obtain ⟨rfl, hblk⟩ := hv
  obtain ⟨ix, isx, qx, cx, vx, rfl, rfl, hx, hlx⟩ := exl_cons' hl
  obtain ⟨iy, isy, qy, cy, vy, rfl, rfl, hy, hly⟩ := exl_cons' hlx
  obtain rfl := exl_nil hly
  have k0 : W.cell? ⟨b, 0, none⟩ = some (.iface qx (.pointer (some ⟨cx, 0, none⟩))) := hblk.cell 0
  have k2 : W.cell? ⟨b, 2, none⟩ = some (.iface qy (.pointer (some ⟨cy, 0, none⟩))) := hblk.cell 2
  have HB := Lib.hid hb
  have HV := Lib.hid hV
  have hm := hV.meth
  have hent := hV.ent
  have Hx := Lib.hid hx
  have Ix := Lib.hid IHx
  have Hy := Lib.hid hy
  have Iy := Lib.hid IHy
  show Calls _ _ #[.iface Vt (pay d.length), .iface 131 (.pointer (some ⟨b, 0, none⟩))] W _
  have HIS := Lib.hid hIS
  obtain ⟨d1, hd1⟩ : ∃ d1, d1 = d ++ [((⟨⟨#[107, 101, 121]⟩, ⟨#[]⟩, ad, cp, [x, y]⟩ : Nd), i)] := ⟨_, rfl⟩
  obtain ⟨o1, ho1⟩ : ∃ o1, o1 = out ++ [((some ((⟨⟨#[107, 101, 121]⟩, ⟨#[]⟩, ad, cp, [x, y]⟩ : Nd), i), d) : Ev)] := ⟨_, rfl⟩
  have hdl : d1.length ≤ d.length + 1 := by rw [hd1]; simp
  have hol : out.length + 1 ≤ o1.length := by rw [ho1]; simp
  have HD := Lib.hid (And.intro hd1 ho1)
  clear ho hblk hb hV hx IHx hy IHy hl hlx hly hIS hd1 ho1
  go_enter Tryz.func18, Tryz.ntmps18
  have t0 := nd_KeyValueExpr_Comment
  have t1 := nd_KeyValueExpr_CommentGroup
  have t2 := nd_KeyValueExpr_Field
  have t3 := nd_KeyValueExpr_FieldList
  have t4 := nd_KeyValueExpr_BadExpr
  have t5 := nd_KeyValueExpr_Ident
  have t6 := nd_KeyValueExpr_BasicLit
  have t7 := nd_KeyValueExpr_Ellipsis
  have t8 := nd_KeyValueExpr_FuncLit
  have t9 := nd_KeyValueExpr_CompositeLit
  have t10 := nd_KeyValueExpr_ParenExpr
  have t11 := nd_KeyValueExpr_SelectorExpr
  have t12 := nd_KeyValueExpr_IndexExpr
  have t13 := nd_KeyValueExpr_IndexListExpr
  have t14 := nd_KeyValueExpr_SliceExpr
  have t15 := nd_KeyValueExpr_TypeAssertExpr
  have t16 := nd_KeyValueExpr_CallExpr
  have t17 := nd_KeyValueExpr_StarExpr
  have t18 := nd_KeyValueExpr_UnaryExpr
  have t19 := nd_KeyValueExpr_BinaryExpr
  have t20 := nd_KeyValueExpr_KeyValueExpr
  go_wp2_with fail
  refine (HV.out.node d out W i _ _ hsh hsz (by have := run_lt go (⟨⟨#[107, 101, 121]⟩, ⟨#[]⟩, ad, cp, [x, y]⟩) d i out; omega) HX0.out.1 hh HX0.out.2).mono ?_
  rintro e w0 ⟨he, hob, hk1⟩
  rw [← HD.out.1, ← HD.out.2] at he hob
  cases hst : go o1 ; rotate_left
  · rw [hst, if_pos rfl] at he hob
    subst he
    have S0 := Lib.hid (And.intro hob hk1)
    have he := Nd.run_go (n := ⟨⟨#[107, 101, 121]⟩, ⟨#[]⟩, ad, cp, [x, y]⟩) (i := i) HIS.out HD.out.1 HD.out.2 hst
    replace he : Nd.run go d i ⟨⟨#[107, 101, 121]⟩, ⟨#[]⟩, ad, cp, [x, y]⟩ out = selRun go d1 9 (i + (List.map Nd.ntok ([x, y])).getD 0 0 + 1) ⟨#[]⟩ (runL go d1 (ix :: iy :: isy) ([x, y]) o1) ++ [(none, d1)] := he
    rw [selRun_ne (by decide), runL_cons, runL_cons, runL_nil] at he
    obtain ⟨o2, hR2⟩ : ∃ o2, o2 = Nd.run go d1 ix x o1 := ⟨_, rfl⟩
    rw [← hR2] at he
    have hb2 : o1.length ≤ o2.length := by rw [hR2]; exact Nat.le_of_lt (run_lt go x d1 ix o1)
    have HR2 := Lib.hid hR2
    clear hR2
    obtain ⟨o3, hR3⟩ : ∃ o3, o3 = Nd.run go d1 iy y o2 := ⟨_, rfl⟩
    rw [← hR3] at he
    have hb3 : o2.length ≤ o3.length := by rw [hR3]; exact Nat.le_of_lt (run_lt go y d1 iy o2)
    have HR3 := Lib.hid hR3
    clear hR3
    have hb1 := hbd.1
    have hbz : o3.length + 1 ≤ 5000 := by have h := hbd.2; rw [he, List.length_append] at h; exact h
    have HE := Lib.hid he
    clear hob hk1 hst he
    have a0_0 : w0.cell? ⟨b, 0, none⟩ = some (.iface qx (.pointer (some ⟨cx, 0, none⟩))) := S0.out.2.cell HB.out k0
    have a0_2 : w0.cell? ⟨b, 2, none⟩ = some (.iface qy (.pointer (some ⟨cy, 0, none⟩))) := S0.out.2.cell HB.out k2
    go_wp2_with fail
    refine (Ix.out d1 _ w0 ix _ (by rw [← HR2.out]; omega) S0.out.1 (Nat.le_trans hh S0.out.2.1) (S0.out.2.ex Hx.out)).mono ?_
    rintro e w1 ⟨rfl, ho2, hk2⟩
    rw [← HR2.out] at ho2
    have S1 := Lib.hid (And.intro ho2 (S0.out.2.trans hk2))
    clear ho2 hk2 a0_0 a0_2
    have a1_0 : w1.cell? ⟨b, 0, none⟩ = some (.iface qx (.pointer (some ⟨cx, 0, none⟩))) := S1.out.2.cell HB.out k0
    have a1_2 : w1.cell? ⟨b, 2, none⟩ = some (.iface qy (.pointer (some ⟨cy, 0, none⟩))) := S1.out.2.cell HB.out k2
    go_wp2_with fail
    refine (Iy.out d1 _ w1 iy _ (by rw [← HR3.out]; omega) S1.out.1 (Nat.le_trans hh S1.out.2.1) (S1.out.2.ex Hy.out)).mono ?_
    rintro e w2 ⟨rfl, ho2, hk2⟩
    rw [← HR3.out] at ho2
    have S2 := Lib.hid (And.intro ho2 (S1.out.2.trans hk2))
    clear ho2 hk2 a1_0 a1_2
    have a2_0 : w2.cell? ⟨b, 0, none⟩ = some (.iface qx (.pointer (some ⟨cx, 0, none⟩))) := S2.out.2.cell HB.out k0
    have a2_2 : w2.cell? ⟨b, 2, none⟩ = some (.iface qy (.pointer (some ⟨cy, 0, none⟩))) := S2.out.2.cell HB.out k2
    go_wp2_with fail
    have hn0 := S2.out.1
    rw [HD.out.1] at hn0
    have hn1 := HV.out.nil d _ o3 w2 (by rw [← HD.out.1]; omega) hn0 (Nat.le_trans hh S2.out.2.1)
    rw [← HD.out.1] at hn1
    clear hn0
    refine hn1.mono ?_
    clear hn1
    rintro e wz ⟨⟨r, rfl⟩, ho2, hk2⟩
    have SZ := Lib.hid (And.intro ho2 (S2.out.2.trans hk2))
    clear ho2 hk2 a2_0 a2_2
    go_wp2_with fail
    (try simp only [Exit.inBlock, Exit.then])
    refine bodyPost_ret (results_none rfl _ _ _) rfl ⟨rfl, ?_, SZ.out.2⟩
    rw [HE.out]
    exact SZ.out.1
  · rw [hst, if_neg Bool.false_ne_true] at he hob
    subst he
    have S0 := Lib.hid (And.intro hob hk1)
    have HE := Lib.hid (Nd.run_stop HD.out.2 hst)
    clear hob hk1 hst
    go_wp2_with fail
    (try simp only [Exit.inBlock, Exit.then])
    refine bodyPost_ret (results_none rfl _ _ _) rfl ⟨rfl, ?_, S0.out.2⟩
    rw [HE.out]
    exact S0.out.1

set_option maxHeartbeats 2000000 in
set_option maxRecDepth 100000 in
theorem wk_map (hV : VS lo hi P go Vt pay rc fV Out) (ad : Option Addr) (cp : Nat) (x : Nd) (y : Nd) (IHx : WOf lo hi P go Vt pay Out x) (IHy : WOf lo hi P go Vt pay Out y) (hsh : Nd.shapedB ⟨⟨#[109, 97, 112]⟩, ⟨#[]⟩, ad, cp, [x, y]⟩ = true) (hsz : Nd.size ⟨⟨#[109, 97, 112]⟩, ⟨#[]⟩, ad, cp, [x, y]⟩ ≤ 400) : WOf lo hi P go Vt pay Out ⟨⟨#[109, 97, 112]⟩, ⟨#[]⟩, ad, cp, [x, y]⟩ := by
  intro d out W i v hbd ho hh hX
  have HX0 := Lib.hid (And.intro ho hX)
  obtain ⟨vs, hl, hn⟩ := hX
  obtain ⟨IS, hIS⟩ : ∃ IS, starts (kcode (⟨#[109, 97, 112]⟩ : ByteArray)) ⟨#[]⟩ (List.map Nd.ntok ([x, y])) i = IS := ⟨_, rfl⟩
  replace hl : ExL W (Rng lo hi) P IS ([x, y]) vs := hIS ▸ hl
  obtain ⟨b, hb, hv⟩ : NodeAt W (Rng lo hi) P 10 ⟨#[]⟩ (List.map Nd.ntok ([x, y])) i _ vs v := hn
  obtain ⟨rfl, hblk⟩ := hv
  obtain ⟨ix, isx, qx, cx, vx, rfl, rfl, hx, hlx⟩ := exl_cons' hl
  obtain ⟨iy, isy, qy, cy, vy, rfl, rfl, hy, hly⟩ := exl_cons' hlx
  obtain rfl := exl_nil hly
  have k1 : W.cell? ⟨b, 1, none⟩ = some (.iface qx (.pointer (some ⟨cx, 0, none⟩))) := hblk.cell 1
  have k2 : W.cell? ⟨b, 2, none⟩ = some (.iface qy (.pointer (some ⟨cy, 0, none⟩))) := hblk.cell 2
  have HB := Lib.hid hb
  have HV := Lib.hid hV
  have hm := hV.meth
  have hent := hV.ent
  have Hx := Lib.hid hx
  have Ix := Lib.hid IHx
  have Hy := Lib.hid hy
  have Iy := Lib.hid IHy
  show Calls _ _ #[.iface Vt (pay d.length), .iface 145 (.pointer (some ⟨b, 0, none⟩))] W _
  have HIS := Lib.hid hIS
  obtain ⟨d1, hd1⟩ : ∃ d1, d1 = d ++ [((⟨⟨#[109, 97, 112]⟩, ⟨#[]⟩, ad, cp, [x, y]⟩ : Nd), i)] := ⟨_, rfl⟩
  obtain ⟨o1, ho1⟩ : ∃ o1, o1 = out ++ [((some ((⟨⟨#[109, 97, 112]⟩, ⟨#[]⟩, ad, cp, [x, y]⟩ : Nd), i), d) : Ev)] := ⟨_, rfl⟩
  have hdl : d1.length ≤ d.length + 1 := by rw [hd1]; simp
  have hol : out.length + 1 ≤ o1.length := by rw [ho1]; simp
  have HD := Lib.hid (And.intro hd1 ho1)
  clear ho hblk hb hV hx IHx hy IHy hl hlx hly hIS hd1 ho1
  go_enter Tryz.func18, Tryz.ntmps18
  have t0 := nd_MapType_Comment
  have t1 := nd_MapType_CommentGroup
  have t2 := nd_MapType_Field
  have t3 := nd_MapType_FieldList
  have t4 := nd_MapType_BadExpr
  have t5 := nd_MapType_Ident
  have t6 := nd_MapType_BasicLit
  have t7 := nd_MapType_Ellipsis
  have t8 := nd_MapType_FuncLit
  have t9 := nd_MapType_CompositeLit
  have t10 := nd_MapType_ParenExpr
  have t11 := nd_MapType_SelectorExpr
  have t12 := nd_MapType_IndexExpr
  have t13 := nd_MapType_IndexListExpr
  have t14 := nd_MapType_SliceExpr
  have t15 := nd_MapType_TypeAssertExpr
  have t16 := nd_MapType_CallExpr
  have t17 := nd_MapType_StarExpr
  have t18 := nd_MapType_UnaryExpr
  have t19 := nd_MapType_BinaryExpr
  have t20 := nd_MapType_KeyValueExpr
  have t21 := nd_MapType_ArrayType
  have t22 := nd_MapType_StructType
  have t23 := nd_MapType_FuncType
  have t24 := nd_MapType_InterfaceType
  have t25 := nd_MapType_MapType
  go_wp2_with fail
  refine (HV.out.node d out W i _ _ hsh hsz (by have := run_lt go (⟨⟨#[109, 97, 112]⟩, ⟨#[]⟩, ad, cp, [x, y]⟩) d i out; omega) HX0.out.1 hh HX0.out.2).mono ?_
  rintro e w0 ⟨he, hob, hk1⟩
  rw [← HD.out.1, ← HD.out.2] at he hob
  cases hst : go o1 ; rotate_left
  · rw [hst, if_pos rfl] at he hob
    subst he
    have S0 := Lib.hid (And.intro hob hk1)
    have he := Nd.run_go (n := ⟨⟨#[109, 97, 112]⟩, ⟨#[]⟩, ad, cp, [x, y]⟩) (i := i) HIS.out HD.out.1 HD.out.2 hst
    replace he : Nd.run go d i ⟨⟨#[109, 97, 112]⟩, ⟨#[]⟩, ad, cp, [x, y]⟩ out = selRun go d1 10 (i + (List.map Nd.ntok ([x, y])).getD 0 0 + 1) ⟨#[]⟩ (runL go d1 (ix :: iy :: isy) ([x, y]) o1) ++ [(none, d1)] := he
    rw [selRun_ne (by decide), runL_cons, runL_cons, runL_nil] at he
    obtain ⟨o2, hR2⟩ : ∃ o2, o2 = Nd.run go d1 ix x o1 := ⟨_, rfl⟩
    rw [← hR2] at he
    have hb2 : o1.length ≤ o2.length := by rw [hR2]; exact Nat.le_of_lt (run_lt go x d1 ix o1)
    have HR2 := Lib.hid hR2
    clear hR2
    obtain ⟨o3, hR3⟩ : ∃ o3, o3 = Nd.run go d1 iy y o2 := ⟨_, rfl⟩
    rw [← hR3] at he
    have hb3 : o2.length ≤ o3.length := by rw [hR3]; exact Nat.le_of_lt (run_lt go y d1 iy o2)
    have HR3 := Lib.hid hR3
    clear hR3
    have hb1 := hbd.1
    have hbz : o3.length + 1 ≤ 5000 := by have h := hbd.2; rw [he, List.length_append] at h; exact h
    have HE := Lib.hid he
    clear hob hk1 hst he
    have a0_1 : w0.cell? ⟨b, 1, none⟩ = some (.iface qx (.pointer (some ⟨cx, 0, none⟩))) := S0.out.2.cell HB.out k1
    have a0_2 : w0.cell? ⟨b, 2, none⟩ = some (.iface qy (.pointer (some ⟨cy, 0, none⟩))) := S0.out.2.cell HB.out k2
    go_wp2_with fail
    refine (Ix.out d1 _ w0 ix _ (by rw [← HR2.out]; omega) S0.out.1 (Nat.le_trans hh S0.out.2.1) (S0.out.2.ex Hx.out)).mono ?_
    rintro e w1 ⟨rfl, ho2, hk2⟩
    rw [← HR2.out] at ho2
    have S1 := Lib.hid (And.intro ho2 (S0.out.2.trans hk2))
    clear ho2 hk2 a0_1 a0_2
    have a1_1 : w1.cell? ⟨b, 1, none⟩ = some (.iface qx (.pointer (some ⟨cx, 0, none⟩))) := S1.out.2.cell HB.out k1
    have a1_2 : w1.cell? ⟨b, 2, none⟩ = some (.iface qy (.pointer (some ⟨cy, 0, none⟩))) := S1.out.2.cell HB.out k2
    go_wp2_with fail
    refine (Iy.out d1 _ w1 iy _ (by rw [← HR3.out]; omega) S1.out.1 (Nat.le_trans hh S1.out.2.1) (S1.out.2.ex Hy.out)).mono ?_
    rintro e w2 ⟨rfl, ho2, hk2⟩
    rw [← HR3.out] at ho2
    have S2 := Lib.hid (And.intro ho2 (S1.out.2.trans hk2))
    clear ho2 hk2 a1_1 a1_2
    have a2_1 : w2.cell? ⟨b, 1, none⟩ = some (.iface qx (.pointer (some ⟨cx, 0, none⟩))) := S2.out.2.cell HB.out k1
    have a2_2 : w2.cell? ⟨b, 2, none⟩ = some (.iface qy (.pointer (some ⟨cy, 0, none⟩))) := S2.out.2.cell HB.out k2
    go_wp2_with fail
    have hn0 := S2.out.1
    rw [HD.out.1] at hn0
    have hn1 := HV.out.nil d _ o3 w2 (by rw [← HD.out.1]; omega) hn0 (Nat.le_trans hh S2.out.2.1)
    rw [← HD.out.1] at hn1
    clear hn0
    refine hn1.mono ?_
    clear hn1
    rintro e wz ⟨⟨r, rfl⟩, ho2, hk2⟩
    have SZ := Lib.hid (And.intro ho2 (S2.out.2.trans hk2))
    clear ho2 hk2 a2_1 a2_2
    go_wp2_with fail
    (try simp only [Exit.inBlock, Exit.then])
    refine bodyPost_ret (results_none rfl _ _ _) rfl ⟨rfl, ?_, SZ.out.2⟩
    rw [HE.out]
    exact SZ.out.1
  · rw [hst, if_neg Bool.false_ne_true] at he hob
    subst he
    have S0 := Lib.hid (And.intro hob hk1)
    have HE := Lib.hid (Nd.run_stop HD.out.2 hst)
    clear hob hk1 hst
    go_wp2_with fail
    (try simp only [Exit.inBlock, Exit.then])
    refine bodyPost_ret (results_none rfl _ _ _) rfl ⟨rfl, ?_, S0.out.2⟩
    rw [HE.out]
    exact S0.out.1

set_option maxHeartbeats 2000000 in
set_option maxRecDepth 100000 in
theorem wk_array2 (hV : VS lo hi P go Vt pay rc fV Out) (ad : Option Addr) (cp : Nat) (x : Nd) (y : Nd) (IHx : WOf lo hi P go Vt pay Out x) (IHy : WOf lo hi P go Vt pay Out y) (hsh : Nd.shapedB ⟨⟨#[97, 114, 114, 97, 121]⟩, ⟨#[]⟩, ad, cp, [x, y]⟩ = true) (hsz : Nd.size ⟨⟨#[97, 114, 114, 97, 121]⟩, ⟨#[]⟩, ad, cp, [x, y]⟩ ≤ 400) : WOf lo hi P go Vt pay Out ⟨⟨#[97, 114, 114, 97, 121]⟩, ⟨#[]⟩, ad, cp, [x, y]⟩ := by
  intro d out W i v hbd ho hh hX
  have HX0 := Lib.hid (And.intro ho hX)
  obtain ⟨vs, hl, hn⟩ := hX
  obtain ⟨IS, hIS⟩ : ∃ IS, starts (kcode (⟨#[97, 114, 114, 97, 121]⟩ : ByteArray)) ⟨#[]⟩ (List.map Nd.ntok ([x, y])) i = IS := ⟨_, rfl⟩
  replace hl : ExL W (Rng lo hi) P IS ([x, y]) vs := hIS ▸ hl
  obtain ⟨b, hb, hv⟩ : NodeAt W (Rng lo hi) P 14 ⟨#[]⟩ (List.map Nd.ntok ([x, y])) i _ vs v := hn
  obtain ⟨rfl, hblk⟩ := hv
  obtain ⟨ix, isx, qx, cx, vx, rfl, rfl, hx, hlx⟩ := exl_cons' hl
  obtain ⟨iy, isy, qy, cy, vy, rfl, rfl, hy, hly⟩ := exl_cons' hlx
  obtain rfl := exl_nil hly
  have k1 : W.cell? ⟨b, 1, none⟩ = some (.iface qx (.pointer (some ⟨cx, 0, none⟩))) := hblk.cell 1
  have k2 : W.cell? ⟨b, 2, none⟩ = some (.iface qy (.pointer (some ⟨cy, 0, none⟩))) := hblk.cell 2
  have HB := Lib.hid hb
  have HV := Lib.hid hV
  have hm := hV.meth
  have hent := hV.ent
  have Hx := Lib.hid hx
  have Ix := Lib.hid IHx
  have Hy := Lib.hid hy
  have Iy := Lib.hid IHy
  show Calls _ _ #[.iface Vt (pay d.length), .iface 134 (.pointer (some ⟨b, 0, none⟩))] W _
  have HIS := Lib.hid hIS
  obtain ⟨d1, hd1⟩ : ∃ d1, d1 = d ++ [((⟨⟨#[97, 114, 114, 97, 121]⟩, ⟨#[]⟩, ad, cp, [x, y]⟩ : Nd), i)] := ⟨_, rfl⟩
  obtain ⟨o1, ho1⟩ : ∃ o1, o1 = out ++ [((some ((⟨⟨#[97, 114, 114, 97, 121]⟩, ⟨#[]⟩, ad, cp, [x, y]⟩ : Nd), i), d) : Ev)] := ⟨_, rfl⟩
  have hdl : d1.length ≤ d.length + 1 := by rw [hd1]; simp
  have hol : out.length + 1 ≤ o1.length := by rw [ho1]; simp
  have HD := Lib.hid (And.intro hd1 ho1)
  clear ho hblk hb hV hx IHx hy IHy hl hlx hly hIS hd1 ho1
  go_enter Tryz.func18, Tryz.ntmps18
  have t0 := nd_ArrayType_Comment
  have t1 := nd_ArrayType_CommentGroup
  have t2 := nd_ArrayType_Field
  have t3 := nd_ArrayType_FieldList
  have t4 := nd_ArrayType_BadExpr
  have t5 := nd_ArrayType_Ident
  have t6 := nd_ArrayType_BasicLit
  have t7 := nd_ArrayType_Ellipsis
  have t8 := nd_ArrayType_FuncLit
  have t9 := nd_ArrayType_CompositeLit
  have t10 := nd_ArrayType_ParenExpr
  have t11 := nd_ArrayType_SelectorExpr
  have t12 := nd_ArrayType_IndexExpr
  have t13 := nd_ArrayType_IndexListExpr
  have t14 := nd_ArrayType_SliceExpr
  have t15 := nd_ArrayType_TypeAssertExpr
  have t16 := nd_ArrayType_CallExpr
  have t17 := nd_ArrayType_StarExpr
  have t18 := nd_ArrayType_UnaryExpr
  have t19 := nd_ArrayType_BinaryExpr
  have t20 := nd_ArrayType_KeyValueExpr
  have t21 := nd_ArrayType_ArrayType
  go_wp2_with fail
  refine (HV.out.node d out W i _ _ hsh hsz (by have := run_lt go (⟨⟨#[97, 114, 114, 97, 121]⟩, ⟨#[]⟩, ad, cp, [x, y]⟩) d i out; omega) HX0.out.1 hh HX0.out.2).mono ?_
  rintro e w0 ⟨he, hob, hk1⟩
  rw [← HD.out.1, ← HD.out.2] at he hob
  cases hst : go o1 ; rotate_left
  · rw [hst, if_pos rfl] at he hob
    subst he
    have S0 := Lib.hid (And.intro hob hk1)
    have he := Nd.run_go (n := ⟨⟨#[97, 114, 114, 97, 121]⟩, ⟨#[]⟩, ad, cp, [x, y]⟩) (i := i) HIS.out HD.out.1 HD.out.2 hst
    replace he : Nd.run go d i ⟨⟨#[97, 114, 114, 97, 121]⟩, ⟨#[]⟩, ad, cp, [x, y]⟩ out = selRun go d1 14 (i + (List.map Nd.ntok ([x, y])).getD 0 0 + 1) ⟨#[]⟩ (runL go d1 (ix :: iy :: isy) ([x, y]) o1) ++ [(none, d1)] := he
    rw [selRun_ne (by decide), runL_cons, runL_cons, runL_nil] at he
    obtain ⟨o2, hR2⟩ : ∃ o2, o2 = Nd.run go d1 ix x o1 := ⟨_, rfl⟩
    rw [← hR2] at he
    have hb2 : o1.length ≤ o2.length := by rw [hR2]; exact Nat.le_of_lt (run_lt go x d1 ix o1)
    have HR2 := Lib.hid hR2
    clear hR2
    obtain ⟨o3, hR3⟩ : ∃ o3, o3 = Nd.run go d1 iy y o2 := ⟨_, rfl⟩
    rw [← hR3] at he
    have hb3 : o2.length ≤ o3.length := by rw [hR3]; exact Nat.le_of_lt (run_lt go y d1 iy o2)
    have HR3 := Lib.hid hR3
    clear hR3
    have hb1 := hbd.1
    have hbz : o3.length + 1 ≤ 5000 := by have h := hbd.2; rw [he, List.length_append] at h; exact h
    have HE := Lib.hid he
    clear hob hk1 hst he
    have a0_1 : w0.cell? ⟨b, 1, none⟩ = some (.iface qx (.pointer (some ⟨cx, 0, none⟩))) := S0.out.2.cell HB.out k1
    have a0_2 : w0.cell? ⟨b, 2, none⟩ = some (.iface qy (.pointer (some ⟨cy, 0, none⟩))) := S0.out.2.cell HB.out k2
    go_wp2_with fail
    refine (Ix.out d1 _ w0 ix _ (by rw [← HR2.out]; omega) S0.out.1 (Nat.le_trans hh S0.out.2.1) (S0.out.2.ex Hx.out)).mono ?_
    rintro e w1 ⟨rfl, ho2, hk2⟩
    rw [← HR2.out] at ho2
    have S1 := Lib.hid (And.intro ho2 (S0.out.2.trans hk2))
    clear ho2 hk2 a0_1 a0_2
    have a1_1 : w1.cell? ⟨b, 1, none⟩ = some (.iface qx (.pointer (some ⟨cx, 0, none⟩))) := S1.out.2.cell HB.out k1
    have a1_2 : w1.cell? ⟨b, 2, none⟩ = some (.iface qy (.pointer (some ⟨cy, 0, none⟩))) := S1.out.2.cell HB.out k2
    go_wp2_with fail
    refine (Iy.out d1 _ w1 iy _ (by rw [← HR3.out]; omega) S1.out.1 (Nat.le_trans hh S1.out.2.1) (S1.out.2.ex Hy.out)).mono ?_
    rintro e w2 ⟨rfl, ho2, hk2⟩
    rw [← HR3.out] at ho2
    have S2 := Lib.hid (And.intro ho2 (S1.out.2.trans hk2))
    clear ho2 hk2 a1_1 a1_2
    have a2_1 : w2.cell? ⟨b, 1, none⟩ = some (.iface qx (.pointer (some ⟨cx, 0, none⟩))) := S2.out.2.cell HB.out k1
    have a2_2 : w2.cell? ⟨b, 2, none⟩ = some (.iface qy (.pointer (some ⟨cy, 0, none⟩))) := S2.out.2.cell HB.out k2
    go_wp2_with fail
    have hn0 := S2.out.1
    rw [HD.out.1] at hn0
    have hn1 := HV.out.nil d _ o3 w2 (by rw [← HD.out.1]; omega) hn0 (Nat.le_trans hh S2.out.2.1)
    rw [← HD.out.1] at hn1
    clear hn0
    refine hn1.mono ?_
    clear hn1
    rintro e wz ⟨⟨r, rfl⟩, ho2, hk2⟩
    have SZ := Lib.hid (And.intro ho2 (S2.out.2.trans hk2))
    clear ho2 hk2 a2_1 a2_2
    go_wp2_with fail
    (try simp only [Exit.inBlock, Exit.then])
    refine bodyPost_ret (results_none rfl _ _ _) rfl ⟨rfl, ?_, SZ.out.2⟩
    rw [HE.out]
    exact SZ.out.1
  · rw [hst, if_neg Bool.false_ne_true] at he hob
    subst he
    have S0 := Lib.hid (And.intro hob hk1)
    have HE := Lib.hid (Nd.run_stop HD.out.2 hst)
    clear hob hk1 hst
    go_wp2_with fail
    (try simp only [Exit.inBlock, Exit.then])
    refine bodyPost_ret (results_none rfl _ _ _) rfl ⟨rfl, ?_, S0.out.2⟩
    rw [HE.out]
    exact S0.out.1

set_option maxHeartbeats 2000000 in
set_option maxRecDepth 100000 in
theorem wk_select (hV : VS lo hi P go Vt pay rc fV Out) (tx : ByteArray) (ad : Option Addr) (cp : Nat) (x : Nd) (IHx : WOf lo hi P go Vt pay Out x) (IHn : WOf lo hi P go Vt pay Out (nmNd tx)) (hsh : Nd.shapedB ⟨⟨#[115, 101, 108, 101, 99, 116]⟩, tx, ad, cp, [x]⟩ = true) (hsz : Nd.size ⟨⟨#[115, 101, 108, 101, 99, 116]⟩, tx, ad, cp, [x]⟩ ≤ 400) : WOf lo hi P go Vt pay Out ⟨⟨#[115, 101, 108, 101, 99, 116]⟩, tx, ad, cp, [x]⟩ := by
  intro d out W i v hbd ho hh hX
  have HX0 := Lib.hid (And.intro ho hX)
  obtain ⟨vs, hl, hn⟩ := hX
  obtain ⟨IS, hIS⟩ : ∃ IS, starts (kcode (⟨#[115, 101, 108, 101, 99, 116]⟩ : ByteArray)) tx (List.map Nd.ntok ([x])) i = IS := ⟨_, rfl⟩
  replace hl : ExL W (Rng lo hi) P IS ([x]) vs := hIS ▸ hl
  obtain ⟨b, hb, hv⟩ : NodeAt W (Rng lo hi) P 6 tx (List.map Nd.ntok ([x])) i _ vs v := hn
  obtain ⟨rfl, b2, hb2, hblk, hblk2⟩ := hv
  obtain ⟨ix, isx, qx, cx, vx, rfl, rfl, hx, hlx⟩ := exl_cons' hl
  obtain rfl := exl_nil hlx
  have k0 : W.cell? ⟨b, 0, none⟩ = some (.iface qx (.pointer (some ⟨cx, 0, none⟩))) := hblk.cell 0
  have k1 : W.cell? ⟨b, 1, none⟩ = some (.pointer (some ⟨b2, 0, none⟩)) := hblk.cell 1
  have HB := Lib.hid hb
  have HV := Lib.hid hV
  have hm := hV.meth
  have hent := hV.ent
  have HN := Lib.hid (sel_name hb2 hblk2)
  have In := Lib.hid IHn
  have Hx := Lib.hid hx
  have Ix := Lib.hid IHx
  show Calls _ _ #[.iface Vt (pay d.length), .iface 103 (.pointer (some ⟨b, 0, none⟩))] W _
  have HIS := Lib.hid hIS
  obtain ⟨d1, hd1⟩ : ∃ d1, d1 = d ++ [((⟨⟨#[115, 101, 108, 101, 99, 116]⟩, tx, ad, cp, [x]⟩ : Nd), i)] := ⟨_, rfl⟩
  obtain ⟨o1, ho1⟩ : ∃ o1, o1 = out ++ [((some ((⟨⟨#[115, 101, 108, 101, 99, 116]⟩, tx, ad, cp, [x]⟩ : Nd), i), d) : Ev)] := ⟨_, rfl⟩
  have hdl : d1.length ≤ d.length + 1 := by rw [hd1]; simp
  have hol : out.length + 1 ≤ o1.length := by rw [ho1]; simp
  have HD := Lib.hid (And.intro hd1 ho1)
  clear ho hblk hb hV hb2 hblk2 IHn hx IHx hl hlx hIS hd1 ho1
  go_enter Tryz.func18, Tryz.ntmps18
  have t0 := nd_SelectorExpr_Comment
  have t1 := nd_SelectorExpr_CommentGroup
  have t2 := nd_SelectorExpr_Field
  have t3 := nd_SelectorExpr_FieldList
  have t4 := nd_SelectorExpr_BadExpr
  have t5 := nd_SelectorExpr_Ident
  have t6 := nd_SelectorExpr_BasicLit
  have t7 := nd_SelectorExpr_Ellipsis
  have t8 := nd_SelectorExpr_FuncLit
  have t9 := nd_SelectorExpr_CompositeLit
  have t10 := nd_SelectorExpr_ParenExpr
  have t11 := nd_SelectorExpr_SelectorExpr
  go_wp2_with fail
  refine (HV.out.node d out W i _ _ hsh hsz (by have := run_lt go (⟨⟨#[115, 101, 108, 101, 99, 116]⟩, tx, ad, cp, [x]⟩) d i out; omega) HX0.out.1 hh HX0.out.2).mono ?_
  rintro e w0 ⟨he, hob, hk1⟩
  rw [← HD.out.1, ← HD.out.2] at he hob
  cases hst : go o1 ; rotate_left
  · rw [hst, if_pos rfl] at he hob
    subst he
    have S0 := Lib.hid (And.intro hob hk1)
    have he := Nd.run_go (n := ⟨⟨#[115, 101, 108, 101, 99, 116]⟩, tx, ad, cp, [x]⟩) (i := i) HIS.out HD.out.1 HD.out.2 hst
    replace he : Nd.run go d i ⟨⟨#[115, 101, 108, 101, 99, 116]⟩, tx, ad, cp, [x]⟩ out = selRun go d1 6 (i + (List.map Nd.ntok ([x])).getD 0 0 + 1) tx (runL go d1 (ix :: isx) ([x]) o1) ++ [(none, d1)] := he
    rw [selRun, if_pos rfl, runL_cons, runL_nil] at he
    obtain ⟨o2, hR2⟩ : ∃ o2, o2 = Nd.run go d1 ix x o1 := ⟨_, rfl⟩
    rw [← hR2] at he
    have hb2 : o1.length ≤ o2.length := by rw [hR2]; exact Nat.le_of_lt (run_lt go x d1 ix o1)
    have HR2 := Lib.hid hR2
    clear hR2
    obtain ⟨o3, hR3⟩ : ∃ o3, o3 = leafRun go d1 (i + (List.map Nd.ntok ([x])).getD 0 0 + 1) tx o2 := ⟨_, rfl⟩
    rw [← hR3] at he
    have hb3 : o2.length ≤ o3.length := by rw [hR3]; exact Nat.le_of_lt (leafRun_lt _ _)
    have HR3 := Lib.hid hR3
    clear hR3
    have hb1 := hbd.1
    have hbz : o3.length + 1 ≤ 5000 := by have h := hbd.2; rw [he, List.length_append] at h; exact h
    have HE := Lib.hid he
    clear hob hk1 hst he
    have a0_0 : w0.cell? ⟨b, 0, none⟩ = some (.iface qx (.pointer (some ⟨cx, 0, none⟩))) := S0.out.2.cell HB.out k0
    have a0_1 : w0.cell? ⟨b, 1, none⟩ = some (.pointer (some ⟨b2, 0, none⟩)) := S0.out.2.cell HB.out k1
    go_wp2_with fail
    refine (Ix.out d1 _ w0 ix _ (by rw [← HR2.out]; omega) S0.out.1 (Nat.le_trans hh S0.out.2.1) (S0.out.2.ex Hx.out)).mono ?_
    rintro e w1 ⟨rfl, ho2, hk2⟩
    rw [← HR2.out] at ho2
    have S1 := Lib.hid (And.intro ho2 (S0.out.2.trans hk2))
    clear ho2 hk2 a0_0 a0_1
    have a1_0 : w1.cell? ⟨b, 0, none⟩ = some (.iface qx (.pointer (some ⟨cx, 0, none⟩))) := S1.out.2.cell HB.out k0
    have a1_1 : w1.cell? ⟨b, 1, none⟩ = some (.pointer (some ⟨b2, 0, none⟩)) := S1.out.2.cell HB.out k1
    go_wp2_with fail
    refine (In.out d1 _ w1 _ _ (by rw [run_nm, ← HR3.out]; omega) S1.out.1 (Nat.le_trans hh S1.out.2.1) (S1.out.2.ex HN.out)).mono ?_
    rintro e w2 ⟨rfl, ho2, hk2⟩
    rw [run_nm, ← HR3.out] at ho2
    have S2 := Lib.hid (And.intro ho2 (S1.out.2.trans hk2))
    clear ho2 hk2 a1_0 a1_1
    have a2_0 : w2.cell? ⟨b, 0, none⟩ = some (.iface qx (.pointer (some ⟨cx, 0, none⟩))) := S2.out.2.cell HB.out k0
    have a2_1 : w2.cell? ⟨b, 1, none⟩ = some (.pointer (some ⟨b2, 0, none⟩)) := S2.out.2.cell HB.out k1
    go_wp2_with fail
    have hn0 := S2.out.1
    rw [HD.out.1] at hn0
    have hn1 := HV.out.nil d _ o3 w2 (by rw [← HD.out.1]; omega) hn0 (Nat.le_trans hh S2.out.2.1)
    rw [← HD.out.1] at hn1
    clear hn0
    refine hn1.mono ?_
    clear hn1
    rintro e wz ⟨⟨r, rfl⟩, ho2, hk2⟩
    have SZ := Lib.hid (And.intro ho2 (S2.out.2.trans hk2))
    clear ho2 hk2 a2_0 a2_1
    go_wp2_with fail
    (try simp only [Exit.inBlock, Exit.then])
    refine bodyPost_ret (results_none rfl _ _ _) rfl ⟨rfl, ?_, SZ.out.2⟩
    rw [HE.out]
    exact SZ.out.1
  · rw [hst, if_neg Bool.false_ne_true] at he hob
    subst he
    have S0 := Lib.hid (And.intro hob hk1)
    have HE := Lib.hid (Nd.run_stop HD.out.2 hst)
    clear hob hk1 hst
    go_wp2_with fail
    (try simp only [Exit.inBlock, Exit.then])
    refine bodyPost_ret (results_none rfl _ _ _) rfl ⟨rfl, ?_, S0.out.2⟩
    rw [HE.out]
    exact S0.out.1
end
end Go.Proofs.YtjbhjbpamnoebaaGreatFmt
