/-
  ast.Walk: its visitor as a rule; walkList.
  ast.Walk: names, literals, and one expression below.
-/
import Derived.Test.YtjbhjbpamnoebaaGreatFmtK9
import Derived.Test.YtjbhjbpamnoebaaGreatFmtK8
namespace Go.Proofs.YtjbhjbpamnoebaaGreatFmt
open Go.RowKit

/-- The expression's blocks stand as they were. -/
def Kp (lo hi : Nat) (w w' : World) : Prop := w.heap.size ≤ w'.heap.size ∧ ∀ b, lo ≤ b → b < hi → w'.heap[b]? = w.heap[b]?
theorem Kp.refl (lo hi : Nat) (w : World) : Kp lo hi w w := ⟨Nat.le_refl _, fun _ _ _ => rfl⟩
theorem Kp.trans {lo hi : Nat} {a b c : World} (h : Kp lo hi a b) (k : Kp lo hi b c) : Kp lo hi a c := ⟨Nat.le_trans h.1 k.1, fun x h1 h2 => (k.2 x h1 h2).trans (h.2 x h1 h2)⟩
theorem Kp.ex {lo hi : Nat} {w w' : World} (h : Kp lo hi w w') {P : Nat → Int} {i : Nat} {n : Nd} {v : Value} (hX : ExR w (Rng lo hi) P i n v) : ExR w' (Rng lo hi) P i n v :=
  ExR.keep (fun b hb => h.2 b hb.1 hb.2) (fun _ hs => hs) n i v hX
theorem Kp.cell {lo hi : Nat} {w w' : World} (h : Kp lo hi w w') {g j : Nat} (hg : Rng lo hi g) {r : Option Value} (hc : w.cell? ⟨g, j, none⟩ = r) : w'.cell? ⟨g, j, none⟩ = r :=
  (World.cell?_of_block (a := ⟨g, j, none⟩) (h.2 g hg.1 hg.2)).trans hc

/-- A visitor: its type, what it holds at each depth, its method; Out: what it has told so far, and the nodes above. -/
structure VS (lo hi : Nat) (P : Nat → Int) (go : List Ev → Bool) (Vt : TypeId) (pay rc : Nat → Value) (fV : FuncId) (Out : List Ev → List (Nd × Nat) → World → Prop) : Prop where
  meth : ∀ d w, Sem.run Tryz.prog (method 438 Vt (pay d) "Visit") w = .ok (fV, rc d) w
  ent : ∀ args w, Sem.run Tryz.prog (callFunc fV args) w = .ok (.enter fV args) w
  node : ∀ (d : List (Nd × Nat)) (out : List Ev) (w : World) (i : Nat) (n : Nd) (v : Value), n.shapedB = true → n.size ≤ 400 → d.length ≤ out.length ∧ out.length < 5000 → Out out d w → hi ≤ w.heap.size → ExR w (Rng lo hi) P i n v →
    Calls Tryz.prog fV #[rc d.length, v] w fun e w' => e = .returned (if go (out ++ [(some (n, i), d)]) = true then .iface Vt (pay (d ++ [(n, i)]).length) else .nilIface) ∧ Out (out ++ [(some (n, i), d)]) (if go (out ++ [(some (n, i), d)]) = true then d ++ [(n, i)] else d) w' ∧ Kp lo hi w w'
  nil : ∀ (d : List (Nd × Nat)) (x : Nd × Nat) (out : List Ev) (w : World), (d ++ [x]).length ≤ out.length ∧ out.length < 5000 → Out out (d ++ [x]) w → hi ≤ w.heap.size →
    Calls Tryz.prog fV #[rc (d ++ [x]).length, .nilIface] w fun e w' => (∃ r, e = .returned r) ∧ Out (out ++ [(none, d ++ [x])]) d w' ∧ Kp lo hi w w'

/-- What Walk leaves. -/
def WPost (lo hi : Nat) (Out : List Ev → List (Nd × Nat) → World → Prop) (out : List Ev) (d : List (Nd × Nat)) (W : World) (e : Ending) (w : World) : Prop := e = .returned (.tuple #[]) ∧ Out out d w ∧ Kp lo hi W w
/-- The contract of Walk at a tree. -/
def WOf (lo hi : Nat) (P : Nat → Int) (go : List Ev → Bool) (Vt : TypeId) (pay : Nat → Value) (Out : List Ev → List (Nd × Nat) → World → Prop) (n : Nd) : Prop :=
  ∀ (d : List (Nd × Nat)) (out : List Ev) (w : World) (i : Nat) (v : Value), d.length ≤ out.length ∧ (n.run go d i out).length ≤ 5000 → Out out d w → hi ≤ w.heap.size → ExR w (Rng lo hi) P i n v →
    Calls Tryz.prog 18 #[.iface Vt (pay d.length), v] w (WPost lo hi Out (n.run go d i out) d w)

theorem exl_cons' {w : World} {S : Nat → Prop} {P : Nat → Int} {is : List Nat} {x : Nd} {ks : List Nd} {vs : List Value} (h : ExL w S P is (x :: ks) vs) : ∃ i is' q c vs', is = i :: is' ∧ vs = .iface q (.pointer (some ⟨c, 0, none⟩)) :: vs' ∧ ExR w S P i x (.iface q (.pointer (some ⟨c, 0, none⟩))) ∧ ExL w S P is' ks vs' := by
  cases is with
  | nil => simp [ExL] at h
  | cons i is =>
    cases vs with
    | nil => simp [ExL] at h
    | cons v vs =>
      obtain ⟨q, c, rfl⟩ := h.1.form
      exact ⟨i, is, q, c, vs, rfl, rfl, h.1, h.2⟩
theorem exl_at {w : World} {S : Nat → Prop} {P : Nat → Int} : ∀ {ks : List Nd} {is : List Nat} {vs : List Value}, ExL w S P is ks vs → vs.length = ks.length ∧ is.length = ks.length ∧ ∀ (j : Nat) (k : Nd), ks[j]? = some k → ∃ i v, is[j]? = some i ∧ vs[j]? = some v ∧ ExR w S P i k v
  | [], is, vs, h => by
    cases is with
    | nil =>
      rw [exl_nil h]
      exact ⟨rfl, rfl, fun j k hj => by simp at hj⟩
    | cons i is => cases vs <;> simp [ExL] at h
  | x :: ks, is, vs, h => by
    obtain ⟨i, is', q, c, vs', rfl, rfl, h1, h2⟩ := exl_cons' h
    have ih := exl_at h2
    refine ⟨by simp [ih.1], by simp [ih.2.1], fun j k hj => ?_⟩
    cases j with
    | zero => simp at hj; subst hj; exact ⟨i, _, rfl, rfl, h1⟩
    | succ j => simpa using ih.2.2 j k (by simpa using hj)

section
variable {lo hi : Nat} {P : Nat → Int} {go : List Ev → Bool} {Vt : TypeId} {pay rc : Nat → Value} {fV : FuncId} {Out : List Ev → List (Nd × Nat) → World → Prop}
set_option maxRecDepth 100000 in
theorem walkList_any (ks : List Nd) (IH : ∀ k ∈ ks, WOf lo hi P go Vt pay Out k) (hlen : ks.length ≤ 400) (d : List (Nd × Nat)) (out : List Ev) (w : World) (is : List Nat) (vs : List Value) (hbd : d.length ≤ out.length ∧ (runL go d is ks out).length ≤ 5000) (ho : Out out d w) (hh : hi ≤ w.heap.size) (hX : ExL w (Rng lo hi) P is ks vs) (sv : Value) (hs : SlAt w (Rng lo hi) sv vs)
    (A : Option Addr) (n cap : Nat) (he : sv = .slice A n cap) :
    Calls Tryz.prog 34 #[.iface Vt (pay d.length), .slice A n cap] w (WPost lo hi Out (runL go d is ks out) d w) := by
  obtain ⟨hvl, hil, hat⟩ := exl_at hX
  have hn : n = ks.length ∧ ∀ j v, vs[j]? = some v → ∃ g, A = some ⟨g, 0, none⟩ ∧ Rng lo hi g ∧ w.cell? ⟨g, j, none⟩ = some v := by
    rcases hs with ⟨rfl, rfl⟩ | ⟨g, cap', cs, rfl, hg, hb, h0, hc, hm, ht⟩
    · cases he
      exact ⟨by simpa using hvl, fun j v hj => by simp at hj⟩
    · cases he
      refine ⟨hvl, fun j v hj => ⟨g, rfl, hg, ?_⟩⟩
      rw [hb.cell j]
      have hjl : j < vs.length := (List.getElem?_eq_some_iff.1 hj).1
      rw [← ht, List.getElem?_take_of_lt hjl] at hj
      simpa using hj
  obtain ⟨rfl, hcell⟩ := hn
  have H0 := Lib.hid (And.intro ho (And.intro hat (And.intro hcell hil)))
  have HI := Lib.hid IH
  clear ho hX hs he hvl hat hcell IH hil
  have hM : ks.length ≤ 9223372036854775807 := by omega
  go_enter Tryz.func34, Tryz.ntmps34
  go_wp2_with fail
  go_loopw [8] (fun i' wr => ∃ j : Nat, i' = .int .i64 j ∧ j ≤ ks.length ∧ Out (runL go d (is.take j) (ks.take j) out) d wr ∧ Kp lo hi w wr) (fun i' _ => ks.length - (intOf i').toNat)
  case atStart => exact ⟨0, rfl, Nat.zero_le _, by simpa [runL_nil] using H0.out.1, Kp.refl _ _ _⟩
  case round =>
    obtain ⟨j, rfl, hj, hO, hK⟩ := hrel
    have HO := Lib.hid (And.intro hO hK)
    clear hO hK
    by_cases hlt : j < ks.length
    · have hkj : ks[j]? = some ks[j] := List.getElem?_eq_getElem hlt
      have hmem : ks[j] ∈ ks := List.getElem_mem hlt
      obtain ⟨i, v, hij, hv, hE⟩ := H0.out.2.1 j ks[j] hkj
      obtain ⟨g, rfl, hg, hc⟩ := H0.out.2.2.1 j v hv
      obtain ⟨q, c, rfl⟩ := hE.form
      have hev := runL_take (go := go) (d := d) (out := out) hkj hij
      have hbj := runL_take_le (go := go) (d := d) (out := out) H0.out.2.2.2 (j + 1)
      have hbk := runL_le go (ks.take j) d (is.take j) out
      rw [hev] at hbj
      generalize ks[j] = x at hkj hmem hE hev hbj
      have hcr := HO.out.2.cell hg hc
      have HE := Lib.hid (And.intro (HO.out.2.ex hE) hev)
      clear hc hE hev hv hkj hij
      go_wp2_with fail
      refine (HI.out x hmem d _ wr i _ (by omega) HO.out.1 (Nat.le_trans hh HO.out.2.1) HE.out.1).mono ?_
      rintro e w2 ⟨rfl, hO2, hK2⟩
      have HO2 := Lib.hid (And.intro hO2 (HO.out.2.trans hK2))
      clear hO2 hK2
      go_wp2_with fail
      go_roundw
      case rel => exact ⟨j + 1, by go_num, by omega, by rw [HE.out.2]; exact HO2.out.1, HO2.out.2⟩
      case measure => simp [intOf]; omega
    · have hje : is.take j = is ∧ ks.take j = ks := ⟨List.take_of_length_le (by have := H0.out.2.2.2; omega), List.take_of_length_le (by omega)⟩
      have HJ := Lib.hid hje
      clear hje
      go_wp2_with fail
      (try simp only [Exit.inBlock, Exit.then])
      refine bodyPost_ret (results_none rfl _ _ _) rfl ?_
      have h1 := HO.out.1
      rw [HJ.out.1, HJ.out.2] at h1
      exact ⟨rfl, h1, HO.out.2⟩
end
end Go.Proofs.YtjbhjbpamnoebaaGreatFmt

namespace Go.Proofs.YtjbhjbpamnoebaaGreatFmt
open Go.RowKit

section
variable {lo hi : Nat} {P : Nat → Int} {go : List Ev → Bool} {Vt : TypeId} {pay rc : Nat → Value} {fV : FuncId} {Out : List Ev → List (Nd × Nat) → World → Prop}
set_option maxHeartbeats 2000000 in
set_option maxRecDepth 100000 in
theorem wk_name (hV : VS lo hi P go Vt pay rc fV Out) (tx : ByteArray) (ad : Option Addr) (cp : Nat)   (hsh : Nd.shapedB ⟨⟨#[110, 97, 109, 101]⟩, tx, ad, cp, []⟩ = true) (hsz : Nd.size ⟨⟨#[110, 97, 109, 101]⟩, tx, ad, cp, []⟩ ≤ 400) : WOf lo hi P go Vt pay Out ⟨⟨#[110, 97, 109, 101]⟩, tx, ad, cp, []⟩ := by
  intro d out W i v hbd ho hh hX
  have HX0 := Lib.hid (And.intro ho hX)
  obtain ⟨vs, hl, hn⟩ := hX
  obtain ⟨IS, hIS⟩ : ∃ IS, starts (kcode (⟨#[110, 97, 109, 101]⟩ : ByteArray)) tx (List.map Nd.ntok ([])) i = IS := ⟨_, rfl⟩
  replace hl : ExL W (Rng lo hi) P IS ([]) vs := hIS ▸ hl
  obtain ⟨b, hb, hv⟩ : NodeAt W (Rng lo hi) P 0 tx (List.map Nd.ntok ([])) i _ vs v := hn
  obtain ⟨rfl, hblk⟩ := hv
  obtain rfl := exl_nil hl
  have HB := Lib.hid hb
  have HV := Lib.hid hV
  have hm := hV.meth
  have hent := hV.ent
  show Calls _ _ #[.iface Vt (pay d.length), .iface 80 (.pointer (some ⟨b, 0, none⟩))] W _
  have HIS := Lib.hid hIS
  obtain ⟨d1, hd1⟩ : ∃ d1, d1 = d ++ [((⟨⟨#[110, 97, 109, 101]⟩, tx, ad, cp, []⟩ : Nd), i)] := ⟨_, rfl⟩
  obtain ⟨o1, ho1⟩ : ∃ o1, o1 = out ++ [((some ((⟨⟨#[110, 97, 109, 101]⟩, tx, ad, cp, []⟩ : Nd), i), d) : Ev)] := ⟨_, rfl⟩
  have hdl : d1.length ≤ d.length + 1 := by rw [hd1]; simp
  have hol : out.length + 1 ≤ o1.length := by rw [ho1]; simp
  have HD := Lib.hid (And.intro hd1 ho1)
  clear ho hblk hb hV hl hIS hd1 ho1
  go_enter Tryz.func18, Tryz.ntmps18
  have t0 := nd_Ident_Comment
  have t1 := nd_Ident_CommentGroup
  have t2 := nd_Ident_Field
  have t3 := nd_Ident_FieldList
  have t4 := nd_Ident_BadExpr
  have t5 := nd_Ident_Ident
  have t6 := nd_Ident_BasicLit
  go_wp2_with fail
  refine (HV.out.node d out W i _ _ hsh hsz (by have := run_lt go (⟨⟨#[110, 97, 109, 101]⟩, tx, ad, cp, []⟩) d i out; omega) HX0.out.1 hh HX0.out.2).mono ?_
  rintro e w0 ⟨he, hob, hk1⟩
  rw [← HD.out.1, ← HD.out.2] at he hob
  cases hst : go o1 ; rotate_left
  · rw [hst, if_pos rfl] at he hob
    subst he
    have S0 := Lib.hid (And.intro hob hk1)
    have he := Nd.run_go (n := ⟨⟨#[110, 97, 109, 101]⟩, tx, ad, cp, []⟩) (i := i) HIS.out HD.out.1 HD.out.2 hst
    replace he : Nd.run go d i ⟨⟨#[110, 97, 109, 101]⟩, tx, ad, cp, []⟩ out = selRun go d1 0 (i + (List.map Nd.ntok ([])).getD 0 0 + 1) tx (runL go d1 IS ([]) o1) ++ [(none, d1)] := he
    rw [selRun_ne (by decide), runL_nil] at he
    have hb1 := hbd.1
    have hbz : o1.length + 1 ≤ 5000 := by have h := hbd.2; rw [he, List.length_append] at h; exact h
    have HE := Lib.hid he
    clear hob hk1 hst he
    go_wp2_with fail
    have hn0 := S0.out.1
    rw [HD.out.1] at hn0
    have hn1 := HV.out.nil d _ o1 w0 (by rw [← HD.out.1]; omega) hn0 (Nat.le_trans hh S0.out.2.1)
    rw [← HD.out.1] at hn1
    clear hn0
    refine hn1.mono ?_
    clear hn1
    rintro e wz ⟨⟨r, rfl⟩, ho2, hk2⟩
    have SZ := Lib.hid (And.intro ho2 (S0.out.2.trans hk2))
    clear ho2 hk2
    go_wp2_with fail
    (try simp only [Exit.inBlock, Exit.then])
    refine bodyPost_ret (results_none rfl _ _ _) rfl ⟨rfl, ?_, SZ.out.2⟩
    rw [HE.out]
    exact SZ.out.1
  · rw [hst, if_neg Bool.false_ne_true] at he hob
    subst he
    have S0 := Lib.hid (And.intro hob hk1)
    have HE := Lib.hid (Nd.run_stop HD.out.2 hst)
    clear hob hk1 hst
    go_wp2_with fail
    (try simp only [Exit.inBlock, Exit.then])
    refine bodyPost_ret (results_none rfl _ _ _) rfl ⟨rfl, ?_, S0.out.2⟩
    rw [HE.out]
    exact S0.out.1

set_option maxHeartbeats 2000000 in
set_option maxRecDepth 100000 in
theorem wk_literal (hV : VS lo hi P go Vt pay rc fV Out) (tx : ByteArray) (ad : Option Addr) (cp : Nat)   (hsh : Nd.shapedB ⟨⟨#[108, 105, 116, 101, 114, 97, 108]⟩, tx, ad, cp, []⟩ = true) (hsz : Nd.size ⟨⟨#[108, 105, 116, 101, 114, 97, 108]⟩, tx, ad, cp, []⟩ ≤ 400) : WOf lo hi P go Vt pay Out ⟨⟨#[108, 105, 116, 101, 114, 97, 108]⟩, tx, ad, cp, []⟩ := by
  intro d out W i v hbd ho hh hX
  have HX0 := Lib.hid (And.intro ho hX)
  obtain ⟨vs, hl, hn⟩ := hX
  obtain ⟨IS, hIS⟩ : ∃ IS, starts (kcode (⟨#[108, 105, 116, 101, 114, 97, 108]⟩ : ByteArray)) tx (List.map Nd.ntok ([])) i = IS := ⟨_, rfl⟩
  replace hl : ExL W (Rng lo hi) P IS ([]) vs := hIS ▸ hl
  obtain ⟨b, hb, hv⟩ : NodeAt W (Rng lo hi) P 1 tx (List.map Nd.ntok ([])) i _ vs v := hn
  obtain ⟨rfl, hblk⟩ := hv
  obtain rfl := exl_nil hl
  have HB := Lib.hid hb
  have HV := Lib.hid hV
  have hm := hV.meth
  have hent := hV.ent
  show Calls _ _ #[.iface Vt (pay d.length), .iface 76 (.pointer (some ⟨b, 0, none⟩))] W _
  have HIS := Lib.hid hIS
  obtain ⟨d1, hd1⟩ : ∃ d1, d1 = d ++ [((⟨⟨#[108, 105, 116, 101, 114, 97, 108]⟩, tx, ad, cp, []⟩ : Nd), i)] := ⟨_, rfl⟩
  obtain ⟨o1, ho1⟩ : ∃ o1, o1 = out ++ [((some ((⟨⟨#[108, 105, 116, 101, 114, 97, 108]⟩, tx, ad, cp, []⟩ : Nd), i), d) : Ev)] := ⟨_, rfl⟩
  have hdl : d1.length ≤ d.length + 1 := by rw [hd1]; simp
  have hol : out.length + 1 ≤ o1.length := by rw [ho1]; simp
  have HD := Lib.hid (And.intro hd1 ho1)
  clear ho hblk hb hV hl hIS hd1 ho1
  go_enter Tryz.func18, Tryz.ntmps18
  have t0 := nd_BasicLit_Comment
  have t1 := nd_BasicLit_CommentGroup
  have t2 := nd_BasicLit_Field
  have t3 := nd_BasicLit_FieldList
  have t4 := nd_BasicLit_BadExpr
  have t5 := nd_BasicLit_Ident
  have t6 := nd_BasicLit_BasicLit
  go_wp2_with fail
  refine (HV.out.node d out W i _ _ hsh hsz (by have := run_lt go (⟨⟨#[108, 105, 116, 101, 114, 97, 108]⟩, tx, ad, cp, []⟩) d i out; omega) HX0.out.1 hh HX0.out.2).mono ?_
  rintro e w0 ⟨he, hob, hk1⟩
  rw [← HD.out.1, ← HD.out.2] at he hob
  cases hst : go o1 ; rotate_left
  · rw [hst, if_pos rfl] at he hob
    subst he
    have S0 := Lib.hid (And.intro hob hk1)
    have he := Nd.run_go (n := ⟨⟨#[108, 105, 116, 101, 114, 97, 108]⟩, tx, ad, cp, []⟩) (i := i) HIS.out HD.out.1 HD.out.2 hst
    replace he : Nd.run go d i ⟨⟨#[108, 105, 116, 101, 114, 97, 108]⟩, tx, ad, cp, []⟩ out = selRun go d1 1 (i + (List.map Nd.ntok ([])).getD 0 0 + 1) tx (runL go d1 IS ([]) o1) ++ [(none, d1)] := he
    rw [selRun_ne (by decide), runL_nil] at he
    have hb1 := hbd.1
    have hbz : o1.length + 1 ≤ 5000 := by have h := hbd.2; rw [he, List.length_append] at h; exact h
    have HE := Lib.hid he
    clear hob hk1 hst he
    go_wp2_with fail
    have hn0 := S0.out.1
    rw [HD.out.1] at hn0
    have hn1 := HV.out.nil d _ o1 w0 (by rw [← HD.out.1]; omega) hn0 (Nat.le_trans hh S0.out.2.1)
    rw [← HD.out.1] at hn1
    clear hn0
    refine hn1.mono ?_
    clear hn1
    rintro e wz ⟨⟨r, rfl⟩, ho2, hk2⟩
    have SZ := Lib.hid (And.intro ho2 (S0.out.2.trans hk2))
    clear ho2 hk2
    go_wp2_with fail
    (try simp only [Exit.inBlock, Exit.then])
    refine bodyPost_ret (results_none rfl _ _ _) rfl ⟨rfl, ?_, SZ.out.2⟩
    rw [HE.out]
    exact SZ.out.1
  · rw [hst, if_neg Bool.false_ne_true] at he hob
    subst he
    have S0 := Lib.hid (And.intro hob hk1)
    have HE := Lib.hid (Nd.run_stop HD.out.2 hst)
    clear hob hk1 hst
    go_wp2_with fail
    (try simp only [Exit.inBlock, Exit.then])
    refine bodyPost_ret (results_none rfl _ _ _) rfl ⟨rfl, ?_, S0.out.2⟩
    rw [HE.out]
    exact S0.out.1

set_option maxHeartbeats 2000000 in
set_option maxRecDepth 100000 in
theorem wk_paren (hV : VS lo hi P go Vt pay rc fV Out) (ad : Option Addr) (cp : Nat) (x : Nd) (IHx : WOf lo hi P go Vt pay Out x) (hsh : Nd.shapedB ⟨⟨#[112, 97, 114, 101, 110]⟩, ⟨#[]⟩, ad, cp, [x]⟩ = true) (hsz : Nd.size ⟨⟨#[112, 97, 114, 101, 110]⟩, ⟨#[]⟩, ad, cp, [x]⟩ ≤ 400) : WOf lo hi P go Vt pay Out ⟨⟨#[112, 97, 114, 101, 110]⟩, ⟨#[]⟩, ad, cp, [x]⟩ := by
  intro d out W i v hbd ho hh hX
  have HX0 := Lib.hid (And.intro ho hX)
  obtain ⟨vs, hl, hn⟩ := hX
  obtain ⟨IS, hIS⟩ : ∃ IS, starts (kcode (⟨#[112, 97, 114, 101, 110]⟩ : ByteArray)) ⟨#[]⟩ (List.map Nd.ntok ([x])) i = IS := ⟨_, rfl⟩
  replace hl : ExL W (Rng lo hi) P IS ([x]) vs := hIS ▸ hl
  obtain ⟨b, hb, hv⟩ : NodeAt W (Rng lo hi) P 2 ⟨#[]⟩ (List.map Nd.ntok ([x])) i _ vs v := hn
  obtain ⟨rfl, hblk⟩ := hv
  obtain ⟨ix, isx, qx, cx, vx, rfl, rfl, hx, hlx⟩ := exl_cons' hl
  obtain rfl := exl_nil hlx
  have k1 : W.cell? ⟨b, 1, none⟩ = some (.iface qx (.pointer (some ⟨cx, 0, none⟩))) := hblk.cell 1
  have HB := Lib.hid hb
  have HV := Lib.hid hV
  have hm := hV.meth
  have hent := hV.ent
  have Hx := Lib.hid hx
  have Ix := Lib.hid IHx
  show Calls _ _ #[.iface Vt (pay d.length), .iface 100 (.pointer (some ⟨b, 0, none⟩))] W _
  have HIS := Lib.hid hIS
  obtain ⟨d1, hd1⟩ : ∃ d1, d1 = d ++ [((⟨⟨#[112, 97, 114, 101, 110]⟩, ⟨#[]⟩, ad, cp, [x]⟩ : Nd), i)] := ⟨_, rfl⟩
  obtain ⟨o1, ho1⟩ : ∃ o1, o1 = out ++ [((some ((⟨⟨#[112, 97, 114, 101, 110]⟩, ⟨#[]⟩, ad, cp, [x]⟩ : Nd), i), d) : Ev)] := ⟨_, rfl⟩
  have hdl : d1.length ≤ d.length + 1 := by rw [hd1]; simp
  have hol : out.length + 1 ≤ o1.length := by rw [ho1]; simp
  have HD := Lib.hid (And.intro hd1 ho1)
  clear ho hblk hb hV hx IHx hl hlx hIS hd1 ho1
  go_enter Tryz.func18, Tryz.ntmps18
  have t0 := nd_ParenExpr_Comment
  have t1 := nd_ParenExpr_CommentGroup
  have t2 := nd_ParenExpr_Field
  have t3 := nd_ParenExpr_FieldList
  have t4 := nd_ParenExpr_BadExpr
  have t5 := nd_ParenExpr_Ident
  have t6 := nd_ParenExpr_BasicLit
  have t7 := nd_ParenExpr_Ellipsis
  have t8 := nd_ParenExpr_FuncLit
  have t9 := nd_ParenExpr_CompositeLit
  have t10 := nd_ParenExpr_ParenExpr
  go_wp2_with fail
  refine (HV.out.node d out W i _ _ hsh hsz (by have := run_lt go (⟨⟨#[112, 97, 114, 101, 110]⟩, ⟨#[]⟩, ad, cp, [x]⟩) d i out; omega) HX0.out.1 hh HX0.out.2).mono ?_
  rintro e w0 ⟨he, hob, hk1⟩
  rw [← HD.out.1, ← HD.out.2] at he hob
  cases hst : go o1 ; rotate_left
  · rw [hst, if_pos rfl] at he hob
    subst he
    have S0 := Lib.hid (And.intro hob hk1)
    have he := Nd.run_go (n := ⟨⟨#[112, 97, 114, 101, 110]⟩, ⟨#[]⟩, ad, cp, [x]⟩) (i := i) HIS.out HD.out.1 HD.out.2 hst
    replace he : Nd.run go d i ⟨⟨#[112, 97, 114, 101, 110]⟩, ⟨#[]⟩, ad, cp, [x]⟩ out = selRun go d1 2 (i + (List.map Nd.ntok ([x])).getD 0 0 + 1) ⟨#[]⟩ (runL go d1 (ix :: isx) ([x]) o1) ++ [(none, d1)] := he
    rw [selRun_ne (by decide), runL_cons, runL_nil] at he
    obtain ⟨o2, hR2⟩ : ∃ o2, o2 = Nd.run go d1 ix x o1 := ⟨_, rfl⟩
    rw [← hR2] at he
    have hb2 : o1.length ≤ o2.length := by rw [hR2]; exact Nat.le_of_lt (run_lt go x d1 ix o1)
    have HR2 := Lib.hid hR2
    clear hR2
    have hb1 := hbd.1
    have hbz : o2.length + 1 ≤ 5000 := by have h := hbd.2; rw [he, List.length_append] at h; exact h
    have HE := Lib.hid he
    clear hob hk1 hst he
    have a0_1 : w0.cell? ⟨b, 1, none⟩ = some (.iface qx (.pointer (some ⟨cx, 0, none⟩))) := S0.out.2.cell HB.out k1
    go_wp2_with fail
    refine (Ix.out d1 _ w0 ix _ (by rw [← HR2.out]; omega) S0.out.1 (Nat.le_trans hh S0.out.2.1) (S0.out.2.ex Hx.out)).mono ?_
    rintro e w1 ⟨rfl, ho2, hk2⟩
    rw [← HR2.out] at ho2
    have S1 := Lib.hid (And.intro ho2 (S0.out.2.trans hk2))
    clear ho2 hk2 a0_1
    have a1_1 : w1.cell? ⟨b, 1, none⟩ = some (.iface qx (.pointer (some ⟨cx, 0, none⟩))) := S1.out.2.cell HB.out k1
    go_wp2_with fail
    have hn0 := S1.out.1
    rw [HD.out.1] at hn0
    have hn1 := HV.out.nil d _ o2 w1 (by rw [← HD.out.1]; omega) hn0 (Nat.le_trans hh S1.out.2.1)
    rw [← HD.out.1] at hn1
    clear hn0
    refine hn1.mono ?_
    clear hn1
    rintro e wz ⟨⟨r, rfl⟩, ho2, hk2⟩
    have SZ := Lib.hid (And.intro ho2 (S1.out.2.trans hk2))
    clear ho2 hk2 a1_1
    go_wp2_with fail
    (try simp only [Exit.inBlock, Exit.then])
    refine bodyPost_ret (results_none rfl _ _ _) rfl ⟨rfl, ?_, SZ.out.2⟩
    rw [HE.out]
    exact SZ.out.1
  · rw [hst, if_neg Bool.false_ne_true] at he hob
    subst he
    have S0 := Lib.hid (And.intro hob hk1)
    have HE := Lib.hid (Nd.run_stop HD.out.2 hst)
    clear hob hk1 hst
    go_wp2_with fail
    (try simp only [Exit.inBlock, Exit.then])
    refine bodyPost_ret (results_none rfl _ _ _) rfl ⟨rfl, ?_, S0.out.2⟩
    rw [HE.out]
    exact S0.out.1

set_option maxHeartbeats 2000000 in
set_option maxRecDepth 100000 in
theorem wk_star (hV : VS lo hi P go Vt pay rc fV Out) (ad : Option Addr) (cp : Nat) (x : Nd) (IHx : WOf lo hi P go Vt pay Out x) (hsh : Nd.shapedB ⟨⟨#[115, 116, 97, 114]⟩, ⟨#[]⟩, ad, cp, [x]⟩ = true) (hsz : Nd.size ⟨⟨#[115, 116, 97, 114]⟩, ⟨#[]⟩, ad, cp, [x]⟩ ≤ 400) : WOf lo hi P go Vt pay Out ⟨⟨#[115, 116, 97, 114]⟩, ⟨#[]⟩, ad, cp, [x]⟩ := by
  intro d out W i v hbd ho hh hX
  have HX0 := Lib.hid (And.intro ho hX)
  obtain ⟨vs, hl, hn⟩ := hX
  obtain ⟨IS, hIS⟩ : ∃ IS, starts (kcode (⟨#[115, 116, 97, 114]⟩ : ByteArray)) ⟨#[]⟩ (List.map Nd.ntok ([x])) i = IS := ⟨_, rfl⟩
  replace hl : ExL W (Rng lo hi) P IS ([x]) vs := hIS ▸ hl
  obtain ⟨b, hb, hv⟩ : NodeAt W (Rng lo hi) P 3 ⟨#[]⟩ (List.map Nd.ntok ([x])) i _ vs v := hn
  obtain ⟨rfl, hblk⟩ := hv
  obtain ⟨ix, isx, qx, cx, vx, rfl, rfl, hx, hlx⟩ := exl_cons' hl
  obtain rfl := exl_nil hlx
  have k1 : W.cell? ⟨b, 1, none⟩ = some (.iface qx (.pointer (some ⟨cx, 0, none⟩))) := hblk.cell 1
  have HB := Lib.hid hb
  have HV := Lib.hid hV
  have hm := hV.meth
  have hent := hV.ent
  have Hx := Lib.hid hx
  have Ix := Lib.hid IHx
  show Calls _ _ #[.iface Vt (pay d.length), .iface 121 (.pointer (some ⟨b, 0, none⟩))] W _
  have HIS := Lib.hid hIS
  obtain ⟨d1, hd1⟩ : ∃ d1, d1 = d ++ [((⟨⟨#[115, 116, 97, 114]⟩, ⟨#[]⟩, ad, cp, [x]⟩ : Nd), i)] := ⟨_, rfl⟩
  obtain ⟨o1, ho1⟩ : ∃ o1, o1 = out ++ [((some ((⟨⟨#[115, 116, 97, 114]⟩, ⟨#[]⟩, ad, cp, [x]⟩ : Nd), i), d) : Ev)] := ⟨_, rfl⟩
  have hdl : d1.length ≤ d.length + 1 := by rw [hd1]; simp
  have hol : out.length + 1 ≤ o1.length := by rw [ho1]; simp
  have HD := Lib.hid (And.intro hd1 ho1)
  clear ho hblk hb hV hx IHx hl hlx hIS hd1 ho1
  go_enter Tryz.func18, Tryz.ntmps18
  have t0 := nd_StarExpr_Comment
  have t1 := nd_StarExpr_CommentGroup
  have t2 := nd_StarExpr_Field
  have t3 := nd_StarExpr_FieldList
  have t4 := nd_StarExpr_BadExpr
  have t5 := nd_StarExpr_Ident
  have t6 := nd_StarExpr_BasicLit
  have t7 := nd_StarExpr_Ellipsis
  have t8 := nd_StarExpr_FuncLit
  have t9 := nd_StarExpr_CompositeLit
  have t10 := nd_StarExpr_ParenExpr
  have t11 := nd_StarExpr_SelectorExpr
  have t12 := nd_StarExpr_IndexExpr
  have t13 := nd_StarExpr_IndexListExpr
  have t14 := nd_StarExpr_SliceExpr
  have t15 := nd_StarExpr_TypeAssertExpr
  have t16 := nd_StarExpr_CallExpr
  have t17 := nd_StarExpr_StarExpr
  go_wp2_with fail
  refine (HV.out.node d out W i _ _ hsh hsz (by have := run_lt go (⟨⟨#[115, 116, 97, 114]⟩, ⟨#[]⟩, ad, cp, [x]⟩) d i out; omega) HX0.out.1 hh HX0.out.2).mono ?_
  rintro e w0 ⟨he, hob, hk1⟩
  rw [← HD.out.1, ← HD.out.2] at he hob
  cases hst : go o1 ; rotate_left
  · rw [hst, if_pos rfl] at he hob
    subst he
    have S0 := Lib.hid (And.intro hob hk1)
    have he := Nd.run_go (n := ⟨⟨#[115, 116, 97, 114]⟩, ⟨#[]⟩, ad, cp, [x]⟩) (i := i) HIS.out HD.out.1 HD.out.2 hst
    replace he : Nd.run go d i ⟨⟨#[115, 116, 97, 114]⟩, ⟨#[]⟩, ad, cp, [x]⟩ out = selRun go d1 3 (i + (List.map Nd.ntok ([x])).getD 0 0 + 1) ⟨#[]⟩ (runL go d1 (ix :: isx) ([x]) o1) ++ [(none, d1)] := he
    rw [selRun_ne (by decide), runL_cons, runL_nil] at he
    obtain ⟨o2, hR2⟩ : ∃ o2, o2 = Nd.run go d1 ix x o1 := ⟨_, rfl⟩
    rw [← hR2] at he
    have hb2 : o1.length ≤ o2.length := by rw [hR2]; exact Nat.le_of_lt (run_lt go x d1 ix o1)
    have HR2 := Lib.hid hR2
    clear hR2
    have hb1 := hbd.1
    have hbz : o2.length + 1 ≤ 5000 := by have h := hbd.2; rw [he, List.length_append] at h; exact h
    have HE := Lib.hid he
    clear hob hk1 hst he
    have a0_1 : w0.cell? ⟨b, 1, none⟩ = some (.iface qx (.pointer (some ⟨cx, 0, none⟩))) := S0.out.2.cell HB.out k1
    go_wp2_with fail
    refine (Ix.out d1 _ w0 ix _ (by rw [← HR2.out]; omega) S0.out.1 (Nat.le_trans hh S0.out.2.1) (S0.out.2.ex Hx.out)).mono ?_
    rintro e w1 ⟨rfl, ho2, hk2⟩
    rw [← HR2.out] at ho2
    have S1 := Lib.hid (And.intro ho2 (S0.out.2.trans hk2))
    clear ho2 hk2 a0_1
    have a1_1 : w1.cell? ⟨b, 1, none⟩ = some (.iface qx (.pointer (some ⟨cx, 0, none⟩))) := S1.out.2.cell HB.out k1
    go_wp2_with fail
    have hn0 := S1.out.1
    rw [HD.out.1] at hn0
    have hn1 := HV.out.nil d _ o2 w1 (by rw [← HD.out.1]; omega) hn0 (Nat.le_trans hh S1.out.2.1)
    rw [← HD.out.1] at hn1
    clear hn0
    refine hn1.mono ?_
    clear hn1
    rintro e wz ⟨⟨r, rfl⟩, ho2, hk2⟩
    have SZ := Lib.hid (And.intro ho2 (S1.out.2.trans hk2))
    clear ho2 hk2 a1_1
    go_wp2_with fail
    (try simp only [Exit.inBlock, Exit.then])
    refine bodyPost_ret (results_none rfl _ _ _) rfl ⟨rfl, ?_, SZ.out.2⟩
    rw [HE.out]
    exact SZ.out.1
  · rw [hst, if_neg Bool.false_ne_true] at he hob
    subst he
    have S0 := Lib.hid (And.intro hob hk1)
    have HE := Lib.hid (Nd.run_stop HD.out.2 hst)
    clear hob hk1 hst
    go_wp2_with fail
    (try simp only [Exit.inBlock, Exit.then])
    refine bodyPost_ret (results_none rfl _ _ _) rfl ⟨rfl, ?_, S0.out.2⟩
    rw [HE.out]
    exact S0.out.1

set_option maxHeartbeats 2000000 in
set_option maxRecDepth 100000 in
theorem wk_unary (hV : VS lo hi P go Vt pay rc fV Out) (tx : ByteArray) (ad : Option Addr) (cp : Nat) (x : Nd) (IHx : WOf lo hi P go Vt pay Out x) (hsh : Nd.shapedB ⟨⟨#[117, 110, 97, 114, 121]⟩, tx, ad, cp, [x]⟩ = true) (hsz : Nd.size ⟨⟨#[117, 110, 97, 114, 121]⟩, tx, ad, cp, [x]⟩ ≤ 400) : WOf lo hi P go Vt pay Out ⟨⟨#[117, 110, 97, 114, 121]⟩, tx, ad, cp, [x]⟩ := by
  intro d out W i v hbd ho hh hX
  have HX0 := Lib.hid (And.intro ho hX)
  obtain ⟨vs, hl, hn⟩ := hX
  obtain ⟨IS, hIS⟩ : ∃ IS, starts (kcode (⟨#[117, 110, 97, 114, 121]⟩ : ByteArray)) tx (List.map Nd.ntok ([x])) i = IS := ⟨_, rfl⟩
  replace hl : ExL W (Rng lo hi) P IS ([x]) vs := hIS ▸ hl
  obtain ⟨b, hb, hv⟩ : NodeAt W (Rng lo hi) P 4 tx (List.map Nd.ntok ([x])) i _ vs v := hn
  obtain ⟨rfl, hblk⟩ := hv
  obtain ⟨ix, isx, qx, cx, vx, rfl, rfl, hx, hlx⟩ := exl_cons' hl
  obtain rfl := exl_nil hlx
  have k2 : W.cell? ⟨b, 2, none⟩ = some (.iface qx (.pointer (some ⟨cx, 0, none⟩))) := hblk.cell 2
  have HB := Lib.hid hb
  have HV := Lib.hid hV
  have hm := hV.meth
  have hent := hV.ent
  have Hx := Lib.hid hx
  have Ix := Lib.hid IHx
  show Calls _ _ #[.iface Vt (pay d.length), .iface 124 (.pointer (some ⟨b, 0, none⟩))] W _
  have HIS := Lib.hid hIS
  obtain ⟨d1, hd1⟩ : ∃ d1, d1 = d ++ [((⟨⟨#[117, 110, 97, 114, 121]⟩, tx, ad, cp, [x]⟩ : Nd), i)] := ⟨_, rfl⟩
  obtain ⟨o1, ho1⟩ : ∃ o1, o1 = out ++ [((some ((⟨⟨#[117, 110, 97, 114, 121]⟩, tx, ad, cp, [x]⟩ : Nd), i), d) : Ev)] := ⟨_, rfl⟩
  have hdl : d1.length ≤ d.length + 1 := by rw [hd1]; simp
  have hol : out.length + 1 ≤ o1.length := by rw [ho1]; simp
  have HD := Lib.hid (And.intro hd1 ho1)
  clear ho hblk hb hV hx IHx hl hlx hIS hd1 ho1
  go_enter Tryz.func18, Tryz.ntmps18
  have t0 := nd_UnaryExpr_Comment
  have t1 := nd_UnaryExpr_CommentGroup
  have t2 := nd_UnaryExpr_Field
  have t3 := nd_UnaryExpr_FieldList
  have t4 := nd_UnaryExpr_BadExpr
  have t5 := nd_UnaryExpr_Ident
  have t6 := nd_UnaryExpr_BasicLit
  have t7 := nd_UnaryExpr_Ellipsis
  have t8 := nd_UnaryExpr_FuncLit
  have t9 := nd_UnaryExpr_CompositeLit
  have t10 := nd_UnaryExpr_ParenExpr
  have t11 := nd_UnaryExpr_SelectorExpr
  have t12 := nd_UnaryExpr_IndexExpr
  have t13 := nd_UnaryExpr_IndexListExpr
  have t14 := nd_UnaryExpr_SliceExpr
  have t15 := nd_UnaryExpr_TypeAssertExpr
  have t16 := nd_UnaryExpr_CallExpr
  have t17 := nd_UnaryExpr_StarExpr
  have t18 := nd_UnaryExpr_UnaryExpr
  go_wp2_with fail
  refine (HV.out.node d out W i _ _ hsh hsz (by have := run_lt go (⟨⟨#[117, 110, 97, 114, 121]⟩, tx, ad, cp, [x]⟩) d i out; omega) HX0.out.1 hh HX0.out.2).mono ?_
  rintro e w0 ⟨he, hob, hk1⟩
  rw [← HD.out.1, ← HD.out.2] at he hob
  cases hst : go o1 ; rotate_left
  · rw [hst, if_pos rfl] at he hob
    subst he
    have S0 := Lib.hid (And.intro hob hk1)
    have he := Nd.run_go (n := ⟨⟨#[117, 110, 97, 114, 121]⟩, tx, ad, cp, [x]⟩) (i := i) HIS.out HD.out.1 HD.out.2 hst
    replace he : Nd.run go d i ⟨⟨#[117, 110, 97, 114, 121]⟩, tx, ad, cp, [x]⟩ out = selRun go d1 4 (i + (List.map Nd.ntok ([x])).getD 0 0 + 1) tx (runL go d1 (ix :: isx) ([x]) o1) ++ [(none, d1)] := he
    rw [selRun_ne (by decide), runL_cons, runL_nil] at he
    obtain ⟨o2, hR2⟩ : ∃ o2, o2 = Nd.run go d1 ix x o1 := ⟨_, rfl⟩
    rw [← hR2] at he
    have hb2 : o1.length ≤ o2.length := by rw [hR2]; exact Nat.le_of_lt (run_lt go x d1 ix o1)
    have HR2 := Lib.hid hR2
    clear hR2
    have hb1 := hbd.1
    have hbz : o2.length + 1 ≤ 5000 := by have h := hbd.2; rw [he, List.length_append] at h; exact h
    have HE := Lib.hid he
    clear hob hk1 hst he
    have a0_2 : w0.cell? ⟨b, 2, none⟩ = some (.iface qx (.pointer (some ⟨cx, 0, none⟩))) := S0.out.2.cell HB.out k2
    go_wp2_with fail
    refine (Ix.out d1 _ w0 ix _ (by rw [← HR2.out]; omega) S0.out.1 (Nat.le_trans hh S0.out.2.1) (S0.out.2.ex Hx.out)).mono ?_
    rintro e w1 ⟨rfl, ho2, hk2⟩
    rw [← HR2.out] at ho2
    have S1 := Lib.hid (And.intro ho2 (S0.out.2.trans hk2))
    clear ho2 hk2 a0_2
    have a1_2 : w1.cell? ⟨b, 2, none⟩ = some (.iface qx (.pointer (some ⟨cx, 0, none⟩))) := S1.out.2.cell HB.out k2
    go_wp2_with fail
    have hn0 := S1.out.1
    rw [HD.out.1] at hn0
    have hn1 := HV.out.nil d _ o2 w1 (by rw [← HD.out.1]; omega) hn0 (Nat.le_trans hh S1.out.2.1)
    rw [← HD.out.1] at hn1
    clear hn0
    refine hn1.mono ?_
    clear hn1
    rintro e wz ⟨⟨r, rfl⟩, ho2, hk2⟩
    have SZ := Lib.hid (And.intro ho2 (S1.out.2.trans hk2))
    clear ho2 hk2 a1_2
    go_wp2_with fail
    (try simp only [Exit.inBlock, Exit.then])
    refine bodyPost_ret (results_none rfl _ _ _) rfl ⟨rfl, ?_, SZ.out.2⟩
    rw [HE.out]
    exact SZ.out.1
  · rw [hst, if_neg Bool.false_ne_true] at he hob
    subst he
    have S0 := Lib.hid (And.intro hob hk1)
    have HE := Lib.hid (Nd.run_stop HD.out.2 hst)
    clear hob hk1 hst
    go_wp2_with fail
    (try simp only [Exit.inBlock, Exit.then])
    refine bodyPost_ret (results_none rfl _ _ _) rfl ⟨rfl, ?_, S0.out.2⟩
    rw [HE.out]
    exact S0.out.1

set_option maxHeartbeats 2000000 in
set_option maxRecDepth 100000 in
theorem wk_array1 (hV : VS lo hi P go Vt pay rc fV Out) (ad : Option Addr) (cp : Nat) (x : Nd) (IHx : WOf lo hi P go Vt pay Out x) (hsh : Nd.shapedB ⟨⟨#[97, 114, 114, 97, 121]⟩, ⟨#[]⟩, ad, cp, [x]⟩ = true) (hsz : Nd.size ⟨⟨#[97, 114, 114, 97, 121]⟩, ⟨#[]⟩, ad, cp, [x]⟩ ≤ 400) : WOf lo hi P go Vt pay Out ⟨⟨#[97, 114, 114, 97, 121]⟩, ⟨#[]⟩, ad, cp, [x]⟩ := by
  intro d out W i v hbd ho hh hX
  have HX0 := Lib.hid (And.intro ho hX)
  obtain ⟨vs, hl, hn⟩ := hX
  obtain ⟨IS, hIS⟩ : ∃ IS, starts (kcode (⟨#[97, 114, 114, 97, 121]⟩ : ByteArray)) ⟨#[]⟩ (List.map Nd.ntok ([x])) i = IS := ⟨_, rfl⟩
  replace hl : ExL W (Rng lo hi) P IS ([x]) vs := hIS ▸ hl
  obtain ⟨b, hb, hv⟩ : NodeAt W (Rng lo hi) P 14 ⟨#[]⟩ (List.map Nd.ntok ([x])) i _ vs v := hn
  obtain ⟨rfl, hblk⟩ := hv
  obtain ⟨ix, isx, qx, cx, vx, rfl, rfl, hx, hlx⟩ := exl_cons' hl
  obtain rfl := exl_nil hlx
  have k1 : W.cell? ⟨b, 1, none⟩ = some (.nilIface) := hblk.cell 1
  have k2 : W.cell? ⟨b, 2, none⟩ = some (.iface qx (.pointer (some ⟨cx, 0, none⟩))) := hblk.cell 2
  have HB := Lib.hid hb
  have HV := Lib.hid hV
  have hm := hV.meth
  have hent := hV.ent
  have Hx := Lib.hid hx
  have Ix := Lib.hid IHx
  show Calls _ _ #[.iface Vt (pay d.length), .iface 134 (.pointer (some ⟨b, 0, none⟩))] W _
  have HIS := Lib.hid hIS
  obtain ⟨d1, hd1⟩ : ∃ d1, d1 = d ++ [((⟨⟨#[97, 114, 114, 97, 121]⟩, ⟨#[]⟩, ad, cp, [x]⟩ : Nd), i)] := ⟨_, rfl⟩
  obtain ⟨o1, ho1⟩ : ∃ o1, o1 = out ++ [((some ((⟨⟨#[97, 114, 114, 97, 121]⟩, ⟨#[]⟩, ad, cp, [x]⟩ : Nd), i), d) : Ev)] := ⟨_, rfl⟩
  have hdl : d1.length ≤ d.length + 1 := by rw [hd1]; simp
  have hol : out.length + 1 ≤ o1.length := by rw [ho1]; simp
  have HD := Lib.hid (And.intro hd1 ho1)
  clear ho hblk hb hV hx IHx hl hlx hIS hd1 ho1
  go_enter Tryz.func18, Tryz.ntmps18
  have t0 := nd_ArrayType_Comment
  have t1 := nd_ArrayType_CommentGroup
  have t2 := nd_ArrayType_Field
  have t3 := nd_ArrayType_FieldList
  have t4 := nd_ArrayType_BadExpr
  have t5 := nd_ArrayType_Ident
  have t6 := nd_ArrayType_BasicLit
  have t7 := nd_ArrayType_Ellipsis
  have t8 := nd_ArrayType_FuncLit
  have t9 := nd_ArrayType_CompositeLit
  have t10 := nd_ArrayType_ParenExpr
  have t11 := nd_ArrayType_SelectorExpr
  have t12 := nd_ArrayType_IndexExpr
  have t13 := nd_ArrayType_IndexListExpr
  have t14 := nd_ArrayType_SliceExpr
  have t15 := nd_ArrayType_TypeAssertExpr
  have t16 := nd_ArrayType_CallExpr
  have t17 := nd_ArrayType_StarExpr
  have t18 := nd_ArrayType_UnaryExpr
  have t19 := nd_ArrayType_BinaryExpr
  have t20 := nd_ArrayType_KeyValueExpr
  have t21 := nd_ArrayType_ArrayType
  go_wp2_with fail
  refine (HV.out.node d out W i _ _ hsh hsz (by have := run_lt go (⟨⟨#[97, 114, 114, 97, 121]⟩, ⟨#[]⟩, ad, cp, [x]⟩) d i out; omega) HX0.out.1 hh HX0.out.2).mono ?_
  rintro e w0 ⟨he, hob, hk1⟩
  rw [← HD.out.1, ← HD.out.2] at he hob
  cases hst : go o1 ; rotate_left
  · rw [hst, if_pos rfl] at he hob
    subst he
    have S0 := Lib.hid (And.intro hob hk1)
    have he := Nd.run_go (n := ⟨⟨#[97, 114, 114, 97, 121]⟩, ⟨#[]⟩, ad, cp, [x]⟩) (i := i) HIS.out HD.out.1 HD.out.2 hst
    replace he : Nd.run go d i ⟨⟨#[97, 114, 114, 97, 121]⟩, ⟨#[]⟩, ad, cp, [x]⟩ out = selRun go d1 14 (i + (List.map Nd.ntok ([x])).getD 0 0 + 1) ⟨#[]⟩ (runL go d1 (ix :: isx) ([x]) o1) ++ [(none, d1)] := he
    rw [selRun_ne (by decide), runL_cons, runL_nil] at he
    obtain ⟨o2, hR2⟩ : ∃ o2, o2 = Nd.run go d1 ix x o1 := ⟨_, rfl⟩
    rw [← hR2] at he
    have hb2 : o1.length ≤ o2.length := by rw [hR2]; exact Nat.le_of_lt (run_lt go x d1 ix o1)
    have HR2 := Lib.hid hR2
    clear hR2
    have hb1 := hbd.1
    have hbz : o2.length + 1 ≤ 5000 := by have h := hbd.2; rw [he, List.length_append] at h; exact h
    have HE := Lib.hid he
    clear hob hk1 hst he
    have a0_1 : w0.cell? ⟨b, 1, none⟩ = some (.nilIface) := S0.out.2.cell HB.out k1
    have a0_2 : w0.cell? ⟨b, 2, none⟩ = some (.iface qx (.pointer (some ⟨cx, 0, none⟩))) := S0.out.2.cell HB.out k2
    go_wp2_with fail
    refine (Ix.out d1 _ w0 ix _ (by rw [← HR2.out]; omega) S0.out.1 (Nat.le_trans hh S0.out.2.1) (S0.out.2.ex Hx.out)).mono ?_
    rintro e w1 ⟨rfl, ho2, hk2⟩
    rw [← HR2.out] at ho2
    have S1 := Lib.hid (And.intro ho2 (S0.out.2.trans hk2))
    clear ho2 hk2 a0_1 a0_2
    have a1_1 : w1.cell? ⟨b, 1, none⟩ = some (.nilIface) := S1.out.2.cell HB.out k1
    have a1_2 : w1.cell? ⟨b, 2, none⟩ = some (.iface qx (.pointer (some ⟨cx, 0, none⟩))) := S1.out.2.cell HB.out k2
    go_wp2_with fail
    have hn0 := S1.out.1
    rw [HD.out.1] at hn0
    have hn1 := HV.out.nil d _ o2 w1 (by rw [← HD.out.1]; omega) hn0 (Nat.le_trans hh S1.out.2.1)
    rw [← HD.out.1] at hn1
    clear hn0
    refine hn1.mono ?_
    clear hn1
    rintro e wz ⟨⟨r, rfl⟩, ho2, hk2⟩
    have SZ := Lib.hid (And.intro ho2 (S1.out.2.trans hk2))
    clear ho2 hk2 a1_1 a1_2
    go_wp2_with fail
    (try simp only [Exit.inBlock, Exit.then])
    refine bodyPost_ret (results_none rfl _ _ _) rfl ⟨rfl, ?_, SZ.out.2⟩
    rw [HE.out]
    exact SZ.out.1
  · rw [hst, if_neg Bool.false_ne_true] at he hob
    subst he
    have S0 := Lib.hid (And.intro hob hk1)
    have HE := Lib.hid (Nd.run_stop HD.out.2 hst)
    clear hob hk1 hst
    go_wp2_with fail
    (try simp only [Exit.inBlock, Exit.then])
    refine bodyPost_ret (results_none rfl _ _ _) rfl ⟨rfl, ?_, S0.out.2⟩
    rw [HE.out]
    exact S0.out.1
end
end Go.Proofs.YtjbhjbpamnoebaaGreatFmt
