/-
  spec.Tokens, kind by kind: those whose operands are calls alone.
-/
import Derived.Test.YtjbhjbpamnoebaaGreatFmtL2
namespace Go.Proofs.YtjbhjbpamnoebaaGreatFmt
open Go.RowKit

theorem TCone {W w : World} {n : Nd} (h : TC W n w) : w.ownsRow (W.heap.size + 1) 9 1 (.slice (some ⟨W.heap.size + 1, 0, none⟩) 1 1) 1 (flatT [n.tx]) := ⟨rfl, .inr ⟨_, 1, _, rfl, Nat.le_refl _, h.2.1, Nat.le_refl _, by decide, rfl, rfl⟩⟩
set_option maxRecDepth 100000 in
theorem tok_name (tx : ByteArray) (ad : Option Addr) (cp : Nat) : TOf ⟨⟨#[110, 97, 109, 101]⟩, tx, ad, cp, []⟩ := by
  intro W hs hz hin
  have hlen := toks_le hs hz
  have hT : Nd.toks ⟨⟨#[110, 97, 109, 101]⟩, tx, ad, cp, []⟩ = [tx] := by
    rw [toks_eq]
    rfl
  have HT := Lib.hid hT
  rw [hT] at hlen
  have hC : TC W ⟨⟨#[110, 97, 109, 101]⟩, tx, ad, cp, []⟩ ((W.alloc (.cells #[.string ⟨#[110, 97, 109, 101]⟩, .string tx, .slice ad 0 cp] 24)).alloc (.cells #[.string tx] 9)) := TC.start hin
  have C0 := Lib.hid hC
  have c0 := hC.c0
  show Calls _ _ #[.agg #[.string ⟨#[110, 97, 109, 101]⟩, .string tx, .slice ad 0 cp]] W _
  clear hs hz hin hT hC
  go_enter Tryz.func13, Tryz.ntmps13
  go_wp2_with fail
  go_ret
  rw [HT.out]
  exact ⟨_, _, rfl, own_lowT (base' := W.heap.size) (TCone C0.out) (Nat.le_succ _), C0.out.below⟩
set_option maxRecDepth 100000 in
theorem tok_literal (tx : ByteArray) (ad : Option Addr) (cp : Nat) : TOf ⟨⟨#[108, 105, 116, 101, 114, 97, 108]⟩, tx, ad, cp, []⟩ := by
  intro W hs hz hin
  have hlen := toks_le hs hz
  have hT : Nd.toks ⟨⟨#[108, 105, 116, 101, 114, 97, 108]⟩, tx, ad, cp, []⟩ = [tx] := by
    rw [toks_eq]
    rfl
  have HT := Lib.hid hT
  rw [hT] at hlen
  have hC : TC W ⟨⟨#[108, 105, 116, 101, 114, 97, 108]⟩, tx, ad, cp, []⟩ ((W.alloc (.cells #[.string ⟨#[108, 105, 116, 101, 114, 97, 108]⟩, .string tx, .slice ad 0 cp] 24)).alloc (.cells #[.string tx] 9)) := TC.start hin
  have C0 := Lib.hid hC
  have c0 := hC.c0
  show Calls _ _ #[.agg #[.string ⟨#[108, 105, 116, 101, 114, 97, 108]⟩, .string tx, .slice ad 0 cp]] W _
  clear hs hz hin hT hC
  go_enter Tryz.func13, Tryz.ntmps13
  go_wp2_with fail
  go_ret
  rw [HT.out]
  exact ⟨_, _, rfl, own_lowT (base' := W.heap.size) (TCone C0.out) (Nat.le_succ _), C0.out.below⟩
set_option maxRecDepth 100000 in
theorem tok_paren (tx : ByteArray) (ad : Option Addr) (cp : Nat) (x : Nd) (IH : ∀ k ∈ [x], TOf k) : TOf ⟨⟨#[112, 97, 114, 101, 110]⟩, tx, ad, cp, [x]⟩ := by
  intro W hs hz hin
  have hlen := toks_le hs hz
  have HK := Lib.hid (fun (w : World) (C : TC W ⟨⟨#[112, 97, 114, 101, 110]⟩, tx, ad, cp, [x]⟩ w) (j : Nat) (k : Nd) (hk : [x][j]? = some k) => tkid_any ⟨⟨#[112, 97, 114, 101, 110]⟩, tx, ad, cp, [x]⟩ IH hs hz W w C j k hk)
  have hT : Nd.toks ⟨⟨#[112, 97, 114, 101, 110]⟩, tx, ad, cp, [x]⟩ = catT [[⟨#[40]⟩], x.toks, [⟨#[41]⟩]] := by
    rw [toks_eq, show kcode (⟨#[112, 97, 114, 101, 110]⟩ : ByteArray) = 2 from by decide]
    simp [tokOf, t0, catT]
  have HT := Lib.hid hT
  rw [hT] at hlen
  have hC : TC W ⟨⟨#[112, 97, 114, 101, 110]⟩, tx, ad, cp, [x]⟩ ((W.alloc (.cells #[.string ⟨#[112, 97, 114, 101, 110]⟩, .string tx, .slice ad 1 cp] 24)).alloc (.cells #[.string tx] 9)) := TC.start hin
  have C0 := Lib.hid hC
  have c0 := hC.c0
  show Calls _ _ #[.agg #[.string ⟨#[112, 97, 114, 101, 110]⟩, .string tx, .slice ad 1 cp]] W _
  clear IH hs hz hin hT hC
  go_enter Tryz.func13, Tryz.ntmps13
  go_wp2_with fail
  refine (tok2_any _ _ _ _).mono ?_
  rintro e w1 ⟨rfl, rfl⟩
  go_wp2_with fail
  refine (HK.out _ (by repeat (first | with_reducible exact C0.out | with_reducible refine TC.alloc ?_ _ | with_reducible refine TC.drew ?_)) 0 x rfl).mono ?_
  rintro e w2 ⟨A3, c3, rfl, h2, b2⟩
  have H2 := Lib.hid (Rw.low h2)
  have B2 := Lib.hid b2
  clear h2 b2
  go_wp2_with fail
  refine (tok2_any _ _ _ _).mono ?_
  rintro e w3 ⟨rfl, rfl⟩
  go_wp2_with fail
  refine (join_any _ [[⟨#[40]⟩], x.toks, [⟨#[41]⟩]] _ _ (lists3 (by repeat (first | with_reducible exact H2.out | (with_reducible refine Rw.newg _ _ ?_; (first | with_reducible rfl | (simp; done) | (simp; omega))) | (with_reducible refine Rw.newg2 _ _ _ ?_; (first | with_reducible rfl | (simp; done) | (simp; omega))) | with_reducible exact TC.one C0.out | with_reducible refine Rw.alloc ?_ _ | with_reducible refine Rw.drew ?_ | with_reducible refine Rw.next ?_ B2.out)) (by repeat (first | with_reducible exact H2.out | (with_reducible refine Rw.newg _ _ ?_; (first | with_reducible rfl | (simp; done) | (simp; omega))) | (with_reducible refine Rw.newg2 _ _ _ ?_; (first | with_reducible rfl | (simp; done) | (simp; omega))) | with_reducible exact TC.one C0.out | with_reducible refine Rw.alloc ?_ _ | with_reducible refine Rw.drew ?_ | with_reducible refine Rw.next ?_ B2.out)) (by repeat (first | with_reducible exact H2.out | (with_reducible refine Rw.newg _ _ ?_; (first | with_reducible rfl | (simp; done) | (simp; omega))) | (with_reducible refine Rw.newg2 _ _ _ ?_; (first | with_reducible rfl | (simp; done) | (simp; omega))) | with_reducible exact TC.one C0.out | with_reducible refine Rw.alloc ?_ _ | with_reducible refine Rw.drew ?_ | with_reducible refine Rw.next ?_ B2.out)) (by (first | with_reducible rfl | (simp; done) | (simp; omega)))) (by simp) (by omega) _ rfl).mono ?_
  rintro e w9 ⟨A9, c9, rfl, h9, b9⟩
  have H9 := Lib.hid (And.intro h9 b9)
  clear h9 b9
  go_wp2_with fail
  go_ret
  exact tk_end (by repeat (first | with_reducible exact C0.out | with_reducible refine TC.alloc ?_ _ | with_reducible refine TC.drew ?_ | with_reducible refine TC.next ?_ B2.out)) HT.out H9.out.1 H9.out.2
set_option maxRecDepth 100000 in
theorem tok_star (tx : ByteArray) (ad : Option Addr) (cp : Nat) (x : Nd) (IH : ∀ k ∈ [x], TOf k) : TOf ⟨⟨#[115, 116, 97, 114]⟩, tx, ad, cp, [x]⟩ := by
  intro W hs hz hin
  have hlen := toks_le hs hz
  have HK := Lib.hid (fun (w : World) (C : TC W ⟨⟨#[115, 116, 97, 114]⟩, tx, ad, cp, [x]⟩ w) (j : Nat) (k : Nd) (hk : [x][j]? = some k) => tkid_any ⟨⟨#[115, 116, 97, 114]⟩, tx, ad, cp, [x]⟩ IH hs hz W w C j k hk)
  have hT : Nd.toks ⟨⟨#[115, 116, 97, 114]⟩, tx, ad, cp, [x]⟩ = catT [[⟨#[42]⟩], x.toks] := by
    rw [toks_eq, show kcode (⟨#[115, 116, 97, 114]⟩ : ByteArray) = 3 from by decide]
    simp [tokOf, t0, catT]
  have HT := Lib.hid hT
  rw [hT] at hlen
  have hC : TC W ⟨⟨#[115, 116, 97, 114]⟩, tx, ad, cp, [x]⟩ ((W.alloc (.cells #[.string ⟨#[115, 116, 97, 114]⟩, .string tx, .slice ad 1 cp] 24)).alloc (.cells #[.string tx] 9)) := TC.start hin
  have C0 := Lib.hid hC
  have c0 := hC.c0
  show Calls _ _ #[.agg #[.string ⟨#[115, 116, 97, 114]⟩, .string tx, .slice ad 1 cp]] W _
  clear IH hs hz hin hT hC
  go_enter Tryz.func13, Tryz.ntmps13
  go_wp2_with fail
  refine (tok2_any _ _ _ _).mono ?_
  rintro e w1 ⟨rfl, rfl⟩
  go_wp2_with fail
  refine (HK.out _ (by repeat (first | with_reducible exact C0.out | with_reducible refine TC.alloc ?_ _ | with_reducible refine TC.drew ?_)) 0 x rfl).mono ?_
  rintro e w2 ⟨A3, c3, rfl, h2, b2⟩
  have H2 := Lib.hid (Rw.low h2)
  have B2 := Lib.hid b2
  clear h2 b2
  go_wp2_with fail
  refine (join_any _ [[⟨#[42]⟩], x.toks] _ _ (lists2 (by repeat (first | with_reducible exact H2.out | (with_reducible refine Rw.newg _ _ ?_; (first | with_reducible rfl | (simp; done) | (simp; omega))) | (with_reducible refine Rw.newg2 _ _ _ ?_; (first | with_reducible rfl | (simp; done) | (simp; omega))) | with_reducible exact TC.one C0.out | with_reducible refine Rw.alloc ?_ _ | with_reducible refine Rw.drew ?_ | with_reducible refine Rw.next ?_ B2.out)) (by repeat (first | with_reducible exact H2.out | (with_reducible refine Rw.newg _ _ ?_; (first | with_reducible rfl | (simp; done) | (simp; omega))) | (with_reducible refine Rw.newg2 _ _ _ ?_; (first | with_reducible rfl | (simp; done) | (simp; omega))) | with_reducible exact TC.one C0.out | with_reducible refine Rw.alloc ?_ _ | with_reducible refine Rw.drew ?_ | with_reducible refine Rw.next ?_ B2.out)) (by (first | with_reducible rfl | (simp; done) | (simp; omega)))) (by simp) (by omega) _ rfl).mono ?_
  rintro e w9 ⟨A9, c9, rfl, h9, b9⟩
  have H9 := Lib.hid (And.intro h9 b9)
  clear h9 b9
  go_wp2_with fail
  go_ret
  exact tk_end (by repeat (first | with_reducible exact C0.out | with_reducible refine TC.alloc ?_ _ | with_reducible refine TC.drew ?_ | with_reducible refine TC.next ?_ B2.out)) HT.out H9.out.1 H9.out.2
set_option maxRecDepth 100000 in
theorem tok_unary (tx : ByteArray) (ad : Option Addr) (cp : Nat) (x : Nd) (IH : ∀ k ∈ [x], TOf k) : TOf ⟨⟨#[117, 110, 97, 114, 121]⟩, tx, ad, cp, [x]⟩ := by
  intro W hs hz hin
  have hlen := toks_le hs hz
  have HK := Lib.hid (fun (w : World) (C : TC W ⟨⟨#[117, 110, 97, 114, 121]⟩, tx, ad, cp, [x]⟩ w) (j : Nat) (k : Nd) (hk : [x][j]? = some k) => tkid_any ⟨⟨#[117, 110, 97, 114, 121]⟩, tx, ad, cp, [x]⟩ IH hs hz W w C j k hk)
  have hT : Nd.toks ⟨⟨#[117, 110, 97, 114, 121]⟩, tx, ad, cp, [x]⟩ = catT [[tx], x.toks] := by
    rw [toks_eq, show kcode (⟨#[117, 110, 97, 114, 121]⟩ : ByteArray) = 4 from by decide]
    simp [tokOf, t0, catT]
  have HT := Lib.hid hT
  rw [hT] at hlen
  have hC : TC W ⟨⟨#[117, 110, 97, 114, 121]⟩, tx, ad, cp, [x]⟩ ((W.alloc (.cells #[.string ⟨#[117, 110, 97, 114, 121]⟩, .string tx, .slice ad 1 cp] 24)).alloc (.cells #[.string tx] 9)) := TC.start hin
  have C0 := Lib.hid hC
  have c0 := hC.c0
  show Calls _ _ #[.agg #[.string ⟨#[117, 110, 97, 114, 121]⟩, .string tx, .slice ad 1 cp]] W _
  clear IH hs hz hin hT hC
  go_enter Tryz.func13, Tryz.ntmps13
  go_wp2_with fail
  refine (HK.out _ (by repeat (first | with_reducible exact C0.out | with_reducible refine TC.alloc ?_ _ | with_reducible refine TC.drew ?_)) 0 x rfl).mono ?_
  rintro e w2 ⟨A3, c3, rfl, h2, b2⟩
  have H2 := Lib.hid (Rw.low h2)
  have B2 := Lib.hid b2
  clear h2 b2
  go_wp2_with fail
  refine (join_any _ [[tx], x.toks] _ _ (lists2 (by repeat (first | with_reducible exact H2.out | (with_reducible refine Rw.newg _ _ ?_; (first | with_reducible rfl | (simp; done) | (simp; omega))) | (with_reducible refine Rw.newg2 _ _ _ ?_; (first | with_reducible rfl | (simp; done) | (simp; omega))) | with_reducible exact TC.one C0.out | with_reducible refine Rw.alloc ?_ _ | with_reducible refine Rw.drew ?_ | with_reducible refine Rw.next ?_ B2.out)) (by repeat (first | with_reducible exact H2.out | (with_reducible refine Rw.newg _ _ ?_; (first | with_reducible rfl | (simp; done) | (simp; omega))) | (with_reducible refine Rw.newg2 _ _ _ ?_; (first | with_reducible rfl | (simp; done) | (simp; omega))) | with_reducible exact TC.one C0.out | with_reducible refine Rw.alloc ?_ _ | with_reducible refine Rw.drew ?_ | with_reducible refine Rw.next ?_ B2.out)) (by (first | with_reducible rfl | (simp; done) | (simp; omega)))) (by simp) (by omega) _ rfl).mono ?_
  rintro e w9 ⟨A9, c9, rfl, h9, b9⟩
  have H9 := Lib.hid (And.intro h9 b9)
  clear h9 b9
  go_wp2_with fail
  go_ret
  exact tk_end (by repeat (first | with_reducible exact C0.out | with_reducible refine TC.alloc ?_ _ | with_reducible refine TC.drew ?_ | with_reducible refine TC.next ?_ B2.out)) HT.out H9.out.1 H9.out.2
set_option maxRecDepth 100000 in
theorem tok_binary (tx : ByteArray) (ad : Option Addr) (cp : Nat) (x y : Nd) (IH : ∀ k ∈ [x, y], TOf k) : TOf ⟨⟨#[98, 105, 110, 97, 114, 121]⟩, tx, ad, cp, [x, y]⟩ := by
  intro W hs hz hin
  have hlen := toks_le hs hz
  have HK := Lib.hid (fun (w : World) (C : TC W ⟨⟨#[98, 105, 110, 97, 114, 121]⟩, tx, ad, cp, [x, y]⟩ w) (j : Nat) (k : Nd) (hk : [x, y][j]? = some k) => tkid_any ⟨⟨#[98, 105, 110, 97, 114, 121]⟩, tx, ad, cp, [x, y]⟩ IH hs hz W w C j k hk)
  have hT : Nd.toks ⟨⟨#[98, 105, 110, 97, 114, 121]⟩, tx, ad, cp, [x, y]⟩ = catT [x.toks, [tx], y.toks] := by
    rw [toks_eq, show kcode (⟨#[98, 105, 110, 97, 114, 121]⟩ : ByteArray) = 5 from by decide]
    simp [tokOf, t0, catT]
  have HT := Lib.hid hT
  rw [hT] at hlen
  have hC : TC W ⟨⟨#[98, 105, 110, 97, 114, 121]⟩, tx, ad, cp, [x, y]⟩ ((W.alloc (.cells #[.string ⟨#[98, 105, 110, 97, 114, 121]⟩, .string tx, .slice ad 2 cp] 24)).alloc (.cells #[.string tx] 9)) := TC.start hin
  have C0 := Lib.hid hC
  have c0 := hC.c0
  show Calls _ _ #[.agg #[.string ⟨#[98, 105, 110, 97, 114, 121]⟩, .string tx, .slice ad 2 cp]] W _
  clear IH hs hz hin hT hC
  go_enter Tryz.func13, Tryz.ntmps13
  go_wp2_with fail
  refine (HK.out _ (by repeat (first | with_reducible exact C0.out | with_reducible refine TC.alloc ?_ _ | with_reducible refine TC.drew ?_)) 0 x rfl).mono ?_
  rintro e w1 ⟨A2, c2, rfl, h1, b1⟩
  have H1 := Lib.hid (Rw.low h1)
  have B1 := Lib.hid b1
  clear h1 b1
  go_wp2_with fail
  refine (HK.out _ (by repeat (first | with_reducible exact C0.out | with_reducible refine TC.alloc ?_ _ | with_reducible refine TC.drew ?_ | with_reducible refine TC.next ?_ B1.out)) 1 y rfl).mono ?_
  rintro e w3 ⟨A4, c4, rfl, h3, b3⟩
  have H3 := Lib.hid (Rw.low h3)
  have B3 := Lib.hid b3
  clear h3 b3
  go_wp2_with fail
  refine (join_any _ [x.toks, [tx], y.toks] _ _ (lists3 (by repeat (first | with_reducible exact H1.out | with_reducible exact H3.out | (with_reducible refine Rw.newg _ _ ?_; (first | with_reducible rfl | (simp; done) | (simp; omega))) | (with_reducible refine Rw.newg2 _ _ _ ?_; (first | with_reducible rfl | (simp; done) | (simp; omega))) | with_reducible exact TC.one C0.out | with_reducible refine Rw.alloc ?_ _ | with_reducible refine Rw.drew ?_ | with_reducible refine Rw.next ?_ B3.out | with_reducible refine Rw.next ?_ B1.out)) (by repeat (first | with_reducible exact H1.out | with_reducible exact H3.out | (with_reducible refine Rw.newg _ _ ?_; (first | with_reducible rfl | (simp; done) | (simp; omega))) | (with_reducible refine Rw.newg2 _ _ _ ?_; (first | with_reducible rfl | (simp; done) | (simp; omega))) | with_reducible exact TC.one C0.out | with_reducible refine Rw.alloc ?_ _ | with_reducible refine Rw.drew ?_ | with_reducible refine Rw.next ?_ B3.out | with_reducible refine Rw.next ?_ B1.out)) (by repeat (first | with_reducible exact H1.out | with_reducible exact H3.out | (with_reducible refine Rw.newg _ _ ?_; (first | with_reducible rfl | (simp; done) | (simp; omega))) | (with_reducible refine Rw.newg2 _ _ _ ?_; (first | with_reducible rfl | (simp; done) | (simp; omega))) | with_reducible exact TC.one C0.out | with_reducible refine Rw.alloc ?_ _ | with_reducible refine Rw.drew ?_ | with_reducible refine Rw.next ?_ B3.out | with_reducible refine Rw.next ?_ B1.out)) (by (first | with_reducible rfl | (simp; done) | (simp; omega)))) (by simp) (by omega) _ rfl).mono ?_
  rintro e w9 ⟨A9, c9, rfl, h9, b9⟩
  have H9 := Lib.hid (And.intro h9 b9)
  clear h9 b9
  go_wp2_with fail
  go_ret
  exact tk_end (by repeat (first | with_reducible exact C0.out | with_reducible refine TC.alloc ?_ _ | with_reducible refine TC.drew ?_ | with_reducible refine TC.next ?_ B3.out | with_reducible refine TC.next ?_ B1.out)) HT.out H9.out.1 H9.out.2
set_option maxRecDepth 100000 in
theorem tok_select (tx : ByteArray) (ad : Option Addr) (cp : Nat) (x : Nd) (IH : ∀ k ∈ [x], TOf k) : TOf ⟨⟨#[115, 101, 108, 101, 99, 116]⟩, tx, ad, cp, [x]⟩ := by
  intro W hs hz hin
  have hlen := toks_le hs hz
  have HK := Lib.hid (fun (w : World) (C : TC W ⟨⟨#[115, 101, 108, 101, 99, 116]⟩, tx, ad, cp, [x]⟩ w) (j : Nat) (k : Nd) (hk : [x][j]? = some k) => tkid_any ⟨⟨#[115, 101, 108, 101, 99, 116]⟩, tx, ad, cp, [x]⟩ IH hs hz W w C j k hk)
  have hT : Nd.toks ⟨⟨#[115, 101, 108, 101, 99, 116]⟩, tx, ad, cp, [x]⟩ = catT [x.toks, [⟨#[46]⟩], [tx]] := by
    rw [toks_eq, show kcode (⟨#[115, 101, 108, 101, 99, 116]⟩ : ByteArray) = 6 from by decide]
    simp [tokOf, t0, catT]
  have HT := Lib.hid hT
  rw [hT] at hlen
  have hC : TC W ⟨⟨#[115, 101, 108, 101, 99, 116]⟩, tx, ad, cp, [x]⟩ ((W.alloc (.cells #[.string ⟨#[115, 101, 108, 101, 99, 116]⟩, .string tx, .slice ad 1 cp] 24)).alloc (.cells #[.string tx] 9)) := TC.start hin
  have C0 := Lib.hid hC
  have c0 := hC.c0
  show Calls _ _ #[.agg #[.string ⟨#[115, 101, 108, 101, 99, 116]⟩, .string tx, .slice ad 1 cp]] W _
  clear IH hs hz hin hT hC
  go_enter Tryz.func13, Tryz.ntmps13
  go_wp2_with fail
  refine (HK.out _ (by repeat (first | with_reducible exact C0.out | with_reducible refine TC.alloc ?_ _ | with_reducible refine TC.drew ?_)) 0 x rfl).mono ?_
  rintro e w1 ⟨A2, c2, rfl, h1, b1⟩
  have H1 := Lib.hid (Rw.low h1)
  have B1 := Lib.hid b1
  clear h1 b1
  go_wp2_with fail
  refine (tok2_any _ _ _ _).mono ?_
  rintro e w2 ⟨rfl, rfl⟩
  go_wp2_with fail
  refine (join_any _ [x.toks, [⟨#[46]⟩], [tx]] _ _ (lists3 (by repeat (first | with_reducible exact H1.out | (with_reducible refine Rw.newg _ _ ?_; (first | with_reducible rfl | (simp; done) | (simp; omega))) | (with_reducible refine Rw.newg2 _ _ _ ?_; (first | with_reducible rfl | (simp; done) | (simp; omega))) | with_reducible exact TC.one C0.out | with_reducible refine Rw.alloc ?_ _ | with_reducible refine Rw.drew ?_ | with_reducible refine Rw.next ?_ B1.out)) (by repeat (first | with_reducible exact H1.out | (with_reducible refine Rw.newg _ _ ?_; (first | with_reducible rfl | (simp; done) | (simp; omega))) | (with_reducible refine Rw.newg2 _ _ _ ?_; (first | with_reducible rfl | (simp; done) | (simp; omega))) | with_reducible exact TC.one C0.out | with_reducible refine Rw.alloc ?_ _ | with_reducible refine Rw.drew ?_ | with_reducible refine Rw.next ?_ B1.out)) (by repeat (first | with_reducible exact H1.out | (with_reducible refine Rw.newg _ _ ?_; (first | with_reducible rfl | (simp; done) | (simp; omega))) | (with_reducible refine Rw.newg2 _ _ _ ?_; (first | with_reducible rfl | (simp; done) | (simp; omega))) | with_reducible exact TC.one C0.out | with_reducible refine Rw.alloc ?_ _ | with_reducible refine Rw.drew ?_ | with_reducible refine Rw.next ?_ B1.out)) (by (first | with_reducible rfl | (simp; done) | (simp; omega)))) (by simp) (by omega) _ rfl).mono ?_
  rintro e w9 ⟨A9, c9, rfl, h9, b9⟩
  have H9 := Lib.hid (And.intro h9 b9)
  clear h9 b9
  go_wp2_with fail
  go_ret
  exact tk_end (by repeat (first | with_reducible exact C0.out | with_reducible refine TC.alloc ?_ _ | with_reducible refine TC.drew ?_ | with_reducible refine TC.next ?_ B1.out)) HT.out H9.out.1 H9.out.2
set_option maxRecDepth 100000 in
theorem tok_assert (tx : ByteArray) (ad : Option Addr) (cp : Nat) (x y : Nd) (IH : ∀ k ∈ [x, y], TOf k) : TOf ⟨⟨#[97, 115, 115, 101, 114, 116]⟩, tx, ad, cp, [x, y]⟩ := by
  intro W hs hz hin
  have hlen := toks_le hs hz
  have HK := Lib.hid (fun (w : World) (C : TC W ⟨⟨#[97, 115, 115, 101, 114, 116]⟩, tx, ad, cp, [x, y]⟩ w) (j : Nat) (k : Nd) (hk : [x, y][j]? = some k) => tkid_any ⟨⟨#[97, 115, 115, 101, 114, 116]⟩, tx, ad, cp, [x, y]⟩ IH hs hz W w C j k hk)
  have hT : Nd.toks ⟨⟨#[97, 115, 115, 101, 114, 116]⟩, tx, ad, cp, [x, y]⟩ = catT [x.toks, [⟨#[46]⟩, ⟨#[40]⟩], y.toks, [⟨#[41]⟩]] := by
    rw [toks_eq, show kcode (⟨#[97, 115, 115, 101, 114, 116]⟩ : ByteArray) = 8 from by decide]
    simp [tokOf, t0, catT]
  have HT := Lib.hid hT
  rw [hT] at hlen
  have hC : TC W ⟨⟨#[97, 115, 115, 101, 114, 116]⟩, tx, ad, cp, [x, y]⟩ ((W.alloc (.cells #[.string ⟨#[97, 115, 115, 101, 114, 116]⟩, .string tx, .slice ad 2 cp] 24)).alloc (.cells #[.string tx] 9)) := TC.start hin
  have C0 := Lib.hid hC
  have c0 := hC.c0
  show Calls _ _ #[.agg #[.string ⟨#[97, 115, 115, 101, 114, 116]⟩, .string tx, .slice ad 2 cp]] W _
  clear IH hs hz hin hT hC
  go_enter Tryz.func13, Tryz.ntmps13
  go_wp2_with fail
  refine (HK.out _ (by repeat (first | with_reducible exact C0.out | with_reducible refine TC.alloc ?_ _ | with_reducible refine TC.drew ?_)) 0 x rfl).mono ?_
  rintro e w1 ⟨A2, c2, rfl, h1, b1⟩
  have H1 := Lib.hid (Rw.low h1)
  have B1 := Lib.hid b1
  clear h1 b1
  go_wp2_with fail
  refine (tok2_any _ _ _ _).mono ?_
  rintro e w2 ⟨rfl, rfl⟩
  go_wp2_with fail
  refine (HK.out _ (by repeat (first | with_reducible exact C0.out | with_reducible refine TC.alloc ?_ _ | with_reducible refine TC.drew ?_ | with_reducible refine TC.next ?_ B1.out)) 1 y rfl).mono ?_
  rintro e w3 ⟨A4, c4, rfl, h3, b3⟩
  have H3 := Lib.hid (Rw.low h3)
  have B3 := Lib.hid b3
  clear h3 b3
  go_wp2_with fail
  refine (tok2_any _ _ _ _).mono ?_
  rintro e w4 ⟨rfl, rfl⟩
  go_wp2_with fail
  refine (join_any _ [x.toks, [⟨#[46]⟩, ⟨#[40]⟩], y.toks, [⟨#[41]⟩]] _ _ (lists4 (by repeat (first | with_reducible exact H1.out | with_reducible exact H3.out | (with_reducible refine Rw.newg _ _ ?_; (first | with_reducible rfl | (simp; done) | (simp; omega))) | (with_reducible refine Rw.newg2 _ _ _ ?_; (first | with_reducible rfl | (simp; done) | (simp; omega))) | with_reducible exact TC.one C0.out | with_reducible refine Rw.alloc ?_ _ | with_reducible refine Rw.drew ?_ | with_reducible refine Rw.next ?_ B3.out | with_reducible refine Rw.next ?_ B1.out)) (by repeat (first | with_reducible exact H1.out | with_reducible exact H3.out | (with_reducible refine Rw.newg _ _ ?_; (first | with_reducible rfl | (simp; done) | (simp; omega))) | (with_reducible refine Rw.newg2 _ _ _ ?_; (first | with_reducible rfl | (simp; done) | (simp; omega))) | with_reducible exact TC.one C0.out | with_reducible refine Rw.alloc ?_ _ | with_reducible refine Rw.drew ?_ | with_reducible refine Rw.next ?_ B3.out | with_reducible refine Rw.next ?_ B1.out)) (by repeat (first | with_reducible exact H1.out | with_reducible exact H3.out | (with_reducible refine Rw.newg _ _ ?_; (first | with_reducible rfl | (simp; done) | (simp; omega))) | (with_reducible refine Rw.newg2 _ _ _ ?_; (first | with_reducible rfl | (simp; done) | (simp; omega))) | with_reducible exact TC.one C0.out | with_reducible refine Rw.alloc ?_ _ | with_reducible refine Rw.drew ?_ | with_reducible refine Rw.next ?_ B3.out | with_reducible refine Rw.next ?_ B1.out)) (by repeat (first | with_reducible exact H1.out | with_reducible exact H3.out | (with_reducible refine Rw.newg _ _ ?_; (first | with_reducible rfl | (simp; done) | (simp; omega))) | (with_reducible refine Rw.newg2 _ _ _ ?_; (first | with_reducible rfl | (simp; done) | (simp; omega))) | with_reducible exact TC.one C0.out | with_reducible refine Rw.alloc ?_ _ | with_reducible refine Rw.drew ?_ | with_reducible refine Rw.next ?_ B3.out | with_reducible refine Rw.next ?_ B1.out)) (by (first | with_reducible rfl | (simp; done) | (simp; omega)))) (by simp) (by omega) _ rfl).mono ?_
  rintro e w9 ⟨A9, c9, rfl, h9, b9⟩
  have H9 := Lib.hid (And.intro h9 b9)
  clear h9 b9
  go_wp2_with fail
  go_ret
  exact tk_end (by repeat (first | with_reducible exact C0.out | with_reducible refine TC.alloc ?_ _ | with_reducible refine TC.drew ?_ | with_reducible refine TC.next ?_ B3.out | with_reducible refine TC.next ?_ B1.out)) HT.out H9.out.1 H9.out.2
set_option maxRecDepth 100000 in
theorem tok_key (tx : ByteArray) (ad : Option Addr) (cp : Nat) (x y : Nd) (IH : ∀ k ∈ [x, y], TOf k) : TOf ⟨⟨#[107, 101, 121]⟩, tx, ad, cp, [x, y]⟩ := by
  intro W hs hz hin
  have hlen := toks_le hs hz
  have HK := Lib.hid (fun (w : World) (C : TC W ⟨⟨#[107, 101, 121]⟩, tx, ad, cp, [x, y]⟩ w) (j : Nat) (k : Nd) (hk : [x, y][j]? = some k) => tkid_any ⟨⟨#[107, 101, 121]⟩, tx, ad, cp, [x, y]⟩ IH hs hz W w C j k hk)
  have hT : Nd.toks ⟨⟨#[107, 101, 121]⟩, tx, ad, cp, [x, y]⟩ = catT [x.toks, [⟨#[58]⟩], y.toks] := by
    rw [toks_eq, show kcode (⟨#[107, 101, 121]⟩ : ByteArray) = 9 from by decide]
    simp [tokOf, t0, catT]
  have HT := Lib.hid hT
  rw [hT] at hlen
  have hC : TC W ⟨⟨#[107, 101, 121]⟩, tx, ad, cp, [x, y]⟩ ((W.alloc (.cells #[.string ⟨#[107, 101, 121]⟩, .string tx, .slice ad 2 cp] 24)).alloc (.cells #[.string tx] 9)) := TC.start hin
  have C0 := Lib.hid hC
  have c0 := hC.c0
  show Calls _ _ #[.agg #[.string ⟨#[107, 101, 121]⟩, .string tx, .slice ad 2 cp]] W _
  clear IH hs hz hin hT hC
  go_enter Tryz.func13, Tryz.ntmps13
  go_wp2_with fail
  refine (HK.out _ (by repeat (first | with_reducible exact C0.out | with_reducible refine TC.alloc ?_ _ | with_reducible refine TC.drew ?_)) 0 x rfl).mono ?_
  rintro e w1 ⟨A2, c2, rfl, h1, b1⟩
  have H1 := Lib.hid (Rw.low h1)
  have B1 := Lib.hid b1
  clear h1 b1
  go_wp2_with fail
  refine (tok2_any _ _ _ _).mono ?_
  rintro e w2 ⟨rfl, rfl⟩
  go_wp2_with fail
  refine (HK.out _ (by repeat (first | with_reducible exact C0.out | with_reducible refine TC.alloc ?_ _ | with_reducible refine TC.drew ?_ | with_reducible refine TC.next ?_ B1.out)) 1 y rfl).mono ?_
  rintro e w3 ⟨A4, c4, rfl, h3, b3⟩
  have H3 := Lib.hid (Rw.low h3)
  have B3 := Lib.hid b3
  clear h3 b3
  go_wp2_with fail
  refine (join_any _ [x.toks, [⟨#[58]⟩], y.toks] _ _ (lists3 (by repeat (first | with_reducible exact H1.out | with_reducible exact H3.out | (with_reducible refine Rw.newg _ _ ?_; (first | with_reducible rfl | (simp; done) | (simp; omega))) | (with_reducible refine Rw.newg2 _ _ _ ?_; (first | with_reducible rfl | (simp; done) | (simp; omega))) | with_reducible exact TC.one C0.out | with_reducible refine Rw.alloc ?_ _ | with_reducible refine Rw.drew ?_ | with_reducible refine Rw.next ?_ B3.out | with_reducible refine Rw.next ?_ B1.out)) (by repeat (first | with_reducible exact H1.out | with_reducible exact H3.out | (with_reducible refine Rw.newg _ _ ?_; (first | with_reducible rfl | (simp; done) | (simp; omega))) | (with_reducible refine Rw.newg2 _ _ _ ?_; (first | with_reducible rfl | (simp; done) | (simp; omega))) | with_reducible exact TC.one C0.out | with_reducible refine Rw.alloc ?_ _ | with_reducible refine Rw.drew ?_ | with_reducible refine Rw.next ?_ B3.out | with_reducible refine Rw.next ?_ B1.out)) (by repeat (first | with_reducible exact H1.out | with_reducible exact H3.out | (with_reducible refine Rw.newg _ _ ?_; (first | with_reducible rfl | (simp; done) | (simp; omega))) | (with_reducible refine Rw.newg2 _ _ _ ?_; (first | with_reducible rfl | (simp; done) | (simp; omega))) | with_reducible exact TC.one C0.out | with_reducible refine Rw.alloc ?_ _ | with_reducible refine Rw.drew ?_ | with_reducible refine Rw.next ?_ B3.out | with_reducible refine Rw.next ?_ B1.out)) (by (first | with_reducible rfl | (simp; done) | (simp; omega)))) (by simp) (by omega) _ rfl).mono ?_
  rintro e w9 ⟨A9, c9, rfl, h9, b9⟩
  have H9 := Lib.hid (And.intro h9 b9)
  clear h9 b9
  go_wp2_with fail
  go_ret
  exact tk_end (by repeat (first | with_reducible exact C0.out | with_reducible refine TC.alloc ?_ _ | with_reducible refine TC.drew ?_ | with_reducible refine TC.next ?_ B3.out | with_reducible refine TC.next ?_ B1.out)) HT.out H9.out.1 H9.out.2
set_option maxRecDepth 100000 in
theorem tok_map (tx : ByteArray) (ad : Option Addr) (cp : Nat) (x y : Nd) (IH : ∀ k ∈ [x, y], TOf k) : TOf ⟨⟨#[109, 97, 112]⟩, tx, ad, cp, [x, y]⟩ := by
  intro W hs hz hin
  have hlen := toks_le hs hz
  have HK := Lib.hid (fun (w : World) (C : TC W ⟨⟨#[109, 97, 112]⟩, tx, ad, cp, [x, y]⟩ w) (j : Nat) (k : Nd) (hk : [x, y][j]? = some k) => tkid_any ⟨⟨#[109, 97, 112]⟩, tx, ad, cp, [x, y]⟩ IH hs hz W w C j k hk)
  have hT : Nd.toks ⟨⟨#[109, 97, 112]⟩, tx, ad, cp, [x, y]⟩ = catT [[⟨#[109, 97, 112]⟩, ⟨#[91]⟩], x.toks, [⟨#[93]⟩], y.toks] := by
    rw [toks_eq, show kcode (⟨#[109, 97, 112]⟩ : ByteArray) = 10 from by decide]
    simp [tokOf, t0, catT]
  have HT := Lib.hid hT
  rw [hT] at hlen
  have hC : TC W ⟨⟨#[109, 97, 112]⟩, tx, ad, cp, [x, y]⟩ ((W.alloc (.cells #[.string ⟨#[109, 97, 112]⟩, .string tx, .slice ad 2 cp] 24)).alloc (.cells #[.string tx] 9)) := TC.start hin
  have C0 := Lib.hid hC
  have c0 := hC.c0
  show Calls _ _ #[.agg #[.string ⟨#[109, 97, 112]⟩, .string tx, .slice ad 2 cp]] W _
  clear IH hs hz hin hT hC
  go_enter Tryz.func13, Tryz.ntmps13
  go_wp2_with fail
  refine (tok2_any _ _ _ _).mono ?_
  rintro e w1 ⟨rfl, rfl⟩
  go_wp2_with fail
  refine (HK.out _ (by repeat (first | with_reducible exact C0.out | with_reducible refine TC.alloc ?_ _ | with_reducible refine TC.drew ?_)) 0 x rfl).mono ?_
  rintro e w2 ⟨A3, c3, rfl, h2, b2⟩
  have H2 := Lib.hid (Rw.low h2)
  have B2 := Lib.hid b2
  clear h2 b2
  go_wp2_with fail
  refine (tok2_any _ _ _ _).mono ?_
  rintro e w3 ⟨rfl, rfl⟩
  go_wp2_with fail
  refine (HK.out _ (by repeat (first | with_reducible exact C0.out | with_reducible refine TC.alloc ?_ _ | with_reducible refine TC.drew ?_ | with_reducible refine TC.next ?_ B2.out)) 1 y rfl).mono ?_
  rintro e w4 ⟨A5, c5, rfl, h4, b4⟩
  have H4 := Lib.hid (Rw.low h4)
  have B4 := Lib.hid b4
  clear h4 b4
  go_wp2_with fail
  refine (join_any _ [[⟨#[109, 97, 112]⟩, ⟨#[91]⟩], x.toks, [⟨#[93]⟩], y.toks] _ _ (lists4 (by repeat (first | with_reducible exact H2.out | with_reducible exact H4.out | (with_reducible refine Rw.newg _ _ ?_; (first | with_reducible rfl | (simp; done) | (simp; omega))) | (with_reducible refine Rw.newg2 _ _ _ ?_; (first | with_reducible rfl | (simp; done) | (simp; omega))) | with_reducible exact TC.one C0.out | with_reducible refine Rw.alloc ?_ _ | with_reducible refine Rw.drew ?_ | with_reducible refine Rw.next ?_ B4.out | with_reducible refine Rw.next ?_ B2.out)) (by repeat (first | with_reducible exact H2.out | with_reducible exact H4.out | (with_reducible refine Rw.newg _ _ ?_; (first | with_reducible rfl | (simp; done) | (simp; omega))) | (with_reducible refine Rw.newg2 _ _ _ ?_; (first | with_reducible rfl | (simp; done) | (simp; omega))) | with_reducible exact TC.one C0.out | with_reducible refine Rw.alloc ?_ _ | with_reducible refine Rw.drew ?_ | with_reducible refine Rw.next ?_ B4.out | with_reducible refine Rw.next ?_ B2.out)) (by repeat (first | with_reducible exact H2.out | with_reducible exact H4.out | (with_reducible refine Rw.newg _ _ ?_; (first | with_reducible rfl | (simp; done) | (simp; omega))) | (with_reducible refine Rw.newg2 _ _ _ ?_; (first | with_reducible rfl | (simp; done) | (simp; omega))) | with_reducible exact TC.one C0.out | with_reducible refine Rw.alloc ?_ _ | with_reducible refine Rw.drew ?_ | with_reducible refine Rw.next ?_ B4.out | with_reducible refine Rw.next ?_ B2.out)) (by repeat (first | with_reducible exact H2.out | with_reducible exact H4.out | (with_reducible refine Rw.newg _ _ ?_; (first | with_reducible rfl | (simp; done) | (simp; omega))) | (with_reducible refine Rw.newg2 _ _ _ ?_; (first | with_reducible rfl | (simp; done) | (simp; omega))) | with_reducible exact TC.one C0.out | with_reducible refine Rw.alloc ?_ _ | with_reducible refine Rw.drew ?_ | with_reducible refine Rw.next ?_ B4.out | with_reducible refine Rw.next ?_ B2.out)) (by (first | with_reducible rfl | (simp; done) | (simp; omega)))) (by simp) (by omega) _ rfl).mono ?_
  rintro e w9 ⟨A9, c9, rfl, h9, b9⟩
  have H9 := Lib.hid (And.intro h9 b9)
  clear h9 b9
  go_wp2_with fail
  go_ret
  exact tk_end (by repeat (first | with_reducible exact C0.out | with_reducible refine TC.alloc ?_ _ | with_reducible refine TC.drew ?_ | with_reducible refine TC.next ?_ B4.out | with_reducible refine TC.next ?_ B2.out)) HT.out H9.out.1 H9.out.2
set_option maxRecDepth 100000 in
theorem tok_array1 (tx : ByteArray) (ad : Option Addr) (cp : Nat) (x : Nd) (IH : ∀ k ∈ [x], TOf k) : TOf ⟨⟨#[97, 114, 114, 97, 121]⟩, tx, ad, cp, [x]⟩ := by
  intro W hs hz hin
  have hlen := toks_le hs hz
  have HK := Lib.hid (fun (w : World) (C : TC W ⟨⟨#[97, 114, 114, 97, 121]⟩, tx, ad, cp, [x]⟩ w) (j : Nat) (k : Nd) (hk : [x][j]? = some k) => tkid_any ⟨⟨#[97, 114, 114, 97, 121]⟩, tx, ad, cp, [x]⟩ IH hs hz W w C j k hk)
  have hT : Nd.toks ⟨⟨#[97, 114, 114, 97, 121]⟩, tx, ad, cp, [x]⟩ = catT [[⟨#[91]⟩, ⟨#[93]⟩], x.toks] := by
    rw [toks_eq, show kcode (⟨#[97, 114, 114, 97, 121]⟩ : ByteArray) = 14 from by decide]
    simp [tokOf, t0, catT]
  have HT := Lib.hid hT
  rw [hT] at hlen
  have hC : TC W ⟨⟨#[97, 114, 114, 97, 121]⟩, tx, ad, cp, [x]⟩ ((W.alloc (.cells #[.string ⟨#[97, 114, 114, 97, 121]⟩, .string tx, .slice ad 1 cp] 24)).alloc (.cells #[.string tx] 9)) := TC.start hin
  have C0 := Lib.hid hC
  have c0 := hC.c0
  have c1 := hC.c1
  have c2 := hC.c2
  show Calls _ _ #[.agg #[.string ⟨#[97, 114, 114, 97, 121]⟩, .string tx, .slice ad 1 cp]] W _
  clear IH hs hz hin hT hC
  go_enter Tryz.func13, Tryz.ntmps13
  go_wp2_with fail
  refine (tok2_any _ _ _ _).mono ?_
  rintro e w1 ⟨rfl, rfl⟩
  go_wp2_with fail
  refine (HK.out _ (by repeat (first | with_reducible exact C0.out | with_reducible refine TC.alloc ?_ _ | with_reducible refine TC.drew ?_)) 0 x rfl).mono ?_
  rintro e w2 ⟨A3, c3, rfl, h2, b2⟩
  have H2 := Lib.hid (Rw.low h2)
  have B2 := Lib.hid b2
  clear h2 b2
  go_wp2_with fail
  refine (join_any _ [[⟨#[91]⟩, ⟨#[93]⟩], x.toks] _ _ (lists2 (by repeat (first | with_reducible exact H2.out | (with_reducible refine Rw.newg _ _ ?_; (first | with_reducible rfl | (simp; done) | (simp; omega))) | (with_reducible refine Rw.newg2 _ _ _ ?_; (first | with_reducible rfl | (simp; done) | (simp; omega))) | with_reducible exact TC.one C0.out | with_reducible refine Rw.alloc ?_ _ | with_reducible refine Rw.drew ?_ | with_reducible refine Rw.next ?_ B2.out)) (by repeat (first | with_reducible exact H2.out | (with_reducible refine Rw.newg _ _ ?_; (first | with_reducible rfl | (simp; done) | (simp; omega))) | (with_reducible refine Rw.newg2 _ _ _ ?_; (first | with_reducible rfl | (simp; done) | (simp; omega))) | with_reducible exact TC.one C0.out | with_reducible refine Rw.alloc ?_ _ | with_reducible refine Rw.drew ?_ | with_reducible refine Rw.next ?_ B2.out)) (by (first | with_reducible rfl | (simp; done) | (simp; omega)))) (by simp) (by omega) _ rfl).mono ?_
  rintro e w9 ⟨A9, c9, rfl, h9, b9⟩
  have H9 := Lib.hid (And.intro h9 b9)
  clear h9 b9
  go_wp2_with fail
  go_ret
  exact tk_end (by repeat (first | with_reducible exact C0.out | with_reducible refine TC.alloc ?_ _ | with_reducible refine TC.drew ?_ | with_reducible refine TC.next ?_ B2.out)) HT.out H9.out.1 H9.out.2
set_option maxRecDepth 100000 in
theorem tok_array2 (tx : ByteArray) (ad : Option Addr) (cp : Nat) (x y : Nd) (IH : ∀ k ∈ [x, y], TOf k) : TOf ⟨⟨#[97, 114, 114, 97, 121]⟩, tx, ad, cp, [x, y]⟩ := by
  intro W hs hz hin
  have hlen := toks_le hs hz
  have HK := Lib.hid (fun (w : World) (C : TC W ⟨⟨#[97, 114, 114, 97, 121]⟩, tx, ad, cp, [x, y]⟩ w) (j : Nat) (k : Nd) (hk : [x, y][j]? = some k) => tkid_any ⟨⟨#[97, 114, 114, 97, 121]⟩, tx, ad, cp, [x, y]⟩ IH hs hz W w C j k hk)
  have hT : Nd.toks ⟨⟨#[97, 114, 114, 97, 121]⟩, tx, ad, cp, [x, y]⟩ = catT [[⟨#[91]⟩], x.toks, [⟨#[93]⟩], y.toks] := by
    rw [toks_eq, show kcode (⟨#[97, 114, 114, 97, 121]⟩ : ByteArray) = 14 from by decide]
    simp [tokOf, t0, catT]
  have HT := Lib.hid hT
  rw [hT] at hlen
  have hC : TC W ⟨⟨#[97, 114, 114, 97, 121]⟩, tx, ad, cp, [x, y]⟩ ((W.alloc (.cells #[.string ⟨#[97, 114, 114, 97, 121]⟩, .string tx, .slice ad 2 cp] 24)).alloc (.cells #[.string tx] 9)) := TC.start hin
  have C0 := Lib.hid hC
  have c0 := hC.c0
  have c1 := hC.c1
  have c2 := hC.c2
  show Calls _ _ #[.agg #[.string ⟨#[97, 114, 114, 97, 121]⟩, .string tx, .slice ad 2 cp]] W _
  clear IH hs hz hin hT hC
  go_enter Tryz.func13, Tryz.ntmps13
  go_wp2_with fail
  refine (tok2_any _ _ _ _).mono ?_
  rintro e w1 ⟨rfl, rfl⟩
  go_wp2_with fail
  refine (HK.out _ (by repeat (first | with_reducible exact C0.out | with_reducible refine TC.alloc ?_ _ | with_reducible refine TC.drew ?_)) 0 x rfl).mono ?_
  rintro e w2 ⟨A3, c3, rfl, h2, b2⟩
  have H2 := Lib.hid (Rw.low h2)
  have B2 := Lib.hid b2
  clear h2 b2
  go_wp2_with fail
  refine (tok2_any _ _ _ _).mono ?_
  rintro e w3 ⟨rfl, rfl⟩
  go_wp2_with fail
  refine (HK.out _ (by repeat (first | with_reducible exact C0.out | with_reducible refine TC.alloc ?_ _ | with_reducible refine TC.drew ?_ | with_reducible refine TC.next ?_ B2.out)) 1 y rfl).mono ?_
  rintro e w4 ⟨A5, c5, rfl, h4, b4⟩
  have H4 := Lib.hid (Rw.low h4)
  have B4 := Lib.hid b4
  clear h4 b4
  go_wp2_with fail
  refine (join_any _ [[⟨#[91]⟩], x.toks, [⟨#[93]⟩], y.toks] _ _ (lists4 (by repeat (first | with_reducible exact H2.out | with_reducible exact H4.out | (with_reducible refine Rw.newg _ _ ?_; (first | with_reducible rfl | (simp; done) | (simp; omega))) | (with_reducible refine Rw.newg2 _ _ _ ?_; (first | with_reducible rfl | (simp; done) | (simp; omega))) | with_reducible exact TC.one C0.out | with_reducible refine Rw.alloc ?_ _ | with_reducible refine Rw.drew ?_ | with_reducible refine Rw.next ?_ B4.out | with_reducible refine Rw.next ?_ B2.out)) (by repeat (first | with_reducible exact H2.out | with_reducible exact H4.out | (with_reducible refine Rw.newg _ _ ?_; (first | with_reducible rfl | (simp; done) | (simp; omega))) | (with_reducible refine Rw.newg2 _ _ _ ?_; (first | with_reducible rfl | (simp; done) | (simp; omega))) | with_reducible exact TC.one C0.out | with_reducible refine Rw.alloc ?_ _ | with_reducible refine Rw.drew ?_ | with_reducible refine Rw.next ?_ B4.out | with_reducible refine Rw.next ?_ B2.out)) (by repeat (first | with_reducible exact H2.out | with_reducible exact H4.out | (with_reducible refine Rw.newg _ _ ?_; (first | with_reducible rfl | (simp; done) | (simp; omega))) | (with_reducible refine Rw.newg2 _ _ _ ?_; (first | with_reducible rfl | (simp; done) | (simp; omega))) | with_reducible exact TC.one C0.out | with_reducible refine Rw.alloc ?_ _ | with_reducible refine Rw.drew ?_ | with_reducible refine Rw.next ?_ B4.out | with_reducible refine Rw.next ?_ B2.out)) (by repeat (first | with_reducible exact H2.out | with_reducible exact H4.out | (with_reducible refine Rw.newg _ _ ?_; (first | with_reducible rfl | (simp; done) | (simp; omega))) | (with_reducible refine Rw.newg2 _ _ _ ?_; (first | with_reducible rfl | (simp; done) | (simp; omega))) | with_reducible exact TC.one C0.out | with_reducible refine Rw.alloc ?_ _ | with_reducible refine Rw.drew ?_ | with_reducible refine Rw.next ?_ B4.out | with_reducible refine Rw.next ?_ B2.out)) (by (first | with_reducible rfl | (simp; done) | (simp; omega)))) (by simp) (by omega) _ rfl).mono ?_
  rintro e w9 ⟨A9, c9, rfl, h9, b9⟩
  have H9 := Lib.hid (And.intro h9 b9)
  clear h9 b9
  go_wp2_with fail
  go_ret
  exact tk_end (by repeat (first | with_reducible exact C0.out | with_reducible refine TC.alloc ?_ _ | with_reducible refine TC.drew ?_ | with_reducible refine TC.next ?_ B4.out | with_reducible refine TC.next ?_ B2.out)) HT.out H9.out.1 H9.out.2
end Go.Proofs.YtjbhjbpamnoebaaGreatFmt
