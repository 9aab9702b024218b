/-
  spec.Tokens: composite literals without a type.
-/
import Derived.Test.YtjbhjbpamnoebaaGreatFmtL2
namespace Go.Proofs.YtjbhjbpamnoebaaGreatFmt
open Go.RowKit

set_option maxHeartbeats 4000000 in
set_option maxRecDepth 100000 in
theorem tok_comp0 (cp : Nat) (ks : List Nd) (ad : Option Addr) (IH : ∀ k ∈ ks, TOf k) : TOf ⟨⟨#[99, 111, 109, 112, 111, 115, 105, 116, 101]⟩, ⟨#[]⟩, ad, cp, ks⟩ := by
  intro W hs hz hin
  obtain ⟨hcp1, hcp2, _⟩ := Nd.In_iff.1 hin
  replace hcp2 : cp ≤ 9223372036854775807 := hcp2
  replace hcp1 : ks.length ≤ cp := hcp1
  have hlen := toks_le hs hz
  have HK := Lib.hid (fun (w : World) (C : TC W ⟨⟨#[99, 111, 109, 112, 111, 115, 105, 116, 101]⟩, ⟨#[]⟩, ad, cp, ks⟩ w) (j : Nat) (k : Nd) (hk : (ks)[j]? = some k) => tkid_any ⟨⟨#[99, 111, 109, 112, 111, 115, 105, 116, 101]⟩, ⟨#[]⟩, ad, cp, ks⟩ IH hs hz W w C j k hk)
  have hLs : (∀ k ∈ ks, k.shapedB = true) ∧ sizeL ks ≤ 400 := by
    have h1 : sizeL (ks) ≤ 400 := by rw [Nd.size_eq] at hz; exact Nat.le_trans (Nat.le_add_left _ _) hz
    refine ⟨fun k hk => (kid_ok hs hz hk).1, ?_⟩
    exact h1
  have HL := Lib.hid (fun (w : World) (C : TC W ⟨⟨#[99, 111, 109, 112, 111, 115, 105, 116, 101]⟩, ⟨#[]⟩, ad, cp, ks⟩ w) => tlist_any ks IH hLs.1 hLs.2 ad cp w (Nd.In_iff.1 C.in_).2.2 _ rfl)
  have hT : Nd.toks ⟨⟨#[99, 111, 109, 112, 111, 115, 105, 116, 101]⟩, ⟨#[]⟩, ad, cp, ks⟩ = catT [[⟨#[123]⟩], commaT (ks.map Nd.toks), [⟨#[125]⟩]] := by
    rw [toks_eq, show kcode (⟨#[99, 111, 109, 112, 111, 115, 105, 116, 101]⟩ : ByteArray) = 13 from by decide]
    first | (simp [tokOf, catT]; done) | (simp [tokOf, t0, catT]; done) | (simp [tokOf, t0, catT, commaT]; done)
  have HT := Lib.hid hT
  rw [hT] at hlen
  have hC : TC W ⟨⟨#[99, 111, 109, 112, 111, 115, 105, 116, 101]⟩, ⟨#[]⟩, ad, cp, ks⟩ ((W.alloc (.cells #[.string ⟨#[99, 111, 109, 112, 111, 115, 105, 116, 101]⟩, .string ⟨#[]⟩, .slice (ad) ks.length cp] 24)).alloc (.cells #[.string ⟨#[]⟩] 9)) := TC.start hin
  have C0 := Lib.hid hC
  have c0 := hC.c0
  have c1 := hC.c1
  show Calls _ _ #[.agg #[.string ⟨#[99, 111, 109, 112, 111, 115, 105, 116, 101]⟩, .string ⟨#[]⟩, .slice (ad) ks.length cp]] W _
  clear IH hs hz hin hT hC hLs
  go_enter Tryz.func13, Tryz.ntmps13
  go_wp2_with fail
  clear c0 c1
  have KS := Lib.hid (show ∀ w, TC W ⟨⟨#[99, 111, 109, 112, 111, 115, 105, 116, 101]⟩, ⟨#[]⟩, ad, cp, ks⟩ w → w.cell? ⟨W.heap.size, 2, none⟩ = some (.slice (ad) (ks.length) cp) ∧ w.cell? ⟨W.heap.size, 1, none⟩ = some (.string ⟨#[]⟩) ∧ w.cell? ⟨W.heap.size, 0, none⟩ = some (.string ⟨#[99, 111, 109, 112, 111, 115, 105, 116, 101]⟩) from fun w h => ⟨h.c2, h.c1, h.c0⟩)
  go_region_held3 (fun w' => w'.cell? ⟨W.heap.size, 2, none⟩ = some (.slice (ad) (ks.length) cp) ∧ w'.cell? ⟨W.heap.size, 1, none⟩ = some (.string ⟨#[]⟩) ∧ w'.cell? ⟨W.heap.size, 0, none⟩ = some (.string ⟨#[99, 111, 109, 112, 111, 115, 105, 116, 101]⟩)) ((refine KS.out _ ?_; repeat (first | with_reducible exact C0.out | with_reducible refine TC.alloc ?_ _ | with_reducible refine TC.drew ?_ | with_reducible refine TC.next ?_ B9.out | with_reducible refine TC.next ?_ B2.out))) (first | (go_at_call 24; refine (tok2_any _ _ _ _).mono ?_; rintro e ww ⟨rfl, rfl⟩) | (go_at_call 26; refine (HL.out _ (by repeat (first | with_reducible exact C0.out | with_reducible refine TC.alloc ?_ _ | with_reducible refine TC.drew ?_ | with_reducible refine TC.next ?_ B9.out | with_reducible refine TC.next ?_ B2.out))).mono ?_; rintro e w2 ⟨A2, c2, rfl, h2, b2⟩; have H2 := Lib.hid (Rw.low h2); have B2 := Lib.hid b2; clear h2 b2) | (go_at_call 25; refine (join_any _ [[⟨#[123]⟩], commaT (ks.map Nd.toks), [⟨#[125]⟩]] _ _ (lists3 (by repeat (first | with_reducible exact H2.out | (with_reducible refine Rw.newg _ _ ?_; (first | with_reducible rfl | (simp; done) | (simp; omega))) | (with_reducible refine Rw.newg2 _ _ _ ?_; (first | with_reducible rfl | (simp; done) | (simp; omega))) | with_reducible exact TC.one C0.out | with_reducible refine Rw.alloc ?_ _ | with_reducible refine Rw.drew ?_ | with_reducible refine Rw.next ?_ B2.out)) (by repeat (first | with_reducible exact H2.out | (with_reducible refine Rw.newg _ _ ?_; (first | with_reducible rfl | (simp; done) | (simp; omega))) | (with_reducible refine Rw.newg2 _ _ _ ?_; (first | with_reducible rfl | (simp; done) | (simp; omega))) | with_reducible exact TC.one C0.out | with_reducible refine Rw.alloc ?_ _ | with_reducible refine Rw.drew ?_ | with_reducible refine Rw.next ?_ B2.out)) (by repeat (first | with_reducible exact H2.out | (with_reducible refine Rw.newg _ _ ?_; (first | with_reducible rfl | (simp; done) | (simp; omega))) | (with_reducible refine Rw.newg2 _ _ _ ?_; (first | with_reducible rfl | (simp; done) | (simp; omega))) | with_reducible exact TC.one C0.out | with_reducible refine Rw.alloc ?_ _ | with_reducible refine Rw.drew ?_ | with_reducible refine Rw.next ?_ B2.out)) (by (first | with_reducible rfl | (simp; done) | (simp; omega)))) (by simp) (by omega) _ rfl).mono ?_; rintro e w9 ⟨A9, c9, rfl, h9, b9⟩; have H9 := Lib.hid h9; have B9 := Lib.hid b9; clear h9 b9))
  all_goals go_wp2_with fail
  all_goals go_ret
  all_goals exact tk_end (by repeat (first | with_reducible exact C0.out | with_reducible refine TC.alloc ?_ _ | with_reducible refine TC.drew ?_ | with_reducible refine TC.next ?_ B9.out | with_reducible refine TC.next ?_ B2.out)) HT.out H9.out B9.out
end Go.Proofs.YtjbhjbpamnoebaaGreatFmt
