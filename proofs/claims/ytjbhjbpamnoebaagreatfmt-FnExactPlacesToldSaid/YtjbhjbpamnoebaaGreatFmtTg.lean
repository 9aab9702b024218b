/-
  spec.Tokens: composite literals with a type, of two nodes or more.
-/
import Derived.Test.YtjbhjbpamnoebaaGreatFmtL2
namespace Go.Proofs.YtjbhjbpamnoebaaGreatFmt
open Go.RowKit

set_option maxHeartbeats 4000000 in
set_option maxRecDepth 100000 in
theorem tok_compt_n (cp : Nat) (hcp : ¬ cp = 1) (x : Nd) (r : List Nd) (ad : Option Addr) (IH : ∀ k ∈ x :: r, TOf k) : TOf ⟨⟨#[99, 111, 109, 112, 111, 115, 105, 116, 101]⟩, ⟨#[116, 121, 112, 101]⟩, ad, cp, x :: r⟩ := by
  intro W hs hz hin
  obtain ⟨⟨ab, ao, had⟩, hcp1, hcp2⟩ := ad_form hin
  subst had
  have hr1 : r.length + 1 ≤ 9223372036854775807 := by omega
  have hrI : (1 : Int) ≤ (r.length : Int) + 1 := by omega
  have hlen := toks_le hs hz
  have HK := Lib.hid (fun (w : World) (C : TC W ⟨⟨#[99, 111, 109, 112, 111, 115, 105, 116, 101]⟩, ⟨#[116, 121, 112, 101]⟩, some ⟨ab, ao, none⟩, cp, x :: r⟩ w) (j : Nat) (k : Nd) (hk : (x :: r)[j]? = some k) => tkid_any ⟨⟨#[99, 111, 109, 112, 111, 115, 105, 116, 101]⟩, ⟨#[116, 121, 112, 101]⟩, some ⟨ab, ao, none⟩, cp, x :: r⟩ IH hs hz W w C j k hk)
  have hLs : (∀ k ∈ r, k.shapedB = true) ∧ sizeL r ≤ 400 := by
    have h1 : sizeL (x :: r) ≤ 400 := by rw [Nd.size_eq] at hz; exact Nat.le_trans (Nat.le_add_left _ _) hz
    refine ⟨fun k hk => (kid_ok hs hz (List.mem_cons_of_mem _ hk)).1, ?_⟩
    simp only [sizeL] at h1 ⊢
    omega
  have HL := Lib.hid (fun (w : World) (C : TC W ⟨⟨#[99, 111, 109, 112, 111, 115, 105, 116, 101]⟩, ⟨#[116, 121, 112, 101]⟩, some ⟨ab, ao, none⟩, cp, x :: r⟩ w) => (show Calls Tryz.prog 26 #[.slice (some ⟨ab, ao + 3, none⟩) r.length (cp - 1)] w (EvPost w (commaT (r.map Nd.toks))) from tlist_any r (fun k hk => IH k (List.mem_cons_of_mem _ hk)) hLs.1 hLs.2 (some ⟨ab, ao + 3, none⟩) (cp - 1) w (Nd.In_iff.1 (tail_in C.in_)).2.2 _ rfl))
  have hT : Nd.toks ⟨⟨#[99, 111, 109, 112, 111, 115, 105, 116, 101]⟩, ⟨#[116, 121, 112, 101]⟩, some ⟨ab, ao, none⟩, cp, x :: r⟩ = catT [x.toks, [⟨#[123]⟩], commaT (r.map Nd.toks), [⟨#[125]⟩]] := by
    rw [toks_eq, show kcode (⟨#[99, 111, 109, 112, 111, 115, 105, 116, 101]⟩ : ByteArray) = 13 from by decide]
    first | (simp [tokOf, catT]; done) | (simp [tokOf, t0, catT]; done) | (simp [tokOf, t0, catT, commaT]; done)
  have HT := Lib.hid hT
  rw [hT] at hlen
  have hC : TC W ⟨⟨#[99, 111, 109, 112, 111, 115, 105, 116, 101]⟩, ⟨#[116, 121, 112, 101]⟩, some ⟨ab, ao, none⟩, cp, x :: r⟩ ((W.alloc (.cells #[.string ⟨#[99, 111, 109, 112, 111, 115, 105, 116, 101]⟩, .string ⟨#[116, 121, 112, 101]⟩, .slice (some ⟨ab, ao, none⟩) (r.length + 1) cp] 24)).alloc (.cells #[.string ⟨#[116, 121, 112, 101]⟩] 9)) := TC.start hin
  have C0 := Lib.hid hC
  have c0 := hC.c0
  have c1 := hC.c1
  show Calls _ _ #[.agg #[.string ⟨#[99, 111, 109, 112, 111, 115, 105, 116, 101]⟩, .string ⟨#[116, 121, 112, 101]⟩, .slice (some ⟨ab, ao, none⟩) (r.length + 1) cp]] W _
  clear IH hs hz hin hT hC hLs
  go_enter Tryz.func13, Tryz.ntmps13
  go_wp2_with fail
  clear c0 c1
  have KS := Lib.hid (show ∀ w, TC W ⟨⟨#[99, 111, 109, 112, 111, 115, 105, 116, 101]⟩, ⟨#[116, 121, 112, 101]⟩, some ⟨ab, ao, none⟩, cp, x :: r⟩ w → w.cell? ⟨W.heap.size, 2, none⟩ = some (.slice (some ⟨ab, ao, none⟩) ((r.length + 1)) cp) ∧ w.cell? ⟨W.heap.size, 1, none⟩ = some (.string ⟨#[116, 121, 112, 101]⟩) ∧ w.cell? ⟨W.heap.size, 0, none⟩ = some (.string ⟨#[99, 111, 109, 112, 111, 115, 105, 116, 101]⟩) from fun w h => ⟨h.c2, h.c1, h.c0⟩)
  go_region_held3 (fun w' => w'.cell? ⟨W.heap.size, 2, none⟩ = some (.slice (some ⟨ab, ao, none⟩) ((r.length + 1)) cp) ∧ w'.cell? ⟨W.heap.size, 1, none⟩ = some (.string ⟨#[116, 121, 112, 101]⟩) ∧ w'.cell? ⟨W.heap.size, 0, none⟩ = some (.string ⟨#[99, 111, 109, 112, 111, 115, 105, 116, 101]⟩)) ((refine KS.out _ ?_; repeat (first | with_reducible exact C0.out | with_reducible refine TC.alloc ?_ _ | with_reducible refine TC.drew ?_ | with_reducible refine TC.next ?_ B9.out | with_reducible refine TC.next ?_ B1.out | with_reducible refine TC.next ?_ B3.out))) (first | (go_at_call 23; refine (HK.out _ (by repeat (first | with_reducible exact C0.out | with_reducible refine TC.alloc ?_ _ | with_reducible refine TC.drew ?_ | with_reducible refine TC.next ?_ B9.out | with_reducible refine TC.next ?_ B1.out | with_reducible refine TC.next ?_ B3.out)) 0 x rfl).mono ?_; rintro e w1 ⟨A1, c1, rfl, h1, b1⟩; have H1 := Lib.hid (Rw.low h1); have B1 := Lib.hid b1; clear h1 b1) | (go_at_call 24; refine (tok2_any _ _ _ _).mono ?_; rintro e ww ⟨rfl, rfl⟩) | (go_at_call 26; refine (HL.out _ (by repeat (first | with_reducible exact C0.out | with_reducible refine TC.alloc ?_ _ | with_reducible refine TC.drew ?_ | with_reducible refine TC.next ?_ B9.out | with_reducible refine TC.next ?_ B1.out | with_reducible refine TC.next ?_ B3.out))).mono ?_; rintro e w3 ⟨A3, c3, rfl, h3, b3⟩; have H3 := Lib.hid (Rw.low h3); have B3 := Lib.hid b3; clear h3 b3) | (go_at_call 25; refine (join_any _ [x.toks, [⟨#[123]⟩], commaT (r.map Nd.toks), [⟨#[125]⟩]] _ _ (lists4 (by repeat (first | with_reducible exact H1.out | with_reducible exact H3.out | (with_reducible refine Rw.newg _ _ ?_; (first | with_reducible rfl | (simp; done) | (simp; omega))) | (with_reducible refine Rw.newg2 _ _ _ ?_; (first | with_reducible rfl | (simp; done) | (simp; omega))) | with_reducible exact TC.one C0.out | with_reducible refine Rw.alloc ?_ _ | with_reducible refine Rw.drew ?_ | with_reducible refine Rw.next ?_ B1.out | with_reducible refine Rw.next ?_ B3.out)) (by repeat (first | with_reducible exact H1.out | with_reducible exact H3.out | (with_reducible refine Rw.newg _ _ ?_; (first | with_reducible rfl | (simp; done) | (simp; omega))) | (with_reducible refine Rw.newg2 _ _ _ ?_; (first | with_reducible rfl | (simp; done) | (simp; omega))) | with_reducible exact TC.one C0.out | with_reducible refine Rw.alloc ?_ _ | with_reducible refine Rw.drew ?_ | with_reducible refine Rw.next ?_ B1.out | with_reducible refine Rw.next ?_ B3.out)) (by repeat (first | with_reducible exact H1.out | with_reducible exact H3.out | (with_reducible refine Rw.newg _ _ ?_; (first | with_reducible rfl | (simp; done) | (simp; omega))) | (with_reducible refine Rw.newg2 _ _ _ ?_; (first | with_reducible rfl | (simp; done) | (simp; omega))) | with_reducible exact TC.one C0.out | with_reducible refine Rw.alloc ?_ _ | with_reducible refine Rw.drew ?_ | with_reducible refine Rw.next ?_ B1.out | with_reducible refine Rw.next ?_ B3.out)) (by repeat (first | with_reducible exact H1.out | with_reducible exact H3.out | (with_reducible refine Rw.newg _ _ ?_; (first | with_reducible rfl | (simp; done) | (simp; omega))) | (with_reducible refine Rw.newg2 _ _ _ ?_; (first | with_reducible rfl | (simp; done) | (simp; omega))) | with_reducible exact TC.one C0.out | with_reducible refine Rw.alloc ?_ _ | with_reducible refine Rw.drew ?_ | with_reducible refine Rw.next ?_ B1.out | with_reducible refine Rw.next ?_ B3.out)) (by (first | with_reducible rfl | (simp; done) | (simp; omega)))) (by simp) (by omega) _ rfl).mono ?_; rintro e w9 ⟨A9, c9, rfl, h9, b9⟩; have H9 := Lib.hid h9; have B9 := Lib.hid b9; clear h9 b9))
  all_goals go_wp2_with fail
  all_goals go_ret
  all_goals exact tk_end (by repeat (first | with_reducible exact C0.out | with_reducible refine TC.alloc ?_ _ | with_reducible refine TC.drew ?_ | with_reducible refine TC.next ?_ B9.out | with_reducible refine TC.next ?_ B1.out | with_reducible refine TC.next ?_ B3.out)) HT.out H9.out B9.out
end Go.Proofs.YtjbhjbpamnoebaaGreatFmt
