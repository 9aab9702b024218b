/-
  spec.Tokens: calls.
  spec.Tokens: calls with dots.
-/
import Derived.Test.YtjbhjbpamnoebaaGreatFmtL2
namespace Go.Proofs.YtjbhjbpamnoebaaGreatFmt
open Go.RowKit

theorem tk_low {W w w1 : World} {n : Nd} {l : List ByteArray} {A : Option Addr} {cap : Nat} (C : TC W n w) (h1 : w1.ownsRow w.heap.size 9 1 (.slice A l.length cap) l.length (flatT l)) : w1.ownsRow W.heap.size 9 1 (.slice A l.length cap) l.length (flatT l) := own_lowT h1 C.below.size
set_option maxHeartbeats 4000000 in
set_option maxRecDepth 100000 in
theorem tok_call_n (cp : Nat) (hcp : ¬ cp = 1) (x : Nd) (r : List Nd) (ad : Option Addr) (IH : ∀ k ∈ x :: r, TOf k) : TOf ⟨⟨#[99, 97, 108, 108]⟩, ⟨#[]⟩, ad, cp, x :: r⟩ := by
  intro W hs hz hin
  obtain ⟨⟨ab, ao, had⟩, hcp1, hcp2⟩ := ad_form hin
  subst had
  have hlen := toks_le hs hz
  have hr1 : r.length + 1 ≤ 9223372036854775807 := by omega
  have hrI : (1 : Int) ≤ (r.length : Int) + 1 := by omega
  have HK := Lib.hid (fun (w : World) (C : TC W ⟨⟨#[99, 97, 108, 108]⟩, ⟨#[]⟩, some ⟨ab, ao, none⟩, cp, x :: r⟩ w) (j : Nat) (k : Nd) (hk : (x :: r)[j]? = some k) => tkid_any ⟨⟨#[99, 97, 108, 108]⟩, ⟨#[]⟩, some ⟨ab, ao, none⟩, cp, x :: r⟩ IH hs hz W w C j k hk)
  have hLs : (∀ k ∈ r, k.shapedB = true) ∧ sizeL r ≤ 400 := by
    have h1 : sizeL (x :: r) ≤ 400 := by rw [Nd.size_eq] at hz; exact Nat.le_trans (Nat.le_add_left _ _) hz
    refine ⟨fun k hk => (kid_ok hs hz (List.mem_cons_of_mem _ hk)).1, ?_⟩
    simp only [sizeL] at h1 ⊢
    omega
  have HL := Lib.hid (fun (w : World) (C : TC W ⟨⟨#[99, 97, 108, 108]⟩, ⟨#[]⟩, some ⟨ab, ao, none⟩, cp, x :: r⟩ w) => tlist_any r (fun k hk => IH k (List.mem_cons_of_mem _ hk)) hLs.1 hLs.2 (some ⟨ab, ao + 3, none⟩) (cp - 1) w (Nd.In_iff.1 (tail_in C.in_)).2.2 _ rfl)
  obtain ⟨l9, hl9⟩ : ∃ l9, catT [x.toks, [⟨#[40]⟩], commaT (r.map Nd.toks)] = l9 := ⟨_, rfl⟩
  have hT : Nd.toks ⟨⟨#[99, 97, 108, 108]⟩, ⟨#[]⟩, some ⟨ab, ao, none⟩, cp, x :: r⟩ = l9 ++ [⟨#[41]⟩] := by
    rw [← hl9, toks_eq, show kcode (⟨#[99, 97, 108, 108]⟩ : ByteArray) = 12 from by decide]
    first | (simp [tokOf, catT]; done) | (simp [tokOf, t0, catT]; done) | (simp [tokOf, t0, catT, commaT]; done)
  have HT := Lib.hid hT
  rw [hT] at hlen
  have hlen9 : l9.length ≤ 1999 := by simp at hlen; omega
  have HJ := Lib.hid (show ∀ (A : Option Addr) (cap : Nat) (w : World), Lists w A [x.toks, [⟨#[40]⟩], commaT (r.map Nd.toks)] → Calls Tryz.prog 25 #[.slice A 3 cap] w (EvPost w l9) from fun A cap w h => hl9 ▸ join_any A [x.toks, [⟨#[40]⟩], commaT (r.map Nd.toks)] cap w h (by simp) (by rw [hl9]; omega) _ rfl)
  have hC : TC W ⟨⟨#[99, 97, 108, 108]⟩, ⟨#[]⟩, some ⟨ab, ao, none⟩, cp, x :: r⟩ ((W.alloc (.cells #[.string ⟨#[99, 97, 108, 108]⟩, .string ⟨#[]⟩, .slice (some ⟨ab, ao, none⟩) (r.length + 1) cp] 24)).alloc (.cells #[.string ⟨#[]⟩] 9)) := TC.start hin
  have C0 := Lib.hid hC
  have c0 := hC.c0
  have c1 := hC.c1
  obtain ⟨i0, hi0, hz0, hza, hzb⟩ := info_parts infoT
  have HN := Lib.hid (And.intro hi0 (And.intro hz0 (And.intro hza hzb)))
  show Calls _ _ #[.agg #[.string ⟨#[99, 97, 108, 108]⟩, .string ⟨#[]⟩, .slice (some ⟨ab, ao, none⟩) (r.length + 1) cp]] W _
  clear IH hs hz hin hT hC hlen hl9 hi0 hz0 hza hzb hLs
  go_enter Tryz.func13, Tryz.ntmps13
  go_wp2_with fail
  clear c0 c1
  have KS := Lib.hid (show ∀ w, TC W ⟨⟨#[99, 97, 108, 108]⟩, ⟨#[]⟩, some ⟨ab, ao, none⟩, cp, x :: r⟩ w → w.cell? ⟨W.heap.size, 2, none⟩ = some (.slice (some ⟨ab, ao, none⟩) (r.length + 1) cp) ∧ w.cell? ⟨W.heap.size, 1, none⟩ = some (.string ⟨#[]⟩) ∧ w.cell? ⟨W.heap.size, 0, none⟩ = some (.string ⟨#[99, 97, 108, 108]⟩) from fun w h => ⟨h.c2, h.c1, h.c0⟩)
  go_region_held3 (fun w' => w'.cell? ⟨W.heap.size, 2, none⟩ = some (.slice (some ⟨ab, ao, none⟩) (r.length + 1) cp) ∧ w'.cell? ⟨W.heap.size, 1, none⟩ = some (.string ⟨#[]⟩) ∧ w'.cell? ⟨W.heap.size, 0, none⟩ = some (.string ⟨#[99, 97, 108, 108]⟩)) ((refine KS.out _ ?_; repeat (first | with_reducible exact C0.out | with_reducible refine TC.alloc ?_ _ | with_reducible refine TC.drew ?_ | with_reducible refine TC.next ?_ B9.out | with_reducible refine TC.next ?_ B3.out | with_reducible refine TC.next ?_ B1.out))) (first | (go_at_call 23; refine (HK.out _ (by repeat (first | with_reducible exact C0.out | with_reducible refine TC.alloc ?_ _ | with_reducible refine TC.drew ?_ | with_reducible refine TC.next ?_ B9.out | with_reducible refine TC.next ?_ B3.out | with_reducible refine TC.next ?_ B1.out)) 0 x rfl).mono ?_; rintro e w1 ⟨A1, c1, rfl, h1, b1⟩; have H1 := Lib.hid (Rw.low h1); have B1 := Lib.hid b1; clear h1 b1) | (go_at_call 24; refine (tok2_any _ _ _ _).mono ?_; rintro e ww ⟨rfl, rfl⟩) | (go_at_call 26; refine (HL.out _ (by repeat (first | with_reducible exact C0.out | with_reducible refine TC.alloc ?_ _ | with_reducible refine TC.drew ?_ | with_reducible refine TC.next ?_ B9.out | with_reducible refine TC.next ?_ B3.out | with_reducible refine TC.next ?_ B1.out))).mono ?_; rintro e w3 ⟨A3, c3, rfl, h3, b3⟩; have H3 := Lib.hid (Rw.low h3); have B3 := Lib.hid b3; clear h3 b3) | (go_at_call 25; refine (HJ.out _ _ _ (lists3 (by repeat (first | with_reducible exact H1.out | with_reducible exact H3.out | (with_reducible refine Rw.newg _ _ ?_; (first | with_reducible rfl | (simp; done) | (simp; omega))) | (with_reducible refine Rw.newg2 _ _ _ ?_; (first | with_reducible rfl | (simp; done) | (simp; omega))) | with_reducible exact TC.one C0.out | with_reducible refine Rw.alloc ?_ _ | with_reducible refine Rw.drew ?_ | with_reducible refine Rw.next ?_ B9.out | with_reducible refine Rw.next ?_ B3.out | with_reducible refine Rw.next ?_ B1.out)) (by repeat (first | with_reducible exact H1.out | with_reducible exact H3.out | (with_reducible refine Rw.newg _ _ ?_; (first | with_reducible rfl | (simp; done) | (simp; omega))) | (with_reducible refine Rw.newg2 _ _ _ ?_; (first | with_reducible rfl | (simp; done) | (simp; omega))) | with_reducible exact TC.one C0.out | with_reducible refine Rw.alloc ?_ _ | with_reducible refine Rw.drew ?_ | with_reducible refine Rw.next ?_ B9.out | with_reducible refine Rw.next ?_ B3.out | with_reducible refine Rw.next ?_ B1.out)) (by repeat (first | with_reducible exact H1.out | with_reducible exact H3.out | (with_reducible refine Rw.newg _ _ ?_; (first | with_reducible rfl | (simp; done) | (simp; omega))) | (with_reducible refine Rw.newg2 _ _ _ ?_; (first | with_reducible rfl | (simp; done) | (simp; omega))) | with_reducible exact TC.one C0.out | with_reducible refine Rw.alloc ?_ _ | with_reducible refine Rw.drew ?_ | with_reducible refine Rw.next ?_ B9.out | with_reducible refine Rw.next ?_ B3.out | with_reducible refine Rw.next ?_ B1.out)) (by (first | with_reducible rfl | (simp; done) | (simp; omega))))).mono ?_; rintro e w9 ⟨A9, c9, rfl, h9, b9⟩; have B9 := Lib.hid b9; have R9 := Lib.hid (tk_low (W := W) (n := ⟨⟨#[99, 97, 108, 108]⟩, ⟨#[]⟩, some ⟨ab, ao, none⟩, cp, x :: r⟩) (by repeat (first | with_reducible exact C0.out | with_reducible refine TC.alloc ?_ _ | with_reducible refine TC.drew ?_ | with_reducible refine TC.next ?_ B9.out | with_reducible refine TC.next ?_ B3.out | with_reducible refine TC.next ?_ B1.out)) h9); clear h9 b9))
  all_goals have C9 := Lib.hid (show TC W ⟨⟨#[99, 97, 108, 108]⟩, ⟨#[]⟩, some ⟨ab, ao, none⟩, cp, x :: r⟩ w9 by repeat (first | with_reducible exact C0.out | with_reducible refine TC.alloc ?_ _ | with_reducible refine TC.drew ?_ | with_reducible refine TC.next ?_ B9.out | with_reducible refine TC.next ?_ B3.out | with_reducible refine TC.next ?_ B1.out))
  all_goals have c1 := C9.out.c1
  all_goals obtain ⟨hi0, hz0, hza, hzb⟩ := HN.out
  all_goals go_wp2_with (at_builtin; refine wpList_append_own_at _ rfl _ _ 36 rfl W.heap.size 9 i0 (.string ⟨#[]⟩) 1 16 underT hi0 hz0 hza hzb rfl (by decide) _ _ (flatT l9) rfl (own_keep R9.out (fun g _ hg => Below.heap_alloc _ _ g hg)) ⟨_, 0, none⟩ 1 1 [.string ⟨#[41]⟩] rfl rfl (World.news_of_block (Blk.new _ _ _)) (by intro u hu; simp at hu; subst hu; rfl) (by unfold maxLen; omega) (by omega) (by rw [World.size_alloc]; have := C9.out.below.size; omega) ?_; intro v10 w10 hown hgr hnil hloc; obtain ⟨A10, c10, rfl⟩ := own_len hown; have R10 := Lib.hid hown; have D10 := Lib.hid (C9.out.below.trans (((Below.al _ _).mono C9.out.below.size).trans (below_own (own_keep R9.out (fun g _ hg => Below.heap_alloc _ _ g hg)) hgr (Nat.le_refl _) (by rw [World.size_alloc]; have := C9.out.below.size; omega)))); clear hown hgr hnil hloc)
  all_goals go_ret
  all_goals rw [HT.out]
  all_goals exact ⟨A10, c10, by rw [List.length_append]; rfl, by rw [flatT_append, List.length_append]; exact R10.out, D10.out⟩
set_option maxHeartbeats 4000000 in
set_option maxRecDepth 100000 in
theorem tok_call_1 (x : Nd) (ad : Option Addr) (IH : ∀ k ∈ [x], TOf k) : TOf ⟨⟨#[99, 97, 108, 108]⟩, ⟨#[]⟩, ad, 1, [x]⟩ := by
  intro W hs hz hin
  obtain ⟨⟨ab, ao, had⟩, hcp1, hcp2⟩ := ad_form hin
  subst had
  have hlen := toks_le hs hz
  have HK := Lib.hid (fun (w : World) (C : TC W ⟨⟨#[99, 97, 108, 108]⟩, ⟨#[]⟩, some ⟨ab, ao, none⟩, 1, [x]⟩ w) (j : Nat) (k : Nd) (hk : ([x])[j]? = some k) => tkid_any ⟨⟨#[99, 97, 108, 108]⟩, ⟨#[]⟩, some ⟨ab, ao, none⟩, 1, [x]⟩ IH hs hz W w C j k hk)
  have HL := Lib.hid (fun (w : World) (C : TC W ⟨⟨#[99, 97, 108, 108]⟩, ⟨#[]⟩, some ⟨ab, ao, none⟩, 1, [x]⟩ w) (A : Option Addr) (cc : Nat) => (show Calls Tryz.prog 26 #[.slice A 0 cc] w (EvPost w ([] : List ByteArray)) from tlist_any [] (fun k hk => by simp at hk) (fun k hk => by simp at hk) (by simp [sizeL]) A cc w (fun j k hj => by simp at hj) _ rfl))
  obtain ⟨l9, hl9⟩ : ∃ l9, catT [x.toks, [⟨#[40]⟩], ([] : List ByteArray)] = l9 := ⟨_, rfl⟩
  have hT : Nd.toks ⟨⟨#[99, 97, 108, 108]⟩, ⟨#[]⟩, some ⟨ab, ao, none⟩, 1, [x]⟩ = l9 ++ [⟨#[41]⟩] := by
    rw [← hl9, toks_eq, show kcode (⟨#[99, 97, 108, 108]⟩ : ByteArray) = 12 from by decide]
    first | (simp [tokOf, catT]; done) | (simp [tokOf, t0, catT]; done) | (simp [tokOf, t0, catT, commaT]; done)
  have HT := Lib.hid hT
  rw [hT] at hlen
  have hlen9 : l9.length ≤ 1999 := by simp at hlen; omega
  have HJ := Lib.hid (show ∀ (A : Option Addr) (cap : Nat) (w : World), Lists w A [x.toks, [⟨#[40]⟩], ([] : List ByteArray)] → Calls Tryz.prog 25 #[.slice A 3 cap] w (EvPost w l9) from fun A cap w h => hl9 ▸ join_any A [x.toks, [⟨#[40]⟩], ([] : List ByteArray)] cap w h (by simp) (by rw [hl9]; omega) _ rfl)
  have hC : TC W ⟨⟨#[99, 97, 108, 108]⟩, ⟨#[]⟩, some ⟨ab, ao, none⟩, 1, [x]⟩ ((W.alloc (.cells #[.string ⟨#[99, 97, 108, 108]⟩, .string ⟨#[]⟩, .slice (some ⟨ab, ao, none⟩) 1 1] 24)).alloc (.cells #[.string ⟨#[]⟩] 9)) := TC.start hin
  have C0 := Lib.hid hC
  have c0 := hC.c0
  have c1 := hC.c1
  obtain ⟨i0, hi0, hz0, hza, hzb⟩ := info_parts infoT
  have HN := Lib.hid (And.intro hi0 (And.intro hz0 (And.intro hza hzb)))
  show Calls _ _ #[.agg #[.string ⟨#[99, 97, 108, 108]⟩, .string ⟨#[]⟩, .slice (some ⟨ab, ao, none⟩) 1 1]] W _
  clear IH hs hz hin hT hC hlen hl9 hi0 hz0 hza hzb
  go_enter Tryz.func13, Tryz.ntmps13
  go_wp2_with fail
  clear c0 c1
  have KS := Lib.hid (show ∀ w, TC W ⟨⟨#[99, 97, 108, 108]⟩, ⟨#[]⟩, some ⟨ab, ao, none⟩, 1, [x]⟩ w → w.cell? ⟨W.heap.size, 2, none⟩ = some (.slice (some ⟨ab, ao, none⟩) 1 1) ∧ w.cell? ⟨W.heap.size, 1, none⟩ = some (.string ⟨#[]⟩) ∧ w.cell? ⟨W.heap.size, 0, none⟩ = some (.string ⟨#[99, 97, 108, 108]⟩) from fun w h => ⟨h.c2, h.c1, h.c0⟩)
  go_region_held3 (fun w' => w'.cell? ⟨W.heap.size, 2, none⟩ = some (.slice (some ⟨ab, ao, none⟩) 1 1) ∧ w'.cell? ⟨W.heap.size, 1, none⟩ = some (.string ⟨#[]⟩) ∧ w'.cell? ⟨W.heap.size, 0, none⟩ = some (.string ⟨#[99, 97, 108, 108]⟩)) ((refine KS.out _ ?_; repeat (first | with_reducible exact C0.out | with_reducible refine TC.alloc ?_ _ | with_reducible refine TC.drew ?_ | with_reducible refine TC.next ?_ B9.out | with_reducible refine TC.next ?_ B3.out | with_reducible refine TC.next ?_ B1.out))) (first | (go_at_call 23; refine (HK.out _ (by repeat (first | with_reducible exact C0.out | with_reducible refine TC.alloc ?_ _ | with_reducible refine TC.drew ?_ | with_reducible refine TC.next ?_ B9.out | with_reducible refine TC.next ?_ B3.out | with_reducible refine TC.next ?_ B1.out)) 0 x rfl).mono ?_; rintro e w1 ⟨A1, c1, rfl, h1, b1⟩; have H1 := Lib.hid (Rw.low h1); have B1 := Lib.hid b1; clear h1 b1) | (go_at_call 24; refine (tok2_any _ _ _ _).mono ?_; rintro e ww ⟨rfl, rfl⟩) | (go_at_call 26; refine (HL.out _ (by repeat (first | with_reducible exact C0.out | with_reducible refine TC.alloc ?_ _ | with_reducible refine TC.drew ?_ | with_reducible refine TC.next ?_ B9.out | with_reducible refine TC.next ?_ B3.out | with_reducible refine TC.next ?_ B1.out)) _ _).mono ?_; rintro e w3 ⟨A3, c3, rfl, h3, b3⟩; have H3 := Lib.hid (show Rw w3 (.slice A3 0 c3) [] from Rw.low h3); have B3 := Lib.hid b3; clear h3 b3) | (go_at_call 25; refine (HJ.out _ _ _ (lists3 (by repeat (first | with_reducible exact H1.out | with_reducible exact H3.out | (with_reducible refine Rw.newg _ _ ?_; (first | with_reducible rfl | (simp; done) | (simp; omega))) | (with_reducible refine Rw.newg2 _ _ _ ?_; (first | with_reducible rfl | (simp; done) | (simp; omega))) | with_reducible exact TC.one C0.out | with_reducible refine Rw.alloc ?_ _ | with_reducible refine Rw.drew ?_ | with_reducible refine Rw.next ?_ B9.out | with_reducible refine Rw.next ?_ B3.out | with_reducible refine Rw.next ?_ B1.out)) (by repeat (first | with_reducible exact H1.out | with_reducible exact H3.out | (with_reducible refine Rw.newg _ _ ?_; (first | with_reducible rfl | (simp; done) | (simp; omega))) | (with_reducible refine Rw.newg2 _ _ _ ?_; (first | with_reducible rfl | (simp; done) | (simp; omega))) | with_reducible exact TC.one C0.out | with_reducible refine Rw.alloc ?_ _ | with_reducible refine Rw.drew ?_ | with_reducible refine Rw.next ?_ B9.out | with_reducible refine Rw.next ?_ B3.out | with_reducible refine Rw.next ?_ B1.out)) (by repeat (first | with_reducible exact H1.out | with_reducible exact H3.out | (with_reducible refine Rw.newg _ _ ?_; (first | with_reducible rfl | (simp; done) | (simp; omega))) | (with_reducible refine Rw.newg2 _ _ _ ?_; (first | with_reducible rfl | (simp; done) | (simp; omega))) | with_reducible exact TC.one C0.out | with_reducible refine Rw.alloc ?_ _ | with_reducible refine Rw.drew ?_ | with_reducible refine Rw.next ?_ B9.out | with_reducible refine Rw.next ?_ B3.out | with_reducible refine Rw.next ?_ B1.out)) (by (first | with_reducible rfl | (simp; done) | (simp; omega))))).mono ?_; rintro e w9 ⟨A9, c9, rfl, h9, b9⟩; have B9 := Lib.hid b9; have R9 := Lib.hid (tk_low (W := W) (n := ⟨⟨#[99, 97, 108, 108]⟩, ⟨#[]⟩, some ⟨ab, ao, none⟩, 1, [x]⟩) (by repeat (first | with_reducible exact C0.out | with_reducible refine TC.alloc ?_ _ | with_reducible refine TC.drew ?_ | with_reducible refine TC.next ?_ B9.out | with_reducible refine TC.next ?_ B3.out | with_reducible refine TC.next ?_ B1.out)) h9); clear h9 b9))
  all_goals have C9 := Lib.hid (show TC W ⟨⟨#[99, 97, 108, 108]⟩, ⟨#[]⟩, some ⟨ab, ao, none⟩, 1, [x]⟩ w9 by repeat (first | with_reducible exact C0.out | with_reducible refine TC.alloc ?_ _ | with_reducible refine TC.drew ?_ | with_reducible refine TC.next ?_ B9.out | with_reducible refine TC.next ?_ B3.out | with_reducible refine TC.next ?_ B1.out))
  all_goals have c1 := C9.out.c1
  all_goals obtain ⟨hi0, hz0, hza, hzb⟩ := HN.out
  all_goals go_wp2_with (at_builtin; refine wpList_append_own_at _ rfl _ _ 36 rfl W.heap.size 9 i0 (.string ⟨#[]⟩) 1 16 underT hi0 hz0 hza hzb rfl (by decide) _ _ (flatT l9) rfl (own_keep R9.out (fun g _ hg => Below.heap_alloc _ _ g hg)) ⟨_, 0, none⟩ 1 1 [.string ⟨#[41]⟩] rfl rfl (World.news_of_block (Blk.new _ _ _)) (by intro u hu; simp at hu; subst hu; rfl) (by unfold maxLen; omega) (by omega) (by rw [World.size_alloc]; have := C9.out.below.size; omega) ?_; intro v10 w10 hown hgr hnil hloc; obtain ⟨A10, c10, rfl⟩ := own_len hown; have R10 := Lib.hid hown; have D10 := Lib.hid (C9.out.below.trans (((Below.al _ _).mono C9.out.below.size).trans (below_own (own_keep R9.out (fun g _ hg => Below.heap_alloc _ _ g hg)) hgr (Nat.le_refl _) (by rw [World.size_alloc]; have := C9.out.below.size; omega)))); clear hown hgr hnil hloc)
  all_goals go_ret
  all_goals rw [HT.out]
  all_goals exact ⟨A10, c10, by rw [List.length_append]; rfl, by rw [flatT_append, List.length_append]; exact R10.out, D10.out⟩
end Go.Proofs.YtjbhjbpamnoebaaGreatFmt

namespace Go.Proofs.YtjbhjbpamnoebaaGreatFmt
open Go.RowKit

set_option maxHeartbeats 4000000 in
set_option maxRecDepth 100000 in
theorem tok_calld_n (cp : Nat) (hcp : ¬ cp = 1) (x : Nd) (r : List Nd) (ad : Option Addr) (IH : ∀ k ∈ x :: r, TOf k) : TOf ⟨⟨#[99, 97, 108, 108]⟩, ⟨#[46, 46, 46]⟩, ad, cp, x :: r⟩ := by
  intro W hs hz hin
  obtain ⟨⟨ab, ao, had⟩, hcp1, hcp2⟩ := ad_form hin
  subst had
  have hlen := toks_le hs hz
  have hr1 : r.length + 1 ≤ 9223372036854775807 := by omega
  have hrI : (1 : Int) ≤ (r.length : Int) + 1 := by omega
  have HK := Lib.hid (fun (w : World) (C : TC W ⟨⟨#[99, 97, 108, 108]⟩, ⟨#[46, 46, 46]⟩, some ⟨ab, ao, none⟩, cp, x :: r⟩ w) (j : Nat) (k : Nd) (hk : (x :: r)[j]? = some k) => tkid_any ⟨⟨#[99, 97, 108, 108]⟩, ⟨#[46, 46, 46]⟩, some ⟨ab, ao, none⟩, cp, x :: r⟩ IH hs hz W w C j k hk)
  have hLs : (∀ k ∈ r, k.shapedB = true) ∧ sizeL r ≤ 400 := by
    have h1 : sizeL (x :: r) ≤ 400 := by rw [Nd.size_eq] at hz; exact Nat.le_trans (Nat.le_add_left _ _) hz
    refine ⟨fun k hk => (kid_ok hs hz (List.mem_cons_of_mem _ hk)).1, ?_⟩
    simp only [sizeL] at h1 ⊢
    omega
  have HL := Lib.hid (fun (w : World) (C : TC W ⟨⟨#[99, 97, 108, 108]⟩, ⟨#[46, 46, 46]⟩, some ⟨ab, ao, none⟩, cp, x :: r⟩ w) => tlist_any r (fun k hk => IH k (List.mem_cons_of_mem _ hk)) hLs.1 hLs.2 (some ⟨ab, ao + 3, none⟩) (cp - 1) w (Nd.In_iff.1 (tail_in C.in_)).2.2 _ rfl)
  obtain ⟨l9, hl9⟩ : ∃ l9, catT [x.toks, [⟨#[40]⟩], commaT (r.map Nd.toks)] = l9 := ⟨_, rfl⟩
  have hT : Nd.toks ⟨⟨#[99, 97, 108, 108]⟩, ⟨#[46, 46, 46]⟩, some ⟨ab, ao, none⟩, cp, x :: r⟩ = l9 ++ ([⟨#[46, 46, 46]⟩] ++ [⟨#[41]⟩]) := by
    rw [← hl9, toks_eq, show kcode (⟨#[99, 97, 108, 108]⟩ : ByteArray) = 12 from by decide]
    first | (simp [tokOf, catT]; done) | (simp [tokOf, t0, catT]; done) | (simp [tokOf, t0, catT, commaT]; done)
  have HT := Lib.hid hT
  rw [hT] at hlen
  have hlen9 : l9.length ≤ 1999 := by simp at hlen; omega
  have HJ := Lib.hid (show ∀ (A : Option Addr) (cap : Nat) (w : World), Lists w A [x.toks, [⟨#[40]⟩], commaT (r.map Nd.toks)] → Calls Tryz.prog 25 #[.slice A 3 cap] w (EvPost w l9) from fun A cap w h => hl9 ▸ join_any A [x.toks, [⟨#[40]⟩], commaT (r.map Nd.toks)] cap w h (by simp) (by rw [hl9]; omega) _ rfl)
  have hC : TC W ⟨⟨#[99, 97, 108, 108]⟩, ⟨#[46, 46, 46]⟩, some ⟨ab, ao, none⟩, cp, x :: r⟩ ((W.alloc (.cells #[.string ⟨#[99, 97, 108, 108]⟩, .string ⟨#[46, 46, 46]⟩, .slice (some ⟨ab, ao, none⟩) (r.length + 1) cp] 24)).alloc (.cells #[.string ⟨#[46, 46, 46]⟩] 9)) := TC.start hin
  have C0 := Lib.hid hC
  have c0 := hC.c0
  have c1 := hC.c1
  obtain ⟨i0, hi0, hz0, hza, hzb⟩ := info_parts infoT
  have HN := Lib.hid (And.intro hi0 (And.intro hz0 (And.intro hza hzb)))
  show Calls _ _ #[.agg #[.string ⟨#[99, 97, 108, 108]⟩, .string ⟨#[46, 46, 46]⟩, .slice (some ⟨ab, ao, none⟩) (r.length + 1) cp]] W _
  clear IH hs hz hin hT hC hlen hl9 hi0 hz0 hza hzb hLs
  go_enter Tryz.func13, Tryz.ntmps13
  go_wp2_with fail
  clear c0 c1
  have KS := Lib.hid (show ∀ w, TC W ⟨⟨#[99, 97, 108, 108]⟩, ⟨#[46, 46, 46]⟩, some ⟨ab, ao, none⟩, cp, x :: r⟩ w → w.cell? ⟨W.heap.size, 2, none⟩ = some (.slice (some ⟨ab, ao, none⟩) (r.length + 1) cp) ∧ w.cell? ⟨W.heap.size, 1, none⟩ = some (.string ⟨#[46, 46, 46]⟩) ∧ w.cell? ⟨W.heap.size, 0, none⟩ = some (.string ⟨#[99, 97, 108, 108]⟩) from fun w h => ⟨h.c2, h.c1, h.c0⟩)
  go_region_held3 (fun w' => w'.cell? ⟨W.heap.size, 2, none⟩ = some (.slice (some ⟨ab, ao, none⟩) (r.length + 1) cp) ∧ w'.cell? ⟨W.heap.size, 1, none⟩ = some (.string ⟨#[46, 46, 46]⟩) ∧ w'.cell? ⟨W.heap.size, 0, none⟩ = some (.string ⟨#[99, 97, 108, 108]⟩)) ((refine KS.out _ ?_; repeat (first | with_reducible exact C0.out | with_reducible refine TC.alloc ?_ _ | with_reducible refine TC.drew ?_ | with_reducible refine TC.next ?_ B9.out | with_reducible refine TC.next ?_ B3.out | with_reducible refine TC.next ?_ B1.out))) (first | (go_at_call 23; refine (HK.out _ (by repeat (first | with_reducible exact C0.out | with_reducible refine TC.alloc ?_ _ | with_reducible refine TC.drew ?_ | with_reducible refine TC.next ?_ B9.out | with_reducible refine TC.next ?_ B3.out | with_reducible refine TC.next ?_ B1.out)) 0 x rfl).mono ?_; rintro e w1 ⟨A1, c1, rfl, h1, b1⟩; have H1 := Lib.hid (Rw.low h1); have B1 := Lib.hid b1; clear h1 b1) | (go_at_call 24; refine (tok2_any _ _ _ _).mono ?_; rintro e ww ⟨rfl, rfl⟩) | (go_at_call 26; refine (HL.out _ (by repeat (first | with_reducible exact C0.out | with_reducible refine TC.alloc ?_ _ | with_reducible refine TC.drew ?_ | with_reducible refine TC.next ?_ B9.out | with_reducible refine TC.next ?_ B3.out | with_reducible refine TC.next ?_ B1.out))).mono ?_; rintro e w3 ⟨A3, c3, rfl, h3, b3⟩; have H3 := Lib.hid (Rw.low h3); have B3 := Lib.hid b3; clear h3 b3) | (go_at_call 25; refine (HJ.out _ _ _ (lists3 (by repeat (first | with_reducible exact H1.out | with_reducible exact H3.out | (with_reducible refine Rw.newg _ _ ?_; (first | with_reducible rfl | (simp; done) | (simp; omega))) | (with_reducible refine Rw.newg2 _ _ _ ?_; (first | with_reducible rfl | (simp; done) | (simp; omega))) | with_reducible exact TC.one C0.out | with_reducible refine Rw.alloc ?_ _ | with_reducible refine Rw.drew ?_ | with_reducible refine Rw.next ?_ B9.out | with_reducible refine Rw.next ?_ B3.out | with_reducible refine Rw.next ?_ B1.out)) (by repeat (first | with_reducible exact H1.out | with_reducible exact H3.out | (with_reducible refine Rw.newg _ _ ?_; (first | with_reducible rfl | (simp; done) | (simp; omega))) | (with_reducible refine Rw.newg2 _ _ _ ?_; (first | with_reducible rfl | (simp; done) | (simp; omega))) | with_reducible exact TC.one C0.out | with_reducible refine Rw.alloc ?_ _ | with_reducible refine Rw.drew ?_ | with_reducible refine Rw.next ?_ B9.out | with_reducible refine Rw.next ?_ B3.out | with_reducible refine Rw.next ?_ B1.out)) (by repeat (first | with_reducible exact H1.out | with_reducible exact H3.out | (with_reducible refine Rw.newg _ _ ?_; (first | with_reducible rfl | (simp; done) | (simp; omega))) | (with_reducible refine Rw.newg2 _ _ _ ?_; (first | with_reducible rfl | (simp; done) | (simp; omega))) | with_reducible exact TC.one C0.out | with_reducible refine Rw.alloc ?_ _ | with_reducible refine Rw.drew ?_ | with_reducible refine Rw.next ?_ B9.out | with_reducible refine Rw.next ?_ B3.out | with_reducible refine Rw.next ?_ B1.out)) (by (first | with_reducible rfl | (simp; done) | (simp; omega))))).mono ?_; rintro e w9 ⟨A9, c9, rfl, h9, b9⟩; have B9 := Lib.hid b9; have R9 := Lib.hid (tk_low (W := W) (n := ⟨⟨#[99, 97, 108, 108]⟩, ⟨#[46, 46, 46]⟩, some ⟨ab, ao, none⟩, cp, x :: r⟩) (by repeat (first | with_reducible exact C0.out | with_reducible refine TC.alloc ?_ _ | with_reducible refine TC.drew ?_ | with_reducible refine TC.next ?_ B9.out | with_reducible refine TC.next ?_ B3.out | with_reducible refine TC.next ?_ B1.out)) h9); clear h9 b9))
  all_goals have C9 := Lib.hid (show TC W ⟨⟨#[99, 97, 108, 108]⟩, ⟨#[46, 46, 46]⟩, some ⟨ab, ao, none⟩, cp, x :: r⟩ w9 by repeat (first | with_reducible exact C0.out | with_reducible refine TC.alloc ?_ _ | with_reducible refine TC.drew ?_ | with_reducible refine TC.next ?_ B9.out | with_reducible refine TC.next ?_ B3.out | with_reducible refine TC.next ?_ B1.out))
  all_goals have c1 := C9.out.c1
  all_goals obtain ⟨hi0, hz0, hza, hzb⟩ := HN.out
  all_goals go_wp2_with (first | (at_builtin; refine wpList_append_own_at _ rfl _ _ 36 rfl W.heap.size 9 i0 (.string ⟨#[]⟩) 1 16 underT hi0 hz0 hza hzb rfl (by decide) _ _ (flatT (l9 ++ [⟨#[46, 46, 46]⟩])) rfl (own_keep HF10.out (fun g _ hg => Below.heap_alloc _ _ g hg)) ⟨_, 0, none⟩ 1 1 [.string ⟨#[41]⟩] rfl rfl (World.news_of_block (Blk.new _ _ _)) (by intro u hu; simp at hu; subst hu; rfl) (by unfold maxLen; omega) (by omega) (by rw [World.size_alloc]; have := D10.out.size; omega) ?_; intro v11 w11 hown hgr hnil hloc; obtain ⟨A11, c11, rfl⟩ := own_len hown; have R11 := Lib.hid hown; have D11 := Lib.hid (D10.out.trans (((Below.al _ _).mono D10.out.size).trans (below_own (own_keep HF10.out (fun g _ hg => Below.heap_alloc _ _ g hg)) hgr (Nat.le_refl _) (by rw [World.size_alloc]; have := D10.out.size; omega)))); clear hown hgr hnil hloc) | (at_builtin; refine wpList_append_own_at _ rfl _ _ 36 rfl W.heap.size 9 i0 (.string ⟨#[]⟩) 1 16 underT hi0 hz0 hza hzb rfl (by decide) _ _ (flatT l9) rfl (own_keep R9.out (fun g _ hg => Below.heap_alloc _ _ g hg)) ⟨_, 0, none⟩ 1 1 [.string ⟨#[46, 46, 46]⟩] rfl rfl (World.news_of_block (Blk.new _ _ _)) (by intro u hu; simp at hu; subst hu; rfl) (by unfold maxLen; omega) (by omega) (by rw [World.size_alloc]; have := C9.out.below.size; omega) ?_; intro v10 w10 hown hgr hnil hloc; obtain ⟨A10, c10, rfl⟩ := own_len hown; have R10 := Lib.hid hown; have D10 := Lib.hid (C9.out.below.trans (((Below.al _ _).mono C9.out.below.size).trans (below_own (own_keep R9.out (fun g _ hg => Below.heap_alloc _ _ g hg)) hgr (Nat.le_refl _) (by rw [World.size_alloc]; have := C9.out.below.size; omega)))); clear hown hgr hnil hloc; have HF10 := Lib.hid (show w10.ownsRow W.heap.size 9 1 (.slice A10 (l9.length + 1) c10) (l9.length + 1) (flatT (l9 ++ [⟨#[46, 46, 46]⟩])) by rw [flatT_append]; exact R10.out)))
  all_goals go_ret
  all_goals rw [HT.out, ← List.append_assoc]
  all_goals exact ⟨A11, c11, by rw [List.length_append, List.length_append]; rfl, by rw [flatT_append, List.length_append, List.length_append]; exact R11.out, D11.out⟩
end Go.Proofs.YtjbhjbpamnoebaaGreatFmt
