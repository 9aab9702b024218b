/-
  spec.Kinds: the kinds of the nodes of a tree.
-/
import Derived.Test.YtlpnepgljdhpkaaGreatFmtK21
import Derived.Test.YtlpnepgljdhpkaaGreatFmtOc
import Derived.Test.YtlpnepgljdhpkaaGreatFmtYa
namespace Go.Proofs.YtlpnepgljdhpkaaGreatFmt
open Go.RowKit

theorem kindsL_append : ∀ a b : List Nd, kindsL (a ++ b) = kindsL a ++ kindsL b
  | [], b => by rw [List.nil_append, kindsL, List.nil_append]
  | k :: a, b => by rw [List.cons_append, kindsL, kindsL, kindsL_append a b, List.append_assoc]
theorem kindsL_take {ks : List Nd} {j : Nat} {x : Nd} (h : ks[j]? = some x) : kindsL (ks.take (j + 1)) = kindsL (ks.take j) ++ x.kinds := by
  rw [List.take_add_one, h, Option.toList_some, kindsL_append, kindsL, kindsL, List.append_nil]
theorem kindsL_le (ks : List Nd) (j : Nat) : (kindsL (ks.take j)).length ≤ (kindsL ks).length := by
  have h := kindsL_append (ks.take j) (ks.drop j)
  rw [List.take_append_drop] at h
  rw [h, List.length_append]
  omega
theorem kinds_ks (n : Nd) : n.kinds = n.kd :: kindsL n.ks ++ (if kcode n.kd = 6 then leafKinds else []) := by
  obtain ⟨kd, tx, ad, cp, ks⟩ := n
  rw [Nd.kinds]
theorem flatT_one (l : List ByteArray) : ∀ u ∈ flatT l, u.oneCell' = true := by
  intro u hu
  obtain ⟨x, _, rfl⟩ := List.mem_map.1 hu
  rfl
theorem ks_small {n k : Nd} (h : n.shapedB = true) (hk : k ∈ n.ks) : k.size < n.size ∧ k.shapedB = true := by
  rw [Nd.size_eq n]
  rw [Nd.shapedB_eq, Bool.and_eq_true, List.all_eq_true] at h
  exact ⟨by have := sizeL_mem hk; omega, h.1 k hk⟩
theorem sel_test (kd : ByteArray) : (kd.toList == [115, 101, 108, 101, 99, 116]) = decide (kcode kd = 6) := by
  rw [Bool.eq_iff_iff, beq_iff_eq, decide_eq_true_eq, toList_data]
  constructor
  · intro h
    unfold kcode
    rw [h]
    decide
  · intro h
    exact kcode_at h (by decide)
/-- The contract of spec.Kinds at a tree. -/
def SKOf (n : Nd) : Prop := ∀ (W : World), n.shapedB = true → n.size ≤ 400 → n.In W W.heap.size →
  Calls Tryz.prog 18 #[n.val] W (EvPost W n.kinds)
set_option maxHeartbeats 2000000 in
set_option maxRecDepth 100000 in
theorem sk_of (n : Nd) (IH : ∀ k ∈ n.ks, SKOf k) : SKOf n := by
  intro W hs hz hin
  have HI := Lib.hid IH
  obtain ⟨i0, hi0, hz0, hza, hzb⟩ := info_parts infoT
  have HN := Lib.hid (And.intro hi0 (And.intro hz0 (And.intro hza hzb)))
  clear IH hi0 hz0 hza hzb
  show Calls _ _ #[.agg #[.string n.kd, .string n.tx, .slice n.ad n.ks.length n.cp]] W _
  have hb1 : Below W.heap.size W (W.alloc (.cells #[.string n.kd, .string n.tx, .slice n.ad n.ks.length n.cp] 24)) := (Below.refl _ _).alloc (Nat.le_refl _) _
  have hbox : Blk (W.alloc (.cells #[.string n.kd, .string n.tx, .slice n.ad n.ks.length n.cp] 24)) W.heap.size 24 #[.string n.kd, .string n.tx, .slice n.ad n.ks.length n.cp] := Blk.new _ _ _
  have hs1 : (W.alloc (.cells #[.string n.kd, .string n.tx, .slice n.ad n.ks.length n.cp] 24)).heap.size = W.heap.size + 1 := World.size_alloc _ _
  have H0 := Lib.hid (And.intro hin (And.intro hb1 hbox))
  have c0 : (W.alloc (.cells #[.string n.kd, .string n.tx, .slice n.ad n.ks.length n.cp] 24)).cell? ⟨W.heap.size, 0, none⟩ = some (.string n.kd) := hbox.cell 0
  have hM : n.ks.length ≤ 9223372036854775807 := by
    obtain ⟨h1, h2, _⟩ := Nd.In_iff.1 hin
    have : n.ks.length ≤ maxLen := by omega
    exact this
  clear hin hb1 hbox
  go_enter Tryz.func18, Tryz.ntmps18
  have hw2 : ((W.alloc (.cells #[.string n.kd, .string n.tx, .slice n.ad n.ks.length n.cp] 24)).alloc (.cells #[.string n.kd] 9)).heap.size = W.heap.size + 2 := by rw [World.size_alloc, hs1]
  have hrow : ((W.alloc (.cells #[.string n.kd, .string n.tx, .slice n.ad n.ks.length n.cp] 24)).alloc (.cells #[.string n.kd] 9)).ownsRow (W.heap.size + 1) 9 1 (.slice (some ⟨W.heap.size + 1, 0, none⟩) 1 1) 1 (flatT [n.kd]) := by
    have h := Blk.new (W.alloc (.cells #[.string n.kd, .string n.tx, .slice n.ad n.ks.length n.cp] 24)) 9 #[.string n.kd]
    rw [hs1] at h
    exact ⟨rfl, .inr ⟨_, 1, _, rfl, Nat.le_refl _, h, Nat.le_refl _, by decide, rfl, rfl⟩⟩
  have hb2 := H0.out.2.1.alloc (by rw [hs1]; omega) (.cells #[.string n.kd] 9)
  have HB := Lib.hid hb2
  have HR1 := Lib.hid (And.intro (RI.start hrow (fun g hg => by cases hg; rfl) hb2 (by rw [hw2]; exact Nat.le_refl _)) (H0.out.2.2.alloc (.cells #[.string n.kd] 9)))
  clear hrow hb2 c0
  go_wp2_with fail
  go_loopw [3, 12] (fun sv i' wr => ∃ (j m : Nat) (l : List ByteArray), i' = .int .i64 j ∧ j ≤ n.ks.length ∧ l = [n.kd] ++ kindsL (n.ks.take j) ∧ m = l.length ∧ RI 9 1 W ((W.alloc (.cells #[.string n.kd, .string n.tx, .slice n.ad n.ks.length n.cp] 24)).alloc (.cells #[.string n.kd] 9)) sv m (flatT l) wr ∧ Blk wr W.heap.size 24 #[.string n.kd, .string n.tx, .slice n.ad n.ks.length n.cp]) (fun _ i' _ => n.ks.length - (intOf i').toNat)
  case atStart => exact ⟨0, 1, _, rfl, Nat.zero_le _, rfl, rfl, HR1.out⟩
  case round =>
    obtain ⟨j, m, l, rfl, hj, hl, hm, hR, hX⟩ := hrel
    obtain ⟨A1, c1, rfl⟩ := own_len hR.1
    have HRR := Lib.hid hR
    have HXX := Lib.hid hX
    have HLL := Lib.hid (And.intro hl hm)
    have hml : m ≤ 1 + (kindsL n.ks).length := by
      rw [hm, hl, List.length_append, List.length_singleton]
      have := kindsL_le n.ks j
      omega
    have hzr := hR.size
    have hkl := kindsL_len n.ks
    rw [Nd.size_eq] at hz
    clear hl hm hX
    by_cases hlt : j < n.ks.length
    · have hj0 : n.ks[j]? = some n.ks[j] := List.getElem?_eq_getElem hlt
      have hmem : n.ks[j] ∈ n.ks := List.getElem_mem hlt
      have hev := kindsL_take hj0
      have hle := kindsL_le n.ks (j + 1)
      obtain ⟨⟨b, o, hAe, hb, f0, f1, f2⟩, hkin⟩ := (Nd.In_iff.1 H0.out.1).2.2 j _ hj0
      obtain ⟨hks, hksh⟩ := ks_small hs hmem
      generalize n.ks[j] = x at hj0 hmem hev f0 f1 f2 hks hksh hkin
      have e0 := (hR.2.2.1.cell (p := ⟨b, o + j * 3, none⟩) hb).trans f0
      have e1 := (hR.2.2.1.cell (p := ⟨b, o + j * 3 + 1, none⟩) hb).trans f1
      have e2 := (hR.2.2.1.cell (p := ⟨b, o + j * 3 + 2, none⟩) hb).trans f2
      have hxk := Nd.kinds_len x
      rw [hev, List.length_append] at hle
      have HX := Lib.hid (And.intro hmem (And.intro hev (And.intro hksh hkin)))
      have HA := Lib.hid hAe
      clear hR hmem hev hksh hkin hj0 f0 f1 f2
      rw [hAe]
      clear hAe
      go_wp2_with fail
      refine (HI.out x HX.out.1 _ HX.out.2.2.1 (by rw [Nd.size_eq n] at hks; omega) (HX.out.2.2.2.below (HRR.out.alloc _).2.2.1 (HRR.out.alloc _).2.2.1.size)).mono ?_
      rintro e w2 ⟨A2, c2, rfl, hown2, hb2⟩
      have HR2 := Lib.hid ((HRR.out.alloc _).next hb2)
      have HX2 := Lib.hid ((HXX.out.alloc _).below hb2 (HXX.out.alloc _).lt)
      have HO2 := Lib.hid hown2
      obtain ⟨hi0, hz0, hza, hzb⟩ := HN.out
      clear hown2 hb2 e0 e1 e2
      go_wp2_with (at_builtin; refine wpl_append_rows rfl _ _ 34 rfl 9 i0 _ 1 16 underT hi0 hz0 hza hzb rfl (by decide) rfl rfl HR2.out.1 HO2.out (flatT_one _) (by unfold maxLen; omega) (by omega) (by have := HR2.out.size; omega) ?_; intro v3 w3 hown hgr hloc; have HR3 := Lib.hid (HR2.out.app hown hgr hloc); have HX3 := Lib.hid (HX2.out.keep (hgr.block _ HX2.out.lt (fun e => by have := own_ge HR2.out.1 e.symm; omega))); clear hown hgr hloc)
      go_roundw
      case rel => exact ⟨j + 1, m + x.kinds.length, l ++ x.kinds, by go_num, by omega, by rw [HX.out.2.1, HLL.out.1, List.append_assoc], by rw [List.length_append, HLL.out.2], by rw [flatT_append, ← HA.out]; exact HR3.out, by rw [← HA.out]; exact HX3.out⟩
      case measure => simp [intOf]; omega
    · have hje : n.ks.take j = n.ks := List.take_of_length_le (by omega)
      have HJ := Lib.hid hje
      have c0 : wr.cell? ⟨W.heap.size, 0, none⟩ = some (.string n.kd) := HXX.out.cell 0
      obtain ⟨hi0, hz0, hza, hzb⟩ := HN.out
      have hsel := sel_test n.kd
      have hkk := kinds_ks n
      have hjn : j = n.ks.length := by omega
      clear hje hR
      subst hjn
      by_cases h6 : kcode n.kd = 6
      · rw [decide_eq_true h6] at hsel
        rw [if_pos h6] at hkk
        have HE := Lib.hid hkk
        clear hkk
        go_wp2_with (at_builtin; refine wpList_append_own_at _ rfl _ _ 34 rfl (W.heap.size + 1) 9 i0 (.string ⟨#[]⟩) 1 16 underT hi0 hz0 hza hzb rfl (by decide) _ _ (flatT l) rfl (own_keep HRR.out.1 (fun g _ hg => Below.heap_alloc wr _ g hg)) ⟨wr.heap.size, 0, none⟩ 1 1 [.string ⟨#[110, 97, 109, 101]⟩] rfl rfl (World.news_of_block (Blk.new wr _ _)) (by intro u hu; simp at hu; subst hu; rfl) (by unfold maxLen; omega) (by omega) (by rw [World.size_alloc]; omega) ?_; intro v3 w3 hown hgr hnil hloc; have HR3 := Lib.hid ((HRR.out.alloc _).app hown hgr hloc); clear hown hgr hnil hloc)
        go_ret
        have h := HR3.out.1
        obtain ⟨A3, c3, rfl⟩ := own_len h
        have hE := HE.out
        have hl := HLL.out.1
        rw [HJ.out] at hl
        have hE2 : n.kinds = l ++ [⟨#[110, 97, 109, 101]⟩] := by rw [hE, hl]; rfl
        rw [hE2]
        refine ⟨A3, c3, by rw [List.length_append, HLL.out.2]; rfl, ?_, HR3.out.2.2.1⟩
        rw [List.length_append, List.length_singleton, ← HLL.out.2, flatT_append]
        exact own_lowT (base' := W.heap.size) h (by omega)
      · rw [decide_eq_false h6] at hsel
        rw [if_neg h6] at hkk
        have HE := Lib.hid hkk
        clear hkk
        go_wp2_with fail
        go_ret
        have hl := HLL.out.1
        rw [HJ.out] at hl
        have hE2 : n.kinds = l := by rw [HE.out, hl, List.append_nil]; rfl
        rw [hE2]
        have h := HRR.out.1
        exact ⟨A1, c1, by rw [← HLL.out.2]; rfl, own_lowT (base' := W.heap.size) (by rw [← HLL.out.2]; exact h) (by omega), HRR.out.2.2.1⟩
/-- spec.Kinds of any shaped tree. -/
theorem specKinds_any : ∀ n : Nd, SKOf n := Nd.ind fun n ih => sk_of n ih
end Go.Proofs.YtlpnepgljdhpkaaGreatFmt
