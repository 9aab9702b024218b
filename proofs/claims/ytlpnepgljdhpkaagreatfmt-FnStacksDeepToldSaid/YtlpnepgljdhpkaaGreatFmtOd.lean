/-
  spec.Events: the events of a tree as the specification tells them.
-/
import Derived.Test.YtlpnepgljdhpkaaGreatFmtK21
import Derived.Test.YtlpnepgljdhpkaaGreatFmtOc
namespace Go.Proofs.YtlpnepgljdhpkaaGreatFmt
open Go.RowKit

mutual
theorem evs_fst (st : ByteArray) : ∀ (n : Nd) (d e : Nat), (n.evs st d).map (·.1) = (n.evs st e).map (·.1)
  | ⟨kd, tx, ad, cp, ks⟩, d, e => by
    rw [Nd.evs, Nd.evs]
    cases h : (kd.toList == st.toList)
    · rw [if_neg Bool.false_ne_true, if_neg Bool.false_ne_true]
      have h1 := evsL_fst st ks (d + 1) (e + 1)
      have h2 : (if kcode kd = 6 then leafEvs st (d + 1) else []).map (·.1) = (if kcode kd = 6 then leafEvs st (e + 1) else []).map (·.1) := by
        split
        · unfold leafEvs
          split <;> rfl
        · rfl
      rw [List.map_cons, List.map_cons, List.map_append, List.map_append, List.map_append, List.map_append, h1, h2]
      rfl
    · rw [if_pos rfl, if_pos rfl]
      rfl
theorem evsL_fst (st : ByteArray) : ∀ (ks : List Nd) (d e : Nat), (evsL st d ks).map (·.1) = (evsL st e ks).map (·.1)
  | [], _, _ => by rw [evsL, evsL]
  | k :: ks, d, e => by rw [evsL, evsL, List.map_append, List.map_append, evs_fst st k d e, evsL_fst st ks d e]
end
/-- The events of a tree. -/
def Nd.kev (st : ByteArray) (n : Nd) : List ByteArray := (n.evs st 0).map (·.1)
def kevL (st : ByteArray) (ks : List Nd) : List ByteArray := (evsL st 0 ks).map (·.1)
theorem kevL_le {st : ByteArray} (ks : List Nd) (j : Nat) : (kevL st (ks.take j)).length ≤ (kevL st ks).length := by
  have h := evsL_append st 0 (ks.take j) (ks.drop j)
  rw [List.take_append_drop] at h
  rw [kevL, kevL, h, List.map_append, List.length_append]
  omega
theorem kevL_take {st : ByteArray} {ks : List Nd} {j : Nat} {x : Nd} (h : ks[j]? = some x) : kevL st (ks.take (j + 1)) = kevL st (ks.take j) ++ x.kev st := by
  rw [List.take_add_one, h, Option.toList_some, kevL, evsL_append, evsL, evsL, List.append_nil, List.map_append]
  rfl
theorem kev_bl {st : ByteArray} {n : Nd} (h : (n.kd.toList == st.toList) = false) : n.kev st = [n.kd] ++ kevL st (bl n) ++ [⟨#[]⟩] := by
  rw [Nd.kev, Nd.evs_go h, kevL, bl, evsL_append, List.map_cons, List.map_append, List.map_append, List.map_append, evsL_fst st n.ks 1 0]
  have h2 : (if kcode n.kd = 6 then leafEvs st 1 else []).map (·.1) = (evsL st 0 (if kcode n.kd = 6 then [nmNd n.tx] else [])).map (·.1) := by
    split
    · rw [evsL, evsL, evs_nm, List.append_nil]
      unfold leafEvs
      split <;> rfl
    · rfl
  rw [h2]
  rfl
theorem kev_stop {st : ByteArray} {n : Nd} (h : (n.kd.toList == st.toList) = true) : n.kev st = [n.kd] := by
  rw [Nd.kev, Nd.evs_stop h]
  rfl
theorem kev_len (st : ByteArray) (n : Nd) : (n.kev st).length ≤ 4 * n.size := by
  rw [Nd.kev, List.length_map]
  exact Nd.evs_len st n 0
theorem flatT_one (l : List ByteArray) : ∀ u ∈ flatT l, u.oneCell' = true := by
  intro u hu
  obtain ⟨x, _, rfl⟩ := List.mem_map.1 hu
  rfl
theorem bl_smallT {n k : Nd} (h : n.shapedB = true) (hk : k ∈ bl n) : k.size < n.size ∧ k.shapedB = true := by
  rw [Nd.size_eq n]
  rcases List.mem_append.1 hk with hk | hk
  · rw [Nd.shapedB_eq, Bool.and_eq_true, List.all_eq_true] at h
    exact ⟨by have := sizeL_mem hk; omega, h.1 k hk⟩
  · split at hk
    · rename_i h6
      obtain rfl := List.mem_singleton.1 hk
      rw [Nd.shapedB_eq, Bool.and_eq_true] at h
      have hm : manyC (kcode n.kd) n.tx n.ks.length = true := h.2
      rw [h6] at hm
      have hm : (n.ks.length == 1) = true := hm
      have hl := sizeL_len n.ks
      refine ⟨?_, rfl⟩
      simp only [beq_iff_eq] at hm
      show Nd.size ⟨_, _, _, _, []⟩ < _
      rw [Nd.size, sizeL]
      omega
    · cases hk
theorem bl_lenT (n : Nd) : (bl n).length ≤ n.size := by
  have hl := sizeL_len n.ks
  rw [Nd.size_eq, bl, List.length_append]
  split <;> simp <;> omega
/-- The contract of spec.Events at a tree. -/
def SEOf (n : Nd) : Prop := ∀ (st : ByteArray) (W : World), n.shapedB = true → n.size ≤ 400 → n.In W W.heap.size →
  Calls Tryz.prog 16 #[n.val, .string st] W (EvPost W (n.kev st))
set_option maxHeartbeats 2000000 in
set_option maxRecDepth 100000 in
theorem se_of (n : Nd) (IH : ∀ k ∈ bl n, SEOf k) : SEOf n := by
  intro st W hs hz hin
  have HI := Lib.hid IH
  obtain ⟨i0, hi0, hz0, hza, hzb⟩ := info_parts infoT
  have HN := Lib.hid (And.intro hi0 (And.intro hz0 (And.intro hza hzb)))
  clear IH hi0 hz0 hza hzb
  show Calls _ _ #[.agg #[.string n.kd, .string n.tx, .slice n.ad n.ks.length n.cp], .string st] W _
  have hb1 : Below W.heap.size W (W.alloc (.cells #[.string n.kd, .string n.tx, .slice n.ad n.ks.length n.cp] 24)) := (Below.refl _ _).alloc (Nat.le_refl _) _
  have hbox : Blk (W.alloc (.cells #[.string n.kd, .string n.tx, .slice n.ad n.ks.length n.cp] 24)) W.heap.size 24 #[.string n.kd, .string n.tx, .slice n.ad n.ks.length n.cp] := Blk.new _ _ _
  have hs1 : (W.alloc (.cells #[.string n.kd, .string n.tx, .slice n.ad n.ks.length n.cp] 24)).heap.size = W.heap.size + 1 := World.size_alloc _ _
  have H0 := Lib.hid (And.intro hin (And.intro hb1 hbox))
  have c0 : (W.alloc (.cells #[.string n.kd, .string n.tx, .slice n.ad n.ks.length n.cp] 24)).cell? ⟨W.heap.size, 0, none⟩ = some (.string n.kd) := hbox.cell 0
  clear hin hb1 hbox
  go_enter Tryz.func16, Tryz.ntmps16
  have hw2 : ((W.alloc (.cells #[.string n.kd, .string n.tx, .slice n.ad n.ks.length n.cp] 24)).alloc (.cells #[.string n.kd] 9)).heap.size = W.heap.size + 2 := by rw [World.size_alloc, hs1]
  have hrow : ((W.alloc (.cells #[.string n.kd, .string n.tx, .slice n.ad n.ks.length n.cp] 24)).alloc (.cells #[.string n.kd] 9)).ownsRow (W.heap.size + 1) 9 1 (.slice (some ⟨W.heap.size + 1, 0, none⟩) 1 1) 1 (flatT [n.kd]) := by
    have h := Blk.new (W.alloc (.cells #[.string n.kd, .string n.tx, .slice n.ad n.ks.length n.cp] 24)) 9 #[.string n.kd]
    rw [hs1] at h
    exact ⟨rfl, .inr ⟨_, 1, _, rfl, Nat.le_refl _, h, Nat.le_refl _, by decide, rfl, rfl⟩⟩
  have HR := Lib.hid (And.intro hrow hw2)
  have hb2 := H0.out.2.1.alloc (by rw [hs1]; omega) (.cells #[.string n.kd] 9)
  have HB := Lib.hid hb2
  clear hrow hw2 hb2
  cases hst : (n.kd.toList == st.toList)
  rotate_left
  · have HE := Lib.hid (kev_stop hst)
    go_wp2_with fail
    go_ret
    rw [HE.out]
    exact ⟨_, _, rfl, own_lowT (base' := W.heap.size) HR.out.1 (by omega), HB.out⟩
  · have HE := Lib.hid (kev_bl hst)
    go_wp2_with fail
    refine (below_any n (by have := sizeL_len n.ks; rw [Nd.size_eq] at hz; omega) _ (H0.out.1.below HB.out HB.out.size)).mono ?_
    rintro e w1 ⟨A, cap, rfl, hel, hA, hb⟩
    have hb' : Below (W.heap.size + 2) ((W.alloc (.cells #[.string n.kd, .string n.tx, .slice n.ad n.ks.length n.cp] 24)).alloc (.cells #[.string n.kd] 9)) w1 := by
      have h := hb
      change Below ((W.alloc (.cells #[.string n.kd, .string n.tx, .slice n.ad n.ks.length n.cp] 24)).alloc (.cells #[.string n.kd] 9)).heap.size _ w1 at h
      rw [HR.out.2] at h
      exact h
    have hA' : ∀ p, A = some p → W.heap.size + 2 ≤ p.block := fun p hp => by
      have h := hA p hp
      change ((W.alloc (.cells #[.string n.kd, .string n.tx, .slice n.ad n.ks.length n.cp] 24)).alloc (.cells #[.string n.kd] 9)).heap.size ≤ _ at h
      rw [HR.out.2] at h
      exact h
    have hz1 : W.heap.size + 2 ≤ w1.heap.size := by have h := hb'.size; rw [HR.out.2] at h; exact h
    have HB1 := Lib.hid (HB.out.trans (hb'.mono (by omega)))
    have HR1 := Lib.hid (RI.start (own_keep HR.out.1 (fun g hg1 hg2 => hb'.block g (by rw [HR.out.2] at hg2; exact hg2))) (fun g hg => by cases hg; rfl) HB1.out hz1)
    have HEL := Lib.hid (And.intro hel hA')
    have hM : (bl n).length ≤ 9223372036854775807 := by have := bl_lenT n; omega
    clear hb hb' hel hA hA' c0
    go_wp2_with fail
    go_loopw [5, 19] (fun sv i' wr => ∃ (j m : Nat) (l : List ByteArray), i' = .int .i64 j ∧ j ≤ (bl n).length ∧ l = [n.kd] ++ kevL st ((bl n).take j) ∧ m = l.length ∧ RI 9 1 W w1 sv m (flatT l) wr) (fun _ i' _ => (bl n).length - (intOf i').toNat)
    case atStart => exact ⟨0, 1, _, rfl, Nat.zero_le _, rfl, rfl, HR1.out⟩
    case round =>
      obtain ⟨j, m, l, rfl, hj, hl, hm, hR⟩ := hrel
      obtain ⟨A1, c1, rfl⟩ := own_len hR.1
      have HRR := Lib.hid hR
      have HLL := Lib.hid (And.intro hl hm)
      have hml : m ≤ 1 + (kevL st (bl n)).length := by
        rw [hm, hl, List.length_append, List.length_singleton]
        have := kevL_le (st := st) (bl n) j
        omega
      have hzr := hR.size
      clear hl hm
      by_cases hlt : j < (bl n).length
      · have hj0 : (bl n)[j]? = some (bl n)[j] := List.getElem?_eq_getElem hlt
        have hmem : (bl n)[j] ∈ bl n := List.getElem_mem hlt
        have hev := kevL_take (st := st) hj0
        have hle := kevL_le (st := st) (bl n) (j + 1)
        obtain ⟨b, o, hAe, hb, e0, e1, e2⟩ := hR.elem (HEL.out.1 j _ hj0) HEL.out.2
        obtain ⟨hks, hksh⟩ := bl_smallT hs hmem
        have hkin := bl_in H0.out.1 j _ hj0
        generalize (bl n)[j] = x at hj0 hmem hev e0 e1 e2 hks hksh hkin
        subst hAe
        have HX := Lib.hid (And.intro hmem (And.intro hev (And.intro hksh hkin)))
        clear hR hmem hev hksh hkin hj0
        have hm2 := hml
        have hl4 := kev_len st x
        have hl5 : 1 + (kevL st (bl n)).length ≤ 4 * n.size := by
          have h1 := kev_len st n
          rw [HE.out, List.length_append, List.length_append, List.length_singleton, List.length_singleton] at h1
          omega
        go_wp2_with fail
        refine (HI.out x HX.out.1 st _ HX.out.2.2.1 (by omega) (HX.out.2.2.2.below (HRR.out.alloc _).2.2.1 (HRR.out.alloc _).2.2.1.size)).mono ?_
        rintro e w2 ⟨A2, c2, rfl, hown2, hb2⟩
        have HR2 := Lib.hid ((HRR.out.alloc _).next hb2)
        have HO2 := Lib.hid hown2
        obtain ⟨hi0, hz0, hza, hzb⟩ := HN.out
        clear hown2 hb2 e0 e1 e2
        go_wp2_with (at_builtin; refine wpl_append_rows rfl _ _ 34 rfl 9 i0 _ 1 16 underT hi0 hz0 hza hzb rfl (by decide) rfl rfl HR2.out.1 HO2.out (flatT_one _) (by unfold maxLen; omega) (by omega) (by have := HR2.out.size; omega) ?_; intro v3 w3 hown hgr hloc; have HR3 := Lib.hid (HR2.out.app hown hgr hloc); clear hown hgr hloc)
        go_roundw
        case rel => exact ⟨j + 1, m + (x.kev st).length, l ++ x.kev st, by go_num, by omega, by rw [HX.out.2.1, HLL.out.1, List.append_assoc], by rw [List.length_append, HLL.out.2], by rw [flatT_append]; exact HR3.out⟩
        case measure => simp [intOf]; omega
      · have hje : (bl n).take j = bl n := List.take_of_length_le (by omega)
        have HJ := Lib.hid hje
        obtain ⟨hi0, hz0, hza, hzb⟩ := HN.out
        have hl5 : 1 + (kevL st (bl n)).length + 1 ≤ 4 * n.size := by
          have h1 := kev_len st n
          rw [HE.out, List.length_append, List.length_append, List.length_singleton, List.length_singleton] at h1
          omega
        clear hje hR
        go_wp2_with (at_builtin; refine wpList_append_own_at _ rfl _ _ 34 rfl (W.heap.size + 1) 9 i0 (.string ⟨#[]⟩) 1 16 underT hi0 hz0 hza hzb rfl (by decide) _ _ (flatT l) rfl (own_keep HRR.out.1 (fun g _ hg => Below.heap_alloc wr _ g hg)) ⟨wr.heap.size, 0, none⟩ 1 1 [.string ⟨#[]⟩] rfl rfl (World.news_of_block (Blk.new wr _ _)) (by intro u hu; simp at hu; subst hu; rfl) (by unfold maxLen; omega) (by omega) (by rw [World.size_alloc]; omega) ?_; intro v3 w3 hown hgr hnil hloc; have HR3 := Lib.hid ((HRR.out.alloc _).app hown hgr hloc); clear hown hgr hnil hloc)
        go_ret
        have h := HR3.out.1
        obtain ⟨A3, c3, rfl⟩ := own_len h
        have hE := HE.out
        rw [← HJ.out, ← HLL.out.1] at hE
        rw [hE]
        refine ⟨A3, c3, by rw [List.length_append, HLL.out.2]; rfl, ?_, HR3.out.2.2.1⟩
        rw [List.length_append, List.length_singleton, ← HLL.out.2, flatT_append]
        exact own_lowT (base' := W.heap.size) h (by omega)
/-- spec.Events of any shaped tree. -/
theorem specEvents_any : ∀ n : Nd, SEOf n := by
  have hn : ∀ tx, SEOf (nmNd tx) := fun tx => se_of _ (fun k hk => by
    have h6 : ¬ kcode (⟨#[110, 97, 109, 101]⟩ : ByteArray) = 6 := by decide
    have hk : k ∈ ([] ++ (if kcode (⟨#[110, 97, 109, 101]⟩ : ByteArray) = 6 then [nmNd tx] else [])) := hk
    rw [if_neg h6] at hk
    cases hk)
  refine Nd.ind fun n ih => se_of n fun k hk => ?_
  rcases List.mem_append.1 hk with hk | hk
  · exact ih k hk
  · split at hk
    · obtain rfl := List.mem_singleton.1 hk
      exact hn _
    · cases hk
end Go.Proofs.YtlpnepgljdhpkaaGreatFmt
