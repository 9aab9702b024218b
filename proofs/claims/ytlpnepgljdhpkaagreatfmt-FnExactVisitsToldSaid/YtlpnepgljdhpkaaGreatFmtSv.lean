/-
  spec.Visits: the visits of a tree as the specification tells them.
-/
import Derived.Test.YtlpnepgljdhpkaaGreatFmtK21
import Derived.Test.YtlpnepgljdhpkaaGreatFmtWe
namespace Go.Proofs.YtlpnepgljdhpkaaGreatFmt
open Go.RowKit

theorem evsL_le {st : ByteArray} {d : Nat} (ks : List Nd) (j : Nat) : (evsL st d (ks.take j)).length ≤ (evsL st d ks).length := by
  have h := evsL_append st d (ks.take j) (ks.drop j)
  rw [List.take_append_drop] at h
  rw [h, List.length_append]
  omega
theorem evsL_take {st : ByteArray} {d : Nat} {ks : List Nd} {j : Nat} {x : Nd} (h : ks[j]? = some x) : evsL st d (ks.take (j + 1)) = evsL st d (ks.take j) ++ x.evs st d := by
  rw [List.take_add_one, h, Option.toList_some, evsL_append, evsL, evsL, List.append_nil]
theorem evs_bl {st : ByteArray} {d : Nat} {n : Nd} (h : (n.kd.toList == st.toList) = false) : n.evs st d = [(n.kd, d)] ++ evsL st (d + 1) (bl n) ++ [(⟨#[]⟩, d + 1)] := by
  rw [Nd.evs_go h, bl, evsL_append]
  split
  · rw [evsL, evsL, evs_nm, List.append_nil, List.singleton_append, List.cons_append]
  · rw [evsL, List.append_nil, List.singleton_append, List.cons_append]
theorem flatE_one (l : List (ByteArray × Nat)) : ∀ u ∈ flatE l, u.oneCell' = true := by
  intro u hu
  obtain ⟨x, _, hx⟩ := List.mem_flatMap.1 hu
  simp [evCells] at hx
  rcases hx with rfl | rfl | rfl <;> rfl
theorem bl_small {n k : Nd} (h : n.shapedB = true) (hk : k ∈ bl n) : k.size < n.size ∧ k.shapedB = true := by
  rw [Nd.size_eq n]
  rcases List.mem_append.1 hk with hk | hk
  · rw [Nd.shapedB_eq, Bool.and_eq_true, List.all_eq_true] at h
    exact ⟨by have := sizeL_mem hk; omega, h.1 k hk⟩
  · split at hk
    · rename_i h6
      obtain rfl := List.mem_singleton.1 hk
      rw [Nd.shapedB_eq, Bool.and_eq_true] at h
      have hm : manyC (kcode n.kd) n.tx n.ks.length = true := h.2
      rw [h6] at hm
      have hm : (n.ks.length == 1) = true := hm
      have hl := sizeL_len n.ks
      refine ⟨?_, rfl⟩
      simp only [beq_iff_eq] at hm
      show Nd.size ⟨_, _, _, _, []⟩ < _
      rw [Nd.size, sizeL]
      omega
    · cases hk
theorem bl_len (n : Nd) : (bl n).length ≤ n.size := by
  have hl := sizeL_len n.ks
  rw [Nd.size_eq, bl, List.length_append]
  split <;> simp <;> omega
/-- The contract of spec.Visits at a tree. -/
def SVOf (n : Nd) : Prop := ∀ (st : ByteArray) (d : Nat) (W : World), n.shapedB = true → n.size ≤ 400 → d + n.size ≤ 1000 → n.In W W.heap.size →
  Calls Tryz.prog 13 #[n.val, .string st, .int .i64 d] W (VisPost W (n.evs st d))
set_option maxHeartbeats 2000000 in
set_option maxRecDepth 100000 in
theorem sv_of (n : Nd) (IH : ∀ k ∈ bl n, SVOf k) : SVOf n := by
  intro st d W hs hz hd hin
  have HI := Lib.hid IH
  obtain ⟨i0, hi0, hz0, hza, hzb⟩ := info_parts infoS
  have HN := Lib.hid (And.intro hi0 (And.intro hz0 (And.intro hza hzb)))
  clear IH hi0 hz0 hza hzb
  show Calls _ _ #[.agg #[.string n.kd, .string n.tx, .slice n.ad n.ks.length n.cp], .string st, .int .i64 d] W _
  have hb1 : Below W.heap.size W (W.alloc (.cells #[.string n.kd, .string n.tx, .slice n.ad n.ks.length n.cp] 24)) := (Below.refl _ _).alloc (Nat.le_refl _) _
  have hbox : Blk (W.alloc (.cells #[.string n.kd, .string n.tx, .slice n.ad n.ks.length n.cp] 24)) W.heap.size 24 #[.string n.kd, .string n.tx, .slice n.ad n.ks.length n.cp] := Blk.new _ _ _
  have hs1 : (W.alloc (.cells #[.string n.kd, .string n.tx, .slice n.ad n.ks.length n.cp] 24)).heap.size = W.heap.size + 1 := World.size_alloc _ _
  have H0 := Lib.hid (And.intro hin (And.intro hb1 hbox))
  have c0 : (W.alloc (.cells #[.string n.kd, .string n.tx, .slice n.ad n.ks.length n.cp] 24)).cell? ⟨W.heap.size, 0, none⟩ = some (.string n.kd) := hbox.cell 0
  have hd0 : (d : Int) ≤ 1000 := by omega
  clear hin hb1 hbox
  go_enter Tryz.func13, Tryz.ntmps13
  have hw2 : ((W.alloc (.cells #[.string n.kd, .string n.tx, .slice n.ad n.ks.length n.cp] 24)).alloc (.cells (evCells (n.kd, d)).toArray 29)).heap.size = W.heap.size + 2 := by rw [World.size_alloc, hs1]
  have hrow : ((W.alloc (.cells #[.string n.kd, .string n.tx, .slice n.ad n.ks.length n.cp] 24)).alloc (.cells (evCells (n.kd, d)).toArray 29)).ownsRow (W.heap.size + 1) 29 3 (.slice (some ⟨W.heap.size + 1, 0, none⟩) 1 1) 1 (flatE [(n.kd, d)]) := by
    have h := Blk.new (W.alloc (.cells #[.string n.kd, .string n.tx, .slice n.ad n.ks.length n.cp] 24)) 29 (evCells (n.kd, d)).toArray
    rw [hs1] at h
    exact ⟨rfl, .inr ⟨_, 1, _, rfl, Nat.le_refl _, h, Nat.le_refl _, by decide, rfl, rfl⟩⟩
  have HR := Lib.hid (And.intro hrow hw2)
  have hb2 := H0.out.2.1.alloc (by rw [hs1]; omega) (.cells (evCells (n.kd, d)).toArray 29)
  have HB := Lib.hid hb2
  clear hrow hw2 hb2
  cases hst : (n.kd.toList == st.toList)
  rotate_left
  · have HE := Lib.hid (Nd.evs_stop (d := d) hst)
    go_wp2_with fail
    go_ret
    rw [HE.out]
    exact ⟨_, _, rfl, own_low HR.out.1 (by omega), HB.out⟩
  · have HE := Lib.hid (evs_bl (d := d) hst)
    go_wp2_with fail
    refine (below_any n (by have := sizeL_len n.ks; rw [Nd.size_eq] at hz; omega) _ (H0.out.1.below HB.out HB.out.size)).mono ?_
    rintro e w1 ⟨A, cap, rfl, hel, hA, hb⟩
    have hb' : Below (W.heap.size + 2) ((W.alloc (.cells #[.string n.kd, .string n.tx, .slice n.ad n.ks.length n.cp] 24)).alloc (.cells (evCells (n.kd, d)).toArray 29)) w1 := by
      have h := hb
      change Below ((W.alloc (.cells #[.string n.kd, .string n.tx, .slice n.ad n.ks.length n.cp] 24)).alloc (.cells (evCells (n.kd, d)).toArray 29)).heap.size _ w1 at h
      rw [HR.out.2] at h
      exact h
    have hA' : ∀ p, A = some p → W.heap.size + 2 ≤ p.block := fun p hp => by
      have h := hA p hp
      change ((W.alloc (.cells #[.string n.kd, .string n.tx, .slice n.ad n.ks.length n.cp] 24)).alloc (.cells (evCells (n.kd, d)).toArray 29)).heap.size ≤ _ at h
      rw [HR.out.2] at h
      exact h
    have hz1 : W.heap.size + 2 ≤ w1.heap.size := by have h := hb'.size; rw [HR.out.2] at h; exact h
    have HB1 := Lib.hid (HB.out.trans (hb'.mono (by omega)))
    have HR1 := Lib.hid (RI.start (own_keep HR.out.1 (fun g hg1 hg2 => hb'.block g (by rw [HR.out.2] at hg2; exact hg2))) (fun g hg => by cases hg; rfl) HB1.out hz1)
    have HEL := Lib.hid (And.intro hel hA')
    have hM : (bl n).length ≤ 9223372036854775807 := by have := bl_len n; omega
    clear hb hb' hel hA hA' c0
    go_wp2_with fail
    go_loopw [7, 24] (fun sv i' wr => ∃ (j m : Nat) (l : List (ByteArray × Nat)), i' = .int .i64 j ∧ j ≤ (bl n).length ∧ l = [(n.kd, d)] ++ evsL st (d + 1) ((bl n).take j) ∧ m = l.length ∧ RI 29 3 W w1 sv m (flatE l) wr) (fun _ i' _ => (bl n).length - (intOf i').toNat)
    case atStart => exact ⟨0, 1, _, rfl, Nat.zero_le _, rfl, rfl, HR1.out⟩
    case round =>
      obtain ⟨j, m, l, rfl, hj, hl, hm, hR⟩ := hrel
      obtain ⟨A1, c1, rfl⟩ := own_len hR.1
      have HRR := Lib.hid hR
      have HLL := Lib.hid (And.intro hl hm)
      have hml : m ≤ 1 + (evsL st (d + 1) (bl n)).length := by
        rw [hm, hl, List.length_append, List.length_singleton]
        have := evsL_le (st := st) (d := d + 1) (bl n) j
        omega
      have hzr := hR.size
      clear hl hm
      by_cases hlt : j < (bl n).length
      · have hj0 : (bl n)[j]? = some (bl n)[j] := List.getElem?_eq_getElem hlt
        have hmem : (bl n)[j] ∈ bl n := List.getElem_mem hlt
        have hev := evsL_take (st := st) (d := d + 1) hj0
        have hle := evsL_le (st := st) (d := d + 1) (bl n) (j + 1)
        obtain ⟨b, o, hAe, hb, e0, e1, e2⟩ := hR.elem (HEL.out.1 j _ hj0) HEL.out.2
        obtain ⟨hks, hksh⟩ := bl_small hs hmem
        have hkin := bl_in H0.out.1 j _ hj0
        generalize (bl n)[j] = x at hj0 hmem hev e0 e1 e2 hks hksh hkin
        subst hAe
        have HX := Lib.hid (And.intro hmem (And.intro hev (And.intro hksh hkin)))
        clear hR hmem hev hksh hkin hj0
        have hm2 := hml
        have hl4 := Nd.evs_len st x (d + 1)
        have hl5 : 1 + (evsL st (d + 1) (bl n)).length ≤ 4 * n.size := by
          have h1 := Nd.evs_len st n d
          rw [HE.out, List.length_append, List.length_append, List.length_singleton, List.length_singleton] at h1
          omega
        go_wp2_with fail
        refine (HI.out x HX.out.1 st (d + 1) _ HX.out.2.2.1 (by omega) (by omega) (HX.out.2.2.2.below (HRR.out.alloc _).2.2.1 (HRR.out.alloc _).2.2.1.size)).mono ?_
        rintro e w2 ⟨A2, c2, rfl, hown2, hb2⟩
        have HR2 := Lib.hid ((HRR.out.alloc _).next hb2)
        have HO2 := Lib.hid hown2
        obtain ⟨hi0, hz0, hza, hzb⟩ := HN.out
        clear hown2 hb2 e0 e1 e2
        go_wp2_with (at_builtin; refine wpl_append_rows rfl _ _ 27 rfl 29 i0 _ 3 32 underS hi0 hz0 hza hzb rfl (by decide) rfl rfl HR2.out.1 HO2.out (flatE_one _) (by unfold maxLen; omega) (by omega) (by have := HR2.out.size; omega) ?_; intro v3 w3 hown hgr hloc; have HR3 := Lib.hid (HR2.out.app hown hgr hloc); clear hown hgr hloc)
        go_roundw
        case rel => exact ⟨j + 1, m + (x.evs st (d + 1)).length, l ++ x.evs st (d + 1), by go_num, by omega, by rw [HX.out.2.1, HLL.out.1, List.append_assoc], by rw [List.length_append, HLL.out.2], by rw [flatE_append]; exact HR3.out⟩
        case measure => simp [intOf]; omega
      · have hje : (bl n).take j = bl n := List.take_of_length_le (by omega)
        have HJ := Lib.hid hje
        obtain ⟨hi0, hz0, hza, hzb⟩ := HN.out
        have hl5 : 1 + (evsL st (d + 1) (bl n)).length + 1 ≤ 4 * n.size := by
          have h1 := Nd.evs_len st n d
          rw [HE.out, List.length_append, List.length_append, List.length_singleton, List.length_singleton] at h1
          omega
        clear hje hR
        go_wp2_with (at_builtin; refine wpList_append_own_at _ rfl _ _ 27 rfl (W.heap.size + 1) 29 i0 (.agg #[.string ⟨#[]⟩, .int .i64 0, .int .i64 0]) 3 32 underS hi0 hz0 hza hzb rfl (by decide) _ _ (flatE l) rfl (own_keep HRR.out.1 (fun g _ hg => Below.heap_alloc wr _ g hg)) ⟨wr.heap.size, 0, none⟩ 1 1 (evCells (⟨#[]⟩, d + 1)) rfl rfl (World.news_of_block (Blk.new wr _ _)) (by intro u hu; simp [evCells] at hu; rcases hu with rfl | rfl | rfl <;> rfl) (by unfold maxLen; omega) (by omega) (by rw [World.size_alloc]; omega) ?_; intro v3 w3 hown hgr hnil hloc; have HR3 := Lib.hid ((HRR.out.alloc _).app hown hgr hloc); clear hown hgr hnil hloc)
        go_ret
        have h := HR3.out.1
        obtain ⟨A3, c3, rfl⟩ := own_len h
        have hE := HE.out
        rw [← HJ.out, ← HLL.out.1] at hE
        rw [hE]
        refine ⟨A3, c3, by rw [List.length_append, HLL.out.2]; rfl, ?_, HR3.out.2.2.1⟩
        rw [List.length_append, List.length_singleton, ← HLL.out.2, flatE_append]
        exact own_low h (by omega)
/-- spec.Visits of any shaped tree. -/
theorem specVisits_any : ∀ n : Nd, SVOf n := by
  have hn : ∀ tx, SVOf (nmNd tx) := fun tx => sv_of _ (fun k hk => by
    have h6 : ¬ kcode (⟨#[110, 97, 109, 101]⟩ : ByteArray) = 6 := by decide
    have hk : k ∈ ([] ++ (if kcode (⟨#[110, 97, 109, 101]⟩ : ByteArray) = 6 then [nmNd tx] else [])) := hk
    rw [if_neg h6] at hk
    cases hk)
  refine Nd.ind fun n ih => sv_of n fun k hk => ?_
  rcases List.mem_append.1 hk with hk | hk
  · exact ih k hk
  · split at hk
    · obtain rfl := List.mem_singleton.1 hk
      exact hn _
    · cases hk
end Go.Proofs.YtlpnepgljdhpkaaGreatFmt
