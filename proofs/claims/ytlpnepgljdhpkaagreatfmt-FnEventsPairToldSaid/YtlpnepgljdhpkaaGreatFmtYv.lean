/-
  laws.FnEventsPair: the walk.
-/
import Derived.Test.YtlpnepgljdhpkaaGreatFmtOl
import Derived.Test.YtlpnepgljdhpkaaGreatFmtYs
import Derived.Test.YtlpnepgljdhpkaaGreatFmtVp
namespace Go.Proofs.YtlpnepgljdhpkaaGreatFmt
open Go.RowKit

theorem bal_snoc (a : List ByteArray) (k : ByteArray) : bal (a ++ [k]) = bal a + balOf k := by
  rw [bal_append]
  simp [bal]
theorem bal_take {l : List ByteArray} {j : Nat} {k : ByteArray} (h : l[j]? = some k) : bal (l.take (j + 1)) = bal (l.take j) + balOf k := by
  rw [List.take_add_one, h, Option.toList_some, bal_snoc]
theorem bal_le (l : List ByteArray) : -(l.length : Int) ≤ bal l ∧ bal l ≤ l.length := by
  induction l with
  | nil => simp [bal]
  | cons k l ih =>
    have h : bal (k :: l) = balOf k + bal l := by simp [bal]
    have hk : balOf k = -1 ∨ balOf k = 1 := by
      unfold balOf
      split
      · exact .inl rfl
      · exact .inr rfl
    rw [h, List.length_cons]
    omega
set_option maxHeartbeats 2000000 in
set_option maxRecDepth 100000 in
theorem law_pair (n : Nd) (W : World) (hT : TokTab W) (hin : n.In W W.heap.size) :
    Calls Tryz.prog 5 #[n.val] W fun e w => e = .returned (.bool true) ∧ Below W.heap.size W w := by
  show Calls _ _ #[.agg #[.string n.kd, .string n.tx, .slice n.ad n.ks.length n.cp]] W _
  have hbox : Blk (W.alloc (.cells #[.string n.kd, .string n.tx, .slice n.ad n.ks.length n.cp] 24)) W.heap.size 24 #[.string n.kd, .string n.tx, .slice n.ad n.ks.length n.cp] := Blk.new _ _ _
  have hs1 : (W.alloc (.cells #[.string n.kd, .string n.tx, .slice n.ad n.ks.length n.cp] 24)).heap.size = W.heap.size + 1 := World.size_alloc _ _
  have HB0 := Lib.hid (Below.al W (.cells #[.string n.kd, .string n.tx, .slice n.ad n.ks.length n.cp] 24))
  have H0 := Lib.hid (And.intro hT hin)
  clear hT hin
  go_enter Tryz.func5, Tryz.ntmps5
  go_wp2_with fail
  refine (zzFits1_any n _).mono ?_
  rintro e w1 ⟨b, rfl, hb1⟩
  have hz1 := hb1.size
  rw [hs1] at hz1
  have HB1 := Lib.hid (HB0.out.trans (hb1.mono (by rw [hs1]; omega)))
  have X1 := Lib.hid (hbox.below hb1 (by rw [hs1]; omega))
  clear hb1 hbox
  cases b
  · go_wp2_with fail
    go_ret
    exact ⟨rfl, HB1.out⟩
  have c0 : w1.cell? ⟨W.heap.size, 0, none⟩ = some (.string n.kd) := X1.out.cell 0
  have c1 : w1.cell? ⟨W.heap.size, 1, none⟩ = some (.string n.tx) := X1.out.cell 1
  have c2 : w1.cell? ⟨W.heap.size, 2, none⟩ = some (.slice n.ad n.ks.length n.cp) := X1.out.cell 2
  go_wp2_with fail
  refine (Shaped_any n w1 W.heap.size (H0.out.2.below HB1.out (Nat.le_refl _)) HB1.out.size).mono ?_
  rintro e w2 ⟨rfl, hb2⟩
  have hz2 := hb2.size
  have HB2 := Lib.hid (HB1.out.trans (hb2.mono HB1.out.size))
  have X2 := Lib.hid (X1.out.below hb2 X1.out.lt)
  clear hb2 c0 c1 c2
  cases hok : n.okB
  · go_wp2_with fail
    go_ret
    exact ⟨rfl, HB2.out⟩
  have hp : n.shapedB = true ∧ n.shortB = true := by
    unfold Nd.okB at hok
    simp only [Bool.and_eq_true] at hok
    exact ⟨hok.2, hok.1.2⟩
  have hsz := Nd.okB_size hok
  have hlen := kev_len ⟨#[]⟩ n
  obtain ⟨hpairs, hl2⟩ := evs_pairs n hp.1 0
  have hkl := Nd.kinds_len n
  have htk : n.kinds.take (mostN 1000) = n.kinds := List.take_of_length_le (by unfold mostN; omega)
  have HE := Lib.hid (show (∀ w, TokTab w → n.In w w.heap.size → Calls Tryz.prog 15 #[n.val, .string ⟨#[]⟩] w (EvPost w (n.kev ⟨#[]⟩))) ∧ (∀ w, TokTab w → n.In w w.heap.size → Calls Tryz.prog 17 #[n.val, .int .i64 1000] w (EvPost w n.kinds)) from
    ⟨fun w h1 h2 => Events_any n ⟨#[]⟩ (expr_any [] posOf_ni_le n hp.1 hp.2 hsz) hp.1 hsz w h1 h2, fun w h1 h2 => by
      have h := Yields_any n 1000 (by omega) (expr_any [] posOf_ni_le n hp.1 hp.2 hsz) hp.1 hsz w h1 h2
      rwa [htk] at h⟩)
  change Pairs (n.kev ⟨#[]⟩) at hpairs
  change (n.kev ⟨#[]⟩).length = 2 * n.kinds.length at hl2
  generalize n.kev ⟨#[]⟩ = l at HE hlen hpairs hl2
  generalize n.kinds = ks at HE hl2 hkl
  clear hok hp htk
  have HP := Lib.hid hpairs
  have HL2 := Lib.hid hl2
  have hlp : 0 < l.length := hpairs.2.2
  clear hpairs hl2
  have k0 : w2.cell? ⟨W.heap.size, 0, none⟩ = some (.string n.kd) := X2.out.cell 0
  have k1 : w2.cell? ⟨W.heap.size, 1, none⟩ = some (.string n.tx) := X2.out.cell 1
  have k2 : w2.cell? ⟨W.heap.size, 2, none⟩ = some (.slice n.ad n.ks.length n.cp) := X2.out.cell 2
  go_wp2_with fail
  refine (HE.out.1 w2 (H0.out.1.below HB2.out) (H0.out.2.below HB2.out HB2.out.size)).mono ?_
  rintro e w3 ⟨A3, c3, rfl, hown3, hb3⟩
  have HB3 := Lib.hid (HB2.out.trans (hb3.mono HB2.out.size))
  have X3 := Lib.hid (X2.out.below hb3 X2.out.lt)
  have H3 := Lib.hid (TxAt.of hown3)
  have hz3 := hb3.size
  have hM : l.length ≤ 9223372036854775807 := by omega
  clear hown3 hb3 k0 k1 k2
  go_wp2_with fail
  go_loopw [3, 17] (fun o i' wr => ∃ j : Nat, i' = .int .i64 j ∧ o = .int .i64 (bal (l.take j)) ∧ j ≤ l.length ∧ Below w3.heap.size w3 wr) (fun _ i' _ => l.length - (intOf i').toNat)
  case atStart => exact ⟨0, rfl, rfl, Nat.zero_le _, Below.refl _ _⟩
  case round =>
    obtain ⟨j, rfl, rfl, hj, hbr⟩ := hrel
    have HR := Lib.hid hbr
    have hble := bal_le (l.take j)
    have hbl : (l.take j).length ≤ 5000 := by rw [List.length_take]; omega
    by_cases hlt : j < l.length
    · have hj0 : l[j]? = some l[j] := List.getElem?_eq_getElem hlt
      obtain ⟨g, rfl, e1⟩ := H3.out.below hbr j _ hj0
      have hbt := bal_take hj0
      have hb0 : 0 ≤ bal (l.take j) := by
        by_cases h0 : j = 0
        · subst h0
          simp [bal]
        · exact Int.le_of_lt (HP.out.2.1 j (by omega) hlt)
      have hend : j + 1 = l.length → bal (l.take (j + 1)) = 0 := fun h => by
        rw [List.take_of_length_le (by omega)]
        exact HP.out.1
      have hmid : j + 1 < l.length → 0 < bal (l.take (j + 1)) := fun h => HP.out.2.1 (j + 1) (by omega) h
      generalize l[j] = k at hj0 e1 hbt
      have hke : balOf k = if k.toList.isEmpty = true then -1 else 1 := by
        unfold balOf
        rw [toList_data ⟨#[]⟩]
        cases hk : k.toList with
        | nil => rfl
        | cons a b => rfl
      rw [hbt, hke] at hend hmid
      rw [hke] at hbt
      clear hke hj0
      by_cases hk : k.toList.isEmpty = true
      · rw [if_pos hk] at hend hmid hbt
        have HB := Lib.hid hbt
        clear hbt
        generalize bal (l.take j) = b at *
        by_cases hl : j + 1 = l.length
        · have hb1 : b = 1 := by have := hend hl; omega
          subst hb1
          have hjl : (l.length : Int) - 1 = (j : Int) := by omega
          clear hend hmid hbr hble hb0
          go_wp2_with fail
          go_roundw
          case rel => exact ⟨j + 1, by go_num, by rw [HB.out]; rfl, by omega, HR.out⟩
          case measure => simp [intOf]; omega
        · have hb1 := hmid (by omega)
          have hb2 : ¬ b + -1 < 0 := by omega
          have hb3 : ¬ b + -1 = 0 := by omega
          have hb4 : ¬ b - 1 < 0 := by omega
          have hb5 : ¬ b - 1 = 0 := by omega
          clear hend hmid hbr
          go_wp2_with fail
          go_roundw
          case rel => exact ⟨j + 1, by go_num, by rw [HB.out]; rfl, by omega, HR.out⟩
          case measure => simp [intOf]; omega
      · rw [if_neg hk] at hend hmid hbt
        have HB := Lib.hid hbt
        clear hbt
        generalize bal (l.take j) = b at *
        have hl : ¬ j + 1 = l.length := fun h => by have := hend h; omega
        have hb1 := hmid (by omega)
        have hb2 : ¬ b + 1 < 0 := by omega
        have hb3 : ¬ b + 1 = 0 := by omega
        clear hend hmid hbr
        go_wp2_with fail
        go_roundw
        case rel => exact ⟨j + 1, by go_num, by rw [HB.out], by omega, HR.out⟩
        case measure => simp [intOf]; omega
    · have hje : l.take j = l := List.take_of_length_le (by omega)
      have hb0 := HP.out.1
      have hjl : j = l.length := by omega
      rw [hje, hb0]
      have HB3b := Lib.hid (HB3.out.trans (hbr.mono HB3.out.size))
      have X4 := Lib.hid (X3.out.below hbr X3.out.lt)
      have q0 : wr.cell? ⟨W.heap.size, 0, none⟩ = some (.string n.kd) := X4.out.cell 0
      have q1 : wr.cell? ⟨W.heap.size, 1, none⟩ = some (.string n.tx) := X4.out.cell 1
      have q2 : wr.cell? ⟨W.heap.size, 2, none⟩ = some (.slice n.ad n.ks.length n.cp) := X4.out.cell 2
      clear hje hb0 hbr hble
      subst hjl
      go_wp2_with fail
      refine (HE.out.2 wr (H0.out.1.below HB3b.out) (H0.out.2.below HB3b.out HB3b.out.size)).mono ?_
      rintro e w4 ⟨A4, c4, rfl, hown4, hb4⟩
      have HB4 := Lib.hid (HB3b.out.trans (hb4.mono HB3b.out.size))
      have hmul : (2 : Int) * (ks.length : Int) = (l.length : Int) := by have := HL2.out; omega
      clear hown4 hb4 q0 q1 q2
      go_wp2_with fail
      go_ret
      exact ⟨rfl, HB4.out⟩
end Go.Proofs.YtlpnepgljdhpkaaGreatFmt
