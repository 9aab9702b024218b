/-
  laws.zzFits1, spec.short, spec.shaped, spec.count, spec.few, spec.Shaped: walked once each, for every tree that lies in memory.
-/
import Derived.Test.YtnpnmfblcogkmaaDoorKind
import Derived.Test.YtnpnmfblcogkmaaDoorMany
import Derived.Test.YtnpnmfblcogkmaaDoorEx
import Derived.BigQuiet
import Derived.Deep.QuietTactic
namespace Go.Proofs.YtnpnmfblcogkmaaDoor
open Go.RowKit

def SomeBool (W : World) (e : Ending) (w' : World) : Prop := ∃ b : Bool, e = .returned (.bool b) ∧ Below W.heap.size W w'
theorem zzFits1_any (n : Nd) (w : World) : Calls Tryd.prog 10 #[n.val] w (SomeBool w) := by
  show Calls _ _ #[.agg #[.string n.kd, .string n.tx, .slice n.ad n.ks.length n.cp]] w _
  go_enter Tryd.func10, Tryd.ntmps10
  go_wp2_with fail
  all_goals go_ret
  all_goals exact ⟨_, rfl, (Below.refl _ _).alloc (Nat.le_refl _) _⟩

theorem short_any : ∀ (n : Nd) (w : World) (B : Nat), n.In w B → B ≤ w.heap.size →
    Calls Tryd.prog 21 #[n.val] w fun e w' => e = .returned (.bool n.shortB) ∧ Below w.heap.size w w' := by
  refine Nd.ind fun n ih w B hin hB => ?_
  rw [Nd.shortB_eq]
  obtain ⟨kd, tx, ad, cp, ks⟩ := n
  rw [Nd.In_iff] at hin
  obtain ⟨hl, hm, hk⟩ := hin
  dsimp only at hl hm hk ih ⊢
  have hlM : ks.length ≤ maxLen := by omega
  have hlm : ks.length ≤ 9223372036854775807 := hlM
  show Calls _ _ #[.agg #[.string kd, .string tx, .slice ad ks.length cp]] w _
  have HK := Lib.hid hk
  have IH := Lib.hid ih
  have HM := Lib.hid hlM
  clear hk ih hm hlM
  by_cases ht : 1048576 < (tx.size : Int)
  · have ht' : decide (tx.size ≤ 1048576) = false := by simp; omega
    rw [ht', Bool.false_and]
    clear ht'
    go_enter Tryd.func21, Tryd.ntmps21
    go_wp2_with fail
    go_ret
    exact ⟨rfl, (Below.refl _ _).alloc (Nat.le_refl _) _⟩
  · have ht' : decide (tx.size ≤ 1048576) = true := by simp; omega
    rw [ht', Bool.true_and]
    clear ht'
    go_enter Tryd.func21, Tryd.ntmps21
    go_wp2_with fail
    go_loopw [12] (fun i wr => ∃ k : Nat, k ≤ ks.length ∧ i = .int .i64 k ∧ (∀ j x, j < k → ks[j]? = some x → x.shortB = true) ∧ Below w.heap.size w wr ∧ Blk wr w.heap.size 32 #[.string kd, .string tx, .slice ad ks.length cp]) (fun i _ => ks.length - (intOf i).toNat)
    case atStart => exact ⟨0, Nat.zero_le _, rfl, fun j x hj => absurd hj (Nat.not_lt_zero _), (Below.refl _ _).alloc (Nat.le_refl _) _, Blk.new _ _ _⟩
    case round =>
      obtain ⟨k, hkl, rfl, hall, hbr, hbk⟩ := hrel
      have HA := Lib.hid hall
      clear hall
      by_cases hlt : k < ks.length
      · obtain ⟨⟨b, o, rfl, hb, c1, c2, c3⟩, hin⟩ := HK.out k ks[k] (List.getElem?_eq_getElem hlt)
        have hx : ks[k] ∈ ks := List.getElem_mem hlt
        have hxk : ks[k]? = some ks[k] := List.getElem?_eq_getElem hlt
        generalize ks[k] = x at c1 c2 c3 hin hx hxk
        have HX := Lib.hid hxk
        clear hxk
        have d1 := (hbr.cell (p := ⟨b, o + k * 3, none⟩) (by simp; omega)).trans c1
        have d2 := (hbr.cell (p := ⟨b, o + k * 3 + 1, none⟩) (by simp; omega)).trans c2
        have d3 := (hbr.cell (p := ⟨b, o + k * 3 + 2, none⟩) (by simp; omega)).trans c3
        clear c1 c2 c3
        have hs := hbr.size
        go_wp2_with fail
        refine (IH.out x hx _ B (hin.below ((hbr.alloc hs _).mono hB) (Nat.le_refl _)) (by simp; omega)).mono ?_
        cases hxs : x.shortB
        · rintro e w1 ⟨rfl, hb1⟩
          have HS := Lib.hid hxs
          clear hxs
          go_wp2_with fail
          go_ret
          refine ⟨?_, (hbr.alloc hs _).trans (hb1.mono (by simp; omega))⟩
          have hf : ks.all Nd.shortB = false := List.all_eq_false.2 ⟨x, hx, by rw [HS.out]; simp⟩
          rw [hf]
          rfl
        · rintro e w1 ⟨rfl, hb1⟩
          have HS := Lib.hid hxs
          clear hxs
          go_wp2_with fail
          go_roundw
          case rel =>
            refine ⟨k + 1, by omega, by go_num, fun j y hj hy => ?_, (hbr.alloc hs _).trans (hb1.mono (by simp; omega)), (hbk.alloc _).below hb1 (by simp; omega)⟩
            by_cases hjk : j = k
            · subst hjk
              rw [HX.out] at hy
              cases hy
              exact HS.out
            · exact HA.out j y (by omega) hy
          case measure => simp [intOf]; omega
      · have ht : ks.all Nd.shortB = true := by
          rw [List.all_eq_true]
          intro x hx
          obtain ⟨j, hj, rfl⟩ := List.getElem_of_mem hx
          exact HA.out j _ (by omega) (List.getElem?_eq_getElem hj)
        have HT := Lib.hid ht
        clear ht
        go_wp2_with fail
        go_ret
        exact ⟨by rw [HT.out]; rfl, hbr⟩

theorem shaped_any : ∀ (n : Nd) (w : World) (B : Nat), n.In w B → B ≤ w.heap.size → n.shortB = true →
    Calls Tryd.prog 22 #[n.val] w fun e w' => e = .returned (.bool n.shapedB) ∧ Below w.heap.size w w' := by
  refine Nd.ind fun n ih w B hin hB hsh => ?_
  rw [Nd.shapedB_eq]
  rw [Nd.shortB_eq, Bool.and_eq_true, List.all_eq_true] at hsh
  obtain ⟨htx, hshk⟩ := hsh
  have htx' : n.tx.size ≤ maxLen := by have := of_decide_eq_true htx; unfold maxLen; omega
  have HTX := Lib.hid htx'
  have HSK := Lib.hid hshk
  clear htx htx' hshk
  obtain ⟨kd, tx, ad, cp, ks⟩ := n
  rw [Nd.In_iff] at hin
  obtain ⟨hl, hm, hk⟩ := hin
  dsimp only at hl hm hk ih HTX HSK ⊢
  have hlM : ks.length ≤ maxLen := by omega
  have hlm : ks.length ≤ 9223372036854775807 := hlM
  show Calls _ _ #[.agg #[.string kd, .string tx, .slice ad ks.length cp]] w _
  have HK := Lib.hid hk
  have IH := Lib.hid ih
  have HM := Lib.hid hlM
  clear hk ih hm hlM
  go_enter Tryd.func22, Tryd.ntmps22
  go_wp2_with fail
  go_loopw [8] (fun i wr => ∃ k : Nat, k ≤ ks.length ∧ i = .int .i64 k ∧ (∀ j x, j < k → ks[j]? = some x → x.shapedB = true) ∧ Below w.heap.size w wr ∧ Blk wr w.heap.size 32 #[.string kd, .string tx, .slice ad ks.length cp]) (fun i _ => ks.length - (intOf i).toNat)
  case atStart => exact ⟨0, Nat.zero_le _, rfl, fun j x hj => absurd hj (Nat.not_lt_zero _), (Below.refl _ _).alloc (Nat.le_refl _) _, Blk.new _ _ _⟩
  case round =>
    obtain ⟨k, hkl, rfl, hall, hbr, hbk⟩ := hrel
    have HA := Lib.hid hall
    clear hall
    by_cases hlt : k < ks.length
    · obtain ⟨⟨b, o, rfl, hb, c1, c2, c3⟩, hin⟩ := HK.out k ks[k] (List.getElem?_eq_getElem hlt)
      have hx : ks[k] ∈ ks := List.getElem_mem hlt
      have hxk : ks[k]? = some ks[k] := List.getElem?_eq_getElem hlt
      generalize ks[k] = x at c1 c2 c3 hin hx hxk
      have HX := Lib.hid hxk
      clear hxk
      have d1 := (hbr.cell (p := ⟨b, o + k * 3, none⟩) (by simp; omega)).trans c1
      have d2 := (hbr.cell (p := ⟨b, o + k * 3 + 1, none⟩) (by simp; omega)).trans c2
      have d3 := (hbr.cell (p := ⟨b, o + k * 3 + 2, none⟩) (by simp; omega)).trans c3
      clear c1 c2 c3
      have hs := hbr.size
      go_wp2_with fail
      refine (IH.out x hx _ B (hin.below ((hbr.alloc hs _).mono hB) (Nat.le_refl _)) (by simp; omega) (HSK.out x hx)).mono ?_
      cases hxs : x.shapedB
      · rintro e w1 ⟨rfl, hb1⟩
        have HS := Lib.hid hxs
        clear hxs
        go_wp2_with fail
        go_ret
        refine ⟨?_, (hbr.alloc hs _).trans (hb1.mono (by simp; omega))⟩
        have hf : ks.all Nd.shapedB = false := List.all_eq_false.2 ⟨x, hx, by rw [HS.out]; simp⟩
        rw [hf, Bool.false_and]
        rfl
      · rintro e w1 ⟨rfl, hb1⟩
        have HS := Lib.hid hxs
        clear hxs
        go_wp2_with fail
        go_roundw
        case rel =>
          refine ⟨k + 1, by omega, by go_num, fun j y hj hy => ?_, (hbr.alloc hs _).trans (hb1.mono (by simp; omega)), (hbk.alloc _).below hb1 (by simp; omega)⟩
          by_cases hjk : j = k
          · subst hjk
            rw [HX.out] at hy
            cases hy
            exact HS.out
          · exact HA.out j y (by omega) hy
        case measure => simp [intOf]; omega
    · have ht : ks.all Nd.shapedB = true := by
        rw [List.all_eq_true]
        intro x hx
        obtain ⟨j, hj, rfl⟩ := List.getElem_of_mem hx
        exact HA.out j _ (by omega) (List.getElem?_eq_getElem hj)
      have HT := Lib.hid ht
      clear ht
      have c1 := hbk.cell 0
      have c2 := hbk.cell 1
      have c3 := hbk.cell 2
      simp at c1 c2 c3
      go_wp2_with fail
      refine (many_any ⟨kd, tx, ad, cp, ks⟩ HM.out HTX.out _).mono ?_
      rintro e w1 ⟨rfl, hb1⟩
      go_wp2_with fail
      go_ret
      exact ⟨by rw [HT.out, Bool.true_and]; rfl, hbr.trans (hb1.mono hbr.size)⟩
end Go.Proofs.YtnpnmfblcogkmaaDoor
