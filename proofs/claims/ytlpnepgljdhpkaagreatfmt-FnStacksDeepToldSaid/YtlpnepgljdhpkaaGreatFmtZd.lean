/-
  laws.FnStacksDeep: the walk.
-/
import Derived.Test.YtlpnepgljdhpkaaGreatFmtZl
import Derived.Test.YtlpnepgljdhpkaaGreatFmtYs
import Derived.Deep.QuietTactic
import Derived.BigQuiet
namespace Go.Proofs.YtlpnepgljdhpkaaGreatFmt
open Go.RowKit

theorem TxAt.pre {w : World} {A : Option Addr} {l : List ByteArray} (h : TxAt w A l) (k : Nat) : TxAt w A (l.take k) := fun j x hj => h j x (by
  rw [List.getElem?_take] at hj
  split at hj
  · exact hj
  · cases hj)
set_option maxRecDepth 100000 in
/-- slices.Equal, of rows that are the same, only reads. -/
theorem eqT_q (l : List ByteArray) (W : World) (A A' : Option Addr) (c c' n : Nat) (hn : l.length = n) (hm : n ≤ 5000) (h1 : TxAt W A l) (h2 : TxAt W A' l) :
    Calls Tryz.prog 14 #[.slice A n c, .slice A' n c'] W fun e w => e = .returned (.bool true) ∧ ∃ m, w = W.drewN m := by
  have hM : n ≤ 9223372036854775807 := by omega
  have HA := Lib.hid h1
  have HB := Lib.hid h2
  clear h1 h2
  go_enter Tryz.func14, Tryz.ntmps14
  go_wp2_with fail
  go_loopw [13] (fun i' wr => ∃ j k : Nat, i' = .int .i64 j ∧ j ≤ n ∧ wr = W.drewN k) (fun i' _ => n - (intOf i').toNat)
  case atStart => exact ⟨0, 0, rfl, Nat.zero_le _, rfl⟩
  case round =>
    obtain ⟨j, k, rfl, hj, rfl⟩ := hrel
    by_cases hlt : j < n
    · obtain ⟨g, rfl, e1⟩ := HA.out j l[j] (List.getElem?_eq_getElem (by omega))
      obtain ⟨g', rfl, e1'⟩ := HB.out j l[j] (List.getElem?_eq_getElem (by omega))
      generalize l[j] = x at e1 e1'
      go_wp2_with fail
      go_quiet (fail)
      go_wp2_with fail
      go_roundw
      case rel => exact ⟨j + 1, _, by go_num, by omega, rfl⟩
      case measure => simp [intOf]; omega
    · go_wp2_with fail
      go_ret
      exact ⟨rfl, _, rfl⟩
/-- What is to be seen of the stacks and the kinds. -/
structure DeepR (rows : List (List ByteArray)) (ks : List ByteArray) : Prop where
  len : rows.length = ks.length
  pos : 0 < rows.length
  one : ∃ k, rows[0]? = some [k]
  last : ∀ (j : Nat) (r : List ByteArray) (k : ByteArray), rows[j]? = some r → ks[j]? = some k → ∃ m, r.length = m + 1 ∧ r[m]? = some k
  next : ∀ (j : Nat) (q r : List ByteArray), rows[j]? = some q → rows[j + 1]? = some r → NextR q r
  small : ∀ r ∈ rows, r.length ≤ 5000
theorem deep_of {n : Nd} (hs : n.shapedB = true) (hz : n.size ≤ 400) : DeepR (n.stk ⟨#[]⟩ []) n.kinds := by
  have hl := stk_last n hs []
  obtain ⟨rs, hrs, hlk⟩ := stk_root ⟨#[]⟩ n
  have hlen : (n.stk ⟨#[]⟩ []).length = n.kinds.length := by
    have h := congrArg List.length hl
    rwa [List.length_map, List.length_map] at h
  refine ⟨hlen, by rw [hrs]; simp, ⟨n.kd, by rw [hrs]; rfl⟩, fun j r k h1 h2 => ?_, fun j q r h1 h2 => ?_, fun r hr => ?_⟩
  · have h := congrArg (fun l => l[j]?) hl
    simp only [List.getElem?_map, h1, h2, Option.map_some] at h
    have h := Option.some.inj h
    rw [List.getLast?_eq_getElem?] at h
    have hp : 0 < r.length := by
      cases r with
      | nil => simp at h
      | cons a b => simp
    exact ⟨r.length - 1, by omega, h⟩
  · rw [hrs] at h1 h2
    exact lk_at rs [n.kd] hlk j q r h1 h2
  · have := stk_row ⟨#[]⟩ n [] r hr
    simp at this
    omega
set_option maxHeartbeats 2000000 in
set_option maxRecDepth 100000 in
theorem law_deep (n : Nd) (W : World) (hT : TokTab W) (hin : n.In W W.heap.size) :
    Calls Tryz.prog 8 #[n.val] W fun e w => e = .returned (.bool true) ∧ Below W.heap.size W w := by
  show Calls _ _ #[.agg #[.string n.kd, .string n.tx, .slice n.ad n.ks.length n.cp]] W _
  have hbox : Blk (W.alloc (.cells #[.string n.kd, .string n.tx, .slice n.ad n.ks.length n.cp] 24)) W.heap.size 24 #[.string n.kd, .string n.tx, .slice n.ad n.ks.length n.cp] := Blk.new _ _ _
  have hs1 : (W.alloc (.cells #[.string n.kd, .string n.tx, .slice n.ad n.ks.length n.cp] 24)).heap.size = W.heap.size + 1 := World.size_alloc _ _
  have HB0 := Lib.hid (Below.al W (.cells #[.string n.kd, .string n.tx, .slice n.ad n.ks.length n.cp] 24))
  have H0 := Lib.hid (And.intro hT hin)
  clear hT hin
  go_enter Tryz.func8, Tryz.ntmps8
  go_wp2_with fail
  refine (zzFits1_any n _).mono ?_
  rintro e w1 ⟨b, rfl, hb1⟩
  have hz1 := hb1.size
  rw [hs1] at hz1
  have HB1 := Lib.hid (HB0.out.trans (hb1.mono (by rw [hs1]; omega)))
  have X1 := Lib.hid (hbox.below hb1 (by rw [hs1]; omega))
  clear hb1 hbox
  cases b
  · go_wp2_with fail
    go_ret
    exact ⟨rfl, HB1.out⟩
  have c0 : w1.cell? ⟨W.heap.size, 0, none⟩ = some (.string n.kd) := X1.out.cell 0
  have c1 : w1.cell? ⟨W.heap.size, 1, none⟩ = some (.string n.tx) := X1.out.cell 1
  have c2 : w1.cell? ⟨W.heap.size, 2, none⟩ = some (.slice n.ad n.ks.length n.cp) := X1.out.cell 2
  go_wp2_with fail
  refine (Shaped_any n w1 W.heap.size (H0.out.2.below HB1.out (Nat.le_refl _)) HB1.out.size).mono ?_
  rintro e w2 ⟨rfl, hb2⟩
  have hz2 := hb2.size
  have HB2 := Lib.hid (HB1.out.trans (hb2.mono HB1.out.size))
  have X2 := Lib.hid (X1.out.below hb2 X1.out.lt)
  clear hb2 c0 c1 c2
  cases hok : n.okB
  · go_wp2_with fail
    go_ret
    exact ⟨rfl, HB2.out⟩
  have hp : n.shapedB = true ∧ n.shortB = true := by
    unfold Nd.okB at hok
    simp only [Bool.and_eq_true] at hok
    exact ⟨hok.2, hok.1.2⟩
  have hsz := Nd.okB_size hok
  have hlen := stk_len ⟨#[]⟩ n []
  have HP := Lib.hid (deep_of hp.1 hsz)
  have hkl := Nd.kinds_len n
  have htk : n.kinds.take (mostN 1000) = n.kinds := List.take_of_length_le (by unfold mostN; omega)
  have HE := Lib.hid (show (∀ w, TokTab w → n.In w w.heap.size → Calls Tryz.prog 20 #[n.val, .string ⟨#[]⟩] w (SkPost w (n.stk ⟨#[]⟩ []))) ∧ (∀ w, TokTab w → n.In w w.heap.size → Calls Tryz.prog 17 #[n.val, .int .i64 1000] w (EvPost w n.kinds)) from
    ⟨fun w h1 h2 => Stacks_any n ⟨#[]⟩ (expr_any [] posOf_ni_le n hp.1 hp.2 hsz) hp.1 hsz w h1 h2, fun w h1 h2 => by
      have h := Yields_any n 1000 (by omega) (expr_any [] posOf_ni_le n hp.1 hp.2 hsz) hp.1 hsz w h1 h2
      rwa [htk] at h⟩)
  generalize n.stk ⟨#[]⟩ [] = l at HE hlen HP
  generalize n.kinds = ks at HE HP hkl
  clear hok hp htk
  have k0 : w2.cell? ⟨W.heap.size, 0, none⟩ = some (.string n.kd) := X2.out.cell 0
  have k1 : w2.cell? ⟨W.heap.size, 1, none⟩ = some (.string n.tx) := X2.out.cell 1
  have k2 : w2.cell? ⟨W.heap.size, 2, none⟩ = some (.slice n.ad n.ks.length n.cp) := X2.out.cell 2
  go_wp2_with fail
  refine (HE.out.1 w2 (H0.out.1.below HB2.out) (H0.out.2.below HB2.out HB2.out.size)).mono ?_
  rintro e w3 ⟨A3, c3, rfl, _, hb3, hR3⟩
  have HB3 := Lib.hid (HB2.out.trans (hb3.mono HB2.out.size))
  have X3 := Lib.hid (X2.out.below hb3 X2.out.lt)
  have H3 := Lib.hid hR3
  have hz3 := hb3.size
  clear hR3 hb3 k0 k1 k2
  have q0 : w3.cell? ⟨W.heap.size, 0, none⟩ = some (.string n.kd) := X3.out.cell 0
  have q1 : w3.cell? ⟨W.heap.size, 1, none⟩ = some (.string n.tx) := X3.out.cell 1
  have q2 : w3.cell? ⟨W.heap.size, 2, none⟩ = some (.slice n.ad n.ks.length n.cp) := X3.out.cell 2
  go_wp2_with fail
  refine (HE.out.2 w3 (H0.out.1.below HB3.out) (H0.out.2.below HB3.out HB3.out.size)).mono ?_
  rintro e w4 ⟨A4, c4, rfl, hown4, hb4⟩
  have HB4 := Lib.hid (HB3.out.trans (hb4.mono HB3.out.size))
  have H4 := Lib.hid (And.intro (H3.out.below hb4) (TxAt.of hown4))
  have X4 := Lib.hid (X3.out.below hb4 X3.out.lt)
  have hz4 := hb4.size
  have hM : l.length ≤ 9223372036854775807 := by omega
  have hlk := HP.out.len
  have hlp := HP.out.pos
  clear hown4 hb4 q0 q1 q2
  have hl0 : ((l.length : Int) == 0) = false := by
    rw [beq_eq_false_iff_ne]
    omega
  rw [← hlk]
  clear hlk
  go_wp2_with fail
  go_loopw [29] (fun i' wr => ∃ j : Nat, i' = .int .i64 j ∧ j ≤ l.length ∧ Below w4.heap.size w4 wr) (fun i' _ => l.length - (intOf i').toNat)
  case atStart => exact ⟨0, rfl, Nat.zero_le _, Below.refl _ _⟩
  case round =>
    obtain ⟨j, rfl, hj, hbr⟩ := hrel
    have HR := Lib.hid hbr
    by_cases hlt : j < l.length
    · have hj0 : l[j]? = some l[j] := List.getElem?_eq_getElem hlt
      have hk0 : ks[j]? = some (ks[j]'(by rw [← HP.out.len]; exact hlt)) := List.getElem?_eq_getElem (by rw [← HP.out.len]; exact hlt)
      have hsm := HP.out.small _ (List.getElem_mem hlt)
      generalize ks[j]'(by rw [← HP.out.len]; exact hlt) = k at hk0
      generalize l[j] = r at hj0 hsm
      obtain ⟨m, hm, hrm⟩ := HP.out.last j r k hj0 hk0
      obtain ⟨g3, A2, c2, rfl, e1, t1, hc2, hc2m⟩ := H4.out.1.below hbr j r hj0
      obtain ⟨g4, rfl, e4⟩ := H4.out.2.below hbr j k hk0
      obtain ⟨g2, rfl, e2⟩ := t1 m k hrm
      have HT := Lib.hid t1
      rw [hm] at e1 hc2
      by_cases h0 : j = 0
      · subst h0
        clear hbr
        have hz1 : ((m : Int) + 1 == 0) = false := by simp; omega
        go_wp2_with fail
        go_quiet (fail)
        go_wp2_with fail
        go_roundw
        case rel => exact ⟨1, rfl, by omega, below_drewN HR.out _⟩
        case measure => simp [intOf]; omega
      · obtain ⟨i, rfl⟩ : ∃ i, j = i + 1 := ⟨j - 1, by omega⟩
        have hq0 : l[i]? = some l[i] := List.getElem?_eq_getElem (by omega)
        generalize l[i] = q at hq0
        obtain ⟨hn1, hn2, hn3⟩ := HP.out.next i q r hq0 hj0
        obtain ⟨g3', A1, c1, hg3, e3, t3, hc1, hc1m⟩ := H4.out.1.below hbr i q hq0
        cases hg3
        have HQ := Lib.hid t3
        have HC := Lib.hid (fun nq => eqT_q (r.take m) (wr.drewN nq) (some ⟨g2, 0, none⟩) A1 c2 c1 m (by rw [List.length_take]; omega) (by omega) (HT.out.pre m) (by
          have h := HQ.out.pre m
          have e : q.take m = r.take m := by rw [hm] at hn3; exact hn3.symm
          rw [e] at h
          exact h))
        clear hbr
        have hz1 : ((m : Int) + 1 == 0) = false := by simp; omega
        have hb1 : (0 : Int) ≤ (m : Int) := by omega
        have hb2 : (m : Int) < (m : Int) + 1 := by omega
        have hb3 : (0 : Int) ≤ (i : Int) := by omega
        have hb4 : (i : Int) < (l.length : Int) := by omega
        have hb5 : (0 : Int) ≤ (i : Int) + 1 := by omega
        have hb6 : (i : Int) + 1 < (l.length : Int) := by omega
        have hz2 : ((0 : Int) < (i : Int) + 1) := by omega
        have hz3 : ¬ ((m : Int) + 1 < 2) := by omega
        have hz4 : ¬ ((q.length : Int) + 1 < (m : Int) + 1) := by omega
        have hz7 : decide (q.length < m) = false := decide_eq_false (by omega)
        have hz8 : decide ((q.length : Int) < (m : Int)) = false := decide_eq_false (by omega)
        have hz9 : decide ((q.length : Int) + 1 < (m : Int) + 1) = false := decide_eq_false (by omega)
        have hz5 : (m : Int) ≤ (c1 : Int) := by omega
        have hz6 : (m : Int) ≤ (c2 : Int) := by omega
        have hw1 : IntKind.i64.wrap (m : Int) = (m : Int) := wrap_small _ (by omega) (by omega)
        have hw2 : IntKind.i64.wrap (i : Int) = (i : Int) := wrap_small _ (by omega) (by omega)
        have hw3 : IntKind.i64.wrap ((q.length : Int) + 1) = (q.length : Int) + 1 := wrap_small _ (by omega) (by have := HP.out.small q (List.mem_of_getElem? hq0); omega)
        clear hn1 hn2 hn3
        go_wp2_with fail
        go_quiet (first | (go_at_call 14; refine Calls.quiet_of (HC.out _)))
        go_wp2_with fail
        go_roundw
        case rel => first | exact ⟨i + 1 + 1, by go_num, by omega, below_drewN HR.out _⟩ | ((repeat apply Exists.intro); refine ⟨⟨i + 1 + 1, ?_, by omega, below_drewN HR.out _⟩, rfl⟩; go_num)
        case measure => simp [intOf]; omega
    · obtain ⟨k0, hk0⟩ := HP.out.one
      obtain ⟨g3, A2, c2, rfl, e1, t1, hc2, hc2m⟩ := H4.out.1.below hbr 0 _ hk0
      have HB5 := Lib.hid (HB4.out.trans (hbr.mono HB4.out.size))
      clear hbr t1
      go_wp2_with fail
      go_ret
      exact ⟨rfl, HB5.out⟩
end Go.Proofs.YtlpnepgljdhpkaaGreatFmt
