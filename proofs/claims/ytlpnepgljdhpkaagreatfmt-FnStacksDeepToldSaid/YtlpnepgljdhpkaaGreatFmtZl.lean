/-
  laws.FnExactStacks: the walk.
-/
import Derived.Test.YtlpnepgljdhpkaaGreatFmtZg
import Derived.Test.YtlpnepgljdhpkaaGreatFmtZh
import Derived.Test.YtlpnepgljdhpkaaGreatFmtOl
namespace Go.Proofs.YtlpnepgljdhpkaaGreatFmt
open Go.RowKit

set_option maxRecDepth 100000 in
theorem law_stacks (n : Nd) (st : ByteArray) (W : World) (hT : TokTab W) (hin : n.In W W.heap.size) :
    Calls Tryz.prog 7 #[n.val, .string st] W fun e w => e = .returned (.bool true) ∧ Below W.heap.size W w := by
  show Calls _ _ #[.agg #[.string n.kd, .string n.tx, .slice n.ad n.ks.length n.cp], .string st] W _
  have hbox : Blk (W.alloc (.cells #[.string n.kd, .string n.tx, .slice n.ad n.ks.length n.cp] 24)) W.heap.size 24 #[.string n.kd, .string n.tx, .slice n.ad n.ks.length n.cp] := Blk.new _ _ _
  have hs1 : (W.alloc (.cells #[.string n.kd, .string n.tx, .slice n.ad n.ks.length n.cp] 24)).heap.size = W.heap.size + 1 := World.size_alloc _ _
  have HB0 := Lib.hid (Below.al W (.cells #[.string n.kd, .string n.tx, .slice n.ad n.ks.length n.cp] 24))
  have H0 := Lib.hid (And.intro hT hin)
  clear hT hin
  go_enter Tryz.func7, Tryz.ntmps7
  go_wp2_with fail
  refine (zzFits1_any n _).mono ?_
  rintro e w1 ⟨b, rfl, hb1⟩
  have hz1 := hb1.size
  rw [hs1] at hz1
  have HB1 := Lib.hid (HB0.out.trans (hb1.mono (by rw [hs1]; omega)))
  have X1 := Lib.hid (hbox.below hb1 (by rw [hs1]; omega))
  clear hb1 hbox
  cases b
  · go_wp2_with fail
    go_ret
    exact ⟨rfl, HB1.out⟩
  have c0 : w1.cell? ⟨W.heap.size, 0, none⟩ = some (.string n.kd) := X1.out.cell 0
  have c1 : w1.cell? ⟨W.heap.size, 1, none⟩ = some (.string n.tx) := X1.out.cell 1
  have c2 : w1.cell? ⟨W.heap.size, 2, none⟩ = some (.slice n.ad n.ks.length n.cp) := X1.out.cell 2
  by_cases hst : (2147483647 : Int) < st.size
  · go_wp2_with fail
    go_ret
    exact ⟨rfl, HB1.out⟩
  go_wp2_with fail
  refine (Shaped_any n w1 W.heap.size (H0.out.2.below HB1.out (Nat.le_refl _)) HB1.out.size).mono ?_
  rintro e w2 ⟨rfl, hb2⟩
  have hz2 := hb2.size
  have HB2 := Lib.hid (HB1.out.trans (hb2.mono HB1.out.size))
  have X2 := Lib.hid (X1.out.below hb2 X1.out.lt)
  clear hb2 c0 c1 c2
  cases hok : n.okB
  · go_wp2_with fail
    go_ret
    exact ⟨rfl, HB2.out⟩
  have hp : n.shapedB = true ∧ n.shortB = true := by
    unfold Nd.okB at hok
    simp only [Bool.and_eq_true] at hok
    exact ⟨hok.2, hok.1.2⟩
  have hsz := Nd.okB_size hok
  have hlen := stk_len st n []
  have hrow : ∀ r ∈ n.stk st [], r.length ≤ 5000 := fun r hr => by
    have := stk_row st n [] r hr
    simp at this
    omega
  have HE := Lib.hid (show (∀ w, TokTab w → n.In w w.heap.size → Calls Tryz.prog 20 #[n.val, .string st] w (SkPost w (n.stk st []))) ∧ (∀ w, n.In w w.heap.size → Calls Tryz.prog 21 #[n.val, .string st, .slice none 0 0] w (SpPost w (n.stk st []))) from
    ⟨fun w h1 h2 => Stacks_any n st (expr_any [] posOf_ni_le n hp.1 hp.2 hsz) hp.1 hsz w h1 h2, fun w h2 => specStacks_any n st w [] none 0 0 hp.1 hsz h2 (fun j x hj => by simp at hj) rfl (by simp; omega)⟩)
  have HRW := Lib.hid hrow
  clear hrow
  generalize n.stk st [] = l at HE hlen HRW
  clear hok hp
  have k0 : w2.cell? ⟨W.heap.size, 0, none⟩ = some (.string n.kd) := X2.out.cell 0
  have k1 : w2.cell? ⟨W.heap.size, 1, none⟩ = some (.string n.tx) := X2.out.cell 1
  have k2 : w2.cell? ⟨W.heap.size, 2, none⟩ = some (.slice n.ad n.ks.length n.cp) := X2.out.cell 2
  go_wp2_with fail
  go_region_held3 (fun w' => w'.cell? ⟨W.heap.size, 0, none⟩ = some (.string n.kd) ∧ w'.cell? ⟨W.heap.size, 1, none⟩ = some (.string n.tx) ∧ w'.cell? ⟨W.heap.size, 2, none⟩ = some (.slice n.ad n.ks.length n.cp))
    (first | with_reducible exact ⟨X5.out.m0, X5.out.m1, X5.out.m2⟩ | with_reducible exact ⟨X4.out.m0, X4.out.m1, X4.out.m2⟩ | with_reducible exact ⟨X3.out.m0, X3.out.m1, X3.out.m2⟩ | exact ⟨X2.out.drew.m0, X2.out.drew.m1, X2.out.drew.m2⟩)
    (first
      | (go_at_call 20; refine (HE.out.1 w2.drew (H0.out.1.below HB2.out.drew) (H0.out.2.below HB2.out.drew HB2.out.size)).mono ?_; rintro e w3 ⟨A3, c3, rfl, hown3, hb3, _⟩; have HB3 := Lib.hid (HB2.out.drew.trans (hb3.mono HB2.out.size)); have X3 := Lib.hid (X2.out.drew.below hb3 X2.out.lt); have H3 := Lib.hid hown3; clear hown3 hb3)
      | (go_at_call 21; refine (HE.out.2 w3 (H0.out.2.below HB3.out HB3.out.size)).mono ?_; rintro e w4 ⟨A4, c4, rvs4, rfl, hown4, hr4, hb4⟩; have HB4 := Lib.hid (HB3.out.trans (hb4.mono HB3.out.size)); have X4 := Lib.hid (X3.out.below hb4 X3.out.lt); have H4 := Lib.hid (And.intro (H3.out.below hb4) (RowsR.of hown4 hr4)); clear hown4 hr4 hb4)
      | (go_at_call 19; refine (eqF_any l w4 A3 A4 c3 c4 _ rfl (by omega) HRW.out H4.out.1 H4.out.2).mono ?_; rintro e w5 ⟨rfl, hb5⟩; have HB5 := Lib.hid (HB4.out.trans (hb5.mono HB4.out.size)); have X5 := Lib.hid (X4.out.below hb5 X4.out.lt); clear hb5))
  go_wp2_with fail
  go_ret
  exact ⟨rfl, HB5.out⟩
end Go.Proofs.YtlpnepgljdhpkaaGreatFmt
