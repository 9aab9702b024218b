/-
  laws.FnExactBareData: the walk.
-/
import Derived.Test.YtnpnmfblcogkmaaDoorUb
import Derived.Test.YtnpnmfblcogkmaaDoorUc
import Derived.Test.YtnpnmfblcogkmaaDoorUd
import Derived.Test.YtnpnmfblcogkmaaDoorCn
namespace Go.Proofs.YtnpnmfblcogkmaaDoor
open Go.RowKit

mutual
theorem Nd.same_symm : ∀ a b : Nd, a.same b = true → b.same a = true
  | ⟨k, t, ad, cp, ks⟩, ⟨k', t', ad', cp', ks'⟩, h => by
    simp only [Nd.same, Bool.and_eq_true, beq_iff_eq] at h ⊢
    exact ⟨⟨h.1.1.symm, h.1.2.symm⟩, sameL_symm ks ks' h.2⟩
theorem sameL_symm : ∀ a b : List Nd, sameL a b = true → sameL b a = true
  | [], [], _ => rfl
  | [], _ :: _, h => by simp [sameL] at h
  | _ :: _, [], h => by simp [sameL] at h
  | x :: a, y :: b, h => by
    simp only [sameL, Bool.and_eq_true] at h ⊢
    exact ⟨Nd.same_symm x y h.1, sameL_symm a b h.2⟩
end
theorem posOf_nil_le (i : Nat) : 0 ≤ posOf [] i ∧ posOf [] i ≤ 4611686018427387904 := by
  unfold posOf
  simp

theorem Blk.q0 {w : World} {g : Nat} {a b c : Value} (h : Blk w g 32 #[a, b, c]) : w.cell? ⟨g, 0, none⟩ = some a := h.cell 0
theorem Blk.q1 {w : World} {g : Nat} {a b c : Value} (h : Blk w g 32 #[a, b, c]) : w.cell? ⟨g, 1, none⟩ = some b := h.cell 1
theorem Blk.q2 {w : World} {g : Nat} {a b c : Value} (h : Blk w g 32 #[a, b, c]) : w.cell? ⟨g, 2, none⟩ = some c := h.cell 2
set_option maxRecDepth 100000 in
theorem law_bare (n : Nd) (W : World) (hT : TokTab W) (hin : n.In W W.heap.size) :
    Calls Tryd.prog 4 #[n.val] W fun e w => e = .returned (.bool true) ∧ Below W.heap.size W w := by
  show Calls _ _ #[.agg #[.string n.kd, .string n.tx, .slice n.ad n.ks.length n.cp]] W _
  have hbox : Blk (W.alloc (.cells #[.string n.kd, .string n.tx, .slice n.ad n.ks.length n.cp] 32)) W.heap.size 32 #[.string n.kd, .string n.tx, .slice n.ad n.ks.length n.cp] := Blk.new _ _ _
  have hs1 : (W.alloc (.cells #[.string n.kd, .string n.tx, .slice n.ad n.ks.length n.cp] 32)).heap.size = W.heap.size + 1 := World.size_alloc _ _
  have HB0 := Lib.hid (Below.al W (.cells #[.string n.kd, .string n.tx, .slice n.ad n.ks.length n.cp] 32))
  have H0 := Lib.hid (And.intro hT hin)
  clear hT hin
  go_enter Tryd.func4, Tryd.ntmps4
  go_wp2_with fail
  refine (zzFits1_any n _).mono ?_
  rintro e w1 ⟨b, rfl, hb1⟩
  have hz1 := hb1.size
  rw [hs1] at hz1
  have HB1 := Lib.hid (HB0.out.trans (hb1.mono (by rw [hs1]; omega)))
  have X1 := Lib.hid (hbox.below hb1 (by rw [hs1]; omega))
  clear hb1 hbox
  cases b
  · go_wp2_with fail
    go_ret
    exact ⟨rfl, HB1.out⟩
  have c0 : w1.cell? ⟨W.heap.size, 0, none⟩ = some (.string n.kd) := X1.out.cell 0
  have c1 : w1.cell? ⟨W.heap.size, 1, none⟩ = some (.string n.tx) := X1.out.cell 1
  have c2 : w1.cell? ⟨W.heap.size, 2, none⟩ = some (.slice n.ad n.ks.length n.cp) := X1.out.cell 2
  go_wp2_with fail
  refine (Shaped_any n w1 W.heap.size (H0.out.2.below HB1.out (Nat.le_refl _)) HB1.out.size).mono ?_
  rintro e w2 ⟨rfl, hb2⟩
  have hz2 := hb2.size
  have HB2 := Lib.hid (HB1.out.trans (hb2.mono HB1.out.size))
  have X2 := Lib.hid (X1.out.below hb2 X1.out.lt)
  clear hb2 c0 c1 c2
  cases hok : n.okB
  · go_wp2_with fail
    go_ret
    exact ⟨rfl, HB2.out⟩
  have hp : n.shapedB = true ∧ n.shortB = true := by
    unfold Nd.okB at hok
    simp only [Bool.and_eq_true] at hok
    exact ⟨hok.2, hok.1.2⟩
  have hsz := Nd.okB_size hok
  obtain ⟨m, hm, hms, hmz⟩ := BareOf.ex n hp.1
  have HM := Lib.hid hm
  have HE := Lib.hid (expr_any [] posOf_nil_le n hp.1 hp.2 hsz)
  have HN := Lib.hid (node_any (posOf []) posOf_nil m hms (by omega))
  have HOK := Lib.hid hok
  clear hok hp hm
  have k0 : w2.cell? ⟨W.heap.size, 0, none⟩ = some (.string n.kd) := X2.out.cell 0
  have k1 : w2.cell? ⟨W.heap.size, 1, none⟩ = some (.string n.tx) := X2.out.cell 1
  have k2 : w2.cell? ⟨W.heap.size, 2, none⟩ = some (.slice n.ad n.ks.length n.cp) := X2.out.cell 2
  go_wp2_with fail
  go_region_held3 (fun w' => w'.cell? ⟨W.heap.size, 0, none⟩ = some (.string n.kd) ∧ w'.cell? ⟨W.heap.size, 1, none⟩ = some (.string n.tx) ∧ w'.cell? ⟨W.heap.size, 2, none⟩ = some (.slice n.ad n.ks.length n.cp))
    (first | with_reducible exact ⟨X5.out.q0, X5.out.q1, X5.out.q2⟩ | with_reducible exact ⟨X4.out.q0, X4.out.q1, X4.out.q2⟩ | with_reducible exact ⟨X3.out.q0, X3.out.q1, X3.out.q2⟩ | exact ⟨X2.out.drew.q0, X2.out.drew.q1, X2.out.drew.q2⟩)
    (first
      | (go_at_call 13; refine (Bare_any n m HM.out HE.out HN.out w2.drew (H0.out.1.below HB2.out.drew) (H0.out.2.below HB2.out.drew HB2.out.size)).mono ?_; rintro e w3 ⟨m2, he, hin3, hsm, hb3⟩; have he2 : e = .returned (.agg #[.string m2.kd, .string m2.tx, .slice m2.ad m2.ks.length m2.cp]) := he; subst he2; have HB3 := Lib.hid (HB2.out.drew.trans (hb3.mono HB2.out.size)); have X3 := Lib.hid (X2.out.drew.below hb3 X2.out.lt); have H3 := Lib.hid (And.intro hin3 hsm); clear hin3 hsm hb3 he)
      | (go_at_call 14; refine (specBare_any n m HM.out w3 (H0.out.2.below HB3.out HB3.out.size)).mono ?_; rintro e w4 ⟨he, hin4, hb4⟩; have he2 : e = .returned (.agg #[.string m.kd, .string m.tx, .slice m.ad m.ks.length m.cp]) := he; subst he2; have HB4 := Lib.hid (HB3.out.trans (hb4.mono HB3.out.size)); have X4 := Lib.hid (X3.out.below hb4 X3.out.lt); have H4 := Lib.hid (And.intro (hin4.below hb4 hb4.size) (H3.out.1.in_.below hb4 hb4.size)); clear hin4 hb4 he)
      | (go_at_call 12; refine (Same_any m2 m w4 H4.out.2 H4.out.1).mono ?_; rintro e w5 ⟨he, hb5⟩; have he2 : e = .returned (.bool true) := (by rw [he, Nd.same_symm m m2 H3.out.2]); subst he2; have HB5 := Lib.hid (HB4.out.trans (hb5.mono HB4.out.size)); have X5 := Lib.hid (X4.out.below hb5 X4.out.lt); clear hb5 he))
  go_wp2_with fail
  go_ret
  exact ⟨rfl, HB5.out⟩
end Go.Proofs.YtnpnmfblcogkmaaDoor
