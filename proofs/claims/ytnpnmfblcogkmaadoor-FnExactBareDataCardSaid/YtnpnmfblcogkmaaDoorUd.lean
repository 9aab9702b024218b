/-
  spec.Same: two trees that are equal.
-/
import Derived.Test.YtnpnmfblcogkmaaDoorUa
namespace Go.Proofs.YtnpnmfblcogkmaaDoor
open Go.RowKit

/-- The contract of Same at a tree. -/
def SOf (a : Nd) : Prop := ∀ (b : Nd) (W : World), a.In W W.heap.size → b.In W W.heap.size → Calls Tryd.prog 12 #[a.val, b.val] W fun e w => e = .returned (.bool (a.same b)) ∧ Below W.heap.size W w
theorem sameL_ne : ∀ {a b : List Nd}, a.length ≠ b.length → sameL a b = false
  | [], [], h => absurd rfl h
  | [], _ :: _, _ => rfl
  | _ :: _, [], _ => rfl
  | x :: a, y :: b, h => by
    rw [sameL, sameL_ne (a := a) (b := b) (by simpa using h), Bool.and_false]
theorem sameL_step {ks ls : List Nd} {j : Nat} {x y : Nd} (hx : ks[j]? = some x) (hy : ls[j]? = some y) : sameL (ks.drop j) (ls.drop j) = (x.same y && sameL (ks.drop (j + 1)) (ls.drop (j + 1))) := by
  obtain ⟨h1, rfl⟩ := List.getElem?_eq_some_iff.1 hx
  obtain ⟨h2, rfl⟩ := List.getElem?_eq_some_iff.1 hy
  rw [List.drop_eq_getElem_cons h1, List.drop_eq_getElem_cons h2, sameL]
theorem sameL_end {ks ls : List Nd} {j : Nat} (h1 : ks.length ≤ j) (h2 : ls.length ≤ j) : sameL (ks.drop j) (ls.drop j) = true := by
  rw [List.drop_eq_nil_of_le h1, List.drop_eq_nil_of_le h2]
  rfl

set_option maxRecDepth 100000 in
theorem eqf_any (ks ls : List Nd) (IH : ∀ k ∈ ks, SOf k) (A A' : Option Addr) (c c' : Nat) (W : World) (hA : ∀ (j : Nat) (k : Nd), ks[j]? = some k → ElemAt W W.heap.size A j k ∧ k.In W W.heap.size) (hB : ∀ (j : Nat) (k : Nd), ls[j]? = some k → ElemAt W W.heap.size A' j k ∧ k.In W W.heap.size)
    (n n' : Nat) (hn : ks.length = n) (hn' : ls.length = n') (hm : n ≤ maxLen) :
    Calls Tryd.prog 23 #[.slice A n c, .slice A' n' c', .func (Fn.func 12) #[] #[]] W fun e w => e = .returned (.bool (sameL ks ls)) ∧ Below W.heap.size W w := by
  have hM : n ≤ 9223372036854775807 := hm
  have HA := Lib.hid hA
  have HB := Lib.hid hB
  have HI := Lib.hid IH
  clear hA hB IH hm
  by_cases hne : n = n'
  · subst hne
    go_enter Tryd.func23, Tryd.ntmps23
    go_wp2_with fail
    go_loopw [17] (fun i' wr => ∃ j : Nat, i' = .int .i64 j ∧ j ≤ n ∧ sameL ks ls = sameL (ks.drop j) (ls.drop j) ∧ Below W.heap.size W wr) (fun i' _ => n - (intOf i').toNat)
    case atStart => exact ⟨0, rfl, Nat.zero_le _, rfl, Below.refl _ _⟩
    case round =>
      obtain ⟨j, rfl, hj, hs, hb⟩ := hrel
      have HS := Lib.hid hs
      have hsz := hb.size
      have HW := Lib.hid hb
      by_cases hlt : j < n
      · obtain ⟨⟨g, o, rfl, hg, e1, e2, e3⟩, hin⟩ := HA.out j ks[j] (List.getElem?_eq_getElem (by omega))
        obtain ⟨⟨g', o', rfl, hg', e1', e2', e3'⟩, hin'⟩ := HB.out j ls[j] (List.getElem?_eq_getElem (by omega))
        have hx : ks[j] ∈ ks := List.getElem_mem (by omega)
        have hst := sameL_step (List.getElem?_eq_getElem (show j < ks.length by omega)) (List.getElem?_eq_getElem (show j < ls.length by omega))
        generalize ks[j] = x at e1 e2 e3 hin hx hst
        generalize ls[j] = y at e1' e2' e3' hin' hst
        have d1 := (hb.cell (p := ⟨g, o + j * 3, none⟩) hg).trans e1
        have d2 := (hb.cell (p := ⟨g, o + j * 3 + 1, none⟩) hg).trans e2
        have d3 := (hb.cell (p := ⟨g, o + j * 3 + 2, none⟩) hg).trans e3
        have d1' := (hb.cell (p := ⟨g', o' + j * 3, none⟩) hg').trans e1'
        have d2' := (hb.cell (p := ⟨g', o' + j * 3 + 1, none⟩) hg').trans e2'
        have d3' := (hb.cell (p := ⟨g', o' + j * 3 + 2, none⟩) hg').trans e3'
        have hgw : g' < wr.heap.size := by omega
        have HT := Lib.hid hst
        have HX := Lib.hid (And.intro hin hin')
        clear e1 e2 e3 e1' e2' e3' hs hb hst hin hin'
        go_wp2_with fail
        have hal : ∀ o1 o2 : Obj, Below wr.heap.size wr ((wr.alloc o1).alloc o2) := fun o1 o2 => ((Below.refl _ _).alloc (Nat.le_refl _) _).alloc (by simp) _
        refine (HI.out x hx y _ (HX.out.1.below (HW.out.trans ((hal _ _).mono hsz)) (by simp; omega)) (HX.out.2.below (HW.out.trans ((hal _ _).mono hsz)) (by simp; omega))).mono ?_
        rintro e w2 ⟨rfl, hb2⟩
        have HW2 := Lib.hid (HW.out.trans (((hal _ _).trans (hb2.mono (by simp; omega))).mono hsz))
        clear hb2 hal
        cases hxy : x.same y
        · go_wp2_with fail
          go_ret
          refine ⟨?_, HW2.out⟩
          rw [HS.out, HT.out, hxy]
          rfl
        · go_wp2_with fail
          go_roundw
          case rel => exact ⟨j + 1, by go_num, by omega, by rw [HS.out, HT.out, hxy]; rfl, HW2.out⟩
          case measure => simp [intOf]; omega
      · have hse := sameL_end (ks := ks) (ls := ls) (j := j) (by omega) (by omega)
        have HE := Lib.hid (hs.trans hse)
        clear hse hs hb
        go_wp2_with fail
        go_ret
        rw [HE.out]
        exact ⟨rfl, HW.out⟩
  · have hd : ((n : Int) == (n' : Int)) = false := by
      rw [beq_eq_false_iff_ne]
      omega
    have hs := Lib.hid (sameL_ne (a := ks) (b := ls) (by omega))
    go_enter Tryd.func23, Tryd.ntmps23
    go_wp2_with fail
    go_ret
    rw [hs.out]
    exact ⟨rfl, Below.refl _ _⟩

set_option maxRecDepth 100000 in
theorem Same_any : ∀ a : Nd, SOf a := by
  refine Nd.ind fun a ih b W ha hb => ?_
  have h1 := Nd.In_iff.1 ha
  have h2 := Nd.In_iff.1 hb
  have hal : ∀ o1 o2 : Obj, Below W.heap.size W ((W.alloc o1).alloc o2) := fun o1 o2 => ((Below.refl _ _).alloc (Nat.le_refl _) _).alloc (by simp) _
  have hsa : ∀ o1 o2 : Obj, ((W.alloc o1).alloc o2).heap.size = W.heap.size + 1 + 1 := fun o1 o2 => by rw [World.size_alloc, World.size_alloc]
  have HC := Lib.hid (fun o1 o2 => eqf_any a.ks b.ks ih a.ad b.ad a.cp b.cp ((W.alloc o1).alloc o2) (fun j k hk => ⟨(h1.2.2 j k hk).1.keep (fun p hp => (hal o1 o2).cell hp) (by rw [hsa]; omega), (h1.2.2 j k hk).2.below (hal o1 o2) (by rw [hsa]; omega)⟩) (fun j k hk => ⟨(h2.2.2 j k hk).1.keep (fun p hp => (hal o1 o2).cell hp) (by rw [hsa]; omega), (h2.2.2 j k hk).2.below (hal o1 o2) (by rw [hsa]; omega)⟩) _ _ rfl rfl (Nat.le_trans h1.1 h1.2.1))
  have HL := Lib.hid hal
  have HZ := Lib.hid hsa
  clear ha hb h1 h2 ih hal hsa
  show Calls _ _ #[.agg #[.string a.kd, .string a.tx, .slice a.ad a.ks.length a.cp], .agg #[.string b.kd, .string b.tx, .slice b.ad b.ks.length b.cp]] W _
  have hsame : a.same b = ((a.kd.toList == b.kd.toList) && (a.tx.toList == b.tx.toList) && sameL a.ks b.ks) := by
    obtain ⟨k, t, ad, c, ks⟩ := a
    rfl
  have HS := Lib.hid hsame
  clear hsame
  cases hk : (a.kd.toList == b.kd.toList)
  · go_enter Tryd.func12, Tryd.ntmps12
    go_wp2_with fail
    go_ret
    rw [HS.out, hk]
    exact ⟨rfl, HL.out _ _⟩
  · cases ht : (a.tx.toList == b.tx.toList)
    · go_enter Tryd.func12, Tryd.ntmps12
      go_wp2_with fail
      go_ret
      rw [HS.out, hk, ht]
      exact ⟨rfl, HL.out _ _⟩
    · go_enter Tryd.func12, Tryd.ntmps12
      go_wp2_with fail
      refine (HC.out _ _).mono ?_
      rintro e w ⟨rfl, hb⟩
      have HB := Lib.hid hb
      clear hb
      go_wp2_with fail
      go_ret
      rw [HS.out, hk, ht]
      exact ⟨by simp, (HL.out _ _).trans (HB.out.mono (by rw [HZ.out]; omega))⟩
end Go.Proofs.YtnpnmfblcogkmaaDoor
