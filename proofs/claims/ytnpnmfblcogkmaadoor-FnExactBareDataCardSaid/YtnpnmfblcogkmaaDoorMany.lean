/-
  spec.wellSlice, spec.many: walked once for each kind of node. (Printed by genmany.py.)
-/
import Derived.Test.YtnpnmfblcogkmaaDoorEx
import Derived.Maps.OwnSet
import Derived.OwnWalk
import Derived.Carry
import Derived.Deep.DeepMust
namespace Go.Proofs.YtnpnmfblcogkmaaDoor
open Go.RowKit Go.Maps Go.WideMaps

/-! ### wellSlice: a map of the call's own -/
theorem wpList_insert_own {H : Type} {P : Program} (w : World) {ops : Array Oper} {rest : List Oper} {o : Oper} {a : Act} {Q : Exit → Act → World → Prop}
    (hg : o.guard = none) (m x v : Operand) (t : TypeId) (hop : o.op = Op.insert t m x v)
    (k e : TypeId) (K : Keyed P k) (ht : P.underlying t = some (.map k e)) (R : Value → Option (DataW H × List MemPlace)) (b n : Nat) (D : DataW H)
    (hm : a.eval m = .map (some b)) (hown : w.ownsMap P k R b n D) (hn : n < maxLen) (key val : Value) (kl : Lit) (hx : a.eval x = key) (hv : a.eval v = val) (hkey : keyOf P k key = some kl)
    (d : DataW H) (ps : List MemPlace) (hval : R val = some (d, ps))
    (hK : ∀ w', w'.ownsMap P k R b (n + 1) (D.put kl d) → w.grownBy w' (some b) → wpList P ops Q rest (a.put o.dst undef) w') :
    wpList P ops Q (o :: rest) a w := by
  refine wpList_plain hg fun K' hK' => ?_
  obtain ⟨w', hrun, r1, r2⟩ := hown.update K ht hn hkey hval
  unfold Oper.wp
  simp [execOp, hop, hm, hx, hv, hrun, Result.andThen]
  exact hK' _ _ (hK w' r1 r2)

theorem strLaw : Keyed Tryd.prog 9 := string_keyed Tryd.underlying9
theorem zeroInt (w : World) : (zeroValue 3).run Tryd.prog w = .ok (.int .i64 0) w := by kernel_rfl
/-- The map of wellSlice, entry by entry. -/
def slD0 : DataW Unit := .map []
def slD1 : DataW Unit := slD0.put (.string []) (.lit (.int .i64 0))
def slD2 : DataW Unit := slD1.put (.string [108]) (.lit (.int .i64 1))
def slD3 : DataW Unit := slD2.put (.string [104]) (.lit (.int .i64 1))
def slD4 : DataW Unit := slD3.put (.string [108, 104]) (.lit (.int .i64 2))
def slD5 : DataW Unit := slD4.put (.string [104, 109, 115]) (.lit (.int .i64 2))
def slD6 : DataW Unit := slD5.put (.string [108, 104, 109, 115]) (.lit (.int .i64 3))
theorem slD6_has (l : List UInt8) : Maps.has slD6 (.string l) = (slN l).isSome := by
  unfold slN
  by_cases h0 : l = []
  · subst h0; kernel_rfl
  by_cases h1 : l = [108]
  · subst h1; kernel_rfl
  by_cases h2 : l = [104]
  · subst h2; kernel_rfl
  by_cases h3 : l = [108, 104]
  · subst h3; kernel_rfl
  by_cases h4 : l = [104, 109, 115]
  · subst h4; kernel_rfl
  by_cases h5 : l = [108, 104, 109, 115]
  · subst h5; kernel_rfl
  rw [if_neg h0, if_neg h1, if_neg h2, if_neg h3, if_neg h4, if_neg h5]
  unfold slD6 slD5 slD4 slD3 slD2 slD1
  rw [Maps.has_put_other (by simpa using h5), Maps.has_put_other (by simpa using h4), Maps.has_put_other (by simpa using h3), Maps.has_put_other (by simpa using h2), Maps.has_put_other (by simpa using h1), Maps.has_put_other (by simpa using h0)]
  rfl
theorem slD6_at (l : List UInt8) (m : Nat) (h : slN l = some m) (c : Int) (hc : slD6.atKey (.string l) (.lit (.int .i64 0)) = .lit (.int .i64 c)) : c = m := by
  have key : slD6.atKey (.string l) (.lit (.int .i64 0)) = .lit (.int .i64 m) := by
    unfold slN at h
    by_cases h0 : l = []
    · subst h0; simp at h; subst h; kernel_rfl
    by_cases h1 : l = [108]
    · subst h1; simp at h; subst h; kernel_rfl
    by_cases h2 : l = [104]
    · subst h2; simp at h; subst h; kernel_rfl
    by_cases h3 : l = [108, 104]
    · subst h3; simp at h; subst h; kernel_rfl
    by_cases h4 : l = [104, 109, 115]
    · subst h4; simp at h; subst h; kernel_rfl
    by_cases h5 : l = [108, 104, 109, 115]
    · subst h5; simp at h; subst h; kernel_rfl
    rw [if_neg h0, if_neg h1, if_neg h2, if_neg h3, if_neg h4, if_neg h5] at h
    cases h
  rw [key] at hc
  simpa using hc.symm

set_option maxRecDepth 100000 in
theorem wellSlice_any (kd tx : ByteArray) (ad : Option Addr) (m cp : Nat) (hm : m ≤ maxLen) (ht : tx.size ≤ maxLen) (w : World) :
    Calls Tryd.prog 38 #[.agg #[.string kd, .string tx, .slice ad m cp]] w fun e w' => e = .returned (.bool (wellSl tx m)) ∧ Below w.heap.size w w' := by
  have hmm := @run_makeMap Tryd.prog
  have hm' : m ≤ 9223372036854775807 := hm
  have HT := Lib.hid ht
  have k0 : keyOf Tryd.prog 9 (.string ⟨#[]⟩) = some (.string []) := keyOf_string_mk Tryd.underlying9 (by decide)
  have k1 : keyOf Tryd.prog 9 (.string ⟨#[108]⟩) = some (.string [108]) := keyOf_string_mk Tryd.underlying9 (by decide)
  have k2 : keyOf Tryd.prog 9 (.string ⟨#[104]⟩) = some (.string [104]) := keyOf_string_mk Tryd.underlying9 (by decide)
  have k3 : keyOf Tryd.prog 9 (.string ⟨#[108, 104]⟩) = some (.string [108, 104]) := keyOf_string_mk Tryd.underlying9 (by decide)
  have k4 : keyOf Tryd.prog 9 (.string ⟨#[104, 109, 115]⟩) = some (.string [104, 109, 115]) := keyOf_string_mk Tryd.underlying9 (by decide)
  have k5 : keyOf Tryd.prog 9 (.string ⟨#[108, 104, 109, 115]⟩) = some (.string [108, 104, 109, 115]) := keyOf_string_mk Tryd.underlying9 (by decide)
  have K0 := Lib.hid k0
  have K1 := Lib.hid k1
  have K2 := Lib.hid k2
  have K3 := Lib.hid k3
  have K4 := Lib.hid k4
  have K5 := Lib.hid k5
  clear k0 k1 k2 k3 k4 k5 ht hm
  have hkey : keyOf Tryd.prog 9 (.string tx) = some (.string tx.data.toList) := keyOf_string_mk Tryd.underlying9 HT.out
  have HK := Lib.hid hkey
  have hh := slD6_has tx.data.toList
  clear hkey
  unfold wellSl
  cases hs : slN tx.data.toList with
  | none =>
    rw [hs] at hh
    simp only [Option.isSome_none] at hh
    clear hs
    have hown0 : ((w.alloc (.cells #[.string kd, .string tx, .slice ad m cp] 32)).alloc (.map #[] 0)).ownsMap Tryd.prog 9 (plainElem (H := Unit) Tryd.prog 3) (w.heap.size + 1) 0 slD0 := by
      have := World.ownsMap_made (w.alloc (.cells #[.string kd, .string tx, .slice ad m cp] 32)) Tryd.prog 9 (plainElem (H := Unit) Tryd.prog 3)
      rwa [World.size_alloc] at this
    have hb0 : Below w.heap.size w ((w.alloc (.cells #[.string kd, .string tx, .slice ad m cp] 32)).alloc (.map #[] 0)) := ((Below.refl _ _).alloc (Nat.le_refl _) _).alloc (by simp) _
    have hk0 : Blk ((w.alloc (.cells #[.string kd, .string tx, .slice ad m cp] 32)).alloc (.map #[] 0)) w.heap.size 32 #[.string kd, .string tx, .slice ad m cp] := (Blk.new _ _ _).alloc _
    go_enter Tryd.func38, Tryd.ntmps38
    go_wp2_with (first
      | ((with_reducible refine wpList_insert_own _ rfl (.tmp 6) (.const (.string ⟨#[]⟩)) (.const (.int .i64 0)) 138 rfl 9 3 strLaw Tryd.underlying138 (plainElem (H := Unit) Tryd.prog 3) (w.heap.size + 1) 0 slD0 rfl hown0 (by unfold maxLen; omega) (.string ⟨#[]⟩) (.int .i64 0) (.string []) rfl rfl K0.out (.lit (.int .i64 0)) [] (plainElem_int Tryd.underlying3 (by decide)) ?_); intro w1 hown1' hg1; have hown1 : w1.ownsMap Tryd.prog 9 (plainElem (H := Unit) Tryd.prog 3) (w.heap.size + 1) 1 slD1 := hown1'; clear hown1')
      | ((with_reducible refine wpList_insert_own _ rfl (.tmp 6) (.const (.string ⟨#[108]⟩)) (.const (.int .i64 1)) 138 rfl 9 3 strLaw Tryd.underlying138 (plainElem (H := Unit) Tryd.prog 3) (w.heap.size + 1) 1 slD1 rfl hown1 (by unfold maxLen; omega) (.string ⟨#[108]⟩) (.int .i64 1) (.string [108]) rfl rfl K1.out (.lit (.int .i64 1)) [] (plainElem_int Tryd.underlying3 (by decide)) ?_); intro w2 hown2' hg2; have hown2 : w2.ownsMap Tryd.prog 9 (plainElem (H := Unit) Tryd.prog 3) (w.heap.size + 1) 2 slD2 := hown2'; clear hown2')
      | ((with_reducible refine wpList_insert_own _ rfl (.tmp 6) (.const (.string ⟨#[104]⟩)) (.const (.int .i64 1)) 138 rfl 9 3 strLaw Tryd.underlying138 (plainElem (H := Unit) Tryd.prog 3) (w.heap.size + 1) 2 slD2 rfl hown2 (by unfold maxLen; omega) (.string ⟨#[104]⟩) (.int .i64 1) (.string [104]) rfl rfl K2.out (.lit (.int .i64 1)) [] (plainElem_int Tryd.underlying3 (by decide)) ?_); intro w3 hown3' hg3; have hown3 : w3.ownsMap Tryd.prog 9 (plainElem (H := Unit) Tryd.prog 3) (w.heap.size + 1) 3 slD3 := hown3'; clear hown3')
      | ((with_reducible refine wpList_insert_own _ rfl (.tmp 6) (.const (.string ⟨#[108, 104]⟩)) (.const (.int .i64 2)) 138 rfl 9 3 strLaw Tryd.underlying138 (plainElem (H := Unit) Tryd.prog 3) (w.heap.size + 1) 3 slD3 rfl hown3 (by unfold maxLen; omega) (.string ⟨#[108, 104]⟩) (.int .i64 2) (.string [108, 104]) rfl rfl K3.out (.lit (.int .i64 2)) [] (plainElem_int Tryd.underlying3 (by decide)) ?_); intro w4 hown4' hg4; have hown4 : w4.ownsMap Tryd.prog 9 (plainElem (H := Unit) Tryd.prog 3) (w.heap.size + 1) 4 slD4 := hown4'; clear hown4')
      | ((with_reducible refine wpList_insert_own _ rfl (.tmp 6) (.const (.string ⟨#[104, 109, 115]⟩)) (.const (.int .i64 2)) 138 rfl 9 3 strLaw Tryd.underlying138 (plainElem (H := Unit) Tryd.prog 3) (w.heap.size + 1) 4 slD4 rfl hown4 (by unfold maxLen; omega) (.string ⟨#[104, 109, 115]⟩) (.int .i64 2) (.string [104, 109, 115]) rfl rfl K4.out (.lit (.int .i64 2)) [] (plainElem_int Tryd.underlying3 (by decide)) ?_); intro w5 hown5' hg5; have hown5 : w5.ownsMap Tryd.prog 9 (plainElem (H := Unit) Tryd.prog 3) (w.heap.size + 1) 5 slD5 := hown5'; clear hown5')
      | ((with_reducible refine wpList_insert_own _ rfl (.tmp 6) (.const (.string ⟨#[108, 104, 109, 115]⟩)) (.const (.int .i64 3)) 138 rfl 9 3 strLaw Tryd.underlying138 (plainElem (H := Unit) Tryd.prog 3) (w.heap.size + 1) 5 slD5 rfl hown5 (by unfold maxLen; omega) (.string ⟨#[108, 104, 109, 115]⟩) (.int .i64 3) (.string [108, 104, 109, 115]) rfl rfl K5.out (.lit (.int .i64 3)) [] (plainElem_int Tryd.underlying3 (by decide)) ?_); intro w6 hown6' hg6; have hown6 : w6.ownsMap Tryd.prog 9 (plainElem (H := Unit) Tryd.prog 3) (w.heap.size + 1) 6 slD6 := hown6'; clear hown6'; have hg := grown_trans (grown_trans (grown_trans (grown_trans (grown_trans hg1 hg2) hg3) hg4) hg5) hg6; have hb6 := Lib.hid (hb0.grown hg (by simp; omega) (fun k e => by cases e; omega)); have hk6 := hk0.grown hg (fun e => by simp at e); have c1 : w6.cell? ⟨w.heap.size, 1, none⟩ = some (.string tx) := hk6.cell 1; have c2 : w6.cell? ⟨w.heap.size, 2, none⟩ = some (.slice ad m cp) := hk6.cell 2; clear hk6 hg)
      | (at_lookup; refine wpList_lookup_own_ok_int _ rfl _ _ 138 rfl 9 3 .i64 strLaw Tryd.underlying138 Tryd.underlying3 (zeroInt _) (w.heap.size + 1) 6 slD6 rfl hown6 _ _ rfl HK.out ?_; intro c hat hwc; clear hat hwc))
    go_ret
    exact ⟨rfl, hb6.out⟩
  | some j =>
    rw [hs] at hh
    simp only [Option.isSome_some] at hh
    have hj : j ≤ 3 := by
      unfold slN at hs
      repeat' split at hs
      all_goals simp at hs
      all_goals omega
    have HS := Lib.hid hs
    clear hs
    have hown0 : ((w.alloc (.cells #[.string kd, .string tx, .slice ad m cp] 32)).alloc (.map #[] 0)).ownsMap Tryd.prog 9 (plainElem (H := Unit) Tryd.prog 3) (w.heap.size + 1) 0 slD0 := by
      have := World.ownsMap_made (w.alloc (.cells #[.string kd, .string tx, .slice ad m cp] 32)) Tryd.prog 9 (plainElem (H := Unit) Tryd.prog 3)
      rwa [World.size_alloc] at this
    have hb0 : Below w.heap.size w ((w.alloc (.cells #[.string kd, .string tx, .slice ad m cp] 32)).alloc (.map #[] 0)) := ((Below.refl _ _).alloc (Nat.le_refl _) _).alloc (by simp) _
    have hk0 : Blk ((w.alloc (.cells #[.string kd, .string tx, .slice ad m cp] 32)).alloc (.map #[] 0)) w.heap.size 32 #[.string kd, .string tx, .slice ad m cp] := (Blk.new _ _ _).alloc _
    go_enter Tryd.func38, Tryd.ntmps38
    go_wp2_with (first
      | ((with_reducible refine wpList_insert_own _ rfl (.tmp 6) (.const (.string ⟨#[]⟩)) (.const (.int .i64 0)) 138 rfl 9 3 strLaw Tryd.underlying138 (plainElem (H := Unit) Tryd.prog 3) (w.heap.size + 1) 0 slD0 rfl hown0 (by unfold maxLen; omega) (.string ⟨#[]⟩) (.int .i64 0) (.string []) rfl rfl K0.out (.lit (.int .i64 0)) [] (plainElem_int Tryd.underlying3 (by decide)) ?_); intro w1 hown1' hg1; have hown1 : w1.ownsMap Tryd.prog 9 (plainElem (H := Unit) Tryd.prog 3) (w.heap.size + 1) 1 slD1 := hown1'; clear hown1')
      | ((with_reducible refine wpList_insert_own _ rfl (.tmp 6) (.const (.string ⟨#[108]⟩)) (.const (.int .i64 1)) 138 rfl 9 3 strLaw Tryd.underlying138 (plainElem (H := Unit) Tryd.prog 3) (w.heap.size + 1) 1 slD1 rfl hown1 (by unfold maxLen; omega) (.string ⟨#[108]⟩) (.int .i64 1) (.string [108]) rfl rfl K1.out (.lit (.int .i64 1)) [] (plainElem_int Tryd.underlying3 (by decide)) ?_); intro w2 hown2' hg2; have hown2 : w2.ownsMap Tryd.prog 9 (plainElem (H := Unit) Tryd.prog 3) (w.heap.size + 1) 2 slD2 := hown2'; clear hown2')
      | ((with_reducible refine wpList_insert_own _ rfl (.tmp 6) (.const (.string ⟨#[104]⟩)) (.const (.int .i64 1)) 138 rfl 9 3 strLaw Tryd.underlying138 (plainElem (H := Unit) Tryd.prog 3) (w.heap.size + 1) 2 slD2 rfl hown2 (by unfold maxLen; omega) (.string ⟨#[104]⟩) (.int .i64 1) (.string [104]) rfl rfl K2.out (.lit (.int .i64 1)) [] (plainElem_int Tryd.underlying3 (by decide)) ?_); intro w3 hown3' hg3; have hown3 : w3.ownsMap Tryd.prog 9 (plainElem (H := Unit) Tryd.prog 3) (w.heap.size + 1) 3 slD3 := hown3'; clear hown3')
      | ((with_reducible refine wpList_insert_own _ rfl (.tmp 6) (.const (.string ⟨#[108, 104]⟩)) (.const (.int .i64 2)) 138 rfl 9 3 strLaw Tryd.underlying138 (plainElem (H := Unit) Tryd.prog 3) (w.heap.size + 1) 3 slD3 rfl hown3 (by unfold maxLen; omega) (.string ⟨#[108, 104]⟩) (.int .i64 2) (.string [108, 104]) rfl rfl K3.out (.lit (.int .i64 2)) [] (plainElem_int Tryd.underlying3 (by decide)) ?_); intro w4 hown4' hg4; have hown4 : w4.ownsMap Tryd.prog 9 (plainElem (H := Unit) Tryd.prog 3) (w.heap.size + 1) 4 slD4 := hown4'; clear hown4')
      | ((with_reducible refine wpList_insert_own _ rfl (.tmp 6) (.const (.string ⟨#[104, 109, 115]⟩)) (.const (.int .i64 2)) 138 rfl 9 3 strLaw Tryd.underlying138 (plainElem (H := Unit) Tryd.prog 3) (w.heap.size + 1) 4 slD4 rfl hown4 (by unfold maxLen; omega) (.string ⟨#[104, 109, 115]⟩) (.int .i64 2) (.string [104, 109, 115]) rfl rfl K4.out (.lit (.int .i64 2)) [] (plainElem_int Tryd.underlying3 (by decide)) ?_); intro w5 hown5' hg5; have hown5 : w5.ownsMap Tryd.prog 9 (plainElem (H := Unit) Tryd.prog 3) (w.heap.size + 1) 5 slD5 := hown5'; clear hown5')
      | ((with_reducible refine wpList_insert_own _ rfl (.tmp 6) (.const (.string ⟨#[108, 104, 109, 115]⟩)) (.const (.int .i64 3)) 138 rfl 9 3 strLaw Tryd.underlying138 (plainElem (H := Unit) Tryd.prog 3) (w.heap.size + 1) 5 slD5 rfl hown5 (by unfold maxLen; omega) (.string ⟨#[108, 104, 109, 115]⟩) (.int .i64 3) (.string [108, 104, 109, 115]) rfl rfl K5.out (.lit (.int .i64 3)) [] (plainElem_int Tryd.underlying3 (by decide)) ?_); intro w6 hown6' hg6; have hown6 : w6.ownsMap Tryd.prog 9 (plainElem (H := Unit) Tryd.prog 3) (w.heap.size + 1) 6 slD6 := hown6'; clear hown6'; have hg := grown_trans (grown_trans (grown_trans (grown_trans (grown_trans hg1 hg2) hg3) hg4) hg5) hg6; have hb6 := Lib.hid (hb0.grown hg (by simp; omega) (fun k e => by cases e; omega)); have hk6 := hk0.grown hg (fun e => by simp at e); have c1 : w6.cell? ⟨w.heap.size, 1, none⟩ = some (.string tx) := hk6.cell 1; have c2 : w6.cell? ⟨w.heap.size, 2, none⟩ = some (.slice ad m cp) := hk6.cell 2; clear hk6 hg)
      | (at_lookup; refine wpList_lookup_own_ok_int _ rfl _ _ 138 rfl 9 3 .i64 strLaw Tryd.underlying138 Tryd.underlying3 (zeroInt _) (w.heap.size + 1) 6 slD6 rfl hown6 _ _ rfl HK.out ?_; intro c hat hwc; obtain rfl := slD6_at _ j HS.out c hat; clear hat hwc))
    go_ret
    refine ⟨?_, hb6.out⟩
    show Ending.returned (.bool _) = _
    congr 2
    rw [Bool.eq_iff_iff]
    simp
    omega

/-! ### many, kind by kind -/
theorem StrsAt_row {w : World} {g : Nat} {zs : List ByteArray} (h : Blk w g 9 (zs.map Value.string).toArray) (hm : zs.length ≤ maxLen) : StrsAt w (some ⟨g, 0, none⟩) zs :=
  ⟨hm, fun i hi => ⟨g, 0, rfl, by rw [Nat.zero_add, h.cell]; simp [hi]⟩⟩
def MPost (c : Nat) (tx : ByteArray) (m : Nat) (W : World) (e : Ending) (w' : World) : Prop := e = .returned (.bool (manyC c tx m)) ∧ Below W.heap.size W w'
theorem mpost {c : Nat} {tx : ByteArray} {m : Nat} {W w' : World} {b : Bool} (h : b = manyC c tx m) (hb : Below W.heap.size W w') : MPost c tx m W (.returned (.bool b)) w' := ⟨by rw [h], hb⟩

set_option maxRecDepth 100000 in
theorem many_name (tx : ByteArray) (ad : Option Addr) (m cp : Nat) (hm : m ≤ maxLen) (ht : tx.size ≤ maxLen) (w : World) :
    Calls Tryd.prog 31 #[.agg #[.string ⟨#[110, 97, 109, 101]⟩, .string tx, .slice ad m cp]] w (MPost 0 tx m w) := by
  have hm' : m ≤ 9223372036854775807 := hm
  have HM := Lib.hid hm
  have HT := Lib.hid ht
  clear hm ht
  go_enter Tryd.func31, Tryd.ntmps31
  go_wp2_with fail
  all_goals first
    | (refine StrsAt_row ?_ (by decide); exact hbk)
    | go_ret
  all_goals refine mpost ?_ ?_
  all_goals first
    | exact (Below.refl _ _).alloc (Nat.le_refl _) _
    | exact ((Below.refl _ _).alloc (Nat.le_refl _) _).alloc (by simp) _
    | exact ((Below.refl _ _).alloc (Nat.le_refl _) _).trans (hb.mono (by simp))
    | (rw [Bool.eq_iff_iff]; simp_all [manyC]; done)
    | (rw [Bool.eq_iff_iff]; simp_all [manyC]; omega)
    | (rw [Bool.eq_iff_iff]; simp_all [manyC, ByteArray.toList_eq]; done)
    | (rw [Bool.eq_iff_iff]; simp_all [manyC, ByteArray.toList_eq]; omega)

set_option maxRecDepth 100000 in
theorem many_literal (tx : ByteArray) (ad : Option Addr) (m cp : Nat) (hm : m ≤ maxLen) (ht : tx.size ≤ maxLen) (w : World) :
    Calls Tryd.prog 31 #[.agg #[.string ⟨#[108, 105, 116, 101, 114, 97, 108]⟩, .string tx, .slice ad m cp]] w (MPost 1 tx m w) := by
  have hm' : m ≤ 9223372036854775807 := hm
  have HM := Lib.hid hm
  have HT := Lib.hid ht
  clear hm ht
  go_enter Tryd.func31, Tryd.ntmps31
  go_wp2_with fail
  all_goals first
    | (refine StrsAt_row ?_ (by decide); exact hbk)
    | go_ret
  all_goals refine mpost ?_ ?_
  all_goals first
    | exact (Below.refl _ _).alloc (Nat.le_refl _) _
    | exact ((Below.refl _ _).alloc (Nat.le_refl _) _).alloc (by simp) _
    | exact ((Below.refl _ _).alloc (Nat.le_refl _) _).trans (hb.mono (by simp))
    | (rw [Bool.eq_iff_iff]; simp_all [manyC]; done)
    | (rw [Bool.eq_iff_iff]; simp_all [manyC]; omega)
    | (rw [Bool.eq_iff_iff]; simp_all [manyC, ByteArray.toList_eq]; done)
    | (rw [Bool.eq_iff_iff]; simp_all [manyC, ByteArray.toList_eq]; omega)

set_option maxRecDepth 100000 in
theorem many_paren (tx : ByteArray) (ad : Option Addr) (m cp : Nat) (hm : m ≤ maxLen) (ht : tx.size ≤ maxLen) (w : World) :
    Calls Tryd.prog 31 #[.agg #[.string ⟨#[112, 97, 114, 101, 110]⟩, .string tx, .slice ad m cp]] w (MPost 2 tx m w) := by
  have hm' : m ≤ 9223372036854775807 := hm
  have HM := Lib.hid hm
  have HT := Lib.hid ht
  clear hm ht
  go_enter Tryd.func31, Tryd.ntmps31
  go_wp2_with fail
  all_goals first
    | (refine StrsAt_row ?_ (by decide); exact hbk)
    | go_ret
  all_goals refine mpost ?_ ?_
  all_goals first
    | exact (Below.refl _ _).alloc (Nat.le_refl _) _
    | exact ((Below.refl _ _).alloc (Nat.le_refl _) _).alloc (by simp) _
    | exact ((Below.refl _ _).alloc (Nat.le_refl _) _).trans (hb.mono (by simp))
    | (rw [Bool.eq_iff_iff]; simp_all [manyC]; done)
    | (rw [Bool.eq_iff_iff]; simp_all [manyC]; omega)
    | (rw [Bool.eq_iff_iff]; simp_all [manyC, ByteArray.toList_eq]; done)
    | (rw [Bool.eq_iff_iff]; simp_all [manyC, ByteArray.toList_eq]; omega)

set_option maxRecDepth 100000 in
theorem many_star (tx : ByteArray) (ad : Option Addr) (m cp : Nat) (hm : m ≤ maxLen) (ht : tx.size ≤ maxLen) (w : World) :
    Calls Tryd.prog 31 #[.agg #[.string ⟨#[115, 116, 97, 114]⟩, .string tx, .slice ad m cp]] w (MPost 3 tx m w) := by
  have hm' : m ≤ 9223372036854775807 := hm
  have HM := Lib.hid hm
  have HT := Lib.hid ht
  clear hm ht
  go_enter Tryd.func31, Tryd.ntmps31
  go_wp2_with fail
  all_goals first
    | (refine StrsAt_row ?_ (by decide); exact hbk)
    | go_ret
  all_goals refine mpost ?_ ?_
  all_goals first
    | exact (Below.refl _ _).alloc (Nat.le_refl _) _
    | exact ((Below.refl _ _).alloc (Nat.le_refl _) _).alloc (by simp) _
    | exact ((Below.refl _ _).alloc (Nat.le_refl _) _).trans (hb.mono (by simp))
    | (rw [Bool.eq_iff_iff]; simp_all [manyC]; done)
    | (rw [Bool.eq_iff_iff]; simp_all [manyC]; omega)
    | (rw [Bool.eq_iff_iff]; simp_all [manyC, ByteArray.toList_eq]; done)
    | (rw [Bool.eq_iff_iff]; simp_all [manyC, ByteArray.toList_eq]; omega)

set_option maxRecDepth 100000 in
theorem many_unary (tx : ByteArray) (ad : Option Addr) (m cp : Nat) (hm : m ≤ maxLen) (ht : tx.size ≤ maxLen) (w : World) :
    Calls Tryd.prog 31 #[.agg #[.string ⟨#[117, 110, 97, 114, 121]⟩, .string tx, .slice ad m cp]] w (MPost 4 tx m w) := by
  have hm' : m ≤ 9223372036854775807 := hm
  have HM := Lib.hid hm
  have HT := Lib.hid ht
  clear hm ht
  have hbk := Blk.new (w.alloc (.cells #[.string ⟨#[117, 110, 97, 114, 121]⟩, .string tx, .slice ad m cp] 32)) 9 (unOps.map Value.string).toArray
  rw [World.size_alloc] at hbk
  go_enter Tryd.func31, Tryd.ntmps31
  go_wp2_with (go_at_call 8; refine (Contains_any _ _ unOps _ _ ?c0 _ rfl).mono ?_; rotate_left; rintro e w' ⟨rfl, rfl⟩)
  all_goals first
    | (refine StrsAt_row ?_ (by decide); exact hbk)
    | go_ret
  all_goals refine mpost ?_ ?_
  all_goals first
    | exact (Below.refl _ _).alloc (Nat.le_refl _) _
    | exact ((Below.refl _ _).alloc (Nat.le_refl _) _).alloc (by simp) _
    | exact ((Below.refl _ _).alloc (Nat.le_refl _) _).trans (hb.mono (by simp))
    | (rw [Bool.eq_iff_iff]; simp_all [manyC]; done)
    | (rw [Bool.eq_iff_iff]; simp_all [manyC]; omega)
    | (rw [Bool.eq_iff_iff]; simp_all [manyC, ByteArray.toList_eq]; done)
    | (rw [Bool.eq_iff_iff]; simp_all [manyC, ByteArray.toList_eq]; omega)

set_option maxRecDepth 100000 in
theorem many_binary (tx : ByteArray) (ad : Option Addr) (m cp : Nat) (hm : m ≤ maxLen) (ht : tx.size ≤ maxLen) (w : World) :
    Calls Tryd.prog 31 #[.agg #[.string ⟨#[98, 105, 110, 97, 114, 121]⟩, .string tx, .slice ad m cp]] w (MPost 5 tx m w) := by
  have hm' : m ≤ 9223372036854775807 := hm
  have HM := Lib.hid hm
  have HT := Lib.hid ht
  clear hm ht
  go_enter Tryd.func31, Tryd.ntmps31
  go_wp2_with (go_at_call 9; refine (Prec_any _ _).mono ?_; rintro e w' ⟨rfl, hb⟩)
  all_goals first
    | (refine StrsAt_row ?_ (by decide); exact hbk)
    | go_ret
  all_goals refine mpost ?_ ?_
  all_goals first
    | exact (Below.refl _ _).alloc (Nat.le_refl _) _
    | exact ((Below.refl _ _).alloc (Nat.le_refl _) _).alloc (by simp) _
    | exact ((Below.refl _ _).alloc (Nat.le_refl _) _).trans (hb.mono (by simp))
    | (rw [Bool.eq_iff_iff]; simp_all [manyC]; done)
    | (rw [Bool.eq_iff_iff]; simp_all [manyC]; omega)
    | (rw [Bool.eq_iff_iff]; simp_all [manyC, ByteArray.toList_eq]; done)
    | (rw [Bool.eq_iff_iff]; simp_all [manyC, ByteArray.toList_eq]; omega)

set_option maxRecDepth 100000 in
theorem many_select (tx : ByteArray) (ad : Option Addr) (m cp : Nat) (hm : m ≤ maxLen) (ht : tx.size ≤ maxLen) (w : World) :
    Calls Tryd.prog 31 #[.agg #[.string ⟨#[115, 101, 108, 101, 99, 116]⟩, .string tx, .slice ad m cp]] w (MPost 6 tx m w) := by
  have hm' : m ≤ 9223372036854775807 := hm
  have HM := Lib.hid hm
  have HT := Lib.hid ht
  clear hm ht
  go_enter Tryd.func31, Tryd.ntmps31
  go_wp2_with fail
  all_goals first
    | (refine StrsAt_row ?_ (by decide); exact hbk)
    | go_ret
  all_goals refine mpost ?_ ?_
  all_goals first
    | exact (Below.refl _ _).alloc (Nat.le_refl _) _
    | exact ((Below.refl _ _).alloc (Nat.le_refl _) _).alloc (by simp) _
    | exact ((Below.refl _ _).alloc (Nat.le_refl _) _).trans (hb.mono (by simp))
    | (rw [Bool.eq_iff_iff]; simp_all [manyC]; done)
    | (rw [Bool.eq_iff_iff]; simp_all [manyC]; omega)
    | (rw [Bool.eq_iff_iff]; simp_all [manyC, ByteArray.toList_eq]; done)
    | (rw [Bool.eq_iff_iff]; simp_all [manyC, ByteArray.toList_eq]; omega)

set_option maxRecDepth 100000 in
theorem many_index (tx : ByteArray) (ad : Option Addr) (m cp : Nat) (hm : m ≤ maxLen) (ht : tx.size ≤ maxLen) (w : World) :
    Calls Tryd.prog 31 #[.agg #[.string ⟨#[105, 110, 100, 101, 120]⟩, .string tx, .slice ad m cp]] w (MPost 7 tx m w) := by
  have hm' : m ≤ 9223372036854775807 := hm
  have HM := Lib.hid hm
  have HT := Lib.hid ht
  clear hm ht
  go_enter Tryd.func31, Tryd.ntmps31
  go_wp2_with fail
  all_goals first
    | (refine StrsAt_row ?_ (by decide); exact hbk)
    | go_ret
  all_goals refine mpost ?_ ?_
  all_goals first
    | exact (Below.refl _ _).alloc (Nat.le_refl _) _
    | exact ((Below.refl _ _).alloc (Nat.le_refl _) _).alloc (by simp) _
    | exact ((Below.refl _ _).alloc (Nat.le_refl _) _).trans (hb.mono (by simp))
    | (rw [Bool.eq_iff_iff]; simp_all [manyC]; done)
    | (rw [Bool.eq_iff_iff]; simp_all [manyC]; omega)
    | (rw [Bool.eq_iff_iff]; simp_all [manyC, ByteArray.toList_eq]; done)
    | (rw [Bool.eq_iff_iff]; simp_all [manyC, ByteArray.toList_eq]; omega)

set_option maxRecDepth 100000 in
theorem many_assert (tx : ByteArray) (ad : Option Addr) (m cp : Nat) (hm : m ≤ maxLen) (ht : tx.size ≤ maxLen) (w : World) :
    Calls Tryd.prog 31 #[.agg #[.string ⟨#[97, 115, 115, 101, 114, 116]⟩, .string tx, .slice ad m cp]] w (MPost 8 tx m w) := by
  have hm' : m ≤ 9223372036854775807 := hm
  have HM := Lib.hid hm
  have HT := Lib.hid ht
  clear hm ht
  go_enter Tryd.func31, Tryd.ntmps31
  go_wp2_with fail
  all_goals first
    | (refine StrsAt_row ?_ (by decide); exact hbk)
    | go_ret
  all_goals refine mpost ?_ ?_
  all_goals first
    | exact (Below.refl _ _).alloc (Nat.le_refl _) _
    | exact ((Below.refl _ _).alloc (Nat.le_refl _) _).alloc (by simp) _
    | exact ((Below.refl _ _).alloc (Nat.le_refl _) _).trans (hb.mono (by simp))
    | (rw [Bool.eq_iff_iff]; simp_all [manyC]; done)
    | (rw [Bool.eq_iff_iff]; simp_all [manyC]; omega)
    | (rw [Bool.eq_iff_iff]; simp_all [manyC, ByteArray.toList_eq]; done)
    | (rw [Bool.eq_iff_iff]; simp_all [manyC, ByteArray.toList_eq]; omega)

set_option maxRecDepth 100000 in
theorem many_key (tx : ByteArray) (ad : Option Addr) (m cp : Nat) (hm : m ≤ maxLen) (ht : tx.size ≤ maxLen) (w : World) :
    Calls Tryd.prog 31 #[.agg #[.string ⟨#[107, 101, 121]⟩, .string tx, .slice ad m cp]] w (MPost 9 tx m w) := by
  have hm' : m ≤ 9223372036854775807 := hm
  have HM := Lib.hid hm
  have HT := Lib.hid ht
  clear hm ht
  go_enter Tryd.func31, Tryd.ntmps31
  go_wp2_with fail
  all_goals first
    | (refine StrsAt_row ?_ (by decide); exact hbk)
    | go_ret
  all_goals refine mpost ?_ ?_
  all_goals first
    | exact (Below.refl _ _).alloc (Nat.le_refl _) _
    | exact ((Below.refl _ _).alloc (Nat.le_refl _) _).alloc (by simp) _
    | exact ((Below.refl _ _).alloc (Nat.le_refl _) _).trans (hb.mono (by simp))
    | (rw [Bool.eq_iff_iff]; simp_all [manyC]; done)
    | (rw [Bool.eq_iff_iff]; simp_all [manyC]; omega)
    | (rw [Bool.eq_iff_iff]; simp_all [manyC, ByteArray.toList_eq]; done)
    | (rw [Bool.eq_iff_iff]; simp_all [manyC, ByteArray.toList_eq]; omega)

set_option maxRecDepth 100000 in
theorem many_map (tx : ByteArray) (ad : Option Addr) (m cp : Nat) (hm : m ≤ maxLen) (ht : tx.size ≤ maxLen) (w : World) :
    Calls Tryd.prog 31 #[.agg #[.string ⟨#[109, 97, 112]⟩, .string tx, .slice ad m cp]] w (MPost 10 tx m w) := by
  have hm' : m ≤ 9223372036854775807 := hm
  have HM := Lib.hid hm
  have HT := Lib.hid ht
  clear hm ht
  go_enter Tryd.func31, Tryd.ntmps31
  go_wp2_with fail
  all_goals first
    | (refine StrsAt_row ?_ (by decide); exact hbk)
    | go_ret
  all_goals refine mpost ?_ ?_
  all_goals first
    | exact (Below.refl _ _).alloc (Nat.le_refl _) _
    | exact ((Below.refl _ _).alloc (Nat.le_refl _) _).alloc (by simp) _
    | exact ((Below.refl _ _).alloc (Nat.le_refl _) _).trans (hb.mono (by simp))
    | (rw [Bool.eq_iff_iff]; simp_all [manyC]; done)
    | (rw [Bool.eq_iff_iff]; simp_all [manyC]; omega)
    | (rw [Bool.eq_iff_iff]; simp_all [manyC, ByteArray.toList_eq]; done)
    | (rw [Bool.eq_iff_iff]; simp_all [manyC, ByteArray.toList_eq]; omega)

set_option maxRecDepth 100000 in
theorem many_slice (tx : ByteArray) (ad : Option Addr) (m cp : Nat) (hm : m ≤ maxLen) (ht : tx.size ≤ maxLen) (w : World) :
    Calls Tryd.prog 31 #[.agg #[.string ⟨#[115, 108, 105, 99, 101]⟩, .string tx, .slice ad m cp]] w (MPost 11 tx m w) := by
  have hm' : m ≤ 9223372036854775807 := hm
  have HM := Lib.hid hm
  have HT := Lib.hid ht
  clear hm ht
  go_enter Tryd.func31, Tryd.ntmps31
  go_wp2_with (go_at_call 38; refine (wellSlice_any _ _ _ _ _ HM.out HT.out _).mono ?_; rintro e w' ⟨rfl, hb⟩)
  all_goals first
    | (refine StrsAt_row ?_ (by decide); exact hbk)
    | go_ret
  all_goals refine mpost ?_ ?_
  all_goals first
    | exact (Below.refl _ _).alloc (Nat.le_refl _) _
    | exact ((Below.refl _ _).alloc (Nat.le_refl _) _).alloc (by simp) _
    | exact ((Below.refl _ _).alloc (Nat.le_refl _) _).trans (hb.mono (by simp))
    | (rw [Bool.eq_iff_iff]; simp_all [manyC]; done)
    | (rw [Bool.eq_iff_iff]; simp_all [manyC]; omega)
    | (rw [Bool.eq_iff_iff]; simp_all [manyC, ByteArray.toList_eq]; done)
    | (rw [Bool.eq_iff_iff]; simp_all [manyC, ByteArray.toList_eq]; omega)

set_option maxRecDepth 100000 in
theorem many_call (tx : ByteArray) (ad : Option Addr) (m cp : Nat) (hm : m ≤ maxLen) (ht : tx.size ≤ maxLen) (w : World) :
    Calls Tryd.prog 31 #[.agg #[.string ⟨#[99, 97, 108, 108]⟩, .string tx, .slice ad m cp]] w (MPost 12 tx m w) := by
  have hm' : m ≤ 9223372036854775807 := hm
  have HM := Lib.hid hm
  have HT := Lib.hid ht
  clear hm ht
  go_enter Tryd.func31, Tryd.ntmps31
  go_wp2_with fail
  all_goals first
    | (refine StrsAt_row ?_ (by decide); exact hbk)
    | go_ret
  all_goals refine mpost ?_ ?_
  all_goals first
    | exact (Below.refl _ _).alloc (Nat.le_refl _) _
    | exact ((Below.refl _ _).alloc (Nat.le_refl _) _).alloc (by simp) _
    | exact ((Below.refl _ _).alloc (Nat.le_refl _) _).trans (hb.mono (by simp))
    | (rw [Bool.eq_iff_iff]; simp_all [manyC]; done)
    | (rw [Bool.eq_iff_iff]; simp_all [manyC]; omega)
    | (rw [Bool.eq_iff_iff]; simp_all [manyC, ByteArray.toList_eq]; done)
    | (rw [Bool.eq_iff_iff]; simp_all [manyC, ByteArray.toList_eq]; omega)

set_option maxRecDepth 100000 in
theorem many_composite (tx : ByteArray) (ad : Option Addr) (m cp : Nat) (hm : m ≤ maxLen) (ht : tx.size ≤ maxLen) (w : World) :
    Calls Tryd.prog 31 #[.agg #[.string ⟨#[99, 111, 109, 112, 111, 115, 105, 116, 101]⟩, .string tx, .slice ad m cp]] w (MPost 13 tx m w) := by
  have hm' : m ≤ 9223372036854775807 := hm
  have HM := Lib.hid hm
  have HT := Lib.hid ht
  clear hm ht
  go_enter Tryd.func31, Tryd.ntmps31
  go_wp2_with fail
  all_goals first
    | (refine StrsAt_row ?_ (by decide); exact hbk)
    | go_ret
  all_goals refine mpost ?_ ?_
  all_goals first
    | exact (Below.refl _ _).alloc (Nat.le_refl _) _
    | exact ((Below.refl _ _).alloc (Nat.le_refl _) _).alloc (by simp) _
    | exact ((Below.refl _ _).alloc (Nat.le_refl _) _).trans (hb.mono (by simp))
    | (rw [Bool.eq_iff_iff]; simp_all [manyC]; done)
    | (rw [Bool.eq_iff_iff]; simp_all [manyC]; omega)
    | (rw [Bool.eq_iff_iff]; simp_all [manyC, ByteArray.toList_eq]; done)
    | (rw [Bool.eq_iff_iff]; simp_all [manyC, ByteArray.toList_eq]; omega)

set_option maxRecDepth 100000 in
theorem many_array (tx : ByteArray) (ad : Option Addr) (m cp : Nat) (hm : m ≤ maxLen) (ht : tx.size ≤ maxLen) (w : World) :
    Calls Tryd.prog 31 #[.agg #[.string ⟨#[97, 114, 114, 97, 121]⟩, .string tx, .slice ad m cp]] w (MPost 14 tx m w) := by
  have hm' : m ≤ 9223372036854775807 := hm
  have HM := Lib.hid hm
  have HT := Lib.hid ht
  clear hm ht
  go_enter Tryd.func31, Tryd.ntmps31
  go_wp2_with fail
  all_goals first
    | (refine StrsAt_row ?_ (by decide); exact hbk)
    | go_ret
  all_goals refine mpost ?_ ?_
  all_goals first
    | exact (Below.refl _ _).alloc (Nat.le_refl _) _
    | exact ((Below.refl _ _).alloc (Nat.le_refl _) _).alloc (by simp) _
    | exact ((Below.refl _ _).alloc (Nat.le_refl _) _).trans (hb.mono (by simp))
    | (rw [Bool.eq_iff_iff]; simp_all [manyC]; done)
    | (rw [Bool.eq_iff_iff]; simp_all [manyC]; omega)
    | (rw [Bool.eq_iff_iff]; simp_all [manyC, ByteArray.toList_eq]; done)
    | (rw [Bool.eq_iff_iff]; simp_all [manyC, ByteArray.toList_eq]; omega)

set_option maxRecDepth 100000 in
theorem many_other (kd tx : ByteArray) (ad : Option Addr) (m cp : Nat) (hm : m ≤ maxLen) (h0 : (kd.toList == [110, 97, 109, 101]) = false) (h1 : (kd.toList == [108, 105, 116, 101, 114, 97, 108]) = false) (h2 : (kd.toList == [112, 97, 114, 101, 110]) = false) (h3 : (kd.toList == [115, 116, 97, 114]) = false) (h4 : (kd.toList == [117, 110, 97, 114, 121]) = false) (h5 : (kd.toList == [98, 105, 110, 97, 114, 121]) = false) (h6 : (kd.toList == [115, 101, 108, 101, 99, 116]) = false) (h7 : (kd.toList == [105, 110, 100, 101, 120]) = false) (h8 : (kd.toList == [97, 115, 115, 101, 114, 116]) = false) (h9 : (kd.toList == [107, 101, 121]) = false) (h10 : (kd.toList == [109, 97, 112]) = false) (h11 : (kd.toList == [115, 108, 105, 99, 101]) = false) (h12 : (kd.toList == [99, 97, 108, 108]) = false) (h13 : (kd.toList == [99, 111, 109, 112, 111, 115, 105, 116, 101]) = false) (h14 : (kd.toList == [97, 114, 114, 97, 121]) = false) (w : World) :
    Calls Tryd.prog 31 #[.agg #[.string kd, .string tx, .slice ad m cp]] w (MPost 15 tx m w) := by
  have hm' : m ≤ 9223372036854775807 := hm
  clear hm
  go_enter Tryd.func31, Tryd.ntmps31
  go_wp2_with fail
  go_ret
  exact mpost rfl ((Below.refl _ _).alloc (Nat.le_refl _) _)

/-- spec.many, at every node. -/
theorem many_any (n : Nd) (hm : n.ks.length ≤ maxLen) (ht : n.tx.size ≤ maxLen) (w : World) :
    Calls Tryd.prog 31 #[n.val] w fun e w' => e = .returned (.bool n.manyB) ∧ Below w.heap.size w w' := by
  obtain ⟨kd, tx, ad, cp, ks⟩ := n
  dsimp only at hm ht
  show Calls _ _ #[.agg #[.string kd, .string tx, .slice ad ks.length cp]] w fun e w' => e = .returned (.bool (manyC (kcode kd) tx ks.length)) ∧ Below w.heap.size w w'
  by_cases hc : kcode kd < 15
  · have h15 : kcode kd = 0 ∨ kcode kd = 1 ∨ kcode kd = 2 ∨ kcode kd = 3 ∨ kcode kd = 4 ∨ kcode kd = 5 ∨ kcode kd = 6 ∨ kcode kd = 7 ∨ kcode kd = 8 ∨ kcode kd = 9 ∨ kcode kd = 10 ∨ kcode kd = 11 ∨ kcode kd = 12 ∨ kcode kd = 13 ∨ kcode kd = 14 := by omega
    rcases h15 with h | h | h | h | h | h | h | h | h | h | h | h | h | h | h
    · rw [h]; obtain rfl := kind_eq h (by decide) ⟨#[110, 97, 109, 101]⟩ rfl; exact many_name tx ad _ cp hm ht w
    · rw [h]; obtain rfl := kind_eq h (by decide) ⟨#[108, 105, 116, 101, 114, 97, 108]⟩ rfl; exact many_literal tx ad _ cp hm ht w
    · rw [h]; obtain rfl := kind_eq h (by decide) ⟨#[112, 97, 114, 101, 110]⟩ rfl; exact many_paren tx ad _ cp hm ht w
    · rw [h]; obtain rfl := kind_eq h (by decide) ⟨#[115, 116, 97, 114]⟩ rfl; exact many_star tx ad _ cp hm ht w
    · rw [h]; obtain rfl := kind_eq h (by decide) ⟨#[117, 110, 97, 114, 121]⟩ rfl; exact many_unary tx ad _ cp hm ht w
    · rw [h]; obtain rfl := kind_eq h (by decide) ⟨#[98, 105, 110, 97, 114, 121]⟩ rfl; exact many_binary tx ad _ cp hm ht w
    · rw [h]; obtain rfl := kind_eq h (by decide) ⟨#[115, 101, 108, 101, 99, 116]⟩ rfl; exact many_select tx ad _ cp hm ht w
    · rw [h]; obtain rfl := kind_eq h (by decide) ⟨#[105, 110, 100, 101, 120]⟩ rfl; exact many_index tx ad _ cp hm ht w
    · rw [h]; obtain rfl := kind_eq h (by decide) ⟨#[97, 115, 115, 101, 114, 116]⟩ rfl; exact many_assert tx ad _ cp hm ht w
    · rw [h]; obtain rfl := kind_eq h (by decide) ⟨#[107, 101, 121]⟩ rfl; exact many_key tx ad _ cp hm ht w
    · rw [h]; obtain rfl := kind_eq h (by decide) ⟨#[109, 97, 112]⟩ rfl; exact many_map tx ad _ cp hm ht w
    · rw [h]; obtain rfl := kind_eq h (by decide) ⟨#[115, 108, 105, 99, 101]⟩ rfl; exact many_slice tx ad _ cp hm ht w
    · rw [h]; obtain rfl := kind_eq h (by decide) ⟨#[99, 97, 108, 108]⟩ rfl; exact many_call tx ad _ cp hm ht w
    · rw [h]; obtain rfl := kind_eq h (by decide) ⟨#[99, 111, 109, 112, 111, 115, 105, 116, 101]⟩ rfl; exact many_composite tx ad _ cp hm ht w
    · rw [h]; obtain rfl := kind_eq h (by decide) ⟨#[97, 114, 114, 97, 121]⟩ rfl; exact many_array tx ad _ cp hm ht w
  · have h16 : manyC (kcode kd) tx ks.length = manyC 15 tx ks.length := by
      unfold manyC
      simp only [show ¬ kcode kd ≤ 1 by omega, show ¬ kcode kd ≤ 3 by omega, show ¬ kcode kd = 4 by omega, show ¬ kcode kd = 5 by omega, show ¬ kcode kd = 6 by omega, show ¬ kcode kd ≤ 10 by omega, show ¬ kcode kd = 11 by omega, show ¬ kcode kd = 12 by omega, show ¬ kcode kd = 13 by omega, show ¬ kcode kd = 14 by omega, if_false]
      rfl
    rw [h16]
    have hn : ∀ k ∈ kindList, (kd.toList == k) = false := by
      intro k hk
      rw [ByteArray.toList_eq, beq_eq_false_iff_ne]
      intro e
      exact hc (by unfold kcode; rw [e]; exact List.idxOf_lt_length_of_mem hk)
    exact many_other kd tx ad _ cp hm (hn kName (by decide)) (hn kLiteral (by decide)) (hn kParen (by decide)) (hn kStar (by decide)) (hn kUnary (by decide)) (hn kBinary (by decide)) (hn kSelect (by decide)) (hn kIndex (by decide)) (hn kAssert (by decide)) (hn kKey (by decide)) (hn kMap (by decide)) (hn kSlice (by decide)) (hn kCall (by decide)) (hn kComposite (by decide)) (hn kArray (by decide)) w
end Go.Proofs.YtnpnmfblcogkmaaDoor
