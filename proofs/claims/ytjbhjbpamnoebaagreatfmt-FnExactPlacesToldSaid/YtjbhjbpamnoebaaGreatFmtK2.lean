/-
  spec.wellSlice, spec.many: walked once for each kind of node. (Printed by genmany.py.)
  laws.zzFits1, spec.short, spec.shaped, spec.count, spec.few, spec.Shaped: walked once each, for every tree that lies in memory.
  spec.count, spec.few, spec.Shaped: walked once each, for every tree that lies in memory.
-/
import Derived.Test.YtjbhjbpamnoebaaGreatFmtK1
import Derived.Maps.OwnSet
import Derived.OwnWalk
import Derived.Carry
import Derived.Deep.DeepMust
import Derived.BigQuiet
import Derived.Deep.QuietTactic
namespace Go.Proofs.YtjbhjbpamnoebaaGreatFmt
open Go.RowKit Go.Maps Go.WideMaps

/-! ### wellSlice: a map of the call's own -/
theorem wpList_insert_own {H : Type} {P : Program} (w : World) {ops : Array Oper} {rest : List Oper} {o : Oper} {a : Act} {Q : Exit → Act → World → Prop}
    (hg : o.guard = none) (m x v : Operand) (t : TypeId) (hop : o.op = Op.insert t m x v)
    (k e : TypeId) (K : Keyed P k) (ht : P.underlying t = some (.map k e)) (R : Value → Option (DataW H × List MemPlace)) (b n : Nat) (D : DataW H)
    (hm : a.eval m = .map (some b)) (hown : w.ownsMap P k R b n D) (hn : n < maxLen) (key val : Value) (kl : Lit) (hx : a.eval x = key) (hv : a.eval v = val) (hkey : keyOf P k key = some kl)
    (d : DataW H) (ps : List MemPlace) (hval : R val = some (d, ps))
    (hK : ∀ w', w'.ownsMap P k R b (n + 1) (D.put kl d) → w.grownBy w' (some b) → wpList P ops Q rest (a.put o.dst undef) w') :
    wpList P ops Q (o :: rest) a w := by
  refine wpList_plain hg fun K' hK' => ?_
  obtain ⟨w', hrun, r1, r2⟩ := hown.update K ht hn hkey hval
  unfold Oper.wp
  simp [execOp, hop, hm, hx, hv, hrun, Result.andThen]
  exact hK' _ _ (hK w' r1 r2)

theorem strLaw : Keyed Tryz.prog 9 := string_keyed Tryz.underlying9
theorem zeroInt (w : World) : (zeroValue 3).run Tryz.prog w = .ok (.int .i64 0) w := by kernel_rfl
/-- The map of wellSlice, entry by entry. -/
def slD0 : DataW Unit := .map []
def slD1 : DataW Unit := slD0.put (.string []) (.lit (.int .i64 0))
def slD2 : DataW Unit := slD1.put (.string [108]) (.lit (.int .i64 1))
def slD3 : DataW Unit := slD2.put (.string [104]) (.lit (.int .i64 1))
def slD4 : DataW Unit := slD3.put (.string [108, 104]) (.lit (.int .i64 2))
def slD5 : DataW Unit := slD4.put (.string [104, 109, 115]) (.lit (.int .i64 2))
def slD6 : DataW Unit := slD5.put (.string [108, 104, 109, 115]) (.lit (.int .i64 3))
theorem slD6_has (l : List UInt8) : Maps.has slD6 (.string l) = (slN l).isSome := by
  unfold slN
  by_cases h0 : l = []
  · subst h0; kernel_rfl
  by_cases h1 : l = [108]
  · subst h1; kernel_rfl
  by_cases h2 : l = [104]
  · subst h2; kernel_rfl
  by_cases h3 : l = [108, 104]
  · subst h3; kernel_rfl
  by_cases h4 : l = [104, 109, 115]
  · subst h4; kernel_rfl
  by_cases h5 : l = [108, 104, 109, 115]
  · subst h5; kernel_rfl
  rw [if_neg h0, if_neg h1, if_neg h2, if_neg h3, if_neg h4, if_neg h5]
  unfold slD6 slD5 slD4 slD3 slD2 slD1
  rw [Maps.has_put_other (by simpa using h5), Maps.has_put_other (by simpa using h4), Maps.has_put_other (by simpa using h3), Maps.has_put_other (by simpa using h2), Maps.has_put_other (by simpa using h1), Maps.has_put_other (by simpa using h0)]
  rfl
theorem slD6_at (l : List UInt8) (m : Nat) (h : slN l = some m) (c : Int) (hc : slD6.atKey (.string l) (.lit (.int .i64 0)) = .lit (.int .i64 c)) : c = m := by
  have key : slD6.atKey (.string l) (.lit (.int .i64 0)) = .lit (.int .i64 m) := by
    unfold slN at h
    by_cases h0 : l = []
    · subst h0; simp at h; subst h; kernel_rfl
    by_cases h1 : l = [108]
    · subst h1; simp at h; subst h; kernel_rfl
    by_cases h2 : l = [104]
    · subst h2; simp at h; subst h; kernel_rfl
    by_cases h3 : l = [108, 104]
    · subst h3; simp at h; subst h; kernel_rfl
    by_cases h4 : l = [104, 109, 115]
    · subst h4; simp at h; subst h; kernel_rfl
    by_cases h5 : l = [108, 104, 109, 115]
    · subst h5; simp at h; subst h; kernel_rfl
    rw [if_neg h0, if_neg h1, if_neg h2, if_neg h3, if_neg h4, if_neg h5] at h
    cases h
  rw [key] at hc
  simpa using hc.symm

set_option maxRecDepth 100000 in
theorem wellSlice_any (kd tx : ByteArray) (ad : Option Addr) (m cp : Nat) (hm : m ≤ maxLen) (ht : tx.size ≤ maxLen) (w : World) :
    Calls Tryz.prog 55 #[.agg #[.string kd, .string tx, .slice ad m cp]] w fun e w' => e = .returned (.bool (wellSl tx m)) ∧ Below w.heap.size w w' := by
  have hmm := @run_makeMap Tryz.prog
  have hm' : m ≤ 9223372036854775807 := hm
  have HT := Lib.hid ht
  have k0 : keyOf Tryz.prog 9 (.string ⟨#[]⟩) = some (.string []) := keyOf_string_mk Tryz.underlying9 (by decide)
  have k1 : keyOf Tryz.prog 9 (.string ⟨#[108]⟩) = some (.string [108]) := keyOf_string_mk Tryz.underlying9 (by decide)
  have k2 : keyOf Tryz.prog 9 (.string ⟨#[104]⟩) = some (.string [104]) := keyOf_string_mk Tryz.underlying9 (by decide)
  have k3 : keyOf Tryz.prog 9 (.string ⟨#[108, 104]⟩) = some (.string [108, 104]) := keyOf_string_mk Tryz.underlying9 (by decide)
  have k4 : keyOf Tryz.prog 9 (.string ⟨#[104, 109, 115]⟩) = some (.string [104, 109, 115]) := keyOf_string_mk Tryz.underlying9 (by decide)
  have k5 : keyOf Tryz.prog 9 (.string ⟨#[108, 104, 109, 115]⟩) = some (.string [108, 104, 109, 115]) := keyOf_string_mk Tryz.underlying9 (by decide)
  have K0 := Lib.hid k0
  have K1 := Lib.hid k1
  have K2 := Lib.hid k2
  have K3 := Lib.hid k3
  have K4 := Lib.hid k4
  have K5 := Lib.hid k5
  clear k0 k1 k2 k3 k4 k5 ht hm
  have hkey : keyOf Tryz.prog 9 (.string tx) = some (.string tx.data.toList) := keyOf_string_mk Tryz.underlying9 HT.out
  have HK := Lib.hid hkey
  have hh := slD6_has tx.data.toList
  clear hkey
  unfold wellSl
  cases hs : slN tx.data.toList with
  | none =>
    rw [hs] at hh
    simp only [Option.isSome_none] at hh
    clear hs
    have hown0 : ((w.alloc (.cells #[.string kd, .string tx, .slice ad m cp] 24)).alloc (.map #[] 0)).ownsMap Tryz.prog 9 (plainElem (H := Unit) Tryz.prog 3) (w.heap.size + 1) 0 slD0 := by
      have := World.ownsMap_made (w.alloc (.cells #[.string kd, .string tx, .slice ad m cp] 24)) Tryz.prog 9 (plainElem (H := Unit) Tryz.prog 3)
      rwa [World.size_alloc] at this
    have hb0 : Below w.heap.size w ((w.alloc (.cells #[.string kd, .string tx, .slice ad m cp] 24)).alloc (.map #[] 0)) := ((Below.refl _ _).alloc (Nat.le_refl _) _).alloc (by simp) _
    have hk0 : Blk ((w.alloc (.cells #[.string kd, .string tx, .slice ad m cp] 24)).alloc (.map #[] 0)) w.heap.size 24 #[.string kd, .string tx, .slice ad m cp] := (Blk.new _ _ _).alloc _
    go_enter Tryz.func55, Tryz.ntmps55
    go_wp2_with (first
      | ((with_reducible refine wpList_insert_own _ rfl (.tmp 6) (.const (.string ⟨#[]⟩)) (.const (.int .i64 0)) 283 rfl 9 3 strLaw Tryz.underlying283 (plainElem (H := Unit) Tryz.prog 3) (w.heap.size + 1) 0 slD0 rfl hown0 (by unfold maxLen; omega) (.string ⟨#[]⟩) (.int .i64 0) (.string []) rfl rfl K0.out (.lit (.int .i64 0)) [] (plainElem_int Tryz.underlying3 (by decide)) ?_); intro w1 hown1' hg1; have hown1 : w1.ownsMap Tryz.prog 9 (plainElem (H := Unit) Tryz.prog 3) (w.heap.size + 1) 1 slD1 := hown1'; clear hown1')
      | ((with_reducible refine wpList_insert_own _ rfl (.tmp 6) (.const (.string ⟨#[108]⟩)) (.const (.int .i64 1)) 283 rfl 9 3 strLaw Tryz.underlying283 (plainElem (H := Unit) Tryz.prog 3) (w.heap.size + 1) 1 slD1 rfl hown1 (by unfold maxLen; omega) (.string ⟨#[108]⟩) (.int .i64 1) (.string [108]) rfl rfl K1.out (.lit (.int .i64 1)) [] (plainElem_int Tryz.underlying3 (by decide)) ?_); intro w2 hown2' hg2; have hown2 : w2.ownsMap Tryz.prog 9 (plainElem (H := Unit) Tryz.prog 3) (w.heap.size + 1) 2 slD2 := hown2'; clear hown2')
      | ((with_reducible refine wpList_insert_own _ rfl (.tmp 6) (.const (.string ⟨#[104]⟩)) (.const (.int .i64 1)) 283 rfl 9 3 strLaw Tryz.underlying283 (plainElem (H := Unit) Tryz.prog 3) (w.heap.size + 1) 2 slD2 rfl hown2 (by unfold maxLen; omega) (.string ⟨#[104]⟩) (.int .i64 1) (.string [104]) rfl rfl K2.out (.lit (.int .i64 1)) [] (plainElem_int Tryz.underlying3 (by decide)) ?_); intro w3 hown3' hg3; have hown3 : w3.ownsMap Tryz.prog 9 (plainElem (H := Unit) Tryz.prog 3) (w.heap.size + 1) 3 slD3 := hown3'; clear hown3')
      | ((with_reducible refine wpList_insert_own _ rfl (.tmp 6) (.const (.string ⟨#[108, 104]⟩)) (.const (.int .i64 2)) 283 rfl 9 3 strLaw Tryz.underlying283 (plainElem (H := Unit) Tryz.prog 3) (w.heap.size + 1) 3 slD3 rfl hown3 (by unfold maxLen; omega) (.string ⟨#[108, 104]⟩) (.int .i64 2) (.string [108, 104]) rfl rfl K3.out (.lit (.int .i64 2)) [] (plainElem_int Tryz.underlying3 (by decide)) ?_); intro w4 hown4' hg4; have hown4 : w4.ownsMap Tryz.prog 9 (plainElem (H := Unit) Tryz.prog 3) (w.heap.size + 1) 4 slD4 := hown4'; clear hown4')
      | ((with_reducible refine wpList_insert_own _ rfl (.tmp 6) (.const (.string ⟨#[104, 109, 115]⟩)) (.const (.int .i64 2)) 283 rfl 9 3 strLaw Tryz.underlying283 (plainElem (H := Unit) Tryz.prog 3) (w.heap.size + 1) 4 slD4 rfl hown4 (by unfold maxLen; omega) (.string ⟨#[104, 109, 115]⟩) (.int .i64 2) (.string [104, 109, 115]) rfl rfl K4.out (.lit (.int .i64 2)) [] (plainElem_int Tryz.underlying3 (by decide)) ?_); intro w5 hown5' hg5; have hown5 : w5.ownsMap Tryz.prog 9 (plainElem (H := Unit) Tryz.prog 3) (w.heap.size + 1) 5 slD5 := hown5'; clear hown5')
      | ((with_reducible refine wpList_insert_own _ rfl (.tmp 6) (.const (.string ⟨#[108, 104, 109, 115]⟩)) (.const (.int .i64 3)) 283 rfl 9 3 strLaw Tryz.underlying283 (plainElem (H := Unit) Tryz.prog 3) (w.heap.size + 1) 5 slD5 rfl hown5 (by unfold maxLen; omega) (.string ⟨#[108, 104, 109, 115]⟩) (.int .i64 3) (.string [108, 104, 109, 115]) rfl rfl K5.out (.lit (.int .i64 3)) [] (plainElem_int Tryz.underlying3 (by decide)) ?_); intro w6 hown6' hg6; have hown6 : w6.ownsMap Tryz.prog 9 (plainElem (H := Unit) Tryz.prog 3) (w.heap.size + 1) 6 slD6 := hown6'; clear hown6'; have hg := grown_trans (grown_trans (grown_trans (grown_trans (grown_trans hg1 hg2) hg3) hg4) hg5) hg6; have hb6 := Lib.hid (hb0.grown hg (by simp; omega) (fun k e => by cases e; omega)); have hk6 := hk0.grown hg (fun e => by simp at e); have c1 : w6.cell? ⟨w.heap.size, 1, none⟩ = some (.string tx) := hk6.cell 1; have c2 : w6.cell? ⟨w.heap.size, 2, none⟩ = some (.slice ad m cp) := hk6.cell 2; clear hk6 hg)
      | (at_lookup; refine wpList_lookup_own_ok_int _ rfl _ _ 283 rfl 9 3 .i64 strLaw Tryz.underlying283 Tryz.underlying3 (zeroInt _) (w.heap.size + 1) 6 slD6 rfl hown6 _ _ rfl HK.out ?_; intro c hat hwc; clear hat hwc))
    go_ret
    exact ⟨rfl, hb6.out⟩
  | some j =>
    rw [hs] at hh
    simp only [Option.isSome_some] at hh
    have hj : j ≤ 3 := by
      unfold slN at hs
      repeat' split at hs
      all_goals simp at hs
      all_goals omega
    have HS := Lib.hid hs
    clear hs
    have hown0 : ((w.alloc (.cells #[.string kd, .string tx, .slice ad m cp] 24)).alloc (.map #[] 0)).ownsMap Tryz.prog 9 (plainElem (H := Unit) Tryz.prog 3) (w.heap.size + 1) 0 slD0 := by
      have := World.ownsMap_made (w.alloc (.cells #[.string kd, .string tx, .slice ad m cp] 24)) Tryz.prog 9 (plainElem (H := Unit) Tryz.prog 3)
      rwa [World.size_alloc] at this
    have hb0 : Below w.heap.size w ((w.alloc (.cells #[.string kd, .string tx, .slice ad m cp] 24)).alloc (.map #[] 0)) := ((Below.refl _ _).alloc (Nat.le_refl _) _).alloc (by simp) _
    have hk0 : Blk ((w.alloc (.cells #[.string kd, .string tx, .slice ad m cp] 24)).alloc (.map #[] 0)) w.heap.size 24 #[.string kd, .string tx, .slice ad m cp] := (Blk.new _ _ _).alloc _
    go_enter Tryz.func55, Tryz.ntmps55
    go_wp2_with (first
      | ((with_reducible refine wpList_insert_own _ rfl (.tmp 6) (.const (.string ⟨#[]⟩)) (.const (.int .i64 0)) 283 rfl 9 3 strLaw Tryz.underlying283 (plainElem (H := Unit) Tryz.prog 3) (w.heap.size + 1) 0 slD0 rfl hown0 (by unfold maxLen; omega) (.string ⟨#[]⟩) (.int .i64 0) (.string []) rfl rfl K0.out (.lit (.int .i64 0)) [] (plainElem_int Tryz.underlying3 (by decide)) ?_); intro w1 hown1' hg1; have hown1 : w1.ownsMap Tryz.prog 9 (plainElem (H := Unit) Tryz.prog 3) (w.heap.size + 1) 1 slD1 := hown1'; clear hown1')
      | ((with_reducible refine wpList_insert_own _ rfl (.tmp 6) (.const (.string ⟨#[108]⟩)) (.const (.int .i64 1)) 283 rfl 9 3 strLaw Tryz.underlying283 (plainElem (H := Unit) Tryz.prog 3) (w.heap.size + 1) 1 slD1 rfl hown1 (by unfold maxLen; omega) (.string ⟨#[108]⟩) (.int .i64 1) (.string [108]) rfl rfl K1.out (.lit (.int .i64 1)) [] (plainElem_int Tryz.underlying3 (by decide)) ?_); intro w2 hown2' hg2; have hown2 : w2.ownsMap Tryz.prog 9 (plainElem (H := Unit) Tryz.prog 3) (w.heap.size + 1) 2 slD2 := hown2'; clear hown2')
      | ((with_reducible refine wpList_insert_own _ rfl (.tmp 6) (.const (.string ⟨#[104]⟩)) (.const (.int .i64 1)) 283 rfl 9 3 strLaw Tryz.underlying283 (plainElem (H := Unit) Tryz.prog 3) (w.heap.size + 1) 2 slD2 rfl hown2 (by unfold maxLen; omega) (.string ⟨#[104]⟩) (.int .i64 1) (.string [104]) rfl rfl K2.out (.lit (.int .i64 1)) [] (plainElem_int Tryz.underlying3 (by decide)) ?_); intro w3 hown3' hg3; have hown3 : w3.ownsMap Tryz.prog 9 (plainElem (H := Unit) Tryz.prog 3) (w.heap.size + 1) 3 slD3 := hown3'; clear hown3')
      | ((with_reducible refine wpList_insert_own _ rfl (.tmp 6) (.const (.string ⟨#[108, 104]⟩)) (.const (.int .i64 2)) 283 rfl 9 3 strLaw Tryz.underlying283 (plainElem (H := Unit) Tryz.prog 3) (w.heap.size + 1) 3 slD3 rfl hown3 (by unfold maxLen; omega) (.string ⟨#[108, 104]⟩) (.int .i64 2) (.string [108, 104]) rfl rfl K3.out (.lit (.int .i64 2)) [] (plainElem_int Tryz.underlying3 (by decide)) ?_); intro w4 hown4' hg4; have hown4 : w4.ownsMap Tryz.prog 9 (plainElem (H := Unit) Tryz.prog 3) (w.heap.size + 1) 4 slD4 := hown4'; clear hown4')
      | ((with_reducible refine wpList_insert_own _ rfl (.tmp 6) (.const (.string ⟨#[104, 109, 115]⟩)) (.const (.int .i64 2)) 283 rfl 9 3 strLaw Tryz.underlying283 (plainElem (H := Unit) Tryz.prog 3) (w.heap.size + 1) 4 slD4 rfl hown4 (by unfold maxLen; omega) (.string ⟨#[104, 109, 115]⟩) (.int .i64 2) (.string [104, 109, 115]) rfl rfl K4.out (.lit (.int .i64 2)) [] (plainElem_int Tryz.underlying3 (by decide)) ?_); intro w5 hown5' hg5; have hown5 : w5.ownsMap Tryz.prog 9 (plainElem (H := Unit) Tryz.prog 3) (w.heap.size + 1) 5 slD5 := hown5'; clear hown5')
      | ((with_reducible refine wpList_insert_own _ rfl (.tmp 6) (.const (.string ⟨#[108, 104, 109, 115]⟩)) (.const (.int .i64 3)) 283 rfl 9 3 strLaw Tryz.underlying283 (plainElem (H := Unit) Tryz.prog 3) (w.heap.size + 1) 5 slD5 rfl hown5 (by unfold maxLen; omega) (.string ⟨#[108, 104, 109, 115]⟩) (.int .i64 3) (.string [108, 104, 109, 115]) rfl rfl K5.out (.lit (.int .i64 3)) [] (plainElem_int Tryz.underlying3 (by decide)) ?_); intro w6 hown6' hg6; have hown6 : w6.ownsMap Tryz.prog 9 (plainElem (H := Unit) Tryz.prog 3) (w.heap.size + 1) 6 slD6 := hown6'; clear hown6'; have hg := grown_trans (grown_trans (grown_trans (grown_trans (grown_trans hg1 hg2) hg3) hg4) hg5) hg6; have hb6 := Lib.hid (hb0.grown hg (by simp; omega) (fun k e => by cases e; omega)); have hk6 := hk0.grown hg (fun e => by simp at e); have c1 : w6.cell? ⟨w.heap.size, 1, none⟩ = some (.string tx) := hk6.cell 1; have c2 : w6.cell? ⟨w.heap.size, 2, none⟩ = some (.slice ad m cp) := hk6.cell 2; clear hk6 hg)
      | (at_lookup; refine wpList_lookup_own_ok_int _ rfl _ _ 283 rfl 9 3 .i64 strLaw Tryz.underlying283 Tryz.underlying3 (zeroInt _) (w.heap.size + 1) 6 slD6 rfl hown6 _ _ rfl HK.out ?_; intro c hat hwc; obtain rfl := slD6_at _ j HS.out c hat; clear hat hwc))
    go_ret
    refine ⟨?_, hb6.out⟩
    show Ending.returned (.bool _) = _
    congr 2
    rw [Bool.eq_iff_iff]
    simp
    omega

/-! ### many, kind by kind -/
theorem StrsAt_row {w : World} {g : Nat} {zs : List ByteArray} (h : Blk w g 9 (zs.map Value.string).toArray) (hm : zs.length ≤ maxLen) : StrsAt w (some ⟨g, 0, none⟩) zs :=
  ⟨hm, fun i hi => ⟨g, 0, rfl, by rw [Nat.zero_add, h.cell]; simp [hi]⟩⟩
def MPost (c : Nat) (tx : ByteArray) (m : Nat) (W : World) (e : Ending) (w' : World) : Prop := e = .returned (.bool (manyC c tx m)) ∧ Below W.heap.size W w'
theorem mpost {c : Nat} {tx : ByteArray} {m : Nat} {W w' : World} {b : Bool} (h : b = manyC c tx m) (hb : Below W.heap.size W w') : MPost c tx m W (.returned (.bool b)) w' := ⟨by rw [h], hb⟩

set_option maxRecDepth 100000 in
theorem many_name (tx : ByteArray) (ad : Option Addr) (m cp : Nat) (hm : m ≤ maxLen) (ht : tx.size ≤ maxLen) (w : World) :
    Calls Tryz.prog 30 #[.agg #[.string ⟨#[110, 97, 109, 101]⟩, .string tx, .slice ad m cp]] w (MPost 0 tx m w) := by
  have hm' : m ≤ 9223372036854775807 := hm
  have HM := Lib.hid hm
  have HT := Lib.hid ht
  clear hm ht
  go_enter Tryz.func30, Tryz.ntmps30
  go_wp2_with fail
  all_goals first
    | (refine StrsAt_row ?_ (by decide); exact hbk)
    | go_ret
  all_goals refine mpost ?_ ?_
  all_goals first
    | exact (Below.refl _ _).alloc (Nat.le_refl _) _
    | exact ((Below.refl _ _).alloc (Nat.le_refl _) _).alloc (by simp) _
    | exact ((Below.refl _ _).alloc (Nat.le_refl _) _).trans (hb.mono (by simp))
    | (rw [Bool.eq_iff_iff]; simp_all [manyC]; done)
    | (rw [Bool.eq_iff_iff]; simp_all [manyC]; omega)
    | (rw [Bool.eq_iff_iff]; simp_all [manyC, ByteArray.toList_eq]; done)
    | (rw [Bool.eq_iff_iff]; simp_all [manyC, ByteArray.toList_eq]; omega)

set_option maxRecDepth 100000 in
theorem many_literal (tx : ByteArray) (ad : Option Addr) (m cp : Nat) (hm : m ≤ maxLen) (ht : tx.size ≤ maxLen) (w : World) :
    Calls Tryz.prog 30 #[.agg #[.string ⟨#[108, 105, 116, 101, 114, 97, 108]⟩, .string tx, .slice ad m cp]] w (MPost 1 tx m w) := by
  have hm' : m ≤ 9223372036854775807 := hm
  have HM := Lib.hid hm
  have HT := Lib.hid ht
  clear hm ht
  go_enter Tryz.func30, Tryz.ntmps30
  go_wp2_with fail
  all_goals first
    | (refine StrsAt_row ?_ (by decide); exact hbk)
    | go_ret
  all_goals refine mpost ?_ ?_
  all_goals first
    | exact (Below.refl _ _).alloc (Nat.le_refl _) _
    | exact ((Below.refl _ _).alloc (Nat.le_refl _) _).alloc (by simp) _
    | exact ((Below.refl _ _).alloc (Nat.le_refl _) _).trans (hb.mono (by simp))
    | (rw [Bool.eq_iff_iff]; simp_all [manyC]; done)
    | (rw [Bool.eq_iff_iff]; simp_all [manyC]; omega)
    | (rw [Bool.eq_iff_iff]; simp_all [manyC, ByteArray.toList_eq]; done)
    | (rw [Bool.eq_iff_iff]; simp_all [manyC, ByteArray.toList_eq]; omega)

set_option maxRecDepth 100000 in
theorem many_paren (tx : ByteArray) (ad : Option Addr) (m cp : Nat) (hm : m ≤ maxLen) (ht : tx.size ≤ maxLen) (w : World) :
    Calls Tryz.prog 30 #[.agg #[.string ⟨#[112, 97, 114, 101, 110]⟩, .string tx, .slice ad m cp]] w (MPost 2 tx m w) := by
  have hm' : m ≤ 9223372036854775807 := hm
  have HM := Lib.hid hm
  have HT := Lib.hid ht
  clear hm ht
  go_enter Tryz.func30, Tryz.ntmps30
  go_wp2_with fail
  all_goals first
    | (refine StrsAt_row ?_ (by decide); exact hbk)
    | go_ret
  all_goals refine mpost ?_ ?_
  all_goals first
    | exact (Below.refl _ _).alloc (Nat.le_refl _) _
    | exact ((Below.refl _ _).alloc (Nat.le_refl _) _).alloc (by simp) _
    | exact ((Below.refl _ _).alloc (Nat.le_refl _) _).trans (hb.mono (by simp))
    | (rw [Bool.eq_iff_iff]; simp_all [manyC]; done)
    | (rw [Bool.eq_iff_iff]; simp_all [manyC]; omega)
    | (rw [Bool.eq_iff_iff]; simp_all [manyC, ByteArray.toList_eq]; done)
    | (rw [Bool.eq_iff_iff]; simp_all [manyC, ByteArray.toList_eq]; omega)

set_option maxRecDepth 100000 in
theorem many_star (tx : ByteArray) (ad : Option Addr) (m cp : Nat) (hm : m ≤ maxLen) (ht : tx.size ≤ maxLen) (w : World) :
    Calls Tryz.prog 30 #[.agg #[.string ⟨#[115, 116, 97, 114]⟩, .string tx, .slice ad m cp]] w (MPost 3 tx m w) := by
  have hm' : m ≤ 9223372036854775807 := hm
  have HM := Lib.hid hm
  have HT := Lib.hid ht
  clear hm ht
  go_enter Tryz.func30, Tryz.ntmps30
  go_wp2_with fail
  all_goals first
    | (refine StrsAt_row ?_ (by decide); exact hbk)
    | go_ret
  all_goals refine mpost ?_ ?_
  all_goals first
    | exact (Below.refl _ _).alloc (Nat.le_refl _) _
    | exact ((Below.refl _ _).alloc (Nat.le_refl _) _).alloc (by simp) _
    | exact ((Below.refl _ _).alloc (Nat.le_refl _) _).trans (hb.mono (by simp))
    | (rw [Bool.eq_iff_iff]; simp_all [manyC]; done)
    | (rw [Bool.eq_iff_iff]; simp_all [manyC]; omega)
    | (rw [Bool.eq_iff_iff]; simp_all [manyC, ByteArray.toList_eq]; done)
    | (rw [Bool.eq_iff_iff]; simp_all [manyC, ByteArray.toList_eq]; omega)

set_option maxRecDepth 100000 in
theorem many_unary (tx : ByteArray) (ad : Option Addr) (m cp : Nat) (hm : m ≤ maxLen) (ht : tx.size ≤ maxLen) (w : World) :
    Calls Tryz.prog 30 #[.agg #[.string ⟨#[117, 110, 97, 114, 121]⟩, .string tx, .slice ad m cp]] w (MPost 4 tx m w) := by
  have hm' : m ≤ 9223372036854775807 := hm
  have HM := Lib.hid hm
  have HT := Lib.hid ht
  clear hm ht
  have hbk := Blk.new (w.alloc (.cells #[.string ⟨#[117, 110, 97, 114, 121]⟩, .string tx, .slice ad m cp] 24)) 9 (unOps.map Value.string).toArray
  rw [World.size_alloc] at hbk
  go_enter Tryz.func30, Tryz.ntmps30
  go_wp2_with (go_at_call 53; refine (Contains_any _ _ unOps _ _ ?c0 _ rfl).mono ?_; rotate_left; rintro e w' ⟨rfl, rfl⟩)
  all_goals first
    | (refine StrsAt_row ?_ (by decide); exact hbk)
    | go_ret
  all_goals refine mpost ?_ ?_
  all_goals first
    | exact (Below.refl _ _).alloc (Nat.le_refl _) _
    | exact ((Below.refl _ _).alloc (Nat.le_refl _) _).alloc (by simp) _
    | exact ((Below.refl _ _).alloc (Nat.le_refl _) _).trans (hb.mono (by simp))
    | (rw [Bool.eq_iff_iff]; simp_all [manyC]; done)
    | (rw [Bool.eq_iff_iff]; simp_all [manyC]; omega)
    | (rw [Bool.eq_iff_iff]; simp_all [manyC, ByteArray.toList_eq]; done)
    | (rw [Bool.eq_iff_iff]; simp_all [manyC, ByteArray.toList_eq]; omega)

set_option maxRecDepth 100000 in
theorem many_binary (tx : ByteArray) (ad : Option Addr) (m cp : Nat) (hm : m ≤ maxLen) (ht : tx.size ≤ maxLen) (w : World) :
    Calls Tryz.prog 30 #[.agg #[.string ⟨#[98, 105, 110, 97, 114, 121]⟩, .string tx, .slice ad m cp]] w (MPost 5 tx m w) := by
  have hm' : m ≤ 9223372036854775807 := hm
  have HM := Lib.hid hm
  have HT := Lib.hid ht
  clear hm ht
  go_enter Tryz.func30, Tryz.ntmps30
  go_wp2_with (go_at_call 54; refine (Prec_any _ _).mono ?_; rintro e w' ⟨rfl, hb⟩)
  all_goals first
    | (refine StrsAt_row ?_ (by decide); exact hbk)
    | go_ret
  all_goals refine mpost ?_ ?_
  all_goals first
    | exact (Below.refl _ _).alloc (Nat.le_refl _) _
    | exact ((Below.refl _ _).alloc (Nat.le_refl _) _).alloc (by simp) _
    | exact ((Below.refl _ _).alloc (Nat.le_refl _) _).trans (hb.mono (by simp))
    | (rw [Bool.eq_iff_iff]; simp_all [manyC]; done)
    | (rw [Bool.eq_iff_iff]; simp_all [manyC]; omega)
    | (rw [Bool.eq_iff_iff]; simp_all [manyC, ByteArray.toList_eq]; done)
    | (rw [Bool.eq_iff_iff]; simp_all [manyC, ByteArray.toList_eq]; omega)

set_option maxRecDepth 100000 in
theorem many_select (tx : ByteArray) (ad : Option Addr) (m cp : Nat) (hm : m ≤ maxLen) (ht : tx.size ≤ maxLen) (w : World) :
    Calls Tryz.prog 30 #[.agg #[.string ⟨#[115, 101, 108, 101, 99, 116]⟩, .string tx, .slice ad m cp]] w (MPost 6 tx m w) := by
  have hm' : m ≤ 9223372036854775807 := hm
  have HM := Lib.hid hm
  have HT := Lib.hid ht
  clear hm ht
  go_enter Tryz.func30, Tryz.ntmps30
  go_wp2_with fail
  all_goals first
    | (refine StrsAt_row ?_ (by decide); exact hbk)
    | go_ret
  all_goals refine mpost ?_ ?_
  all_goals first
    | exact (Below.refl _ _).alloc (Nat.le_refl _) _
    | exact ((Below.refl _ _).alloc (Nat.le_refl _) _).alloc (by simp) _
    | exact ((Below.refl _ _).alloc (Nat.le_refl _) _).trans (hb.mono (by simp))
    | (rw [Bool.eq_iff_iff]; simp_all [manyC]; done)
    | (rw [Bool.eq_iff_iff]; simp_all [manyC]; omega)
    | (rw [Bool.eq_iff_iff]; simp_all [manyC, ByteArray.toList_eq]; done)
    | (rw [Bool.eq_iff_iff]; simp_all [manyC, ByteArray.toList_eq]; omega)

set_option maxRecDepth 100000 in
theorem many_index (tx : ByteArray) (ad : Option Addr) (m cp : Nat) (hm : m ≤ maxLen) (ht : tx.size ≤ maxLen) (w : World) :
    Calls Tryz.prog 30 #[.agg #[.string ⟨#[105, 110, 100, 101, 120]⟩, .string tx, .slice ad m cp]] w (MPost 7 tx m w) := by
  have hm' : m ≤ 9223372036854775807 := hm
  have HM := Lib.hid hm
  have HT := Lib.hid ht
  clear hm ht
  go_enter Tryz.func30, Tryz.ntmps30
  go_wp2_with fail
  all_goals first
    | (refine StrsAt_row ?_ (by decide); exact hbk)
    | go_ret
  all_goals refine mpost ?_ ?_
  all_goals first
    | exact (Below.refl _ _).alloc (Nat.le_refl _) _
    | exact ((Below.refl _ _).alloc (Nat.le_refl _) _).alloc (by simp) _
    | exact ((Below.refl _ _).alloc (Nat.le_refl _) _).trans (hb.mono (by simp))
    | (rw [Bool.eq_iff_iff]; simp_all [manyC]; done)
    | (rw [Bool.eq_iff_iff]; simp_all [manyC]; omega)
    | (rw [Bool.eq_iff_iff]; simp_all [manyC, ByteArray.toList_eq]; done)
    | (rw [Bool.eq_iff_iff]; simp_all [manyC, ByteArray.toList_eq]; omega)

set_option maxRecDepth 100000 in
theorem many_assert (tx : ByteArray) (ad : Option Addr) (m cp : Nat) (hm : m ≤ maxLen) (ht : tx.size ≤ maxLen) (w : World) :
    Calls Tryz.prog 30 #[.agg #[.string ⟨#[97, 115, 115, 101, 114, 116]⟩, .string tx, .slice ad m cp]] w (MPost 8 tx m w) := by
  have hm' : m ≤ 9223372036854775807 := hm
  have HM := Lib.hid hm
  have HT := Lib.hid ht
  clear hm ht
  go_enter Tryz.func30, Tryz.ntmps30
  go_wp2_with fail
  all_goals first
    | (refine StrsAt_row ?_ (by decide); exact hbk)
    | go_ret
  all_goals refine mpost ?_ ?_
  all_goals first
    | exact (Below.refl _ _).alloc (Nat.le_refl _) _
    | exact ((Below.refl _ _).alloc (Nat.le_refl _) _).alloc (by simp) _
    | exact ((Below.refl _ _).alloc (Nat.le_refl _) _).trans (hb.mono (by simp))
    | (rw [Bool.eq_iff_iff]; simp_all [manyC]; done)
    | (rw [Bool.eq_iff_iff]; simp_all [manyC]; omega)
    | (rw [Bool.eq_iff_iff]; simp_all [manyC, ByteArray.toList_eq]; done)
    | (rw [Bool.eq_iff_iff]; simp_all [manyC, ByteArray.toList_eq]; omega)

set_option maxRecDepth 100000 in
theorem many_key (tx : ByteArray) (ad : Option Addr) (m cp : Nat) (hm : m ≤ maxLen) (ht : tx.size ≤ maxLen) (w : World) :
    Calls Tryz.prog 30 #[.agg #[.string ⟨#[107, 101, 121]⟩, .string tx, .slice ad m cp]] w (MPost 9 tx m w) := by
  have hm' : m ≤ 9223372036854775807 := hm
  have HM := Lib.hid hm
  have HT := Lib.hid ht
  clear hm ht
  go_enter Tryz.func30, Tryz.ntmps30
  go_wp2_with fail
  all_goals first
    | (refine StrsAt_row ?_ (by decide); exact hbk)
    | go_ret
  all_goals refine mpost ?_ ?_
  all_goals first
    | exact (Below.refl _ _).alloc (Nat.le_refl _) _
    | exact ((Below.refl _ _).alloc (Nat.le_refl _) _).alloc (by simp) _
    | exact ((Below.refl _ _).alloc (Nat.le_refl _) _).trans (hb.mono (by simp))
    | (rw [Bool.eq_iff_iff]; simp_all [manyC]; done)
    | (rw [Bool.eq_iff_iff]; simp_all [manyC]; omega)
    | (rw [Bool.eq_iff_iff]; simp_all [manyC, ByteArray.toList_eq]; done)
    | (rw [Bool.eq_iff_iff]; simp_all [manyC, ByteArray.toList_eq]; omega)

set_option maxRecDepth 100000 in
theorem many_map (tx : ByteArray) (ad : Option Addr) (m cp : Nat) (hm : m ≤ maxLen) (ht : tx.size ≤ maxLen) (w : World) :
    Calls Tryz.prog 30 #[.agg #[.string ⟨#[109, 97, 112]⟩, .string tx, .slice ad m cp]] w (MPost 10 tx m w) := by
  have hm' : m ≤ 9223372036854775807 := hm
  have HM := Lib.hid hm
  have HT := Lib.hid ht
  clear hm ht
  go_enter Tryz.func30, Tryz.ntmps30
  go_wp2_with fail
  all_goals first
    | (refine StrsAt_row ?_ (by decide); exact hbk)
    | go_ret
  all_goals refine mpost ?_ ?_
  all_goals first
    | exact (Below.refl _ _).alloc (Nat.le_refl _) _
    | exact ((Below.refl _ _).alloc (Nat.le_refl _) _).alloc (by simp) _
    | exact ((Below.refl _ _).alloc (Nat.le_refl _) _).trans (hb.mono (by simp))
    | (rw [Bool.eq_iff_iff]; simp_all [manyC]; done)
    | (rw [Bool.eq_iff_iff]; simp_all [manyC]; omega)
    | (rw [Bool.eq_iff_iff]; simp_all [manyC, ByteArray.toList_eq]; done)
    | (rw [Bool.eq_iff_iff]; simp_all [manyC, ByteArray.toList_eq]; omega)

set_option maxRecDepth 100000 in
theorem many_slice (tx : ByteArray) (ad : Option Addr) (m cp : Nat) (hm : m ≤ maxLen) (ht : tx.size ≤ maxLen) (w : World) :
    Calls Tryz.prog 30 #[.agg #[.string ⟨#[115, 108, 105, 99, 101]⟩, .string tx, .slice ad m cp]] w (MPost 11 tx m w) := by
  have hm' : m ≤ 9223372036854775807 := hm
  have HM := Lib.hid hm
  have HT := Lib.hid ht
  clear hm ht
  go_enter Tryz.func30, Tryz.ntmps30
  go_wp2_with (go_at_call 55; refine (wellSlice_any _ _ _ _ _ HM.out HT.out _).mono ?_; rintro e w' ⟨rfl, hb⟩)
  all_goals first
    | (refine StrsAt_row ?_ (by decide); exact hbk)
    | go_ret
  all_goals refine mpost ?_ ?_
  all_goals first
    | exact (Below.refl _ _).alloc (Nat.le_refl _) _
    | exact ((Below.refl _ _).alloc (Nat.le_refl _) _).alloc (by simp) _
    | exact ((Below.refl _ _).alloc (Nat.le_refl _) _).trans (hb.mono (by simp))
    | (rw [Bool.eq_iff_iff]; simp_all [manyC]; done)
    | (rw [Bool.eq_iff_iff]; simp_all [manyC]; omega)
    | (rw [Bool.eq_iff_iff]; simp_all [manyC, ByteArray.toList_eq]; done)
    | (rw [Bool.eq_iff_iff]; simp_all [manyC, ByteArray.toList_eq]; omega)

set_option maxRecDepth 100000 in
theorem many_call (tx : ByteArray) (ad : Option Addr) (m cp : Nat) (hm : m ≤ maxLen) (ht : tx.size ≤ maxLen) (w : World) :
    Calls Tryz.prog 30 #[.agg #[.string ⟨#[99, 97, 108, 108]⟩, .string tx, .slice ad m cp]] w (MPost 12 tx m w) := by
  have hm' : m ≤ 9223372036854775807 := hm
  have HM := Lib.hid hm
  have HT := Lib.hid ht
  clear hm ht
  go_enter Tryz.func30, Tryz.ntmps30
  go_wp2_with fail
  all_goals first
    | (refine StrsAt_row ?_ (by decide); exact hbk)
    | go_ret
  all_goals refine mpost ?_ ?_
  all_goals first
    | exact (Below.refl _ _).alloc (Nat.le_refl _) _
    | exact ((Below.refl _ _).alloc (Nat.le_refl _) _).alloc (by simp) _
    | exact ((Below.refl _ _).alloc (Nat.le_refl _) _).trans (hb.mono (by simp))
    | (rw [Bool.eq_iff_iff]; simp_all [manyC]; done)
    | (rw [Bool.eq_iff_iff]; simp_all [manyC]; omega)
    | (rw [Bool.eq_iff_iff]; simp_all [manyC, ByteArray.toList_eq]; done)
    | (rw [Bool.eq_iff_iff]; simp_all [manyC, ByteArray.toList_eq]; omega)

set_option maxRecDepth 100000 in
theorem many_composite (tx : ByteArray) (ad : Option Addr) (m cp : Nat) (hm : m ≤ maxLen) (ht : tx.size ≤ maxLen) (w : World) :
    Calls Tryz.prog 30 #[.agg #[.string ⟨#[99, 111, 109, 112, 111, 115, 105, 116, 101]⟩, .string tx, .slice ad m cp]] w (MPost 13 tx m w) := by
  have hm' : m ≤ 9223372036854775807 := hm
  have HM := Lib.hid hm
  have HT := Lib.hid ht
  clear hm ht
  go_enter Tryz.func30, Tryz.ntmps30
  go_wp2_with fail
  all_goals first
    | (refine StrsAt_row ?_ (by decide); exact hbk)
    | go_ret
  all_goals refine mpost ?_ ?_
  all_goals first
    | exact (Below.refl _ _).alloc (Nat.le_refl _) _
    | exact ((Below.refl _ _).alloc (Nat.le_refl _) _).alloc (by simp) _
    | exact ((Below.refl _ _).alloc (Nat.le_refl _) _).trans (hb.mono (by simp))
    | (rw [Bool.eq_iff_iff]; simp_all [manyC]; done)
    | (rw [Bool.eq_iff_iff]; simp_all [manyC]; omega)
    | (rw [Bool.eq_iff_iff]; simp_all [manyC, ByteArray.toList_eq]; done)
    | (rw [Bool.eq_iff_iff]; simp_all [manyC, ByteArray.toList_eq]; omega)

set_option maxRecDepth 100000 in
theorem many_array (tx : ByteArray) (ad : Option Addr) (m cp : Nat) (hm : m ≤ maxLen) (ht : tx.size ≤ maxLen) (w : World) :
    Calls Tryz.prog 30 #[.agg #[.string ⟨#[97, 114, 114, 97, 121]⟩, .string tx, .slice ad m cp]] w (MPost 14 tx m w) := by
  have hm' : m ≤ 9223372036854775807 := hm
  have HM := Lib.hid hm
  have HT := Lib.hid ht
  clear hm ht
  go_enter Tryz.func30, Tryz.ntmps30
  go_wp2_with fail
  all_goals first
    | (refine StrsAt_row ?_ (by decide); exact hbk)
    | go_ret
  all_goals refine mpost ?_ ?_
  all_goals first
    | exact (Below.refl _ _).alloc (Nat.le_refl _) _
    | exact ((Below.refl _ _).alloc (Nat.le_refl _) _).alloc (by simp) _
    | exact ((Below.refl _ _).alloc (Nat.le_refl _) _).trans (hb.mono (by simp))
    | (rw [Bool.eq_iff_iff]; simp_all [manyC]; done)
    | (rw [Bool.eq_iff_iff]; simp_all [manyC]; omega)
    | (rw [Bool.eq_iff_iff]; simp_all [manyC, ByteArray.toList_eq]; done)
    | (rw [Bool.eq_iff_iff]; simp_all [manyC, ByteArray.toList_eq]; omega)

set_option maxRecDepth 100000 in
theorem many_other (kd tx : ByteArray) (ad : Option Addr) (m cp : Nat) (hm : m ≤ maxLen) (h0 : (kd.toList == [110, 97, 109, 101]) = false) (h1 : (kd.toList == [108, 105, 116, 101, 114, 97, 108]) = false) (h2 : (kd.toList == [112, 97, 114, 101, 110]) = false) (h3 : (kd.toList == [115, 116, 97, 114]) = false) (h4 : (kd.toList == [117, 110, 97, 114, 121]) = false) (h5 : (kd.toList == [98, 105, 110, 97, 114, 121]) = false) (h6 : (kd.toList == [115, 101, 108, 101, 99, 116]) = false) (h7 : (kd.toList == [105, 110, 100, 101, 120]) = false) (h8 : (kd.toList == [97, 115, 115, 101, 114, 116]) = false) (h9 : (kd.toList == [107, 101, 121]) = false) (h10 : (kd.toList == [109, 97, 112]) = false) (h11 : (kd.toList == [115, 108, 105, 99, 101]) = false) (h12 : (kd.toList == [99, 97, 108, 108]) = false) (h13 : (kd.toList == [99, 111, 109, 112, 111, 115, 105, 116, 101]) = false) (h14 : (kd.toList == [97, 114, 114, 97, 121]) = false) (w : World) :
    Calls Tryz.prog 30 #[.agg #[.string kd, .string tx, .slice ad m cp]] w (MPost 15 tx m w) := by
  have hm' : m ≤ 9223372036854775807 := hm
  clear hm
  go_enter Tryz.func30, Tryz.ntmps30
  go_wp2_with fail
  go_ret
  exact mpost rfl ((Below.refl _ _).alloc (Nat.le_refl _) _)

/-- spec.many, at every node. -/
theorem many_any (n : Nd) (hm : n.ks.length ≤ maxLen) (ht : n.tx.size ≤ maxLen) (w : World) :
    Calls Tryz.prog 30 #[n.val] w fun e w' => e = .returned (.bool n.manyB) ∧ Below w.heap.size w w' := by
  obtain ⟨kd, tx, ad, cp, ks⟩ := n
  dsimp only at hm ht
  show Calls _ _ #[.agg #[.string kd, .string tx, .slice ad ks.length cp]] w fun e w' => e = .returned (.bool (manyC (kcode kd) tx ks.length)) ∧ Below w.heap.size w w'
  by_cases hc : kcode kd < 15
  · have h15 : kcode kd = 0 ∨ kcode kd = 1 ∨ kcode kd = 2 ∨ kcode kd = 3 ∨ kcode kd = 4 ∨ kcode kd = 5 ∨ kcode kd = 6 ∨ kcode kd = 7 ∨ kcode kd = 8 ∨ kcode kd = 9 ∨ kcode kd = 10 ∨ kcode kd = 11 ∨ kcode kd = 12 ∨ kcode kd = 13 ∨ kcode kd = 14 := by omega
    rcases h15 with h | h | h | h | h | h | h | h | h | h | h | h | h | h | h
    · rw [h]; obtain rfl := kind_eq h (by decide) ⟨#[110, 97, 109, 101]⟩ rfl; exact many_name tx ad _ cp hm ht w
    · rw [h]; obtain rfl := kind_eq h (by decide) ⟨#[108, 105, 116, 101, 114, 97, 108]⟩ rfl; exact many_literal tx ad _ cp hm ht w
    · rw [h]; obtain rfl := kind_eq h (by decide) ⟨#[112, 97, 114, 101, 110]⟩ rfl; exact many_paren tx ad _ cp hm ht w
    · rw [h]; obtain rfl := kind_eq h (by decide) ⟨#[115, 116, 97, 114]⟩ rfl; exact many_star tx ad _ cp hm ht w
    · rw [h]; obtain rfl := kind_eq h (by decide) ⟨#[117, 110, 97, 114, 121]⟩ rfl; exact many_unary tx ad _ cp hm ht w
    · rw [h]; obtain rfl := kind_eq h (by decide) ⟨#[98, 105, 110, 97, 114, 121]⟩ rfl; exact many_binary tx ad _ cp hm ht w
    · rw [h]; obtain rfl := kind_eq h (by decide) ⟨#[115, 101, 108, 101, 99, 116]⟩ rfl; exact many_select tx ad _ cp hm ht w
    · rw [h]; obtain rfl := kind_eq h (by decide) ⟨#[105, 110, 100, 101, 120]⟩ rfl; exact many_index tx ad _ cp hm ht w
    · rw [h]; obtain rfl := kind_eq h (by decide) ⟨#[97, 115, 115, 101, 114, 116]⟩ rfl; exact many_assert tx ad _ cp hm ht w
    · rw [h]; obtain rfl := kind_eq h (by decide) ⟨#[107, 101, 121]⟩ rfl; exact many_key tx ad _ cp hm ht w
    · rw [h]; obtain rfl := kind_eq h (by decide) ⟨#[109, 97, 112]⟩ rfl; exact many_map tx ad _ cp hm ht w
    · rw [h]; obtain rfl := kind_eq h (by decide) ⟨#[115, 108, 105, 99, 101]⟩ rfl; exact many_slice tx ad _ cp hm ht w
    · rw [h]; obtain rfl := kind_eq h (by decide) ⟨#[99, 97, 108, 108]⟩ rfl; exact many_call tx ad _ cp hm ht w
    · rw [h]; obtain rfl := kind_eq h (by decide) ⟨#[99, 111, 109, 112, 111, 115, 105, 116, 101]⟩ rfl; exact many_composite tx ad _ cp hm ht w
    · rw [h]; obtain rfl := kind_eq h (by decide) ⟨#[97, 114, 114, 97, 121]⟩ rfl; exact many_array tx ad _ cp hm ht w
  · have h16 : manyC (kcode kd) tx ks.length = manyC 15 tx ks.length := by
      unfold manyC
      simp only [show ¬ kcode kd ≤ 1 by omega, show ¬ kcode kd ≤ 3 by omega, show ¬ kcode kd = 4 by omega, show ¬ kcode kd = 5 by omega, show ¬ kcode kd = 6 by omega, show ¬ kcode kd ≤ 10 by omega, show ¬ kcode kd = 11 by omega, show ¬ kcode kd = 12 by omega, show ¬ kcode kd = 13 by omega, show ¬ kcode kd = 14 by omega, if_false]
      rfl
    rw [h16]
    have hn : ∀ k ∈ kindList, (kd.toList == k) = false := by
      intro k hk
      rw [ByteArray.toList_eq, beq_eq_false_iff_ne]
      intro e
      exact hc (by unfold kcode; rw [e]; exact List.idxOf_lt_length_of_mem hk)
    exact many_other kd tx ad _ cp hm (hn kName (by decide)) (hn kLiteral (by decide)) (hn kParen (by decide)) (hn kStar (by decide)) (hn kUnary (by decide)) (hn kBinary (by decide)) (hn kSelect (by decide)) (hn kIndex (by decide)) (hn kAssert (by decide)) (hn kKey (by decide)) (hn kMap (by decide)) (hn kSlice (by decide)) (hn kCall (by decide)) (hn kComposite (by decide)) (hn kArray (by decide)) w
end Go.Proofs.YtjbhjbpamnoebaaGreatFmt

namespace Go.Proofs.YtjbhjbpamnoebaaGreatFmt
open Go.RowKit

def SomeBool (W : World) (e : Ending) (w' : World) : Prop := ∃ b : Bool, e = .returned (.bool b) ∧ Below W.heap.size W w'
theorem zzFits1_any (n : Nd) (w : World) : Calls Tryz.prog 6 #[n.val] w (SomeBool w) := by
  show Calls _ _ #[.agg #[.string n.kd, .string n.tx, .slice n.ad n.ks.length n.cp]] w _
  go_enter Tryz.func6, Tryz.ntmps6
  go_wp2_with fail
  all_goals go_ret
  all_goals exact ⟨_, rfl, (Below.refl _ _).alloc (Nat.le_refl _) _⟩

theorem short_any : ∀ (n : Nd) (w : World) (B : Nat), n.In w B → B ≤ w.heap.size →
    Calls Tryz.prog 16 #[n.val] w fun e w' => e = .returned (.bool n.shortB) ∧ Below w.heap.size w w' := by
  refine Nd.ind fun n ih w B hin hB => ?_
  rw [Nd.shortB_eq]
  obtain ⟨kd, tx, ad, cp, ks⟩ := n
  rw [Nd.In_iff] at hin
  obtain ⟨hl, hm, hk⟩ := hin
  dsimp only at hl hm hk ih ⊢
  have hlM : ks.length ≤ maxLen := by omega
  have hlm : ks.length ≤ 9223372036854775807 := hlM
  show Calls _ _ #[.agg #[.string kd, .string tx, .slice ad ks.length cp]] w _
  have HK := Lib.hid hk
  have IH := Lib.hid ih
  have HM := Lib.hid hlM
  clear hk ih hm hlM
  by_cases ht : 1048576 < (tx.size : Int)
  · have ht' : decide (tx.size ≤ 1048576) = false := by simp; omega
    rw [ht', Bool.false_and]
    clear ht'
    go_enter Tryz.func16, Tryz.ntmps16
    go_wp2_with fail
    go_ret
    exact ⟨rfl, (Below.refl _ _).alloc (Nat.le_refl _) _⟩
  · have ht' : decide (tx.size ≤ 1048576) = true := by simp; omega
    rw [ht', Bool.true_and]
    clear ht'
    go_enter Tryz.func16, Tryz.ntmps16
    go_wp2_with fail
    go_loopw [12] (fun i wr => ∃ k : Nat, k ≤ ks.length ∧ i = .int .i64 k ∧ (∀ j x, j < k → ks[j]? = some x → x.shortB = true) ∧ Below w.heap.size w wr ∧ Blk wr w.heap.size 24 #[.string kd, .string tx, .slice ad ks.length cp]) (fun i _ => ks.length - (intOf i).toNat)
    case atStart => exact ⟨0, Nat.zero_le _, rfl, fun j x hj => absurd hj (Nat.not_lt_zero _), (Below.refl _ _).alloc (Nat.le_refl _) _, Blk.new _ _ _⟩
    case round =>
      obtain ⟨k, hkl, rfl, hall, hbr, hbk⟩ := hrel
      have HA := Lib.hid hall
      clear hall
      by_cases hlt : k < ks.length
      · obtain ⟨⟨b, o, rfl, hb, c1, c2, c3⟩, hin⟩ := HK.out k ks[k] (List.getElem?_eq_getElem hlt)
        have hx : ks[k] ∈ ks := List.getElem_mem hlt
        have hxk : ks[k]? = some ks[k] := List.getElem?_eq_getElem hlt
        generalize ks[k] = x at c1 c2 c3 hin hx hxk
        have HX := Lib.hid hxk
        clear hxk
        have d1 := (hbr.cell (p := ⟨b, o + k * 3, none⟩) (by simp; omega)).trans c1
        have d2 := (hbr.cell (p := ⟨b, o + k * 3 + 1, none⟩) (by simp; omega)).trans c2
        have d3 := (hbr.cell (p := ⟨b, o + k * 3 + 2, none⟩) (by simp; omega)).trans c3
        clear c1 c2 c3
        have hs := hbr.size
        go_wp2_with fail
        refine (IH.out x hx _ B (hin.below ((hbr.alloc hs _).mono hB) (Nat.le_refl _)) (by simp; omega)).mono ?_
        cases hxs : x.shortB
        · rintro e w1 ⟨rfl, hb1⟩
          have HS := Lib.hid hxs
          clear hxs
          go_wp2_with fail
          go_ret
          refine ⟨?_, (hbr.alloc hs _).trans (hb1.mono (by simp; omega))⟩
          have hf : ks.all Nd.shortB = false := List.all_eq_false.2 ⟨x, hx, by rw [HS.out]; simp⟩
          rw [hf]
          rfl
        · rintro e w1 ⟨rfl, hb1⟩
          have HS := Lib.hid hxs
          clear hxs
          go_wp2_with fail
          go_roundw
          case rel =>
            refine ⟨k + 1, by omega, by go_num, fun j y hj hy => ?_, (hbr.alloc hs _).trans (hb1.mono (by simp; omega)), (hbk.alloc _).below hb1 (by simp; omega)⟩
            by_cases hjk : j = k
            · subst hjk
              rw [HX.out] at hy
              cases hy
              exact HS.out
            · exact HA.out j y (by omega) hy
          case measure => simp [intOf]; omega
      · have ht : ks.all Nd.shortB = true := by
          rw [List.all_eq_true]
          intro x hx
          obtain ⟨j, hj, rfl⟩ := List.getElem_of_mem hx
          exact HA.out j _ (by omega) (List.getElem?_eq_getElem hj)
        have HT := Lib.hid ht
        clear ht
        go_wp2_with fail
        go_ret
        exact ⟨by rw [HT.out]; rfl, hbr⟩

theorem shaped_any : ∀ (n : Nd) (w : World) (B : Nat), n.In w B → B ≤ w.heap.size → n.shortB = true →
    Calls Tryz.prog 17 #[n.val] w fun e w' => e = .returned (.bool n.shapedB) ∧ Below w.heap.size w w' := by
  refine Nd.ind fun n ih w B hin hB hsh => ?_
  rw [Nd.shapedB_eq]
  rw [Nd.shortB_eq, Bool.and_eq_true, List.all_eq_true] at hsh
  obtain ⟨htx, hshk⟩ := hsh
  have htx' : n.tx.size ≤ maxLen := by have := of_decide_eq_true htx; unfold maxLen; omega
  have HTX := Lib.hid htx'
  have HSK := Lib.hid hshk
  clear htx htx' hshk
  obtain ⟨kd, tx, ad, cp, ks⟩ := n
  rw [Nd.In_iff] at hin
  obtain ⟨hl, hm, hk⟩ := hin
  dsimp only at hl hm hk ih HTX HSK ⊢
  have hlM : ks.length ≤ maxLen := by omega
  have hlm : ks.length ≤ 9223372036854775807 := hlM
  show Calls _ _ #[.agg #[.string kd, .string tx, .slice ad ks.length cp]] w _
  have HK := Lib.hid hk
  have IH := Lib.hid ih
  have HM := Lib.hid hlM
  clear hk ih hm hlM
  go_enter Tryz.func17, Tryz.ntmps17
  go_wp2_with fail
  go_loopw [8] (fun i wr => ∃ k : Nat, k ≤ ks.length ∧ i = .int .i64 k ∧ (∀ j x, j < k → ks[j]? = some x → x.shapedB = true) ∧ Below w.heap.size w wr ∧ Blk wr w.heap.size 24 #[.string kd, .string tx, .slice ad ks.length cp]) (fun i _ => ks.length - (intOf i).toNat)
  case atStart => exact ⟨0, Nat.zero_le _, rfl, fun j x hj => absurd hj (Nat.not_lt_zero _), (Below.refl _ _).alloc (Nat.le_refl _) _, Blk.new _ _ _⟩
  case round =>
    obtain ⟨k, hkl, rfl, hall, hbr, hbk⟩ := hrel
    have HA := Lib.hid hall
    clear hall
    by_cases hlt : k < ks.length
    · obtain ⟨⟨b, o, rfl, hb, c1, c2, c3⟩, hin⟩ := HK.out k ks[k] (List.getElem?_eq_getElem hlt)
      have hx : ks[k] ∈ ks := List.getElem_mem hlt
      have hxk : ks[k]? = some ks[k] := List.getElem?_eq_getElem hlt
      generalize ks[k] = x at c1 c2 c3 hin hx hxk
      have HX := Lib.hid hxk
      clear hxk
      have d1 := (hbr.cell (p := ⟨b, o + k * 3, none⟩) (by simp; omega)).trans c1
      have d2 := (hbr.cell (p := ⟨b, o + k * 3 + 1, none⟩) (by simp; omega)).trans c2
      have d3 := (hbr.cell (p := ⟨b, o + k * 3 + 2, none⟩) (by simp; omega)).trans c3
      clear c1 c2 c3
      have hs := hbr.size
      go_wp2_with fail
      refine (IH.out x hx _ B (hin.below ((hbr.alloc hs _).mono hB) (Nat.le_refl _)) (by simp; omega) (HSK.out x hx)).mono ?_
      cases hxs : x.shapedB
      · rintro e w1 ⟨rfl, hb1⟩
        have HS := Lib.hid hxs
        clear hxs
        go_wp2_with fail
        go_ret
        refine ⟨?_, (hbr.alloc hs _).trans (hb1.mono (by simp; omega))⟩
        have hf : ks.all Nd.shapedB = false := List.all_eq_false.2 ⟨x, hx, by rw [HS.out]; simp⟩
        rw [hf, Bool.false_and]
        rfl
      · rintro e w1 ⟨rfl, hb1⟩
        have HS := Lib.hid hxs
        clear hxs
        go_wp2_with fail
        go_roundw
        case rel =>
          refine ⟨k + 1, by omega, by go_num, fun j y hj hy => ?_, (hbr.alloc hs _).trans (hb1.mono (by simp; omega)), (hbk.alloc _).below hb1 (by simp; omega)⟩
          by_cases hjk : j = k
          · subst hjk
            rw [HX.out] at hy
            cases hy
            exact HS.out
          · exact HA.out j y (by omega) hy
        case measure => simp [intOf]; omega
    · have ht : ks.all Nd.shapedB = true := by
        rw [List.all_eq_true]
        intro x hx
        obtain ⟨j, hj, rfl⟩ := List.getElem_of_mem hx
        exact HA.out j _ (by omega) (List.getElem?_eq_getElem hj)
      have HT := Lib.hid ht
      clear ht
      have c1 := hbk.cell 0
      have c2 := hbk.cell 1
      have c3 := hbk.cell 2
      simp at c1 c2 c3
      go_wp2_with fail
      refine (many_any ⟨kd, tx, ad, cp, ks⟩ HM.out HTX.out _).mono ?_
      rintro e w1 ⟨rfl, hb1⟩
      go_wp2_with fail
      go_ret
      exact ⟨by rw [HT.out, Bool.true_and]; rfl, hbr.trans (hb1.mono hbr.size)⟩
end Go.Proofs.YtjbhjbpamnoebaaGreatFmt

namespace Go.Proofs.YtjbhjbpamnoebaaGreatFmt
open Go.RowKit

def CntPost (W : World) (lb : Nat) (r : Bool × Int) (e : Ending) (w' : World) : Prop :=
  e = .returned (.bool r.1) ∧ W.grownBy w' (some lb) ∧ Blk w' lb 3 #[.int .i64 r.2]
theorem cnt_false {kd tx : ByteArray} {ad : Option Addr} {cp : Nat} {ks : List Nd} {l : Int} {d : Nat} (h : l - 1 < 0 ∨ 30 < d ∨ l - 1 < (ks.length : Int)) : Nd.cnt ⟨kd, tx, ad, cp, ks⟩ l d = (false, l - 1) := by
  rw [Nd.cnt, if_pos h]
theorem cnt_true {kd tx : ByteArray} {ad : Option Addr} {cp : Nat} {ks : List Nd} {l : Int} {d : Nat} (h : ¬ (l - 1 < 0 ∨ 30 < d ∨ l - 1 < (ks.length : Int))) : Nd.cnt ⟨kd, tx, ad, cp, ks⟩ l d = cntL ks (l - 1) (d + 1) := by
  rw [Nd.cnt, if_neg h]
theorem cntL_step {ks : List Nd} {k : Nat} {x : Nd} (h : ks[k]? = some x) (l : Int) (d : Nat) : cntL (ks.drop k) l d = if (x.cnt l d).1 then cntL (ks.drop (k + 1)) (x.cnt l d).2 d else (false, (x.cnt l d).2) := by
  obtain ⟨hk, rfl⟩ := List.getElem?_eq_some_iff.1 h
  rw [List.drop_eq_getElem_cons hk, cntL]

theorem cnt_mid {w : World} {lb : Nat} {t : TypeId} {v u : Value} (h : Blk w lb t #[v]) (nq : Nat) (cs : Array Value) (t2 : TypeId) :
    w.grownBy (((w.setCell ⟨lb, 0, none⟩ u).alloc (.cells cs t2)).drewN nq) (some lb) ∧ Blk (((w.setCell ⟨lb, 0, none⟩ u).alloc (.cells cs t2)).drewN nq) lb t #[u] ∧ Blk (((w.setCell ⟨lb, 0, none⟩ u).alloc (.cells cs t2)).drewN nq) w.heap.size t2 cs := by
  have h1 : Blk (w.setCell ⟨lb, 0, none⟩ u) lb t #[u] := by simpa using h.set_ 0 u
  have h2 : w.grownBy ((w.setCell ⟨lb, 0, none⟩ u).alloc (.cells cs t2)) (some lb) :=
    grown_alloc (a := w) (b := w.setCell ⟨lb, 0, none⟩ u) ⟨rfl, rfl, rfl, by simp [World.setCell], fun i _ hne => Below.heap_setCell w ⟨lb, 0, none⟩ u i (fun e => hne (congrArg some e))⟩ _
  have h3 : Blk ((w.setCell ⟨lb, 0, none⟩ u).alloc (.cells cs t2)) w.heap.size t2 cs := by
    have := Blk.new (w.setCell ⟨lb, 0, none⟩ u) t2 cs
    rwa [show (w.setCell ⟨lb, 0, none⟩ u).heap.size = w.heap.size by simp [World.setCell]] at this
  exact ⟨⟨h2.os, h2.tape, h2.output, h2.size, h2.block⟩, h1.alloc _, h3⟩
theorem cnt_ret {w : World} {lb : Nat} {l : Int} {cs : Array Value} {t2 : TypeId} (h : Blk w lb 3 #[.int .i64 l]) (nq : Nat) (l' : Int) :
    CntPost w lb (false, l') (.returned (.bool false)) (((w.setCell ⟨lb, 0, none⟩ (.int .i64 l')).alloc (.cells cs t2)).drewN nq) :=
  ⟨rfl, (cnt_mid h nq cs t2).1, (cnt_mid h nq cs t2).2.1⟩

theorem below_grown {a b : World} {B g : Nat} (h : a.grownBy b (some g)) (hB : B ≤ a.heap.size) (hg : B ≤ g) : Below B a b :=
  ⟨h.os, h.tape, h.output, h.size, fun i hi => h.block i (by omega) (fun e => by cases e; omega)⟩

theorem count_any : ∀ (n : Nd) (w : World) (B lb : Nat) (l : Int) (d : Nat), n.In w B → B ≤ lb → Blk w lb 3 #[.int .i64 l] → 0 ≤ l → l ≤ 400 → d ≤ 31 →
    Calls Tryz.prog 29 #[n.val, .pointer (some ⟨lb, 0, none⟩), .int .i64 d] w (CntPost w lb (n.cnt l d)) := by
  refine Nd.ind fun n ih w B lb l d hin hB hlb h0 h4 hd => ?_
  obtain ⟨kd, tx, ad, cp, ks⟩ := n
  rw [Nd.In_iff] at hin
  obtain ⟨hl, hm, hk⟩ := hin
  dsimp only at hl hm hk ih ⊢
  have hlM : ks.length ≤ maxLen := by omega
  have hlm : ks.length ≤ 9223372036854775807 := hlM
  show Calls _ _ #[.agg #[.string kd, .string tx, .slice ad ks.length cp], _, _] w _
  have hlt := hlb.lt
  have c0 := hlb.cell 0
  have f0 := hlb.frozen 0
  simp at c0
  have HL := Lib.hid hlb
  have HK := Lib.hid hk
  have IH := Lib.hid ih
  clear hk ih hm hlM hlb
  by_cases h1 : l - 1 < 0
  · have d1 : decide (l - 1 < 0) = true := decide_eq_true h1
    have H1 := Lib.hid (cnt_false (kd := kd) (tx := tx) (ad := ad) (cp := cp) (ks := ks) (l := l) (d := d) (.inl h1))
    go_enter Tryz.func29, Tryz.ntmps29
    go_wp2_with fail
    go_quiet (fail)
    go_wp2_with fail
    go_ret
    rw [H1.out]
    exact cnt_ret HL.out nq _
  have d1 : decide (l - 1 < 0) = false := decide_eq_false h1
  by_cases h2 : (30 : Int) < (d : Int)
  · have d2 : decide ((30 : Int) < (d : Int)) = true := decide_eq_true h2
    have H1 := Lib.hid (cnt_false (kd := kd) (tx := tx) (ad := ad) (cp := cp) (ks := ks) (l := l) (d := d) (.inr (.inl (by omega))))
    go_enter Tryz.func29, Tryz.ntmps29
    go_wp2_with fail
    go_quiet (fail)
    go_wp2_with fail
    go_ret
    rw [H1.out]
    exact cnt_ret HL.out nq _
  have d2 : decide ((30 : Int) < (d : Int)) = false := decide_eq_false h2
  by_cases h3 : l - 1 < (ks.length : Int)
  · have d3 : decide (l - 1 < (ks.length : Int)) = true := decide_eq_true h3
    have H1 := Lib.hid (cnt_false (kd := kd) (tx := tx) (ad := ad) (cp := cp) (ks := ks) (l := l) (d := d) (.inr (.inr h3)))
    go_enter Tryz.func29, Tryz.ntmps29
    go_wp2_with fail
    go_quiet (fail)
    go_wp2_with fail
    go_ret
    rw [H1.out]
    exact cnt_ret HL.out nq _
  have d3 : decide (l - 1 < (ks.length : Int)) = false := decide_eq_false h3
  have H1 := Lib.hid (cnt_true (kd := kd) (tx := tx) (ad := ad) (cp := cp) (ks := ks) (l := l) (d := d) (by omega))
  go_enter Tryz.func29, Tryz.ntmps29
  go_wp2_with fail
  go_quiet (fail)
  have hs0 := cnt_mid HL.out nq #[.string kd, .string tx, .slice ad ks.length cp] 24 (u := .int .i64 (l - 1))
  generalize ((w.setCell ⟨lb, 0, none⟩ (.int .i64 (l - 1))).alloc (.cells #[.string kd, .string tx, .slice ad ks.length cp] 24)).drewN nq = w0 at hs0 ⊢
  clear f0 c0
  obtain ⟨hg0, hl0, hb0⟩ := hs0
  have c2 := hb0.cell 2
  simp at c2
  have HB0 := Lib.hid hb0
  clear hb0
  go_wp2_with fail
  go_loopw [34] (fun i wr => ∃ (k : Nat) (lk : Int), k ≤ ks.length ∧ i = .int .i64 k ∧ 0 ≤ lk ∧ lk ≤ 400 ∧ cntL ks (l - 1) (d + 1) = cntL (ks.drop k) lk (d + 1) ∧ w.grownBy wr (some lb) ∧ Blk wr lb 3 #[.int .i64 lk]) (fun i _ => ks.length - (intOf i).toNat)
  case atStart => exact ⟨0, l - 1, Nat.zero_le _, rfl, by omega, by omega, rfl, hg0, hl0⟩
  case round =>
    obtain ⟨k, lk, hkl, rfl, hk0, hk4, hall, hgr, hlr⟩ := hrel
    have HA := Lib.hid hall
    clear hall
    have hsz := hgr.size
    have hltr := hlr.lt
    by_cases hlt2 : k < ks.length
    · obtain ⟨⟨b, o, rfl, hb, e1, e2, e3⟩, hin⟩ := HK.out k ks[k] (List.getElem?_eq_getElem hlt2)
      have hx : ks[k] ∈ ks := List.getElem_mem hlt2
      have hxk : ks[k]? = some ks[k] := List.getElem?_eq_getElem hlt2
      generalize ks[k] = x at e1 e2 e3 hin hx hxk
      have HX := Lib.hid (cntL_step hxk lk (d + 1))
      clear hxk
      have hbk := hgr.block b (by omega) (fun e => by cases e; omega)
      have d1 := (World.cell?_of_block (a := ⟨b, o + k * 3, none⟩) hbk).trans e1
      have d2 := (World.cell?_of_block (a := ⟨b, o + k * 3 + 1, none⟩) hbk).trans e2
      have d3 := (World.cell?_of_block (a := ⟨b, o + k * 3 + 2, none⟩) hbk).trans e3
      clear e1 e2 e3 hbk
      have hinr : x.In wr B := Nd.In.keep (fun p hp => World.cell?_of_block (hgr.block p.block (by omega) (fun e => by cases e; omega))) (Nat.le_refl _) x hin
      clear hin
      go_wp2_with fail
      refine (IH.out x hx _ B lb lk (d + 1) (hinr.below ((Below.refl _ _).alloc (by omega) _) (Nat.le_refl _)) hB (hlr.alloc _) hk0 hk4 (by omega)).mono ?_
      have hcs := Lib.hid (x.cnt_spec lk (d + 1))
      cases hxs : (x.cnt lk (d + 1)).1
      · rintro e w1 ⟨rfl, hg1, hl1⟩
        rw [hxs]
        have HS := Lib.hid hxs
        clear hxs
        go_wp2_with fail
        go_ret
        rw [H1.out, HA.out, HX.out, HS.out]
        exact ⟨rfl, grown_trans (grown_alloc hgr _) hg1, hl1⟩
      · rintro e w1 ⟨rfl, hg1, hl1⟩
        rw [hxs]
        have HS := Lib.hid hxs
        clear hxs
        have hq := hcs.out HS.out
        go_wp2_with fail
        go_roundw
        case rel =>
          refine ⟨k + 1, (x.cnt lk (d + 1)).2, by omega, by go_num, hq.2, by omega, ?_, grown_trans (grown_alloc hgr _) hg1, hl1⟩
          rw [HA.out, HX.out, HS.out]
          rfl
        case measure => simp [intOf]; omega
    · have hk : ks.drop k = [] := List.drop_eq_nil_of_le (by omega)
      have HD := Lib.hid hk
      clear hk
      go_wp2_with fail
      go_ret
      rw [H1.out, HA.out, HD.out]
      exact ⟨rfl, hgr, hlr⟩

theorem few_any (n : Nd) (w : World) (B : Nat) (hin : n.In w B) (hB : B ≤ w.heap.size) :
    Calls Tryz.prog 15 #[n.val] w fun e w' => e = .returned (.bool (n.cnt 400 0).1) ∧ Below w.heap.size w w' := by
  have HI := Lib.hid hin
  clear hin
  show Calls _ _ #[.agg #[.string n.kd, .string n.tx, .slice n.ad n.ks.length n.cp]] w _
  go_enter Tryz.func15, Tryz.ntmps15
  go_wp2_with fail
  refine (count_any n _ B (w.heap.size + 1) 400 0 (HI.out.below (((Below.refl B w).alloc hB _).alloc (by simp; omega) _) (Nat.le_refl _)) (by omega) ?_ (by omega) (by omega) (by omega)).mono ?_
  · have := Blk.new (w.alloc (.cells #[.string n.kd, .string n.tx, .slice n.ad n.ks.length n.cp] 24)) 3 #[.int .i64 400]
    rwa [World.size_alloc] at this
  · rintro e w1 ⟨rfl, hg, hb⟩
    have HG := Lib.hid hg
    clear hb hg
    go_wp2_with fail
    go_ret
    exact ⟨rfl, (((Below.refl _ w).alloc (Nat.le_refl _) _).alloc (by simp) _).trans (below_grown HG.out (by simp; omega) (by omega))⟩

theorem Nd.okB_eq (n : Nd) : n.okB = ((n.cnt 400 0).1 && n.shortB && n.shapedB) := rfl
theorem Shaped_any (n : Nd) (w : World) (B : Nat) (hin : n.In w B) (hB : B ≤ w.heap.size) :
    Calls Tryz.prog 7 #[n.val] w fun e w' => e = .returned (.bool n.okB) ∧ Below w.heap.size w w' := by
  have HI := Lib.hid (hin.below ((Below.refl B w).alloc hB (.cells #[.string n.kd, .string n.tx, .slice n.ad n.ks.length n.cp] 24)) (Nat.le_refl _))
  clear hin
  show Calls _ _ #[.agg #[.string n.kd, .string n.tx, .slice n.ad n.ks.length n.cp]] w _
  have b1 : Blk (w.alloc (.cells #[.string n.kd, .string n.tx, .slice n.ad n.ks.length n.cp] 24)) w.heap.size 24 #[.string n.kd, .string n.tx, .slice n.ad n.ks.length n.cp] := Blk.new _ _ _
  have hbe0 := Lib.hid ((Below.refl _ w).alloc (Nat.le_refl _) (.cells #[.string n.kd, .string n.tx, .slice n.ad n.ks.length n.cp] 24))
  go_enter Tryz.func7, Tryz.ntmps7
  go_wp2_with fail
  refine (few_any n _ B HI.out (by simp; omega)).mono ?_
  rintro e w1 ⟨rfl, hb1⟩
  have hbe1 := Lib.hid (hbe0.out.trans (hb1.mono (by simp)))
  have hin1 := Lib.hid (HI.out.below (hb1.mono (by simp; omega)) (Nat.le_refl _))
  have b2 := b1.below hb1 (by simp)
  have hs1 := hbe1.out.size
  clear b1 hb1
  have x0 := b2.cell 0
  have x1 := b2.cell 1
  have x2 := b2.cell 2
  simp at x0 x1 x2
  cases h1 : (n.cnt 400 0).1
  · have H1 := Lib.hid h1
    clear h1
    go_wp2_with fail
    go_ret
    refine ⟨?_, hbe1.out⟩
    rw [Nd.okB_eq, H1.out]
    rfl
  · have H1 := Lib.hid h1
    clear h1
    go_wp2_with fail
    refine (short_any n _ B hin1.out (by omega)).mono ?_
    rintro e w2 ⟨rfl, hb2⟩
    have hbe2 := Lib.hid (hbe1.out.trans (hb2.mono (by omega)))
    have hin2 := Lib.hid (hin1.out.below (hb2.mono (by omega)) (Nat.le_refl _))
    have b3 := b2.below hb2 b2.lt
    have hs2 := hbe2.out.size
    clear b2 hb2 x0 x1 x2
    have x0 := b3.cell 0
    have x1 := b3.cell 1
    have x2 := b3.cell 2
    simp at x0 x1 x2
    cases h2 : n.shortB
    · have H2 := Lib.hid h2
      clear h2
      go_wp2_with fail
      go_ret
      refine ⟨?_, hbe2.out⟩
      rw [Nd.okB_eq, H1.out, H2.out]
      rfl
    · have H2 := Lib.hid h2
      clear h2
      go_wp2_with fail
      refine (shaped_any n _ B hin2.out (by omega) H2.out).mono ?_
      rintro e w3 ⟨rfl, hb3⟩
      have hbe3 := Lib.hid (hbe2.out.trans (hb3.mono (by omega)))
      clear hb3
      go_wp2_with fail
      go_ret
      refine ⟨?_, hbe3.out⟩
      rw [Nd.okB_eq, H1.out, H2.out]
      rfl
end Go.Proofs.YtjbhjbpamnoebaaGreatFmt
