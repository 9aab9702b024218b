/-
  Proved: laws.FnExactPrecedence returns true for every number, and reads its argument as it was.
  Conditions: the six package-level variables that the row lists hold what the program's text lays (the card ties them).
-/
import Derived.Test.YteoefhjjcimknaaDoorLaid
import Derived.Test.YteoefhjjcimknaaDoorPq
import Derived.Deep.DeepHandedRow
import Derived.Deep.DeepWitnessRowRef
import Derived.OpenShut
namespace Go.Proofs.YteoefhjjcimknaaDoor.precedence
open Go.ChangeShapes Go.WideShapes Go.ChangeAt Go.RowKit

theorem gPowType : (Tryd.prog.globals[3]?).map (·.type) = some 151 := by kernel_rfl
theorem gAsciiType : (Tryd.prog.globals[0]?).map (·.type) = some 49 := by kernel_rfl
theorem powData : (Rows.laid_internal_strconv_uint64pow10 : DataW Unit) = Lib.tabData .u64 Lib.pow10Tab := by kernel_rfl
theorem asciiData : (Rows.laid_strings_asciiSpace : DataW Unit) = Lib.tabData .u8 Lib.asciiSpaceTab := by kernel_rfl

theorem of_laid {W : World} (h : laidMetH Tryd.prog Rows.fnExactPrecedenceRow.laid W) :
    TokTab W ∧ Lib.TabIs Tryd.prog W "internal/strconv.uint64pow10" .u64 Lib.pow10Tab ∧ Lib.TabIs Tryd.prog W "strings.asciiSpace" .u8 Lib.asciiSpaceTab := by
  rw [MakeChecks.laidMetH_plain _ _ _ (by kernel_rfl)] at h
  refine ⟨tokTab_of_reads (Lib.laidMet.reads h (by simp [Rows.fnExactPrecedenceRow])), ?_, ?_⟩
  · exact tabIs_of_reads gPow gPowType Tryd.underlying151 Tryd.underlying144 (by kernel_rfl) (by kernel_rfl) (by rw [← powData]; exact Lib.laidMet.reads h (by simp [Rows.fnExactPrecedenceRow]))
  · exact tabIs_of_reads gAscii gAsciiType Tryd.underlying49 Tryd.underlying5 (by kernel_rfl) (by kernel_rfl) (by rw [← asciiData]; exact Lib.laidMet.reads h (by simp [Rows.fnExactPrecedenceRow]))

set_option maxRecDepth 100000 in
theorem contract (H : Type) (enc : TypeId × Value → H) (W : World) (base : Nat) (args : Array Value) (ds gs : List (DataW H)) (before : List MemPlace)
    (hval : ∀ (j : Nat) t v, Tryd.f3.params[j]? = some t → args[j]? = some v → Value.okWide Tryd.prog W .any base t v)
    (hW : DataW.Whole enc Tryd.prog Tryd.f3.params.toList Rows.fnExactPrecedenceSpec.vars false W args.toList ds gs before) (hL : laidMetH Tryd.prog Rows.fnExactPrecedenceRow.laid W) :
    Calls Tryd.prog 3 args W fun e W' => ∃ v, e = .returned v ∧ Rows.fnExactPrecedenceSpec.post enc Tryd.prog Tryd.f3 false true false false W args v W' := by
  have hW' := hW
  have hlt := fun x hx => hW'.lt x hx
  obtain ⟨p, q, hA0, hV, rfl, hfz, hnd⟩ := hW
  have hA : DataW.TrodAll enc Tryd.prog W 0 (fun _ => true) true Tryd.f3.params.toList args.toList ds p := hA0
  rw [Tryd.params3] at hA hval
  obtain ⟨v0, vs0, d0, ds0, p0, q0, hargs, rfl, rfl, h0, r0⟩ := trodAll_cons hA
  obtain ⟨rfl, rfl, rfl⟩ := trodAll_nil r0
  obtain rfl : args = #[v0] := by cases args; simp_all
  obtain ⟨n, rfl, rfl, rfl, wn⟩ := open_int Tryd.underlying3 (hval 0 3 v0 rfl rfl) h0
  obtain ⟨hT, hP, hS⟩ := of_laid hL
  clear hA0
  have walk : Calls Tryd.prog 3 #[.int .i64 n] W fun e w' => e = .returned (.bool true) ∧ Below W.heap.size W w' := by
    by_cases h : n < 0 ∨ 200 < n
    · exact law_out n W h
    · obtain ⟨k, rfl⟩ := Int.eq_ofNat_of_zero_le (show 0 ≤ n by omega)
      exact law_in k (by omega) W hT hP hS
  refine walk.mono fun e W' ⟨he, hb⟩ => ?_
  subst he
  obtain ⟨g1, rfl, hV2⟩ := vars_again hV hb (fun x hx => hlt x (by simp [hx]))
  exact ⟨_, rfl, _, _, _, [], _, q, hW', trodAll_mk1 (shut_bool Tryd.underlying4 _), trodAll_cons_mk (shut_int Tryd.underlying3 wn) trodAll_mk0, hV2, hb.frame _, fun h => by cases h⟩

theorem door_met (os : Os) (args : Array Value) : laidMetH Tryd.prog Rows.fnExactPrecedenceRow.laid ((World.doorLaid Tryd.prog 400 os).forCall (fun _ _ => 0) ⟨#[], args, []⟩).memory :=
  laidMetH_of_parts3 (fuel := 8) (laidMet_of_run' 8 (by kernel_rfl) (by kernel_rfl)) (by kernel_rfl) (by kernel_rfl)
theorem reads (os : Os) {H : Type} (enc : TypeId × Value → H) : ∃ places, DataW.whole enc Tryd.prog ((World.doorLaid Tryd.prog 400 os).forCall (fun _ _ => 0) ⟨#[], #[.int .i64 0], []⟩).memory Tryd.f3.params.toList Rows.fnExactPrecedenceSpec.vars false #[Value.int .i64 0].toList 8 = some ([.lit (.int .i64 0)], [Rows.laid_loop_example_pub_goexprs_pub_goparse_go_token_tokens], places) := by
  have h : (DataW.whole enc Tryd.prog ((World.doorLaid Tryd.prog 400 os).forCall (fun _ _ => 0) ⟨#[], #[.int .i64 0], []⟩).memory Tryd.f3.params.toList Rows.fnExactPrecedenceSpec.vars false #[Value.int .i64 0].toList 8).map (fun x => (x.1, x.2.1)) = some ([.lit (.int .i64 0)], [Rows.laid_loop_example_pub_goexprs_pub_goparse_go_token_tokens]) := by kernel_rfl
  obtain ⟨⟨a, b, c⟩, h1, h2⟩ := Option.map_eq_some_iff.1 h
  simp only [Prod.mk.injEq] at h2
  obtain ⟨rfl, rfl⟩ := h2
  exact ⟨c, h1⟩

set_option maxRecDepth 100000 in
theorem lifted (os : Os) (started : os.Started) (H : Type) (enc : TypeId × Value → H) (F : Stop.Interp) :
    ReturnsInHanded {} Tryd.checked os 3 .any ((OpenSpec.ofChange Rows.fnExactPrecedenceSpec).preRow enc Tryd.prog Tryd.f3 Rows.fnExactPrecedenceRow.domain false Rows.fnExactPrecedenceRow.laid) (((OpenSpec.ofChange Rows.fnExactPrecedenceSpec).at F).post enc Tryd.prog Tryd.f3 false true false false) := by
  obtain ⟨places, hx⟩ := reads os enc
  refine returnsInHanded_of_row (C := Tryd.checked) (s := OpenSpec.ofChange Rows.fnExactPrecedenceSpec) own started (by kernel_rfl) Tryd.func3
    (witness_row_atRef (enc := enc) (C := Tryd.checked) false (World.doorLaid Tryd.prog 400 os) #[.int .i64 0] rfl (by kernel_rfl) (by kernel_rfl) (by kernel_rfl)
      (OpenSpec.preRow_of_cond 8 hx (by kernel_rfl) (fun k hk => by cases hk) (by kernel_rfl) (door_met os _))) ?_
  intro W base args ds gs before hval hW _ _ _ hL _ _
  exact contract H enc W base args ds gs before hval hW hL

theorem said : Rows.FnExactPrecedenceSaid :=
  OpenClaim.holds_of_cond 3 Tryd.f3 rfl rfl rfl rfl rfl rfl rfl ⟨rfl, rfl, rfl, rfl, rfl⟩ rfl rfl rfl rfl rfl (by kernel_rfl) Tryd.func3 (by kernel_rfl)
    (of_decide_eq_true (by kernel_rfl)) (by unfold Func.isWrapper; first | (rw [if_pos (by decide +kernel)]; kernel_rfl) | (rw [if_neg (by decide +kernel)]; exact ⟨rfl, rfl⟩))
    (fun os started H enc _ F => by rw [OpenClaim.pre_eq_preRow]; exact lifted os started H enc F)

theorem plain (f : FuncId) (fn : Func) (hf : Tryd.pinned.checked.prog.funcNamed "loop.example/pub-goexprs/laws.FnExactPrecedence" = some f) (hfn : Tryd.pinned.checked.prog.funcs[f]? = some fn) :
    true = Tryd.pinned.checked.prog.looks [] ∧ ∀ (j : Nat) t, fn.params[j]? = some t → Tryd.pinned.checked.prog.wantsStandIn t = false := by
  obtain rfl : f = 3 := Option.some.inj ((show Tryd.prog.funcNamed "loop.example/pub-goexprs/laws.FnExactPrecedence" = some 3 by kernel_rfl).symm.trans hf) |>.symm
  obtain rfl : fn = Tryd.f3 := (Option.some.inj (Tryd.func3.symm.trans hfn)).symm
  refine ⟨by kernel_rfl, fun j t ht => ?_⟩
  rw [Tryd.params3] at ht
  obtain rfl : t = 3 := by simpa using Array.mem_of_getElem? ht
  exact (show Tryd.prog.wantsStandIn 3 = false by kernel_rfl)

/-- The card of laws.FnExactPrecedence. -/
theorem card : Rows.FnExactPrecedenceCardSaid :=
  Claim7.holds_tied_plain_at .later [] _ _ _ _ said (fun _ h => by cases h) (by kernel_rfl) (fun _ h => by cases h) fnExactPrecedence_row_tie rfl ⟨rfl, rfl⟩ (by kernel_rfl) rfl plain (by kernel_rfl)
#print axioms card
end Go.Proofs.YteoefhjjcimknaaDoor.precedence
