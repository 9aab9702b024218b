/-
  Proved: laws.FnExactBareData returns true for every tree of nodes, and reads its argument as it was.
  Conditions: the four package-level variables that the row lists hold what the program's text lays (the card ties them); the argument is a tree (a datum that ends).
-/
import Derived.Test.YtnpnmfblcogkmaaDoorLaid
import Derived.Test.YtnpnmfblcogkmaaDoorLd
import Derived.Test.YtnpnmfblcogkmaaDoorLb
import Derived.Deep.DeepHandedRow
import Derived.Deep.DeepWitnessRowRef
import Derived.OpenShut
namespace Go.Proofs.YtnpnmfblcogkmaaDoor.bareData
open Go.ChangeShapes Go.WideShapes Go.ChangeAt Go.RowKit

theorem of_laid {W : World} (h : laidMetH Tryd.prog Rows.fnExactBareDataRow.laid W) : TokTab W := by
  rw [MakeChecks.laidMetH_plain _ _ _ (by kernel_rfl)] at h
  exact tokTab_of_reads (Lib.laidMet.reads h (by simp [Rows.fnExactBareDataRow]))

set_option maxRecDepth 100000 in
theorem contract (H : Type) (enc : TypeId × Value → H) (W : World) (base : Nat) (args : Array Value) (ds gs : List (DataW H)) (before : List MemPlace)
    (hval : ∀ (j : Nat) t v, Tryd.f4.params[j]? = some t → args[j]? = some v → Value.okWide Tryd.prog W .any base t v)
    (hW : DataW.Whole enc Tryd.prog Tryd.f4.params.toList Rows.fnExactBareDataSpec.vars false W args.toList ds gs before) (hL : laidMetH Tryd.prog Rows.fnExactBareDataRow.laid W) :
    Calls Tryd.prog 4 args W fun e W' => ∃ v, e = .returned v ∧ Rows.fnExactBareDataSpec.post enc Tryd.prog Tryd.f4 false true false false W args v W' := by
  have hW' := hW
  have hlt := fun x hx => hW'.lt x hx
  obtain ⟨p, q, hA0, hV, rfl, hfz, hnd⟩ := hW
  have hA : DataW.TrodAll enc Tryd.prog W 0 (fun _ => true) true Tryd.f4.params.toList args.toList ds p := hA0
  rw [Tryd.params4] at hA hval
  obtain ⟨v0, vs0, d0, ds0, p0, q0, hargs, rfl, rfl, h0, r0⟩ := trodAll_cons hA
  obtain ⟨rfl, rfl, rfl⟩ := trodAll_nil r0
  obtain rfl : args = #[v0] := by cases args; simp_all
  obtain ⟨cs, rfl, _⟩ := okWide_struct Tryd.underlying32 (hval 0 32 v0 rfl rfl)
  obtain ⟨fuel, hf⟩ := id h0
  obtain ⟨n, hn, hin⟩ := open_nd fuel _ _ hf
  obtain rfl : cs = n.cells.toArray := by
    have hn : cs.toList = n.cells := hn
    rw [← hn]
  have hT := of_laid hL
  clear hA0 hf hn
  refine (law_bare n W hT hin).mono fun e W' ⟨he, hb⟩ => ?_
  subst he
  obtain ⟨g1, rfl, hV2⟩ := vars_again hV hb (fun x hx => hlt x (by simp [hx]))
  have hB := Below.trod laidOut (by kernel_rfl) (of_decide_eq_true (by kernel_rfl)) h0 hb (fun x hx => hlt x (by simp [hx]))
  exact ⟨_, rfl, _, _, _, [], _, q, hW', trodAll_mk1 (shut_bool Tryd.underlying4 _), trodAll_cons_mk hB trodAll_mk0, hV2, hb.frame _, fun h => by cases h⟩

theorem door_met (os : Os) (args : Array Value) : laidMetH Tryd.prog Rows.fnExactBareDataRow.laid ((World.doorLaid Tryd.prog 400 os).forCall (fun _ _ => 0) ⟨#[], args, []⟩).memory :=
  laidMetH_of_parts3 (fuel := 8) (laidMet_of_run' 8 (by kernel_rfl) (by kernel_rfl)) (by kernel_rfl) (by kernel_rfl)
theorem reads (os : Os) {H : Type} (enc : TypeId × Value → H) : ∃ places, DataW.whole enc Tryd.prog ((World.doorLaid Tryd.prog 400 os).forCall (fun _ _ => 0) ⟨#[], #[.agg #[.string ⟨#[]⟩, .string ⟨#[]⟩, .slice none 0 0]], []⟩).memory Tryd.f4.params.toList Rows.fnExactBareDataSpec.vars false #[Value.agg #[.string ⟨#[]⟩, .string ⟨#[]⟩, .slice none 0 0]].toList 8 = some ([.agg [.lit (.string []), .lit (.string []), .nil]], [Rows.laid_loop_example_pub_goexprs_pub_goparse_go_token_tokens], places) := by
  have h : (DataW.whole enc Tryd.prog ((World.doorLaid Tryd.prog 400 os).forCall (fun _ _ => 0) ⟨#[], #[.agg #[.string ⟨#[]⟩, .string ⟨#[]⟩, .slice none 0 0]], []⟩).memory Tryd.f4.params.toList Rows.fnExactBareDataSpec.vars false #[Value.agg #[.string ⟨#[]⟩, .string ⟨#[]⟩, .slice none 0 0]].toList 8).map (fun x => (x.1, x.2.1)) = some ([.agg [.lit (.string []), .lit (.string []), .nil]], [Rows.laid_loop_example_pub_goexprs_pub_goparse_go_token_tokens]) := by kernel_rfl
  obtain ⟨⟨a, b, c⟩, h1, h2⟩ := Option.map_eq_some_iff.1 h
  simp only [Prod.mk.injEq] at h2
  obtain ⟨rfl, rfl⟩ := h2
  exact ⟨c, h1⟩

set_option maxRecDepth 100000 in
theorem lifted (os : Os) (started : os.Started) (H : Type) (enc : TypeId × Value → H) (F : Stop.Interp) :
    ReturnsInHanded {} Tryd.checked os 4 .any ((OpenSpec.ofChange Rows.fnExactBareDataSpec).preRow enc Tryd.prog Tryd.f4 Rows.fnExactBareDataRow.domain false Rows.fnExactBareDataRow.laid) (((OpenSpec.ofChange Rows.fnExactBareDataSpec).at F).post enc Tryd.prog Tryd.f4 false true false false) := by
  obtain ⟨places, hx⟩ := reads os enc
  refine returnsInHanded_of_row (C := Tryd.checked) (s := OpenSpec.ofChange Rows.fnExactBareDataSpec) own started (by kernel_rfl) Tryd.func4
    (witness_row_atRef (enc := enc) (C := Tryd.checked) false (World.doorLaid Tryd.prog 400 os) #[.agg #[.string ⟨#[]⟩, .string ⟨#[]⟩, .slice none 0 0]] rfl (by kernel_rfl) (by kernel_rfl) (by kernel_rfl)
      (OpenSpec.preRow_of_cond 8 hx (by kernel_rfl) (fun k hk => by cases hk) (by kernel_rfl) (door_met os _))) ?_
  intro W base args ds gs before hval hW _ _ _ hL _ _
  exact contract H enc W base args ds gs before hval hW hL

theorem said : Rows.FnExactBareDataSaid :=
  OpenClaim.holds_of_cond 4 Tryd.f4 rfl rfl rfl rfl rfl rfl rfl ⟨rfl, rfl, rfl, rfl, rfl⟩ rfl rfl rfl rfl rfl (by kernel_rfl) Tryd.func4 (by kernel_rfl)
    (of_decide_eq_true (by kernel_rfl)) (by unfold Func.isWrapper; first | (rw [if_pos (by decide +kernel)]; kernel_rfl) | (rw [if_neg (by decide +kernel)]; exact ⟨rfl, rfl⟩))
    (fun os started H enc _ F => by rw [OpenClaim.pre_eq_preRow]; exact lifted os started H enc F)

theorem plain (f : FuncId) (fn : Func) (hf : Tryd.pinned.checked.prog.funcNamed "loop.example/pub-goexprs/laws.FnExactBareData" = some f) (hfn : Tryd.pinned.checked.prog.funcs[f]? = some fn) :
    true = Tryd.pinned.checked.prog.looks [] ∧ ∀ (j : Nat) t, fn.params[j]? = some t → Tryd.pinned.checked.prog.wantsStandIn t = false := by
  obtain rfl : f = 4 := Option.some.inj ((show Tryd.prog.funcNamed "loop.example/pub-goexprs/laws.FnExactBareData" = some 4 by kernel_rfl).symm.trans hf) |>.symm
  obtain rfl : fn = Tryd.f4 := (Option.some.inj (Tryd.func4.symm.trans hfn)).symm
  refine ⟨by kernel_rfl, fun j t ht => ?_⟩
  rw [Tryd.params4] at ht
  obtain rfl : t = 32 := by simpa using Array.mem_of_getElem? ht
  exact (show Tryd.prog.wantsStandIn 32 = false by kernel_rfl)

/-- The card of laws.FnExactBareData. -/
theorem card : Rows.FnExactBareDataCardSaid :=
  Claim7.holds_tied_plain_at .later [] _ _ _ _ said (fun _ h => by cases h) (by kernel_rfl) (fun _ h => by cases h) fnExactBareData_row_tie rfl ⟨rfl, rfl⟩ (by kernel_rfl) rfl plain (by kernel_rfl)
#print axioms card
end Go.Proofs.YtnpnmfblcogkmaaDoor.bareData
