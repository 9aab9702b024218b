/-
  Proved: laws.FnExactPlaces returns true for every tree of nodes and all gaps, and reads its arguments as they were.
  Conditions: the four package-level variables that the row lists hold what the program's text lays (the card ties them); the argument is a tree (a datum that ends); fmt.Sprintf, which stands on the road of a number without a name, is never come to.
-/
import Derived.Test.YtjbhjbpamnoebaaGreatFmtK23
import Derived.Test.YtjbhjbpamnoebaaGreatFmtL10
import Derived.Deep.DeepWitnessRef
import Derived.Stop.JoinedTold
import Derived.SevenTiedAt
import Derived.OpenShut
namespace Go.Proofs.YtjbhjbpamnoebaaGreatFmt.places
open Go.ChangeShapes Go.WideShapes Go.ChangeAt Go.RowKit Go.ChangeMaps
open Go.Stop Go.Extern

theorem of_laid {W : World} (h : laidMetH Tryz.prog Rows.fnExactPlacesRow.laid W) : TokTab W := by
  rw [MakeChecks.laidMetH_plain _ _ _ (by kernel_rfl)] at h
  exact tokTab_of_reads (Lib.laidMet.reads h (by simp [Rows.fnExactPlacesRow]))

set_option maxRecDepth 100000 in
theorem contract (H : Type) (enc : TypeId × Value → H) (W : World) (base : Nat) (args : Array Value) (ds gs : List (DataW H)) (before : List MemPlace)
    (hval : ∀ (j : Nat) t v, Tryz.f5.params[j]? = some t → args[j]? = some v → Value.okWide Tryz.prog W .any base t v)
    (hW : DataW.Whole enc Tryz.prog Tryz.f5.params.toList Rows.fnExactPlacesSpec.vars false W args.toList ds gs before) (hL : laidMetH Tryz.prog Rows.fnExactPlacesRow.laid W) :
    Calls Tryz.prog 5 args W fun e W' => ∃ v, e = .returned v ∧ Rows.fnExactPlacesSpec.post enc Tryz.prog Tryz.f5 false true false false W args v W' := by
  have hW' := hW
  have hlt := fun x hx => hW'.lt x hx
  obtain ⟨p, q, hA0, hV, rfl, hfz, hnd⟩ := hW
  have hA : DataW.TrodAll enc Tryz.prog W 0 (fun _ => true) true Tryz.f5.params.toList args.toList ds p := hA0
  rw [Tryz.params5] at hA hval
  obtain ⟨v0, v1, d0, d1, p0, p1, rfl, rfl, rfl, h0, h1⟩ := trodAll_two hA
  obtain ⟨G, m, gc, rfl⟩ := okWide_slice Tryz.underlying33 (hval 1 33 v1 rfl rfl)
  obtain ⟨fuel1, hf1⟩ := id h1
  obtain ⟨gs, hm, hm9, hG⟩ := open_in fuel1 G m gc _ hf1
  have hB1 := fun (W' : World) (hb : Below W.heap.size W W') => Below.trod laidOut (by kernel_rfl) (of_decide_eq_true (by kernel_rfl)) h1 hb (fun x hx => hlt x (by simp [hx]))
  obtain ⟨cs, rfl, _⟩ := okWide_struct Tryz.underlying24 (hval 0 24 v0 rfl rfl)
  obtain ⟨fuel, hf⟩ := id h0
  obtain ⟨n, hn, hin⟩ := open_nd fuel _ _ hf
  obtain rfl : cs = n.cells.toArray := by
    have hn : cs.toList = n.cells := hn
    rw [← hn]
  have hT := of_laid hL
  clear hA0 hf hn
  refine (law_places n gs G gc m hm hm9 W hT hin hG).mono fun e W' ⟨he, hb⟩ => ?_
  subst he
  obtain ⟨g1, rfl, hV2⟩ := vars_again hV hb (fun x hx => hlt x (by simp [hx]))
  have hB := Below.trod laidOut (by kernel_rfl) (of_decide_eq_true (by kernel_rfl)) h0 hb (fun x hx => hlt x (by simp [hx]))
  exact ⟨_, rfl, _, _, _, [], _, q, hW', trodAll_mk1 (shut_bool Tryz.underlying4 _), trodAll_mk2 hB (hB1 W' hb), hV2, hb.frame _, fun h => by cases h⟩

theorem door_met (os : Os) (args : Array Value) : laidMetH Tryz.prog Rows.fnExactPlacesRow.laid ((World.doorLaid Tryz.prog 400 os).forCall (fun _ _ => 0) ⟨#[], args, []⟩).memory :=
  laidMetH_of_parts3 (fuel := 8) (laidMet_of_run' 8 (by kernel_rfl) (by kernel_rfl)) (by kernel_rfl) (by kernel_rfl)
theorem reads (os : Os) {H : Type} (enc : TypeId × Value → H) : ∃ places, DataW.whole enc Tryz.prog ((World.doorLaid Tryz.prog 400 os).forCall (fun _ _ => 0) ⟨#[], #[.agg #[.string ⟨#[]⟩, .string ⟨#[]⟩, .slice none 0 0], .slice none 0 0], []⟩).memory Tryz.f5.params.toList Rows.fnExactPlacesSpec.vars false #[Value.agg #[.string ⟨#[]⟩, .string ⟨#[]⟩, .slice none 0 0], .slice none 0 0].toList 8 = some ([.agg [.lit (.string []), .lit (.string []), .nil], .nil], [Rows.laid_loop_example_pub_goexprs_pub_goparse_go_token_tokens], places) := by
  have h : (DataW.whole enc Tryz.prog ((World.doorLaid Tryz.prog 400 os).forCall (fun _ _ => 0) ⟨#[], #[.agg #[.string ⟨#[]⟩, .string ⟨#[]⟩, .slice none 0 0], .slice none 0 0], []⟩).memory Tryz.f5.params.toList Rows.fnExactPlacesSpec.vars false #[Value.agg #[.string ⟨#[]⟩, .string ⟨#[]⟩, .slice none 0 0], .slice none 0 0].toList 8).map (fun x => (x.1, x.2.1)) = some ([.agg [.lit (.string []), .lit (.string []), .nil], .nil], [Rows.laid_loop_example_pub_goexprs_pub_goparse_go_token_tokens]) := by kernel_rfl
  obtain ⟨⟨a, b, c⟩, h1, h2⟩ := Option.map_eq_some_iff.1 h
  simp only [Prod.mk.injEq] at h2
  obtain ⟨rfl, rfl⟩ := h2
  exact ⟨c, h1⟩

set_option maxRecDepth 100000 in
theorem lifted (os : Os) (started : os.Started) (H : Type) (enc : TypeId × Value → H) :
    ReturnsInTold none {} Tryz.checked os 5 .any Input.okWide ((OpenSpec.ofChange Rows.fnExactPlacesSpec).preRow enc Tryz.prog Tryz.f5 [] false Rows.fnExactPlacesRow.laid) (fun F => ((OpenSpec.ofChange Rows.fnExactPlacesSpec).at F).post enc Tryz.prog Tryz.f5 false true false false) (aloneAtReturn Tryz.prog) nothingAlways := by
  obtain ⟨places, hx⟩ := reads os enc
  refine returnsInTold_of_row (C := Tryz.checked) (s := OpenSpec.ofChange Rows.fnExactPlacesSpec) (by kernel_rfl) own started (by kernel_rfl) Tryz.func5
    (OpenSpec.witness_stopped_atRef (enc := enc) (C := Tryz.checked) false (World.doorLaid Tryz.prog 400 os) #[.agg #[.string ⟨#[]⟩, .string ⟨#[]⟩, .slice none 0 0], .slice none 0 0] rfl (by kernel_rfl) (by kernel_rfl) (by kernel_rfl)
      (OpenSpec.preRow_of_cond 8 hx (by kernel_rfl) (fun k hk => by cases hk) (by kernel_rfl) (door_met os _))) ?_
  intro F W base args ds gs before _ _ hval hW _ _ _ hL _
  exact contract H enc W base args ds gs before hval hW hL

theorem stopsIs : Tryz.pinned.checked.prog.stops = ["fmt.Sprintf, its operands' methods called"] := by kernel_rfl
theorem knobsIs : Tryz.pinned.checked.prog.stopKnobs = [] := by kernel_rfl
theorem quiet (os : Os) : Stop.quiet Tryz.pinned.checked.prog os := by
  intro k hk
  rw [knobsIs] at hk
  cases hk

/-- The card of laws.FnExactPlaces. -/
theorem card : Rows.FnExactPlacesToldSaid :=
  Claim7.holds_of_told_tied_any_at .later 5 Tryz.f5 "fmt.Sprintf, its operands' methods called" [] [] _ _ _ _ _ (by kernel_rfl) rfl rfl rfl laidOut (by kernel_rfl) rfl ⟨rfl, rfl, rfl, rfl, rfl, rfl, rfl⟩ rfl rfl (by kernel_rfl) (by kernel_rfl) Tryz.func5 (by kernel_rfl)
    (of_decide_eq_true (by kernel_rfl)) (by unfold Func.isWrapper; first | (rw [if_pos (by decide +kernel)]; kernel_rfl) | (rw [if_neg (by decide +kernel)]; exact ⟨rfl, rfl⟩)) stopsIs.symm rfl knobsIs.symm (by kernel_rfl)
    (by kernel_rfl) (by kernel_rfl) (by kernel_rfl) (by kernel_rfl) (by kernel_rfl) (by kernel_rfl) (by kernel_rfl) (by kernel_rfl) (by kernel_rfl) rfl (by kernel_rfl) rfl rfl
    rfl rfl
    rfl (by kernel_rfl) (by kernel_rfl) (by kernel_rfl) (by decide) (by kernel_rfl) fnExactPlaces_row_tie
    (OpenClaim.moreEntering_of (by kernel_rfl) (by kernel_rfl) (by kernel_rfl) (by kernel_rfl) (by kernel_rfl) (by kernel_rfl) (by kernel_rfl) (by kernel_rfl) (by kernel_rfl) (by kernel_rfl))
    ⟨_, WideRow.started_initial, quiet _⟩
    (fun os started _ H enc _ => lifted os started H enc)
#print axioms card
end Go.Proofs.YtjbhjbpamnoebaaGreatFmt.places
