/-
  From the row's list of package-level variables to what the walks ask: the table of the tokens' texts, tables of integers; the variables read again behind the call.
-/
import Derived.Test.YtnpnmfblcogkmaaDoorCards
import Derived.Test.YtnpnmfblcogkmaaDoorTie
import Derived.Test.YtnpnmfblcogkmaaDoorTok
import Derived.Lib.LaidU8
import Derived.Lib.ItoaNum
import Derived.LaidMore
import Derived.ProofKit
import Derived.WalkSmall
import Derived.Stop.Joined
import Derived.MakeChecks
namespace Go.Proofs.YtnpnmfblcogkmaaDoor
open Go.ChangeShapes Go.WideShapes Go.ChangeAt Go.RowKit

theorem own : ownKnob Tryd.prog.godebug = none := by kernel_rfl
theorem laidOut : laidOutB Tryd.prog = true := by kernel_rfl

/-- An array of strings that reads as a table holds it, cell for cell. -/
theorem strTab_of_reads {P : Program} {W : World} {name : String} {ss : List (List UInt8)} {g n : Nat} {t e : TypeId} (hg : P.globalNamed name = some g) (hty : (P.globals[g]?).map (·.type) = some t)
    (ht : P.underlying t = some (.array n e)) (he : P.underlying e = some .string) (hce : P.cellsOf e = 1) (h : Lib.VarReads P W name (.agg (ss.map fun s => .lit (.string s)))) (i : Nat) (hi : i < n) :
    W.cell? ⟨g, i, none⟩ = some (.string ⟨(ss.getD i []).toArray⟩) := by
  obtain ⟨g', t', cs, fuel, p, hg', ht', hvar, hd⟩ := h
  obtain rfl := Option.some.inj (hg.symm.trans hg')
  obtain rfl := Option.some.inj (hty.symm.trans ht')
  obtain ⟨f', d, q, hds, hr⟩ := Lib.array_elem ht hd i hi
  rw [hce] at hr
  obtain ⟨s, hc, hx, _⟩ := DataW.trod_string he hr
  rw [World.var?_cell hg hvar i]
  have h1 : cs.toList[i]? = some (.string s) := by
    have := congrArg (·[0]?) hc
    simpa [List.getElem?_take, List.getElem?_drop] using this
  have h2 : cs[i]? = some (.string s) := by simpa using h1
  rw [h2]
  simp only [List.getElem?_map, Option.map_eq_some_iff] at hds
  obtain ⟨b, hb, rfl⟩ := hds
  simp only [Prod.mk.injEq, DataW.lit.injEq, Lit.string.injEq] at hx
  rw [List.getD_eq_getElem?_getD, hb, hx.1]
  rfl
/-- An array of integers likewise. -/
theorem tabIs_of_reads {P : Program} {W : World} {name : String} {k : IntKind} {zs : List Int} {g n : Nat} {t e : TypeId} (hg : P.globalNamed name = some g) (hty : (P.globals[g]?).map (·.type) = some t)
    (ht : P.underlying t = some (.array n e)) (he : P.underlying e = some (.int k)) (hce : P.cellsOf e = 1) (hct : P.cellsOf t = n) (h : Lib.VarReads P W name (Lib.tabData k zs)) : Lib.TabIs P W name k zs := by
  obtain ⟨g', t', cs, fuel, p, hg', ht', hvar, hd⟩ := h
  obtain rfl := Option.some.inj (hg.symm.trans hg')
  obtain rfl := Option.some.inj (hty.symm.trans ht')
  unfold Lib.TabIs
  rw [hvar, ← Lib.cells_of_tab ht he hce hct hd]

theorem gTok : Tryd.prog.globalNamed "loop.example/pub-goexprs/pub/goparse_go_token.tokens" = some 1 := by kernel_rfl
theorem gTokType : (Tryd.prog.globals[1]?).map (·.type) = some 52 := by kernel_rfl
theorem cells_string : Tryd.prog.cellsOf 9 = 1 := by kernel_rfl
theorem tokData {H : Type} : (Rows.laid_loop_example_pub_goexprs_pub_goparse_go_token_tokens : DataW H) = .agg (tab.map fun s => .lit (.string s)) := rfl
theorem tokTab_of_reads {W : World} (h : Lib.VarReads Tryd.prog W "loop.example/pub-goexprs/pub/goparse_go_token.tokens" Rows.laid_loop_example_pub_goexprs_pub_goparse_go_token_tokens) : TokTab W := fun i hi =>
  strTab_of_reads gTok gTokType Tryd.underlying52 Tryd.underlying9 cells_string (by rw [← tokData]; exact h) i hi

/-- The named variable reads behind the call as it read before. -/
theorem vars_again {H : Type} {enc : TypeId × Value → H} {W W' : World} {gs : List (DataW H)} {q : List MemPlace} (hV : DataW.TrodVars enc Tryd.prog W (fun _ => true) ["loop.example/pub-goexprs/pub/goparse_go_token.tokens"] gs q)
    (hb : Below W.heap.size W W') (hlt : ∀ x ∈ q, x.block < W.heap.size) :
    ∃ d, gs = [d] ∧ DataW.TrodVars enc Tryd.prog W' (fun b => decide (b < W.heap.size)) ["loop.example/pub-goexprs/pub/goparse_go_token.tokens"] [d] q := by
  obtain ⟨g, t, cs, fuel, d, p, rfl, hg, ht, hv, hd, rfl⟩ := trodVars_one hV
  obtain rfl := Option.some.inj (gTok.symm.trans hg)
  obtain rfl := Option.some.inj (gTokType.symm.trans ht)
  have hgB : 1 < W.heap.size := by
    have hcs : 0 < cs.size := by
      rcases Nat.eq_zero_or_pos cs.size with h0 | h0
      · exfalso
        have hn : cs.toList = [] := by simpa using h0
        rw [hn] at hd
        cases fuel with
        | zero => simp [DataW.trod] at hd
        | succ n => simp [DataW.trod, Tryd.underlying52, show Tryd.prog.cellsOf 52 = 89 by kernel_rfl] at hd
      · exact h0
    have := World.var?_cell hg hv 0
    rw [Array.getElem?_eq_getElem hcs] at this
    exact block_lt_of_cell this
  refine ⟨d, rfl, ?_⟩
  have h1 : DataW.Trod enc Tryd.prog W 0 (fun _ => true) true 52 (.agg cs) d p := ⟨fuel, hd⟩
  obtain ⟨f', h2⟩ := Below.trod laidOut (by kernel_rfl) (of_decide_eq_true (by kernel_rfl)) h1 hb (fun x hx => hlt x (by simp [hx]))
  exact trodVars_mk1 gTok gTokType (var?_below hb hg hgB hv) h2
end Go.Proofs.YtnpnmfblcogkmaaDoor
