/-
  From the row's list of package-level variables to what the walks ask: the table of the tokens' texts, tables of integers; the variables read again behind the call.
  From a datum of the argument to a tree in memory.
  From a datum of the argument to a row of numbers in memory.
-/
import Derived.Test.YtjbhjbpamnoebaaGreatFmtCards
import Derived.Test.YtjbhjbpamnoebaaGreatFmtTie
import Derived.Test.YtjbhjbpamnoebaaGreatFmtK1
import Derived.Lib.LaidU8
import Derived.Lib.ItoaNum
import Derived.LaidMore
import Derived.ProofKit
import Derived.WalkSmall
import Derived.Stop.Joined
import Derived.MakeChecks
import Derived.Test.YtjbhjbpamnoebaaGreatFmtGe
import Derived.ChangeSlices
namespace Go.Proofs.YtjbhjbpamnoebaaGreatFmt
open Go.ChangeShapes Go.WideShapes Go.ChangeAt Go.RowKit

theorem own : ownKnob Tryz.prog.godebug = none := by kernel_rfl
theorem laidOut : laidOutB Tryz.prog = true := by kernel_rfl

/-- An array of strings that reads as a table holds it, cell for cell. -/
theorem strTab_of_reads {P : Program} {W : World} {name : String} {ss : List (List UInt8)} {g n : Nat} {t e : TypeId} (hg : P.globalNamed name = some g) (hty : (P.globals[g]?).map (·.type) = some t)
    (ht : P.underlying t = some (.array n e)) (he : P.underlying e = some .string) (hce : P.cellsOf e = 1) (h : Lib.VarReads P W name (.agg (ss.map fun s => .lit (.string s)))) (i : Nat) (hi : i < n) :
    W.cell? ⟨g, i, none⟩ = some (.string ⟨(ss.getD i []).toArray⟩) := by
  obtain ⟨g', t', cs, fuel, p, hg', ht', hvar, hd⟩ := h
  obtain rfl := Option.some.inj (hg.symm.trans hg')
  obtain rfl := Option.some.inj (hty.symm.trans ht')
  obtain ⟨f', d, q, hds, hr⟩ := Lib.array_elem ht hd i hi
  rw [hce] at hr
  obtain ⟨s, hc, hx, _⟩ := DataW.trod_string he hr
  rw [World.var?_cell hg hvar i]
  have h1 : cs.toList[i]? = some (.string s) := by
    have := congrArg (·[0]?) hc
    simpa [List.getElem?_take, List.getElem?_drop] using this
  have h2 : cs[i]? = some (.string s) := by simpa using h1
  rw [h2]
  simp only [List.getElem?_map, Option.map_eq_some_iff] at hds
  obtain ⟨b, hb, rfl⟩ := hds
  simp only [Prod.mk.injEq, DataW.lit.injEq, Lit.string.injEq] at hx
  rw [List.getD_eq_getElem?_getD, hb, hx.1]
  rfl
/-- An array of integers likewise. -/
theorem tabIs_of_reads {P : Program} {W : World} {name : String} {k : IntKind} {zs : List Int} {g n : Nat} {t e : TypeId} (hg : P.globalNamed name = some g) (hty : (P.globals[g]?).map (·.type) = some t)
    (ht : P.underlying t = some (.array n e)) (he : P.underlying e = some (.int k)) (hce : P.cellsOf e = 1) (hct : P.cellsOf t = n) (h : Lib.VarReads P W name (Lib.tabData k zs)) : Lib.TabIs P W name k zs := by
  obtain ⟨g', t', cs, fuel, p, hg', ht', hvar, hd⟩ := h
  obtain rfl := Option.some.inj (hg.symm.trans hg')
  obtain rfl := Option.some.inj (hty.symm.trans ht')
  unfold Lib.TabIs
  rw [hvar, ← Lib.cells_of_tab ht he hce hct hd]

theorem gTok : Tryz.prog.globalNamed "loop.example/pub-goexprs/pub/goparse_go_token.tokens" = some 0 := by kernel_rfl
theorem gTokType : (Tryz.prog.globals[0]?).map (·.type) = some 285 := by kernel_rfl
theorem cells_string : Tryz.prog.cellsOf 9 = 1 := by kernel_rfl
theorem tokData {H : Type} : (Rows.laid_loop_example_pub_goexprs_pub_goparse_go_token_tokens : DataW H) = .agg (tab.map fun s => .lit (.string s)) := rfl
theorem tokTab_of_reads {W : World} (h : Lib.VarReads Tryz.prog W "loop.example/pub-goexprs/pub/goparse_go_token.tokens" Rows.laid_loop_example_pub_goexprs_pub_goparse_go_token_tokens) : TokTab W := fun i hi =>
  strTab_of_reads gTok gTokType Tryz.underlying285 Tryz.underlying9 cells_string (by rw [← tokData]; exact h) i hi

/-- The named variable reads behind the call as it read before. -/
theorem vars_again {H : Type} {enc : TypeId × Value → H} {W W' : World} {gs : List (DataW H)} {q : List MemPlace} (hV : DataW.TrodVars enc Tryz.prog W (fun _ => true) ["loop.example/pub-goexprs/pub/goparse_go_token.tokens"] gs q)
    (hb : Below W.heap.size W W') (hlt : ∀ x ∈ q, x.block < W.heap.size) :
    ∃ d, gs = [d] ∧ DataW.TrodVars enc Tryz.prog W' (fun b => decide (b < W.heap.size)) ["loop.example/pub-goexprs/pub/goparse_go_token.tokens"] [d] q := by
  obtain ⟨g, t, cs, fuel, d, p, rfl, hg, ht, hv, hd, rfl⟩ := trodVars_one hV
  obtain rfl := Option.some.inj (gTok.symm.trans hg)
  obtain rfl := Option.some.inj (gTokType.symm.trans ht)
  have hgB : 0 < W.heap.size := by
    have hcs : 0 < cs.size := by
      rcases Nat.eq_zero_or_pos cs.size with h0 | h0
      · exfalso
        have hn : cs.toList = [] := by simpa using h0
        rw [hn] at hd
        cases fuel with
        | zero => simp [DataW.trod] at hd
        | succ n => simp [DataW.trod, Tryz.underlying285, show Tryz.prog.cellsOf 285 = 89 by kernel_rfl] at hd
      · exact h0
    have := World.var?_cell hg hv 0
    rw [Array.getElem?_eq_getElem hcs] at this
    exact block_lt_of_cell this
  refine ⟨d, rfl, ?_⟩
  have h1 : DataW.Trod enc Tryz.prog W 0 (fun _ => true) true 285 (.agg cs) d p := ⟨fuel, hd⟩
  obtain ⟨f', h2⟩ := Below.trod laidOut (by kernel_rfl) (of_decide_eq_true (by kernel_rfl)) h1 hb (fun x hx => hlt x (by simp [hx]))
  exact trodVars_mk1 gTok gTokType (var?_below hb hg hgB hv) h2
end Go.Proofs.YtjbhjbpamnoebaaGreatFmt

namespace Go.Proofs.YtjbhjbpamnoebaaGreatFmt
open Go.ChangeShapes Go.WideShapes Go.ChangeAt Go.RowKit

theorem list_of {α : Type} {Q : Nat → α → Prop} : ∀ (n : Nat), (∀ i, i < n → ∃ x, Q i x) → ∃ l : List α, l.length = n ∧ ∀ i x, l[i]? = some x → Q i x
  | 0, _ => ⟨[], rfl, fun i x h => by simp at h⟩
  | n + 1, h => by
    obtain ⟨l, hl, hq⟩ := list_of n fun i hi => h i (by omega)
    obtain ⟨x, hx⟩ := h n (by omega)
    refine ⟨l ++ [x], by simp [hl], fun i y hy => ?_⟩
    by_cases hi : i < n
    · rw [List.getElem?_append_left (by omega)] at hy
      exact hq i y hy
    · have hlt := (List.getElem?_eq_some_iff.1 hy).1
      simp at hlt
      obtain rfl : i = n := by omega
      rw [List.getElem?_append_right (by omega), hl, Nat.sub_self] at hy
      cases hy
      exact hx
theorem cells_node : Tryz.prog.cellsOf 24 = 3 := by kernel_rfl
theorem cells_nodes : Tryz.prog.cellsOf 22 = 1 := by kernel_rfl
set_option maxRecDepth 100000 in
theorem open_nd {H : Type} {enc : TypeId × Value → H} {W : World} {sp : Nat → Bool} : ∀ (fuel : Nat) (cs : List Value) (x : DataW H × List MemPlace), DataW.trod enc Tryz.prog W 0 sp true fuel 24 cs = some x →
    ∃ n : Nd, cs = n.cells ∧ n.In W W.heap.size := by
  intro fuel
  induction fuel using Nat.strongRecOn with
  | _ fuel ih =>
    intro cs x h
    obtain ⟨xs, n, rfl, rfl, hl, hlen, hf⟩ := DataW.trod_struct Tryz.underlying24 h
    rw [cells_node] at hl
    replace hlen : xs.length = 3 := hlen
    obtain ⟨c0, c1, c2, rfl⟩ : ∃ c0 c1 c2, cs = [c0, c1, c2] := by
      match cs, hl with
      | [a, b, c], _ => exact ⟨a, b, c, rfl⟩
    obtain ⟨x0, x1, x2, rfl⟩ : ∃ c0 c1 c2, xs = [c0, c1, c2] := by
      match xs, hlen with
      | [a, b, c], _ => exact ⟨a, b, c, rfl⟩
    have f0 : DataW.trod enc Tryz.prog W 0 sp true n 9 (([c0, c1, c2].drop 0).take (Tryz.prog.cellsOf 9)) = some x0 := hf 0 _ rfl
    have f1 : DataW.trod enc Tryz.prog W 0 sp true n 9 (([c0, c1, c2].drop 1).take (Tryz.prog.cellsOf 9)) = some x1 := hf 1 _ rfl
    have f2 : DataW.trod enc Tryz.prog W 0 sp true n 22 (([c0, c1, c2].drop 2).take (Tryz.prog.cellsOf 22)) = some x2 := hf 2 _ rfl
    rw [cells_string] at f0 f1
    rw [cells_nodes] at f2
    obtain ⟨s0, e0, _⟩ := DataW.trod_string Tryz.underlying9 f0
    obtain ⟨s1, e1, _⟩ := DataW.trod_string Tryz.underlying9 f1
    have e0 : [c0] = [Value.string s0] := e0
    have e1 : [c1] = [Value.string s1] := e1
    obtain rfl : c0 = .string s0 := by simpa using e0
    obtain rfl : c1 = .string s1 := by simpa using e1
    rcases DataW.trod_slice Tryz.underlying22 f2 with ⟨e2, _⟩ | ⟨a, len, cap, elems, rest, m, rfl, e2, _, _, hlc, hcm, hel, hget, _⟩
    · have e2 : [c2] = [Value.slice none 0 0] := e2
      obtain rfl : c2 = .slice none 0 0 := by simpa using e2
      refine ⟨⟨s0, s1, none, 0, []⟩, rfl, ?_⟩
      rw [Nd.In_iff]
      exact ⟨Nat.le_refl _, Nat.zero_le _, fun j k hj => by simp at hj⟩
    · have e2 : [c2] = [Value.slice (some a) len cap] := e2
      obtain rfl : c2 = .slice (some a) len cap := by simpa using e2
      rw [cells_node] at hget
      have hspot : 0 < len → a.spot = none := fun h0 => by
        have hg := hget 0 h0
        rw [List.getElem?_eq_getElem (by omega)] at hg
        obtain ⟨ci, hci, hti⟩ := Option.bind_eq_some_iff.1 hg
        obtain ⟨k, rfl, _⟩ := ih m (by omega) _ _ hti
        obtain ⟨_, _, hcell⟩ := World.cells?_some hci
        have g0 : W.cell? a = some (.string k.kd) := by
          have := hcell 0 (by omega)
          rw [Nat.zero_mul] at this
          exact this
        unfold World.cell? at g0
        split at g0
        · split at g0
          · cases g0
          · rename_i hs
            simpa using hs
        · cases g0
      have hk : ∀ i, i < len → ∃ k : Nd, ElemAt W W.heap.size (some a) i k ∧ k.In W W.heap.size := fun i hi => by
        have hg := hget i hi
        rw [List.getElem?_eq_getElem (by omega)] at hg
        obtain ⟨ci, hci, hti⟩ := Option.bind_eq_some_iff.1 hg
        obtain ⟨k, rfl, hin⟩ := ih m (by omega) _ _ hti
        obtain ⟨_, _, hcell⟩ := World.cells?_some hci
        have g0 := hcell 0 (by omega)
        have g1 := hcell 1 (by omega)
        have g2 := hcell 2 (by omega)
        have g0 : W.cell? ((a.add (i * 3)).add 0) = some (.string k.kd) := g0
        have g1 : W.cell? ((a.add (i * 3)).add 1) = some (.string k.tx) := g1
        have g2 : W.cell? ((a.add (i * 3)).add 2) = some (.slice k.ad k.ks.length k.cp) := g2
        obtain ⟨b, o, sp'⟩ := a
        obtain rfl : sp' = none := hspot (by omega)
        have had : ∀ j, ((⟨b, o, none⟩ : Addr).add (i * 3)).add j = ⟨b, o + i * 3 + j, none⟩ := fun j => by
          unfold Addr.add
          split <;> split <;> simp_all
        rw [had] at g0 g1 g2
        exact ⟨k, ⟨b, o, rfl, block_lt_of_cell g0, g0, g1, g2⟩, hin⟩
      obtain ⟨ks, hks, hq⟩ := list_of len hk
      subst hks
      refine ⟨⟨s0, s1, some a, cap, ks⟩, rfl, ?_⟩
      rw [Nd.In_iff]
      exact ⟨hlc, hcm, hq⟩
end Go.Proofs.YtjbhjbpamnoebaaGreatFmt

namespace Go.Proofs.YtjbhjbpamnoebaaGreatFmt
open Go.ChangeShapes Go.WideShapes Go.ChangeAt Go.RowKit

theorem cells_int : Tryz.prog.cellsOf 3 = 1 := by kernel_rfl
theorem open_in {H : Type} {enc : TypeId × Value → H} {W : World} {sp : Nat → Bool} (fuel : Nat) (a : Option Addr) (len cap : Nat) (x : DataW H × List MemPlace) (h : DataW.trod enc Tryz.prog W 0 sp true fuel 33 [.slice a len cap] = some x) :
    ∃ gs : List Int, len = gs.length ∧ len ≤ 9223372036854775807 ∧ InAt W a gs := by
  rcases open_ints Tryz.underlying33 Tryz.underlying3 cells_int h with ⟨hcs, _⟩ | ⟨b, n, c, zs, hcs, _, hl, hm, hz, _, hcell, _⟩
  · have hcs : Value.slice a len cap = .slice none 0 0 := by simpa using hcs
    obtain ⟨rfl, rfl, rfl⟩ := Value.slice.inj hcs
    exact ⟨[], rfl, Nat.zero_le _, fun j y hj => by simp at hj⟩
  · have hcs : Value.slice a len cap = .slice (some b) n c := by simpa using hcs
    obtain ⟨rfl, rfl, rfl⟩ := Value.slice.inj hcs
    have hnz : len ≤ zs.length := by
      rw [hz]
      split <;> omega
    have h9 : len ≤ maxLen := by omega
    refine ⟨zs.take len, by rw [List.length_take]; omega, h9, fun j y hj => ?_⟩
    have hjn : j < len := by
      have := (List.getElem?_eq_some_iff.1 hj).1
      rw [List.length_take] at this
      omega
    rw [List.getElem?_take_of_lt hjn] at hj
    have h0 := hcell 0 (by omega)
    have hj' := hcell j (by omega)
    rw [List.getD_eq_getElem?_getD, hj, Option.getD_some] at hj'
    have hsp : b.spot = none := by
      have hadd0 : b.add 0 = b := by unfold Addr.add; split <;> simp_all
      rw [hadd0] at h0
      unfold World.cell? at h0
      split at h0
      · split at h0
        · cases h0
        · rename_i hs
          simpa using hs
      · cases h0
    obtain ⟨g, o, s⟩ := b
    obtain rfl : s = none := hsp
    have hadd : (⟨g, o, none⟩ : Addr).add j = ⟨g, o + j, none⟩ := by unfold Addr.add; split <;> simp_all
    rw [hadd] at hj'
    exact ⟨g, o, rfl, hj'⟩
end Go.Proofs.YtjbhjbpamnoebaaGreatFmt
