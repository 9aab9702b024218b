/-
  impl.nodes: the walk.
-/
import Derived.Test.YtnpnmfblcogkmaaDoorNq
namespace Go.Proofs.YtnpnmfblcogkmaaDoor
open Go.RowKit

theorem cells_new (w : World) (m : Nd) : ∀ j u, m.cells[j]? = some u → (w.alloc (.cells #[.string m.kd, .string m.tx, .slice m.ad m.ks.length m.cp] 32)).cell? ((⟨w.heap.size, 0, none⟩ : Addr).add j) = some u := by
  intro j u h
  have := (Blk.new w 32 #[.string m.kd, .string m.tx, .slice m.ad m.ks.length m.cp]).cell j
  have ha : ((⟨w.heap.size, 0, none⟩ : Addr).add j) = ⟨w.heap.size, j, none⟩ := by
    simp [Addr.add]
    intro hj
    exact hj.symm
  rw [ha, this]
  simpa [Nd.cells] using h
theorem cells_one (m : Nd) : ∀ u ∈ m.cells, u.oneCell' = true := by
  intro u hu
  simp [Nd.cells] at hu
  rcases hu with rfl | rfl | rfl <;> rfl

theorem nodes_any (P : Nat → Int) (ks : List Nd) (IH : ∀ k ∈ ks, NOf P k) (vs : List Value) (W : World) (hT : TokTab W) (lo hi : Nat) (hhi : hi ≤ W.heap.size) (A : Option Addr) (cap : Nat)
    (hcell : ∀ j v, vs[j]? = some v → ∃ g o, A = some ⟨g, o, none⟩ ∧ g < W.heap.size ∧ W.cell? ⟨g, o + j, none⟩ = some v) (hNL : NL W (Rng lo hi) P ks vs) (hlen : vs.length ≤ 401) (n : Nat) (hn : vs.length = n) :
    Calls Tryd.prog 32 #[.slice A n cap] W (NsPost W ks) := by
  subst hn
  have hlm : vs.length ≤ 9223372036854775807 := by omega
  obtain ⟨i0, hi0, hz0, hz1, hz2⟩ := info_parts infoN
  have HI := Lib.hid (And.intro hi0 (And.intro hz0 (And.intro hz1 hz2)))
  have L0 := Lib.hid (LN.start W)
  have H0 := Lib.hid hNL
  have HT := Lib.hid hT
  have HK := Lib.hid hcell
  have IH' := Lib.hid IH
  clear hNL hcell IH hT hi0 hz0 hz1 hz2
  go_enter Tryd.func32, Tryd.ntmps32
  go_wp2_with fail
  go_loopw [3, 8] (fun sv i' wr => ∃ (j : Nat) (k0 k1 ms : List Nd), i' = .int .i64 j ∧ j ≤ vs.length ∧ ks = k0 ++ k1 ∧ ms.length ≤ j ∧ LN W sv ms wr ∧ NL W (Rng lo hi) P k1 (vs.drop j) ∧ sameL k0 ms = true) (fun _ i' _ => vs.length - (intOf i').toNat)
  case atStart => exact ⟨0, [], ks, [], rfl, Nat.zero_le _, rfl, Nat.le_refl _, L0.out, H0.out, rfl⟩
  case round =>
    obtain ⟨j, k0, k1, ms, rfl, hj, hks, hml, hL, hN, hS⟩ := hrel
    have hsz := hL.2.1.size
    by_cases hlt : j < vs.length
    · obtain ⟨g, o, rfl, hg, hc0⟩ := HK.out j vs[j] (List.getElem?_eq_getElem hlt)
      have hd : vs.drop j = vs[j] :: vs.drop (j + 1) := List.drop_eq_getElem_cons hlt
      rw [hd] at hN
      generalize vs[j] = v at hc0 hN
      have hc := (hL.2.1.cell (p := ⟨g, o + j, none⟩) hg).trans hc0
      have HL := Lib.hid hL
      have HS := Lib.hid hS
      have HQ := Lib.hid hks
      clear hc0 hd hL hS hks
      cases hN with
      | skip hN =>
        have HN := Lib.hid hN
        clear hN
        go_wp2_with fail
        go_roundw
        case rel => exact ⟨j + 1, k0, k1, ms, by go_num, by omega, HQ.out, by omega, HL.out, HN.out, HS.out⟩
        case measure => simp [intOf]; omega
      | @take ii k _ kr _ hX hN =>
        obtain ⟨q, c, rfl⟩ := hX.form
        have HX := Lib.hid (ExR.keep (w' := wr) (fun b hb => HL.out.2.1.block b (Nat.lt_of_lt_of_le hb.2 hhi)) (fun _ hs => hs) _ _ _ hX)
        have HN := Lib.hid hN
        clear hX hN
        go_wp2_with fail
        refine (IH'.out k (by rw [HQ.out]; simp) wr lo hi ii _ (HT.out.below HL.out.2.1) (by omega) HX.out).mono ?_
        rintro e w2 ⟨m, he, hm, hsame, hb⟩
        have he2 : e = .returned (.agg #[.string m.kd, .string m.tx, .slice m.ad m.ks.length m.cp]) := he
        subst he2
        have HM := Lib.hid hm
        have HSm := Lib.hid hsame
        have HB := Lib.hid hb
        obtain ⟨hi0, hz0, hz1, hz2⟩ := HI.out
        clear hm hsame hb he
        go_wp2_with (at_builtin; refine wpList_append_own_at _ rfl _ _ 30 rfl W.heap.size 32 i0 (.agg #[.string ⟨#[]⟩, .string ⟨#[]⟩, .slice none 0 0]) 3 56 underN hi0 hz0 hz1 hz2 rfl (by decide) _ _ (flat ms) rfl ((HL.out.next HB.out).next ((Below.refl _ _).alloc (Nat.le_refl _) _)).1 ⟨w2.heap.size, 0, none⟩ 1 1 m.cells rfl rfl (cells_new w2 m) (cells_one m) (by unfold maxLen; omega) (by omega) (by have := (HL.out.next HB.out).2.1.size; rw [World.size_alloc]; omega) ?_; intro v' w3 hown hgrow hnil hloc)
        have HL3 := Lib.hid (LN.append HL.out HB.out HM.out _ hown hgrow hloc)
        clear hown hgrow hnil hloc hi0 hz0 hz1 hz2
        go_roundw
        case rel => exact ⟨j + 1, k0 ++ [k], kr, ms ++ [m], by go_num, by omega, by rw [HQ.out]; simp, by simp; omega, HL3.out, HN.out, sameL_snoc HS.out HSm.out⟩
        case measure => simp [intOf]; omega
    · have hj2 : j = vs.length := by omega
      subst hj2
      rw [List.drop_length] at hN
      cases hN
      have hd := LN.done hL hS
      rw [← List.append_nil k0, ← hks] at hd
      have HD := Lib.hid hd
      clear hd hL hS hks
      go_wp2_with fail
      go_ret
      exact HD.out
end Go.Proofs.YtnpnmfblcogkmaaDoor
