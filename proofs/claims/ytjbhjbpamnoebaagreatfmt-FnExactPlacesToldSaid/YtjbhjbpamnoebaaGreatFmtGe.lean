/-
  spec.Starts: the places of tokens behind gaps.
-/
import Derived.Test.YtjbhjbpamnoebaaGreatFmtGd
import Derived.Test.YtjbhjbpamnoebaaGreatFmtL1
import Derived.Test.YtjbhjbpamnoebaaGreatFmtOe
namespace Go.Proofs.YtjbhjbpamnoebaaGreatFmt
open Go.RowKit

def flatI (l : List Int) : List Value := l.map (.int .i64)
theorem flatI_append (a b : List Int) : flatI (a ++ b) = flatI a ++ flatI b := by simp [flatI]
theorem infoI : (Tryz.prog.info? 3).map (fun i => (i.zero, i.size, i.bytes)) = some (some (.int .i64 0), 1, 8) := by kernel_rfl
theorem underIs : Tryz.prog.underlying 33 = some (.slice 3) := by kernel_rfl
/-- Numbers that lie in a slice. -/
def InAt (w : World) (G : Option Addr) (gs : List Int) : Prop := ∀ (j : Nat) (x : Int), gs[j]? = some x → ∃ b o, G = some ⟨b, o, none⟩ ∧ w.cell? ⟨b, o + j, none⟩ = some (.int .i64 x)
theorem InAt.below {w w' : World} {G : Option Addr} {gs : List Int} (h : InAt w G gs) (hb : Below w.heap.size w w') : InAt w' G gs := fun j x hj => by
  obtain ⟨b, o, rfl, h1⟩ := h j x hj
  exact ⟨b, o, rfl, (hb.cell (p := ⟨b, o + j, none⟩) (World.block_lt_of_cell? w _ h1)).trans h1⟩
/-- A row of numbers as a function leaves it. -/
def InPost (W : World) (l : List Int) (e : Ending) (w : World) : Prop := ∃ A cap, e = .returned (.slice A l.length cap) ∧ w.ownsRow W.heap.size 3 1 (.slice A l.length cap) l.length (flatI l) ∧ Below W.heap.size W w
theorem gap_in {gs : List Int} {j : Nat} {x : Int} (h : gs[j]? = some x) : (if (0 : Int) < (if (1000 : Int) < x then 1000 else x) then (if (1000 : Int) < x then 1000 else x) else 0) = gapOf gs j := by
  unfold gapOf
  rw [h]
  show _ = max 0 (min x 1000)
  split <;> split <;> omega
theorem gap_out {gs : List Int} {j : Nat} (h : ¬ j < gs.length) : gapOf gs j = 1 := by
  unfold gapOf
  rw [List.getElem?_eq_none (by omega)]
set_option maxHeartbeats 2000000 in
set_option maxRecDepth 100000 in
theorem Starts_any (toks : List ByteArray) (gs : List Int) (A G : Option Addr) (ca gc : Nat) (W : World) (hT : TxAt W A toks) (hG : InAt W G gs) (h1 : toks.length ≤ 5000) (h2 : ∀ t ∈ toks, t.size ≤ 1048576)
    (k m : Nat) (hk : k = toks.length) (hm : m = gs.length) :
    Calls Tryz.prog 12 #[.slice A k ca, .slice G m gc] W (InPost W (startsL gs 0 1 toks)) := by
  subst hk hm
  obtain ⟨i0, hi0, hz0, hza, hzb⟩ := info_parts infoI
  have HN := Lib.hid (And.intro hi0 (And.intro hz0 (And.intro hza hzb)))
  have HT := Lib.hid (And.intro hT (And.intro hG h2))
  clear hi0 hz0 hza hzb hT hG h2
  go_enter Tryz.func12, Tryz.ntmps12
  have hM : toks.length ≤ 9223372036854775807 := by omega
  go_wp2_with fail
  go_loopw [5, 6, 12] (fun sv v6 v12 wr => ∃ (j m : Nat) (a : Int) (l : List Int), v12 = .int .i64 j ∧ v6 = .int .i64 a ∧ j ≤ toks.length ∧ startsL gs 0 1 toks = l ++ startsL gs j a (toks.drop j) ∧ l.length = j ∧ m = j ∧ 1 ≤ a ∧ a ≤ 1 + 1049576 * j ∧ wr.ownsRow W.heap.size 3 1 sv m (flatI l) ∧ Below W.heap.size W wr) (fun _ _ i _ => toks.length - (intOf i).toNat)
  case atStart => exact ⟨0, 0, 1, [], rfl, rfl, Nat.zero_le _, rfl, rfl, rfl, by omega, by omega, World.ownsRow_nil _ _ _ _, Below.refl _ _⟩
  case round =>
    obtain ⟨j, m, a, l, rfl, rfl, hj, hst, hll, hmj, ha1, ha2, hR, hB⟩ := hrel
    obtain ⟨A1, c1, rfl⟩ := own_len hR
    by_cases hlt : j < toks.length
    · have hj0 : toks[j]? = some toks[j] := List.getElem?_eq_getElem hlt
      have hdr : toks.drop j = toks[j] :: toks.drop (j + 1) := List.drop_eq_getElem_cons hlt
      have hmem := List.getElem_mem hlt
      obtain ⟨g, hA, hc⟩ := HT.out.1 j _ hj0
      rw [hdr, startsL] at hst
      have hsz := HT.out.2.2 _ hmem
      generalize toks[j] = t at hj0 hc hst hsz
      have hcw := (hB.cell (p := ⟨g, j, none⟩) (World.block_lt_of_cell? W _ hc)).trans hc
      have hgp := gapOf_le gs j
      have HR := Lib.hid (And.intro hR (And.intro hB (And.intro hst (And.intro hll hmj))))
      have hml : m ≤ 5000 := by omega
      subst hA
      clear hj0 hdr hmem hc hR hst hll hmj
      by_cases hgl : j < gs.length
      · have hx0 : gs[j]? = some gs[j] := List.getElem?_eq_getElem hgl
        obtain ⟨b, o, hGe, hgc⟩ := HT.out.2.1 j _ hx0
        have hif := gap_in hx0
        generalize gs[j] = x at hx0 hgc hif
        have hgw := (hB.cell (p := ⟨b, o + j, none⟩) (World.block_lt_of_cell? W _ hgc)).trans hgc
        subst hGe
        clear hx0 hgc hB
        obtain ⟨y, hy⟩ : ∃ y, (if (1000 : Int) < x then 1000 else x) = y := ⟨_, rfl⟩
        rw [hy] at hif
        generalize hq : gapOf gs j = gp at hif hgp
        have HQ := Lib.hid hq
        clear hq
        have hw1 : IntKind.i64.wrap (a + gp) = a + gp := wrap_small _ (by omega) (by omega)
        have hw2 : IntKind.i64.wrap (a + gp + t.size) = a + gp + t.size := wrap_small _ (by omega) (by omega)
        obtain ⟨hi0, hz0, hza, hzb⟩ := HN.out
        go_wp2_with (at_builtin; refine wpList_append_own_at _ rfl _ _ 33 rfl W.heap.size 3 i0 (.int .i64 0) 1 8 underIs hi0 hz0 hza hzb rfl (by decide) _ _ (flatI l) rfl (own_keep HR.out.1 (fun g _ hg => Below.heap_alloc _ _ g hg)) ⟨_, 0, none⟩ 1 1 [.int .i64 (a + gp)] rfl rfl (World.news_of_block (Blk.new _ _ _)) (by intro u hu; simp at hu; subst hu; rfl) (by unfold maxLen; omega) (by omega) (by rw [World.size_alloc]; have := HR.out.2.1.size; omega) ?_; intro v3 w3 hown hgr hnil hloc; have HR3 := Lib.hid (And.intro hown (((HR.out.2.1).alloc HR.out.2.1.size _).trans (below_own (own_keep HR.out.1 (fun g _ hg => Below.heap_alloc _ _ g hg)) hgr (Nat.le_refl _) (by rw [World.size_alloc]; have := HR.out.2.1.size; omega)))); clear hown hgr hnil hloc)
        go_roundw
        case rel => exact ⟨j + 1, m + 1, a + gp + t.size, l ++ [a + gp], by go_num, by go_num, by omega, by rw [HR.out.2.2.1, HQ.out, List.append_assoc]; rfl, by rw [List.length_append, HR.out.2.2.2.1]; rfl, by rw [HR.out.2.2.2.2], by omega, by omega, by rw [flatI_append]; exact HR3.out.1, HR3.out.2⟩
        case measure => simp [intOf]; omega
      · have hq := gap_out hgl
        have HQ := Lib.hid hq
        clear hq hB
        have hw1 : IntKind.i64.wrap (a + 1) = a + 1 := wrap_small _ (by omega) (by omega)
        have hw2 : IntKind.i64.wrap (a + 1 + t.size) = a + 1 + t.size := wrap_small _ (by omega) (by omega)
        obtain ⟨hi0, hz0, hza, hzb⟩ := HN.out
        go_wp2_with (at_builtin; refine wpList_append_own_at _ rfl _ _ 33 rfl W.heap.size 3 i0 (.int .i64 0) 1 8 underIs hi0 hz0 hza hzb rfl (by decide) _ _ (flatI l) rfl (own_keep HR.out.1 (fun g _ hg => Below.heap_alloc _ _ g hg)) ⟨_, 0, none⟩ 1 1 [.int .i64 (a + 1)] rfl rfl (World.news_of_block (Blk.new _ _ _)) (by intro u hu; simp at hu; subst hu; rfl) (by unfold maxLen; omega) (by omega) (by rw [World.size_alloc]; have := HR.out.2.1.size; omega) ?_; intro v3 w3 hown hgr hnil hloc; have HR3 := Lib.hid (And.intro hown (((HR.out.2.1).alloc HR.out.2.1.size _).trans (below_own (own_keep HR.out.1 (fun g _ hg => Below.heap_alloc _ _ g hg)) hgr (Nat.le_refl _) (by rw [World.size_alloc]; have := HR.out.2.1.size; omega)))); clear hown hgr hnil hloc)
        go_roundw
        case rel => exact ⟨j + 1, m + 1, a + 1 + t.size, l ++ [a + 1], by go_num, by go_num, by omega, by rw [HR.out.2.2.1, HQ.out, List.append_assoc]; rfl, by rw [List.length_append, HR.out.2.2.2.1]; rfl, by rw [HR.out.2.2.2.2], by omega, by omega, by rw [flatI_append]; exact HR3.out.1, HR3.out.2⟩
        case measure => simp [intOf]; omega
    · have hde : toks.drop j = [] := List.drop_eq_nil_of_le (by omega)
      rw [hde, startsL, List.append_nil] at hst
      have HR := Lib.hid (And.intro hR (And.intro hB (And.intro hst (And.intro hll hmj))))
      clear hR hB hst hll hmj hde
      go_wp2_with fail
      go_ret
      obtain ⟨q1, q2, q3, q4, q5⟩ := HR.out
      rw [q3]
      have e : m = l.length := by omega
      subst e
      exact ⟨_, _, rfl, q1, q2⟩
end Go.Proofs.YtjbhjbpamnoebaaGreatFmt
