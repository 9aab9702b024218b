/-
  slices.Grow of the nil slice; slices.Concat of rows of texts; spec.join.
-/
import Derived.Test.YtjbhjbpamnoebaaGreatFmtL8
import Derived.Test.YtjbhjbpamnoebaaGreatFmtK21
import Derived.Lib.AppendZeros
namespace Go.Proofs.YtjbhjbpamnoebaaGreatFmt
open Go.RowKit

/-- A row of texts as a function leaves it: of its own make. -/
def Tx (W w : World) (v : Value) (l : List ByteArray) : Prop := w.ownsRow W.heap.size 9 1 v l.length (flatT l)
theorem flatT_c1 (l : List ByteArray) : ∀ u ∈ flatT l, u.oneCell' = true := by
  intro u hu
  obtain ⟨x, _, rfl⟩ := List.mem_map.1 hu
  rfl
theorem underI : Tryz.prog.underlying 3 = some (.int .i64) := by kernel_rfl
/-- A row without texts, with room. -/
def Room (W w : World) (v : Value) : Prop := w.ownsRow W.heap.size 9 1 v 0 [] ∧ Below W.heap.size W w
set_option maxRecDepth 100000 in
theorem Grow_any (n : Nat) (hn : n ≤ 100000) (W : World) : Calls Tryz.prog 65 #[.slice none 0 0, .int .i64 n] W fun e w => ∃ v, e = .returned v ∧ Room W w v := by
  obtain ⟨i0, hi0, hz0, hza, hzb⟩ := info_parts infoT
  have h1 : ¬ ((n : Int) < 0) := by omega
  have h2 : IntKind.i64.wrap (0 - 0 : Int) = 0 := by decide
  have h3 : IntKind.i64.wrap ((n : Int) - 0) = (n : Int) := by rw [Int.sub_zero]; exact wrap_small _ (by omega) (by omega)
  by_cases h0 : n = 0
  · subst h0
    go_enter Tryz.func65, Tryz.ntmps65
    go_wp2_with fail
    go_ret
    exact ⟨_, rfl, World.ownsRow_nil _ _ _ _, Below.refl _ _⟩
  · have h4 : (n : Int) > 0 := by omega
    have hrun := Lib.run_append_nil_zeros (P := Tryz.prog) W 36 3 36 9 i0 (.string ⟨#[]⟩) .i64 .i64 underT underI hi0 hz0 n (by omega) (by omega) (by omega) (by rw [hzb]; omega)
    have hG := grownCap_ge W n 0 9
    have hM := grownCap_le_maxLen W n 0 9 (by unfold maxLen; omega)
    generalize grownCap W n 0 9 = G at hrun hG hM
    have hrow := World.ownsRow_made (base := W.heap.size) (e := 9) (size := 1) W.drew (Builtin.zeroCells (Value.cells (.string ⟨#[]⟩)) n ++ Builtin.zeroCells (Value.cells (.string ⟨#[]⟩)) (G - n)) G (Nat.le_refl _) hM (by
      rw [Array.size_append, size_zeroCells, size_zeroCells]
      show n * 1 + (G - n) * 1 = G * 1
      omega)
    have hb : Below W.heap.size W (W.drew.alloc (.cells (Builtin.zeroCells (Value.cells (.string ⟨#[]⟩)) n ++ Builtin.zeroCells (Value.cells (.string ⟨#[]⟩)) (G - n)) 9)) := ((Below.refl W.heap.size W).drew).alloc (Nat.le_refl _) _
    have H0 := Lib.hid (And.intro hrow hb)
    clear hrow hb hi0 hz0 hza hzb
    go_enter Tryz.func65, Tryz.ntmps65
    go_wp2_with (at_builtin; refine Lib.wpList_append_run _ rfl _ _ _ _ rfl _ _ rfl rfl _ _ hrun ?_)
    go_ret
    exact ⟨_, rfl, H0.out.1, H0.out.2⟩

/-- Rows of texts, each in blocks of W. -/
def Lists (W : World) (A : Option Addr) (ls : List (List ByteArray)) : Prop := ∀ (j : Nat) (l : List ByteArray), ls[j]? = some l → ∃ g v, A = some ⟨g, 0, none⟩ ∧ W.cell? ⟨g, j, none⟩ = some v ∧ W.ownsRow 0 9 1 v l.length (flatT l)
/-- Lists, one behind the other. -/
def catT (ls : List (List ByteArray)) : List ByteArray := ls.flatten
theorem flat_take {ls : List (List ByteArray)} {j : Nat} {l : List ByteArray} (h : ls[j]? = some l) : catT (ls.take (j + 1)) = catT (ls.take j) ++ l := by
  unfold catT
  rw [List.take_add_one, h, Option.toList_some, List.flatten_append]
  simp
theorem flat_le (ls : List (List ByteArray)) (j : Nat) : (catT (ls.take j)).length ≤ (catT ls).length := by
  unfold catT
  have h : ls.flatten = (ls.take j).flatten ++ (ls.drop j).flatten := by rw [← List.flatten_append, List.take_append_drop]
  rw [h, List.length_append]
  omega
set_option maxHeartbeats 2000000 in
set_option maxRecDepth 100000 in
theorem Concat_any (A : Option Addr) (ls : List (List ByteArray)) (cap : Nat) (W : World) (hL : Lists W A ls) (hk : ls.length ≤ 1000) (hz : (catT ls).length ≤ 100000) (k : Nat) (hkl : k = ls.length) :
    Calls Tryz.prog 46 #[.slice A k cap] W (EvPost W (catT ls)) := by
  subst hkl
  obtain ⟨i0, hi0, hz0, hza, hzb⟩ := info_parts infoT
  have HN := Lib.hid (And.intro hi0 (And.intro hz0 (And.intro hza hzb)))
  have HL := Lib.hid hL
  clear hi0 hz0 hza hzb hL
  go_enter Tryz.func46, Tryz.ntmps46
  have hM : ls.length ≤ 9223372036854775807 := by omega
  go_wp2_with fail
  go_loopw [3, 11] (fun v3 v11 wr => W = wr ∧ ∃ j m : Nat, v11 = .int .i64 j ∧ v3 = .int .i64 m ∧ j ≤ ls.length ∧ m = (catT (ls.take j)).length) (fun _ i _ => ls.length - (intOf i).toNat)
  case atStart => exact ⟨rfl, 0, 0, rfl, rfl, Nat.zero_le _, rfl⟩
  case round =>
    obtain ⟨rfl, j, m, rfl, rfl, hj, hm⟩ := hrel
    have hle := flat_le ls j
    by_cases hlt : j < ls.length
    · have hj0 : ls[j]? = some ls[j] := List.getElem?_eq_getElem hlt
      obtain ⟨g, v, hA, hc, hown⟩ := HL.out j _ hj0
      have hft := flat_take hj0
      have hle1 := flat_le ls (j + 1)
      rw [hft, List.length_append] at hle1
      generalize ls[j] = l at hj0 hown hft hle1
      subst hA
      obtain ⟨A1, c1, rfl⟩ := own_len hown
      have HF := Lib.hid (And.intro hft hm)
      clear hown hft hm hj0
      have hw : IntKind.i64.wrap ((m : Int) + l.length) = (m : Int) + l.length := wrap_small _ (by omega) (by have := HF.out.2; omega)
      have h1 : ¬ ((m : Int) + l.length < 0) := by omega
      go_wp2_with fail
      go_roundw
      case rel => exact ⟨trivial, j + 1, m + l.length, by go_num, by go_num, by omega, by rw [HF.out.1, List.length_append, HF.out.2]⟩
      case measure => simp [intOf]; omega
    · have hje : ls.take j = ls := List.take_of_length_le (by omega)
      rw [hje] at hm
      subst hm
      clear hle hje
      go_wp2_with fail
      refine (Grow_any (catT ls).length hz W).mono ?_
      rintro e w1 ⟨sv, rfl, hr, hb1⟩
      obtain ⟨A1, c1, rfl⟩ := own_len hr
      have HR := Lib.hid (And.intro hr hb1)
      clear hr hb1
      go_wp2_with fail
      go_loopw [6, 27] (fun sv i' wr => ∃ (j m : Nat) (l : List ByteArray), i' = .int .i64 j ∧ j ≤ ls.length ∧ l = (catT (ls.take j)) ∧ m = l.length ∧ wr.ownsRow W.heap.size 9 1 sv m (flatT l) ∧ Below W.heap.size W wr) (fun _ i' _ => ls.length - (intOf i').toNat)
      case atStart => exact ⟨0, 0, [], rfl, Nat.zero_le _, rfl, rfl, HR.out.1, HR.out.2⟩
      case round =>
        obtain ⟨j, m, l, rfl, hj, hl, hm, hR, hB⟩ := hrel
        obtain ⟨A2, c2, rfl⟩ := own_len hR
        have hml : m ≤ 100000 := by
          have := flat_le ls j
          rw [hm, hl]
          omega
        by_cases hlt : j < ls.length
        · have hj0 : ls[j]? = some ls[j] := List.getElem?_eq_getElem hlt
          obtain ⟨g, v, hA, hc, hown⟩ := HL.out j _ hj0
          have hft := flat_take hj0
          have hle1 := flat_le ls (j + 1)
          rw [hft, List.length_append, ← hl, ← hm] at hle1
          generalize ls[j] = x at hj0 hown hft hle1
          subst hA
          have hcw := (hB.cell (p := ⟨g, j, none⟩) (World.block_lt_of_cell? W _ hc)).trans hc
          have hown' := own_keep hown fun b _ hb => hB.block b hb
          obtain ⟨A1, c1, rfl⟩ := own_len hown
          have HX := Lib.hid (And.intro hft (And.intro hl hm))
          have HO := Lib.hid (And.intro hR (And.intro hown' hB))
          obtain ⟨hi0, hz0, hza, hzb⟩ := HN.out
          clear hown hown' hft hl hm hj0 hR hB hc
          go_wp2_with (at_builtin; refine wpl_append_rows rfl _ _ 36 rfl 9 i0 _ 1 16 underT hi0 hz0 hza hzb rfl (by decide) rfl rfl HO.out.1 HO.out.2.1 (flatT_c1 _) (by unfold maxLen; omega) (by omega) (HO.out.2.2.size) ?_; intro v3 w3 hown hgr hloc; have HR3 := Lib.hid (And.intro hown (HO.out.2.2.trans (below_own HO.out.1 hgr (Nat.le_refl _) HO.out.2.2.size))); clear hown hgr hloc)
          go_roundw
          case rel => exact ⟨j + 1, m + x.length, l ++ x, by go_num, by omega, by rw [HX.out.1, HX.out.2.1], by rw [List.length_append, HX.out.2.2], by rw [flatT_append]; exact HR3.out.1, HR3.out.2⟩
          case measure => simp [intOf]; omega
        · have hje : ls.take j = ls := List.take_of_length_le (by omega)
          have HO := Lib.hid (And.intro hR (And.intro hB (And.intro hje (And.intro hl hm))))
          clear hR hB hje hl hm
          go_wp2_with fail
          go_ret
          obtain ⟨q1, q2, q3, q4, q5⟩ := HO.out
          rw [q3] at q4
          subst q4 q5
          exact ⟨_, _, rfl, q1, q2⟩
set_option maxRecDepth 100000 in
theorem join_any (A : Option Addr) (ls : List (List ByteArray)) (cap : Nat) (W : World) (hL : Lists W A ls) (hk : ls.length ≤ 1000) (hz : (catT ls).length ≤ 100000) (k : Nat) (hkl : k = ls.length) :
    Calls Tryz.prog 25 #[.slice A k cap] W (EvPost W (catT ls)) := by
  have HC := Lib.hid (Concat_any A ls cap W hL hk hz k hkl)
  clear hL hkl
  go_enter Tryz.func25, Tryz.ntmps25
  go_wp2_with fail
  refine HC.out.mono ?_
  rintro e w1 ⟨A1, c1, rfl, h1, h2⟩
  go_wp2_with fail
  go_ret
  exact ⟨_, _, rfl, h1, h2⟩
end Go.Proofs.YtjbhjbpamnoebaaGreatFmt
