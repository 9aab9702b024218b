/-
  laws.FnExactPrecedence returns true: the walk of the law, over the contracts of XPl.
-/
import Derived.Test.YteoefhjjcimknaaDoorPl
import Derived.WalkSmall
namespace Go.Proofs.YteoefhjjcimknaaDoor
open Go.RowKit

theorem has_eq (zs : List ByteArray) (s : ByteArray) : has zs s = (zs.map fun z => z.data.toList).any fun z => s.data.toList == z := by
  simp [has, ByteArray.toList_eq, List.any_map, Function.comp_def]
/-- The precedence of a list of bytes. -/
def precL (s : List UInt8) : Nat := if ((opRows.getD 0 []).map fun z => z.data.toList).any (s == ·) then 1 else if ((opRows.getD 1 []).map fun z => z.data.toList).any (s == ·) then 2 else if ((opRows.getD 2 []).map fun z => z.data.toList).any (s == ·) then 3 else if ((opRows.getD 3 []).map fun z => z.data.toList).any (s == ·) then 4 else if ((opRows.getD 4 []).map fun z => z.data.toList).any (s == ·) then 5 else 0
theorem precS_eq (s : ByteArray) : precS s = precL s.data.toList := by
  unfold precS precL
  simp only [has_eq]
theorem tk_data (i : Nat) : (tk i).data.toList = tab.getD i [] := rfl

theorem plainF1 : ∀ n : Nat, n < 201 → isOp (n : Int) = false → precI (n : Int) = 0 := by decide +kernel
theorem plainF2 : ∀ n : Nat, n < 89 → isOp (n : Int) = false → (tab.getD n []).isEmpty = false → ((signs.map fun z => z.data.toList).any fun z => tab.getD n [] == z) = false := by decide +kernel
theorem plainF3 : ∀ n : Nat, n < 89 → isOp (n : Int) = true → precI (n : Int) = precL (tab.getD n []) := by decide +kernel
theorem plainF4 : ∀ n : Nat, n < 201 → isOp (n : Int) = true → n < 89 ∧ (tab.getD n []).isEmpty = false := by decide +kernel
theorem plainF5 : ∀ z, z ∈ signs.map (fun z => z.data.toList) → z.length ≤ 3 := by decide +kernel
theorem op_not_sign {n : Nat} (hi : isOp (n : Int) = false) {s : ByteArray} (hs : OpText n s) : has signs s = false := by
  rw [has_eq]
  rcases hs with ⟨_, hl⟩ | ⟨h89, hne, rfl⟩
  · rw [Bool.eq_false_iff]
    intro h
    obtain ⟨z, hz, he⟩ := List.any_eq_true.1 h
    have h1 := plainF5 z hz
    have h2 : s.data.toList = z := by simpa using he
    rw [ByteArray.toList_eq, h2] at hl
    omega
  · rw [tk_data]
    exact plainF2 n h89 hi hne
theorem op_prec {n : Nat} (hn : n < 201) (hi : isOp (n : Int) = true) {s : ByteArray} (hs : OpText n s) : precI (n : Int) = precS s := by
  obtain ⟨h89, hne⟩ := plainF4 n hn hi
  rcases hs with ⟨h | h, _⟩ | ⟨_, _, rfl⟩
  · omega
  · rw [hne] at h; cases h
  · rw [precS_eq, tk_data]
    exact plainF3 n h89 hi

/-- A sign has been found among the first k numbers. -/
def fnd (sg : ByteArray) (k : Nat) : Bool := (List.range k).any fun t => isOp (t : Int) && ((tk t).data.toList == sg.data.toList)
theorem fnd_succ (sg : ByteArray) (k : Nat) (hk : k < 201) {s : ByteArray} (hs : OpText k s) : fnd sg (k + 1) = (fnd sg k || ((s.toList == sg.toList) && isOp (k : Int))) := by
  unfold fnd
  rw [List.range_succ, List.any_append]
  simp only [List.any_cons, List.any_nil, Bool.or_false, ByteArray.toList_eq]
  cases hi : isOp (k : Int)
  · simp
  · obtain ⟨h89, hne⟩ := plainF4 k hk hi
    rcases hs with ⟨h | h, _⟩ | ⟨_, _, rfl⟩
    · omega
    · rw [hne] at h; cases h
    · simp
theorem fnd_all : ∀ i, i < 48 → fnd (signs.getD i ByteArray.empty) 200 = true := by decide +kernel

theorem tabIs_below {name : String} {k : IntKind} {zs : List Int} {w w' : World} (h : Lib.TabIs Tryd.prog w name k zs) (hz : 0 < zs.length) {g : Nat} (hg : Tryd.prog.globalNamed name = some g) (hb : Below w.heap.size w w') : Lib.TabIs Tryd.prog w' name k zs := by
  have h1 := h.cell hg 0 hz
  exact var?_below hb hg (block_lt_of_cell h1) h

theorem gAscii : Tryd.prog.globalNamed "strings.asciiSpace" = some 0 := by kernel_rfl
theorem gPow : Tryd.prog.globalNamed "internal/strconv.uint64pow10" = some 3 := by kernel_rfl
theorem ascii_below {w w' : World} (h : Lib.TabIs Tryd.prog w "strings.asciiSpace" .u8 Lib.asciiSpaceTab) (hb : Below w.heap.size w w') : Lib.TabIs Tryd.prog w' "strings.asciiSpace" .u8 Lib.asciiSpaceTab := tabIs_below h (by rw [Lib.asciiSpaceTab_length]; decide) gAscii hb
theorem pow_below {w w' : World} (h : Lib.TabIs Tryd.prog w "internal/strconv.uint64pow10" .u64 Lib.pow10Tab) (hb : Below w.heap.size w w') : Lib.TabIs Tryd.prog w' "internal/strconv.uint64pow10" .u64 Lib.pow10Tab := tabIs_below h (by rw [Lib.pow10Tab_length]; decide) gPow hb

/-- The law, at a number outside the range. -/
theorem law_out (n : Int) (w : World) (h : n < 0 ∨ 200 < n) :
    Calls Tryd.prog 3 #[.int .i64 n] w fun e w' => e = .returned (.bool true) ∧ Below w.heap.size w w' := by
  rcases h with h | h
  · go_enter Tryd.func3, Tryd.ntmps3
    go_wp2_with fail
    go_ret
    exact ⟨rfl, Below.refl _ _⟩
  · have h' : ¬ n < 0 := by omega
    go_enter Tryd.func3, Tryd.ntmps3
    go_wp2_with fail
    go_ret
    exact ⟨rfl, Below.refl _ _⟩

set_option maxHeartbeats 1000000 in
set_option maxRecDepth 100000 in
theorem law_in (n : Nat) (hn : n ≤ 200) (w : World) (hT : TokTab w) (hP : Lib.TabIs Tryd.prog w "internal/strconv.uint64pow10" .u64 Lib.pow10Tab) (hA : Lib.TabIs Tryd.prog w "strings.asciiSpace" .u8 Lib.asciiSpaceTab) :
    Calls Tryd.prog 3 #[.int .i64 n] w fun e w' => e = .returned (.bool true) ∧ Below w.heap.size w w' := by
  have HT := Lib.hid hT
  have HP := Lib.hid hP
  have HA := Lib.hid hA
  clear hT hP hA
  have h0 : ¬ (n : Int) < 0 := by omega
  have h1 : ¬ (200 : Int) < (n : Int) := by omega
  have h2 : n % 48 < 48 := Nat.mod_lt _ (by omega)
  go_enter Tryd.func3, Tryd.ntmps3
  go_wp2_with fail
  refine (Signs_any _ HA.out).mono ?_
  rintro e w1 ⟨g1, rfl, hs1, hg1, hb1⟩
  have HS1 := Lib.hid hs1
  clear hs1
  go_wp2_with fail
  refine (Signs_any _ (ascii_below HA.out hb1)).mono ?_
  rintro e w2 ⟨g2, rfl, hs2, hg2, hb2⟩
  clear hs2
  have hcell : w2.cell? ⟨g1, n % 48, none⟩ = some (.string (signs.getD (n % 48) ByteArray.empty)) := by
    obtain ⟨b, o, he, hc⟩ := HS1.out.2 (n % 48) (by rw [signs_length]; exact h2)
    obtain ⟨rfl, rfl⟩ : b = g1 ∧ o = 0 := by simpa [eq_comm] using he
    rw [Nat.zero_add] at hc
    rw [hb2.cell (block_lt_of_cell hc), hc]
    simp [List.getD, signs_length, h2]
  have hf := fnd_all (n % 48) h2
  generalize signs.getD (n % 48) ByteArray.empty = sg at hcell hf
  have HF := Lib.hid hf
  have hb := hb1.trans (hb2.mono hb1.size)
  clear hf HS1
  go_wp2_with fail
  go_loopw [4, 24] (fun f i wr => ∃ k : Nat, k ≤ 200 ∧ i = .int .i64 k ∧ f = .bool (fnd sg k) ∧ Below w.heap.size w wr) (fun _ i _ => 200 - (intOf i).toNat)
  case atStart => exact ⟨0, by omega, rfl, rfl, hb⟩
  case round =>
    obtain ⟨k, hk, rfl, rfl, hbr⟩ := hrel
    by_cases hlt : k < 200
    · generalize hfk : fnd sg k = fk
      have HK := Lib.hid hfk
      clear hfk
      go_wp2_with fail
      refine (Operator_any k (by omega) _ (HT.out.below hbr) (pow_below HP.out hbr)).mono ?_
      rintro e w3 ⟨s, rfl, hs, hb3⟩
      have HS := Lib.hid hs
      clear hs
      go_wp2_with fail
      all_goals exact ⟨⟨k + 1, by omega, by go_num, congrArg Value.bool (by rw [fnd_succ sg k (by omega) HS.out, HK.out]; simp [*]), hbr.trans (hb3.mono hbr.size)⟩, by simp [intOf]; omega⟩
    · obtain rfl : k = 200 := by omega
      rw [HF.out]
      cases hi : isOp (n : Int)
      · have hp : precI (n : Int) = 0 := plainF1 n (by omega) hi
        go_wp2_with fail
        refine (Operator_any n hn _ (HT.out.below hbr) (pow_below HP.out hbr)).mono ?_
        rintro e w3 ⟨s, rfl, hs, hb3⟩
        have HS := Lib.hid (op_not_sign hi hs)
        clear hs
        go_wp2_with fail
        refine (Precedence_any _ _).mono ?_
        rintro e w4 ⟨rfl, rfl⟩
        go_wp2_with fail
        have hbw := hbr.trans (hb3.mono hbr.size)
        refine (Signs_any _ (ascii_below HA.out hbw)).mono ?_
        rintro e w5 ⟨g5, rfl, hs5, hg5, hb5⟩
        have HS5 := Lib.hid hs5
        clear hs5
        go_wp2_with fail
        refine (Contains_any _ _ signs s _ HS5.out _ signs_length).mono ?_
        rw [HS.out]
        rintro e w6 ⟨rfl, rfl⟩
        go_wp2_with fail
        go_ret
        exact ⟨rfl, hbw.trans (hb5.mono hbw.size)⟩
      · go_wp2_with fail
        refine (Operator_any n hn _ (HT.out.below hbr) (pow_below HP.out hbr)).mono ?_
        rintro e w3 ⟨s, rfl, hs, hb3⟩
        have HS := Lib.hid (op_prec (by omega) hi hs)
        clear hs
        go_wp2_with fail
        refine (Precedence_any _ _).mono ?_
        rintro e w4 ⟨rfl, rfl⟩
        go_wp2_with fail
        have hbw := hbr.trans (hb3.mono hbr.size)
        refine (Prec_any s _).mono ?_
        rw [← HS.out]
        rintro e w5 ⟨rfl, hb5⟩
        go_wp2_with fail
        go_ret
        exact ⟨by simp, hbw.trans (hb5.mono hbw.size)⟩
end Go.Proofs.YteoefhjjcimknaaDoor
