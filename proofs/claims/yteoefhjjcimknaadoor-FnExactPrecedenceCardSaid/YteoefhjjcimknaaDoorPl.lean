/-
  What FnExactPrecedence reaches: Token.String of every number to 200, IsOperator, Precedence, impl.Operator, spec.Signs: walked once each.
-/
import Derived.Test.YteoefhjjcimknaaDoorTok
import Derived.Test.YteoefhjjcimknaaDoorPre
import Derived.Test.YteoefhjjcimknaaDoorShelf
import Derived.Lib.LaidTab
namespace Go.Proofs.YteoefhjjcimknaaDoor
open Go.RowKit

/-- An operator or a delimiter. -/
def isOp (n : Int) : Bool := (decide (11 < n) && decide (n < 59)) || (n == 88)
theorem IsOperator_any (n : Int) (w : World) : Calls Tryd.prog 17 #[.int .i64 n] w fun e w' => e = .returned (.bool (isOp n)) ∧ w = w' := by
  go_enter Tryd.func17, Tryd.ntmps17
  go_wp2
  all_goals go_ret
  all_goals
    refine ⟨?_, rfl⟩
    show Ending.returned (Value.bool _) = _
    congr 2
    rw [Bool.eq_iff_iff]
    simp [isOp]
    omega

/-- The precedence of a token. -/
def precI (n : Int) : Nat := if n = 35 then 1 else if n = 34 then 2 else if n = 39 ∨ n = 44 ∨ n = 40 ∨ n = 45 ∨ n = 41 ∨ n = 46 then 3 else if n = 12 ∨ n = 13 ∨ n = 18 ∨ n = 19 then 4 else if n = 14 ∨ n = 15 ∨ n = 16 ∨ n = 20 ∨ n = 21 ∨ n = 17 ∨ n = 22 then 5 else 0
theorem tokPrec_any (n : Int) (w : World) : Calls Tryd.prog 18 #[.int .i64 n] w fun e w' => e = .returned (.int .i64 (precI n)) ∧ w = w' := by
  go_enter Tryd.func18, Tryd.ntmps18
  go_wp2
  all_goals go_ret
  all_goals
    refine ⟨?_, rfl⟩
    show Ending.returned (Value.int _ _) = _
    congr 2
    simp_all [precI]

theorem digits_short (u : Nat) (h : u < 1000) : (Lib.decDigits u).length ≤ 3 := by
  by_cases h1 : u < 10
  · rw [Lib.decDigits, dif_pos h1]; simp
  · rw [Lib.decDigits, dif_neg h1]
    by_cases h2 : u / 10 < 10
    · rw [Lib.decDigits, dif_pos h2]; simp
    · rw [Lib.decDigits, dif_neg h2, Lib.decDigits, dif_pos (by omega)]; simp
theorem itoa_short (i : Nat) (h : i ≤ 200) : (Lib.itoa (i : Int)).length ≤ 3 := by
  unfold Lib.itoa
  rw [if_neg (by omega)]
  exact digits_short _ (by omega)

theorem below_grown (w : World) (k : Nat) (os : Array Obj) : Below w.heap.size w (Sort.grow (w.drewN k) os) :=
  ⟨rfl, rfl, rfl, by simp [Sort.grow], fun i hi => by simp only [Sort.grow]; exact Array.getElem?_append_left hi⟩
/-- String of a token without a text in the table: a long text. -/
def LongText (W : World) (e : Ending) (w' : World) : Prop := ∃ s : ByteArray, e = .returned (.string s) ∧ 6 ≤ s.toList.length ∧ Below W.heap.size W w'
theorem String_long (i : Nat) (hi : i ≤ 200) (hne : 89 ≤ i ∨ (tab.getD i []).isEmpty = true) (w : World) (hT : TokTab w) (hP : Lib.TabIs Tryd.prog w "internal/strconv.uint64pow10" .u64 Lib.pow10Tab) :
    Calls Tryd.prog 16 #[.int .i64 i] w (LongText w) := by
  have HP := Lib.hid hP
  clear hP
  have h1 : (0 : Int) ≤ (i : Int) := by omega
  have hlen := itoa_short i hi
  by_cases h89 : i < 89
  · have hc := hT i h89
    clear hT
    have h2 : (i : Int) < 89 := by omega
    have h3 : (tk i).toList.isEmpty = true := by
      rw [tk_toList]
      rcases hne with h | h
      · omega
      · exact h
    clear hne
    go_enter Tryd.func16, Tryd.ntmps16
    go_wp2_with (go_at_call 29; refine (Tryd.strconv_Itoa (i : Int) (by omega) (by omega) _ HP.out).mono ?_; rintro e w' ⟨rfl, k, os, rfl⟩)
    go_ret
    refine ⟨_, rfl, by simp [ByteArray.toList_eq], below_grown _ _ _⟩
  · clear hT hne
    have h2 : ¬ (i : Int) < 89 := by omega
    go_enter Tryd.func16, Tryd.ntmps16
    go_wp2_with (go_at_call 29; refine (Tryd.strconv_Itoa (i : Int) (by omega) (by omega) _ HP.out).mono ?_; rintro e w' ⟨rfl, k, os, rfl⟩)
    go_ret
    refine ⟨_, rfl, by simp [ByteArray.toList_eq], below_grown _ _ _⟩

/-- What impl.Operator gives for a number. -/
def OpText (i : Nat) (s : ByteArray) : Prop := ((89 ≤ i ∨ (tab.getD i []).isEmpty = true) ∧ 6 ≤ s.toList.length) ∨ (i < 89 ∧ (tab.getD i []).isEmpty = false ∧ s = tk i)
def OpIs (i : Nat) (W : World) (e : Ending) (w' : World) : Prop := ∃ s : ByteArray, e = .returned (.tuple #[.string s, .bool (isOp i)]) ∧ OpText i s ∧ Below W.heap.size W w'
theorem Operator_any (i : Nat) (hi : i ≤ 200) (w : World) (hT : TokTab w) (hP : Lib.TabIs Tryd.prog w "internal/strconv.uint64pow10" .u64 Lib.pow10Tab) :
    Calls Tryd.prog 6 #[.int .i64 i] w (OpIs i w) := by
  have HT := Lib.hid hT
  have HP := Lib.hid hP
  clear hT hP
  by_cases hne : 89 ≤ i ∨ (tab.getD i []).isEmpty = true
  · have HN := Lib.hid hne
    clear hne
    go_enter Tryd.func6, Tryd.ntmps6
    go_wp2_with (first
      | (go_at_call 16; refine (String_long i hi HN.out _ HT.out HP.out).mono ?_; rintro e w1 ⟨s, rfl, hs, hb⟩)
      | (go_at_call 17; refine (IsOperator_any _ _).mono ?_; rintro e w2 ⟨rfl, rfl⟩))
    go_ret2
    exact ⟨s, rfl, .inl ⟨HN.out, hs⟩, hb⟩
  · have h89 : i < 89 := by omega
    have HN := Lib.hid hne
    clear hne
    have he : (tab.getD i []).isEmpty = false := by
      cases h : (tab.getD i []).isEmpty
      · rfl
      · exact absurd (Or.inr h) HN.out
    have HE := Lib.hid he
    clear he
    go_enter Tryd.func6, Tryd.ntmps6
    go_wp2_with (first
      | (go_at_call 16; refine (String_tab i h89 HE.out _ HT.out).mono ?_; rintro e w1 ⟨rfl, rfl⟩)
      | (go_at_call 17; refine (IsOperator_any _ _).mono ?_; rintro e w2 ⟨rfl, rfl⟩))
    go_ret2
    exact ⟨tk i, rfl, .inr ⟨h89, HE.out, rfl⟩, Below.refl _ _⟩
theorem Precedence_any (n : Int) (w : World) : Calls Tryd.prog 7 #[.int .i64 n] w fun e w' => e = .returned (.int .i64 (precI n)) ∧ w = w' := by
  go_enter Tryd.func7, Tryd.ntmps7
  go_wp2_with (go_at_call 18; refine (tokPrec_any _ _).mono ?_; rintro e w1 ⟨rfl, rfl⟩)
  go_ret
  exact ⟨rfl, rfl⟩

/-- The signs, in the order of spec.Signs. -/
def signText : List UInt8 := [43, 32, 45, 32, 42, 32, 47, 32, 37, 32, 38, 32, 124, 32, 94, 32, 60, 60, 32, 62, 62, 32, 38, 94, 32, 43, 61, 32, 45, 61, 32, 42, 61, 32, 47, 61, 32, 37, 61, 32, 38, 61, 32, 124, 61, 32, 94, 61, 32, 60, 60, 61, 32, 62, 62, 61, 32, 38, 94, 61, 32, 38].append [38, 32, 124, 124, 32, 60, 45, 32, 43, 43, 32, 45, 45, 32, 61, 61, 32, 60, 32, 62, 32, 61, 32, 33, 32, 126, 32, 33, 61, 32, 60, 61, 32, 62, 61, 32, 58, 61, 32, 46, 46, 46, 32, 40, 32, 91, 32, 123, 32, 44, 32, 46, 32, 41, 32, 93, 32, 125, 32, 59, 32, 58]
def signs : List ByteArray := (Lib.fields signText).map fun l => ⟨l.toArray⟩
theorem signs_length : signs.length = 48 := by decide +kernel
theorem signs_strs {w : World} {g : Nat} {fr : Nat × Nat} (h : w.heap[g]? = some (.cells (signs.map Value.string).toArray 9 fr)) : StrsAt w (some ⟨g, 0, none⟩) signs := by
  refine ⟨by rw [signs_length]; decide, fun i hi => ⟨g, 0, rfl, ?_⟩⟩
  rw [Nat.zero_add, cell_of_row w g i _ _ _ h]
  simp [hi]
theorem signs_ascii : ∀ b ∈ signText, b.toNat < 128 := by decide +kernel
/-- spec.Signs: a new row of the 48 signs. -/
def SignsIs (W : World) (e : Ending) (w' : World) : Prop := ∃ g, e = .returned (.slice (some ⟨g, 0, none⟩) 48 48) ∧ StrsAt w' (some ⟨g, 0, none⟩) signs ∧ g < w'.heap.size ∧ Below W.heap.size W w'
theorem Signs_any (w : World) (hA : Lib.TabIs Tryd.prog w "strings.asciiSpace" .u8 Lib.asciiSpaceTab) :
    Calls Tryd.prog 5 #[] w (SignsIs w) := by
  have HA := Lib.hid hA
  clear hA
  have c := Tryd.strings_Fields ⟨signText.toArray⟩ w (by decide +kernel) (fun j b h => signs_ascii b (List.mem_of_getElem? h)) HA.out
  have e1 : (Lib.fields (⟨signText.toArray⟩ : ByteArray).data.toList).length = 48 := by decide +kernel
  rw [e1] at c
  have H := Lib.hid c
  clear c e1
  go_enter Tryd.func5, Tryd.ntmps5
  go_wp2_with (go_at_call 15; refine H.out.mono ?_; rintro e w1 ⟨rfl, rfl⟩)
  go_ret
  refine ⟨w.heap.size, rfl, signs_strs (fr := (0, 0)) ?_, by simp, (Below.refl _ _).alloc (Nat.le_refl _) _⟩
  rw [heap_alloc_new]
  unfold signs
  rw [List.map_map]
  rfl
end Go.Proofs.YteoefhjjcimknaaDoor
