/-
  spec.Tokens of any shaped tree.
-/
import Derived.Test.YtjbhjbpamnoebaaGreatFmtTk
import Derived.Test.YtjbhjbpamnoebaaGreatFmtTe
import Derived.Test.YtjbhjbpamnoebaaGreatFmtTf
import Derived.Test.YtjbhjbpamnoebaaGreatFmtTg
import Derived.Test.YtjbhjbpamnoebaaGreatFmtTu
import Derived.Test.YtjbhjbpamnoebaaGreatFmtTi
import Derived.Test.YtjbhjbpamnoebaaGreatFmtL3
import Derived.Test.YtjbhjbpamnoebaaGreatFmtK7
namespace Go.Proofs.YtjbhjbpamnoebaaGreatFmt
open Go.RowKit

theorem slice_ne (tx : ByteArray) : ¬ manyC 11 tx ([] : List Nd).length = true := by
  intro hm
  rcases forms hm with ⟨h1, hk⟩ | ⟨h1, hk⟩ | ⟨h1, hk⟩ | ⟨h1, hk⟩ | ⟨h1, hk⟩ | ⟨h1, hk⟩ | ⟨h1, hk⟩
  · omega
  · omega
  · omega
  · rcases hk with ⟨_, hk⟩ | ⟨_, hk⟩ | ⟨_, hk⟩ | ⟨_, hk⟩ | ⟨_, hk⟩ | ⟨_, hk⟩ <;> simp at hk
  · omega
  · omega
  · omega
theorem cap_no {kd tx : ByteArray} {ad : Option Addr} {ks : List Nd} (h : 1 < ks.length) : TOf ⟨kd, tx, ad, 1, ks⟩ := fun W _ _ hin => by
  have := (Nd.In_iff.1 hin).1
  dsimp only at this
  omega
theorem tok_of (kd tx : ByteArray) (ad : Option Addr) (cp : Nat) (ks : List Nd) (IH : ∀ k ∈ ks, TOf k)
    (hm : manyC (kcode kd) tx ks.length = true) : TOf ⟨kd, tx, ad, cp, ks⟩ := by
  have hc : kcode kd < 15 := by
    apply Nat.lt_of_not_le
    intro h
    have : manyC (kcode kd) tx ks.length = false := by
      unfold manyC
      dsimp only
      repeat' split
      all_goals first
        | omega
        | rfl
    rw [this] at hm
    cases hm
  have h15 : kcode kd = 0 ∨ kcode kd = 1 ∨ kcode kd = 2 ∨ kcode kd = 3 ∨ kcode kd = 4 ∨ kcode kd = 5 ∨ kcode kd = 6 ∨ kcode kd = 7 ∨ kcode kd = 8 ∨ kcode kd = 9 ∨ kcode kd = 10 ∨ kcode kd = 11 ∨ kcode kd = 12 ∨ kcode kd = 13 ∨ kcode kd = 14 := by omega
  rcases h15 with h | h | h | h | h | h | h | h | h | h | h | h | h | h | h
  all_goals rw [h] at hm
  · obtain rfl := kind_eq h (by decide) ⟨#[110, 97, 109, 101]⟩ rfl
    have hm : (ks.length == 0) = true := hm
    simp only [beq_iff_eq] at hm
    obtain rfl := List.length_eq_zero_iff.1 hm
    exact tok_name tx ad cp
  · obtain rfl := kind_eq h (by decide) ⟨#[108, 105, 116, 101, 114, 97, 108]⟩ rfl
    have hm : (ks.length == 0) = true := hm
    simp only [beq_iff_eq] at hm
    obtain rfl := List.length_eq_zero_iff.1 hm
    exact tok_literal tx ad cp
  · obtain rfl := kind_eq h (by decide) ⟨#[112, 97, 114, 101, 110]⟩ rfl
    have hm : (tx.data.toList.isEmpty && ks.length == 1) = true := hm
    simp only [Bool.and_eq_true, beq_iff_eq] at hm
    obtain ⟨x, rfl⟩ := one_of hm.2
    obtain rfl := text_empty hm.1
    exact tok_paren _ ad cp x IH
  · obtain rfl := kind_eq h (by decide) ⟨#[115, 116, 97, 114]⟩ rfl
    have hm : (tx.data.toList.isEmpty && ks.length == 1) = true := hm
    simp only [Bool.and_eq_true, beq_iff_eq] at hm
    obtain ⟨x, rfl⟩ := one_of hm.2
    obtain rfl := text_empty hm.1
    exact tok_star _ ad cp x IH
  · obtain rfl := kind_eq h (by decide) ⟨#[117, 110, 97, 114, 121]⟩ rfl
    have hm : (has unOps tx && ks.length == 1) = true := hm
    simp only [Bool.and_eq_true, beq_iff_eq] at hm
    obtain ⟨x, rfl⟩ := one_of hm.2
    exact tok_unary tx ad cp x IH
  · obtain rfl := kind_eq h (by decide) ⟨#[98, 105, 110, 97, 114, 121]⟩ rfl
    have hm : (decide (0 < precS tx) && ks.length == 2) = true := hm
    simp only [Bool.and_eq_true, beq_iff_eq, decide_eq_true_eq] at hm
    obtain ⟨x, y, rfl⟩ := two_of hm.2
    exact tok_binary tx ad cp x y IH
  · obtain rfl := kind_eq h (by decide) ⟨#[115, 101, 108, 101, 99, 116]⟩ rfl
    have hm : (ks.length == 1) = true := hm
    simp only [beq_iff_eq] at hm
    obtain ⟨x, rfl⟩ := one_of hm
    exact tok_select tx ad cp x IH
  · obtain rfl := kind_eq h (by decide) ⟨#[105, 110, 100, 101, 120]⟩ rfl
    have hm : (tx.data.toList.isEmpty && ks.length == 2) = true := hm
    simp only [Bool.and_eq_true, beq_iff_eq] at hm
    obtain ⟨x, y, rfl⟩ := two_of hm.2
    obtain rfl := text_empty hm.1
    exact tok_index _ cp x y ad IH
  · obtain rfl := kind_eq h (by decide) ⟨#[97, 115, 115, 101, 114, 116]⟩ rfl
    have hm : (tx.data.toList.isEmpty && ks.length == 2) = true := hm
    simp only [Bool.and_eq_true, beq_iff_eq] at hm
    obtain ⟨x, y, rfl⟩ := two_of hm.2
    obtain rfl := text_empty hm.1
    exact tok_assert _ ad cp x y IH
  · obtain rfl := kind_eq h (by decide) ⟨#[107, 101, 121]⟩ rfl
    have hm : (tx.data.toList.isEmpty && ks.length == 2) = true := hm
    simp only [Bool.and_eq_true, beq_iff_eq] at hm
    obtain ⟨x, y, rfl⟩ := two_of hm.2
    obtain rfl := text_empty hm.1
    exact tok_key _ ad cp x y IH
  · obtain rfl := kind_eq h (by decide) ⟨#[109, 97, 112]⟩ rfl
    have hm : (tx.data.toList.isEmpty && ks.length == 2) = true := hm
    simp only [Bool.and_eq_true, beq_iff_eq] at hm
    obtain ⟨x, y, rfl⟩ := two_of hm.2
    obtain rfl := text_empty hm.1
    exact tok_map _ ad cp x y IH
  · obtain rfl := kind_eq h (by decide) ⟨#[115, 108, 105, 99, 101]⟩ rfl
    obtain ⟨x, r, rfl⟩ : ∃ x r, ks = x :: r := by
      rcases ks with _ | ⟨x, r⟩
      · exact absurd hm (slice_ne tx)
      · exact ⟨x, r, rfl⟩
    exact tok_slice tx cp x r ad IH
  · obtain rfl := kind_eq h (by decide) ⟨#[99, 97, 108, 108]⟩ rfl
    have hm : (decide (0 < ks.length) && (tx.data.toList.isEmpty || ((tx.data.toList == [46, 46, 46]) && decide (1 < ks.length)))) = true := hm
    simp only [Bool.and_eq_true, Bool.or_eq_true, decide_eq_true_eq] at hm
    obtain ⟨x, r, rfl⟩ := some_of hm.1
    simp only [List.length_cons] at hm
    rcases hm.2 with he | ⟨he, h1⟩
    · obtain rfl := text_empty he
      by_cases hcp : cp = 1
      · subst hcp
        rcases r with _ | ⟨y, r⟩
        · exact tok_call_1 x ad IH
        · exact cap_no (by simp)
      · exact tok_call_n cp hcp x r ad IH
    · obtain rfl := text_of he
      by_cases hcp : cp = 1
      · subst hcp
        exact cap_no (by simp; omega)
      · exact tok_calld_n cp hcp x r ad IH
  · obtain rfl := kind_eq h (by decide) ⟨#[99, 111, 109, 112, 111, 115, 105, 116, 101]⟩ rfl
    have hm : (tx.data.toList.isEmpty || ((tx.data.toList == [116, 121, 112, 101]) && decide (0 < ks.length))) = true := hm
    simp only [Bool.and_eq_true, Bool.or_eq_true, decide_eq_true_eq] at hm
    rcases hm with he | ⟨he, h1⟩
    · obtain rfl := text_empty he
      exact tok_comp0 cp ks ad IH
    · obtain rfl := text_of he
      obtain ⟨x, r, rfl⟩ := some_of h1
      by_cases hcp : cp = 1
      · subst hcp
        rcases r with _ | ⟨y, r⟩
        · exact tok_compt_1 x ad IH
        · exact cap_no (by simp)
      · exact tok_compt_n cp hcp x r ad IH
  · obtain rfl := kind_eq h (by decide) ⟨#[97, 114, 114, 97, 121]⟩ rfl
    have hm : (tx.data.toList.isEmpty && (ks.length == 1 || ks.length == 2)) = true := hm
    simp only [Bool.and_eq_true, Bool.or_eq_true, beq_iff_eq] at hm
    rcases hm.2 with h1 | h1
    · obtain ⟨x, rfl⟩ := one_of h1
      obtain rfl := text_empty hm.1
      exact tok_array1 _ ad cp x IH
    · obtain ⟨x, y, rfl⟩ := two_of h1
      obtain rfl := text_empty hm.1
      exact tok_array2 _ ad cp x y IH


/-- spec.Tokens of any tree that spec.Shaped accepts. -/
theorem tokens_any : ∀ (n : Nd) (W : World), n.shapedB = true → n.size ≤ 400 → n.In W W.heap.size → Calls Tryz.prog 13 #[n.val] W (EvPost W n.toks) := by
  have h : ∀ n : Nd, n.shapedB = true → TOf n := by
    refine Nd.ind fun n ih h1 => ?_
    rw [Nd.shapedB_eq, Bool.and_eq_true, List.all_eq_true] at h1
    obtain ⟨kd, tx, ad, cp, ks⟩ := n
    exact tok_of kd tx ad cp ks (fun k hk => ih k hk (h1.1 k hk)) h1.2
  exact fun n W hs hz hin => h n hs W hs hz hin
end Go.Proofs.YtjbhjbpamnoebaaGreatFmt
