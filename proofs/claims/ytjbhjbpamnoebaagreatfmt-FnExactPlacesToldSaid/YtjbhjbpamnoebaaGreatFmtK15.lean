/-
  impl.node of any shaped tree.
-/
import Derived.Test.YtjbhjbpamnoebaaGreatFmtK10
import Derived.Test.YtjbhjbpamnoebaaGreatFmtK11
import Derived.Test.YtjbhjbpamnoebaaGreatFmtK12
import Derived.Test.YtjbhjbpamnoebaaGreatFmtK13
import Derived.Test.YtjbhjbpamnoebaaGreatFmtK14
import Derived.Test.YtjbhjbpamnoebaaGreatFmtK7
namespace Go.Proofs.YtjbhjbpamnoebaaGreatFmt
open Go.RowKit

theorem node_of (P : Nat → Int) (hP : ∀ j, P j ≠ 0) (kd tx : ByteArray) (ad : Option Addr) (cp : Nat) (ks : List Nd) (IH : ∀ k ∈ ks, NOf P k)
    (hm : manyC (kcode kd) tx ks.length = true) (hlen : ks.length ≤ 400) : NOf P ⟨kd, tx, ad, cp, ks⟩ := by
  have hc : kcode kd < 15 := by
    apply Nat.lt_of_not_le
    intro h
    have : manyC (kcode kd) tx ks.length = false := by
      unfold manyC
      dsimp only
      repeat' split
      all_goals first
        | omega
        | rfl
    rw [this] at hm
    cases hm
  have h15 : kcode kd = 0 ∨ kcode kd = 1 ∨ kcode kd = 2 ∨ kcode kd = 3 ∨ kcode kd = 4 ∨ kcode kd = 5 ∨ kcode kd = 6 ∨ kcode kd = 7 ∨ kcode kd = 8 ∨ kcode kd = 9 ∨ kcode kd = 10 ∨ kcode kd = 11 ∨ kcode kd = 12 ∨ kcode kd = 13 ∨ kcode kd = 14 := by omega
  rcases h15 with h | h | h | h | h | h | h | h | h | h | h | h | h | h | h
  all_goals rw [h] at hm
  · obtain rfl := kind_eq h (by decide) ⟨#[110, 97, 109, 101]⟩ rfl
    have hm : (ks.length == 0) = true := hm
    simp only [beq_iff_eq] at hm
    obtain rfl := List.length_eq_zero_iff.1 hm
    exact node_name P tx ad cp
  · obtain rfl := kind_eq h (by decide) ⟨#[108, 105, 116, 101, 114, 97, 108]⟩ rfl
    have hm : (ks.length == 0) = true := hm
    simp only [beq_iff_eq] at hm
    obtain rfl := List.length_eq_zero_iff.1 hm
    exact node_literal P tx ad cp
  · obtain rfl := kind_eq h (by decide) ⟨#[112, 97, 114, 101, 110]⟩ rfl
    have hm : (tx.data.toList.isEmpty && ks.length == 1) = true := hm
    simp only [Bool.and_eq_true, beq_iff_eq] at hm
    obtain ⟨x, rfl⟩ := one_of hm.2
    obtain rfl := text_empty hm.1
    exact node_paren P ad cp x (IH x (by simp))
  · obtain rfl := kind_eq h (by decide) ⟨#[115, 116, 97, 114]⟩ rfl
    have hm : (tx.data.toList.isEmpty && ks.length == 1) = true := hm
    simp only [Bool.and_eq_true, beq_iff_eq] at hm
    obtain ⟨x, rfl⟩ := one_of hm.2
    obtain rfl := text_empty hm.1
    exact node_star P ad cp x (IH x (by simp))
  · obtain rfl := kind_eq h (by decide) ⟨#[117, 110, 97, 114, 121]⟩ rfl
    have hm : (has unOps tx && ks.length == 1) = true := hm
    simp only [Bool.and_eq_true, beq_iff_eq] at hm
    obtain ⟨x, rfl⟩ := one_of hm.2
    exact node_unary P tx ad cp (unary_op hm.1) x (IH x (by simp))
  · obtain rfl := kind_eq h (by decide) ⟨#[98, 105, 110, 97, 114, 121]⟩ rfl
    have hm : (decide (0 < precS tx) && ks.length == 2) = true := hm
    simp only [Bool.and_eq_true, beq_iff_eq, decide_eq_true_eq] at hm
    obtain ⟨x, y, rfl⟩ := two_of hm.2
    exact node_binary P tx ad cp (binary_op hm.1) x y (IH x (by simp)) (IH y (by simp))
  · obtain rfl := kind_eq h (by decide) ⟨#[115, 101, 108, 101, 99, 116]⟩ rfl
    have hm : (ks.length == 1) = true := hm
    simp only [beq_iff_eq] at hm
    obtain ⟨x, rfl⟩ := one_of hm
    exact node_select P tx ad cp x (IH x (by simp))
  · obtain rfl := kind_eq h (by decide) ⟨#[105, 110, 100, 101, 120]⟩ rfl
    have hm : (tx.data.toList.isEmpty && ks.length == 2) = true := hm
    simp only [Bool.and_eq_true, beq_iff_eq] at hm
    obtain ⟨x, y, rfl⟩ := two_of hm.2
    obtain rfl := text_empty hm.1
    exact node_index P ad cp x y (IH x (by simp)) (IH y (by simp))
  · obtain rfl := kind_eq h (by decide) ⟨#[97, 115, 115, 101, 114, 116]⟩ rfl
    have hm : (tx.data.toList.isEmpty && ks.length == 2) = true := hm
    simp only [Bool.and_eq_true, beq_iff_eq] at hm
    obtain ⟨x, y, rfl⟩ := two_of hm.2
    obtain rfl := text_empty hm.1
    exact node_assert P ad cp x y (IH x (by simp)) (IH y (by simp))
  · obtain rfl := kind_eq h (by decide) ⟨#[107, 101, 121]⟩ rfl
    have hm : (tx.data.toList.isEmpty && ks.length == 2) = true := hm
    simp only [Bool.and_eq_true, beq_iff_eq] at hm
    obtain ⟨x, y, rfl⟩ := two_of hm.2
    obtain rfl := text_empty hm.1
    exact node_key P ad cp x y (IH x (by simp)) (IH y (by simp))
  · obtain rfl := kind_eq h (by decide) ⟨#[109, 97, 112]⟩ rfl
    have hm : (tx.data.toList.isEmpty && ks.length == 2) = true := hm
    simp only [Bool.and_eq_true, beq_iff_eq] at hm
    obtain ⟨x, y, rfl⟩ := two_of hm.2
    obtain rfl := text_empty hm.1
    exact node_map P ad cp x y (IH x (by simp)) (IH y (by simp))
  · obtain rfl := kind_eq h (by decide) ⟨#[115, 108, 105, 99, 101]⟩ rfl
    have hm : wellSl tx ks.length = true := hm
    unfold wellSl at hm
    split at hm
    · rename_i q hq
      rw [beq_iff_eq] at hm
      obtain ⟨x, r, rfl⟩ := some_of (ks := ks) (by omega)
      rw [List.length_cons] at hm
      have hq2 : slN tx.data.toList = some r.length := by rw [hq]; congr 1; omega
      have IHx := IH x (by simp)
      have IHr : ∀ k ∈ r, NOf P k := fun k hk => IH k (List.mem_cons_of_mem _ hk)
      rcases slTexts hq2 with e | e | e | e | e | e
      · obtain rfl : tx = ⟨#[]⟩ := bytes_ext e
        obtain rfl : r = [] := List.length_eq_zero_iff.1 (Option.some.inj (show some 0 = some r.length from hq2)).symm
        exact node_slice_e P ad cp x IHx
      · obtain rfl : tx = ⟨#[108]⟩ := bytes_ext e
        obtain ⟨y, rfl⟩ := one_of (Option.some.inj (show some 1 = some r.length from hq2)).symm
        exact node_slice_l P ad cp x y IHx (IHr y (by simp))
      · obtain rfl : tx = ⟨#[104]⟩ := bytes_ext e
        obtain ⟨y, rfl⟩ := one_of (Option.some.inj (show some 1 = some r.length from hq2)).symm
        exact node_slice_h P ad cp x y IHx (IHr y (by simp))
      · obtain rfl : tx = ⟨#[108, 104]⟩ := bytes_ext e
        obtain ⟨y, z, rfl⟩ := two_of (Option.some.inj (show some 2 = some r.length from hq2)).symm
        exact node_slice_lh P ad cp x y z IHx (IHr y (by simp)) (IHr z (by simp))
      · obtain rfl : tx = ⟨#[104, 109, 115]⟩ := bytes_ext e
        obtain ⟨y, z, rfl⟩ := two_of (Option.some.inj (show some 2 = some r.length from hq2)).symm
        exact node_slice_hms P ad cp x y z IHx (IHr y (by simp)) (IHr z (by simp))
      · obtain rfl : tx = ⟨#[108, 104, 109, 115]⟩ := bytes_ext e
        obtain ⟨y, r2, rfl⟩ := some_of (ks := r) (by have h3 : 3 = r.length := Option.some.inj (show some 3 = some r.length from hq2); omega)
        obtain ⟨z, u, rfl⟩ := two_of (ks := r2) (by have h3 : 3 = (y :: r2).length := Option.some.inj (show some 3 = some (y :: r2).length from hq2); rw [List.length_cons] at h3; omega)
        exact node_slice_lhms P ad cp x y z u IHx (IHr y (by simp)) (IHr z (by simp)) (IHr u (by simp))
    · cases hm
  · obtain rfl := kind_eq h (by decide) ⟨#[99, 97, 108, 108]⟩ rfl
    have hm : (decide (0 < ks.length) && (tx.data.toList.isEmpty || ((tx.data.toList == [46, 46, 46]) && decide (1 < ks.length)))) = true := hm
    simp only [Bool.and_eq_true, Bool.or_eq_true, decide_eq_true_eq] at hm
    obtain ⟨x, r, rfl⟩ := some_of hm.1
    have IHr : ∀ k ∈ r, NOf P k := fun k hk => IH k (List.mem_cons_of_mem _ hk)
    have IHx := IH x (by simp)
    simp only [List.length_cons] at hm hlen
    rcases hm.2 with he | ⟨he, _⟩
    · obtain rfl := text_empty he
      exact node_call P ad cp x IHx r IHr (by omega)
    · obtain rfl := text_of he
      exact node_calld P hP ad cp x IHx r IHr (by omega)
  · obtain rfl := kind_eq h (by decide) ⟨#[99, 111, 109, 112, 111, 115, 105, 116, 101]⟩ rfl
    have hm : (tx.data.toList.isEmpty || ((tx.data.toList == [116, 121, 112, 101]) && decide (0 < ks.length))) = true := hm
    simp only [Bool.and_eq_true, Bool.or_eq_true, decide_eq_true_eq] at hm
    rcases hm with he | ⟨he, h1⟩
    · obtain rfl := text_empty he
      exact node_comp0 P ad cp ks IH hlen
    · obtain rfl := text_of he
      obtain ⟨x, r, rfl⟩ := some_of h1
      have IHr : ∀ k ∈ r, NOf P k := fun k hk => IH k (List.mem_cons_of_mem _ hk)
      have IHx := IH x (by simp)
      simp only [List.length_cons] at hlen
      exact node_compt P ad cp x IHx r IHr (by omega)
  · obtain rfl := kind_eq h (by decide) ⟨#[97, 114, 114, 97, 121]⟩ rfl
    have hm : (tx.data.toList.isEmpty && (ks.length == 1 || ks.length == 2)) = true := hm
    simp only [Bool.and_eq_true, Bool.or_eq_true, beq_iff_eq] at hm
    rcases hm.2 with h1 | h1
    · obtain ⟨x, rfl⟩ := one_of h1
      obtain rfl := text_empty hm.1
      exact node_array1 P ad cp x (IH x (by simp))
    · obtain ⟨x, y, rfl⟩ := two_of h1
      obtain rfl := text_empty hm.1
      exact node_array2 P ad cp x y (IH x (by simp)) (IH y (by simp))


/-- impl.node of the expression of any tree that spec.Shaped accepts. -/
theorem node_any (P : Nat → Int) (hP : ∀ j, P j ≠ 0) : ∀ n : Nd, n.shapedB = true → n.size ≤ 400 → NOf P n := by
  refine Nd.ind fun n ih h1 h3 => ?_
  rw [Nd.shapedB_eq, Bool.and_eq_true, List.all_eq_true] at h1
  rw [Nd.size_eq] at h3
  obtain ⟨kd, tx, ad, cp, ks⟩ := n
  have hl := sizeL_len ks
  dsimp only at ih h1 h3
  exact node_of P hP kd tx ad cp ks (fun k hk => ih k hk (h1.1 k hk) (by have := sizeL_mem hk; omega)) h1.2 (by omega)
end Go.Proofs.YtjbhjbpamnoebaaGreatFmt
