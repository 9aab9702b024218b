/-
  ast.Walk of the expression of any shaped tree.
-/
import Derived.Test.YtjbhjbpamnoebaaGreatFmtK16
import Derived.Test.YtjbhjbpamnoebaaGreatFmtK17
import Derived.Test.YtjbhjbpamnoebaaGreatFmtK18
import Derived.Test.YtjbhjbpamnoebaaGreatFmtK7
namespace Go.Proofs.YtjbhjbpamnoebaaGreatFmt
open Go.RowKit

section
variable {lo hi : Nat} {P : Nat → Int} {go : List Ev → Bool} {Vt : TypeId} {pay rc : Nat → Value} {fV : FuncId} {Out : List Ev → List (Nd × Nat) → World → Prop}
theorem walk_of (hV : VS lo hi P go Vt pay rc fV Out) (kd tx : ByteArray) (ad : Option Addr) (cp : Nat) (ks : List Nd) (IH : ∀ k ∈ ks, WOf lo hi P go Vt pay Out k)
    (hm : manyC (kcode kd) tx ks.length = true) (hlen : ks.length ≤ 400) (hsh : Nd.shapedB ⟨kd, tx, ad, cp, ks⟩ = true) (hsz : Nd.size ⟨kd, tx, ad, cp, ks⟩ ≤ 400) : WOf lo hi P go Vt pay Out ⟨kd, tx, ad, cp, ks⟩ := by
  have hc : kcode kd < 15 := by
    apply Nat.lt_of_not_le
    intro h
    have : manyC (kcode kd) tx ks.length = false := by
      unfold manyC
      dsimp only
      repeat' split
      all_goals first
        | omega
        | rfl
    rw [this] at hm
    cases hm
  have h15 : kcode kd = 0 ∨ kcode kd = 1 ∨ kcode kd = 2 ∨ kcode kd = 3 ∨ kcode kd = 4 ∨ kcode kd = 5 ∨ kcode kd = 6 ∨ kcode kd = 7 ∨ kcode kd = 8 ∨ kcode kd = 9 ∨ kcode kd = 10 ∨ kcode kd = 11 ∨ kcode kd = 12 ∨ kcode kd = 13 ∨ kcode kd = 14 := by omega
  rcases h15 with h | h | h | h | h | h | h | h | h | h | h | h | h | h | h
  all_goals rw [h] at hm
  · obtain rfl := kind_eq h (by decide) ⟨#[110, 97, 109, 101]⟩ rfl
    have hm : (ks.length == 0) = true := hm
    simp only [beq_iff_eq] at hm
    obtain rfl := List.length_eq_zero_iff.1 hm
    exact wk_name hV tx ad cp hsh hsz
  · obtain rfl := kind_eq h (by decide) ⟨#[108, 105, 116, 101, 114, 97, 108]⟩ rfl
    have hm : (ks.length == 0) = true := hm
    simp only [beq_iff_eq] at hm
    obtain rfl := List.length_eq_zero_iff.1 hm
    exact wk_literal hV tx ad cp hsh hsz
  · obtain rfl := kind_eq h (by decide) ⟨#[112, 97, 114, 101, 110]⟩ rfl
    have hm : (tx.data.toList.isEmpty && ks.length == 1) = true := hm
    simp only [Bool.and_eq_true, beq_iff_eq] at hm
    obtain ⟨x, rfl⟩ := one_of hm.2
    obtain rfl := text_empty hm.1
    exact wk_paren hV ad cp x (IH x (by simp)) hsh hsz
  · obtain rfl := kind_eq h (by decide) ⟨#[115, 116, 97, 114]⟩ rfl
    have hm : (tx.data.toList.isEmpty && ks.length == 1) = true := hm
    simp only [Bool.and_eq_true, beq_iff_eq] at hm
    obtain ⟨x, rfl⟩ := one_of hm.2
    obtain rfl := text_empty hm.1
    exact wk_star hV ad cp x (IH x (by simp)) hsh hsz
  · obtain rfl := kind_eq h (by decide) ⟨#[117, 110, 97, 114, 121]⟩ rfl
    have hm : (has unOps tx && ks.length == 1) = true := hm
    simp only [Bool.and_eq_true, beq_iff_eq] at hm
    obtain ⟨x, rfl⟩ := one_of hm.2
    exact wk_unary hV tx ad cp x (IH x (by simp)) hsh hsz
  · obtain rfl := kind_eq h (by decide) ⟨#[98, 105, 110, 97, 114, 121]⟩ rfl
    have hm : (decide (0 < precS tx) && ks.length == 2) = true := hm
    simp only [Bool.and_eq_true, beq_iff_eq, decide_eq_true_eq] at hm
    obtain ⟨x, y, rfl⟩ := two_of hm.2
    exact wk_binary hV tx ad cp x y (IH x (by simp)) (IH y (by simp)) hsh hsz
  · obtain rfl := kind_eq h (by decide) ⟨#[115, 101, 108, 101, 99, 116]⟩ rfl
    have hm : (ks.length == 1) = true := hm
    simp only [beq_iff_eq] at hm
    obtain ⟨x, rfl⟩ := one_of hm
    exact wk_select hV tx ad cp x (IH x (by simp)) (wk_name hV tx none 0 rfl (by simp [Nd.size, sizeL])) hsh hsz
  · obtain rfl := kind_eq h (by decide) ⟨#[105, 110, 100, 101, 120]⟩ rfl
    have hm : (tx.data.toList.isEmpty && ks.length == 2) = true := hm
    simp only [Bool.and_eq_true, beq_iff_eq] at hm
    obtain ⟨x, y, rfl⟩ := two_of hm.2
    obtain rfl := text_empty hm.1
    exact wk_index hV ad cp x y (IH x (by simp)) (IH y (by simp)) hsh hsz
  · obtain rfl := kind_eq h (by decide) ⟨#[97, 115, 115, 101, 114, 116]⟩ rfl
    have hm : (tx.data.toList.isEmpty && ks.length == 2) = true := hm
    simp only [Bool.and_eq_true, beq_iff_eq] at hm
    obtain ⟨x, y, rfl⟩ := two_of hm.2
    obtain rfl := text_empty hm.1
    exact wk_assert hV ad cp x y (IH x (by simp)) (IH y (by simp)) hsh hsz
  · obtain rfl := kind_eq h (by decide) ⟨#[107, 101, 121]⟩ rfl
    have hm : (tx.data.toList.isEmpty && ks.length == 2) = true := hm
    simp only [Bool.and_eq_true, beq_iff_eq] at hm
    obtain ⟨x, y, rfl⟩ := two_of hm.2
    obtain rfl := text_empty hm.1
    exact wk_key hV ad cp x y (IH x (by simp)) (IH y (by simp)) hsh hsz
  · obtain rfl := kind_eq h (by decide) ⟨#[109, 97, 112]⟩ rfl
    have hm : (tx.data.toList.isEmpty && ks.length == 2) = true := hm
    simp only [Bool.and_eq_true, beq_iff_eq] at hm
    obtain ⟨x, y, rfl⟩ := two_of hm.2
    obtain rfl := text_empty hm.1
    exact wk_map hV ad cp x y (IH x (by simp)) (IH y (by simp)) hsh hsz
  · obtain rfl := kind_eq h (by decide) ⟨#[115, 108, 105, 99, 101]⟩ rfl
    have hm : wellSl tx ks.length = true := hm
    unfold wellSl at hm
    split at hm
    · rename_i q hq
      rw [beq_iff_eq] at hm
      obtain ⟨x, r, rfl⟩ := some_of (ks := ks) (by omega)
      rw [List.length_cons] at hm
      have hq2 : slN tx.data.toList = some r.length := by rw [hq]; congr 1; omega
      have IHx := IH x (by simp)
      have IHr : ∀ k ∈ r, WOf lo hi P go Vt pay Out k := fun k hk => IH k (List.mem_cons_of_mem _ hk)
      rcases slTexts hq2 with e | e | e | e | e | e
      · obtain rfl : tx = ⟨#[]⟩ := bytes_ext e
        obtain rfl : r = [] := List.length_eq_zero_iff.1 (Option.some.inj (show some 0 = some r.length from hq2)).symm
        exact wk_slice_e hV ad cp x IHx hsh hsz
      · obtain rfl : tx = ⟨#[108]⟩ := bytes_ext e
        obtain ⟨y, rfl⟩ := one_of (Option.some.inj (show some 1 = some r.length from hq2)).symm
        exact wk_slice_l hV ad cp x y IHx (IHr y (by simp)) hsh hsz
      · obtain rfl : tx = ⟨#[104]⟩ := bytes_ext e
        obtain ⟨y, rfl⟩ := one_of (Option.some.inj (show some 1 = some r.length from hq2)).symm
        exact wk_slice_h hV ad cp x y IHx (IHr y (by simp)) hsh hsz
      · obtain rfl : tx = ⟨#[108, 104]⟩ := bytes_ext e
        obtain ⟨y, z, rfl⟩ := two_of (Option.some.inj (show some 2 = some r.length from hq2)).symm
        exact wk_slice_lh hV ad cp x y z IHx (IHr y (by simp)) (IHr z (by simp)) hsh hsz
      · obtain rfl : tx = ⟨#[104, 109, 115]⟩ := bytes_ext e
        obtain ⟨y, z, rfl⟩ := two_of (Option.some.inj (show some 2 = some r.length from hq2)).symm
        exact wk_slice_hms hV ad cp x y z IHx (IHr y (by simp)) (IHr z (by simp)) hsh hsz
      · obtain rfl : tx = ⟨#[108, 104, 109, 115]⟩ := bytes_ext e
        obtain ⟨y, r2, rfl⟩ := some_of (ks := r) (by have h3 : 3 = r.length := Option.some.inj (show some 3 = some r.length from hq2); omega)
        obtain ⟨z, u, rfl⟩ := two_of (ks := r2) (by have h3 : 3 = (y :: r2).length := Option.some.inj (show some 3 = some (y :: r2).length from hq2); rw [List.length_cons] at h3; omega)
        exact wk_slice_lhms hV ad cp x y z u IHx (IHr y (by simp)) (IHr z (by simp)) (IHr u (by simp)) hsh hsz
    · cases hm
  · obtain rfl := kind_eq h (by decide) ⟨#[99, 97, 108, 108]⟩ rfl
    have hm : (decide (0 < ks.length) && (tx.data.toList.isEmpty || ((tx.data.toList == [46, 46, 46]) && decide (1 < ks.length)))) = true := hm
    simp only [Bool.and_eq_true, Bool.or_eq_true, decide_eq_true_eq] at hm
    obtain ⟨x, r, rfl⟩ := some_of hm.1
    have IHr : ∀ k ∈ r, WOf lo hi P go Vt pay Out k := fun k hk => IH k (List.mem_cons_of_mem _ hk)
    have IHx := IH x (by simp)
    simp only [List.length_cons] at hm hlen
    rcases hm.2 with he | ⟨he, _⟩
    · obtain rfl := text_empty he
      exact wk_call hV ⟨#[]⟩ ad cp x r IHx IHr (by omega) hsh hsz
    · obtain rfl := text_of he
      exact wk_call hV ⟨#[46, 46, 46]⟩ ad cp x r IHx IHr (by omega) hsh hsz
  · obtain rfl := kind_eq h (by decide) ⟨#[99, 111, 109, 112, 111, 115, 105, 116, 101]⟩ rfl
    have hm : (tx.data.toList.isEmpty || ((tx.data.toList == [116, 121, 112, 101]) && decide (0 < ks.length))) = true := hm
    simp only [Bool.and_eq_true, Bool.or_eq_true, decide_eq_true_eq] at hm
    rcases hm with he | ⟨he, h1⟩
    · obtain rfl := text_empty he
      exact wk_comp0 hV ad cp ks IH hlen hsh hsz
    · obtain rfl := text_of he
      obtain ⟨x, r, rfl⟩ := some_of h1
      have IHr : ∀ k ∈ r, WOf lo hi P go Vt pay Out k := fun k hk => IH k (List.mem_cons_of_mem _ hk)
      have IHx := IH x (by simp)
      simp only [List.length_cons] at hlen
      exact wk_compt hV ad cp x r IHx IHr (by omega) hsh hsz
  · obtain rfl := kind_eq h (by decide) ⟨#[97, 114, 114, 97, 121]⟩ rfl
    have hm : (tx.data.toList.isEmpty && (ks.length == 1 || ks.length == 2)) = true := hm
    simp only [Bool.and_eq_true, Bool.or_eq_true, beq_iff_eq] at hm
    rcases hm.2 with h1 | h1
    · obtain ⟨x, rfl⟩ := one_of h1
      obtain rfl := text_empty hm.1
      exact wk_array1 hV ad cp x (IH x (by simp)) hsh hsz
    · obtain ⟨x, y, rfl⟩ := two_of h1
      obtain rfl := text_empty hm.1
      exact wk_array2 hV ad cp x y (IH x (by simp)) (IH y (by simp)) hsh hsz



/-- Walk of the expression of any tree that spec.Shaped accepts. -/
theorem walk_any (hV : VS lo hi P go Vt pay rc fV Out) : ∀ n : Nd, n.shapedB = true → n.size ≤ 400 → WOf lo hi P go Vt pay Out n := by
  refine Nd.ind fun n ih h1 h3 => ?_
  have hsh := h1
  have hsz := h3
  rw [Nd.shapedB_eq, Bool.and_eq_true, List.all_eq_true] at h1
  rw [Nd.size_eq] at h3
  obtain ⟨kd, tx, ad, cp, ks⟩ := n
  have hl := sizeL_len ks
  dsimp only at ih h1 h3
  exact walk_of hV kd tx ad cp ks (fun k hk => ih k hk (h1.1 k hk) (by have := sizeL_mem hk; omega)) h1.2 (by omega) hsh hsz
end
end Go.Proofs.YtjbhjbpamnoebaaGreatFmt
