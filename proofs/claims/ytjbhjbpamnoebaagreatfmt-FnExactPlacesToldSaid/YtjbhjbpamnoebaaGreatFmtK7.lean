/-
  builder.expr of any shaped tree.
  impl.build: the expression of a tree, of blocks of its own.
-/
import Derived.Test.YtjbhjbpamnoebaaGreatFmtK4
import Derived.Test.YtjbhjbpamnoebaaGreatFmtK5
import Derived.Test.YtjbhjbpamnoebaaGreatFmtK6
import Derived.Test.YtjbhjbpamnoebaaGreatFmtK2
namespace Go.Proofs.YtjbhjbpamnoebaaGreatFmt
open Go.RowKit

theorem one_of {ks : List Nd} (h : ks.length = 1) : ∃ x, ks = [x] := List.length_eq_one_iff.1 h
theorem some_of {ks : List Nd} (h : 0 < ks.length) : ∃ x r, ks = x :: r := by
  cases ks with
  | nil => simp at h
  | cons x r => exact ⟨x, r, rfl⟩
theorem text_empty {tx : ByteArray} (h : tx.data.toList.isEmpty = true) : tx = ⟨#[]⟩ := bytes_ext (by simpa using h)
theorem text_of {tx : ByteArray} {l : List UInt8} (h : (tx.data.toList == l) = true) : tx = ⟨l.toArray⟩ := bytes_ext (by simpa using h)
theorem unary_op {tx : ByteArray} (h : has unOps tx = true) : tx.data.toList ∈ opTexts := by
  unfold has at h
  rw [List.any_eq_true] at h
  obtain ⟨x, hx, he⟩ := h
  rw [beq_iff_eq, toList_data, toList_data] at he
  rw [he]
  have : ∀ x ∈ unOps, x.data.toList ∈ opTexts := by decide
  exact this x hx
theorem binary_op {tx : ByteArray} (h : 0 < precS tx) : tx.data.toList ∈ opTexts := by
  have hh : ∃ k, k < 5 ∧ has (opRows.getD k []) tx = true := by
    unfold precS at h
    repeat' split at h
    all_goals first
      | exact ⟨0, by omega, by assumption⟩
      | exact ⟨1, by omega, by assumption⟩
      | exact ⟨2, by omega, by assumption⟩
      | exact ⟨3, by omega, by assumption⟩
      | exact ⟨4, by omega, by assumption⟩
      | omega
  obtain ⟨k, hk, h⟩ := hh
  unfold has at h
  rw [List.any_eq_true] at h
  obtain ⟨x, hx, he⟩ := h
  rw [beq_iff_eq, toList_data, toList_data] at he
  rw [he]
  have : ∀ k < 5, ∀ x ∈ opRows.getD k [], x.data.toList ∈ opTexts := by decide
  exact this k hk x hx
theorem two_of {ks : List Nd} (h : ks.length = 2) : ∃ x y, ks = [x, y] := len2 h

theorem expr_of (ps : List Int) (hps : ∀ i, 0 ≤ posOf ps i ∧ posOf ps i ≤ 4611686018427387904) (kd tx : ByteArray) (ad : Option Addr) (cp : Nat) (ks : List Nd) (IH : ∀ k ∈ ks, EOf ps k)
    (hm : manyC (kcode kd) tx ks.length = true) (htx : tx.size ≤ 1048576) (hlen : ks.length ≤ 400) : EOf ps ⟨kd, tx, ad, cp, ks⟩ := by
  have hc : kcode kd < 15 := by
    apply Nat.lt_of_not_le
    intro h
    have : manyC (kcode kd) tx ks.length = false := by
      unfold manyC
      dsimp only
      repeat' split
      all_goals first
        | omega
        | rfl
    rw [this] at hm
    cases hm
  have h15 : kcode kd = 0 ∨ kcode kd = 1 ∨ kcode kd = 2 ∨ kcode kd = 3 ∨ kcode kd = 4 ∨ kcode kd = 5 ∨ kcode kd = 6 ∨ kcode kd = 7 ∨ kcode kd = 8 ∨ kcode kd = 9 ∨ kcode kd = 10 ∨ kcode kd = 11 ∨ kcode kd = 12 ∨ kcode kd = 13 ∨ kcode kd = 14 := by omega
  rcases h15 with h | h | h | h | h | h | h | h | h | h | h | h | h | h | h
  all_goals rw [h] at hm
  · obtain rfl := kind_eq h (by decide) ⟨#[110, 97, 109, 101]⟩ rfl
    have hm : (ks.length == 0) = true := hm
    simp only [beq_iff_eq] at hm
    obtain rfl := List.length_eq_zero_iff.1 hm
    exact expr_name ps tx ad cp
  · obtain rfl := kind_eq h (by decide) ⟨#[108, 105, 116, 101, 114, 97, 108]⟩ rfl
    have hm : (ks.length == 0) = true := hm
    simp only [beq_iff_eq] at hm
    obtain rfl := List.length_eq_zero_iff.1 hm
    exact expr_literal ps tx ad cp hps htx
  · obtain rfl := kind_eq h (by decide) ⟨#[112, 97, 114, 101, 110]⟩ rfl
    have hm : (tx.data.toList.isEmpty && ks.length == 1) = true := hm
    simp only [Bool.and_eq_true, beq_iff_eq] at hm
    obtain ⟨x, rfl⟩ := one_of hm.2
    exact expr_paren ps tx ad cp x (IH x (by simp))
  · obtain rfl := kind_eq h (by decide) ⟨#[115, 116, 97, 114]⟩ rfl
    have hm : (tx.data.toList.isEmpty && ks.length == 1) = true := hm
    simp only [Bool.and_eq_true, beq_iff_eq] at hm
    obtain ⟨x, rfl⟩ := one_of hm.2
    exact expr_star ps tx ad cp x (IH x (by simp))
  · obtain rfl := kind_eq h (by decide) ⟨#[117, 110, 97, 114, 121]⟩ rfl
    have hm : (has unOps tx && ks.length == 1) = true := hm
    simp only [Bool.and_eq_true, beq_iff_eq] at hm
    obtain ⟨x, rfl⟩ := one_of hm.2
    exact expr_unary ps tx ad cp x (IH x (by simp)) (unary_op hm.1)
  · obtain rfl := kind_eq h (by decide) ⟨#[98, 105, 110, 97, 114, 121]⟩ rfl
    have hm : (decide (0 < precS tx) && ks.length == 2) = true := hm
    simp only [Bool.and_eq_true, beq_iff_eq, decide_eq_true_eq] at hm
    obtain ⟨x, y, rfl⟩ := two_of hm.2
    exact expr_binary ps tx ad cp x y (IH x (by simp)) (IH y (by simp)) (binary_op hm.1)
  · obtain rfl := kind_eq h (by decide) ⟨#[115, 101, 108, 101, 99, 116]⟩ rfl
    have hm : (ks.length == 1) = true := hm
    simp only [beq_iff_eq] at hm
    obtain ⟨x, rfl⟩ := one_of hm
    exact expr_select ps tx ad cp x (IH x (by simp))
  · obtain rfl := kind_eq h (by decide) ⟨#[105, 110, 100, 101, 120]⟩ rfl
    have hm : (tx.data.toList.isEmpty && ks.length == 2) = true := hm
    simp only [Bool.and_eq_true, beq_iff_eq] at hm
    obtain ⟨x, y, rfl⟩ := two_of hm.2
    exact expr_index ps tx ad cp x y (IH x (by simp)) (IH y (by simp))
  · obtain rfl := kind_eq h (by decide) ⟨#[97, 115, 115, 101, 114, 116]⟩ rfl
    have hm : (tx.data.toList.isEmpty && ks.length == 2) = true := hm
    simp only [Bool.and_eq_true, beq_iff_eq] at hm
    obtain ⟨x, y, rfl⟩ := two_of hm.2
    exact expr_assert ps tx ad cp x y (IH x (by simp)) (IH y (by simp))
  · obtain rfl := kind_eq h (by decide) ⟨#[107, 101, 121]⟩ rfl
    have hm : (tx.data.toList.isEmpty && ks.length == 2) = true := hm
    simp only [Bool.and_eq_true, beq_iff_eq] at hm
    obtain ⟨x, y, rfl⟩ := two_of hm.2
    exact expr_key ps tx ad cp x y (IH x (by simp)) (IH y (by simp))
  · obtain rfl := kind_eq h (by decide) ⟨#[109, 97, 112]⟩ rfl
    have hm : (tx.data.toList.isEmpty && ks.length == 2) = true := hm
    simp only [Bool.and_eq_true, beq_iff_eq] at hm
    obtain ⟨x, y, rfl⟩ := two_of hm.2
    exact expr_map ps tx ad cp x y (IH x (by simp)) (IH y (by simp))
  · obtain rfl := kind_eq h (by decide) ⟨#[115, 108, 105, 99, 101]⟩ rfl
    have hm : wellSl tx ks.length = true := hm
    unfold wellSl at hm
    split at hm
    · rename_i q hq
      rw [beq_iff_eq] at hm
      obtain ⟨x, r, rfl⟩ := some_of (ks := ks) (by omega)
      rw [List.length_cons] at hm
      have hq2 : slN tx.data.toList = some r.length := by rw [hq]; congr 1; omega
      by_cases hcp : cp = 1
      · intro w bb i hB hin
        have := (Nd.In_iff.1 hin).1
        dsimp only at this
        rw [List.length_cons] at this
        obtain rfl : r = [] := List.length_eq_zero_iff.1 (by omega)
        subst hcp
        exact expr_slice_1 ps tx ad x (IH x (by simp)) hq2 w bb i hB hin
      · exact expr_slice_n ps tx ad cp x r hcp (IH x (by simp)) (fun k hk => IH k (List.mem_cons_of_mem _ hk)) hq2
    · cases hm
  · obtain rfl := kind_eq h (by decide) ⟨#[99, 97, 108, 108]⟩ rfl
    have hm : (decide (0 < ks.length) && (tx.data.toList.isEmpty || ((tx.data.toList == [46, 46, 46]) && decide (1 < ks.length)))) = true := hm
    simp only [Bool.and_eq_true, Bool.or_eq_true, decide_eq_true_eq] at hm
    obtain ⟨x, r, rfl⟩ := some_of hm.1
    have IHr : ∀ k ∈ r, EOf ps k := fun k hk => IH k (List.mem_cons_of_mem _ hk)
    have IHx := IH x (by simp)
    simp only [List.length_cons] at hm hlen
    rcases hm.2 with he | ⟨he, h1⟩
    · obtain rfl := text_empty he
      by_cases hcp : cp = 1
      · intro w bb i hB hin
        have := (Nd.In_iff.1 hin).1
        dsimp only at this
        rw [List.length_cons] at this
        obtain rfl : r = [] := List.length_eq_zero_iff.1 (by omega)
        subst hcp
        exact expr_call_1 ps ad x IHx w bb i hB hin
      · exact expr_call_n ps ad cp x r hcp IHx IHr (by omega)
    · obtain rfl := text_of he
      by_cases hcp : cp = 1
      · intro w bb i hB hin
        have := (Nd.In_iff.1 hin).1
        dsimp only at this
        rw [List.length_cons] at this
        omega
      · exact expr_call_d ps ad cp x r hcp (by omega) IHx IHr (by omega)
  · obtain rfl := kind_eq h (by decide) ⟨#[99, 111, 109, 112, 111, 115, 105, 116, 101]⟩ rfl
    have hm : (tx.data.toList.isEmpty || ((tx.data.toList == [116, 121, 112, 101]) && decide (0 < ks.length))) = true := hm
    simp only [Bool.and_eq_true, Bool.or_eq_true, decide_eq_true_eq] at hm
    rcases hm with he | ⟨he, h1⟩
    · obtain rfl := text_empty he
      exact expr_comp_e ps ad cp ks IH hlen
    · obtain rfl := text_of he
      obtain ⟨x, r, rfl⟩ := some_of h1
      have IHr : ∀ k ∈ r, EOf ps k := fun k hk => IH k (List.mem_cons_of_mem _ hk)
      have IHx := IH x (by simp)
      simp only [List.length_cons] at hlen
      by_cases hcp : cp = 1
      · intro w bb i hB hin
        have := (Nd.In_iff.1 hin).1
        dsimp only at this
        rw [List.length_cons] at this
        obtain rfl : r = [] := List.length_eq_zero_iff.1 (by omega)
        subst hcp
        exact expr_comp_1 ps ad x IHx w bb i hB hin
      · exact expr_comp_n ps ad cp x r hcp IHx IHr (by omega)
  · obtain rfl := kind_eq h (by decide) ⟨#[97, 114, 114, 97, 121]⟩ rfl
    have hm : (tx.data.toList.isEmpty && (ks.length == 1 || ks.length == 2)) = true := hm
    simp only [Bool.and_eq_true, Bool.or_eq_true, beq_iff_eq] at hm
    rcases hm.2 with h1 | h1
    · obtain ⟨x, rfl⟩ := one_of h1
      exact expr_array1 ps tx ad cp x (IH x (by simp))
    · obtain ⟨x, y, rfl⟩ := two_of h1
      exact expr_array2 ps tx ad cp x y (IH x (by simp)) (IH y (by simp))

theorem sizeL_mem {ks : List Nd} {k : Nd} (h : k ∈ ks) : k.size ≤ sizeL ks := by
  induction ks with
  | nil => cases h
  | cons x ks ih =>
    rw [sizeL]
    rcases List.mem_cons.1 h with rfl | h
    · omega
    · have := ih h
      omega
theorem sizeL_len (ks : List Nd) : ks.length ≤ sizeL ks := by
  induction ks with
  | nil => simp
  | cons x ks ih =>
    rw [sizeL, List.length_cons, Nd.size_eq]
    omega
/-- builder.expr of any tree that spec.Shaped accepts. -/
theorem expr_any (ps : List Int) (hps : ∀ i, 0 ≤ posOf ps i ∧ posOf ps i ≤ 4611686018427387904) : ∀ n : Nd, n.shapedB = true → n.shortB = true → n.size ≤ 400 → EOf ps n := by
  refine Nd.ind fun n ih h1 h2 h3 => ?_
  rw [Nd.shapedB_eq, Bool.and_eq_true, List.all_eq_true] at h1
  rw [Nd.shortB_eq, Bool.and_eq_true, List.all_eq_true] at h2
  rw [Nd.size_eq] at h3
  obtain ⟨kd, tx, ad, cp, ks⟩ := n
  have hl := sizeL_len ks
  dsimp only at ih h1 h2 h3
  exact expr_of ps hps kd tx ad cp ks (fun k hk => ih k hk (h1.1 k hk) (h2.2 k hk) (by have := sizeL_mem hk; omega)) h1.2 (of_decide_eq_true h2.1) (by omega)
end Go.Proofs.YtjbhjbpamnoebaaGreatFmt

namespace Go.Proofs.YtjbhjbpamnoebaaGreatFmt
open Go.RowKit

/-- The places, as the memory holds them. -/
def PsAt (w : World) (A : Option Addr) (cap : Nat) (ps : List Int) (B : Nat) : Prop :=
  ps.length ≤ cap ∧ cap ≤ maxLen ∧ ∀ (j : Nat) (x : Int), ps[j]? = some x → ∃ g o, A = some ⟨g, o, none⟩ ∧ g < B ∧ w.cell? ⟨g, o + j, none⟩ = some (.int .i64 x)
def BuPost (W : World) (ps : List Int) (n : Nd) (e : Ending) (w : World) : Prop :=
  ∃ v, e = .returned v ∧ ExR w (Rng W.heap.size w.heap.size) (posOf ps) 0 n v ∧ Below W.heap.size W w

theorem build_any (ps : List Int) (n : Nd) (hE : EOf ps n) (W : World) (hT : TokTab W) (hin : n.In W W.heap.size) (A : Option Addr) (cap : Nat) (hps : PsAt W A cap ps W.heap.size) (l : Nat) (hl : ps.length = l) :
    Calls Tryz.prog 19 #[n.val, .slice A l cap] W (BuPost W ps n) := by
  show Calls _ _ #[.agg #[.string n.kd, .string n.tx, .slice n.ad n.ks.length n.cp], _] W _
  have hg0 : 0 < W.heap.size := block_lt_of_cell (hT 0 (by decide))
  have hb1 : Below W.heap.size W (W.alloc (.cells #[.string n.kd, .string n.tx, .slice n.ad n.ks.length n.cp] 24)) := (Below.refl _ _).alloc (Nat.le_refl _) _
  have hb2 : Below W.heap.size W ((W.alloc (.cells #[.string n.kd, .string n.tx, .slice n.ad n.ks.length n.cp] 24)).alloc (.cells #[.slice A l cap] 252)) := hb1.alloc (by simp) _
  have hB : BAt ((W.alloc (.cells #[.string n.kd, .string n.tx, .slice n.ad n.ks.length n.cp] 24)).alloc (.cells #[.slice A l cap] 252)) (W.heap.size + 1) ps 0 := by
    refine ⟨⟨hT.below hb2, by omega⟩, A, l, cap, ?_, by simpa using hl.symm, by have := hps.1; omega, hps.2.1, fun j x hj => ?_⟩
    · have := Blk.new (W.alloc (.cells #[.string n.kd, .string n.tx, .slice n.ad n.ks.length n.cp] 24)) 252 #[.slice A l cap]
      rwa [World.size_alloc] at this
    · obtain ⟨g, o, h1, h2, h3⟩ := hps.2.2 j x (by simpa using hj)
      exact ⟨g, o, h1, by omega, (hb2.cell (p := ⟨g, o + j, none⟩) h2).trans h3⟩
  have hI : n.In ((W.alloc (.cells #[.string n.kd, .string n.tx, .slice n.ad n.ks.length n.cp] 24)).alloc (.cells #[.slice A l cap] 252)) (W.heap.size + 1) := hin.below hb2 (by omega)
  have HC := Lib.hid (hE _ _ _ hB hI)
  have HB := Lib.hid hb2
  clear hb1 hb2 hB hI hT hin hps hE
  go_enter Tryz.func19, Tryz.ntmps19
  go_wp2_with fail
  refine HC.out.mono ?_
  rintro e w1 ⟨v, rfl, hX, hB, hg⟩
  obtain ⟨q, c, rfl⟩ := hX.form
  have HX := Lib.hid hX
  have HG := Lib.hid hg
  clear hX hB hg
  go_wp2_with fail
  go_ret
  exact ⟨_, rfl, HX.out.wideR (by simp; omega) (Nat.le_refl _), HB.out.trans (below_grown HG.out (by simp; omega) (by omega))⟩
end Go.Proofs.YtjbhjbpamnoebaaGreatFmt
