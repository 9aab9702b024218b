/-
  The events of Inspect pair: plain lists, no program in sight.
-/
import Derived.Test.YtjbhjbpamnoebaaGreatFmtK8
import Derived.Test.YtjbhjbpamnoebaaGreatFmtK3
namespace Go.Proofs.YtjbhjbpamnoebaaGreatFmt
open Go.RowKit

/-- What an event adds to the number of open nodes. -/
def balOf (k : ByteArray) : Int := if k.toList == (⟨#[]⟩ : ByteArray).toList then -1 else 1
def bal : List ByteArray → Int
  | [] => 0
  | k :: ks => balOf k + bal ks
theorem bal_append (a b : List ByteArray) : bal (a ++ b) = bal a + bal b := by
  induction a with
  | nil => simp [bal]
  | cons x a ih => simp only [List.cons_append, bal, ih]; omega
/-- As many beginnings as ends, never fewer. -/
def Even2 (l : List ByteArray) : Prop := bal l = 0 ∧ ∀ j, 0 ≤ bal (l.take j)
theorem Even2.nil : Even2 [] := ⟨rfl, fun j => by simp [bal]⟩
theorem Even2.append {a b : List ByteArray} (ha : Even2 a) (hb : Even2 b) : Even2 (a ++ b) := by
  refine ⟨by rw [bal_append, ha.1, hb.1]; rfl, fun j => ?_⟩
  rw [List.take_append, bal_append]
  have h1 := ha.2 j
  have h2 := hb.2 (j - a.length)
  omega
/-- One more at each beginning but the whole. -/
def Pairs (l : List ByteArray) : Prop := bal l = 0 ∧ (∀ j, 0 < j → j < l.length → 0 < bal (l.take j)) ∧ 0 < l.length
theorem Even2.pairs {k : ByteArray} {l : List ByteArray} (hk : balOf k = 1) (h : Even2 l) : Pairs (k :: (l ++ [⟨#[]⟩])) := by
  have he : balOf (⟨#[]⟩ : ByteArray) = -1 := by rw [balOf, beq_self_eq_true]; rfl
  refine ⟨?_, fun j h0 hj => ?_, by simp⟩
  · rw [bal, bal_append, hk, h.1, bal, he]
    rfl
  · obtain ⟨j, rfl⟩ : ∃ i, j = i + 1 := ⟨j - 1, by omega⟩
    rw [List.take_succ_cons, bal, hk]
    have hl : j ≤ l.length := by simp at hj; omega
    rw [List.take_append_of_le_length hl]
    have := h.2 j
    omega
theorem Pairs.even {l : List ByteArray} (h : Pairs l) : Even2 l := by
  refine ⟨h.1, fun j => ?_⟩
  rcases Nat.eq_zero_or_pos j with rfl | h0
  · simp [bal]
  · by_cases hj : j < l.length
    · exact Int.le_of_lt (h.2.1 j h0 hj)
    · rw [List.take_of_length_le (by omega), h.1]
      exact Int.le_refl _

/-- The kinds of a tree, each ahead of those below. -/
def leafKinds : List ByteArray := [⟨#[110, 97, 109, 101]⟩]
mutual
def Nd.kinds : Nd → List ByteArray
  | ⟨kd, _, _, _, ks⟩ => kd :: kindsL ks ++ (if kcode kd = 6 then leafKinds else [])
def kindsL : List Nd → List ByteArray
  | [] => []
  | k :: ks => k.kinds ++ kindsL ks
end
mutual
theorem Nd.kinds_len : ∀ n : Nd, n.kinds.length ≤ 2 * n.size
  | ⟨kd, tx, ad, cp, ks⟩ => by
    have h := kindsL_len ks
    rw [Nd.kinds, Nd.size_eq]
    split
    · simp only [leafKinds, List.length_cons, List.length_append, List.length_nil]
      omega
    · simp only [List.length_cons, List.length_append, List.length_nil]
      omega
theorem kindsL_len : ∀ ks : List Nd, (kindsL ks).length ≤ 2 * sizeL ks
  | [] => by simp [kindsL]
  | k :: ks => by
    have h1 := Nd.kinds_len k
    have h2 := kindsL_len ks
    rw [kindsL, sizeL, List.length_append]
    omega
end

theorem kd_ne {n : Nd} (h : n.shapedB = true) : (n.kd.toList == (⟨#[]⟩ : ByteArray).toList) = false := by
  obtain ⟨kd, tx, ad, cp, ks⟩ := n
  have hm : manyC (kcode kd) tx ks.length = true := by
    rw [Nd.shapedB, Bool.and_eq_true] at h
    exact h.2
  have hc : kd.data.toList ≠ [] := by
    intro h0
    have h15 : kcode kd = 15 := by rw [kcode, h0]; rfl
    rw [h15] at hm
    exact Bool.noConfusion hm
  show (kd.toList == (⟨#[]⟩ : ByteArray).toList) = false
  rw [toList_data, toList_data, beq_eq_false_iff_ne]
  exact hc
theorem leaf_even (d : Nat) : Even2 ((leafEvs ⟨#[]⟩ d).map (·.1)) ∧ ((leafEvs ⟨#[]⟩ d).map (·.1)).length = 2 * leafKinds.length := by
  have hd : ((⟨#[110, 97, 109, 101]⟩ : ByteArray).toList == (⟨#[]⟩ : ByteArray).toList) = false := by rw [toList_data, toList_data]; rfl
  have h := (Even2.nil.pairs (k := ⟨#[110, 97, 109, 101]⟩) (by rw [balOf, hd]; rfl)).even
  rw [leafEvs, hd]
  exact ⟨h, rfl⟩
theorem evsL_even (ks : List Nd) (d : Nat) (h : ∀ k ∈ ks, Pairs ((k.evs ⟨#[]⟩ d).map (·.1)) ∧ ((k.evs ⟨#[]⟩ d).map (·.1)).length = 2 * k.kinds.length) : Even2 ((evsL ⟨#[]⟩ d ks).map (·.1)) ∧ ((evsL ⟨#[]⟩ d ks).map (·.1)).length = 2 * (kindsL ks).length := by
  induction ks with
  | nil => exact ⟨by rw [evsL]; exact Even2.nil, by rw [evsL, kindsL]; rfl⟩
  | cons k ks ih =>
    obtain ⟨h1, h2⟩ := h k (List.mem_cons_self ..)
    obtain ⟨h3, h4⟩ := ih fun x hx => h x (List.mem_cons_of_mem _ hx)
    rw [evsL, kindsL, List.map_append, List.length_append, List.length_append]
    exact ⟨h1.even.append h3, by omega⟩
/-- The events of a shaped tree, no kind at which the way ends. -/
theorem evs_pairs : ∀ n : Nd, n.shapedB = true → ∀ d, Pairs ((n.evs ⟨#[]⟩ d).map (·.1)) ∧ ((n.evs ⟨#[]⟩ d).map (·.1)).length = 2 * n.kinds.length := by
  refine Nd.ind fun n ih h d => ?_
  have hk := kd_ne h
  have hs : ∀ k ∈ n.ks, k.shapedB = true := by
    rw [Nd.shapedB_eq, Bool.and_eq_true, List.all_eq_true] at h
    exact h.1
  rw [Nd.evs_go hk]
  obtain ⟨h1, h2⟩ := evsL_even n.ks (d + 1) fun k hm => ih k hm (hs k hm) (d + 1)
  obtain ⟨kd, tx, ad, cp, ks⟩ := n
  have hb : balOf kd = 1 := by
    rw [balOf]
    exact if_neg (by rw [show (kd.toList == (⟨#[]⟩ : ByteArray).toList) = false from hk]; exact Bool.false_ne_true)
  rw [List.map_cons, List.map_append, List.map_append]
  have hl : Even2 ((if kcode kd = 6 then leafEvs ⟨#[]⟩ (d + 1) else []).map (·.1)) ∧ ((if kcode kd = 6 then leafEvs ⟨#[]⟩ (d + 1) else []).map (·.1)).length = 2 * (if kcode kd = 6 then leafKinds else []).length := by
    split
    · exact leaf_even (d + 1)
    · exact ⟨Even2.nil, rfl⟩
  refine ⟨(h1.append hl.1).pairs hb, ?_⟩
  rw [Nd.kinds]
  simp only [List.length_cons, List.length_append, List.length_map, List.length_nil] at h2 hl ⊢
  have := hl.2
  omega
end Go.Proofs.YtjbhjbpamnoebaaGreatFmt
