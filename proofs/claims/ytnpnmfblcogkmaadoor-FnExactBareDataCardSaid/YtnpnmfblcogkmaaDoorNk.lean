/-
  impl.node, kind by kind: what serves all kinds.
-/
import Derived.Test.YtnpnmfblcogkmaaDoorNw
import Derived.Test.YtnpnmfblcogkmaaDoorSt
namespace Go.Proofs.YtnpnmfblcogkmaaDoor
open Go.RowKit

/-- nodes of a list that is written out. -/
theorem nodes_lit (P : Nat → Int) (ks : List Nd) (IH : ∀ k ∈ ks, NOf P k) (vs : List Value) (w : World) (hT : TokTab w) (lo hi : Nat) (hhi : hi ≤ w.heap.size) (hNL : NL w (Rng lo hi) P ks vs) (hlen : vs.length ≤ 401) (n : Nat) (hn : vs.length = n) :
    Calls Tryd.prog 32 #[.slice (some ⟨w.heap.size, 0, none⟩) n n] (w.alloc (.cells vs.toArray 46)) (NsPost (w.alloc (.cells vs.toArray 46)) ks) := by
  refine nodes_any P ks IH vs _ (hT.below ((Below.refl _ _).alloc (Nat.le_refl _) _)) lo hi (by rw [World.size_alloc]; omega) _ n (fun j v hj => ⟨w.heap.size, 0, rfl, by rw [World.size_alloc]; omega, ?_⟩) (hNL.keep fun b hb => Below.heap_alloc w _ b (Nat.lt_of_lt_of_le hb.2 hhi)) hlen n hn
  have := (Blk.new w 46 vs.toArray).cell j
  rw [Nat.zero_add, this]
  simpa using hj
theorem exl_cons {w : World} {S : Nat → Prop} {P : Nat → Int} {is : List Nat} {x : Nd} {ks : List Nd} {vs : List Value} (h : ExL w S P is (x :: ks) vs) : ∃ i is' q c vs', vs = .iface q (.pointer (some ⟨c, 0, none⟩)) :: vs' ∧ ExR w S P i x (.iface q (.pointer (some ⟨c, 0, none⟩))) ∧ ExL w S P is' ks vs' := by
  cases is with
  | nil => simp [ExL] at h
  | cons i is =>
    cases vs with
    | nil => simp [ExL] at h
    | cons v vs =>
      obtain ⟨q, c, rfl⟩ := h.1.form
      exact ⟨i, is, q, c, vs, rfl, h.1, h.2⟩
theorem exl_nil {w : World} {S : Nat → Prop} {P : Nat → Int} {is : List Nat} {vs : List Value} (h : ExL w S P is [] vs) : vs = [] := by
  cases is with
  | nil =>
    cases vs with
    | nil => rfl
    | cons v vs => simp [ExL] at h
  | cons i is =>
    cases vs <;> simp [ExL] at h
theorem exl1 {w : World} {S : Nat → Prop} {P : Nat → Int} {is : List Nat} {x : Nd} {vs : List Value} (h : ExL w S P is [x] vs) : ∃ i q c, vs = [.iface q (.pointer (some ⟨c, 0, none⟩))] ∧ ExR w S P i x (.iface q (.pointer (some ⟨c, 0, none⟩))) := by
  obtain ⟨i, is', q, c, vs', rfl, h1, h2⟩ := exl_cons h
  rw [exl_nil h2]
  exact ⟨i, q, c, rfl, h1⟩
theorem exl2 {w : World} {S : Nat → Prop} {P : Nat → Int} {is : List Nat} {x y : Nd} {vs : List Value} (h : ExL w S P is [x, y] vs) :
    ∃ i q c j r d, vs = [.iface q (.pointer (some ⟨c, 0, none⟩)), .iface r (.pointer (some ⟨d, 0, none⟩))] ∧ ExR w S P i x (.iface q (.pointer (some ⟨c, 0, none⟩))) ∧ ExR w S P j y (.iface r (.pointer (some ⟨d, 0, none⟩))) := by
  obtain ⟨i, is', q, c, vs', rfl, h1, h2⟩ := exl_cons h
  obtain ⟨j, r, d, rfl, h3⟩ := exl1 h2
  exact ⟨i, q, c, j, r, d, rfl, h1, h3⟩
end Go.Proofs.YtnpnmfblcogkmaaDoor
