/-
  impl.nodes: the walk.
-/
import Derived.Test.YtnpnmfblcogkmaaDoorNo
namespace Go.Proofs.YtnpnmfblcogkmaaDoor
open Go.RowKit

theorem infoN : (Tryd.prog.info? 32).map (fun i => (i.zero, i.size, i.bytes)) = some (some (.agg #[.string ⟨#[]⟩, .string ⟨#[]⟩, .slice none 0 0]), 3, 56) := by kernel_rfl
theorem underN : Tryd.prog.underlying 30 = some (.slice 32) := by kernel_rfl

/-- What node leaves: a tree that is the same, of cells of its own. -/
def NPost (W : World) (n : Nd) (e : Ending) (w : World) : Prop := ∃ m : Nd, e = .returned m.val ∧ m.InR w W.heap.size w.heap.size ∧ n.same m = true ∧ Below W.heap.size W w
/-- The contract of node at a tree. -/
def NOf (P : Nat → Int) (n : Nd) : Prop := ∀ (w : World) (lo hi i : Nat) (v : Value), TokTab w → hi ≤ w.heap.size → ExR w (Rng lo hi) P i n v → Calls Tryd.prog 24 #[v] w (NPost w n)
/-- What nodes leaves. -/
def NsPost (W : World) (ks : List Nd) (e : Ending) (w : World) : Prop :=
  ∃ A cap ms, e = .returned (.slice A (ms : List Nd).length cap) ∧ Nd.InR w W.heap.size w.heap.size ⟨⟨#[]⟩, ⟨#[]⟩, A, cap, ms⟩ ∧ sameL ks ms = true ∧ Below W.heap.size W w ∧ LN W (.slice A ms.length cap) ms w
theorem LN.done {W w : World} {sv : Value} {ms ks : List Nd} (h : LN W sv ms w) (hs : sameL ks ms = true) : NsPost W ks (.returned sv) w := by
  have hLN := h
  obtain ⟨h1, h2, h3⟩ := h
  have hin : ∀ m ∈ ms, m.InR w W.heap.size w.heap.size := fun m hm => by
    obtain ⟨lo, hi, k1, k2, _, k4⟩ := h3 m hm
    exact Nd.InR.keep (fun _ _ _ => rfl) k1 k2 m k4
  obtain ⟨h0, ⟨rfl, hn⟩ | ⟨g, cap, cur, rfl, k1, k2, k3, k4, k5, k6⟩⟩ := h1
  · obtain rfl := List.length_eq_zero_iff.1 hn
    refine ⟨none, 0, [], rfl, ?_, hs, h2, hLN⟩
    rw [Nd.InR_iff]
    exact ⟨Nat.le_refl _, Nat.zero_le _, fun j k hj => by simp at hj⟩
  · refine ⟨some ⟨g, 0, none⟩, cap, ms, rfl, ?_, hs, h2, hLN⟩
    rw [Nd.InR_iff]
    refine ⟨k3, k4, fun j k hj => ⟨⟨?_, fun p hp => ?_⟩, hin k (List.mem_of_getElem? hj)⟩⟩
    · have hjl : j < ms.length := (List.getElem?_eq_some_iff.1 hj).1
      have hf := flat_at hj
      have hcell : ∀ q, q < ms.length * 3 → w.cell? ⟨g, q, none⟩ = (flat ms)[q]? := fun q hq => by
        rw [cell_of_row w g q cur 32 (0, 0) k2, ← k6, List.getElem?_take_of_lt hq]
        simp
      refine ⟨g, 0, rfl, (Array.getElem?_eq_some_iff.1 k2).1, ?_, ?_, ?_⟩
      · rw [Nat.zero_add, hcell _ (by omega)]; exact hf.1
      · rw [Nat.zero_add, hcell _ (by omega)]; exact hf.2.1
      · rw [Nat.zero_add, hcell _ (by omega)]; exact hf.2.2
    · cases hp
      exact k1
theorem sameL_snoc {k m : Nd} : ∀ {a b : List Nd}, sameL a b = true → k.same m = true → sameL (a ++ [k]) (b ++ [m]) = true
  | [], [], _, h => by simp [sameL, h]
  | [], _ :: _, h, _ => by simp [sameL] at h
  | _ :: _, [], h, _ => by simp [sameL] at h
  | x :: a, y :: b, h, hk => by
    rw [sameL, Bool.and_eq_true] at h
    rw [List.cons_append, List.cons_append, sameL, Bool.and_eq_true]
    exact ⟨h.1, sameL_snoc h.2 hk⟩
theorem NL.keep {w w' : World} {S : Nat → Prop} {P : Nat → Int} (hk : ∀ b, S b → w'.heap[b]? = w.heap[b]?) {ks : List Nd} {vs : List Value} (h : NL w S P ks vs) : NL w' S P ks vs := by
  induction h with
  | nil => exact .nil
  | skip _ ih => exact .skip ih
  | take h _ ih => exact .take (ExR.keep hk (fun _ hs => hs) _ _ _ h) ih
end Go.Proofs.YtnpnmfblcogkmaaDoor
