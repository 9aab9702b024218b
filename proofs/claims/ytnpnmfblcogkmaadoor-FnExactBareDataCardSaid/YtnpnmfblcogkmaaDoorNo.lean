/-
  impl.nodes: a list of trees of a list of expressions.
-/
import Derived.Test.YtnpnmfblcogkmaaDoorNr
import Derived.Test.YtnpnmfblcogkmaaDoorLi
import Derived.Maps.AppendAt
import Derived.OwnWalk
namespace Go.Proofs.YtnpnmfblcogkmaaDoor
open Go.RowKit

/-- The cells of nodes in a row. -/
def flat : List Nd → List Value
  | [] => []
  | m :: ms => m.cells ++ flat ms
theorem flat_length (ms : List Nd) : (flat ms).length = ms.length * 3 := by
  induction ms with
  | nil => rfl
  | cons m ms ih =>
    rw [flat, List.length_append, ih, List.length_cons]
    simp [Nd.cells]
    omega
theorem flat_append (ms ns : List Nd) : flat (ms ++ ns) = flat ms ++ flat ns := by
  induction ms with
  | nil => rfl
  | cons m ms ih => rw [List.cons_append, flat, flat, ih, List.append_assoc]
theorem flat_at {ms : List Nd} {j : Nat} {m : Nd} (h : ms[j]? = some m) : (flat ms)[j * 3]? = some (.string m.kd) ∧ (flat ms)[j * 3 + 1]? = some (.string m.tx) ∧ (flat ms)[j * 3 + 2]? = some (.slice m.ad m.ks.length m.cp) := by
  induction ms generalizing j with
  | nil => simp at h
  | cons x ms ih =>
    cases j with
    | zero => simp at h; subst h; exact ⟨rfl, rfl, rfl⟩
    | succ j =>
      have := ih (j := j) (by simpa using h)
      rw [show (j + 1) * 3 = j * 3 + 3 by omega]
      exact this

/-- Expressions in a row, a nil one left out. -/
inductive NL (w : World) (S : Nat → Prop) (P : Nat → Int) : List Nd → List Value → Prop
  | nil : NL w S P [] []
  | skip {ks vs} : NL w S P ks vs → NL w S P ks (.nilIface :: vs)
  | take {i k v ks vs} : ExR w S P i k v → NL w S P ks vs → NL w S P (k :: ks) (v :: vs)

/-- What nodes has made: the trees ms in a row of its own. -/
def LN (W : World) (sv : Value) (ms : List Nd) (w : World) : Prop :=
  w.ownsRow W.heap.size 32 3 sv ms.length (flat ms) ∧ Below W.heap.size W w ∧
    ∀ m ∈ ms, ∃ lo hi, W.heap.size ≤ lo ∧ hi ≤ w.heap.size ∧ (∀ g, sv.ownBlock = some g → g < lo ∨ hi ≤ g) ∧ m.InR w lo hi
section
variable {W w w1 w2 w3 : World} {sv : Value} {ms : List Nd}
theorem LN.start (W : World) : LN W (.slice none 0 0) [] W := ⟨⟨by simp [flat], .inl ⟨rfl, rfl⟩⟩, Below.refl _ _, fun m hm => by cases hm⟩
theorem LN.next (h : LN W sv ms w) (hb : Below w.heap.size w w1) : LN W sv ms w1 := by
  obtain ⟨h1, h2, h3⟩ := h
  refine ⟨own_keep h1 fun g _ hg => hb.block g hg, h2.trans (hb.mono h2.size), fun m hm => ?_⟩
  obtain ⟨lo, hi, k1, k2, k3, k4⟩ := h3 m hm
  have := hb.size
  exact ⟨lo, hi, k1, by omega, k3, Nd.InR.keep (fun b _ hb2 => hb.block b (by omega)) (Nat.le_refl _) (Nat.le_refl _) m k4⟩
theorem LN.append (h : LN W sv ms w1) (hb : Below w1.heap.size w1 w2) {m : Nd} (hm : m.InR w2 w1.heap.size w2.heap.size) (o : Obj) {v' : Value}
    (hown : w3.ownsRow W.heap.size 32 3 v' (ms.length + 1) (flat ms ++ m.cells)) (hg : (w2.alloc o).grownBy w3 sv.ownBlock) (hloc : v'.ownBlock = sv.ownBlock ∨ v'.ownBlock = some (w2.alloc o).heap.size) :
    LN W v' (ms ++ [m]) w3 := by
  have hA := (h.next hb).next (w1 := w2.alloc o) ((Below.refl _ _).alloc (Nat.le_refl _) o)
  obtain ⟨h1, h2, h3⟩ := hA
  have hs1 := hb.size
  have hs := hg.size
  have hsa : (w2.alloc o).heap.size = w2.heap.size + 1 := World.size_alloc _ _
  have hW := h.2.1.size
  have hkeep : ∀ lo hi : Nat, (∀ g, sv.ownBlock = some g → g < lo ∨ hi ≤ g) → hi ≤ (w2.alloc o).heap.size → ∀ b, lo ≤ b → b < hi → w3.heap[b]? = (w2.alloc o).heap[b]? := fun lo hi hh hhi b hb1 hb2 =>
    hg.block b (Nat.lt_of_lt_of_le hb2 hhi) (fun e => by have := hh b e.symm; omega)
  refine ⟨by rw [List.length_append, flat_append]; simpa [flat] using hown, h2.trans ⟨hg.os, hg.tape, hg.output, hs, fun b hb => hg.block b (by omega) (fun e => by have := (own_ge h1 e.symm).1; omega)⟩, fun y hy => ?_⟩
  rcases List.mem_append.1 hy with hy | hy
  · obtain ⟨lo, hi, k1, k2, k3, k4⟩ := h3 y hy
    obtain ⟨lo0, hi0, q1, q2, q3, q4⟩ := (h.next hb).2.2 y hy
    refine ⟨lo0, hi0, q1, by omega, fun g hg' => ?_, Nd.InR.keep (fun b hb1 hb2 => (hkeep lo0 hi0 q3 (by omega) b hb1 hb2).trans (Below.heap_alloc w2 o b (by omega))) (Nat.le_refl _) (Nat.le_refl _) y q4⟩
    rcases hloc with hl | hl
    · exact q3 g (hl ▸ hg')
    · rw [hl] at hg'
      cases hg'
      right
      omega
  · rw [List.mem_singleton] at hy
    subst hy
    have hh : ∀ g, sv.ownBlock = some g → g < w1.heap.size ∨ w2.heap.size ≤ g := fun g hg' => .inl (own_ge h.1 hg').2
    refine ⟨w1.heap.size, w2.heap.size, hW, by omega, fun g hg' => ?_, Nd.InR.keep (fun b hb1 hb2 => (hkeep _ _ hh (by omega) b hb1 hb2).trans (Below.heap_alloc w2 o b hb2)) (Nat.le_refl _) (Nat.le_refl _) y hm⟩
    rcases hloc with hl | hl
    · exact hh g (hl ▸ hg')
    · rw [hl] at hg'
      cases hg'
      right
      omega
end
end Go.Proofs.YtnpnmfblcogkmaaDoor
