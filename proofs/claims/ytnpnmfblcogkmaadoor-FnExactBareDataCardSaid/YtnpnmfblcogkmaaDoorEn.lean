/-
  builder.ends: what stands while its loops go by.
-/
import Derived.Test.YtnpnmfblcogkmaaDoorLi
import Derived.Lib.OthersKept
import Derived.Laws.RangeAny
namespace Go.Proofs.YtnpnmfblcogkmaaDoor
open Go.RowKit

structure Fr2 (W w : World) (bb xb : Nat) : Prop where
  os : w.os = W.os
  tape : w.tape = W.tape
  output : w.output = W.output
  size : W.heap.size ≤ w.heap.size
  block : ∀ b, b < W.heap.size → b ≠ bb → b ≠ xb → w.heap[b]? = W.heap[b]?

/-- In a call of ends that began in W: the builder, the slice's own block xb, the expressions made so far, blocks 'ap' apart from these (the iterators), the nodes that are left. -/
def ES (W : World) (bb : Nat) (ps : List Int) (xb : Nat) (cs : Array Value) (j : Nat) (es : List (Nat × Nd × Value)) (ap : List Nat) (m : Nd) (w : World) : Prop :=
  BAt w bb ps j ∧ Blk w xb 90 cs ∧ (bb < xb ∧ xb < W.heap.size) ∧ Fr2 W w bb xb ∧ m.In w bb ∧ (∀ g ∈ ap, W.heap.size ≤ g ∧ g < w.heap.size) ∧
    ∀ e ∈ es, ∃ lo hi, W.heap.size ≤ lo ∧ hi ≤ w.heap.size ∧ (∀ g ∈ ap, g < lo ∨ hi ≤ g) ∧ ExR w (Rng lo hi) (posOf ps) e.1 e.2.1 e.2.2
section
variable {W w w' : World} {bb : Nat} {ps : List Int} {xb : Nat} {cs : Array Value} {j j' : Nat} {es : List (Nat × Nd × Value)} {ap : List Nat} {m : Nd}
theorem ES.start {i : Nat} (hB : BAt W bb ps i) (hx : Blk W xb 90 cs) (h : bb < xb) (hm : m.In W bb) : ES W bb ps xb cs i [] [] m W :=
  ⟨hB, hx, ⟨h, hx.lt⟩, ⟨rfl, rfl, rfl, Nat.le_refl _, fun _ _ _ _ => rfl⟩, hm, fun g hg => (by cases hg), fun e he => (by cases he)⟩
theorem ES.bat (h : ES W bb ps xb cs j es ap m w) : BAt w bb ps j := h.1
theorem ES.blk (h : ES W bb ps xb cs j es ap m w) : Blk w xb 90 cs := h.2.1
theorem ES.in_ (h : ES W bb ps xb cs j es ap m w) : m.In w bb := h.2.2.2.2.1
theorem ES.with_ (h : ES W bb ps xb cs j es ap m w) {m' : Nd} (hm : m'.In w bb) : ES W bb ps xb cs j es ap m' w := ⟨h.1, h.2.1, h.2.2.1, h.2.2.2.1, hm, h.2.2.2.2.2⟩
theorem ES.next (h : ES W bb ps xb cs j es ap m w) (hB : BAt w' bb ps j') (hg : w.grownBy w' (some bb)) : ES W bb ps xb cs j' es ap m w' := by
  obtain ⟨h1, h2, h3, h4, h5, h6, h7⟩ := h
  have hs := hg.size
  have h8 := h4.size
  refine ⟨hB, h2.grown hg (fun e => by cases e; omega), h3, ⟨hg.os.trans h4.os, hg.tape.trans h4.tape, hg.output.trans h4.output, Nat.le_trans h4.size hs, fun b hb hne hne2 => ?_⟩, in_grown h5 hg h1.lt, fun g hg' => ⟨(h6 g hg').1, Nat.lt_of_lt_of_le (h6 g hg').2 hs⟩, fun e he => ?_⟩
  · exact (hg.block b (by omega) (fun e => hne (Option.some.inj e))).trans (h4.block b hb hne hne2)
  · obtain ⟨lo, hi, k1, k2, k3, k4⟩ := h7 e he
    exact ⟨lo, hi, k1, by omega, k3, k4.grownR hg (by omega) k2⟩
theorem ES.drew (h : ES W bb ps xb cs j es ap m w) : ES W bb ps xb cs j es ap m w.drew := h.next h.1.drew (grown_drew (grown_refl _ _))
theorem ES.kid (h : ES W bb ps xb cs j es ap m w) {k : Nd} {v : Value} (hE : ExR w' (Rng w.heap.size w'.heap.size) (posOf ps) j k v) (hB : BAt w' bb ps j') (hg : w.grownBy w' (some bb)) : ES W bb ps xb cs j' (es ++ [(j, k, v)]) ap m w' := by
  have h' := h.next hB hg
  refine ⟨h'.1, h'.2.1, h'.2.2.1, h'.2.2.2.1, h'.2.2.2.2.1, h'.2.2.2.2.2.1, fun e he => ?_⟩
  rcases List.mem_append.1 he with he | he
  · exact h'.2.2.2.2.2.2 e he
  · rw [List.mem_singleton] at he
    subst he
    exact ⟨_, _, h.2.2.2.1.size, Nat.le_refl _, fun g hg' => .inl (h.2.2.2.2.2.1 g hg').2, hE⟩
theorem ES.alloc (h : ES W bb ps xb cs j es ap m w) (o : Obj) : ES W bb ps xb cs j es (w.heap.size :: ap) m (w.alloc o) := by
  have hlt := h.1.lt
  have h' := h.next (h.1.keep fun b hb => Below.heap_alloc w o b (by omega)) (World.grownBy_alloc w o _)
  refine ⟨h'.1, h'.2.1, h'.2.2.1, h'.2.2.2.1, h'.2.2.2.2.1, fun g hg => ?_, fun e he => ?_⟩
  · rcases List.mem_cons.1 hg with rfl | hg
    · exact ⟨h.2.2.2.1.size, by rw [World.size_alloc]; omega⟩
    · exact h'.2.2.2.2.2.1 g hg
  · obtain ⟨lo, hi, k1, k2, k3, k4⟩ := h.2.2.2.2.2.2 e he
    refine ⟨lo, hi, k1, by rw [World.size_alloc]; omega, fun g hg => ?_, k4.allocR k2 o⟩
    rcases List.mem_cons.1 hg with rfl | hg
    · exact .inr k2
    · exact k3 g hg
theorem ES.iterAt (h : ES W bb ps xb cs j es ap m w) {g : Nat} (hg : g ∈ ap) (s : ByteArray) (pos : Nat) : ES W bb ps xb cs j es ap m (w.iterAt g s pos) := by
  obtain ⟨h1, h2, h3, h4, h5, h6, h7⟩ := h
  have hg1 := (h6 g hg).1
  refine ⟨h1.keep fun b hb => Lib.iterAt_other w g b s pos (by omega), h2.keep (Lib.iterAt_other w g xb s pos (by omega)), h3, ⟨h4.os, h4.tape, h4.output, by rw [Lib.iterAt_size]; exact h4.size, fun b hb hne hne2 => (Lib.iterAt_other w g b s pos (by omega)).trans (h4.block b hb hne hne2)⟩,
    Nd.In.keep (fun p hp => World.cell?_of_block (Lib.iterAt_other w g p.block s pos (by omega))) (Nat.le_refl _) m h5, fun g' hg' => by rw [Lib.iterAt_size]; exact h6 g' hg', fun e he => ?_⟩
  obtain ⟨lo, hi, k1, k2, k3, k4⟩ := h7 e he
  exact ⟨lo, hi, k1, by rw [Lib.iterAt_size]; exact k2, k3, ExR.keep (fun b hb => Lib.iterAt_other w g b s pos (fun e => by subst e; have := k3 b hg; have := hb.1; have := hb.2; omega)) (fun _ hs => hs) _ _ _ k4⟩
theorem ES.set_ (h : ES W bb ps xb cs j es ap m w) (i : Nat) (u : Value) : ES W bb ps xb (cs.setIfInBounds i u) j es ap m (w.setCell ⟨xb, i, none⟩ u) := by
  obtain ⟨h1, h2, h3, h4, h5, h6, h7⟩ := h
  have hk : ∀ b, b ≠ xb → (w.setCell ⟨xb, i, none⟩ u).heap[b]? = w.heap[b]? := fun b hb => Below.heap_setCell w ⟨xb, i, none⟩ u b hb
  have hs : (w.setCell ⟨xb, i, none⟩ u).heap.size = w.heap.size := by simp [World.setCell]
  refine ⟨h1.keep fun b hb => hk b (by omega), h2.set_ i u, h3, ⟨h4.os, h4.tape, h4.output, by rw [hs]; exact h4.size, fun b hb hne hne2 => (hk b hne2).trans (h4.block b hb hne hne2)⟩,
    Nd.In.keep (fun p hp => World.cell?_of_block (hk p.block (by omega))) (Nat.le_refl _) m h5, fun g' hg' => by rw [hs]; exact h6 g' hg', fun e he => ?_⟩
  obtain ⟨lo, hi, k1, k2, k3, k4⟩ := h7 e he
  exact ⟨lo, hi, k1, by rw [hs]; exact k2, k3, ExR.keep (fun b hb => hk b (fun e => by have := hb.1; omega)) (fun _ hs => hs) _ _ _ k4⟩
theorem ES.iter (h : ES W bb ps xb cs j es ap m w) {g : Nat} (hg : g ∈ ap) (hw : w.grownBy w' (some bb)) : w'.heap[g]? = w.heap[g]? := by
  have := h.2.2.2.2.2.1 g hg
  have := h.2.2.1
  exact hw.block g (by omega) (fun e => by cases e; omega)
theorem ES.iter_set (h : ES W bb ps xb cs j es ap m w) {g : Nat} (hg : g ∈ ap) (i : Nat) (u : Value) : (w.setCell ⟨xb, i, none⟩ u).heap[g]? = w.heap[g]? := by
  have := h.2.2.2.2.2.1 g hg
  have := h.2.2.1
  exact Below.heap_setCell w ⟨xb, i, none⟩ u g (fun e => by simp at e; omega)
theorem ES.ex (h : ES W bb ps xb cs j es ap m w) {i : Nat} {k : Nd} {v : Value} (hm : (i, k, v) ∈ es) : ExR w (Rng W.heap.size w.heap.size) (posOf ps) i k v := by
  obtain ⟨lo, hi, k1, k2, k3, k4⟩ := h.2.2.2.2.2.2 _ hm
  exact k4.wideR k1 k2
end
end Go.Proofs.YtnpnmfblcogkmaaDoor
