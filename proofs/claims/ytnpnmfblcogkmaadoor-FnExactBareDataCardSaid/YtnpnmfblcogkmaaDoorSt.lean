/-
  The state of a call of builder.expr: what stands while its statements go by.
-/
import Derived.Test.YtnpnmfblcogkmaaDoorBd
namespace Go.Proofs.YtnpnmfblcogkmaaDoor
open Go.RowKit

/-- Expressions made so far: the number of the first token, the tree, the value. -/
def St0 (W : World) (bb : Nat) (ps : List Int) (n : Nd) (j : Nat) (es : List (Nat × Nd × Value)) (w : World) : Prop :=
  Ctx W bb ps n j w ∧ ∀ e ∈ es, ∃ lo hi, W.heap.size + 1 < lo ∧ hi ≤ w.heap.size ∧ ExR w (Rng lo hi) (posOf ps) e.1 e.2.1 e.2.2
/-- The same, the node's own block b being there. -/
def St (W : World) (bb : Nat) (ps : List Int) (n : Nd) (b : Nat) (t : TypeId) (cs : Array Value) (j : Nat) (es : List (Nat × Nd × Value)) (w : World) : Prop :=
  Ctx W bb ps n j w ∧ W.heap.size + 1 < b ∧ Blk w b t cs ∧ ∀ e ∈ es, ∃ lo hi, W.heap.size + 1 < lo ∧ hi ≤ w.heap.size ∧ (b < lo ∨ hi ≤ b) ∧ ExR w (Rng lo hi) (posOf ps) e.1 e.2.1 e.2.2
section
variable {W w w' : World} {bb : Nat} {ps : List Int} {n : Nd} {b : Nat} {t : TypeId} {cs : Array Value} {j j' : Nat} {es : List (Nat × Nd × Value)}
theorem St0.ctx (h : St0 W bb ps n j es w) : Ctx W bb ps n j w := h.1
theorem St.ctx (h : St W bb ps n b t cs j es w) : Ctx W bb ps n j w := h.1
theorem Ctx.st (h : Ctx W bb ps n j w) : St0 W bb ps n j [] w := ⟨h, fun e he => by cases he⟩
theorem St0.next (h : St0 W bb ps n j es w) (hB : BAt w' bb ps j') (hg : w.grownBy w' (some bb)) : St0 W bb ps n j' es w' := by
  refine ⟨h.1.next hB hg, fun e he => ?_⟩
  obtain ⟨lo, hi, h1, h2, h3⟩ := h.2 e he
  have := hg.size
  exact ⟨lo, hi, h1, by omega, h3.grownR hg (by have := h.1.lt; omega) h2⟩
theorem St0.drew (h : St0 W bb ps n j es w) : St0 W bb ps n j es w.drew := h.next h.1.bat.drew (grown_drew (grown_refl _ _))
theorem St0.kid (h : St0 W bb ps n j es w) {k : Nd} {v : Value} (hE : ExR w' (Rng w.heap.size w'.heap.size) (posOf ps) j k v) (hB : BAt w' bb ps j') (hg : w.grownBy w' (some bb)) : St0 W bb ps n j' (es ++ [(j, k, v)]) w' := by
  have h' := h.next hB hg
  refine ⟨h'.1, fun e he => ?_⟩
  rcases List.mem_append.1 he with he | he
  · exact h'.2 e he
  · rw [List.mem_singleton] at he
    subst he
    exact ⟨_, _, h.1.size, Nat.le_refl _, hE⟩
theorem St0.box (h : St0 W bb ps n j es w) (t : TypeId) (cs : Array Value) : St W bb ps n w.heap.size t cs j es (w.alloc (.cells cs t)) := by
  refine ⟨h.1.alloc _, h.1.size, Blk.new _ _ _, fun e he => ?_⟩
  obtain ⟨lo, hi, h1, h2, h3⟩ := h.2 e he
  exact ⟨lo, hi, h1, by rw [World.size_alloc]; omega, .inr h2, h3.allocR h2 _⟩
theorem St.next (h : St W bb ps n b t cs j es w) (hB : BAt w' bb ps j') (hg : w.grownBy w' (some bb)) : St W bb ps n b t cs j' es w' := by
  obtain ⟨h1, h2, h3, h4⟩ := h
  refine ⟨h1.next hB hg, h2, h3.grown hg (fun e => by cases e; have := h1.lt; omega), fun e he => ?_⟩
  obtain ⟨lo, hi, k1, k2, k3, k4⟩ := h4 e he
  have := hg.size
  exact ⟨lo, hi, k1, by omega, k3, k4.grownR hg (by have := h1.lt; omega) k2⟩
theorem St.drew (h : St W bb ps n b t cs j es w) : St W bb ps n b t cs j es w.drew := h.next h.1.bat.drew (grown_drew (grown_refl _ _))
theorem St.kid (h : St W bb ps n b t cs j es w) {k : Nd} {v : Value} (hE : ExR w' (Rng w.heap.size w'.heap.size) (posOf ps) j k v) (hB : BAt w' bb ps j') (hg : w.grownBy w' (some bb)) : St W bb ps n b t cs j' (es ++ [(j, k, v)]) w' := by
  have h' := h.next hB hg
  refine ⟨h'.1, h'.2.1, h'.2.2.1, fun e he => ?_⟩
  rcases List.mem_append.1 he with he | he
  · exact h'.2.2.2 e he
  · rw [List.mem_singleton] at he
    subst he
    exact ⟨_, _, h.1.size, Nat.le_refl _, .inl h.2.2.1.lt, hE⟩
theorem St.set_ (h : St W bb ps n b t cs j es w) (i : Nat) (u : Value) : St W bb ps n b t (cs.setIfInBounds i u) j es (w.setCell ⟨b, i, none⟩ u) := by
  obtain ⟨h1, h2, h3, h4⟩ := h
  refine ⟨h1.set_ h2 u, h2, h3.set_ i u, fun e he => ?_⟩
  obtain ⟨lo, hi, k1, k2, k3, k4⟩ := h4 e he
  exact ⟨lo, hi, k1, by simpa [World.setCell] using k2, k3, k4.setR k3 u⟩
theorem St.cell (h : St W bb ps n b t cs j es w) (i : Nat) : w.cell? ⟨b, i, none⟩ = cs[i]? := h.2.2.1.cell i
theorem St.frozen (h : St W bb ps n b t cs j es w) (i : Nat) : w.frozen? ⟨b, i, none⟩ = false := h.2.2.1.frozen i
theorem St.own (h : St W bb ps n b t cs j es w) : Rng W.heap.size w.heap.size b := ⟨by have := h.2.1; omega, h.2.2.1.lt⟩
theorem St.ex (h : St W bb ps n b t cs j es w) {i : Nat} {k : Nd} {v : Value} (hm : (i, k, v) ∈ es) : ExR w (Rng W.heap.size w.heap.size) (posOf ps) i k v := by
  obtain ⟨lo, hi, k1, k2, k3, k4⟩ := h.2.2.2 _ hm
  exact k4.wideR (by omega) k2
theorem St.blk (h : St W bb ps n b t cs j es w) : Blk w b t cs := h.2.2.1
theorem St.done (h : St W bb ps n b t cs j es w) {i : Nat} (hj : j = i + n.ntok) {v : Value} (hE : ExR w (Rng W.heap.size w.heap.size) (posOf ps) i n v) : EPost W bb ps i n (.returned v) w :=
  ⟨v, rfl, hE, hj ▸ h.1.bat, h.1.grown⟩
end
theorem ExR.mk {w : World} {S : Nat → Prop} {P : Nat → Int} {i : Nat} {kd tx : ByteArray} {ad : Option Addr} {cp : Nat} {ks : List Nd} {vs : List Value} {v : Value} (c : Nat) (hc : kcode kd = c)
    (hl : ExL w S P (starts c tx (ks.map Nd.ntok) i) ks vs) (hn : NodeAt w S P c tx (ks.map Nd.ntok) i (ownTok c tx ks.length + ntokL ks) vs v) : ExR w S P i ⟨kd, tx, ad, cp, ks⟩ v := by
  subst hc
  exact ⟨vs, hl, hn⟩
theorem Nd.ntok_of {kd tx : ByteArray} {ad : Option Addr} {cp : Nat} {ks : List Nd} (c : Nat) (hc : kcode kd = c) : Nd.ntok ⟨kd, tx, ad, cp, ks⟩ = ownTok c tx ks.length + ntokL ks := by
  subst hc
  rfl
end Go.Proofs.YtnpnmfblcogkmaaDoor
