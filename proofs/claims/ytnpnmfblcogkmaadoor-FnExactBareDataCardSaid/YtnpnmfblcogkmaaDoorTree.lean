/-
  Trees of nodes as the memory of a call holds them: plain definitions and laws, no program in sight.
  'Nd' is an impl.Node with the address of its slice of kids; 'Nd.In w B n': all the kids' cells lie in w, in blocks below B.
-/
import Derived.Below
import Derived.Laws.OwnMore
import Derived.Laws.Strings
import Derived.Deep.Draws
namespace Go.Proofs.YtnpnmfblcogkmaaDoor
open Go.RowKit

/-- A node of the thin package, with where its kids lie. -/
structure Nd where
  kd : ByteArray
  tx : ByteArray
  ad : Option Addr
  cp : Nat
  ks : List Nd

theorem Nd.ind {P : Nd → Prop} (h : ∀ n : Nd, (∀ k ∈ n.ks, P k) → P n) : ∀ n, P n := fun n =>
  Nd.rec (motive_1 := P) (motive_2 := fun l => ∀ k ∈ l, P k) (fun kd tx ad cp ks ih => h ⟨kd, tx, ad, cp, ks⟩ ih)
    (by intro k hk; cases hk)
    (fun k ks hk hks x hx => by
      rcases List.mem_cons.1 hx with rfl | hx
      · exact hk
      · exact hks x hx) n

/-- The value of a node: three cells. -/
def Nd.cells (n : Nd) : List Value := [.string n.kd, .string n.tx, .slice n.ad n.ks.length n.cp]
def Nd.val (n : Nd) : Value := .agg n.cells.toArray

/-- The cells of an element i of a slice of nodes. -/
def ElemAt (w : World) (B : Nat) (a : Option Addr) (i : Nat) (k : Nd) : Prop :=
  ∃ b o, a = some ⟨b, o, none⟩ ∧ b < B ∧ w.cell? ⟨b, o + i * 3, none⟩ = some (.string k.kd) ∧ w.cell? ⟨b, o + i * 3 + 1, none⟩ = some (.string k.tx) ∧ w.cell? ⟨b, o + i * 3 + 2, none⟩ = some (.slice k.ad k.ks.length k.cp)

mutual
def Nd.In (w : World) (B : Nat) : Nd → Prop
  | ⟨_, _, a, c, ks⟩ => ks.length ≤ c ∧ c ≤ maxLen ∧ NdL w B a 0 ks
def NdL (w : World) (B : Nat) (a : Option Addr) : Nat → List Nd → Prop
  | _, [] => True
  | i, k :: ks => ElemAt w B a i k ∧ k.In w B ∧ NdL w B a (i + 1) ks
end

theorem NdL.at_ {w : World} {B : Nat} {a : Option Addr} : ∀ {ks : List Nd} {i : Nat}, NdL w B a i ks → ∀ (j : Nat) (k : Nd), ks[j]? = some k → ElemAt w B a (i + j) k ∧ k.In w B
  | [], _, _, j, k, hk => by simp at hk
  | x :: ks, i, h, j, k, hk => by
    obtain ⟨h1, h2, h3⟩ := h
    cases j with
    | zero => simp at hk; subst hk; exact ⟨h1, h2⟩
    | succ j =>
      have := NdL.at_ h3 j k (by simpa using hk)
      rwa [show i + (j + 1) = i + 1 + j by omega]
theorem NdL.mk_ {w : World} {B : Nat} {a : Option Addr} : ∀ {ks : List Nd} {i : Nat}, (∀ (j : Nat) (k : Nd), ks[j]? = some k → ElemAt w B a (i + j) k ∧ k.In w B) → NdL w B a i ks
  | [], _, _ => trivial
  | x :: ks, i, h => by
    have h0 := h 0 x rfl
    refine ⟨h0.1, h0.2, NdL.mk_ fun j k hk => ?_⟩
    have := h (j + 1) k (by simpa using hk)
    rwa [show i + 1 + j = i + (j + 1) by omega]
theorem Nd.In_iff {w : World} {B : Nat} {n : Nd} : n.In w B ↔ n.ks.length ≤ n.cp ∧ n.cp ≤ maxLen ∧ ∀ (j : Nat) (k : Nd), n.ks[j]? = some k → ElemAt w B n.ad j k ∧ k.In w B := by
  obtain ⟨kd, tx, a, c, ks⟩ := n
  refine ⟨fun h => ⟨h.1, h.2.1, fun j k hk => ?_⟩, fun h => ⟨h.1, h.2.1, NdL.mk_ fun j k hk => ?_⟩⟩
  · have := NdL.at_ h.2.2 j k hk
    rwa [Nat.zero_add] at this
  · rw [Nat.zero_add]
    exact h.2.2 j k hk

theorem ElemAt.keep {w w' : World} {B B' : Nat} {a : Option Addr} {i : Nat} {k : Nd} (h : ElemAt w B a i k) (hk : ∀ p : Addr, p.block < B → w'.cell? p = w.cell? p) (hB : B ≤ B') : ElemAt w' B' a i k := by
  obtain ⟨b, o, rfl, hb, h1, h2, h3⟩ := h
  exact ⟨b, o, rfl, by omega, (hk _ hb).trans h1, (hk _ hb).trans h2, (hk _ hb).trans h3⟩
theorem Nd.In.keep {w w' : World} {B B' : Nat} (hk : ∀ p : Addr, p.block < B → w'.cell? p = w.cell? p) (hB : B ≤ B') : ∀ n : Nd, n.In w B → n.In w' B' := by
  refine Nd.ind fun n ih h => ?_
  rw [Nd.In_iff] at h ⊢
  exact ⟨h.1, h.2.1, fun j k hj => ⟨(h.2.2 j k hj).1.keep hk hB, ih k (List.mem_of_getElem? hj) (h.2.2 j k hj).2⟩⟩
theorem Nd.In.below {w w' : World} {B B' : Nat} {n : Nd} (h : n.In w B) (hb : Below B w w') (hB : B ≤ B') : n.In w' B' := Nd.In.keep (fun _ hp => hb.cell hp) hB n h
theorem Nd.In.drewN {w : World} {B : Nat} {n : Nd} (h : n.In w B) (k : Nat) : n.In (w.drewN k) B := Nd.In.keep (w := w) (w' := w.drewN k) (fun _ _ => rfl) (Nat.le_refl _) n h

/- Two trees are the same: their addresses are not looked at. -/
mutual
def Nd.same : Nd → Nd → Bool
  | ⟨k, t, _, _, ks⟩, m => (k.toList == m.kd.toList) && (t.toList == m.tx.toList) && sameL ks m.ks
def sameL : List Nd → List Nd → Bool
  | [], [] => true
  | [], _ :: _ => false
  | _ :: _, [] => false
  | x :: xs, y :: ys => x.same y && sameL xs ys
end

/- How many nodes a tree has. -/
mutual
def Nd.size : Nd → Nat
  | ⟨_, _, _, _, ks⟩ => 1 + sizeL ks
def sizeL : List Nd → Nat
  | [] => 0
  | k :: ks => k.size + sizeL ks
end
end Go.Proofs.YtnpnmfblcogkmaaDoor
