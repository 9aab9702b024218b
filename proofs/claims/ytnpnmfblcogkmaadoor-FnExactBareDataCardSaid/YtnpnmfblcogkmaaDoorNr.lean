/-
  Trees whose cells lie in a range of blocks; lists of them.
-/
import Derived.Test.YtnpnmfblcogkmaaDoorEx
namespace Go.Proofs.YtnpnmfblcogkmaaDoor
open Go.RowKit

mutual
/-- All the kids' cells lie in w, in blocks from lo on, below hi. -/
def Nd.InR (w : World) (lo hi : Nat) : Nd → Prop
  | ⟨_, _, a, c, ks⟩ => ks.length ≤ c ∧ c ≤ maxLen ∧ NdRL w lo hi a 0 ks
def NdRL (w : World) (lo hi : Nat) (a : Option Addr) : Nat → List Nd → Prop
  | _, [] => True
  | i, k :: ks => (ElemAt w hi a i k ∧ ∀ p, a = some p → lo ≤ p.block) ∧ k.InR w lo hi ∧ NdRL w lo hi a (i + 1) ks
end
theorem NdRL.at_ {w : World} {lo hi : Nat} {a : Option Addr} : ∀ {ks : List Nd} {i : Nat}, NdRL w lo hi a i ks → ∀ (j : Nat) (k : Nd), ks[j]? = some k → (ElemAt w hi a (i + j) k ∧ ∀ p, a = some p → lo ≤ p.block) ∧ k.InR w lo hi
  | [], _, _, j, k, hk => by simp at hk
  | x :: ks, i, h, j, k, hk => by
    obtain ⟨h1, h2, h3⟩ := h
    cases j with
    | zero => simp at hk; subst hk; exact ⟨h1, h2⟩
    | succ j =>
      have := NdRL.at_ h3 j k (by simpa using hk)
      rwa [show i + (j + 1) = i + 1 + j by omega]
theorem NdRL.mk_ {w : World} {lo hi : Nat} {a : Option Addr} : ∀ {ks : List Nd} {i : Nat}, (∀ (j : Nat) (k : Nd), ks[j]? = some k → (ElemAt w hi a (i + j) k ∧ ∀ p, a = some p → lo ≤ p.block) ∧ k.InR w lo hi) → NdRL w lo hi a i ks
  | [], _, _ => trivial
  | x :: ks, i, h => by
    have h0 := h 0 x rfl
    refine ⟨h0.1, h0.2, NdRL.mk_ fun j k hk => ?_⟩
    have := h (j + 1) k (by simpa using hk)
    rwa [show i + 1 + j = i + (j + 1) by omega]
theorem Nd.InR_iff {w : World} {lo hi : Nat} {n : Nd} : n.InR w lo hi ↔ n.ks.length ≤ n.cp ∧ n.cp ≤ maxLen ∧ ∀ (j : Nat) (k : Nd), n.ks[j]? = some k → (ElemAt w hi n.ad j k ∧ ∀ p, n.ad = some p → lo ≤ p.block) ∧ k.InR w lo hi := by
  obtain ⟨kd, tx, a, c, ks⟩ := n
  refine ⟨fun h => ⟨h.1, h.2.1, fun j k hk => ?_⟩, fun h => ⟨h.1, h.2.1, NdRL.mk_ fun j k hk => ?_⟩⟩
  · have := NdRL.at_ h.2.2 j k hk
    rwa [Nat.zero_add] at this
  · rw [Nat.zero_add]
    exact h.2.2 j k hk
theorem Nd.InR.in_ {w : World} {lo hi : Nat} : ∀ n : Nd, n.InR w lo hi → n.In w hi := by
  refine Nd.ind fun n ih h => ?_
  rw [Nd.InR_iff] at h
  rw [Nd.In_iff]
  exact ⟨h.1, h.2.1, fun j k hj => ⟨(h.2.2 j k hj).1.1, ih k (List.mem_of_getElem? hj) (h.2.2 j k hj).2⟩⟩
theorem Nd.InR.keep {w w' : World} {lo hi lo' hi' : Nat} (hk : ∀ b, lo ≤ b → b < hi → w'.heap[b]? = w.heap[b]?) (h1 : lo' ≤ lo) (h2 : hi ≤ hi') : ∀ n : Nd, n.InR w lo hi → n.InR w' lo' hi' := by
  refine Nd.ind fun n ih h => ?_
  rw [Nd.InR_iff] at h ⊢
  refine ⟨h.1, h.2.1, fun j k hj => ⟨⟨?_, fun p hp => Nat.le_trans h1 ((h.2.2 j k hj).1.2 p hp)⟩, ih k (List.mem_of_getElem? hj) (h.2.2 j k hj).2⟩⟩
  obtain ⟨⟨b, o, had, hb, e1, e2, e3⟩, hlo⟩ := (h.2.2 j k hj).1
  have hb2 := hk b (hlo _ had) hb
  exact ⟨b, o, had, by omega, (World.cell?_of_block (a := ⟨b, o + j * 3, none⟩) hb2).trans e1, (World.cell?_of_block (a := ⟨b, o + j * 3 + 1, none⟩) hb2).trans e2, (World.cell?_of_block (a := ⟨b, o + j * 3 + 2, none⟩) hb2).trans e3⟩
end Go.Proofs.YtnpnmfblcogkmaaDoor
