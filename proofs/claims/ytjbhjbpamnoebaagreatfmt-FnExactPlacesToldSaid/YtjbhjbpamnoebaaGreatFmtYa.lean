/-
  The nodes of a tree in preorder; those that a loop over Preorder takes.
-/
import Derived.Test.YtjbhjbpamnoebaaGreatFmtK8
import Derived.Test.YtjbhjbpamnoebaaGreatFmtVp
namespace Go.Proofs.YtjbhjbpamnoebaaGreatFmt
open Go.RowKit

/-- The nodes among the visits. -/
def nodesOf (tr : List Ev) : List (Nd × Nat) := tr.filterMap (·.1)
theorem nodesOf_append (a b : List Ev) : nodesOf (a ++ b) = nodesOf a ++ nodesOf b := List.filterMap_append ..
theorem nodesOf_some (out : List Ev) (x : Nd × Nat) (d : List (Nd × Nat)) : nodesOf (out ++ [(some x, d)]) = nodesOf out ++ [x] := by
  rw [nodesOf_append]
  rfl
theorem nodesOf_none (out : List Ev) (d : List (Nd × Nat)) : nodesOf (out ++ [(none, d)]) = nodesOf out := by
  rw [nodesOf_append]
  exact List.append_nil _
/-- The way goes on as long as fewer than M nodes have come. -/
def goMost (M : Nat) (tr : List Ev) : Bool := decide ((nodesOf tr).length < M)
theorem goMost_at (M : Nat) (out : List Ev) (x : Nd × Nat) (d : List (Nd × Nat)) : goMost M (out ++ [(some x, d)]) = decide ((nodesOf out).length + 1 < M) := by
  rw [goMost, nodesOf_some, List.length_append]
  rfl
/-- The nodes of a tree, each ahead of those below it, with the number of its first token. -/
def selPre (c j : Nat) (tx : ByteArray) : List (Nd × Nat) := if c = 6 then [(nmNd tx, j)] else []
mutual
def Nd.pre : Nat → Nd → List (Nd × Nat)
  | i, ⟨kd, tx, ad, cp, ks⟩ => (⟨kd, tx, ad, cp, ks⟩, i) :: (preL (starts (kcode kd) tx (ks.map Nd.ntok) i) ks ++ selPre (kcode kd) (i + (ks.map Nd.ntok).getD 0 0 + 1) tx)
def preL : List Nat → List Nd → List (Nd × Nat)
  | _, [] => []
  | is, k :: ks => k.pre (is.headD 0) ++ preL is.tail ks
end
theorem leafRun_nodes (go : List Ev → Bool) (d : List (Nd × Nat)) (j : Nat) (tx : ByteArray) (out : List Ev) : nodesOf (leafRun go d j tx out) = nodesOf out ++ [(nmNd tx, j)] := by
  unfold leafRun
  split
  · rw [nodesOf_none, nodesOf_some]
  · rw [nodesOf_some]
theorem selRun_nodes (go : List Ev → Bool) (d : List (Nd × Nat)) (c j : Nat) (tx : ByteArray) (out : List Ev) : nodesOf (selRun go d c j tx out) = nodesOf out ++ selPre c j tx := by
  unfold selRun selPre
  split
  · exact leafRun_nodes ..
  · rw [List.append_nil]
theorem take_far {α : Type} {a : List α} {M : Nat} (h : M ≤ a.length) (b : List α) : a.take M = (a ++ b).take M := (List.take_append_of_le_length h).symm
theorem take_app {α : Type} {a b : List α} {M : Nat} (h : a.take M = b.take M) (c : List α) : (a ++ c).take M = (b ++ c).take M := by
  rw [List.take_append, List.take_append, h]
  have hl := congrArg List.length h
  rw [List.length_take, List.length_take] at hl
  have : M - a.length = M - b.length := by omega
  rw [this]
mutual
theorem run_pre (M : Nat) : ∀ (n : Nd) (d : List (Nd × Nat)) (i : Nat) (out : List Ev), (nodesOf (n.run (goMost M) d i out)).take M = (nodesOf out ++ n.pre i).take M
  | ⟨kd, tx, ad, cp, ks⟩, d, i, out => by
    rw [Nd.run, Nd.pre, goMost_at]
    by_cases h : (nodesOf out).length + 1 < M
    · rw [if_pos (decide_eq_true h), nodesOf_none, selRun_nodes]
      have h1 := runL_pre M ks (d ++ [(⟨kd, tx, ad, cp, ks⟩, i)]) (starts (kcode kd) tx (ks.map Nd.ntok) i) (out ++ [(some (⟨kd, tx, ad, cp, ks⟩, i), d)])
      rw [take_app h1, nodesOf_some]
      simp only [List.append_assoc, List.cons_append, List.nil_append]
    · rw [if_neg (by simpa using h), nodesOf_some]
      have hc : nodesOf out ++ (⟨kd, tx, ad, cp, ks⟩, i) :: (preL (starts (kcode kd) tx (ks.map Nd.ntok) i) ks ++ selPre (kcode kd) (i + (ks.map Nd.ntok).getD 0 0 + 1) tx) = (nodesOf out ++ [(⟨kd, tx, ad, cp, ks⟩, i)]) ++ (preL (starts (kcode kd) tx (ks.map Nd.ntok) i) ks ++ selPre (kcode kd) (i + (ks.map Nd.ntok).getD 0 0 + 1) tx) := by simp
      rw [hc]
      exact take_far (by rw [List.length_append, List.length_singleton]; omega) _
theorem runL_pre (M : Nat) : ∀ (ks : List Nd) (d : List (Nd × Nat)) (is : List Nat) (out : List Ev), (nodesOf (runL (goMost M) d is ks out)).take M = (nodesOf out ++ preL is ks).take M
  | [], _, _, _ => by rw [runL_nil, preL, List.append_nil]
  | k :: ks, d, is, out => by
    rw [runL, preL, runL_pre M ks d, take_app (run_pre M k d (is.headD 0) out), List.append_assoc]
end
mutual
theorem pre_kinds : ∀ (n : Nd) (i : Nat), (n.pre i).map (·.1.kd) = n.kinds
  | ⟨kd, tx, ad, cp, ks⟩, i => by
    rw [Nd.pre, Nd.kinds, List.map_cons, List.map_append, preL_kinds ks, selPre]
    split
    · rfl
    · rfl
theorem preL_kinds : ∀ (ks : List Nd) (is : List Nat), (preL is ks).map (·.1.kd) = kindsL ks
  | [], _ => by rw [preL, kindsL]; rfl
  | k :: ks, is => by rw [preL, kindsL, List.map_append, pre_kinds k, preL_kinds ks]
end
theorem kinds_pos (n : Nd) : 1 ≤ n.kinds.length := by
  obtain ⟨kd, tx, ad, cp, ks⟩ := n
  rw [Nd.kinds]
  simp
end Go.Proofs.YtjbhjbpamnoebaaGreatFmt
