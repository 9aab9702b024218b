/-
  The stacks of a tree: each node behind those above it; how each stack follows from the one ahead.
-/
import Derived.Test.YtlpnepgljdhpkaaGreatFmtK8
import Derived.Test.YtlpnepgljdhpkaaGreatFmtVp
namespace Go.Proofs.YtlpnepgljdhpkaaGreatFmt
open Go.RowKit

/-- The rows among the visits. -/
def rowOf (e : Ev) : Option (List ByteArray) := e.1.map (fun x => e.2.map (·.1.kd) ++ [x.1.kd])
def rowsOf (tr : List Ev) : List (List ByteArray) := tr.filterMap rowOf
theorem rowsOf_append (a b : List Ev) : rowsOf (a ++ b) = rowsOf a ++ rowsOf b := List.filterMap_append ..
theorem rowsOf_some (out : List Ev) (x : Nd × Nat) (d : List (Nd × Nat)) : rowsOf (out ++ [(some x, d)]) = rowsOf out ++ [d.map (·.1.kd) ++ [x.1.kd]] := by
  rw [rowsOf_append]
  rfl
theorem rowsOf_none (out : List Ev) (d : List (Nd × Nat)) : rowsOf (out ++ [(none, d)]) = rowsOf out := by
  rw [rowsOf_append]
  exact List.append_nil _
def nameK : ByteArray := ⟨#[110, 97, 109, 101]⟩
def selStk (c : Nat) (p : List ByteArray) : List (List ByteArray) := if c = 6 then [p ++ [nameK]] else []
mutual
def Nd.stk (st : ByteArray) : List ByteArray → Nd → List (List ByteArray)
  | p, ⟨kd, _, _, _, ks⟩ => (p ++ [kd]) :: (if (kd.toList == st.toList) = true then [] else stkL st (p ++ [kd]) ks ++ selStk (kcode kd) (p ++ [kd]))
def stkL (st : ByteArray) : List ByteArray → List Nd → List (List ByteArray)
  | _, [] => []
  | p, k :: ks => k.stk st p ++ stkL st p ks
end
theorem leafRun_rows (go : List Ev → Bool) (d : List (Nd × Nat)) (j : Nat) (tx : ByteArray) (out : List Ev) : rowsOf (leafRun go d j tx out) = rowsOf out ++ [d.map (·.1.kd) ++ [nameK]] := by
  unfold leafRun
  split
  · rw [rowsOf_none, rowsOf_some]
    rfl
  · rw [rowsOf_some]
    rfl
theorem selRun_rows (go : List Ev → Bool) (d : List (Nd × Nat)) (c j : Nat) (tx : ByteArray) (out : List Ev) : rowsOf (selRun go d c j tx out) = rowsOf out ++ selStk c (d.map (·.1.kd)) := by
  unfold selRun selStk
  split
  · exact leafRun_rows ..
  · rw [List.append_nil]
mutual
theorem run_rows (st : ByteArray) : ∀ (n : Nd) (d : List (Nd × Nat)) (i : Nat) (out : List Ev), rowsOf (n.run (goStop st) d i out) = rowsOf out ++ n.stk st (d.map (·.1.kd))
  | ⟨kd, tx, ad, cp, ks⟩, d, i, out => by
    rw [Nd.run, Nd.stk, goStop_at]
    cases h : ((⟨kd, tx, ad, cp, ks⟩ : Nd).kd.toList == st.toList)
    · replace h : (kd.toList == st.toList) = false := h
      rw [if_pos (by rfl), if_neg Bool.false_ne_true, rowsOf_none, selRun_rows]
      have h1 := runL_rows st ks (d ++ [(⟨kd, tx, ad, cp, ks⟩, i)]) (starts (kcode kd) tx (ks.map Nd.ntok) i) (out ++ [(some (⟨kd, tx, ad, cp, ks⟩, i), d)])
      rw [h1, rowsOf_some, List.map_append]
      simp only [List.append_assoc, List.cons_append, List.nil_append, List.map_cons, List.map_nil]
    · replace h : (kd.toList == st.toList) = true := h
      rw [if_neg (by simp), if_pos rfl, rowsOf_some]
theorem runL_rows (st : ByteArray) : ∀ (ks : List Nd) (d : List (Nd × Nat)) (is : List Nat) (out : List Ev), rowsOf (runL (goStop st) d is ks out) = rowsOf out ++ stkL st (d.map (·.1.kd)) ks
  | [], _, _, _ => by rw [runL_nil, stkL, List.append_nil]
  | k :: ks, d, is, out => by
    rw [runL, stkL, runL_rows st ks d, run_rows st k d, List.append_assoc]
end
mutual
theorem stk_len (st : ByteArray) : ∀ (n : Nd) (p : List ByteArray), (n.stk st p).length ≤ 2 * n.size
  | ⟨kd, tx, ad, cp, ks⟩, p => by
    have h := stkL_len st ks (p ++ [kd])
    have h2 : (selStk (kcode kd) (p ++ [kd])).length ≤ 1 := by
      unfold selStk
      split <;> simp
    rw [Nd.stk, Nd.size_eq]
    split
    · simp only [List.length_cons, List.length_nil]
      omega
    · simp only [List.length_cons, List.length_append]
      omega
theorem stkL_len (st : ByteArray) : ∀ (ks : List Nd) (p : List ByteArray), (stkL st p ks).length ≤ 2 * sizeL ks
  | [], p => by simp [stkL]
  | k :: ks, p => by
    have h1 := stk_len st k p
    have h2 := stkL_len st ks p
    rw [stkL, sizeL, List.length_append]
    omega
end
mutual
/-- No stack is longer than the tree is great. -/
theorem stk_row (st : ByteArray) : ∀ (n : Nd) (p : List ByteArray), ∀ r ∈ n.stk st p, r.length ≤ p.length + n.size + 1
  | ⟨kd, tx, ad, cp, ks⟩, p, r, hr => by
    rw [Nd.stk] at hr
    rw [Nd.size_eq]
    dsimp only
    rcases List.mem_cons.1 hr with rfl | hr
    · simp
    · split at hr
      · cases hr
      · rcases List.mem_append.1 hr with hr | hr
        · have := stkL_row st ks (p ++ [kd]) r hr
          rw [List.length_append, List.length_singleton] at this
          omega
        · unfold selStk at hr
          split at hr
          · obtain rfl := List.mem_singleton.1 hr
            simp only [List.length_append, List.length_singleton]
            omega
          · cases hr
theorem stkL_row (st : ByteArray) : ∀ (ks : List Nd) (p : List ByteArray), ∀ r ∈ stkL st p ks, r.length ≤ p.length + sizeL ks + 1
  | [], p, r, hr => by rw [stkL] at hr; cases hr
  | k :: ks, p, r, hr => by
    rw [stkL] at hr
    rw [sizeL]
    rcases List.mem_append.1 hr with hr | hr
    · have := stk_row st k p r hr
      omega
    · have := stkL_row st ks p r hr
      omega
end
/-! ### How a stack follows from the one ahead -/
def NextR (a b : List ByteArray) : Prop := 2 ≤ b.length ∧ b.length ≤ a.length + 1 ∧ b.take (b.length - 1) = a.take (b.length - 1)
def LkR : List ByteArray → List (List ByteArray) → Prop
  | _, [] => True
  | a, b :: rs => NextR a b ∧ LkR b rs
def PreR (p a : List ByteArray) : Prop := p.length ≤ a.length ∧ a.take p.length = p
theorem PreR.refl (p : List ByteArray) : PreR p p := ⟨Nat.le_refl _, List.take_length⟩
theorem PreR.up {p a : List ByteArray} {k : ByteArray} (h : PreR (p ++ [k]) a) : PreR p a := by
  obtain ⟨h1, h2⟩ := h
  rw [List.length_append, List.length_singleton] at h1 h2
  refine ⟨by omega, ?_⟩
  have := congrArg (List.take p.length) h2
  rw [List.take_take, List.take_left, Nat.min_eq_left (by omega)] at this
  exact this
theorem next_pre {p a : List ByteArray} (hp : p ≠ []) (h : PreR p a) (k : ByteArray) : NextR a (p ++ [k]) := by
  have hl : 0 < p.length := List.length_pos_iff.2 hp
  have h1 := h.1
  refine ⟨by rw [List.length_append, List.length_singleton]; omega, by rw [List.length_append, List.length_singleton]; omega, ?_⟩
  rw [List.length_append, List.length_singleton, Nat.add_sub_cancel, List.take_left, h.2]
mutual
theorem stk_lk (st : ByteArray) : ∀ (n : Nd) (p : List ByteArray), p ≠ [] → ∀ a, PreR p a → ∀ rest, (∀ b, PreR p b → LkR b rest) → LkR a (n.stk st p ++ rest)
  | ⟨kd, tx, ad, cp, ks⟩, p, hp, a, ha, rest, hr => by
    rw [Nd.stk, List.cons_append, LkR]
    refine ⟨next_pre hp ha kd, ?_⟩
    split
    · rw [List.nil_append]
      exact hr _ (PreR.refl (p ++ [kd])).up
    · rw [List.append_assoc]
      refine stkL_lk st ks (p ++ [kd]) (by simp) _ (PreR.refl _) _ fun b hb => ?_
      unfold selStk
      split
      · exact ⟨next_pre (by simp) hb _, hr _ (PreR.refl (p ++ [kd] ++ [nameK])).up.up⟩
      · exact hr _ hb.up
theorem stkL_lk (st : ByteArray) : ∀ (ks : List Nd) (p : List ByteArray), p ≠ [] → ∀ a, PreR p a → ∀ rest, (∀ b, PreR p b → LkR b rest) → LkR a (stkL st p ks ++ rest)
  | [], p, _, a, ha, rest, hr => by
    rw [stkL, List.nil_append]
    exact hr a ha
  | k :: ks, p, hp, a, ha, rest, hr => by
    rw [stkL, List.append_assoc]
    exact stk_lk st k p hp a ha _ fun b hb => stkL_lk st ks p hp b hb rest hr
end
theorem stk_root (st : ByteArray) (n : Nd) : ∃ rs, n.stk st [] = [n.kd] :: rs ∧ LkR [n.kd] rs := by
  obtain ⟨kd, tx, ad, cp, ks⟩ := n
  rw [Nd.stk]
  refine ⟨_, rfl, ?_⟩
  split
  · trivial
  · refine stkL_lk st ks ([] ++ [kd]) (by simp) _ (PreR.refl _) _ fun b hb => ?_
    unfold selStk
    split
    · exact ⟨next_pre (by simp) hb _, trivial⟩
    · trivial
theorem lk_at : ∀ (rs : List (List ByteArray)) (a : List ByteArray), LkR a rs → ∀ (j : Nat) (x y : List ByteArray), (a :: rs)[j]? = some x → (a :: rs)[j + 1]? = some y → NextR x y
  | [], a, _, j, x, y, _, hy => by simp at hy
  | b :: rs, a, h, 0, x, y, hx, hy => by
    simp at hx hy
    subst hx hy
    exact h.1
  | b :: rs, a, h, j + 1, x, y, hx, hy => lk_at rs b h.2 j x y (by simpa using hx) (by simpa using hy)
mutual
/-- Behind the nodes above stands the node: its kind. -/
theorem stk_last : ∀ (n : Nd), n.shapedB = true → ∀ p, (n.stk ⟨#[]⟩ p).map (·.getLast?) = n.kinds.map some
  | ⟨kd, tx, ad, cp, ks⟩, h, p => by
    have hk := kd_ne h
    replace hk : (kd.toList == (⟨#[]⟩ : ByteArray).toList) = false := hk
    rw [Nd.shapedB_eq, Bool.and_eq_true, List.all_eq_true] at h
    rw [Nd.stk, Nd.kinds, hk, if_neg Bool.false_ne_true, List.map_cons, List.map_append, stkL_last ks h.1, List.map_append, List.map_cons, List.getLast?_append]
    unfold selStk leafKinds
    split
    · simp [nameK]
    · simp
theorem stkL_last : ∀ (ks : List Nd), (∀ k ∈ ks, k.shapedB = true) → ∀ p, (stkL ⟨#[]⟩ p ks).map (·.getLast?) = (kindsL ks).map some
  | [], _, p => by rw [stkL, kindsL]; rfl
  | k :: ks, h, p => by
    rw [stkL, kindsL, List.map_append, List.map_append, stk_last k (h k (by simp)) p, stkL_last ks (fun x hx => h x (by simp [hx])) p]
end
end Go.Proofs.YtlpnepgljdhpkaaGreatFmt
