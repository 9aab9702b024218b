/-
  The tokens of a tree; where those of the nodes below stand among them.
  Where the nodes below begin, among the tokens; the end of a node.
  The spans of a tree's nodes: each in the tokens of its tree; one in the other or apart.
  The end of a node; the spans of a tree nest; the places that gaps tell.
  The first and the last of the nodes below a node; where the end of a node lies.
-/
import Derived.Test.YtjbhjbpamnoebaaGreatFmtYa
namespace Go.Proofs.YtjbhjbpamnoebaaGreatFmt
open Go.RowKit

/-- Lists with commas between. -/
def commaT : List (List ByteArray) → List ByteArray
  | [] => []
  | [t] => t
  | t :: u :: ts => t ++ [⟨#[44]⟩] ++ commaT (u :: ts)
def t0 (ts : List (List ByteArray)) (j : Nat) : List ByteArray := ts.getD j []
/-- The tokens between the brackets of a slice. -/
def sliceT (l : List UInt8) (ts : List (List ByteArray)) : List ByteArray :=
  if l = [108] then t0 ts 0 ++ [⟨#[58]⟩]
  else if l = [104] then [⟨#[58]⟩] ++ t0 ts 0
  else if l = [108, 104] then t0 ts 0 ++ [⟨#[58]⟩] ++ t0 ts 1
  else if l = [104, 109, 115] then [⟨#[58]⟩] ++ t0 ts 0 ++ [⟨#[58]⟩] ++ t0 ts 1
  else if l = [108, 104, 109, 115] then t0 ts 0 ++ [⟨#[58]⟩] ++ t0 ts 1 ++ [⟨#[58]⟩] ++ t0 ts 2
  else [⟨#[58]⟩]
/-- The tokens of a node, of its kind's number, its text and those of the nodes below. -/
def tokOf (c : Nat) (tx : ByteArray) (ts : List (List ByteArray)) : List ByteArray :=
  if c ≤ 1 then [tx]
  else if c = 2 then [⟨#[40]⟩] ++ t0 ts 0 ++ [⟨#[41]⟩]
  else if c = 3 then [⟨#[42]⟩] ++ t0 ts 0
  else if c = 4 then [tx] ++ t0 ts 0
  else if c = 5 then t0 ts 0 ++ [tx] ++ t0 ts 1
  else if c = 6 then t0 ts 0 ++ [⟨#[46]⟩] ++ [tx]
  else if c = 7 then t0 ts 0 ++ [⟨#[91]⟩] ++ t0 ts 1 ++ [⟨#[93]⟩]
  else if c = 8 then t0 ts 0 ++ [⟨#[46]⟩, ⟨#[40]⟩] ++ t0 ts 1 ++ [⟨#[41]⟩]
  else if c = 9 then t0 ts 0 ++ [⟨#[58]⟩] ++ t0 ts 1
  else if c = 10 then [⟨#[109, 97, 112]⟩, ⟨#[91]⟩] ++ t0 ts 0 ++ [⟨#[93]⟩] ++ t0 ts 1
  else if c = 11 then t0 ts 0 ++ [⟨#[91]⟩] ++ sliceT tx.data.toList (ts.drop 1) ++ [⟨#[93]⟩]
  else if c = 12 then t0 ts 0 ++ [⟨#[40]⟩] ++ commaT (ts.drop 1) ++ (if tx.data.toList.isEmpty then [] else [tx]) ++ [⟨#[41]⟩]
  else if c = 13 then (if tx.data.toList.isEmpty then [⟨#[123]⟩] ++ commaT ts ++ [⟨#[125]⟩] else t0 ts 0 ++ [⟨#[123]⟩] ++ commaT (ts.drop 1) ++ [⟨#[125]⟩])
  else (if ts.length = 2 then [⟨#[91]⟩] ++ t0 ts 0 ++ [⟨#[93]⟩] ++ t0 ts 1 else [⟨#[91]⟩, ⟨#[93]⟩] ++ t0 ts 0)
mutual
def Nd.toks : Nd → List ByteArray
  | ⟨kd, tx, _, _, ks⟩ => tokOf (kcode kd) tx (toksL ks)
def toksL : List Nd → List (List ByteArray)
  | [] => []
  | k :: ks => k.toks :: toksL ks
end
theorem toksL_map : ∀ ks : List Nd, toksL ks = ks.map Nd.toks
  | [] => by rw [toksL]; rfl
  | k :: ks => by rw [toksL, toksL_map ks]; rfl
theorem toks_eq (n : Nd) : n.toks = tokOf (kcode n.kd) n.tx (n.ks.map Nd.toks) := by
  obtain ⟨kd, tx, ad, cp, ks⟩ := n
  rw [Nd.toks, toksL_map]
/-- How many tokens lists have. -/
def lenL (ts : List (List ByteArray)) : Nat := (ts.map List.length).sum
theorem comma_len : ∀ ts : List (List ByteArray), (commaT ts).length = lenL ts + (ts.length - 1)
  | [] => rfl
  | [t] => by simp [commaT, lenL]
  | t :: u :: ts => by
    have h := comma_len (u :: ts)
    rw [commaT, List.length_append, List.length_append, h]
    simp [lenL]
    omega
/-- t stands in T, whose first token is number i, from number s on. -/
def At (T : List ByteArray) (i s : Nat) (t : List ByteArray) : Prop := ∃ a b, T = a ++ t ++ b ∧ s = i + a.length
theorem At.trans {T t u : List ByteArray} {i s r : Nat} (h : At T i s t) (k : At t s r u) : At T i r u := by
  obtain ⟨a, b, rfl, rfl⟩ := h
  obtain ⟨a', b', rfl, rfl⟩ := k
  exact ⟨a ++ a', b' ++ b, by simp, by simp; omega⟩
theorem At.refl (T : List ByteArray) (i : Nat) : At T i i T := ⟨[], [], by simp, by simp⟩
theorem At.get {T t : List ByteArray} {i s k : Nat} (h : At T i s t) (hk : k < t.length) : i ≤ s ∧ s - i + k < T.length ∧ T[s - i + k]? = t[k]? := by
  obtain ⟨a, b, rfl, rfl⟩ := h
  have e : i + a.length - i + k = a.length + k := by omega
  refine ⟨by omega, by simp; omega, ?_⟩
  rw [e, List.append_assoc, List.getElem?_append_right (by omega), Nat.add_sub_cancel_left, List.getElem?_append_left hk]
theorem commas_at : ∀ (ts : List (List ByteArray)) (s j r : Nat) (t : List ByteArray), (commas s (ts.map List.length))[j]? = some r → ts[j]? = some t → At (commaT ts) s r t
  | [], s, j, r, t, _, h => by simp at h
  | [x], s, j, r, t, h1, h2 => by
    rcases j with _ | j
    · simp [commas] at h1 h2
      subst h1 h2
      exact At.refl _ _
    · simp at h2
  | x :: u :: ts, s, j, r, t, h1, h2 => by
    rw [List.map_cons, commas] at h1
    rw [commaT]
    rcases j with _ | j
    · simp at h1 h2
      subst h1 h2
      exact ⟨[], [⟨#[44]⟩] ++ commaT (u :: ts), by simp, by simp⟩
    · rw [List.getElem?_cons_succ] at h1 h2
      have h := commas_at (u :: ts) _ j r t h1 h2
      exact At.trans ⟨x ++ [⟨#[44]⟩], [], by simp, by simp; omega⟩ h
theorem at_mk (a t b : List ByteArray) (i : Nat) : At (a ++ t ++ b) i (i + a.length) t := ⟨a, b, rfl, rfl⟩
theorem len1 {ts : List (List ByteArray)} (h : ts.length = 1) : ∃ x, ts = [x] := List.length_eq_one_iff.1 h
theorem len2T {ts : List (List ByteArray)} (h : ts.length = 2) : ∃ x y, ts = [x, y] := by
  match ts, h with
  | [x, y], _ => exact ⟨x, y, rfl⟩
theorem len3T {ts : List (List ByteArray)} (h : ts.length = 3) : ∃ x y z, ts = [x, y, z] := by
  match ts, h with
  | [x, y, z], _ => exact ⟨x, y, z, rfl⟩
theorem len4T {ts : List (List ByteArray)} (h : ts.length = 4) : ∃ x y z u, ts = [x, y, z, u] := by
  match ts, h with
  | [x, y, z, u], _ => exact ⟨x, y, z, u, rfl⟩
theorem lenP {ts : List (List ByteArray)} (h : 0 < ts.length) : ∃ x r, ts = x :: r := by
  match ts, h with
  | x :: r, _ => exact ⟨x, r, rfl⟩
/-- What a well-formed node of each kind has below it. -/
theorem forms {c k : Nat} {tx : ByteArray} (h : manyC c tx k = true) :
    (c ≤ 1 ∧ k = 0) ∨ ((c = 2 ∨ c = 3 ∨ c = 4 ∨ c = 6) ∧ k = 1) ∨ ((c = 5 ∨ c = 7 ∨ c = 8 ∨ c = 9 ∨ c = 10) ∧ k = 2) ∨
    (c = 11 ∧ ((tx.data.toList = [] ∧ k = 1) ∨ (tx.data.toList = [108] ∧ k = 2) ∨ (tx.data.toList = [104] ∧ k = 2) ∨ (tx.data.toList = [108, 104] ∧ k = 3) ∨ (tx.data.toList = [104, 109, 115] ∧ k = 3) ∨ (tx.data.toList = [108, 104, 109, 115] ∧ k = 4))) ∨
    (c = 12 ∧ 0 < k ∧ (tx.data.toList.isEmpty = true ∨ (tx.data.toList.isEmpty = false ∧ 1 < k))) ∨ (c = 13 ∧ (tx.data.toList.isEmpty = true ∨ (tx.data.toList.isEmpty = false ∧ 0 < k))) ∨ (c = 14 ∧ (k = 1 ∨ k = 2)) := by
  unfold manyC at h
  dsimp only at h
  split at h
  · exact .inl ⟨by assumption, by simpa using h⟩
  split at h
  · refine .inr (.inl ⟨by omega, ?_⟩)
    simp only [Bool.and_eq_true, beq_iff_eq] at h
    exact h.2
  split at h
  · refine .inr (.inl ⟨by omega, ?_⟩)
    simp only [Bool.and_eq_true, beq_iff_eq] at h
    exact h.2
  split at h
  · refine .inr (.inr (.inl ⟨by omega, ?_⟩))
    simp only [Bool.and_eq_true, beq_iff_eq] at h
    exact h.2
  split at h
  · exact .inr (.inl ⟨by omega, by simpa using h⟩)
  split at h
  · refine .inr (.inr (.inl ⟨by omega, ?_⟩))
    simp only [Bool.and_eq_true, beq_iff_eq] at h
    exact h.2
  split at h
  · refine .inr (.inr (.inr (.inl ⟨by assumption, ?_⟩)))
    unfold wellSl slN at h
    split at h
    · rename_i m hm
      have hk : k = m + 1 := by simpa using h
      split at hm
      · cases hm; exact .inl ⟨by assumption, hk⟩
      split at hm
      · cases hm; exact .inr (.inl ⟨by assumption, hk⟩)
      split at hm
      · cases hm; exact .inr (.inr (.inl ⟨by assumption, hk⟩))
      split at hm
      · cases hm; exact .inr (.inr (.inr (.inl ⟨by assumption, hk⟩)))
      split at hm
      · cases hm; exact .inr (.inr (.inr (.inr (.inl ⟨by assumption, hk⟩))))
      split at hm
      · cases hm; exact .inr (.inr (.inr (.inr (.inr ⟨by assumption, hk⟩))))
      · cases hm
    · cases h
  split at h
  · refine .inr (.inr (.inr (.inr (.inl ⟨by assumption, ?_⟩))))
    simp only [Bool.and_eq_true, Bool.or_eq_true, decide_eq_true_eq, beq_iff_eq] at h
    refine ⟨h.1, ?_⟩
    rcases h.2 with h2 | ⟨h2, h3⟩
    · exact .inl h2
    · exact .inr ⟨by rw [h2]; rfl, h3⟩
  split at h
  · refine .inr (.inr (.inr (.inr (.inr (.inl ⟨by assumption, ?_⟩)))))
    simp only [Bool.or_eq_true, Bool.and_eq_true, decide_eq_true_eq, beq_iff_eq] at h
    rcases h with h2 | ⟨h2, h3⟩
    · exact .inl h2
    · exact .inr ⟨by rw [h2]; rfl, h3⟩
  split at h
  · refine .inr (.inr (.inr (.inr (.inr (.inr ⟨by assumption, ?_⟩)))))
    simp only [Bool.and_eq_true, Bool.or_eq_true, beq_iff_eq] at h
    exact h.2
  · cases h
/-- The tokens of each node below stand where it begins; how many there are; the last one. -/
theorem tok_len {c : Nat} {tx : ByteArray} {ts : List (List ByteArray)} (h : manyC c tx ts.length = true) : (tokOf c tx ts).length = ownTok c tx ts.length + lenL ts := by
  rcases forms h with ⟨hc, hk⟩ | ⟨hc, hk⟩ | ⟨hc, hk⟩ | ⟨rfl, hk⟩ | ⟨rfl, hk⟩ | ⟨rfl, hk⟩ | ⟨rfl, hk⟩
  · obtain rfl := List.length_eq_zero_iff.1 hk
    simp [tokOf, ownTok, lenL, hc]
  · obtain ⟨x, rfl⟩ := len1 hk
    rcases hc with rfl | rfl | rfl | rfl <;> simp [tokOf, ownTok, lenL, t0] <;> omega
  · obtain ⟨x, y, rfl⟩ := len2T hk
    rcases hc with rfl | rfl | rfl | rfl | rfl <;> simp [tokOf, ownTok, lenL, t0] <;> omega
  · rcases hk with ⟨e, hk⟩ | ⟨e, hk⟩ | ⟨e, hk⟩ | ⟨e, hk⟩ | ⟨e, hk⟩ | ⟨e, hk⟩
    · obtain ⟨x, rfl⟩ := len1 hk
      simp [tokOf, ownTok, lenL, t0, sliceT, e]
      omega
    · obtain ⟨x, y, rfl⟩ := len2T hk
      simp [tokOf, ownTok, lenL, t0, sliceT, e]
      omega
    · obtain ⟨x, y, rfl⟩ := len2T hk
      simp [tokOf, ownTok, lenL, t0, sliceT, e]
      omega
    · obtain ⟨x, y, z, rfl⟩ := len3T hk
      simp [tokOf, ownTok, lenL, t0, sliceT, e]
      omega
    · obtain ⟨x, y, z, rfl⟩ := len3T hk
      simp [tokOf, ownTok, lenL, t0, sliceT, e]
      omega
    · obtain ⟨x, y, z, u, rfl⟩ := len4T hk
      simp [tokOf, ownTok, lenL, t0, sliceT, e]
      omega
  · obtain ⟨x, r, rfl⟩ := lenP hk.1
    have hr := comma_len r
    rcases hk.2 with e | ⟨e, _⟩
    · simp [tokOf, ownTok, t0, e, hr]
      simp [lenL]
      omega
    · simp [tokOf, ownTok, t0, e, hr]
      simp [lenL]
      omega
  · rcases hk with e | ⟨e, hk⟩
    · have hr := comma_len ts
      simp [tokOf, ownTok, e, hr]
      omega
    · obtain ⟨x, r, rfl⟩ := lenP hk
      have hr := comma_len r
      simp [tokOf, ownTok, t0, e, hr]
      simp [lenL]
      omega
  · rcases hk with hk | hk
    · obtain ⟨x, rfl⟩ := len1 hk
      simp [tokOf, ownTok, lenL, t0]
      omega
    · obtain ⟨x, y, rfl⟩ := len2T hk
      simp [tokOf, ownTok, lenL, t0]
      omega
end Go.Proofs.YtjbhjbpamnoebaaGreatFmt

namespace Go.Proofs.YtjbhjbpamnoebaaGreatFmt
open Go.RowKit

theorem At.of {T t : List ByteArray} {i s : Nat} (a b : List ByteArray) (hT : T = a ++ t ++ b) (hs : s = i + a.length) : At T i s t := ⟨a, b, hT, hs⟩
theorem kids_at {c : Nat} {tx : ByteArray} {ts : List (List ByteArray)} {i : Nat} (h : manyC c tx ts.length = true) (j s : Nat) (t : List ByteArray) (h1 : (starts c tx (ts.map List.length) i)[j]? = some s) (h2 : ts[j]? = some t) : At (tokOf c tx ts) i s t := by
  rcases forms h with ⟨hc, hk⟩ | ⟨hc, hk⟩ | ⟨hc, hk⟩ | ⟨rfl, hk⟩ | ⟨rfl, hk⟩ | ⟨rfl, hk⟩ | ⟨rfl, hk⟩
  · obtain rfl := List.length_eq_zero_iff.1 hk
    simp at h2
  · obtain ⟨x, rfl⟩ := len1 hk
    rcases j with _ | j
    · simp at h2
      subst h2
      rcases hc with rfl | rfl | rfl | rfl <;> simp [starts] at h1 <;> subst h1
      · exact .of [⟨#[40]⟩] [⟨#[41]⟩] (by simp [tokOf, t0]) rfl
      · exact .of [⟨#[42]⟩] [] (by simp [tokOf, t0]) rfl
      · exact .of [tx] [] (by simp [tokOf, t0]) rfl
      · exact .of [] [⟨#[46]⟩, tx] (by simp [tokOf, t0]) rfl
    · simp at h2
  · obtain ⟨x, y, rfl⟩ := len2T hk
    rcases j with _ | _ | j
    · simp at h2
      subst h2
      rcases hc with rfl | rfl | rfl | rfl | rfl <;> simp [starts] at h1 <;> subst h1
      · exact .of [] ([tx] ++ y) (by simp [tokOf, t0]) rfl
      · exact .of [] ([⟨#[91]⟩] ++ y ++ [⟨#[93]⟩]) (by simp [tokOf, t0]) rfl
      · exact .of [] ([⟨#[46]⟩, ⟨#[40]⟩] ++ y ++ [⟨#[41]⟩]) (by simp [tokOf, t0]) rfl
      · exact .of [] ([⟨#[58]⟩] ++ y) (by simp [tokOf, t0]) rfl
      · exact .of [⟨#[109, 97, 112]⟩, ⟨#[91]⟩] ([⟨#[93]⟩] ++ y) (by simp [tokOf, t0]) rfl
    · simp at h2
      subst h2
      rcases hc with rfl | rfl | rfl | rfl | rfl <;> simp [starts] at h1 <;> subst h1
      · exact .of (x ++ [tx]) [] (by simp [tokOf, t0]) (by simp; omega)
      · exact .of (x ++ [⟨#[91]⟩]) [⟨#[93]⟩] (by simp [tokOf, t0]) (by simp; omega)
      · exact .of (x ++ [⟨#[46]⟩, ⟨#[40]⟩]) [⟨#[41]⟩] (by simp [tokOf, t0]) (by simp; omega)
      · exact .of (x ++ [⟨#[58]⟩]) [] (by simp [tokOf, t0]) (by simp; omega)
      · exact .of ([⟨#[109, 97, 112]⟩, ⟨#[91]⟩] ++ x ++ [⟨#[93]⟩]) [] (by simp [tokOf, t0]) (by simp; omega)
    · simp at h2
  · rcases hk with ⟨e, hk⟩ | ⟨e, hk⟩ | ⟨e, hk⟩ | ⟨e, hk⟩ | ⟨e, hk⟩ | ⟨e, hk⟩
    · obtain ⟨x, rfl⟩ := len1 hk
      rcases j with _ | j
      · simp [starts] at h1 h2
        subst h1 h2
        exact .of [] ([⟨#[91]⟩, ⟨#[58]⟩, ⟨#[93]⟩]) (by simp [tokOf, t0, sliceT, e]) rfl
      · simp at h2
    · obtain ⟨x, y, rfl⟩ := len2T hk
      rcases j with _ | _ | j
      · simp [starts] at h1 h2
        subst h1 h2
        exact .of [] ([⟨#[91]⟩] ++ y ++ [⟨#[58]⟩, ⟨#[93]⟩]) (by simp [tokOf, t0, sliceT, e]) rfl
      · simp [starts, endStarts, e] at h1 h2
        subst h1 h2
        exact .of (x ++ [⟨#[91]⟩]) [⟨#[58]⟩, ⟨#[93]⟩] (by simp [tokOf, t0, sliceT, e]) (by simp; omega)
      · simp at h2
    · obtain ⟨x, y, rfl⟩ := len2T hk
      rcases j with _ | _ | j
      · simp [starts] at h1 h2
        subst h1 h2
        exact .of [] ([⟨#[91]⟩, ⟨#[58]⟩] ++ y ++ [⟨#[93]⟩]) (by simp [tokOf, t0, sliceT, e]) rfl
      · simp [starts, endStarts, e] at h1 h2
        subst h1 h2
        exact .of (x ++ [⟨#[91]⟩, ⟨#[58]⟩]) [⟨#[93]⟩] (by simp [tokOf, t0, sliceT, e]) (by simp; omega)
      · simp at h2
    · obtain ⟨x, y, z, rfl⟩ := len3T hk
      rcases j with _ | _ | _ | j
      · simp [starts] at h1 h2
        subst h1 h2
        exact .of [] ([⟨#[91]⟩] ++ y ++ [⟨#[58]⟩] ++ z ++ [⟨#[93]⟩]) (by simp [tokOf, t0, sliceT, e]) rfl
      · simp [starts, endStarts, e] at h1 h2
        subst h1 h2
        exact .of (x ++ [⟨#[91]⟩]) ([⟨#[58]⟩] ++ z ++ [⟨#[93]⟩]) (by simp [tokOf, t0, sliceT, e]) (by simp; omega)
      · simp [starts, endStarts, e] at h1 h2
        subst h1 h2
        exact .of (x ++ [⟨#[91]⟩] ++ y ++ [⟨#[58]⟩]) [⟨#[93]⟩] (by simp [tokOf, t0, sliceT, e]) (by simp; omega)
      · simp at h2
    · obtain ⟨x, y, z, rfl⟩ := len3T hk
      rcases j with _ | _ | _ | j
      · simp [starts] at h1 h2
        subst h1 h2
        exact .of [] ([⟨#[91]⟩, ⟨#[58]⟩] ++ y ++ [⟨#[58]⟩] ++ z ++ [⟨#[93]⟩]) (by simp [tokOf, t0, sliceT, e]) rfl
      · simp [starts, endStarts, e] at h1 h2
        subst h1 h2
        exact .of (x ++ [⟨#[91]⟩, ⟨#[58]⟩]) ([⟨#[58]⟩] ++ z ++ [⟨#[93]⟩]) (by simp [tokOf, t0, sliceT, e]) (by simp; omega)
      · simp [starts, endStarts, e] at h1 h2
        subst h1 h2
        exact .of (x ++ [⟨#[91]⟩, ⟨#[58]⟩] ++ y ++ [⟨#[58]⟩]) [⟨#[93]⟩] (by simp [tokOf, t0, sliceT, e]) (by simp; omega)
      · simp at h2
    · obtain ⟨x, y, z, u, rfl⟩ := len4T hk
      rcases j with _ | _ | _ | _ | j
      · simp [starts] at h1 h2
        subst h1 h2
        exact .of [] ([⟨#[91]⟩] ++ y ++ [⟨#[58]⟩] ++ z ++ [⟨#[58]⟩] ++ u ++ [⟨#[93]⟩]) (by simp [tokOf, t0, sliceT, e]) rfl
      · simp [starts, endStarts, e] at h1 h2
        subst h1 h2
        exact .of (x ++ [⟨#[91]⟩]) ([⟨#[58]⟩] ++ z ++ [⟨#[58]⟩] ++ u ++ [⟨#[93]⟩]) (by simp [tokOf, t0, sliceT, e]) (by simp; omega)
      · simp [starts, endStarts, e] at h1 h2
        subst h1 h2
        exact .of (x ++ [⟨#[91]⟩] ++ y ++ [⟨#[58]⟩]) ([⟨#[58]⟩] ++ u ++ [⟨#[93]⟩]) (by simp [tokOf, t0, sliceT, e]) (by simp; omega)
      · simp [starts, endStarts, e] at h1 h2
        subst h1 h2
        exact .of (x ++ [⟨#[91]⟩] ++ y ++ [⟨#[58]⟩] ++ z ++ [⟨#[58]⟩]) [⟨#[93]⟩] (by simp [tokOf, t0, sliceT, e]) (by simp; omega)
      · simp at h2
  · obtain ⟨x, r, rfl⟩ := lenP hk.1
    have ht : tokOf 12 tx (x :: r) = x ++ [⟨#[40]⟩] ++ commaT r ++ (if tx.data.toList.isEmpty then [] else [tx]) ++ [⟨#[41]⟩] := by simp [tokOf, t0]
    rcases j with _ | j
    · simp [starts] at h1 h2
      subst h1 h2
      exact .of [] ([⟨#[40]⟩] ++ commaT r ++ (if tx.data.toList.isEmpty then [] else [tx]) ++ [⟨#[41]⟩]) (by rw [ht]; simp) rfl
    · have h1 : (commas (i + x.length + 1) (r.map List.length))[j]? = some s := by simpa [starts] using h1
      have h2 : r[j]? = some t := by simpa using h2
      exact At.trans (.of (x ++ [⟨#[40]⟩]) ((if tx.data.toList.isEmpty then [] else [tx]) ++ [⟨#[41]⟩]) (by rw [ht]; simp) (by simp; omega)) (commas_at r _ j s t h1 h2)
  · rcases hk with e | ⟨e, hk⟩
    · have ht : tokOf 13 tx ts = [⟨#[123]⟩] ++ commaT ts ++ [⟨#[125]⟩] := by simp [tokOf, e]
      have h1 : (commas (i + 1) (ts.map List.length))[j]? = some s := by simpa [starts, e] using h1
      exact At.trans (.of [⟨#[123]⟩] [⟨#[125]⟩] ht rfl) (commas_at ts _ j s t h1 h2)
    · obtain ⟨x, r, rfl⟩ := lenP hk
      have ht : tokOf 13 tx (x :: r) = x ++ [⟨#[123]⟩] ++ commaT r ++ [⟨#[125]⟩] := by simp [tokOf, t0, e]
      rcases j with _ | j
      · simp [starts, e] at h1 h2
        subst h1 h2
        exact .of [] ([⟨#[123]⟩] ++ commaT r ++ [⟨#[125]⟩]) (by rw [ht]; simp) rfl
      · have h1 : (commas (i + x.length + 1) (r.map List.length))[j]? = some s := by simpa [starts, e] using h1
        have h2 : r[j]? = some t := by simpa using h2
        exact At.trans (.of (x ++ [⟨#[123]⟩]) [⟨#[125]⟩] (by rw [ht]) (by simp; omega)) (commas_at r _ j s t h1 h2)
  · rcases hk with hk | hk
    · obtain ⟨x, rfl⟩ := len1 hk
      rcases j with _ | j
      · simp [starts] at h1 h2
        subst h1 h2
        exact .of [⟨#[91]⟩, ⟨#[93]⟩] [] (by simp [tokOf, t0]) rfl
      · simp at h2
    · obtain ⟨x, y, rfl⟩ := len2T hk
      rcases j with _ | _ | j
      · simp [starts] at h1 h2
        subst h1 h2
        exact .of [⟨#[91]⟩] ([⟨#[93]⟩] ++ y) (by simp [tokOf, t0]) rfl
      · simp [starts] at h1 h2
        subst h1 h2
        exact .of ([⟨#[91]⟩] ++ x ++ [⟨#[93]⟩]) [] (by simp [tokOf, t0]) (by simp; omega)
      · simp at h2
theorem commas_len : ∀ (ns : List Nat) (s : Nat), (commas s ns).length = ns.length
  | [], _ => rfl
  | n :: ns, s => by rw [commas, List.length_cons, commas_len ns, List.length_cons]
theorem commas_mono : ∀ (ns : List Nat) (s q q' n r r' : Nat), q < q' → ns[q]? = some n → (commas s ns)[q]? = some r → (commas s ns)[q']? = some r' → r + n ≤ r'
  | [], s, q, q', n, r, r', _, h, _, _ => by simp at h
  | m :: ns, s, q, q', n, r, r', hq, h1, h2, h3 => by
    rw [commas] at h2 h3
    rcases q' with _ | q'
    · omega
    · rw [List.getElem?_cons_succ] at h3
      rcases q with _ | q
      · simp at h1 h2
        subst h1 h2
        have hge : ∀ (ns : List Nat) (s q r : Nat), (commas s ns)[q]? = some r → s ≤ r := by
          intro ns
          induction ns with
          | nil => intro s q r h; simp [commas] at h
          | cons n ns ih =>
            intro s q r h
            rw [commas] at h
            rcases q with _ | q
            · simp at h
              omega
            · rw [List.getElem?_cons_succ] at h
              have := ih _ _ _ h
              omega
        have := hge _ _ _ _ h3
        omega
      · rw [List.getElem?_cons_succ] at h1 h2
        exact commas_mono ns _ q q' n r r' (by omega) h1 h2 h3
end Go.Proofs.YtjbhjbpamnoebaaGreatFmt

namespace Go.Proofs.YtjbhjbpamnoebaaGreatFmt
open Go.RowKit

theorem starts_len {c k i : Nat} {tx : ByteArray} {ns : List Nat} (h : manyC c tx k = true) (hk : ns.length = k) : (starts c tx ns i).length = ns.length := by
  subst hk
  rcases forms h with ⟨hc, hk⟩ | ⟨hc, hk⟩ | ⟨hc, hk⟩ | ⟨rfl, hk⟩ | ⟨rfl, hk⟩ | ⟨rfl, hk⟩ | ⟨rfl, hk⟩
  · rw [hk]
    simp [starts, hc]
  · rw [hk]
    rcases hc with rfl | rfl | rfl | rfl <;> simp [starts]
  · rw [hk]
    rcases hc with rfl | rfl | rfl | rfl | rfl <;> simp [starts]
  · rcases hk with ⟨e, hk⟩ | ⟨e, hk⟩ | ⟨e, hk⟩ | ⟨e, hk⟩ | ⟨e, hk⟩ | ⟨e, hk⟩ <;> rw [hk] <;> simp [starts, endStarts, e]
  · simp [starts, commas_len]
    omega
  · rcases hk with e | ⟨e, hk⟩
    · simp [starts, commas_len, e]
    · simp [starts, commas_len, e]
      omega
  · rcases hk with hk | hk <;> simp [starts, hk]
theorem n1 {ns : List Nat} (h : ns.length = 1) : ∃ x, ns = [x] := List.length_eq_one_iff.1 h
theorem n2 {ns : List Nat} (h : ns.length = 2) : ∃ x y, ns = [x, y] := by
  match ns, h with
  | [x, y], _ => exact ⟨x, y, rfl⟩
theorem n3 {ns : List Nat} (h : ns.length = 3) : ∃ x y z, ns = [x, y, z] := by
  match ns, h with
  | [x, y, z], _ => exact ⟨x, y, z, rfl⟩
theorem n4 {ns : List Nat} (h : ns.length = 4) : ∃ x y z u, ns = [x, y, z, u] := by
  match ns, h with
  | [x, y, z, u], _ => exact ⟨x, y, z, u, rfl⟩
theorem pair_mono {a b x y : Nat} (h : a + x ≤ b) {q q' n r r' : Nat} (hq : q < q') (h1 : [x, y][q]? = some n) (h2 : [a, b][q]? = some r) (h3 : [a, b][q']? = some r') : r + n ≤ r' := by
  rcases q' with _ | _ | q'
  · omega
  · obtain rfl : q = 0 := by omega
    simp at h1 h2 h3
    omega
  · simp at h3
theorem trio_mono {a b c x y z : Nat} (h : a + x ≤ b) (k : b + y ≤ c) {q q' n r r' : Nat} (hq : q < q') (h1 : [x, y, z][q]? = some n) (h2 : [a, b, c][q]? = some r) (h3 : [a, b, c][q']? = some r') : r + n ≤ r' := by
  rcases q' with _ | _ | _ | q'
  · omega
  · obtain rfl : q = 0 := by omega
    simp at h1 h2 h3
    omega
  · have : q = 0 ∨ q = 1 := by omega
    rcases this with rfl | rfl <;> simp at h1 h2 h3 <;> omega
  · simp at h3
theorem four_mono {a b c d x y z u : Nat} (h : a + x ≤ b) (k : b + y ≤ c) (l : c + z ≤ d) {q q' n r r' : Nat} (hq : q < q') (h1 : [x, y, z, u][q]? = some n) (h2 : [a, b, c, d][q]? = some r) (h3 : [a, b, c, d][q']? = some r') : r + n ≤ r' := by
  rcases q' with _ | _ | _ | _ | q'
  · omega
  · obtain rfl : q = 0 := by omega
    simp at h1 h2 h3
    omega
  · have : q = 0 ∨ q = 1 := by omega
    rcases this with rfl | rfl <;> simp at h1 h2 h3 <;> omega
  · have : q = 0 ∨ q = 1 ∨ q = 2 := by omega
    rcases this with rfl | rfl | rfl <;> simp at h1 h2 h3 <;> omega
  · simp at h3
theorem commas_ge : ∀ (ns : List Nat) (s q r : Nat), (commas s ns)[q]? = some r → s ≤ r := by
  intro ns
  induction ns with
  | nil => intro s q r h; simp [commas] at h
  | cons n ns ih =>
    intro s q r h
    rw [commas] at h
    rcases q with _ | q
    · simp at h
      omega
    · rw [List.getElem?_cons_succ] at h
      have := ih _ _ _ h
      omega
theorem head_mono {a s : Nat} {ns : List Nat} (x : Nat) (h : a + x ≤ s) {q q' n r r' : Nat} (hq : q < q') (h1 : (x :: ns)[q]? = some n) (h2 : (a :: commas s ns)[q]? = some r) (h3 : (a :: commas s ns)[q']? = some r') : r + n ≤ r' := by
  rcases q' with _ | q'
  · omega
  · rw [List.getElem?_cons_succ] at h3
    rcases q with _ | q
    · simp at h1 h2
      have := commas_ge _ _ _ _ h3
      omega
    · rw [List.getElem?_cons_succ] at h1 h2
      exact commas_mono ns _ q q' n r r' (by omega) h1 h2 h3
theorem starts_mono {c k i : Nat} {tx : ByteArray} {ns : List Nat} (h : manyC c tx k = true) (hk : ns.length = k) {q q' n r r' : Nat} (hq : q < q') (h1 : ns[q]? = some n) (h2 : (starts c tx ns i)[q]? = some r) (h3 : (starts c tx ns i)[q']? = some r') : r + n ≤ r' := by
  have hl := (List.getElem?_eq_some_iff.1 h3).1
  rw [starts_len h hk] at hl
  subst hk
  rcases forms h with ⟨hc, hk⟩ | ⟨hc, hk⟩ | ⟨hc, hk⟩ | ⟨rfl, hk⟩ | ⟨rfl, hk⟩ | ⟨rfl, hk⟩ | ⟨rfl, hk⟩
  · omega
  · omega
  · obtain ⟨x, y, rfl⟩ := n2 hk
    rcases hc with rfl | rfl | rfl | rfl | rfl
    · exact pair_mono (a := i) (b := i + x + 1) (by omega) hq h1 (by simpa [starts] using h2) (by simpa [starts] using h3)
    · exact pair_mono (a := i) (b := i + x + 1) (by omega) hq h1 (by simpa [starts] using h2) (by simpa [starts] using h3)
    · exact pair_mono (a := i) (b := i + x + 2) (by omega) hq h1 (by simpa [starts] using h2) (by simpa [starts] using h3)
    · exact pair_mono (a := i) (b := i + x + 1) (by omega) hq h1 (by simpa [starts] using h2) (by simpa [starts] using h3)
    · exact pair_mono (a := i + 2) (b := i + 3 + x) (by omega) hq h1 (by simpa [starts] using h2) (by simpa [starts] using h3)
  · rcases hk with ⟨e, hk⟩ | ⟨e, hk⟩ | ⟨e, hk⟩ | ⟨e, hk⟩ | ⟨e, hk⟩ | ⟨e, hk⟩
    · omega
    · obtain ⟨x, y, rfl⟩ := n2 hk
      exact pair_mono (a := i) (b := i + x + 1) (by omega) hq h1 (by simpa [starts, endStarts, e] using h2) (by simpa [starts, endStarts, e] using h3)
    · obtain ⟨x, y, rfl⟩ := n2 hk
      exact pair_mono (a := i) (b := i + x + 1 + 1) (by omega) hq h1 (by simpa [starts, endStarts, e] using h2) (by simpa [starts, endStarts, e] using h3)
    · obtain ⟨x, y, z, rfl⟩ := n3 hk
      exact trio_mono (a := i) (b := i + x + 1) (c := i + x + 1 + y + 1) (by omega) (by omega) hq h1 (by simpa [starts, endStarts, e] using h2) (by simpa [starts, endStarts, e] using h3)
    · obtain ⟨x, y, z, rfl⟩ := n3 hk
      exact trio_mono (a := i) (b := i + x + 1 + 1) (c := i + x + 1 + 1 + y + 1) (by omega) (by omega) hq h1 (by simpa [starts, endStarts, e] using h2) (by simpa [starts, endStarts, e] using h3)
    · obtain ⟨x, y, z, u, rfl⟩ := n4 hk
      exact four_mono (a := i) (b := i + x + 1) (c := i + x + 1 + y + 1) (d := i + x + 1 + y + 1 + z + 1) (by omega) (by omega) (by omega) hq h1 (by simpa [starts, endStarts, e] using h2) (by simpa [starts, endStarts, e] using h3)
  · match ns, hl with
    | x :: ns, _ => exact head_mono (a := i) (s := i + x + 1) x (by omega) hq h1 (by simpa [starts] using h2) (by simpa [starts] using h3)
  · rcases hk with e | ⟨e, hk⟩
    · exact commas_mono ns (i + 1) q q' n r r' hq h1 (by simpa [starts, e] using h2) (by simpa [starts, e] using h3)
    · match ns, hl with
      | x :: ns, _ => exact head_mono (a := i) (s := i + x + 1) x (by omega) hq h1 (by simpa [starts, e] using h2) (by simpa [starts, e] using h3)
  · rcases hk with hk | hk
    · omega
    · obtain ⟨x, y, rfl⟩ := n2 hk
      exact pair_mono (a := i + 1) (b := i + 1 + x + 1) (by omega) hq h1 (by simpa [starts] using h2) (by simpa [starts] using h3)
/-! ### How many tokens -/
theorem toks_len : ∀ n : Nd, n.shapedB = true → n.toks.length = n.ntok := by
  refine Nd.ind fun n ih h => ?_
  rw [Nd.shapedB_eq, Bool.and_eq_true, List.all_eq_true] at h
  have hm : manyC (kcode n.kd) n.tx n.ks.length = true := h.2
  rw [toks_eq, tok_len (by rw [List.length_map]; exact hm), List.length_map]
  obtain ⟨kd, tx, ad, cp, ks⟩ := n
  rw [Nd.ntok]
  congr 1
  have hL : ∀ ks : List Nd, (∀ k ∈ ks, k.toks.length = k.ntok) → lenL (ks.map Nd.toks) = ntokL ks := by
    intro ks
    induction ks with
    | nil => intro _; rfl
    | cons k ks ihk =>
      intro h
      rw [ntokL, ← ihk (fun x hx => h x (by simp [hx])), ← h k (by simp)]
      simp [lenL]
  exact hL ks fun k hk => ih k hk (h.1 k hk)
theorem ns_eq {ks : List Nd} (h : ∀ k ∈ ks, k.shapedB = true) : (ks.map Nd.toks).map List.length = ks.map Nd.ntok := by
  rw [List.map_map]
  exact List.map_congr_left fun k hk => toks_len k (h k hk)
/-- A node below, where it begins. -/
theorem kid_at {n : Nd} (h : n.shapedB = true) (i j s : Nat) (k : Nd) (h1 : (starts (kcode n.kd) n.tx (n.ks.map Nd.ntok) i)[j]? = some s) (h2 : n.ks[j]? = some k) : At n.toks i s k.toks := by
  rw [Nd.shapedB_eq, Bool.and_eq_true, List.all_eq_true] at h
  have hm : manyC (kcode n.kd) n.tx n.ks.length = true := h.2
  rw [toks_eq]
  refine kids_at (by rw [List.length_map]; exact hm) j s k.toks ?_ (by rw [List.getElem?_map, h2]; rfl)
  rw [ns_eq h.1]
  exact h1
/-- The name of a selector. -/
theorem sel_at {n : Nd} (h : n.shapedB = true) (h6 : kcode n.kd = 6) (i : Nat) : At n.toks i (i + (n.ks.map Nd.ntok).getD 0 0 + 1) [n.tx] := by
  rw [Nd.shapedB_eq, Bool.and_eq_true, List.all_eq_true] at h
  have hm : manyC (kcode n.kd) n.tx n.ks.length = true := h.2
  rw [h6] at hm
  have hl : n.ks.length = 1 := by
    have hm : (n.ks.length == 1) = true := hm
    simpa using hm
  obtain ⟨x, hx⟩ := List.length_eq_one_iff.1 hl
  rw [toks_eq, h6, hx]
  have hxl := toks_len x (h.1 x (by rw [hx]; simp))
  exact .of (x.toks ++ [⟨#[46]⟩]) [] (by simp [tokOf, t0]) (by simp; omega)
/-! ### The nodes in preorder -/
theorem preL_mem : ∀ (ks : List Nd) (is : List Nat) (x : Nd × Nat), is.length = ks.length → x ∈ preL is ks → ∃ (q s : Nat) (k : Nd), is[q]? = some s ∧ ks[q]? = some k ∧ x ∈ k.pre s
  | [], _, x, _, h => by rw [preL] at h; cases h
  | k :: ks, [], x, hl, h => by simp at hl
  | k :: ks, i :: is, x, hl, h => by
    rw [preL] at h
    rcases List.mem_append.1 h with h | h
    · exact ⟨0, i, k, rfl, rfl, h⟩
    · obtain ⟨q, s, k', h1, h2, h3⟩ := preL_mem ks is x (by simpa using hl) h
      exact ⟨q + 1, s, k', by simpa using h1, by simpa using h2, h3⟩
theorem pre_eq (n : Nd) (i : Nat) : n.pre i = (n, i) :: (preL (starts (kcode n.kd) n.tx (n.ks.map Nd.ntok) i) n.ks ++ selPre (kcode n.kd) (i + (n.ks.map Nd.ntok).getD 0 0 + 1) n.tx) := by
  obtain ⟨kd, tx, ad, cp, ks⟩ := n
  rw [Nd.pre]
theorem nm_toks (tx : ByteArray) : (nmNd tx).toks = [tx] := by
  rw [toks_eq]
  have h0 : kcode (nmNd tx).kd ≤ 1 := Nat.le_of_ble_eq_true rfl
  unfold tokOf
  rw [if_pos h0]
  rfl
theorem pre_at : ∀ n : Nd, n.shapedB = true → ∀ (i : Nat) (x : Nd × Nat), x ∈ n.pre i → x.1.shapedB = true ∧ At n.toks i x.2 x.1.toks := by
  refine Nd.ind fun n ih h i x hx => ?_
  have h' := h
  rw [Nd.shapedB_eq, Bool.and_eq_true, List.all_eq_true] at h'
  have hm : manyC (kcode n.kd) n.tx n.ks.length = true := h'.2
  rw [pre_eq] at hx
  rcases List.mem_cons.1 hx with rfl | hx
  · exact ⟨h, At.refl _ _⟩
  · rcases List.mem_append.1 hx with hx | hx
    · obtain ⟨q, s, k, h1, h2, h3⟩ := preL_mem _ _ x (by rw [starts_len hm (by rw [List.length_map]), List.length_map]) hx
      have hk := List.mem_of_getElem? h2
      obtain ⟨p1, p2⟩ := ih k hk (h'.1 k hk) s x h3
      exact ⟨p1, (kid_at h i q s k h1 h2).trans p2⟩
    · unfold selPre at hx
      split at hx
      · rename_i h6
        obtain rfl := List.mem_singleton.1 hx
        refine ⟨rfl, ?_⟩
        show At n.toks i _ (nmNd n.tx).toks
        rw [nm_toks]
        exact sel_at h h6 i
      · cases hx
/-- Of two nodes in preorder the later is in the earlier or behind it. -/
def InOrAft (x y : Nd × Nat) : Prop := (x.2 ≤ y.2 ∧ y.2 + y.1.toks.length ≤ x.2 + x.1.toks.length) ∨ x.2 + x.1.toks.length ≤ y.2
theorem At.range {T t : List ByteArray} {i s : Nat} (h : At T i s t) : i ≤ s ∧ s + t.length ≤ i + T.length := by
  obtain ⟨a, b, rfl, rfl⟩ := h
  simp
  omega
theorem preL_order : ∀ (ks : List Nd) (is : List Nat), is.length = ks.length → (∀ k ∈ ks, k.shapedB = true) → (∀ k ∈ ks, ∀ i, (k.pre i).Pairwise InOrAft) → (∀ q q' n r r' : Nat, q < q' → (ks.map Nd.ntok)[q]? = some n → is[q]? = some r → is[q']? = some r' → r + n ≤ r') → (preL is ks).Pairwise InOrAft
  | [], _, _, _, _, _ => by rw [preL]; exact .nil
  | k :: ks, [], hl, _, _, _ => by simp at hl
  | k :: ks, i :: is, hl, hs, h, hm => by
    rw [preL, List.headD_cons, List.tail_cons]
    refine List.pairwise_append.2 ⟨h k (by simp) i, preL_order ks is (by simpa using hl) (fun x hx => hs x (by simp [hx])) (fun x hx => h x (by simp [hx])) (fun q q' n r r' hq h1 h2 h3 => hm (q + 1) (q' + 1) n r r' (by omega) (by simpa using h1) (by simpa using h2) (by simpa using h3)), fun a ha b hb => .inr ?_⟩
    obtain ⟨q, s, k', h1, h2, h3⟩ := preL_mem ks is b (by simpa using hl) hb
    have ha := (pre_at k (hs k (by simp)) i a ha).2.range
    have hb := (pre_at k' (hs k' (by simp [List.mem_of_getElem? h2])) s b h3).2.range
    have hge := hm 0 (q + 1) k.ntok i s (by omega) rfl rfl (by simpa using h1)
    have hl := toks_len k (hs k (by simp))
    omega
theorem pre_order : ∀ n : Nd, n.shapedB = true → ∀ i : Nat, (n.pre i).Pairwise InOrAft := by
  refine Nd.ind fun n ih h i => ?_
  have h' := h
  rw [Nd.shapedB_eq, Bool.and_eq_true, List.all_eq_true] at h'
  have hm : manyC (kcode n.kd) n.tx n.ks.length = true := h'.2
  rw [pre_eq]
  refine List.pairwise_cons.2 ⟨fun y hy => .inl ?_, List.pairwise_append.2 ⟨?_, ?_, fun a ha b hb => .inr ?_⟩⟩
  · have hy' : y ∈ n.pre i := by rw [pre_eq]; exact List.mem_cons_of_mem _ hy
    exact (pre_at n h i y hy').2.range
  · exact preL_order n.ks _ (by rw [starts_len hm (by rw [List.length_map]), List.length_map]) h'.1 (fun k hk => ih k hk (h'.1 k hk)) fun q q' n' r r' hq h1 h2 h3 => starts_mono hm (by rw [List.length_map]) hq h1 h2 h3
  · unfold selPre
    split
    · exact List.pairwise_singleton _ _
    · exact .nil
  · unfold selPre at hb
    split at hb
    · rename_i h6
      obtain rfl := List.mem_singleton.1 hb
      obtain ⟨q, s, k, h1, h2, h3⟩ := preL_mem _ _ a (by rw [starts_len hm (by rw [List.length_map]), List.length_map]) ha
      have hk := List.mem_of_getElem? h2
      have ha := (pre_at k (h'.1 k hk) s a h3).2.range
      have hl := toks_len k (h'.1 k hk)
      rw [h6] at hm h1
      have hl1 : n.ks.length = 1 := by
        have hm : (n.ks.length == 1) = true := hm
        simpa using hm
      obtain ⟨x, hx⟩ := List.length_eq_one_iff.1 hl1
      rw [hx] at h2
      rcases q with _ | q
      · simp at h2
        subst h2
        have hs : s = i := by simpa [starts] using h1.symm
        rw [hx]
        show a.2 + a.1.toks.length ≤ i + x.ntok + 1
        omega
      · simp at h2
    · cases hb
end Go.Proofs.YtjbhjbpamnoebaaGreatFmt

namespace Go.Proofs.YtjbhjbpamnoebaaGreatFmt
open Go.RowKit

/-- How long the last token is. -/
def lastLen (T : List ByteArray) : Int := ((T.getLast?).getD ⟨#[]⟩).size
/-- The end of a node whose first token is number i. -/
def endOf (P : Nat → Int) (i : Nat) (n : Nd) : Int := P (i + n.toks.length - 1) + lastLen n.toks
theorem last_app (a : List ByteArray) {t : List ByteArray} (h : t ≠ []) : lastLen (a ++ t) = lastLen t := by
  unfold lastLen
  rw [List.getLast?_append]
  cases ht : t.getLast? with
  | none => exact absurd (List.getLast?_eq_none_iff.1 ht) h
  | some x => rfl
theorem last_one (a : List ByteArray) (x : ByteArray) : lastLen (a ++ [x]) = x.size := by
  unfold lastLen
  rw [List.getLast?_append]
  rfl
theorem last_nonneg (T : List ByteArray) : 0 ≤ lastLen T := by
  unfold lastLen
  omega
theorem last_get (T : List ByteArray) : lastLen T = ((T[T.length - 1]?).getD ⟨#[]⟩).size := by
  unfold lastLen
  rw [List.getLast?_eq_getElem?]
theorem toks_pos {n : Nd} (h : n.shapedB = true) : 1 ≤ n.toks.length := by
  have h' := h
  rw [Nd.shapedB_eq, Bool.and_eq_true, List.all_eq_true] at h'
  have hm : manyC (kcode n.kd) n.tx n.ks.length = true := h'.2
  rw [toks_eq, tok_len (by rw [List.length_map]; exact hm)]
  have : 1 ≤ ownTok (kcode n.kd) n.tx (n.ks.map Nd.toks).length := by
    unfold ownTok
    repeat' split
    all_goals omega
  omega
/-! ### The end, by kinds -/
theorem end_at {P : Nat → Int} {n k : Nd} {i s : Nat} {a : List ByteArray} (hk : k.shapedB = true) (hT : n.toks = a ++ k.toks) (hs : s = i + a.length) : endOf P i n = endOf P s k := by
  have h1 := toks_pos hk
  have hne : k.toks ≠ [] := fun h => by rw [h] at h1; simp at h1
  unfold endOf
  rw [hT, last_app a hne, List.length_append, hs]
  congr 2
  omega
theorem end_tok {P : Nat → Int} {n : Nd} {i : Nat} {a : List ByteArray} {x : ByteArray} (hT : n.toks = a ++ [x]) : endOf P i n = P (i + a.length) + x.size := by
  unfold endOf
  rw [hT, last_one, List.length_append, List.length_singleton]
  congr 2
/-! ### The spans nest -/
section
variable {P : Nat → Int} {T : List ByteArray}
/-- The places keep the tokens apart. -/
def MonoP (P : Nat → Int) (T : List ByteArray) : Prop := ∀ (k : Nat) (t : ByteArray), T[k]? = some t → k + 1 < T.length → P k + t.size ≤ P (k + 1)
/-- The end of token number l. -/
def eAt (P : Nat → Int) (T : List ByteArray) (l : Nat) : Int := P l + ((T[l]?).getD ⟨#[]⟩).size
theorem MonoP.le_end (P : Nat → Int) (T : List ByteArray) (a : Nat) : P a ≤ eAt P T a := by
  unfold eAt
  omega
theorem MonoP.step (h : MonoP P T) {a : Nat} (ha : a + 1 < T.length) : eAt P T a ≤ P (a + 1) := by
  have hx : T[a]? = some T[a] := List.getElem?_eq_getElem (by omega)
  have := h a _ hx ha
  unfold eAt
  rw [hx]
  exact this
theorem MonoP.lt (h : MonoP P T) {a : Nat} : ∀ (d : Nat), a + 1 + d < T.length → eAt P T a ≤ P (a + 1 + d)
  | 0, hd => h.step hd
  | d + 1, hd => by
    have h1 := h.lt (a := a) d (by omega)
    have h2 := h.step (a := a + 1 + d) (by omega)
    have h3 := MonoP.le_end P T (a + 1 + d)
    have e : a + 1 + (d + 1) = a + 1 + d + 1 := by omega
    rw [e]
    omega
theorem MonoP.lt' (h : MonoP P T) {a b : Nat} (hab : a < b) (hb : b < T.length) : eAt P T a ≤ P b := by
  have := h.lt (a := a) (b - a - 1) (by omega)
  have e : a + 1 + (b - a - 1) = b := by omega
  rwa [e] at this
theorem MonoP.ends (h : MonoP P T) {a b : Nat} (hab : a ≤ b) (hb : b < T.length) : eAt P T a ≤ eAt P T b := by
  by_cases e : a = b
  · subst e
    exact Int.le_refl _
  · exact Int.le_trans (h.lt' (by omega) hb) (MonoP.le_end _ _ _)
theorem MonoP.le (h : MonoP P T) {a b : Nat} (hab : a ≤ b) (hb : b < T.length) : P a ≤ P b := by
  by_cases e : a = b
  · subst e
    exact Int.le_refl _
  · exact Int.le_trans (MonoP.le_end _ _ _) (h.lt' (by omega) hb)
end
theorem end_e {P : Nat → Int} {T : List ByteArray} {x : Nd × Nat} (h : At T 0 x.2 x.1.toks) (hp : 1 ≤ x.1.toks.length) : endOf P x.2 x.1 = eAt P T (x.2 + x.1.toks.length - 1) ∧ x.2 + x.1.toks.length - 1 < T.length := by
  obtain ⟨_, h1, h2⟩ := h.get (k := x.1.toks.length - 1) (by omega)
  have e : x.2 - 0 + (x.1.toks.length - 1) = x.2 + x.1.toks.length - 1 := by omega
  rw [e] at h1 h2
  refine ⟨?_, h1⟩
  unfold endOf eAt
  rw [last_get, h2]
/-- One in the other or apart, and all in the first. -/
theorem nest {P : Nat → Int} {n : Nd} (hs : n.shapedB = true) (hP : MonoP P n.toks) : (∀ x ∈ n.pre 0, P x.2 ≤ endOf P x.2 x.1 ∧ P 0 ≤ P x.2 ∧ endOf P x.2 x.1 ≤ endOf P 0 n) ∧
    (n.pre 0).Pairwise fun x y => ¬ (P y.2 < endOf P x.2 x.1 ∧ endOf P x.2 x.1 < endOf P y.2 y.1) := by
  have hall : ∀ x ∈ n.pre 0, At n.toks 0 x.2 x.1.toks ∧ 1 ≤ x.1.toks.length := fun x hx => ⟨(pre_at n hs 0 x hx).2, toks_pos (pre_at n hs 0 x hx).1⟩
  have hn := toks_pos hs
  have hroot := end_e (P := P) (x := (n, 0)) (At.refl n.toks 0) hn
  have hroot1 : endOf P 0 n = eAt P n.toks (0 + n.toks.length - 1) := hroot.1
  refine ⟨fun x hx => ?_, ?_⟩
  · obtain ⟨h1, h2⟩ := hall x hx
    obtain ⟨e1, e2⟩ := end_e (P := P) h1 h2
    have hr := h1.range
    rw [e1, hroot1]
    refine ⟨Int.le_trans (hP.le (b := x.2 + x.1.toks.length - 1) (by omega) e2) (MonoP.le_end _ _ _), hP.le (Nat.zero_le _) (by omega), hP.ends (by omega) (by omega)⟩
  · refine (pre_order n hs 0).imp_of_mem fun hx hy hxy => ?_
    rename_i x y
    obtain ⟨h1, h2⟩ := hall x hx
    obtain ⟨k1, k2⟩ := hall y hy
    obtain ⟨e1, e2⟩ := end_e (P := P) h1 h2
    obtain ⟨f1, f2⟩ := end_e (P := P) k1 k2
    rw [e1, f1]
    rintro ⟨q1, q2⟩
    rcases hxy with ⟨_, h⟩ | h
    · have := hP.ends (a := y.2 + y.1.toks.length - 1) (b := x.2 + x.1.toks.length - 1) (by omega) e2
      omega
    · have := hP.lt' (a := x.2 + x.1.toks.length - 1) (b := y.2) (by omega) (by omega)
      omega
/-! ### The places -/
def gapOf (gaps : List Int) (i : Nat) : Int := match gaps[i]? with
  | some g => max 0 (min g 1000)
  | none => 1
theorem gapOf_le (gaps : List Int) (i : Nat) : 0 ≤ gapOf gaps i ∧ gapOf gaps i ≤ 1000 := by
  unfold gapOf
  split <;> omega
def startsL (gaps : List Int) : Nat → Int → List ByteArray → List Int
  | _, _, [] => []
  | i, at_, t :: ts => (at_ + gapOf gaps i) :: startsL gaps (i + 1) (at_ + gapOf gaps i + t.size) ts
theorem startsL_len (gaps : List Int) : ∀ (ts : List ByteArray) (i : Nat) (a : Int), (startsL gaps i a ts).length = ts.length
  | [], _, _ => rfl
  | t :: ts, i, a => by rw [startsL, List.length_cons, startsL_len gaps ts, List.length_cons]
theorem startsL_ge (gaps : List Int) : ∀ (ts : List ByteArray) (i : Nat) (a : Int) (k : Nat) (x : Int), (startsL gaps i a ts)[k]? = some x → a ≤ x
  | [], _, _, k, x, h => by simp [startsL] at h
  | t :: ts, i, a, k, x, h => by
    have hg := gapOf_le gaps i
    rw [startsL] at h
    rcases k with _ | k
    · simp at h
      omega
    · rw [List.getElem?_cons_succ] at h
      have := startsL_ge gaps ts _ _ k x h
      omega
def sumSize (ts : List ByteArray) : Nat := (ts.map ByteArray.size).sum
theorem startsL_le (gaps : List Int) : ∀ (ts : List ByteArray) (i : Nat) (a : Int) (k : Nat) (x : Int), (startsL gaps i a ts)[k]? = some x → x ≤ a + 1000 * ts.length + sumSize ts
  | [], _, _, k, x, h => by simp [startsL] at h
  | t :: ts, i, a, k, x, h => by
    have hg := gapOf_le gaps i
    have hss : sumSize (t :: ts) = t.size + sumSize ts := by simp [sumSize]
    rw [startsL] at h
    rw [hss, List.length_cons]
    rcases k with _ | k
    · simp at h
      omega
    · rw [List.getElem?_cons_succ] at h
      have := startsL_le gaps ts _ _ k x h
      omega
theorem startsL_mono (gaps : List Int) : ∀ (ts : List ByteArray) (i : Nat) (a : Int) (k : Nat) (x y : Int) (t : ByteArray), (startsL gaps i a ts)[k]? = some x → (startsL gaps i a ts)[k + 1]? = some y → ts[k]? = some t → x + t.size ≤ y
  | [], _, _, k, x, y, t, h, _, _ => by simp [startsL] at h
  | u :: ts, i, a, k, x, y, t, h1, h2, h3 => by
    rw [startsL] at h1 h2
    rcases k with _ | k
    · rw [List.getElem?_cons_succ] at h2
      simp at h1 h3
      have := startsL_ge gaps ts _ _ 0 y h2
      subst h3
      omega
    · rw [List.getElem?_cons_succ] at h1 h2 h3
      exact startsL_mono gaps ts _ _ k x y t h1 h2 h3
theorem monoP_starts (gaps : List Int) (ts : List ByteArray) : MonoP (posOf (startsL gaps 0 1 ts)) ts := fun k t hk hlt => by
  have hl := startsL_len gaps ts 0 1
  have h1 : (startsL gaps 0 1 ts)[k]? = some (startsL gaps 0 1 ts)[k] := List.getElem?_eq_getElem (by omega)
  have h2 : (startsL gaps 0 1 ts)[k + 1]? = some (startsL gaps 0 1 ts)[k + 1] := List.getElem?_eq_getElem (by omega)
  have := startsL_mono gaps ts 0 1 k _ _ t h1 h2 hk
  unfold posOf
  rw [List.getD_eq_getElem?_getD, List.getD_eq_getElem?_getD, h1, h2]
  exact this
/-- The spans of a tree's nodes. -/
def spansOf (P : Nat → Int) (n : Nd) : List (ByteArray × Int × Int) := (n.pre 0).map fun x => (x.1.kd, P x.2, endOf P x.2 x.1)
end Go.Proofs.YtjbhjbpamnoebaaGreatFmt

namespace Go.Proofs.YtjbhjbpamnoebaaGreatFmt
open Go.RowKit

theorem first_kid {c i : Nat} {tx : ByteArray} {ks : List Nd} (h : manyC c tx ks.length = true) (hc : c = 5 ∨ c = 6 ∨ c = 7 ∨ c = 8 ∨ c = 9 ∨ c = 11 ∨ c = 12 ∨ (c = 13 ∧ tx.data.toList.isEmpty = false)) :
    ∃ k, ks[0]? = some k ∧ (starts c tx (ks.map Nd.ntok) i)[0]? = some i := by
  have hne : 0 < ks.length := by
    rcases forms h with ⟨h1, hk⟩ | ⟨h1, hk⟩ | ⟨h1, hk⟩ | ⟨h1, hk⟩ | ⟨h1, hk⟩ | ⟨h1, hk⟩ | ⟨h1, hk⟩
    · omega
    · omega
    · omega
    · rcases hk with ⟨_, hk⟩ | ⟨_, hk⟩ | ⟨_, hk⟩ | ⟨_, hk⟩ | ⟨_, hk⟩ | ⟨_, hk⟩ <;> omega
    · exact hk.1
    · rcases hk with e | ⟨_, hk⟩
      · rcases hc with hc | hc | hc | hc | hc | hc | hc | ⟨_, hc⟩
        all_goals first
          | omega
          | (rw [hc] at e; cases e)
      · exact hk
    · omega
  refine ⟨ks[0], List.getElem?_eq_getElem hne, ?_⟩
  rcases hc with rfl | rfl | rfl | rfl | rfl | rfl | rfl | ⟨rfl, hc⟩
  all_goals first
    | rfl
    | (simp [starts, hc])
theorem last_kid {c i : Nat} {tx : ByteArray} {ks : List Nd} (h : manyC c tx ks.length = true) {j : Nat} (hc : ((c = 3 ∨ c = 4) ∧ j = 0) ∨ ((c = 5 ∨ c = 9 ∨ c = 10) ∧ j = 1) ∨ (c = 14 ∧ ks.length = j + 1)) :
    ∃ k s, ks[j]? = some k ∧ (starts c tx (ks.map Nd.ntok) i)[j]? = some s ∧ s + k.ntok = i + (ownTok c tx ks.length + ntokL ks) := by
  have h1 : ∀ {l : List Nd}, l.length = 1 → ∃ x, l = [x] := fun h => List.length_eq_one_iff.1 h
  have h2 : ∀ {l : List Nd}, l.length = 2 → ∃ x y, l = [x, y] := fun {l} h => by
    match l, h with
    | [x, y], _ => exact ⟨x, y, rfl⟩
  have hL1 : ∀ x : Nd, ntokL [x] = x.ntok := fun x => by simp [ntokL]
  have hL2 : ∀ x y : Nd, ntokL [x, y] = x.ntok + y.ntok := fun x y => by simp [ntokL]
  rcases forms h with ⟨h3, hk⟩ | ⟨h3, hk⟩ | ⟨h3, hk⟩ | ⟨h3, hk⟩ | ⟨h3, hk⟩ | ⟨h3, hk⟩ | ⟨h3, hk⟩
  · omega
  · obtain ⟨x, rfl⟩ := h1 hk
    rcases hc with ⟨hc, rfl⟩ | ⟨hc, rfl⟩ | ⟨rfl, hc⟩
    · refine ⟨x, i + 1, rfl, ?_, ?_⟩
      · rcases hc with rfl | rfl <;> rfl
      · rw [hL1]
        rcases hc with rfl | rfl <;> simp [ownTok] <;> omega
    · omega
    · omega
  · obtain ⟨x, y, rfl⟩ := h2 hk
    rcases hc with ⟨hc, rfl⟩ | ⟨hc, rfl⟩ | ⟨rfl, hc⟩
    · omega
    · rcases hc with rfl | rfl | rfl
      · exact ⟨y, i + x.ntok + 1, rfl, rfl, by rw [hL2]; simp [ownTok]; omega⟩
      · exact ⟨y, i + x.ntok + 1, rfl, rfl, by rw [hL2]; simp [ownTok]; omega⟩
      · exact ⟨y, i + 3 + x.ntok, rfl, rfl, by rw [hL2]; simp [ownTok]; omega⟩
    · omega
  · omega
  · omega
  · omega
  · rcases hc with ⟨hc, rfl⟩ | ⟨hc, rfl⟩ | ⟨rfl, hc⟩
    · omega
    · omega
    · rcases hk with hk | hk
      · obtain ⟨x, rfl⟩ := h1 hk
        obtain rfl : j = 0 := by omega
        exact ⟨x, i + 2, rfl, rfl, by rw [hL1]; simp [ownTok]; omega⟩
      · obtain ⟨x, y, rfl⟩ := h2 hk
        obtain rfl : j = 1 := by omega
        exact ⟨y, i + 1 + x.ntok + 1, rfl, rfl, by rw [hL2]; simp [ownTok]; omega⟩
theorem end_in {P : Nat → Int} {n k : Nd} {i s : Nat} (hk : k.shapedB = true) (hA : At n.toks i s k.toks) (he : s + k.toks.length = i + n.toks.length) : endOf P i n = endOf P s k := by
  obtain ⟨a, b, hT, hs⟩ := hA
  have hb : b = [] := by
    rw [hT] at he
    simp at he
    exact List.length_eq_zero_iff.1 (by omega)
  subst hb
  exact end_at hk (by rw [hT, List.append_nil]) hs
theorem tok_close {c : Nat} {tx : ByteArray} {ts : List (List ByteArray)} (hc : c = 2 ∨ c = 7 ∨ c = 8 ∨ c = 11 ∨ c = 12 ∨ c = 13) : ∃ (a : List ByteArray) (x : UInt8), tokOf c tx ts = a ++ [⟨#[x]⟩] := by
  rcases hc with rfl | rfl | rfl | rfl | rfl | rfl
  · exact ⟨_, _, rfl⟩
  · exact ⟨_, _, rfl⟩
  · exact ⟨_, _, rfl⟩
  · exact ⟨_, _, rfl⟩
  · exact ⟨_, _, rfl⟩
  · cases e : tx.data.toList.isEmpty
    · exact ⟨t0 ts 0 ++ [⟨#[123]⟩] ++ commaT (ts.drop 1), 125, by simp [tokOf, e]⟩
    · exact ⟨[⟨#[123]⟩] ++ commaT ts, 125, by simp [tokOf, e]⟩
theorem end_close {P : Nat → Int} {n : Nd} {i : Nat} (h : n.shapedB = true) (hc : kcode n.kd = 2 ∨ kcode n.kd = 7 ∨ kcode n.kd = 8 ∨ kcode n.kd = 11 ∨ kcode n.kd = 12 ∨ kcode n.kd = 13) :
    endOf P i n = P (i + n.ntok - 1) + 1 := by
  obtain ⟨a, x, hT⟩ := tok_close (tx := n.tx) (ts := n.ks.map Nd.toks) hc
  rw [← toks_eq] at hT
  have hl := toks_len n h
  rw [hT, List.length_append, List.length_singleton] at hl
  rw [end_tok hT, ← hl]
  rfl
theorem ntok_def (n : Nd) : n.ntok = ownTok (kcode n.kd) n.tx n.ks.length + ntokL n.ks := by
  obtain ⟨kd, tx, ad, cp, ks⟩ := n
  rw [Nd.ntok]
theorem end_one {P : Nat → Int} {n : Nd} {i : Nat} (hc : kcode n.kd ≤ 1) : endOf P i n = P i + n.tx.size := by
  have hT : n.toks = [] ++ [n.tx] := by
    rw [toks_eq]
    unfold tokOf
    rw [if_pos hc]
    rfl
  rw [end_tok hT]
  rfl
theorem end_sel {P : Nat → Int} {n : Nd} {i : Nat} (h : n.shapedB = true) (hc : kcode n.kd = 6) : endOf P i n = P (i + (n.ks.map Nd.ntok).getD 0 0 + 1) + n.tx.size := by
  have h' := h
  rw [Nd.shapedB_eq, Bool.and_eq_true, List.all_eq_true] at h'
  have hm : manyC (kcode n.kd) n.tx n.ks.length = true := h'.2
  have hl : n.ks.length = 1 := by
    rcases forms hm with ⟨h3, hk⟩ | ⟨h3, hk⟩ | ⟨h3, hk⟩ | ⟨h3, hk⟩ | ⟨h3, hk⟩ | ⟨h3, hk⟩ | ⟨h3, hk⟩ <;> omega
  obtain ⟨x, hx⟩ := List.length_eq_one_iff.1 hl
  have hT : n.toks = (x.toks ++ [⟨#[46]⟩]) ++ [n.tx] := by
    rw [toks_eq, hc, hx]
    rfl
  have hxl := toks_len x (h'.1 x (by rw [hx]; simp))
  rw [end_tok hT, hx, List.length_append, List.length_singleton, hxl]
  rfl
end Go.Proofs.YtjbhjbpamnoebaaGreatFmt
