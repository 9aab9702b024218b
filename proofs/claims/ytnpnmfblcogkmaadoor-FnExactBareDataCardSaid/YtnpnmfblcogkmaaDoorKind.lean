/-
  The kinds of nodes, and what spec.Shaped tells of a tree: plain definitions and laws, no program in sight.
-/
import Derived.Test.YtnpnmfblcogkmaaDoorTree
import Derived.Test.YtnpnmfblcogkmaaDoorPre
namespace Go.Proofs.YtnpnmfblcogkmaaDoor
open Go.RowKit

def kName : List UInt8 := [110, 97, 109, 101]
def kLiteral : List UInt8 := [108, 105, 116, 101, 114, 97, 108]
def kParen : List UInt8 := [112, 97, 114, 101, 110]
def kStar : List UInt8 := [115, 116, 97, 114]
def kUnary : List UInt8 := [117, 110, 97, 114, 121]
def kBinary : List UInt8 := [98, 105, 110, 97, 114, 121]
def kSelect : List UInt8 := [115, 101, 108, 101, 99, 116]
def kIndex : List UInt8 := [105, 110, 100, 101, 120]
def kAssert : List UInt8 := [97, 115, 115, 101, 114, 116]
def kKey : List UInt8 := [107, 101, 121]
def kMap : List UInt8 := [109, 97, 112]
def kSlice : List UInt8 := [115, 108, 105, 99, 101]
def kCall : List UInt8 := [99, 97, 108, 108]
def kComposite : List UInt8 := [99, 111, 109, 112, 111, 115, 105, 116, 101]
def kArray : List UInt8 := [97, 114, 114, 97, 121]
/-- The kinds, by number. -/
def kindList : List (List UInt8) := [kName, kLiteral, kParen, kStar, kUnary, kBinary, kSelect, kIndex, kAssert, kKey, kMap, kSlice, kCall, kComposite, kArray]
def kcode (b : ByteArray) : Nat := kindList.idxOf b.data.toList
theorem kcode_at {b : ByteArray} {c : Nat} (h : kcode b = c) (hc : c < 15) : b.data.toList = kindList.getD c [] := by
  subst h
  unfold kcode at hc ⊢
  have hl : kindList.idxOf b.data.toList < kindList.length := hc
  rw [List.getD_eq_getElem?_getD, List.getElem?_eq_getElem hl, Option.getD_some]
  exact (List.getElem_idxOf hl).symm
theorem bytes_ext {a b : ByteArray} (h : a.data.toList = b.data.toList) : a = b := by
  obtain ⟨⟨a⟩⟩ := a
  obtain ⟨⟨b⟩⟩ := b
  simp at h
  rw [h]
theorem kind_eq {b : ByteArray} {c : Nat} (h : kcode b = c) (hc : c < 15) (k : ByteArray) (hk : k.data.toList = kindList.getD c []) : b = k := bytes_ext ((kcode_at h hc).trans hk.symm)

/-- How many ends the text of a slice tells. -/
def slN (l : List UInt8) : Option Nat := if l = [] then some 0 else if l = [108] then some 1 else if l = [104] then some 1 else if l = [108, 104] then some 2 else if l = [104, 109, 115] then some 2 else if l = [108, 104, 109, 115] then some 3 else none
def wellSl (tx : ByteArray) (k : Nat) : Bool := match slN tx.data.toList with
  | some m => k == m + 1
  | none => false
def unOps : List ByteArray := [⟨#[43]⟩, ⟨#[45]⟩, ⟨#[33]⟩, ⟨#[94]⟩, ⟨#[38]⟩]

/-- spec.many, of a kind's number, a text, and how many nodes are below. -/
def manyC (c : Nat) (tx : ByteArray) (k : Nat) : Bool :=
  let plain := tx.data.toList.isEmpty
  if c ≤ 1 then k == 0
  else if c ≤ 3 then plain && k == 1
  else if c = 4 then has unOps tx && k == 1
  else if c = 5 then decide (0 < precS tx) && k == 2
  else if c = 6 then k == 1
  else if c ≤ 10 then plain && k == 2
  else if c = 11 then wellSl tx k
  else if c = 12 then decide (0 < k) && (plain || ((tx.data.toList == [46, 46, 46]) && decide (1 < k)))
  else if c = 13 then plain || ((tx.data.toList == [116, 121, 112, 101]) && decide (0 < k))
  else if c = 14 then plain && (k == 1 || k == 2)
  else false
def Nd.manyB (n : Nd) : Bool := manyC (kcode n.kd) n.tx n.ks.length

mutual
def Nd.shapedB : Nd → Bool
  | ⟨k, t, _, _, ks⟩ => shapedL ks && manyC (kcode k) t ks.length
def shapedL : List Nd → Bool
  | [] => true
  | k :: ks => k.shapedB && shapedL ks
end
mutual
def Nd.shortB : Nd → Bool
  | ⟨_, t, _, _, ks⟩ => decide (t.size ≤ 1048576) && shortL ks
def shortL : List Nd → Bool
  | [] => true
  | k :: ks => k.shortB && shortL ks
end
/- spec.count: whether there are few nodes, and how many are left. -/
mutual
def Nd.cnt : Nd → Int → Nat → Bool × Int
  | ⟨_, _, _, _, ks⟩, l, d => if l - 1 < 0 ∨ 30 < d ∨ l - 1 < ks.length then (false, l - 1) else cntL ks (l - 1) (d + 1)
def cntL : List Nd → Int → Nat → Bool × Int
  | [], l, _ => (true, l)
  | k :: ks, l, d => if (k.cnt l d).1 then cntL ks (k.cnt l d).2 d else (false, (k.cnt l d).2)
end
theorem shapedL_all (ks : List Nd) : shapedL ks = ks.all Nd.shapedB := by
  induction ks with
  | nil => rfl
  | cons k ks ih => simp [shapedL, ih]
theorem shortL_all (ks : List Nd) : shortL ks = ks.all Nd.shortB := by
  induction ks with
  | nil => rfl
  | cons k ks ih => simp [shortL, ih]
theorem Nd.shapedB_eq (n : Nd) : n.shapedB = (n.ks.all Nd.shapedB && n.manyB) := by
  obtain ⟨k, t, a, c, ks⟩ := n
  simp [Nd.shapedB, shapedL_all, Nd.manyB]
theorem Nd.shortB_eq (n : Nd) : n.shortB = (decide (n.tx.size ≤ 1048576) && n.ks.all Nd.shortB) := by
  obtain ⟨k, t, a, c, ks⟩ := n
  simp [Nd.shortB, shortL_all]
theorem Nd.size_eq (n : Nd) : n.size = 1 + sizeL n.ks := by
  obtain ⟨k, t, a, c, ks⟩ := n
  simp [Nd.size]

/-- What spec.Shaped gives. -/
def Nd.okB (n : Nd) : Bool := (n.cnt 400 0).1 && n.shortB && n.shapedB
theorem cntL_spec : ∀ (ks : List Nd) (l : Int) (d : Nat), (∀ k ∈ ks, ∀ (l : Int) (d : Nat), (k.cnt l d).1 = true → (k.cnt l d).2 = l - k.size ∧ 0 ≤ (k.cnt l d).2) → 0 ≤ l → (cntL ks l d).1 = true → (cntL ks l d).2 = l - sizeL ks ∧ 0 ≤ (cntL ks l d).2
  | [], l, d, _, h0, _ => by simp [cntL, sizeL]; exact h0
  | k :: ks, l, d, hk, h0, h => by
    rw [cntL] at h ⊢
    by_cases hc : (k.cnt l d).1 = true
    · rw [if_pos hc] at h ⊢
      have h1 := hk k (List.mem_cons_self ..) l d hc
      have h2 := cntL_spec ks _ d (fun x hx => hk x (List.mem_cons_of_mem _ hx)) h1.2 h
      rw [sizeL]
      omega
    · rw [if_neg hc] at h
      cases h
theorem Nd.cnt_spec : ∀ (n : Nd) (l : Int) (d : Nat), (n.cnt l d).1 = true → (n.cnt l d).2 = l - n.size ∧ 0 ≤ (n.cnt l d).2 := by
  refine Nd.ind fun n ih l d h => ?_
  obtain ⟨kd, tx, ad, cp, ks⟩ := n
  rw [Nd.cnt] at h ⊢
  rw [Nd.size]
  split at h
  · cases h
  · rename_i hc
    rw [if_neg hc]
    have := cntL_spec ks (l - 1) (d + 1) ih (by omega) h
    omega
theorem Nd.okB_size {n : Nd} (h : n.okB = true) : n.size ≤ 400 := by
  simp only [Nd.okB, Bool.and_eq_true] at h
  have := n.cnt_spec 400 0 h.1.1
  omega
end Go.Proofs.YtnpnmfblcogkmaaDoor
