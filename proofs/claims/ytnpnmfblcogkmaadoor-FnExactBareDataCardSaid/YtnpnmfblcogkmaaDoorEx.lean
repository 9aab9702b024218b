/-
  Blocks known whole; the expression of a tree as impl.builder makes it: 'ExR w S P i n v': v is the expression of n, whose first token is number i, the tokens standing at the places P; all its blocks are of the set S.
-/
import Derived.Test.YtnpnmfblcogkmaaDoorKind
import Derived.Test.YtnpnmfblcogkmaaDoorTok
namespace Go.Proofs.YtnpnmfblcogkmaaDoor
open Go.RowKit

/-! ### A block known whole -/
def Blk (w : World) (g : Nat) (t : TypeId) (cs : Array Value) : Prop := w.heap[g]? = some (.cells cs t (0, 0))
section
variable {w w' : World} {g : Nat} {t : TypeId} {cs : Array Value}
theorem Blk.lt (h : Blk w g t cs) : g < w.heap.size := by
  unfold Blk at h
  exact (Array.getElem?_eq_some_iff.1 h).1
theorem Blk.cell (h : Blk w g t cs) (i : Nat) : w.cell? ⟨g, i, none⟩ = cs[i]? := cell_of_row w g i cs t (0, 0) h
theorem Blk.frozen (h : Blk w g t cs) (i : Nat) : w.frozen? ⟨g, i, none⟩ = false := frozen_of_row w g i cs t h
theorem Blk.new (w : World) (t : TypeId) (cs : Array Value) : Blk (w.alloc (.cells cs t)) w.heap.size t cs := heap_alloc_new w _
theorem Blk.keep (h : Blk w g t cs) (he : w'.heap[g]? = w.heap[g]?) : Blk w' g t cs := he.trans h
theorem Blk.alloc (h : Blk w g t cs) (o : Obj) : Blk (w.alloc o) g t cs := h.keep (Below.heap_alloc w o g h.lt)
theorem Blk.set_ (h : Blk w g t cs) (i : Nat) (u : Value) : Blk (w.setCell ⟨g, i, none⟩ u) g t (cs.setIfInBounds i u) := by
  unfold Blk at h ⊢
  simp [World.setCell, Array.getElem?_modify, h]
theorem Blk.far (h : Blk w g t cs) {p : Addr} (hp : g ≠ p.block) (u : Value) : Blk (w.setCell p u) g t cs := h.keep (Below.heap_setCell w p u g hp)
theorem Blk.below {B : Nat} (h : Blk w g t cs) (hb : Below B w w') (hg : g < B) : Blk w' g t cs := h.keep (hb.block g hg)
theorem Blk.grown {row : Option Nat} (h : Blk w g t cs) (hb : w.grownBy w' row) (hg : some g ≠ row) : Blk w' g t cs := h.keep (hb.block g h.lt hg)
theorem Blk.drew (h : Blk w g t cs) : Blk w.drew g t cs := h
end

/-! ### Tokens, and where those of the nodes below begin -/
/-- A node's own tokens. -/
def ownTok (c : Nat) (tx : ByteArray) (k : Nat) : Nat :=
  if c ≤ 1 then 1
  else if c = 2 then 2
  else if c ≤ 5 then 1
  else if c ≤ 7 then 2
  else if c = 8 then 3
  else if c = 9 then 1
  else if c = 10 then 3
  else if c = 11 then (if tx.data.toList.contains 115 then 4 else 3)
  else if c = 12 then 2 + (k - 2) + (if tx.data.toList.isEmpty then 0 else 1)
  else if c = 13 then 2 + ((if tx.data.toList.isEmpty then k else k - 1) - 1)
  else 2
mutual
def Nd.ntok : Nd → Nat
  | ⟨kd, tx, _, _, ks⟩ => ownTok (kcode kd) tx ks.length + ntokL ks
def ntokL : List Nd → Nat
  | [] => 0
  | k :: ks => k.ntok + ntokL ks
end
/-- Where nodes with commas between begin. -/
def commas : Nat → List Nat → List Nat
  | _, [] => []
  | s, n :: ns => s :: commas (s + n + 1) ns
/-- Where the ends of a slice begin, the first token behind the bracket being number j. -/
def endStarts (l : List UInt8) (j : Nat) (ns : List Nat) : List Nat :=
  if l = [108] then [j]
  else if l = [104] then [j + 1]
  else if l = [108, 104] then [j, j + ns.getD 0 0 + 1]
  else if l = [104, 109, 115] then [j + 1, j + 1 + ns.getD 0 0 + 1]
  else if l = [108, 104, 109, 115] then [j, j + ns.getD 0 0 + 1, j + ns.getD 0 0 + 1 + ns.getD 1 0 + 1]
  else []
/-- Where the nodes below begin. -/
def starts (c : Nat) (tx : ByteArray) (ns : List Nat) (i : Nat) : List Nat :=
  if c ≤ 1 then []
  else if c ≤ 4 then [i + 1]
  else if c = 5 then [i, i + ns.getD 0 0 + 1]
  else if c = 6 then [i]
  else if c = 7 then [i, i + ns.getD 0 0 + 1]
  else if c = 8 then [i, i + ns.getD 0 0 + 2]
  else if c = 9 then [i, i + ns.getD 0 0 + 1]
  else if c = 10 then [i + 2, i + 3 + ns.getD 0 0]
  else if c = 11 then i :: endStarts tx.data.toList (i + ns.getD 0 0 + 1) (ns.drop 1)
  else if c = 12 then i :: commas (i + ns.getD 0 0 + 1) (ns.drop 1)
  else if c = 13 then (if tx.data.toList.isEmpty then commas (i + 1) ns else i :: commas (i + ns.getD 0 0 + 1) (ns.drop 1))
  else (if ns.length = 2 then [i + 1, i + 1 + ns.getD 0 0 + 1] else [i + 2])

/-- The number of an operator. -/
def opTexts : List (List UInt8) := (tab.drop 12).take 47
def opNo (tx : ByteArray) : Nat := 12 + opTexts.idxOf tx.data.toList

/-- A slice of expressions, of the builder's own make. -/
def SlAt (w : World) (S : Nat → Prop) (sv : Value) (vs : List Value) : Prop :=
  (vs = [] ∧ sv = .slice none 0 0) ∨
  ∃ g cap cs, sv = .slice (some ⟨g, 0, none⟩) vs.length cap ∧ S g ∧ Blk w g 46 cs ∧ 0 < vs.length ∧ vs.length ≤ cap ∧ cap ≤ maxLen ∧ cs.toList.take vs.length = vs
def ptr (t : TypeId) (b : Nat) : Value := .iface t (.pointer (some ⟨b, 0, none⟩))
def int (x : Int) : Value := .int .i64 x
def v0 (vs : List Value) (j : Nat) : Value := vs.getD j .nilIface
/-- The three ends of a slice: those that are there. -/
def lowV (l : List UInt8) (vs : List Value) : Value := if l.contains 108 then v0 vs 1 else .nilIface
def highV (l : List UInt8) (vs : List Value) : Value := if l.contains 104 then (if l.contains 108 then v0 vs 2 else v0 vs 1) else .nilIface
def maxV (l : List UInt8) (vs : List Value) : Value := if l.contains 109 then (if l.contains 108 then v0 vs 3 else v0 vs 2) else .nilIface

/-- The block of a node: its kind's number, its text, how many tokens the nodes below have, its first token's number, how many tokens it has, and the expressions below it. -/
def NodeAt (w : World) (S : Nat → Prop) (P : Nat → Int) (c : Nat) (tx : ByteArray) (ns : List Nat) (i tot : Nat) (vs : List Value) (v : Value) : Prop :=
  ∃ b, S b ∧ match c with
    | 0 => v = ptr 56 b ∧ Blk w b 60 #[int (P i), .string tx, .pointer none]
    | 1 => v = ptr 61 b ∧ Blk w b 63 #[int (P i), int (P i + tx.size), int 5, .string tx]
    | 2 => v = ptr 64 b ∧ Blk w b 67 #[int (P i), v0 vs 0, int (P (i + tot - 1))]
    | 3 => v = ptr 71 b ∧ Blk w b 73 #[int (P i), v0 vs 0]
    | 4 => v = ptr 68 b ∧ Blk w b 70 #[int (P i), int (opNo tx), v0 vs 0]
    | 5 => v = ptr 74 b ∧ Blk w b 76 #[v0 vs 0, int (P (i + ns.getD 0 0)), int (opNo tx), v0 vs 1]
    | 6 => v = ptr 77 b ∧ ∃ b2, S b2 ∧ Blk w b 79 #[v0 vs 0, .pointer (some ⟨b2, 0, none⟩)] ∧ Blk w b2 60 #[int (P (i + ns.getD 0 0 + 1)), .string tx, .pointer none]
    | 7 => v = ptr 80 b ∧ Blk w b 82 #[v0 vs 0, int (P (i + ns.getD 0 0)), v0 vs 1, int (P (i + tot - 1))]
    | 8 => v = ptr 94 b ∧ Blk w b 96 #[v0 vs 0, int (P (i + ns.getD 0 0 + 1)), v0 vs 1, int (P (i + tot - 1))]
    | 9 => v = ptr 100 b ∧ Blk w b 102 #[v0 vs 0, int (P (i + ns.getD 0 0)), v0 vs 1]
    | 10 => v = ptr 106 b ∧ Blk w b 108 #[int (P i), v0 vs 0, v0 vs 1]
    | 11 => v = ptr 87 b ∧ Blk w b 90 #[v0 vs 0, int (P (i + ns.getD 0 0)), lowV tx.data.toList vs, highV tx.data.toList vs, maxV tx.data.toList vs, .bool (tx.data.toList.contains 115), int (P (i + tot - 1))]
    | 12 => v = ptr 91 b ∧ ∃ sv, SlAt w S sv (vs.drop 1) ∧ Blk w b 93 #[v0 vs 0, int (P (i + ns.getD 0 0)), sv, int (if tx.data.toList.isEmpty then 0 else P (i + tot - 2)), int (P (i + tot - 1))]
    | 13 => v = ptr 97 b ∧ ∃ sv, SlAt w S sv (if tx.data.toList.isEmpty then vs else vs.drop 1) ∧ Blk w b 99 #[if tx.data.toList.isEmpty then .nilIface else v0 vs 0, int (P (if tx.data.toList.isEmpty then i else i + ns.getD 0 0)), sv, int (P (i + tot - 1)), .bool false]
    | 14 => v = ptr 103 b ∧ Blk w b 105 #[int (P i), if ns.length = 2 then v0 vs 0 else .nilIface, if ns.length = 2 then v0 vs 1 else v0 vs 0]
    | _ => False

mutual
def ExR (w : World) (S : Nat → Prop) (P : Nat → Int) : Nat → Nd → Value → Prop
  | i, ⟨kd, tx, _, _, ks⟩, v => ∃ vs : List Value, ExL w S P (starts (kcode kd) tx (ks.map Nd.ntok) i) ks vs ∧ NodeAt w S P (kcode kd) tx (ks.map Nd.ntok) i (ownTok (kcode kd) tx ks.length + ntokL ks) vs v
def ExL (w : World) (S : Nat → Prop) (P : Nat → Int) : List Nat → List Nd → List Value → Prop
  | [], [], [] => True
  | i :: is, k :: ks, v :: vs => ExR w S P i k v ∧ ExL w S P is ks vs
  | _, _, _ => False
end

section
variable {w w' : World} {S S' : Nat → Prop} {P : Nat → Int}
theorem SlAt.keep {sv : Value} {vs : List Value} (h : SlAt w S sv vs) (hk : ∀ b, S b → w'.heap[b]? = w.heap[b]?) (h1 : ∀ b, S b → S' b) : SlAt w' S' sv vs := by
  rcases h with h | ⟨g, cap, cs, rfl, hg, hb, h0, hc, hm, ht⟩
  · exact .inl h
  · exact .inr ⟨g, cap, cs, rfl, h1 g hg, hb.keep (hk g hg), h0, hc, hm, ht⟩
theorem NodeAt.keep {c : Nat} {tx : ByteArray} {ns : List Nat} {i tot : Nat} {vs : List Value} {v : Value} (h : NodeAt w S P c tx ns i tot vs v) (hk : ∀ b, S b → w'.heap[b]? = w.heap[b]?) (h1 : ∀ b, S b → S' b) :
    NodeAt w' S' P c tx ns i tot vs v := by
  obtain ⟨b, hb, h⟩ := h
  refine ⟨b, h1 b hb, ?_⟩
  have e := hk b hb
  split at h
  case h_7 =>
    obtain ⟨hv, b2, h3, h5, h6⟩ := h
    exact ⟨hv, b2, h1 b2 h3, h5.keep e, h6.keep (hk b2 h3)⟩
  case h_13 =>
    obtain ⟨hv, sv, h3, h4⟩ := h
    exact ⟨hv, sv, h3.keep hk h1, h4.keep e⟩
  case h_14 =>
    obtain ⟨hv, sv, h3, h4⟩ := h
    exact ⟨hv, sv, h3.keep hk h1, h4.keep e⟩
  all_goals first
    | exact ⟨h.1, h.2.keep e⟩
    | exact h.elim
theorem ExL.keep_of (hk : ∀ b, S b → w'.heap[b]? = w.heap[b]?) (h1 : ∀ b, S b → S' b) : ∀ (ks : List Nd), (∀ k ∈ ks, ∀ i v, ExR w S P i k v → ExR w' S' P i k v) → ∀ is vs, ExL w S P is ks vs → ExL w' S' P is ks vs
  | [], _, is, vs, h => by
    cases is <;> cases vs <;> simp [ExL] at h ⊢
  | k :: ks, ih, is, vs, h => by
    cases is with
    | nil => simp [ExL] at h
    | cons i is =>
      cases vs with
      | nil => simp [ExL] at h
      | cons v vs => exact ⟨ih k (List.mem_cons_self ..) i v h.1, ExL.keep_of hk h1 ks (fun x hx => ih x (List.mem_cons_of_mem _ hx)) is vs h.2⟩
theorem ExR.keep (hk : ∀ b, S b → w'.heap[b]? = w.heap[b]?) (h1 : ∀ b, S b → S' b) : ∀ (n : Nd) (i : Nat) (v : Value), ExR w S P i n v → ExR w' S' P i n v := by
  refine Nd.ind fun n ih i v h => ?_
  obtain ⟨kd, tx, ad, cp, ks⟩ := n
  obtain ⟨vs, hl, hn⟩ := h
  exact ⟨vs, ExL.keep_of hk h1 ks ih _ _ hl, hn.keep hk h1⟩
theorem ExL.keep (hk : ∀ b, S b → w'.heap[b]? = w.heap[b]?) (h1 : ∀ b, S b → S' b) {ks : List Nd} {is : List Nat} {vs : List Value} (h : ExL w S P is ks vs) : ExL w' S' P is ks vs :=
  ExL.keep_of hk h1 ks (fun k _ i v hx => ExR.keep hk h1 k i v hx) is vs h
theorem ExR.below {n : Nd} {i : Nat} {v : Value} (h : ExR w S P i n v) (hb : Below w.heap.size w w') (hh : ∀ b, S b → b < w.heap.size) : ExR w' S P i n v :=
  ExR.keep (fun b hs => hb.block b (hh b hs)) (fun _ hs => hs) n i v h
end
/-- The blocks from lo on, below hi. -/
def Rng (lo hi : Nat) (b : Nat) : Prop := lo ≤ b ∧ b < hi
theorem grown_trans {a b c : World} {row : Option Nat} (h : a.grownBy b row) (k : b.grownBy c row) : a.grownBy c row :=
  ⟨k.os.trans h.os, k.tape.trans h.tape, k.output.trans h.output, Nat.le_trans h.size k.size, fun i hi hne => (k.block i (Nat.lt_of_lt_of_le hi h.size) hne).trans (h.block i hi hne)⟩
theorem grown_refl (a : World) (row : Option Nat) : a.grownBy a row := ⟨rfl, rfl, rfl, Nat.le_refl _, fun _ _ _ => rfl⟩
theorem grown_alloc {a b : World} {row : Option Nat} (h : a.grownBy b row) (o : Obj) : a.grownBy (b.alloc o) row := grown_trans h (World.grownBy_alloc b o row)
theorem grown_drew {a b : World} {row : Option Nat} (h : a.grownBy b row) : a.grownBy b.drew row := ⟨h.os, h.tape, h.output, h.size, h.block⟩
theorem grown_set {a b : World} {row : Option Nat} (h : a.grownBy b row) {p : Addr} (hp : a.heap.size ≤ p.block) (u : Value) : a.grownBy (b.setCell p u) row :=
  ⟨h.os, h.tape, h.output, by simpa [World.setCell] using h.size, fun i hi hne => (Below.heap_setCell b p u i (by omega)).trans (h.block i hi hne)⟩
theorem grown_below {a b : World} {row : Option Nat} (h : Below a.heap.size a b) : a.grownBy b row := ⟨h.os, h.tape, h.output, h.size, fun i hi _ => h.block i hi⟩
section
variable {w w' : World} {lo hi : Nat} {P : Nat → Int} {n : Nd} {i : Nat} {v : Value}
theorem ExR.grownR (h : ExR w (Rng lo hi) P i n v) {bb : Nat} (hg : w.grownBy w' (some bb)) (hbb : bb < lo) (hhi : hi ≤ w.heap.size) : ExR w' (Rng lo hi) P i n v :=
  ExR.keep (fun _ hs => hg.block _ (Nat.lt_of_lt_of_le hs.2 hhi) (fun e => by cases e; have := hs.1; omega)) (fun _ hs => hs) n i v h
theorem ExR.setR (h : ExR w (Rng lo hi) P i n v) {p : Addr} (hp : p.block < lo ∨ hi ≤ p.block) (u : Value) : ExR (w.setCell p u) (Rng lo hi) P i n v :=
  ExR.keep (fun _ hs => Below.heap_setCell w p u _ (fun e => by have := hs.1; have := hs.2; omega)) (fun _ hs => hs) n i v h
theorem ExR.allocR (h : ExR w (Rng lo hi) P i n v) (hhi : hi ≤ w.heap.size) (o : Obj) : ExR (w.alloc o) (Rng lo hi) P i n v :=
  ExR.keep (fun _ hs => Below.heap_alloc w o _ (Nat.lt_of_lt_of_le hs.2 hhi)) (fun _ hs => hs) n i v h
theorem ExR.wideR (h : ExR w (Rng lo hi) P i n v) {lo' hi' : Nat} (h1 : lo' ≤ lo) (h2 : hi ≤ hi') : ExR w (Rng lo' hi') P i n v :=
  ExR.keep (fun _ _ => rfl) (fun _ hs => ⟨Nat.le_trans h1 hs.1, Nat.lt_of_lt_of_le hs.2 h2⟩) n i v h
/-- An expression is a pointer in an interface value. -/
theorem ExR.form {S : Nat → Prop} (h : ExR w S P i n v) : ∃ t b, v = .iface t (.pointer (some ⟨b, 0, none⟩)) := by
  obtain ⟨kd, tx, ad, cp, ks⟩ := n
  obtain ⟨vs, _, b, _, h⟩ := h
  split at h
  all_goals first
    | exact ⟨_, b, h.1⟩
    | exact h.elim
end
end Go.Proofs.YtnpnmfblcogkmaaDoor
