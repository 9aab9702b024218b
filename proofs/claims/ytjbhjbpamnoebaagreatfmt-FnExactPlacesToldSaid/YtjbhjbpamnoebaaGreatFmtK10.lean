/-
  impl.node: the state of its walk, its calls of nodes, its end.
  impl.node: calls and composite literals: two rows of nodes, one behind the other.
  impl.node: names, literals, parentheses, stars.
-/
import Derived.Test.YtjbhjbpamnoebaaGreatFmtK8
import Derived.Test.YtjbhjbpamnoebaaGreatFmtK9
import Derived.Deep.AppendLies
import Derived.Laws.AppendOwnNone
namespace Go.Proofs.YtjbhjbpamnoebaaGreatFmt
open Go.RowKit

/-- The cells of an empty node. -/
def zcs : Array Value := #[.string ⟨#[]⟩, .string ⟨#[]⟩, .slice none 0 0]
/-- All is as it was behind the making of the result's variable, and more blocks. -/
def NAt (W w : World) : Prop := Below (W.heap.size + 1) (W.alloc (.cells zcs 24)) w
section
variable {W w w' : World} {P : Nat → Int} {lo hi : Nat}
theorem NAt.start (W : World) : NAt W (W.alloc (.cells #[.string ⟨#[]⟩, .string ⟨#[]⟩, .slice none 0 0] 24)) := Below.refl _ _
theorem NAt.size (h : NAt W w) : W.heap.size + 1 ≤ w.heap.size := by
  have := Below.size h
  rwa [World.size_alloc] at this
theorem NAt.next (h : NAt W w) (hb : Below w.heap.size w w') : NAt W w' := Below.trans h (hb.mono h.size)
theorem NAt.drew (h : NAt W w) : NAt W w.drew := Below.drew h
theorem NAt.alloc (h : NAt W w) (o : Obj) : NAt W (w.alloc o) := Below.alloc h h.size o
theorem NAt.far (h : NAt W w) {p : Addr} (hp : W.heap.size + 1 ≤ p.block) (u : Value) : NAt W (w.setCell p u) := Below.setCell h hp u
theorem NAt.old (h : NAt W w) : Below W.heap.size W w := ((Below.refl _ _).alloc (Nat.le_refl _) _).trans (Below.mono h (Nat.le_succ _))
theorem NAt.tok (h : NAt W w) (hT : TokTab W) : TokTab w := hT.below h.old
theorem NAt.ex (h : NAt W w) (hhi : hi ≤ W.heap.size) {i : Nat} {x : Nd} {v : Value} (hX : ExR W (Rng lo hi) P i x v) : ExR w (Rng lo hi) P i x v :=
  ExR.keep (fun _ hs => h.old.block _ (Nat.lt_of_lt_of_le hs.2 hhi)) (fun _ hs => hs) _ _ _ hX
theorem NAt.nl (h : NAt W w) (hhi : hi ≤ W.heap.size) {ks : List Nd} {vs : List Value} (hX : NL W (Rng lo hi) P ks vs) : NL w (Rng lo hi) P ks vs :=
  hX.keep fun _ hs => h.old.block _ (Nat.lt_of_lt_of_le hs.2 hhi)
theorem NAt.blk (h : NAt W w) : Blk w W.heap.size 24 zcs :=
  (Blk.new W 24 zcs).keep (Below.block h _ (Nat.lt_succ_self _))
theorem NAt.c0 (h : NAt W w) : w.cell? ⟨W.heap.size, 0, none⟩ = some (.string ⟨#[]⟩) := h.blk.cell 0
theorem NAt.c1 (h : NAt W w) : w.cell? ⟨W.heap.size, 1, none⟩ = some (.string ⟨#[]⟩) := h.blk.cell 1
theorem NAt.c2 (h : NAt W w) : w.cell? ⟨W.heap.size, 2, none⟩ = some (.slice none 0 0) := h.blk.cell 2
theorem NAt.frozen (h : NAt W w) (j : Nat) : w.frozen? ⟨W.heap.size, j, none⟩ = false := h.blk.frozen j
theorem NAt.kept3 (h : NAt W w) {p : Addr} (hp : p.block < W.heap.size) {r : Option Value} (he : W.cell? p = r) {u0 u1 u2 : Value} : (((w.setCell ⟨W.heap.size, 0, none⟩ u0).setCell ⟨W.heap.size, 1, none⟩ u1).setCell ⟨W.heap.size, 2, none⟩ u2).cell? p = r :=
  ((((h.old.setCell (Nat.le_refl _) _).setCell (Nat.le_refl _) _).setCell (Nat.le_refl _) _).cell hp).trans he
theorem NAt.kept (h : NAt W w) {p : Addr} (hp : p.block < W.heap.size) {r : Option Value} (he : W.cell? p = r) : w.cell? p = r := (h.old.cell hp).trans he
end

/-- What nodes leaves in node. -/
def NsAt (W w : World) (ks : List Nd) (e : Ending) (w' : World) : Prop :=
  ∃ A cap ms, e = .returned (.slice A (ms : List Nd).length cap) ∧ Nd.InR w' (w.heap.size + 1) w'.heap.size ⟨⟨#[]⟩, ⟨#[]⟩, A, cap, ms⟩ ∧ sameL ks ms = true ∧ NAt W w' ∧ Below w.heap.size w w'
theorem nodes_at {W w : World} (h : NAt W w) (hT : TokTab W) {P : Nat → Int} (ks : List Nd) (IH : ∀ k ∈ ks, NOf P k) (vs : List Value) {lo hi : Nat} (hhi : hi ≤ W.heap.size) (hNL : NL W (Rng lo hi) P ks vs) (hlen : vs.length ≤ 401) (cs : Array Value) (hcs : vs.toArray = cs) (n : Nat) (hn : vs.length = n) (s : Nat) (hs : w.heap.size = s) :
    Calls Tryz.prog 61 #[.slice (some ⟨s, 0, none⟩) n n] (w.alloc (.cells cs 44)) (NsAt W w ks) := by
  subst hcs hs
  refine (nodes_lit P ks IH vs w (h.tok hT) lo hi (Nat.le_trans hhi (by have := h.size; omega)) (h.nl hhi hNL) hlen n hn).mono ?_
  rintro e w1 ⟨A, cap, ms, rfl, hin, hsm, hbl, _⟩
  have hsa : (w.alloc (.cells vs.toArray 44)).heap.size = w.heap.size + 1 := World.size_alloc _ _
  rw [hsa] at hin
  have hb2 : Below w.heap.size w w1 := ((Below.refl _ _).alloc (Nat.le_refl _) _).trans (hbl.mono (by omega))
  exact ⟨A, cap, ms, rfl, hin, hsm, h.next hb2, hb2⟩
/-- nodes of a list in memory. -/
theorem nodes_mem {W w : World} (h : NAt W w) (hT : TokTab W) {P : Nat → Int} (ks : List Nd) (IH : ∀ k ∈ ks, NOf P k) (vs : List Value) {lo hi : Nat} (hhi : hi ≤ W.heap.size) (hNL : NL W (Rng lo hi) P ks vs) (hlen : vs.length ≤ 401) {sv : Value} (hsv : SlAt W (Rng lo hi) sv vs) (A : Option Addr) (n cap : Nat) (he : sv = .slice A n cap) :
    Calls Tryz.prog 61 #[.slice A n cap] w (NsPost w ks) := by
  rcases hsv with ⟨rfl, rfl⟩ | ⟨g, cap', cs, rfl, hg, hb, h0, hc, hm, ht⟩
  · cases he
    exact nodes_any P ks IH [] w (h.tok hT) lo hi (Nat.le_trans hhi (by have := h.size; omega)) _ _ (fun j v hj => by simp at hj) (h.nl hhi hNL) (by simp) _ rfl
  · cases he
    refine nodes_any P ks IH vs w (h.tok hT) lo hi (Nat.le_trans hhi (by have := h.size; omega)) _ _ (fun j v hj => ⟨g, 0, rfl, ?_, ?_⟩) (h.nl hhi hNL) hlen _ rfl
    · have := hg.2
      have := h.size
      omega
    · rw [h.old.cell (p := ⟨g, 0 + j, none⟩) (by have := hg.2; show g < _; omega), Nat.zero_add, hb.cell j]
      have hjl : j < vs.length := (List.getElem?_eq_some_iff.1 hj).1
      rw [← ht, List.getElem?_take_of_lt hjl] at hj
      simpa using hj

theorem node_end {W w1 : World} (h : NAt W w1) {kd tx : ByteArray} {ad : Option Addr} {cp : Nat} {ks : List Nd} {A : Option Addr} {cap : Nat} {ms : List Nd} {lo : Nat} (hin : Nd.InR w1 lo w1.heap.size ⟨⟨#[]⟩, ⟨#[]⟩, A, cap, ms⟩) (hlo : W.heap.size + 1 ≤ lo) (hs : sameL ks ms = true)
    {a : Act} (hd : a.defers = []) (hp : a.tmps.getD 2 undef = .pointer (some ⟨W.heap.size, 0, none⟩)) :
    bodyPost Tryz.prog Tryz.f45 (NPost W ⟨kd, tx, ad, cp, ks⟩) Exit.ret a (((w1.setCell ⟨W.heap.size, 0, none⟩ (.string kd)).setCell ⟨W.heap.size, 1, none⟩ (.string tx)).setCell ⟨W.heap.size, 2, none⟩ (.slice A ms.length cap)) := by
  have hf : Blk _ W.heap.size 24 #[.string kd, .string tx, .slice A ms.length cap] := ((h.blk.set_ 0 (.string kd)).set_ 1 (.string tx)).set_ 2 (.slice A ms.length cap)
  refine bodyPost_ret (results_cell_row rfl _ _ W.heap.size 24 _ (0, 0) _ hp hf Tryz.underlying24 rfl ?_) hd ?_
  · have := infoN
    cases hq : Tryz.prog.info? 24 with
    | none => rw [hq] at this; cases this
    | some q =>
      rw [hq] at this
      simp only [Option.map_some, Option.some.injEq, Prod.mk.injEq] at this ⊢
      exact this.2.1
  · refine ⟨⟨kd, tx, A, cap, ms⟩, rfl, ?_, by simp [Nd.same, hs], ?_⟩
    · rw [Nd.InR_iff] at hin
      have hin' : Nd.InR w1 lo w1.heap.size ⟨kd, tx, A, cap, ms⟩ := by rw [Nd.InR_iff]; exact hin
      refine Nd.InR.keep (fun b hb1 hb2 => ?_) (by omega) (by simp [World.setCell]) _ hin'
      rw [Below.heap_setCell _ _ _ _ (by show b ≠ W.heap.size; omega), Below.heap_setCell _ _ _ _ (by show b ≠ W.heap.size; omega), Below.heap_setCell _ _ _ _ (by show b ≠ W.heap.size; omega)]
    · exact ((h.old.setCell (Nat.le_refl _) _).setCell (Nat.le_refl _) _).setCell (Nat.le_refl _) _
theorem node_leaf {W : World} {kd tx : ByteArray} {ad : Option Addr} {cp : Nat}
    {a : Act} (hd : a.defers = []) (hp : a.tmps.getD 2 undef = .pointer (some ⟨W.heap.size, 0, none⟩)) :
    bodyPost Tryz.prog Tryz.f45 (NPost W ⟨kd, tx, ad, cp, []⟩) Exit.ret a (W.alloc (.cells #[.string kd, .string tx, .slice none 0 0] 24)) := by
  have hf : Blk _ W.heap.size 24 #[.string kd, .string tx, .slice none 0 0] := Blk.new W _ _
  refine bodyPost_ret (results_cell_row rfl _ _ W.heap.size 24 _ (0, 0) _ hp hf Tryz.underlying24 rfl ?_) hd ?_
  · have := infoN
    cases hq : Tryz.prog.info? 24 with
    | none => rw [hq] at this; cases this
    | some q =>
      rw [hq] at this
      simp only [Option.map_some, Option.some.injEq, Prod.mk.injEq] at this ⊢
      exact this.2.1
  · refine ⟨⟨kd, tx, none, 0, []⟩, rfl, ?_, by simp [Nd.same, sameL], (Below.refl _ _).alloc (Nat.le_refl _) _⟩
    rw [Nd.InR_iff]
    exact ⟨Nat.le_refl _, Nat.zero_le _, fun j k hj => by simp at hj⟩
theorem tk_op (tx : ByteArray) (h : tx.data.toList ∈ opTexts) : tk (opNo tx) = tx := by
  refine bytes_ext ?_
  show tab.getD (opNo tx) [] = _
  exact op_here tx h
theorem op_at (tx : ByteArray) (h : tx.data.toList ∈ opTexts) (w : World) (hT : TokTab w) : Calls Tryz.prog 62 #[.int .i64 (opNo tx)] w fun e w' => e = .returned (.string tx) ∧ w = w' := by
  have := String_tab (opNo tx) (Nat.lt_trans (op_len tx h).2 (by decide)) (op_full _ (op_len tx h).1 (op_len tx h).2) w hT
  rwa [tk_op tx h] at this
end Go.Proofs.YtjbhjbpamnoebaaGreatFmt

namespace Go.Proofs.YtjbhjbpamnoebaaGreatFmt
open Go.RowKit

/-- A row of trees, all its blocks but E known: E is of none of them. -/
def LX (E lo : Nat) (sv : Value) (ms : List Nd) (w : World) : Prop :=
  w.ownsRow lo 24 3 sv ms.length (flat ms) ∧ sv.ownBlock ≠ some E ∧
    ∀ m ∈ ms, ∃ l h, lo ≤ l ∧ h ≤ w.heap.size ∧ (∀ g, sv.ownBlock = some g → g < l ∨ h ≤ g) ∧ (E < l ∨ h ≤ E) ∧ m.InR w l h
section
variable {X w w' w3 : World} {E lo lo2 : Nat} {sv sv1 sv2 v' : Value} {ms ms1 ms2 : List Nd}
theorem LX.of_lt (h : LN X sv ms w) (hE : E < X.heap.size) : LX E X.heap.size sv ms w := by
  obtain ⟨h1, h2, h3⟩ := h
  refine ⟨h1, fun e => by have := (own_ge h1 e).1; omega, fun m hm => ?_⟩
  obtain ⟨l, hh, k1, k2, k3, k4⟩ := h3 m hm
  exact ⟨l, hh, k1, k2, k3, .inl (by omega), k4⟩
theorem LX.of_ge (h : LN X sv ms w) (hE : w.heap.size ≤ E) : LX E X.heap.size sv ms w := by
  obtain ⟨h1, h2, h3⟩ := h
  refine ⟨h1, fun e => by have := (own_ge h1 e).2; omega, fun m hm => ?_⟩
  obtain ⟨l, hh, k1, k2, k3, k4⟩ := h3 m hm
  exact ⟨l, hh, k1, k2, k3, .inr (by omega), k4⟩
theorem LX.keep (h : LX E lo sv ms w) (hk : ∀ b, b ≠ E → b < w.heap.size → w'.heap[b]? = w.heap[b]?) (hs : w.heap.size ≤ w'.heap.size) : LX E lo sv ms w' := by
  obtain ⟨h1, h2, h3⟩ := h
  refine ⟨?_, h2, fun m hm => ?_⟩
  · obtain ⟨h0, ⟨rfl, hn⟩ | ⟨g, cap, cur, rfl, k1, k2, k3⟩⟩ := h1
    · exact ⟨h0, .inl ⟨rfl, hn⟩⟩
    · exact ⟨h0, .inr ⟨g, cap, cur, rfl, k1, (hk g (fun e => h2 (by rw [← e]; rfl)) (Array.getElem?_eq_some_iff.1 k2).1).trans k2, k3⟩⟩
  · obtain ⟨l, hh, k1, k2, k3, k4, k5⟩ := h3 m hm
    exact ⟨l, hh, k1, by omega, k3, k4, Nd.InR.keep (fun b hb1 hb2 => hk b (by omega) (by omega)) (Nat.le_refl _) (Nat.le_refl _) m k5⟩
theorem LX.next (h : LX E lo sv ms w) (hb : Below w.heap.size w w') : LX E lo sv ms w' := h.keep (fun b _ hb2 => hb.block b hb2) hb.size
theorem LX.far (h : LX E lo sv ms w) (j : Nat) (u : Value) : LX E lo sv ms (w.setCell ⟨E, j, none⟩ u) :=
  h.keep (fun b hb _ => Below.heap_setCell _ _ _ _ hb) (by simp [World.setCell])
theorem LX.concat (h1 : LX E lo sv1 ms1 w) (h2 : LX E lo2 sv2 ms2 w) (hlo : lo ≤ lo2) (hsep : ∀ g, sv1.ownBlock = some g → g < lo2) (hE : E ≠ w.heap.size)
    (hown : w3.ownsRow lo 24 3 v' (ms1.length + ms2.length) (flat ms1 ++ flat ms2)) (hg : w.grownBy w3 sv1.ownBlock) (hloc : v'.ownBlock = sv1.ownBlock ∨ v'.ownBlock = some w.heap.size) : LX E lo v' (ms1 ++ ms2) w3 := by
  have hs := hg.size
  have hkeep : ∀ l h : Nat, (∀ g, sv1.ownBlock = some g → g < l ∨ h ≤ g) → h ≤ w.heap.size → ∀ b, l ≤ b → b < h → w3.heap[b]? = w.heap[b]? := fun l h hh hhi b hb1 hb2 =>
    hg.block b (Nat.lt_of_lt_of_le hb2 hhi) (fun e => by have := hh b e.symm; omega)
  have hv : ∀ l h : Nat, (∀ g, sv1.ownBlock = some g → g < l ∨ h ≤ g) → h ≤ w.heap.size → ∀ g, v'.ownBlock = some g → g < l ∨ h ≤ g := fun l h hh hhi g hg' => by
    rcases hloc with hl | hl
    · exact hh g (hl ▸ hg')
    · rw [hl] at hg'
      cases hg'
      right
      omega
  refine ⟨by rw [List.length_append, flat_append]; exact hown, ?_, fun y hy => ?_⟩
  · rcases hloc with hl | hl
    · rw [hl]; exact h1.2.1
    · rw [hl]
      intro e
      exact hE (Option.some.inj e).symm
  · rcases List.mem_append.1 hy with hy | hy
    · obtain ⟨l, hh, k1, k2, k3, k4, k5⟩ := h1.2.2 y hy
      exact ⟨l, hh, k1, by omega, hv l hh k3 k2, k4, Nd.InR.keep (hkeep l hh k3 k2) (Nat.le_refl _) (Nat.le_refl _) y k5⟩
    · obtain ⟨l, hh, k1, k2, k3, k4, k5⟩ := h2.2.2 y hy
      have k6 : ∀ g, sv1.ownBlock = some g → g < l ∨ hh ≤ g := fun g hg' => .inl (by have := hsep g hg'; omega)
      exact ⟨l, hh, by omega, by omega, hv l hh k6 k2, k4, Nd.InR.keep (hkeep l hh k6 k2) (Nat.le_refl _) (Nat.le_refl _) y k5⟩
theorem LX.form (h : LX E lo sv ms w) : ∃ A cap, sv = .slice A ms.length cap := by
  obtain ⟨_, ⟨rfl, hn⟩ | ⟨g, cap, cur, rfl, _⟩⟩ := h.1
  · exact ⟨none, 0, by rw [hn]⟩
  · exact ⟨_, cap, rfl⟩
theorem LX.inr {A : Option Addr} {cap n : Nat} (h : LX E lo (.slice A n cap) ms w) : Nd.InR w lo w.heap.size ⟨⟨#[]⟩, ⟨#[]⟩, A, cap, ms⟩ := by
  obtain ⟨h1, h2, h3⟩ := h
  have hin : ∀ m ∈ ms, m.InR w lo w.heap.size := fun m hm => by
    obtain ⟨lo, hi, k1, k2, _, _, k4⟩ := h3 m hm
    exact Nd.InR.keep (fun _ _ _ => rfl) k1 k2 m k4
  obtain ⟨h0, ⟨he, hn⟩ | ⟨g, cap', cur, he, k1, k2, k3, k4, k5, k6⟩⟩ := h1
  · obtain rfl := List.length_eq_zero_iff.1 hn
    cases he
    rw [Nd.InR_iff]
    exact ⟨Nat.le_refl _, Nat.zero_le _, fun j k hj => by simp at hj⟩
  · cases he
    rw [Nd.InR_iff]
    refine ⟨k3, k4, fun j k hj => ⟨⟨?_, fun p hp => ?_⟩, hin k (List.mem_of_getElem? hj)⟩⟩
    · have hjl : j < ms.length := (List.getElem?_eq_some_iff.1 hj).1
      have hf := flat_at hj
      have hcell : ∀ q, q < ms.length * 3 → w.cell? ⟨g, q, none⟩ = (flat ms)[q]? := fun q hq => by
        rw [cell_of_row w g q cur 24 (0, 0) k2, ← k6, List.getElem?_take_of_lt hq]
        simp
      refine ⟨g, 0, rfl, (Array.getElem?_eq_some_iff.1 k2).1, ?_, ?_, ?_⟩
      · rw [Nat.zero_add, hcell _ (by omega)]; exact hf.1
      · rw [Nat.zero_add, hcell _ (by omega)]; exact hf.2.1
      · rw [Nat.zero_add, hcell _ (by omega)]; exact hf.2.2
    · cases hp
      exact k1
end
theorem NL.of {w : World} {S : Nat → Prop} {P : Nat → Int} : ∀ {ks : List Nd} {is : List Nat} {vs : List Value}, ExL w S P is ks vs → NL w S P ks vs
  | [], is, vs, h => by
    rw [exl_nil h]
    exact .nil
  | k :: ks, is, vs, h => by
    obtain ⟨i, is', q, c, vs', rfl, h1, h2⟩ := exl_cons h
    exact .take h1 (NL.of h2)
theorem sameL_append : ∀ {a b c d : List Nd}, sameL a b = true → sameL c d = true → sameL (a ++ c) (b ++ d) = true
  | [], [], _, _, _, h => h
  | [], _ :: _, _, _, h, _ => by simp [sameL] at h
  | _ :: _, [], _, _, h, _ => by simp [sameL] at h
  | x :: a, y :: b, _, _, h, hk => by
    rw [sameL, Bool.and_eq_true] at h
    rw [List.cons_append, List.cons_append, sameL, Bool.and_eq_true]
    exact ⟨h.1, sameL_append h.2 hk⟩

/-- What nodes leaves, with its row. -/
def NsL (W wc : World) (ks : List Nd) (e : Ending) (w' : World) : Prop :=
  ∃ A cap ms, e = .returned (.slice A (ms : List Nd).length cap) ∧ sameL ks ms = true ∧ NAt W w' ∧ LN wc (.slice A ms.length cap) ms w'
theorem nodes_row {W w : World} (h : NAt W w) (hT : TokTab W) {P : Nat → Int} (ks : List Nd) (IH : ∀ k ∈ ks, NOf P k) (vs : List Value) {lo hi : Nat} (hhi : hi ≤ W.heap.size) (hNL : NL W (Rng lo hi) P ks vs) (hlen : vs.length ≤ 401) (n : Nat) (hn : vs.length = n) (s : Nat) (hs : Blk w s 44 vs.toArray) :
    Calls Tryz.prog 61 #[.slice (some ⟨s, 0, none⟩) n n] w (NsL W w ks) := by
  refine (nodes_any P ks IH vs w (h.tok hT) lo hi (Nat.le_trans hhi (by have := h.size; omega)) _ _ (fun j v hj => ⟨s, 0, rfl, hs.lt, ?_⟩) (h.nl hhi hNL) hlen n hn).mono ?_
  · rw [Nat.zero_add, hs.cell j]
    simpa using hj
  rintro e w1 ⟨A, cap, ms, rfl, hin, hsm, hbl, hLN⟩
  exact ⟨A, cap, ms, rfl, hsm, h.next hbl, hLN⟩
theorem blk_a (W : World) (o : Obj) (t : TypeId) (cs : Array Value) : Blk (((W.alloc o).alloc (.cells cs t)).drew) (W.heap.size + 1) t cs := by
  have := Blk.new (W.alloc o) t cs
  rw [World.size_alloc] at this
  exact this
theorem blk_b (W : World) (o o2 : Obj) (t : TypeId) (cs : Array Value) : Blk ((((W.alloc o).alloc o2).alloc (.cells cs t)).drew) (W.heap.size + 1 + 1) t cs := by
  have := Blk.new ((W.alloc o).alloc o2) t cs
  rw [World.size_alloc, World.size_alloc] at this
  exact this
theorem blk_c (W : World) (o o2 : Obj) (t : TypeId) (cs : Array Value) : Blk ((((W.alloc o).alloc (.cells cs t)).alloc o2).drew) (W.heap.size + 1) t cs :=
  (blk_a W o t cs).alloc o2
theorem nodes_more {W w : World} (h : NAt W w) (hT : TokTab W) {P : Nat → Int} (ks : List Nd) (IH : ∀ k ∈ ks, NOf P k) (vs : List Value) {lo hi : Nat} (hhi : hi ≤ W.heap.size) (hNL : NL W (Rng lo hi) P ks vs) (hlen : vs.length ≤ 401) {sv : Value} (hsv : SlAt W (Rng lo hi) sv vs) (A : Option Addr) (n cap : Nat) (he : sv = .slice A n cap) :
    Calls Tryz.prog 61 #[.slice A n cap] w (NsL W w ks) := by
  refine (nodes_mem h hT ks IH vs hhi hNL hlen hsv A n cap he).mono ?_
  rintro e w1 ⟨A, cap, ms, rfl, hin, hsm, hbl, hLN⟩
  exact ⟨A, cap, ms, rfl, hsm, h.next hbl, hLN⟩

theorem flat_one (ms : List Nd) : ∀ u ∈ flat ms, u.oneCell' = true := by
  induction ms with
  | nil => intro u hu; cases hu
  | cons m ms ih =>
    intro u hu
    rcases List.mem_append.1 hu with hu | hu
    · exact cells_one m u hu
    · exact ih u hu
/-- append of a row to a row, at a step of a region. -/
theorem step_append_rows {w : World} {ops : Array Oper} {o : Oper} {a : Act} {K : Act → World → Prop} {Q : Exit → Act → World → Prop} {E : Prop} (hgd : o.guard = none) (s x : Operand)
    (ho : o.op = .call { callee := .builtin .append, args := #[s, x], argTypes := #[22, 22] })
    {b1 b2 : Nat} {sv1 sv2 : Value} {ms1 ms2 : List Nd} (hs : a.eval s = sv1) (hx : a.eval x = sv2) (h1 : w.ownsRow b1 24 3 sv1 ms1.length (flat ms1)) (h2 : w.ownsRow b2 24 3 sv2 ms2.length (flat ms2)) (hb : b1 ≤ w.heap.size) (hl1 : ms1.length ≤ 401) (hl2 : ms2.length ≤ 401)
    (h : ∀ v' w', w'.ownsRow b1 24 3 v' (ms1.length + ms2.length) (flat ms1 ++ flat ms2) → w.grownBy w' sv1.ownBlock → (v'.ownBlock = sv1.ownBlock ∨ v'.ownBlock = some w.heap.size) → K (a.put o.dst v') w') :
    if Region.wanted o (yielded ops a.tmps) = true then Oper.wp Tryz.prog o a w K Q else E := by
  have hw : Region.wanted o (yielded ops a.tmps) = true := by simp [Region.wanted, hgd]
  rw [if_pos hw]
  obtain ⟨i0, hi, hz0, hz1, hz2⟩ := info_parts infoN
  obtain ⟨h20, ⟨rfl, hn⟩ | ⟨g, cap, cur, rfl, k1, k2, k3, k4, k5, k6⟩⟩ := h2
  · have hrun := run_append_owned_none (P := Tryz.prog) (w := w) b1 22 o.type 24 i0 3 underN hi sv1 ms1.length (flat ms1) h1
    obtain rfl := List.length_eq_zero_iff.1 hn
    unfold Oper.wp
    simp only [execOp, ho, resolve, invoke, builtin, hs, hx, hrun, Result.andThen_ok, List.map_toArray, List.map_cons, List.map_nil, Sem.run_bind, Sem.run_pure]
    exact h _ _ (by simpa [flat] using h1) (grown_refl _ _) (.inl rfl)
  · have hc : ∀ j u, (flat ms2)[j]? = some u → w.cell? ((⟨g, 0, none⟩ : Addr).add j) = some u := fun j u hj => by
      have hadd : (⟨g, 0, none⟩ : Addr).add j = ⟨g, j, none⟩ := by unfold Addr.add; split <;> simp_all
      have hjl : j < ms2.length * 3 := by rw [← h20]; exact (List.getElem?_eq_some_iff.1 hj).1
      rw [hadd, cell_of_row w g j cur 24 (0, 0) k2]
      rw [← k6, List.getElem?_take_of_lt hjl] at hj
      simpa using hj
    obtain ⟨v', w', hr, r2, r3, r4, r5⟩ := run_append_own_at (P := Tryz.prog) w b1 22 o.type 24 i0 (.agg #[.string ⟨#[]⟩, .string ⟨#[]⟩, .slice none 0 0]) 3 56 underN hi hz0 hz1 hz2 rfl (by decide) sv1 ms1.length (flat ms1) h1 ⟨g, 0, none⟩ ms2.length cap (flat ms2) h20 hc (flat_one ms2) (by unfold maxLen; omega) (by omega) hb
    unfold Oper.wp execOp
    simp only [ho, resolve, invoke, builtin, Sem.run_bind, Sem.run_pure, Result.andThen_ok, List.map_toArray, List.map_cons, List.map_nil, hs, hx, hr]
    exact h v' w' r2 r3 r5
theorem Blk.z0 {w : World} {g : Nat} (h : Blk w g 24 zcs) : w.cell? ⟨g, 0, none⟩ = some (.string ⟨#[]⟩) := h.cell 0
theorem Blk.z1 {w : World} {g : Nat} (h : Blk w g 24 zcs) : w.cell? ⟨g, 1, none⟩ = some (.string ⟨#[]⟩) := h.cell 1
theorem Blk.z2 {w : World} {g : Nat} (h : Blk w g 24 zcs) : w.cell? ⟨g, 2, none⟩ = some (.slice none 0 0) := h.cell 2
theorem Below.al (w : World) (o : Obj) : Below w.heap.size w (w.alloc o) := (Below.refl _ _).alloc (Nat.le_refl _) o
/-- What stands behind the append: the row, the new node's block E. -/
def AE (W : World) (E : Nat) (v : Value) (ms : List Nd) (w : World) : Prop :=
  NAt W w ∧ W.heap.size + 1 ≤ E ∧ Blk w E 24 zcs ∧ ∃ lo, W.heap.size + 1 ≤ lo ∧ LX E lo v ms w
/-- And with the new node written. -/
def AF (W : World) (E : Nat) (kd tx : ByteArray) (v : Value) (ms : List Nd) (w : World) : Prop :=
  NAt W w ∧ W.heap.size + 1 ≤ E ∧ Blk w E 24 #[.string kd, .string tx, v] ∧ ∃ lo, W.heap.size + 1 ≤ lo ∧ LX E lo v ms w
section
variable {W X Y Z w1 w2 w3 w : World} {sv1 sv2 v' v : Value} {ms1 ms2 ms : List Nd} {E : Nat} {kd tx : ByteArray}
theorem AE.form (h : AE W E v (ms1 ++ ms2) w) : ∃ A cap, v = .slice A (ms1.length + ms2.length) cap := by
  have := h.2.2.2.choose_spec.2.form
  rwa [List.length_append] at this
/-- The append, the block being there. -/
theorem AE.mk (hX : NAt W X) (h1 : LN X sv1 ms1 w1) (hY : Below w1.heap.size w1 Y) (h2 : LN Y sv2 ms2 w2) (hZ : Below w2.heap.size w2 Z)
    (hE : (W.heap.size + 1 ≤ E ∧ E < X.heap.size) ∨ (E = w1.heap.size ∧ w1.heap.size < Y.heap.size) ∨ (E = w2.heap.size ∧ w2.heap.size < Z.heap.size)) (hblk : Blk Z E 24 zcs)
    (hown : w3.ownsRow X.heap.size 24 3 v' (ms1.length + ms2.length) (flat ms1 ++ flat ms2)) (hg : Z.grownBy w3 sv1.ownBlock) (hloc : v'.ownBlock = sv1.ownBlock ∨ v'.ownBlock = some Z.heap.size) :
    AE W E v' (ms1 ++ ms2) w3 := by
  have hx := hX.size
  have s1 := h1.2.1.size
  have s2 := hY.size
  have s3 := h2.2.1.size
  have s4 := hZ.size
  have hYZ : Below Y.heap.size Y Z := h2.2.1.trans (hZ.mono s3)
  have h1Y : Below w1.heap.size w1 Z := hY.trans (hYZ.mono s2)
  have hEZ := hblk.lt
  have l1 : LX E X.heap.size sv1 ms1 Z := by
    rcases hE with hE | hE | hE
    · exact (LX.of_lt h1 hE.2).next h1Y
    · exact (LX.of_ge h1 (by omega)).next h1Y
    · exact (LX.of_ge h1 (by omega)).next h1Y
  have l2 : LX E Y.heap.size sv2 ms2 Z := by
    rcases hE with hE | hE | hE
    · exact (LX.of_lt h2 (by omega)).next hZ
    · exact (LX.of_lt h2 (by omega)).next hZ
    · exact (LX.of_ge h2 (by omega)).next hZ
  have hown1 : ∀ g, sv1.ownBlock = some g → X.heap.size ≤ g ∧ g < w1.heap.size := fun g hg' => own_ge h1.1 hg'
  have hEs : sv1.ownBlock ≠ some E := l1.2.1
  have hbl : Below X.heap.size X w3 := (h1.2.1.trans (h1Y.mono s1)).trans ⟨hg.os, hg.tape, hg.output, hg.size, fun b hb => hg.block b (by omega) (fun e => by have := (hown1 b e.symm).1; omega)⟩
  refine ⟨hX.next hbl, by omega, hblk.keep (hg.block E hEZ (fun e => hEs e.symm)), X.heap.size, by omega, LX.concat l1 l2 (by omega) (fun g hg' => by have := (hown1 g hg').2; omega) (by omega) hown hg hloc⟩
/-- The append, the block not being there yet. -/
theorem AE.mk5 (hX : NAt W X) (h1 : LN X sv1 ms1 w1) (h2 : LN w1 sv2 ms2 w2)
    (hown : w3.ownsRow X.heap.size 24 3 v' (ms1.length + ms2.length) (flat ms1 ++ flat ms2)) (hg : w2.grownBy w3 sv1.ownBlock) (hloc : v'.ownBlock = sv1.ownBlock ∨ v'.ownBlock = some w2.heap.size) :
    NAt W w3 ∧ ∃ lo, W.heap.size + 1 ≤ lo ∧ LX w3.heap.size lo v' (ms1 ++ ms2) w3 := by
  have hx := hX.size
  have s1 := h1.2.1.size
  have s3 := h2.2.1.size
  have s4 := hg.size
  have hown1 : ∀ g, sv1.ownBlock = some g → X.heap.size ≤ g ∧ g < w1.heap.size := fun g hg' => own_ge h1.1 hg'
  have hbl : Below X.heap.size X w3 := (h1.2.1.trans (h2.2.1.mono s1)).trans ⟨hg.os, hg.tape, hg.output, hg.size, fun b hb => hg.block b (by omega) (fun e => by have := (hown1 b e.symm).1; omega)⟩
  have hE : w3.heap.size ≠ w2.heap.size ∨ v'.ownBlock = sv1.ownBlock := by
    rcases hloc with hl | hl
    · exact .inr hl
    · left
      have := (own_ge hown hl).2
      omega
  refine ⟨hX.next hbl, X.heap.size, by omega, ?_⟩
  have l1 : LX w3.heap.size X.heap.size sv1 ms1 w2 := (LX.of_ge h1 (by omega)).next h2.2.1
  have l2 : LX w3.heap.size w1.heap.size sv2 ms2 w2 := LX.of_ge h2 (by omega)
  by_cases he : w3.heap.size = w2.heap.size
  · have hl : v'.ownBlock = sv1.ownBlock := by
      rcases hE with hE | hE
      · exact absurd he hE
      · exact hE
    have l3 : LX (w3.heap.size + 1) X.heap.size v' (ms1 ++ ms2) w3 := LX.concat ((LX.of_ge h1 (by omega)).next h2.2.1) (LX.of_ge h2 (by omega)) (by omega) (fun g hg' => by have := (hown1 g hg').2; omega) (by omega) hown hg hloc
    refine ⟨l3.1, fun e => ?_, fun m hm => ?_⟩
    · have := (own_ge l3.1 e).2
      omega
    · obtain ⟨l, hh, k1, k2, k3, k4, k5⟩ := l3.2.2 m hm
      exact ⟨l, hh, k1, k2, k3, .inr k2, k5⟩
  · exact LX.concat l1 l2 (by omega) (fun g hg' => by have := (hown1 g hg').2; omega) he hown hg hloc
theorem step_AE {ops : Array Oper} {o : Oper} {a : Act} {K : Act → World → Prop} {Q : Exit → Act → World → Prop} {F : Prop} (hgd : o.guard = none) (s x : Operand)
    (ho : o.op = .call { callee := .builtin .append, args := #[s, x], argTypes := #[22, 22] })
    (hs : a.eval s = sv1) (hx : a.eval x = sv2) (hX : NAt W X) (h1 : LN X sv1 ms1 w1) (hY : Below w1.heap.size w1 Y) (h2 : LN Y sv2 ms2 w2) (hZ : Below w2.heap.size w2 Z)
    (hE : (W.heap.size + 1 ≤ E ∧ E < X.heap.size) ∨ (E = w1.heap.size ∧ w1.heap.size < Y.heap.size) ∨ (E = w2.heap.size ∧ w2.heap.size < Z.heap.size)) (hblk : Blk Z E 24 zcs)
    (hl1 : ms1.length ≤ 401) (hl2 : ms2.length ≤ 401) (h : ∀ v' w', AE W E v' (ms1 ++ ms2) w' → K (a.put o.dst v') w') :
    if Region.wanted o (yielded ops a.tmps) = true then Oper.wp Tryz.prog o a Z K Q else F := by
  have s1 := h1.2.1.size
  have s2 := hY.size
  have s3 := h2.2.1.size
  have s4 := hZ.size
  have hYZ : Below Y.heap.size Y Z := h2.2.1.trans (hZ.mono s3)
  exact step_append_rows hgd s x ho hs hx (h1.next (hY.trans (hYZ.mono s2))).1 (h2.next hZ).1 (by omega) hl1 hl2 fun v' w' r1 r2 r3 => h v' w' (AE.mk hX h1 hY h2 hZ hE hblk r1 r2 r3)
theorem step_AE5 {ops : Array Oper} {o : Oper} {a : Act} {K : Act → World → Prop} {Q : Exit → Act → World → Prop} {F : Prop} (hgd : o.guard = none) (s x : Operand)
    (ho : o.op = .call { callee := .builtin .append, args := #[s, x], argTypes := #[22, 22] })
    (hs : a.eval s = sv1) (hx : a.eval x = sv2) (hX : NAt W X) (h1 : LN X sv1 ms1 w1) (h2 : LN w1 sv2 ms2 w2)
    (hl1 : ms1.length ≤ 401) (hl2 : ms2.length ≤ 401) (h : ∀ v' w', (NAt W w' ∧ ∃ lo, W.heap.size + 1 ≤ lo ∧ LX w'.heap.size lo v' (ms1 ++ ms2) w') → K (a.put o.dst v') w') :
    if Region.wanted o (yielded ops a.tmps) = true then Oper.wp Tryz.prog o a w2 K Q else F := by
  have s1 := h1.2.1.size
  have s3 := h2.2.1.size
  exact step_append_rows hgd s x ho hs hx (h1.next h2.2.1).1 h2.1 (by omega) hl1 hl2 fun v' w' r1 r2 r3 => h v' w' (AE.mk5 hX h1 h2 r1 r2 r3)
theorem AE5.form (h : NAt W w ∧ ∃ lo, W.heap.size + 1 ≤ lo ∧ LX w.heap.size lo v (ms1 ++ ms2) w) : ∃ A cap, v = .slice A (ms1.length + ms2.length) cap := by
  have := h.2.choose_spec.2.form
  rwa [List.length_append] at this
theorem AF.of (h : AE W E v ms w) : AF W E kd tx v ms (((w.setCell ⟨E, 0, none⟩ (.string kd)).setCell ⟨E, 1, none⟩ (.string tx)).setCell ⟨E, 2, none⟩ v) := by
  obtain ⟨h1, h2, h3, lo, h4, h5⟩ := h
  exact ⟨((h1.far h2 _).far h2 _).far h2 _, h2, ((h3.set_ 0 (.string kd)).set_ 1 (.string tx)).set_ 2 v, lo, h4, ((h5.far _ _).far _ _).far _ _⟩
theorem AF.of5 (h : NAt W w ∧ ∃ lo, W.heap.size + 1 ≤ lo ∧ LX w.heap.size lo v ms w) : AF W w.heap.size kd tx v ms (w.alloc (.cells #[.string kd, .string tx, v] 24)) := by
  obtain ⟨h1, lo, h4, h5⟩ := h
  exact ⟨h1.alloc _, h1.size, Blk.new _ _ _, lo, h4, h5.next (Below.al _ _)⟩
theorem AF.text (h : AF W E kd tx v ms w) (t : ByteArray) : AF W E kd t v ms (w.setCell ⟨E, 1, none⟩ (.string t)) := by
  obtain ⟨h1, h2, h3, lo, h4, h5⟩ := h
  exact ⟨h1.far h2 _, h2, h3.set_ 1 (.string t), lo, h4, h5.far _ _⟩
theorem AF.e0 (h : AF W E kd tx v ms w) : w.cell? ⟨E, 0, none⟩ = some (.string kd) := h.2.2.1.cell 0
theorem AF.e1 (h : AF W E kd tx v ms w) : w.cell? ⟨E, 1, none⟩ = some (.string tx) := h.2.2.1.cell 1
theorem AF.e2 (h : AF W E kd tx v ms w) : w.cell? ⟨E, 2, none⟩ = some v := h.2.2.1.cell 2
theorem AF.end_ {A : Option Addr} {cap n : Nat} {ks : List Nd} {ad : Option Addr} {cp : Nat} (h : AF W E kd tx (.slice A n cap) ms w) (hn : ms.length = n) (hs : sameL ks ms = true)
    {a : Act} (hd : a.defers = []) (hp : a.tmps.getD 2 undef = .pointer (some ⟨W.heap.size, 0, none⟩)) :
    bodyPost Tryz.prog Tryz.f45 (NPost W ⟨kd, tx, ad, cp, ks⟩) Exit.ret a (((w.setCell ⟨W.heap.size, 0, none⟩ (.string kd)).setCell ⟨W.heap.size, 1, none⟩ (.string tx)).setCell ⟨W.heap.size, 2, none⟩ (.slice A n cap)) := by
  subst hn
  obtain ⟨h1, h2, h3, lo, h4, h5⟩ := h
  exact node_end h1 h5.inr h4 hs hd hp
end
theorem zblk_b (W : World) (o : Obj) (t : TypeId) (cs : Array Value) : Blk ((((W.alloc o).alloc (.cells zcs 24)).alloc (.cells cs t)).drew) (W.heap.size + 1) 24 zcs := (blk_a W o 24 zcs).alloc (.cells cs t)
theorem zblk_c (W : World) (o : Obj) (t : TypeId) (cs : Array Value) : Blk ((((W.alloc o).alloc (.cells cs t)).alloc (.cells zcs 24)).drew) (W.heap.size + 1 + 1) 24 zcs := blk_b W o _ 24 zcs
theorem valid_0 (w : World) : Calls Tryz.prog 64 #[.int .i64 0] w fun e w' => e = .returned (.bool false) ∧ w = w' := by
  go_enter Tryz.func64, Tryz.ntmps64
  go_wp2
  go_ret
  exact ⟨rfl, rfl⟩
theorem valid_p (x : Int) (hx : x ≠ 0) (w : World) : Calls Tryz.prog 64 #[.int .i64 x] w fun e w' => e = .returned (.bool true) ∧ w = w' := by
  go_enter Tryz.func64, Tryz.ntmps64
  go_wp2
  go_ret
  exact ⟨by simp [hx], rfl⟩
theorem ExL.len {w : World} {S : Nat → Prop} {P : Nat → Int} : ∀ {ks : List Nd} {is : List Nat} {vs : List Value}, ExL w S P is ks vs → vs.length = ks.length
  | [], is, vs, h => by rw [exl_nil h]; rfl
  | k :: ks, is, vs, h => by
    obtain ⟨i, is', q, c, vs', rfl, h1, h2⟩ := exl_cons h
    simp [ExL.len h2]
theorem sameL_len : ∀ {a b : List Nd}, sameL a b = true → b.length = a.length
  | [], [], _ => rfl
  | [], _ :: _, h => by simp [sameL] at h
  | _ :: _, [], h => by simp [sameL] at h
  | x :: a, y :: b, h => by
    rw [sameL, Bool.and_eq_true] at h
    simp [sameL_len h.2]
end Go.Proofs.YtjbhjbpamnoebaaGreatFmt

namespace Go.Proofs.YtjbhjbpamnoebaaGreatFmt
open Go.RowKit

set_option maxRecDepth 100000 in
theorem node_name (P : Nat → Int) (tx : ByteArray) (ad : Option Addr) (cp : Nat) : NOf P ⟨⟨#[110, 97, 109, 101]⟩, tx, ad, cp, []⟩ := by
  intro W lo hi i v hT hhi hX
  obtain ⟨vs, hl, hn⟩ := hX
  obtain ⟨b, hb, hv⟩ : NodeAt W (Rng lo hi) P 0 tx [] i _ vs v := hn
  obtain ⟨rfl, hblk⟩ := hv
  have k1 : W.cell? ⟨b, 1, none⟩ = some (.string tx) := hblk.cell 1
  have hblt := hblk.lt
  have N0 := Lib.hid (NAt.start W)
  have HT := Lib.hid hT
  show Calls _ _ #[.iface 80 (.pointer (some ⟨b, 0, none⟩))] W _
  clear hT hblk hb
  go_enter Tryz.func45, Tryz.ntmps45
  have t0 := as_Ident_Ident
  go_wp2_with fail
  exact node_leaf (by rfl) (by rfl)

set_option maxRecDepth 100000 in
theorem node_literal (P : Nat → Int) (tx : ByteArray) (ad : Option Addr) (cp : Nat) : NOf P ⟨⟨#[108, 105, 116, 101, 114, 97, 108]⟩, tx, ad, cp, []⟩ := by
  intro W lo hi i v hT hhi hX
  obtain ⟨vs, hl, hn⟩ := hX
  obtain ⟨b, hb, hv⟩ : NodeAt W (Rng lo hi) P 1 tx [] i _ vs v := hn
  obtain ⟨rfl, hblk⟩ := hv
  have k3 : W.cell? ⟨b, 3, none⟩ = some (.string tx) := hblk.cell 3
  have hblt := hblk.lt
  have N0 := Lib.hid (NAt.start W)
  have HT := Lib.hid hT
  show Calls _ _ #[.iface 76 (.pointer (some ⟨b, 0, none⟩))] W _
  clear hT hblk hb
  go_enter Tryz.func45, Tryz.ntmps45
  have t0 := as_BasicLit_Ident
  have t1 := as_BasicLit_BasicLit
  go_wp2_with fail
  exact node_leaf (by rfl) (by rfl)

set_option maxRecDepth 100000 in
theorem node_paren (P : Nat → Int) (ad : Option Addr) (cp : Nat) (x : Nd) (IHx : NOf P x) : NOf P ⟨⟨#[112, 97, 114, 101, 110]⟩, ⟨#[]⟩, ad, cp, [x]⟩ := by
  intro W lo hi i v hT hhi hX
  obtain ⟨vs, hl, hn⟩ := hX
  obtain ⟨b, hb, hv⟩ : NodeAt W (Rng lo hi) P 2 ⟨#[]⟩ [x.ntok] i _ vs v := hn
  obtain ⟨rfl, hblk⟩ := hv
  obtain ⟨ix, qx, cx, rfl, hx⟩ := exl1 hl
  have k1 : W.cell? ⟨b, 1, none⟩ = some (.iface qx (.pointer (some ⟨cx, 0, none⟩))) := hblk.cell 1
  have hblt := hblk.lt
  have N0 := Lib.hid (NAt.start W)
  have HT := Lib.hid hT
  have Hx := Lib.hid hx
  have Ix := Lib.hid IHx
  show Calls _ _ #[.iface 100 (.pointer (some ⟨b, 0, none⟩))] W _
  clear hT hl hblk hb hx IHx
  go_enter Tryz.func45, Tryz.ntmps45
  have t0 := as_ParenExpr_Ident
  have t1 := as_ParenExpr_BasicLit
  have t2 := as_ParenExpr_ParenExpr
  go_wp2_with fail
  refine (nodes_at N0.out HT.out [x] (by simpa using Ix.out) [.iface qx (.pointer (some ⟨cx, 0, none⟩))] hhi (.take Hx.out .nil) (by simp) _ rfl _ rfl _ (by first | rfl | simp)).mono ?_
  rintro e w1 ⟨A, cap, ms, rfl, hin, hsm, hN, hbl⟩
  have N1 := Lib.hid hN
  have HI := Lib.hid hin
  have HS := Lib.hid hsm
  have hz := N1.out.size
  clear hin hsm hbl hN
  have r0 := N1.out.c0
  have f0 := N1.out.frozen 0
  have r1 := N1.out.c1
  have f1 := N1.out.frozen 1
  have r2 := N1.out.c2
  have f2 := N1.out.frozen 2
  go_wp2_with fail
  exact node_end N1.out HI.out (by first | (simp; done) | (simp; omega) | omega) HS.out (by rfl) (by rfl)

set_option maxRecDepth 100000 in
theorem node_star (P : Nat → Int) (ad : Option Addr) (cp : Nat) (x : Nd) (IHx : NOf P x) : NOf P ⟨⟨#[115, 116, 97, 114]⟩, ⟨#[]⟩, ad, cp, [x]⟩ := by
  intro W lo hi i v hT hhi hX
  obtain ⟨vs, hl, hn⟩ := hX
  obtain ⟨b, hb, hv⟩ : NodeAt W (Rng lo hi) P 3 ⟨#[]⟩ [x.ntok] i _ vs v := hn
  obtain ⟨rfl, hblk⟩ := hv
  obtain ⟨ix, qx, cx, rfl, hx⟩ := exl1 hl
  have k1 : W.cell? ⟨b, 1, none⟩ = some (.iface qx (.pointer (some ⟨cx, 0, none⟩))) := hblk.cell 1
  have hblt := hblk.lt
  have N0 := Lib.hid (NAt.start W)
  have HT := Lib.hid hT
  have Hx := Lib.hid hx
  have Ix := Lib.hid IHx
  show Calls _ _ #[.iface 121 (.pointer (some ⟨b, 0, none⟩))] W _
  clear hT hl hblk hb hx IHx
  go_enter Tryz.func45, Tryz.ntmps45
  have t0 := as_StarExpr_Ident
  have t1 := as_StarExpr_BasicLit
  have t2 := as_StarExpr_ParenExpr
  have t3 := as_StarExpr_UnaryExpr
  have t4 := as_StarExpr_StarExpr
  go_wp2_with fail
  refine (nodes_at N0.out HT.out [x] (by simpa using Ix.out) [.iface qx (.pointer (some ⟨cx, 0, none⟩))] hhi (.take Hx.out .nil) (by simp) _ rfl _ rfl _ (by first | rfl | simp)).mono ?_
  rintro e w1 ⟨A, cap, ms, rfl, hin, hsm, hN, hbl⟩
  have N1 := Lib.hid hN
  have HI := Lib.hid hin
  have HS := Lib.hid hsm
  have hz := N1.out.size
  clear hin hsm hbl hN
  have r0 := N1.out.c0
  have f0 := N1.out.frozen 0
  have r1 := N1.out.c1
  have f1 := N1.out.frozen 1
  have r2 := N1.out.c2
  have f2 := N1.out.frozen 2
  go_wp2_with fail
  exact node_end N1.out HI.out (by first | (simp; done) | (simp; omega) | omega) HS.out (by rfl) (by rfl)
end Go.Proofs.YtjbhjbpamnoebaaGreatFmt
