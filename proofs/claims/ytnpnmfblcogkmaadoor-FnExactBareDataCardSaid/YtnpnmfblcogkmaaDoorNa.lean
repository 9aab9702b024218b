/-
  impl.node: the state of its walk, its calls of nodes, its end.
-/
import Derived.Test.YtnpnmfblcogkmaaDoorNk
import Derived.Test.YtnpnmfblcogkmaaDoorAs
namespace Go.Proofs.YtnpnmfblcogkmaaDoor
open Go.RowKit

/-- The cells of an empty node. -/
def zcs : Array Value := #[.string ⟨#[]⟩, .string ⟨#[]⟩, .slice none 0 0]
/-- All is as it was behind the making of the result's variable, and more blocks. -/
def NAt (W w : World) : Prop := Below (W.heap.size + 1) (W.alloc (.cells zcs 32)) w
section
variable {W w w' : World} {P : Nat → Int} {lo hi : Nat}
theorem NAt.start (W : World) : NAt W (W.alloc (.cells #[.string ⟨#[]⟩, .string ⟨#[]⟩, .slice none 0 0] 32)) := Below.refl _ _
theorem NAt.size (h : NAt W w) : W.heap.size + 1 ≤ w.heap.size := by
  have := Below.size h
  rwa [World.size_alloc] at this
theorem NAt.next (h : NAt W w) (hb : Below w.heap.size w w') : NAt W w' := Below.trans h (hb.mono h.size)
theorem NAt.drew (h : NAt W w) : NAt W w.drew := Below.drew h
theorem NAt.alloc (h : NAt W w) (o : Obj) : NAt W (w.alloc o) := Below.alloc h h.size o
theorem NAt.far (h : NAt W w) {p : Addr} (hp : W.heap.size + 1 ≤ p.block) (u : Value) : NAt W (w.setCell p u) := Below.setCell h hp u
theorem NAt.old (h : NAt W w) : Below W.heap.size W w := ((Below.refl _ _).alloc (Nat.le_refl _) _).trans (Below.mono h (Nat.le_succ _))
theorem NAt.tok (h : NAt W w) (hT : TokTab W) : TokTab w := hT.below h.old
theorem NAt.ex (h : NAt W w) (hhi : hi ≤ W.heap.size) {i : Nat} {x : Nd} {v : Value} (hX : ExR W (Rng lo hi) P i x v) : ExR w (Rng lo hi) P i x v :=
  ExR.keep (fun _ hs => h.old.block _ (Nat.lt_of_lt_of_le hs.2 hhi)) (fun _ hs => hs) _ _ _ hX
theorem NAt.nl (h : NAt W w) (hhi : hi ≤ W.heap.size) {ks : List Nd} {vs : List Value} (hX : NL W (Rng lo hi) P ks vs) : NL w (Rng lo hi) P ks vs :=
  hX.keep fun _ hs => h.old.block _ (Nat.lt_of_lt_of_le hs.2 hhi)
theorem NAt.blk (h : NAt W w) : Blk w W.heap.size 32 zcs :=
  (Blk.new W 32 zcs).keep (Below.block h _ (Nat.lt_succ_self _))
theorem NAt.c0 (h : NAt W w) : w.cell? ⟨W.heap.size, 0, none⟩ = some (.string ⟨#[]⟩) := h.blk.cell 0
theorem NAt.c1 (h : NAt W w) : w.cell? ⟨W.heap.size, 1, none⟩ = some (.string ⟨#[]⟩) := h.blk.cell 1
theorem NAt.c2 (h : NAt W w) : w.cell? ⟨W.heap.size, 2, none⟩ = some (.slice none 0 0) := h.blk.cell 2
theorem NAt.frozen (h : NAt W w) (j : Nat) : w.frozen? ⟨W.heap.size, j, none⟩ = false := h.blk.frozen j
theorem NAt.kept3 (h : NAt W w) {p : Addr} (hp : p.block < W.heap.size) {r : Option Value} (he : W.cell? p = r) {u0 u1 u2 : Value} : (((w.setCell ⟨W.heap.size, 0, none⟩ u0).setCell ⟨W.heap.size, 1, none⟩ u1).setCell ⟨W.heap.size, 2, none⟩ u2).cell? p = r :=
  ((((h.old.setCell (Nat.le_refl _) _).setCell (Nat.le_refl _) _).setCell (Nat.le_refl _) _).cell hp).trans he
theorem NAt.kept (h : NAt W w) {p : Addr} (hp : p.block < W.heap.size) {r : Option Value} (he : W.cell? p = r) : w.cell? p = r := (h.old.cell hp).trans he
end

/-- What nodes leaves in node. -/
def NsAt (W w : World) (ks : List Nd) (e : Ending) (w' : World) : Prop :=
  ∃ A cap ms, e = .returned (.slice A (ms : List Nd).length cap) ∧ Nd.InR w' (w.heap.size + 1) w'.heap.size ⟨⟨#[]⟩, ⟨#[]⟩, A, cap, ms⟩ ∧ sameL ks ms = true ∧ NAt W w' ∧ Below w.heap.size w w'
theorem nodes_at {W w : World} (h : NAt W w) (hT : TokTab W) {P : Nat → Int} (ks : List Nd) (IH : ∀ k ∈ ks, NOf P k) (vs : List Value) {lo hi : Nat} (hhi : hi ≤ W.heap.size) (hNL : NL W (Rng lo hi) P ks vs) (hlen : vs.length ≤ 401) (cs : Array Value) (hcs : vs.toArray = cs) (n : Nat) (hn : vs.length = n) (s : Nat) (hs : w.heap.size = s) :
    Calls Tryd.prog 32 #[.slice (some ⟨s, 0, none⟩) n n] (w.alloc (.cells cs 46)) (NsAt W w ks) := by
  subst hcs hs
  refine (nodes_lit P ks IH vs w (h.tok hT) lo hi (Nat.le_trans hhi (by have := h.size; omega)) (h.nl hhi hNL) hlen n hn).mono ?_
  rintro e w1 ⟨A, cap, ms, rfl, hin, hsm, hbl, _⟩
  have hsa : (w.alloc (.cells vs.toArray 46)).heap.size = w.heap.size + 1 := World.size_alloc _ _
  rw [hsa] at hin
  have hb2 : Below w.heap.size w w1 := ((Below.refl _ _).alloc (Nat.le_refl _) _).trans (hbl.mono (by omega))
  exact ⟨A, cap, ms, rfl, hin, hsm, h.next hb2, hb2⟩
/-- nodes of a list in memory. -/
theorem nodes_mem {W w : World} (h : NAt W w) (hT : TokTab W) {P : Nat → Int} (ks : List Nd) (IH : ∀ k ∈ ks, NOf P k) (vs : List Value) {lo hi : Nat} (hhi : hi ≤ W.heap.size) (hNL : NL W (Rng lo hi) P ks vs) (hlen : vs.length ≤ 401) {sv : Value} (hsv : SlAt W (Rng lo hi) sv vs) (A : Option Addr) (n cap : Nat) (he : sv = .slice A n cap) :
    Calls Tryd.prog 32 #[.slice A n cap] w (NsPost w ks) := by
  rcases hsv with ⟨rfl, rfl⟩ | ⟨g, cap', cs, rfl, hg, hb, h0, hc, hm, ht⟩
  · cases he
    exact nodes_any P ks IH [] w (h.tok hT) lo hi (Nat.le_trans hhi (by have := h.size; omega)) _ _ (fun j v hj => by simp at hj) (h.nl hhi hNL) (by simp) _ rfl
  · cases he
    refine nodes_any P ks IH vs w (h.tok hT) lo hi (Nat.le_trans hhi (by have := h.size; omega)) _ _ (fun j v hj => ⟨g, 0, rfl, ?_, ?_⟩) (h.nl hhi hNL) hlen _ rfl
    · have := hg.2
      have := h.size
      omega
    · rw [h.old.cell (p := ⟨g, 0 + j, none⟩) (by have := hg.2; show g < _; omega), Nat.zero_add, hb.cell j]
      have hjl : j < vs.length := (List.getElem?_eq_some_iff.1 hj).1
      rw [← ht, List.getElem?_take_of_lt hjl] at hj
      simpa using hj

theorem node_end {W w1 : World} (h : NAt W w1) {kd tx : ByteArray} {ad : Option Addr} {cp : Nat} {ks : List Nd} {A : Option Addr} {cap : Nat} {ms : List Nd} {lo : Nat} (hin : Nd.InR w1 lo w1.heap.size ⟨⟨#[]⟩, ⟨#[]⟩, A, cap, ms⟩) (hlo : W.heap.size + 1 ≤ lo) (hs : sameL ks ms = true)
    {a : Act} (hd : a.defers = []) (hp : a.tmps.getD 2 undef = .pointer (some ⟨W.heap.size, 0, none⟩)) :
    bodyPost Tryd.prog Tryd.f24 (NPost W ⟨kd, tx, ad, cp, ks⟩) Exit.ret a (((w1.setCell ⟨W.heap.size, 0, none⟩ (.string kd)).setCell ⟨W.heap.size, 1, none⟩ (.string tx)).setCell ⟨W.heap.size, 2, none⟩ (.slice A ms.length cap)) := by
  have hf : Blk _ W.heap.size 32 #[.string kd, .string tx, .slice A ms.length cap] := ((h.blk.set_ 0 (.string kd)).set_ 1 (.string tx)).set_ 2 (.slice A ms.length cap)
  refine bodyPost_ret (results_cell_row rfl _ _ W.heap.size 32 _ (0, 0) _ hp hf Tryd.underlying32 rfl ?_) hd ?_
  · have := infoN
    cases hq : Tryd.prog.info? 32 with
    | none => rw [hq] at this; cases this
    | some q =>
      rw [hq] at this
      simp only [Option.map_some, Option.some.injEq, Prod.mk.injEq] at this ⊢
      exact this.2.1
  · refine ⟨⟨kd, tx, A, cap, ms⟩, rfl, ?_, by simp [Nd.same, hs], ?_⟩
    · rw [Nd.InR_iff] at hin
      have hin' : Nd.InR w1 lo w1.heap.size ⟨kd, tx, A, cap, ms⟩ := by rw [Nd.InR_iff]; exact hin
      refine Nd.InR.keep (fun b hb1 hb2 => ?_) (by omega) (by simp [World.setCell]) _ hin'
      rw [Below.heap_setCell _ _ _ _ (by show b ≠ W.heap.size; omega), Below.heap_setCell _ _ _ _ (by show b ≠ W.heap.size; omega), Below.heap_setCell _ _ _ _ (by show b ≠ W.heap.size; omega)]
    · exact ((h.old.setCell (Nat.le_refl _) _).setCell (Nat.le_refl _) _).setCell (Nat.le_refl _) _
theorem node_leaf {W : World} {kd tx : ByteArray} {ad : Option Addr} {cp : Nat}
    {a : Act} (hd : a.defers = []) (hp : a.tmps.getD 2 undef = .pointer (some ⟨W.heap.size, 0, none⟩)) :
    bodyPost Tryd.prog Tryd.f24 (NPost W ⟨kd, tx, ad, cp, []⟩) Exit.ret a (W.alloc (.cells #[.string kd, .string tx, .slice none 0 0] 32)) := by
  have hf : Blk _ W.heap.size 32 #[.string kd, .string tx, .slice none 0 0] := Blk.new W _ _
  refine bodyPost_ret (results_cell_row rfl _ _ W.heap.size 32 _ (0, 0) _ hp hf Tryd.underlying32 rfl ?_) hd ?_
  · have := infoN
    cases hq : Tryd.prog.info? 32 with
    | none => rw [hq] at this; cases this
    | some q =>
      rw [hq] at this
      simp only [Option.map_some, Option.some.injEq, Prod.mk.injEq] at this ⊢
      exact this.2.1
  · refine ⟨⟨kd, tx, none, 0, []⟩, rfl, ?_, by simp [Nd.same, sameL], (Below.refl _ _).alloc (Nat.le_refl _) _⟩
    rw [Nd.InR_iff]
    exact ⟨Nat.le_refl _, Nat.zero_le _, fun j k hj => by simp at hj⟩
theorem tk_op (tx : ByteArray) (h : tx.data.toList ∈ opTexts) : tk (opNo tx) = tx := by
  refine bytes_ext ?_
  show tab.getD (opNo tx) [] = _
  exact op_here tx h
theorem op_at (tx : ByteArray) (h : tx.data.toList ∈ opTexts) (w : World) (hT : TokTab w) : Calls Tryd.prog 16 #[.int .i64 (opNo tx)] w fun e w' => e = .returned (.string tx) ∧ w = w' := by
  have := String_tab (opNo tx) (Nat.lt_trans (op_len tx h).2 (by decide)) (op_full _ (op_len tx h).1 (op_len tx h).2) w hT
  rwa [tk_op tx h] at this
end Go.Proofs.YtnpnmfblcogkmaaDoor
