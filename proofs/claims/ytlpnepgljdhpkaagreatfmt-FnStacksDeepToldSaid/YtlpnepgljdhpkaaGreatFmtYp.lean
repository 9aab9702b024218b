/-
  A loop over ast.Preorder: what its rounds owe; a call of yield.
-/
import Derived.Test.YtlpnepgljdhpkaaGreatFmtOb
import Derived.Test.YtlpnepgljdhpkaaGreatFmtYa
import Derived.RangeFuncNested
import Derived.RangeFuncBound
import Derived.RangeFuncCalls
import Derived.RangeFuncLeaves
import Derived.Shelf.Abstract
import Derived.Shelf.RegionOpen
import Derived.WalkKit
import Derived.OwnWalkIn
import Derived.TacticsInMore
import Derived.LoopNIn
import Derived.LoopIn
namespace Go.Proofs.YtlpnepgljdhpkaaGreatFmt
open Go.RowKit Go.Shelf

/-- All but the loop's own four blocks stand as they were. -/
def Kq (B : Nat) (w w' : World) : Prop := w'.os = w.os ∧ w'.tape = w.tape ∧ w'.output = w.output ∧ w.heap.size ≤ w'.heap.size ∧ ∀ k, k < w.heap.size → (k < B ∨ B + 4 ≤ k) → w'.heap[k]? = w.heap[k]?
theorem Kq.put {B l : Nat} (w : World) (o : Obj) (h1 : B ≤ l) (h2 : l < B + 4) : Kq B w (w.putObj l o) :=
  ⟨rfl, rfl, rfl, by show w.heap.size ≤ (w.heap.setIfInBounds l o).size; simp, fun k _ hk => World.putObj_heap_other (by omega)⟩
theorem Kq.cell {B : Nat} (w : World) (p : Addr) (v : Value) (h1 : B ≤ p.block) (h2 : p.block < B + 4) : Kq B w (w.setCell p v) :=
  ⟨rfl, rfl, rfl, by simp [World.setCell], fun k _ hk => Below.heap_setCell w p v k (by omega)⟩
theorem Kq.of_below {B : Nat} {w w' : World} (h : Below w.heap.size w w') : Kq B w w' := ⟨h.os, h.tape, h.output, h.size, fun k hk _ => h.block k hk⟩
theorem Kp.of_kq {lo hi B : Nat} {w w' : World} (h : Kq B w w') (h1 : hi ≤ B) (h2 : B ≤ w.heap.size) : Kp lo hi w w' := ⟨h.2.2.2.1, fun b _ hb => h.2.2.2.2 b (by omega) (.inl (by omega))⟩
theorem Kp.less {lo hi hi' : Nat} {w w' : World} (h : Kp lo hi w w') (h1 : hi' ≤ hi) : Kp lo hi' w w' := ⟨h.1, fun b hb1 hb2 => h.2 b hb1 (by omega)⟩
theorem Kp.put {lo hi l : Nat} (w : World) (o : Obj) (h1 : hi ≤ l) : Kp lo hi w (w.putObj l o) :=
  ⟨by show w.heap.size ≤ (w.heap.setIfInBounds l o).size; simp, fun k _ hk => World.putObj_heap_other (by omega)⟩

/-- The loop's record. -/
def lrec (B : Nat) (fn : FuncId) (tmps : Array Value) (ps : Array Tmp) (assign body : Code) (st : LoopState) (pe : Option Code) : Loop := { state := st, pending := pe, fn, tmps, params := ps, assign, body, defers := B }
/-- What the rounds of a loop over Preorder do: the loop's blocks are number B to B + 3; I: what holds when some nodes have come; at the M-th node the loop is left. -/
structure PL (lo hi B m : Nat) (P : Nat → Int) (tmps : Array Value) (ps : Array Tmp) (assign body : Code) (a₁ : Value → Act) (M id : Nat) (I : List (Nd × Nat) → World → Prop) : Prop where
  keep : ∀ s A C, I s A → B + 4 ≤ A.heap.size → Kq B A C → I s C
  one : ps.size = 1
  asg : ∀ (v : Value) (W : World) (K : Act → World → Prop), K (a₁ v) W → assign.wpIn (Fence.wide.inRound (B + 1)) m Tryz.prog (Exit.then K (fun _ _ _ => False)) { tmps := (ps.zip #[v]).foldl (fun t (p, v) => t.setIfInBounds p v) tmps, defers := [] } W
  round : ∀ (pre : List (Nd × Nat)) (n : Nd) (i : Nat) (v : Value) (W : World), n.shapedB = true → n.size ≤ 400 → pre.length < M → pre.length < 5000 → I pre W → B + 4 ≤ W.heap.size → ExR W (Rng lo hi) P i n v →
    body.wpIn (Fence.wide.inRound (B + 1)) m Tryz.prog (fun e _ W' => (e = .normal ∧ pre.length + 1 < M ∨ e = .exit id ∧ ¬ pre.length + 1 < M) ∧ Kp lo (B + 4) W W' ∧ I (pre ++ [(n, i)]) W') (a₁ v) W
section
variable {lo hi B m : Nat} {P : Nat → Int} {fn : FuncId} {tmps : Array Value} {ps : Array Tmp} {assign body : Code} {a₁ : Value → Act} {M id : Nat} {I : List (Nd × Nat) → World → Prop}
/-- The loop's state: its blocks, and what has come. -/
def PMid (B : Nat) (fn : FuncId) (tmps : Array Value) (ps : Array Tmp) (assign body : Code) (id : Nat) (I : List (Nd × Nat) → World → Prop) (s : List (Nd × Nat)) (b ok : Bool) (w : World) : Prop :=
  B + 4 ≤ w.heap.size ∧ w.heap[B]? = some (.deferred (some [])) ∧ Blk w (B + 2) 55 #[.func (.yield (B + 1)) #[] #[]] ∧ I s w ∧
  w.heap[B + 1]? = some (.loop (if b = true then lrec B fn tmps ps assign body .ready none else lrec B fn tmps ps assign body .done (some (.exit id)))) ∧ Blk w (B + 3) 4 #[.bool ok]
def PSt (B : Nat) (fn : FuncId) (tmps : Array Value) (ps : Array Tmp) (assign body : Code) (M id : Nat) (I : List (Nd × Nat) → World → Prop) (tr : List Ev) (w : World) : Prop :=
  PMid B fn tmps ps assign body id I ((nodesOf tr).take M) (decide ((nodesOf tr).length < M)) (decide ((nodesOf tr).length < M)) w
theorem PMid.below {s : List (Nd × Nat)} {b ok : Bool} {w w' : World} (hL : PL lo hi B m P tmps ps assign body a₁ M id I) (h : PMid B fn tmps ps assign body id I s b ok w) (hb : Below w.heap.size w w') : PMid B fn tmps ps assign body id I s b ok w' := by
  obtain ⟨h1, h2, h3, h4, h5, h6⟩ := h
  exact ⟨Nat.le_trans h1 hb.size, (hb.block B (by omega)).trans h2, h3.below hb (by omega), hL.keep _ _ _ h4 h1 (.of_below hb), (hb.block (B + 1) (by omega)).trans h5, h6.below hb (by omega)⟩
theorem PMid.ok {s : List (Nd × Nat)} {b ok ok' : Bool} {w : World} (hL : PL lo hi B m P tmps ps assign body a₁ M id I) (h : PMid B fn tmps ps assign body id I s b ok w) : PMid B fn tmps ps assign body id I s b ok' (w.setCell ⟨B + 3, 0, none⟩ (.bool ok')) := by
  obtain ⟨h1, h2, h3, h4, h5, h6⟩ := h
  exact ⟨by simpa [World.setCell] using h1, (Below.heap_setCell w _ _ B (by show B ≠ B + 3; omega)).trans h2, h3.far (by show B + 2 ≠ B + 3; omega) _, hL.keep _ _ _ h4 h1 (.cell _ _ _ (by show B ≤ B + 3; omega) (by show B + 3 < B + 4; omega)), (Below.heap_setCell w _ _ (B + 1) (by show B + 1 ≠ B + 3; omega)).trans h5, h6.set_ 0 (.bool ok')⟩
/-- A call of yield. -/
theorem yield_at (hL : PL lo hi B m P tmps ps assign body a₁ M id I) (hlo : lo ≤ B) (hB : hi ≤ B) (s : List (Nd × Nat)) (n : Nd) (i : Nat) (v : Value) (w : World) (hs : n.shapedB = true) (hz : n.size ≤ 400) (hlt : s.length < M) (h5 : s.length < 5000)
    (h : PMid B fn tmps ps assign body id I s true true w) (hX : ExR w (Rng lo hi) P i n v) :
    ∃ tmps', (Instr.yield (B + 1) #[v]).run Tryz.prog w = .ok (.round (B + 1) fn tmps' assign body) w ∧ RoundIn Fence.wide m Tryz.prog (B + 1) fn tmps' assign body w fun e w' =>
      e = .returned (.bool (decide (s.length + 1 < M))) ∧ PMid B fn tmps ps assign body id I (s ++ [(n, i)]) (decide (s.length + 1 < M)) true w' ∧ Kp lo hi w w' := by
  obtain ⟨h1, h2, h3, h4, hl, h6⟩ := h
  rw [if_pos rfl] at hl
  refine ⟨_, run_yield hl hL.one.symm, roundIn_of_wpIn trivial (hL.asg v w _ ⟨_, run_beginRound hl rfl, ?_⟩)⟩
  refine wpIn_mono (hL.round s n i v _ hs hz hlt h5 (hL.keep _ _ _ h4 h1 (.put _ _ (by omega) (by omega))) ?_ ((Kp.put (lo := lo) w _ (by omega : hi ≤ B + 1)).ex hX)) ?_
  · show B + 4 ≤ (w.heap.setIfInBounds _ _).size
    simpa using h1
  rintro e a3 W3 ⟨he, hK, hI⟩
  have hlw : B + 1 < w.heap.size := by omega
  have hl2 : (w.putObj (B + 1) (.loop { lrec B fn tmps ps assign body .ready none with state := .busy })).heap[B + 1]? = some (.loop { lrec B fn tmps ps assign body .ready none with state := .busy }) := World.putObj_heap_same hlw
  have hl3 := (hK.2 (B + 1) (by omega) (by omega)).trans hl2
  have hz3 : B + 4 ≤ W3.heap.size := Nat.le_trans h1 (Nat.le_trans (by show w.heap.size ≤ (w.heap.setIfInBounds _ _).size; simp) hK.1)
  have h23 : W3.heap[B]? = some (.deferred (some [])) := ((hK.2 B (by omega) (by omega)).trans (World.putObj_heap_other (by omega))).trans h2
  have h33 : Blk W3 (B + 2) 55 #[.func (.yield (B + 1)) #[] #[]] := h3.keep ((hK.2 (B + 2) (by omega) (by omega)).trans (World.putObj_heap_other (by omega)))
  have h63 : Blk W3 (B + 3) 4 #[.bool true] := h6.keep ((hK.2 (B + 3) (by omega) (by omega)).trans (World.putObj_heap_other (by omega)))
  have hKp : ∀ o, Kp lo hi w (W3.putObj (B + 1) o) := fun o => ((Kp.put w _ (by omega)).trans (hK.less (by omega))).trans (Kp.put W3 o (by omega))
  have hlt3 : B + 1 < W3.heap.size := by omega
  have fin : ∀ (jump : Option Code) (st : LoopState) (b : Bool), (if b = true then lrec B fn tmps ps assign body .ready none else lrec B fn tmps ps assign body .done (some (.exit id))) = { lrec B fn tmps ps assign body .ready none with state := st, pending := jump } → PMid B fn tmps ps assign body id I (s ++ [(n, i)]) b true (W3.putObj (B + 1) (.loop { lrec B fn tmps ps assign body .ready none with state := st, pending := jump })) := fun jump st b hb => by
    refine ⟨by show B + 4 ≤ (W3.heap.setIfInBounds _ _).size; simpa using hz3, (World.putObj_heap_other (by omega)).trans h23, h33.keep (World.putObj_heap_other (by omega)), hL.keep _ _ _ hI hz3 (.put _ _ (by omega) (by omega)), ?_, h63.keep (World.putObj_heap_other (by omega))⟩
    rw [World.putObj_heap_same hlt3, hb]
  rcases he with ⟨rfl, hm⟩ | ⟨rfl, hm⟩
  · refine ⟨_, _, run_endRound none hl3, ?_⟩
    have hd : decide (s.length + 1 < M) = true := decide_eq_true hm
    rw [hd]
    exact ⟨rfl, fin none .ready true rfl, hKp _⟩
  · refine ⟨_, _, run_endRound (some (.exit id)) hl3, ?_⟩
    have hd : decide (s.length + 1 < M) = false := decide_eq_false hm
    rw [hd]
    exact ⟨rfl, fin (some (.exit id)) .done false rfl, hKp _⟩
end
end Go.Proofs.YtlpnepgljdhpkaaGreatFmt
