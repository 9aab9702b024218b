/-
  A loop over ast.Preorder: what its rounds owe; a call of yield.
  ast.Preorder: its functions, whatever the loop's rounds do; a loop over it.
  A loop over ast.Preorder of the expression of any shaped tree.
  impl.Yields: the kinds of the nodes of Preorder, of which a loop takes so many.
-/
import Derived.Test.YtjbhjbpamnoebaaGreatFmtL8
import Derived.Test.YtjbhjbpamnoebaaGreatFmtYa
import Derived.RangeFuncNested
import Derived.RangeFuncBound
import Derived.RangeFuncCalls
import Derived.RangeFuncLeaves
import Derived.Shelf.Abstract
import Derived.Shelf.RegionOpen
import Derived.WalkKit
import Derived.OwnWalkIn
import Derived.TacticsInMore
import Derived.LoopNIn
import Derived.LoopIn
import Derived.Maps.OwnIn
namespace Go.Proofs.YtjbhjbpamnoebaaGreatFmt
open Go.RowKit Go.Shelf

/-- All but the loop's own four blocks stand as they were. -/
def Kq (B : Nat) (w w' : World) : Prop := w'.os = w.os ∧ w'.tape = w.tape ∧ w'.output = w.output ∧ w.heap.size ≤ w'.heap.size ∧ ∀ k, k < w.heap.size → (k < B ∨ B + 4 ≤ k) → w'.heap[k]? = w.heap[k]?
theorem Kq.put {B l : Nat} (w : World) (o : Obj) (h1 : B ≤ l) (h2 : l < B + 4) : Kq B w (w.putObj l o) :=
  ⟨rfl, rfl, rfl, by show w.heap.size ≤ (w.heap.setIfInBounds l o).size; simp, fun k _ hk => World.putObj_heap_other (by omega)⟩
theorem Kq.cell {B : Nat} (w : World) (p : Addr) (v : Value) (h1 : B ≤ p.block) (h2 : p.block < B + 4) : Kq B w (w.setCell p v) :=
  ⟨rfl, rfl, rfl, by simp [World.setCell], fun k _ hk => Below.heap_setCell w p v k (by omega)⟩
theorem Kq.of_below {B : Nat} {w w' : World} (h : Below w.heap.size w w') : Kq B w w' := ⟨h.os, h.tape, h.output, h.size, fun k hk _ => h.block k hk⟩
theorem Kp.of_kq {lo hi B : Nat} {w w' : World} (h : Kq B w w') (h1 : hi ≤ B) (h2 : B ≤ w.heap.size) : Kp lo hi w w' := ⟨h.2.2.2.1, fun b _ hb => h.2.2.2.2 b (by omega) (.inl (by omega))⟩
theorem Kp.less {lo hi hi' : Nat} {w w' : World} (h : Kp lo hi w w') (h1 : hi' ≤ hi) : Kp lo hi' w w' := ⟨h.1, fun b hb1 hb2 => h.2 b hb1 (by omega)⟩
theorem Kp.put {lo hi l : Nat} (w : World) (o : Obj) (h1 : hi ≤ l) : Kp lo hi w (w.putObj l o) :=
  ⟨by show w.heap.size ≤ (w.heap.setIfInBounds l o).size; simp, fun k _ hk => World.putObj_heap_other (by omega)⟩

/-- The loop's record. -/
def lrec (B : Nat) (fn : FuncId) (tmps : Array Value) (ps : Array Tmp) (assign body : Code) (st : LoopState) (pe : Option Code) : Loop := { state := st, pending := pe, fn, tmps, params := ps, assign, body, defers := B }
/-- What the rounds of a loop over Preorder do: the loop's blocks are number B to B + 3; I: what holds when some nodes have come; at the M-th node the loop is left. -/
structure PL (lo hi B m : Nat) (P : Nat → Int) (tmps : Array Value) (ps : Array Tmp) (assign body : Code) (a₁ : Value → Act) (M id : Nat) (I : List (Nd × Nat) → World → Prop) : Prop where
  keep : ∀ s A C, I s A → B + 4 ≤ A.heap.size → Kq B A C → I s C
  one : ps.size = 1
  asg : ∀ (v : Value) (W : World) (K : Act → World → Prop), K (a₁ v) W → assign.wpIn (Fence.wide.inRound (B + 1)) m Tryz.prog (Exit.then K (fun _ _ _ => False)) { tmps := (ps.zip #[v]).foldl (fun t (p, v) => t.setIfInBounds p v) tmps, defers := [] } W
  round : ∀ (pre : List (Nd × Nat)) (n : Nd) (i : Nat) (v : Value) (W : World), n.shapedB = true → n.size ≤ 400 → pre.length < M → pre.length < 5000 → I pre W → B + 4 ≤ W.heap.size → ExR W (Rng lo hi) P i n v →
    body.wpIn (Fence.wide.inRound (B + 1)) m Tryz.prog (fun e _ W' => (e = .normal ∧ pre.length + 1 < M ∨ e = .exit id ∧ ¬ pre.length + 1 < M) ∧ Kp lo (B + 4) W W' ∧ I (pre ++ [(n, i)]) W') (a₁ v) W
section
variable {lo hi B m : Nat} {P : Nat → Int} {fn : FuncId} {tmps : Array Value} {ps : Array Tmp} {assign body : Code} {a₁ : Value → Act} {M id : Nat} {I : List (Nd × Nat) → World → Prop}
/-- The loop's state: its blocks, and what has come. -/
def PMid (B : Nat) (fn : FuncId) (tmps : Array Value) (ps : Array Tmp) (assign body : Code) (id : Nat) (I : List (Nd × Nat) → World → Prop) (s : List (Nd × Nat)) (b ok : Bool) (w : World) : Prop :=
  B + 4 ≤ w.heap.size ∧ w.heap[B]? = some (.deferred (some [])) ∧ Blk w (B + 2) 256 #[.func (.yield (B + 1)) #[] #[]] ∧ I s w ∧
  w.heap[B + 1]? = some (.loop (if b = true then lrec B fn tmps ps assign body .ready none else lrec B fn tmps ps assign body .done (some (.exit id)))) ∧ Blk w (B + 3) 4 #[.bool ok]
def PSt (B : Nat) (fn : FuncId) (tmps : Array Value) (ps : Array Tmp) (assign body : Code) (M id : Nat) (I : List (Nd × Nat) → World → Prop) (tr : List Ev) (w : World) : Prop :=
  PMid B fn tmps ps assign body id I ((nodesOf tr).take M) (decide ((nodesOf tr).length < M)) (decide ((nodesOf tr).length < M)) w
theorem PMid.below {s : List (Nd × Nat)} {b ok : Bool} {w w' : World} (hL : PL lo hi B m P tmps ps assign body a₁ M id I) (h : PMid B fn tmps ps assign body id I s b ok w) (hb : Below w.heap.size w w') : PMid B fn tmps ps assign body id I s b ok w' := by
  obtain ⟨h1, h2, h3, h4, h5, h6⟩ := h
  exact ⟨Nat.le_trans h1 hb.size, (hb.block B (by omega)).trans h2, h3.below hb (by omega), hL.keep _ _ _ h4 h1 (.of_below hb), (hb.block (B + 1) (by omega)).trans h5, h6.below hb (by omega)⟩
theorem PMid.ok {s : List (Nd × Nat)} {b ok ok' : Bool} {w : World} (hL : PL lo hi B m P tmps ps assign body a₁ M id I) (h : PMid B fn tmps ps assign body id I s b ok w) : PMid B fn tmps ps assign body id I s b ok' (w.setCell ⟨B + 3, 0, none⟩ (.bool ok')) := by
  obtain ⟨h1, h2, h3, h4, h5, h6⟩ := h
  exact ⟨by simpa [World.setCell] using h1, (Below.heap_setCell w _ _ B (by show B ≠ B + 3; omega)).trans h2, h3.far (by show B + 2 ≠ B + 3; omega) _, hL.keep _ _ _ h4 h1 (.cell _ _ _ (by show B ≤ B + 3; omega) (by show B + 3 < B + 4; omega)), (Below.heap_setCell w _ _ (B + 1) (by show B + 1 ≠ B + 3; omega)).trans h5, h6.set_ 0 (.bool ok')⟩
/-- A call of yield. -/
theorem yield_at (hL : PL lo hi B m P tmps ps assign body a₁ M id I) (hlo : lo ≤ B) (hB : hi ≤ B) (s : List (Nd × Nat)) (n : Nd) (i : Nat) (v : Value) (w : World) (hs : n.shapedB = true) (hz : n.size ≤ 400) (hlt : s.length < M) (h5 : s.length < 5000)
    (h : PMid B fn tmps ps assign body id I s true true w) (hX : ExR w (Rng lo hi) P i n v) :
    ∃ tmps', (Instr.yield (B + 1) #[v]).run Tryz.prog w = .ok (.round (B + 1) fn tmps' assign body) w ∧ RoundIn Fence.wide m Tryz.prog (B + 1) fn tmps' assign body w fun e w' =>
      e = .returned (.bool (decide (s.length + 1 < M))) ∧ PMid B fn tmps ps assign body id I (s ++ [(n, i)]) (decide (s.length + 1 < M)) true w' ∧ Kp lo hi w w' := by
  obtain ⟨h1, h2, h3, h4, hl, h6⟩ := h
  rw [if_pos rfl] at hl
  refine ⟨_, run_yield hl hL.one.symm, roundIn_of_wpIn trivial (hL.asg v w _ ⟨_, run_beginRound hl rfl, ?_⟩)⟩
  refine wpIn_mono (hL.round s n i v _ hs hz hlt h5 (hL.keep _ _ _ h4 h1 (.put _ _ (by omega) (by omega))) ?_ ((Kp.put (lo := lo) w _ (by omega : hi ≤ B + 1)).ex hX)) ?_
  · show B + 4 ≤ (w.heap.setIfInBounds _ _).size
    simpa using h1
  rintro e a3 W3 ⟨he, hK, hI⟩
  have hlw : B + 1 < w.heap.size := by omega
  have hl2 : (w.putObj (B + 1) (.loop { lrec B fn tmps ps assign body .ready none with state := .busy })).heap[B + 1]? = some (.loop { lrec B fn tmps ps assign body .ready none with state := .busy }) := World.putObj_heap_same hlw
  have hl3 := (hK.2 (B + 1) (by omega) (by omega)).trans hl2
  have hz3 : B + 4 ≤ W3.heap.size := Nat.le_trans h1 (Nat.le_trans (by show w.heap.size ≤ (w.heap.setIfInBounds _ _).size; simp) hK.1)
  have h23 : W3.heap[B]? = some (.deferred (some [])) := ((hK.2 B (by omega) (by omega)).trans (World.putObj_heap_other (by omega))).trans h2
  have h33 : Blk W3 (B + 2) 256 #[.func (.yield (B + 1)) #[] #[]] := h3.keep ((hK.2 (B + 2) (by omega) (by omega)).trans (World.putObj_heap_other (by omega)))
  have h63 : Blk W3 (B + 3) 4 #[.bool true] := h6.keep ((hK.2 (B + 3) (by omega) (by omega)).trans (World.putObj_heap_other (by omega)))
  have hKp : ∀ o, Kp lo hi w (W3.putObj (B + 1) o) := fun o => ((Kp.put w _ (by omega)).trans (hK.less (by omega))).trans (Kp.put W3 o (by omega))
  have hlt3 : B + 1 < W3.heap.size := by omega
  have fin : ∀ (jump : Option Code) (st : LoopState) (b : Bool), (if b = true then lrec B fn tmps ps assign body .ready none else lrec B fn tmps ps assign body .done (some (.exit id))) = { lrec B fn tmps ps assign body .ready none with state := st, pending := jump } → PMid B fn tmps ps assign body id I (s ++ [(n, i)]) b true (W3.putObj (B + 1) (.loop { lrec B fn tmps ps assign body .ready none with state := st, pending := jump })) := fun jump st b hb => by
    refine ⟨by show B + 4 ≤ (W3.heap.setIfInBounds _ _).size; simpa using hz3, (World.putObj_heap_other (by omega)).trans h23, h33.keep (World.putObj_heap_other (by omega)), hL.keep _ _ _ hI hz3 (.put _ _ (by omega) (by omega)), ?_, h63.keep (World.putObj_heap_other (by omega))⟩
    rw [World.putObj_heap_same hlt3, hb]
  rcases he with ⟨rfl, hm⟩ | ⟨rfl, hm⟩
  · refine ⟨_, _, run_endRound none hl3, ?_⟩
    have hd : decide (s.length + 1 < M) = true := decide_eq_true hm
    rw [hd]
    exact ⟨rfl, fin none .ready true rfl, hKp _⟩
  · refine ⟨_, _, run_endRound (some (.exit id)) hl3, ?_⟩
    have hd : decide (s.length + 1 < M) = false := decide_eq_false hm
    rw [hd]
    exact ⟨rfl, fin (some (.exit id)) .done false rfl, hKp _⟩
end
end Go.Proofs.YtjbhjbpamnoebaaGreatFmt

namespace Go.Proofs.YtjbhjbpamnoebaaGreatFmt
open Go.RowKit Go.Shelf
attribute [local go_sem] Oper.semAt_some

theorem RoundIn.wide {m m' : Nat} {P : Program} {l : Nat} {f : FuncId} {tmps : Array Value} {assign body : Code} {w : World} {R : Ending → World → Prop}
    (h : RoundIn Fence.wide m P l f tmps assign body w R) : RoundIn Fence.wide m' P l f tmps assign body w R := ⟨h.1, fun c cs _ => h.2 c cs (room_wide _)⟩
section
variable {lo hi B m : Nat} {P : Nat → Int} {fn : FuncId} {tmps : Array Value} {ps : Array Tmp} {assign body : Code} {a₁ : Value → Act} {M id : Nat} {I : List (Nd × Nat) → World → Prop}
set_option maxHeartbeats 1000000 in
set_option maxRecDepth 100000 in
theorem Pr_on (hL : PL lo hi B m P tmps ps assign body a₁ M id I) (hlo : lo ≤ B) (hB : hi ≤ B) (s : List (Nd × Nat)) (n : Nd) (i : Nat) (v : Value) (w : World) (hs : n.shapedB = true) (hz : n.size ≤ 400) (hlt : s.length < M) (h5 : s.length < 5000)
    (h : PMid B fn tmps ps assign body id I s true true w) (hX : ExR w (Rng lo hi) P i n v) :
    Calls Tryz.prog 44 #[v, .pointer (some ⟨B + 3, 0, none⟩), .pointer (some ⟨B + 2, 0, none⟩)] w fun e w' =>
      e = .returned (.bool (decide (s.length + 1 < M))) ∧ PMid B fn tmps ps assign body id I (s ++ [(n, i)]) (decide (s.length + 1 < M)) (decide (s.length + 1 < M)) w' ∧ Kp lo hi w w' := by
  obtain ⟨q, c, rfl⟩ := hX.form
  obtain ⟨tmps', hy, hR⟩ := yield_at hL hlo hB s n i _ w hs hz hlt h5 h hX
  have c3 : w.cell? ⟨B + 3, 0, none⟩ = some (.bool true) := h.2.2.2.2.2.cell 0
  have c2 : w.cell? ⟨B + 2, 0, none⟩ = some (.func (.yield (B + 1)) #[] #[]) := h.2.2.1.cell 0
  have HR := Lib.hid (RoundIn.wide (m' := 5) hR)
  have HL := Lib.hid (And.intro hL hB)
  clear hR hL h hX hlo hB
  generalize decide (s.length + 1 < M) = bb at *
  refine (callsIn_wide (n := 6)).1 ?_
  refine callsIn_of_wp Tryz.func44 rfl trivial ?_ rfl
  simp only [Tryz.ntmps44, List.size_toArray, List.length_cons, List.length_nil, Nat.reduceAdd, Nat.reduceSub, Array.replicate_succ, Array.replicate_zero, List.push_toArray, List.append_toArray, List.nil_append, List.cons_append]
  gi_wp2
  refine HR.out.mono ?_
  clear HR
  rintro e w2 ⟨rfl, hM, hK⟩
  have d3 : w2.cell? ⟨B + 3, 0, none⟩ = some (.bool true) := hM.2.2.2.2.2.cell 0
  have e3 : w2.frozen? ⟨B + 3, 0, none⟩ = false := hM.2.2.2.2.2.frozen 0
  have HR := Lib.hid (And.intro (hM.ok (ok' := bb) HL.out.1) (hK.trans (Kp.of_kq (B := B) (.cell w2 ⟨B + 3, 0, none⟩ (.bool bb) (by show B ≤ B + 3; omega) (by show B + 3 < B + 4; omega)) HL.out.2 (by have := hM.1; omega))))
  clear hM hK
  gi_wp2
  go_ret
  exact ⟨rfl, HR.out⟩
set_option maxHeartbeats 1000000 in
set_option maxRecDepth 100000 in
/-- The loop has been left: yield is called no more. -/
theorem Pr_off (hL : PL lo hi B m P tmps ps assign body a₁ M id I) (hB : hi ≤ B) (s : List (Nd × Nat)) (q c : Nat) (w : World)
    (h : PMid B fn tmps ps assign body id I s false false w) :
    Calls Tryz.prog 44 #[.iface q (.pointer (some ⟨c, 0, none⟩)), .pointer (some ⟨B + 3, 0, none⟩), .pointer (some ⟨B + 2, 0, none⟩)] w fun e w' =>
      e = .returned (.bool false) ∧ PMid B fn tmps ps assign body id I s false false w' ∧ Kp lo hi w w' := by
  have c3 : w.cell? ⟨B + 3, 0, none⟩ = some (.bool false) := h.2.2.2.2.2.cell 0
  have d3 : w.frozen? ⟨B + 3, 0, none⟩ = false := h.2.2.2.2.2.frozen 0
  have HR := Lib.hid (And.intro (h.ok (ok' := false) hL) (Kp.of_kq (lo := lo) (B := B) (.cell w ⟨B + 3, 0, none⟩ (.bool false) (by show B ≤ B + 3; omega) (by show B + 3 < B + 4; omega)) hB (by have := h.1; omega)))
  clear hL h hB
  go_enter Tryz.func44, Tryz.ntmps44
  go_wp2_with fail
  go_ret
  exact ⟨rfl, HR.out⟩
set_option maxRecDepth 100000 in
/-- At nil. -/
theorem Pr_nil (s : List (Nd × Nat)) (b : Bool) (w : World) (h : PMid B fn tmps ps assign body id I s b b w) :
    Calls Tryz.prog 44 #[.nilIface, .pointer (some ⟨B + 3, 0, none⟩), .pointer (some ⟨B + 2, 0, none⟩)] w fun e w' =>
      (∃ r, e = .returned (.bool r)) ∧ w = w' := by
  have c3 : w.cell? ⟨B + 3, 0, none⟩ = some (.bool b) := h.2.2.2.2.2.cell 0
  clear h
  go_enter Tryz.func44, Tryz.ntmps44
  go_wp2_with fail
  go_ret
  exact ⟨⟨_, rfl⟩, rfl⟩
theorem nodes_len (tr : List Ev) : (nodesOf tr).length ≤ tr.length := List.length_filterMap_le ..
/-- Preorder's inner function as a rule for Inspect. -/
theorem pre_cs (hL : PL lo hi B m P tmps ps assign body a₁ M id I) (hlo : lo ≤ B) (hB : hi ≤ B) :
    CS lo hi P (goMost M) 44 #[.pointer (some ⟨B + 3, 0, none⟩), .pointer (some ⟨B + 2, 0, none⟩)] (fun tr _ w => PSt B fn tmps ps assign body M id I tr w) where
  ent := fun args w => by kernel_rfl
  node := fun d out w i n v hs hz hb ho hh hX => by
    have hlen := nodes_len out
    rw [goMost_at]
    unfold PSt at ho ⊢
    rw [nodesOf_some, List.length_append, List.length_singleton]
    by_cases hlt : (nodesOf out).length < M
    · rw [decide_eq_true hlt, List.take_of_length_le (Nat.le_of_lt hlt)] at ho
      rw [List.take_of_length_le (by rw [List.length_append, List.length_singleton]; omega)]
      exact Pr_on hL hlo hB (nodesOf out) n i v w hs hz hlt (by omega) ho hX
    · rw [decide_eq_false hlt] at ho
      have h1 : decide ((nodesOf out).length + 1 < M) = false := decide_eq_false (by omega)
      rw [h1, List.take_append_of_le_length (by omega)]
      obtain ⟨q, c, rfl⟩ := hX.form
      exact Pr_off hL hB _ q c w ho
  nil := fun d x out w hb ho hh => by
    unfold PSt at ho ⊢
    rw [nodesOf_none]
    refine (Pr_nil _ _ w ho).mono ?_
    rintro e w' ⟨⟨r, rfl⟩, rfl⟩
    exact ⟨⟨r, rfl⟩, ho, Kp.refl _ _ _⟩
end
end Go.Proofs.YtjbhjbpamnoebaaGreatFmt

namespace Go.Proofs.YtjbhjbpamnoebaaGreatFmt
open Go.RowKit Go.Shelf
attribute [local go_sem] Oper.semAt_some

set_option maxRecDepth 100000 in
theorem Preorder_any (q c : Nat) (w : World) : Calls Tryz.prog 21 #[.iface q (.pointer (some ⟨c, 0, none⟩))] w fun e w' =>
    e = .returned (.func (.func 42) #[] #[.pointer (some ⟨w.heap.size, 0, none⟩)]) ∧ w.alloc (.cells #[.iface q (.pointer (some ⟨c, 0, none⟩))] 51) = w' := by
  go_enter Tryz.func21, Tryz.ntmps21
  go_wp2_with fail
  go_ret
  exact ⟨rfl, rfl⟩
section
variable {lo hi B m : Nat} {P : Nat → Int} {fn : FuncId} {tmps : Array Value} {ps : Array Tmp} {assign body : Code} {a₁ : Value → Act} {M id : Nat} {I : List (Nd × Nat) → World → Prop}
set_option maxHeartbeats 1000000 in
set_option maxRecDepth 100000 in
theorem Pre1_any (hL : PL lo hi B m P tmps ps assign body a₁ M id I) (hlo : lo ≤ B) (hB : hi ≤ B) (hM : 0 < M) (n : Nd) (hs : n.shapedB = true) (hz : n.size ≤ 400) (v : Value) (W : World) (rb : Nat) (hW : W.heap.size = B + 2)
    (hd : W.heap[B]? = some (.deferred (some []))) (hl : W.heap[B + 1]? = some (.loop (lrec B fn tmps ps assign body .ready none))) (hr : W.cell? ⟨rb, 0, none⟩ = some v)
    (hI : ∀ C, Below (B + 2) W C → B + 4 ≤ C.heap.size → I [] C) (hX : ExR W (Rng lo hi) P 0 n v) :
    Calls Tryz.prog 42 #[.func (.yield (B + 1)) #[] #[], .pointer (some ⟨rb, 0, none⟩)] W fun e w' =>
      (∃ r, e = .returned r) ∧ PSt B fn tmps ps assign body M id I (n.run (goMost M) [] 0 []) w' ∧ Kp lo hi W w' := by
  obtain ⟨q, c, rfl⟩ := hX.form
  have hb2 : Below (B + 2) W ((W.alloc (.cells #[.func (.yield (B + 1)) #[] #[]] 256)).alloc (.cells #[.bool true] 4)) := ((Below.refl _ _).alloc (by omega) _).alloc (by rw [World.size_alloc]; omega) _
  have hs2 : ((W.alloc (.cells #[.func (.yield (B + 1)) #[] #[]] 256)).alloc (.cells #[.bool true] 4)).heap.size = B + 4 := by rw [World.size_alloc, World.size_alloc, hW]
  have hst : PSt B fn tmps ps assign body M id I [] ((W.alloc (.cells #[.func (.yield (B + 1)) #[] #[]] 256)).alloc (.cells #[.bool true] 4)) := by
    have h0 : decide ((nodesOf []).length < M) = true := decide_eq_true hM
    unfold PSt
    rw [h0]
    refine ⟨by rw [hs2]; exact Nat.le_refl _, (hb2.block B (by omega)).trans hd, ?_, ?_, (hb2.block (B + 1) (by omega)).trans hl, ?_⟩
    · have h := (Blk.new W 256 #[.func (.yield (B + 1)) #[] #[]]).alloc (.cells #[.bool true] 4)
      rwa [hW] at h
    · have he : (nodesOf []).take M = [] := by simp [nodesOf]
      rw [he]
      exact hI _ hb2 (by rw [hs2]; exact Nat.le_refl _)
    · have h := Blk.new (W.alloc (.cells #[.func (.yield (B + 1)) #[] #[]] 256)) 4 #[.bool true]
      rwa [World.size_alloc, hW] at h
  have hk2 : Kp lo hi W ((W.alloc (.cells #[.func (.yield (B + 1)) #[] #[]] 256)).alloc (.cells #[.bool true] 4)) := ⟨by rw [hs2, hW]; omega, fun b _ h => hb2.block b (by omega)⟩
  have HI := Lib.hid (And.intro (inspect_any (pre_cs hL hlo hB) n hs hz _ 0 _ hst (by rw [hs2]; omega) (hk2.ex hX)) hk2)
  have hr2 := (hb2.cell (p := ⟨rb, 0, none⟩) (by have := World.block_lt_of_cell? W _ hr; rw [hW] at this; exact this)).trans hr
  clear hst hk2 hL hd hl hI hX hb2 hr
  go_enter Tryz.func42, Tryz.ntmps42
  go_wp2_with fail
  refine HI.out.1.mono ?_
  have HK := Lib.hid HI.out.2
  clear HI
  rintro e w2 ⟨rfl, hP, hK⟩
  have HR := Lib.hid (And.intro hP (HK.out.trans hK))
  clear hP hK HK
  go_wp2_with fail
  go_end0
  exact ⟨⟨_, rfl⟩, HR.out⟩
theorem pre_some (M : Nat) (n : Nd) : (nodesOf (n.run (goMost M) [] 0 [])).take M = (n.pre 0).take M ∧ ((nodesOf (n.run (goMost M) [] 0 [])).length < M ↔ (n.pre 0).length < M) := by
  have h := run_pre M n [] 0 []
  have h0 : nodesOf [] ++ n.pre 0 = n.pre 0 := rfl
  rw [h0] at h
  refine ⟨h, ?_⟩
  have hl := congrArg List.length h
  rw [List.length_take, List.length_take] at hl
  omega
/-- A loop over Preorder, left at the M-th node or behind the last one. -/
theorem pre_loop {g : Operand} {Q : Exit → Act → World → Prop} {a : Act} {w : World} {k : Nat} (hw : w.heap.size = B) (ha : a.tmps = tmps) (hL : PL lo hi B m P tmps ps assign body a₁ M id I) (hlo : lo ≤ B) (hB : hi ≤ B) (hM : 0 < M) (n : Nd) (hs : n.shapedB = true) (hz : n.size ≤ 400) (v : Value) (rb : Nat)
    (hg : a.eval g = .func (.func 42) #[] #[.pointer (some ⟨rb, 0, none⟩)]) (hr : w.cell? ⟨rb, 0, none⟩ = some v) (hI : ∀ C, Below B w C → B + 4 ≤ C.heap.size → I [] C) (hX : ExR w (Rng lo hi) P 0 n v)
    (hdone : ∀ W, (n.pre 0).length < M → I (n.pre 0) W → W.heap[B]? = some (.deferred (some [])) → B + 4 ≤ W.heap.size → Q .normal { a with defers := { target := .collected B, args := #[] } :: a.defers } W)
    (hstop : ∀ W, ¬ (n.pre 0).length < M → I ((n.pre 0).take M) W → W.heap[B]? = some (.deferred (some [])) → B + 4 ≤ W.heap.size → (Code.exit id).wpIn Fence.wide k Tryz.prog Q { a with defers := { target := .collected B, args := #[] } :: a.defers } W) :
    (Code.rangeFunc g ps assign body).wpIn Fence.wide k Tryz.prog Q a w := by
  refine wpIn_rangeFunc ?_
  intro fn _
  have hb1 : Below B w ((w.alloc (.deferred (some []))).alloc (.loop (lrec B fn tmps ps assign body .ready none))) := ((Below.refl _ _).alloc (by omega) _).alloc (by rw [World.size_alloc]; omega) _
  have hs1 : ((w.alloc (.deferred (some []))).alloc (.loop (lrec B fn tmps ps assign body .ready none))).heap.size = B + 2 := by rw [World.size_alloc, World.size_alloc, hw]
  have hd1 : ((w.alloc (.deferred (some []))).alloc (.loop (lrec B fn tmps ps assign body .ready none))).heap[B]? = some (.deferred (some [])) := by
    rw [Below.heap_alloc _ _ _ (by rw [World.size_alloc]; omega), ← hw]
    exact World.alloc_heap_new w _
  have hl1 : ((w.alloc (.deferred (some []))).alloc (.loop (lrec B fn tmps ps assign body .ready none))).heap[B + 1]? = some (.loop (lrec B fn tmps ps assign body .ready none)) := by
    have h := World.alloc_heap_new (w.alloc (.deferred (some []))) (.loop (lrec B fn tmps ps assign body .ready none))
    rwa [World.size_alloc, hw] at h
  refine ⟨B + 1, [{ target := .collected B, args := #[] }], (w.alloc (.deferred (some []))).alloc (.loop (lrec B fn tmps ps assign body .ready none)), { target := .fn (.func 42) #[.pointer (some ⟨rb, 0, none⟩)], args := #[.func (.yield (B + 1)) #[] #[]] }, (w.alloc (.deferred (some []))).alloc (.loop (lrec B fn tmps ps assign body .ready none)), 42,
    #[.func (.yield (B + 1)) #[] #[], .pointer (some ⟨rb, 0, none⟩)], (w.alloc (.deferred (some []))).alloc (.loop (lrec B fn tmps ps assign body .ready none)), ?_, ?_, fun _ _ => trivial, ?_, (fun h => by cases h), ?_⟩
  · have h := run_enterLoop_outer (P := Tryz.prog) (w := w) fn a.tmps ps assign body
    rw [hw, ha] at h
    rw [ha]
    exact h
  · simp only [resolve, hg]
    simp [go_sem]
  · have eg : (callFunc 42 #[.func (.yield (B + 1)) #[] #[], .pointer (some ⟨rb, 0, none⟩)]).run Tryz.prog ((w.alloc (.deferred (some []))).alloc (.loop (lrec B fn tmps ps assign body .ready none))) = .ok (.enter 42 #[.func (.yield (B + 1)) #[] #[], .pointer (some ⟨rb, 0, none⟩)]) ((w.alloc (.deferred (some []))).alloc (.loop (lrec B fn tmps ps assign body .ready none))) := by kernel_rfl
    simp [invoke, go_sem, eg]
  · refine (callsIn_wide (n := k - 1)).2 ((Pre1_any hL hlo hB hM n hs hz v _ rb hs1 hd1 hl1 ((hb1.cell (p := ⟨rb, 0, none⟩) (by have := World.block_lt_of_cell? w _ hr; rw [hw] at this; exact this)).trans hr) (fun C hC h4 => hI C (hb1.trans (hC.mono (by omega))) h4) ?_).mono ?_)
    · exact ExR.keep (fun b (hb : Rng lo hi b) => hb1.block b (by have := hb.2; omega)) (fun _ h => h) n 0 v hX
    · rintro e w3 ⟨⟨r, rfl⟩, ⟨h1, h2, h3, h4, h5, h6⟩, hK⟩
      obtain ⟨hp1, hp2⟩ := pre_some M n
      have hlt : B + 1 < w3.heap.size := by omega
      have hz4 : ∀ o, B + 4 ≤ (w3.putObj (B + 1) o).heap.size := fun o => by
        show B + 4 ≤ (w3.heap.setIfInBounds _ _).size
        simpa using h1
      have hIq : ∀ o, I ((n.pre 0).take M) (w3.putObj (B + 1) o) := fun o => hL.keep _ _ _ (hp1 ▸ h4) h1 (.put _ _ (by omega) (by omega))
      by_cases hc : (n.pre 0).length < M
      · rw [if_pos (decide_eq_true (hp2.2 hc))] at h5
        refine ⟨none, _, run_endLoop h5 (by simp [lrec]), hdone _ hc ?_ ((World.putObj_heap_other (by omega)).trans h2) (hz4 _)⟩
        have h := hIq (.loop { lrec B fn tmps ps assign body .ready none with state := .exhausted })
        rwa [List.take_of_length_le (Nat.le_of_lt hc)] at h
      · rw [if_neg (by rw [decide_eq_true_eq]; exact fun h => hc (hp2.1 h))] at h5
        exact ⟨some (.exit id), _, run_endLoop h5 (by simp [lrec]), hstop _ hc (hIq _) ((World.putObj_heap_other (by omega)).trans h2) (hz4 _)⟩
end
end Go.Proofs.YtjbhjbpamnoebaaGreatFmt

namespace Go.Proofs.YtjbhjbpamnoebaaGreatFmt
open Go.RowKit Go.Shelf
attribute [local go_sem] Oper.semAt_some

theorem Blk.cell0 {w : World} {g : Nat} {t : TypeId} {v : Value} (h : Blk w g t #[v]) : w.cell? ⟨g, 0, none⟩ = some v := h.cell 0
/-- What the loop has kept: in the variable in block ob, its row behind hi; how many it takes in block mb. -/
def OutY (W0 : World) (mo : Int) (ob mb lo hi : Nat) (out : List ByteArray) (w : World) : Prop :=
  Below W0.heap.size W0 w ∧ TokTab W0 ∧ (W0.heap.size ≤ ob ∧ ob < lo ∧ mb < lo ∧ mb ≠ ob ∧ lo ≤ hi ∧ hi ≤ w.heap.size) ∧ Blk w mb 3 #[.int .i64 mo] ∧ ∃ A cap, Blk w ob 36 #[.slice A out.length cap] ∧ w.ownsRow hi 9 1 (.slice A out.length cap) out.length (flatT out)
section
variable {W0 w w' : World} {mo : Int} {ob mb lo hi : Nat} {out : List ByteArray}
theorem OutY.next (h : OutY W0 mo ob mb lo hi out w) (hb : Below w.heap.size w w') : OutY W0 mo ob mb lo hi out w' := by
  obtain ⟨h1, h2, h3, h4, A, cap, h7, h8⟩ := h
  have hs := hb.size
  exact ⟨h1.trans (hb.mono h1.size), h2, ⟨h3.1, h3.2.1, h3.2.2.1, h3.2.2.2.1, h3.2.2.2.2.1, by omega⟩, h4.below hb h4.lt, A, cap, h7.below hb h7.lt, own_keep h8 fun g _ hg => hb.block g hg⟩
theorem OutY.kq {B : Nat} (h : OutY W0 mo ob mb lo (B + 4) out w) (hlo : lo ≤ B) (hk : Kq B w w') : OutY W0 mo ob mb lo (B + 4) out w' := by
  obtain ⟨h1, h2, h3, h4, A, cap, h7, h8⟩ := h
  obtain ⟨k1, k2, k3, k4, k5⟩ := hk
  have hw := h1.size
  have hmb := h4.lt
  have hob := h7.lt
  refine ⟨h1.trans ⟨k1, k2, k3, k4, fun b hb => k5 b (by omega) (.inl (by omega))⟩, h2, ⟨h3.1, h3.2.1, h3.2.2.1, h3.2.2.2.1, h3.2.2.2.2.1, by omega⟩, h4.keep (k5 _ hmb (.inl (by omega))), A, cap, h7.keep (k5 _ hob (.inl (by omega))), ?_⟩
  obtain ⟨h0, h9 | ⟨g, c, cur, he, q1, q2, q3⟩⟩ := h8
  · exact ⟨h0, .inl h9⟩
  · exact ⟨h0, .inr ⟨g, c, cur, he, q1, (k5 g (Array.getElem?_eq_some_iff.1 q2).1 (.inr q1)).trans q2, q3⟩⟩
theorem OutY.drew (h : OutY W0 mo ob mb lo hi out w) : OutY W0 mo ob mb lo hi out w.drew := ⟨h.1.drew, h.2⟩
theorem OutY.tok (h : OutY W0 mo ob mb lo hi out w) : TokTab w := h.2.1.below h.1
theorem OutY.push (h : OutY W0 mo ob mb lo hi out w) {v' : Value} {x : ByteArray} {sv : Value} (hsv : Blk w ob 36 #[sv])
    (hown : w'.ownsRow hi 9 1 v' (out.length + 1) (flatT out ++ [.string x])) (hg : w.grownBy w' sv.ownBlock) : OutY W0 mo ob mb lo hi (out ++ [x]) (w'.setCell ⟨ob, 0, none⟩ v') ∧ Kp lo hi w (w'.setCell ⟨ob, 0, none⟩ v') := by
  obtain ⟨h1, h2, ⟨h3, h4, h40, h41, h5, h6⟩, h42, A, cap, h7, h8⟩ := h
  have he : some (Obj.cells #[Value.slice A out.length cap] 36 (0, 0)) = some (.cells #[sv] 36 (0, 0)) := h7.symm.trans hsv
  obtain rfl : sv = .slice A out.length cap := by
    have := Option.some.inj he
    simp only [Obj.cells.injEq] at this
    simpa using this.1.symm
  have hs := hg.size
  have hrow : ∀ g, (Value.slice A out.length cap).ownBlock = some g → hi ≤ g ∧ g < w.heap.size := fun g hg' => own_ge h8 hg'
  have hkeep : ∀ b, b < hi → w'.heap[b]? = w.heap[b]? := fun b hb => hg.block b (by omega) (fun e => by have := (hrow b e.symm).1; omega)
  have hbw : Below W0.heap.size W0 w' := h1.trans ⟨hg.os, hg.tape, hg.output, hg.size, fun b hb => hkeep b (by omega)⟩
  obtain ⟨A', cap', rfl⟩ : ∃ A' cap', v' = .slice A' (out.length + 1) cap' := own_formT hown
  have hblk' : Blk w' ob 36 #[.slice A out.length cap] := h7.keep (hkeep ob (by omega))
  have hlen : (out ++ [x]).length = out.length + 1 := by simp
  refine ⟨⟨hbw.setCell h3 _, h2, ⟨h3, h4, h40, h41, h5, by simp [World.setCell]; omega⟩, (h42.keep (hkeep mb (by omega))).far (by show mb ≠ ob; omega) _, A', cap', ?_, ?_⟩, by simp [World.setCell]; omega, fun b hb1 hb2 => ?_⟩
  · rw [hlen]
    exact hblk'.set_ 0 (.slice A' (out.length + 1) cap')
  · rw [hlen, flatT_append]
    obtain ⟨h0, ⟨he', hn⟩ | ⟨g, c, cur, he', k1, k2, k3⟩⟩ := hown
    · omega
    · refine ⟨h0, .inr ⟨g, c, cur, he', k1, (Below.heap_setCell _ _ _ _ (by show g ≠ ob; omega)).trans k2, k3⟩⟩
  · rw [Below.heap_setCell _ _ _ _ (by show b ≠ ob; omega)]
    exact hkeep b hb2
/-- A round: what append then gives, and what stands behind it. -/
theorem OutY.round {x : ByteArray} (h : OutY W0 mo ob mb lo hi out w) (h5 : out.length < 5000) : ∃ A cap, w.drew.cell? ⟨ob, 0, none⟩ = some (.slice A out.length cap) ∧ ∀ w4, Below w.drew.heap.size w.drew w4 → ∃ A5 c5 w5,
    Sem.run Tryz.prog (Builtin.append_ #[36, 36] 36 #[.slice A out.length cap, .slice (some ⟨w4.heap.size, 0, none⟩) 1 1]) (w4.alloc (.cells #[.string x] 9)) = .ok (.slice A5 (out.length + 1) c5) w5 ∧
    w4.cell? ⟨ob, 0, none⟩ = some (.slice A out.length cap) ∧ w5.cell? ⟨ob, 0, none⟩ = some (.slice A out.length cap) ∧ w5.frozen? ⟨ob, 0, none⟩ = false ∧ w5.cell? ⟨mb, 0, none⟩ = some (.int .i64 mo) ∧
    OutY W0 mo ob mb lo hi (out ++ [x]) (w5.setCell ⟨ob, 0, none⟩ (.slice A5 (out.length + 1) c5)) ∧ Kp lo hi w (w5.setCell ⟨ob, 0, none⟩ (.slice A5 (out.length + 1) c5)) := by
  obtain ⟨_, _, hzs, hst, A, cap, hob, hown⟩ := id h
  obtain ⟨i0, hi9, hz90, hz91, hz92⟩ := info_parts infoT
  refine ⟨A, cap, hob.cell0, fun w4 hb4 => ?_⟩
  have hz4 : w.heap.size ≤ w4.heap.size := hb4.size
  have hO := h.drew.next hb4
  have hob4 := hob.drew.below hb4 hob.lt
  have hst4 := hst.drew.below hb4 hst.lt
  have hown4 := own_keep hown (fun g _ hg => hb4.block g hg)
  obtain ⟨v5, w5, hrun, hown5, hgr5, _, _⟩ := run_append_own_at (P := Tryz.prog) (w4.alloc (.cells #[.string x] 9)) hi 36 36 9 i0 (.string ⟨#[]⟩) 1 16 underT hi9 hz90 hz91 hz92 rfl (by decide) _ _ _ (own_keep hown4 (fun g _ hg => Below.heap_alloc w4 _ g hg)) ⟨w4.heap.size, 0, none⟩ 1 1 [.string x] rfl (World.news_of_block (Blk.new w4 _ _)) (by intro u hu; simp at hu; subst hu; rfl) (by unfold maxLen; omega) (by omega) (by rw [World.size_alloc]; omega)
  obtain ⟨A5, c5, rfl⟩ := own_formT hown5
  have hgr := grown_trans (World.grownBy_alloc w4 _ _) hgr5
  obtain ⟨hp1, hp2⟩ := hO.push (x := x) hob4 hown5 hgr
  have hk : ∀ b, b < hi → w5.heap[b]? = w4.heap[b]? := fun b hb => hgr.block b (by omega) (fun e => by have := own_ge hown4 e.symm; omega)
  refine ⟨A5, c5, w5, hrun, hob4.cell0, (hob4.keep (hk _ (by omega))).cell0, (hob4.keep (hk _ (by omega))).frozen 0, (hst4.keep (hk _ (by omega))).cell0, hp1, Kp.trans ⟨hz4, fun b _ hb => hb4.block b (by show b < w.heap.size; omega)⟩ hp2⟩
end
/-- append at a step of a region in a round, as it runs. -/
theorem stepIn_append {F : Fence} {k : Nat} {ops : Array Oper} {o : Oper} {a : Act} {w w' : World} {K : Act → World → Prop} {Q : Exit → Act → World → Prop} {E : Prop} {v u v' : Value} (hgd : o.guard = none) (s x : Operand) {t : TypeId}
    (ho : o.op = .call { callee := .builtin .append, args := #[s, x], argTypes := #[t, t] }) (hs : a.eval s = v) (hx : a.eval x = u) (hrun : Sem.run Tryz.prog (Builtin.append_ #[t, t] o.type #[v, u]) w = .ok v' w') (h : K (a.put o.dst v') w') :
    if Region.wanted o (yielded ops a.tmps) = true then Oper.wpIn F k Tryz.prog o a w K Q else E := by
  have hw : Region.wanted o (yielded ops a.tmps) = true := by simp [Region.wanted, hgd]
  rw [if_pos hw]
  unfold Oper.wpIn
  refine ⟨by simp [Oper.about, ho, resolve, Target.leads, Sem.run_pure], ?_⟩
  rw [Oper.semAt_plain F _ _ (by rw [ho]; intro c hc'; cases hc')]
  simp [execOp, ho, resolve, invoke, builtin, hs, hx, hrun, Result.andThen]
  exact h
/-- How many nodes come. -/
def mostN (mo : Int) : Nat := max 1 mo.toNat
end Go.Proofs.YtjbhjbpamnoebaaGreatFmt
