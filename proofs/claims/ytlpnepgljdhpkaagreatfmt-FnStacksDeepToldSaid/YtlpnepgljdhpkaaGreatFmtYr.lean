/-
  A loop over ast.Preorder of the expression of any shaped tree.
-/
import Derived.Test.YtlpnepgljdhpkaaGreatFmtYq
import Derived.Test.YtlpnepgljdhpkaaGreatFmtOc
namespace Go.Proofs.YtlpnepgljdhpkaaGreatFmt
open Go.RowKit Go.Shelf
attribute [local go_sem] Oper.semAt_some

set_option maxRecDepth 100000 in
theorem Preorder_any (q c : Nat) (w : World) : Calls Tryz.prog 31 #[.iface q (.pointer (some ⟨c, 0, none⟩))] w fun e w' =>
    e = .returned (.func (.func 49) #[] #[.pointer (some ⟨w.heap.size, 0, none⟩)]) ∧ w.alloc (.cells #[.iface q (.pointer (some ⟨c, 0, none⟩))] 53) = w' := by
  go_enter Tryz.func31, Tryz.ntmps31
  go_wp2_with fail
  go_ret
  exact ⟨rfl, rfl⟩
section
variable {lo hi B m : Nat} {P : Nat → Int} {fn : FuncId} {tmps : Array Value} {ps : Array Tmp} {assign body : Code} {a₁ : Value → Act} {M id : Nat} {I : List (Nd × Nat) → World → Prop}
set_option maxHeartbeats 1000000 in
set_option maxRecDepth 100000 in
theorem Pre1_any (hL : PL lo hi B m P tmps ps assign body a₁ M id I) (hlo : lo ≤ B) (hB : hi ≤ B) (hM : 0 < M) (n : Nd) (hs : n.shapedB = true) (hz : n.size ≤ 400) (v : Value) (W : World) (rb : Nat) (hW : W.heap.size = B + 2)
    (hd : W.heap[B]? = some (.deferred (some []))) (hl : W.heap[B + 1]? = some (.loop (lrec B fn tmps ps assign body .ready none))) (hr : W.cell? ⟨rb, 0, none⟩ = some v)
    (hI : ∀ C, Below (B + 2) W C → B + 4 ≤ C.heap.size → I [] C) (hX : ExR W (Rng lo hi) P 0 n v) :
    Calls Tryz.prog 49 #[.func (.yield (B + 1)) #[] #[], .pointer (some ⟨rb, 0, none⟩)] W fun e w' =>
      (∃ r, e = .returned r) ∧ PSt B fn tmps ps assign body M id I (n.run (goMost M) [] 0 []) w' ∧ Kp lo hi W w' := by
  obtain ⟨q, c, rfl⟩ := hX.form
  have hb2 : Below (B + 2) W ((W.alloc (.cells #[.func (.yield (B + 1)) #[] #[]] 55)).alloc (.cells #[.bool true] 4)) := ((Below.refl _ _).alloc (by omega) _).alloc (by rw [World.size_alloc]; omega) _
  have hs2 : ((W.alloc (.cells #[.func (.yield (B + 1)) #[] #[]] 55)).alloc (.cells #[.bool true] 4)).heap.size = B + 4 := by rw [World.size_alloc, World.size_alloc, hW]
  have hst : PSt B fn tmps ps assign body M id I [] ((W.alloc (.cells #[.func (.yield (B + 1)) #[] #[]] 55)).alloc (.cells #[.bool true] 4)) := by
    have h0 : decide ((nodesOf []).length < M) = true := decide_eq_true hM
    unfold PSt
    rw [h0]
    refine ⟨by rw [hs2]; exact Nat.le_refl _, (hb2.block B (by omega)).trans hd, ?_, ?_, (hb2.block (B + 1) (by omega)).trans hl, ?_⟩
    · have h := (Blk.new W 55 #[.func (.yield (B + 1)) #[] #[]]).alloc (.cells #[.bool true] 4)
      rwa [hW] at h
    · have he : (nodesOf []).take M = [] := by simp [nodesOf]
      rw [he]
      exact hI _ hb2 (by rw [hs2]; exact Nat.le_refl _)
    · have h := Blk.new (W.alloc (.cells #[.func (.yield (B + 1)) #[] #[]] 55)) 4 #[.bool true]
      rwa [World.size_alloc, hW] at h
  have hk2 : Kp lo hi W ((W.alloc (.cells #[.func (.yield (B + 1)) #[] #[]] 55)).alloc (.cells #[.bool true] 4)) := ⟨by rw [hs2, hW]; omega, fun b _ h => hb2.block b (by omega)⟩
  have HI := Lib.hid (And.intro (inspect_any (pre_cs hL hlo hB) n hs hz _ 0 _ hst (by rw [hs2]; omega) (hk2.ex hX)) hk2)
  have hr2 := (hb2.cell (p := ⟨rb, 0, none⟩) (by have := World.block_lt_of_cell? W _ hr; rw [hW] at this; exact this)).trans hr
  clear hst hk2 hL hd hl hI hX hb2 hr
  go_enter Tryz.func49, Tryz.ntmps49
  go_wp2_with fail
  refine HI.out.1.mono ?_
  have HK := Lib.hid HI.out.2
  clear HI
  rintro e w2 ⟨rfl, hP, hK⟩
  have HR := Lib.hid (And.intro hP (HK.out.trans hK))
  clear hP hK HK
  go_wp2_with fail
  go_end0
  exact ⟨⟨_, rfl⟩, HR.out⟩
theorem pre_some (M : Nat) (n : Nd) : (nodesOf (n.run (goMost M) [] 0 [])).take M = (n.pre 0).take M ∧ ((nodesOf (n.run (goMost M) [] 0 [])).length < M ↔ (n.pre 0).length < M) := by
  have h := run_pre M n [] 0 []
  have h0 : nodesOf [] ++ n.pre 0 = n.pre 0 := rfl
  rw [h0] at h
  refine ⟨h, ?_⟩
  have hl := congrArg List.length h
  rw [List.length_take, List.length_take] at hl
  omega
/-- A loop over Preorder, left at the M-th node or behind the last one. -/
theorem pre_loop {g : Operand} {Q : Exit → Act → World → Prop} {a : Act} {w : World} {k : Nat} (hw : w.heap.size = B) (ha : a.tmps = tmps) (hL : PL lo hi B m P tmps ps assign body a₁ M id I) (hlo : lo ≤ B) (hB : hi ≤ B) (hM : 0 < M) (n : Nd) (hs : n.shapedB = true) (hz : n.size ≤ 400) (v : Value) (rb : Nat)
    (hg : a.eval g = .func (.func 49) #[] #[.pointer (some ⟨rb, 0, none⟩)]) (hr : w.cell? ⟨rb, 0, none⟩ = some v) (hI : ∀ C, Below B w C → B + 4 ≤ C.heap.size → I [] C) (hX : ExR w (Rng lo hi) P 0 n v)
    (hdone : ∀ W, (n.pre 0).length < M → I (n.pre 0) W → W.heap[B]? = some (.deferred (some [])) → B + 4 ≤ W.heap.size → Q .normal { a with defers := { target := .collected B, args := #[] } :: a.defers } W)
    (hstop : ∀ W, ¬ (n.pre 0).length < M → I ((n.pre 0).take M) W → W.heap[B]? = some (.deferred (some [])) → B + 4 ≤ W.heap.size → (Code.exit id).wpIn Fence.wide k Tryz.prog Q { a with defers := { target := .collected B, args := #[] } :: a.defers } W) :
    (Code.rangeFunc g ps assign body).wpIn Fence.wide k Tryz.prog Q a w := by
  refine wpIn_rangeFunc ?_
  intro fn _
  have hb1 : Below B w ((w.alloc (.deferred (some []))).alloc (.loop (lrec B fn tmps ps assign body .ready none))) := ((Below.refl _ _).alloc (by omega) _).alloc (by rw [World.size_alloc]; omega) _
  have hs1 : ((w.alloc (.deferred (some []))).alloc (.loop (lrec B fn tmps ps assign body .ready none))).heap.size = B + 2 := by rw [World.size_alloc, World.size_alloc, hw]
  have hd1 : ((w.alloc (.deferred (some []))).alloc (.loop (lrec B fn tmps ps assign body .ready none))).heap[B]? = some (.deferred (some [])) := by
    rw [Below.heap_alloc _ _ _ (by rw [World.size_alloc]; omega), ← hw]
    exact World.alloc_heap_new w _
  have hl1 : ((w.alloc (.deferred (some []))).alloc (.loop (lrec B fn tmps ps assign body .ready none))).heap[B + 1]? = some (.loop (lrec B fn tmps ps assign body .ready none)) := by
    have h := World.alloc_heap_new (w.alloc (.deferred (some []))) (.loop (lrec B fn tmps ps assign body .ready none))
    rwa [World.size_alloc, hw] at h
  refine ⟨B + 1, [{ target := .collected B, args := #[] }], (w.alloc (.deferred (some []))).alloc (.loop (lrec B fn tmps ps assign body .ready none)), { target := .fn (.func 49) #[.pointer (some ⟨rb, 0, none⟩)], args := #[.func (.yield (B + 1)) #[] #[]] }, (w.alloc (.deferred (some []))).alloc (.loop (lrec B fn tmps ps assign body .ready none)), 49,
    #[.func (.yield (B + 1)) #[] #[], .pointer (some ⟨rb, 0, none⟩)], (w.alloc (.deferred (some []))).alloc (.loop (lrec B fn tmps ps assign body .ready none)), ?_, ?_, fun _ _ => trivial, ?_, (fun h => by cases h), ?_⟩
  · have h := run_enterLoop_outer (P := Tryz.prog) (w := w) fn a.tmps ps assign body
    rw [hw, ha] at h
    rw [ha]
    exact h
  · simp only [resolve, hg]
    simp [go_sem]
  · have eg : (callFunc 49 #[.func (.yield (B + 1)) #[] #[], .pointer (some ⟨rb, 0, none⟩)]).run Tryz.prog ((w.alloc (.deferred (some []))).alloc (.loop (lrec B fn tmps ps assign body .ready none))) = .ok (.enter 49 #[.func (.yield (B + 1)) #[] #[], .pointer (some ⟨rb, 0, none⟩)]) ((w.alloc (.deferred (some []))).alloc (.loop (lrec B fn tmps ps assign body .ready none))) := by kernel_rfl
    simp [invoke, go_sem, eg]
  · refine (callsIn_wide (n := k - 1)).2 ((Pre1_any hL hlo hB hM n hs hz v _ rb hs1 hd1 hl1 ((hb1.cell (p := ⟨rb, 0, none⟩) (by have := World.block_lt_of_cell? w _ hr; rw [hw] at this; exact this)).trans hr) (fun C hC h4 => hI C (hb1.trans (hC.mono (by omega))) h4) ?_).mono ?_)
    · exact ExR.keep (fun b (hb : Rng lo hi b) => hb1.block b (by have := hb.2; omega)) (fun _ h => h) n 0 v hX
    · rintro e w3 ⟨⟨r, rfl⟩, ⟨h1, h2, h3, h4, h5, h6⟩, hK⟩
      obtain ⟨hp1, hp2⟩ := pre_some M n
      have hlt : B + 1 < w3.heap.size := by omega
      have hz4 : ∀ o, B + 4 ≤ (w3.putObj (B + 1) o).heap.size := fun o => by
        show B + 4 ≤ (w3.heap.setIfInBounds _ _).size
        simpa using h1
      have hIq : ∀ o, I ((n.pre 0).take M) (w3.putObj (B + 1) o) := fun o => hL.keep _ _ _ (hp1 ▸ h4) h1 (.put _ _ (by omega) (by omega))
      by_cases hc : (n.pre 0).length < M
      · rw [if_pos (decide_eq_true (hp2.2 hc))] at h5
        refine ⟨none, _, run_endLoop h5 (by simp [lrec]), hdone _ hc ?_ ((World.putObj_heap_other (by omega)).trans h2) (hz4 _)⟩
        have h := hIq (.loop { lrec B fn tmps ps assign body .ready none with state := .exhausted })
        rwa [List.take_of_length_le (Nat.le_of_lt hc)] at h
      · rw [if_neg (by rw [decide_eq_true_eq]; exact fun h => hc (hp2.1 h))] at h5
        exact ⟨some (.exit id), _, run_endLoop h5 (by simp [lrec]), hstop _ hc (hIq _) ((World.putObj_heap_other (by omega)).trans h2) (hz4 _)⟩
end
end Go.Proofs.YtlpnepgljdhpkaaGreatFmt
