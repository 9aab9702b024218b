/-
  ast.Preorder: its functions, whatever the loop's rounds do; a loop over it.
-/
import Derived.Test.YtlpnepgljdhpkaaGreatFmtYp
namespace Go.Proofs.YtlpnepgljdhpkaaGreatFmt
open Go.RowKit Go.Shelf
attribute [local go_sem] Oper.semAt_some

theorem RoundIn.wide {m m' : Nat} {P : Program} {l : Nat} {f : FuncId} {tmps : Array Value} {assign body : Code} {w : World} {R : Ending → World → Prop}
    (h : RoundIn Fence.wide m P l f tmps assign body w R) : RoundIn Fence.wide m' P l f tmps assign body w R := ⟨h.1, fun c cs _ => h.2 c cs (room_wide _)⟩
section
variable {lo hi B m : Nat} {P : Nat → Int} {fn : FuncId} {tmps : Array Value} {ps : Array Tmp} {assign body : Code} {a₁ : Value → Act} {M id : Nat} {I : List (Nd × Nat) → World → Prop}
set_option maxHeartbeats 1000000 in
set_option maxRecDepth 100000 in
theorem Pr_on (hL : PL lo hi B m P tmps ps assign body a₁ M id I) (hlo : lo ≤ B) (hB : hi ≤ B) (s : List (Nd × Nat)) (n : Nd) (i : Nat) (v : Value) (w : World) (hs : n.shapedB = true) (hz : n.size ≤ 400) (hlt : s.length < M) (h5 : s.length < 5000)
    (h : PMid B fn tmps ps assign body id I s true true w) (hX : ExR w (Rng lo hi) P i n v) :
    Calls Tryz.prog 50 #[v, .pointer (some ⟨B + 3, 0, none⟩), .pointer (some ⟨B + 2, 0, none⟩)] w fun e w' =>
      e = .returned (.bool (decide (s.length + 1 < M))) ∧ PMid B fn tmps ps assign body id I (s ++ [(n, i)]) (decide (s.length + 1 < M)) (decide (s.length + 1 < M)) w' ∧ Kp lo hi w w' := by
  obtain ⟨q, c, rfl⟩ := hX.form
  obtain ⟨tmps', hy, hR⟩ := yield_at hL hlo hB s n i _ w hs hz hlt h5 h hX
  have c3 : w.cell? ⟨B + 3, 0, none⟩ = some (.bool true) := h.2.2.2.2.2.cell 0
  have c2 : w.cell? ⟨B + 2, 0, none⟩ = some (.func (.yield (B + 1)) #[] #[]) := h.2.2.1.cell 0
  have HR := Lib.hid (RoundIn.wide (m' := 5) hR)
  have HL := Lib.hid (And.intro hL hB)
  clear hR hL h hX hlo hB
  generalize decide (s.length + 1 < M) = bb at *
  refine (callsIn_wide (n := 6)).1 ?_
  refine callsIn_of_wp Tryz.func50 rfl trivial ?_ rfl
  simp only [Tryz.ntmps50, List.size_toArray, List.length_cons, List.length_nil, Nat.reduceAdd, Nat.reduceSub, Array.replicate_succ, Array.replicate_zero, List.push_toArray, List.append_toArray, List.nil_append, List.cons_append]
  gi_wp2
  refine HR.out.mono ?_
  clear HR
  rintro e w2 ⟨rfl, hM, hK⟩
  have d3 : w2.cell? ⟨B + 3, 0, none⟩ = some (.bool true) := hM.2.2.2.2.2.cell 0
  have e3 : w2.frozen? ⟨B + 3, 0, none⟩ = false := hM.2.2.2.2.2.frozen 0
  have HR := Lib.hid (And.intro (hM.ok (ok' := bb) HL.out.1) (hK.trans (Kp.of_kq (B := B) (.cell w2 ⟨B + 3, 0, none⟩ (.bool bb) (by show B ≤ B + 3; omega) (by show B + 3 < B + 4; omega)) HL.out.2 (by have := hM.1; omega))))
  clear hM hK
  gi_wp2
  go_ret
  exact ⟨rfl, HR.out⟩
set_option maxHeartbeats 1000000 in
set_option maxRecDepth 100000 in
/-- The loop has been left: yield is called no more. -/
theorem Pr_off (hL : PL lo hi B m P tmps ps assign body a₁ M id I) (hB : hi ≤ B) (s : List (Nd × Nat)) (q c : Nat) (w : World)
    (h : PMid B fn tmps ps assign body id I s false false w) :
    Calls Tryz.prog 50 #[.iface q (.pointer (some ⟨c, 0, none⟩)), .pointer (some ⟨B + 3, 0, none⟩), .pointer (some ⟨B + 2, 0, none⟩)] w fun e w' =>
      e = .returned (.bool false) ∧ PMid B fn tmps ps assign body id I s false false w' ∧ Kp lo hi w w' := by
  have c3 : w.cell? ⟨B + 3, 0, none⟩ = some (.bool false) := h.2.2.2.2.2.cell 0
  have d3 : w.frozen? ⟨B + 3, 0, none⟩ = false := h.2.2.2.2.2.frozen 0
  have HR := Lib.hid (And.intro (h.ok (ok' := false) hL) (Kp.of_kq (lo := lo) (B := B) (.cell w ⟨B + 3, 0, none⟩ (.bool false) (by show B ≤ B + 3; omega) (by show B + 3 < B + 4; omega)) hB (by have := h.1; omega)))
  clear hL h hB
  go_enter Tryz.func50, Tryz.ntmps50
  go_wp2_with fail
  go_ret
  exact ⟨rfl, HR.out⟩
set_option maxRecDepth 100000 in
/-- At nil. -/
theorem Pr_nil (s : List (Nd × Nat)) (b : Bool) (w : World) (h : PMid B fn tmps ps assign body id I s b b w) :
    Calls Tryz.prog 50 #[.nilIface, .pointer (some ⟨B + 3, 0, none⟩), .pointer (some ⟨B + 2, 0, none⟩)] w fun e w' =>
      (∃ r, e = .returned (.bool r)) ∧ w = w' := by
  have c3 : w.cell? ⟨B + 3, 0, none⟩ = some (.bool b) := h.2.2.2.2.2.cell 0
  clear h
  go_enter Tryz.func50, Tryz.ntmps50
  go_wp2_with fail
  go_ret
  exact ⟨⟨_, rfl⟩, rfl⟩
theorem nodes_len (tr : List Ev) : (nodesOf tr).length ≤ tr.length := List.length_filterMap_le ..
/-- Preorder's inner function as a rule for Inspect. -/
theorem pre_cs (hL : PL lo hi B m P tmps ps assign body a₁ M id I) (hlo : lo ≤ B) (hB : hi ≤ B) :
    CS lo hi P (goMost M) 50 #[.pointer (some ⟨B + 3, 0, none⟩), .pointer (some ⟨B + 2, 0, none⟩)] (fun tr _ w => PSt B fn tmps ps assign body M id I tr w) where
  ent := fun args w => by kernel_rfl
  node := fun d out w i n v hs hz hb ho hh hX => by
    have hlen := nodes_len out
    rw [goMost_at]
    unfold PSt at ho ⊢
    rw [nodesOf_some, List.length_append, List.length_singleton]
    by_cases hlt : (nodesOf out).length < M
    · rw [decide_eq_true hlt, List.take_of_length_le (Nat.le_of_lt hlt)] at ho
      rw [List.take_of_length_le (by rw [List.length_append, List.length_singleton]; omega)]
      exact Pr_on hL hlo hB (nodesOf out) n i v w hs hz hlt (by omega) ho hX
    · rw [decide_eq_false hlt] at ho
      have h1 : decide ((nodesOf out).length + 1 < M) = false := decide_eq_false (by omega)
      rw [h1, List.take_append_of_le_length (by omega)]
      obtain ⟨q, c, rfl⟩ := hX.form
      exact Pr_off hL hB _ q c w ho
  nil := fun d x out w hb ho hh => by
    unfold PSt at ho ⊢
    rw [nodesOf_none]
    refine (Pr_nil _ _ w ho).mono ?_
    rintro e w' ⟨⟨r, rfl⟩, rfl⟩
    exact ⟨⟨r, rfl⟩, ho, Kp.refl _ _ _⟩
end
end Go.Proofs.YtlpnepgljdhpkaaGreatFmt
