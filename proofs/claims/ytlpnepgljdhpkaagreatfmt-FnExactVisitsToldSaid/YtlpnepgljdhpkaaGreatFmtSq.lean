/-
  slices.Equal of two rows of spans that are the same.
-/
import Derived.Test.YtlpnepgljdhpkaaGreatFmtK21
import Derived.Test.YtlpnepgljdhpkaaGreatFmtWe
namespace Go.Proofs.YtlpnepgljdhpkaaGreatFmt
open Go.RowKit

theorem flatE_at {l : List (ByteArray × Nat)} {j : Nat} {x : ByteArray × Nat} (h : l[j]? = some x) : (flatE l)[j * 3]? = some (.string x.1) ∧ (flatE l)[j * 3 + 1]? = some (.int .i64 x.2) ∧ (flatE l)[j * 3 + 2]? = some (.int .i64 x.2) := by
  induction l generalizing j with
  | nil => simp at h
  | cons y l ih =>
    cases j with
    | zero => simp at h; subst h; exact ⟨rfl, rfl, rfl⟩
    | succ j =>
      have := ih (j := j) (by simpa using h)
      rw [show (j + 1) * 3 = j * 3 + 3 by omega]
      exact this
/-- The cells of a row of spans. -/
def SpAt (w : World) (A : Option Addr) (l : List (ByteArray × Nat)) : Prop := ∀ (j : Nat) (x : ByteArray × Nat), l[j]? = some x → ∃ g, A = some ⟨g, 0, none⟩ ∧ w.cell? ⟨g, j * 3, none⟩ = some (.string x.1) ∧ w.cell? ⟨g, j * 3 + 1, none⟩ = some (.int .i64 x.2) ∧ w.cell? ⟨g, j * 3 + 2, none⟩ = some (.int .i64 x.2)
theorem SpAt.of {w : World} {base m c : Nat} {A : Option Addr} {l : List (ByteArray × Nat)} (h : w.ownsRow base 29 3 (.slice A m c) l.length (flatE l)) : SpAt w A l := by
  intro j x hj
  obtain ⟨h0, ⟨he, hn⟩ | ⟨g, cap', cur, he, k1, k2, k3, k4, k5, k6⟩⟩ := h
  · obtain rfl := List.length_eq_zero_iff.1 hn
    simp at hj
  · cases he
    have hjl : j < l.length := (List.getElem?_eq_some_iff.1 hj).1
    have hf := flatE_at hj
    have hcell : ∀ q, q < l.length * 3 → w.cell? ⟨g, q, none⟩ = (flatE l)[q]? := fun q hq => by
      rw [cell_of_row w g q cur 29 (0, 0) k2, ← k6, List.getElem?_take_of_lt hq]
      simp
    exact ⟨g, rfl, (hcell _ (by omega)).trans hf.1, (hcell _ (by omega)).trans hf.2.1, (hcell _ (by omega)).trans hf.2.2⟩
theorem SpAt.below {w w' : World} {A : Option Addr} {l : List (ByteArray × Nat)} (h : SpAt w A l) (hb : Below w.heap.size w w') : SpAt w' A l := fun j x hj => by
  obtain ⟨g, rfl, h1, h2, h3⟩ := h j x hj
  have hg : g < w.heap.size := World.block_lt_of_cell? w _ h1
  exact ⟨g, rfl, (hb.cell (p := ⟨g, j * 3, none⟩) hg).trans h1, (hb.cell (p := ⟨g, j * 3 + 1, none⟩) hg).trans h2, (hb.cell (p := ⟨g, j * 3 + 2, none⟩) hg).trans h3⟩
set_option maxRecDepth 100000 in
theorem eqS_any (l : List (ByteArray × Nat)) (W : World) (A A' : Option Addr) (c c' n : Nat) (hn : l.length = n) (hm : n ≤ 5000) (h1 : SpAt W A l) (h2 : SpAt W A' l) :
    Calls Tryz.prog 11 #[.slice A n c, .slice A' n c'] W fun e w => e = .returned (.bool true) ∧ Below W.heap.size W w := by
  have hM : n ≤ 9223372036854775807 := by omega
  have HA := Lib.hid h1
  have HB := Lib.hid h2
  clear h1 h2
  go_enter Tryz.func11, Tryz.ntmps11
  go_wp2_with fail
  go_loopw [13] (fun i' wr => ∃ j : Nat, i' = .int .i64 j ∧ j ≤ n ∧ Below W.heap.size W wr) (fun i' _ => n - (intOf i').toNat)
  case atStart => exact ⟨0, rfl, Nat.zero_le _, Below.refl _ _⟩
  case round =>
    obtain ⟨j, rfl, hj, hb⟩ := hrel
    have HW := Lib.hid hb
    by_cases hlt : j < n
    · obtain ⟨g, rfl, e1, e2, e3⟩ := HA.out.below hb j l[j] (List.getElem?_eq_getElem (by omega))
      obtain ⟨g', rfl, e1', e2', e3'⟩ := HB.out.below hb j l[j] (List.getElem?_eq_getElem (by omega))
      generalize l[j] = x at e1 e2 e3 e1' e2' e3'
      clear hb
      go_wp2_with fail
      go_quiet (fail)
      go_wp2_with fail
      go_roundw
      case rel => exact ⟨j + 1, by go_num, by omega, below_drewN HW.out _⟩
      case measure => simp [intOf]; omega
    · clear hb
      go_wp2_with fail
      go_ret
      exact ⟨rfl, HW.out⟩
end Go.Proofs.YtlpnepgljdhpkaaGreatFmt
