/-
  slices.Equal of two rows of texts that are the same.
-/
import Derived.Test.YtlpnepgljdhpkaaGreatFmtK21
import Derived.Test.YtlpnepgljdhpkaaGreatFmtOa
import Derived.Deep.QuietTactic
import Derived.BigQuiet
namespace Go.Proofs.YtlpnepgljdhpkaaGreatFmt
open Go.RowKit

/-- The cells of a row of texts. -/
def TxAt (w : World) (A : Option Addr) (l : List ByteArray) : Prop := ∀ (j : Nat) (x : ByteArray), l[j]? = some x → ∃ g, A = some ⟨g, 0, none⟩ ∧ w.cell? ⟨g, j, none⟩ = some (.string x)
theorem TxAt.of {w : World} {base m c : Nat} {A : Option Addr} {l : List ByteArray} (h : w.ownsRow base 9 1 (.slice A m c) l.length (flatT l)) : TxAt w A l := by
  intro j x hj
  obtain ⟨h0, ⟨he, hn⟩ | ⟨g, cap', cur, he, k1, k2, k3, k4, k5, k6⟩⟩ := h
  · obtain rfl := List.length_eq_zero_iff.1 hn
    simp at hj
  · cases he
    have hjl : j < l.length := (List.getElem?_eq_some_iff.1 hj).1
    have hcell : w.cell? ⟨g, j, none⟩ = (flatT l)[j]? := by
      rw [cell_of_row w g j cur 9 (0, 0) k2, ← k6, List.getElem?_take_of_lt (by omega)]
      simp
    exact ⟨g, rfl, hcell.trans (by simp [flatT, hj])⟩
theorem TxAt.below {w w' : World} {A : Option Addr} {l : List ByteArray} (h : TxAt w A l) (hb : Below w.heap.size w w') : TxAt w' A l := fun j x hj => by
  obtain ⟨g, rfl, h1⟩ := h j x hj
  have hg : g < w.heap.size := World.block_lt_of_cell? w _ h1
  exact ⟨g, rfl, (hb.cell (p := ⟨g, j, none⟩) hg).trans h1⟩
set_option maxRecDepth 100000 in
theorem eqT_any (l : List ByteArray) (W : World) (A A' : Option Addr) (c c' n : Nat) (hn : l.length = n) (hm : n ≤ 5000) (h1 : TxAt W A l) (h2 : TxAt W A' l) :
    Calls Tryz.prog 14 #[.slice A n c, .slice A' n c'] W fun e w => e = .returned (.bool true) ∧ Below W.heap.size W w := by
  have hM : n ≤ 9223372036854775807 := by omega
  have HA := Lib.hid h1
  have HB := Lib.hid h2
  clear h1 h2
  go_enter Tryz.func14, Tryz.ntmps14
  go_wp2_with fail
  go_loopw [13] (fun i' wr => ∃ j : Nat, i' = .int .i64 j ∧ j ≤ n ∧ Below W.heap.size W wr) (fun i' _ => n - (intOf i').toNat)
  case atStart => exact ⟨0, rfl, Nat.zero_le _, Below.refl _ _⟩
  case round =>
    obtain ⟨j, rfl, hj, hb⟩ := hrel
    have HW := Lib.hid hb
    by_cases hlt : j < n
    · obtain ⟨g, rfl, e1⟩ := HA.out.below hb j l[j] (List.getElem?_eq_getElem (by omega))
      obtain ⟨g', rfl, e1'⟩ := HB.out.below hb j l[j] (List.getElem?_eq_getElem (by omega))
      generalize l[j] = x at e1 e1'
      clear hb
      go_wp2_with fail
      go_quiet (fail)
      go_wp2_with fail
      go_roundw
      case rel => exact ⟨j + 1, by go_num, by omega, below_drewN HW.out _⟩
      case measure => simp [intOf]; omega
    · clear hb
      go_wp2_with fail
      go_ret
      exact ⟨rfl, HW.out⟩
end Go.Proofs.YtlpnepgljdhpkaaGreatFmt
