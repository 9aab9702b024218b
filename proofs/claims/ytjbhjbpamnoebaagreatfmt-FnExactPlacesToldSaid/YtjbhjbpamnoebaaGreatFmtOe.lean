/-
  slices.Equal of two rows of texts that are the same.
-/
import Derived.Test.YtjbhjbpamnoebaaGreatFmtK21
import Derived.Test.YtjbhjbpamnoebaaGreatFmtL8
import Derived.Deep.QuietTactic
import Derived.BigQuiet
namespace Go.Proofs.YtjbhjbpamnoebaaGreatFmt
open Go.RowKit

/-- The cells of a row of texts. -/
def TxAt (w : World) (A : Option Addr) (l : List ByteArray) : Prop := ∀ (j : Nat) (x : ByteArray), l[j]? = some x → ∃ g, A = some ⟨g, 0, none⟩ ∧ w.cell? ⟨g, j, none⟩ = some (.string x)
theorem TxAt.of {w : World} {base m c : Nat} {A : Option Addr} {l : List ByteArray} (h : w.ownsRow base 9 1 (.slice A m c) l.length (flatT l)) : TxAt w A l := by
  intro j x hj
  obtain ⟨h0, ⟨he, hn⟩ | ⟨g, cap', cur, he, k1, k2, k3, k4, k5, k6⟩⟩ := h
  · obtain rfl := List.length_eq_zero_iff.1 hn
    simp at hj
  · cases he
    have hjl : j < l.length := (List.getElem?_eq_some_iff.1 hj).1
    have hcell : w.cell? ⟨g, j, none⟩ = (flatT l)[j]? := by
      rw [cell_of_row w g j cur 9 (0, 0) k2, ← k6, List.getElem?_take_of_lt (by omega)]
      simp
    exact ⟨g, rfl, hcell.trans (by simp [flatT, hj])⟩
theorem TxAt.below {w w' : World} {A : Option Addr} {l : List ByteArray} (h : TxAt w A l) (hb : Below w.heap.size w w') : TxAt w' A l := fun j x hj => by
  obtain ⟨g, rfl, h1⟩ := h j x hj
  have hg : g < w.heap.size := World.block_lt_of_cell? w _ h1
  exact ⟨g, rfl, (hb.cell (p := ⟨g, j, none⟩) hg).trans h1⟩
end Go.Proofs.YtjbhjbpamnoebaaGreatFmt
