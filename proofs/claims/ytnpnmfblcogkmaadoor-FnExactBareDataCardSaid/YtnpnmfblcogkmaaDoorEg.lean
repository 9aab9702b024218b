/-
  The texts of slices.
-/
import Derived.Test.YtnpnmfblcogkmaaDoorEf
import Derived.Test.YtnpnmfblcogkmaaDoorEr2
namespace Go.Proofs.YtnpnmfblcogkmaaDoor
open Go.RowKit

theorem slTexts {l : List UInt8} {k : Nat} (h : slN l = some k) : l = [] ∨ l = [108] ∨ l = [104] ∨ l = [108, 104] ∨ l = [104, 109, 115] ∨ l = [108, 104, 109, 115] := by
  unfold slN at h
  repeat' split at h
  all_goals simp_all
theorem slOk {tx : ByteArray} {k : Nat} (h : slN tx.data.toList = some k) : (∀ p, chr tx p < 128) ∧ ∀ p q, p < tx.size → q < tx.size → chr tx p = chr tx q → p = q := by
  have hs : tx.size = tx.data.toList.length := by simp
  rw [hs]
  unfold chr
  generalize tx.data.toList = l at h
  have hall : (∀ p, p < l.length → (l.getD p 0).toNat < 128) ∧ ∀ p, p < l.length → ∀ q, q < l.length → (l.getD p 0).toNat = (l.getD q 0).toNat → p = q := by
    rcases slTexts h with rfl | rfl | rfl | rfl | rfl | rfl <;> decide
  refine ⟨fun p => ?_, fun p q hp hq => hall.2 p hp q hq⟩
  by_cases hp : p < l.length
  · exact hall.1 p hp
  · rw [List.getD_eq_getElem?_getD, List.getElem?_eq_none (by omega)]
    decide
end Go.Proofs.YtnpnmfblcogkmaaDoor
