/-
  token.Token's String, IsOperator, Precedence: what they compute, walked once each, over a table 'tokens' that holds what its initialiser lays.
-/
import Derived.Test.YtnpnmfblcogkmaaDoorProg
import Derived.WalkKit
import Derived.WalkSpells
import Derived.WalkLawsBesides
import Derived.Lib.Hide
import Derived.Outline
import Derived.Test.YtnpnmfblcogkmaaDoorTree
namespace Go.Proofs.YtnpnmfblcogkmaaDoor
open Go.RowKit

/-- The texts of the tokens, in the order of their numbers. -/
def tab : List (List UInt8) := [[73, 76, 76, 69, 71, 65, 76], [69, 79, 70], [67, 79, 77, 77, 69, 78, 84], [], [73, 68, 69, 78, 84], [73, 78, 84], [70, 76, 79, 65, 84], [73, 77, 65, 71], [67, 72, 65, 82], [83, 84, 82, 73, 78, 71], [], [], [43], [45], [42], [47], [37], [38], [124], [94], [60, 60], [62, 62], [38, 94], [43, 61], [45, 61], [42, 61], [47, 61], [37, 61], [38, 61], [124, 61], [94, 61], [60, 60, 61], [62, 62, 61], [38, 94, 61], [38, 38], [124, 124], [60, 45], [43, 43], [45, 45], [61, 61], [60], [62], [61], [33], [33, 61], [60, 61], [62, 61], [58, 61], [46, 46, 46], [40], [91], [123], [44], [46], [41], [93], [125], [59], [58], [], [], [98, 114, 101, 97, 107], [99, 97, 115, 101], [99, 104, 97, 110], [99, 111, 110, 115, 116], [99, 111, 110, 116, 105, 110, 117, 101], [100, 101, 102, 97, 117, 108, 116], [100, 101, 102, 101, 114], [101, 108, 115, 101], [102, 97, 108, 108, 116, 104, 114, 111, 117, 103, 104], [102, 111, 114], [102, 117, 110, 99], [103, 111], [103, 111, 116, 111], [105, 102], [105, 109, 112, 111, 114, 116], [105, 110, 116, 101, 114, 102, 97, 99, 101], [109, 97, 112], [112, 97, 99, 107, 97, 103, 101], [114, 97, 110, 103, 101], [114, 101, 116, 117, 114, 110], [115, 101, 108, 101, 99, 116], [115, 116, 114, 117, 99, 116], [115, 119, 105, 116, 99, 104], [116, 121, 112, 101], [118, 97, 114], [], [], [126]]
def tk (i : Nat) : ByteArray := ⟨(tab.getD i []).toArray⟩
theorem tk_toList (i : Nat) : (tk i).toList = tab.getD i [] := ByteArray.toList_mk _

/-- The variable 'tokens' holds its table. -/
def TokTab (w : World) : Prop := ∀ i, i < 89 → w.cell? ⟨1, i, none⟩ = some (.string (tk i))
theorem TokTab.keep {w w' : World} (h : TokTab w) (hk : ∀ p : Addr, p.block < w.heap.size → w'.cell? p = w.cell? p) : TokTab w' := fun i hi => by
  have h1 := h i hi
  exact (hk _ (block_lt_of_cell h1)).trans h1
theorem TokTab.below {w w' : World} (h : TokTab w) (hb : Below w.heap.size w w') : TokTab w' := h.keep fun _ hp => hb.cell hp

/-- String of a token that has a text in the table. -/
theorem String_tab (i : Nat) (hi : i < 89) (hne : (tab.getD i []).isEmpty = false) (w : World) (hT : TokTab w) :
    Calls Tryd.prog 16 #[.int .i64 i] w fun e w' => e = .returned (.string (tk i)) ∧ w = w' := by
  have hc := hT i hi
  clear hT
  have h1 : (0 : Int) ≤ (i : Int) := by omega
  have h2 : (i : Int) < 89 := by omega
  have h3 : (tk i).toList.isEmpty = false := by rw [tk_toList]; exact hne
  clear hne
  go_enter Tryd.func16, Tryd.ntmps16
  go_wp2
  go_ret
  exact ⟨rfl, rfl⟩
end Go.Proofs.YtnpnmfblcogkmaaDoor
