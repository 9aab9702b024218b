/-
  ast.Unparen; what a tree is without the parentheses around it.
-/
import Derived.Test.YtnpnmfblcogkmaaDoorAs
import Derived.Test.YtnpnmfblcogkmaaDoorEi
import Derived.Test.YtnpnmfblcogkmaaDoorNk
import Derived.Deep.LoopGhost
namespace Go.Proofs.YtnpnmfblcogkmaaDoor
open Go.RowKit

theorem as_Ident_ParenExpr (v : Value) (w : World) : (Instr.typeAssert (.iface 56 v) 46 64 true).run Tryd.prog w = .ok (.tuple #[.pointer none, .bool false]) w := by kernel_rfl
theorem as_BasicLit_ParenExpr (v : Value) (w : World) : (Instr.typeAssert (.iface 61 v) 46 64 true).run Tryd.prog w = .ok (.tuple #[.pointer none, .bool false]) w := by kernel_rfl

/-- m is n without the parentheses around it. -/
inductive BareOf : Nd → Nd → Prop
  | here {n : Nd} (h : kcode n.kd ≠ 2) : BareOf n n
  | paren {kd tx : ByteArray} {ad : Option Addr} {cp : Nat} {x m : Nd} (h : kcode kd = 2) (hx : BareOf x m) : BareOf ⟨kd, tx, ad, cp, [x]⟩ m
theorem BareOf.ex : ∀ n : Nd, n.shapedB = true → ∃ m, BareOf n m ∧ m.shapedB = true ∧ m.size ≤ n.size := by
  refine Nd.ind fun n ih h1 => ?_
  by_cases hc : kcode n.kd = 2
  · have h1' := h1
    rw [Nd.shapedB_eq, Bool.and_eq_true, List.all_eq_true] at h1
    obtain ⟨kd, tx, ad, cp, ks⟩ := n
    dsimp only at ih h1 hc
    have hm : manyC (kcode kd) tx ks.length = true := h1.2
    rw [hc] at hm
    have hm : (tx.data.toList.isEmpty && ks.length == 1) = true := hm
    simp only [Bool.and_eq_true, beq_iff_eq] at hm
    obtain ⟨x, rfl⟩ := one_of hm.2
    obtain ⟨m, k1, k2, k3⟩ := ih x (by simp) (h1.1 x (by simp))
    refine ⟨m, .paren hc k1, k2, ?_⟩
    rw [Nd.size_eq ⟨kd, tx, ad, cp, [x]⟩]
    simp only [sizeL]
    omega
  · exact ⟨n, .here hc, h1, Nat.le_refl _⟩
theorem BareOf.inv {n m : Nd} (h : BareOf n m) : (kcode n.kd ≠ 2 ∧ m = n) ∨ ∃ x, n.ks = [x] ∧ kcode n.kd = 2 ∧ BareOf x m := by
  cases h with
  | here h => exact .inl ⟨h, rfl⟩
  | paren h hx => exact .inr ⟨_, rfl, h, hx⟩

/-- An expression in parentheses. -/
theorem ExR.paren {w : World} {S : Nat → Prop} {P : Nat → Int} {i : Nat} {n x : Nd} {v : Value} (h : ExR w S P i n v) (hc : kcode n.kd = 2) (hk : n.ks = [x]) :
    ∃ b q c j, v = .iface 64 (.pointer (some ⟨b, 0, none⟩)) ∧ w.cell? ⟨b, 1, none⟩ = some (.iface q (.pointer (some ⟨c, 0, none⟩))) ∧ ExR w S P j x (.iface q (.pointer (some ⟨c, 0, none⟩))) := by
  obtain ⟨kd, tx, ad, cp, ks⟩ := n
  dsimp only at hc hk
  subst hk
  obtain ⟨vs, hl, hn⟩ := h
  rw [hc] at hn
  obtain ⟨b, hb, rfl, hblk⟩ := hn
  obtain ⟨j, q, c, rfl, hx⟩ := exl1 hl
  exact ⟨b, q, c, j, rfl, hblk.cell 1, hx⟩
/-- An expression that is not in parentheses. -/
theorem ExR.bare {w : World} {S : Nat → Prop} {P : Nat → Int} {i : Nat} {n : Nd} {v : Value} (h : ExR w S P i n v) (hc : kcode n.kd ≠ 2) :
    ∃ t b, v = .iface t (.pointer (some ⟨b, 0, none⟩)) ∧ ∀ w : World, (Instr.typeAssert (.iface t (.pointer (some ⟨b, 0, none⟩))) 46 64 true).run Tryd.prog w = .ok (.tuple #[.pointer none, .bool false]) w := by
  obtain ⟨kd, tx, ad, cp, ks⟩ := n
  dsimp only at hc
  obtain ⟨vs, hl, b, hb, h⟩ := h
  split at h
  case h_1 => exact ⟨_, b, h.1, as_Ident_ParenExpr _⟩
  case h_2 => exact ⟨_, b, h.1, as_BasicLit_ParenExpr _⟩
  case h_3 e => exact absurd e hc
  case h_4 => exact ⟨_, b, h.1, as_StarExpr_ParenExpr _⟩
  case h_5 => exact ⟨_, b, h.1, as_UnaryExpr_ParenExpr _⟩
  case h_6 => exact ⟨_, b, h.1, as_BinaryExpr_ParenExpr _⟩
  case h_7 => exact ⟨_, b, h.1, as_SelectorExpr_ParenExpr _⟩
  case h_8 => exact ⟨_, b, h.1, as_IndexExpr_ParenExpr _⟩
  case h_9 => exact ⟨_, b, h.1, as_TypeAssertExpr_ParenExpr _⟩
  case h_10 => exact ⟨_, b, h.1, as_KeyValueExpr_ParenExpr _⟩
  case h_11 => exact ⟨_, b, h.1, as_MapType_ParenExpr _⟩
  case h_12 => exact ⟨_, b, h.1, as_SliceExpr_ParenExpr _⟩
  case h_13 => exact ⟨_, b, h.1, as_CallExpr_ParenExpr _⟩
  case h_14 => exact ⟨_, b, h.1, as_CompositeLit_ParenExpr _⟩
  case h_15 => exact ⟨_, b, h.1, as_ArrayType_ParenExpr _⟩
  case h_16 => exact h.elim

theorem Unparen_any (P : Nat → Int) (S : Nat → Prop) (n m : Nd) (hb : BareOf n m) (W : World) (i : Nat) (v : Value) (hX : ExR W S P i n v) :
    Calls Tryd.prog 25 #[v] W fun e w => ∃ j u, e = .returned u ∧ ExR W S P j m u ∧ W = w := by
  have H0 := Lib.hid (And.intro hb hX)
  clear hb hX
  go_enter Tryd.func25, Tryd.ntmps25
  go_wp2_with fail
  go_loopg [0] n.size (fun k u wr => W = wr ∧ ∃ (n' : Nd) (j : Nat), BareOf n' m ∧ ExR W S P j n' u ∧ n'.size ≤ k)
  case atStart => exact ⟨rfl, n, i, H0.out.1, H0.out.2, Nat.le_refl _⟩
  case round =>
    obtain ⟨rfl, n', j, hB, hX, hk⟩ := hrel
    rcases hB.inv with ⟨hc, rfl⟩ | ⟨x, hks, hc, hx⟩
    · obtain ⟨t, b, rfl, has⟩ := hX.bare hc
      have HX := Lib.hid hX
      clear hX hB H0
      go_wp2_with fail
      go_ret
      exact ⟨j, _, rfl, HX.out, rfl⟩
    · obtain ⟨b, q, c, j', rfl, hcell, hX'⟩ := hX.paren hc hks
      have HX := Lib.hid hX'
      have HB := Lib.hid hx
      have hsz : x.size < n'.size := by
        rw [Nd.size_eq n', hks]
        simp only [sizeL]
        omega
      have has := as_ParenExpr_ParenExpr
      clear hX hB H0 hX' hx
      go_wp2_with fail
      go_roundg x.size
      case rel => exact ⟨rfl, x, j', HB.out, HX.out, Nat.le_refl _⟩
      case measure => omega
end Go.Proofs.YtnpnmfblcogkmaaDoor
