/-
  From a datum of the argument to a tree in memory.
-/
import Derived.Test.YtnpnmfblcogkmaaDoorLaid
import Derived.Test.YtnpnmfblcogkmaaDoorTree
namespace Go.Proofs.YtnpnmfblcogkmaaDoor
open Go.ChangeShapes Go.WideShapes Go.ChangeAt Go.RowKit

theorem list_of {α : Type} {Q : Nat → α → Prop} : ∀ (n : Nat), (∀ i, i < n → ∃ x, Q i x) → ∃ l : List α, l.length = n ∧ ∀ i x, l[i]? = some x → Q i x
  | 0, _ => ⟨[], rfl, fun i x h => by simp at h⟩
  | n + 1, h => by
    obtain ⟨l, hl, hq⟩ := list_of n fun i hi => h i (by omega)
    obtain ⟨x, hx⟩ := h n (by omega)
    refine ⟨l ++ [x], by simp [hl], fun i y hy => ?_⟩
    by_cases hi : i < n
    · rw [List.getElem?_append_left (by omega)] at hy
      exact hq i y hy
    · have hlt := (List.getElem?_eq_some_iff.1 hy).1
      simp at hlt
      obtain rfl : i = n := by omega
      rw [List.getElem?_append_right (by omega), hl, Nat.sub_self] at hy
      cases hy
      exact hx
theorem cells_node : Tryd.prog.cellsOf 32 = 3 := by kernel_rfl
theorem cells_nodes : Tryd.prog.cellsOf 30 = 1 := by kernel_rfl
set_option maxRecDepth 100000 in
theorem open_nd {H : Type} {enc : TypeId × Value → H} {W : World} {sp : Nat → Bool} : ∀ (fuel : Nat) (cs : List Value) (x : DataW H × List MemPlace), DataW.trod enc Tryd.prog W 0 sp true fuel 32 cs = some x →
    ∃ n : Nd, cs = n.cells ∧ n.In W W.heap.size := by
  intro fuel
  induction fuel using Nat.strongRecOn with
  | _ fuel ih =>
    intro cs x h
    obtain ⟨xs, n, rfl, rfl, hl, hlen, hf⟩ := DataW.trod_struct Tryd.underlying32 h
    rw [cells_node] at hl
    replace hlen : xs.length = 3 := hlen
    obtain ⟨c0, c1, c2, rfl⟩ : ∃ c0 c1 c2, cs = [c0, c1, c2] := by
      match cs, hl with
      | [a, b, c], _ => exact ⟨a, b, c, rfl⟩
    obtain ⟨x0, x1, x2, rfl⟩ : ∃ c0 c1 c2, xs = [c0, c1, c2] := by
      match xs, hlen with
      | [a, b, c], _ => exact ⟨a, b, c, rfl⟩
    have f0 : DataW.trod enc Tryd.prog W 0 sp true n 9 (([c0, c1, c2].drop 0).take (Tryd.prog.cellsOf 9)) = some x0 := hf 0 _ rfl
    have f1 : DataW.trod enc Tryd.prog W 0 sp true n 9 (([c0, c1, c2].drop 1).take (Tryd.prog.cellsOf 9)) = some x1 := hf 1 _ rfl
    have f2 : DataW.trod enc Tryd.prog W 0 sp true n 30 (([c0, c1, c2].drop 2).take (Tryd.prog.cellsOf 30)) = some x2 := hf 2 _ rfl
    rw [cells_string] at f0 f1
    rw [cells_nodes] at f2
    obtain ⟨s0, e0, _⟩ := DataW.trod_string Tryd.underlying9 f0
    obtain ⟨s1, e1, _⟩ := DataW.trod_string Tryd.underlying9 f1
    have e0 : [c0] = [Value.string s0] := e0
    have e1 : [c1] = [Value.string s1] := e1
    obtain rfl : c0 = .string s0 := by simpa using e0
    obtain rfl : c1 = .string s1 := by simpa using e1
    rcases DataW.trod_slice Tryd.underlying30 f2 with ⟨e2, _⟩ | ⟨a, len, cap, elems, rest, m, rfl, e2, _, _, hlc, hcm, hel, hget, _⟩
    · have e2 : [c2] = [Value.slice none 0 0] := e2
      obtain rfl : c2 = .slice none 0 0 := by simpa using e2
      refine ⟨⟨s0, s1, none, 0, []⟩, rfl, ?_⟩
      rw [Nd.In_iff]
      exact ⟨Nat.le_refl _, Nat.zero_le _, fun j k hj => by simp at hj⟩
    · have e2 : [c2] = [Value.slice (some a) len cap] := e2
      obtain rfl : c2 = .slice (some a) len cap := by simpa using e2
      rw [cells_node] at hget
      have hspot : 0 < len → a.spot = none := fun h0 => by
        have hg := hget 0 h0
        rw [List.getElem?_eq_getElem (by omega)] at hg
        obtain ⟨ci, hci, hti⟩ := Option.bind_eq_some_iff.1 hg
        obtain ⟨k, rfl, _⟩ := ih m (by omega) _ _ hti
        obtain ⟨_, _, hcell⟩ := World.cells?_some hci
        have g0 : W.cell? a = some (.string k.kd) := by
          have := hcell 0 (by omega)
          rw [Nat.zero_mul] at this
          exact this
        unfold World.cell? at g0
        split at g0
        · split at g0
          · cases g0
          · rename_i hs
            simpa using hs
        · cases g0
      have hk : ∀ i, i < len → ∃ k : Nd, ElemAt W W.heap.size (some a) i k ∧ k.In W W.heap.size := fun i hi => by
        have hg := hget i hi
        rw [List.getElem?_eq_getElem (by omega)] at hg
        obtain ⟨ci, hci, hti⟩ := Option.bind_eq_some_iff.1 hg
        obtain ⟨k, rfl, hin⟩ := ih m (by omega) _ _ hti
        obtain ⟨_, _, hcell⟩ := World.cells?_some hci
        have g0 := hcell 0 (by omega)
        have g1 := hcell 1 (by omega)
        have g2 := hcell 2 (by omega)
        have g0 : W.cell? ((a.add (i * 3)).add 0) = some (.string k.kd) := g0
        have g1 : W.cell? ((a.add (i * 3)).add 1) = some (.string k.tx) := g1
        have g2 : W.cell? ((a.add (i * 3)).add 2) = some (.slice k.ad k.ks.length k.cp) := g2
        obtain ⟨b, o, sp'⟩ := a
        obtain rfl : sp' = none := hspot (by omega)
        have had : ∀ j, ((⟨b, o, none⟩ : Addr).add (i * 3)).add j = ⟨b, o + i * 3 + j, none⟩ := fun j => by
          unfold Addr.add
          split <;> split <;> simp_all
        rw [had] at g0 g1 g2
        exact ⟨k, ⟨b, o, rfl, block_lt_of_cell g0, g0, g1, g2⟩, hin⟩
      obtain ⟨ks, hks, hq⟩ := list_of len hk
      subst hks
      refine ⟨⟨s0, s1, some a, cap, ks⟩, rfl, ?_⟩
      rw [Nd.In_iff]
      exact ⟨hlc, hcm, hq⟩
end Go.Proofs.YtnpnmfblcogkmaaDoor
