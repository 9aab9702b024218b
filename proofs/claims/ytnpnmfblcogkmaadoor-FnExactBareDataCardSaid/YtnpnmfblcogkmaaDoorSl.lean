/-
  slices.Index, slices.Contains over slices of strings, spec.Prec: walked once each.
-/
import Derived.Test.YtnpnmfblcogkmaaDoorProg
import Derived.WalkKit
import Derived.WalkSpells
import Derived.WalkLawsBesides
import Derived.LoopTactic
import Derived.Lib.Hide
import Derived.Outline
import Derived.Test.YtnpnmfblcogkmaaDoorTree
namespace Go.Proofs.YtnpnmfblcogkmaaDoor
open Go.RowKit

/-- A text is one of some. -/
def has (zs : List ByteArray) (s : ByteArray) : Bool := zs.any fun z => s.toList == z.toList
/-- A slice of strings: nil and empty ones too. -/
def StrsAt (w : World) (a : Option Addr) (zs : List ByteArray) : Prop :=
  zs.length ≤ maxLen ∧ ∀ i (h : i < zs.length), ∃ b o, a = some ⟨b, o, none⟩ ∧ w.cell? ⟨b, o + i, none⟩ = some (.string zs[i])

def IdxIs (w : World) (zs : List ByteArray) (s : ByteArray) (e : Ending) (w' : World) : Prop := ∃ r : Int, e = .returned (.int .i64 r) ∧ w = w' ∧ ((r = -1 ∧ has zs s = false) ∨ (0 ≤ r ∧ has zs s = true))

theorem Index_any (a : Option Addr) (c : Nat) (zs : List ByteArray) (s : ByteArray) (w : World) (h : StrsAt w a zs) (n : Nat) (hn : zs.length = n) :
    Calls Tryd.prog 19 #[.slice a n c, .string s] w (IdxIs w zs s) := by
  subst hn
  have hm := h.1
  unfold maxLen at hm
  have H := Lib.hid h.2
  clear h
  go_enter Tryd.func19, Tryd.ntmps19
  go_wp2
  go_loop [5, 8] (fun _ i => ∃ k : Nat, k ≤ zs.length ∧ i = .int .i64 k ∧ has (zs.take k) s = false) (fun _ i => zs.length - (intOf i).toNat)
  case atStart => exact ⟨0, Nat.zero_le _, rfl, rfl⟩
  case round =>
    obtain ⟨k, hk, rfl, hno⟩ := hrel
    have HN := Lib.hid hno
    clear hno
    by_cases hlt : k < zs.length
    · obtain ⟨b, o, rfl, hc⟩ := H.out k hlt
      by_cases he : (s.toList == zs[k].toList) = true
      · go_wp2
        go_ret
        refine ⟨k, rfl, rfl, .inr ⟨by omega, ?_⟩⟩
        unfold has
        rw [List.any_eq_true]
        exact ⟨zs[k], List.getElem_mem hlt, he⟩
      · have he' : (s.toList == zs[k].toList) = false := by simpa using he
        clear he
        go_wp2
        go_round
        case rel =>
          refine ⟨k + 1, by omega, by go_num, ?_⟩
          have h1 := HN.out
          unfold has at h1 ⊢
          rw [List.take_succ_eq_append_getElem hlt, List.any_append, h1]
          simpa using he'
        case measure => simp [intOf]; omega
    · go_wp2
      go_ret
      refine ⟨-1, rfl, rfl, .inl ⟨rfl, ?_⟩⟩
      have h1 := HN.out
      rwa [List.take_of_length_le (by omega)] at h1

theorem Contains_any (a : Option Addr) (c : Nat) (zs : List ByteArray) (s : ByteArray) (w : World) (h : StrsAt w a zs) (n : Nat) (hn : zs.length = n) :
    Calls Tryd.prog 8 #[.slice a n c, .string s] w fun e w' => e = .returned (.bool (has zs s)) ∧ w = w' := by
  have H := Lib.hid h
  clear h
  subst hn
  go_enter Tryd.func8, Tryd.ntmps8
  go_wp2_with (go_at_call 19; refine (Index_any _ _ _ _ _ H.out _ rfl).mono ?_; rintro e w' ⟨r, rfl, rfl, hr⟩)
  go_ret
  rcases hr with ⟨rfl, hr⟩ | ⟨h0, hr⟩
  · rw [hr]
    exact ⟨rfl, rfl⟩
  · rw [hr]
    simp [h0]
end Go.Proofs.YtnpnmfblcogkmaaDoor
