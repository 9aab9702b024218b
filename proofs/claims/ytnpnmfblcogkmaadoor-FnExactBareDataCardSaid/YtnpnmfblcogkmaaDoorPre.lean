/-
  spec.Prec: the precedence of a text, by five rows of operators: walked once.
-/
import Derived.Test.YtnpnmfblcogkmaaDoorSl
namespace Go.Proofs.YtnpnmfblcogkmaaDoor
open Go.RowKit

def opRows : List (List ByteArray) := [[⟨#[124, 124]⟩], [⟨#[38, 38]⟩], [⟨#[61, 61]⟩, ⟨#[33, 61]⟩, ⟨#[60]⟩, ⟨#[60, 61]⟩, ⟨#[62]⟩, ⟨#[62, 61]⟩], [⟨#[43]⟩, ⟨#[45]⟩, ⟨#[124]⟩, ⟨#[94]⟩], [⟨#[42]⟩, ⟨#[47]⟩, ⟨#[37]⟩, ⟨#[60, 60]⟩, ⟨#[62, 62]⟩, ⟨#[38]⟩, ⟨#[38, 94]⟩]]
/-- The precedence of a text: the number of the first row that has it, from 1 on; 0 if none has. -/
def precS (s : ByteArray) : Nat := if has (opRows.getD 0 []) s then 1 else if has (opRows.getD 1 []) s then 2 else if has (opRows.getD 2 []) s then 3 else if has (opRows.getD 3 []) s then 4 else if has (opRows.getD 4 []) s then 5 else 0

theorem precS_at (s : ByteArray) (k : Nat) (hk : k < 5) (hno : ∀ j, j < k → has (opRows.getD j []) s = false) (hh : has (opRows.getD k []) s = true) : precS s = k + 1 := by
  have hk5 : k = 0 ∨ k = 1 ∨ k = 2 ∨ k = 3 ∨ k = 4 := by omega
  unfold precS
  rcases hk5 with rfl | rfl | rfl | rfl | rfl
  · rw [hh]; rfl
  · rw [hno 0 (by omega), hh]; rfl
  · rw [hno 0 (by omega), hno 1 (by omega), hh]; rfl
  · rw [hno 0 (by omega), hno 1 (by omega), hno 2 (by omega), hh]; rfl
  · rw [hno 0 (by omega), hno 1 (by omega), hno 2 (by omega), hno 3 (by omega), hh]; rfl
theorem precS_none (s : ByteArray) (hno : ∀ j, j < 5 → has (opRows.getD j []) s = false) : precS s = 0 := by
  unfold precS
  rw [hno 0 (by omega), hno 1 (by omega), hno 2 (by omega), hno 3 (by omega), hno 4 (by omega)]; rfl

set_option maxHeartbeats 1000000 in
theorem Prec_any (s : ByteArray) (w : World) :
    Calls Tryd.prog 9 #[.string s] w fun e w' => e = .returned (.int .i64 (precS s)) ∧ Below w.heap.size w w' := by
  go_enter Tryd.func9, Tryd.ntmps9
  go_wp2
  go_loop [3, 4, 12] (fun _ _ i => ∃ k : Nat, k ≤ 5 ∧ i = .int .i64 k ∧ ∀ j, j < k → has (opRows.getD j []) s = false) (fun _ _ i => 5 - (intOf i).toNat)
  case atStart => exact ⟨0, by omega, rfl, fun j hj => absurd hj (by omega)⟩
  case round =>
    obtain ⟨k, hk, rfl, hno⟩ := hrel
    have HN := Lib.hid hno
    clear hno
    have hk5 : k = 0 ∨ k = 1 ∨ k = 2 ∨ k = 3 ∨ k = 4 ∨ k = 5 := by omega
    clear hk
    rcases hk5 with rfl | rfl | rfl | rfl | rfl | rfl
    · cases hh : has (opRows.getD 0 []) s
      · have HH := Lib.hid hh
        clear hh
        go_wp2_with (go_at_call 8; refine (Contains_any _ _ (opRows.getD 0 []) _ _ ?c0 _ rfl).mono ?_; rotate_left; rw [HH.out]; rintro e w' ⟨rfl, rfl⟩)
        case c0 => exact ⟨by decide, fun i hi => by rcases i with _ | _ | _ | _ | _ | _ | _ | i <;> first | (simp [opRows] at hi; done) | (exfalso; simp [opRows] at hi; omega) | (refine ⟨_, _, rfl, ?_⟩; go_simp; rfl)⟩
        go_round
        case rel =>
          refine ⟨1, by omega, by go_num, fun j hj => ?_⟩
          by_cases hj' : j = 0
          · rw [hj']; exact HH.out
          · exact HN.out j (by omega)
        case measure => simp [intOf]
      · have HH := Lib.hid hh
        clear hh
        go_wp2_with (go_at_call 8; refine (Contains_any _ _ (opRows.getD 0 []) _ _ ?c0 _ rfl).mono ?_; rotate_left; rw [HH.out]; rintro e w' ⟨rfl, rfl⟩)
        case c0 => exact ⟨by decide, fun i hi => by rcases i with _ | _ | _ | _ | _ | _ | _ | i <;> first | (simp [opRows] at hi; done) | (exfalso; simp [opRows] at hi; omega) | (refine ⟨_, _, rfl, ?_⟩; go_simp; rfl)⟩
        go_ret
        exact ⟨by rw [precS_at s 0 (by omega) HN.out HH.out]; rfl, by repeat (first | exact Below.refl _ _ | (refine Below.alloc ?_ (by simp; try omega) _))⟩
    · cases hh : has (opRows.getD 1 []) s
      · have HH := Lib.hid hh
        clear hh
        go_wp2_with (go_at_call 8; refine (Contains_any _ _ (opRows.getD 1 []) _ _ ?c0 _ rfl).mono ?_; rotate_left; rw [HH.out]; rintro e w' ⟨rfl, rfl⟩)
        case c0 => exact ⟨by decide, fun i hi => by rcases i with _ | _ | _ | _ | _ | _ | _ | i <;> first | (simp [opRows] at hi; done) | (exfalso; simp [opRows] at hi; omega) | (refine ⟨_, _, rfl, ?_⟩; go_simp; rfl)⟩
        go_round
        case rel =>
          refine ⟨2, by omega, by go_num, fun j hj => ?_⟩
          by_cases hj' : j = 1
          · rw [hj']; exact HH.out
          · exact HN.out j (by omega)
        case measure => simp [intOf]
      · have HH := Lib.hid hh
        clear hh
        go_wp2_with (go_at_call 8; refine (Contains_any _ _ (opRows.getD 1 []) _ _ ?c0 _ rfl).mono ?_; rotate_left; rw [HH.out]; rintro e w' ⟨rfl, rfl⟩)
        case c0 => exact ⟨by decide, fun i hi => by rcases i with _ | _ | _ | _ | _ | _ | _ | i <;> first | (simp [opRows] at hi; done) | (exfalso; simp [opRows] at hi; omega) | (refine ⟨_, _, rfl, ?_⟩; go_simp; rfl)⟩
        go_ret
        exact ⟨by rw [precS_at s 1 (by omega) HN.out HH.out]; rfl, by repeat (first | exact Below.refl _ _ | (refine Below.alloc ?_ (by simp; try omega) _))⟩
    · cases hh : has (opRows.getD 2 []) s
      · have HH := Lib.hid hh
        clear hh
        go_wp2_with (go_at_call 8; refine (Contains_any _ _ (opRows.getD 2 []) _ _ ?c0 _ rfl).mono ?_; rotate_left; rw [HH.out]; rintro e w' ⟨rfl, rfl⟩)
        case c0 => exact ⟨by decide, fun i hi => by rcases i with _ | _ | _ | _ | _ | _ | _ | i <;> first | (simp [opRows] at hi; done) | (exfalso; simp [opRows] at hi; omega) | (refine ⟨_, _, rfl, ?_⟩; go_simp; rfl)⟩
        go_round
        case rel =>
          refine ⟨3, by omega, by go_num, fun j hj => ?_⟩
          by_cases hj' : j = 2
          · rw [hj']; exact HH.out
          · exact HN.out j (by omega)
        case measure => simp [intOf]
      · have HH := Lib.hid hh
        clear hh
        go_wp2_with (go_at_call 8; refine (Contains_any _ _ (opRows.getD 2 []) _ _ ?c0 _ rfl).mono ?_; rotate_left; rw [HH.out]; rintro e w' ⟨rfl, rfl⟩)
        case c0 => exact ⟨by decide, fun i hi => by rcases i with _ | _ | _ | _ | _ | _ | _ | i <;> first | (simp [opRows] at hi; done) | (exfalso; simp [opRows] at hi; omega) | (refine ⟨_, _, rfl, ?_⟩; go_simp; rfl)⟩
        go_ret
        exact ⟨by rw [precS_at s 2 (by omega) HN.out HH.out]; rfl, by repeat (first | exact Below.refl _ _ | (refine Below.alloc ?_ (by simp; try omega) _))⟩
    · cases hh : has (opRows.getD 3 []) s
      · have HH := Lib.hid hh
        clear hh
        go_wp2_with (go_at_call 8; refine (Contains_any _ _ (opRows.getD 3 []) _ _ ?c0 _ rfl).mono ?_; rotate_left; rw [HH.out]; rintro e w' ⟨rfl, rfl⟩)
        case c0 => exact ⟨by decide, fun i hi => by rcases i with _ | _ | _ | _ | _ | _ | _ | i <;> first | (simp [opRows] at hi; done) | (exfalso; simp [opRows] at hi; omega) | (refine ⟨_, _, rfl, ?_⟩; go_simp; rfl)⟩
        go_round
        case rel =>
          refine ⟨4, by omega, by go_num, fun j hj => ?_⟩
          by_cases hj' : j = 3
          · rw [hj']; exact HH.out
          · exact HN.out j (by omega)
        case measure => simp [intOf]
      · have HH := Lib.hid hh
        clear hh
        go_wp2_with (go_at_call 8; refine (Contains_any _ _ (opRows.getD 3 []) _ _ ?c0 _ rfl).mono ?_; rotate_left; rw [HH.out]; rintro e w' ⟨rfl, rfl⟩)
        case c0 => exact ⟨by decide, fun i hi => by rcases i with _ | _ | _ | _ | _ | _ | _ | i <;> first | (simp [opRows] at hi; done) | (exfalso; simp [opRows] at hi; omega) | (refine ⟨_, _, rfl, ?_⟩; go_simp; rfl)⟩
        go_ret
        exact ⟨by rw [precS_at s 3 (by omega) HN.out HH.out]; rfl, by repeat (first | exact Below.refl _ _ | (refine Below.alloc ?_ (by simp; try omega) _))⟩
    · cases hh : has (opRows.getD 4 []) s
      · have HH := Lib.hid hh
        clear hh
        go_wp2_with (go_at_call 8; refine (Contains_any _ _ (opRows.getD 4 []) _ _ ?c0 _ rfl).mono ?_; rotate_left; rw [HH.out]; rintro e w' ⟨rfl, rfl⟩)
        case c0 => exact ⟨by decide, fun i hi => by rcases i with _ | _ | _ | _ | _ | _ | _ | i <;> first | (simp [opRows] at hi; done) | (exfalso; simp [opRows] at hi; omega) | (refine ⟨_, _, rfl, ?_⟩; go_simp; rfl)⟩
        go_round
        case rel =>
          refine ⟨5, by omega, by go_num, fun j hj => ?_⟩
          by_cases hj' : j = 4
          · rw [hj']; exact HH.out
          · exact HN.out j (by omega)
        case measure => simp [intOf]
      · have HH := Lib.hid hh
        clear hh
        go_wp2_with (go_at_call 8; refine (Contains_any _ _ (opRows.getD 4 []) _ _ ?c0 _ rfl).mono ?_; rotate_left; rw [HH.out]; rintro e w' ⟨rfl, rfl⟩)
        case c0 => exact ⟨by decide, fun i hi => by rcases i with _ | _ | _ | _ | _ | _ | _ | i <;> first | (simp [opRows] at hi; done) | (exfalso; simp [opRows] at hi; omega) | (refine ⟨_, _, rfl, ?_⟩; go_simp; rfl)⟩
        go_ret
        exact ⟨by rw [precS_at s 4 (by omega) HN.out HH.out]; rfl, by repeat (first | exact Below.refl _ _ | (refine Below.alloc ?_ (by simp; try omega) _))⟩
    · go_wp2
      go_ret
      exact ⟨by rw [precS_none s HN.out]; rfl, by repeat (first | exact Below.refl _ _ | (refine Below.alloc ?_ (by simp; try omega) _))⟩
end Go.Proofs.YtnpnmfblcogkmaaDoor
