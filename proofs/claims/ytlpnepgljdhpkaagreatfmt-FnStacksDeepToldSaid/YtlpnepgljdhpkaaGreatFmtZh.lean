/-
  slices.EqualFunc, by slices.Equal, of two rows of rows of texts that are the same.
-/
import Derived.Test.YtlpnepgljdhpkaaGreatFmtZf
import Derived.Deep.QuietTactic
import Derived.BigQuiet
namespace Go.Proofs.YtlpnepgljdhpkaaGreatFmt
open Go.RowKit

set_option maxRecDepth 100000 in
theorem eqF_any (rows : List (List ByteArray)) (W : World) (A A' : Option Addr) (c c' n : Nat) (hn : rows.length = n) (hm : n ≤ 5000) (hr : ∀ r ∈ rows, r.length ≤ 5000) (h1 : RowsR W A rows) (h2 : RowsR W A' rows) :
    Calls Tryz.prog 19 #[.slice A n c, .slice A' n c', .func (.func 14) #[] #[]] W fun e w => e = .returned (.bool true) ∧ Below W.heap.size W w := by
  have hM : n ≤ 9223372036854775807 := by omega
  have HA := Lib.hid h1
  have HB := Lib.hid h2
  have HR := Lib.hid hr
  have hent : ∀ args w, Sem.run Tryz.prog (callFunc 14 args) w = .ok (.enter 14 args) w := fun args w => by kernel_rfl
  clear h1 h2 hr
  go_enter Tryz.func19, Tryz.ntmps19
  go_wp2_with fail
  go_loopw [17] (fun i' wr => ∃ j : Nat, i' = .int .i64 j ∧ j ≤ n ∧ Below W.heap.size W wr) (fun i' _ => n - (intOf i').toNat)
  case atStart => exact ⟨0, rfl, Nat.zero_le _, Below.refl _ _⟩
  case round =>
    obtain ⟨j, rfl, hj, hb⟩ := hrel
    have HW := Lib.hid hb
    have hsz := hb.size
    by_cases hlt : j < n
    · have hjr : rows[j]? = some rows[j] := List.getElem?_eq_getElem (by omega)
      have hmem : rows[j] ∈ rows := List.getElem_mem (by omega)
      obtain ⟨g, A2, d2, rfl, e1, t1⟩ := HA.out.below hb j _ hjr
      obtain ⟨g', A2', d2', rfl, e1', t1'⟩ := HB.out.below hb j _ hjr
      generalize rows[j] = r at e1 e1' t1 t1' hmem
      have HC := Lib.hid (eqT_any r wr A2 A2' d2 d2' _ rfl (HR.out r hmem) t1 t1')
      clear hb hjr hmem t1 t1'
      go_wp2_with fail
      try go_quiet (fail)
      try go_wp2_with fail
      refine HC.out.mono ?_
      clear HC
      rintro e w2 ⟨rfl, hb2⟩
      have HW2 := Lib.hid (HW.out.trans (hb2.mono hsz))
      clear hb2
      go_wp2_with fail
      go_roundw
      case rel => exact ⟨j + 1, by go_num, by omega, HW2.out⟩
      case measure => simp [intOf]; omega
    · clear hb
      go_wp2_with fail
      go_ret
      exact ⟨rfl, HW.out⟩
end Go.Proofs.YtlpnepgljdhpkaaGreatFmt
