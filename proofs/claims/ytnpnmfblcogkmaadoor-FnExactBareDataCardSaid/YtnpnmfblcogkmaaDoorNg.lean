/-
  impl.ends, at the six texts of a slice.
-/
import Derived.Test.YtnpnmfblcogkmaaDoorNa
namespace Go.Proofs.YtnpnmfblcogkmaaDoor
open Go.RowKit

theorem ends_e (w : World) (b : Nat) (h2 : w.cell? ⟨b, 2, none⟩ = some (.nilIface)) (h3 : w.cell? ⟨b, 3, none⟩ = some (.nilIface)) (h4 : w.cell? ⟨b, 4, none⟩ = some (.nilIface)) (h5 : w.cell? ⟨b, 5, none⟩ = some (.bool false)) :
    Calls Tryd.prog 33 #[.pointer (some ⟨b, 0, none⟩)] w fun e w' => e = .returned (.string ⟨#[]⟩) ∧ w = w' := by
  go_enter Tryd.func33, Tryd.ntmps33
  go_wp2
  go_ret
  exact ⟨rfl, rfl⟩

theorem ends_l (w : World) (b : Nat) (qy : TypeId) (cy : Nat) (h2 : w.cell? ⟨b, 2, none⟩ = some (.iface qy (.pointer (some ⟨cy, 0, none⟩)))) (h3 : w.cell? ⟨b, 3, none⟩ = some (.nilIface)) (h4 : w.cell? ⟨b, 4, none⟩ = some (.nilIface)) (h5 : w.cell? ⟨b, 5, none⟩ = some (.bool false)) :
    Calls Tryd.prog 33 #[.pointer (some ⟨b, 0, none⟩)] w fun e w' => e = .returned (.string ⟨#[108]⟩) ∧ w = w' := by
  go_enter Tryd.func33, Tryd.ntmps33
  go_wp2
  go_ret
  exact ⟨rfl, rfl⟩

theorem ends_h (w : World) (b : Nat) (qy : TypeId) (cy : Nat) (h2 : w.cell? ⟨b, 2, none⟩ = some (.nilIface)) (h3 : w.cell? ⟨b, 3, none⟩ = some (.iface qy (.pointer (some ⟨cy, 0, none⟩)))) (h4 : w.cell? ⟨b, 4, none⟩ = some (.nilIface)) (h5 : w.cell? ⟨b, 5, none⟩ = some (.bool false)) :
    Calls Tryd.prog 33 #[.pointer (some ⟨b, 0, none⟩)] w fun e w' => e = .returned (.string ⟨#[104]⟩) ∧ w = w' := by
  go_enter Tryd.func33, Tryd.ntmps33
  go_wp2
  go_ret
  exact ⟨rfl, rfl⟩

theorem ends_lh (w : World) (b : Nat) (qy : TypeId) (cy : Nat) (qz : TypeId) (cz : Nat) (h2 : w.cell? ⟨b, 2, none⟩ = some (.iface qy (.pointer (some ⟨cy, 0, none⟩)))) (h3 : w.cell? ⟨b, 3, none⟩ = some (.iface qz (.pointer (some ⟨cz, 0, none⟩)))) (h4 : w.cell? ⟨b, 4, none⟩ = some (.nilIface)) (h5 : w.cell? ⟨b, 5, none⟩ = some (.bool false)) :
    Calls Tryd.prog 33 #[.pointer (some ⟨b, 0, none⟩)] w fun e w' => e = .returned (.string ⟨#[108, 104]⟩) ∧ w = w' := by
  go_enter Tryd.func33, Tryd.ntmps33
  go_wp2
  go_ret
  exact ⟨rfl, rfl⟩

theorem ends_hms (w : World) (b : Nat) (qy : TypeId) (cy : Nat) (qz : TypeId) (cz : Nat) (h2 : w.cell? ⟨b, 2, none⟩ = some (.nilIface)) (h3 : w.cell? ⟨b, 3, none⟩ = some (.iface qy (.pointer (some ⟨cy, 0, none⟩)))) (h4 : w.cell? ⟨b, 4, none⟩ = some (.iface qz (.pointer (some ⟨cz, 0, none⟩)))) (h5 : w.cell? ⟨b, 5, none⟩ = some (.bool true)) :
    Calls Tryd.prog 33 #[.pointer (some ⟨b, 0, none⟩)] w fun e w' => e = .returned (.string ⟨#[104, 109, 115]⟩) ∧ w = w' := by
  go_enter Tryd.func33, Tryd.ntmps33
  go_wp2
  go_ret
  exact ⟨rfl, rfl⟩

theorem ends_lhms (w : World) (b : Nat) (qy : TypeId) (cy : Nat) (qz : TypeId) (cz : Nat) (qu : TypeId) (cu : Nat) (h2 : w.cell? ⟨b, 2, none⟩ = some (.iface qy (.pointer (some ⟨cy, 0, none⟩)))) (h3 : w.cell? ⟨b, 3, none⟩ = some (.iface qz (.pointer (some ⟨cz, 0, none⟩)))) (h4 : w.cell? ⟨b, 4, none⟩ = some (.iface qu (.pointer (some ⟨cu, 0, none⟩)))) (h5 : w.cell? ⟨b, 5, none⟩ = some (.bool true)) :
    Calls Tryd.prog 33 #[.pointer (some ⟨b, 0, none⟩)] w fun e w' => e = .returned (.string ⟨#[108, 104, 109, 115]⟩) ∧ w = w' := by
  go_enter Tryd.func33, Tryd.ntmps33
  go_wp2
  go_ret
  exact ⟨rfl, rfl⟩
end Go.Proofs.YtnpnmfblcogkmaaDoor
