/-
  spec.Bare: a tree without the parentheses around it.
-/
import Derived.Test.YtnpnmfblcogkmaaDoorUb
namespace Go.Proofs.YtnpnmfblcogkmaaDoor
open Go.RowKit

/-- The state of its loop: the tree at hand in the first block, the result's cells in the second. -/
def SB (W : World) (n : Nd) (w : World) : Prop :=
  Below W.heap.size W w ∧ Blk w W.heap.size 32 #[.string n.kd, .string n.tx, .slice n.ad n.ks.length n.cp] ∧ Blk w (W.heap.size + 1) 32 zcs ∧ w.heap.size = W.heap.size + 2
theorem SB.start (W : World) (n : Nd) : SB W n ((W.alloc (.cells #[.string n.kd, .string n.tx, .slice n.ad n.ks.length n.cp] 32)).alloc (.cells #[.string ⟨#[]⟩, .string ⟨#[]⟩, .slice none 0 0] 32)) := by
  refine ⟨((Below.refl _ _).alloc (Nat.le_refl _) _).alloc (by simp) _, (Blk.new W _ _).alloc _, ?_, by rw [World.size_alloc, World.size_alloc]⟩
  have := Blk.new (W.alloc (.cells #[.string n.kd, .string n.tx, .slice n.ad n.ks.length n.cp] 32)) 32 zcs
  rwa [World.size_alloc] at this
theorem SB.step {W w : World} {n x : Nd} (h : SB W n w) : SB W x (((w.setCell ⟨W.heap.size, 0, none⟩ (.string x.kd)).setCell ⟨W.heap.size, 1, none⟩ (.string x.tx)).setCell ⟨W.heap.size, 2, none⟩ (.slice x.ad x.ks.length x.cp)) := by
  obtain ⟨h1, h2, h3, h4⟩ := h
  refine ⟨((h1.setCell (Nat.le_refl _) _).setCell (Nat.le_refl _) _).setCell (Nat.le_refl _) _, ((h2.set_ 0 (.string x.kd)).set_ 1 (.string x.tx)).set_ 2 (.slice x.ad x.ks.length x.cp), ?_, by simpa [World.setCell] using h4⟩
  exact ((h3.far (by show _ ≠ W.heap.size; omega) _).far (by show _ ≠ W.heap.size; omega) _).far (by show _ ≠ W.heap.size; omega) _

set_option maxRecDepth 100000 in
theorem specBare_any (n m : Nd) (hb : BareOf n m) (W : World) (hin : n.In W W.heap.size) :
    Calls Tryd.prog 14 #[n.val] W fun e w => e = .returned m.val ∧ m.In W W.heap.size ∧ Below W.heap.size W w := by
  show Calls _ _ #[.agg #[.string n.kd, .string n.tx, .slice n.ad n.ks.length n.cp]] W _
  have H0 := Lib.hid (And.intro hb hin)
  clear hb hin
  go_enter Tryd.func14, Tryd.ntmps14
  go_wp2_with fail
  go_loopg [3] n.size (fun k u wr => ∃ n' : Nd, BareOf n' m ∧ n'.In W W.heap.size ∧ n'.size ≤ k ∧ SB W n' wr)
  case atStart => exact ⟨n, H0.out.1, H0.out.2, Nat.le_refl _, SB.start W n⟩
  case round =>
    obtain ⟨n', hB, hI, hk, hS⟩ := hrel
    have HS := Lib.hid hS
    have k0 : wr.cell? ⟨W.heap.size, 0, none⟩ = some (.string n'.kd) := hS.2.1.cell 0
    have k1 : wr.cell? ⟨W.heap.size, 1, none⟩ = some (.string n'.tx) := hS.2.1.cell 1
    have k2 : wr.cell? ⟨W.heap.size, 2, none⟩ = some (.slice n'.ad n'.ks.length n'.cp) := hS.2.1.cell 2
    have r0 := hS.2.2.1.z0
    have r1 := hS.2.2.1.z1
    have r2 := hS.2.2.1.z2
    have f0 := hS.2.2.1.frozen 0
    have f1 := hS.2.2.1.frozen 1
    have f2 := hS.2.2.1.frozen 2
    have g0 := hS.2.1.frozen 0
    have g1 := hS.2.1.frozen 1
    have g2 := hS.2.1.frozen 2
    rcases hB.inv with ⟨hc, rfl⟩ | ⟨x, hks, hc, hx⟩
    · have hne : (m.kd.toList == [112, 97, 114, 101, 110]) = false := by
        rw [beq_eq_false_iff_ne]
        intro e
        rw [toList_data] at e
        exact hc (by unfold kcode; rw [e]; decide)
      have HI := Lib.hid hI
      clear hS hB H0 hI
      go_wp2_with fail
      have hf : Blk _ (W.heap.size + 1) 32 #[.string m.kd, .string m.tx, .slice m.ad m.ks.length m.cp] := ((HS.out.2.2.1.set_ 0 (.string m.kd)).set_ 1 (.string m.tx)).set_ 2 (.slice m.ad m.ks.length m.cp)
      refine bodyPost_ret (results_cell_row rfl _ _ (W.heap.size + 1) 32 _ (0, 0) _ rfl hf Tryd.underlying32 rfl infoN3) rfl ?_
      exact ⟨rfl, HI.out, ((HS.out.1.setCell (by show _ ≤ W.heap.size + 1; omega) _).setCell (by show _ ≤ W.heap.size + 1; omega) _).setCell (by show _ ≤ W.heap.size + 1; omega) _⟩
    · obtain ⟨kd, tx, ad, cp, ks⟩ := n'
      dsimp only at hks hc k0 k1 k2
      subst hks
      obtain rfl := kind_eq hc (by decide) ⟨#[112, 97, 114, 101, 110]⟩ rfl
      obtain ⟨⟨b, o, rfl, hb, e0, e1, e2⟩, hIx⟩ := (Nd.In_iff.1 hI).2.2 0 x rfl
      have hbw := hS.1
      replace e0 : wr.cell? ⟨b, o, none⟩ = some (.string x.kd) := (hbw.cell (p := ⟨b, o, none⟩) hb).trans (by simpa using e0)
      replace e1 : wr.cell? ⟨b, o + 1, none⟩ = some (.string x.tx) := (hbw.cell (p := ⟨b, o + 1, none⟩) hb).trans (by simpa using e1)
      replace e2 : wr.cell? ⟨b, o + 2, none⟩ = some (.slice x.ad x.ks.length x.cp) := (hbw.cell (p := ⟨b, o + 2, none⟩) hb).trans (by simpa using e2)
      have HB := Lib.hid (And.intro hx hIx)
      have hsz : x.size < Nd.size ⟨⟨#[112, 97, 114, 101, 110]⟩, tx, some ⟨b, o, none⟩, cp, [x]⟩ := by
        rw [Nd.size_eq ⟨⟨#[112, 97, 114, 101, 110]⟩, tx, some ⟨b, o, none⟩, cp, [x]⟩]
        simp only [sizeL]
        omega
      clear hS hB H0 hI hx hIx hbw
      go_wp2_with fail
      go_roundg x.size
      case rel => exact ⟨x, HB.out.1, HB.out.2, Nat.le_refl _, HS.out.step⟩
      case measure => omega
end Go.Proofs.YtnpnmfblcogkmaaDoor
