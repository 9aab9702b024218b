/-
  impl.Bare: the tree of the expression of a tree, without parentheses around it.
-/
import Derived.Test.YtnpnmfblcogkmaaDoorUa
import Derived.Test.YtnpnmfblcogkmaaDoorNy
namespace Go.Proofs.YtnpnmfblcogkmaaDoor
open Go.RowKit

def BarePost (W : World) (m : Nd) (e : Ending) (w : World) : Prop := ∃ m2 : Nd, e = .returned m2.val ∧ m2.InR w W.heap.size w.heap.size ∧ m.same m2 = true ∧ Below W.heap.size W w

theorem posOf_nil (j : Nat) : posOf [] j ≠ 0 := by
  unfold posOf
  simp
theorem infoN3 : (Tryd.prog.info? 32).map (·.size) = some 3 := by
  have := infoN
  cases hq : Tryd.prog.info? 32 with
  | none => rw [hq] at this; cases this
  | some q =>
    rw [hq] at this
    simp only [Option.map_some, Option.some.injEq, Prod.mk.injEq] at this ⊢
    exact this.2.1
theorem Bare_any (n m : Nd) (hb : BareOf n m) (hE : EOf [] n) (hN : NOf (posOf []) m) (W : World) (hT : TokTab W) (hin : n.In W W.heap.size) :
    Calls Tryd.prog 13 #[n.val] W (BarePost W m) := by
  show Calls _ _ #[.agg #[.string n.kd, .string n.tx, .slice n.ad n.ks.length n.cp]] W _
  have hN1 : ∀ o1 o2 : Obj, Below W.heap.size W ((W.alloc o1).alloc o2) := fun o1 o2 => ((Below.refl _ _).alloc (Nat.le_refl _) _).alloc (by simp) _
  have H0 := Lib.hid (And.intro hb (And.intro hE (And.intro hN (And.intro hT (And.intro hin hN1)))))
  clear hb hE hN hT hin hN1
  have N0 := Lib.hid (NAt.start (W.alloc (.cells #[.string n.kd, .string n.tx, .slice n.ad n.ks.length n.cp] 32)))
  have hs1 : (W.alloc (.cells #[.string n.kd, .string n.tx, .slice n.ad n.ks.length n.cp] 32)).heap.size = W.heap.size + 1 := World.size_alloc _ _
  go_enter Tryd.func13, Tryd.ntmps13
  go_wp2_with fail
  refine (build_any [] n H0.out.2.1 _ (H0.out.2.2.2.1.below (H0.out.2.2.2.2.2 _ _)) (H0.out.2.2.2.2.1.below (H0.out.2.2.2.2.2 _ _) (by simp; omega)) none 0 ⟨Nat.le_refl _, Nat.zero_le _, fun j x hj => by simp at hj⟩ 0 rfl).mono ?_
  rintro e w1 ⟨v, rfl, hX, hB1⟩
  obtain ⟨q, c, rfl⟩ := hX.form
  have N1 := Lib.hid (N0.out.next hB1)
  have B1 := Lib.hid hB1
  have HX := Lib.hid hX
  clear hX hB1
  go_wp2_with fail
  refine (Unparen_any (posOf []) _ n m H0.out.1 w1 0 _ HX.out).mono ?_
  rintro e w2 ⟨j, u, rfl, hX, rfl⟩
  obtain ⟨q2, c2, rfl⟩ := hX.form
  have HX2 := Lib.hid hX
  clear hX
  go_wp2_with fail
  refine (H0.out.2.2.1 w1 _ _ j _ (H0.out.2.2.2.1.below ((H0.out.2.2.2.2.2 _ _).trans (B1.out.mono (by simp; omega)))) (Nat.le_refl _) HX2.out).mono ?_
  rintro e w3 ⟨m2, he, hin, hsm, hB3⟩
  have he2 : e = .returned (.agg #[.string m2.kd, .string m2.tx, .slice m2.ad m2.ks.length m2.cp]) := he
  subst he2
  have N3 := Lib.hid (N1.out.next hB3)
  have HI := Lib.hid (And.intro hin hsm)
  have hz := N1.out.size
  have r0 := N3.out.c0
  have r1 := N3.out.c1
  have r2 := N3.out.c2
  have f0 := N3.out.frozen 0
  have f1 := N3.out.frozen 1
  have f2 := N3.out.frozen 2
  rw [hs1] at hz r0 r1 r2 f0 f1 f2
  clear hin hsm hB3 he
  go_wp2_with fail
  have hblk := N3.out.blk
  rw [hs1] at hblk
  have hf : Blk _ (W.heap.size + 1) 32 #[.string m2.kd, .string m2.tx, .slice m2.ad m2.ks.length m2.cp] := ((hblk.set_ 0 (.string m2.kd)).set_ 1 (.string m2.tx)).set_ 2 (.slice m2.ad m2.ks.length m2.cp)
  refine bodyPost_ret (results_cell_row rfl _ _ (W.heap.size + 1) 32 _ (0, 0) _ rfl hf Tryd.underlying32 rfl infoN3) rfl ?_
  have hold := N3.out.old
  rw [hs1] at hold
  refine ⟨m2, rfl, Nd.InR.keep (fun b hb1 hb2 => ?_) (by omega) (by simp [World.setCell]) _ HI.out.1, HI.out.2, ?_⟩
  · rw [Below.heap_setCell _ _ _ _ (by show b ≠ W.heap.size + 1; omega), Below.heap_setCell _ _ _ _ (by show b ≠ W.heap.size + 1; omega), Below.heap_setCell _ _ _ _ (by show b ≠ W.heap.size + 1; omega)]
  · exact ((((Below.refl W.heap.size W).alloc (Nat.le_refl _) _).trans (hold.mono (by omega))).setCell (by show _ ≤ W.heap.size + 1; omega) _ |>.setCell (by show _ ≤ W.heap.size + 1; omega) _).setCell (by show _ ≤ W.heap.size + 1; omega) _
end Go.Proofs.YtnpnmfblcogkmaaDoor
