/-
  impl.build: the expression of a tree, of blocks of its own.
-/
import Derived.Test.YtnpnmfblcogkmaaDoorEi
import Derived.Test.YtnpnmfblcogkmaaDoorCn
namespace Go.Proofs.YtnpnmfblcogkmaaDoor
open Go.RowKit

/-- The places, as the memory holds them. -/
def PsAt (w : World) (A : Option Addr) (cap : Nat) (ps : List Int) (B : Nat) : Prop :=
  ps.length ≤ cap ∧ cap ≤ maxLen ∧ ∀ (j : Nat) (x : Int), ps[j]? = some x → ∃ g o, A = some ⟨g, o, none⟩ ∧ g < B ∧ w.cell? ⟨g, o + j, none⟩ = some (.int .i64 x)
def BuPost (W : World) (ps : List Int) (n : Nd) (e : Ending) (w : World) : Prop :=
  ∃ v, e = .returned v ∧ ExR w (Rng W.heap.size w.heap.size) (posOf ps) 0 n v ∧ Below W.heap.size W w

theorem build_any (ps : List Int) (n : Nd) (hE : EOf ps n) (W : World) (hT : TokTab W) (hin : n.In W W.heap.size) (A : Option Addr) (cap : Nat) (hps : PsAt W A cap ps W.heap.size) (l : Nat) (hl : ps.length = l) :
    Calls Tryd.prog 26 #[n.val, .slice A l cap] W (BuPost W ps n) := by
  show Calls _ _ #[.agg #[.string n.kd, .string n.tx, .slice n.ad n.ks.length n.cp], _] W _
  have hg0 : 1 < W.heap.size := block_lt_of_cell (hT 0 (by decide))
  have hb1 : Below W.heap.size W (W.alloc (.cells #[.string n.kd, .string n.tx, .slice n.ad n.ks.length n.cp] 32)) := (Below.refl _ _).alloc (Nat.le_refl _) _
  have hb2 : Below W.heap.size W ((W.alloc (.cells #[.string n.kd, .string n.tx, .slice n.ad n.ks.length n.cp] 32)).alloc (.cells #[.slice A l cap] 113)) := hb1.alloc (by simp) _
  have hB : BAt ((W.alloc (.cells #[.string n.kd, .string n.tx, .slice n.ad n.ks.length n.cp] 32)).alloc (.cells #[.slice A l cap] 113)) (W.heap.size + 1) ps 0 := by
    refine ⟨⟨hT.below hb2, by omega⟩, A, l, cap, ?_, by simpa using hl.symm, by have := hps.1; omega, hps.2.1, fun j x hj => ?_⟩
    · have := Blk.new (W.alloc (.cells #[.string n.kd, .string n.tx, .slice n.ad n.ks.length n.cp] 32)) 113 #[.slice A l cap]
      rwa [World.size_alloc] at this
    · obtain ⟨g, o, h1, h2, h3⟩ := hps.2.2 j x (by simpa using hj)
      exact ⟨g, o, h1, by omega, (hb2.cell (p := ⟨g, o + j, none⟩) h2).trans h3⟩
  have hI : n.In ((W.alloc (.cells #[.string n.kd, .string n.tx, .slice n.ad n.ks.length n.cp] 32)).alloc (.cells #[.slice A l cap] 113)) (W.heap.size + 1) := hin.below hb2 (by omega)
  have HC := Lib.hid (hE _ _ _ hB hI)
  have HB := Lib.hid hb2
  clear hb1 hb2 hB hI hT hin hps hE
  go_enter Tryd.func26, Tryd.ntmps26
  go_wp2_with fail
  refine HC.out.mono ?_
  rintro e w1 ⟨v, rfl, hX, hB, hg⟩
  obtain ⟨q, c, rfl⟩ := hX.form
  have HX := Lib.hid hX
  have HG := Lib.hid hg
  clear hX hB hg
  go_wp2_with fail
  go_ret
  exact ⟨_, rfl, HX.out.wideR (by simp; omega) (Nat.le_refl _), HB.out.trans (below_grown HG.out (by simp; omega) (by omega))⟩
end Go.Proofs.YtnpnmfblcogkmaaDoor
