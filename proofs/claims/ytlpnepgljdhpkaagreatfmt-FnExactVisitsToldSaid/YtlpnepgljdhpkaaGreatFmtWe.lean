/-
  impl.Visits: what Walk visits of the expression of a tree.
-/
import Derived.Test.YtlpnepgljdhpkaaGreatFmtWd
import Derived.Test.YtlpnepgljdhpkaaGreatFmtK19
import Derived.Test.YtlpnepgljdhpkaaGreatFmtK15
import Derived.Test.YtlpnepgljdhpkaaGreatFmtK7
namespace Go.Proofs.YtlpnepgljdhpkaaGreatFmt
open Go.RowKit

theorem posOf_nil0 (j : Nat) : posOf [] j ≠ 0 := by
  unfold posOf
  simp
theorem posOf_nil0_le (i : Nat) : 0 ≤ posOf [] i ∧ posOf [] i ≤ 4611686018427387904 := by
  unfold posOf
  simp
def VisPost (W : World) (l : List (ByteArray × Nat)) (e : Ending) (w : World) : Prop := ∃ A cap, e = .returned (.slice A l.length cap) ∧ w.ownsRow W.heap.size 29 3 (.slice A l.length cap) l.length (flatE l) ∧ Below W.heap.size W w
theorem own_low {w : World} {base base' : Nat} {e : TypeId} {size : Nat} {v : Value} {n : Nat} {xs : List Value} (h : w.ownsRow base e size v n xs) (hb : base' ≤ base) : w.ownsRow base' e size v n xs := by
  obtain ⟨h0, h1 | ⟨g, c, cur, he, k1, k2, k3⟩⟩ := h
  · exact ⟨h0, .inl h1⟩
  · exact ⟨h0, .inr ⟨g, c, cur, he, Nat.le_trans hb k1, k2, k3⟩⟩
set_option maxRecDepth 100000 in
theorem Visits_any (n : Nd) (st : ByteArray) (hE : EOf [] n) (hs : n.shapedB = true) (hz : n.size ≤ 400) (W : World) (hT : TokTab W) (hin : n.In W W.heap.size) :
    Calls Tryz.prog 12 #[n.val, .string st] W (VisPost W (n.evs st 0)) := by
  show Calls _ _ #[.agg #[.string n.kd, .string n.tx, .slice n.ad n.ks.length n.cp], .string st] W _
  have hb2 : Below W.heap.size W ((W.alloc (.cells #[.string n.kd, .string n.tx, .slice n.ad n.ks.length n.cp] 24)).alloc (.cells #[.slice none 0 0] 27)) := ((Below.refl _ _).alloc (Nat.le_refl _) _).alloc (by simp) _
  have hs2 : ((W.alloc (.cells #[.string n.kd, .string n.tx, .slice n.ad n.ks.length n.cp] 24)).alloc (.cells #[.slice none 0 0] 27)).heap.size = W.heap.size + 2 := by rw [World.size_alloc, World.size_alloc]
  have hob : Blk ((W.alloc (.cells #[.string n.kd, .string n.tx, .slice n.ad n.ks.length n.cp] 24)).alloc (.cells #[.slice none 0 0] 27)) (W.heap.size + 1) 27 #[.slice none 0 0] := by
    have := Blk.new (W.alloc (.cells #[.string n.kd, .string n.tx, .slice n.ad n.ks.length n.cp] 24)) 27 #[.slice none 0 0]
    rwa [World.size_alloc] at this
  have HC := Lib.hid (build_any [] n hE _ (hT.below hb2) (hin.below hb2 (by rw [hs2]; omega)) none 0 ⟨Nat.le_refl _, Nat.zero_le _, fun j x hj => by simp at hj⟩ 0 rfl)
  have H0 := Lib.hid (And.intro hs (And.intro hT (And.intro hb2 (And.intro hob hs2))))
  clear hE hs hT hin hb2 hob hs2
  go_enter Tryz.func12, Tryz.ntmps12
  go_wp2_with fail
  refine HC.out.mono ?_
  clear HC
  rintro e w1 ⟨v, rfl, hX, hB1⟩
  obtain ⟨q, c, rfl⟩ := hX.form
  rw [H0.out.2.2.2.2] at hX hB1
  have hz1 := hB1.size
  rw [H0.out.2.2.2.2] at hz1
  have HX := Lib.hid hX
  have HO := Lib.hid (show OutS W (W.heap.size + 1) (W.heap.size + 2) w1.heap.size [] w1 from
    ⟨H0.out.2.2.1.trans (hB1.mono (by omega)), H0.out.2.1, by omega, by omega, by omega, Nat.le_refl _, none, 0, H0.out.2.2.2.1.below hB1 (by omega), World.ownsRow_nil _ _ _ _⟩)
  clear hX hB1
  go_wp2_with fail
  have hl := run_len (goStop st) n [] 0 []
  refine (walk_any (visitor_vs (posOf []) (fun m h1 h2 => node_any (posOf []) posOf_nil0 m h1 h2) st W (W.heap.size + 1) (W.heap.size + 2) w1.heap.size) n H0.out.1 hz [] [] w1 0 _ ⟨Nat.le_refl _, by rw [List.length_nil] at hl; omega⟩ HO.out (Nat.le_refl _) HX.out).mono ?_
  rintro e w2 ⟨rfl, hO, hK⟩
  rw [run_evs, List.map_nil, List.nil_append, List.length_nil] at hO
  obtain ⟨o1, o2, o3, o4, o5, o6, A, cap, o7, o8⟩ := hO
  have HO2 := Lib.hid (And.intro o1 o8)
  have z0 : w2.cell? ⟨W.heap.size + 1, 0, none⟩ = some (.slice A (n.evs st 0).length cap) := o7.cell 0
  clear o1 o2 o3 o4 o5 o6 o7 o8 hl hK
  go_wp2_with fail
  go_ret
  exact ⟨A, cap, rfl, own_low HO2.out.2 (by omega), HO2.out.1⟩
end Go.Proofs.YtlpnepgljdhpkaaGreatFmt
