/-
  ast.Inspect; impl.Events: the kinds with which Inspect of the expression of a tree calls.
-/
import Derived.Test.YtlpnepgljdhpkaaGreatFmtOb
import Derived.Test.YtlpnepgljdhpkaaGreatFmtK19
import Derived.Test.YtlpnepgljdhpkaaGreatFmtK15
import Derived.Test.YtlpnepgljdhpkaaGreatFmtK7
import Derived.Test.YtlpnepgljdhpkaaGreatFmtK21
namespace Go.Proofs.YtlpnepgljdhpkaaGreatFmt
open Go.RowKit

section
variable {lo hi : Nat} {P : Nat → Int} {go : List Ev → Bool} {fC : FuncId} {caps : Array Value} {Out : List Ev → List (Nd × Nat) → World → Prop}
set_option maxRecDepth 100000 in
theorem inspect_any (hC : CS lo hi P go fC caps Out) (n : Nd) (hs : n.shapedB = true) (hz : n.size ≤ 400) (w : World) (i : Nat) (v : Value) (ho : Out [] [] w) (hh : hi ≤ w.heap.size) (hX : ExR w (Rng lo hi) P i n v) :
    Calls Tryz.prog 28 #[v, .func (.func fC) #[] caps] w fun e w' => e = .returned (.tuple #[]) ∧ Out (n.run go [] i []) [] w' ∧ Kp lo hi w w' := by
  have hl := run_len go n [] i []
  have HC := Lib.hid (walk_any (insp_vs hC) n hs hz [] [] w i v ⟨Nat.le_refl _, by rw [List.length_nil] at hl; omega⟩ ho hh hX)
  obtain ⟨q, c, rfl⟩ := hX.form
  clear ho hX hC hl
  go_enter Tryz.func28, Tryz.ntmps28
  go_wp2_with fail
  refine HC.out.mono ?_
  clear HC
  rintro e w1 ⟨rfl, h1, h2⟩
  have HR := Lib.hid (And.intro h1 h2)
  clear h1 h2
  go_wp2_with fail
  go_end0
  exact ⟨rfl, HR.out⟩
end
def EvPost (W : World) (l : List ByteArray) (e : Ending) (w : World) : Prop := ∃ A cap, e = .returned (.slice A l.length cap) ∧ w.ownsRow W.heap.size 9 1 (.slice A l.length cap) l.length (flatT l) ∧ Below W.heap.size W w
theorem posOf_ni (j : Nat) : posOf [] j ≠ 0 := by
  unfold posOf
  simp
theorem own_lowT {w : World} {base base' : Nat} {e : TypeId} {size : Nat} {v : Value} {n : Nat} {xs : List Value} (h : w.ownsRow base e size v n xs) (hb : base' ≤ base) : w.ownsRow base' e size v n xs := by
  obtain ⟨h0, h1 | ⟨g, c, cur, he, k1, k2, k3⟩⟩ := h
  · exact ⟨h0, .inl h1⟩
  · exact ⟨h0, .inr ⟨g, c, cur, he, Nat.le_trans hb k1, k2, k3⟩⟩
set_option maxRecDepth 100000 in
theorem Events_any (n : Nd) (st : ByteArray) (hE : EOf [] n) (hs : n.shapedB = true) (hz : n.size ≤ 400) (W : World) (hT : TokTab W) (hin : n.In W W.heap.size) :
    Calls Tryz.prog 15 #[n.val, .string st] W (EvPost W ((n.evs st 0).map (·.1))) := by
  show Calls _ _ #[.agg #[.string n.kd, .string n.tx, .slice n.ad n.ks.length n.cp], .string st] W _
  generalize hll : (n.evs st 0).map (·.1) = l
  have HLL := Lib.hid hll
  clear hll
  have hb2 : Below W.heap.size W (((W.alloc (.cells #[.string n.kd, .string n.tx, .slice n.ad n.ks.length n.cp] 24)).alloc (.cells #[.string st] 9)).alloc (.cells #[.slice none 0 0] 34)) := (((Below.refl _ _).alloc (Nat.le_refl _) _).alloc (by simp) _).alloc (by simp; omega) _
  have hs2 : (((W.alloc (.cells #[.string n.kd, .string n.tx, .slice n.ad n.ks.length n.cp] 24)).alloc (.cells #[.string st] 9)).alloc (.cells #[.slice none 0 0] 34)).heap.size = W.heap.size + 3 := by rw [World.size_alloc, World.size_alloc, World.size_alloc]
  have hob : Blk (((W.alloc (.cells #[.string n.kd, .string n.tx, .slice n.ad n.ks.length n.cp] 24)).alloc (.cells #[.string st] 9)).alloc (.cells #[.slice none 0 0] 34)) (W.heap.size + 2) 34 #[.slice none 0 0] := by
    have := Blk.new ((W.alloc (.cells #[.string n.kd, .string n.tx, .slice n.ad n.ks.length n.cp] 24)).alloc (.cells #[.string st] 9)) 34 #[.slice none 0 0]
    rwa [World.size_alloc, World.size_alloc] at this
  have hsb : Blk (((W.alloc (.cells #[.string n.kd, .string n.tx, .slice n.ad n.ks.length n.cp] 24)).alloc (.cells #[.string st] 9)).alloc (.cells #[.slice none 0 0] 34)) (W.heap.size + 1) 9 #[.string st] := by
    have := (Blk.new (W.alloc (.cells #[.string n.kd, .string n.tx, .slice n.ad n.ks.length n.cp] 24)) 9 #[.string st]).alloc (.cells #[.slice none 0 0] 34)
    rwa [World.size_alloc] at this
  have HC := Lib.hid (build_any [] n hE _ (hT.below hb2) (hin.below hb2 (by rw [hs2]; omega)) none 0 ⟨Nat.le_refl _, Nat.zero_le _, fun j x hj => by simp at hj⟩ 0 rfl)
  have H0 := Lib.hid (And.intro hs (And.intro hT (And.intro hb2 (And.intro hob (And.intro hsb hs2)))))
  clear hE hs hT hin hb2 hob hsb hs2
  go_enter Tryz.func15, Tryz.ntmps15
  go_wp2_with fail
  refine HC.out.mono ?_
  clear HC
  rintro e w1 ⟨v, rfl, hX, hB1⟩
  obtain ⟨q, c, rfl⟩ := hX.form
  rw [H0.out.2.2.2.2.2] at hX hB1
  have hz1 := hB1.size
  rw [H0.out.2.2.2.2.2] at hz1
  have HX := Lib.hid hX
  have HO := Lib.hid (show OutT W st (W.heap.size + 2) (W.heap.size + 1) (W.heap.size + 3) w1.heap.size [] w1 from
    ⟨H0.out.2.2.1.trans (hB1.mono (by omega)), H0.out.2.1, ⟨by omega, by omega, by omega, by omega, by omega, Nat.le_refl _⟩, H0.out.2.2.2.2.1.below hB1 (by omega), none, 0, H0.out.2.2.2.1.below hB1 (by omega), World.ownsRow_nil _ _ _ _⟩)
  clear hX hB1
  go_wp2_with fail
  refine (inspect_any (events_cs (posOf []) (fun m h1 h2 => node_any (posOf []) posOf_ni m h1 h2) st W (W.heap.size + 2) (W.heap.size + 1) (W.heap.size + 3) w1.heap.size) n H0.out.1 hz w1 0 _ HO.out (Nat.le_refl _) HX.out).mono ?_
  rintro e w2 ⟨rfl, hO, hK⟩
  rw [run_kds, HLL.out] at hO
  obtain ⟨o1, o2, o3, o4, A, cap, o7, o8⟩ := hO
  have HO2 := Lib.hid (And.intro o1 o8)
  have z0 : w2.cell? ⟨W.heap.size + 2, 0, none⟩ = some (.slice A l.length cap) := o7.cell 0
  clear o1 o2 o3 o4 o7 o8 hK
  go_wp2_with fail
  go_ret
  have h8 := HO2.out.2
  exact ⟨A, cap, rfl, own_lowT (base := w1.heap.size) (base' := W.heap.size) h8 (by omega), HO2.out.1⟩
end Go.Proofs.YtlpnepgljdhpkaaGreatFmt
