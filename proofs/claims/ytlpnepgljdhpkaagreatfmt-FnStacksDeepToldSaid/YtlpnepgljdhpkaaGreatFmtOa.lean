/-
  impl.Events: the function that it hands to Inspect.
-/
import Derived.Test.YtlpnepgljdhpkaaGreatFmtK8
import Derived.Test.YtlpnepgljdhpkaaGreatFmtK16
import Derived.Deep.AppendLies
namespace Go.Proofs.YtlpnepgljdhpkaaGreatFmt
open Go.RowKit

theorem infoT : (Tryz.prog.info? 9).map (fun i => (i.zero, i.size, i.bytes)) = some (some (.string ⟨#[]⟩), 1, 16) := by kernel_rfl
theorem underT : Tryz.prog.underlying 34 = some (.slice 9) := by kernel_rfl
/-- The cells of a row of texts. -/
def flatT (l : List ByteArray) : List Value := l.map .string
theorem flatT_append (a b : List ByteArray) : flatT (a ++ b) = flatT a ++ flatT b := by simp [flatT]
/-- What the function has kept: in the variable in block ob, its row behind hi; the text in block sb. -/
def OutT (W0 : World) (st : ByteArray) (ob sb lo hi : Nat) (out : List ByteArray) (w : World) : Prop :=
  Below W0.heap.size W0 w ∧ TokTab W0 ∧ (W0.heap.size ≤ ob ∧ ob < lo ∧ sb < lo ∧ sb ≠ ob ∧ lo ≤ hi ∧ hi ≤ w.heap.size) ∧ Blk w sb 9 #[.string st] ∧ ∃ A cap, Blk w ob 34 #[.slice A out.length cap] ∧ w.ownsRow hi 9 1 (.slice A out.length cap) out.length (flatT out)
section
variable {W0 w w' : World} {st : ByteArray} {ob sb lo hi : Nat} {out : List ByteArray}
theorem OutT.next (h : OutT W0 st ob sb lo hi out w) (hb : Below w.heap.size w w') : OutT W0 st ob sb lo hi out w' := by
  obtain ⟨h1, h2, h3, h4, A, cap, h7, h8⟩ := h
  have hs := hb.size
  exact ⟨h1.trans (hb.mono h1.size), h2, ⟨h3.1, h3.2.1, h3.2.2.1, h3.2.2.2.1, h3.2.2.2.2.1, by omega⟩, h4.below hb h4.lt, A, cap, h7.below hb h7.lt, own_keep h8 fun g _ hg => hb.block g hg⟩
theorem OutT.tok (h : OutT W0 st ob sb lo hi out w) : TokTab w := h.2.1.below h.1
theorem OutT.push (h : OutT W0 st ob sb lo hi out w) {v' : Value} {x : ByteArray} {sv : Value} (hsv : Blk w ob 34 #[sv])
    (hown : w'.ownsRow hi 9 1 v' (out.length + 1) (flatT out ++ [.string x])) (hg : w.grownBy w' sv.ownBlock) : OutT W0 st ob sb lo hi (out ++ [x]) (w'.setCell ⟨ob, 0, none⟩ v') ∧ Kp lo hi w (w'.setCell ⟨ob, 0, none⟩ v') := by
  obtain ⟨h1, h2, ⟨h3, h4, h40, h41, h5, h6⟩, h42, A, cap, h7, h8⟩ := h
  have he : some (Obj.cells #[Value.slice A out.length cap] 34 (0, 0)) = some (.cells #[sv] 34 (0, 0)) := h7.symm.trans hsv
  obtain rfl : sv = .slice A out.length cap := by
    have := Option.some.inj he
    simp only [Obj.cells.injEq] at this
    simpa using this.1.symm
  have hs := hg.size
  have hrow : ∀ g, (Value.slice A out.length cap).ownBlock = some g → hi ≤ g ∧ g < w.heap.size := fun g hg' => own_ge h8 hg'
  have hkeep : ∀ b, b < hi → w'.heap[b]? = w.heap[b]? := fun b hb => hg.block b (by omega) (fun e => by have := (hrow b e.symm).1; omega)
  have hbw : Below W0.heap.size W0 w' := h1.trans ⟨hg.os, hg.tape, hg.output, hg.size, fun b hb => hkeep b (by omega)⟩
  obtain ⟨A', cap', rfl⟩ : ∃ A' cap', v' = .slice A' (out.length + 1) cap' := by
    obtain ⟨_, ⟨rfl, hn⟩ | ⟨g, c, cur, rfl, _⟩⟩ := hown
    · omega
    · exact ⟨_, c, rfl⟩
  have hblk' : Blk w' ob 34 #[.slice A out.length cap] := h7.keep (hkeep ob (by omega))
  have hlen : (out ++ [x]).length = out.length + 1 := by simp
  refine ⟨⟨hbw.setCell h3 _, h2, ⟨h3, h4, h40, h41, h5, by simp [World.setCell]; omega⟩, (h42.keep (hkeep sb (by omega))).far (by show sb ≠ ob; omega) _, A', cap', ?_, ?_⟩, by simp [World.setCell]; omega, fun b hb1 hb2 => ?_⟩
  · rw [hlen]
    exact hblk'.set_ 0 (.slice A' (out.length + 1) cap')
  · rw [hlen, flatT_append]
    obtain ⟨h0, ⟨he', hn⟩ | ⟨g, c, cur, he', k1, k2, k3⟩⟩ := hown
    · omega
    · refine ⟨h0, .inr ⟨g, c, cur, he', k1, (Below.heap_setCell _ _ _ _ (by show g ≠ ob; omega)).trans k2, k3⟩⟩
  · rw [Below.heap_setCell _ _ _ _ (by show b ≠ ob; omega)]
    exact hkeep b hb2
end
theorem own_formT {w : World} {base k n : Nat} {t : TypeId} {v : Value} {xs : List Value} (h : w.ownsRow base k t v n xs) : ∃ A c, v = .slice A n c := by
  obtain ⟨_, ⟨rfl, hn⟩ | ⟨g, c, cur, rfl, _⟩⟩ := h
  · exact ⟨none, 0, by rw [hn]⟩
  · exact ⟨_, c, rfl⟩
theorem ap_farT {w w' : World} {g : Nat} {sv : Value} {o : Obj} (hg : (w.alloc o).grownBy w' sv.ownBlock) (hb : ∀ k, sv.ownBlock = some k → k ≠ g) (hlt : g < w.heap.size) : w'.heap[g]? = w.heap[g]? :=
  (hg.block g (by rw [World.size_alloc]; omega) (fun e => hb g e.symm rfl)).trans (Below.heap_alloc w o g hlt)
set_option maxHeartbeats 4000000 in
set_option maxRecDepth 100000 in
theorem Ev_node (P : Nat → Int) (st : ByteArray) (W0 : World) (ob sb lo hi : Nat) (out : List ByteArray) (W : World) (i : Nat) (n : Nd) (v : Value) (hN : NOf P n) (hbd : out.length < 5000) (ho : OutT W0 st ob sb lo hi out W) (hX : ExR W (Rng lo hi) P i n v) :
    Calls Tryz.prog 29 #[v, .pointer (some ⟨ob, 0, none⟩), .pointer (some ⟨sb, 0, none⟩)] W fun e w' =>
      e = .returned (.bool (!(n.kd.toList == st.toList))) ∧ OutT W0 st ob sb lo hi (out ++ [n.kd]) w' ∧ Kp lo hi W w' := by
  obtain ⟨q, c, rfl⟩ := hX.form
  have HN := Lib.hid hN
  have H0 := Lib.hid (And.intro ho hX)
  clear hN ho hX
  go_enter Tryz.func29, Tryz.ntmps29
  go_wp2_with fail
  refine (kindOf_any P n HN.out _ lo hi i _ H0.out.1.tok H0.out.1.2.2.1.2.2.2.2.2 H0.out.2).mono ?_
  rintro e w1 ⟨rfl, hb1⟩
  have HO1 := Lib.hid (H0.out.1.next hb1)
  have HK1 := Lib.hid (show Kp lo hi W w1 from ⟨hb1.size, fun b _ h2 => hb1.block b (by have := H0.out.1.2.2.1.2.2.2.2.2; omega)⟩)
  clear hb1
  obtain ⟨_, _, hz, hst, A, cap, hob, hown⟩ := HO1.out
  have y0 : w1.cell? ⟨ob, 0, none⟩ = some (.slice A out.length cap) := hob.cell 0
  have y1 := hob.frozen 0
  have y2 : w1.cell? ⟨sb, 0, none⟩ = some (.string st) := hst.cell 0
  have HP := Lib.hid (And.intro hob (And.intro hst hown))
  obtain ⟨i0, hi9, hz90, hz91, hz92⟩ := info_parts infoT
  have hne := hz.2.2.2.1
  clear hob hst hown
  go_wp2_with (at_builtin; refine wpList_append_own_at _ rfl _ _ 34 rfl hi 9 i0 (.string ⟨#[]⟩) 1 16 underT hi9 hz90 hz91 hz92 rfl (by decide) _ _ (flatT out) rfl (own_keep HP.out.2.2 (fun g _ hg => Below.heap_alloc w1 _ g hg)) ⟨w1.heap.size, 0, none⟩ 1 1 [.string n.kd] rfl rfl (World.news_of_block (Blk.new w1 _ _)) (by intro u hu; simp at hu; subst hu; rfl) (by unfold maxLen; omega) (by omega) (by rw [World.size_alloc]; omega) ?_; intro v3 w3 hown hgr _ _; obtain ⟨A3, c3, rfl⟩ := own_formT hown; have z0 : w3.cell? ⟨ob, 0, none⟩ = some (.slice A out.length cap) := (HP.out.1.keep (ap_farT hgr (fun k hk => by have := own_ge HP.out.2.2 hk; omega) (by omega))).cell 0; have z1 := (HP.out.1.keep (ap_farT hgr (fun k hk => by have := own_ge HP.out.2.2 hk; omega) (by omega))).frozen 0; have z2 : w3.cell? ⟨sb, 0, none⟩ = some (.string st) := (HP.out.2.1.keep (ap_farT hgr (fun k hk => by have := own_ge HP.out.2.2 hk; omega) (by omega))).cell 0; have PU := Lib.hid (HO1.out.push (x := n.kd) HP.out.1 hown (grown_trans (World.grownBy_alloc w1 _ _) hgr)); clear hown hgr)
  go_ret
  exact ⟨rfl, PU.out.1, HK1.out.trans PU.out.2⟩
end Go.Proofs.YtlpnepgljdhpkaaGreatFmt
