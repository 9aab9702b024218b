/-
  builder.ends: what stands while its loops go by.
  builder.ends: the walk.
  From a call of ends back to the call of expr.
  What ends has made of a slice's text: plain laws.
  The texts of slices.
  builder.expr, kind by kind (laid by gen/ep2.py).
-/
import Derived.Test.YtjbhjbpamnoebaaGreatFmtK3
import Derived.Lib.OthersKept
import Derived.Laws.RangeAny
namespace Go.Proofs.YtjbhjbpamnoebaaGreatFmt
open Go.RowKit

structure Fr2 (W w : World) (bb xb : Nat) : Prop where
  os : w.os = W.os
  tape : w.tape = W.tape
  output : w.output = W.output
  size : W.heap.size ≤ w.heap.size
  block : ∀ b, b < W.heap.size → b ≠ bb → b ≠ xb → w.heap[b]? = W.heap[b]?

/-- In a call of ends that began in W: the builder, the slice's own block xb, the expressions made so far, blocks 'ap' apart from these (the iterators), the nodes that are left. -/
def ES (W : World) (bb : Nat) (ps : List Int) (xb : Nat) (cs : Array Value) (j : Nat) (es : List (Nat × Nd × Value)) (ap : List Nat) (m : Nd) (w : World) : Prop :=
  BAt w bb ps j ∧ Blk w xb 114 cs ∧ (bb < xb ∧ xb < W.heap.size) ∧ Fr2 W w bb xb ∧ m.In w bb ∧ (∀ g ∈ ap, W.heap.size ≤ g ∧ g < w.heap.size) ∧
    ∀ e ∈ es, ∃ lo hi, W.heap.size ≤ lo ∧ hi ≤ w.heap.size ∧ (∀ g ∈ ap, g < lo ∨ hi ≤ g) ∧ ExR w (Rng lo hi) (posOf ps) e.1 e.2.1 e.2.2
section
variable {W w w' : World} {bb : Nat} {ps : List Int} {xb : Nat} {cs : Array Value} {j j' : Nat} {es : List (Nat × Nd × Value)} {ap : List Nat} {m : Nd}
theorem ES.start {i : Nat} (hB : BAt W bb ps i) (hx : Blk W xb 114 cs) (h : bb < xb) (hm : m.In W bb) : ES W bb ps xb cs i [] [] m W :=
  ⟨hB, hx, ⟨h, hx.lt⟩, ⟨rfl, rfl, rfl, Nat.le_refl _, fun _ _ _ _ => rfl⟩, hm, fun g hg => (by cases hg), fun e he => (by cases he)⟩
theorem ES.bat (h : ES W bb ps xb cs j es ap m w) : BAt w bb ps j := h.1
theorem ES.blk (h : ES W bb ps xb cs j es ap m w) : Blk w xb 114 cs := h.2.1
theorem ES.in_ (h : ES W bb ps xb cs j es ap m w) : m.In w bb := h.2.2.2.2.1
theorem ES.with_ (h : ES W bb ps xb cs j es ap m w) {m' : Nd} (hm : m'.In w bb) : ES W bb ps xb cs j es ap m' w := ⟨h.1, h.2.1, h.2.2.1, h.2.2.2.1, hm, h.2.2.2.2.2⟩
theorem ES.next (h : ES W bb ps xb cs j es ap m w) (hB : BAt w' bb ps j') (hg : w.grownBy w' (some bb)) : ES W bb ps xb cs j' es ap m w' := by
  obtain ⟨h1, h2, h3, h4, h5, h6, h7⟩ := h
  have hs := hg.size
  have h8 := h4.size
  refine ⟨hB, h2.grown hg (fun e => by cases e; omega), h3, ⟨hg.os.trans h4.os, hg.tape.trans h4.tape, hg.output.trans h4.output, Nat.le_trans h4.size hs, fun b hb hne hne2 => ?_⟩, in_grown h5 hg h1.lt, fun g hg' => ⟨(h6 g hg').1, Nat.lt_of_lt_of_le (h6 g hg').2 hs⟩, fun e he => ?_⟩
  · exact (hg.block b (by omega) (fun e => hne (Option.some.inj e))).trans (h4.block b hb hne hne2)
  · obtain ⟨lo, hi, k1, k2, k3, k4⟩ := h7 e he
    exact ⟨lo, hi, k1, by omega, k3, k4.grownR hg (by omega) k2⟩
theorem ES.drew (h : ES W bb ps xb cs j es ap m w) : ES W bb ps xb cs j es ap m w.drew := h.next h.1.drew (grown_drew (grown_refl _ _))
theorem ES.kid (h : ES W bb ps xb cs j es ap m w) {k : Nd} {v : Value} (hE : ExR w' (Rng w.heap.size w'.heap.size) (posOf ps) j k v) (hB : BAt w' bb ps j') (hg : w.grownBy w' (some bb)) : ES W bb ps xb cs j' (es ++ [(j, k, v)]) ap m w' := by
  have h' := h.next hB hg
  refine ⟨h'.1, h'.2.1, h'.2.2.1, h'.2.2.2.1, h'.2.2.2.2.1, h'.2.2.2.2.2.1, fun e he => ?_⟩
  rcases List.mem_append.1 he with he | he
  · exact h'.2.2.2.2.2.2 e he
  · rw [List.mem_singleton] at he
    subst he
    exact ⟨_, _, h.2.2.2.1.size, Nat.le_refl _, fun g hg' => .inl (h.2.2.2.2.2.1 g hg').2, hE⟩
theorem ES.alloc (h : ES W bb ps xb cs j es ap m w) (o : Obj) : ES W bb ps xb cs j es (w.heap.size :: ap) m (w.alloc o) := by
  have hlt := h.1.lt
  have h' := h.next (h.1.keep fun b hb => Below.heap_alloc w o b (by omega)) (World.grownBy_alloc w o _)
  refine ⟨h'.1, h'.2.1, h'.2.2.1, h'.2.2.2.1, h'.2.2.2.2.1, fun g hg => ?_, fun e he => ?_⟩
  · rcases List.mem_cons.1 hg with rfl | hg
    · exact ⟨h.2.2.2.1.size, by rw [World.size_alloc]; omega⟩
    · exact h'.2.2.2.2.2.1 g hg
  · obtain ⟨lo, hi, k1, k2, k3, k4⟩ := h.2.2.2.2.2.2 e he
    refine ⟨lo, hi, k1, by rw [World.size_alloc]; omega, fun g hg => ?_, k4.allocR k2 o⟩
    rcases List.mem_cons.1 hg with rfl | hg
    · exact .inr k2
    · exact k3 g hg
theorem ES.iterAt (h : ES W bb ps xb cs j es ap m w) {g : Nat} (hg : g ∈ ap) (s : ByteArray) (pos : Nat) : ES W bb ps xb cs j es ap m (w.iterAt g s pos) := by
  obtain ⟨h1, h2, h3, h4, h5, h6, h7⟩ := h
  have hg1 := (h6 g hg).1
  refine ⟨h1.keep fun b hb => Lib.iterAt_other w g b s pos (by omega), h2.keep (Lib.iterAt_other w g xb s pos (by omega)), h3, ⟨h4.os, h4.tape, h4.output, by rw [Lib.iterAt_size]; exact h4.size, fun b hb hne hne2 => (Lib.iterAt_other w g b s pos (by omega)).trans (h4.block b hb hne hne2)⟩,
    Nd.In.keep (fun p hp => World.cell?_of_block (Lib.iterAt_other w g p.block s pos (by omega))) (Nat.le_refl _) m h5, fun g' hg' => by rw [Lib.iterAt_size]; exact h6 g' hg', fun e he => ?_⟩
  obtain ⟨lo, hi, k1, k2, k3, k4⟩ := h7 e he
  exact ⟨lo, hi, k1, by rw [Lib.iterAt_size]; exact k2, k3, ExR.keep (fun b hb => Lib.iterAt_other w g b s pos (fun e => by subst e; have := k3 b hg; have := hb.1; have := hb.2; omega)) (fun _ hs => hs) _ _ _ k4⟩
theorem ES.set_ (h : ES W bb ps xb cs j es ap m w) (i : Nat) (u : Value) : ES W bb ps xb (cs.setIfInBounds i u) j es ap m (w.setCell ⟨xb, i, none⟩ u) := by
  obtain ⟨h1, h2, h3, h4, h5, h6, h7⟩ := h
  have hk : ∀ b, b ≠ xb → (w.setCell ⟨xb, i, none⟩ u).heap[b]? = w.heap[b]? := fun b hb => Below.heap_setCell w ⟨xb, i, none⟩ u b hb
  have hs : (w.setCell ⟨xb, i, none⟩ u).heap.size = w.heap.size := by simp [World.setCell]
  refine ⟨h1.keep fun b hb => hk b (by omega), h2.set_ i u, h3, ⟨h4.os, h4.tape, h4.output, by rw [hs]; exact h4.size, fun b hb hne hne2 => (hk b hne2).trans (h4.block b hb hne hne2)⟩,
    Nd.In.keep (fun p hp => World.cell?_of_block (hk p.block (by omega))) (Nat.le_refl _) m h5, fun g' hg' => by rw [hs]; exact h6 g' hg', fun e he => ?_⟩
  obtain ⟨lo, hi, k1, k2, k3, k4⟩ := h7 e he
  exact ⟨lo, hi, k1, by rw [hs]; exact k2, k3, ExR.keep (fun b hb => hk b (fun e => by have := hb.1; omega)) (fun _ hs => hs) _ _ _ k4⟩
theorem ES.iter (h : ES W bb ps xb cs j es ap m w) {g : Nat} (hg : g ∈ ap) (hw : w.grownBy w' (some bb)) : w'.heap[g]? = w.heap[g]? := by
  have := h.2.2.2.2.2.1 g hg
  have := h.2.2.1
  exact hw.block g (by omega) (fun e => by cases e; omega)
theorem ES.iter_set (h : ES W bb ps xb cs j es ap m w) {g : Nat} (hg : g ∈ ap) (i : Nat) (u : Value) : (w.setCell ⟨xb, i, none⟩ u).heap[g]? = w.heap[g]? := by
  have := h.2.2.2.2.2.1 g hg
  have := h.2.2.1
  exact Below.heap_setCell w ⟨xb, i, none⟩ u g (fun e => by simp at e; omega)
theorem ES.ex (h : ES W bb ps xb cs j es ap m w) {i : Nat} {k : Nd} {v : Value} (hm : (i, k, v) ∈ es) : ExR w (Rng W.heap.size w.heap.size) (posOf ps) i k v := by
  obtain ⟨lo, hi, k1, k2, k3, k4⟩ := h.2.2.2.2.2.2 _ hm
  exact k4.wideR k1 k2
end
end Go.Proofs.YtjbhjbpamnoebaaGreatFmt

namespace Go.Proofs.YtjbhjbpamnoebaaGreatFmt
open Go.RowKit

/-- The byte at a place of a text. -/
def chr (tx : ByteArray) (p : Nat) : Nat := (tx.data.toList.getD p 0).toNat
theorem chr_at {tx : ByteArray} {p : Nat} (h : p < tx.size) : (tx[p]'h).toNat = chr tx p := by
  have hl : p < tx.data.toList.length := by simpa using h
  unfold chr
  rw [List.getD_eq_getElem?_getD, List.getElem?_eq_getElem hl, Option.getD_some]
  rfl
def flagAt (tx : ByteArray) (p : Nat) : Bool := (tx.data.toList.take p).contains 115
theorem flag_step {tx : ByteArray} {p : Nat} (h : p < tx.size) : flagAt tx (p + 1) = (flagAt tx p || (chr tx p == 115)) := by
  have hl : p < tx.data.toList.length := by simpa using h
  unfold flagAt chr
  rw [List.take_succ_eq_append_getElem hl, List.contains_append, List.getD_eq_getElem?_getD, List.getElem?_eq_getElem hl, Option.getD_some]
  generalize tx.data.toList[p] = c
  congr 1
  simp only [List.contains_cons, List.contains_nil, Bool.or_false]
  rw [Bool.eq_iff_iff, beq_iff_eq, beq_iff_eq]
  constructor
  · rintro rfl; rfl
  · intro h; exact (UInt8.toNat_inj.1 h).symm
theorem iterPos_of {w : World} {k : Nat} {s : ByteArray} {p : Nat} (h : w.heap[k]? = some (.stringIter s p)) : w.iterPos k = p := by simp [World.iterPos, h]

/-- What the loops over "lhm" do: the number of rounds gone, the next token's number, what was made, the ends, the nodes that are left. -/
inductive Run (tx : ByteArray) (s : Bool) (i : Nat) (m0 : Nd) : Nat → Nat → List (Nat × Nd × Value) → Value → Value → Value → Nd → Prop
  | zero : Run tx s i m0 0 i [] .nilIface .nilIface .nilIface m0
  | skipL {j es lo hi mx m} : Run tx s i m0 0 j es lo hi mx m → ((∀ p, p < tx.size → chr tx p ≠ 108) ∨ m.ks = []) → Run tx s i m0 1 j es lo hi mx m
  | takeL {j es lo hi mx m x r v m'} : Run tx s i m0 0 j es lo hi mx m → (∃ p, p < tx.size ∧ chr tx p = 108) → m.ks = x :: r → m'.ks = r → Run tx s i m0 1 (j + x.ntok) (es ++ [(j, x, v)]) v hi mx m'
  | skipH {j es lo hi mx m} : Run tx s i m0 1 j es lo hi mx m → ((∀ p, p < tx.size → chr tx p ≠ 104) ∨ m.ks = []) → Run tx s i m0 2 (j + 1) es lo hi mx m
  | takeH {j es lo hi mx m x r v m'} : Run tx s i m0 1 j es lo hi mx m → (∃ p, p < tx.size ∧ chr tx p = 104) → m.ks = x :: r → m'.ks = r → Run tx s i m0 2 (j + 1 + x.ntok) (es ++ [(j + 1, x, v)]) lo v mx m'
  | skipM {j es lo hi mx m} : Run tx s i m0 2 j es lo hi mx m → ((∀ p, p < tx.size → chr tx p ≠ 109) ∨ m.ks = []) → Run tx s i m0 3 (j + (if s then 1 else 0)) es lo hi mx m
  | takeM {j es lo hi mx m x r v m'} : Run tx s i m0 2 j es lo hi mx m → (∃ p, p < tx.size ∧ chr tx p = 109) → m.ks = x :: r → m'.ks = r → Run tx s i m0 3 (j + (if s then 1 else 0) + x.ntok) (es ++ [(j + (if s then 1 else 0), x, v)]) lo hi v m'

theorem Run.sub {tx : ByteArray} {s : Bool} {i : Nat} {m0 : Nd} {o j : Nat} {es : List (Nat × Nd × Value)} {lo hi mx : Value} {m : Nd} (h : Run tx s i m0 o j es lo hi mx m) : ∀ k ∈ m.ks, k ∈ m0.ks := by
  induction h with
  | zero => exact fun k hk => hk
  | skipL _ _ ih => exact ih
  | skipH _ _ ih => exact ih
  | skipM _ _ ih => exact ih
  | takeL _ _ h1 h2 ih => exact fun k hk => ih k (by rw [h1]; exact List.mem_cons_of_mem _ (h2 ▸ hk))
  | takeH _ _ h1 h2 ih => exact fun k hk => ih k (by rw [h1]; exact List.mem_cons_of_mem _ (h2 ▸ hk))
  | takeM _ _ h1 h2 ih => exact fun k hk => ih k (by rw [h1]; exact List.mem_cons_of_mem _ (h2 ▸ hk))
theorem head_cells {w : World} {B : Nat} {kd tx : ByteArray} {ab ao cp : Nat} {x : Nd} {r : List Nd} (h : Nd.In w B ⟨kd, tx, some ⟨ab, ao, none⟩, cp, x :: r⟩) :
    w.cell? ⟨ab, ao, none⟩ = some (.string x.kd) ∧ w.cell? ⟨ab, ao + 1, none⟩ = some (.string x.tx) ∧ w.cell? ⟨ab, ao + 2, none⟩ = some (.slice x.ad x.ks.length x.cp) ∧ x.In w B := by
  obtain ⟨h1, h2, h3⟩ := Nd.In_iff.1 h
  obtain ⟨⟨b, o, had, hb, e1, e2, e3⟩, hin⟩ := h3 0 x rfl
  cases had
  exact ⟨by simpa using e1, by simpa using e2, by simpa using e3, hin⟩

def EnPost (W : World) (bb : Nat) (ps : List Int) (xb : Nat) (a0 a1 a6 : Value) (tx : ByteArray) (i : Nat) (m : Nd) (e : Ending) (w : World) : Prop :=
  e = .returned (.tuple #[]) ∧ ∃ j es lo hi mx mm ap s, flagAt tx tx.size = s ∧ ES W bb ps xb #[a0, a1, lo, hi, mx, .bool s, a6] j es ap mm w ∧ Run tx s i m 3 j es lo hi mx mm

set_option maxRecDepth 100000 in
set_option maxHeartbeats 4000000 in
theorem ends_any (ps : List Int) (tx : ByteArray) (hasc : ∀ p, chr tx p < 128) (huniq : ∀ p q, p < tx.size → q < tx.size → chr tx p = chr tx q → p = q) (m : Nd) (IH : ∀ k ∈ m.ks, EOf ps k) (W : World) (bb xb i : Nat) (a0 a1 a6 : Value) (hB : BAt W bb ps i) (hbx : bb < xb)
    (hx : Blk W xb 114 #[a0, a1, .nilIface, .nilIface, .nilIface, .bool false, a6]) (hin : m.In W bb) :
    Calls Tryz.prog 59 #[.pointer (some ⟨bb, 0, none⟩), .pointer (some ⟨xb, 0, none⟩), .string tx, .slice m.ad m.ks.length m.cp] W (EnPost W bb ps xb a0 a1 a6 tx i m) := by
  have E0 := Lib.hid (ES.start hB hx hbx hin)
  have hm := (Nd.In_iff.1 hin).2.1
  have HC := Lib.hid hasc
  have HU := Lib.hid huniq
  have IH' := Lib.hid IH
  clear hB hx hin hasc huniq IH
  go_enter Tryz.func59, Tryz.ntmps59
  go_wp2_with fail
  go_loopw [] (fun wr => ∃ pos, pos ≤ tx.size ∧ wr.heap[W.heap.size]? = some (.stringIter tx pos) ∧ ES W bb ps xb #[a0, a1, .nilIface, .nilIface, .nilIface, .bool (flagAt tx pos), a6] i [] [W.heap.size] m wr) (fun wr => tx.size - wr.iterPos W.heap.size)
  case atStart => exact ⟨0, Nat.zero_le _, World.iter_heap W tx 0, E0.out.alloc _⟩
  case round =>
    obtain ⟨pos, hpos, hit, hE⟩ := hrel
    have hpos0 := Lib.hid (iterPos_of hit)
    by_cases hp : pos < tx.size
    · have hch := chr_at hp
      have hnx : ∀ ty, (Instr.next (.pointer (some ⟨W.heap.size, 0, none⟩)) true ty).run Tryz.prog wr = _ := fun ty => Lib.run_next_ascii_at wr W.heap.size tx pos ty hit hp (by rw [hch]; exact HC.out pos)
      rw [hch] at hnx
      have hit2 := Lib.iterAt_heap wr W.heap.size tx pos (pos + 1) hit
      have hE2 := hE.iterAt (List.mem_singleton.2 rfl) tx (pos + 1)
      obtain ⟨W1, hW1⟩ : ∃ W1, W1 = wr.iterAt W.heap.size tx (pos + 1) := ⟨_, rfl⟩
      rw [← hW1] at hnx hit2 hE2
      have c5 := hE2.blk.cell 5
      have f5 := hE2.blk.frozen 5
      simp at c5
      have HF := Lib.hid (flag_step hp)
      have HE := Lib.hid hE2
      have HI := Lib.hid hit2
      clear hW1 hit hE hE2 hit2 hch
      cases hf : flagAt tx pos
      · rw [hf] at c5
        have HF2 := Lib.hid hf
        clear hf
        by_cases hc : chr tx pos = 115
        · have hc2 : ((chr tx pos : Int) == 115) = true := by simp; omega
          have HC2 := Lib.hid (show (chr tx pos == 115) = true by simpa using hc)
          clear hc
          go_wp2_with fail
          go_roundw
          case rel =>
            refine ⟨pos + 1, by omega, (HE.out.iter_set (List.mem_singleton.2 rfl) 5 _).trans HI.out, ?_⟩
            have := HE.out.set_ 5 (.bool true)
            rw [HF.out, HF2.out, HC2.out]
            exact this
          case measure =>
            rw [hpos0.out, iterPos_of ((HE.out.iter_set (List.mem_singleton.2 rfl) 5 _).trans HI.out)]
            omega
        · have hc2 : ((chr tx pos : Int) == 115) = false := by simp; omega
          have HC2 := Lib.hid (show (chr tx pos == 115) = false by simpa using hc)
          clear hc
          go_wp2_with fail
          go_roundw
          case rel =>
            refine ⟨pos + 1, by omega, (HE.out.iter_set (List.mem_singleton.2 rfl) 5 _).trans HI.out, ?_⟩
            have := HE.out.set_ 5 (.bool false)
            rw [HF.out, HF2.out, HC2.out]
            exact this
          case measure =>
            rw [hpos0.out, iterPos_of ((HE.out.iter_set (List.mem_singleton.2 rfl) 5 _).trans HI.out)]
            omega
      · rw [hf] at c5
        have HF2 := Lib.hid hf
        clear hf
        go_wp2_with fail
        go_roundw
        case rel =>
          refine ⟨pos + 1, by omega, (HE.out.iter_set (List.mem_singleton.2 rfl) 5 _).trans HI.out, ?_⟩
          have := HE.out.set_ 5 (.bool true)
          rw [HF.out, HF2.out, Bool.true_or]
          exact this
        case measure =>
          rw [hpos0.out, iterPos_of ((HE.out.iter_set (List.mem_singleton.2 rfl) 5 _).trans HI.out)]
          omega
    · have hpe : pos = tx.size := by omega
      have hnx : ∀ ty, (Instr.next (.pointer (some ⟨W.heap.size, 0, none⟩)) true ty).run Tryz.prog wr = _ := fun ty => Lib.run_next_end_at wr W.heap.size tx pos ty hit hp
      rw [hpe] at hE
      generalize hfs : flagAt tx tx.size = s at hE
      have HS := Lib.hid hfs
      clear hfs
      have E1 := Lib.hid (hE.alloc (.stringIter ⟨#[108, 104, 109]⟩ 0))
      clear hE hit hpe hp hpos hpos0
      go_wp2_with fail
      clear hnx
      generalize hg2 : wr.heap.size = g2 at E1 ⊢
      have hit0 : (wr.alloc (.stringIter ⟨#[108, 104, 109]⟩ 0)).heap[g2]? = some (.stringIter ⟨#[108, 104, 109]⟩ 0) := hg2 ▸ World.iter_heap wr _ 0
      have HI0 := Lib.hid hit0
      have HG2 := Lib.hid hg2
      clear hit0 hg2
      go_loopw [3] (fun sv wr => ∃ o j es lo hi mx mm ap, o ≤ 3 ∧ sv = .slice mm.ad mm.ks.length mm.cp ∧ wr.heap[g2]? = some (.stringIter ⟨#[108, 104, 109]⟩ o) ∧ g2 ∈ ap ∧ ES W bb ps xb #[a0, a1, lo, hi, mx, .bool s, a6] j es ap mm wr ∧ Run tx s i m o j es lo hi mx mm) (fun _ wr => 3 - wr.iterPos g2)
      case atStart => exact ⟨0, i, [], .nilIface, .nilIface, .nilIface, m, _, by omega, rfl, HI0.out, List.mem_cons_self .., E1.out, .zero⟩
      case round =>
        obtain ⟨o, j, es, lo, hi, mx, mm, ap, ho, rfl, hit, hap, hE, hR⟩ := hrel
        have hpos0 := Lib.hid (iterPos_of hit)
        have ho4 : o = 0 ∨ o = 1 ∨ o = 2 ∨ o = 3 := by omega
        clear ho
        rcases ho4 with h0 | h1 | h2 | h3
        · subst h0
          have hch : ((⟨#[108, 104, 109]⟩ : ByteArray)[0]'(by decide)).toNat = 108 := by decide
          have hnx : ∀ ty, (Instr.next (.pointer (some ⟨g2, 0, none⟩)) true ty).run Tryz.prog wr = _ := fun ty => Lib.run_next_ascii_at wr g2 ⟨#[108, 104, 109]⟩ 0 ty hit (by decide) (by decide)
          rw [hch] at hnx
          have hit2 := Lib.iterAt_heap wr g2 ⟨#[108, 104, 109]⟩ 0 (0 + 1) hit
          have hE2 := hE.iterAt hap ⟨#[108, 104, 109]⟩ (0 + 1)
          obtain ⟨W1, hW1⟩ : ∃ W1, W1 = wr.iterAt g2 ⟨#[108, 104, 109]⟩ (0 + 1) := ⟨_, rfl⟩
          rw [← hW1] at hnx hit2 hE2
          have c5 := hE2.blk.cell 5
          simp at c5
          have HE := Lib.hid hE2
          have HI := Lib.hid hit2
          have HR := Lib.hid hR
          have HAP := Lib.hid hap
          have HPo := hpos0
          clear hW1 hit hE hE2 hit2 hR hap
          go_wp2_with fail
          have EA := Lib.hid (HE.out.alloc (.stringIter tx 0))
          have HIa := Lib.hid ((Below.heap_alloc W1 (.stringIter tx 0) g2 (Array.getElem?_eq_some_iff.1 HI.out).1).trans HI.out)
          have hitA := World.iter_heap W1 tx 0
          have HIt := Lib.hid (show (W1.alloc (.stringIter tx 0)).heap[W1.heap.size]? = some (.stringIter tx 0) from hitA)
          have HNE := Lib.hid (Nat.ne_of_lt (Array.getElem?_eq_some_iff.1 HI.out).1)
          clear hitA c5
          generalize W1.heap.size = g3 at EA HIt HNE ⊢
          go_loopw [3] (fun sv wq => ∃ pos, pos ≤ tx.size ∧ wq.heap[g3]? = some (.stringIter tx pos) ∧ wq.heap[g2]? = some (.stringIter ⟨#[108, 104, 109]⟩ 1) ∧
              ((((∀ p, p < pos → chr tx p ≠ 108) ∨ mm.ks = []) ∧ sv = .slice mm.ad mm.ks.length mm.cp ∧ ES W bb ps xb #[a0, a1, lo, hi, mx, .bool s, a6] (j) es (g3 :: ap) mm wq) ∨
               ((∃ p, p < pos ∧ chr tx p = 108) ∧ ∃ x r v m', mm.ks = x :: r ∧ m'.ks = r ∧ sv = .slice m'.ad m'.ks.length m'.cp ∧ ES W bb ps xb #[a0, a1, v, hi, mx, .bool s, a6] (j + x.ntok) (es ++ [(j, x, v)]) (g3 :: ap) m' wq))) (fun _ wq => tx.size - wq.iterPos g3)
          case atStart => exact ⟨0, Nat.zero_le _, HIt.out, HIa.out, .inl ⟨.inl fun p hp => absurd hp (Nat.not_lt_zero _), rfl, EA.out⟩⟩
          case round =>
            obtain ⟨pos, hpos, hit, hitg, hS⟩ := hrel
            have hpos0 := Lib.hid (iterPos_of hit)
            by_cases hp : pos < tx.size
            · have hch := chr_at hp
              have hnx : ∀ ty, (Instr.next (.pointer (some ⟨g3, 0, none⟩)) true ty).run Tryz.prog wr = _ := fun ty => Lib.run_next_ascii_at wr g3 tx pos ty hit hp (by rw [hch]; exact HC.out pos)
              rw [hch] at hnx
              have hit2 := Lib.iterAt_heap wr g3 tx pos (pos + 1) hit
              have hitg2 := (Lib.iterAt_other wr g3 g2 tx (pos + 1) HNE.out).trans hitg
              rcases hS with ⟨hno, rfl, hE3⟩ | ⟨⟨p0, hp0, hp1⟩, x, r, v, m', hks, hks', rfl, hE3⟩
              · have hE4 := hE3.iterAt (List.mem_cons_self ..) tx (pos + 1)
                obtain ⟨W2, hW2⟩ : ∃ W2, W2 = wr.iterAt g3 tx (pos + 1) := ⟨_, rfl⟩
                rw [← hW2] at hnx hit2 hitg2 hE4
                have HN := Lib.hid hno
                have HE4 := Lib.hid hE4
                have HT := Lib.hid hit2
                have HG := Lib.hid hitg2
                clear hW2 hno hE3 hE4 hit2 hitg2 hit hitg hch
                by_cases hc : chr tx pos = 108
                · have hc2 : (chr tx pos : Int) = 108 := by omega
                  have HC2 := Lib.hid hc
                  clear hc
                  obtain ⟨mk, mt, mad, mcp, mks⟩ := mm
                  dsimp only at *
                  cases mks with
                  | nil =>
                    go_wp2_with fail
                    go_roundw
                    case rel => exact ⟨pos + 1, by omega, HT.out, HG.out, .inl ⟨.inr (by trivial), rfl, HE4.out⟩⟩
                    case measure =>
                      rw [hpos0.out, iterPos_of HT.out]
                      omega
                  | cons x r =>
                    obtain ⟨⟨ab, ao, had⟩, hcp1, hcp2⟩ := ad_form HE4.out.in_
                    subst had
                    obtain ⟨d1, d2, d3, hxin⟩ := head_cells HE4.out.in_
                    have HX := Lib.hid hxin
                    clear hxin
                    have hlr : (x :: r).length = r.length + 1 := rfl
                    by_cases hcp : mcp = 1
                    · skip
                      subst hcp
                      obtain rfl : r = [] := List.length_eq_zero_iff.1 (by omega)
                      go_wp2_with fail
                      refine (IH'.out x (HR.out.sub x (List.mem_cons_self ..)) _ bb (j) HE4.out.bat HX.out).mono ?_
                      rintro e w3 ⟨v, rfl, hEx, hB3, hg3⟩
                      obtain ⟨q, c, rfl⟩ := hEx.form
                      have HT3 := Lib.hid ((HE4.out.iter (List.mem_cons_self ..) hg3).trans HT.out)
                      have HG3 := Lib.hid ((HE4.out.iter (List.mem_cons_of_mem _ HAP.out) hg3).trans HG.out)
                      have HE5 := Lib.hid (HE4.out.kid hEx hB3 hg3)
                      have ck := sl_cell (HE5.out.blk.cell 2) rfl
                      have fk := HE5.out.blk.frozen 2
                      clear hEx hB3 hg3 d1 d2 d3
                      have HE6 := Lib.hid ((HE5.out.with_ (m' := ⟨mk, mt, some ⟨ab, ao, none⟩, 0, []⟩) (nil_in _ _ _ _ _)).set_ 2 (.iface q (.pointer (some ⟨c, 0, none⟩))))
                      have HT6 := Lib.hid ((HE5.out.iter_set (List.mem_cons_self ..) 2 (.iface q (.pointer (some ⟨c, 0, none⟩)))).trans HT3.out)
                      have HG6 := Lib.hid ((HE5.out.iter_set (List.mem_cons_of_mem _ HAP.out) 2 (.iface q (.pointer (some ⟨c, 0, none⟩)))).trans HG3.out)
                      go_wp2_with fail
                      go_roundw
                      case rel => exact ⟨pos + 1, by omega, HT6.out, HG6.out, .inr ⟨⟨pos, Nat.lt_succ_self _, HC2.out⟩, x, [], .iface q (.pointer (some ⟨c, 0, none⟩)), ⟨mk, mt, some ⟨ab, ao, none⟩, 0, []⟩, rfl, rfl, rfl, HE6.out⟩⟩
                      case measure =>
                        rw [hpos0.out, iterPos_of HT6.out]
                        omega
                    · skip
                      have hr1 : (1 : Int) ≤ (r.length : Int) + 1 := by omega
                      have hr2 : r.length + 1 ≤ 9223372036854775807 := by omega
                      go_wp2_with fail
                      refine (IH'.out x (HR.out.sub x (List.mem_cons_self ..)) _ bb (j) HE4.out.bat HX.out).mono ?_
                      rintro e w3 ⟨v, rfl, hEx, hB3, hg3⟩
                      obtain ⟨q, c, rfl⟩ := hEx.form
                      have HT3 := Lib.hid ((HE4.out.iter (List.mem_cons_self ..) hg3).trans HT.out)
                      have HG3 := Lib.hid ((HE4.out.iter (List.mem_cons_of_mem _ HAP.out) hg3).trans HG.out)
                      have HE5 := Lib.hid (HE4.out.kid hEx hB3 hg3)
                      have ck := sl_cell (HE5.out.blk.cell 2) rfl
                      have fk := HE5.out.blk.frozen 2
                      clear hEx hB3 hg3 d1 d2 d3
                      have HE6 := Lib.hid ((HE5.out.with_ (m' := ⟨mk, mt, some ⟨ab, ao + 3, none⟩, mcp - 1, r⟩) (tail_in HE5.out.in_)).set_ 2 (.iface q (.pointer (some ⟨c, 0, none⟩))))
                      have HT6 := Lib.hid ((HE5.out.iter_set (List.mem_cons_self ..) 2 (.iface q (.pointer (some ⟨c, 0, none⟩)))).trans HT3.out)
                      have HG6 := Lib.hid ((HE5.out.iter_set (List.mem_cons_of_mem _ HAP.out) 2 (.iface q (.pointer (some ⟨c, 0, none⟩)))).trans HG3.out)
                      go_wp2_with fail
                      go_roundw
                      case rel => exact ⟨pos + 1, by omega, HT6.out, HG6.out, .inr ⟨⟨pos, Nat.lt_succ_self _, HC2.out⟩, x, r, .iface q (.pointer (some ⟨c, 0, none⟩)), ⟨mk, mt, some ⟨ab, ao + 3, none⟩, mcp - 1, r⟩, rfl, rfl, rfl, HE6.out⟩⟩
                      case measure =>
                        rw [hpos0.out, iterPos_of HT6.out]
                        omega
                · have hc2 : ((chr tx pos : Int) == 108) = false := by simp; omega
                  have HC2 := Lib.hid hc
                  clear hc
                  go_wp2_with fail
                  go_roundw
                  case rel =>
                    refine ⟨pos + 1, by omega, HT.out, HG.out, .inl ⟨HN.out.imp (fun h p hp => ?_) id, rfl, HE4.out⟩⟩
                    by_cases hpp : p = pos
                    · exact hpp ▸ HC2.out
                    · exact h p (by omega)
                  case measure =>
                    rw [hpos0.out, iterPos_of HT.out]
                    omega
              · have hne : chr tx pos ≠ 108 := fun e => by have := HU.out p0 pos (by omega) hp (hp1.trans e.symm); omega
                have hc2 : ((chr tx pos : Int) == 108) = false := by simp; omega
                have hE4 := hE3.iterAt (List.mem_cons_self ..) tx (pos + 1)
                obtain ⟨W2, hW2⟩ : ∃ W2, W2 = wr.iterAt g3 tx (pos + 1) := ⟨_, rfl⟩
                rw [← hW2] at hnx hit2 hitg2 hE4
                have HY := Lib.hid (And.intro hp0 hp1)
                have HK := Lib.hid (And.intro hks hks')
                have HE4 := Lib.hid hE4
                have HT := Lib.hid hit2
                have HG := Lib.hid hitg2
                clear hW2 hE3 hE4 hit2 hitg2 hit hitg hch hp0 hp1 hks hks' hne
                go_wp2_with fail
                go_roundw
                case rel => exact ⟨pos + 1, by omega, HT.out, HG.out, .inr ⟨⟨p0, Nat.lt_succ_of_lt HY.out.1, HY.out.2⟩, x, r, v, m', HK.out.1, HK.out.2, rfl, HE4.out⟩⟩
                case measure =>
                  rw [hpos0.out, iterPos_of HT.out]
                  omega
            · have hpe : pos = tx.size := by omega
              have hnx : ∀ ty, (Instr.next (.pointer (some ⟨g3, 0, none⟩)) true ty).run Tryz.prog wr = _ := fun ty => Lib.run_next_end_at wr g3 tx pos ty hit hp
              subst hpe
              have HG := Lib.hid hitg
              rcases hS with ⟨hno, rfl, hE3⟩ | ⟨hyes, x, r, v, m', hks, hks', rfl, hE3⟩
              · have HN := Lib.hid hno
                have HE3 := Lib.hid hE3
                clear hno hE3 hit hitg
                go_wp2_with fail
                go_roundw
                case rel => exact ⟨1, _, es, lo, hi, mx, mm, g3 :: ap, by omega, rfl, HG.out, List.mem_cons_of_mem _ HAP.out, HE3.out, .skipL HR.out HN.out⟩
                case measure =>
                  rw [HPo.out, iterPos_of HG.out]
                  omega
              · have HY := Lib.hid hyes
                have HK := Lib.hid (And.intro hks hks')
                have HE3 := Lib.hid hE3
                clear hyes hks hks' hE3 hit hitg
                go_wp2_with fail
                go_roundw
                case rel => exact ⟨1, _, _, v, hi, mx, m', g3 :: ap, by omega, rfl, HG.out, List.mem_cons_of_mem _ HAP.out, HE3.out, .takeL HR.out HY.out HK.out.1 HK.out.2⟩
                case measure =>
                  rw [HPo.out, iterPos_of HG.out]
                  omega
        · subst h1
          have hch : ((⟨#[108, 104, 109]⟩ : ByteArray)[1]'(by decide)).toNat = 104 := by decide
          have hnx : ∀ ty, (Instr.next (.pointer (some ⟨g2, 0, none⟩)) true ty).run Tryz.prog wr = _ := fun ty => Lib.run_next_ascii_at wr g2 ⟨#[108, 104, 109]⟩ 1 ty hit (by decide) (by decide)
          rw [hch] at hnx
          have hit2 := Lib.iterAt_heap wr g2 ⟨#[108, 104, 109]⟩ 1 (1 + 1) hit
          have hE2 := hE.iterAt hap ⟨#[108, 104, 109]⟩ (1 + 1)
          obtain ⟨W1, hW1⟩ : ∃ W1, W1 = wr.iterAt g2 ⟨#[108, 104, 109]⟩ (1 + 1) := ⟨_, rfl⟩
          rw [← hW1] at hnx hit2 hE2
          have c5 := hE2.blk.cell 5
          simp at c5
          have HE := Lib.hid hE2
          have HI := Lib.hid hit2
          have HR := Lib.hid hR
          have HAP := Lib.hid hap
          have HPo := hpos0
          clear hW1 hit hE hE2 hit2 hR hap
          go_wp2_with fail
          refine (next_any _ bb ps j HE.out.bat).mono ?_
          rintro e W3 ⟨rfl, hB, hg⟩
          have HI := Lib.hid ((HE.out.iter HAP.out hg).trans HI.out)
          have HE := Lib.hid (HE.out.next hB hg)
          clear hB hg
          go_wp2_with fail
          have EA := Lib.hid (HE.out.alloc (.stringIter tx 0))
          have HIa := Lib.hid ((Below.heap_alloc W3 (.stringIter tx 0) g2 (Array.getElem?_eq_some_iff.1 HI.out).1).trans HI.out)
          have hitA := World.iter_heap W3 tx 0
          have HIt := Lib.hid (show (W3.alloc (.stringIter tx 0)).heap[W3.heap.size]? = some (.stringIter tx 0) from hitA)
          have HNE := Lib.hid (Nat.ne_of_lt (Array.getElem?_eq_some_iff.1 HI.out).1)
          clear hitA c5
          generalize W3.heap.size = g3 at EA HIt HNE ⊢
          go_loopw [3] (fun sv wq => ∃ pos, pos ≤ tx.size ∧ wq.heap[g3]? = some (.stringIter tx pos) ∧ wq.heap[g2]? = some (.stringIter ⟨#[108, 104, 109]⟩ 2) ∧
              ((((∀ p, p < pos → chr tx p ≠ 104) ∨ mm.ks = []) ∧ sv = .slice mm.ad mm.ks.length mm.cp ∧ ES W bb ps xb #[a0, a1, lo, hi, mx, .bool s, a6] (j + 1) es (g3 :: ap) mm wq) ∨
               ((∃ p, p < pos ∧ chr tx p = 104) ∧ ∃ x r v m', mm.ks = x :: r ∧ m'.ks = r ∧ sv = .slice m'.ad m'.ks.length m'.cp ∧ ES W bb ps xb #[a0, a1, lo, v, mx, .bool s, a6] (j + 1 + x.ntok) (es ++ [(j + 1, x, v)]) (g3 :: ap) m' wq))) (fun _ wq => tx.size - wq.iterPos g3)
          case atStart => exact ⟨0, Nat.zero_le _, HIt.out, HIa.out, .inl ⟨.inl fun p hp => absurd hp (Nat.not_lt_zero _), rfl, EA.out⟩⟩
          case round =>
            obtain ⟨pos, hpos, hit, hitg, hS⟩ := hrel
            have hpos0 := Lib.hid (iterPos_of hit)
            by_cases hp : pos < tx.size
            · have hch := chr_at hp
              have hnx : ∀ ty, (Instr.next (.pointer (some ⟨g3, 0, none⟩)) true ty).run Tryz.prog wr = _ := fun ty => Lib.run_next_ascii_at wr g3 tx pos ty hit hp (by rw [hch]; exact HC.out pos)
              rw [hch] at hnx
              have hit2 := Lib.iterAt_heap wr g3 tx pos (pos + 1) hit
              have hitg2 := (Lib.iterAt_other wr g3 g2 tx (pos + 1) HNE.out).trans hitg
              rcases hS with ⟨hno, rfl, hE3⟩ | ⟨⟨p0, hp0, hp1⟩, x, r, v, m', hks, hks', rfl, hE3⟩
              · have hE4 := hE3.iterAt (List.mem_cons_self ..) tx (pos + 1)
                obtain ⟨W2, hW2⟩ : ∃ W2, W2 = wr.iterAt g3 tx (pos + 1) := ⟨_, rfl⟩
                rw [← hW2] at hnx hit2 hitg2 hE4
                have HN := Lib.hid hno
                have HE4 := Lib.hid hE4
                have HT := Lib.hid hit2
                have HG := Lib.hid hitg2
                clear hW2 hno hE3 hE4 hit2 hitg2 hit hitg hch
                by_cases hc : chr tx pos = 104
                · have hc2 : (chr tx pos : Int) = 104 := by omega
                  have HC2 := Lib.hid hc
                  clear hc
                  obtain ⟨mk, mt, mad, mcp, mks⟩ := mm
                  dsimp only at *
                  cases mks with
                  | nil =>
                    go_wp2_with fail
                    go_roundw
                    case rel => exact ⟨pos + 1, by omega, HT.out, HG.out, .inl ⟨.inr (by trivial), rfl, HE4.out⟩⟩
                    case measure =>
                      rw [hpos0.out, iterPos_of HT.out]
                      omega
                  | cons x r =>
                    obtain ⟨⟨ab, ao, had⟩, hcp1, hcp2⟩ := ad_form HE4.out.in_
                    subst had
                    obtain ⟨d1, d2, d3, hxin⟩ := head_cells HE4.out.in_
                    have HX := Lib.hid hxin
                    clear hxin
                    have hlr : (x :: r).length = r.length + 1 := rfl
                    by_cases hcp : mcp = 1
                    · skip
                      subst hcp
                      obtain rfl : r = [] := List.length_eq_zero_iff.1 (by omega)
                      go_wp2_with fail
                      refine (IH'.out x (HR.out.sub x (List.mem_cons_self ..)) _ bb (j + 1) HE4.out.bat HX.out).mono ?_
                      rintro e w3 ⟨v, rfl, hEx, hB3, hg3⟩
                      obtain ⟨q, c, rfl⟩ := hEx.form
                      have HT3 := Lib.hid ((HE4.out.iter (List.mem_cons_self ..) hg3).trans HT.out)
                      have HG3 := Lib.hid ((HE4.out.iter (List.mem_cons_of_mem _ HAP.out) hg3).trans HG.out)
                      have HE5 := Lib.hid (HE4.out.kid hEx hB3 hg3)
                      have ck := sl_cell (HE5.out.blk.cell 3) rfl
                      have fk := HE5.out.blk.frozen 3
                      clear hEx hB3 hg3 d1 d2 d3
                      have HE6 := Lib.hid ((HE5.out.with_ (m' := ⟨mk, mt, some ⟨ab, ao, none⟩, 0, []⟩) (nil_in _ _ _ _ _)).set_ 3 (.iface q (.pointer (some ⟨c, 0, none⟩))))
                      have HT6 := Lib.hid ((HE5.out.iter_set (List.mem_cons_self ..) 3 (.iface q (.pointer (some ⟨c, 0, none⟩)))).trans HT3.out)
                      have HG6 := Lib.hid ((HE5.out.iter_set (List.mem_cons_of_mem _ HAP.out) 3 (.iface q (.pointer (some ⟨c, 0, none⟩)))).trans HG3.out)
                      go_wp2_with fail
                      go_roundw
                      case rel => exact ⟨pos + 1, by omega, HT6.out, HG6.out, .inr ⟨⟨pos, Nat.lt_succ_self _, HC2.out⟩, x, [], .iface q (.pointer (some ⟨c, 0, none⟩)), ⟨mk, mt, some ⟨ab, ao, none⟩, 0, []⟩, rfl, rfl, rfl, HE6.out⟩⟩
                      case measure =>
                        rw [hpos0.out, iterPos_of HT6.out]
                        omega
                    · skip
                      have hr1 : (1 : Int) ≤ (r.length : Int) + 1 := by omega
                      have hr2 : r.length + 1 ≤ 9223372036854775807 := by omega
                      go_wp2_with fail
                      refine (IH'.out x (HR.out.sub x (List.mem_cons_self ..)) _ bb (j + 1) HE4.out.bat HX.out).mono ?_
                      rintro e w3 ⟨v, rfl, hEx, hB3, hg3⟩
                      obtain ⟨q, c, rfl⟩ := hEx.form
                      have HT3 := Lib.hid ((HE4.out.iter (List.mem_cons_self ..) hg3).trans HT.out)
                      have HG3 := Lib.hid ((HE4.out.iter (List.mem_cons_of_mem _ HAP.out) hg3).trans HG.out)
                      have HE5 := Lib.hid (HE4.out.kid hEx hB3 hg3)
                      have ck := sl_cell (HE5.out.blk.cell 3) rfl
                      have fk := HE5.out.blk.frozen 3
                      clear hEx hB3 hg3 d1 d2 d3
                      have HE6 := Lib.hid ((HE5.out.with_ (m' := ⟨mk, mt, some ⟨ab, ao + 3, none⟩, mcp - 1, r⟩) (tail_in HE5.out.in_)).set_ 3 (.iface q (.pointer (some ⟨c, 0, none⟩))))
                      have HT6 := Lib.hid ((HE5.out.iter_set (List.mem_cons_self ..) 3 (.iface q (.pointer (some ⟨c, 0, none⟩)))).trans HT3.out)
                      have HG6 := Lib.hid ((HE5.out.iter_set (List.mem_cons_of_mem _ HAP.out) 3 (.iface q (.pointer (some ⟨c, 0, none⟩)))).trans HG3.out)
                      go_wp2_with fail
                      go_roundw
                      case rel => exact ⟨pos + 1, by omega, HT6.out, HG6.out, .inr ⟨⟨pos, Nat.lt_succ_self _, HC2.out⟩, x, r, .iface q (.pointer (some ⟨c, 0, none⟩)), ⟨mk, mt, some ⟨ab, ao + 3, none⟩, mcp - 1, r⟩, rfl, rfl, rfl, HE6.out⟩⟩
                      case measure =>
                        rw [hpos0.out, iterPos_of HT6.out]
                        omega
                · have hc2 : ((chr tx pos : Int) == 104) = false := by simp; omega
                  have HC2 := Lib.hid hc
                  clear hc
                  go_wp2_with fail
                  go_roundw
                  case rel =>
                    refine ⟨pos + 1, by omega, HT.out, HG.out, .inl ⟨HN.out.imp (fun h p hp => ?_) id, rfl, HE4.out⟩⟩
                    by_cases hpp : p = pos
                    · exact hpp ▸ HC2.out
                    · exact h p (by omega)
                  case measure =>
                    rw [hpos0.out, iterPos_of HT.out]
                    omega
              · have hne : chr tx pos ≠ 104 := fun e => by have := HU.out p0 pos (by omega) hp (hp1.trans e.symm); omega
                have hc2 : ((chr tx pos : Int) == 104) = false := by simp; omega
                have hE4 := hE3.iterAt (List.mem_cons_self ..) tx (pos + 1)
                obtain ⟨W2, hW2⟩ : ∃ W2, W2 = wr.iterAt g3 tx (pos + 1) := ⟨_, rfl⟩
                rw [← hW2] at hnx hit2 hitg2 hE4
                have HY := Lib.hid (And.intro hp0 hp1)
                have HK := Lib.hid (And.intro hks hks')
                have HE4 := Lib.hid hE4
                have HT := Lib.hid hit2
                have HG := Lib.hid hitg2
                clear hW2 hE3 hE4 hit2 hitg2 hit hitg hch hp0 hp1 hks hks' hne
                go_wp2_with fail
                go_roundw
                case rel => exact ⟨pos + 1, by omega, HT.out, HG.out, .inr ⟨⟨p0, Nat.lt_succ_of_lt HY.out.1, HY.out.2⟩, x, r, v, m', HK.out.1, HK.out.2, rfl, HE4.out⟩⟩
                case measure =>
                  rw [hpos0.out, iterPos_of HT.out]
                  omega
            · have hpe : pos = tx.size := by omega
              have hnx : ∀ ty, (Instr.next (.pointer (some ⟨g3, 0, none⟩)) true ty).run Tryz.prog wr = _ := fun ty => Lib.run_next_end_at wr g3 tx pos ty hit hp
              subst hpe
              have HG := Lib.hid hitg
              rcases hS with ⟨hno, rfl, hE3⟩ | ⟨hyes, x, r, v, m', hks, hks', rfl, hE3⟩
              · have HN := Lib.hid hno
                have HE3 := Lib.hid hE3
                clear hno hE3 hit hitg
                go_wp2_with fail
                go_roundw
                case rel => exact ⟨2, _, es, lo, hi, mx, mm, g3 :: ap, by omega, rfl, HG.out, List.mem_cons_of_mem _ HAP.out, HE3.out, .skipH HR.out HN.out⟩
                case measure =>
                  rw [HPo.out, iterPos_of HG.out]
                  omega
              · have HY := Lib.hid hyes
                have HK := Lib.hid (And.intro hks hks')
                have HE3 := Lib.hid hE3
                clear hyes hks hks' hE3 hit hitg
                go_wp2_with fail
                go_roundw
                case rel => exact ⟨2, _, _, lo, v, mx, m', g3 :: ap, by omega, rfl, HG.out, List.mem_cons_of_mem _ HAP.out, HE3.out, .takeH HR.out HY.out HK.out.1 HK.out.2⟩
                case measure =>
                  rw [HPo.out, iterPos_of HG.out]
                  omega
        · subst h2
          cases s
          · skip
            have hch : ((⟨#[108, 104, 109]⟩ : ByteArray)[2]'(by decide)).toNat = 109 := by decide
            have hnx : ∀ ty, (Instr.next (.pointer (some ⟨g2, 0, none⟩)) true ty).run Tryz.prog wr = _ := fun ty => Lib.run_next_ascii_at wr g2 ⟨#[108, 104, 109]⟩ 2 ty hit (by decide) (by decide)
            rw [hch] at hnx
            have hit2 := Lib.iterAt_heap wr g2 ⟨#[108, 104, 109]⟩ 2 (2 + 1) hit
            have hE2 := hE.iterAt hap ⟨#[108, 104, 109]⟩ (2 + 1)
            obtain ⟨W1, hW1⟩ : ∃ W1, W1 = wr.iterAt g2 ⟨#[108, 104, 109]⟩ (2 + 1) := ⟨_, rfl⟩
            rw [← hW1] at hnx hit2 hE2
            have c5 := hE2.blk.cell 5
            simp at c5
            have HE := Lib.hid hE2
            have HI := Lib.hid hit2
            have HR := Lib.hid hR
            have HAP := Lib.hid hap
            have HPo := hpos0
            clear hW1 hit hE hE2 hit2 hR hap
            go_wp2_with fail
            have EA := Lib.hid (HE.out.alloc (.stringIter tx 0))
            have HIa := Lib.hid ((Below.heap_alloc W1 (.stringIter tx 0) g2 (Array.getElem?_eq_some_iff.1 HI.out).1).trans HI.out)
            have hitA := World.iter_heap W1 tx 0
            have HIt := Lib.hid (show (W1.alloc (.stringIter tx 0)).heap[W1.heap.size]? = some (.stringIter tx 0) from hitA)
            have HNE := Lib.hid (Nat.ne_of_lt (Array.getElem?_eq_some_iff.1 HI.out).1)
            clear hitA c5
            generalize W1.heap.size = g3 at EA HIt HNE ⊢
            go_loopw [3] (fun sv wq => ∃ pos, pos ≤ tx.size ∧ wq.heap[g3]? = some (.stringIter tx pos) ∧ wq.heap[g2]? = some (.stringIter ⟨#[108, 104, 109]⟩ 3) ∧
                ((((∀ p, p < pos → chr tx p ≠ 109) ∨ mm.ks = []) ∧ sv = .slice mm.ad mm.ks.length mm.cp ∧ ES W bb ps xb #[a0, a1, lo, hi, mx, .bool false, a6] (j) es (g3 :: ap) mm wq) ∨
                 ((∃ p, p < pos ∧ chr tx p = 109) ∧ ∃ x r v m', mm.ks = x :: r ∧ m'.ks = r ∧ sv = .slice m'.ad m'.ks.length m'.cp ∧ ES W bb ps xb #[a0, a1, lo, hi, v, .bool false, a6] (j + x.ntok) (es ++ [(j, x, v)]) (g3 :: ap) m' wq))) (fun _ wq => tx.size - wq.iterPos g3)
            case atStart => exact ⟨0, Nat.zero_le _, HIt.out, HIa.out, .inl ⟨.inl fun p hp => absurd hp (Nat.not_lt_zero _), rfl, EA.out⟩⟩
            case round =>
              obtain ⟨pos, hpos, hit, hitg, hS⟩ := hrel
              have hpos0 := Lib.hid (iterPos_of hit)
              by_cases hp : pos < tx.size
              · have hch := chr_at hp
                have hnx : ∀ ty, (Instr.next (.pointer (some ⟨g3, 0, none⟩)) true ty).run Tryz.prog wr = _ := fun ty => Lib.run_next_ascii_at wr g3 tx pos ty hit hp (by rw [hch]; exact HC.out pos)
                rw [hch] at hnx
                have hit2 := Lib.iterAt_heap wr g3 tx pos (pos + 1) hit
                have hitg2 := (Lib.iterAt_other wr g3 g2 tx (pos + 1) HNE.out).trans hitg
                rcases hS with ⟨hno, rfl, hE3⟩ | ⟨⟨p0, hp0, hp1⟩, x, r, v, m', hks, hks', rfl, hE3⟩
                · have hE4 := hE3.iterAt (List.mem_cons_self ..) tx (pos + 1)
                  obtain ⟨W2, hW2⟩ : ∃ W2, W2 = wr.iterAt g3 tx (pos + 1) := ⟨_, rfl⟩
                  rw [← hW2] at hnx hit2 hitg2 hE4
                  have HN := Lib.hid hno
                  have HE4 := Lib.hid hE4
                  have HT := Lib.hid hit2
                  have HG := Lib.hid hitg2
                  clear hW2 hno hE3 hE4 hit2 hitg2 hit hitg hch
                  by_cases hc : chr tx pos = 109
                  · have hc2 : (chr tx pos : Int) = 109 := by omega
                    have HC2 := Lib.hid hc
                    clear hc
                    obtain ⟨mk, mt, mad, mcp, mks⟩ := mm
                    dsimp only at *
                    cases mks with
                    | nil =>
                      go_wp2_with fail
                      go_roundw
                      case rel => exact ⟨pos + 1, by omega, HT.out, HG.out, .inl ⟨.inr (by trivial), rfl, HE4.out⟩⟩
                      case measure =>
                        rw [hpos0.out, iterPos_of HT.out]
                        omega
                    | cons x r =>
                      obtain ⟨⟨ab, ao, had⟩, hcp1, hcp2⟩ := ad_form HE4.out.in_
                      subst had
                      obtain ⟨d1, d2, d3, hxin⟩ := head_cells HE4.out.in_
                      have HX := Lib.hid hxin
                      clear hxin
                      have hlr : (x :: r).length = r.length + 1 := rfl
                      by_cases hcp : mcp = 1
                      · skip
                        subst hcp
                        obtain rfl : r = [] := List.length_eq_zero_iff.1 (by omega)
                        go_wp2_with fail
                        refine (IH'.out x (HR.out.sub x (List.mem_cons_self ..)) _ bb (j) HE4.out.bat HX.out).mono ?_
                        rintro e w3 ⟨v, rfl, hEx, hB3, hg3⟩
                        obtain ⟨q, c, rfl⟩ := hEx.form
                        have HT3 := Lib.hid ((HE4.out.iter (List.mem_cons_self ..) hg3).trans HT.out)
                        have HG3 := Lib.hid ((HE4.out.iter (List.mem_cons_of_mem _ HAP.out) hg3).trans HG.out)
                        have HE5 := Lib.hid (HE4.out.kid hEx hB3 hg3)
                        have ck := sl_cell (HE5.out.blk.cell 4) rfl
                        have fk := HE5.out.blk.frozen 4
                        clear hEx hB3 hg3 d1 d2 d3
                        have HE6 := Lib.hid ((HE5.out.with_ (m' := ⟨mk, mt, some ⟨ab, ao, none⟩, 0, []⟩) (nil_in _ _ _ _ _)).set_ 4 (.iface q (.pointer (some ⟨c, 0, none⟩))))
                        have HT6 := Lib.hid ((HE5.out.iter_set (List.mem_cons_self ..) 4 (.iface q (.pointer (some ⟨c, 0, none⟩)))).trans HT3.out)
                        have HG6 := Lib.hid ((HE5.out.iter_set (List.mem_cons_of_mem _ HAP.out) 4 (.iface q (.pointer (some ⟨c, 0, none⟩)))).trans HG3.out)
                        go_wp2_with fail
                        go_roundw
                        case rel => exact ⟨pos + 1, by omega, HT6.out, HG6.out, .inr ⟨⟨pos, Nat.lt_succ_self _, HC2.out⟩, x, [], .iface q (.pointer (some ⟨c, 0, none⟩)), ⟨mk, mt, some ⟨ab, ao, none⟩, 0, []⟩, rfl, rfl, rfl, HE6.out⟩⟩
                        case measure =>
                          rw [hpos0.out, iterPos_of HT6.out]
                          omega
                      · skip
                        have hr1 : (1 : Int) ≤ (r.length : Int) + 1 := by omega
                        have hr2 : r.length + 1 ≤ 9223372036854775807 := by omega
                        go_wp2_with fail
                        refine (IH'.out x (HR.out.sub x (List.mem_cons_self ..)) _ bb (j) HE4.out.bat HX.out).mono ?_
                        rintro e w3 ⟨v, rfl, hEx, hB3, hg3⟩
                        obtain ⟨q, c, rfl⟩ := hEx.form
                        have HT3 := Lib.hid ((HE4.out.iter (List.mem_cons_self ..) hg3).trans HT.out)
                        have HG3 := Lib.hid ((HE4.out.iter (List.mem_cons_of_mem _ HAP.out) hg3).trans HG.out)
                        have HE5 := Lib.hid (HE4.out.kid hEx hB3 hg3)
                        have ck := sl_cell (HE5.out.blk.cell 4) rfl
                        have fk := HE5.out.blk.frozen 4
                        clear hEx hB3 hg3 d1 d2 d3
                        have HE6 := Lib.hid ((HE5.out.with_ (m' := ⟨mk, mt, some ⟨ab, ao + 3, none⟩, mcp - 1, r⟩) (tail_in HE5.out.in_)).set_ 4 (.iface q (.pointer (some ⟨c, 0, none⟩))))
                        have HT6 := Lib.hid ((HE5.out.iter_set (List.mem_cons_self ..) 4 (.iface q (.pointer (some ⟨c, 0, none⟩)))).trans HT3.out)
                        have HG6 := Lib.hid ((HE5.out.iter_set (List.mem_cons_of_mem _ HAP.out) 4 (.iface q (.pointer (some ⟨c, 0, none⟩)))).trans HG3.out)
                        go_wp2_with fail
                        go_roundw
                        case rel => exact ⟨pos + 1, by omega, HT6.out, HG6.out, .inr ⟨⟨pos, Nat.lt_succ_self _, HC2.out⟩, x, r, .iface q (.pointer (some ⟨c, 0, none⟩)), ⟨mk, mt, some ⟨ab, ao + 3, none⟩, mcp - 1, r⟩, rfl, rfl, rfl, HE6.out⟩⟩
                        case measure =>
                          rw [hpos0.out, iterPos_of HT6.out]
                          omega
                  · have hc2 : ((chr tx pos : Int) == 109) = false := by simp; omega
                    have HC2 := Lib.hid hc
                    clear hc
                    go_wp2_with fail
                    go_roundw
                    case rel =>
                      refine ⟨pos + 1, by omega, HT.out, HG.out, .inl ⟨HN.out.imp (fun h p hp => ?_) id, rfl, HE4.out⟩⟩
                      by_cases hpp : p = pos
                      · exact hpp ▸ HC2.out
                      · exact h p (by omega)
                    case measure =>
                      rw [hpos0.out, iterPos_of HT.out]
                      omega
                · have hne : chr tx pos ≠ 109 := fun e => by have := HU.out p0 pos (by omega) hp (hp1.trans e.symm); omega
                  have hc2 : ((chr tx pos : Int) == 109) = false := by simp; omega
                  have hE4 := hE3.iterAt (List.mem_cons_self ..) tx (pos + 1)
                  obtain ⟨W2, hW2⟩ : ∃ W2, W2 = wr.iterAt g3 tx (pos + 1) := ⟨_, rfl⟩
                  rw [← hW2] at hnx hit2 hitg2 hE4
                  have HY := Lib.hid (And.intro hp0 hp1)
                  have HK := Lib.hid (And.intro hks hks')
                  have HE4 := Lib.hid hE4
                  have HT := Lib.hid hit2
                  have HG := Lib.hid hitg2
                  clear hW2 hE3 hE4 hit2 hitg2 hit hitg hch hp0 hp1 hks hks' hne
                  go_wp2_with fail
                  go_roundw
                  case rel => exact ⟨pos + 1, by omega, HT.out, HG.out, .inr ⟨⟨p0, Nat.lt_succ_of_lt HY.out.1, HY.out.2⟩, x, r, v, m', HK.out.1, HK.out.2, rfl, HE4.out⟩⟩
                  case measure =>
                    rw [hpos0.out, iterPos_of HT.out]
                    omega
              · have hpe : pos = tx.size := by omega
                have hnx : ∀ ty, (Instr.next (.pointer (some ⟨g3, 0, none⟩)) true ty).run Tryz.prog wr = _ := fun ty => Lib.run_next_end_at wr g3 tx pos ty hit hp
                subst hpe
                have HG := Lib.hid hitg
                rcases hS with ⟨hno, rfl, hE3⟩ | ⟨hyes, x, r, v, m', hks, hks', rfl, hE3⟩
                · have HN := Lib.hid hno
                  have HE3 := Lib.hid hE3
                  clear hno hE3 hit hitg
                  go_wp2_with fail
                  go_roundw
                  case rel => exact ⟨3, _, es, lo, hi, mx, mm, g3 :: ap, by omega, rfl, HG.out, List.mem_cons_of_mem _ HAP.out, HE3.out, .skipM HR.out HN.out⟩
                  case measure =>
                    rw [HPo.out, iterPos_of HG.out]
                    omega
                · have HY := Lib.hid hyes
                  have HK := Lib.hid (And.intro hks hks')
                  have HE3 := Lib.hid hE3
                  clear hyes hks hks' hE3 hit hitg
                  go_wp2_with fail
                  go_roundw
                  case rel => exact ⟨3, _, _, lo, hi, v, m', g3 :: ap, by omega, rfl, HG.out, List.mem_cons_of_mem _ HAP.out, HE3.out, .takeM HR.out HY.out HK.out.1 HK.out.2⟩
                  case measure =>
                    rw [HPo.out, iterPos_of HG.out]
                    omega
          · skip
            have hch : ((⟨#[108, 104, 109]⟩ : ByteArray)[2]'(by decide)).toNat = 109 := by decide
            have hnx : ∀ ty, (Instr.next (.pointer (some ⟨g2, 0, none⟩)) true ty).run Tryz.prog wr = _ := fun ty => Lib.run_next_ascii_at wr g2 ⟨#[108, 104, 109]⟩ 2 ty hit (by decide) (by decide)
            rw [hch] at hnx
            have hit2 := Lib.iterAt_heap wr g2 ⟨#[108, 104, 109]⟩ 2 (2 + 1) hit
            have hE2 := hE.iterAt hap ⟨#[108, 104, 109]⟩ (2 + 1)
            obtain ⟨W1, hW1⟩ : ∃ W1, W1 = wr.iterAt g2 ⟨#[108, 104, 109]⟩ (2 + 1) := ⟨_, rfl⟩
            rw [← hW1] at hnx hit2 hE2
            have c5 := hE2.blk.cell 5
            simp at c5
            have HE := Lib.hid hE2
            have HI := Lib.hid hit2
            have HR := Lib.hid hR
            have HAP := Lib.hid hap
            have HPo := hpos0
            clear hW1 hit hE hE2 hit2 hR hap
            go_wp2_with fail
            refine (next_any _ bb ps j HE.out.bat).mono ?_
            rintro e W3 ⟨rfl, hB, hg⟩
            have HI := Lib.hid ((HE.out.iter HAP.out hg).trans HI.out)
            have HE := Lib.hid (HE.out.next hB hg)
            clear hB hg
            go_wp2_with fail
            have EA := Lib.hid (HE.out.alloc (.stringIter tx 0))
            have HIa := Lib.hid ((Below.heap_alloc W3 (.stringIter tx 0) g2 (Array.getElem?_eq_some_iff.1 HI.out).1).trans HI.out)
            have hitA := World.iter_heap W3 tx 0
            have HIt := Lib.hid (show (W3.alloc (.stringIter tx 0)).heap[W3.heap.size]? = some (.stringIter tx 0) from hitA)
            have HNE := Lib.hid (Nat.ne_of_lt (Array.getElem?_eq_some_iff.1 HI.out).1)
            clear hitA c5
            generalize W3.heap.size = g3 at EA HIt HNE ⊢
            go_loopw [3] (fun sv wq => ∃ pos, pos ≤ tx.size ∧ wq.heap[g3]? = some (.stringIter tx pos) ∧ wq.heap[g2]? = some (.stringIter ⟨#[108, 104, 109]⟩ 3) ∧
                ((((∀ p, p < pos → chr tx p ≠ 109) ∨ mm.ks = []) ∧ sv = .slice mm.ad mm.ks.length mm.cp ∧ ES W bb ps xb #[a0, a1, lo, hi, mx, .bool true, a6] (j + 1) es (g3 :: ap) mm wq) ∨
                 ((∃ p, p < pos ∧ chr tx p = 109) ∧ ∃ x r v m', mm.ks = x :: r ∧ m'.ks = r ∧ sv = .slice m'.ad m'.ks.length m'.cp ∧ ES W bb ps xb #[a0, a1, lo, hi, v, .bool true, a6] (j + 1 + x.ntok) (es ++ [(j + 1, x, v)]) (g3 :: ap) m' wq))) (fun _ wq => tx.size - wq.iterPos g3)
            case atStart => exact ⟨0, Nat.zero_le _, HIt.out, HIa.out, .inl ⟨.inl fun p hp => absurd hp (Nat.not_lt_zero _), rfl, EA.out⟩⟩
            case round =>
              obtain ⟨pos, hpos, hit, hitg, hS⟩ := hrel
              have hpos0 := Lib.hid (iterPos_of hit)
              by_cases hp : pos < tx.size
              · have hch := chr_at hp
                have hnx : ∀ ty, (Instr.next (.pointer (some ⟨g3, 0, none⟩)) true ty).run Tryz.prog wr = _ := fun ty => Lib.run_next_ascii_at wr g3 tx pos ty hit hp (by rw [hch]; exact HC.out pos)
                rw [hch] at hnx
                have hit2 := Lib.iterAt_heap wr g3 tx pos (pos + 1) hit
                have hitg2 := (Lib.iterAt_other wr g3 g2 tx (pos + 1) HNE.out).trans hitg
                rcases hS with ⟨hno, rfl, hE3⟩ | ⟨⟨p0, hp0, hp1⟩, x, r, v, m', hks, hks', rfl, hE3⟩
                · have hE4 := hE3.iterAt (List.mem_cons_self ..) tx (pos + 1)
                  obtain ⟨W2, hW2⟩ : ∃ W2, W2 = wr.iterAt g3 tx (pos + 1) := ⟨_, rfl⟩
                  rw [← hW2] at hnx hit2 hitg2 hE4
                  have HN := Lib.hid hno
                  have HE4 := Lib.hid hE4
                  have HT := Lib.hid hit2
                  have HG := Lib.hid hitg2
                  clear hW2 hno hE3 hE4 hit2 hitg2 hit hitg hch
                  by_cases hc : chr tx pos = 109
                  · have hc2 : (chr tx pos : Int) = 109 := by omega
                    have HC2 := Lib.hid hc
                    clear hc
                    obtain ⟨mk, mt, mad, mcp, mks⟩ := mm
                    dsimp only at *
                    cases mks with
                    | nil =>
                      go_wp2_with fail
                      go_roundw
                      case rel => exact ⟨pos + 1, by omega, HT.out, HG.out, .inl ⟨.inr (by trivial), rfl, HE4.out⟩⟩
                      case measure =>
                        rw [hpos0.out, iterPos_of HT.out]
                        omega
                    | cons x r =>
                      obtain ⟨⟨ab, ao, had⟩, hcp1, hcp2⟩ := ad_form HE4.out.in_
                      subst had
                      obtain ⟨d1, d2, d3, hxin⟩ := head_cells HE4.out.in_
                      have HX := Lib.hid hxin
                      clear hxin
                      have hlr : (x :: r).length = r.length + 1 := rfl
                      by_cases hcp : mcp = 1
                      · skip
                        subst hcp
                        obtain rfl : r = [] := List.length_eq_zero_iff.1 (by omega)
                        go_wp2_with fail
                        refine (IH'.out x (HR.out.sub x (List.mem_cons_self ..)) _ bb (j + 1) HE4.out.bat HX.out).mono ?_
                        rintro e w3 ⟨v, rfl, hEx, hB3, hg3⟩
                        obtain ⟨q, c, rfl⟩ := hEx.form
                        have HT3 := Lib.hid ((HE4.out.iter (List.mem_cons_self ..) hg3).trans HT.out)
                        have HG3 := Lib.hid ((HE4.out.iter (List.mem_cons_of_mem _ HAP.out) hg3).trans HG.out)
                        have HE5 := Lib.hid (HE4.out.kid hEx hB3 hg3)
                        have ck := sl_cell (HE5.out.blk.cell 4) rfl
                        have fk := HE5.out.blk.frozen 4
                        clear hEx hB3 hg3 d1 d2 d3
                        have HE6 := Lib.hid ((HE5.out.with_ (m' := ⟨mk, mt, some ⟨ab, ao, none⟩, 0, []⟩) (nil_in _ _ _ _ _)).set_ 4 (.iface q (.pointer (some ⟨c, 0, none⟩))))
                        have HT6 := Lib.hid ((HE5.out.iter_set (List.mem_cons_self ..) 4 (.iface q (.pointer (some ⟨c, 0, none⟩)))).trans HT3.out)
                        have HG6 := Lib.hid ((HE5.out.iter_set (List.mem_cons_of_mem _ HAP.out) 4 (.iface q (.pointer (some ⟨c, 0, none⟩)))).trans HG3.out)
                        go_wp2_with fail
                        go_roundw
                        case rel => exact ⟨pos + 1, by omega, HT6.out, HG6.out, .inr ⟨⟨pos, Nat.lt_succ_self _, HC2.out⟩, x, [], .iface q (.pointer (some ⟨c, 0, none⟩)), ⟨mk, mt, some ⟨ab, ao, none⟩, 0, []⟩, rfl, rfl, rfl, HE6.out⟩⟩
                        case measure =>
                          rw [hpos0.out, iterPos_of HT6.out]
                          omega
                      · skip
                        have hr1 : (1 : Int) ≤ (r.length : Int) + 1 := by omega
                        have hr2 : r.length + 1 ≤ 9223372036854775807 := by omega
                        go_wp2_with fail
                        refine (IH'.out x (HR.out.sub x (List.mem_cons_self ..)) _ bb (j + 1) HE4.out.bat HX.out).mono ?_
                        rintro e w3 ⟨v, rfl, hEx, hB3, hg3⟩
                        obtain ⟨q, c, rfl⟩ := hEx.form
                        have HT3 := Lib.hid ((HE4.out.iter (List.mem_cons_self ..) hg3).trans HT.out)
                        have HG3 := Lib.hid ((HE4.out.iter (List.mem_cons_of_mem _ HAP.out) hg3).trans HG.out)
                        have HE5 := Lib.hid (HE4.out.kid hEx hB3 hg3)
                        have ck := sl_cell (HE5.out.blk.cell 4) rfl
                        have fk := HE5.out.blk.frozen 4
                        clear hEx hB3 hg3 d1 d2 d3
                        have HE6 := Lib.hid ((HE5.out.with_ (m' := ⟨mk, mt, some ⟨ab, ao + 3, none⟩, mcp - 1, r⟩) (tail_in HE5.out.in_)).set_ 4 (.iface q (.pointer (some ⟨c, 0, none⟩))))
                        have HT6 := Lib.hid ((HE5.out.iter_set (List.mem_cons_self ..) 4 (.iface q (.pointer (some ⟨c, 0, none⟩)))).trans HT3.out)
                        have HG6 := Lib.hid ((HE5.out.iter_set (List.mem_cons_of_mem _ HAP.out) 4 (.iface q (.pointer (some ⟨c, 0, none⟩)))).trans HG3.out)
                        go_wp2_with fail
                        go_roundw
                        case rel => exact ⟨pos + 1, by omega, HT6.out, HG6.out, .inr ⟨⟨pos, Nat.lt_succ_self _, HC2.out⟩, x, r, .iface q (.pointer (some ⟨c, 0, none⟩)), ⟨mk, mt, some ⟨ab, ao + 3, none⟩, mcp - 1, r⟩, rfl, rfl, rfl, HE6.out⟩⟩
                        case measure =>
                          rw [hpos0.out, iterPos_of HT6.out]
                          omega
                  · have hc2 : ((chr tx pos : Int) == 109) = false := by simp; omega
                    have HC2 := Lib.hid hc
                    clear hc
                    go_wp2_with fail
                    go_roundw
                    case rel =>
                      refine ⟨pos + 1, by omega, HT.out, HG.out, .inl ⟨HN.out.imp (fun h p hp => ?_) id, rfl, HE4.out⟩⟩
                      by_cases hpp : p = pos
                      · exact hpp ▸ HC2.out
                      · exact h p (by omega)
                    case measure =>
                      rw [hpos0.out, iterPos_of HT.out]
                      omega
                · have hne : chr tx pos ≠ 109 := fun e => by have := HU.out p0 pos (by omega) hp (hp1.trans e.symm); omega
                  have hc2 : ((chr tx pos : Int) == 109) = false := by simp; omega
                  have hE4 := hE3.iterAt (List.mem_cons_self ..) tx (pos + 1)
                  obtain ⟨W2, hW2⟩ : ∃ W2, W2 = wr.iterAt g3 tx (pos + 1) := ⟨_, rfl⟩
                  rw [← hW2] at hnx hit2 hitg2 hE4
                  have HY := Lib.hid (And.intro hp0 hp1)
                  have HK := Lib.hid (And.intro hks hks')
                  have HE4 := Lib.hid hE4
                  have HT := Lib.hid hit2
                  have HG := Lib.hid hitg2
                  clear hW2 hE3 hE4 hit2 hitg2 hit hitg hch hp0 hp1 hks hks' hne
                  go_wp2_with fail
                  go_roundw
                  case rel => exact ⟨pos + 1, by omega, HT.out, HG.out, .inr ⟨⟨p0, Nat.lt_succ_of_lt HY.out.1, HY.out.2⟩, x, r, v, m', HK.out.1, HK.out.2, rfl, HE4.out⟩⟩
                  case measure =>
                    rw [hpos0.out, iterPos_of HT.out]
                    omega
              · have hpe : pos = tx.size := by omega
                have hnx : ∀ ty, (Instr.next (.pointer (some ⟨g3, 0, none⟩)) true ty).run Tryz.prog wr = _ := fun ty => Lib.run_next_end_at wr g3 tx pos ty hit hp
                subst hpe
                have HG := Lib.hid hitg
                rcases hS with ⟨hno, rfl, hE3⟩ | ⟨hyes, x, r, v, m', hks, hks', rfl, hE3⟩
                · have HN := Lib.hid hno
                  have HE3 := Lib.hid hE3
                  clear hno hE3 hit hitg
                  go_wp2_with fail
                  go_roundw
                  case rel => exact ⟨3, _, es, lo, hi, mx, mm, g3 :: ap, by omega, rfl, HG.out, List.mem_cons_of_mem _ HAP.out, HE3.out, .skipM HR.out HN.out⟩
                  case measure =>
                    rw [HPo.out, iterPos_of HG.out]
                    omega
                · have HY := Lib.hid hyes
                  have HK := Lib.hid (And.intro hks hks')
                  have HE3 := Lib.hid hE3
                  clear hyes hks hks' hE3 hit hitg
                  go_wp2_with fail
                  go_roundw
                  case rel => exact ⟨3, _, _, lo, hi, v, m', g3 :: ap, by omega, rfl, HG.out, List.mem_cons_of_mem _ HAP.out, HE3.out, .takeM HR.out HY.out HK.out.1 HK.out.2⟩
                  case measure =>
                    rw [HPo.out, iterPos_of HG.out]
                    omega
        · subst h3
          have hnx : ∀ ty, (Instr.next (.pointer (some ⟨g2, 0, none⟩)) true ty).run Tryz.prog wr = _ := fun ty => Lib.run_next_end_at wr g2 ⟨#[108, 104, 109]⟩ 3 ty hit (by decide)
          have HE := Lib.hid hE
          have HR := Lib.hid hR
          clear hE hR hit
          go_wp2_with fail
          (try simp only [Exit.inBlock, Exit.then])
          refine bodyPost_ret (results_none rfl _ _ _) rfl ?_
          exact ⟨rfl, j, es, lo, hi, mx, mm, ap, s, HS.out, HE.out, HR.out⟩
end Go.Proofs.YtjbhjbpamnoebaaGreatFmt

namespace Go.Proofs.YtjbhjbpamnoebaaGreatFmt
open Go.RowKit

theorem St.ends {W w w' : World} {bb : Nat} {ps : List Int} {n : Nd} {b : Nat} {cs cs' : Array Value} {j j' : Nat} {es0 es : List (Nat × Nd × Value)} {ap : List Nat} {m : Nd}
    (h : St W bb ps n b 114 cs j es0 w) (hE : ES w bb ps b cs' j' es ap m w') : St W bb ps n b 114 cs' j' (es0 ++ es) w' := by
  obtain ⟨hc, hb, hB, he0⟩ := h
  obtain ⟨k1, k2, k3, k4, k5, k6, k7⟩ := hE
  obtain ⟨c1, c2, c3, c4, c5, c6⟩ := hc
  have hs := k4.size
  have hws := c4.size
  have c2l := c2.lt
  refine ⟨⟨c1.keep (k4.block _ (by omega) (by omega) (by omega)), c2.keep (k4.block _ c2l (by omega) (by omega)), k1, ⟨k4.os.trans c4.os, k4.tape.trans c4.tape, k4.output.trans c4.output, Nat.le_trans c4.size hs, fun x hx hne => ?_⟩, c5,
    Nd.In.keep (fun p hp => World.cell?_of_block (k4.block p.block (by omega) (by omega) (by omega))) (Nat.le_refl _) n c6⟩, hb, k2, fun e he => ?_⟩
  · exact (k4.block x (by omega) (fun e => hne (congrArg some e)) (by omega)).trans (c4.block x hx hne)
  · rcases List.mem_append.1 he with he | he
    · obtain ⟨lo, hi, h1, h2, h3, h4⟩ := he0 e he
      exact ⟨lo, hi, h1, by omega, h3, ExR.keep (fun g hg => k4.block g (Nat.lt_of_lt_of_le hg.2 h2) (by have := hg.1; omega) (by have := hg.1; have := hg.2; omega)) (fun _ hs => hs) _ _ _ h4⟩
    · obtain ⟨lo, hi, h1, h2, h3, h4⟩ := k7 e he
      exact ⟨lo, hi, by omega, h2, .inl (by omega), h4⟩
end Go.Proofs.YtjbhjbpamnoebaaGreatFmt

namespace Go.Proofs.YtjbhjbpamnoebaaGreatFmt
open Go.RowKit

theorem chr_has {tx : ByteArray} {c : UInt8} : (∃ p, p < tx.size ∧ chr tx p = c.toNat) ↔ c ∈ tx.data.toList := by
  have hs : tx.size = tx.data.toList.length := by simp
  constructor
  · rintro ⟨p, hp, h⟩
    have hl : p < tx.data.toList.length := by omega
    unfold chr at h
    rw [List.getD_eq_getElem?_getD, List.getElem?_eq_getElem hl, Option.getD_some] at h
    rw [← UInt8.toNat_inj.1 h]
    exact List.getElem_mem hl
  · intro h
    obtain ⟨p, hp, rfl⟩ := List.getElem_of_mem h
    refine ⟨p, by omega, ?_⟩
    unfold chr
    rw [List.getD_eq_getElem?_getD, List.getElem?_eq_getElem hp, Option.getD_some]
theorem chr_no {tx : ByteArray} {c : UInt8} : (∀ p, p < tx.size → chr tx p ≠ c.toNat) ↔ c ∉ tx.data.toList := by
  rw [← chr_has]
  constructor
  · rintro h ⟨p, hp, he⟩
    exact h p hp he
  · intro h p hp he
    exact h ⟨p, hp, he⟩
theorem flag_all (tx : ByteArray) : flagAt tx tx.size = tx.data.toList.contains 115 := by
  unfold flagAt
  rw [List.take_of_length_le (by simp)]

theorem len2 {ks : List Nd} (h : ks.length = 2) : ∃ x y, ks = [x, y] := by
  match ks, h with
  | [x, y], _ => exact ⟨x, y, rfl⟩
theorem len3 {ks : List Nd} (h : ks.length = 3) : ∃ x y z, ks = [x, y, z] := by
  match ks, h with
  | [x, y, z], _ => exact ⟨x, y, z, rfl⟩
section
variable {tx : ByteArray} {s : Bool} {i j : Nat} {m0 m : Nd} {es : List (Nat × Nd × Value)} {lo hi mx : Value}
theorem inv1 (h : Run tx s i m0 1 j es lo hi mx m) : hi = .nilIface ∧ mx = .nilIface ∧
    (((108 ∉ tx.data.toList ∨ m0.ks = []) ∧ j = i ∧ es = [] ∧ lo = .nilIface ∧ m.ks = m0.ks) ∨ (108 ∈ tx.data.toList ∧ ∃ x r v, m0.ks = x :: r ∧ m.ks = r ∧ j = i + x.ntok ∧ es = [(i, x, v)] ∧ lo = v)) := by
  cases h with
  | skipL h hc =>
    cases h
    exact ⟨rfl, rfl, .inl ⟨hc.imp (fun h => chr_no.1 h) id, rfl, rfl, rfl, rfl⟩⟩
  | takeL h hc h1 h2 =>
    cases h
    exact ⟨rfl, rfl, .inr ⟨chr_has.1 hc, _, _, _, h1, h2, rfl, rfl, rfl⟩⟩
theorem inv2 (h : Run tx s i m0 2 j es lo hi mx m) : ∃ j1 es1 hi1 m1, Run tx s i m0 1 j1 es1 lo hi1 mx m1 ∧
    (((104 ∉ tx.data.toList ∨ m1.ks = []) ∧ j = j1 + 1 ∧ es = es1 ∧ hi = hi1 ∧ m.ks = m1.ks) ∨ (104 ∈ tx.data.toList ∧ ∃ x r v, m1.ks = x :: r ∧ m.ks = r ∧ j = j1 + 1 + x.ntok ∧ es = es1 ++ [(j1 + 1, x, v)] ∧ hi = v)) := by
  cases h with
  | skipH h hc => exact ⟨_, _, _, _, h, .inl ⟨hc.imp (fun h => chr_no.1 h) id, rfl, rfl, rfl, rfl⟩⟩
  | takeH h hc h1 h2 => exact ⟨_, _, _, _, h, .inr ⟨chr_has.1 hc, _, _, _, h1, h2, rfl, rfl, rfl⟩⟩
theorem inv3 (h : Run tx s i m0 3 j es lo hi mx m) : ∃ j1 es1 mx1 m1, Run tx s i m0 2 j1 es1 lo hi mx1 m1 ∧
    (((109 ∉ tx.data.toList ∨ m1.ks = []) ∧ j = j1 + (if s then 1 else 0) ∧ es = es1 ∧ mx = mx1 ∧ m.ks = m1.ks) ∨ (109 ∈ tx.data.toList ∧ ∃ x r v, m1.ks = x :: r ∧ m.ks = r ∧ j = j1 + (if s then 1 else 0) + x.ntok ∧ es = es1 ++ [(j1 + (if s then 1 else 0), x, v)] ∧ mx = v)) := by
  cases h with
  | skipM h hc => exact ⟨_, _, _, _, h, .inl ⟨hc.imp (fun h => chr_no.1 h) id, rfl, rfl, rfl, rfl⟩⟩
  | takeM h hc h1 h2 => exact ⟨_, _, _, _, h, .inr ⟨chr_has.1 hc, _, _, _, h1, h2, rfl, rfl, rfl⟩⟩
end

/-- The ends of a slice: what the loops made is what the text tells. -/
def EndsAre (w : World) (S : Nat → Prop) (P : Nat → Int) (l : List UInt8) (i : Nat) (rest : List Nd) (j : Nat) (lo hi mx : Value) : Prop :=
  ∃ us : List Value, ExL w S P (endStarts l i (rest.map Nd.ntok)) rest us ∧ j = i + (if l.contains 115 then 2 else 1) + ntokL rest ∧ ∀ v, lo = lowV l (v :: us) ∧ hi = highV l (v :: us) ∧ mx = maxV l (v :: us)
theorem ends_are {w : World} {S : Nat → Prop} {P : Nat → Int} {tx : ByteArray} {i : Nat} {m0 m : Nd} {j : Nat} {es : List (Nat × Nd × Value)} {lo hi mx : Value} (h : Run tx (tx.data.toList.contains 115) i m0 3 j es lo hi mx m)
    (hw : slN tx.data.toList = some m0.ks.length) (hx : ∀ e ∈ es, ExR w S P e.1 e.2.1 e.2.2) : EndsAre w S P tx.data.toList i m0.ks j lo hi mx := by
  obtain ⟨j2, es2, mx2, m2, h2, c3⟩ := inv3 h
  obtain ⟨j1, es1, hi1, m1, h1, c2⟩ := inv2 h2
  obtain ⟨rfl, rfl, c1⟩ := inv1 h1
  clear h h1 h2
  generalize tx.data.toList = l at *
  have hcase : (l = [] ∧ m0.ks = []) ∨ (l = [108] ∧ ∃ x, m0.ks = [x]) ∨ (l = [104] ∧ ∃ x, m0.ks = [x]) ∨ (l = [108, 104] ∧ ∃ x y, m0.ks = [x, y]) ∨ (l = [104, 109, 115] ∧ ∃ x y, m0.ks = [x, y]) ∨ (l = [108, 104, 109, 115] ∧ ∃ x y z, m0.ks = [x, y, z]) := by
    unfold slN at hw
    repeat' split at hw
    all_goals try (simp at hw)
    · exact .inl ⟨by assumption, List.length_eq_zero_iff.1 (by omega)⟩
    · exact .inr (.inl ⟨by assumption, List.length_eq_one_iff.1 (by omega)⟩)
    · exact .inr (.inr (.inl ⟨by assumption, List.length_eq_one_iff.1 (by omega)⟩))
    · exact .inr (.inr (.inr (.inl ⟨by assumption, len2 (by omega)⟩)))
    · exact .inr (.inr (.inr (.inr (.inl ⟨by assumption, len2 (by omega)⟩))))
    · exact .inr (.inr (.inr (.inr (.inr ⟨by assumption, len3 (by omega)⟩))))
  clear hw
  rcases hcase with ⟨rfl, hk⟩ | ⟨rfl, x, hk⟩ | ⟨rfl, x, hk⟩ | ⟨rfl, x, y, hk⟩ | ⟨rfl, x, y, hk⟩ | ⟨rfl, x, y, z, hk⟩
  · rcases c3 with ⟨d3, rfl, rfl, rfl, k3⟩ | ⟨d3, x3, r3, v3, k3, k3', rfl, rfl, rfl⟩ <;>
      rcases c2 with ⟨d2, rfl, rfl, rfl, k2⟩ | ⟨d2, x2, r2, v2, k2, k2', rfl, rfl, rfl⟩ <;>
      rcases c1 with ⟨d1, rfl, rfl, rfl, k1⟩ | ⟨d1, x1, r1, v1, k1, k1', rfl, rfl, rfl⟩ <;>
      first
        | (exfalso; simp_all; done)
        | skip
    refine ⟨[], ?_, ?_, fun u => ⟨rfl, rfl, rfl⟩⟩
    · rw [hk]
      exact trivial
    · rw [hk]
      simp [ntokL]
  · rcases c3 with ⟨d3, rfl, rfl, rfl, k3⟩ | ⟨d3, x3, r3, v3, k3, k3', rfl, rfl, rfl⟩ <;>
      rcases c2 with ⟨d2, rfl, rfl, rfl, k2⟩ | ⟨d2, x2, r2, v2, k2, k2', rfl, rfl, rfl⟩ <;>
      rcases c1 with ⟨d1, rfl, rfl, rfl, k1⟩ | ⟨d1, x1, r1, v1, k1, k1', rfl, rfl, rfl⟩ <;>
      first
        | (exfalso; simp_all; done)
        | skip
    rw [hk] at k1
    cases k1
    refine ⟨[lo], ?_, ?_, fun u => ⟨rfl, rfl, rfl⟩⟩
    · rw [hk]
      exact ⟨hx (_, x, lo) (by simp), trivial⟩
    · rw [hk]
      simp [ntokL]
      omega
  · rcases c3 with ⟨d3, rfl, rfl, rfl, k3⟩ | ⟨d3, x3, r3, v3, k3, k3', rfl, rfl, rfl⟩ <;>
      rcases c2 with ⟨d2, rfl, rfl, rfl, k2⟩ | ⟨d2, x2, r2, v2, k2, k2', rfl, rfl, rfl⟩ <;>
      rcases c1 with ⟨d1, rfl, rfl, rfl, k1⟩ | ⟨d1, x1, r1, v1, k1, k1', rfl, rfl, rfl⟩ <;>
      first
        | (exfalso; simp_all; done)
        | skip
    rw [k1, hk] at k2
    cases k2
    refine ⟨[hi], ?_, ?_, fun u => ⟨rfl, rfl, rfl⟩⟩
    · rw [hk]
      exact ⟨hx (_, x, hi) (by simp), trivial⟩
    · rw [hk]
      simp [ntokL]
  · rcases c3 with ⟨d3, rfl, rfl, rfl, k3⟩ | ⟨d3, x3, r3, v3, k3, k3', rfl, rfl, rfl⟩ <;>
      rcases c2 with ⟨d2, rfl, rfl, rfl, k2⟩ | ⟨d2, x2, r2, v2, k2, k2', rfl, rfl, rfl⟩ <;>
      rcases c1 with ⟨d1, rfl, rfl, rfl, k1⟩ | ⟨d1, x1, r1, v1, k1, k1', rfl, rfl, rfl⟩ <;>
      first
        | (exfalso; simp_all; done)
        | skip
    rw [hk] at k1
    cases k1
    rw [k1'] at k2
    cases k2
    refine ⟨[lo, hi], ?_, ?_, fun u => ⟨rfl, rfl, rfl⟩⟩
    · rw [hk]
      exact ⟨hx (_, x, lo) (by simp), hx (_, y, hi) (by simp), trivial⟩
    · rw [hk]
      simp [ntokL]
      omega
  · rcases c3 with ⟨d3, rfl, rfl, rfl, k3⟩ | ⟨d3, x3, r3, v3, k3, k3', rfl, rfl, rfl⟩ <;>
      rcases c2 with ⟨d2, rfl, rfl, rfl, k2⟩ | ⟨d2, x2, r2, v2, k2, k2', rfl, rfl, rfl⟩ <;>
      rcases c1 with ⟨d1, rfl, rfl, rfl, k1⟩ | ⟨d1, x1, r1, v1, k1, k1', rfl, rfl, rfl⟩ <;>
      first
        | (exfalso; simp_all; done)
        | skip
    rw [k1, hk] at k2
    cases k2
    rw [k2'] at k3
    cases k3
    refine ⟨[hi, mx], ?_, ?_, fun u => ⟨rfl, rfl, rfl⟩⟩
    · rw [hk]
      exact ⟨hx (_, x, hi) (by simp), hx (_, y, mx) (by simp), trivial⟩
    · rw [hk]
      simp [ntokL]
      omega
  · rcases c3 with ⟨d3, rfl, rfl, rfl, k3⟩ | ⟨d3, x3, r3, v3, k3, k3', rfl, rfl, rfl⟩ <;>
      rcases c2 with ⟨d2, rfl, rfl, rfl, k2⟩ | ⟨d2, x2, r2, v2, k2, k2', rfl, rfl, rfl⟩ <;>
      rcases c1 with ⟨d1, rfl, rfl, rfl, k1⟩ | ⟨d1, x1, r1, v1, k1, k1', rfl, rfl, rfl⟩ <;>
      first
        | (exfalso; simp_all; done)
        | skip
    rw [hk] at k1
    cases k1
    rw [k1'] at k2
    cases k2
    rw [k2'] at k3
    cases k3
    refine ⟨[lo, hi, mx], ?_, ?_, fun u => ⟨rfl, rfl, rfl⟩⟩
    · rw [hk]
      exact ⟨hx (_, x, lo) (by simp), hx (_, y, hi) (by simp), hx (_, z, mx) (by simp), trivial⟩
    · rw [hk]
      simp [ntokL]
      omega
end Go.Proofs.YtjbhjbpamnoebaaGreatFmt

namespace Go.Proofs.YtjbhjbpamnoebaaGreatFmt
open Go.RowKit

theorem slTexts {l : List UInt8} {k : Nat} (h : slN l = some k) : l = [] ∨ l = [108] ∨ l = [104] ∨ l = [108, 104] ∨ l = [104, 109, 115] ∨ l = [108, 104, 109, 115] := by
  unfold slN at h
  repeat' split at h
  all_goals simp_all
theorem slOk {tx : ByteArray} {k : Nat} (h : slN tx.data.toList = some k) : (∀ p, chr tx p < 128) ∧ ∀ p q, p < tx.size → q < tx.size → chr tx p = chr tx q → p = q := by
  have hs : tx.size = tx.data.toList.length := by simp
  rw [hs]
  unfold chr
  generalize tx.data.toList = l at h
  have hall : (∀ p, p < l.length → (l.getD p 0).toNat < 128) ∧ ∀ p, p < l.length → ∀ q, q < l.length → (l.getD p 0).toNat = (l.getD q 0).toNat → p = q := by
    rcases slTexts h with rfl | rfl | rfl | rfl | rfl | rfl <;> decide
  refine ⟨fun p => ?_, fun p q hp hq => hall.2 p hp q hq⟩
  by_cases hp : p < l.length
  · exact hall.1 p hp
  · rw [List.getD_eq_getElem?_getD, List.getElem?_eq_none (by omega)]
    decide
end Go.Proofs.YtjbhjbpamnoebaaGreatFmt

namespace Go.Proofs.YtjbhjbpamnoebaaGreatFmt
open Go.RowKit

set_option maxRecDepth 100000 in
theorem expr_slice_n (ps : List Int) (tx : ByteArray) (ad : Option Addr) (cp : Nat) (x : Nd) (rest : List Nd) (hcp : ¬ cp = 1) (IHx : EOf ps x) (IHr : ∀ k ∈ rest, EOf ps k) (hw : slN tx.data.toList = some rest.length) : EOf ps ⟨⟨#[115, 108, 105, 99, 101]⟩, tx, ad, cp, x :: rest⟩ := by
  intro W bb i hB hin
  have hinK := hin
  obtain ⟨⟨ab, ao, had⟩, hcp1, hcp2⟩ := ad_form hin
  have hcp3 : cp ≤ 9223372036854775807 := hcp2
  subst had
  clear hcp2
  have hr1 : rest.length + 1 ≤ 9223372036854775807 := by omega
  have hrI : (1 : Int) ≤ (rest.length : Int) + 1 := by omega
  have C0 : Ctx W bb ps ⟨⟨#[115, 108, 105, 99, 101]⟩, tx, (some ⟨ab, ao, none⟩), cp, x :: rest⟩ i ((W.alloc (.cells #[.pointer (some ⟨bb, 0, none⟩)] 250)).alloc (.cells #[.string ⟨#[115, 108, 105, 99, 101]⟩, .string tx, .slice (some ⟨ab, ao, none⟩) (rest.length + 1) cp] 24)) := Ctx.start hB hin
  show Calls _ _ #[_, .agg #[.string ⟨#[115, 108, 105, 99, 101]⟩, .string tx, .slice (some ⟨ab, ao, none⟩) (rest.length + 1) cp]] W _
  have cB := C0.cellB
  have cK := C0.cellK
  have HR := Lib.hid IHr
  have HW := Lib.hid hw
  clear hinK IHr hw
  have T0 := Lib.hid C0.st
  have Ix := Lib.hid IHx
  clear C0 IHx hB hin
  go_enter Tryz.func39, Tryz.ntmps39
  go_wp2_with fail
  clear cK
  have kS : ∀ j w, Ctx W bb ps ⟨⟨#[115, 108, 105, 99, 101]⟩, tx, (some ⟨ab, ao, none⟩), cp, x :: rest⟩ j w → w.cell? ⟨W.heap.size + 1, 2, none⟩ = some (.slice (some ⟨ab, ao, none⟩) (rest.length + 1) cp) := fun j w h => h.cellS
  have KS := Lib.hid kS
  clear kS
  go_region_held3 (fun w' => w'.cell? ⟨W.heap.size, 0, none⟩ = some (.pointer (some ⟨bb, 0, none⟩))) (first | with_reducible exact ((T2.out.ctx.alloc _).cellB) | with_reducible exact (T2.out.ctx.cellB) | with_reducible exact (T1.out.ctx.cellB) | with_reducible exact (T0.out.drew.ctx.cellB)) (first | (go_at_call 56; refine (kid_any ps _ W _ bb (i) T0.out.drew.ctx 0 x rfl Ix.out).mono ?_; rintro e w1 ⟨vx, rfl, hE, hB, hg⟩; obtain ⟨qx, cx, rfl⟩ := hE.form; have T1 := Lib.hid (T0.out.drew.kid hE hB hg); clear hE hB hg) | (go_at_call 57; refine (next_any _ bb ps (i + x.ntok) T1.out.ctx.bat).mono ?_; rintro e w2 ⟨rfl, hB, hg⟩; have T2 := Lib.hid (T1.out.next hB hg); clear hB hg))
  have T3 := Lib.hid (T2.out.box 114 #[.iface qx (.pointer (some ⟨cx, 0, none⟩)), int (posOf ps (i + x.ntok)), .nilIface, .nilIface, .nilIface, .bool false, int 0])
  have hsz3 := T2.out.ctx.size
  clear cB
  have cB := T3.out.ctx.cellB
  have cS := T2.out.ctx.cellS
  simp only [List.length_cons ] at cS
  go_wp2_with fail
  clear cB cS
  go_region_held3 (fun w' => w'.cell? ⟨W.heap.size, 0, none⟩ = some (.pointer (some ⟨bb, 0, none⟩)) ∧ w'.cell? ⟨W.heap.size + 1, 1, none⟩ = some (.string tx) ∧ w'.cell? ⟨W.heap.size + 1, 2, none⟩ = some (.slice (some ⟨ab, ao, none⟩) (rest.length + 1) cp)) (first | with_reducible exact ⟨T4.out.ctx.cellB, T4.out.ctx.cellT, KS.out _ _ T4.out.ctx⟩ | exact ⟨T3.out.drew.ctx.cellB, T3.out.drew.ctx.cellT, KS.out _ _ T3.out.drew.ctx⟩) (first | (go_at_call 59; refine (ends_any ps tx (slOk HW.out).1 (slOk HW.out).2 ⟨⟨#[115, 108, 105, 99, 101]⟩, tx, some ⟨ab, ao + 3, none⟩, cp - 1, rest⟩ HR.out _ bb _ (i + x.ntok + 1) _ _ _ T3.out.drew.ctx.bat (Nat.lt_trans (Nat.lt_trans T3.out.ctx.lt (Nat.lt_succ_self _)) T3.out.2.1) T3.out.drew.blk (tail_in T3.out.drew.ctx.in_)).mono ?_; rintro e w4 ⟨rfl, j, es, lo, hi, mx, mm, ap, s, hs, hE, hR⟩; have T4 := Lib.hid (T3.out.drew.ends hE); have HE := Lib.hid hE; have HRn := Lib.hid hR; have HS := Lib.hid hs; clear hE hR hs))
  have hz := T4.out.ctx.size
  have cB := T4.out.ctx.cellB
  go_wp2_with fail
  refine (next_any _ bb ps (j) T4.out.ctx.bat).mono ?_
  rintro e w5 ⟨rfl, hB, hg⟩
  have T5 := Lib.hid (T4.out.next hB hg)
  clear hB hg cB hz
  have hz := T5.out.ctx.size
  have cB := T5.out.ctx.cellB
  have ck := T5.out.cell 6
  have fk := T5.out.frozen 6
  simp at ck
  go_wp2_with fail
  have T6 := Lib.hid (T5.out.set_ 6 (int (posOf ps (j))))
  go_ret
  have hr := HRn.out
  rw [← HS.out, flag_all] at hr
  have hSf := HS.out
  rw [flag_all] at hSf
  subst hSf
  obtain ⟨us, hus, hj, hv⟩ := ends_are (w := _) (S := Rng W.heap.size _) (P := posOf ps) hr HW.out (fun e he => T6.out.ex (List.mem_append_right _ he))
  obtain ⟨rfl, rfl, rfl⟩ := hv (.iface qx (.pointer (some ⟨cx, 0, none⟩)))
  have hn : Nd.ntok ⟨⟨#[115, 108, 105, 99, 101]⟩, tx, (some ⟨ab, ao, none⟩), cp, x :: rest⟩ = (if tx.data.toList.contains 115 then 4 else 3) + (x.ntok + ntokL rest) := Nd.ntok_of 11 rfl
  have hjn : j + 1 = i + Nd.ntok ⟨⟨#[115, 108, 105, 99, 101]⟩, tx, (some ⟨ab, ao, none⟩), cp, x :: rest⟩ := by rw [hn, hj]; dsimp only; split <;> omega
  refine St.done T6.out hjn (ExR.mk 11 rfl (vs := .iface qx (.pointer (some ⟨cx, 0, none⟩)) :: us) ?_ ?_)
  · exact ⟨T6.out.ex (by simp), hus⟩
  · refine ⟨_, T6.out.own, rfl, ?_⟩
    have hjt : i + (ownTok 11 tx (x :: rest).length + ntokL (x :: rest)) - 1 = j := by have := Nd.ntok_of (tx := tx) (ad := some ⟨ab, ao, none⟩) (cp := cp) (ks := x :: rest) (kd := ⟨#[115, 108, 105, 99, 101]⟩) 11 rfl; omega
    rw [hjt]
    exact T6.out.blk

set_option maxRecDepth 100000 in
theorem expr_slice_1 (ps : List Int) (tx : ByteArray) (ad : Option Addr) (x : Nd) (IHx : EOf ps x) (hw : slN tx.data.toList = some 0) : EOf ps ⟨⟨#[115, 108, 105, 99, 101]⟩, tx, ad, 1, [x]⟩ := by
  intro W bb i hB hin
  have hinK := hin
  obtain ⟨⟨ab, ao, had⟩, hcp1, hcp2⟩ := ad_form hin
  subst had
  clear hcp2
  have C0 : Ctx W bb ps ⟨⟨#[115, 108, 105, 99, 101]⟩, tx, (some ⟨ab, ao, none⟩), 1, [x]⟩ i ((W.alloc (.cells #[.pointer (some ⟨bb, 0, none⟩)] 250)).alloc (.cells #[.string ⟨#[115, 108, 105, 99, 101]⟩, .string tx, .slice (some ⟨ab, ao, none⟩) 1 1] 24)) := Ctx.start hB hin
  show Calls _ _ #[_, .agg #[.string ⟨#[115, 108, 105, 99, 101]⟩, .string tx, .slice (some ⟨ab, ao, none⟩) 1 1]] W _
  have cB := C0.cellB
  have cK := C0.cellK
  have HW := Lib.hid hw
  clear hw hinK
  have T0 := Lib.hid C0.st
  have Ix := Lib.hid IHx
  clear C0 IHx hB hin
  go_enter Tryz.func39, Tryz.ntmps39
  go_wp2_with fail
  clear cK
  clear hcp1
  have kS : ∀ j w, Ctx W bb ps ⟨⟨#[115, 108, 105, 99, 101]⟩, tx, (some ⟨ab, ao, none⟩), 1, [x]⟩ j w → w.cell? ⟨W.heap.size + 1, 2, none⟩ = some (.slice (some ⟨ab, ao, none⟩) 1 1) := fun j w h => h.cellS
  have KS := Lib.hid kS
  clear kS
  go_region_held3 (fun w' => w'.cell? ⟨W.heap.size, 0, none⟩ = some (.pointer (some ⟨bb, 0, none⟩))) (first | with_reducible exact ((T2.out.ctx.alloc _).cellB) | with_reducible exact (T2.out.ctx.cellB) | with_reducible exact (T1.out.ctx.cellB) | with_reducible exact (T0.out.drew.ctx.cellB)) (first | (go_at_call 56; refine (kid_any ps _ W _ bb (i) T0.out.drew.ctx 0 x rfl Ix.out).mono ?_; rintro e w1 ⟨vx, rfl, hE, hB, hg⟩; obtain ⟨qx, cx, rfl⟩ := hE.form; have T1 := Lib.hid (T0.out.drew.kid hE hB hg); clear hE hB hg) | (go_at_call 57; refine (next_any _ bb ps (i + x.ntok) T1.out.ctx.bat).mono ?_; rintro e w2 ⟨rfl, hB, hg⟩; have T2 := Lib.hid (T1.out.next hB hg); clear hB hg))
  have T3 := Lib.hid (T2.out.box 114 #[.iface qx (.pointer (some ⟨cx, 0, none⟩)), int (posOf ps (i + x.ntok)), .nilIface, .nilIface, .nilIface, .bool false, int 0])
  have hsz3 := T2.out.ctx.size
  clear cB
  have cB := T3.out.ctx.cellB
  have cS := T2.out.ctx.cellS
  simp only [List.length_cons, List.length_nil, Nat.zero_add] at cS
  go_wp2_with fail
  clear cB cS
  go_region_held3 (fun w' => w'.cell? ⟨W.heap.size, 0, none⟩ = some (.pointer (some ⟨bb, 0, none⟩)) ∧ w'.cell? ⟨W.heap.size + 1, 1, none⟩ = some (.string tx) ∧ w'.cell? ⟨W.heap.size + 1, 2, none⟩ = some (.slice (some ⟨ab, ao, none⟩) 1 1)) (first | with_reducible exact ⟨T4.out.ctx.cellB, T4.out.ctx.cellT, KS.out _ _ T4.out.ctx⟩ | exact ⟨T3.out.drew.ctx.cellB, T3.out.drew.ctx.cellT, KS.out _ _ T3.out.drew.ctx⟩) (first | (go_at_call 59; refine (ends_any ps tx (slOk HW.out).1 (slOk HW.out).2 ⟨⟨#[115, 108, 105, 99, 101]⟩, tx, some ⟨ab, ao, none⟩, 0, []⟩ (fun k hk => by cases hk) _ bb _ (i + x.ntok + 1) _ _ _ T3.out.drew.ctx.bat (Nat.lt_trans (Nat.lt_trans T3.out.ctx.lt (Nat.lt_succ_self _)) T3.out.2.1) T3.out.drew.blk (nil_in _ _ _ _ _)).mono ?_; rintro e w4 ⟨rfl, j, es, lo, hi, mx, mm, ap, s, hs, hE, hR⟩; have T4 := Lib.hid (T3.out.drew.ends hE); have HE := Lib.hid hE; have HRn := Lib.hid hR; have HS := Lib.hid hs; clear hE hR hs))
  have hz := T4.out.ctx.size
  have cB := T4.out.ctx.cellB
  go_wp2_with fail
  refine (next_any _ bb ps (j) T4.out.ctx.bat).mono ?_
  rintro e w5 ⟨rfl, hB, hg⟩
  have T5 := Lib.hid (T4.out.next hB hg)
  clear hB hg cB hz
  have hz := T5.out.ctx.size
  have cB := T5.out.ctx.cellB
  have ck := T5.out.cell 6
  have fk := T5.out.frozen 6
  simp at ck
  go_wp2_with fail
  have T6 := Lib.hid (T5.out.set_ 6 (int (posOf ps (j))))
  go_ret
  have hr := HRn.out
  rw [← HS.out, flag_all] at hr
  have hSf := HS.out
  rw [flag_all] at hSf
  subst hSf
  obtain ⟨us, hus, hj, hv⟩ := ends_are (w := _) (S := Rng W.heap.size _) (P := posOf ps) hr HW.out (fun e he => T6.out.ex (List.mem_append_right _ he))
  obtain ⟨rfl, rfl, rfl⟩ := hv (.iface qx (.pointer (some ⟨cx, 0, none⟩)))
  have hn : Nd.ntok ⟨⟨#[115, 108, 105, 99, 101]⟩, tx, (some ⟨ab, ao, none⟩), 1, [x]⟩ = (if tx.data.toList.contains 115 then 4 else 3) + (x.ntok + ntokL ([] : List Nd)) := Nd.ntok_of 11 rfl
  have hjn : j + 1 = i + Nd.ntok ⟨⟨#[115, 108, 105, 99, 101]⟩, tx, (some ⟨ab, ao, none⟩), 1, [x]⟩ := by rw [hn, hj]; dsimp only; split <;> omega
  refine St.done T6.out hjn (ExR.mk 11 rfl (vs := .iface qx (.pointer (some ⟨cx, 0, none⟩)) :: us) ?_ ?_)
  · exact ⟨T6.out.ex (by simp), hus⟩
  · refine ⟨_, T6.out.own, rfl, ?_⟩
    have hjt : i + (ownTok 11 tx (x :: ([] : List Nd)).length + ntokL (x :: ([] : List Nd))) - 1 = j := by have := Nd.ntok_of (tx := tx) (ad := some ⟨ab, ao, none⟩) (cp := 1) (ks := x :: ([] : List Nd)) (kd := ⟨#[115, 108, 105, 99, 101]⟩) 11 rfl; omega
    rw [hjt]
    exact T6.out.blk
end Go.Proofs.YtjbhjbpamnoebaaGreatFmt
