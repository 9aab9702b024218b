/-
  spec.placer: its state; token.
  spec.placer.node: its state; its two functions.
  spec.placer.list: nodes with commas between.
  spec.placer.ends: the ends of a slice.
  spec.placer.node: what stands while its statements go by; how its span is kept and ended.
  spec.placer.node: its first region, as it keeps a span.
-/
import Derived.Test.YtjbhjbpamnoebaaGreatFmtL6
import Derived.Test.YtjbhjbpamnoebaaGreatFmtL2
import Derived.Test.YtjbhjbpamnoebaaGreatFmtL7
import Derived.Deep.RegionHeld3
namespace Go.Proofs.YtjbhjbpamnoebaaGreatFmt
open Go.RowKit

/-- What stays: the blocks of X. -/
def Fr (X : Nat → Prop) (w w' : World) : Prop := Below 0 w w' ∧ ∀ b, X b → w'.heap[b]? = w.heap[b]?
/-- The placer in block pb has given i of the places, the last token ended at e, and it has kept out; X: blocks that stay. -/
def PS (X : Nat → Prop) (pb : Nat) (ps : List Int) (i : Nat) (e : Int) (out : List (ByteArray × Int × Int)) (w : World) : Prop :=
  (¬ X pb ∧ (∀ b, b < pb → X b) ∧ ∀ b, X b → b < w.heap.size) ∧
  ∃ A n cap A2 c2, Blk w pb 61 #[.slice A n cap, .int .i64 e, .slice A2 out.length c2] ∧ n = (ps.drop i).length ∧ n ≤ cap ∧ cap ≤ maxLen ∧
    (∀ (j : Nat) (x : Int), (ps.drop i)[j]? = some x → ∃ g o, A = some ⟨g, o, none⟩ ∧ g < pb ∧ w.cell? ⟨g, o + j, none⟩ = some (.int .i64 x)) ∧
    w.ownsRow (pb + 1) 29 3 (.slice A2 out.length c2) out.length (flatP out) ∧ ∀ g, (Value.slice A2 out.length c2).ownBlock = some g → ¬ X g
section
variable {X Y : Nat → Prop} {pb i : Nat} {ps : List Int} {e : Int} {out : List (ByteArray × Int × Int)} {w w' w2 : World}
theorem Fr.refl (X : Nat → Prop) (w : World) : Fr X w w := ⟨Below.refl _ _, fun _ _ => rfl⟩
theorem Fr.trans (h : Fr X w w') (k : Fr X w' w2) : Fr X w w2 := ⟨h.1.trans k.1, fun b hb => (k.2 b hb).trans (h.2 b hb)⟩
theorem Fr.less (h : Fr Y w w') (hx : ∀ b, X b → Y b) : Fr X w w' := ⟨h.1, fun b hb => h.2 b (hx b hb)⟩
theorem Fr.of (hb : Below w.heap.size w w') (hx : ∀ b, X b → b < w.heap.size) : Fr X w w' := ⟨hb.mono (Nat.zero_le _), fun b h => hb.block b (hx b h)⟩
theorem Fr.below {B : Nat} (h : Fr X w w') (hx : ∀ b, b < B → X b) : Below B w w' := ⟨h.1.os, h.1.tape, h.1.output, h.1.size, fun b hb => h.2 b (hx b hb)⟩
theorem PS.lt (h : PS X pb ps i e out w) : pb < w.heap.size := by
  obtain ⟨_, A, n, cap, A2, c2, hb, _⟩ := h
  exact hb.lt
theorem PS.xlt (h : PS X pb ps i e out w) : ∀ b, X b → b < w.heap.size := h.1.2.2
theorem PS.next (h : PS X pb ps i e out w) (hb : Below w.heap.size w w') : PS X pb ps i e out w' := by
  have hl := h.lt
  obtain ⟨⟨h1, h2, h3⟩, A, n, cap, A2, c2, hblk, hn, hc, hm, hx, hown, hg⟩ := h
  have hs := hb.size
  refine ⟨⟨h1, h2, fun b hb => Nat.lt_of_lt_of_le (h3 b hb) hs⟩, A, n, cap, A2, c2, hblk.below hb hl, hn, hc, hm, fun j x hj => ?_, own_keep hown fun g _ hg => hb.block g hg, hg⟩
  obtain ⟨g, o, rfl, hg, hcell⟩ := hx j x hj
  exact ⟨g, o, rfl, hg, (hb.cell (p := ⟨g, o + j, none⟩) (Nat.lt_trans hg hl)).trans hcell⟩
theorem PS.alloc (h : PS X pb ps i e out w) (o : Obj) : PS X pb ps i e out (w.alloc o) := h.next (Below.al w o)
theorem PS.drew (h : PS X pb ps i e out w) : PS X pb ps i e out w.drew := h.next ((Below.refl _ _).drew)
/-- More blocks that stay: none of them the placer's or its row's. -/
theorem PS.more (h : PS X pb ps i e out w) (hx : ∀ b, X b → Y b) (hp : ¬ Y pb) (hlt : ∀ b, Y b → b < w.heap.size) (hr : ∀ b, Y b → ¬ X b → ∀ A2 c2, Blk w pb 61 #[A2, .int .i64 e, c2] → ∀ g, c2.ownBlock = some g → b ≠ g) : PS Y pb ps i e out w := by
  obtain ⟨⟨h1, h2, h3⟩, A, n, cap, A2, c2, hblk, hn, hc, hm, hcell, hown, hg⟩ := h
  refine ⟨⟨hp, fun b hb => hx b (h2 b hb), hlt⟩, A, n, cap, A2, c2, hblk, hn, hc, hm, hcell, hown, fun g hgo hY => ?_⟩
  exact hr g hY (hg g hgo) _ _ hblk g hgo rfl
theorem PS.less (h : PS Y pb ps i e out w) (hx : ∀ b, X b → Y b) (h2 : ∀ b, b < pb → X b) : PS X pb ps i e out w := by
  obtain ⟨⟨h1, _, h3⟩, A, n, cap, A2, c2, hblk, hn, hc, hm, hcell, hown, hg⟩ := h
  exact ⟨⟨fun h => h1 (hx _ h), h2, fun b hb => h3 b (hx b hb)⟩, A, n, cap, A2, c2, hblk, hn, hc, hm, hcell, hown, fun g hgo h => hg g hgo (hx g h)⟩
/-- A new block stays as well. -/
theorem PS.grow (h : PS X pb ps i e out w) (o : Obj) : PS (fun b => X b ∨ b = w.heap.size) pb ps i e out (w.alloc o) := by
  have hl := h.lt
  have h3 := h.xlt
  have hsz : (w.alloc o).heap.size = w.heap.size + 1 := World.size_alloc _ _
  obtain ⟨⟨h1, h2, _⟩, A, n, cap, A2, c2, hblk, hn, hc, hm, hcell, hown, hg⟩ := h.alloc o
  refine ⟨⟨fun h => h.elim h1 (fun h => by omega), fun b hb => .inl (h2 b hb), fun b hb => hb.elim (fun h => by have := h3 b h; omega) (fun h => by omega)⟩, A, n, cap, A2, c2, hblk, hn, hc, hm, hcell, hown, fun g hgo hY => hY.elim (hg g hgo) fun hgw => ?_⟩
  obtain ⟨_, A', n', cap', A2', c2', hblk', _, _, _, _, hown', _⟩ := h
  have he : some (Obj.cells #[Value.slice A n cap, .int .i64 e, .slice A2 out.length c2] 61 (0, 0)) = some (.cells #[Value.slice A' n' cap', .int .i64 e, .slice A2' out.length c2'] 61 (0, 0)) := hblk.symm.trans (hblk'.alloc o)
  have he' := Option.some.inj he
  simp only [Obj.cells.injEq, Array.mk.injEq, List.cons.injEq, Value.slice.injEq] at he'
  obtain ⟨⟨_, _, ⟨rfl, _, rfl⟩, _⟩, _⟩ := he'
  have := (own_ge hown' hgo).2
  omega
end
/-- Where the last token ends, behind the tokens l, the first of them number i. -/
def eT (P : Nat → Int) (i : Nat) (l : List ByteArray) (e : Int) : Int := if l = [] then e else P (i + l.length - 1) + lastLen l
theorem eT_app (P : Nat → Int) (i : Nat) (a b : List ByteArray) (e : Int) : eT P i (a ++ b) e = eT P (i + a.length) b (eT P i a e) := by
  unfold eT
  by_cases hb : b = []
  · subst hb
    simp
  · rw [if_neg (by simp [hb]), if_neg hb, last_app a hb, List.length_append, show i + (a.length + b.length) - 1 = i + a.length + b.length - 1 by omega]
theorem eT_one (P : Nat → Int) (i : Nat) (x : ByteArray) (e : Int) : eT P i [x] e = P i + x.size := by
  unfold eT
  rw [if_neg (by simp)]
  rfl
theorem eT_node (P : Nat → Int) (i : Nat) {n : Nd} (h : n.shapedB = true) (e : Int) : eT P i n.toks e = endOf P i n := by
  unfold eT endOf
  rw [if_neg (fun h' => by have := toks_pos h; rw [h'] at this; simp at this)]
/-- What a function of the placer leaves that takes the tokens l and keeps the spans s. -/
def TkPost (X : Nat → Prop) (pb : Nat) (ps : List Int) (i : Nat) (e : Int) (out : List (ByteArray × Int × Int)) (W : World) (l : List ByteArray) (s : List (ByteArray × Int × Int)) (r : Ending) (w : World) : Prop :=
  r = .returned (.tuple #[]) ∧ PS X pb ps (i + l.length) (eT (posOf ps) i l e) (out ++ s) w ∧ Fr X W w
theorem PS.step {X : Nat → Prop} {pb i : Nat} {ps : List Int} {e : Int} {out : List (ByteArray × Int × Int)} {w : World} {A2 : Option Addr} {c2 : Nat} {A : Option Addr} {n cap : Nat} (hX : ¬ X pb ∧ (∀ b, b < pb → X b) ∧ ∀ b, X b → b < w.heap.size) (hb : Blk w pb 61 #[.slice A n cap, .int .i64 e, .slice A2 out.length c2])
    (A' : Option Addr) (cap' : Nat) (e' : Int) (hn : n - 1 = (ps.drop (i + 1)).length) (hc : n - 1 ≤ cap') (hm : cap' ≤ maxLen)
    (hx : ∀ (j : Nat) (x : Int), (ps.drop (i + 1))[j]? = some x → ∃ g o, A' = some ⟨g, o, none⟩ ∧ g < pb ∧ w.cell? ⟨g, o + j, none⟩ = some (.int .i64 x))
    (hown : w.ownsRow (pb + 1) 29 3 (.slice A2 out.length c2) out.length (flatP out)) (hg : ∀ g, (Value.slice A2 out.length c2).ownBlock = some g → ¬ X g) :
    PS X pb ps (i + 1) e' out ((w.setCell ⟨pb, 0, none⟩ (.slice A' (n - 1) cap')).setCell ⟨pb, 1, none⟩ (.int .i64 e')) ∧ Fr X w ((w.setCell ⟨pb, 0, none⟩ (.slice A' (n - 1) cap')).setCell ⟨pb, 1, none⟩ (.int .i64 e')) := by
  have hk : ∀ b, b ≠ pb → ((w.setCell ⟨pb, 0, none⟩ (.slice A' (n - 1) cap')).setCell ⟨pb, 1, none⟩ (.int .i64 e')).heap[b]? = w.heap[b]? := fun b hb => (Below.heap_setCell _ _ _ _ hb).trans (Below.heap_setCell _ _ _ _ hb)
  have hblk := (hb.set_ 0 (.slice A' (n - 1) cap')).set_ 1 (.int .i64 e')
  have hsz : ((w.setCell ⟨pb, 0, none⟩ (.slice A' (n - 1) cap')).setCell ⟨pb, 1, none⟩ (.int .i64 e')).heap.size = w.heap.size := by simp [World.setCell]
  refine ⟨⟨⟨hX.1, hX.2.1, fun b hb => by rw [hsz]; exact hX.2.2 b hb⟩, A', n - 1, cap', A2, c2, by simpa using hblk, hn, hc, hm, fun j x hj => ?_, own_keep hown fun g hg1 _ => hk g (by omega), hg⟩, ⟨⟨rfl, rfl, rfl, by rw [hsz]; exact Nat.le_refl _, fun b hb => absurd hb (Nat.not_lt_zero _)⟩, fun b hb => hk b (fun h => hX.1 (h ▸ hb))⟩⟩
  obtain ⟨g, o, rfl, hg, hcell⟩ := hx j x hj
  exact ⟨g, o, rfl, hg, (World.cell?_of_block (a := ⟨g, o + j, none⟩) (hk g (by show g ≠ pb; omega))).trans hcell⟩
set_option maxRecDepth 100000 in
theorem token_any (X : Nat → Prop) (pb i : Nat) (ps : List Int) (hps : ∀ i, 0 ≤ posOf ps i ∧ posOf ps i ≤ 4611686018427387904) (e : Int) (out : List (ByteArray × Int × Int)) (w : World) (h : PS X pb ps i e out w) (hi : i < ps.length) (t : ByteArray) (ht : t.size ≤ 1048576) :
    Calls Tryz.prog 49 #[.pointer (some ⟨pb, 0, none⟩), .string t] w fun r w' => r = .returned (.int .i64 (posOf ps i)) ∧ PS X pb ps (i + 1) (posOf ps i + t.size) out w' ∧ Fr X w w' := by
  obtain ⟨hX, A, n, cap, A2, c2, hb, hn, hc, hm, hx, hown, hg⟩ := h
  have hd : ps.drop i = ps[i] :: ps.drop (i + 1) := List.drop_eq_getElem_cons hi
  have hx1 : ∀ (j : Nat) (x : Int), (ps.drop (i + 1))[j]? = some x → ∃ g o, A = some ⟨g, o, none⟩ ∧ g < pb ∧ w.cell? ⟨g, o + 1 + j, none⟩ = some (.int .i64 x) := fun j x hj => by
    obtain ⟨g, o, h1, h2, h3⟩ := hx (j + 1) x (by rw [hd]; exact hj)
    exact ⟨g, o, h1, h2, by rwa [show o + 1 + j = o + (j + 1) by omega]⟩
  obtain ⟨g, o, rfl, hgl, hcell⟩ := hx 0 ps[i] (by rw [hd]; rfl)
  have hp : posOf ps i = ps[i] := by simp [posOf, List.getD, hi]
  have hn1 : n = (ps.drop (i + 1)).length + 1 := by rw [hn, hd]; rfl
  have hn0 : 0 < n := by omega
  have hni : (0 : Int) < (n : Int) := by omega
  have hni1 : (1 : Int) ≤ (n : Int) := by omega
  have hmm : cap ≤ 9223372036854775807 := by unfold maxLen at hm; omega
  have hpi := hps i
  rw [hp] at hpi
  have c0 := hb.cell 0
  have f0 := hb.frozen 0
  have f1 : ∀ u, (w.setCell ⟨pb, 0, none⟩ u).frozen? ⟨pb, 1, none⟩ = false := fun u => (hb.set_ 0 u).frozen 1
  have c1 : ∀ u, (w.setCell ⟨pb, 0, none⟩ u).cell? ⟨pb, 1, none⟩ = some (.int .i64 e) := fun u => by
    have := (hb.set_ 0 u).cell 1
    simpa using this
  simp only [Nat.add_zero] at hcell
  simp at c0
  generalize ps[i] = x at hcell hp hpi
  have hw : IntKind.i64.wrap (x + t.size) = x + t.size := wrap_small _ (by omega) (by omega)
  have HP := Lib.hid hp
  have HN := Lib.hid hn1
  have HX := Lib.hid hx1
  have HB := Lib.hid (And.intro hb (And.intro hX (And.intro hown hg)))
  clear hp hn1 hx hx1 hb hn hd hX hown hg
  by_cases hcap : cap = 1
  · subst hcap
    obtain rfl : n = 1 := by omega
    go_enter Tryz.func49, Tryz.ntmps49
    go_wp2_with fail
    go_ret
    have hl : (ps.drop (i + 1)).length = 0 := by have := HN.out; omega
    obtain ⟨q1, q2⟩ := PS.step (i := i) (ps := ps) HB.out.2.1 HB.out.1 (some ⟨g, o, none⟩) 0 (x + t.size) (by omega) (by omega) (by omega) (fun j x hj => by
      rw [List.length_eq_zero_iff.1 hl] at hj
      cases hj) HB.out.2.2.1 HB.out.2.2.2
    exact ⟨by rw [HP.out]; rfl, by rw [HP.out]; exact q1, q2⟩
  · go_enter Tryz.func49, Tryz.ntmps49
    go_wp2_with fail
    go_ret
    obtain ⟨q1, q2⟩ := PS.step (i := i) (ps := ps) HB.out.2.1 HB.out.1 (some ⟨g, o + 1, none⟩) (cap - 1) (x + t.size) (by have := HN.out; omega) (by omega) (by omega) (fun j x hj => by
      obtain ⟨g', o', h1, h2, h3⟩ := HX.out j x hj
      cases h1
      exact ⟨g, o + 1, rfl, h2, h3⟩) HB.out.2.2.1 HB.out.2.2.2
    exact ⟨by rw [HP.out]; rfl, by rw [HP.out]; exact q1, q2⟩
end Go.Proofs.YtjbhjbpamnoebaaGreatFmt

namespace Go.Proofs.YtjbhjbpamnoebaaGreatFmt
open Go.RowKit

/-- The spans of a tree's nodes whose first token is number i. -/
def spansAt (P : Nat → Int) (i : Nat) (n : Nd) : List (ByteArray × Int × Int) := (n.pre i).map fun x => (x.1.kd, P x.2, endOf P x.2 x.1)
theorem spansAt_len (P : Nat → Int) (i : Nat) (n : Nd) : (spansAt P i n).length = n.kinds.length := by rw [spansAt, List.length_map, ← pre_kinds n i, List.length_map]
/-- In the call of node that began in W: the boxes of the placer and of the node, the placer's state, and what stood in W. -/
def NX (X : Nat → Prop) (W : World) (b : Nat) : Prop := X b ∨ b = W.heap.size ∨ b = W.heap.size + 1
def NC (W : World) (X : Nat → Prop) (pb : Nat) (ps : List Int) (n : Nd) (i : Nat) (e : Int) (out : List (ByteArray × Int × Int)) (w : World) : Prop :=
  PS (NX X W) pb ps i e out w ∧ Blk w W.heap.size 59 #[.pointer (some ⟨pb, 0, none⟩)] ∧ Blk w (W.heap.size + 1) 24 n.cells.toArray ∧ Fr X W w ∧ n.In w pb ∧ (∀ b, b < pb → X b)
section
variable {W w w' : World} {X : Nat → Prop} {pb i j : Nat} {ps : List Int} {n : Nd} {e e' : Int} {out out' : List (ByteArray × Int × Int)}
theorem NC.st_ (h : NC W X pb ps n i e out w) : PS (NX X W) pb ps i e out w := h.1
theorem NC.cB (h : NC W X pb ps n i e out w) : w.cell? ⟨W.heap.size, 0, none⟩ = some (.pointer (some ⟨pb, 0, none⟩)) := h.2.1.cell 0
theorem NC.c0 (h : NC W X pb ps n i e out w) : w.cell? ⟨W.heap.size + 1, 0, none⟩ = some (.string n.kd) := h.2.2.1.cell 0
theorem NC.c1 (h : NC W X pb ps n i e out w) : w.cell? ⟨W.heap.size + 1, 1, none⟩ = some (.string n.tx) := h.2.2.1.cell 1
theorem NC.c2 (h : NC W X pb ps n i e out w) : w.cell? ⟨W.heap.size + 1, 2, none⟩ = some (.slice n.ad n.ks.length n.cp) := h.2.2.1.cell 2
theorem NC.in_ (h : NC W X pb ps n i e out w) : n.In w pb := h.2.2.2.2.1
theorem NC.fr (h : NC W X pb ps n i e out w) : Fr X W w := h.2.2.2.1
theorem NC.size (h : NC W X pb ps n i e out w) : W.heap.size + 1 < w.heap.size := h.2.2.1.lt
theorem NC.to (h : NC W X pb ps n i e out w) (hp : PS (NX X W) pb ps j e' out' w') (hf : Fr (NX X W) w w') : NC W X pb ps n j e' out' w' := by
  obtain ⟨h1, h2, h3, h4, h5, h6⟩ := h
  exact ⟨hp, h2.keep (hf.2 _ (.inr (.inl rfl))), h3.keep (hf.2 _ (.inr (.inr rfl))), h4.trans (hf.less fun b hb => .inl hb), h5.below (hf.below (B := pb) fun b hb => .inl (h6 b hb)) (Nat.le_refl _), h6⟩
theorem NC.next (h : NC W X pb ps n i e out w) (hb : Below w.heap.size w w') : NC W X pb ps n i e out w' := h.to (h.1.next hb) (.of hb h.1.xlt)
theorem NC.alloc (h : NC W X pb ps n i e out w) (o : Obj) : NC W X pb ps n i e out (w.alloc o) := h.next (Below.al w o)
theorem NC.drew (h : NC W X pb ps n i e out w) : NC W X pb ps n i e out w.drew := h.next ((Below.refl _ _).drew)
theorem NC.start (h : PS X pb ps i e out W) (hin : n.In W pb) : NC W X pb ps n i e out ((W.alloc (.cells #[.pointer (some ⟨pb, 0, none⟩)] 59)).alloc (.cells n.cells.toArray 24)) := by
  have hsz : (W.alloc (.cells #[.pointer (some ⟨pb, 0, none⟩)] 59)).heap.size = W.heap.size + 1 := World.size_alloc _ _
  have hb : Below W.heap.size W ((W.alloc (.cells #[.pointer (some ⟨pb, 0, none⟩)] 59)).alloc (.cells n.cells.toArray 24)) := ((Below.refl _ _).alloc (Nat.le_refl _) _).alloc (by rw [hsz]; omega) _
  refine ⟨?_, (Blk.new _ _ _).alloc _, ?_, .of hb h.xlt, hin.below (hb.mono (Nat.le_of_lt h.lt)) (Nat.le_refl _), h.1.2.1⟩
  · refine ((h.grow _).grow _).less (fun b hb => ?_) fun b hb => .inl (h.1.2.1 b hb)
    rw [hsz]
    rcases hb with hb | hb | hb
    · exact .inl (.inl hb)
    · exact .inl (.inr hb)
    · exact .inr hb
  · have := Blk.new (W.alloc (.cells #[.pointer (some ⟨pb, 0, none⟩)] 59)) 24 n.cells.toArray
    rwa [hsz] at this
end
/-- What a call within node leaves that takes the tokens l and keeps the spans s. -/
def NCPost (W : World) (X : Nat → Prop) (pb : Nat) (ps : List Int) (n : Nd) (i : Nat) (e : Int) (out : List (ByteArray × Int × Int)) (l : List ByteArray) (s : List (ByteArray × Int × Int)) (r : Ending) (w : World) : Prop :=
  r = .returned (.tuple #[]) ∧ NC W X pb ps n (i + l.length) (eT (posOf ps) i l e) (out ++ s) w
/-- The contract of node at a tree. -/
def PNOf (ps : List Int) (n : Nd) : Prop := ∀ (X : Nat → Prop) (pb i : Nat) (e : Int) (out : List (ByteArray × Int × Int)) (W : World), PS X pb ps i e out W → n.In W pb → n.shapedB = true → n.shortB = true → n.size ≤ 400 →
  i + n.toks.length ≤ ps.length → out.length + n.kinds.length ≤ 5000 → Calls Tryz.prog 28 #[.pointer (some ⟨pb, 0, none⟩), n.val] W (TkPost X pb ps i e out W n.toks (spansAt (posOf ps) i n))
def Okp (ps : List Int) : Prop := ∀ i, 0 ≤ posOf ps i ∧ posOf ps i ≤ 4611686018427387904
set_option maxRecDepth 100000 in
theorem t_any (X : Nat → Prop) (pb i : Nat) (ps : List Int) (hps : Okp ps) (e : Int) (out : List (ByteArray × Int × Int)) (w : World) (h : PS X pb ps i e out w) (bp : Nat) (hX : X bp) (hbp : Blk w bp 59 #[.pointer (some ⟨pb, 0, none⟩)])
    (A : Option Addr) (cap : Nat) (l : List ByteArray) (hT : ∀ (j : Nat) (x : ByteArray), l[j]? = some x → ∃ g, A = some ⟨g, 0, none⟩ ∧ X g ∧ w.cell? ⟨g, j, none⟩ = some (.string x)) (hi : i + l.length ≤ ps.length) (hl5 : l.length ≤ 5000) (hs : ∀ x ∈ l, x.size ≤ 1048576) (k : Nat) (hk : k = l.length) :
    Calls Tryz.prog 48 #[.slice A k cap, .pointer (some ⟨bp, 0, none⟩)] w (TkPost X pb ps i e out w l []) := by
  subst hk
  have H0 := Lib.hid (And.intro h (And.intro hX (And.intro hbp (And.intro hT hs))))
  have HP := Lib.hid hps
  clear h hX hbp hT hs hps
  go_enter Tryz.func48, Tryz.ntmps48
  have hM : l.length ≤ 9223372036854775807 := by omega
  go_wp2_with fail
  go_loopw [7] (fun i' wr => ∃ j : Nat, i' = .int .i64 j ∧ j ≤ l.length ∧ PS X pb ps (i + j) (eT (posOf ps) i (l.take j) e) out wr ∧ Fr X w wr) (fun i' _ => l.length - (intOf i').toNat)
  case atStart => exact ⟨0, rfl, Nat.zero_le _, H0.out.1, Fr.refl _ _⟩
  case round =>
    obtain ⟨j, rfl, hj, hS, hF⟩ := hrel
    have HS := Lib.hid (And.intro hS hF)
    by_cases hlt : j < l.length
    · have hj0 : l[j]? = some l[j] := List.getElem?_eq_getElem hlt
      have hmem := List.getElem_mem hlt
      have htk : l.take (j + 1) = l.take j ++ [l[j]] := by rw [List.take_add_one, hj0]; rfl
      have hln : (l.take j).length = j := by rw [List.length_take]; omega
      obtain ⟨g, hA, hg, hc⟩ := H0.out.2.2.2.1 j _ hj0
      have hsx := H0.out.2.2.2.2 _ hmem
      generalize l[j] = x at hj0 hc hsx htk
      have hcw := (World.cell?_of_block (a := ⟨g, j, none⟩) (hF.2 g hg)).trans hc
      have hbw := (H0.out.2.2.1.keep (hF.2 _ H0.out.2.1)).cell0
      subst hA
      have HK := Lib.hid (And.intro htk hln)
      clear hS hF hc hj0 hmem hg htk hln
      go_wp2_with fail
      refine (token_any X pb (i + j) ps HP.out _ out wr HS.out.1 (by omega) x hsx).mono ?_
      rintro e2 w2 ⟨rfl, h1, h2⟩
      have HR := Lib.hid (And.intro h1 h2)
      clear h1 h2 hcw hbw
      go_wp2_with fail
      go_roundw
      case rel => exact ⟨j + 1, by go_num, by omega, by rw [HK.out.1, eT_app, eT_one, HK.out.2, ← Nat.add_assoc]; exact HR.out.1, HS.out.2.trans HR.out.2⟩
      case measure => simp [intOf]; omega
    · have hje : l.take j = l := List.take_of_length_le (by omega)
      obtain rfl : j = l.length := by omega
      rw [hje] at HS
      clear hS hF hje
      go_wp2_with fail
      (try simp only [Exit.inBlock, Exit.then])
      refine bodyPost_ret (results_none rfl _ _ _) rfl ?_
      exact ⟨rfl, by rw [List.append_nil]; exact HS.out.1, HS.out.2⟩
section
variable {W w : World} {X : Nat → Prop} {pb i : Nat} {ps : List Int} {n : Nd} {e : Int} {out : List (ByteArray × Int × Int)}
theorem NC.t1 (C : NC W X pb ps n i e out w) (hps : Okp ps) (x : ByteArray) (hx : x.size ≤ 1048576) (hi : i + 1 ≤ ps.length) : Calls Tryz.prog 48 #[.slice (some ⟨w.heap.size, 0, none⟩) 1 1, .pointer (some ⟨W.heap.size, 0, none⟩)] (w.alloc (.cells #[.string x] 9)) (NCPost W X pb ps n i e out [x] []) := by
  have hr := Blk.new w 9 #[.string x]
  have h := t_any _ pb i ps hps e out _ (C.st_.grow (.cells #[.string x] 9)) W.heap.size (.inl (.inr (.inl rfl))) (C.2.1.alloc _) (some ⟨w.heap.size, 0, none⟩) 1 [x]
    (fun j y hj => by
      rcases j with _ | j
      · obtain rfl : x = y := by simpa using hj
        exact ⟨_, rfl, .inr rfl, hr.cell 0⟩
      · simp at hj) hi (by simp) (by simp [hx]) 1 rfl
  refine h.mono ?_
  rintro r w' ⟨rfl, h1, h2⟩
  have hl : ∀ b, NX X W b → NX X W b ∨ b = w.heap.size := fun b hb => .inl hb
  exact ⟨rfl, (C.alloc _).to (h1.less hl C.st_.1.2.1) (h2.less hl)⟩
theorem NC.t2 (C : NC W X pb ps n i e out w) (hps : Okp ps) (x y : ByteArray) (hx : x.size ≤ 1048576) (hy : y.size ≤ 1048576) (hi : i + 2 ≤ ps.length) : Calls Tryz.prog 48 #[.slice (some ⟨w.heap.size, 0, none⟩) 2 2, .pointer (some ⟨W.heap.size, 0, none⟩)] (w.alloc (.cells #[.string x, .string y] 9)) (NCPost W X pb ps n i e out [x, y] []) := by
  have hr := Blk.new w 9 #[.string x, .string y]
  have h := t_any _ pb i ps hps e out _ (C.st_.grow (.cells #[.string x, .string y] 9)) W.heap.size (.inl (.inr (.inl rfl))) (C.2.1.alloc _) (some ⟨w.heap.size, 0, none⟩) 2 [x, y]
    (fun j z hj => by
      rcases j with _ | _ | j
      · obtain rfl : x = z := by simpa using hj
        exact ⟨_, rfl, .inr rfl, hr.cell 0⟩
      · obtain rfl : y = z := by simpa using hj
        exact ⟨_, rfl, .inr rfl, hr.cell 1⟩
      · simp at hj) hi (by simp) (by simp [hx, hy]) 2 rfl
  refine h.mono ?_
  rintro r w' ⟨rfl, h1, h2⟩
  have hl : ∀ b, NX X W b → NX X W b ∨ b = w.heap.size := fun b hb => .inl hb
  exact ⟨rfl, (C.alloc _).to (h1.less hl C.st_.1.2.1) (h2.less hl)⟩
theorem kid_keepP (w : World) {a1 a2 a3 a4 a5 : Addr} {u1 u2 u3 u4 u5 : Value} (c1 : w.cell? a1 = some u1) (c2 : w.cell? a2 = some u2) (c3 : w.cell? a3 = some u3) (c4 : w.cell? a4 = some u4) (c5 : w.cell? a5 = some u5) :
    w.drew.cell? a1 = some u1 ∧ w.drew.cell? a2 = some u2 ∧ w.drew.cell? a3 = some u3 ∧ w.drew.cell? a4 = some u4 ∧ w.drew.cell? a5 = some u5 := ⟨c1, c2, c3, c4, c5⟩
/-- What is told of a node below. -/
def KidIs (n k : Nd) : Prop := k ∈ n.ks
theorem kid_keepN {w1 : World} {b o1 o2 o3 : Nat} {u3 u4 u5 : Value} (hb : b < pb) (C : NC W X pb ps n i e out w) (hf : Fr (NX X W) w.drew w1)
    (c3 : w.cell? ⟨b, o1, none⟩ = some u3) (c4 : w.cell? ⟨b, o2, none⟩ = some u4) (c5 : w.cell? ⟨b, o3, none⟩ = some u5) (ad : Option Addr) (hc : w.cell? ⟨W.heap.size + 1, 2, none⟩ = some (.slice ad n.ks.length n.cp)) :
    w1.cell? ⟨W.heap.size, 0, none⟩ = some (.pointer (some ⟨pb, 0, none⟩)) ∧ w1.cell? ⟨W.heap.size + 1, 2, none⟩ = some (.slice ad n.ks.length n.cp) ∧ w1.cell? ⟨b, o1, none⟩ = some u3 ∧ w1.cell? ⟨b, o2, none⟩ = some u4 ∧ w1.cell? ⟨b, o3, none⟩ = some u5 :=
  have hx : NX X W b := .inl (C.2.2.2.2.2 b hb)
  ⟨(World.cell?_of_block (a := ⟨W.heap.size, 0, none⟩) (hf.2 _ (.inr (.inl rfl)))).trans C.cB, (World.cell?_of_block (a := ⟨W.heap.size + 1, 2, none⟩) (hf.2 _ (.inr (.inr rfl)))).trans hc,
    (World.cell?_of_block (a := ⟨b, o1, none⟩) (hf.2 b hx)).trans c3, (World.cell?_of_block (a := ⟨b, o2, none⟩) (hf.2 b hx)).trans c4, (World.cell?_of_block (a := ⟨b, o3, none⟩) (hf.2 b hx)).trans c5⟩
set_option maxRecDepth 100000 in
theorem NC.kid (C : NC W X pb ps n i e out w) (j : Nat) (k : Nd) (hk : n.ks[j]? = some k) (IH : PNOf ps k) (hs : k.shapedB = true) (hsh : k.shortB = true) (hz : k.size ≤ 400) (hi : i + k.toks.length ≤ ps.length) (ho : out.length + k.kinds.length ≤ 5000) :
    Calls Tryz.prog 50 #[.int .i64 j, .pointer (some ⟨W.heap.size, 0, none⟩), .pointer (some ⟨W.heap.size + 1, 0, none⟩)] w (NCPost W X pb ps n i e out k.toks (spansAt (posOf ps) i k)) := by
  have hjl : (j : Int) < (n.ks.length : Int) := by have := (List.getElem?_eq_some_iff.1 hk).1; omega
  have hj0 : (0 : Int) ≤ (j : Int) := by omega
  have cB := C.cB
  have cS := C.c2
  obtain ⟨hl, hm, hall⟩ := Nd.In_iff.1 C.in_
  obtain ⟨⟨b, o, had, hb, c1, c2, c3⟩, hkin⟩ := hall j k hk
  rw [had] at cS
  have hlm : n.ks.length ≤ 9223372036854775807 := by unfold maxLen at hm; omega
  have hc0 : Calls Tryz.prog 28 #[.pointer (some ⟨pb, 0, none⟩), .agg #[.string k.kd, .string k.tx, .slice k.ad k.ks.length k.cp]] w.drew (TkPost (NX X W) pb ps i e out w.drew k.toks (spansAt (posOf ps) i k)) := IH _ pb i e out w.drew C.st_.drew (in_drew hkin) hs hsh hz hi ho
  have HC := Lib.hid hc0
  have CC := Lib.hid C
  clear C hk had hall hkin IH hm hc0 hs hsh hi ho
  go_enter Tryz.func50, Tryz.ntmps50
  go_wp2_with fail
  go_region_held3 (fun w' => w'.cell? ⟨W.heap.size, 0, none⟩ = some (.pointer (some ⟨pb, 0, none⟩)) ∧ w'.cell? ⟨W.heap.size + 1, 2, none⟩ = some (.slice (some ⟨b, o, none⟩) n.ks.length n.cp) ∧ w'.cell? ⟨b, o + j * 3, none⟩ = some (.string k.kd) ∧ w'.cell? ⟨b, o + j * 3 + 1, none⟩ = some (.string k.tx) ∧ w'.cell? ⟨b, o + j * 3 + 2, none⟩ = some (.slice k.ad k.ks.length k.cp)) (first | exact kid_keepN hb CC.out hg.out.2 c1 c2 c3 _ cS | exact kid_keepP w cB cS c1 c2 c3)
    (first | (go_at_call 28; refine HC.out.mono ?_; rintro e2 w1 ⟨rfl, h1, h2⟩; have hg := Lib.hid (And.intro h1 h2); clear h1 h2))
  go_wp2_with fail
  refine bodyPost_ret (results_none rfl _ _ _) rfl ?_
  exact ⟨rfl, CC.out.drew.to hg.out.1 hg.out.2⟩
end
end Go.Proofs.YtjbhjbpamnoebaaGreatFmt

namespace Go.Proofs.YtjbhjbpamnoebaaGreatFmt
open Go.RowKit

/-- The spans of nodes with commas between, the first token number i. -/
def spC (P : Nat → Int) : Nat → List Nd → List (ByteArray × Int × Int)
  | _, [] => []
  | i, k :: ks => spansAt P i k ++ spC P (i + k.ntok + 1) ks
theorem spC_preL (P : Nat → Int) : ∀ (ks : List Nd) (i : Nat), (preL (commas i (ks.map Nd.ntok)) ks).map (fun x => (x.1.kd, P x.2, endOf P x.2 x.1)) = spC P i ks
  | [], _ => by rw [preL]; rfl
  | k :: ks, i => by
    rw [List.map_cons, commas, preL, spC, List.map_append, ← spC_preL P ks]
    rfl
theorem spC_snoc (P : Nat → Int) (x : Nd) : ∀ (l : List Nd) (_ : ∀ k ∈ l, k.shapedB = true) (i : Nat), spC P i (l ++ [x]) = spC P i l ++ spansAt P (i + (commaT (l.map Nd.toks)).length + (if l = [] then 0 else 1)) x
  | [], _, i => by simp [spC, commaT]
  | [a], h, i => by
    have ha := toks_len a (h a (by simp))
    simp [spC, commaT, ha]
  | a :: b :: l, h, i => by
    have ha := toks_len a (h a (by simp))
    have hr := spC_snoc P x (b :: l) (fun k hk => h k (List.mem_cons_of_mem _ hk)) (i + a.ntok + 1)
    have e : i + a.ntok + 1 + (commaT ((b :: l).map Nd.toks)).length + (if b :: l = [] then 0 else 1) = i + (commaT ((a :: b :: l).map Nd.toks)).length + (if a :: b :: l = [] then 0 else 1) := by
      rw [if_neg (by simp), if_neg (by simp), List.map_cons, List.map_cons, List.map_cons, commaT, List.length_append, List.length_append, List.length_singleton, ha]
      omega
    show spansAt P i a ++ spC P (i + a.ntok + 1) ((b :: l) ++ [x]) = (spansAt P i a ++ spC P (i + a.ntok + 1) (b :: l)) ++ _
    rw [hr, List.append_assoc, e]
/-- What list has kept after so many nodes. -/
theorem spC_next (P : Nat → Int) {ks : List Nd} (hs : ∀ k ∈ ks, k.shapedB = true) {i j : Nat} {x : Nd} (h : ks[j]? = some x) : spC P i (ks.take (j + 1)) = spC P i (ks.take j) ++ spansAt P (i + (cm ks j).length + (if j = 0 then 0 else 1)) x := by
  have hl : j < ks.length := (List.getElem?_eq_some_iff.1 h).1
  rw [List.take_add_one, h, Option.toList_some, spC_snoc P x _ (fun k hk => hs k (List.mem_of_mem_take hk))]
  have e : (if ks.take j = [] then 0 else 1) = (if j = 0 then 0 else 1) := by
    rcases Nat.eq_zero_or_pos j with rfl | h0
    · simp
    · have hne : ks.take j ≠ [] := fun he => by
        have := congrArg List.length he
        rw [List.length_take, List.length_nil] at this
        omega
      rw [if_neg hne, if_neg (by omega)]
  rw [e]
  rfl
theorem spC_len (P : Nat → Int) : ∀ (ks : List Nd) (i : Nat), (spC P i ks).length = (ks.map fun k => k.kinds.length).sum
  | [], _ => rfl
  | k :: ks, i => by rw [spC, List.length_append, spansAt_len, spC_len P ks, List.map_cons, List.sum_cons]
theorem sum_take (f : Nd → Nat) : ∀ (ks : List Nd) (j : Nat), ((ks.take j).map f).sum ≤ (ks.map f).sum
  | [], j => by simp
  | k :: ks, 0 => by simp
  | k :: ks, j + 1 => by
    have := sum_take f ks j
    rw [List.take_succ_cons, List.map_cons, List.map_cons, List.sum_cons, List.sum_cons]
    omega
theorem spC_le (P : Nat → Int) (ks : List Nd) (i j : Nat) : (spC P i (ks.take j)).length ≤ (spC P i ks).length := by
  rw [spC_len, spC_len]
  exact sum_take _ ks j
theorem lenL_take : ∀ (ts : List (List ByteArray)) (j : Nat), lenL (ts.take j) ≤ lenL ts
  | [], j => by simp
  | t :: ts, 0 => by simp [lenL]
  | t :: ts, j + 1 => by
    have := lenL_take ts j
    simp only [lenL, List.take_succ_cons, List.map_cons, List.sum_cons] at this ⊢
    omega
theorem cm_all (ks : List Nd) (j : Nat) : (cm ks j).length ≤ (commaT (ks.map Nd.toks)).length := by
  have h1 := lenL_take (ks.map Nd.toks) j
  rw [cm, comma_len, comma_len, List.map_take, List.length_take]
  omega
set_option maxHeartbeats 2000000 in
set_option maxRecDepth 100000 in
theorem plist_any (ps : List Int) (hps : Okp ps) (ks : List Nd) (IH : ∀ k ∈ ks, PNOf ps k) (hs : ∀ k ∈ ks, k.shapedB = true) (hsh : ∀ k ∈ ks, k.shortB = true) (hz : sizeL ks ≤ 400) (X : Nat → Prop) (pb i : Nat) (e : Int) (out : List (ByteArray × Int × Int)) (W : World) (h : PS X pb ps i e out W)
    (A : Option Addr) (cap : Nat) (hin : ∀ (j : Nat) (k : Nd), ks[j]? = some k → ElemAt W pb A j k ∧ k.In W pb) (hi : i + (commaT (ks.map Nd.toks)).length ≤ ps.length) (ho : out.length + (spC (posOf ps) i ks).length ≤ 5000) (k : Nat) (hk : k = ks.length) :
    Calls Tryz.prog 52 #[.pointer (some ⟨pb, 0, none⟩), .slice A k cap] W (TkPost X pb ps i e out W (commaT (ks.map Nd.toks)) (spC (posOf ps) i ks)) := by
  subst hk
  have hlen := sizeL_len ks
  have H0 := Lib.hid (And.intro IH (And.intro hs (And.intro hsh (And.intro hin (And.intro h hps)))))
  have HCL := Lib.hid (And.intro (cm_all ks) (And.intro (spC_le (posOf ps) ks i) (And.intro hi ho)))
  clear IH hs hsh hin h hi ho hps
  go_enter Tryz.func52, Tryz.ntmps52
  have hM : ks.length ≤ 9223372036854775807 := by omega
  go_wp2_with fail
  go_loopw [8] (fun i' wr => ∃ j : Nat, i' = .int .i64 j ∧ j ≤ ks.length ∧ PS X pb ps (i + (cm ks j).length) (eT (posOf ps) i (cm ks j) e) (out ++ spC (posOf ps) i (ks.take j)) wr ∧ Fr X W wr) (fun i' _ => ks.length - (intOf i').toNat)
  case atStart => exact ⟨0, rfl, Nat.zero_le _, by simpa [cm, commaT, spC, eT] using H0.out.2.2.2.2.1, Fr.refl _ _⟩
  case round =>
    obtain ⟨j, rfl, hj, hS, hF⟩ := hrel
    have HS := Lib.hid (And.intro hS hF)
    by_cases hlt : j < ks.length
    · have hj0 : ks[j]? = some ks[j] := List.getElem?_eq_getElem hlt
      have hmem := List.getElem_mem hlt
      obtain ⟨⟨b, o, hA, hb, e0, e1, e2⟩, hkin⟩ := H0.out.2.2.2.1 j _ hj0
      have hnx := cm_next hj0
      have hsn := spC_next (posOf ps) H0.out.2.1 (i := i) hj0
      have hle := HCL.out.1 (j + 1)
      have hlo := HCL.out.2.1 (j + 1)
      have hsz := sizeL_mem hmem
      generalize ks[j] = x at hj0 hmem e0 e1 e2 hkin hnx hsn hsz
      subst hA
      have hXb : X b := hS.1.2.1 b hb
      have f0 : wr.cell? ⟨b, o + j * 3, none⟩ = some (.string x.kd) := (World.cell?_of_block (a := ⟨b, o + j * 3, none⟩) (hF.2 b hXb)).trans e0
      have f1 : wr.cell? ⟨b, o + j * 3 + 1, none⟩ = some (.string x.tx) := (World.cell?_of_block (a := ⟨b, o + j * 3 + 1, none⟩) (hF.2 b hXb)).trans e1
      have f2 : wr.cell? ⟨b, o + j * 3 + 2, none⟩ = some (.slice x.ad x.ks.length x.cp) := (World.cell?_of_block (a := ⟨b, o + j * 3 + 2, none⟩) (hF.2 b hXb)).trans e2
      have hxin : x.In wr pb := hkin.below (hF.below hS.1.2.1) (Nat.le_refl _)
      have HX := Lib.hid (And.intro (H0.out.1 x hmem) (And.intro (H0.out.2.1 x hmem) (And.intro (H0.out.2.2.1 x hmem) hxin)))
      clear hj0 hmem e0 e1 e2 hkin hS hF hxin
      by_cases h0 : j = 0
      · subst h0
        simp only [Nat.zero_mul, Nat.add_zero] at f0 f1 f2
        have hc0 : cm ks 0 = [] := rfl
        rw [if_pos rfl, List.append_nil, hc0, List.nil_append] at hnx
        rw [if_pos rfl, Nat.add_zero, hc0, List.length_nil, Nat.add_zero] at hsn
        have hs0 : PS X pb ps i e out wr := by simpa [cm, commaT, spC, eT] using HS.out.1
        have hi' : i + x.toks.length ≤ ps.length := by have := HCL.out.2.2.1; rw [hnx] at hle; omega
        have ho' : out.length + x.kinds.length ≤ 5000 := by
          have := HCL.out.2.2.2
          rw [hsn, List.length_append, spansAt_len] at hlo
          omega
        have HP := Lib.hid (And.intro hnx (And.intro hsn hs0))
        clear hnx hsn hs0 hle hlo
        have HA := Lib.hid (HP.out.2.2.alloc (.cells #[.string x.kd, .string x.tx, .slice x.ad x.ks.length x.cp] 24))
        have HB1 := Lib.hid (Below.al wr (.cells #[.string x.kd, .string x.tx, .slice x.ad x.ks.length x.cp] 24))
        go_wp2_with fail
        refine (HX.out.1 X pb i e out _ HA.out (HX.out.2.2.2.below (HB1.out.mono (Nat.le_of_lt HP.out.2.2.lt)) (Nat.le_refl _)) HX.out.2.1 HX.out.2.2.1 (by omega) hi' ho').mono ?_
        rintro r w2 ⟨rfl, h1, h2⟩
        have HR := Lib.hid (And.intro h1 ((HS.out.2.trans (.of HB1.out HP.out.2.2.xlt)).trans h2))
        clear h1 h2 f0 f1 f2
        go_wp2_with fail
        go_roundw
        case rel => exact ⟨0 + 1, by go_num, by omega, by rw [HP.out.1, HP.out.2.1, show ks.take 0 = [] from rfl, spC, List.nil_append]; exact HR.out.1, HR.out.2⟩
        case measure => simp [intOf]; omega
      · have hjz : (j : Int) > 0 := by omega
        rw [if_neg h0] at hnx hsn
        have hi' : i + (cm ks j).length + 1 + x.toks.length ≤ ps.length := by
          have := HCL.out.2.2.1
          rw [hnx, List.length_append, List.length_append, List.length_singleton] at hle
          omega
        have ho' : (out ++ spC (posOf ps) i (ks.take j)).length + x.kinds.length ≤ 5000 := by
          have := HCL.out.2.2.2
          rw [hsn, List.length_append, spansAt_len] at hlo
          rw [List.length_append]
          omega
        have HP := Lib.hid (And.intro hnx hsn)
        clear hnx hsn hle hlo
        have HA := Lib.hid (HS.out.1.grow (.cells #[.string x.kd, .string x.tx, .slice x.ad x.ks.length x.cp] 24))
        have HB1 := Lib.hid (Below.al wr (.cells #[.string x.kd, .string x.tx, .slice x.ad x.ks.length x.cp] 24))
        have HBX := Lib.hid (Blk.new wr 24 #[.string x.kd, .string x.tx, .slice x.ad x.ks.length x.cp])
        go_wp2_with fail
        refine (token_any _ pb _ ps H0.out.2.2.2.2.2 _ _ _ HA.out (by omega) ⟨#[44]⟩ (by decide)).mono ?_
        rintro r w2 ⟨rfl, h1, h2⟩
        have hl : ∀ b, X b → X b ∨ b = wr.heap.size := fun b hb => .inl hb
        have hx2 := HBX.out.keep (h2.2 _ (.inr rfl))
        have g0 : w2.cell? ⟨wr.heap.size, 0, none⟩ = some (.string x.kd) := hx2.cell 0
        have g1 : w2.cell? ⟨wr.heap.size, 1, none⟩ = some (.string x.tx) := hx2.cell 1
        have g2 : w2.cell? ⟨wr.heap.size, 2, none⟩ = some (.slice x.ad x.ks.length x.cp) := hx2.cell 2
        have hfx : Fr X wr w2 := (Fr.of HB1.out HS.out.1.xlt).trans (h2.less hl)
        have HR := Lib.hid (And.intro (h1.less hl HS.out.1.1.2.1) (And.intro (HS.out.2.trans hfx) (HX.out.2.2.2.below (hfx.below HS.out.1.1.2.1) (Nat.le_refl _))))
        clear h1 h2 f0 f1 f2 hx2 hfx
        go_wp2_with fail
        refine (HX.out.1 X pb _ _ _ w2 HR.out.1 HR.out.2.2 HX.out.2.1 HX.out.2.2.1 (by omega) hi' ho').mono ?_
        rintro r w3 ⟨rfl, h1, h2⟩
        have HR3 := Lib.hid (And.intro h1 (HR.out.2.1.trans h2))
        clear h1 h2 g0 g1 g2
        go_wp2_with fail
        go_roundw
        case rel =>
          refine ⟨j + 1, by go_num, by omega, ?_, HR3.out.2⟩
          have h := HR3.out.1
          rw [HP.out.1, HP.out.2, eT_app, eT_app, eT_one, List.length_append, List.length_append, List.length_singleton, ← List.append_assoc, ← Nat.add_assoc, ← Nat.add_assoc]
          exact h
        case measure => simp [intOf]; omega
    · have hje : ks.take j = ks := List.take_of_length_le (by omega)
      have HJ := Lib.hid hje
      clear hS hF hje
      go_wp2_with fail
      (try simp only [Exit.inBlock, Exit.then])
      refine bodyPost_ret (results_none rfl _ _ _) rfl ?_
      have h := HS.out.1
      unfold cm at h
      rw [HJ.out] at h
      exact ⟨rfl, h, HS.out.2⟩
end Go.Proofs.YtjbhjbpamnoebaaGreatFmt

namespace Go.Proofs.YtjbhjbpamnoebaaGreatFmt
open Go.RowKit

/-- The spans of end number q. -/
def sK (P : Nat → Int) (i : Nat) (r : List Nd) (q : Nat) : List (ByteArray × Int × Int) := match r[q]? with
  | some y => spansAt P i y
  | none => []
/-- The spans ahead of end number j; the first token between the brackets is number i. -/
def sE (P : Nat → Int) (i : Nat) (l : List UInt8) (r : List Nd) : Nat → List (ByteArray × Int × Int)
  | 0 => []
  | 1 => if hasB l 108 then sK P i r 0 else []
  | 2 => (if hasB l 108 then sK P i r 0 else []) ++ (if hasB l 104 then sK P (i + (slO l (r.map Nd.toks) 1).length + 1) r (slQ l 1) else [])
  | _ => (if hasB l 108 then sK P i r 0 else []) ++ (if hasB l 104 then sK P (i + (slO l (r.map Nd.toks) 1).length + 1) r (slQ l 1) else []) ++ (if hasB l 109 then sK P (i + (slO l (r.map Nd.toks) 2).length + (if hasB l 115 then 1 else 0)) r (slQ l 2) else [])
/-- They are those of the nodes in preorder. -/
theorem sE_preL (P : Nat → Int) (i : Nat) {tx : ByteArray} {r : List Nd} (h : manyC 11 tx (r.length + 1) = true) (hs : ∀ k ∈ r, k.shapedB = true) :
    (preL (endStarts tx.data.toList i (r.map Nd.ntok)) r).map (fun x => (x.1.kd, P x.2, endOf P x.2 x.1)) = sE P i tx.data.toList r 3 := by
  rcases forms h with ⟨hc, hk⟩ | ⟨hc, hk⟩ | ⟨hc, hk⟩ | ⟨_, hk⟩ | ⟨hc, hk⟩ | ⟨hc, hk⟩ | ⟨hc, hk⟩
  · omega
  · omega
  · omega
  · rcases hk with ⟨e, hk⟩ | ⟨e, hk⟩ | ⟨e, hk⟩ | ⟨e, hk⟩ | ⟨e, hk⟩ | ⟨e, hk⟩ <;> rw [e]
    · obtain rfl : r = [] := List.length_eq_zero_iff.1 (by omega)
      simp [sE, hasB, preL]
    · obtain ⟨y, rfl⟩ := List.length_eq_one_iff.1 (show r.length = 1 by omega)
      simp [sE, sK, hasB, preL, endStarts, spansAt]
    · obtain ⟨y, rfl⟩ := List.length_eq_one_iff.1 (show r.length = 1 by omega)
      simp [sE, sK, hasB, preL, endStarts, spansAt, slO, slQ]
    · obtain ⟨y, z, rfl⟩ := two_of (show r.length = 2 by omega)
      have hy := toks_len y (hs y (by simp))
      simp [sE, sK, hasB, preL, endStarts, spansAt, slO, slQ, t0, hy]
    · obtain ⟨y, z, rfl⟩ := two_of (show r.length = 2 by omega)
      have hy := toks_len y (hs y (by simp))
      simp [sE, sK, hasB, preL, endStarts, spansAt, slO, slQ, t0, hy]
      try (congr 2; omega)
    · obtain ⟨y, r2, rfl⟩ := some_of (ks := r) (by omega)
      obtain ⟨z, u, rfl⟩ := two_of (ks := r2) (by rw [List.length_cons] at hk; omega)
      have hy := toks_len y (hs y (by simp))
      have hz := toks_len z (hs z (by simp))
      simp [sE, sK, hasB, preL, endStarts, spansAt, slO, slQ, t0, hy, hz]
      try (congr 2; omega)
  · omega
  · omega
  · omega
theorem sl_three {tx : ByteArray} {k : Nat} (h : manyC 11 tx (k + 1) = true) : slQ tx.data.toList 3 = k ∧ tx.size ≤ 4 := ⟨(sl_split h []).1, (sl_split h []).2.2⟩
theorem slO_le (l : List UInt8) (ts : List (List ByteArray)) (j : Nat) (hj : j ≤ 3) : (slO l ts j).length ≤ (slO l ts 3).length := by
  have hj4 : j = 0 ∨ j = 1 ∨ j = 2 ∨ j = 3 := by omega
  rcases hj4 with rfl | rfl | rfl | rfl <;> simp [slO] <;> omega
theorem sE_le (P : Nat → Int) (i : Nat) (l : List UInt8) (r : List Nd) (j : Nat) (hj : j ≤ 3) : (sE P i l r j).length ≤ (sE P i l r 3).length := by
  have hj4 : j = 0 ∨ j = 1 ∨ j = 2 ∨ j = 3 := by omega
  rcases hj4 with rfl | rfl | rfl | rfl <;> simp [sE] <;> omega
/-- Nodes whose cells lie below the placer. -/
def KidsIn (W : World) (B : Nat) (A : Option Addr) (ks : List Nd) : Prop := ∀ (j : Nat) (k : Nd), ks[j]? = some k → ElemAt W B A j k ∧ k.In W B
theorem KidsIn.tail {W : World} {B b o c : Nat} {x : Nd} {r : List Nd} (h : KidsIn W B (some ⟨b, o, none⟩) (x :: r)) (hc : r.length + 1 ≤ c) : KidsIn W B (if c = 1 then some ⟨b, o, none⟩ else some ⟨b, o + 3, none⟩) r := by
  intro j k hj
  obtain ⟨⟨b', o', he, hb, e0, e1, e2⟩, hin⟩ := h (j + 1) k (by simpa using hj)
  have hl := (List.getElem?_eq_some_iff.1 hj).1
  rw [if_neg (by omega)]
  cases he
  refine ⟨⟨b, o + 3, rfl, hb, ?_, ?_, ?_⟩, hin⟩
  · rwa [show o + (j + 1) * 3 = o + 3 + j * 3 by omega] at e0
  · rwa [show o + (j + 1) * 3 = o + 3 + j * 3 by omega] at e1
  · rwa [show o + (j + 1) * 3 = o + 3 + j * 3 by omega] at e2
theorem slice_nE (tx : ByteArray) : ¬ manyC 11 tx ([] : List Nd).length = true := by
  intro hm
  rcases forms hm with ⟨h1, hk⟩ | ⟨h1, hk⟩ | ⟨h1, hk⟩ | ⟨h1, hk⟩ | ⟨h1, hk⟩ | ⟨h1, hk⟩ | ⟨h1, hk⟩
  · omega
  · omega
  · omega
  · rcases hk with ⟨_, hk⟩ | ⟨_, hk⟩ | ⟨_, hk⟩ | ⟨_, hk⟩ | ⟨_, hk⟩ | ⟨_, hk⟩ <;> simp at hk
  · omega
  · omega
  · omega
/-- The state of ends: the box of the node, the row of the three ends. -/
def EX (X : Nat → Prop) (W : World) (b : Nat) : Prop := X b ∨ b = W.heap.size ∨ b = W.heap.size + 1
set_option maxHeartbeats 8000000 in
set_option maxRecDepth 100000 in
theorem pends_any (ps : List Int) (hps : Okp ps) (n : Nd) (IH : ∀ k ∈ n.ks, PNOf ps k) (hs : n.shapedB = true) (hsh : n.shortB = true) (hz : n.size ≤ 400) (hc : kcode n.kd = 11) (X : Nat → Prop) (pb i : Nat) (e : Int) (out : List (ByteArray × Int × Int)) (W : World) (h : PS X pb ps i e out W) (hin : n.In W pb)
    (hi : i + (slO n.tx.data.toList ((n.ks.drop 1).map Nd.toks) 3).length ≤ ps.length) (ho : out.length + (sE (posOf ps) i n.tx.data.toList (n.ks.drop 1) 3).length ≤ 5000) :
    Calls Tryz.prog 51 #[.pointer (some ⟨pb, 0, none⟩), n.val] W (TkPost X pb ps i e out W (slO n.tx.data.toList ((n.ks.drop 1).map Nd.toks) 3) (sE (posOf ps) i n.tx.data.toList (n.ks.drop 1) 3)) := by
  obtain ⟨kd, tx, ad, cp, ks⟩ := n
  obtain ⟨x, r, rfl⟩ : ∃ x r, ks = x :: r := by
    rw [Nd.shapedB_eq, Bool.and_eq_true] at hs
    have hm : manyC (kcode kd) tx ks.length = true := hs.2
    rw [show kcode kd = 11 from hc] at hm
    rcases ks with _ | ⟨x, r⟩
    · exact absurd hm (slice_nE tx)
    · exact ⟨x, r, rfl⟩
  obtain ⟨⟨ab, ao, had⟩, hcp1, hcp2⟩ := ad_form hin
  subst had
  have hm : manyC 11 tx (r.length + 1) = true := by
    rw [Nd.shapedB_eq, Bool.and_eq_true] at hs
    have hm : manyC (kcode kd) tx (x :: r).length = true := hs.2
    rwa [show kcode kd = 11 from hc] at hm
  obtain ⟨hq3, htx⟩ := sl_three hm
  have hsh' : ∀ k ∈ x :: r, k.shortB = true := by
    rw [Nd.shortB_eq, Bool.and_eq_true, List.all_eq_true] at hsh
    exact hsh.2
  change i + (slO tx.data.toList (r.map Nd.toks) 3).length ≤ ps.length at hi
  change out.length + (sE (posOf ps) i tx.data.toList r 3).length ≤ 5000 at ho
  show Calls _ _ #[_, .agg #[.string kd, .string tx, .slice (some ⟨ab, ao, none⟩) (r.length + 1) cp]] W (TkPost X pb ps i e out W (slO tx.data.toList (r.map Nd.toks) 3) (sE (posOf ps) i tx.data.toList r 3))
  have hKA : KidsIn W pb (some ⟨ab, ao, none⟩) (x :: r) := (Nd.In_iff.1 hin).2.2
  obtain ⟨A1, hA1, hsl⟩ := slice_run ab ao r.length cp
  have HKA := Lib.hid (show KidsIn W pb A1 r from hA1 ▸ hKA.tail (c := cp) hcp1)
  have HI := Lib.hid (show ∀ k ∈ r, PNOf ps k ∧ k.shapedB = true ∧ k.shortB = true ∧ k.size ≤ 400 from fun k hk => ⟨IH k (List.mem_cons_of_mem _ hk), (kid_ok hs hz (List.mem_cons_of_mem _ hk)).1, hsh' k (List.mem_cons_of_mem _ hk), (kid_ok hs hz (List.mem_cons_of_mem _ hk)).2⟩)
  have hts : ∀ q k, r[q]? = some k → t0 (r.map Nd.toks) q = k.toks ∧ ∀ i, sK (posOf ps) i r q = spansAt (posOf ps) i k := fun q k hk => by
    unfold t0 sK
    rw [List.getD_eq_getElem?_getD, List.getElem?_map, hk]
    exact ⟨rfl, fun _ => rfl⟩
  have hrl : r.length ≤ 9223372036854775807 := by omega
  have HT := Lib.hid (And.intro hq3 (And.intro hts (And.intro hps (And.intro hi ho))))
  have HLE := Lib.hid (And.intro (slO_le tx.data.toList (r.map Nd.toks)) (sE_le (posOf ps) i tx.data.toList r))
  obtain ⟨W2, hW2⟩ : ∃ W2, (W.alloc (.cells #[.string kd, .string tx, .slice (some ⟨ab, ao, none⟩) (r.length + 1) cp] 24)).alloc (.cells #[.string ⟨#[108]⟩, .string ⟨#[104]⟩, .string ⟨#[109]⟩] 9) = W2 := ⟨_, rfl⟩
  have hs1 : (W.alloc (.cells #[.string kd, .string tx, .slice (some ⟨ab, ao, none⟩) (r.length + 1) cp] 24)).heap.size = W.heap.size + 1 := World.size_alloc _ _
  have hb2 : Below W.heap.size W W2 := hW2 ▸ ((Below.refl _ _).alloc (Nat.le_refl _) _).alloc (by simp) _
  have hbox : Blk W2 W.heap.size 24 #[.string kd, .string tx, .slice (some ⟨ab, ao, none⟩) (r.length + 1) cp] := hW2 ▸ (Blk.new W _ _).alloc _
  have harr : Blk W2 (W.heap.size + 1) 9 #[.string ⟨#[108]⟩, .string ⟨#[104]⟩, .string ⟨#[109]⟩] := by
    have := Blk.new (W.alloc (.cells #[.string kd, .string tx, .slice (some ⟨ab, ao, none⟩) (r.length + 1) cp] 24)) 9 #[.string ⟨#[108]⟩, .string ⟨#[104]⟩, .string ⟨#[109]⟩]
    rw [hs1] at this
    exact hW2 ▸ this
  have hPS : PS (EX X W) pb ps i e out W2 := by
    have h2 := (h.grow (.cells #[.string kd, .string tx, .slice (some ⟨ab, ao, none⟩) (r.length + 1) cp] 24)).grow (.cells #[.string ⟨#[108]⟩, .string ⟨#[104]⟩, .string ⟨#[109]⟩] 9)
    rw [hW2] at h2
    refine h2.less (fun b hb => ?_) fun b hb => .inl (h.1.2.1 b hb)
    rw [hs1]
    rcases hb with hb | hb | hb
    · exact .inl (.inl hb)
    · exact .inl (.inr hb)
    · exact .inr hb
  have H0 := Lib.hid (And.intro (Fr.of hb2 h.xlt) (And.intro hbox (And.intro harr (And.intro hPS h.1.2.1))))
  have HW2 := Lib.hid hW2
  clear IH hs hz hc hin hm hq3 hts hKA hA1 hb2 hbox harr hs1 hW2 hps hsh hsh' hi ho h hPS
  go_enter Tryz.func51, Tryz.ntmps51
  go_wp2_with fail
  have hW2 := HW2.out
  simp only [hW2]
  clear hW2
  go_loopw [4, 12] (fun kv i' wr => ∃ (j kk c : Nat) (A : Option Addr), i' = .int .i64 j ∧ j ≤ 3 ∧ kk = r.length - slQ tx.data.toList j ∧ kk ≤ c ∧ c ≤ 9223372036854775807 ∧ kv = .slice A kk c ∧ KidsIn W pb A (r.drop (slQ tx.data.toList j)) ∧ PS (EX X W) pb ps (i + (slO tx.data.toList (r.map Nd.toks) j).length) (eT (posOf ps) i (slO tx.data.toList (r.map Nd.toks) j) e) (out ++ sE (posOf ps) i tx.data.toList r j) wr ∧ Fr (EX X W) W2 wr) (fun _ i' _ => 3 - (intOf i').toNat)
  case atStart => exact ⟨0, r.length, _, _, rfl, Nat.zero_le _, rfl, by omega, by omega, rfl, HKA.out, by simpa [slO, sE, eT] using H0.out.2.2.2.1, Fr.refl _ _⟩
  case round =>
    obtain ⟨j, kk, c, A, rfl, hj, hkk, hkc, hc9, rfl, hKA, hS, hF⟩ := hrel
    have hj4 : j = 0 ∨ j = 1 ∨ j = 2 ∨ j = 3 := by omega
    have f1 : wr.cell? ⟨W.heap.size, 1, none⟩ = some (.string tx) := (H0.out.2.1.keep (hF.2 _ (.inr (.inl rfl)))).cell 1
    have g0 : wr.cell? ⟨W.heap.size + 1, 0, none⟩ = some (.string ⟨#[108]⟩) := (H0.out.2.2.1.keep (hF.2 _ (.inr (.inr rfl)))).cell 0
    have g1 : wr.cell? ⟨W.heap.size + 1, 1, none⟩ = some (.string ⟨#[104]⟩) := (H0.out.2.2.1.keep (hF.2 _ (.inr (.inr rfl)))).cell 1
    have g2 : wr.cell? ⟨W.heap.size + 1, 2, none⟩ = some (.string ⟨#[109]⟩) := (H0.out.2.2.1.keep (hF.2 _ (.inr (.inr rfl)))).cell 2
    have HR := Lib.hid (And.intro hS (And.intro hF hKA))
    have HL := Lib.hid hkk
    clear hS hF hKA hkk hj
    rcases hj4 with rfl | rfl | rfl | rfl
    · -- end number 0
      cases hfl : hasB tx.data.toList 108
      · have HFL := Lib.hid hfl
        have HFC := Lib.hid (show tx.data.toList.contains 108 = _ from hfl)
        clear hfl
        go_wp2_with fail
        refine (holds_any tx ⟨#[108]⟩ 108 rfl (by omega) _).mono ?_
        rw [HFC.out]
        rintro r9 wq ⟨rfl, rfl⟩
        go_wp2_with fail
        go_roundw
        case rel => exact ⟨1, kk, c, A, by go_num, by omega, by rw [HL.out]; simp [slQ, HFL.out], by omega, by omega, rfl, by have h := HR.out.2.2; simpa [slQ, HFL.out] using h, by have h := HR.out.1; simpa [slO, sE, HFL.out] using h, HR.out.2.1⟩
        case measure => simp [intOf]
      · have HFL := Lib.hid hfl
        have HFC := Lib.hid (show tx.data.toList.contains 108 = _ from hfl)
        have hkl : slQ tx.data.toList 0 < r.length := by
          rw [← HT.out.1]
          simp [slQ, HFL.out]; try omega
        have hx0 : r[slQ tx.data.toList 0]? = some r[slQ tx.data.toList 0] := List.getElem?_eq_getElem hkl
        have hdr : r.drop (slQ tx.data.toList 0) = r[slQ tx.data.toList 0] :: r.drop (slQ tx.data.toList 0 + 1) := List.drop_eq_getElem_cons hkl
        have hmem := List.getElem_mem hkl
        obtain ⟨hto, hsp⟩ := HT.out.2.1 _ _ hx0
        generalize r[slQ tx.data.toList 0] = y at hx0 hdr hmem hto hsp
        have hKA := HR.out.2.2
        rw [hdr] at hKA
        obtain ⟨⟨b, o, rfl, hb, e0, e1, e2⟩, hyin⟩ := hKA 0 y rfl
        have hkk : 0 < kk := by have := HL.out; omega
        have hkkI : (0 : Int) < (kk : Int) := by omega
        have hkk1 : (1 : Int) ≤ (kk : Int) := by omega
        have HB0 := Lib.hid (show ∀ w, Fr (EX X W) W2 w → w.cell? ⟨b, o, none⟩ = some (.string y.kd) ∧ w.cell? ⟨b, o + 1, none⟩ = some (.string y.tx) ∧ w.cell? ⟨b, o + 2, none⟩ = some (.slice y.ad y.ks.length y.cp) ∧ y.In w pb from fun w hw => ⟨(World.cell?_of_block (a := ⟨b, o, none⟩) ((H0.out.1.trans (hw.less fun b hb => .inl hb)).2 b (H0.out.2.2.2.2 b hb))).trans (by simpa using e0), (World.cell?_of_block (a := ⟨b, o + 1, none⟩) ((H0.out.1.trans (hw.less fun b hb => .inl hb)).2 b (H0.out.2.2.2.2 b hb))).trans (by simpa using e1), (World.cell?_of_block (a := ⟨b, o + 2, none⟩) ((H0.out.1.trans (hw.less fun b hb => .inl hb)).2 b (H0.out.2.2.2.2 b hb))).trans (by simpa using e2), hyin.below ((H0.out.1.trans (hw.less fun b hb => .inl hb)).below H0.out.2.2.2.2) (Nat.le_refl _)⟩)
        obtain ⟨iy1, iy2, iy3, iy4⟩ := HI.out y hmem
        have HKT := Lib.hid (KidsIn.tail (c := c) hKA (by have h1 := HL.out; rw [List.length_drop]; omega))
        have hle1 := HLE.out.1 1 (by omega)
        have hle2 := HLE.out.2 1 (by omega)
        have hnx : slO tx.data.toList (r.map Nd.toks) 1 = slO tx.data.toList (r.map Nd.toks) 0 ++ y.toks := by rw [← hto]; simp [slO, slQ, HFL.out]
        have hsn : sE (posOf ps) i tx.data.toList r 1 = sE (posOf ps) i tx.data.toList r 0 ++ spansAt (posOf ps) (i + (slO tx.data.toList (r.map Nd.toks) 0).length) y := by rw [← hsp]; simp [sE, slO, slQ, HFL.out]
        have hlx := congrArg List.length hnx
        have hls := congrArg List.length hsn
        rw [List.length_append] at hlx
        rw [List.length_append, spansAt_len] at hls
        have hi9 : i + (slO tx.data.toList (r.map Nd.toks) 0).length + y.toks.length ≤ ps.length := by have := HT.out.2.2.2.1; omega
        have ho9 : (out ++ sE (posOf ps) i tx.data.toList r 0).length + y.kinds.length ≤ 5000 := by have := HT.out.2.2.2.2; rw [List.length_append]; omega
        have HY := Lib.hid (And.intro iy1 (And.intro iy2 (And.intro iy3 (And.intro iy4 (And.intro hnx (And.intro hsn (And.intro hi9 ho9)))))))
        clear e0 e1 e2 hyin hto hsp hdr hmem hx0 hKA iy1 iy2 iy3 iy4 hb hnx hsn hle1 hle2 hi9 ho9 hlx hls
        clear hfl
        go_wp2_with fail
        refine (holds_any tx ⟨#[108]⟩ 108 rfl (by omega) _).mono ?_
        rw [HFC.out]
        rintro r9 wq ⟨rfl, rfl⟩
        obtain ⟨k0, k1, k2, k3⟩ := HB0.out _ HR.out.2.1
        go_wp2_with fail
        refine (HY.out.1 _ pb _ _ _ _ HR.out.1 k3 HY.out.2.1 HY.out.2.2.1 HY.out.2.2.2.1 HY.out.2.2.2.2.2.2.1 HY.out.2.2.2.2.2.2.2).mono ?_
        rintro r9 w4 ⟨rfl, h1, h2⟩
        have HR4 := Lib.hid (And.intro h1 (HR.out.2.1.trans h2))
        clear h1 h2 k0 k1 k2 k3
        go_wp2_with fail
        go_roundw
        case rel => exact ⟨1, kk - 1, c - 1, _, by go_num, by omega, by have h := HL.out; simp [slQ, HFL.out] at h ⊢; omega, by omega, by omega, rfl, by have h := HKT.out; simpa [slQ, HFL.out] using h, by rw [HY.out.2.2.2.2.1, HY.out.2.2.2.2.2.1, eT_app, List.length_append, ← List.append_assoc, ← Nat.add_assoc]; exact HR4.out.1, HR4.out.2⟩
        case measure => simp [intOf]
    · -- end number 1
      cases hfl : hasB tx.data.toList 104
      · have HFL := Lib.hid hfl
        have HFC := Lib.hid (show tx.data.toList.contains 104 = _ from hfl)
        have hle1 := HLE.out.1 2 (by omega)
        have hnx : slO tx.data.toList (r.map Nd.toks) 2 = slO tx.data.toList (r.map Nd.toks) 1 ++ [⟨#[58]⟩] := by simp [slO, HFL.out]
        have hlx := congrArg List.length hnx
        rw [List.length_append, List.length_singleton] at hlx
        have HY := Lib.hid hnx
        clear hnx
        clear hfl
        go_wp2_with fail
        refine (token_any _ pb _ ps HT.out.2.2.1 _ _ _ HR.out.1 (by have := HT.out.2.2.2.1; omega) ⟨#[58]⟩ (by decide)).mono ?_
        rintro r9 w3 ⟨rfl, h1, h2⟩
        have HR3 := Lib.hid (And.intro h1 (HR.out.2.1.trans h2))
        clear h1 h2 f1 g0 g1 g2
        have f1 : w3.cell? ⟨W.heap.size, 1, none⟩ = some (.string tx) := (H0.out.2.1.keep (HR3.out.2.2 _ (.inr (.inl rfl)))).cell 1
        go_wp2_with fail
        refine (holds_any tx ⟨#[104]⟩ 104 rfl (by omega) _).mono ?_
        rw [HFC.out]
        rintro r9 wq ⟨rfl, rfl⟩
        go_wp2_with fail
        go_roundw
        case rel => exact ⟨2, kk, c, A, by go_num, by omega, by rw [HL.out]; simp [slQ, HFL.out], by omega, by omega, rfl, by have h := HR.out.2.2; simpa [slQ, HFL.out] using h, by rw [HY.out, eT_app, eT_one, List.length_append, List.length_singleton, ← Nat.add_assoc]; have h := HR3.out.1; simpa [sE, HFL.out] using h, HR3.out.2⟩
        case measure => simp [intOf]
      · have HFL := Lib.hid hfl
        have HFC := Lib.hid (show tx.data.toList.contains 104 = _ from hfl)
        have hkl : slQ tx.data.toList 1 < r.length := by
          rw [← HT.out.1]
          simp [slQ, HFL.out]; try omega
        have hx0 : r[slQ tx.data.toList 1]? = some r[slQ tx.data.toList 1] := List.getElem?_eq_getElem hkl
        have hdr : r.drop (slQ tx.data.toList 1) = r[slQ tx.data.toList 1] :: r.drop (slQ tx.data.toList 1 + 1) := List.drop_eq_getElem_cons hkl
        have hmem := List.getElem_mem hkl
        obtain ⟨hto, hsp⟩ := HT.out.2.1 _ _ hx0
        generalize r[slQ tx.data.toList 1] = y at hx0 hdr hmem hto hsp
        have hKA := HR.out.2.2
        rw [hdr] at hKA
        obtain ⟨⟨b, o, rfl, hb, e0, e1, e2⟩, hyin⟩ := hKA 0 y rfl
        have hkk : 0 < kk := by have := HL.out; omega
        have hkkI : (0 : Int) < (kk : Int) := by omega
        have hkk1 : (1 : Int) ≤ (kk : Int) := by omega
        have HB0 := Lib.hid (show ∀ w, Fr (EX X W) W2 w → w.cell? ⟨b, o, none⟩ = some (.string y.kd) ∧ w.cell? ⟨b, o + 1, none⟩ = some (.string y.tx) ∧ w.cell? ⟨b, o + 2, none⟩ = some (.slice y.ad y.ks.length y.cp) ∧ y.In w pb from fun w hw => ⟨(World.cell?_of_block (a := ⟨b, o, none⟩) ((H0.out.1.trans (hw.less fun b hb => .inl hb)).2 b (H0.out.2.2.2.2 b hb))).trans (by simpa using e0), (World.cell?_of_block (a := ⟨b, o + 1, none⟩) ((H0.out.1.trans (hw.less fun b hb => .inl hb)).2 b (H0.out.2.2.2.2 b hb))).trans (by simpa using e1), (World.cell?_of_block (a := ⟨b, o + 2, none⟩) ((H0.out.1.trans (hw.less fun b hb => .inl hb)).2 b (H0.out.2.2.2.2 b hb))).trans (by simpa using e2), hyin.below ((H0.out.1.trans (hw.less fun b hb => .inl hb)).below H0.out.2.2.2.2) (Nat.le_refl _)⟩)
        obtain ⟨iy1, iy2, iy3, iy4⟩ := HI.out y hmem
        have HKT := Lib.hid (KidsIn.tail (c := c) hKA (by have h1 := HL.out; rw [List.length_drop]; omega))
        have hle1 := HLE.out.1 2 (by omega)
        have hle2 := HLE.out.2 2 (by omega)
        have hnx : slO tx.data.toList (r.map Nd.toks) 2 = slO tx.data.toList (r.map Nd.toks) 1 ++ [⟨#[58]⟩] ++ y.toks := by rw [← hto]; simp [slO, slQ, HFL.out]
        have hsn : sE (posOf ps) i tx.data.toList r 2 = sE (posOf ps) i tx.data.toList r 1 ++ spansAt (posOf ps) (i + (slO tx.data.toList (r.map Nd.toks) 1).length + 1) y := by rw [← hsp]; simp [sE, slO, slQ, HFL.out]
        have hlx := congrArg List.length hnx
        have hls := congrArg List.length hsn
        rw [List.length_append, List.length_append, List.length_singleton] at hlx
        rw [List.length_append, spansAt_len] at hls
        have hi9 : i + (slO tx.data.toList (r.map Nd.toks) 1).length + 1 + y.toks.length ≤ ps.length := by have := HT.out.2.2.2.1; omega
        have ho9 : (out ++ sE (posOf ps) i tx.data.toList r 1).length + y.kinds.length ≤ 5000 := by have := HT.out.2.2.2.2; rw [List.length_append]; omega
        have HY := Lib.hid (And.intro iy1 (And.intro iy2 (And.intro iy3 (And.intro iy4 (And.intro hnx (And.intro hsn (And.intro hi9 ho9)))))))
        clear e0 e1 e2 hyin hto hsp hdr hmem hx0 hKA iy1 iy2 iy3 iy4 hb hnx hsn hle1 hle2 hi9 ho9 hlx hls
        clear hfl
        go_wp2_with fail
        refine (token_any _ pb _ ps HT.out.2.2.1 _ _ _ HR.out.1 (by have := HT.out.2.2.2.1; have := HY.out.2.2.2.2.2.2.1; omega) ⟨#[58]⟩ (by decide)).mono ?_
        rintro r9 w3 ⟨rfl, h1, h2⟩
        have HR3 := Lib.hid (And.intro h1 (HR.out.2.1.trans h2))
        clear h1 h2 f1 g0 g1 g2
        have f1 : w3.cell? ⟨W.heap.size, 1, none⟩ = some (.string tx) := (H0.out.2.1.keep (HR3.out.2.2 _ (.inr (.inl rfl)))).cell 1
        go_wp2_with fail
        refine (holds_any tx ⟨#[104]⟩ 104 rfl (by omega) _).mono ?_
        rw [HFC.out]
        rintro r9 wq ⟨rfl, rfl⟩
        obtain ⟨k0, k1, k2, k3⟩ := HB0.out _ HR3.out.2
        go_wp2_with fail
        refine (HY.out.1 _ pb _ _ _ _ HR3.out.1 k3 HY.out.2.1 HY.out.2.2.1 HY.out.2.2.2.1 HY.out.2.2.2.2.2.2.1 HY.out.2.2.2.2.2.2.2).mono ?_
        rintro r9 w4 ⟨rfl, h1, h2⟩
        have HR4 := Lib.hid (And.intro h1 (HR3.out.2.trans h2))
        clear h1 h2 k0 k1 k2 k3
        go_wp2_with fail
        go_roundw
        case rel => exact ⟨2, kk - 1, c - 1, _, by go_num, by omega, by have h := HL.out; simp [slQ, HFL.out] at h ⊢; omega, by omega, by omega, rfl, by have h := HKT.out; simpa [slQ, HFL.out] using h, by rw [HY.out.2.2.2.2.1, HY.out.2.2.2.2.2.1, eT_app, eT_app, eT_one, List.length_append, List.length_append, List.length_singleton, ← List.append_assoc, ← Nat.add_assoc, ← Nat.add_assoc]; exact HR4.out.1, HR4.out.2⟩
        case measure => simp [intOf]
    · -- end number 2
      cases hcs : hasB tx.data.toList 115
      · have HCS := Lib.hid hcs
        have HCC := Lib.hid (show tx.data.toList.contains 115 = _ from hcs)
        cases hfl : hasB tx.data.toList 109
        · have HFL := Lib.hid hfl
          have HFC := Lib.hid (show tx.data.toList.contains 109 = _ from hfl)
          clear hfl hcs
          go_wp2_with fail
          refine (holds_any tx ⟨#[115]⟩ 115 rfl (by omega) _).mono ?_
          rw [HCC.out]
          rintro r9 wq ⟨rfl, rfl⟩
          go_wp2_with fail
          refine (holds_any tx ⟨#[109]⟩ 109 rfl (by omega) _).mono ?_
          rw [HFC.out]
          rintro r9 wq ⟨rfl, rfl⟩
          go_wp2_with fail
          go_roundw
          case rel => exact ⟨3, kk, c, A, by go_num, by omega, by rw [HL.out]; simp [slQ, HFL.out], by omega, by omega, rfl, by have h := HR.out.2.2; simpa [slQ, HFL.out] using h, by have h := HR.out.1; simpa [slO, sE, HFL.out, HCS.out] using h, HR.out.2.1⟩
          case measure => simp [intOf]
        · have HFL := Lib.hid hfl
          have HFC := Lib.hid (show tx.data.toList.contains 109 = _ from hfl)
          have hkl : slQ tx.data.toList 2 < r.length := by
            rw [← HT.out.1]
            simp [slQ, HFL.out]; try omega
          have hx0 : r[slQ tx.data.toList 2]? = some r[slQ tx.data.toList 2] := List.getElem?_eq_getElem hkl
          have hdr : r.drop (slQ tx.data.toList 2) = r[slQ tx.data.toList 2] :: r.drop (slQ tx.data.toList 2 + 1) := List.drop_eq_getElem_cons hkl
          have hmem := List.getElem_mem hkl
          obtain ⟨hto, hsp⟩ := HT.out.2.1 _ _ hx0
          generalize r[slQ tx.data.toList 2] = y at hx0 hdr hmem hto hsp
          have hKA := HR.out.2.2
          rw [hdr] at hKA
          obtain ⟨⟨b, o, rfl, hb, e0, e1, e2⟩, hyin⟩ := hKA 0 y rfl
          have hkk : 0 < kk := by have := HL.out; omega
          have hkkI : (0 : Int) < (kk : Int) := by omega
          have hkk1 : (1 : Int) ≤ (kk : Int) := by omega
          have HB0 := Lib.hid (show ∀ w, Fr (EX X W) W2 w → w.cell? ⟨b, o, none⟩ = some (.string y.kd) ∧ w.cell? ⟨b, o + 1, none⟩ = some (.string y.tx) ∧ w.cell? ⟨b, o + 2, none⟩ = some (.slice y.ad y.ks.length y.cp) ∧ y.In w pb from fun w hw => ⟨(World.cell?_of_block (a := ⟨b, o, none⟩) ((H0.out.1.trans (hw.less fun b hb => .inl hb)).2 b (H0.out.2.2.2.2 b hb))).trans (by simpa using e0), (World.cell?_of_block (a := ⟨b, o + 1, none⟩) ((H0.out.1.trans (hw.less fun b hb => .inl hb)).2 b (H0.out.2.2.2.2 b hb))).trans (by simpa using e1), (World.cell?_of_block (a := ⟨b, o + 2, none⟩) ((H0.out.1.trans (hw.less fun b hb => .inl hb)).2 b (H0.out.2.2.2.2 b hb))).trans (by simpa using e2), hyin.below ((H0.out.1.trans (hw.less fun b hb => .inl hb)).below H0.out.2.2.2.2) (Nat.le_refl _)⟩)
          obtain ⟨iy1, iy2, iy3, iy4⟩ := HI.out y hmem
          have HKT := Lib.hid (KidsIn.tail (c := c) hKA (by have h1 := HL.out; rw [List.length_drop]; omega))
          have hle1 := HLE.out.1 3 (by omega)
          have hle2 := HLE.out.2 3 (by omega)
          have hnx : slO tx.data.toList (r.map Nd.toks) 3 = slO tx.data.toList (r.map Nd.toks) 2 ++ y.toks := by rw [← hto]; simp [slO, slQ, HFL.out, HCS.out]
          have hsn : sE (posOf ps) i tx.data.toList r 3 = sE (posOf ps) i tx.data.toList r 2 ++ spansAt (posOf ps) (i + (slO tx.data.toList (r.map Nd.toks) 2).length) y := by rw [← hsp]; simp [sE, slO, slQ, HFL.out, HCS.out]
          have hlx := congrArg List.length hnx
          have hls := congrArg List.length hsn
          rw [List.length_append] at hlx
          rw [List.length_append, spansAt_len] at hls
          have hi9 : i + (slO tx.data.toList (r.map Nd.toks) 2).length + y.toks.length ≤ ps.length := by have := HT.out.2.2.2.1; omega
          have ho9 : (out ++ sE (posOf ps) i tx.data.toList r 2).length + y.kinds.length ≤ 5000 := by have := HT.out.2.2.2.2; rw [List.length_append]; omega
          have HY := Lib.hid (And.intro iy1 (And.intro iy2 (And.intro iy3 (And.intro iy4 (And.intro hnx (And.intro hsn (And.intro hi9 ho9)))))))
          clear e0 e1 e2 hyin hto hsp hdr hmem hx0 hKA iy1 iy2 iy3 iy4 hb hnx hsn hle1 hle2 hi9 ho9 hlx hls
          clear hfl hcs
          go_wp2_with fail
          refine (holds_any tx ⟨#[115]⟩ 115 rfl (by omega) _).mono ?_
          rw [HCC.out]
          rintro r9 wq ⟨rfl, rfl⟩
          go_wp2_with fail
          refine (holds_any tx ⟨#[109]⟩ 109 rfl (by omega) _).mono ?_
          rw [HFC.out]
          rintro r9 wq ⟨rfl, rfl⟩
          obtain ⟨k0, k1, k2, k3⟩ := HB0.out _ HR.out.2.1
          go_wp2_with fail
          refine (HY.out.1 _ pb _ _ _ _ HR.out.1 k3 HY.out.2.1 HY.out.2.2.1 HY.out.2.2.2.1 HY.out.2.2.2.2.2.2.1 HY.out.2.2.2.2.2.2.2).mono ?_
          rintro r9 w4 ⟨rfl, h1, h2⟩
          have HR4 := Lib.hid (And.intro h1 (HR.out.2.1.trans h2))
          clear h1 h2 k0 k1 k2 k3
          go_wp2_with fail
          go_roundw
          case rel => exact ⟨3, kk - 1, c - 1, _, by go_num, by omega, by have h := HL.out; simp [slQ, HFL.out] at h ⊢; omega, by omega, by omega, rfl, by have h := HKT.out; simpa [slQ, HFL.out] using h, by rw [HY.out.2.2.2.2.1, HY.out.2.2.2.2.2.1, eT_app, List.length_append, ← List.append_assoc, ← Nat.add_assoc]; exact HR4.out.1, HR4.out.2⟩
          case measure => simp [intOf]
      · have HCS := Lib.hid hcs
        have HCC := Lib.hid (show tx.data.toList.contains 115 = _ from hcs)
        cases hfl : hasB tx.data.toList 109
        · have HFL := Lib.hid hfl
          have HFC := Lib.hid (show tx.data.toList.contains 109 = _ from hfl)
          have hle1 := HLE.out.1 3 (by omega)
          have hnx : slO tx.data.toList (r.map Nd.toks) 3 = slO tx.data.toList (r.map Nd.toks) 2 ++ [⟨#[58]⟩] := by simp [slO, HFL.out, HCS.out]
          have hlx := congrArg List.length hnx
          rw [List.length_append, List.length_singleton] at hlx
          have HY := Lib.hid hnx
          clear hnx
          clear hfl hcs
          go_wp2_with fail
          refine (holds_any tx ⟨#[115]⟩ 115 rfl (by omega) _).mono ?_
          rw [HCC.out]
          rintro r9 wq ⟨rfl, rfl⟩
          go_wp2_with fail
          refine (token_any _ pb _ ps HT.out.2.2.1 _ _ _ HR.out.1 (by have := HT.out.2.2.2.1; omega) ⟨#[58]⟩ (by decide)).mono ?_
          rintro r9 w3 ⟨rfl, h1, h2⟩
          have HR3 := Lib.hid (And.intro h1 (HR.out.2.1.trans h2))
          clear h1 h2 f1 g0 g1 g2
          have f1 : w3.cell? ⟨W.heap.size, 1, none⟩ = some (.string tx) := (H0.out.2.1.keep (HR3.out.2.2 _ (.inr (.inl rfl)))).cell 1
          go_wp2_with fail
          refine (holds_any tx ⟨#[109]⟩ 109 rfl (by omega) _).mono ?_
          rw [HFC.out]
          rintro r9 wq ⟨rfl, rfl⟩
          go_wp2_with fail
          go_roundw
          case rel => exact ⟨3, kk, c, A, by go_num, by omega, by rw [HL.out]; simp [slQ, HFL.out], by omega, by omega, rfl, by have h := HR.out.2.2; simpa [slQ, HFL.out] using h, by rw [HY.out, eT_app, eT_one, List.length_append, List.length_singleton, ← Nat.add_assoc]; have h := HR3.out.1; simpa [sE, HFL.out] using h, HR3.out.2⟩
          case measure => simp [intOf]
        · have HFL := Lib.hid hfl
          have HFC := Lib.hid (show tx.data.toList.contains 109 = _ from hfl)
          have hkl : slQ tx.data.toList 2 < r.length := by
            rw [← HT.out.1]
            simp [slQ, HFL.out]; try omega
          have hx0 : r[slQ tx.data.toList 2]? = some r[slQ tx.data.toList 2] := List.getElem?_eq_getElem hkl
          have hdr : r.drop (slQ tx.data.toList 2) = r[slQ tx.data.toList 2] :: r.drop (slQ tx.data.toList 2 + 1) := List.drop_eq_getElem_cons hkl
          have hmem := List.getElem_mem hkl
          obtain ⟨hto, hsp⟩ := HT.out.2.1 _ _ hx0
          generalize r[slQ tx.data.toList 2] = y at hx0 hdr hmem hto hsp
          have hKA := HR.out.2.2
          rw [hdr] at hKA
          obtain ⟨⟨b, o, rfl, hb, e0, e1, e2⟩, hyin⟩ := hKA 0 y rfl
          have hkk : 0 < kk := by have := HL.out; omega
          have hkkI : (0 : Int) < (kk : Int) := by omega
          have hkk1 : (1 : Int) ≤ (kk : Int) := by omega
          have HB0 := Lib.hid (show ∀ w, Fr (EX X W) W2 w → w.cell? ⟨b, o, none⟩ = some (.string y.kd) ∧ w.cell? ⟨b, o + 1, none⟩ = some (.string y.tx) ∧ w.cell? ⟨b, o + 2, none⟩ = some (.slice y.ad y.ks.length y.cp) ∧ y.In w pb from fun w hw => ⟨(World.cell?_of_block (a := ⟨b, o, none⟩) ((H0.out.1.trans (hw.less fun b hb => .inl hb)).2 b (H0.out.2.2.2.2 b hb))).trans (by simpa using e0), (World.cell?_of_block (a := ⟨b, o + 1, none⟩) ((H0.out.1.trans (hw.less fun b hb => .inl hb)).2 b (H0.out.2.2.2.2 b hb))).trans (by simpa using e1), (World.cell?_of_block (a := ⟨b, o + 2, none⟩) ((H0.out.1.trans (hw.less fun b hb => .inl hb)).2 b (H0.out.2.2.2.2 b hb))).trans (by simpa using e2), hyin.below ((H0.out.1.trans (hw.less fun b hb => .inl hb)).below H0.out.2.2.2.2) (Nat.le_refl _)⟩)
          obtain ⟨iy1, iy2, iy3, iy4⟩ := HI.out y hmem
          have HKT := Lib.hid (KidsIn.tail (c := c) hKA (by have h1 := HL.out; rw [List.length_drop]; omega))
          have hle1 := HLE.out.1 3 (by omega)
          have hle2 := HLE.out.2 3 (by omega)
          have hnx : slO tx.data.toList (r.map Nd.toks) 3 = slO tx.data.toList (r.map Nd.toks) 2 ++ [⟨#[58]⟩] ++ y.toks := by rw [← hto]; simp [slO, slQ, HFL.out, HCS.out]
          have hsn : sE (posOf ps) i tx.data.toList r 3 = sE (posOf ps) i tx.data.toList r 2 ++ spansAt (posOf ps) (i + (slO tx.data.toList (r.map Nd.toks) 2).length + 1) y := by rw [← hsp]; simp [sE, slO, slQ, HFL.out, HCS.out]
          have hlx := congrArg List.length hnx
          have hls := congrArg List.length hsn
          rw [List.length_append, List.length_append, List.length_singleton] at hlx
          rw [List.length_append, spansAt_len] at hls
          have hi9 : i + (slO tx.data.toList (r.map Nd.toks) 2).length + 1 + y.toks.length ≤ ps.length := by have := HT.out.2.2.2.1; omega
          have ho9 : (out ++ sE (posOf ps) i tx.data.toList r 2).length + y.kinds.length ≤ 5000 := by have := HT.out.2.2.2.2; rw [List.length_append]; omega
          have HY := Lib.hid (And.intro iy1 (And.intro iy2 (And.intro iy3 (And.intro iy4 (And.intro hnx (And.intro hsn (And.intro hi9 ho9)))))))
          clear e0 e1 e2 hyin hto hsp hdr hmem hx0 hKA iy1 iy2 iy3 iy4 hb hnx hsn hle1 hle2 hi9 ho9 hlx hls
          clear hfl hcs
          go_wp2_with fail
          refine (holds_any tx ⟨#[115]⟩ 115 rfl (by omega) _).mono ?_
          rw [HCC.out]
          rintro r9 wq ⟨rfl, rfl⟩
          go_wp2_with fail
          refine (token_any _ pb _ ps HT.out.2.2.1 _ _ _ HR.out.1 (by have := HT.out.2.2.2.1; have := HY.out.2.2.2.2.2.2.1; omega) ⟨#[58]⟩ (by decide)).mono ?_
          rintro r9 w3 ⟨rfl, h1, h2⟩
          have HR3 := Lib.hid (And.intro h1 (HR.out.2.1.trans h2))
          clear h1 h2 f1 g0 g1 g2
          have f1 : w3.cell? ⟨W.heap.size, 1, none⟩ = some (.string tx) := (H0.out.2.1.keep (HR3.out.2.2 _ (.inr (.inl rfl)))).cell 1
          go_wp2_with fail
          refine (holds_any tx ⟨#[109]⟩ 109 rfl (by omega) _).mono ?_
          rw [HFC.out]
          rintro r9 wq ⟨rfl, rfl⟩
          obtain ⟨k0, k1, k2, k3⟩ := HB0.out _ HR3.out.2
          go_wp2_with fail
          refine (HY.out.1 _ pb _ _ _ _ HR3.out.1 k3 HY.out.2.1 HY.out.2.2.1 HY.out.2.2.2.1 HY.out.2.2.2.2.2.2.1 HY.out.2.2.2.2.2.2.2).mono ?_
          rintro r9 w4 ⟨rfl, h1, h2⟩
          have HR4 := Lib.hid (And.intro h1 (HR3.out.2.trans h2))
          clear h1 h2 k0 k1 k2 k3
          go_wp2_with fail
          go_roundw
          case rel => exact ⟨3, kk - 1, c - 1, _, by go_num, by omega, by have h := HL.out; simp [slQ, HFL.out] at h ⊢; omega, by omega, by omega, rfl, by have h := HKT.out; simpa [slQ, HFL.out] using h, by rw [HY.out.2.2.2.2.1, HY.out.2.2.2.2.2.1, eT_app, eT_app, eT_one, List.length_append, List.length_append, List.length_singleton, ← List.append_assoc, ← Nat.add_assoc, ← Nat.add_assoc]; exact HR4.out.1, HR4.out.2⟩
          case measure => simp [intOf]
    · -- the end
      have hl : ∀ b, X b → EX X W b := fun b hb => .inl hb
      obtain ⟨q1, q2, q3⟩ := HR.out
      have HQ := Lib.hid (And.intro (q1.less hl H0.out.2.2.2.2) (H0.out.1.trans (q2.less hl)))
      clear q1 q2 q3 hl
      go_wp2_with fail
      (try simp only [Exit.inBlock, Exit.then])
      refine bodyPost_ret (results_none rfl _ _ _) rfl ?_
      exact ⟨rfl, HQ.out.1, HQ.out.2⟩
end Go.Proofs.YtjbhjbpamnoebaaGreatFmt

namespace Go.Proofs.YtjbhjbpamnoebaaGreatFmt
open Go.RowKit

theorem flatP_len (l : List (ByteArray × Int × Int)) : (flatP l).length = l.length * 3 := by
  induction l with
  | nil => rfl
  | cons x l ih =>
    rw [flatP, List.length_append, ih, List.length_cons]
    show 3 + l.length * 3 = _
    omega
theorem flatP_set (a S : List (ByteArray × Int × Int)) (x : ByteArray × Int × Int) (v : Int) : (flatP (a ++ [x] ++ S)).set (a.length * 3 + 2) (.int .i64 v) = flatP (a ++ [(x.1, x.2.1, v)] ++ S) := by
  rw [flatP_append, flatP_append, flatP_append, flatP_append, List.append_assoc, List.append_assoc, List.set_append_right _ _ (by rw [flatP_len]; omega), flatP_len, Nat.add_sub_cancel_left]
  rfl
section
variable {X : Nat → Prop} {pb i : Nat} {ps : List Int} {e : Int} {out : List (ByteArray × Int × Int)} {w w' : World}
/-- The placer's cells. -/
theorem PS.cells (h : PS X pb ps i e out w) : ∃ A n cap A2 c2, Blk w pb 61 #[.slice A n cap, .int .i64 e, .slice A2 out.length c2] ∧ n = (ps.drop i).length ∧ (∀ (j : Nat) (x : Int), (ps.drop i)[j]? = some x → ∃ g o, A = some ⟨g, o, none⟩ ∧ g < pb ∧ w.cell? ⟨g, o + j, none⟩ = some (.int .i64 x)) ∧
    w.ownsRow (pb + 1) 29 3 (.slice A2 out.length c2) out.length (flatP out) ∧ ∀ g, (Value.slice A2 out.length c2).ownBlock = some g → ¬ X g := by
  obtain ⟨_, A, n, cap, A2, c2, h1, h2, _, _, h3, h4, h5⟩ := h
  exact ⟨A, n, cap, A2, c2, h1, h2, h3, h4, h5⟩
/-- A span more, at the end of the row. -/
theorem PS.push (h : PS X pb ps i e out w) {x : ByteArray × Int × Int} {v' : Value} {A n cap : Value} (hb : Blk w pb 61 #[A, n, cap]) (hown : w'.ownsRow (pb + 1) 29 3 v' (out.length + 1) (flatP out ++ spCells x)) (hg : w.grownBy w' cap.ownBlock)
    (hloc : v'.ownBlock = cap.ownBlock ∨ ∃ g, v'.ownBlock = some g ∧ w.heap.size ≤ g) : PS X pb ps i e (out ++ [x]) (w'.setCell ⟨pb, 2, none⟩ v') ∧ Fr X w (w'.setCell ⟨pb, 2, none⟩ v') := by
  have hl := h.lt
  obtain ⟨⟨h1, h2, h3⟩, A', n', cap', A2, c2, hblk, hn, hc, hm, hx, hown0, hgx⟩ := h
  have he : some (Obj.cells #[A, n, cap] 61 (0, 0)) = some (.cells #[.slice A' n' cap', .int .i64 e, .slice A2 out.length c2] 61 (0, 0)) := hb.symm.trans hblk
  have he' := Option.some.inj he
  simp only [Obj.cells.injEq, Array.mk.injEq, List.cons.injEq] at he'
  obtain ⟨⟨rfl, rfl, rfl, _⟩, _⟩ := he'
  have hs := hg.size
  have hrow : ∀ g, (Value.slice A2 out.length c2).ownBlock = some g → pb + 1 ≤ g ∧ g < w.heap.size := fun g hg' => own_ge hown0 hg'
  have hkeep : ∀ b, b < w.heap.size → (∀ g, (Value.slice A2 out.length c2).ownBlock = some g → b ≠ g) → w'.heap[b]? = w.heap[b]? := fun b hb hne => hg.block b hb (fun e => hne b e.symm rfl)
  obtain ⟨A3, c3, rfl⟩ := own_formT hown
  have hpb : w'.heap[pb]? = w.heap[pb]? := hkeep pb hl (fun g hg' => by have := (hrow g hg').1; omega)
  have hk : ∀ b, b ≠ pb → (w'.setCell ⟨pb, 2, none⟩ (.slice A3 (out.length + 1) c3)).heap[b]? = w'.heap[b]? := fun b hb => Below.heap_setCell _ _ _ _ hb
  have hsz : (w'.setCell ⟨pb, 2, none⟩ (.slice A3 (out.length + 1) c3)).heap.size = w'.heap.size := by simp [World.setCell]
  have hXk : ∀ b, X b → (w'.setCell ⟨pb, 2, none⟩ (.slice A3 (out.length + 1) c3)).heap[b]? = w.heap[b]? := fun b hb => (hk b (fun h => h1 (h ▸ hb))).trans (hkeep b (h3 b hb) (fun g hg' h => hgx g hg' (h ▸ hb)))
  have hlen : (out ++ [x]).length = out.length + 1 := by simp
  have hblk2 := (hblk.keep hpb).set_ 2 (.slice A3 (out.length + 1) c3)
  refine ⟨⟨⟨h1, h2, fun b hb => by rw [hsz]; exact Nat.lt_of_lt_of_le (h3 b hb) hs⟩, A', n', cap', A3, c3, ?_, hn, hc, hm, fun j y hj => ?_, ?_, fun g hgo hX => ?_⟩, ⟨⟨hg.os, hg.tape, hg.output, by rw [hsz]; exact hs, fun b hb => absurd hb (Nat.not_lt_zero _)⟩, hXk⟩⟩
  · rw [hlen]
    simpa using hblk2
  · obtain ⟨g, o, rfl, hgl, hcell⟩ := hx j y hj
    exact ⟨g, o, rfl, hgl, (World.cell?_of_block (a := ⟨g, o + j, none⟩) (hXk g (h2 g hgl))).trans hcell⟩
  · rw [hlen, flatP_append, flatP, flatP, List.append_nil]
    exact own_keep hown fun g hg1 _ => hk g (by omega)
  · rw [hlen] at hgo
    rcases hloc with hl' | ⟨g', hl', hge⟩
    · rw [hl'] at hgo
      exact hgx g hgo hX
    · rw [hl'] at hgo
      cases hgo
      have := h3 _ hX
      omega
/-- The end of a span that was kept. -/
theorem PS.setTo {a S : List (ByteArray × Int × Int)} {x : ByteArray × Int × Int} (h : PS X pb ps i e (a ++ [x] ++ S) w) (v : Int) : ∃ g c2 A n cap, Blk w pb 61 #[.slice A n cap, .int .i64 e, .slice (some ⟨g, 0, none⟩) (a ++ [x] ++ S).length c2] ∧ pb < g ∧ g < w.heap.size ∧ ¬ X g ∧ w.frozen? ⟨g, a.length * 3 + 2, none⟩ = false ∧ (∃ u, w.cell? ⟨g, a.length * 3 + 2, none⟩ = some u) ∧
    PS X pb ps i e (a ++ [(x.1, x.2.1, v)] ++ S) (w.setCell ⟨g, a.length * 3 + 2, none⟩ (.int .i64 v)) ∧ Fr X w (w.setCell ⟨g, a.length * 3 + 2, none⟩ (.int .i64 v)) := by
  have hl := h.lt
  obtain ⟨⟨h1, h2, h3⟩, A, n, cap, A2, c2, hblk, hn, hc, hm, hx, ⟨hlen, ⟨hnil, h0⟩ | ⟨g, c, cur, he, k1, k2, k3, k4, k5, k6⟩⟩, hgx⟩ := h
  · simp at h0
  · obtain ⟨rfl, _, rfl⟩ := Value.slice.inj he
    have hlt : g < w.heap.size := (Array.getElem?_eq_some_iff.1 k2).1
    have hXg : ¬ X g := hgx g rfl
    have hll : (a ++ [(x.1, x.2.1, v)] ++ S).length = (a ++ [x] ++ S).length := by simp
    have hpos : a.length * 3 + 2 < (a ++ [x] ++ S).length * 3 := by simp; omega
    have hbr : Blk w g 29 cur := k2
    have hset := hbr.set_ (a.length * 3 + 2) (.int .i64 v)
    have hk : ∀ b, b ≠ g → (w.setCell ⟨g, a.length * 3 + 2, none⟩ (.int .i64 v)).heap[b]? = w.heap[b]? := fun b hb => Below.heap_setCell _ _ _ _ hb
    have hsz : (w.setCell ⟨g, a.length * 3 + 2, none⟩ (.int .i64 v)).heap.size = w.heap.size := by simp [World.setCell]
    have hXk : ∀ b, X b → (w.setCell ⟨g, a.length * 3 + 2, none⟩ (.int .i64 v)).heap[b]? = w.heap[b]? := fun b hb => hk b (fun h => hXg (h ▸ hb))
    refine ⟨g, c2, A, n, cap, hblk, by omega, hlt, hXg, hbr.frozen _, ⟨cur[a.length * 3 + 2]'(by have := Nat.mul_le_mul_right 3 k3; omega), by rw [hbr.cell]; exact Array.getElem?_eq_getElem _⟩, ⟨⟨h1, h2, fun b hb => by rw [hsz]; exact h3 b hb⟩, A, n, cap, some ⟨g, 0, none⟩, c2, ?_, hn, hc, hm, fun j y hj => ?_, ?_, ?_⟩, ⟨⟨rfl, rfl, rfl, by rw [hsz]; exact Nat.le_refl _, fun b hb => absurd hb (Nat.not_lt_zero _)⟩, hXk⟩⟩
    · rw [hll]
      exact hblk.keep (hk pb (by omega))
    · obtain ⟨g', o, rfl, hgl, hcell⟩ := hx j y hj
      exact ⟨g', o, rfl, hgl, (World.cell?_of_block (a := ⟨g', o + j, none⟩) (hXk g' (h2 g' hgl))).trans hcell⟩
    · rw [hll]
      refine ⟨by rw [flatP_len, hll], .inr ⟨g, c2, _, rfl, k1, hset, k3, k4, by rw [Array.size_setIfInBounds]; exact k5, ?_⟩⟩
      rw [Array.toList_setIfInBounds, List.take_set, k6, flatP_set]
    · rw [hll]
      exact hgx
end
/-- In the call of node that began in W: the tokens L are taken, the spans S of nodes below are kept. -/
def NS (W : World) (X : Nat → Prop) (pb : Nat) (ps : List Int) (n : Nd) (i : Nat) (e : Int) (out : List (ByteArray × Int × Int)) (L : List ByteArray) (S : List (ByteArray × Int × Int)) (w : World) : Prop :=
  NC W X pb ps n (i + L.length) (eT (posOf ps) i L e) (out ++ [(n.kd, posOf ps i, 0)] ++ S) w
def NSPost (W : World) (X : Nat → Prop) (pb : Nat) (ps : List Int) (n : Nd) (i : Nat) (e : Int) (out : List (ByteArray × Int × Int)) (L : List ByteArray) (S : List (ByteArray × Int × Int)) (r : Ending) (w : World) : Prop :=
  r = .returned (.tuple #[]) ∧ NS W X pb ps n i e out L S w
section
variable {W w w' : World} {X : Nat → Prop} {pb i : Nat} {ps : List Int} {n : Nd} {e : Int} {out : List (ByteArray × Int × Int)} {L l : List ByteArray} {S s : List (ByteArray × Int × Int)}
theorem NS.nc (h : NS W X pb ps n i e out L S w) : NC W X pb ps n (i + L.length) (eT (posOf ps) i L e) (out ++ [(n.kd, posOf ps i, 0)] ++ S) w := h
theorem NS.cB (h : NS W X pb ps n i e out L S w) : w.cell? ⟨W.heap.size, 0, none⟩ = some (.pointer (some ⟨pb, 0, none⟩)) := h.nc.cB
theorem NS.c0 (h : NS W X pb ps n i e out L S w) : w.cell? ⟨W.heap.size + 1, 0, none⟩ = some (.string n.kd) := h.nc.c0
theorem NS.c1 (h : NS W X pb ps n i e out L S w) : w.cell? ⟨W.heap.size + 1, 1, none⟩ = some (.string n.tx) := h.nc.c1
theorem NS.c2 (h : NS W X pb ps n i e out L S w) : w.cell? ⟨W.heap.size + 1, 2, none⟩ = some (.slice n.ad n.ks.length n.cp) := h.nc.c2
theorem NS.drew (h : NS W X pb ps n i e out L S w) : NS W X pb ps n i e out L S w.drew := h.nc.drew
theorem NS.of {r : Ending} (h : NCPost W X pb ps n (i + L.length) (eT (posOf ps) i L e) (out ++ [(n.kd, posOf ps i, 0)] ++ S) l s r w) : NSPost W X pb ps n i e out (L ++ l) (S ++ s) r w := by
  obtain ⟨rfl, h⟩ := h
  refine ⟨rfl, ?_⟩
  unfold NS
  rw [List.length_append, ← Nat.add_assoc, eT_app, ← List.append_assoc]
  exact h
theorem NS.t1 (C : NS W X pb ps n i e out L S w) (hps : Okp ps) (x : ByteArray) (hx : x.size ≤ 1048576) (hi : i + L.length + 1 ≤ ps.length) : Calls Tryz.prog 48 #[.slice (some ⟨w.heap.size, 0, none⟩) 1 1, .pointer (some ⟨W.heap.size, 0, none⟩)] (w.alloc (.cells #[.string x] 9)) (NSPost W X pb ps n i e out (L ++ [x]) S) :=
  (C.nc.t1 hps x hx hi).mono fun _ _ h => List.append_nil S ▸ NS.of h
theorem NS.t2 (C : NS W X pb ps n i e out L S w) (hps : Okp ps) (x y : ByteArray) (hx : x.size ≤ 1048576) (hy : y.size ≤ 1048576) (hi : i + L.length + 2 ≤ ps.length) : Calls Tryz.prog 48 #[.slice (some ⟨w.heap.size, 0, none⟩) 2 2, .pointer (some ⟨W.heap.size, 0, none⟩)] (w.alloc (.cells #[.string x, .string y] 9)) (NSPost W X pb ps n i e out (L ++ [x, y]) S) :=
  (C.nc.t2 hps x y hx hy hi).mono fun _ _ h => List.append_nil S ▸ NS.of h
theorem NS.kid (C : NS W X pb ps n i e out L S w) (j : Nat) (k : Nd) (hk : n.ks[j]? = some k) (IH : PNOf ps k) (hs : k.shapedB = true) (hsh : k.shortB = true) (hz : k.size ≤ 400) (hi : i + L.length + k.toks.length ≤ ps.length) (ho : out.length + 1 + S.length + k.kinds.length ≤ 5000) :
    Calls Tryz.prog 50 #[.int .i64 j, .pointer (some ⟨W.heap.size, 0, none⟩), .pointer (some ⟨W.heap.size + 1, 0, none⟩)] w (NSPost W X pb ps n i e out (L ++ k.toks) (S ++ spansAt (posOf ps) (i + L.length) k)) :=
  (C.nc.kid j k hk IH hs hsh hz hi (by rw [List.length_append, List.length_append]; exact ho)).mono fun _ _ h => NS.of h
theorem NS.list (C : NS W X pb ps n i e out L S w) (hps : Okp ps) (ks : List Nd) (IH : ∀ k ∈ ks, PNOf ps k) (hs : ∀ k ∈ ks, k.shapedB = true) (hsh : ∀ k ∈ ks, k.shortB = true) (hz : sizeL ks ≤ 400) (A : Option Addr) (cap : Nat) (hin : ∀ (j : Nat) (k : Nd), ks[j]? = some k → ElemAt w pb A j k ∧ k.In w pb)
    (hi : i + L.length + (commaT (ks.map Nd.toks)).length ≤ ps.length) (ho : out.length + 1 + S.length + (spC (posOf ps) (i + L.length) ks).length ≤ 5000) (k : Nat) (hk : k = ks.length) :
    Calls Tryz.prog 52 #[.pointer (some ⟨pb, 0, none⟩), .slice A k cap] w (NSPost W X pb ps n i e out (L ++ commaT (ks.map Nd.toks)) (S ++ spC (posOf ps) (i + L.length) ks)) :=
  (plist_any ps hps ks IH hs hsh hz _ pb _ _ _ w C.nc.st_ A cap hin hi (by rw [List.length_append, List.length_append]; exact ho) k hk).mono fun _ _ h => NS.of ⟨h.1, C.nc.to h.2.1 h.2.2⟩
theorem NS.ends (C : NS W X pb ps n i e out L S w) (hps : Okp ps) (IH : ∀ k ∈ n.ks, PNOf ps k) (hs : n.shapedB = true) (hsh : n.shortB = true) (hz : n.size ≤ 400) (hc : kcode n.kd = 11)
    (hi : i + L.length + (slO n.tx.data.toList ((n.ks.drop 1).map Nd.toks) 3).length ≤ ps.length) (ho : out.length + 1 + S.length + (sE (posOf ps) (i + L.length) n.tx.data.toList (n.ks.drop 1) 3).length ≤ 5000) :
    Calls Tryz.prog 51 #[.pointer (some ⟨pb, 0, none⟩), n.val] w (NSPost W X pb ps n i e out (L ++ slO n.tx.data.toList ((n.ks.drop 1).map Nd.toks) 3) (S ++ sE (posOf ps) (i + L.length) n.tx.data.toList (n.ks.drop 1) 3)) :=
  (pends_any ps hps n IH hs hsh hz hc _ pb _ _ _ w C.nc.st_ C.nc.in_ hi (by rw [List.length_append, List.length_append]; exact ho)).mono fun _ _ h => NS.of ⟨h.1, C.nc.to h.2.1 h.2.2⟩
/-- The name of a selector. -/
theorem NS.node (C : NS W X pb ps n i e out L S w) (k : Nd) (IH : PNOf ps k) (hin : k.In w pb) (hs : k.shapedB = true) (hsh : k.shortB = true) (hz : k.size ≤ 400) (hi : i + L.length + k.toks.length ≤ ps.length) (ho : out.length + 1 + S.length + k.kinds.length ≤ 5000) :
    Calls Tryz.prog 28 #[.pointer (some ⟨pb, 0, none⟩), k.val] w (NSPost W X pb ps n i e out (L ++ k.toks) (S ++ spansAt (posOf ps) (i + L.length) k)) :=
  (IH _ pb _ _ _ w C.nc.st_ hin hs hsh hz hi (by rw [List.length_append, List.length_append]; exact ho)).mono fun _ _ h => NS.of ⟨h.1, C.nc.to h.2.1 h.2.2⟩
/-- What node leaves, when its last token is taken. -/
theorem NS.done {v : Int} (hX : ∀ b, b < pb → X b) (hs : n.shapedB = true) (hL : L = n.toks) (hS : spansAt (posOf ps) i n = (n.kd, posOf ps i, endOf (posOf ps) i n) :: S) (hv : v = eT (posOf ps) i L e)
    (h : PS (NX X W) pb ps (i + L.length) (eT (posOf ps) i L e) (out ++ [(n.kd, posOf ps i, v)] ++ S) w') (hf : Fr X W w') : TkPost X pb ps i e out W n.toks (spansAt (posOf ps) i n) (.returned (.tuple #[])) w' := by
  subst hL
  have hl : ∀ b, X b → NX X W b := fun b hb => .inl hb
  refine ⟨rfl, ?_, hf⟩
  rw [← hv] at h
  rw [hS, ← eT_node (posOf ps) i hs e, ← hv, List.append_cons]
  exact h.less hl hX
end
end Go.Proofs.YtjbhjbpamnoebaaGreatFmt

namespace Go.Proofs.YtjbhjbpamnoebaaGreatFmt
open Go.RowKit

theorem pre_nm9 (tx : ByteArray) (j : Nat) : (nmNd tx).pre j = [(nmNd tx, j)] := by
  rw [pre_eq]
  have h0 : kcode (nmNd tx).kd = 0 := by show kcode ⟨#[110, 97, 109, 101]⟩ = 0; decide
  rw [h0]
  show (nmNd tx, j) :: (preL _ [] ++ selPre 0 _ _) = _
  rw [preL]
  rfl
theorem nm_kinds (tx : ByteArray) : (nmNd tx).kinds.length = 1 := by rw [← pre_kinds _ 0, List.length_map, pre_nm9]; rfl
theorem nm_size (tx : ByteArray) : (nmNd tx).size ≤ 400 := by
  rw [Nd.size_eq]
  show 1 + sizeL [] ≤ 400
  rw [sizeL]
  omega
theorem nm_inP (w : World) (tx : ByteArray) (B : Nat) : (nmNd tx).In w B := by
  rw [nmNd, Nd.In_iff]
  exact ⟨Nat.zero_le _, Nat.zero_le _, fun j k hj => by simp at hj⟩
theorem NS.next {W w w' : World} {X : Nat → Prop} {pb i : Nat} {ps : List Int} {n : Nd} {e : Int} {out S : List (ByteArray × Int × Int)} {L : List ByteArray} (h : NS W X pb ps n i e out L S w) (hb : Below w.heap.size w w') : NS W X pb ps n i e out L S w' := h.nc.next hb
theorem two_ways {T G : Prop} (m : T → G) (p : T) : G := m p
theorem step_append_sp {w : World} {ops : Array Oper} {o : Oper} {a : Act} {K : Act → World → Prop} {Q : Exit → Act → World → Prop} {F : Prop} (hgd : o.guard = none) (s x : Operand)
    (ho : o.op = .call { callee := .builtin .append, args := #[s, x], argTypes := #[27, 27] })
    {base g n : Nat} {sv : Value} {xs : List Value} {e : ByteArray × Int × Int} (hs : a.eval s = sv) (hx : a.eval x = .slice (some ⟨g, 0, none⟩) 1 1) (hown : w.ownsRow base 29 3 sv n xs) (hb : base ≤ w.heap.size) (hn : n ≤ 5000)
    (hblk : Blk w g 29 #[.string e.1, .int .i64 e.2.1, .int .i64 e.2.2])
    (h : ∀ v' w', w'.ownsRow base 29 3 v' (n + 1) (xs ++ spCells e) → w.grownBy w' sv.ownBlock → (v'.ownBlock = sv.ownBlock ∨ v'.ownBlock = some w.heap.size) → K (a.put o.dst v') w') :
    if Region.wanted o (yielded ops a.tmps) = true then Oper.wp Tryz.prog o a w K Q else F := by
  have hw : Region.wanted o (yielded ops a.tmps) = true := by simp [Region.wanted, hgd]
  rw [if_pos hw]
  obtain ⟨i0, hi, hz0, hz1, hz2⟩ := info_parts infoS
  obtain ⟨v', w', hr, r2, r3, _, r5⟩ := run_append_own_at (P := Tryz.prog) w base 27 o.type 29 i0 (.agg #[.string ⟨#[]⟩, .int .i64 0, .int .i64 0]) 3 32 underS hi hz0 hz1 hz2 rfl (by decide) sv n xs hown ⟨g, 0, none⟩ 1 1 (spCells e) rfl (World.news_of_block hblk) (sp_one e) (by unfold maxLen; omega) (by omega) hb
  unfold Oper.wp execOp
  simp only [ho, resolve, invoke, builtin, Sem.run_bind, Sem.run_pure, Result.andThen_ok, List.map_toArray, List.map_cons, List.map_nil, hs, hx, hr]
  exact h v' w' r2 r3 r5
section
variable {w w' : World} {a1 a2 a3 a4 p : Addr} {u1 u2 u3 u4 u : Value}
theorem ss_keep (h : w.cell? a1 = some u1 ∧ w.cell? a2 = some u2 ∧ w.cell? a3 = some u3 ∧ w.cell? a4 = some u4) (k1 : w'.heap[a1.block]? = w.heap[a1.block]?) (k2 : w'.heap[a2.block]? = w.heap[a2.block]?) (k3 : w'.heap[a3.block]? = w.heap[a3.block]?) (k4 : w'.heap[a4.block]? = w.heap[a4.block]?) :
    w'.cell? a1 = some u1 ∧ w'.cell? a2 = some u2 ∧ w'.cell? a3 = some u3 ∧ w'.cell? a4 = some u4 := ⟨(World.cell?_of_block k1).trans h.1, (World.cell?_of_block k2).trans h.2.1, (World.cell?_of_block k3).trans h.2.2.1, (World.cell?_of_block k4).trans h.2.2.2⟩
theorem ss_alloc (h : w.cell? a1 = some u1 ∧ w.cell? a2 = some u2 ∧ w.cell? a3 = some u3 ∧ w.cell? a4 = some u4) (o : Obj) :
    (w.alloc o).cell? a1 = some u1 ∧ (w.alloc o).cell? a2 = some u2 ∧ (w.alloc o).cell? a3 = some u3 ∧ (w.alloc o).cell? a4 = some u4 :=
  ss_keep h (Below.heap_alloc w o _ (World.block_lt_of_cell? w _ h.1)) (Below.heap_alloc w o _ (World.block_lt_of_cell? w _ h.2.1)) (Below.heap_alloc w o _ (World.block_lt_of_cell? w _ h.2.2.1)) (Below.heap_alloc w o _ (World.block_lt_of_cell? w _ h.2.2.2))
theorem ss_set (h : w.cell? a1 = some u1 ∧ w.cell? a2 = some u2 ∧ w.cell? a3 = some u3 ∧ w.cell? a4 = some u4) (h1 : a1 ≠ p) (h2 : a2 ≠ p) (h3 : a3 ≠ p) (h4 : a4 ≠ p) (u : Value) :
    (w.setCell p u).cell? a1 = some u1 ∧ (w.setCell p u).cell? a2 = some u2 ∧ (w.setCell p u).cell? a3 = some u3 ∧ (w.setCell p u).cell? a4 = some u4 :=
  ⟨(World.cell?_setCell_other w p a1 u (Ne.symm h1)).trans h.1, (World.cell?_setCell_other w p a2 u (Ne.symm h2)).trans h.2.1, (World.cell?_setCell_other w p a3 u (Ne.symm h3)).trans h.2.2.1, (World.cell?_setCell_other w p a4 u (Ne.symm h4)).trans h.2.2.2⟩
theorem ss3_set {pb : Nat} {b : Nat} {o1 o2 o3 : Nat} (c1 : w.cell? ⟨b, o1, none⟩ = some u1) (c2 : w.cell? ⟨pb, o2, none⟩ = some u2) (c3 : w.cell? ⟨pb, o3, none⟩ = some u3) (h1 : b ≠ p.block) (h2 : pb ≠ p.block) :
    (w.drew.setCell p u).cell? ⟨b, o1, none⟩ = some u1 ∧ (w.drew.setCell p u).cell? ⟨pb, o2, none⟩ = some u2 ∧ (w.drew.setCell p u).cell? ⟨pb, o3, none⟩ = some u3 :=
  ⟨(World.cell?_setCell_far w.drew p ⟨b, o1, none⟩ u (Ne.symm h1)).trans c1, (World.cell?_setCell_far w.drew p ⟨pb, o2, none⟩ u (Ne.symm h2)).trans c2, (World.cell?_setCell_far w.drew p ⟨pb, o3, none⟩ u (Ne.symm h2)).trans c3⟩
theorem Blk.h1 {g : Nat} {t : TypeId} {a b c : Value} (h : Blk w g t #[a, b, c]) : w.cell? ⟨g, 1, none⟩ = some b := h.cell 1
theorem Blk.h2 {g : Nat} {t : TypeId} {a b c : Value} (h : Blk w g t #[a, b, c]) : w.cell? ⟨g, 2, none⟩ = some c := h.cell 2
end
theorem pos_drop {ps : List Int} {i : Nat} {p : Int} (h : (ps.drop i)[0]? = some p) : posOf ps i = p := by
  rw [List.getElem?_drop, Nat.add_zero] at h
  unfold posOf
  rw [List.getD_eq_getElem?_getD, h]
  rfl
theorem nc_ne {W w : World} {X : Nat → Prop} {pb i : Nat} {ps : List Int} {n : Nd} {e : Int} {out : List (ByteArray × Int × Int)} (_h : NC W X pb ps n i e out w) (hl : pb < W.heap.size) : W.heap.size ≠ pb ∧ W.heap.size + 1 ≠ pb := ⟨by omega, by omega⟩
theorem NS.start {W w : World} {X : Nat → Prop} {pb i : Nat} {ps : List Int} {n : Nd} {e : Int} {out : List (ByteArray × Int × Int)} (h : NC W X pb ps n i e (out ++ [(n.kd, posOf ps i, 0)]) w) : NS W X pb ps n i e out [] [] w := by
  unfold NS
  rw [List.append_nil, List.length_nil, Nat.add_zero]
  exact h
theorem kid_sh {n k : Nd} (h : n.shortB = true) (hk : k ∈ n.ks) : k.shortB = true := by
  rw [Nd.shortB_eq, Bool.and_eq_true, List.all_eq_true] at h
  exact h.2 k hk
theorem kindsL_sum : ∀ ks : List Nd, (kindsL ks).length = (ks.map fun k => k.kinds.length).sum
  | [] => by rw [kindsL]; rfl
  | k :: ks => by rw [kindsL, List.length_append, kindsL_sum ks, List.map_cons, List.sum_cons]
theorem kinds_n (n : Nd) {c : Nat} (hc : kcode n.kd = c) : n.kinds.length = 1 + (n.ks.map fun k => k.kinds.length).sum + (if c = 6 then 1 else 0) := by
  subst hc
  obtain ⟨kd, tx, ad, cp, ks⟩ := n
  rw [Nd.kinds]
  show (kd :: kindsL ks ++ (if kcode kd = 6 then leafKinds else [])).length = 1 + (ks.map fun k => k.kinds.length).sum + (if kcode kd = 6 then 1 else 0)
  rw [List.length_append, List.length_cons, kindsL_sum]
  split
  · show _ + 1 + 1 = _
    omega
  · show _ + 1 + 0 = _
    omega
theorem NS.fin {W w : World} {X : Nat → Prop} {pb i : Nat} {ps : List Int} {n : Nd} {e : Int} {out S : List (ByteArray × Int × Int)} {L : List ByteArray} (C : NS W X pb ps n i e out L S w) (hlen : out.length + 1 + S.length ≤ 5001) (hX : ∀ b, b < pb → X b) (hs : n.shapedB = true) (hL : L = n.toks)
    (hS : spansAt (posOf ps) i n = (n.kd, posOf ps i, endOf (posOf ps) i n) :: S) : ∃ g9 c9 m9 v9, (w.cell? ⟨pb, 1, none⟩ = some (.int .i64 v9) ∧ w.cell? ⟨pb, 2, none⟩ = some (.slice (some ⟨g9, 0, none⟩) m9 c9)) ∧ (out.length < m9 ∧ m9 ≤ 5001) ∧
      (w.frozen? ⟨g9, out.length * 3 + 2, none⟩ = false ∧ ∃ u, w.cell? ⟨g9, out.length * 3 + 2, none⟩ = some u) ∧
      ((w.drew.setCell ⟨g9, out.length * 3 + 2, none⟩ (.int .i64 v9)).cell? ⟨W.heap.size, 0, none⟩ = some (.pointer (some ⟨pb, 0, none⟩)) ∧ (w.drew.setCell ⟨g9, out.length * 3 + 2, none⟩ (.int .i64 v9)).cell? ⟨pb, 1, none⟩ = some (.int .i64 v9) ∧ (w.drew.setCell ⟨g9, out.length * 3 + 2, none⟩ (.int .i64 v9)).cell? ⟨pb, 2, none⟩ = some (.slice (some ⟨g9, 0, none⟩) m9 c9)) ∧
      TkPost X pb ps i e out W n.toks (spansAt (posOf ps) i n) (.returned (.tuple #[])) (w.drew.setCell ⟨g9, out.length * 3 + 2, none⟩ (.int .i64 v9)) := by
  have hP9 := C.drew.nc.st_
  have hC9 := C.drew.nc
  obtain ⟨v9, hv9⟩ : ∃ v, eT (posOf ps) i L e = v := ⟨_, rfl⟩
  rw [hv9] at hP9
  obtain ⟨g9, c9, A9, n9, cap9, hb9, hpg, hgl, hgx, hfz, hu9, hP8, hF8⟩ := PS.setTo hP9 v9
  have hbs : W.heap.size ≠ g9 := fun h => hgx (h ▸ .inr (.inl rfl))
  refine ⟨g9, c9, _, v9, ⟨hb9.h1, hb9.h2⟩, ⟨by simp <;> omega, by simp <;> omega⟩, ⟨hfz, hu9⟩, ss3_set (u := .int .i64 v9) C.cB hb9.h1 hb9.h2 (p := ⟨g9, out.length * 3 + 2, none⟩) hbs (by show pb ≠ g9; omega), ?_⟩
  exact NS.done hX hs hL hS hv9.symm (hv9 ▸ hP8) (hC9.fr.trans (hF8.less fun b hb => .inl hb))

end Go.Proofs.YtjbhjbpamnoebaaGreatFmt
