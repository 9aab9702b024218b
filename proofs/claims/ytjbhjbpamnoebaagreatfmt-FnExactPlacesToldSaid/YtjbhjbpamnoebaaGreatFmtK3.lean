/-
  impl.builder: the state of a builder; next, operator, and the closure that makes an expression of a node below.
  The state of a call of builder.expr: what stands while its statements go by.
  builder.list: expressions of nodes with commas between.
-/
import Derived.Test.YtjbhjbpamnoebaaGreatFmtK1
import Derived.Deep.RegionHeld3
import Derived.Deep.QuietTactic
import Derived.BigQuiet
import Derived.Maps.AppendAt
import Derived.OwnWalk
namespace Go.Proofs.YtjbhjbpamnoebaaGreatFmt
open Go.RowKit

/-- The place of token number i: 1 if it is not told. -/
def posOf (ps : List Int) (i : Nat) : Int := ps.getD i 1
/-- The builder in block bb has given i of the places; the table of the tokens' texts is there. -/
def BAt (w : World) (bb : Nat) (ps : List Int) (i : Nat) : Prop :=
  (TokTab w ∧ 0 < bb) ∧
  ∃ A n cap, Blk w bb 252 #[.slice A n cap] ∧ n = (ps.drop i).length ∧ n ≤ cap ∧ cap ≤ maxLen ∧
    ∀ (j : Nat) (x : Int), (ps.drop i)[j]? = some x → ∃ g o, A = some ⟨g, o, none⟩ ∧ g < bb ∧ w.cell? ⟨g, o + j, none⟩ = some (.int .i64 x)
theorem BAt.lt {w : World} {bb : Nat} {ps : List Int} {i : Nat} (h : BAt w bb ps i) : bb < w.heap.size := by
  obtain ⟨_, _, _, _, h, _⟩ := h
  exact h.lt
theorem tok_keep {w w' : World} {bb : Nat} (h : TokTab w ∧ 0 < bb) (hk : ∀ b, b < bb → w'.heap[b]? = w.heap[b]?) : TokTab w' ∧ 0 < bb :=
  ⟨fun i hi => (World.cell?_of_block (hk _ h.2)).trans (h.1 i hi), h.2⟩
theorem BAt.keep {w w' : World} {bb : Nat} {ps : List Int} {i : Nat} (h : BAt w bb ps i) (hk : ∀ b, b ≤ bb → w'.heap[b]? = w.heap[b]?) : BAt w' bb ps i := by
  obtain ⟨ht, A, n, cap, hb, hn, hc, hm, hx⟩ := h
  refine ⟨tok_keep ht fun b hb => hk b (by omega), A, n, cap, hb.keep (hk _ (Nat.le_refl _)), hn, hc, hm, fun j x hj => ?_⟩
  obtain ⟨g, o, rfl, hg, hcell⟩ := hx j x hj
  exact ⟨g, o, rfl, hg, (World.cell?_of_block (a := ⟨g, o + j, none⟩) (hk g (by omega))).trans hcell⟩
theorem BAt.drew {w : World} {bb : Nat} {ps : List Int} {i : Nat} (h : BAt w bb ps i) : BAt w.drew bb ps i := h
theorem grown_self {w : World} {bb : Nat} (u : Value) : w.grownBy (w.setCell ⟨bb, 0, none⟩ u) (some bb) :=
  ⟨rfl, rfl, rfl, by simp [World.setCell], fun i _ hne => Below.heap_setCell w ⟨bb, 0, none⟩ u i (fun e => hne (congrArg some e))⟩
/-- Behind the first of the places. -/
theorem BAt.step {w : World} {bb : Nat} {ps : List Int} {i : Nat} {A : Option Addr} {n cap : Nat} (ht : TokTab w ∧ 0 < bb) (hb : Blk w bb 252 #[.slice A n cap])
    (A' : Option Addr) (cap' : Nat) (hn : n - 1 = (ps.drop (i + 1)).length) (hc : n - 1 ≤ cap') (hm : cap' ≤ maxLen)
    (hx : ∀ (j : Nat) (x : Int), (ps.drop (i + 1))[j]? = some x → ∃ g o, A' = some ⟨g, o, none⟩ ∧ g < bb ∧ w.cell? ⟨g, o + j, none⟩ = some (.int .i64 x)) :
    BAt (w.setCell ⟨bb, 0, none⟩ (.slice A' (n - 1) cap')) bb ps (i + 1) := by
  refine ⟨tok_keep ht fun b hb => Below.heap_setCell w _ _ b (by simp; omega), A', n - 1, cap', by simpa using hb.set_ 0 _, hn, hc, hm, fun j x hj => ?_⟩
  obtain ⟨g, o, rfl, hg, hcell⟩ := hx j x hj
  exact ⟨g, o, rfl, hg, (World.cell?_of_block (a := ⟨g, o + j, none⟩) (Below.heap_setCell w _ _ g (by simp; omega))).trans hcell⟩

def NextIs (W : World) (bb : Nat) (ps : List Int) (i : Nat) (e : Ending) (w' : World) : Prop :=
  e = .returned (.int .i64 (posOf ps i)) ∧ BAt w' bb ps (i + 1) ∧ W.grownBy w' (some bb)
theorem next_any (w : World) (bb : Nat) (ps : List Int) (i : Nat) (h : BAt w bb ps i) :
    Calls Tryz.prog 57 #[.pointer (some ⟨bb, 0, none⟩)] w (NextIs w bb ps i) := by
  obtain ⟨ht, A, n, cap, hb, hn, hc, hm, hx⟩ := h
  have HT := Lib.hid ht
  clear ht
  by_cases hi : i < ps.length
  · have hd : ps.drop i = ps[i] :: ps.drop (i + 1) := List.drop_eq_getElem_cons hi
    have hx1 : ∀ (j : Nat) (x : Int), (ps.drop (i + 1))[j]? = some x → ∃ g o, A = some ⟨g, o, none⟩ ∧ g < bb ∧ w.cell? ⟨g, o + 1 + j, none⟩ = some (.int .i64 x) := fun j x hj => by
      obtain ⟨g, o, h1, h2, h3⟩ := hx (j + 1) x (by rw [hd]; exact hj)
      exact ⟨g, o, h1, h2, by rwa [show o + 1 + j = o + (j + 1) by omega]⟩
    obtain ⟨g, o, rfl, hg, hcell⟩ := hx 0 ps[i] (by rw [hd]; rfl)
    have hp : posOf ps i = ps[i] := by simp [posOf, List.getD, hi]
    have hn1 : n = (ps.drop (i + 1)).length + 1 := by rw [hn, hd]; rfl
    have hn0 : 0 < n := by omega
    have hni : (0 : Int) < (n : Int) := by omega
    have hne : ((n : Int) == 0) = false := by simp; omega
    have hmm : cap ≤ 9223372036854775807 := by unfold maxLen at hm; omega
    have c0 := hb.cell 0
    have f0 := hb.frozen 0
    simp only [Nat.add_zero] at hcell
    simp at c0
    generalize ps[i] = x at hcell hp
    have HP := Lib.hid hp
    have HN := Lib.hid hn1
    have HX := Lib.hid hx1
    have HB := Lib.hid hb
    clear hp hn1 hx hx1 hb hn hd
    by_cases hcap : cap = 1
    · subst hcap
      obtain rfl : n = 1 := by omega
      go_enter Tryz.func57, Tryz.ntmps57
      go_wp2
      go_ret
      have hl : (ps.drop (i + 1)).length = 0 := by have := HN.out; omega
      refine ⟨by rw [HP.out]; rfl, BAt.step HT.out HB.out _ 0 (by omega) (by omega) (by omega) fun j x hj => ?_, grown_self _⟩
      rw [List.length_eq_zero_iff.1 hl] at hj
      cases hj
    · have hcap' : ¬ cap = 1 := hcap
      go_enter Tryz.func57, Tryz.ntmps57
      go_wp2
      go_ret
      refine ⟨by rw [HP.out]; rfl, BAt.step HT.out HB.out _ _ (by have := HN.out; omega) (by omega) (by omega) fun j x hj => ?_, grown_self _⟩
      obtain ⟨g', o', h1, h2, h3⟩ := HX.out j x hj
      cases h1
      exact ⟨g, o + 1, rfl, h2, h3⟩
  · have hd : ps.drop i = [] := List.drop_eq_nil_of_le (by omega)
    have hd1 : ps.drop (i + 1) = [] := List.drop_eq_nil_of_le (by omega)
    have hp : posOf ps i = 1 := by simp [posOf, List.getD, hi]
    obtain rfl : n = 0 := by rw [hn, hd]; rfl
    have c0 := hb.cell 0
    simp at c0
    have HP := Lib.hid hp
    have HN := Lib.hid hd1
    have HB := Lib.hid hb
    clear hp hd hd1 hx hb hn
    go_enter Tryz.func57, Tryz.ntmps57
    go_wp2
    go_ret
    refine ⟨by rw [HP.out]; rfl, ⟨HT.out, A, 0, cap, HB.out, by rw [HN.out]; rfl, hc, hm, fun j x hj => ?_⟩, grown_refl _ _⟩
    rw [HN.out] at hj
    cases hj

/-! ### operator -/
theorem toList_data (tx : ByteArray) : tx.toList = tx.data.toList := by
  obtain ⟨⟨l⟩⟩ := tx
  exact ByteArray.toList_mk _
theorem op_len (tx : ByteArray) (h : tx.data.toList ∈ opTexts) : 12 ≤ opNo tx ∧ opNo tx < 59 := by
  have : opTexts.idxOf tx.data.toList < opTexts.length := List.idxOf_lt_length_iff.2 h
  have h47 : opTexts.length = 47 := rfl
  unfold opNo
  omega
theorem op_tab (k : Nat) (h1 : 12 ≤ k) (h2 : k < 59) : opTexts[k - 12]? = some (tab.getD k []) := by
  have h : ∀ k < 59, 12 ≤ k → opTexts[k - 12]? = some (tab.getD k []) := by decide
  exact h k h2 h1
theorem op_full (k : Nat) (h1 : 12 ≤ k) (h2 : k < 59) : (tab.getD k []).isEmpty = false := by
  have h : ∀ k < 59, 12 ≤ k → (tab.getD k []).isEmpty = false := by decide
  exact h k h2 h1
theorem op_here (tx : ByteArray) (h : tx.data.toList ∈ opTexts) : tab.getD (opNo tx) [] = tx.data.toList := by
  have hl : opTexts.idxOf tx.data.toList < opTexts.length := List.idxOf_lt_length_iff.2 h
  have h1 := op_tab (opNo tx) (op_len tx h).1 (op_len tx h).2
  rw [show opNo tx - 12 = opTexts.idxOf tx.data.toList by unfold opNo; omega, List.getElem?_eq_getElem hl, List.getElem_idxOf hl] at h1
  exact (Option.some.inj h1).symm
theorem op_ne (tx : ByteArray) (k : Nat) (h1 : 12 ≤ k) (h2 : k < opNo tx) (h3 : k < 59) : tab.getD k [] ≠ tx.data.toList := by
  intro e
  have h := op_tab k h1 h3
  obtain ⟨hl, he⟩ := List.getElem?_eq_some_iff.1 h
  have hlt : k - 12 < List.findIdx (· == tx.data.toList) opTexts := by
    have : opTexts.idxOf tx.data.toList = List.findIdx (· == tx.data.toList) opTexts := rfl
    unfold opNo at h2
    omega
  have := List.not_of_lt_findIdx hlt
  rw [he, e] at this
  simp at this

theorem operator_any (w : World) (tx : ByteArray) (hT : TokTab w) (h : tx.data.toList ∈ opTexts) :
    Calls Tryz.prog 58 #[.string tx] w fun e w' => e = .returned (.int .i64 (opNo tx)) ∧ w = w' := by
  have HT := Lib.hid hT
  have HM := Lib.hid h
  obtain ⟨hl1, hl2⟩ := op_len tx h
  clear hT h
  go_enter Tryz.func58, Tryz.ntmps58
  go_wp2
  go_loop [3] (fun i => ∃ k : Nat, 12 ≤ k ∧ k ≤ opNo tx ∧ i = .int .i64 k) (fun i => 100 - (intOf i).toNat)
  case atStart => exact ⟨12, by omega, hl1, rfl⟩
  case round =>
    obtain ⟨k, hk1, hk2, rfl⟩ := hrel
    have hk88 : (k : Int) < 88 := by omega
    have HS := Lib.hid (String_tab k (by omega) (op_full k hk1 (by omega)) w HT.out)
    by_cases he : k = opNo tx
    · have hs : ((tk k).toList == tx.toList) = true := by
        rw [he, tk_toList, op_here tx HM.out, toList_data]
        simp
      have HE := Lib.hid he
      clear he
      go_wp2_with fail
      refine HS.out.mono ?_
      rintro e w1 ⟨rfl, rfl⟩
      go_wp2_with fail
      go_ret
      rw [HE.out]
      exact ⟨rfl, rfl⟩
    · have hs : ((tk k).toList == tx.toList) = false := by
        have hk3 : k < opNo tx := Nat.lt_of_le_of_ne hk2 he
        have := op_ne tx k hk1 hk3 (by omega)
        rw [tk_toList, toList_data]
        exact beq_eq_false_iff_ne.2 this
      have HL := Lib.hid (Nat.succ_le_of_lt (Nat.lt_of_le_of_ne hk2 he))
      clear he
      go_wp2_with fail
      refine HS.out.mono ?_
      rintro e w1 ⟨rfl, rfl⟩
      go_wp2_with fail
      go_round
      case rel => exact ⟨k + 1, by omega, HL.out, by go_num⟩
      case measure => simp [intOf]; omega

/-! ### What stands through a call of expr -/
/-- In the call of expr that began in W: the boxes of the builder and of the node, and the builder's state. -/
def Ctx (W : World) (bb : Nat) (ps : List Int) (n : Nd) (i : Nat) (w : World) : Prop :=
  Blk w W.heap.size 250 #[.pointer (some ⟨bb, 0, none⟩)] ∧ Blk w (W.heap.size + 1) 24 n.cells.toArray ∧ BAt w bb ps i ∧ W.grownBy w (some bb) ∧ bb < W.heap.size ∧ n.In w bb
section
variable {W w w' : World} {bb : Nat} {ps : List Int} {n : Nd} {i j : Nat}
theorem in_grown (h : n.In w bb) (hg : w.grownBy w' (some bb)) (hbb : bb < w.heap.size) : n.In w' bb :=
  Nd.In.keep (fun p hp => World.cell?_of_block (hg.block p.block (by omega) (fun e => by cases e; omega))) (Nat.le_refl _) n h
theorem Ctx.bat (h : Ctx W bb ps n i w) : BAt w bb ps i := h.2.2.1
theorem Ctx.grown (h : Ctx W bb ps n i w) : W.grownBy w (some bb) := h.2.2.2.1
theorem Ctx.lt (h : Ctx W bb ps n i w) : bb < W.heap.size := h.2.2.2.2.1
theorem Ctx.in_ (h : Ctx W bb ps n i w) : n.In w bb := h.2.2.2.2.2
theorem Ctx.size (h : Ctx W bb ps n i w) : W.heap.size + 1 < w.heap.size := h.2.1.lt
theorem Ctx.cellB (h : Ctx W bb ps n i w) : w.cell? ⟨W.heap.size, 0, none⟩ = some (.pointer (some ⟨bb, 0, none⟩)) := h.1.cell 0
theorem Ctx.cellK (h : Ctx W bb ps n i w) : w.cell? ⟨W.heap.size + 1, 0, none⟩ = some (.string n.kd) := h.2.1.cell 0
theorem Ctx.cellT (h : Ctx W bb ps n i w) : w.cell? ⟨W.heap.size + 1, 1, none⟩ = some (.string n.tx) := h.2.1.cell 1
theorem Ctx.cellS (h : Ctx W bb ps n i w) : w.cell? ⟨W.heap.size + 1, 2, none⟩ = some (.slice n.ad n.ks.length n.cp) := h.2.1.cell 2
theorem Ctx.next (h : Ctx W bb ps n i w) (hB : BAt w' bb ps j) (hg : w.grownBy w' (some bb)) : Ctx W bb ps n j w' := by
  obtain ⟨h1, h2, h3, h4, h5, h6⟩ := h
  exact ⟨h1.grown hg (fun e => by cases e; omega), h2.grown hg (fun e => by cases e; omega), hB, grown_trans h4 hg, h5, in_grown h6 hg h3.lt⟩
theorem Ctx.alloc (h : Ctx W bb ps n i w) (o : Obj) : Ctx W bb ps n i (w.alloc o) :=
  h.next (h.bat.keep fun b hb => Below.heap_alloc w o b (by have := h.bat.lt; omega)) (World.grownBy_alloc w o _)
theorem Ctx.drew (h : Ctx W bb ps n i w) : Ctx W bb ps n i w.drew := h.next h.bat.drew (grown_drew (grown_refl _ _))
theorem Ctx.set_ (h : Ctx W bb ps n i w) {p : Addr} (hp : W.heap.size + 1 < p.block) (u : Value) : Ctx W bb ps n i (w.setCell p u) := by
  obtain ⟨h1, h2, h3, h4, h5, h6⟩ := h
  exact ⟨h1.far (by omega) u, h2.far (by omega) u, h3.keep fun b hb => Below.heap_setCell w p u b (by omega), grown_set h4 (by omega) u, h5,
    Nd.In.keep (fun q hq => World.cell?_of_block (Below.heap_setCell w p u q.block (by omega))) (Nat.le_refl _) n h6⟩
theorem Ctx.start (hB : BAt W bb ps i) (hin : n.In W bb) : Ctx W bb ps n i ((W.alloc (.cells #[.pointer (some ⟨bb, 0, none⟩)] 250)).alloc (.cells n.cells.toArray 24)) := by
  have hlt := hB.lt
  have hg : W.grownBy ((W.alloc (.cells #[.pointer (some ⟨bb, 0, none⟩)] 250)).alloc (.cells n.cells.toArray 24)) (some bb) := grown_alloc (grown_alloc (grown_refl _ _) _) _
  refine ⟨(Blk.new _ _ _).alloc _, ?_, hB.keep fun b hb => ?_, hg, hlt, in_grown hin hg hlt⟩
  · have := Blk.new (W.alloc (.cells #[.pointer (some ⟨bb, 0, none⟩)] 250)) 24 n.cells.toArray
    rwa [World.size_alloc] at this
  · rw [Below.heap_alloc _ _ _ (by rw [World.size_alloc]; omega), Below.heap_alloc _ _ _ (by omega)]
end

/-- What a call of expr, begun in W, leaves. -/
def EPost (W : World) (bb : Nat) (ps : List Int) (i : Nat) (n : Nd) (e : Ending) (w' : World) : Prop :=
  ∃ v, e = .returned v ∧ ExR w' (Rng W.heap.size w'.heap.size) (posOf ps) i n v ∧ BAt w' bb ps (i + n.ntok) ∧ W.grownBy w' (some bb)
/-- The contract of expr at a tree. -/
def EOf (ps : List Int) (n : Nd) : Prop := ∀ (w : World) (bb i : Nat), BAt w bb ps i → n.In w bb →
  Calls Tryz.prog 39 #[.pointer (some ⟨bb, 0, none⟩), n.val] w (EPost w bb ps i n)

theorem in_drew {w : World} {B : Nat} {n : Nd} (h : n.In w B) : n.In w.drew B := Nd.In.keep (w := w) (w' := w.drew) (fun _ _ => rfl) (Nat.le_refl _) n h
theorem kid_keep {W w w1 : World} {bb b o1 o2 o3 : Nat} {u1 u2 u3 u4 u5 : Value} (hsz : W.heap.size + 1 < w.heap.size) (hlt : bb < W.heap.size) (hb : b < bb) (hg : w.drew.grownBy w1 (some bb))
    (c1 : w.cell? ⟨W.heap.size, 0, none⟩ = some u1) (c2 : w.cell? ⟨W.heap.size + 1, 2, none⟩ = some u2) (c3 : w.cell? ⟨b, o1, none⟩ = some u3) (c4 : w.cell? ⟨b, o2, none⟩ = some u4) (c5 : w.cell? ⟨b, o3, none⟩ = some u5) :
    w1.cell? ⟨W.heap.size, 0, none⟩ = some u1 ∧ w1.cell? ⟨W.heap.size + 1, 2, none⟩ = some u2 ∧ w1.cell? ⟨b, o1, none⟩ = some u3 ∧ w1.cell? ⟨b, o2, none⟩ = some u4 ∧ w1.cell? ⟨b, o3, none⟩ = some u5 := by
  have hk : ∀ x, x < w.heap.size → x ≠ bb → w1.heap[x]? = w.heap[x]? := fun x hx hne => hg.block x hx (fun e => hne (Option.some.inj e))
  have k1 := hk W.heap.size (by omega) (by omega)
  have k2 := hk (W.heap.size + 1) (by omega) (by omega)
  have k3 := hk b (by omega) (by omega)
  exact ⟨(World.cell?_of_block (a := ⟨W.heap.size, 0, none⟩) k1).trans c1, (World.cell?_of_block (a := ⟨W.heap.size + 1, 2, none⟩) k2).trans c2, (World.cell?_of_block (a := ⟨b, o1, none⟩) k3).trans c3,
    (World.cell?_of_block (a := ⟨b, o2, none⟩) k3).trans c4, (World.cell?_of_block (a := ⟨b, o3, none⟩) k3).trans c5⟩

theorem kid_keep0 (w : World) {a1 a2 a3 a4 a5 : Addr} {u1 u2 u3 u4 u5 : Value} (c1 : w.cell? a1 = some u1) (c2 : w.cell? a2 = some u2) (c3 : w.cell? a3 = some u3) (c4 : w.cell? a4 = some u4) (c5 : w.cell? a5 = some u5) :
    w.drew.cell? a1 = some u1 ∧ w.drew.cell? a2 = some u2 ∧ w.drew.cell? a3 = some u3 ∧ w.drew.cell? a4 = some u4 ∧ w.drew.cell? a5 = some u5 := ⟨c1, c2, c3, c4, c5⟩

/-- The closure that makes the expression of node number j below. -/
theorem kid_any (ps : List Int) (n : Nd) (W w : World) (bb i : Nat) (C : Ctx W bb ps n i w) (j : Nat) (k : Nd) (hk : n.ks[j]? = some k) (IH : EOf ps k) :
    Calls Tryz.prog 56 #[.int .i64 j, .pointer (some ⟨W.heap.size + 1, 0, none⟩), .pointer (some ⟨W.heap.size, 0, none⟩)] w (EPost w bb ps i k) := by
  have hjl : (j : Int) < (n.ks.length : Int) := by have := (List.getElem?_eq_some_iff.1 hk).1; omega
  have hj0 : (0 : Int) ≤ (j : Int) := by omega
  have cB := C.cellB
  have cS := C.cellS
  obtain ⟨hl, hm, hall⟩ := Nd.In_iff.1 C.in_
  obtain ⟨⟨b, o, had, hb, c1, c2, c3⟩, hkin⟩ := hall j k hk
  rw [had] at cS
  have hlm : n.ks.length ≤ 9223372036854775807 := by unfold maxLen at hm; omega
  have hlt := C.lt
  have hsz := C.size
  have hBk := Lib.hid C.bat
  have HI := Lib.hid hkin
  have hc0 : Calls Tryz.prog 39 #[.pointer (some ⟨bb, 0, none⟩), .agg #[.string k.kd, .string k.tx, .slice k.ad k.ks.length k.cp]] w.drew (EPost w.drew bb ps i k) := IH w.drew bb i hBk.out.drew (in_drew HI.out)
  have HC := Lib.hid hc0
  clear C hk had hall hkin IH hm hc0
  go_enter Tryz.func56, Tryz.ntmps56
  go_wp2_with fail
  go_region_held3 (fun w' => w'.cell? ⟨W.heap.size, 0, none⟩ = some (.pointer (some ⟨bb, 0, none⟩)) ∧ w'.cell? ⟨W.heap.size + 1, 2, none⟩ = some (.slice (some ⟨b, o, none⟩) n.ks.length n.cp) ∧ w'.cell? ⟨b, o + j * 3, none⟩ = some (.string k.kd) ∧ w'.cell? ⟨b, o + j * 3 + 1, none⟩ = some (.string k.tx) ∧ w'.cell? ⟨b, o + j * 3 + 2, none⟩ = some (.slice k.ad k.ks.length k.cp)) (first | exact kid_keep hsz hlt hb hg.out cB cS c1 c2 c3 | exact kid_keep0 w cB cS c1 c2 c3)
    (first | (go_at_call 39; refine HC.out.mono ?_; rintro e w1 ⟨v, rfl, hE, hB1, hg1⟩; have hE := Lib.hid hE; have hB1 := Lib.hid hB1; have hg := Lib.hid hg1; clear hg1))
  go_wp2_with fail
  go_ret
  exact ⟨_, rfl, hE.out, hB1.out, grown_trans (grown_drew (grown_refl _ _)) hg.out⟩
end Go.Proofs.YtjbhjbpamnoebaaGreatFmt

namespace Go.Proofs.YtjbhjbpamnoebaaGreatFmt
open Go.RowKit

/-- Expressions made so far: the number of the first token, the tree, the value. -/
def St0 (W : World) (bb : Nat) (ps : List Int) (n : Nd) (j : Nat) (es : List (Nat × Nd × Value)) (w : World) : Prop :=
  Ctx W bb ps n j w ∧ ∀ e ∈ es, ∃ lo hi, W.heap.size + 1 < lo ∧ hi ≤ w.heap.size ∧ ExR w (Rng lo hi) (posOf ps) e.1 e.2.1 e.2.2
/-- The same, the node's own block b being there. -/
def St (W : World) (bb : Nat) (ps : List Int) (n : Nd) (b : Nat) (t : TypeId) (cs : Array Value) (j : Nat) (es : List (Nat × Nd × Value)) (w : World) : Prop :=
  Ctx W bb ps n j w ∧ W.heap.size + 1 < b ∧ Blk w b t cs ∧ ∀ e ∈ es, ∃ lo hi, W.heap.size + 1 < lo ∧ hi ≤ w.heap.size ∧ (b < lo ∨ hi ≤ b) ∧ ExR w (Rng lo hi) (posOf ps) e.1 e.2.1 e.2.2
section
variable {W w w' : World} {bb : Nat} {ps : List Int} {n : Nd} {b : Nat} {t : TypeId} {cs : Array Value} {j j' : Nat} {es : List (Nat × Nd × Value)}
theorem St0.ctx (h : St0 W bb ps n j es w) : Ctx W bb ps n j w := h.1
theorem St.ctx (h : St W bb ps n b t cs j es w) : Ctx W bb ps n j w := h.1
theorem Ctx.st (h : Ctx W bb ps n j w) : St0 W bb ps n j [] w := ⟨h, fun e he => by cases he⟩
theorem St0.next (h : St0 W bb ps n j es w) (hB : BAt w' bb ps j') (hg : w.grownBy w' (some bb)) : St0 W bb ps n j' es w' := by
  refine ⟨h.1.next hB hg, fun e he => ?_⟩
  obtain ⟨lo, hi, h1, h2, h3⟩ := h.2 e he
  have := hg.size
  exact ⟨lo, hi, h1, by omega, h3.grownR hg (by have := h.1.lt; omega) h2⟩
theorem St0.drew (h : St0 W bb ps n j es w) : St0 W bb ps n j es w.drew := h.next h.1.bat.drew (grown_drew (grown_refl _ _))
theorem St0.kid (h : St0 W bb ps n j es w) {k : Nd} {v : Value} (hE : ExR w' (Rng w.heap.size w'.heap.size) (posOf ps) j k v) (hB : BAt w' bb ps j') (hg : w.grownBy w' (some bb)) : St0 W bb ps n j' (es ++ [(j, k, v)]) w' := by
  have h' := h.next hB hg
  refine ⟨h'.1, fun e he => ?_⟩
  rcases List.mem_append.1 he with he | he
  · exact h'.2 e he
  · rw [List.mem_singleton] at he
    subst he
    exact ⟨_, _, h.1.size, Nat.le_refl _, hE⟩
theorem St0.box (h : St0 W bb ps n j es w) (t : TypeId) (cs : Array Value) : St W bb ps n w.heap.size t cs j es (w.alloc (.cells cs t)) := by
  refine ⟨h.1.alloc _, h.1.size, Blk.new _ _ _, fun e he => ?_⟩
  obtain ⟨lo, hi, h1, h2, h3⟩ := h.2 e he
  exact ⟨lo, hi, h1, by rw [World.size_alloc]; omega, .inr h2, h3.allocR h2 _⟩
theorem St.next (h : St W bb ps n b t cs j es w) (hB : BAt w' bb ps j') (hg : w.grownBy w' (some bb)) : St W bb ps n b t cs j' es w' := by
  obtain ⟨h1, h2, h3, h4⟩ := h
  refine ⟨h1.next hB hg, h2, h3.grown hg (fun e => by cases e; have := h1.lt; omega), fun e he => ?_⟩
  obtain ⟨lo, hi, k1, k2, k3, k4⟩ := h4 e he
  have := hg.size
  exact ⟨lo, hi, k1, by omega, k3, k4.grownR hg (by have := h1.lt; omega) k2⟩
theorem St.drew (h : St W bb ps n b t cs j es w) : St W bb ps n b t cs j es w.drew := h.next h.1.bat.drew (grown_drew (grown_refl _ _))
theorem St.kid (h : St W bb ps n b t cs j es w) {k : Nd} {v : Value} (hE : ExR w' (Rng w.heap.size w'.heap.size) (posOf ps) j k v) (hB : BAt w' bb ps j') (hg : w.grownBy w' (some bb)) : St W bb ps n b t cs j' (es ++ [(j, k, v)]) w' := by
  have h' := h.next hB hg
  refine ⟨h'.1, h'.2.1, h'.2.2.1, fun e he => ?_⟩
  rcases List.mem_append.1 he with he | he
  · exact h'.2.2.2 e he
  · rw [List.mem_singleton] at he
    subst he
    exact ⟨_, _, h.1.size, Nat.le_refl _, .inl h.2.2.1.lt, hE⟩
theorem St.set_ (h : St W bb ps n b t cs j es w) (i : Nat) (u : Value) : St W bb ps n b t (cs.setIfInBounds i u) j es (w.setCell ⟨b, i, none⟩ u) := by
  obtain ⟨h1, h2, h3, h4⟩ := h
  refine ⟨h1.set_ h2 u, h2, h3.set_ i u, fun e he => ?_⟩
  obtain ⟨lo, hi, k1, k2, k3, k4⟩ := h4 e he
  exact ⟨lo, hi, k1, by simpa [World.setCell] using k2, k3, k4.setR k3 u⟩
theorem St.cell (h : St W bb ps n b t cs j es w) (i : Nat) : w.cell? ⟨b, i, none⟩ = cs[i]? := h.2.2.1.cell i
theorem St.frozen (h : St W bb ps n b t cs j es w) (i : Nat) : w.frozen? ⟨b, i, none⟩ = false := h.2.2.1.frozen i
theorem St.own (h : St W bb ps n b t cs j es w) : Rng W.heap.size w.heap.size b := ⟨by have := h.2.1; omega, h.2.2.1.lt⟩
theorem St.ex (h : St W bb ps n b t cs j es w) {i : Nat} {k : Nd} {v : Value} (hm : (i, k, v) ∈ es) : ExR w (Rng W.heap.size w.heap.size) (posOf ps) i k v := by
  obtain ⟨lo, hi, k1, k2, k3, k4⟩ := h.2.2.2 _ hm
  exact k4.wideR (by omega) k2
theorem St.blk (h : St W bb ps n b t cs j es w) : Blk w b t cs := h.2.2.1
theorem St.done (h : St W bb ps n b t cs j es w) {i : Nat} (hj : j = i + n.ntok) {v : Value} (hE : ExR w (Rng W.heap.size w.heap.size) (posOf ps) i n v) : EPost W bb ps i n (.returned v) w :=
  ⟨v, rfl, hE, hj ▸ h.1.bat, h.1.grown⟩
end
theorem ExR.mk {w : World} {S : Nat → Prop} {P : Nat → Int} {i : Nat} {kd tx : ByteArray} {ad : Option Addr} {cp : Nat} {ks : List Nd} {vs : List Value} {v : Value} (c : Nat) (hc : kcode kd = c)
    (hl : ExL w S P (starts c tx (ks.map Nd.ntok) i) ks vs) (hn : NodeAt w S P c tx (ks.map Nd.ntok) i (ownTok c tx ks.length + ntokL ks) vs v) : ExR w S P i ⟨kd, tx, ad, cp, ks⟩ v := by
  subst hc
  exact ⟨vs, hl, hn⟩
theorem Nd.ntok_of {kd tx : ByteArray} {ad : Option Addr} {cp : Nat} {ks : List Nd} (c : Nat) (hc : kcode kd = c) : Nd.ntok ⟨kd, tx, ad, cp, ks⟩ = ownTok c tx ks.length + ntokL ks := by
  subst hc
  rfl
end Go.Proofs.YtjbhjbpamnoebaaGreatFmt

namespace Go.Proofs.YtjbhjbpamnoebaaGreatFmt
open Go.RowKit

theorem infoE : (Tryz.prog.info? 44).map (fun i => (i.zero, i.size, i.bytes)) = some (some .nilIface, 1, 16) := by kernel_rfl
theorem underE : Tryz.prog.underlying 96 = some (.slice 44) := by kernel_rfl

/-- Where node number j begins, of nodes with commas between. -/
def cAt (i : Nat) (ks : List Nd) (j : Nat) : Nat := i + ntokL (ks.take j) + j
theorem ntokL_take {ks : List Nd} {j : Nat} {x : Nd} (h : ks[j]? = some x) : ntokL (ks.take (j + 1)) = ntokL (ks.take j) + x.ntok := by
  induction ks generalizing j with
  | nil => simp at h
  | cons y ks ih =>
    cases j with
    | zero => simp at h; subst h; simp [ntokL]
    | succ j =>
      have := ih (j := j) (by simpa using h)
      rw [List.take_succ_cons, List.take_succ_cons, ntokL, ntokL, this]
      omega
theorem ExL.of_at {w : World} {S : Nat → Prop} {P : Nat → Int} : ∀ (ks : List Nd) (vs : List Value) (i : Nat), vs.length = ks.length →
    (∀ j x v, ks[j]? = some x → vs[j]? = some v → ExR w S P (cAt i ks j) x v) → ExL w S P (commas i (ks.map Nd.ntok)) ks vs
  | [], [], _, _, _ => trivial
  | [], _ :: _, _, h, _ => by simp at h
  | _ :: _, [], _, h, _ => by simp at h
  | k :: ks, v :: vs, i, h, hx => by
    refine ⟨hx 0 k v rfl rfl, ExL.of_at ks vs (i + k.ntok + 1) (by simpa using h) fun j x u hj hu => ?_⟩
    have := hx (j + 1) x u (by simpa using hj) (by simpa using hu)
    unfold cAt at this ⊢
    rwa [List.take_succ_cons, ntokL, show i + (k.ntok + ntokL (ks.take j)) + (j + 1) = i + k.ntok + 1 + ntokL (ks.take j) + j by omega] at this

/-- What list has made of the first k nodes. -/
def LI (W : World) (bb : Nat) (ps : List Int) (i : Nat) (ks : List Nd) (k : Nat) (sv : Value) (vs : List Value) (w : World) : Prop :=
  k ≤ ks.length ∧ (vs.length = k ∧ (k = 0 → sv = .slice none 0 0)) ∧ w.ownsRow W.heap.size 44 1 sv k vs ∧ W.grownBy w (some bb) ∧ bb < W.heap.size ∧
    ∀ j x v, ks[j]? = some x → vs[j]? = some v → ∃ lo hi, W.heap.size ≤ lo ∧ hi ≤ w.heap.size ∧ (∀ g, sv.ownBlock = some g → g < lo ∨ hi ≤ g) ∧ ExR w (Rng lo hi) (posOf ps) (cAt i ks j) x v
section
variable {W w w1 w2 w3 : World} {bb : Nat} {ps : List Int} {i : Nat} {ks : List Nd} {k : Nat} {sv : Value} {vs : List Value}
theorem LI.start (W : World) (bb : Nat) (hb : bb < W.heap.size) (ps : List Int) (i : Nat) (ks : List Nd) : LI W bb ps i ks 0 (.slice none 0 0) [] W :=
  ⟨Nat.zero_le _, ⟨rfl, fun _ => rfl⟩, ⟨by simp, .inl ⟨rfl, rfl⟩⟩, grown_refl _ _, hb, fun j x v _ h => by simp at h⟩
theorem own_ge {base : Nat} {e : TypeId} {size : Nat} {v : Value} {n : Nat} {xs : List Value} (h : w.ownsRow base e size v n xs) {g : Nat} (hg : v.ownBlock = some g) : base ≤ g ∧ g < w.heap.size := by
  obtain ⟨_, ⟨rfl, _⟩ | ⟨g', cap, cur, rfl, h1, h2, _⟩⟩ := h
  · cases hg
  · cases hg
    exact ⟨h1, (Array.getElem?_eq_some_iff.1 h2).1⟩
theorem own_keep {base : Nat} {e : TypeId} {size : Nat} {v : Value} {n : Nat} {xs : List Value} (h : w.ownsRow base e size v n xs) (hk : ∀ g, base ≤ g → g < w.heap.size → w1.heap[g]? = w.heap[g]?) : w1.ownsRow base e size v n xs := by
  obtain ⟨h0, ⟨rfl, hn⟩ | ⟨g', cap, cur, rfl, h1, h2, h3⟩⟩ := h
  · exact ⟨h0, .inl ⟨rfl, hn⟩⟩
  · exact ⟨h0, .inr ⟨g', cap, cur, rfl, h1, (hk g' h1 (Array.getElem?_eq_some_iff.1 h2).1).trans h2, h3⟩⟩
theorem LI.next (h : LI W bb ps i ks k sv vs w) (hg : w.grownBy w1 (some bb)) : LI W bb ps i ks k sv vs w1 := by
  obtain ⟨h1, h2, h3, h4, h5, h6⟩ := h
  refine ⟨h1, h2, own_keep h3 fun g hg1 hg2 => hg.block g hg2 (fun e => by cases e; omega), grown_trans h4 hg, h5, fun j x v hx hv => ?_⟩
  obtain ⟨lo, hi, k1, k2, k3, k4⟩ := h6 j x v hx hv
  have := hg.size
  exact ⟨lo, hi, k1, by omega, k3, k4.grownR hg (by omega) k2⟩
theorem LI.alloc (h : LI W bb ps i ks k sv vs w) (o : Obj) : LI W bb ps i ks k sv vs (w.alloc o) := h.next (World.grownBy_alloc w o _)
theorem LI.append (h : LI W bb ps i ks k sv vs w1) (hg1 : w1.grownBy w2 (some bb)) {x : Nd} (hx : ks[k]? = some x) {v v' : Value} (hE : ExR w2 (Rng w1.heap.size w2.heap.size) (posOf ps) (cAt i ks k) x v) (o : Obj)
    (hown : w3.ownsRow W.heap.size 44 1 v' (k + 1) (vs ++ [v])) (hg : (w2.alloc o).grownBy w3 sv.ownBlock) (hloc : v'.ownBlock = sv.ownBlock ∨ v'.ownBlock = some (w2.alloc o).heap.size) :
    LI W bb ps i ks (k + 1) v' (vs ++ [v]) w3 := by
  have hA := (h.next hg1).alloc o
  have hW := h.2.2.2.1.size
  obtain ⟨h1, ⟨h2, _⟩, h3, h4, h5, h6⟩ := hA
  have hkl := (List.getElem?_eq_some_iff.1 hx).1
  have hs1 := hg1.size
  have hs := hg.size
  have hsa : (w2.alloc o).heap.size = w2.heap.size + 1 := World.size_alloc _ _
  have hkeep : ∀ lo hi : Nat, (∀ g, sv.ownBlock = some g → g < lo ∨ hi ≤ g) → hi ≤ (w2.alloc o).heap.size → ∀ b, Rng lo hi b → w3.heap[b]? = (w2.alloc o).heap[b]? := fun lo hi hh hhi b hb =>
    hg.block b (Nat.lt_of_lt_of_le hb.2 hhi) (fun e => by have := hh b e.symm; have := hb.1; have := hb.2; omega)
  refine ⟨hkl, ⟨by simp [h2], fun h => by omega⟩, hown, ⟨hg.os.trans h4.os, hg.tape.trans h4.tape, hg.output.trans h4.output, Nat.le_trans h4.size hs, fun b hb hne => ?_⟩, h5, fun j y u hy hu => ?_⟩
  · exact (hg.block b (Nat.lt_of_lt_of_le hb h4.size) (fun e => by have := (own_ge h3 e.symm).1; omega)).trans (h4.block b hb hne)
  · by_cases hj : j < k
    · rw [List.getElem?_append_left (by omega)] at hu
      obtain ⟨lo, hi, k1, k2, k3, k4⟩ := h.2.2.2.2.2 j y u hy hu
      obtain hk4 := (k4.grownR hg1 (by omega) k2).allocR (by omega) o
      refine ⟨lo, hi, k1, by omega, fun g hg' => ?_, ExR.keep (hkeep lo hi k3 (by omega)) (fun _ hs => hs) _ _ _ hk4⟩
      rcases hloc with hl | hl
      · exact k3 g (hl ▸ hg')
      · rw [hl] at hg'
        cases hg'
        right
        omega
    · have hjk : j = k := by
        have := (List.getElem?_eq_some_iff.1 hu).1
        simp at this
        omega
      subst hjk
      rw [List.getElem?_append_right (by omega), h2, Nat.sub_self] at hu
      cases hu
      rw [hx] at hy
      cases hy
      have hh : ∀ g, sv.ownBlock = some g → g < w1.heap.size ∨ w2.heap.size ≤ g := fun g hg' => .inl (own_ge h.2.2.1 hg').2
      refine ⟨w1.heap.size, w2.heap.size, hW, by omega, fun g hg' => ?_, ExR.keep (hkeep _ _ hh (by omega)) (fun _ hs => hs) _ _ _ (hE.allocR (Nat.le_refl _) o)⟩
      rcases hloc with hl | hl
      · exact hh g (hl ▸ hg')
      · rw [hl] at hg'
        cases hg'
        right
        omega
theorem LI.bat (h : LI W bb ps i ks k sv vs w) (o : Obj) {j : Nat} (hB : BAt w bb ps j) (hg : (w.alloc o).grownBy w3 sv.ownBlock) : BAt w3 bb ps j := by
  have hW := h.2.2.2.1.size
  have h5 := h.2.2.2.2.1
  refine hB.keep fun b hb => ?_
  rw [hg.block b (by rw [World.size_alloc]; omega) (fun e => by have := (own_ge h.2.2.1 e.symm).1; omega), Below.heap_alloc _ _ _ (by omega)]
end

/-- What list leaves. -/
def LPost (W : World) (bb : Nat) (ps : List Int) (i : Nat) (ks : List Nd) (e : Ending) (w : World) : Prop :=
  ∃ sv vs, e = .returned sv ∧ ExL w (Rng W.heap.size w.heap.size) (posOf ps) (commas i (ks.map Nd.ntok)) ks vs ∧ SlAt w (Rng W.heap.size w.heap.size) sv vs ∧ BAt w bb ps (i + ntokL ks + (ks.length - 1)) ∧ W.grownBy w (some bb)
theorem LI.done {W w : World} {bb : Nat} {ps : List Int} {i : Nat} {ks : List Nd} {sv : Value} {vs : List Value} (h : LI W bb ps i ks ks.length sv vs w) (hB : BAt w bb ps (i + ntokL ks + (ks.length - 1))) : LPost W bb ps i ks (.returned sv) w := by
  obtain ⟨h1, ⟨h2, hz⟩, h3, h4, h5, h6⟩ := h
  refine ⟨sv, vs, rfl, ExL.of_at ks vs i h2 fun j x v hx hv => ?_, ?_, hB, h4⟩
  · obtain ⟨lo, hi, k1, k2, k3, k4⟩ := h6 j x v hx hv
    exact k4.wideR k1 k2
  · by_cases h0 : ks.length = 0
    · exact .inl ⟨List.length_eq_zero_iff.1 (by omega), hz h0⟩
    · obtain ⟨h0, ⟨rfl, hn⟩ | ⟨g', cap, cur, rfl, k1, k2, k3, k4, k5, k6⟩⟩ := h3
      · omega
      · rw [Nat.mul_one] at k6
        rw [← h2] at k3 k6 ⊢
        exact .inr ⟨g', cap, cur, rfl, ⟨k1, (Array.getElem?_eq_some_iff.1 k2).1⟩, k2, by omega, k3, k4, k6⟩

theorem list_any (ps : List Int) (m : Nd) (hlen : m.ks.length ≤ 400) (IH : ∀ k ∈ m.ks, EOf ps k) (W : World) (bb i : Nat) (hB : BAt W bb ps i) (hin : m.In W bb) (n : Nat) (hn : m.ks.length = n) :
    Calls Tryz.prog 60 #[.pointer (some ⟨bb, 0, none⟩), .slice m.ad n m.cp] W (LPost W bb ps i m.ks) := by
  obtain ⟨kd, tx, ad, cp, ks⟩ := m
  dsimp only at hlen IH hn ⊢
  subst hn
  have hinK := hin
  rw [Nd.In_iff] at hin
  obtain ⟨hl, hm, hk⟩ := hin
  dsimp only at hl hm hk
  have hlm : ks.length ≤ 9223372036854775807 := by omega
  obtain ⟨i0, hi, hz0, hz1, hz2⟩ := info_parts infoE
  have HI := Lib.hid (And.intro hi (And.intro hz0 (And.intro hz1 hz2)))
  have L0 := Lib.hid (LI.start W bb hB.lt ps i ks)
  have B0 := Lib.hid hB
  have HK := Lib.hid hk
  have IH' := Lib.hid IH
  have hbb := hB.lt
  clear hk IH hinK hB hi hz0 hz1 hz2 hm
  go_enter Tryz.func60, Tryz.ntmps60
  go_wp2_with fail
  go_loopw [5, 10] (fun sv i' wr => ∃ (k : Nat) (vs : List Value), i' = .int .i64 k ∧ LI W bb ps i ks k sv vs wr ∧ BAt wr bb ps (i + ntokL (ks.take k) + (k - 1))) (fun _ i' _ => ks.length - (intOf i').toNat)
  case atStart => exact ⟨0, [], rfl, L0.out, B0.out⟩
  case round =>
    obtain ⟨k, vs, rfl, hL, hB⟩ := hrel
    have hkl := hL.1
    have hgr := hL.2.2.2.1
    have hsz := hgr.size
    by_cases hlt : k < ks.length
    · obtain ⟨⟨b, o, rfl, hb, e1, e2, e3⟩, hin⟩ := HK.out k ks[k] (List.getElem?_eq_getElem hlt)
      have hx : ks[k] ∈ ks := List.getElem_mem hlt
      have hxk : ks[k]? = some ks[k] := List.getElem?_eq_getElem hlt
      generalize ks[k] = x at e1 e2 e3 hin hx hxk
      have HX := Lib.hid hxk
      have HM := Lib.hid hx
      clear hxk hx
      have hbk := hgr.block b (by omega) (fun e => by cases e; omega)
      have d1 := (World.cell?_of_block (a := ⟨b, o + k * 3, none⟩) hbk).trans e1
      have d2 := (World.cell?_of_block (a := ⟨b, o + k * 3 + 1, none⟩) hbk).trans e2
      have d3 := (World.cell?_of_block (a := ⟨b, o + k * 3 + 2, none⟩) hbk).trans e3
      clear e1 e2 e3 hbk
      have HN := Lib.hid (in_grown hin hgr hbb)
      have HL := Lib.hid hL
      have HB := Lib.hid hB
      clear hin hL hB hgr
      have ha : cAt i ks k = i + ntokL (ks.take k) + k := rfl
      have hT := ntokL_take HX.out
      have HA := Lib.hid ha
      have HT := Lib.hid hT
      clear ha hT
      by_cases hk0 : (0 : Int) < (k : Int)
      · have hk1 : k - 1 + 1 = k := by omega
        have HK1 := Lib.hid hk1
        clear hk1
        have hbl := Lib.hid (Blk.new wr 24 #[.string x.kd, .string x.tx, .slice x.ad x.ks.length x.cp])
        have hLa := Lib.hid (HL.out.alloc (.cells #[.string x.kd, .string x.tx, .slice x.ad x.ks.length x.cp] 24))
        have hBa := Lib.hid (HB.out.keep (w' := wr.alloc (.cells #[.string x.kd, .string x.tx, .slice x.ad x.ks.length x.cp] 24)) fun b hb => Below.heap_alloc _ _ _ (by omega))
        have hNa := Lib.hid (in_grown HN.out (World.grownBy_alloc wr (.cells #[.string x.kd, .string x.tx, .slice x.ad x.ks.length x.cp] 24) (some bb)) (by omega))
        go_wp2_with fail
        refine (next_any _ bb ps (i + ntokL (ks.take k) + (k - 1)) hBa.out).mono ?_
        rintro e w1 ⟨rfl, hB1, hg1⟩
        have hbl1 := hbl.out.grown hg1 (fun e => by cases e; omega)
        have hw1 := hg1.size
        rw [World.size_alloc] at hw1
        have c1 := hbl1.cell 0
        have c2 := hbl1.cell 1
        have c3 := hbl1.cell 2
        simp at c1 c2 c3
        have HL1 := Lib.hid (hLa.out.next hg1)
        have HN1 := Lib.hid (in_grown hNa.out hg1 (by rw [World.size_alloc]; omega))
        have HB1 := Lib.hid hB1
        clear hB1 hg1 hbl1 d1 d2 d3
        go_wp2_with fail
        refine (IH'.out x HM.out _ bb (cAt i ks k) (by have := HB1.out; rwa [show i + ntokL (ks.take k) + (k - 1) + 1 = cAt i ks k by have := HA.out; have := HK1.out; omega] at this) (HN1.out)).mono ?_
        rintro e w2 ⟨v, rfl, hE, hB2, hg2⟩
        obtain ⟨q, c, rfl⟩ := hE.form
        clear c1 c2 c3
        have HE := Lib.hid hE
        have HB2 := Lib.hid hB2
        have HG := Lib.hid hg2
        obtain ⟨hi, hz0, hz1, hz2⟩ := HI.out
        clear hE hB2 hg2
        go_wp2_with (at_builtin; refine wpList_append_own_at _ rfl _ _ 96 rfl W.heap.size 44 i0 .nilIface 1 16 underE hi hz0 hz1 hz2 rfl (by decide) _ _ vs rfl ((HL1.out.next HG.out).alloc _).2.2.1 ⟨w2.heap.size, 0, none⟩ 1 1 [.iface q (.pointer (some ⟨c, 0, none⟩))] rfl rfl (cell_one_new _ _ _) (by intro u hu; simp at hu; subst hu; rfl) (by unfold maxLen; omega) (by omega) (by have := (HL1.out.next HG.out).2.2.2.1.size; rw [World.size_alloc]; omega) ?_; intro v' w3 hown hgrow hnil hloc)
        have HL3 := Lib.hid (LI.append HL1.out HG.out HX.out (HE.out) _ hown hgrow hloc)
        have HB3 := Lib.hid ((HL1.out.next HG.out).bat _ HB2.out hgrow)
        clear hown hgrow hnil hloc hi hz0 hz1 hz2
        go_roundw
        case rel => exact ⟨k + 1, _, by go_num, HL3.out, by have := HB3.out; rwa [show cAt i ks k + x.ntok = i + ntokL (ks.take (k + 1)) + (k + 1 - 1) by have := HA.out; have := HT.out; omega] at this⟩
        case measure => simp [intOf]; omega
      · have hLa := Lib.hid (HL.out.alloc (.cells #[.string x.kd, .string x.tx, .slice x.ad x.ks.length x.cp] 24))
        have hBa := Lib.hid (HB.out.keep (w' := wr.alloc (.cells #[.string x.kd, .string x.tx, .slice x.ad x.ks.length x.cp] 24)) fun b hb => Below.heap_alloc _ _ _ (by omega))
        have hNa := Lib.hid (in_grown HN.out (World.grownBy_alloc wr (.cells #[.string x.kd, .string x.tx, .slice x.ad x.ks.length x.cp] 24) (some bb)) (by omega))
        have hk1 : k - 1 = k := by omega
        have HK1 := Lib.hid hk1
        clear hk1
        go_wp2_with fail
        refine (IH'.out x HM.out _ bb (cAt i ks k) (by have := hBa.out; rwa [show i + ntokL (ks.take k) + (k - 1) = cAt i ks k by have := HA.out; have := HK1.out; omega] at this) (hNa.out)).mono ?_
        rintro e w2 ⟨v, rfl, hE, hB2, hg2⟩
        obtain ⟨q, c, rfl⟩ := hE.form
        clear d1 d2 d3
        have HE := Lib.hid hE
        have HB2 := Lib.hid hB2
        have HG := Lib.hid hg2
        obtain ⟨hi, hz0, hz1, hz2⟩ := HI.out
        clear hE hB2 hg2
        go_wp2_with (at_builtin; refine wpList_append_own_at _ rfl _ _ 96 rfl W.heap.size 44 i0 .nilIface 1 16 underE hi hz0 hz1 hz2 rfl (by decide) _ _ vs rfl ((hLa.out.next HG.out).alloc _).2.2.1 ⟨w2.heap.size, 0, none⟩ 1 1 [.iface q (.pointer (some ⟨c, 0, none⟩))] rfl rfl (cell_one_new _ _ _) (by intro u hu; simp at hu; subst hu; rfl) (by unfold maxLen; omega) (by omega) (by have := (hLa.out.next HG.out).2.2.2.1.size; rw [World.size_alloc]; omega) ?_; intro v' w3 hown hgrow hnil hloc)
        have HL3 := Lib.hid (LI.append hLa.out HG.out HX.out (HE.out) _ hown hgrow hloc)
        have HB3 := Lib.hid ((hLa.out.next HG.out).bat _ HB2.out hgrow)
        clear hown hgrow hnil hloc hi hz0 hz1 hz2
        go_roundw
        case rel => exact ⟨k + 1, _, by go_num, HL3.out, by have := HB3.out; rwa [show cAt i ks k + x.ntok = i + ntokL (ks.take (k + 1)) + (k + 1 - 1) by have := HA.out; have := HT.out; omega] at this⟩
        case measure => simp [intOf]; omega
    · have hk : k = ks.length := by omega
      have HD := Lib.hid hk
      have HL := Lib.hid hL
      have HB := Lib.hid hB
      clear hL hB hgr hk
      go_wp2_with fail
      go_ret
      have hl2 := HL.out
      have hb2 := HB.out
      rw [HD.out, List.take_length] at hb2
      rw [HD.out] at hl2
      exact hl2.done hb2

/-! ### What list leaves, kept through the rest of a call of expr -/
theorem ad_form {W : World} {bb : Nat} {kd tx : ByteArray} {ad : Option Addr} {cp : Nat} {x : Nd} {rest : List Nd} (h : Nd.In W bb ⟨kd, tx, ad, cp, x :: rest⟩) : (∃ ab ao, ad = some ⟨ab, ao, none⟩) ∧ rest.length + 1 ≤ cp ∧ cp ≤ 9223372036854775807 := by
  obtain ⟨h1, h2, h3⟩ := Nd.In_iff.1 h
  obtain ⟨⟨ab, ao, had, _⟩, _⟩ := h3 0 x rfl
  exact ⟨⟨ab, ao, had⟩, h1, h2⟩
theorem tail_in {W : World} {bb : Nat} {kd tx : ByteArray} {ab ao cp : Nat} {x : Nd} {rest : List Nd} (h : Nd.In W bb ⟨kd, tx, some ⟨ab, ao, none⟩, cp, x :: rest⟩) : Nd.In W bb ⟨kd, tx, some ⟨ab, ao + 3, none⟩, cp - 1, rest⟩ := by
  rw [Nd.In_iff] at h ⊢
  obtain ⟨h1, h2, h3⟩ := h
  dsimp only at h1 h2 h3 ⊢
  simp only [List.length_cons] at h1
  refine ⟨by omega, by omega, fun j k hj => ?_⟩
  obtain ⟨⟨b, o, had, hb, e1, e2, e3⟩, hin⟩ := h3 (j + 1) k (by simpa using hj)
  cases had
  refine ⟨⟨ab, ao + 3, rfl, hb, ?_, ?_, ?_⟩, hin⟩
  · rwa [show ao + (j + 1) * 3 = ao + 3 + j * 3 by omega] at e1
  · rwa [show ao + (j + 1) * 3 = ao + 3 + j * 3 by omega] at e2
  · rwa [show ao + (j + 1) * 3 = ao + 3 + j * 3 by omega] at e3
theorem nil_in (W : World) (bb : Nat) (kd tx : ByteArray) (ad : Option Addr) : Nd.In W bb ⟨kd, tx, ad, 0, []⟩ := by
  rw [Nd.In_iff]
  exact ⟨Nat.le_refl _, Nat.zero_le _, fun j k hj => by simp at hj⟩
theorem SlAt.form {w : World} {S : Nat → Prop} {sv : Value} {vs : List Value} (h : SlAt w S sv vs) : ∃ A n c, sv = .slice A n c := by
  rcases h with ⟨_, rfl⟩ | ⟨g, cap, cs, rfl, _⟩
  · exact ⟨_, _, _, rfl⟩
  · exact ⟨_, _, _, rfl⟩
/-- A list of expressions that list has made, apart from the node's own block b. -/
def LR (W : World) (bb : Nat) (ps : List Int) (b : Nat) (is : List Nat) (ks : List Nd) (sv : Value) (vs : List Value) (w : World) : Prop :=
  bb < W.heap.size ∧ ∃ lo hi, W.heap.size + 1 < lo ∧ hi ≤ w.heap.size ∧ (b < lo ∨ hi ≤ b) ∧ ExL w (Rng lo hi) (posOf ps) is ks vs ∧ SlAt w (Rng lo hi) sv vs
section
variable {W w w' : World} {bb : Nat} {ps : List Int} {b : Nat} {is : List Nat} {ks : List Nd} {sv : Value} {vs : List Value}
theorem LR.grown (h : LR W bb ps b is ks sv vs w) (hg : w.grownBy w' (some bb)) : LR W bb ps b is ks sv vs w' := by
  obtain ⟨h0, lo, hi, h1, h2, h3, h4, h5⟩ := h
  have := hg.size
  have hk : ∀ g, Rng lo hi g → w'.heap[g]? = w.heap[g]? := fun g hg' => hg.block g (Nat.lt_of_lt_of_le hg'.2 h2) (fun e => by cases e; have := hg'.1; omega)
  exact ⟨h0, lo, hi, h1, by omega, h3, h4.keep hk (fun _ hs => hs), h5.keep hk (fun _ hs => hs)⟩
theorem LR.set_ (h : LR W bb ps b is ks sv vs w) (i : Nat) (u : Value) : LR W bb ps b is ks sv vs (w.setCell ⟨b, i, none⟩ u) := by
  obtain ⟨h0, lo, hi, h1, h2, h3, h4, h5⟩ := h
  have hk : ∀ g, Rng lo hi g → (w.setCell ⟨b, i, none⟩ u).heap[g]? = w.heap[g]? := fun g hg' => Below.heap_setCell w ⟨b, i, none⟩ u g (fun e => by have := hg'.1; have := hg'.2; simp at e; omega)
  exact ⟨h0, lo, hi, h1, by simpa [World.setCell] using h2, h3, h4.keep hk (fun _ hs => hs), h5.keep hk (fun _ hs => hs)⟩
theorem LR.exl (h : LR W bb ps b is ks sv vs w) : ExL w (Rng W.heap.size w.heap.size) (posOf ps) is ks vs := by
  obtain ⟨h0, lo, hi, h1, h2, h3, h4, h5⟩ := h
  exact h4.keep (fun _ _ => rfl) (fun g hg => ⟨by have := hg.1; omega, Nat.lt_of_lt_of_le hg.2 h2⟩)
theorem LR.sl (h : LR W bb ps b is ks sv vs w) : SlAt w (Rng W.heap.size w.heap.size) sv vs := by
  obtain ⟨h0, lo, hi, h1, h2, h3, h4, h5⟩ := h
  exact h5.keep (fun _ _ => rfl) (fun g hg => ⟨by have := hg.1; omega, Nat.lt_of_lt_of_le hg.2 h2⟩)
theorem St.list {n : Nd} {t : TypeId} {cs : Array Value} {j : Nat} {es : List (Nat × Nd × Value)} (h : St W bb ps n b t cs j es w) {i : Nat} (hl : ExL w' (Rng w.heap.size w'.heap.size) (posOf ps) (commas i (ks.map Nd.ntok)) ks vs) (hs : SlAt w' (Rng w.heap.size w'.heap.size) sv vs) :
    LR W bb ps b (commas i (ks.map Nd.ntok)) ks sv vs w' :=
  ⟨h.1.lt, _, _, h.1.size, Nat.le_refl _, .inl h.2.2.1.lt, hl, hs⟩
end
theorem sl_cell {o : Option Value} {r : Option Value} {u : Value} (h : o = r) (hr : r = some u) : o = some u := h.trans hr
end Go.Proofs.YtjbhjbpamnoebaaGreatFmt
