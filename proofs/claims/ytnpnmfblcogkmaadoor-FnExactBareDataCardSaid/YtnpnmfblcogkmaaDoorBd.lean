/-
  impl.builder: the state of a builder; next, operator, and the closure that makes an expression of a node below.
-/
import Derived.Test.YtnpnmfblcogkmaaDoorEx
import Derived.Deep.RegionHeld3
import Derived.Deep.QuietTactic
import Derived.BigQuiet
namespace Go.Proofs.YtnpnmfblcogkmaaDoor
open Go.RowKit

/-- The place of token number i: 1 if it is not told. -/
def posOf (ps : List Int) (i : Nat) : Int := ps.getD i 1
/-- The builder in block bb has given i of the places; the table of the tokens' texts is there. -/
def BAt (w : World) (bb : Nat) (ps : List Int) (i : Nat) : Prop :=
  (TokTab w ∧ 1 < bb) ∧
  ∃ A n cap, Blk w bb 113 #[.slice A n cap] ∧ n = (ps.drop i).length ∧ n ≤ cap ∧ cap ≤ maxLen ∧
    ∀ (j : Nat) (x : Int), (ps.drop i)[j]? = some x → ∃ g o, A = some ⟨g, o, none⟩ ∧ g < bb ∧ w.cell? ⟨g, o + j, none⟩ = some (.int .i64 x)
theorem BAt.lt {w : World} {bb : Nat} {ps : List Int} {i : Nat} (h : BAt w bb ps i) : bb < w.heap.size := by
  obtain ⟨_, _, _, _, h, _⟩ := h
  exact h.lt
theorem tok_keep {w w' : World} {bb : Nat} (h : TokTab w ∧ 1 < bb) (hk : ∀ b, b < bb → w'.heap[b]? = w.heap[b]?) : TokTab w' ∧ 1 < bb :=
  ⟨fun i hi => (World.cell?_of_block (hk _ h.2)).trans (h.1 i hi), h.2⟩
theorem BAt.keep {w w' : World} {bb : Nat} {ps : List Int} {i : Nat} (h : BAt w bb ps i) (hk : ∀ b, b ≤ bb → w'.heap[b]? = w.heap[b]?) : BAt w' bb ps i := by
  obtain ⟨ht, A, n, cap, hb, hn, hc, hm, hx⟩ := h
  refine ⟨tok_keep ht fun b hb => hk b (by omega), A, n, cap, hb.keep (hk _ (Nat.le_refl _)), hn, hc, hm, fun j x hj => ?_⟩
  obtain ⟨g, o, rfl, hg, hcell⟩ := hx j x hj
  exact ⟨g, o, rfl, hg, (World.cell?_of_block (a := ⟨g, o + j, none⟩) (hk g (by omega))).trans hcell⟩
theorem BAt.drew {w : World} {bb : Nat} {ps : List Int} {i : Nat} (h : BAt w bb ps i) : BAt w.drew bb ps i := h
theorem grown_self {w : World} {bb : Nat} (u : Value) : w.grownBy (w.setCell ⟨bb, 0, none⟩ u) (some bb) :=
  ⟨rfl, rfl, rfl, by simp [World.setCell], fun i _ hne => Below.heap_setCell w ⟨bb, 0, none⟩ u i (fun e => hne (congrArg some e))⟩
/-- Behind the first of the places. -/
theorem BAt.step {w : World} {bb : Nat} {ps : List Int} {i : Nat} {A : Option Addr} {n cap : Nat} (ht : TokTab w ∧ 1 < bb) (hb : Blk w bb 113 #[.slice A n cap])
    (A' : Option Addr) (cap' : Nat) (hn : n - 1 = (ps.drop (i + 1)).length) (hc : n - 1 ≤ cap') (hm : cap' ≤ maxLen)
    (hx : ∀ (j : Nat) (x : Int), (ps.drop (i + 1))[j]? = some x → ∃ g o, A' = some ⟨g, o, none⟩ ∧ g < bb ∧ w.cell? ⟨g, o + j, none⟩ = some (.int .i64 x)) :
    BAt (w.setCell ⟨bb, 0, none⟩ (.slice A' (n - 1) cap')) bb ps (i + 1) := by
  refine ⟨tok_keep ht fun b hb => Below.heap_setCell w _ _ b (by simp; omega), A', n - 1, cap', by simpa using hb.set_ 0 _, hn, hc, hm, fun j x hj => ?_⟩
  obtain ⟨g, o, rfl, hg, hcell⟩ := hx j x hj
  exact ⟨g, o, rfl, hg, (World.cell?_of_block (a := ⟨g, o + j, none⟩) (Below.heap_setCell w _ _ g (by simp; omega))).trans hcell⟩

def NextIs (W : World) (bb : Nat) (ps : List Int) (i : Nat) (e : Ending) (w' : World) : Prop :=
  e = .returned (.int .i64 (posOf ps i)) ∧ BAt w' bb ps (i + 1) ∧ W.grownBy w' (some bb)
theorem next_any (w : World) (bb : Nat) (ps : List Int) (i : Nat) (h : BAt w bb ps i) :
    Calls Tryd.prog 40 #[.pointer (some ⟨bb, 0, none⟩)] w (NextIs w bb ps i) := by
  obtain ⟨ht, A, n, cap, hb, hn, hc, hm, hx⟩ := h
  have HT := Lib.hid ht
  clear ht
  by_cases hi : i < ps.length
  · have hd : ps.drop i = ps[i] :: ps.drop (i + 1) := List.drop_eq_getElem_cons hi
    have hx1 : ∀ (j : Nat) (x : Int), (ps.drop (i + 1))[j]? = some x → ∃ g o, A = some ⟨g, o, none⟩ ∧ g < bb ∧ w.cell? ⟨g, o + 1 + j, none⟩ = some (.int .i64 x) := fun j x hj => by
      obtain ⟨g, o, h1, h2, h3⟩ := hx (j + 1) x (by rw [hd]; exact hj)
      exact ⟨g, o, h1, h2, by rwa [show o + 1 + j = o + (j + 1) by omega]⟩
    obtain ⟨g, o, rfl, hg, hcell⟩ := hx 0 ps[i] (by rw [hd]; rfl)
    have hp : posOf ps i = ps[i] := by simp [posOf, List.getD, hi]
    have hn1 : n = (ps.drop (i + 1)).length + 1 := by rw [hn, hd]; rfl
    have hn0 : 0 < n := by omega
    have hni : (0 : Int) < (n : Int) := by omega
    have hne : ((n : Int) == 0) = false := by simp; omega
    have hmm : cap ≤ 9223372036854775807 := by unfold maxLen at hm; omega
    have c0 := hb.cell 0
    have f0 := hb.frozen 0
    simp only [Nat.add_zero] at hcell
    simp at c0
    generalize ps[i] = x at hcell hp
    have HP := Lib.hid hp
    have HN := Lib.hid hn1
    have HX := Lib.hid hx1
    have HB := Lib.hid hb
    clear hp hn1 hx hx1 hb hn hd
    by_cases hcap : cap = 1
    · subst hcap
      obtain rfl : n = 1 := by omega
      go_enter Tryd.func40, Tryd.ntmps40
      go_wp2
      go_ret
      have hl : (ps.drop (i + 1)).length = 0 := by have := HN.out; omega
      refine ⟨by rw [HP.out]; rfl, BAt.step HT.out HB.out _ 0 (by omega) (by omega) (by omega) fun j x hj => ?_, grown_self _⟩
      rw [List.length_eq_zero_iff.1 hl] at hj
      cases hj
    · have hcap' : ¬ cap = 1 := hcap
      go_enter Tryd.func40, Tryd.ntmps40
      go_wp2
      go_ret
      refine ⟨by rw [HP.out]; rfl, BAt.step HT.out HB.out _ _ (by have := HN.out; omega) (by omega) (by omega) fun j x hj => ?_, grown_self _⟩
      obtain ⟨g', o', h1, h2, h3⟩ := HX.out j x hj
      cases h1
      exact ⟨g, o + 1, rfl, h2, h3⟩
  · have hd : ps.drop i = [] := List.drop_eq_nil_of_le (by omega)
    have hd1 : ps.drop (i + 1) = [] := List.drop_eq_nil_of_le (by omega)
    have hp : posOf ps i = 1 := by simp [posOf, List.getD, hi]
    obtain rfl : n = 0 := by rw [hn, hd]; rfl
    have c0 := hb.cell 0
    simp at c0
    have HP := Lib.hid hp
    have HN := Lib.hid hd1
    have HB := Lib.hid hb
    clear hp hd hd1 hx hb hn
    go_enter Tryd.func40, Tryd.ntmps40
    go_wp2
    go_ret
    refine ⟨by rw [HP.out]; rfl, ⟨HT.out, A, 0, cap, HB.out, by rw [HN.out]; rfl, hc, hm, fun j x hj => ?_⟩, grown_refl _ _⟩
    rw [HN.out] at hj
    cases hj

/-! ### operator -/
theorem toList_data (tx : ByteArray) : tx.toList = tx.data.toList := by
  obtain ⟨⟨l⟩⟩ := tx
  exact ByteArray.toList_mk _
theorem op_len (tx : ByteArray) (h : tx.data.toList ∈ opTexts) : 12 ≤ opNo tx ∧ opNo tx < 59 := by
  have : opTexts.idxOf tx.data.toList < opTexts.length := List.idxOf_lt_length_iff.2 h
  have h47 : opTexts.length = 47 := rfl
  unfold opNo
  omega
theorem op_tab (k : Nat) (h1 : 12 ≤ k) (h2 : k < 59) : opTexts[k - 12]? = some (tab.getD k []) := by
  have h : ∀ k < 59, 12 ≤ k → opTexts[k - 12]? = some (tab.getD k []) := by decide
  exact h k h2 h1
theorem op_full (k : Nat) (h1 : 12 ≤ k) (h2 : k < 59) : (tab.getD k []).isEmpty = false := by
  have h : ∀ k < 59, 12 ≤ k → (tab.getD k []).isEmpty = false := by decide
  exact h k h2 h1
theorem op_here (tx : ByteArray) (h : tx.data.toList ∈ opTexts) : tab.getD (opNo tx) [] = tx.data.toList := by
  have hl : opTexts.idxOf tx.data.toList < opTexts.length := List.idxOf_lt_length_iff.2 h
  have h1 := op_tab (opNo tx) (op_len tx h).1 (op_len tx h).2
  rw [show opNo tx - 12 = opTexts.idxOf tx.data.toList by unfold opNo; omega, List.getElem?_eq_getElem hl, List.getElem_idxOf hl] at h1
  exact (Option.some.inj h1).symm
theorem op_ne (tx : ByteArray) (k : Nat) (h1 : 12 ≤ k) (h2 : k < opNo tx) (h3 : k < 59) : tab.getD k [] ≠ tx.data.toList := by
  intro e
  have h := op_tab k h1 h3
  obtain ⟨hl, he⟩ := List.getElem?_eq_some_iff.1 h
  have hlt : k - 12 < List.findIdx (· == tx.data.toList) opTexts := by
    have : opTexts.idxOf tx.data.toList = List.findIdx (· == tx.data.toList) opTexts := rfl
    unfold opNo at h2
    omega
  have := List.not_of_lt_findIdx hlt
  rw [he, e] at this
  simp at this

theorem operator_any (w : World) (tx : ByteArray) (hT : TokTab w) (h : tx.data.toList ∈ opTexts) :
    Calls Tryd.prog 41 #[.string tx] w fun e w' => e = .returned (.int .i64 (opNo tx)) ∧ w = w' := by
  have HT := Lib.hid hT
  have HM := Lib.hid h
  obtain ⟨hl1, hl2⟩ := op_len tx h
  clear hT h
  go_enter Tryd.func41, Tryd.ntmps41
  go_wp2
  go_loop [3] (fun i => ∃ k : Nat, 12 ≤ k ∧ k ≤ opNo tx ∧ i = .int .i64 k) (fun i => 100 - (intOf i).toNat)
  case atStart => exact ⟨12, by omega, hl1, rfl⟩
  case round =>
    obtain ⟨k, hk1, hk2, rfl⟩ := hrel
    have hk88 : (k : Int) < 88 := by omega
    have HS := Lib.hid (String_tab k (by omega) (op_full k hk1 (by omega)) w HT.out)
    by_cases he : k = opNo tx
    · have hs : ((tk k).toList == tx.toList) = true := by
        rw [he, tk_toList, op_here tx HM.out, toList_data]
        simp
      have HE := Lib.hid he
      clear he
      go_wp2_with fail
      refine HS.out.mono ?_
      rintro e w1 ⟨rfl, rfl⟩
      go_wp2_with fail
      go_ret
      rw [HE.out]
      exact ⟨rfl, rfl⟩
    · have hs : ((tk k).toList == tx.toList) = false := by
        have hk3 : k < opNo tx := Nat.lt_of_le_of_ne hk2 he
        have := op_ne tx k hk1 hk3 (by omega)
        rw [tk_toList, toList_data]
        exact beq_eq_false_iff_ne.2 this
      have HL := Lib.hid (Nat.succ_le_of_lt (Nat.lt_of_le_of_ne hk2 he))
      clear he
      go_wp2_with fail
      refine HS.out.mono ?_
      rintro e w1 ⟨rfl, rfl⟩
      go_wp2_with fail
      go_round
      case rel => exact ⟨k + 1, by omega, HL.out, by go_num⟩
      case measure => simp [intOf]; omega

/-! ### What stands through a call of expr -/
/-- In the call of expr that began in W: the boxes of the builder and of the node, and the builder's state. -/
def Ctx (W : World) (bb : Nat) (ps : List Int) (n : Nd) (i : Nat) (w : World) : Prop :=
  Blk w W.heap.size 111 #[.pointer (some ⟨bb, 0, none⟩)] ∧ Blk w (W.heap.size + 1) 32 n.cells.toArray ∧ BAt w bb ps i ∧ W.grownBy w (some bb) ∧ bb < W.heap.size ∧ n.In w bb
section
variable {W w w' : World} {bb : Nat} {ps : List Int} {n : Nd} {i j : Nat}
theorem in_grown (h : n.In w bb) (hg : w.grownBy w' (some bb)) (hbb : bb < w.heap.size) : n.In w' bb :=
  Nd.In.keep (fun p hp => World.cell?_of_block (hg.block p.block (by omega) (fun e => by cases e; omega))) (Nat.le_refl _) n h
theorem Ctx.bat (h : Ctx W bb ps n i w) : BAt w bb ps i := h.2.2.1
theorem Ctx.grown (h : Ctx W bb ps n i w) : W.grownBy w (some bb) := h.2.2.2.1
theorem Ctx.lt (h : Ctx W bb ps n i w) : bb < W.heap.size := h.2.2.2.2.1
theorem Ctx.in_ (h : Ctx W bb ps n i w) : n.In w bb := h.2.2.2.2.2
theorem Ctx.size (h : Ctx W bb ps n i w) : W.heap.size + 1 < w.heap.size := h.2.1.lt
theorem Ctx.cellB (h : Ctx W bb ps n i w) : w.cell? ⟨W.heap.size, 0, none⟩ = some (.pointer (some ⟨bb, 0, none⟩)) := h.1.cell 0
theorem Ctx.cellK (h : Ctx W bb ps n i w) : w.cell? ⟨W.heap.size + 1, 0, none⟩ = some (.string n.kd) := h.2.1.cell 0
theorem Ctx.cellT (h : Ctx W bb ps n i w) : w.cell? ⟨W.heap.size + 1, 1, none⟩ = some (.string n.tx) := h.2.1.cell 1
theorem Ctx.cellS (h : Ctx W bb ps n i w) : w.cell? ⟨W.heap.size + 1, 2, none⟩ = some (.slice n.ad n.ks.length n.cp) := h.2.1.cell 2
theorem Ctx.next (h : Ctx W bb ps n i w) (hB : BAt w' bb ps j) (hg : w.grownBy w' (some bb)) : Ctx W bb ps n j w' := by
  obtain ⟨h1, h2, h3, h4, h5, h6⟩ := h
  exact ⟨h1.grown hg (fun e => by cases e; omega), h2.grown hg (fun e => by cases e; omega), hB, grown_trans h4 hg, h5, in_grown h6 hg h3.lt⟩
theorem Ctx.alloc (h : Ctx W bb ps n i w) (o : Obj) : Ctx W bb ps n i (w.alloc o) :=
  h.next (h.bat.keep fun b hb => Below.heap_alloc w o b (by have := h.bat.lt; omega)) (World.grownBy_alloc w o _)
theorem Ctx.drew (h : Ctx W bb ps n i w) : Ctx W bb ps n i w.drew := h.next h.bat.drew (grown_drew (grown_refl _ _))
theorem Ctx.set_ (h : Ctx W bb ps n i w) {p : Addr} (hp : W.heap.size + 1 < p.block) (u : Value) : Ctx W bb ps n i (w.setCell p u) := by
  obtain ⟨h1, h2, h3, h4, h5, h6⟩ := h
  exact ⟨h1.far (by omega) u, h2.far (by omega) u, h3.keep fun b hb => Below.heap_setCell w p u b (by omega), grown_set h4 (by omega) u, h5,
    Nd.In.keep (fun q hq => World.cell?_of_block (Below.heap_setCell w p u q.block (by omega))) (Nat.le_refl _) n h6⟩
theorem Ctx.start (hB : BAt W bb ps i) (hin : n.In W bb) : Ctx W bb ps n i ((W.alloc (.cells #[.pointer (some ⟨bb, 0, none⟩)] 111)).alloc (.cells n.cells.toArray 32)) := by
  have hlt := hB.lt
  have hg : W.grownBy ((W.alloc (.cells #[.pointer (some ⟨bb, 0, none⟩)] 111)).alloc (.cells n.cells.toArray 32)) (some bb) := grown_alloc (grown_alloc (grown_refl _ _) _) _
  refine ⟨(Blk.new _ _ _).alloc _, ?_, hB.keep fun b hb => ?_, hg, hlt, in_grown hin hg hlt⟩
  · have := Blk.new (W.alloc (.cells #[.pointer (some ⟨bb, 0, none⟩)] 111)) 32 n.cells.toArray
    rwa [World.size_alloc] at this
  · rw [Below.heap_alloc _ _ _ (by rw [World.size_alloc]; omega), Below.heap_alloc _ _ _ (by omega)]
end

/-- What a call of expr, begun in W, leaves. -/
def EPost (W : World) (bb : Nat) (ps : List Int) (i : Nat) (n : Nd) (e : Ending) (w' : World) : Prop :=
  ∃ v, e = .returned v ∧ ExR w' (Rng W.heap.size w'.heap.size) (posOf ps) i n v ∧ BAt w' bb ps (i + n.ntok) ∧ W.grownBy w' (some bb)
/-- The contract of expr at a tree. -/
def EOf (ps : List Int) (n : Nd) : Prop := ∀ (w : World) (bb i : Nat), BAt w bb ps i → n.In w bb →
  Calls Tryd.prog 35 #[.pointer (some ⟨bb, 0, none⟩), n.val] w (EPost w bb ps i n)

theorem in_drew {w : World} {B : Nat} {n : Nd} (h : n.In w B) : n.In w.drew B := Nd.In.keep (w := w) (w' := w.drew) (fun _ _ => rfl) (Nat.le_refl _) n h
theorem kid_keep {W w w1 : World} {bb b o1 o2 o3 : Nat} {u1 u2 u3 u4 u5 : Value} (hsz : W.heap.size + 1 < w.heap.size) (hlt : bb < W.heap.size) (hb : b < bb) (hg : w.drew.grownBy w1 (some bb))
    (c1 : w.cell? ⟨W.heap.size, 0, none⟩ = some u1) (c2 : w.cell? ⟨W.heap.size + 1, 2, none⟩ = some u2) (c3 : w.cell? ⟨b, o1, none⟩ = some u3) (c4 : w.cell? ⟨b, o2, none⟩ = some u4) (c5 : w.cell? ⟨b, o3, none⟩ = some u5) :
    w1.cell? ⟨W.heap.size, 0, none⟩ = some u1 ∧ w1.cell? ⟨W.heap.size + 1, 2, none⟩ = some u2 ∧ w1.cell? ⟨b, o1, none⟩ = some u3 ∧ w1.cell? ⟨b, o2, none⟩ = some u4 ∧ w1.cell? ⟨b, o3, none⟩ = some u5 := by
  have hk : ∀ x, x < w.heap.size → x ≠ bb → w1.heap[x]? = w.heap[x]? := fun x hx hne => hg.block x hx (fun e => hne (Option.some.inj e))
  have k1 := hk W.heap.size (by omega) (by omega)
  have k2 := hk (W.heap.size + 1) (by omega) (by omega)
  have k3 := hk b (by omega) (by omega)
  exact ⟨(World.cell?_of_block (a := ⟨W.heap.size, 0, none⟩) k1).trans c1, (World.cell?_of_block (a := ⟨W.heap.size + 1, 2, none⟩) k2).trans c2, (World.cell?_of_block (a := ⟨b, o1, none⟩) k3).trans c3,
    (World.cell?_of_block (a := ⟨b, o2, none⟩) k3).trans c4, (World.cell?_of_block (a := ⟨b, o3, none⟩) k3).trans c5⟩

theorem kid_keep0 (w : World) {a1 a2 a3 a4 a5 : Addr} {u1 u2 u3 u4 u5 : Value} (c1 : w.cell? a1 = some u1) (c2 : w.cell? a2 = some u2) (c3 : w.cell? a3 = some u3) (c4 : w.cell? a4 = some u4) (c5 : w.cell? a5 = some u5) :
    w.drew.cell? a1 = some u1 ∧ w.drew.cell? a2 = some u2 ∧ w.drew.cell? a3 = some u3 ∧ w.drew.cell? a4 = some u4 ∧ w.drew.cell? a5 = some u5 := ⟨c1, c2, c3, c4, c5⟩

/-- The closure that makes the expression of node number j below. -/
theorem kid_any (ps : List Int) (n : Nd) (W w : World) (bb i : Nat) (C : Ctx W bb ps n i w) (j : Nat) (k : Nd) (hk : n.ks[j]? = some k) (IH : EOf ps k) :
    Calls Tryd.prog 39 #[.int .i64 j, .pointer (some ⟨W.heap.size + 1, 0, none⟩), .pointer (some ⟨W.heap.size, 0, none⟩)] w (EPost w bb ps i k) := by
  have hjl : (j : Int) < (n.ks.length : Int) := by have := (List.getElem?_eq_some_iff.1 hk).1; omega
  have hj0 : (0 : Int) ≤ (j : Int) := by omega
  have cB := C.cellB
  have cS := C.cellS
  obtain ⟨hl, hm, hall⟩ := Nd.In_iff.1 C.in_
  obtain ⟨⟨b, o, had, hb, c1, c2, c3⟩, hkin⟩ := hall j k hk
  rw [had] at cS
  have hlm : n.ks.length ≤ 9223372036854775807 := by unfold maxLen at hm; omega
  have hlt := C.lt
  have hsz := C.size
  have hBk := Lib.hid C.bat
  have HI := Lib.hid hkin
  have hc0 : Calls Tryd.prog 35 #[.pointer (some ⟨bb, 0, none⟩), .agg #[.string k.kd, .string k.tx, .slice k.ad k.ks.length k.cp]] w.drew (EPost w.drew bb ps i k) := IH w.drew bb i hBk.out.drew (in_drew HI.out)
  have HC := Lib.hid hc0
  clear C hk had hall hkin IH hm hc0
  go_enter Tryd.func39, Tryd.ntmps39
  go_wp2_with fail
  go_region_held3 (fun w' => w'.cell? ⟨W.heap.size, 0, none⟩ = some (.pointer (some ⟨bb, 0, none⟩)) ∧ w'.cell? ⟨W.heap.size + 1, 2, none⟩ = some (.slice (some ⟨b, o, none⟩) n.ks.length n.cp) ∧ w'.cell? ⟨b, o + j * 3, none⟩ = some (.string k.kd) ∧ w'.cell? ⟨b, o + j * 3 + 1, none⟩ = some (.string k.tx) ∧ w'.cell? ⟨b, o + j * 3 + 2, none⟩ = some (.slice k.ad k.ks.length k.cp)) (first | exact kid_keep hsz hlt hb hg.out cB cS c1 c2 c3 | exact kid_keep0 w cB cS c1 c2 c3)
    (first | (go_at_call 35; refine HC.out.mono ?_; rintro e w1 ⟨v, rfl, hE, hB1, hg1⟩; have hE := Lib.hid hE; have hB1 := Lib.hid hB1; have hg := Lib.hid hg1; clear hg1))
  go_wp2_with fail
  go_ret
  exact ⟨_, rfl, hE.out, hB1.out, grown_trans (grown_drew (grown_refl _ _)) hg.out⟩
end Go.Proofs.YtnpnmfblcogkmaaDoor
