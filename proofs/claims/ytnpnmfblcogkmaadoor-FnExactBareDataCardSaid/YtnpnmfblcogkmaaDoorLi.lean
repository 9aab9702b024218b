/-
  builder.list: expressions of nodes with commas between.
-/
import Derived.Test.YtnpnmfblcogkmaaDoorSt
import Derived.Maps.AppendAt
import Derived.OwnWalk
namespace Go.Proofs.YtnpnmfblcogkmaaDoor
open Go.RowKit

theorem infoE : (Tryd.prog.info? 46).map (fun i => (i.zero, i.size, i.bytes)) = some (some .nilIface, 1, 16) := by kernel_rfl
theorem underE : Tryd.prog.underlying 84 = some (.slice 46) := by kernel_rfl

/-- Where node number j begins, of nodes with commas between. -/
def cAt (i : Nat) (ks : List Nd) (j : Nat) : Nat := i + ntokL (ks.take j) + j
theorem ntokL_take {ks : List Nd} {j : Nat} {x : Nd} (h : ks[j]? = some x) : ntokL (ks.take (j + 1)) = ntokL (ks.take j) + x.ntok := by
  induction ks generalizing j with
  | nil => simp at h
  | cons y ks ih =>
    cases j with
    | zero => simp at h; subst h; simp [ntokL]
    | succ j =>
      have := ih (j := j) (by simpa using h)
      rw [List.take_succ_cons, List.take_succ_cons, ntokL, ntokL, this]
      omega
theorem ExL.of_at {w : World} {S : Nat → Prop} {P : Nat → Int} : ∀ (ks : List Nd) (vs : List Value) (i : Nat), vs.length = ks.length →
    (∀ j x v, ks[j]? = some x → vs[j]? = some v → ExR w S P (cAt i ks j) x v) → ExL w S P (commas i (ks.map Nd.ntok)) ks vs
  | [], [], _, _, _ => trivial
  | [], _ :: _, _, h, _ => by simp at h
  | _ :: _, [], _, h, _ => by simp at h
  | k :: ks, v :: vs, i, h, hx => by
    refine ⟨hx 0 k v rfl rfl, ExL.of_at ks vs (i + k.ntok + 1) (by simpa using h) fun j x u hj hu => ?_⟩
    have := hx (j + 1) x u (by simpa using hj) (by simpa using hu)
    unfold cAt at this ⊢
    rwa [List.take_succ_cons, ntokL, show i + (k.ntok + ntokL (ks.take j)) + (j + 1) = i + k.ntok + 1 + ntokL (ks.take j) + j by omega] at this

/-- What list has made of the first k nodes. -/
def LI (W : World) (bb : Nat) (ps : List Int) (i : Nat) (ks : List Nd) (k : Nat) (sv : Value) (vs : List Value) (w : World) : Prop :=
  k ≤ ks.length ∧ (vs.length = k ∧ (k = 0 → sv = .slice none 0 0)) ∧ w.ownsRow W.heap.size 46 1 sv k vs ∧ W.grownBy w (some bb) ∧ bb < W.heap.size ∧
    ∀ j x v, ks[j]? = some x → vs[j]? = some v → ∃ lo hi, W.heap.size ≤ lo ∧ hi ≤ w.heap.size ∧ (∀ g, sv.ownBlock = some g → g < lo ∨ hi ≤ g) ∧ ExR w (Rng lo hi) (posOf ps) (cAt i ks j) x v
section
variable {W w w1 w2 w3 : World} {bb : Nat} {ps : List Int} {i : Nat} {ks : List Nd} {k : Nat} {sv : Value} {vs : List Value}
theorem LI.start (W : World) (bb : Nat) (hb : bb < W.heap.size) (ps : List Int) (i : Nat) (ks : List Nd) : LI W bb ps i ks 0 (.slice none 0 0) [] W :=
  ⟨Nat.zero_le _, ⟨rfl, fun _ => rfl⟩, ⟨by simp, .inl ⟨rfl, rfl⟩⟩, grown_refl _ _, hb, fun j x v _ h => by simp at h⟩
theorem own_ge {base : Nat} {e : TypeId} {size : Nat} {v : Value} {n : Nat} {xs : List Value} (h : w.ownsRow base e size v n xs) {g : Nat} (hg : v.ownBlock = some g) : base ≤ g ∧ g < w.heap.size := by
  obtain ⟨_, ⟨rfl, _⟩ | ⟨g', cap, cur, rfl, h1, h2, _⟩⟩ := h
  · cases hg
  · cases hg
    exact ⟨h1, (Array.getElem?_eq_some_iff.1 h2).1⟩
theorem own_keep {base : Nat} {e : TypeId} {size : Nat} {v : Value} {n : Nat} {xs : List Value} (h : w.ownsRow base e size v n xs) (hk : ∀ g, base ≤ g → g < w.heap.size → w1.heap[g]? = w.heap[g]?) : w1.ownsRow base e size v n xs := by
  obtain ⟨h0, ⟨rfl, hn⟩ | ⟨g', cap, cur, rfl, h1, h2, h3⟩⟩ := h
  · exact ⟨h0, .inl ⟨rfl, hn⟩⟩
  · exact ⟨h0, .inr ⟨g', cap, cur, rfl, h1, (hk g' h1 (Array.getElem?_eq_some_iff.1 h2).1).trans h2, h3⟩⟩
theorem LI.next (h : LI W bb ps i ks k sv vs w) (hg : w.grownBy w1 (some bb)) : LI W bb ps i ks k sv vs w1 := by
  obtain ⟨h1, h2, h3, h4, h5, h6⟩ := h
  refine ⟨h1, h2, own_keep h3 fun g hg1 hg2 => hg.block g hg2 (fun e => by cases e; omega), grown_trans h4 hg, h5, fun j x v hx hv => ?_⟩
  obtain ⟨lo, hi, k1, k2, k3, k4⟩ := h6 j x v hx hv
  have := hg.size
  exact ⟨lo, hi, k1, by omega, k3, k4.grownR hg (by omega) k2⟩
theorem LI.alloc (h : LI W bb ps i ks k sv vs w) (o : Obj) : LI W bb ps i ks k sv vs (w.alloc o) := h.next (World.grownBy_alloc w o _)
theorem LI.append (h : LI W bb ps i ks k sv vs w1) (hg1 : w1.grownBy w2 (some bb)) {x : Nd} (hx : ks[k]? = some x) {v v' : Value} (hE : ExR w2 (Rng w1.heap.size w2.heap.size) (posOf ps) (cAt i ks k) x v) (o : Obj)
    (hown : w3.ownsRow W.heap.size 46 1 v' (k + 1) (vs ++ [v])) (hg : (w2.alloc o).grownBy w3 sv.ownBlock) (hloc : v'.ownBlock = sv.ownBlock ∨ v'.ownBlock = some (w2.alloc o).heap.size) :
    LI W bb ps i ks (k + 1) v' (vs ++ [v]) w3 := by
  have hA := (h.next hg1).alloc o
  have hW := h.2.2.2.1.size
  obtain ⟨h1, ⟨h2, _⟩, h3, h4, h5, h6⟩ := hA
  have hkl := (List.getElem?_eq_some_iff.1 hx).1
  have hs1 := hg1.size
  have hs := hg.size
  have hsa : (w2.alloc o).heap.size = w2.heap.size + 1 := World.size_alloc _ _
  have hkeep : ∀ lo hi : Nat, (∀ g, sv.ownBlock = some g → g < lo ∨ hi ≤ g) → hi ≤ (w2.alloc o).heap.size → ∀ b, Rng lo hi b → w3.heap[b]? = (w2.alloc o).heap[b]? := fun lo hi hh hhi b hb =>
    hg.block b (Nat.lt_of_lt_of_le hb.2 hhi) (fun e => by have := hh b e.symm; have := hb.1; have := hb.2; omega)
  refine ⟨hkl, ⟨by simp [h2], fun h => by omega⟩, hown, ⟨hg.os.trans h4.os, hg.tape.trans h4.tape, hg.output.trans h4.output, Nat.le_trans h4.size hs, fun b hb hne => ?_⟩, h5, fun j y u hy hu => ?_⟩
  · exact (hg.block b (Nat.lt_of_lt_of_le hb h4.size) (fun e => by have := (own_ge h3 e.symm).1; omega)).trans (h4.block b hb hne)
  · by_cases hj : j < k
    · rw [List.getElem?_append_left (by omega)] at hu
      obtain ⟨lo, hi, k1, k2, k3, k4⟩ := h.2.2.2.2.2 j y u hy hu
      obtain hk4 := (k4.grownR hg1 (by omega) k2).allocR (by omega) o
      refine ⟨lo, hi, k1, by omega, fun g hg' => ?_, ExR.keep (hkeep lo hi k3 (by omega)) (fun _ hs => hs) _ _ _ hk4⟩
      rcases hloc with hl | hl
      · exact k3 g (hl ▸ hg')
      · rw [hl] at hg'
        cases hg'
        right
        omega
    · have hjk : j = k := by
        have := (List.getElem?_eq_some_iff.1 hu).1
        simp at this
        omega
      subst hjk
      rw [List.getElem?_append_right (by omega), h2, Nat.sub_self] at hu
      cases hu
      rw [hx] at hy
      cases hy
      have hh : ∀ g, sv.ownBlock = some g → g < w1.heap.size ∨ w2.heap.size ≤ g := fun g hg' => .inl (own_ge h.2.2.1 hg').2
      refine ⟨w1.heap.size, w2.heap.size, hW, by omega, fun g hg' => ?_, ExR.keep (hkeep _ _ hh (by omega)) (fun _ hs => hs) _ _ _ (hE.allocR (Nat.le_refl _) o)⟩
      rcases hloc with hl | hl
      · exact hh g (hl ▸ hg')
      · rw [hl] at hg'
        cases hg'
        right
        omega
theorem LI.bat (h : LI W bb ps i ks k sv vs w) (o : Obj) {j : Nat} (hB : BAt w bb ps j) (hg : (w.alloc o).grownBy w3 sv.ownBlock) : BAt w3 bb ps j := by
  have hW := h.2.2.2.1.size
  have h5 := h.2.2.2.2.1
  refine hB.keep fun b hb => ?_
  rw [hg.block b (by rw [World.size_alloc]; omega) (fun e => by have := (own_ge h.2.2.1 e.symm).1; omega), Below.heap_alloc _ _ _ (by omega)]
end

/-- What list leaves. -/
def LPost (W : World) (bb : Nat) (ps : List Int) (i : Nat) (ks : List Nd) (e : Ending) (w : World) : Prop :=
  ∃ sv vs, e = .returned sv ∧ ExL w (Rng W.heap.size w.heap.size) (posOf ps) (commas i (ks.map Nd.ntok)) ks vs ∧ SlAt w (Rng W.heap.size w.heap.size) sv vs ∧ BAt w bb ps (i + ntokL ks + (ks.length - 1)) ∧ W.grownBy w (some bb)
theorem LI.done {W w : World} {bb : Nat} {ps : List Int} {i : Nat} {ks : List Nd} {sv : Value} {vs : List Value} (h : LI W bb ps i ks ks.length sv vs w) (hB : BAt w bb ps (i + ntokL ks + (ks.length - 1))) : LPost W bb ps i ks (.returned sv) w := by
  obtain ⟨h1, ⟨h2, hz⟩, h3, h4, h5, h6⟩ := h
  refine ⟨sv, vs, rfl, ExL.of_at ks vs i h2 fun j x v hx hv => ?_, ?_, hB, h4⟩
  · obtain ⟨lo, hi, k1, k2, k3, k4⟩ := h6 j x v hx hv
    exact k4.wideR k1 k2
  · by_cases h0 : ks.length = 0
    · exact .inl ⟨List.length_eq_zero_iff.1 (by omega), hz h0⟩
    · obtain ⟨h0, ⟨rfl, hn⟩ | ⟨g', cap, cur, rfl, k1, k2, k3, k4, k5, k6⟩⟩ := h3
      · omega
      · rw [Nat.mul_one] at k6
        rw [← h2] at k3 k6 ⊢
        exact .inr ⟨g', cap, cur, rfl, ⟨k1, (Array.getElem?_eq_some_iff.1 k2).1⟩, k2, by omega, k3, k4, k6⟩

theorem list_any (ps : List Int) (m : Nd) (hlen : m.ks.length ≤ 400) (IH : ∀ k ∈ m.ks, EOf ps k) (W : World) (bb i : Nat) (hB : BAt W bb ps i) (hin : m.In W bb) (n : Nat) (hn : m.ks.length = n) :
    Calls Tryd.prog 43 #[.pointer (some ⟨bb, 0, none⟩), .slice m.ad n m.cp] W (LPost W bb ps i m.ks) := by
  obtain ⟨kd, tx, ad, cp, ks⟩ := m
  dsimp only at hlen IH hn ⊢
  subst hn
  have hinK := hin
  rw [Nd.In_iff] at hin
  obtain ⟨hl, hm, hk⟩ := hin
  dsimp only at hl hm hk
  have hlm : ks.length ≤ 9223372036854775807 := by omega
  obtain ⟨i0, hi, hz0, hz1, hz2⟩ := info_parts infoE
  have HI := Lib.hid (And.intro hi (And.intro hz0 (And.intro hz1 hz2)))
  have L0 := Lib.hid (LI.start W bb hB.lt ps i ks)
  have B0 := Lib.hid hB
  have HK := Lib.hid hk
  have IH' := Lib.hid IH
  have hbb := hB.lt
  clear hk IH hinK hB hi hz0 hz1 hz2 hm
  go_enter Tryd.func43, Tryd.ntmps43
  go_wp2_with fail
  go_loopw [5, 10] (fun sv i' wr => ∃ (k : Nat) (vs : List Value), i' = .int .i64 k ∧ LI W bb ps i ks k sv vs wr ∧ BAt wr bb ps (i + ntokL (ks.take k) + (k - 1))) (fun _ i' _ => ks.length - (intOf i').toNat)
  case atStart => exact ⟨0, [], rfl, L0.out, B0.out⟩
  case round =>
    obtain ⟨k, vs, rfl, hL, hB⟩ := hrel
    have hkl := hL.1
    have hgr := hL.2.2.2.1
    have hsz := hgr.size
    by_cases hlt : k < ks.length
    · obtain ⟨⟨b, o, rfl, hb, e1, e2, e3⟩, hin⟩ := HK.out k ks[k] (List.getElem?_eq_getElem hlt)
      have hx : ks[k] ∈ ks := List.getElem_mem hlt
      have hxk : ks[k]? = some ks[k] := List.getElem?_eq_getElem hlt
      generalize ks[k] = x at e1 e2 e3 hin hx hxk
      have HX := Lib.hid hxk
      have HM := Lib.hid hx
      clear hxk hx
      have hbk := hgr.block b (by omega) (fun e => by cases e; omega)
      have d1 := (World.cell?_of_block (a := ⟨b, o + k * 3, none⟩) hbk).trans e1
      have d2 := (World.cell?_of_block (a := ⟨b, o + k * 3 + 1, none⟩) hbk).trans e2
      have d3 := (World.cell?_of_block (a := ⟨b, o + k * 3 + 2, none⟩) hbk).trans e3
      clear e1 e2 e3 hbk
      have HN := Lib.hid (in_grown hin hgr hbb)
      have HL := Lib.hid hL
      have HB := Lib.hid hB
      clear hin hL hB hgr
      have ha : cAt i ks k = i + ntokL (ks.take k) + k := rfl
      have hT := ntokL_take HX.out
      have HA := Lib.hid ha
      have HT := Lib.hid hT
      clear ha hT
      by_cases hk0 : (0 : Int) < (k : Int)
      · have hk1 : k - 1 + 1 = k := by omega
        have HK1 := Lib.hid hk1
        clear hk1
        have hbl := Lib.hid (Blk.new wr 32 #[.string x.kd, .string x.tx, .slice x.ad x.ks.length x.cp])
        have hLa := Lib.hid (HL.out.alloc (.cells #[.string x.kd, .string x.tx, .slice x.ad x.ks.length x.cp] 32))
        have hBa := Lib.hid (HB.out.keep (w' := wr.alloc (.cells #[.string x.kd, .string x.tx, .slice x.ad x.ks.length x.cp] 32)) fun b hb => Below.heap_alloc _ _ _ (by omega))
        have hNa := Lib.hid (in_grown HN.out (World.grownBy_alloc wr (.cells #[.string x.kd, .string x.tx, .slice x.ad x.ks.length x.cp] 32) (some bb)) (by omega))
        go_wp2_with fail
        refine (next_any _ bb ps (i + ntokL (ks.take k) + (k - 1)) hBa.out).mono ?_
        rintro e w1 ⟨rfl, hB1, hg1⟩
        have hbl1 := hbl.out.grown hg1 (fun e => by cases e; omega)
        have hw1 := hg1.size
        rw [World.size_alloc] at hw1
        have c1 := hbl1.cell 0
        have c2 := hbl1.cell 1
        have c3 := hbl1.cell 2
        simp at c1 c2 c3
        have HL1 := Lib.hid (hLa.out.next hg1)
        have HN1 := Lib.hid (in_grown hNa.out hg1 (by rw [World.size_alloc]; omega))
        have HB1 := Lib.hid hB1
        clear hB1 hg1 hbl1 d1 d2 d3
        go_wp2_with fail
        refine (IH'.out x HM.out _ bb (cAt i ks k) (by have := HB1.out; rwa [show i + ntokL (ks.take k) + (k - 1) + 1 = cAt i ks k by have := HA.out; have := HK1.out; omega] at this) (HN1.out)).mono ?_
        rintro e w2 ⟨v, rfl, hE, hB2, hg2⟩
        obtain ⟨q, c, rfl⟩ := hE.form
        clear c1 c2 c3
        have HE := Lib.hid hE
        have HB2 := Lib.hid hB2
        have HG := Lib.hid hg2
        obtain ⟨hi, hz0, hz1, hz2⟩ := HI.out
        clear hE hB2 hg2
        go_wp2_with (at_builtin; refine wpList_append_own_at _ rfl _ _ 84 rfl W.heap.size 46 i0 .nilIface 1 16 underE hi hz0 hz1 hz2 rfl (by decide) _ _ vs rfl ((HL1.out.next HG.out).alloc _).2.2.1 ⟨w2.heap.size, 0, none⟩ 1 1 [.iface q (.pointer (some ⟨c, 0, none⟩))] rfl rfl (cell_one_new _ _ _) (by intro u hu; simp at hu; subst hu; rfl) (by unfold maxLen; omega) (by omega) (by have := (HL1.out.next HG.out).2.2.2.1.size; rw [World.size_alloc]; omega) ?_; intro v' w3 hown hgrow hnil hloc)
        have HL3 := Lib.hid (LI.append HL1.out HG.out HX.out (HE.out) _ hown hgrow hloc)
        have HB3 := Lib.hid ((HL1.out.next HG.out).bat _ HB2.out hgrow)
        clear hown hgrow hnil hloc hi hz0 hz1 hz2
        go_roundw
        case rel => exact ⟨k + 1, _, by go_num, HL3.out, by have := HB3.out; rwa [show cAt i ks k + x.ntok = i + ntokL (ks.take (k + 1)) + (k + 1 - 1) by have := HA.out; have := HT.out; omega] at this⟩
        case measure => simp [intOf]; omega
      · have hLa := Lib.hid (HL.out.alloc (.cells #[.string x.kd, .string x.tx, .slice x.ad x.ks.length x.cp] 32))
        have hBa := Lib.hid (HB.out.keep (w' := wr.alloc (.cells #[.string x.kd, .string x.tx, .slice x.ad x.ks.length x.cp] 32)) fun b hb => Below.heap_alloc _ _ _ (by omega))
        have hNa := Lib.hid (in_grown HN.out (World.grownBy_alloc wr (.cells #[.string x.kd, .string x.tx, .slice x.ad x.ks.length x.cp] 32) (some bb)) (by omega))
        have hk1 : k - 1 = k := by omega
        have HK1 := Lib.hid hk1
        clear hk1
        go_wp2_with fail
        refine (IH'.out x HM.out _ bb (cAt i ks k) (by have := hBa.out; rwa [show i + ntokL (ks.take k) + (k - 1) = cAt i ks k by have := HA.out; have := HK1.out; omega] at this) (hNa.out)).mono ?_
        rintro e w2 ⟨v, rfl, hE, hB2, hg2⟩
        obtain ⟨q, c, rfl⟩ := hE.form
        clear d1 d2 d3
        have HE := Lib.hid hE
        have HB2 := Lib.hid hB2
        have HG := Lib.hid hg2
        obtain ⟨hi, hz0, hz1, hz2⟩ := HI.out
        clear hE hB2 hg2
        go_wp2_with (at_builtin; refine wpList_append_own_at _ rfl _ _ 84 rfl W.heap.size 46 i0 .nilIface 1 16 underE hi hz0 hz1 hz2 rfl (by decide) _ _ vs rfl ((hLa.out.next HG.out).alloc _).2.2.1 ⟨w2.heap.size, 0, none⟩ 1 1 [.iface q (.pointer (some ⟨c, 0, none⟩))] rfl rfl (cell_one_new _ _ _) (by intro u hu; simp at hu; subst hu; rfl) (by unfold maxLen; omega) (by omega) (by have := (hLa.out.next HG.out).2.2.2.1.size; rw [World.size_alloc]; omega) ?_; intro v' w3 hown hgrow hnil hloc)
        have HL3 := Lib.hid (LI.append hLa.out HG.out HX.out (HE.out) _ hown hgrow hloc)
        have HB3 := Lib.hid ((hLa.out.next HG.out).bat _ HB2.out hgrow)
        clear hown hgrow hnil hloc hi hz0 hz1 hz2
        go_roundw
        case rel => exact ⟨k + 1, _, by go_num, HL3.out, by have := HB3.out; rwa [show cAt i ks k + x.ntok = i + ntokL (ks.take (k + 1)) + (k + 1 - 1) by have := HA.out; have := HT.out; omega] at this⟩
        case measure => simp [intOf]; omega
    · have hk : k = ks.length := by omega
      have HD := Lib.hid hk
      have HL := Lib.hid hL
      have HB := Lib.hid hB
      clear hL hB hgr hk
      go_wp2_with fail
      go_ret
      have hl2 := HL.out
      have hb2 := HB.out
      rw [HD.out, List.take_length] at hb2
      rw [HD.out] at hl2
      exact hl2.done hb2

/-! ### What list leaves, kept through the rest of a call of expr -/
theorem ad_form {W : World} {bb : Nat} {kd tx : ByteArray} {ad : Option Addr} {cp : Nat} {x : Nd} {rest : List Nd} (h : Nd.In W bb ⟨kd, tx, ad, cp, x :: rest⟩) : (∃ ab ao, ad = some ⟨ab, ao, none⟩) ∧ rest.length + 1 ≤ cp ∧ cp ≤ 9223372036854775807 := by
  obtain ⟨h1, h2, h3⟩ := Nd.In_iff.1 h
  obtain ⟨⟨ab, ao, had, _⟩, _⟩ := h3 0 x rfl
  exact ⟨⟨ab, ao, had⟩, h1, h2⟩
theorem tail_in {W : World} {bb : Nat} {kd tx : ByteArray} {ab ao cp : Nat} {x : Nd} {rest : List Nd} (h : Nd.In W bb ⟨kd, tx, some ⟨ab, ao, none⟩, cp, x :: rest⟩) : Nd.In W bb ⟨kd, tx, some ⟨ab, ao + 3, none⟩, cp - 1, rest⟩ := by
  rw [Nd.In_iff] at h ⊢
  obtain ⟨h1, h2, h3⟩ := h
  dsimp only at h1 h2 h3 ⊢
  simp only [List.length_cons] at h1
  refine ⟨by omega, by omega, fun j k hj => ?_⟩
  obtain ⟨⟨b, o, had, hb, e1, e2, e3⟩, hin⟩ := h3 (j + 1) k (by simpa using hj)
  cases had
  refine ⟨⟨ab, ao + 3, rfl, hb, ?_, ?_, ?_⟩, hin⟩
  · rwa [show ao + (j + 1) * 3 = ao + 3 + j * 3 by omega] at e1
  · rwa [show ao + (j + 1) * 3 = ao + 3 + j * 3 by omega] at e2
  · rwa [show ao + (j + 1) * 3 = ao + 3 + j * 3 by omega] at e3
theorem nil_in (W : World) (bb : Nat) (kd tx : ByteArray) (ad : Option Addr) : Nd.In W bb ⟨kd, tx, ad, 0, []⟩ := by
  rw [Nd.In_iff]
  exact ⟨Nat.le_refl _, Nat.zero_le _, fun j k hj => by simp at hj⟩
theorem SlAt.form {w : World} {S : Nat → Prop} {sv : Value} {vs : List Value} (h : SlAt w S sv vs) : ∃ A n c, sv = .slice A n c := by
  rcases h with ⟨_, rfl⟩ | ⟨g, cap, cs, rfl, _⟩
  · exact ⟨_, _, _, rfl⟩
  · exact ⟨_, _, _, rfl⟩
/-- A list of expressions that list has made, apart from the node's own block b. -/
def LR (W : World) (bb : Nat) (ps : List Int) (b : Nat) (is : List Nat) (ks : List Nd) (sv : Value) (vs : List Value) (w : World) : Prop :=
  bb < W.heap.size ∧ ∃ lo hi, W.heap.size + 1 < lo ∧ hi ≤ w.heap.size ∧ (b < lo ∨ hi ≤ b) ∧ ExL w (Rng lo hi) (posOf ps) is ks vs ∧ SlAt w (Rng lo hi) sv vs
section
variable {W w w' : World} {bb : Nat} {ps : List Int} {b : Nat} {is : List Nat} {ks : List Nd} {sv : Value} {vs : List Value}
theorem LR.grown (h : LR W bb ps b is ks sv vs w) (hg : w.grownBy w' (some bb)) : LR W bb ps b is ks sv vs w' := by
  obtain ⟨h0, lo, hi, h1, h2, h3, h4, h5⟩ := h
  have := hg.size
  have hk : ∀ g, Rng lo hi g → w'.heap[g]? = w.heap[g]? := fun g hg' => hg.block g (Nat.lt_of_lt_of_le hg'.2 h2) (fun e => by cases e; have := hg'.1; omega)
  exact ⟨h0, lo, hi, h1, by omega, h3, h4.keep hk (fun _ hs => hs), h5.keep hk (fun _ hs => hs)⟩
theorem LR.set_ (h : LR W bb ps b is ks sv vs w) (i : Nat) (u : Value) : LR W bb ps b is ks sv vs (w.setCell ⟨b, i, none⟩ u) := by
  obtain ⟨h0, lo, hi, h1, h2, h3, h4, h5⟩ := h
  have hk : ∀ g, Rng lo hi g → (w.setCell ⟨b, i, none⟩ u).heap[g]? = w.heap[g]? := fun g hg' => Below.heap_setCell w ⟨b, i, none⟩ u g (fun e => by have := hg'.1; have := hg'.2; simp at e; omega)
  exact ⟨h0, lo, hi, h1, by simpa [World.setCell] using h2, h3, h4.keep hk (fun _ hs => hs), h5.keep hk (fun _ hs => hs)⟩
theorem LR.exl (h : LR W bb ps b is ks sv vs w) : ExL w (Rng W.heap.size w.heap.size) (posOf ps) is ks vs := by
  obtain ⟨h0, lo, hi, h1, h2, h3, h4, h5⟩ := h
  exact h4.keep (fun _ _ => rfl) (fun g hg => ⟨by have := hg.1; omega, Nat.lt_of_lt_of_le hg.2 h2⟩)
theorem LR.sl (h : LR W bb ps b is ks sv vs w) : SlAt w (Rng W.heap.size w.heap.size) sv vs := by
  obtain ⟨h0, lo, hi, h1, h2, h3, h4, h5⟩ := h
  exact h5.keep (fun _ _ => rfl) (fun g hg => ⟨by have := hg.1; omega, Nat.lt_of_lt_of_le hg.2 h2⟩)
theorem St.list {n : Nd} {t : TypeId} {cs : Array Value} {j : Nat} {es : List (Nat × Nd × Value)} (h : St W bb ps n b t cs j es w) {i : Nat} (hl : ExL w' (Rng w.heap.size w'.heap.size) (posOf ps) (commas i (ks.map Nd.ntok)) ks vs) (hs : SlAt w' (Rng w.heap.size w'.heap.size) sv vs) :
    LR W bb ps b (commas i (ks.map Nd.ntok)) ks sv vs w' :=
  ⟨h.1.lt, _, _, h.1.size, Nat.le_refl _, .inl h.2.2.1.lt, hl, hs⟩
end
theorem sl_cell {o : Option Value} {r : Option Value} {u : Value} (h : o = r) (hr : r = some u) : o = some u := h.trans hr
end Go.Proofs.YtnpnmfblcogkmaaDoor
