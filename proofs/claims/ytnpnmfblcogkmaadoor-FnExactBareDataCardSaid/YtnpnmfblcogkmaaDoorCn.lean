/-
  spec.count, spec.few, spec.Shaped: walked once each, for every tree that lies in memory.
-/
import Derived.Test.YtnpnmfblcogkmaaDoorSh
namespace Go.Proofs.YtnpnmfblcogkmaaDoor
open Go.RowKit

def CntPost (W : World) (lb : Nat) (r : Bool × Int) (e : Ending) (w' : World) : Prop :=
  e = .returned (.bool r.1) ∧ W.grownBy w' (some lb) ∧ Blk w' lb 3 #[.int .i64 r.2]
theorem cnt_false {kd tx : ByteArray} {ad : Option Addr} {cp : Nat} {ks : List Nd} {l : Int} {d : Nat} (h : l - 1 < 0 ∨ 30 < d ∨ l - 1 < (ks.length : Int)) : Nd.cnt ⟨kd, tx, ad, cp, ks⟩ l d = (false, l - 1) := by
  rw [Nd.cnt, if_pos h]
theorem cnt_true {kd tx : ByteArray} {ad : Option Addr} {cp : Nat} {ks : List Nd} {l : Int} {d : Nat} (h : ¬ (l - 1 < 0 ∨ 30 < d ∨ l - 1 < (ks.length : Int))) : Nd.cnt ⟨kd, tx, ad, cp, ks⟩ l d = cntL ks (l - 1) (d + 1) := by
  rw [Nd.cnt, if_neg h]
theorem cntL_step {ks : List Nd} {k : Nat} {x : Nd} (h : ks[k]? = some x) (l : Int) (d : Nat) : cntL (ks.drop k) l d = if (x.cnt l d).1 then cntL (ks.drop (k + 1)) (x.cnt l d).2 d else (false, (x.cnt l d).2) := by
  obtain ⟨hk, rfl⟩ := List.getElem?_eq_some_iff.1 h
  rw [List.drop_eq_getElem_cons hk, cntL]

theorem cnt_mid {w : World} {lb : Nat} {t : TypeId} {v u : Value} (h : Blk w lb t #[v]) (nq : Nat) (cs : Array Value) (t2 : TypeId) :
    w.grownBy (((w.setCell ⟨lb, 0, none⟩ u).alloc (.cells cs t2)).drewN nq) (some lb) ∧ Blk (((w.setCell ⟨lb, 0, none⟩ u).alloc (.cells cs t2)).drewN nq) lb t #[u] ∧ Blk (((w.setCell ⟨lb, 0, none⟩ u).alloc (.cells cs t2)).drewN nq) w.heap.size t2 cs := by
  have h1 : Blk (w.setCell ⟨lb, 0, none⟩ u) lb t #[u] := by simpa using h.set_ 0 u
  have h2 : w.grownBy ((w.setCell ⟨lb, 0, none⟩ u).alloc (.cells cs t2)) (some lb) :=
    grown_alloc (a := w) (b := w.setCell ⟨lb, 0, none⟩ u) ⟨rfl, rfl, rfl, by simp [World.setCell], fun i _ hne => Below.heap_setCell w ⟨lb, 0, none⟩ u i (fun e => hne (congrArg some e))⟩ _
  have h3 : Blk ((w.setCell ⟨lb, 0, none⟩ u).alloc (.cells cs t2)) w.heap.size t2 cs := by
    have := Blk.new (w.setCell ⟨lb, 0, none⟩ u) t2 cs
    rwa [show (w.setCell ⟨lb, 0, none⟩ u).heap.size = w.heap.size by simp [World.setCell]] at this
  exact ⟨⟨h2.os, h2.tape, h2.output, h2.size, h2.block⟩, h1.alloc _, h3⟩
theorem cnt_ret {w : World} {lb : Nat} {l : Int} {cs : Array Value} {t2 : TypeId} (h : Blk w lb 3 #[.int .i64 l]) (nq : Nat) (l' : Int) :
    CntPost w lb (false, l') (.returned (.bool false)) (((w.setCell ⟨lb, 0, none⟩ (.int .i64 l')).alloc (.cells cs t2)).drewN nq) :=
  ⟨rfl, (cnt_mid h nq cs t2).1, (cnt_mid h nq cs t2).2.1⟩

theorem below_grown {a b : World} {B g : Nat} (h : a.grownBy b (some g)) (hB : B ≤ a.heap.size) (hg : B ≤ g) : Below B a b :=
  ⟨h.os, h.tape, h.output, h.size, fun i hi => h.block i (by omega) (fun e => by cases e; omega)⟩

theorem count_any : ∀ (n : Nd) (w : World) (B lb : Nat) (l : Int) (d : Nat), n.In w B → B ≤ lb → Blk w lb 3 #[.int .i64 l] → 0 ≤ l → l ≤ 400 → d ≤ 31 →
    Calls Tryd.prog 30 #[n.val, .pointer (some ⟨lb, 0, none⟩), .int .i64 d] w (CntPost w lb (n.cnt l d)) := by
  refine Nd.ind fun n ih w B lb l d hin hB hlb h0 h4 hd => ?_
  obtain ⟨kd, tx, ad, cp, ks⟩ := n
  rw [Nd.In_iff] at hin
  obtain ⟨hl, hm, hk⟩ := hin
  dsimp only at hl hm hk ih ⊢
  have hlM : ks.length ≤ maxLen := by omega
  have hlm : ks.length ≤ 9223372036854775807 := hlM
  show Calls _ _ #[.agg #[.string kd, .string tx, .slice ad ks.length cp], _, _] w _
  have hlt := hlb.lt
  have c0 := hlb.cell 0
  have f0 := hlb.frozen 0
  simp at c0
  have HL := Lib.hid hlb
  have HK := Lib.hid hk
  have IH := Lib.hid ih
  clear hk ih hm hlM hlb
  by_cases h1 : l - 1 < 0
  · have d1 : decide (l - 1 < 0) = true := decide_eq_true h1
    have H1 := Lib.hid (cnt_false (kd := kd) (tx := tx) (ad := ad) (cp := cp) (ks := ks) (l := l) (d := d) (.inl h1))
    go_enter Tryd.func30, Tryd.ntmps30
    go_wp2_with fail
    go_quiet (fail)
    go_wp2_with fail
    go_ret
    rw [H1.out]
    exact cnt_ret HL.out nq _
  have d1 : decide (l - 1 < 0) = false := decide_eq_false h1
  by_cases h2 : (30 : Int) < (d : Int)
  · have d2 : decide ((30 : Int) < (d : Int)) = true := decide_eq_true h2
    have H1 := Lib.hid (cnt_false (kd := kd) (tx := tx) (ad := ad) (cp := cp) (ks := ks) (l := l) (d := d) (.inr (.inl (by omega))))
    go_enter Tryd.func30, Tryd.ntmps30
    go_wp2_with fail
    go_quiet (fail)
    go_wp2_with fail
    go_ret
    rw [H1.out]
    exact cnt_ret HL.out nq _
  have d2 : decide ((30 : Int) < (d : Int)) = false := decide_eq_false h2
  by_cases h3 : l - 1 < (ks.length : Int)
  · have d3 : decide (l - 1 < (ks.length : Int)) = true := decide_eq_true h3
    have H1 := Lib.hid (cnt_false (kd := kd) (tx := tx) (ad := ad) (cp := cp) (ks := ks) (l := l) (d := d) (.inr (.inr h3)))
    go_enter Tryd.func30, Tryd.ntmps30
    go_wp2_with fail
    go_quiet (fail)
    go_wp2_with fail
    go_ret
    rw [H1.out]
    exact cnt_ret HL.out nq _
  have d3 : decide (l - 1 < (ks.length : Int)) = false := decide_eq_false h3
  have H1 := Lib.hid (cnt_true (kd := kd) (tx := tx) (ad := ad) (cp := cp) (ks := ks) (l := l) (d := d) (by omega))
  go_enter Tryd.func30, Tryd.ntmps30
  go_wp2_with fail
  go_quiet (fail)
  have hs0 := cnt_mid HL.out nq #[.string kd, .string tx, .slice ad ks.length cp] 32 (u := .int .i64 (l - 1))
  generalize ((w.setCell ⟨lb, 0, none⟩ (.int .i64 (l - 1))).alloc (.cells #[.string kd, .string tx, .slice ad ks.length cp] 32)).drewN nq = w0 at hs0 ⊢
  clear f0 c0
  obtain ⟨hg0, hl0, hb0⟩ := hs0
  have c2 := hb0.cell 2
  simp at c2
  have HB0 := Lib.hid hb0
  clear hb0
  go_wp2_with fail
  go_loopw [34] (fun i wr => ∃ (k : Nat) (lk : Int), k ≤ ks.length ∧ i = .int .i64 k ∧ 0 ≤ lk ∧ lk ≤ 400 ∧ cntL ks (l - 1) (d + 1) = cntL (ks.drop k) lk (d + 1) ∧ w.grownBy wr (some lb) ∧ Blk wr lb 3 #[.int .i64 lk]) (fun i _ => ks.length - (intOf i).toNat)
  case atStart => exact ⟨0, l - 1, Nat.zero_le _, rfl, by omega, by omega, rfl, hg0, hl0⟩
  case round =>
    obtain ⟨k, lk, hkl, rfl, hk0, hk4, hall, hgr, hlr⟩ := hrel
    have HA := Lib.hid hall
    clear hall
    have hsz := hgr.size
    have hltr := hlr.lt
    by_cases hlt2 : k < ks.length
    · obtain ⟨⟨b, o, rfl, hb, e1, e2, e3⟩, hin⟩ := HK.out k ks[k] (List.getElem?_eq_getElem hlt2)
      have hx : ks[k] ∈ ks := List.getElem_mem hlt2
      have hxk : ks[k]? = some ks[k] := List.getElem?_eq_getElem hlt2
      generalize ks[k] = x at e1 e2 e3 hin hx hxk
      have HX := Lib.hid (cntL_step hxk lk (d + 1))
      clear hxk
      have hbk := hgr.block b (by omega) (fun e => by cases e; omega)
      have d1 := (World.cell?_of_block (a := ⟨b, o + k * 3, none⟩) hbk).trans e1
      have d2 := (World.cell?_of_block (a := ⟨b, o + k * 3 + 1, none⟩) hbk).trans e2
      have d3 := (World.cell?_of_block (a := ⟨b, o + k * 3 + 2, none⟩) hbk).trans e3
      clear e1 e2 e3 hbk
      have hinr : x.In wr B := Nd.In.keep (fun p hp => World.cell?_of_block (hgr.block p.block (by omega) (fun e => by cases e; omega))) (Nat.le_refl _) x hin
      clear hin
      go_wp2_with fail
      refine (IH.out x hx _ B lb lk (d + 1) (hinr.below ((Below.refl _ _).alloc (by omega) _) (Nat.le_refl _)) hB (hlr.alloc _) hk0 hk4 (by omega)).mono ?_
      have hcs := Lib.hid (x.cnt_spec lk (d + 1))
      cases hxs : (x.cnt lk (d + 1)).1
      · rintro e w1 ⟨rfl, hg1, hl1⟩
        rw [hxs]
        have HS := Lib.hid hxs
        clear hxs
        go_wp2_with fail
        go_ret
        rw [H1.out, HA.out, HX.out, HS.out]
        exact ⟨rfl, grown_trans (grown_alloc hgr _) hg1, hl1⟩
      · rintro e w1 ⟨rfl, hg1, hl1⟩
        rw [hxs]
        have HS := Lib.hid hxs
        clear hxs
        have hq := hcs.out HS.out
        go_wp2_with fail
        go_roundw
        case rel =>
          refine ⟨k + 1, (x.cnt lk (d + 1)).2, by omega, by go_num, hq.2, by omega, ?_, grown_trans (grown_alloc hgr _) hg1, hl1⟩
          rw [HA.out, HX.out, HS.out]
          rfl
        case measure => simp [intOf]; omega
    · have hk : ks.drop k = [] := List.drop_eq_nil_of_le (by omega)
      have HD := Lib.hid hk
      clear hk
      go_wp2_with fail
      go_ret
      rw [H1.out, HA.out, HD.out]
      exact ⟨rfl, hgr, hlr⟩

theorem few_any (n : Nd) (w : World) (B : Nat) (hin : n.In w B) (hB : B ≤ w.heap.size) :
    Calls Tryd.prog 20 #[n.val] w fun e w' => e = .returned (.bool (n.cnt 400 0).1) ∧ Below w.heap.size w w' := by
  have HI := Lib.hid hin
  clear hin
  show Calls _ _ #[.agg #[.string n.kd, .string n.tx, .slice n.ad n.ks.length n.cp]] w _
  go_enter Tryd.func20, Tryd.ntmps20
  go_wp2_with fail
  refine (count_any n _ B (w.heap.size + 1) 400 0 (HI.out.below (((Below.refl B w).alloc hB _).alloc (by simp; omega) _) (Nat.le_refl _)) (by omega) ?_ (by omega) (by omega) (by omega)).mono ?_
  · have := Blk.new (w.alloc (.cells #[.string n.kd, .string n.tx, .slice n.ad n.ks.length n.cp] 32)) 3 #[.int .i64 400]
    rwa [World.size_alloc] at this
  · rintro e w1 ⟨rfl, hg, hb⟩
    have HG := Lib.hid hg
    clear hb hg
    go_wp2_with fail
    go_ret
    exact ⟨rfl, (((Below.refl _ w).alloc (Nat.le_refl _) _).alloc (by simp) _).trans (below_grown HG.out (by simp; omega) (by omega))⟩

theorem Nd.okB_eq (n : Nd) : n.okB = ((n.cnt 400 0).1 && n.shortB && n.shapedB) := rfl
theorem Shaped_any (n : Nd) (w : World) (B : Nat) (hin : n.In w B) (hB : B ≤ w.heap.size) :
    Calls Tryd.prog 11 #[n.val] w fun e w' => e = .returned (.bool n.okB) ∧ Below w.heap.size w w' := by
  have HI := Lib.hid (hin.below ((Below.refl B w).alloc hB (.cells #[.string n.kd, .string n.tx, .slice n.ad n.ks.length n.cp] 32)) (Nat.le_refl _))
  clear hin
  show Calls _ _ #[.agg #[.string n.kd, .string n.tx, .slice n.ad n.ks.length n.cp]] w _
  have b1 : Blk (w.alloc (.cells #[.string n.kd, .string n.tx, .slice n.ad n.ks.length n.cp] 32)) w.heap.size 32 #[.string n.kd, .string n.tx, .slice n.ad n.ks.length n.cp] := Blk.new _ _ _
  have hbe0 := Lib.hid ((Below.refl _ w).alloc (Nat.le_refl _) (.cells #[.string n.kd, .string n.tx, .slice n.ad n.ks.length n.cp] 32))
  go_enter Tryd.func11, Tryd.ntmps11
  go_wp2_with fail
  refine (few_any n _ B HI.out (by simp; omega)).mono ?_
  rintro e w1 ⟨rfl, hb1⟩
  have hbe1 := Lib.hid (hbe0.out.trans (hb1.mono (by simp)))
  have hin1 := Lib.hid (HI.out.below (hb1.mono (by simp; omega)) (Nat.le_refl _))
  have b2 := b1.below hb1 (by simp)
  have hs1 := hbe1.out.size
  clear b1 hb1
  have x0 := b2.cell 0
  have x1 := b2.cell 1
  have x2 := b2.cell 2
  simp at x0 x1 x2
  cases h1 : (n.cnt 400 0).1
  · have H1 := Lib.hid h1
    clear h1
    go_wp2_with fail
    go_ret
    refine ⟨?_, hbe1.out⟩
    rw [Nd.okB_eq, H1.out]
    rfl
  · have H1 := Lib.hid h1
    clear h1
    go_wp2_with fail
    refine (short_any n _ B hin1.out (by omega)).mono ?_
    rintro e w2 ⟨rfl, hb2⟩
    have hbe2 := Lib.hid (hbe1.out.trans (hb2.mono (by omega)))
    have hin2 := Lib.hid (hin1.out.below (hb2.mono (by omega)) (Nat.le_refl _))
    have b3 := b2.below hb2 b2.lt
    have hs2 := hbe2.out.size
    clear b2 hb2 x0 x1 x2
    have x0 := b3.cell 0
    have x1 := b3.cell 1
    have x2 := b3.cell 2
    simp at x0 x1 x2
    cases h2 : n.shortB
    · have H2 := Lib.hid h2
      clear h2
      go_wp2_with fail
      go_ret
      refine ⟨?_, hbe2.out⟩
      rw [Nd.okB_eq, H1.out, H2.out]
      rfl
    · have H2 := Lib.hid h2
      clear h2
      go_wp2_with fail
      refine (shaped_any n _ B hin2.out (by omega) H2.out).mono ?_
      rintro e w3 ⟨rfl, hb3⟩
      have hbe3 := Lib.hid (hbe2.out.trans (hb3.mono (by omega)))
      clear hb3
      go_wp2_with fail
      go_ret
      refine ⟨?_, hbe3.out⟩
      rw [Nd.okB_eq, H1.out, H2.out]
      rfl
end Go.Proofs.YtnpnmfblcogkmaaDoor
