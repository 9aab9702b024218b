/-
  laws.FnPlacesNest: the walk.
-/
import Derived.Test.YtjbhjbpamnoebaaGreatFmtTt
import Derived.Test.YtjbhjbpamnoebaaGreatFmtL2
import Derived.Test.YtjbhjbpamnoebaaGreatFmtL6
import Derived.Test.YtjbhjbpamnoebaaGreatFmtGe
import Derived.Test.YtjbhjbpamnoebaaGreatFmtGh
import Derived.Test.YtjbhjbpamnoebaaGreatFmtK2
import Derived.Test.YtjbhjbpamnoebaaGreatFmtOe
namespace Go.Proofs.YtjbhjbpamnoebaaGreatFmt
open Go.RowKit

theorem Blk.y0 {w : World} {g : Nat} {t : TypeId} {a b c : Value} (h : Blk w g t #[a, b, c]) : w.cell? ⟨g, 0, none⟩ = some a := h.cell 0
theorem Blk.y1 {w : World} {g : Nat} {t : TypeId} {a b c : Value} (h : Blk w g t #[a, b, c]) : w.cell? ⟨g, 1, none⟩ = some b := h.cell 1
theorem Blk.y2 {w : World} {g : Nat} {t : TypeId} {a b c : Value} (h : Blk w g t #[a, b, c]) : w.cell? ⟨g, 2, none⟩ = some c := h.cell 2
/-- What the law calls, for a tree that is shaped and short: the tokens, their places, the spans of impl.Places. -/
theorem places_calls (n : Nd) (gs : List Int) (hs : n.shapedB = true) (hsh : n.shortB = true) (hz : n.size ≤ 400) :
    (∀ w, n.In w w.heap.size → Calls Tryz.prog 13 #[n.val] w (EvPost w n.toks)) ∧
    (∀ (w : World) (A G : Option Addr) (ca gc : Nat), TxAt w A n.toks → InAt w G gs → Calls Tryz.prog 12 #[.slice A n.toks.length ca, .slice G gs.length gc] w (InPost w (startsL gs 0 1 n.toks))) ∧
    ∀ (w : World) (A : Option Addr) (cap : Nat), TokTab w → n.In w w.heap.size → w.ownsRow 0 3 1 (.slice A (startsL gs 0 1 n.toks).length cap) (startsL gs 0 1 n.toks).length (flatI (startsL gs 0 1 n.toks)) →
      Calls Tryz.prog 11 #[n.val, .slice A (startsL gs 0 1 n.toks).length cap] w (SpPost w (spansOf (posOf (startsL gs 0 1 n.toks)) n)) := by
  have hps := starts_ok hs hsh hz gs
  have hl := startsL_len gs n.toks 0 1
  have htl := toks_le hs hz
  have htp := toks_pos hs
  refine ⟨fun w h => tokens_any n w hs hz h, fun w A G ca gc hT hG => Starts_any n.toks gs A G ca gc w hT hG (by omega) (toks_short n hsh) _ _ rfl rfl, fun w A cap hT hin hown => ?_⟩
  have hp : ∀ i, 0 ≤ posOf (startsL gs 0 1 n.toks) i ∧ posOf (startsL gs 0 1 n.toks) i ≤ 4611686018427387904 := fun i => ⟨by have := (hps i).1; omega, (hps i).2⟩
  exact Places_any n _ hp (fun i => by have := (hps i).1; omega) (expr_any _ hp n hs hsh hz) hs hsh hz w hT hin A cap hown (by omega) (by omega)
theorem spans_len (P : Nat → Int) (n : Nd) (hz : n.size ≤ 400) : (spansOf P n).length ≤ 5000 := by
  have h1 := Nd.kinds_len n
  unfold spansOf
  rw [List.length_map, pre_len]
  omega
theorem span_slice (g k c j : Nat) (hj : j + 1 ≤ k) (hc : k ≤ c) : ∃ A k2 c2, k2 + (j + 1) = k ∧ (0 < k2 → A = some ⟨g, (j + 1) * 3, none⟩) ∧
    ∀ wx, (Instr.slice 27 (.slice (some ⟨g, 0, none⟩) k c) (some (.int .i64 ((j : Int) + 1))) none none).run Tryz.prog wx = .ok (.slice A k2 c2) wx := by
  have hu : Tryz.prog.underlying 27 = some (.slice (Tryz.prog.elem 27)) := by kernel_rfl
  have he : Tryz.prog.elem 27 = 29 := by kernel_rfl
  have hc3 : Tryz.prog.cellsOf 29 = 3 := by kernel_rfl
  obtain ⟨i0, hi0, _⟩ := info_parts infoS
  refine ⟨if c = j + 1 then some ⟨g, 0, none⟩ else some ⟨g, (j + 1) * 3, none⟩, k - (j + 1), c - (j + 1), by omega, fun h => if_neg (by omega), fun wx => ?_⟩
  have hlow : (j : Int) + 1 ≤ ((k : Nat) : Int) := by omega
  have hadd : (⟨g, 0, none⟩ : Addr).add ((j + 1) * 3) = ⟨g, (j + 1) * 3, none⟩ := by unfold Addr.add; split <;> simp_all
  have hn : ((j : Int) + 1).toNat = j + 1 := by omega
  rw [run_slice_l wx _ (some ⟨g, 0, none⟩) k c hu .i64 ((j : Int) + 1) (by omega) hlow, he, run_sizeOf (P := Tryz.prog) (w := wx) hi0, hc3]
  simp only [Result.andThen, sliced, hn, Option.map_some, hadd]
set_option maxHeartbeats 4000000 in
set_option maxRecDepth 100000 in
theorem law_nest (n : Nd) (gs : List Int) (G : Option Addr) (gc m : Nat) (hm : m = gs.length) (hm9 : m ≤ 9223372036854775807) (W : World) (hT : TokTab W) (hin : n.In W W.heap.size) (hG : InAt W G gs) :
    Calls Tryz.prog 4 #[n.val, .slice G m gc] W fun e w => e = .returned (.bool true) ∧ Below W.heap.size W w := by
  subst hm
  show Calls _ _ #[.agg #[.string n.kd, .string n.tx, .slice n.ad n.ks.length n.cp], .slice G gs.length gc] W _
  have hbox : Blk (W.alloc (.cells #[.string n.kd, .string n.tx, .slice n.ad n.ks.length n.cp] 24)) W.heap.size 24 #[.string n.kd, .string n.tx, .slice n.ad n.ks.length n.cp] := Blk.new _ _ _
  have hs1 : (W.alloc (.cells #[.string n.kd, .string n.tx, .slice n.ad n.ks.length n.cp] 24)).heap.size = W.heap.size + 1 := World.size_alloc _ _
  have HB0 := Lib.hid (Below.al W (.cells #[.string n.kd, .string n.tx, .slice n.ad n.ks.length n.cp] 24))
  have H0 := Lib.hid (And.intro hT (And.intro hin hG))
  clear hT hin hG
  go_enter Tryz.func4, Tryz.ntmps4
  go_wp2_with fail
  refine (zzFits1_any n _).mono ?_
  rintro e w1 ⟨b, rfl, hb1⟩
  have hz1 := hb1.size
  rw [hs1] at hz1
  have HB1 := Lib.hid (HB0.out.trans (hb1.mono (by rw [hs1]; omega)))
  have X1 := Lib.hid (hbox.below hb1 (by rw [hs1]; omega))
  clear hb1 hbox
  cases b
  · go_wp2_with fail
    go_ret
    exact ⟨rfl, HB1.out⟩
  have c0 : w1.cell? ⟨W.heap.size, 0, none⟩ = some (.string n.kd) := X1.out.cell 0
  have c1 : w1.cell? ⟨W.heap.size, 1, none⟩ = some (.string n.tx) := X1.out.cell 1
  have c2 : w1.cell? ⟨W.heap.size, 2, none⟩ = some (.slice n.ad n.ks.length n.cp) := X1.out.cell 2
  by_cases hst : (2147483647 : Int) < gs.length
  · go_wp2_with fail
    go_ret
    exact ⟨rfl, HB1.out⟩
  go_wp2_with fail
  refine (Shaped_any n w1 W.heap.size (H0.out.2.1.below HB1.out (Nat.le_refl _)) HB1.out.size).mono ?_
  rintro e w2 ⟨rfl, hb2⟩
  have hz2 := hb2.size
  have HB2 := Lib.hid (HB1.out.trans (hb2.mono HB1.out.size))
  have X2 := Lib.hid (X1.out.below hb2 X1.out.lt)
  clear hb2 c0 c1 c2
  cases hok : n.okB
  · go_wp2_with fail
    go_ret
    exact ⟨rfl, HB2.out⟩
  have hp : n.shapedB = true ∧ n.shortB = true := by
    unfold Nd.okB at hok
    simp only [Bool.and_eq_true] at hok
    exact ⟨hok.2, hok.1.2⟩
  have hsz := Nd.okB_size hok
  have HE := Lib.hid (places_calls n gs hp.1 hp.2 hsz)
  have hne := nest_of (P := posOf (startsL gs 0 1 n.toks)) hp.1 (monoP_starts gs n.toks)
  have hl5 := spans_len (posOf (startsL gs 0 1 n.toks)) n hsz
  generalize spansOf (posOf (startsL gs 0 1 n.toks)) n = l at HE hne hl5
  generalize startsL gs 0 1 n.toks = ps at HE
  generalize n.toks = tk at HE
  have HNE := Lib.hid hne
  clear hok hp hne
  have k0 : w2.cell? ⟨W.heap.size, 0, none⟩ = some (.string n.kd) := X2.out.cell 0
  have k1 : w2.cell? ⟨W.heap.size, 1, none⟩ = some (.string n.tx) := X2.out.cell 1
  have k2 : w2.cell? ⟨W.heap.size, 2, none⟩ = some (.slice n.ad n.ks.length n.cp) := X2.out.cell 2
  go_wp2_with fail
  go_region_held3 (fun w' => w'.cell? ⟨W.heap.size, 0, none⟩ = some (.string n.kd) ∧ w'.cell? ⟨W.heap.size, 1, none⟩ = some (.string n.tx) ∧ w'.cell? ⟨W.heap.size, 2, none⟩ = some (.slice n.ad n.ks.length n.cp))
    (first | with_reducible exact ⟨X5.out.y0, X5.out.y1, X5.out.y2⟩ | with_reducible exact ⟨X4.out.y0, X4.out.y1, X4.out.y2⟩ | with_reducible exact ⟨X3.out.y0, X3.out.y1, X3.out.y2⟩ | exact ⟨X2.out.drew.y0, X2.out.drew.y1, X2.out.drew.y2⟩)
    (first
      | (go_at_call 13; refine (HE.out.1 w2.drew (H0.out.2.1.below HB2.out.drew HB2.out.size)).mono ?_; rintro e w3 ⟨A3, c3, rfl, hown3, hb3⟩; have HB3 := Lib.hid (HB2.out.drew.trans (hb3.mono HB2.out.size)); have X3 := Lib.hid (X2.out.drew.below hb3 X2.out.lt); have H3 := Lib.hid (TxAt.of hown3); clear hown3 hb3)
      | (go_at_call 12; refine (HE.out.2.1 w3 A3 G c3 gc H3.out (H0.out.2.2.below HB3.out)).mono ?_; rintro e w4 ⟨A4, c4, rfl, hown4, hb4⟩; have HB4 := Lib.hid (HB3.out.trans (hb4.mono HB3.out.size)); have X4 := Lib.hid (X3.out.below hb4 X3.out.lt); have H4 := Lib.hid (own_lowT hown4 (Nat.zero_le _)); clear hown4 hb4)
      | (go_at_call 11; refine (HE.out.2.2 w4 A4 c4 (H0.out.1.below HB4.out) (H0.out.2.1.below HB4.out HB4.out.size) H4.out).mono ?_; rintro e w5 ⟨A5, c5, rfl, hown5, hb5⟩; have HB5 := Lib.hid (HB4.out.trans (hb5.mono HB4.out.size)); have X5 := Lib.hid (X4.out.below hb5 X4.out.lt); have H5 := Lib.hid (And.intro (PlAt.of hown5) hown5); clear hown5 hb5))
  have hM : l.length ≤ 9223372036854775807 := by omega
  go_wp2_with fail
  go_loopw [29] (fun i' wr => ∃ j : Nat, i' = .int .i64 j ∧ j ≤ l.length ∧ Below w5.heap.size w5 wr) (fun i' _ => l.length - (intOf i').toNat)
  case atStart => exact ⟨0, rfl, Nat.zero_le _, Below.refl _ _⟩
  case round =>
    obtain ⟨j, rfl, hj, hbr⟩ := hrel
    obtain ⟨w6, rfl⟩ : ∃ w6, w6 = wr := ⟨_, rfl⟩
    have HR := Lib.hid hbr
    by_cases hlt : j < l.length
    · have hj0 : l[j]? = some l[j] := List.getElem?_eq_getElem hlt
      obtain ⟨x0, hx0, hin0, hnest⟩ := HNE.out
      generalize l[j] = x at hj0
      obtain ⟨h1, h2, h3⟩ := hin0 j x hj0
      obtain ⟨g, rfl, e0, e1, e2⟩ := H5.out.1.below hbr j x hj0
      obtain ⟨g', hg', f0, f1, f2⟩ := H5.out.1.below hbr 0 x0 hx0
      cases hg'
      have HX := Lib.hid (And.intro hj0 hnest)
      clear hin0 hnest hj0 hx0 hbr
      simp only [Nat.zero_mul, Nat.zero_add] at f0 f1 f2
      have d1 : decide (x.2.2 < x.2.1) = false := decide_eq_false (by omega)
      have d2 : decide (x.2.1 < x0.2.1) = false := decide_eq_false (by omega)
      have d3 : decide (x0.2.2 < x.2.2) = false := decide_eq_false (by omega)
      have hl0 : (0 : Int) < (l.length : Int) := by omega
      have hlN : 0 < l.length := by omega
      have F1 := (World.cell?_alloc_some w6 ⟨g, 1, none⟩ (.cells #[.string x.1, .int .i64 x.2.1, .int .i64 x.2.2] 29) (by rw [f1]; rfl)).trans f1
      have F2 := (World.cell?_alloc_some w6 ⟨g, 2, none⟩ (.cells #[.string x.1, .int .i64 x.2.1, .int .i64 x.2.2] 29) (by rw [f2]; rfl)).trans f2
      have hw1 : IntKind.i64.wrap ((j : Int) + 1) = (j : Int) + 1 := wrap_small _ (by omega) (by omega)
      have hlc : l.length ≤ c5 := by
        obtain ⟨_, ⟨h, h0⟩ | ⟨_, _, _, h, _, _, k3, _⟩⟩ := H5.out.2
        · omega
        · cases h
          exact k3
      obtain ⟨A6, k2, c6, hk2, hA6, hsl⟩ := span_slice g l.length c5 j (by omega) hlc
      have HK := Lib.hid (And.intro hk2 hA6)
      clear hk2 hA6 hlc
      go_wp2_with fail
      go_quiet (fail)
      clear F1 F2 d1 d2 d3 e0 e1 e2 f0 f1 f2
      have hk9 : k2 ≤ 9223372036854775807 := by have := HK.out.1; omega
      go_wp2_with fail
      clear hsl
      go_loopw [62] (fun i'' wq => ∃ q : Nat, i'' = .int .i64 q ∧ q ≤ k2 ∧ Blk wq w6.heap.size 29 #[.string x.1, .int .i64 x.2.1, .int .i64 x.2.2] ∧ Below w6.heap.size w6 wq) (fun i'' _ => k2 - (intOf i'').toNat)
      case atStart => exact ⟨0, rfl, Nat.zero_le _, Blk.new w6 _ _, below_drewN (Below.al w6 _) _⟩
      case round =>
        obtain ⟨q, rfl, hq, hX, hbq⟩ := hrel
        have HQ := Lib.hid (And.intro hX hbq)
        by_cases hqt : q < k2
        · have hyl : j + 1 + q < l.length := by have := HK.out.1; omega
          have hy0 : l[j + 1 + q]? = some l[j + 1 + q] := List.getElem?_eq_getElem hyl
          generalize l[j + 1 + q] = y at hy0
          have hn := HX.out.2 j (j + 1 + q) x y (by omega) HX.out.1 hy0
          obtain ⟨g2, hg2, a0, a1, a2⟩ := H5.out.1.below (HR.out.trans (hbq.mono HR.out.size)) (j + 1 + q) y hy0
          cases hg2
          obtain rfl := HK.out.2 (by omega)
          rw [show (j + 1 + q) * 3 = (j + 1) * 3 + q * 3 by omega] at a0 a1 a2
          have x2 : (wr.alloc (.cells #[.string y.1, .int .i64 y.2.1, .int .i64 y.2.2] 29)).cell? ⟨w6.heap.size, 2, none⟩ = some (.int .i64 x.2.2) := (hX.alloc _).y2
          have HY := Lib.hid (And.intro (hX.alloc (.cells #[.string y.1, .int .i64 y.2.1, .int .i64 y.2.2] 29)) (hbq.trans ((Below.al wr (.cells #[.string y.1, .int .i64 y.2.1, .int .i64 y.2.2] 29)).mono hbq.size)))
          clear hX hbq hy0
          by_cases hy : y.2.1 < x.2.2
          · have hz : ¬ x.2.2 < y.2.2 := fun h => hn ⟨hy, h⟩
            clear hn
            go_wp2_with fail
            go_roundw
            case rel => exact ⟨q + 1, by go_num, by omega, HY.out.1, HY.out.2⟩
            case measure => simp [intOf]; omega
          · clear hn
            go_wp2_with fail
            go_roundw
            case rel => exact ⟨q + 1, by go_num, by omega, HY.out.1, HY.out.2⟩
            case measure => simp [intOf]; omega
        · clear hX hbq
          go_wp2_with fail
          go_roundw
          case rel => exact ⟨j + 1, by go_num, by omega, HR.out.trans (HQ.out.2.mono HR.out.size)⟩
          case measure => simp [intOf]; omega
    · clear hbr
      have hpos : 0 < l.length := by
        obtain ⟨x0, hx0, _⟩ := HNE.out
        exact (List.getElem?_eq_some_iff.1 hx0).1
      have HB6 := Lib.hid (HB5.out.trans (HR.out.mono HB5.out.size))
      go_wp2_with fail
      go_ret
      exact ⟨rfl, HB6.out⟩
end Go.Proofs.YtjbhjbpamnoebaaGreatFmt
