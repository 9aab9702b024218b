/-
  spec.placer.node of any shaped tree; spec.Places.
  laws.FnExactPlaces: the walk.
-/
import Derived.Test.YtjbhjbpamnoebaaGreatFmtHg
import Derived.Test.YtjbhjbpamnoebaaGreatFmtHh
import Derived.Test.YtjbhjbpamnoebaaGreatFmtHj
import Derived.Test.YtjbhjbpamnoebaaGreatFmtHm
import Derived.Test.YtjbhjbpamnoebaaGreatFmtTt
import Derived.Test.YtjbhjbpamnoebaaGreatFmtL2
import Derived.Test.YtjbhjbpamnoebaaGreatFmtL6
import Derived.Test.YtjbhjbpamnoebaaGreatFmtGe
import Derived.Test.YtjbhjbpamnoebaaGreatFmtGh
import Derived.Test.YtjbhjbpamnoebaaGreatFmtK2
import Derived.Test.YtjbhjbpamnoebaaGreatFmtOe
namespace Go.Proofs.YtjbhjbpamnoebaaGreatFmt
open Go.RowKit

theorem code_lt {kd tx : ByteArray} {k : Nat} (hm : manyC (kcode kd) tx k = true) : kcode kd < 15 := by
  apply Nat.lt_of_not_le
  intro h
  have : manyC (kcode kd) tx k = false := by
    unfold manyC
    dsimp only
    repeat' split
    all_goals first
      | omega
      | rfl
  rw [this] at hm
  cases hm
/-- spec.placer.node of any tree that spec.Shaped accepts. -/
theorem pnode_any (ps : List Int) (hps : Okp ps) : ∀ n : Nd, n.shapedB = true → PNOf ps n := by
  have hnm : ∀ tx, PNOf ps (nmNd tx) := fun tx => pn_one ps hps ⟨#[110, 97, 109, 101]⟩ tx none 0 [] (fun k hk => by cases hk) (.inl (by decide))
  refine Nd.ind fun n ih h1 => ?_
  rw [Nd.shapedB_eq, Bool.and_eq_true, List.all_eq_true] at h1
  obtain ⟨kd, tx, ad, cp, ks⟩ := n
  have IH : ∀ k ∈ ks, PNOf ps k := fun k hk => ih k hk (h1.1 k hk)
  have hc := code_lt (kd := kd) (tx := tx) (k := ks.length) h1.2
  have h15 : kcode kd = 0 ∨ kcode kd = 1 ∨ kcode kd = 2 ∨ kcode kd = 3 ∨ kcode kd = 4 ∨ kcode kd = 5 ∨ kcode kd = 6 ∨ kcode kd = 7 ∨ kcode kd = 8 ∨ kcode kd = 9 ∨ kcode kd = 10 ∨ kcode kd = 11 ∨ kcode kd = 12 ∨ kcode kd = 13 ∨ kcode kd = 14 := by omega
  rcases h15 with h | h | h | h | h | h | h | h | h | h | h | h | h | h | h
  · exact pn_one ps hps kd tx ad cp ks IH (.inl h)
  · exact pn_one ps hps kd tx ad cp ks IH (.inr (.inl h))
  · exact pn_one ps hps kd tx ad cp ks IH (.inr (.inr (.inl h)))
  · exact pn_one ps hps kd tx ad cp ks IH (.inr (.inr (.inr (.inl h))))
  · exact pn_one ps hps kd tx ad cp ks IH (.inr (.inr (.inr (.inr (.inl h)))))
  · exact pn_one ps hps kd tx ad cp ks IH (.inr (.inr (.inr (.inr (.inr h)))))
  · exact pn_three ps hps hnm kd tx ad cp ks IH (.inl h)
  · exact pn_two ps hps kd tx ad cp ks IH (.inl h)
  · exact pn_two ps hps kd tx ad cp ks IH (.inr (.inl h))
  · exact pn_two ps hps kd tx ad cp ks IH (.inr (.inr (.inl h)))
  · exact pn_two ps hps kd tx ad cp ks IH (.inr (.inr (.inr h)))
  · exact pn_three ps hps hnm kd tx ad cp ks IH (.inr (.inl h))
  · exact pn_call ps hps kd tx ad cp ks IH (.inl h)
  · exact pn_call ps hps kd tx ad cp ks IH (.inr h)
  · exact pn_three ps hps hnm kd tx ad cp ks IH (.inr (.inr h))
theorem InAt.of {w : World} {base m c : Nat} {A : Option Addr} {l : List Int} (h : w.ownsRow base 3 1 (.slice A m c) l.length (flatI l)) : InAt w A l := by
  intro j x hj
  obtain ⟨h0, ⟨he, hn⟩ | ⟨g, cap', cur, he, k1, k2, k3, k4, k5, k6⟩⟩ := h
  · obtain rfl := List.length_eq_zero_iff.1 hn
    simp at hj
  · cases he
    have hjl : j < l.length := (List.getElem?_eq_some_iff.1 hj).1
    refine ⟨g, 0, rfl, ?_⟩
    rw [Nat.zero_add, cell_of_row w g j cur 3 (0, 0) k2]
    have h : (cur.toList.take (l.length * 1))[j]? = some (.int .i64 x) := by
      rw [k6]
      unfold flatI
      rw [List.getElem?_map, hj]
      rfl
    rw [List.getElem?_take_of_lt (by omega)] at h
    simpa using h
set_option maxRecDepth 100000 in
theorem sPlaces_any (n : Nd) (ps : List Int) (hps : Okp ps) (hs : n.shapedB = true) (hsh : n.shortB = true) (hz : n.size ≤ 400) (W : World) (hin : n.In W W.heap.size) (G : Option Addr) (gc : Nat) (hG : W.ownsRow 0 3 1 (.slice G ps.length gc) ps.length (flatI ps)) (hlen : n.toks.length ≤ ps.length) :
    Calls Tryz.prog 14 #[n.val, .slice G ps.length gc] W (SpPost W (spansOf (posOf ps) n)) := by
  show Calls _ _ #[.agg #[.string n.kd, .string n.tx, .slice n.ad n.ks.length n.cp], .slice G ps.length gc] W _
  have hcap : ps.length ≤ gc ∧ gc ≤ maxLen := by
    obtain ⟨_, ⟨h, h0⟩ | ⟨_, _, _, h, _, _, k3, k4, _⟩⟩ := hG
    · obtain ⟨_, _, rfl⟩ := Value.slice.inj h
      exact ⟨by omega, Nat.zero_le _⟩
    · obtain ⟨_, _, rfl⟩ := Value.slice.inj h
      exact ⟨k3, k4⟩
  have hat := InAt.of hG
  have hs1 : (W.alloc (.cells #[.string n.kd, .string n.tx, .slice n.ad n.ks.length n.cp] 24)).heap.size = W.heap.size + 1 := World.size_alloc _ _
  have hs2 : ((W.alloc (.cells #[.string n.kd, .string n.tx, .slice n.ad n.ks.length n.cp] 24)).alloc (.cells #[.slice G ps.length gc, .int .i64 0, .slice none 0 0] 61)).heap.size = W.heap.size + 2 := by rw [World.size_alloc, hs1]
  have hb2 : Below W.heap.size W ((W.alloc (.cells #[.string n.kd, .string n.tx, .slice n.ad n.ks.length n.cp] 24)).alloc (.cells #[.slice G ps.length gc, .int .i64 0, .slice none 0 0] 61)) := ((Below.refl _ _).alloc (Nat.le_refl _) _).alloc (by rw [hs1]; omega) _
  have hbox : Blk ((W.alloc (.cells #[.string n.kd, .string n.tx, .slice n.ad n.ks.length n.cp] 24)).alloc (.cells #[.slice G ps.length gc, .int .i64 0, .slice none 0 0] 61)) W.heap.size 24 #[.string n.kd, .string n.tx, .slice n.ad n.ks.length n.cp] := (Blk.new _ _ _).alloc _
  have hpl : Blk ((W.alloc (.cells #[.string n.kd, .string n.tx, .slice n.ad n.ks.length n.cp] 24)).alloc (.cells #[.slice G ps.length gc, .int .i64 0, .slice none 0 0] 61)) (W.heap.size + 1) 61 #[.slice G ps.length gc, .int .i64 0, .slice none 0 0] := by
    have := Blk.new (W.alloc (.cells #[.string n.kd, .string n.tx, .slice n.ad n.ks.length n.cp] 24)) 61 #[.slice G ps.length gc, .int .i64 0, .slice none 0 0]
    rwa [hs1] at this
  have hPS : PS (fun b => b < W.heap.size + 1) (W.heap.size + 1) ps 0 0 [] ((W.alloc (.cells #[.string n.kd, .string n.tx, .slice n.ad n.ks.length n.cp] 24)).alloc (.cells #[.slice G ps.length gc, .int .i64 0, .slice none 0 0] 61)) :=
    ⟨⟨Nat.lt_irrefl _, fun b hb => hb, fun b hb => by rw [hs2]; omega⟩, G, ps.length, gc, none, 0, hpl, rfl, hcap.1, hcap.2, fun j x hj => by
      obtain ⟨g, o, rfl, hc⟩ := hat j x hj
      have hg := World.block_lt_of_cell? W _ hc
      exact ⟨g, o, rfl, Nat.lt_succ_of_lt hg, (hb2.cell (p := ⟨g, o + j, none⟩) hg).trans hc⟩, World.ownsRow_nil _ _ _ _, fun g hg => by cases hg⟩
  have hkn := Nd.kinds_len n
  have HC := Lib.hid (pnode_any ps hps n hs _ (W.heap.size + 1) 0 0 [] _ hPS (hin.below hb2 (Nat.le_succ _)) hs hsh hz (by rw [Nat.zero_add]; exact hlen) (by show 0 + _ ≤ 5000; omega))
  have HB := Lib.hid hb2
  have c0 := hbox.cell 0
  have c1 := hbox.cell 1
  have c2 := hbox.cell 2
  simp at c0 c1 c2
  clear hcap hat hs1 hs2 hb2 hbox hpl hPS hkn hs hsh hz hin hG hlen hps
  go_enter Tryz.func14, Tryz.ntmps14
  go_wp2_with fail
  refine HC.out.mono ?_
  rintro r w9 ⟨rfl, h1, h2⟩
  obtain ⟨A, nn, cap, A2, c9, hblk, _, _, hown, _⟩ := h1.cells
  have hbw := HB.out.trans ((h2.below (B := W.heap.size + 1) fun b hb => hb).mono (Nat.le_succ _))
  have HF := Lib.hid (And.intro hown hbw)
  have y2 : w9.cell? ⟨W.heap.size + 1, 2, none⟩ = some (.slice A2 ([] ++ spansAt (posOf ps) 0 n).length c9) := hblk.cell 2
  clear h1 h2 hblk hown hbw c0 c1 c2
  go_wp2_with fail
  go_ret
  exact ⟨_, _, rfl, own_lowT HF.out.1 (by omega), HF.out.2⟩
end Go.Proofs.YtjbhjbpamnoebaaGreatFmt

namespace Go.Proofs.YtjbhjbpamnoebaaGreatFmt
open Go.RowKit

theorem Blk.y0 {w : World} {g : Nat} {t : TypeId} {a b c : Value} (h : Blk w g t #[a, b, c]) : w.cell? ⟨g, 0, none⟩ = some a := h.cell 0
theorem Blk.y1 {w : World} {g : Nat} {t : TypeId} {a b c : Value} (h : Blk w g t #[a, b, c]) : w.cell? ⟨g, 1, none⟩ = some b := h.cell 1
theorem Blk.y2 {w : World} {g : Nat} {t : TypeId} {a b c : Value} (h : Blk w g t #[a, b, c]) : w.cell? ⟨g, 2, none⟩ = some c := h.cell 2
/-- What the law calls, for a tree that is shaped and short: the tokens, their places, the spans of impl.Places. -/
theorem places_calls (n : Nd) (gs : List Int) (hs : n.shapedB = true) (hsh : n.shortB = true) (hz : n.size ≤ 400) :
    (∀ w, n.In w w.heap.size → Calls Tryz.prog 13 #[n.val] w (EvPost w n.toks)) ∧
    (∀ (w : World) (A G : Option Addr) (ca gc : Nat), TxAt w A n.toks → InAt w G gs → Calls Tryz.prog 12 #[.slice A n.toks.length ca, .slice G gs.length gc] w (InPost w (startsL gs 0 1 n.toks))) ∧
    ∀ (w : World) (A : Option Addr) (cap : Nat), TokTab w → n.In w w.heap.size → w.ownsRow 0 3 1 (.slice A (startsL gs 0 1 n.toks).length cap) (startsL gs 0 1 n.toks).length (flatI (startsL gs 0 1 n.toks)) →
      Calls Tryz.prog 11 #[n.val, .slice A (startsL gs 0 1 n.toks).length cap] w (SpPost w (spansOf (posOf (startsL gs 0 1 n.toks)) n)) := by
  have hps := starts_ok hs hsh hz gs
  have hl := startsL_len gs n.toks 0 1
  have htl := toks_le hs hz
  have htp := toks_pos hs
  refine ⟨fun w h => tokens_any n w hs hz h, fun w A G ca gc hT hG => Starts_any n.toks gs A G ca gc w hT hG (by omega) (toks_short n hsh) _ _ rfl rfl, fun w A cap hT hin hown => ?_⟩
  have hp : ∀ i, 0 ≤ posOf (startsL gs 0 1 n.toks) i ∧ posOf (startsL gs 0 1 n.toks) i ≤ 4611686018427387904 := fun i => ⟨by have := (hps i).1; omega, (hps i).2⟩
  exact Places_any n _ hp (fun i => by have := (hps i).1; omega) (expr_any _ hp n hs hsh hz) hs hsh hz w hT hin A cap hown (by omega) (by omega)
theorem spans_len (P : Nat → Int) (n : Nd) (hz : n.size ≤ 400) : (spansOf P n).length ≤ 5000 := by
  have h1 := Nd.kinds_len n
  unfold spansOf
  rw [List.length_map, pre_len]
  omega
/-- What the specification's own places are. -/
theorem spec_places (n : Nd) (gs : List Int) (hs : n.shapedB = true) (hsh : n.shortB = true) (hz : n.size ≤ 400) (w : World) (A : Option Addr) (cap : Nat) (hin : n.In w w.heap.size) (hown : w.ownsRow 0 3 1 (.slice A (startsL gs 0 1 n.toks).length cap) (startsL gs 0 1 n.toks).length (flatI (startsL gs 0 1 n.toks))) :
    Calls Tryz.prog 14 #[n.val, .slice A (startsL gs 0 1 n.toks).length cap] w (SpPost w (spansOf (posOf (startsL gs 0 1 n.toks)) n)) := by
  have hps := starts_ok hs hsh hz gs
  have hl := startsL_len gs n.toks 0 1
  exact sPlaces_any n _ (fun i => ⟨by have := (hps i).1; omega, (hps i).2⟩) hs hsh hz w hin A cap hown (by omega)
set_option maxHeartbeats 4000000 in
set_option maxRecDepth 100000 in
theorem law_places (n : Nd) (gs : List Int) (G : Option Addr) (gc m : Nat) (hm : m = gs.length) (hm9 : m ≤ 9223372036854775807) (W : World) (hT : TokTab W) (hin : n.In W W.heap.size) (hG : InAt W G gs) :
    Calls Tryz.prog 5 #[n.val, .slice G m gc] W fun e w => e = .returned (.bool true) ∧ Below W.heap.size W w := by
  subst hm
  show Calls _ _ #[.agg #[.string n.kd, .string n.tx, .slice n.ad n.ks.length n.cp], .slice G gs.length gc] W _
  have hbox : Blk (W.alloc (.cells #[.string n.kd, .string n.tx, .slice n.ad n.ks.length n.cp] 24)) W.heap.size 24 #[.string n.kd, .string n.tx, .slice n.ad n.ks.length n.cp] := Blk.new _ _ _
  have hs1 : (W.alloc (.cells #[.string n.kd, .string n.tx, .slice n.ad n.ks.length n.cp] 24)).heap.size = W.heap.size + 1 := World.size_alloc _ _
  have HB0 := Lib.hid (Below.al W (.cells #[.string n.kd, .string n.tx, .slice n.ad n.ks.length n.cp] 24))
  have H0 := Lib.hid (And.intro hT (And.intro hin hG))
  clear hT hin hG
  go_enter Tryz.func5, Tryz.ntmps5
  go_wp2_with fail
  refine (zzFits1_any n _).mono ?_
  rintro e w1 ⟨b, rfl, hb1⟩
  have hz1 := hb1.size
  rw [hs1] at hz1
  have HB1 := Lib.hid (HB0.out.trans (hb1.mono (by rw [hs1]; omega)))
  have X1 := Lib.hid (hbox.below hb1 (by rw [hs1]; omega))
  clear hb1 hbox
  cases b
  · go_wp2_with fail
    go_ret
    exact ⟨rfl, HB1.out⟩
  have c0 : w1.cell? ⟨W.heap.size, 0, none⟩ = some (.string n.kd) := X1.out.cell 0
  have c1 : w1.cell? ⟨W.heap.size, 1, none⟩ = some (.string n.tx) := X1.out.cell 1
  have c2 : w1.cell? ⟨W.heap.size, 2, none⟩ = some (.slice n.ad n.ks.length n.cp) := X1.out.cell 2
  by_cases hst : (2147483647 : Int) < gs.length
  · go_wp2_with fail
    go_ret
    exact ⟨rfl, HB1.out⟩
  go_wp2_with fail
  refine (Shaped_any n w1 W.heap.size (H0.out.2.1.below HB1.out (Nat.le_refl _)) HB1.out.size).mono ?_
  rintro e w2 ⟨rfl, hb2⟩
  have hz2 := hb2.size
  have HB2 := Lib.hid (HB1.out.trans (hb2.mono HB1.out.size))
  have X2 := Lib.hid (X1.out.below hb2 X1.out.lt)
  clear hb2 c0 c1 c2
  cases hok : n.okB
  · go_wp2_with fail
    go_ret
    exact ⟨rfl, HB2.out⟩
  have hp : n.shapedB = true ∧ n.shortB = true := by
    unfold Nd.okB at hok
    simp only [Bool.and_eq_true] at hok
    exact ⟨hok.2, hok.1.2⟩
  have hsz := Nd.okB_size hok
  have HE := Lib.hid (places_calls n gs hp.1 hp.2 hsz)
  have HS := Lib.hid (spec_places n gs hp.1 hp.2 hsz)
  have hl5 := spans_len (posOf (startsL gs 0 1 n.toks)) n hsz
  generalize spansOf (posOf (startsL gs 0 1 n.toks)) n = l at HE HS hl5
  generalize startsL gs 0 1 n.toks = ps at HE HS
  generalize n.toks = tk at HE
  clear hok hp
  have k0 : w2.cell? ⟨W.heap.size, 0, none⟩ = some (.string n.kd) := X2.out.cell 0
  have k1 : w2.cell? ⟨W.heap.size, 1, none⟩ = some (.string n.tx) := X2.out.cell 1
  have k2 : w2.cell? ⟨W.heap.size, 2, none⟩ = some (.slice n.ad n.ks.length n.cp) := X2.out.cell 2
  go_wp2_with fail
  refine (HE.out.1 w2 (H0.out.2.1.below HB2.out HB2.out.size)).mono ?_
  rintro e w3 ⟨A3, c3, rfl, hown3, hb3⟩
  have HB3 := Lib.hid (HB2.out.trans (hb3.mono HB2.out.size))
  have X3 := Lib.hid (X2.out.below hb3 X2.out.lt)
  have H3 := Lib.hid (TxAt.of hown3)
  clear hown3 hb3 k0 k1 k2
  have k0 : w3.cell? ⟨W.heap.size, 0, none⟩ = some (.string n.kd) := X3.out.cell 0
  have k1 : w3.cell? ⟨W.heap.size, 1, none⟩ = some (.string n.tx) := X3.out.cell 1
  have k2 : w3.cell? ⟨W.heap.size, 2, none⟩ = some (.slice n.ad n.ks.length n.cp) := X3.out.cell 2
  go_wp2_with fail
  refine (HE.out.2.1 w3 A3 G c3 gc H3.out (H0.out.2.2.below HB3.out)).mono ?_
  rintro e w4 ⟨A4, c4, rfl, hown4, hb4⟩
  have HB4 := Lib.hid (HB3.out.trans (hb4.mono HB3.out.size))
  have X4 := Lib.hid (X3.out.below hb4 X3.out.lt)
  have H4 := Lib.hid (own_lowT hown4 (Nat.zero_le _))
  clear hown4 hb4 k0 k1 k2
  have k0 : w4.cell? ⟨W.heap.size, 0, none⟩ = some (.string n.kd) := X4.out.cell 0
  have k1 : w4.cell? ⟨W.heap.size, 1, none⟩ = some (.string n.tx) := X4.out.cell 1
  have k2 : w4.cell? ⟨W.heap.size, 2, none⟩ = some (.slice n.ad n.ks.length n.cp) := X4.out.cell 2
  go_wp2_with fail
  go_region_held3 (fun w' => w'.cell? ⟨W.heap.size, 0, none⟩ = some (.string n.kd) ∧ w'.cell? ⟨W.heap.size, 1, none⟩ = some (.string n.tx) ∧ w'.cell? ⟨W.heap.size, 2, none⟩ = some (.slice n.ad n.ks.length n.cp))
    (first | with_reducible exact ⟨X7.out.y0, X7.out.y1, X7.out.y2⟩ | with_reducible exact ⟨X6.out.y0, X6.out.y1, X6.out.y2⟩ | with_reducible exact ⟨X5.out.y0, X5.out.y1, X5.out.y2⟩ | exact ⟨X4.out.drew.y0, X4.out.drew.y1, X4.out.drew.y2⟩)
    (first
      | (go_at_call 11; refine (HE.out.2.2 w4.drew A4 c4 (H0.out.1.below HB4.out.drew) (H0.out.2.1.below HB4.out.drew HB4.out.size) H4.out).mono ?_; rintro e w5 ⟨A5, c5, rfl, hown5, hb5⟩; have HB5 := Lib.hid (HB4.out.drew.trans (hb5.mono HB4.out.size)); have X5 := Lib.hid (X4.out.drew.below hb5 X4.out.lt); have H5 := Lib.hid (And.intro (PlAt.of hown5) (own_keep (w := w4.drew) H4.out (fun g _ hg => hb5.block g hg))); clear hown5 hb5)
      | (go_at_call 14; refine (HS.out w5 A4 c4 (H0.out.2.1.below HB5.out HB5.out.size) H5.out.2).mono ?_; rintro e w6 ⟨A6, c6, rfl, hown6, hb6⟩; have HB6 := Lib.hid (HB5.out.trans (hb6.mono HB5.out.size)); have X6 := Lib.hid (X5.out.below hb6 X5.out.lt); have H6 := Lib.hid (And.intro (H5.out.1.below hb6) (PlAt.of hown6)); clear hown6 hb6)
      | (go_at_call 8; refine (eqP_any l w6 A5 A6 c5 c6 _ rfl hl5 H6.out.1 H6.out.2).mono ?_; rintro e w7 ⟨rfl, hb7⟩; have HB7 := Lib.hid (HB6.out.trans (hb7.mono HB6.out.size)); have X7 := Lib.hid (X6.out.below hb7 X6.out.lt); clear hb7))
  go_wp2_with fail
  go_ret
  exact ⟨rfl, HB7.out⟩
end Go.Proofs.YtjbhjbpamnoebaaGreatFmt
