/-
  impl.Places of any shaped tree: the span of each node, in preorder.
-/
import Derived.Test.YtjbhjbpamnoebaaGreatFmtL6
namespace Go.Proofs.YtjbhjbpamnoebaaGreatFmt
open Go.RowKit Go.Shelf
attribute [local go_sem] Oper.semAt_some

set_option maxHeartbeats 4000000 in
set_option maxRecDepth 100000 in
theorem Places_any (n : Nd) (ps : List Int) (hps : ∀ i, 0 ≤ posOf ps i ∧ posOf ps i ≤ 4611686018427387904) (hpn : ∀ i, posOf ps i ≠ 0) (hE : EOf ps n) (hs : n.shapedB = true) (hsh : n.shortB = true) (hz : n.size ≤ 400) (W : World) (hT : TokTab W) (hin : n.In W W.heap.size)
    (G : Option Addr) (gc : Nat) (hG : W.ownsRow 0 3 1 (.slice G ps.length gc) ps.length (flatI ps)) (hp0 : 0 < ps.length) (hp5 : ps.length ≤ 100000) :
    Calls Tryz.prog 11 #[n.val, .slice G ps.length gc] W (SpPost W (spansOf (posOf ps) n)) := by
  show Calls _ _ #[.agg #[.string n.kd, .string n.tx, .slice n.ad n.ks.length n.cp], .slice G ps.length gc] W _
  generalize hll : spansOf (posOf ps) n = l
  have HLL := Lib.hid hll
  clear hll
  obtain ⟨w2, hw2⟩ : ∃ w2, (W.alloc (.cells #[.string n.kd, .string n.tx, .slice n.ad n.ks.length n.cp] 24)).alloc (.cells #[.slice none 0 0] 27) = w2 := ⟨_, rfl⟩
  have hb2 : Below W.heap.size W w2 := hw2 ▸ ((Below.refl _ _).alloc (Nat.le_refl _) _).alloc (by simp) _
  have hs2 : w2.heap.size = W.heap.size + 2 := by rw [← hw2, World.size_alloc, World.size_alloc]
  have hbox : Blk w2 W.heap.size 24 #[.string n.kd, .string n.tx, .slice n.ad n.ks.length n.cp] := hw2 ▸ (Blk.new W _ _).alloc _
  have hob : Blk w2 (W.heap.size + 1) 27 #[.slice none 0 0] := by
    have := Blk.new (W.alloc (.cells #[.string n.kd, .string n.tx, .slice n.ad n.ks.length n.cp] 24)) 27 #[.slice none 0 0]
    rw [World.size_alloc] at this
    exact hw2 ▸ this
  have H0 := Lib.hid (And.intro hs (And.intro hT (And.intro hb2 (And.intro hob (And.intro hbox (And.intro hs2 (And.intro hin hG)))))))
  have HW2 := Lib.hid hw2
  have hmo : Tryz.prog.follows .mixedOrders = true := by kernel_rfl
  clear hs hT hb2 hob hbox hs2 hin hG
  refine (callsIn_wide (n := 8)).1 ?_
  refine callsIn_of_wp_marks Tryz.func11 rfl trivial ?_ rfl
  simp only [Tryz.ntmps11, List.size_toArray, List.length_cons, List.length_nil, Nat.reduceAdd, Nat.reduceSub, Array.replicate_succ, Array.replicate_zero, List.push_toArray, List.append_toArray, List.nil_append, List.cons_append]
  gi_wp2
  obtain ⟨A, cap, w5, hrun, hpa, hb5⟩ := ints_copy w2 G gc ps (own_keep H0.out.2.2.2.2.2.2.2 fun b _ hb => H0.out.2.2.1.block b hb) hp0 hp5
  have HC := Lib.hid (build_any ps n hE w5 (H0.out.2.1.below (H0.out.2.2.1.trans (hb5.mono (by rw [H0.out.2.2.2.2.2.1]; omega)))) (H0.out.2.2.2.2.2.2.1.below (H0.out.2.2.1.trans (hb5.mono (by rw [H0.out.2.2.2.2.2.1]; omega))) (by have := hb5.size; rw [H0.out.2.2.2.2.2.1] at this; omega)) A cap hpa ps.length rfl)
  have HB5 := Lib.hid hb5
  have hX5 := H0.out.2.2.2.2.1.below hb5 (by rw [H0.out.2.2.2.2.2.1]; omega)
  have c0 : w2.drew.cell? ⟨W.heap.size, 0, none⟩ = some (.string n.kd) := H0.out.2.2.2.2.1.drew.cell 0
  have c1 : w2.drew.cell? ⟨W.heap.size, 1, none⟩ = some (.string n.tx) := H0.out.2.2.2.2.1.drew.cell 1
  have c2 : w2.drew.cell? ⟨W.heap.size, 2, none⟩ = some (.slice n.ad n.ks.length n.cp) := H0.out.2.2.2.2.1.drew.cell 2
  have d0 : w5.cell? ⟨W.heap.size, 0, none⟩ = some (.string n.kd) := hX5.cell 0
  have d1 : w5.cell? ⟨W.heap.size, 1, none⟩ = some (.string n.tx) := hX5.cell 1
  have d2 : w5.cell? ⟨W.heap.size, 2, none⟩ = some (.slice n.ad n.ks.length n.cp) := hX5.cell 2
  have e0 : (w2.alloc (.cells #[] 3)).drew.cell? ⟨W.heap.size, 0, none⟩ = some (.string n.kd) := (World.cell?_alloc_some w2.drew ⟨W.heap.size, 0, none⟩ (.cells #[] 3) (by rw [c0]; rfl)).trans c0
  have e1 : (w2.alloc (.cells #[] 3)).drew.cell? ⟨W.heap.size, 1, none⟩ = some (.string n.tx) := (World.cell?_alloc_some w2.drew ⟨W.heap.size, 1, none⟩ (.cells #[] 3) (by rw [c1]; rfl)).trans c1
  have e2 : (w2.alloc (.cells #[] 3)).drew.cell? ⟨W.heap.size, 2, none⟩ = some (.slice n.ad n.ks.length n.cp) := (World.cell?_alloc_some w2.drew ⟨W.heap.size, 2, none⟩ (.cells #[] 3) (by rw [c2]; rfl)).trans c2
  clear hb5 hpa hX5 hw2 hE
  rename_i K1 a1 K a
  have hTail : ∀ (q c : Nat) (w1 : World), ExR w1 (Rng w5.heap.size w1.heap.size) (posOf ps) 0 n (.iface q (.pointer (some ⟨c, 0, none⟩))) → Below w5.heap.size w5 w1 →
      K { tmps := #[.agg #[.string n.kd, .string n.tx, .slice n.ad n.ks.length n.cp], .slice G ps.length gc, .pointer (some ⟨W.heap.size, 0, none⟩), undef, .slice none 0 0, .pointer (some ⟨W.heap.size + 1, 0, none⟩), undef, .agg #[.string n.kd, .string n.tx, .slice n.ad n.ks.length n.cp], .slice (some ⟨w2.heap.size, 0, none⟩) 0 0, .slice G ps.length gc, .slice A ps.length cap, .iface q (.pointer (some ⟨c, 0, none⟩)), .func (.func 42) #[] #[.pointer (some ⟨w1.heap.size, 0, none⟩)], undef, undef, undef, undef, undef, undef, undef, undef, undef, undef, undef, undef], defers := [] } (w1.alloc (.cells #[.iface q (.pointer (some ⟨c, 0, none⟩))] 51)) := by
    intro q c w1 hX hB1
    clear c0 c1 c2 d0 d1 d2 e0 e1 e2 hrun HC
    have hz5 := HB5.out.size
    have hz1 := hB1.size
    rw [H0.out.2.2.2.2.2.1] at hz5
    have hsa : (w1.alloc (.cells #[.iface q (.pointer (some ⟨c, 0, none⟩))] 51)).heap.size = w1.heap.size + 1 := World.size_alloc _ _
    have hba : Below w1.heap.size w1 (w1.alloc (.cells #[.iface q (.pointer (some ⟨c, 0, none⟩))] 51)) := Below.al _ _
    have HX := Lib.hid (And.intro hX (HB5.out.trans (hB1.mono (by rw [H0.out.2.2.2.2.2.1]; exact hz5))))
    clear hX hB1
    refine a _ _ ?_
    clear a K
    gi_wp2
    refine pre_loop (B := w1.heap.size + 1) (m := 6) (lo := w5.heap.size) (hi := w1.heap.size) (P := posOf ps) (M := 100000) (id := 0) (rb := w1.heap.size) (I := fun s w => ∃ out, SpL (posOf ps) s out ∧ OutP W (W.heap.size + 1) w5.heap.size (w1.heap.size + 1 + 4) out w)
      (a₁ := fun v => { tmps := #[.agg #[.string n.kd, .string n.tx, .slice n.ad n.ks.length n.cp], .slice G ps.length gc, .pointer (some ⟨W.heap.size, 0, none⟩), undef, .slice none 0 0, .pointer (some ⟨W.heap.size + 1, 0, none⟩), v, .agg #[.string n.kd, .string n.tx, .slice n.ad n.ks.length n.cp], .slice (some ⟨w2.heap.size, 0, none⟩) 0 0, .slice G ps.length gc, .slice A ps.length cap, .iface q (.pointer (some ⟨c, 0, none⟩)), .func (.func 42) #[] #[.pointer (some ⟨w1.heap.size, 0, none⟩)], v, undef, undef, undef, undef, undef, undef, undef, undef, undef, undef, undef], defers := [] })
      hsa rfl ?pl (by omega) (by omega) (by omega) n H0.out.1 hz _ rfl (Blk.new w1 51 #[.iface q (.pointer (some ⟨c, 0, none⟩))]).cell0 ?hI ((Kp.of_kq (B := w1.heap.size) (.of_below hba) (Nat.le_refl _) (Nat.le_refl _)).ex HX.out.1) ?done ?stop
    case hI =>
      intro C hC h4
      have h3 : Below (W.heap.size + 2) w2 C := (H0.out.2.2.2.2.2.1 ▸ HX.out.2).trans ((hba.mono (by omega)).trans (hC.mono (by omega)))
      exact ⟨[], .nil, H0.out.2.2.1.trans (h3.mono (by omega)), H0.out.2.1, ⟨by omega, by omega, by omega, by omega⟩, none, 0, H0.out.2.2.2.1.below h3 (by omega), World.ownsRow_nil _ _ _ _⟩
    case pl =>
      refine { keep := fun s A C ⟨out, h1, h2⟩ _ hk => ⟨out, h1, h2.kq (by omega) hk⟩, one := rfl, asg := ?_, round := ?_ }
      · intro v W' K hK
        gi_wp2
        exact hK
      · intro pre x i v W' hs' hz' hlt h5 hI hsz hX'
        obtain ⟨q', c', rfl⟩ := hX'.form
        obtain ⟨out, hsp, hI⟩ := hI
        obtain ⟨fP, hmP, heP, hCP⟩ := MOf.all (Q := fun w => ExR w (Rng w5.heap.size w1.heap.size) (posOf ps) i x (.iface q' (.pointer (some ⟨c', 0, none⟩)))) (fun w hw => pos_any x hs' i _ hw) W' hX'
        obtain ⟨fE, hmE, heE, hCE⟩ := MOf.all (Q := fun w => ExR w (Rng w5.heap.size w1.heap.size) (posOf ps) i x (.iface q' (.pointer (some ⟨c', 0, none⟩)))) (fun w hw => end_any hps x hs' i _ hw) W' hX'
        have hol := hsp.len
        obtain ⟨A0, cap0, hob, hF⟩ := OutP.round hI (by rw [hol]; exact h5)
        clear hol
        have HF := Lib.hid (And.intro hF (And.intro hCP hCE))
        have HS := Lib.hid hsp
        have HOB := Lib.hid hob
        have y0 := hob.cell0
        have HX' := Lib.hid ((show Kp w5.heap.size w1.heap.size W' W'.drew from ⟨Nat.le_refl _, fun _ _ _ => rfl⟩).ex hX')
        have hW' : w1.heap.size ≤ W'.heap.size := by omega
        have HK := Lib.hid (CallsIn.inRound (n := 5) (w1.heap.size + 1 + 1) (callsIn_wide.2 (kindOf_any (posOf ps) x (node_any (posOf ps) hpn x hs' hz') W'.drew w5.heap.size w1.heap.size i _ hI.drew.tok hW' HX'.out)))
        clear hI hX' hF hCP hCE hsp hob
        gi_wp2
        refine wpIn_region_any hmo ?_
        change wpAnyIn _ _ _ _ _ _ _ _ _ (World.drew _)
        refine still_take (i := 1) (plain_of (by kernel_rfl)) rfl (by kernel_rfl) (by kernel_rfl) (by kernel_rfl) (fun _ _ _ h => h) (still_move rfl rfl) ?_
        refine still_take (i := 3) (plain_of (by kernel_rfl)) rfl (by kernel_rfl) (by kernel_rfl) (by kernel_rfl) (fun _ _ _ h => h) (still_move rfl rfl) ?_
        refine still_take (i := 5) (plain_of (by kernel_rfl)) rfl (by kernel_rfl) (by kernel_rfl) (by kernel_rfl) (fun _ _ _ h => h) (still_move rfl rfl) ?_
        refine wpAnyIn_ready (rs := [0, 2]) (by kernel_rfl) (by simp) ?_
        refine AllReadyIn.cons rfl (fun K hK => ?_) (AllReadyIn.cons rfl (fun K hK => ?_) (AllReadyIn.nil))
        · go_simp
          refine hK _ _ ?_
          clear hK K
          refine wpAnyIn_ready (rs := [2]) (by kernel_rfl) (by simp) ?_
          refine AllReadyIn.cons rfl (fun K hK => ?_) (AllReadyIn.nil)
          go_simp
          refine ⟨trivial, ?_⟩
          refine HK.out.mono ?_
          rintro e w4 ⟨rfl, hb4⟩
          have HB4 := Lib.hid (hb4)
          have y4 := (HOB.out.below HB4.out HOB.out.lt).cell0
          have HX4 := Lib.hid ((show Kp w5.heap.size w1.heap.size W'.drew w4 from ⟨hb4.size, fun b _ hb => hb4.block b (by show b < W'.heap.size; omega)⟩).ex HX'.out)
          clear hb4
          refine hK _ _ ?_
          clear hK K
          refine wpAnyIn_ready (rs := [4]) (by kernel_rfl) (by simp) ?_
          refine AllReadyIn.cons rfl (fun K hK => ?_) (AllReadyIn.nil)
          go_simp
          refine ⟨trivial, ?_⟩
          refine (CallsIn.inRound (n := 5) _ (callsIn_wide.2 (HF.out.2.1 w4 HX4.out))).mono ?_
          rintro e w7 ⟨⟨r, rfl, rfl⟩, hb7⟩
          have HB7 := Lib.hid (HB4.out.trans (hb7.mono HB4.out.size))
          have y7 := (HOB.out.below HB7.out HOB.out.lt).cell0
          have HX7 := Lib.hid ((show Kp w5.heap.size w1.heap.size w4 w7 from ⟨hb7.size, fun b _ hb => hb7.block b (by have := HB4.out.size; change W'.heap.size ≤ _ at this; omega)⟩).ex HX4.out)
          clear hb7
          refine hK _ _ ?_
          clear hK K
          refine wpAnyIn_ready (rs := [6]) (by kernel_rfl) (by simp) ?_
          refine AllReadyIn.cons rfl (fun K hK => ?_) (AllReadyIn.nil)
          go_simp
          refine ⟨trivial, ?_⟩
          refine (CallsIn.inRound (n := 5) _ (callsIn_wide.2 (HF.out.2.2 w7 HX7.out))).mono ?_
          rintro e w8 ⟨⟨r, rfl, hr⟩, hb8⟩
          have HB8 := Lib.hid (HB7.out.trans (hb8.mono HB7.out.size))
          have y8 := (HOB.out.below HB8.out HOB.out.lt).cell0
          obtain ⟨A5, c5, w9, hrun, y9, z0, z1, hp⟩ := HF.out.1 (x.kd, posOf ps i, r) w8 HB8.out
          have PU := Lib.hid hp
          have HR := Lib.hid hr
          clear hp hb8 hr y9
          have y9 := (World.cell?_alloc_some w8 ⟨W.heap.size + 1, 0, none⟩ (.cells #[.string x.kd, .int .i64 (posOf ps i), .int .i64 r] 29) (by rw [y8]; rfl)).trans y8
          refine hK _ _ ?_
          clear hK K
          refine wpAnyIn_ready (rs := [7]) (by kernel_rfl) (by simp) ?_
          refine AllReadyIn.cons rfl (fun K hK => ?_) (AllReadyIn.nil)
          go_simp
          refine hK _ _ ?_
          clear hK K
          refine wpAnyIn_ready (rs := [8]) (by kernel_rfl) (by simp) ?_
          refine AllReadyIn.cons rfl (fun K hK => ?_) (AllReadyIn.nil)
          go_simp
          refine hK _ _ ?_
          clear hK K
          refine wpAnyIn_ready (rs := [9]) (by kernel_rfl) (by simp) ?_
          refine AllReadyIn.cons rfl (fun K hK => ?_) (AllReadyIn.nil)
          refine stepIn_append rfl _ _ rfl rfl rfl hrun ?_
          refine hK _ _ ?_
          clear hK K
          refine wpAnyIn_ready (rs := [10]) (by kernel_rfl) (by simp) ?_
          refine AllReadyIn.cons rfl (fun K hK => ?_) (AllReadyIn.nil)
          go_simp
          refine hK _ _ ?_
          clear hK K
          refine wpAnyIn_done (by kernel_rfl) ?_ _
          gi_wp2
          exact ⟨by omega, PU.out.2, _, HS.out.snoc ⟨rfl, rfl, HR.out⟩, PU.out.1⟩
        · go_simp
          refine ⟨trivial, ?_⟩
          refine HK.out.mono ?_
          rintro e w4 ⟨rfl, hb4⟩
          have HB4 := Lib.hid (hb4)
          have y4 := (HOB.out.below HB4.out HOB.out.lt).cell0
          have HX4 := Lib.hid ((show Kp w5.heap.size w1.heap.size W'.drew w4 from ⟨hb4.size, fun b _ hb => hb4.block b (by show b < W'.heap.size; omega)⟩).ex HX'.out)
          clear hb4
          refine hK _ _ ?_
          clear hK K
          refine wpAnyIn_ready (rs := [0, 4]) (by kernel_rfl) (by simp) ?_
          refine AllReadyIn.cons rfl (fun K hK => ?_) (AllReadyIn.cons rfl (fun K hK => ?_) (AllReadyIn.nil))
          · go_simp
            refine hK _ _ ?_
            clear hK K
            refine wpAnyIn_ready (rs := [4]) (by kernel_rfl) (by simp) ?_
            refine AllReadyIn.cons rfl (fun K hK => ?_) (AllReadyIn.nil)
            go_simp
            refine ⟨trivial, ?_⟩
            refine (CallsIn.inRound (n := 5) _ (callsIn_wide.2 (HF.out.2.1 w4 HX4.out))).mono ?_
            rintro e w7 ⟨⟨r, rfl, rfl⟩, hb7⟩
            have HB7 := Lib.hid (HB4.out.trans (hb7.mono HB4.out.size))
            have y7 := (HOB.out.below HB7.out HOB.out.lt).cell0
            have HX7 := Lib.hid ((show Kp w5.heap.size w1.heap.size w4 w7 from ⟨hb7.size, fun b _ hb => hb7.block b (by have := HB4.out.size; change W'.heap.size ≤ _ at this; omega)⟩).ex HX4.out)
            clear hb7
            refine hK _ _ ?_
            clear hK K
            refine wpAnyIn_ready (rs := [6]) (by kernel_rfl) (by simp) ?_
            refine AllReadyIn.cons rfl (fun K hK => ?_) (AllReadyIn.nil)
            go_simp
            refine ⟨trivial, ?_⟩
            refine (CallsIn.inRound (n := 5) _ (callsIn_wide.2 (HF.out.2.2 w7 HX7.out))).mono ?_
            rintro e w8 ⟨⟨r, rfl, hr⟩, hb8⟩
            have HB8 := Lib.hid (HB7.out.trans (hb8.mono HB7.out.size))
            have y8 := (HOB.out.below HB8.out HOB.out.lt).cell0
            obtain ⟨A5, c5, w9, hrun, y9, z0, z1, hp⟩ := HF.out.1 (x.kd, posOf ps i, r) w8 HB8.out
            have PU := Lib.hid hp
            have HR := Lib.hid hr
            clear hp hb8 hr y9
            have y9 := (World.cell?_alloc_some w8 ⟨W.heap.size + 1, 0, none⟩ (.cells #[.string x.kd, .int .i64 (posOf ps i), .int .i64 r] 29) (by rw [y8]; rfl)).trans y8
            refine hK _ _ ?_
            clear hK K
            refine wpAnyIn_ready (rs := [7]) (by kernel_rfl) (by simp) ?_
            refine AllReadyIn.cons rfl (fun K hK => ?_) (AllReadyIn.nil)
            go_simp
            refine hK _ _ ?_
            clear hK K
            refine wpAnyIn_ready (rs := [8]) (by kernel_rfl) (by simp) ?_
            refine AllReadyIn.cons rfl (fun K hK => ?_) (AllReadyIn.nil)
            go_simp
            refine hK _ _ ?_
            clear hK K
            refine wpAnyIn_ready (rs := [9]) (by kernel_rfl) (by simp) ?_
            refine AllReadyIn.cons rfl (fun K hK => ?_) (AllReadyIn.nil)
            refine stepIn_append rfl _ _ rfl rfl rfl hrun ?_
            refine hK _ _ ?_
            clear hK K
            refine wpAnyIn_ready (rs := [10]) (by kernel_rfl) (by simp) ?_
            refine AllReadyIn.cons rfl (fun K hK => ?_) (AllReadyIn.nil)
            go_simp
            refine hK _ _ ?_
            clear hK K
            refine wpAnyIn_done (by kernel_rfl) ?_ _
            gi_wp2
            exact ⟨by omega, PU.out.2, _, HS.out.snoc ⟨rfl, rfl, HR.out⟩, PU.out.1⟩
          · go_simp
            refine ⟨trivial, ?_⟩
            refine (CallsIn.inRound (n := 5) _ (callsIn_wide.2 (HF.out.2.1 w4 HX4.out))).mono ?_
            rintro e w7 ⟨⟨r, rfl, rfl⟩, hb7⟩
            have HB7 := Lib.hid (HB4.out.trans (hb7.mono HB4.out.size))
            have y7 := (HOB.out.below HB7.out HOB.out.lt).cell0
            have HX7 := Lib.hid ((show Kp w5.heap.size w1.heap.size w4 w7 from ⟨hb7.size, fun b _ hb => hb7.block b (by have := HB4.out.size; change W'.heap.size ≤ _ at this; omega)⟩).ex HX4.out)
            clear hb7
            refine hK _ _ ?_
            clear hK K
            refine wpAnyIn_ready (rs := [0, 6]) (by kernel_rfl) (by simp) ?_
            refine AllReadyIn.cons rfl (fun K hK => ?_) (AllReadyIn.cons rfl (fun K hK => ?_) (AllReadyIn.nil))
            · go_simp
              refine hK _ _ ?_
              clear hK K
              refine wpAnyIn_ready (rs := [6]) (by kernel_rfl) (by simp) ?_
              refine AllReadyIn.cons rfl (fun K hK => ?_) (AllReadyIn.nil)
              go_simp
              refine ⟨trivial, ?_⟩
              refine (CallsIn.inRound (n := 5) _ (callsIn_wide.2 (HF.out.2.2 w7 HX7.out))).mono ?_
              rintro e w8 ⟨⟨r, rfl, hr⟩, hb8⟩
              have HB8 := Lib.hid (HB7.out.trans (hb8.mono HB7.out.size))
              have y8 := (HOB.out.below HB8.out HOB.out.lt).cell0
              obtain ⟨A5, c5, w9, hrun, y9, z0, z1, hp⟩ := HF.out.1 (x.kd, posOf ps i, r) w8 HB8.out
              have PU := Lib.hid hp
              have HR := Lib.hid hr
              clear hp hb8 hr y9
              have y9 := (World.cell?_alloc_some w8 ⟨W.heap.size + 1, 0, none⟩ (.cells #[.string x.kd, .int .i64 (posOf ps i), .int .i64 r] 29) (by rw [y8]; rfl)).trans y8
              refine hK _ _ ?_
              clear hK K
              refine wpAnyIn_ready (rs := [7]) (by kernel_rfl) (by simp) ?_
              refine AllReadyIn.cons rfl (fun K hK => ?_) (AllReadyIn.nil)
              go_simp
              refine hK _ _ ?_
              clear hK K
              refine wpAnyIn_ready (rs := [8]) (by kernel_rfl) (by simp) ?_
              refine AllReadyIn.cons rfl (fun K hK => ?_) (AllReadyIn.nil)
              go_simp
              refine hK _ _ ?_
              clear hK K
              refine wpAnyIn_ready (rs := [9]) (by kernel_rfl) (by simp) ?_
              refine AllReadyIn.cons rfl (fun K hK => ?_) (AllReadyIn.nil)
              refine stepIn_append rfl _ _ rfl rfl rfl hrun ?_
              refine hK _ _ ?_
              clear hK K
              refine wpAnyIn_ready (rs := [10]) (by kernel_rfl) (by simp) ?_
              refine AllReadyIn.cons rfl (fun K hK => ?_) (AllReadyIn.nil)
              go_simp
              refine hK _ _ ?_
              clear hK K
              refine wpAnyIn_done (by kernel_rfl) ?_ _
              gi_wp2
              exact ⟨by omega, PU.out.2, _, HS.out.snoc ⟨rfl, rfl, HR.out⟩, PU.out.1⟩
            · go_simp
              refine ⟨trivial, ?_⟩
              refine (CallsIn.inRound (n := 5) _ (callsIn_wide.2 (HF.out.2.2 w7 HX7.out))).mono ?_
              rintro e w8 ⟨⟨r, rfl, hr⟩, hb8⟩
              have HB8 := Lib.hid (HB7.out.trans (hb8.mono HB7.out.size))
              have y8 := (HOB.out.below HB8.out HOB.out.lt).cell0
              obtain ⟨A5, c5, w9, hrun, y9, z0, z1, hp⟩ := HF.out.1 (x.kd, posOf ps i, r) w8 HB8.out
              have PU := Lib.hid hp
              have HR := Lib.hid hr
              clear hp hb8 hr y9
              have y9 := (World.cell?_alloc_some w8 ⟨W.heap.size + 1, 0, none⟩ (.cells #[.string x.kd, .int .i64 (posOf ps i), .int .i64 r] 29) (by rw [y8]; rfl)).trans y8
              refine hK _ _ ?_
              clear hK K
              refine wpAnyIn_ready (rs := [0, 7]) (by kernel_rfl) (by simp) ?_
              refine AllReadyIn.cons rfl (fun K hK => ?_) (AllReadyIn.cons rfl (fun K hK => ?_) (AllReadyIn.nil))
              · go_simp
                refine hK _ _ ?_
                clear hK K
                refine wpAnyIn_ready (rs := [7]) (by kernel_rfl) (by simp) ?_
                refine AllReadyIn.cons rfl (fun K hK => ?_) (AllReadyIn.nil)
                go_simp
                refine hK _ _ ?_
                clear hK K
                refine wpAnyIn_ready (rs := [8]) (by kernel_rfl) (by simp) ?_
                refine AllReadyIn.cons rfl (fun K hK => ?_) (AllReadyIn.nil)
                go_simp
                refine hK _ _ ?_
                clear hK K
                refine wpAnyIn_ready (rs := [9]) (by kernel_rfl) (by simp) ?_
                refine AllReadyIn.cons rfl (fun K hK => ?_) (AllReadyIn.nil)
                refine stepIn_append rfl _ _ rfl rfl rfl hrun ?_
                refine hK _ _ ?_
                clear hK K
                refine wpAnyIn_ready (rs := [10]) (by kernel_rfl) (by simp) ?_
                refine AllReadyIn.cons rfl (fun K hK => ?_) (AllReadyIn.nil)
                go_simp
                refine hK _ _ ?_
                clear hK K
                refine wpAnyIn_done (by kernel_rfl) ?_ _
                gi_wp2
                exact ⟨by omega, PU.out.2, _, HS.out.snoc ⟨rfl, rfl, HR.out⟩, PU.out.1⟩
              · go_simp
                refine hK _ _ ?_
                clear hK K
                refine wpAnyIn_ready (rs := [0, 8]) (by kernel_rfl) (by simp) ?_
                refine AllReadyIn.cons rfl (fun K hK => ?_) (AllReadyIn.cons rfl (fun K hK => ?_) (AllReadyIn.nil))
                · go_simp
                  refine hK _ _ ?_
                  clear hK K
                  refine wpAnyIn_ready (rs := [8]) (by kernel_rfl) (by simp) ?_
                  refine AllReadyIn.cons rfl (fun K hK => ?_) (AllReadyIn.nil)
                  go_simp
                  refine hK _ _ ?_
                  clear hK K
                  refine wpAnyIn_ready (rs := [9]) (by kernel_rfl) (by simp) ?_
                  refine AllReadyIn.cons rfl (fun K hK => ?_) (AllReadyIn.nil)
                  refine stepIn_append rfl _ _ rfl rfl rfl hrun ?_
                  refine hK _ _ ?_
                  clear hK K
                  refine wpAnyIn_ready (rs := [10]) (by kernel_rfl) (by simp) ?_
                  refine AllReadyIn.cons rfl (fun K hK => ?_) (AllReadyIn.nil)
                  go_simp
                  refine hK _ _ ?_
                  clear hK K
                  refine wpAnyIn_done (by kernel_rfl) ?_ _
                  gi_wp2
                  exact ⟨by omega, PU.out.2, _, HS.out.snoc ⟨rfl, rfl, HR.out⟩, PU.out.1⟩
                · go_simp
                  refine hK _ _ ?_
                  clear hK K
                  refine wpAnyIn_ready (rs := [0]) (by kernel_rfl) (by simp) ?_
                  refine AllReadyIn.cons rfl (fun K hK => ?_) (AllReadyIn.nil)
                  go_simp
                  refine hK _ _ ?_
                  clear hK K
                  refine wpAnyIn_ready (rs := [9]) (by kernel_rfl) (by simp) ?_
                  refine AllReadyIn.cons rfl (fun K hK => ?_) (AllReadyIn.nil)
                  refine stepIn_append rfl _ _ rfl rfl rfl hrun ?_
                  refine hK _ _ ?_
                  clear hK K
                  refine wpAnyIn_ready (rs := [10]) (by kernel_rfl) (by simp) ?_
                  refine AllReadyIn.cons rfl (fun K hK => ?_) (AllReadyIn.nil)
                  go_simp
                  refine hK _ _ ?_
                  clear hK K
                  refine wpAnyIn_done (by kernel_rfl) ?_ _
                  gi_wp2
                  exact ⟨by omega, PU.out.2, _, HS.out.snoc ⟨rfl, rfl, HR.out⟩, PU.out.1⟩
    case done =>
      intro W' hlt hI hD h4
      obtain ⟨out, hsp, hI⟩ := hI
      have hq := hI.kq (by omega) (.put (B := w1.heap.size + 1) W' (.deferred none) (Nat.le_refl _) (by omega))
      have hk : out = l := (spans_of H0.out.1 hsh hsp).trans HLL.out
      rw [hk] at hq
      obtain ⟨h1, _, h3, A', cap', hob, hown⟩ := hq
      have y0 : W'.cell? ⟨W.heap.size + 1, 0, none⟩ = some (.slice A' l.length cap') := (World.cell?_of_block (a := ⟨W.heap.size + 1, 0, none⟩) (World.putObj_heap_other (w := W') (o := .deferred none) (by show W.heap.size + 1 ≠ w1.heap.size + 1; omega)).symm).trans hob.cell0
      have HI := Lib.hid (And.intro h1 hown)
      clear hob hown hI h1 hk hsp
      gi_wp2
      refine ⟨by simp, .inl ⟨_, _, rfl, run_takeDeferred hD, ?_⟩⟩
      refine ⟨_, results_tmp rfl _ _ _, ?_⟩
      exact ⟨A', cap', rfl, own_lowT (base := w1.heap.size + 1 + 4) (base' := W.heap.size) HI.out.2 (by omega), HI.out.1⟩
    case stop =>
      intro W' hlt
      have hl := Nd.kinds_len n
      rw [← pre_kinds n 0, List.length_map] at hl
      exact absurd (show (n.pre 0).length < 100000 by omega) hlt
  refine wpIn_region_any hmo ?_
  change wpAnyIn _ _ _ _ _ _ _ _ _ (World.drew _)
  refine wpAnyIn_ready (rs := [0, 1, 2]) (by kernel_rfl) (by simp) ?_
  refine AllReadyIn.cons rfl (fun K hK => ?_) (AllReadyIn.cons rfl (fun K hK => ?_) (AllReadyIn.cons rfl (fun K hK => ?_) (AllReadyIn.nil)))
  · go_simp
    refine hK _ _ ?_
    clear hK K
    refine wpAnyIn_ready (rs := [1, 2]) (by kernel_rfl) (by simp) ?_
    refine AllReadyIn.cons rfl (fun K hK => ?_) (AllReadyIn.cons rfl (fun K hK => ?_) (AllReadyIn.nil))
    · go_simp
      refine hK _ _ ?_
      clear hK K
      refine wpAnyIn_ready (rs := [2]) (by kernel_rfl) (by simp) ?_
      refine AllReadyIn.cons rfl (fun K hK => ?_) (AllReadyIn.nil)
      go_simp
      refine hK _ _ ?_
      clear hK K
      refine wpAnyIn_ready (rs := [3]) (by kernel_rfl) (by simp) ?_
      refine AllReadyIn.cons rfl (fun K hK => ?_) (AllReadyIn.nil)
      refine stepIn_append rfl _ _ rfl rfl rfl hrun ?_
      refine hK _ _ ?_
      clear hK K
      refine wpAnyIn_ready (rs := [4]) (by kernel_rfl) (by simp) ?_
      refine AllReadyIn.cons rfl (fun K hK => ?_) (AllReadyIn.nil)
      go_simp
      refine ⟨trivial, callsIn_wide.2 (HC.out.mono ?_)⟩
      rintro e w1 ⟨v, rfl, hX, hB1⟩
      obtain ⟨q, c, rfl⟩ := hX.form
      have HX := Lib.hid (And.intro hX hB1)
      clear hX hB1
      refine hK _ _ ?_
      clear hK K
      refine wpAnyIn_ready (rs := [5]) (by kernel_rfl) (by simp) ?_
      refine AllReadyIn.cons rfl (fun K hK => ?_) (AllReadyIn.nil)
      go_simp
      refine ⟨trivial, callsIn_wide.2 ((Preorder_any q c w1).mono ?_)⟩
      rintro e w6 ⟨rfl, rfl⟩
      refine hK _ _ ?_
      clear hK K
      refine wpAnyIn_done (by kernel_rfl) ?_ _
      exact hTail q c w1 HX.out.1 HX.out.2
    · go_simp
      refine hK _ _ ?_
      clear hK K
      refine wpAnyIn_ready (rs := [1]) (by kernel_rfl) (by simp) ?_
      refine AllReadyIn.cons rfl (fun K hK => ?_) (AllReadyIn.nil)
      go_simp
      refine hK _ _ ?_
      clear hK K
      refine wpAnyIn_ready (rs := [3]) (by kernel_rfl) (by simp) ?_
      refine AllReadyIn.cons rfl (fun K hK => ?_) (AllReadyIn.nil)
      refine stepIn_append rfl _ _ rfl rfl rfl hrun ?_
      refine hK _ _ ?_
      clear hK K
      refine wpAnyIn_ready (rs := [4]) (by kernel_rfl) (by simp) ?_
      refine AllReadyIn.cons rfl (fun K hK => ?_) (AllReadyIn.nil)
      go_simp
      refine ⟨trivial, callsIn_wide.2 (HC.out.mono ?_)⟩
      rintro e w1 ⟨v, rfl, hX, hB1⟩
      obtain ⟨q, c, rfl⟩ := hX.form
      have HX := Lib.hid (And.intro hX hB1)
      clear hX hB1
      refine hK _ _ ?_
      clear hK K
      refine wpAnyIn_ready (rs := [5]) (by kernel_rfl) (by simp) ?_
      refine AllReadyIn.cons rfl (fun K hK => ?_) (AllReadyIn.nil)
      go_simp
      refine ⟨trivial, callsIn_wide.2 ((Preorder_any q c w1).mono ?_)⟩
      rintro e w6 ⟨rfl, rfl⟩
      refine hK _ _ ?_
      clear hK K
      refine wpAnyIn_done (by kernel_rfl) ?_ _
      exact hTail q c w1 HX.out.1 HX.out.2
  · go_simp
    refine hK _ _ ?_
    clear hK K
    refine wpAnyIn_ready (rs := [0, 2]) (by kernel_rfl) (by simp) ?_
    refine AllReadyIn.cons rfl (fun K hK => ?_) (AllReadyIn.cons rfl (fun K hK => ?_) (AllReadyIn.nil))
    · go_simp
      refine hK _ _ ?_
      clear hK K
      refine wpAnyIn_ready (rs := [2]) (by kernel_rfl) (by simp) ?_
      refine AllReadyIn.cons rfl (fun K hK => ?_) (AllReadyIn.nil)
      go_simp
      refine hK _ _ ?_
      clear hK K
      refine wpAnyIn_ready (rs := [3]) (by kernel_rfl) (by simp) ?_
      refine AllReadyIn.cons rfl (fun K hK => ?_) (AllReadyIn.nil)
      refine stepIn_append rfl _ _ rfl rfl rfl hrun ?_
      refine hK _ _ ?_
      clear hK K
      refine wpAnyIn_ready (rs := [4]) (by kernel_rfl) (by simp) ?_
      refine AllReadyIn.cons rfl (fun K hK => ?_) (AllReadyIn.nil)
      go_simp
      refine ⟨trivial, callsIn_wide.2 (HC.out.mono ?_)⟩
      rintro e w1 ⟨v, rfl, hX, hB1⟩
      obtain ⟨q, c, rfl⟩ := hX.form
      have HX := Lib.hid (And.intro hX hB1)
      clear hX hB1
      refine hK _ _ ?_
      clear hK K
      refine wpAnyIn_ready (rs := [5]) (by kernel_rfl) (by simp) ?_
      refine AllReadyIn.cons rfl (fun K hK => ?_) (AllReadyIn.nil)
      go_simp
      refine ⟨trivial, callsIn_wide.2 ((Preorder_any q c w1).mono ?_)⟩
      rintro e w6 ⟨rfl, rfl⟩
      refine hK _ _ ?_
      clear hK K
      refine wpAnyIn_done (by kernel_rfl) ?_ _
      exact hTail q c w1 HX.out.1 HX.out.2
    · go_simp
      refine hK _ _ ?_
      clear hK K
      refine wpAnyIn_ready (rs := [0, 3]) (by kernel_rfl) (by simp) ?_
      refine AllReadyIn.cons rfl (fun K hK => ?_) (AllReadyIn.cons rfl (fun K hK => ?_) (AllReadyIn.nil))
      · go_simp
        refine hK _ _ ?_
        clear hK K
        refine wpAnyIn_ready (rs := [3]) (by kernel_rfl) (by simp) ?_
        refine AllReadyIn.cons rfl (fun K hK => ?_) (AllReadyIn.nil)
        refine stepIn_append rfl _ _ rfl rfl rfl hrun ?_
        refine hK _ _ ?_
        clear hK K
        refine wpAnyIn_ready (rs := [4]) (by kernel_rfl) (by simp) ?_
        refine AllReadyIn.cons rfl (fun K hK => ?_) (AllReadyIn.nil)
        go_simp
        refine ⟨trivial, callsIn_wide.2 (HC.out.mono ?_)⟩
        rintro e w1 ⟨v, rfl, hX, hB1⟩
        obtain ⟨q, c, rfl⟩ := hX.form
        have HX := Lib.hid (And.intro hX hB1)
        clear hX hB1
        refine hK _ _ ?_
        clear hK K
        refine wpAnyIn_ready (rs := [5]) (by kernel_rfl) (by simp) ?_
        refine AllReadyIn.cons rfl (fun K hK => ?_) (AllReadyIn.nil)
        go_simp
        refine ⟨trivial, callsIn_wide.2 ((Preorder_any q c w1).mono ?_)⟩
        rintro e w6 ⟨rfl, rfl⟩
        refine hK _ _ ?_
        clear hK K
        refine wpAnyIn_done (by kernel_rfl) ?_ _
        exact hTail q c w1 HX.out.1 HX.out.2
      · refine stepIn_append rfl _ _ rfl rfl rfl hrun ?_
        refine hK _ _ ?_
        clear hK K
        refine wpAnyIn_ready (rs := [0]) (by kernel_rfl) (by simp) ?_
        refine AllReadyIn.cons rfl (fun K hK => ?_) (AllReadyIn.nil)
        go_simp
        refine hK _ _ ?_
        clear hK K
        refine wpAnyIn_ready (rs := [4]) (by kernel_rfl) (by simp) ?_
        refine AllReadyIn.cons rfl (fun K hK => ?_) (AllReadyIn.nil)
        go_simp
        refine ⟨trivial, callsIn_wide.2 (HC.out.mono ?_)⟩
        rintro e w1 ⟨v, rfl, hX, hB1⟩
        obtain ⟨q, c, rfl⟩ := hX.form
        have HX := Lib.hid (And.intro hX hB1)
        clear hX hB1
        refine hK _ _ ?_
        clear hK K
        refine wpAnyIn_ready (rs := [5]) (by kernel_rfl) (by simp) ?_
        refine AllReadyIn.cons rfl (fun K hK => ?_) (AllReadyIn.nil)
        go_simp
        refine ⟨trivial, callsIn_wide.2 ((Preorder_any q c w1).mono ?_)⟩
        rintro e w6 ⟨rfl, rfl⟩
        refine hK _ _ ?_
        clear hK K
        refine wpAnyIn_done (by kernel_rfl) ?_ _
        exact hTail q c w1 HX.out.1 HX.out.2
  · go_simp
    refine hK _ _ ?_
    clear hK K
    refine wpAnyIn_ready (rs := [0, 1]) (by kernel_rfl) (by simp) ?_
    refine AllReadyIn.cons rfl (fun K hK => ?_) (AllReadyIn.cons rfl (fun K hK => ?_) (AllReadyIn.nil))
    · go_simp
      refine hK _ _ ?_
      clear hK K
      refine wpAnyIn_ready (rs := [1]) (by kernel_rfl) (by simp) ?_
      refine AllReadyIn.cons rfl (fun K hK => ?_) (AllReadyIn.nil)
      go_simp
      refine hK _ _ ?_
      clear hK K
      refine wpAnyIn_ready (rs := [3]) (by kernel_rfl) (by simp) ?_
      refine AllReadyIn.cons rfl (fun K hK => ?_) (AllReadyIn.nil)
      refine stepIn_append rfl _ _ rfl rfl rfl hrun ?_
      refine hK _ _ ?_
      clear hK K
      refine wpAnyIn_ready (rs := [4]) (by kernel_rfl) (by simp) ?_
      refine AllReadyIn.cons rfl (fun K hK => ?_) (AllReadyIn.nil)
      go_simp
      refine ⟨trivial, callsIn_wide.2 (HC.out.mono ?_)⟩
      rintro e w1 ⟨v, rfl, hX, hB1⟩
      obtain ⟨q, c, rfl⟩ := hX.form
      have HX := Lib.hid (And.intro hX hB1)
      clear hX hB1
      refine hK _ _ ?_
      clear hK K
      refine wpAnyIn_ready (rs := [5]) (by kernel_rfl) (by simp) ?_
      refine AllReadyIn.cons rfl (fun K hK => ?_) (AllReadyIn.nil)
      go_simp
      refine ⟨trivial, callsIn_wide.2 ((Preorder_any q c w1).mono ?_)⟩
      rintro e w6 ⟨rfl, rfl⟩
      refine hK _ _ ?_
      clear hK K
      refine wpAnyIn_done (by kernel_rfl) ?_ _
      exact hTail q c w1 HX.out.1 HX.out.2
    · go_simp
      refine hK _ _ ?_
      clear hK K
      refine wpAnyIn_ready (rs := [0, 3]) (by kernel_rfl) (by simp) ?_
      refine AllReadyIn.cons rfl (fun K hK => ?_) (AllReadyIn.cons rfl (fun K hK => ?_) (AllReadyIn.nil))
      · go_simp
        refine hK _ _ ?_
        clear hK K
        refine wpAnyIn_ready (rs := [3]) (by kernel_rfl) (by simp) ?_
        refine AllReadyIn.cons rfl (fun K hK => ?_) (AllReadyIn.nil)
        refine stepIn_append rfl _ _ rfl rfl rfl hrun ?_
        refine hK _ _ ?_
        clear hK K
        refine wpAnyIn_ready (rs := [4]) (by kernel_rfl) (by simp) ?_
        refine AllReadyIn.cons rfl (fun K hK => ?_) (AllReadyIn.nil)
        go_simp
        refine ⟨trivial, callsIn_wide.2 (HC.out.mono ?_)⟩
        rintro e w1 ⟨v, rfl, hX, hB1⟩
        obtain ⟨q, c, rfl⟩ := hX.form
        have HX := Lib.hid (And.intro hX hB1)
        clear hX hB1
        refine hK _ _ ?_
        clear hK K
        refine wpAnyIn_ready (rs := [5]) (by kernel_rfl) (by simp) ?_
        refine AllReadyIn.cons rfl (fun K hK => ?_) (AllReadyIn.nil)
        go_simp
        refine ⟨trivial, callsIn_wide.2 ((Preorder_any q c w1).mono ?_)⟩
        rintro e w6 ⟨rfl, rfl⟩
        refine hK _ _ ?_
        clear hK K
        refine wpAnyIn_done (by kernel_rfl) ?_ _
        exact hTail q c w1 HX.out.1 HX.out.2
      · refine stepIn_append rfl _ _ rfl rfl rfl hrun ?_
        refine hK _ _ ?_
        clear hK K
        refine wpAnyIn_ready (rs := [0]) (by kernel_rfl) (by simp) ?_
        refine AllReadyIn.cons rfl (fun K hK => ?_) (AllReadyIn.nil)
        go_simp
        refine hK _ _ ?_
        clear hK K
        refine wpAnyIn_ready (rs := [4]) (by kernel_rfl) (by simp) ?_
        refine AllReadyIn.cons rfl (fun K hK => ?_) (AllReadyIn.nil)
        go_simp
        refine ⟨trivial, callsIn_wide.2 (HC.out.mono ?_)⟩
        rintro e w1 ⟨v, rfl, hX, hB1⟩
        obtain ⟨q, c, rfl⟩ := hX.form
        have HX := Lib.hid (And.intro hX hB1)
        clear hX hB1
        refine hK _ _ ?_
        clear hK K
        refine wpAnyIn_ready (rs := [5]) (by kernel_rfl) (by simp) ?_
        refine AllReadyIn.cons rfl (fun K hK => ?_) (AllReadyIn.nil)
        go_simp
        refine ⟨trivial, callsIn_wide.2 ((Preorder_any q c w1).mono ?_)⟩
        rintro e w6 ⟨rfl, rfl⟩
        refine hK _ _ ?_
        clear hK K
        refine wpAnyIn_done (by kernel_rfl) ?_ _
        exact hTail q c w1 HX.out.1 HX.out.2
end Go.Proofs.YtjbhjbpamnoebaaGreatFmt
