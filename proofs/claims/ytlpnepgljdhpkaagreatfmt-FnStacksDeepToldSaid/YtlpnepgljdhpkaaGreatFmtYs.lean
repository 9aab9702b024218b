/-
  impl.Yields: the kinds of the nodes of Preorder, of which a loop takes so many.
-/
import Derived.Test.YtlpnepgljdhpkaaGreatFmtYr
import Derived.Maps.OwnIn
namespace Go.Proofs.YtlpnepgljdhpkaaGreatFmt
open Go.RowKit Go.Shelf
attribute [local go_sem] Oper.semAt_some

theorem Blk.cell0 {w : World} {g : Nat} {t : TypeId} {v : Value} (h : Blk w g t #[v]) : w.cell? ⟨g, 0, none⟩ = some v := h.cell 0
/-- What the loop has kept: in the variable in block ob, its row behind hi; how many it takes in block mb. -/
def OutY (W0 : World) (mo : Int) (ob mb lo hi : Nat) (out : List ByteArray) (w : World) : Prop :=
  Below W0.heap.size W0 w ∧ TokTab W0 ∧ (W0.heap.size ≤ ob ∧ ob < lo ∧ mb < lo ∧ mb ≠ ob ∧ lo ≤ hi ∧ hi ≤ w.heap.size) ∧ Blk w mb 3 #[.int .i64 mo] ∧ ∃ A cap, Blk w ob 34 #[.slice A out.length cap] ∧ w.ownsRow hi 9 1 (.slice A out.length cap) out.length (flatT out)
section
variable {W0 w w' : World} {mo : Int} {ob mb lo hi : Nat} {out : List ByteArray}
theorem OutY.next (h : OutY W0 mo ob mb lo hi out w) (hb : Below w.heap.size w w') : OutY W0 mo ob mb lo hi out w' := by
  obtain ⟨h1, h2, h3, h4, A, cap, h7, h8⟩ := h
  have hs := hb.size
  exact ⟨h1.trans (hb.mono h1.size), h2, ⟨h3.1, h3.2.1, h3.2.2.1, h3.2.2.2.1, h3.2.2.2.2.1, by omega⟩, h4.below hb h4.lt, A, cap, h7.below hb h7.lt, own_keep h8 fun g _ hg => hb.block g hg⟩
theorem OutY.kq {B : Nat} (h : OutY W0 mo ob mb lo (B + 4) out w) (hlo : lo ≤ B) (hk : Kq B w w') : OutY W0 mo ob mb lo (B + 4) out w' := by
  obtain ⟨h1, h2, h3, h4, A, cap, h7, h8⟩ := h
  obtain ⟨k1, k2, k3, k4, k5⟩ := hk
  have hw := h1.size
  have hmb := h4.lt
  have hob := h7.lt
  refine ⟨h1.trans ⟨k1, k2, k3, k4, fun b hb => k5 b (by omega) (.inl (by omega))⟩, h2, ⟨h3.1, h3.2.1, h3.2.2.1, h3.2.2.2.1, h3.2.2.2.2.1, by omega⟩, h4.keep (k5 _ hmb (.inl (by omega))), A, cap, h7.keep (k5 _ hob (.inl (by omega))), ?_⟩
  obtain ⟨h0, h9 | ⟨g, c, cur, he, q1, q2, q3⟩⟩ := h8
  · exact ⟨h0, .inl h9⟩
  · exact ⟨h0, .inr ⟨g, c, cur, he, q1, (k5 g (Array.getElem?_eq_some_iff.1 q2).1 (.inr q1)).trans q2, q3⟩⟩
theorem OutY.drew (h : OutY W0 mo ob mb lo hi out w) : OutY W0 mo ob mb lo hi out w.drew := ⟨h.1.drew, h.2⟩
theorem OutY.tok (h : OutY W0 mo ob mb lo hi out w) : TokTab w := h.2.1.below h.1
theorem OutY.push (h : OutY W0 mo ob mb lo hi out w) {v' : Value} {x : ByteArray} {sv : Value} (hsv : Blk w ob 34 #[sv])
    (hown : w'.ownsRow hi 9 1 v' (out.length + 1) (flatT out ++ [.string x])) (hg : w.grownBy w' sv.ownBlock) : OutY W0 mo ob mb lo hi (out ++ [x]) (w'.setCell ⟨ob, 0, none⟩ v') ∧ Kp lo hi w (w'.setCell ⟨ob, 0, none⟩ v') := by
  obtain ⟨h1, h2, ⟨h3, h4, h40, h41, h5, h6⟩, h42, A, cap, h7, h8⟩ := h
  have he : some (Obj.cells #[Value.slice A out.length cap] 34 (0, 0)) = some (.cells #[sv] 34 (0, 0)) := h7.symm.trans hsv
  obtain rfl : sv = .slice A out.length cap := by
    have := Option.some.inj he
    simp only [Obj.cells.injEq] at this
    simpa using this.1.symm
  have hs := hg.size
  have hrow : ∀ g, (Value.slice A out.length cap).ownBlock = some g → hi ≤ g ∧ g < w.heap.size := fun g hg' => own_ge h8 hg'
  have hkeep : ∀ b, b < hi → w'.heap[b]? = w.heap[b]? := fun b hb => hg.block b (by omega) (fun e => by have := (hrow b e.symm).1; omega)
  have hbw : Below W0.heap.size W0 w' := h1.trans ⟨hg.os, hg.tape, hg.output, hg.size, fun b hb => hkeep b (by omega)⟩
  obtain ⟨A', cap', rfl⟩ : ∃ A' cap', v' = .slice A' (out.length + 1) cap' := own_formT hown
  have hblk' : Blk w' ob 34 #[.slice A out.length cap] := h7.keep (hkeep ob (by omega))
  have hlen : (out ++ [x]).length = out.length + 1 := by simp
  refine ⟨⟨hbw.setCell h3 _, h2, ⟨h3, h4, h40, h41, h5, by simp [World.setCell]; omega⟩, (h42.keep (hkeep mb (by omega))).far (by show mb ≠ ob; omega) _, A', cap', ?_, ?_⟩, by simp [World.setCell]; omega, fun b hb1 hb2 => ?_⟩
  · rw [hlen]
    exact hblk'.set_ 0 (.slice A' (out.length + 1) cap')
  · rw [hlen, flatT_append]
    obtain ⟨h0, ⟨he', hn⟩ | ⟨g, c, cur, he', k1, k2, k3⟩⟩ := hown
    · omega
    · refine ⟨h0, .inr ⟨g, c, cur, he', k1, (Below.heap_setCell _ _ _ _ (by show g ≠ ob; omega)).trans k2, k3⟩⟩
  · rw [Below.heap_setCell _ _ _ _ (by show b ≠ ob; omega)]
    exact hkeep b hb2
/-- A round: what append then gives, and what stands behind it. -/
theorem OutY.round {x : ByteArray} (h : OutY W0 mo ob mb lo hi out w) (h5 : out.length < 5000) : ∃ A cap, w.drew.cell? ⟨ob, 0, none⟩ = some (.slice A out.length cap) ∧ ∀ w4, Below w.drew.heap.size w.drew w4 → ∃ A5 c5 w5,
    Sem.run Tryz.prog (Builtin.append_ #[34, 34] 34 #[.slice A out.length cap, .slice (some ⟨w4.heap.size, 0, none⟩) 1 1]) (w4.alloc (.cells #[.string x] 9)) = .ok (.slice A5 (out.length + 1) c5) w5 ∧
    w4.cell? ⟨ob, 0, none⟩ = some (.slice A out.length cap) ∧ w5.cell? ⟨ob, 0, none⟩ = some (.slice A out.length cap) ∧ w5.frozen? ⟨ob, 0, none⟩ = false ∧ w5.cell? ⟨mb, 0, none⟩ = some (.int .i64 mo) ∧
    OutY W0 mo ob mb lo hi (out ++ [x]) (w5.setCell ⟨ob, 0, none⟩ (.slice A5 (out.length + 1) c5)) ∧ Kp lo hi w (w5.setCell ⟨ob, 0, none⟩ (.slice A5 (out.length + 1) c5)) := by
  obtain ⟨_, _, hzs, hst, A, cap, hob, hown⟩ := id h
  obtain ⟨i0, hi9, hz90, hz91, hz92⟩ := info_parts infoT
  refine ⟨A, cap, hob.cell0, fun w4 hb4 => ?_⟩
  have hz4 : w.heap.size ≤ w4.heap.size := hb4.size
  have hO := h.drew.next hb4
  have hob4 := hob.drew.below hb4 hob.lt
  have hst4 := hst.drew.below hb4 hst.lt
  have hown4 := own_keep hown (fun g _ hg => hb4.block g hg)
  obtain ⟨v5, w5, hrun, hown5, hgr5, _, _⟩ := run_append_own_at (P := Tryz.prog) (w4.alloc (.cells #[.string x] 9)) hi 34 34 9 i0 (.string ⟨#[]⟩) 1 16 underT hi9 hz90 hz91 hz92 rfl (by decide) _ _ _ (own_keep hown4 (fun g _ hg => Below.heap_alloc w4 _ g hg)) ⟨w4.heap.size, 0, none⟩ 1 1 [.string x] rfl (World.news_of_block (Blk.new w4 _ _)) (by intro u hu; simp at hu; subst hu; rfl) (by unfold maxLen; omega) (by omega) (by rw [World.size_alloc]; omega)
  obtain ⟨A5, c5, rfl⟩ := own_formT hown5
  have hgr := grown_trans (World.grownBy_alloc w4 _ _) hgr5
  obtain ⟨hp1, hp2⟩ := hO.push (x := x) hob4 hown5 hgr
  have hk : ∀ b, b < hi → w5.heap[b]? = w4.heap[b]? := fun b hb => hgr.block b (by omega) (fun e => by have := own_ge hown4 e.symm; omega)
  refine ⟨A5, c5, w5, hrun, hob4.cell0, (hob4.keep (hk _ (by omega))).cell0, (hob4.keep (hk _ (by omega))).frozen 0, (hst4.keep (hk _ (by omega))).cell0, hp1, Kp.trans ⟨hz4, fun b _ hb => hb4.block b (by show b < w.heap.size; omega)⟩ hp2⟩
end
/-- append at a step of a region in a round, as it runs. -/
theorem stepIn_append {F : Fence} {k : Nat} {ops : Array Oper} {o : Oper} {a : Act} {w w' : World} {K : Act → World → Prop} {Q : Exit → Act → World → Prop} {E : Prop} {v u v' : Value} (hgd : o.guard = none) (s x : Operand) {t : TypeId}
    (ho : o.op = .call { callee := .builtin .append, args := #[s, x], argTypes := #[t, t] }) (hs : a.eval s = v) (hx : a.eval x = u) (hrun : Sem.run Tryz.prog (Builtin.append_ #[t, t] o.type #[v, u]) w = .ok v' w') (h : K (a.put o.dst v') w') :
    if Region.wanted o (yielded ops a.tmps) = true then Oper.wpIn F k Tryz.prog o a w K Q else E := by
  have hw : Region.wanted o (yielded ops a.tmps) = true := by simp [Region.wanted, hgd]
  rw [if_pos hw]
  unfold Oper.wpIn
  refine ⟨by simp [Oper.about, ho, resolve, Target.leads, Sem.run_pure], ?_⟩
  rw [Oper.semAt_plain F _ _ (by rw [ho]; intro c hc'; cases hc')]
  simp [execOp, ho, resolve, invoke, builtin, hs, hx, hrun, Result.andThen]
  exact h
/-- How many nodes come. -/
def mostN (mo : Int) : Nat := max 1 mo.toNat
set_option maxHeartbeats 2000000 in
set_option maxRecDepth 100000 in
theorem Yields_any (n : Nd) (mo : Int) (hmo : -9223372036854775808 ≤ mo ∧ mo ≤ 9223372036854775807) (hE : EOf [] n) (hs : n.shapedB = true) (hz : n.size ≤ 400) (W : World) (hT : TokTab W) (hin : n.In W W.heap.size) :
    Calls Tryz.prog 17 #[n.val, .int .i64 mo] W (EvPost W (n.kinds.take (mostN mo))) := by
  show Calls _ _ #[.agg #[.string n.kd, .string n.tx, .slice n.ad n.ks.length n.cp], .int .i64 mo] W _
  generalize hll : n.kinds.take (mostN mo) = l
  have HLL := Lib.hid hll
  clear hll
  have hb2 : Below W.heap.size W (((W.alloc (.cells #[.string n.kd, .string n.tx, .slice n.ad n.ks.length n.cp] 24)).alloc (.cells #[.int .i64 mo] 3)).alloc (.cells #[.slice none 0 0] 34)) := (((Below.refl _ _).alloc (Nat.le_refl _) _).alloc (by simp) _).alloc (by simp; omega) _
  have hs2 : (((W.alloc (.cells #[.string n.kd, .string n.tx, .slice n.ad n.ks.length n.cp] 24)).alloc (.cells #[.int .i64 mo] 3)).alloc (.cells #[.slice none 0 0] 34)).heap.size = W.heap.size + 3 := by rw [World.size_alloc, World.size_alloc, World.size_alloc]
  have hob : Blk (((W.alloc (.cells #[.string n.kd, .string n.tx, .slice n.ad n.ks.length n.cp] 24)).alloc (.cells #[.int .i64 mo] 3)).alloc (.cells #[.slice none 0 0] 34)) (W.heap.size + 2) 34 #[.slice none 0 0] := by
    have := Blk.new ((W.alloc (.cells #[.string n.kd, .string n.tx, .slice n.ad n.ks.length n.cp] 24)).alloc (.cells #[.int .i64 mo] 3)) 34 #[.slice none 0 0]
    rwa [World.size_alloc, World.size_alloc] at this
  have hsb : Blk (((W.alloc (.cells #[.string n.kd, .string n.tx, .slice n.ad n.ks.length n.cp] 24)).alloc (.cells #[.int .i64 mo] 3)).alloc (.cells #[.slice none 0 0] 34)) (W.heap.size + 1) 3 #[.int .i64 mo] := by
    have := (Blk.new (W.alloc (.cells #[.string n.kd, .string n.tx, .slice n.ad n.ks.length n.cp] 24)) 3 #[.int .i64 mo]).alloc (.cells #[.slice none 0 0] 34)
    rwa [World.size_alloc] at this
  have HC := Lib.hid (build_any [] n hE _ (hT.below hb2) (hin.below hb2 (by rw [hs2]; omega)) none 0 ⟨Nat.le_refl _, Nat.zero_le _, fun j x hj => by simp at hj⟩ 0 rfl)
  have H0 := Lib.hid (And.intro hs (And.intro hT (And.intro hb2 (And.intro hob (And.intro hsb (And.intro hs2 hmo))))))
  clear hE hs hT hin hb2 hob hsb hs2 hmo
  refine (callsIn_wide (n := 8)).1 ?_
  refine callsIn_of_wp_marks Tryz.func17 rfl trivial ?_ rfl
  simp only [Tryz.ntmps17, List.size_toArray, List.length_cons, List.length_nil, Nat.reduceAdd, Nat.reduceSub, Array.replicate_succ, Array.replicate_zero, List.push_toArray, List.append_toArray, List.nil_append, List.cons_append]
  gi_wp2
  refine ⟨trivial, callsIn_wide.2 (HC.out.mono ?_)⟩
  clear HC
  rintro e w1 ⟨v, rfl, hX, hB1⟩
  obtain ⟨q, c, rfl⟩ := hX.form
  rw [H0.out.2.2.2.2.2.1] at hX hB1
  have hz1 := hB1.size
  rw [H0.out.2.2.2.2.2.1] at hz1
  have HX := Lib.hid (And.intro hX hB1)
  clear hX hB1
  gi_wp2
  refine ⟨trivial, callsIn_wide.2 ((Preorder_any q c w1).mono ?_)⟩
  rintro e w2 ⟨rfl, rfl⟩
  gi_wp2
  have hsa : (w1.alloc (.cells #[.iface q (.pointer (some ⟨c, 0, none⟩))] 53)).heap.size = w1.heap.size + 1 := World.size_alloc _ _
  have hba : Below w1.heap.size w1 (w1.alloc (.cells #[.iface q (.pointer (some ⟨c, 0, none⟩))] 53)) := Below.al _ _
  refine pre_loop (B := w1.heap.size + 1) (m := 6) (lo := W.heap.size + 3) (hi := w1.heap.size) (P := posOf []) (M := mostN mo) (id := 0) (rb := w1.heap.size) (I := fun s w => OutY W mo (W.heap.size + 2) (W.heap.size + 1) (W.heap.size + 3) (w1.heap.size + 1 + 4) (s.map (·.1.kd)) w)
    (a₁ := fun v => { tmps := #[.agg #[.string n.kd, .string n.tx, .slice n.ad n.ks.length n.cp], .int .i64 mo, .pointer (some ⟨W.heap.size, 0, none⟩), .pointer (some ⟨W.heap.size + 1, 0, none⟩), .slice none 0 0, .pointer (some ⟨W.heap.size + 1 + 1, 0, none⟩), v, .agg #[.string n.kd, .string n.tx, .slice n.ad n.ks.length n.cp], .iface q (.pointer (some ⟨c, 0, none⟩)), .func (.func 49) #[] #[.pointer (some ⟨w1.heap.size, 0, none⟩)], v, undef, undef, undef, undef, undef, undef, undef, undef, undef, undef], defers := [] })
    hsa rfl ?pl (by omega) (by omega) (by unfold mostN; omega) n H0.out.1 hz _ rfl (Blk.new w1 53 #[.iface q (.pointer (some ⟨c, 0, none⟩))]).cell0 ?hI ((Kp.of_kq (B := w1.heap.size) (.of_below hba) (Nat.le_refl _) (Nat.le_refl _)).ex HX.out.1) ?done ?stop
  case hI =>
    intro C hC h4
    have h3 : Below (W.heap.size + 3) w1 C := (hba.mono (by omega)).trans (hC.mono (by omega))
    have hb3 := HX.out.2.trans h3
    exact ⟨H0.out.2.2.1.trans (hb3.mono (by omega)), H0.out.2.1, ⟨by omega, by omega, by omega, by omega, by omega, by omega⟩, H0.out.2.2.2.2.1.below hb3 (by omega), none, 0, H0.out.2.2.2.1.below hb3 (by omega), World.ownsRow_nil _ _ _ _⟩
  case pl =>
    refine { keep := fun s A C h _ hk => h.kq (by omega) hk, one := rfl, asg := ?_, round := ?_ }
    · intro v W' K hK
      gi_wp2
      exact hK
    · intro pre x i v W' hs' hz' hlt h5 hI hsz hX'
      obtain ⟨q', c', rfl⟩ := hX'.form
      obtain ⟨A, cap, y0, hF⟩ := OutY.round (x := x.kd) hI (by rw [List.length_map]; exact h5)
      rw [List.length_map] at y0 hF
      have HF := Lib.hid hF
      have HK := Lib.hid (CallsIn.inRound (n := 5) (w1.heap.size + 1 + 1) (callsIn_wide.2 (kindOf_any (posOf []) x (node_any (posOf []) posOf_ni x hs' hz') W'.drew (W.heap.size + 3) w1.heap.size i _ hI.drew.tok (by show w1.heap.size ≤ W'.heap.size; omega) ((show Kp (W.heap.size + 3) w1.heap.size W' W'.drew from ⟨Nat.le_refl _, fun _ _ _ => rfl⟩).ex hX'))))
      have hmo : Tryz.prog.follows .mixedOrders = true := by kernel_rfl
      clear hI hX' hF
      gi_wp2
      refine wpIn_region_any hmo ?_
      change wpAnyIn _ _ _ _ _ _ _ _ _ (World.drew _)
      refine wpAnyIn_ready (rs := [0, 1]) (by kernel_rfl) (by simp) ?_
      refine AllReadyIn.cons rfl (fun K hK => ?_) (AllReadyIn.cons rfl (fun K hK => ?_) (AllReadyIn.nil))
      · go_simp
        refine hK _ _ ?_
        clear hK K
        refine wpAnyIn_ready (rs := [1]) (by kernel_rfl) (by simp) ?_
        refine AllReadyIn.cons rfl (fun K hK => ?_) (AllReadyIn.nil)
        go_simp
        refine hK _ _ ?_
        clear hK K
        refine wpAnyIn_ready (rs := [2]) (by kernel_rfl) (by simp) ?_
        refine AllReadyIn.cons rfl (fun K hK => ?_) (AllReadyIn.nil)
        go_simp
        refine ⟨trivial, ?_⟩
        refine HK.out.mono ?_
        rintro e w4 ⟨rfl, hb4⟩
        obtain ⟨A5, c5, w5, hrun, y3, z0, z1, z2, hp⟩ := HF.out w4 hb4
        have PU := Lib.hid hp
        clear hp hb4
        have y4 := (World.cell?_alloc_some w4 ⟨W.heap.size + 1 + 1, 0, none⟩ (.cells #[.string x.kd] 9) (by rw [y3]; rfl)).trans y3
        refine hK _ _ ?_
        clear hK K
        refine wpAnyIn_ready (rs := [3]) (by kernel_rfl) (by simp) ?_
        refine AllReadyIn.cons rfl (fun K hK => ?_) (AllReadyIn.nil)
        go_simp
        refine hK _ _ ?_
        clear hK K
        refine wpAnyIn_ready (rs := [4]) (by kernel_rfl) (by simp) ?_
        refine AllReadyIn.cons rfl (fun K hK => ?_) (AllReadyIn.nil)
        refine stepIn_append rfl _ _ rfl rfl rfl hrun ?_
        refine hK _ _ ?_
        clear hK K
        refine wpAnyIn_ready (rs := [5]) (by kernel_rfl) (by simp) ?_
        refine AllReadyIn.cons rfl (fun K hK => ?_) (AllReadyIn.nil)
        go_simp
        refine hK _ _ ?_
        clear hK K
        refine wpAnyIn_done (by kernel_rfl) ?_ _
        clear HK HF y0 y3 y4 hrun hmo
        gi_wp2
        all_goals exact ⟨by unfold mostN at *; omega, PU.out.2, PU.out.1⟩
      · go_simp
        refine hK _ _ ?_
        clear hK K
        refine wpAnyIn_ready (rs := [0, 2]) (by kernel_rfl) (by simp) ?_
        refine AllReadyIn.cons rfl (fun K hK => ?_) (AllReadyIn.cons rfl (fun K hK => ?_) (AllReadyIn.nil))
        · go_simp
          refine hK _ _ ?_
          clear hK K
          refine wpAnyIn_ready (rs := [2]) (by kernel_rfl) (by simp) ?_
          refine AllReadyIn.cons rfl (fun K hK => ?_) (AllReadyIn.nil)
          go_simp
          refine ⟨trivial, ?_⟩
          refine HK.out.mono ?_
          rintro e w4 ⟨rfl, hb4⟩
          obtain ⟨A5, c5, w5, hrun, y3, z0, z1, z2, hp⟩ := HF.out w4 hb4
          have PU := Lib.hid hp
          clear hp hb4
          have y4 := (World.cell?_alloc_some w4 ⟨W.heap.size + 1 + 1, 0, none⟩ (.cells #[.string x.kd] 9) (by rw [y3]; rfl)).trans y3
          refine hK _ _ ?_
          clear hK K
          refine wpAnyIn_ready (rs := [3]) (by kernel_rfl) (by simp) ?_
          refine AllReadyIn.cons rfl (fun K hK => ?_) (AllReadyIn.nil)
          go_simp
          refine hK _ _ ?_
          clear hK K
          refine wpAnyIn_ready (rs := [4]) (by kernel_rfl) (by simp) ?_
          refine AllReadyIn.cons rfl (fun K hK => ?_) (AllReadyIn.nil)
          refine stepIn_append rfl _ _ rfl rfl rfl hrun ?_
          refine hK _ _ ?_
          clear hK K
          refine wpAnyIn_ready (rs := [5]) (by kernel_rfl) (by simp) ?_
          refine AllReadyIn.cons rfl (fun K hK => ?_) (AllReadyIn.nil)
          go_simp
          refine hK _ _ ?_
          clear hK K
          refine wpAnyIn_done (by kernel_rfl) ?_ _
          clear HK HF y0 y3 y4 hrun hmo
          gi_wp2
          all_goals exact ⟨by unfold mostN at *; omega, PU.out.2, PU.out.1⟩
        · go_simp
          refine ⟨trivial, ?_⟩
          refine HK.out.mono ?_
          rintro e w4 ⟨rfl, hb4⟩
          obtain ⟨A5, c5, w5, hrun, y3, z0, z1, z2, hp⟩ := HF.out w4 hb4
          have PU := Lib.hid hp
          clear hp hb4
          have y4 := (World.cell?_alloc_some w4 ⟨W.heap.size + 1 + 1, 0, none⟩ (.cells #[.string x.kd] 9) (by rw [y3]; rfl)).trans y3
          refine hK _ _ ?_
          clear hK K
          refine wpAnyIn_ready (rs := [0, 3]) (by kernel_rfl) (by simp) ?_
          refine AllReadyIn.cons rfl (fun K hK => ?_) (AllReadyIn.cons rfl (fun K hK => ?_) (AllReadyIn.nil))
          · go_simp
            refine hK _ _ ?_
            clear hK K
            refine wpAnyIn_ready (rs := [3]) (by kernel_rfl) (by simp) ?_
            refine AllReadyIn.cons rfl (fun K hK => ?_) (AllReadyIn.nil)
            go_simp
            refine hK _ _ ?_
            clear hK K
            refine wpAnyIn_ready (rs := [4]) (by kernel_rfl) (by simp) ?_
            refine AllReadyIn.cons rfl (fun K hK => ?_) (AllReadyIn.nil)
            refine stepIn_append rfl _ _ rfl rfl rfl hrun ?_
            refine hK _ _ ?_
            clear hK K
            refine wpAnyIn_ready (rs := [5]) (by kernel_rfl) (by simp) ?_
            refine AllReadyIn.cons rfl (fun K hK => ?_) (AllReadyIn.nil)
            go_simp
            refine hK _ _ ?_
            clear hK K
            refine wpAnyIn_done (by kernel_rfl) ?_ _
            clear HK HF y0 y3 y4 hrun hmo
            gi_wp2
            all_goals exact ⟨by unfold mostN at *; omega, PU.out.2, PU.out.1⟩
          · go_simp
            refine hK _ _ ?_
            clear hK K
            refine wpAnyIn_ready (rs := [0]) (by kernel_rfl) (by simp) ?_
            refine AllReadyIn.cons rfl (fun K hK => ?_) (AllReadyIn.nil)
            go_simp
            refine hK _ _ ?_
            clear hK K
            refine wpAnyIn_ready (rs := [4]) (by kernel_rfl) (by simp) ?_
            refine AllReadyIn.cons rfl (fun K hK => ?_) (AllReadyIn.nil)
            refine stepIn_append rfl _ _ rfl rfl rfl hrun ?_
            refine hK _ _ ?_
            clear hK K
            refine wpAnyIn_ready (rs := [5]) (by kernel_rfl) (by simp) ?_
            refine AllReadyIn.cons rfl (fun K hK => ?_) (AllReadyIn.nil)
            go_simp
            refine hK _ _ ?_
            clear hK K
            refine wpAnyIn_done (by kernel_rfl) ?_ _
            clear HK HF y0 y3 y4 hrun hmo
            gi_wp2
            all_goals exact ⟨by unfold mostN at *; omega, PU.out.2, PU.out.1⟩
  case done =>
    intro W' hlt hI hD h4
    have hq := hI.kq (by omega) (.put (B := w1.heap.size + 1) W' (.deferred none) (Nat.le_refl _) (by omega))
    have hk : (n.pre 0).map (·.1.kd) = l := by
      rw [← HLL.out]
      rw [pre_kinds, List.take_of_length_le]
      have h := pre_kinds n 0
      rw [← h, List.length_map]
      exact Nat.le_of_lt hlt
    rw [hk] at hq
    obtain ⟨h1, _, h3, _, A, cap, hob, hown⟩ := hq
    have y0 : W'.cell? ⟨W.heap.size + 1 + 1, 0, none⟩ = some (.slice A l.length cap) := (World.cell?_of_block (a := ⟨W.heap.size + 1 + 1, 0, none⟩) (World.putObj_heap_other (w := W') (o := .deferred none) (by show W.heap.size + 1 + 1 ≠ w1.heap.size + 1; omega)).symm).trans hob.cell0
    have HI := Lib.hid (And.intro h1 hown)
    clear hob hown hI h1 hk
    gi_wp2
    refine ⟨by simp, .inl ⟨_, _, rfl, run_takeDeferred hD, ?_⟩⟩
    refine ⟨_, results_tmp rfl _ _ _, ?_⟩
    exact ⟨A, cap, rfl, own_lowT (base := w1.heap.size + 1 + 4) (base' := W.heap.size) HI.out.2 (by omega), HI.out.1⟩
  case stop =>
    intro W' hlt hI hD h4
    have hq := hI.kq (by omega) (.put (B := w1.heap.size + 1) W' (.deferred none) (Nat.le_refl _) (by omega))
    have hk : ((n.pre 0).take (mostN mo)).map (·.1.kd) = l := by
      rw [← HLL.out]
      rw [List.map_take, pre_kinds]
    rw [hk] at hq
    obtain ⟨h1, _, h3, _, A, cap, hob, hown⟩ := hq
    have y0 : W'.cell? ⟨W.heap.size + 1 + 1, 0, none⟩ = some (.slice A l.length cap) := (World.cell?_of_block (a := ⟨W.heap.size + 1 + 1, 0, none⟩) (World.putObj_heap_other (w := W') (o := .deferred none) (by show W.heap.size + 1 + 1 ≠ w1.heap.size + 1; omega)).symm).trans hob.cell0
    have HI := Lib.hid (And.intro h1 hown)
    clear hob hown hI h1 hk
    gi_wp2
    refine ⟨by simp, .inl ⟨_, _, rfl, run_takeDeferred hD, ?_⟩⟩
    refine ⟨_, results_tmp rfl _ _ _, ?_⟩
    exact ⟨A, cap, rfl, own_lowT (base := w1.heap.size + 1 + 4) (base' := W.heap.size) HI.out.2 (by omega), HI.out.1⟩
end Go.Proofs.YtlpnepgljdhpkaaGreatFmt
