/-
  A step of a drawn region in a round of a loop over a function that reads no memory and calls nothing may be taken first, if nothing else in the region looks at what it writes: the library has this for regions outside rounds.
  impl.Places: the spans of the nodes of Preorder.
  append([]int{}, at...): a row of its own.
  slices.Equal of two rows of spans that are the same.
-/
import Derived.Test.YtjbhjbpamnoebaaGreatFmtL5
import Derived.OwnWalkIn
import Derived.Test.YtjbhjbpamnoebaaGreatFmtL4
import Derived.Test.YtjbhjbpamnoebaaGreatFmtWc
import Derived.Test.YtjbhjbpamnoebaaGreatFmtGe
namespace Go.Proofs.YtjbhjbpamnoebaaGreatFmt
open Go.RowKit Go.Shelf

section
variable {F : Fence} {n : Nat} {P : Program} {ops : Array Oper} {Q : Exit → Act → World → Prop} {md : Region.Mode}
/-- No operation puts a call off. -/
def Plain (ops : Array Oper) : Prop := ∀ (j : Nat) (o : Oper), ops[j]? = some o → ∀ c, o.op ≠ .defer c
theorem plain_of (h : ops.all (fun o => match o.op with | .defer _ => false | _ => true) = true) : Plain ops := fun j o ho c hc => by
  have := Array.all_eq_true_iff_forall_mem.1 h o (Array.mem_of_getElem? ho)
  rw [hc] at this
  cases this
theorem still_now {i : Nat} {o : Oper} {v : Value} {a : Act} {w : World} {K : Act → World → Prop} (hp : Plain ops) (hi : ops[i]? = some o) (hy : YieldsFenced P ops o v a) (h : K (a.put o.dst v) w) : wpOpIn F n P ops Q i K a w := by
  have hnone : ∀ f, o.about P w a.eval = some f → F.fn f := fun f hf => absurd (hf.symm.trans (hy.2 w)) (by simp)
  unfold wpOpIn
  rw [hi]
  dsimp only
  rcases hy.1 with ⟨hw, hv⟩ | ⟨hw, rfl⟩
  · rw [if_pos hw, Oper.wpIn, Oper.semAt_plain F _ _ (hp i o hi), hv w]
    exact ⟨hnone, h⟩
  · rw [if_neg (by rw [hw]; exact Bool.false_ne_true)]
    exact ⟨hnone, h⟩
/-- Another operation, the still one being done: it does as before, and the still one stays still. -/
theorem still_past {j : Nat} {s o : Oper} {v : Value} {a : Act} {w : World} {K : Act → World → Prop} (hp : Plain ops) (hj : ops[j]? = some o) (hap : s.apart ops o = true) (hs : ∀ cs b, s.op ≠ .select cs b) (ho : ∀ cs b, o.op ≠ .select cs b)
    (hQ : ∀ c a w, Q (.panic c) (a.put s.dst v) w → Q (.panic c) a w) (hy : YieldsFenced P ops s v a) (h : wpOpIn F n P ops Q j K (a.put s.dst v) w) :
    wpOpIn F n P ops Q j (fun a' w' => YieldsFenced P ops s v a' ∧ K (a'.put s.dst v) w') a w := by
  obtain ⟨h1, h2, h3⟩ := Oper.apart_spec hap
  have stay : ∀ b : Act, YieldsFenced P ops s v b → ∀ u, YieldsFenced P ops s v (b.put o.dst u) := fun b hb u =>
    hb.of_same (execOp_put s hs b o.dst u h3) (wanted_put s b o.dst u h3) fun w => about_put s w b o.dst u h3
  have later : ∀ (b : Act), YieldsFenced P ops s v b → ∀ (u : Value) (w' : World), K ((b.put s.dst v).put o.dst u) w' → YieldsFenced P ops s v (b.put o.dst u) ∧ K ((b.put o.dst u).put s.dst v) w' := fun b hb u w' hk =>
    ⟨stay b hb u, by rw [← Act.put_comm b v u h2]; exact hk⟩
  unfold wpOpIn at h ⊢
  rw [hj] at h ⊢
  dsimp only at h ⊢
  rw [wanted_put o a s.dst v h1, about_put o w a s.dst v h1] at h
  by_cases hw : Region.wanted o (yielded ops a.tmps) = true
  · rw [if_pos hw] at h ⊢
    unfold Oper.wpIn at h ⊢
    rw [about_put o w a s.dst v h1, Oper.semAt_plain F _ _ (hp j o hj), execOp_put o ho a s.dst v h1] at h
    rw [Oper.semAt_plain F _ _ (hp j o hj)]
    refine ⟨h.1, ?_⟩
    replace h := h.2
    generalize (execOp a.eval o).run P w = r at h ⊢
    rcases r with ⟨x, w'⟩ | ⟨x, w'⟩
    · cases x <;> simp only [Oper.uponIn] at h ⊢
      case value u => exact later a hy u w' h
      case skip => exact later a hy undef w' h
      case defer d =>
        refine later { a with defers := d :: a.defers } (hy.of_same rfl rfl fun _ => rfl) undef w' ?_
        rw [← Act.put_defers]
        exact h
      case enter f args =>
        refine ⟨h.1, CallsIn.mono h.2 fun e w2 he => ?_⟩
        cases e with
        | returned u => exact later a hy u w2 he
        | panicked c => exact hQ _ _ _ he
        | outgrown => exact he
      case row row args => exact ⟨h.1, RowsIn.mono h.2 fun u w2 he => later a hy u w2 he⟩
      case round l f tmps assign body =>
        refine ⟨h.1, RoundIn.mono h.2 fun e w2 he => ?_⟩
        cases e with
        | returned u => exact later a hy u w2 he
        | panicked c => exact hQ _ _ _ he
        | outgrown => exact he
    · cases x <;> simp only [Oper.uponIn] at h ⊢
      case panic u => exact hQ _ _ _ h
  · rw [if_neg hw] at h ⊢
    exact ⟨h.1, later a hy undef w h.2⟩
theorem still_first {i : Nat} {s : Oper} {v : Value} (hp : Plain ops) (hi : ops[i]? = some s) (hsel : ∀ (j : Nat) (o : Oper) cs b, ops[j]? = some o → o.op ≠ .select cs b)
    (hQ : ∀ c a w, Q (.panic c) (a.put s.dst v) w → Q (.panic c) a w) : ∀ (fuel : Nat) (listed : Array Bool) (a : Act) (w : World),
      (∀ j o, ops[j]? = some o → j ≠ i → listed.getD j true = false → (∀ e ∈ o.after, Region.binds md e = true → e.on ≠ i) → s.apart ops o = true) →
      i ∈ Region.ready md ops listed → YieldsFenced P ops s v a →
      wpAnyIn F n P md ops Q fuel (listed.setIfInBounds i true) (a.put s.dst v) w → wpAnyIn F n P md ops Q (fuel + 1) listed a w
  | fuel, listed, a, w, hfree, hr, hy, H => by
    refine ⟨fun h => (by rw [h] at hr; cases hr), fun j hj => ?_⟩
    by_cases hji : j = i
    · subst hji
      exact still_now hp hi hy H
    have hj' := ready_mono hj hji
    match fuel, H with
    | 0, H =>
      rw [H.1] at hj'
      cases hj'
    | fuel + 1, H =>
      have h1 := H.2 j hj'
      obtain ⟨hjun, o, ho, hall⟩ := mem_ready.1 hj
      have hun := (mem_ready.1 hr).1
      have hnot : ∀ e ∈ o.after, Region.binds md e = true → e.on ≠ i := fun e he hb heq => by
        have q := hall e he hb
        rw [heq] at q
        rcases Nat.lt_or_ge i listed.size with h' | h'
        · simp [h'] at hun q
          rw [hun] at q
          cases q
        · simp [Array.getElem?_eq_none h'] at q
      have h2 := still_past hp ho (hfree j o ho hji hjun hnot) (fun cs b => hsel i s cs b hi) (fun cs b => hsel j o cs b ho) hQ hy h1
      refine wpOpIn_mono (fun a' w' h3 => still_first hp hi hsel hQ fuel (listed.setIfInBounds j true) a' w' (fun k ok hk hki hu hno => hfree k ok hk hki ?_ hno) (ready_mono hr (Ne.symm hji)) h3.1 ?_) h2
      · by_cases hjk : j = k
        · subst hjk
          exact hjun
        · rwa [getD_set_ne true hjk] at hu
      · rw [Array.setIfInBounds_comm _ _ hji]
        exact h3.2
theorem still_take {i : Nat} {s : Oper} {v : Value} {fuel : Nat} {listed : Array Bool} {a : Act} {w : World} (hp : Plain ops) (hi : ops[i]? = some s) (hs : Region.noSelect ops = true) (hf : Region.free md ops listed i = true) (hr : (Region.ready md ops listed).contains i = true)
    (hQ : ∀ c a w, Q (.panic c) (a.put s.dst v) w → Q (.panic c) a w) (hy : YieldsFenced P ops s v a) (h : wpAnyIn F n P md ops Q fuel (listed.setIfInBounds i true) (a.put s.dst v) w) : wpAnyIn F n P md ops Q (fuel + 1) listed a w :=
  still_first hp hi (Region.noSelect_spec hs) hQ fuel listed a w (Region.free_spec hi hf) (by simpa using hr) hy h
/-- A move. -/
theorem still_move {o : Oper} {x : Operand} {a : Act} (hg : o.guard = none) (ho : o.op = .move x) : YieldsFenced P ops o (a.eval x) a := by
  refine ⟨.inl ⟨by simp [Region.wanted, hg], fun w => ?_⟩, fun w => ?_⟩
  · simp [execOp, ho, Sem.run_pure]
  · simp [Oper.about, ho]
end
end Go.Proofs.YtjbhjbpamnoebaaGreatFmt

namespace Go.Proofs.YtjbhjbpamnoebaaGreatFmt
open Go.RowKit Go.Shelf
attribute [local go_sem] Oper.semAt_some

/-- The cells of spans. -/
def spCells (x : ByteArray × Int × Int) : List Value := [.string x.1, .int .i64 x.2.1, .int .i64 x.2.2]
def flatP : List (ByteArray × Int × Int) → List Value
  | [] => []
  | x :: l => spCells x ++ flatP l
theorem flatP_append (a b : List (ByteArray × Int × Int)) : flatP (a ++ b) = flatP a ++ flatP b := by
  induction a with
  | nil => rfl
  | cons x a ih => rw [List.cons_append, flatP, flatP, ih, List.append_assoc]
/-- What the loop has kept: in the variable in block ob, its row behind hi. -/
def OutP (W0 : World) (ob lo hi : Nat) (out : List (ByteArray × Int × Int)) (w : World) : Prop :=
  Below W0.heap.size W0 w ∧ TokTab W0 ∧ (W0.heap.size ≤ ob ∧ ob < lo ∧ lo ≤ hi ∧ hi ≤ w.heap.size) ∧ ∃ A cap, Blk w ob 27 #[.slice A out.length cap] ∧ w.ownsRow hi 29 3 (.slice A out.length cap) out.length (flatP out)
/-- What Places leaves. -/
def SpPost (W : World) (l : List (ByteArray × Int × Int)) (e : Ending) (w : World) : Prop := ∃ A cap, e = .returned (.slice A l.length cap) ∧ w.ownsRow W.heap.size 29 3 (.slice A l.length cap) l.length (flatP l) ∧ Below W.heap.size W w
section
variable {W0 w w' : World} {ob lo hi : Nat} {out : List (ByteArray × Int × Int)}
theorem OutP.next (h : OutP W0 ob lo hi out w) (hb : Below w.heap.size w w') : OutP W0 ob lo hi out w' := by
  obtain ⟨h1, h2, h3, A, cap, h7, h8⟩ := h
  have hs := hb.size
  exact ⟨h1.trans (hb.mono h1.size), h2, ⟨h3.1, h3.2.1, h3.2.2.1, by omega⟩, A, cap, h7.below hb h7.lt, own_keep h8 fun g _ hg => hb.block g hg⟩
theorem OutP.kq {B : Nat} (h : OutP W0 ob lo (B + 4) out w) (hlo : lo ≤ B) (hk : Kq B w w') : OutP W0 ob lo (B + 4) out w' := by
  obtain ⟨h1, h2, h3, A, cap, h7, h8⟩ := h
  obtain ⟨k1, k2, k3, k4, k5⟩ := hk
  have hw := h1.size
  have hob := h7.lt
  refine ⟨h1.trans ⟨k1, k2, k3, k4, fun b hb => k5 b (by omega) (.inl (by omega))⟩, h2, ⟨h3.1, h3.2.1, h3.2.2.1, by omega⟩, A, cap, h7.keep (k5 _ hob (.inl (by omega))), ?_⟩
  obtain ⟨h0, h9 | ⟨g, c, cur, he, q1, q2, q3⟩⟩ := h8
  · exact ⟨h0, .inl h9⟩
  · exact ⟨h0, .inr ⟨g, c, cur, he, q1, (k5 g (Array.getElem?_eq_some_iff.1 q2).1 (.inr q1)).trans q2, q3⟩⟩
theorem OutP.drew (h : OutP W0 ob lo hi out w) : OutP W0 ob lo hi out w.drew := ⟨h.1.drew, h.2⟩
theorem OutP.tok (h : OutP W0 ob lo hi out w) : TokTab w := h.2.1.below h.1
theorem OutP.push (h : OutP W0 ob lo hi out w) {v' : Value} {x : ByteArray × Int × Int} {sv : Value} (hsv : Blk w ob 27 #[sv])
    (hown : w'.ownsRow hi 29 3 v' (out.length + 1) (flatP out ++ spCells x)) (hg : w.grownBy w' sv.ownBlock) : OutP W0 ob lo hi (out ++ [x]) (w'.setCell ⟨ob, 0, none⟩ v') ∧ Kp lo hi w (w'.setCell ⟨ob, 0, none⟩ v') := by
  obtain ⟨h1, h2, ⟨h3, h4, h5, h6⟩, A, cap, h7, h8⟩ := h
  have he : some (Obj.cells #[Value.slice A out.length cap] 27 (0, 0)) = some (.cells #[sv] 27 (0, 0)) := h7.symm.trans hsv
  obtain rfl : sv = .slice A out.length cap := by
    have := Option.some.inj he
    simp only [Obj.cells.injEq] at this
    simpa using this.1.symm
  have hs := hg.size
  have hrow : ∀ g, (Value.slice A out.length cap).ownBlock = some g → hi ≤ g ∧ g < w.heap.size := fun g hg' => own_ge h8 hg'
  have hkeep : ∀ b, b < hi → w'.heap[b]? = w.heap[b]? := fun b hb => hg.block b (by omega) (fun e => by have := (hrow b e.symm).1; omega)
  have hbw : Below W0.heap.size W0 w' := h1.trans ⟨hg.os, hg.tape, hg.output, hg.size, fun b hb => hkeep b (by omega)⟩
  obtain ⟨A', cap', rfl⟩ : ∃ A' cap', v' = .slice A' (out.length + 1) cap' := own_formT hown
  have hblk' : Blk w' ob 27 #[.slice A out.length cap] := h7.keep (hkeep ob (by omega))
  have hlen : (out ++ [x]).length = out.length + 1 := by simp
  refine ⟨⟨hbw.setCell h3 _, h2, ⟨h3, h4, h5, by simp [World.setCell]; omega⟩, A', cap', ?_, ?_⟩, by simp [World.setCell]; omega, fun b hb1 hb2 => ?_⟩
  · rw [hlen]
    exact hblk'.set_ 0 (.slice A' (out.length + 1) cap')
  · rw [hlen, flatP_append, flatP, flatP, List.append_nil]
    obtain ⟨h0, ⟨he', hn⟩ | ⟨g, c, cur, he', k1, k2, k3⟩⟩ := hown
    · omega
    · refine ⟨h0, .inr ⟨g, c, cur, he', k1, (Below.heap_setCell _ _ _ _ (by show g ≠ ob; omega)).trans k2, k3⟩⟩
  · rw [Below.heap_setCell _ _ _ _ (by show b ≠ ob; omega)]
    exact hkeep b hb2
theorem sp_one (x : ByteArray × Int × Int) : ∀ u ∈ spCells x, u.oneCell' = true := by
  intro u hu
  rcases List.mem_cons.1 hu with rfl | hu
  · rfl
  rcases List.mem_cons.1 hu with rfl | hu
  · rfl
  rw [List.mem_singleton.1 hu]
  rfl
/-- A round: what append then gives, and what stands behind it. -/
theorem OutP.round (h : OutP W0 ob lo hi out w) (h5 : out.length < 5000) : ∃ A cap, Blk w.drew ob 27 #[.slice A out.length cap] ∧ ∀ (x : ByteArray × Int × Int) w4, Below w.drew.heap.size w.drew w4 → ∃ A5 c5 w5,
    Sem.run Tryz.prog (Builtin.append_ #[27, 27] 27 #[.slice A out.length cap, .slice (some ⟨w4.heap.size, 0, none⟩) 1 1]) (w4.alloc (.cells #[.string x.1, .int .i64 x.2.1, .int .i64 x.2.2] 29)) = .ok (.slice A5 (out.length + 1) c5) w5 ∧
    w4.cell? ⟨ob, 0, none⟩ = some (.slice A out.length cap) ∧ w5.cell? ⟨ob, 0, none⟩ = some (.slice A out.length cap) ∧ w5.frozen? ⟨ob, 0, none⟩ = false ∧
    OutP W0 ob lo hi (out ++ [x]) (w5.setCell ⟨ob, 0, none⟩ (.slice A5 (out.length + 1) c5)) ∧ Kp lo hi w (w5.setCell ⟨ob, 0, none⟩ (.slice A5 (out.length + 1) c5)) := by
  obtain ⟨_, _, hzs, A, cap, hob, hown⟩ := id h
  obtain ⟨i0, hi9, hz90, hz91, hz92⟩ := info_parts infoS
  refine ⟨A, cap, hob.drew, fun x w4 hb4 => ?_⟩
  have hz4 : w.heap.size ≤ w4.heap.size := hb4.size
  have hO := h.drew.next hb4
  have hob4 := hob.drew.below hb4 hob.lt
  have hown4 := own_keep hown (fun g _ hg => hb4.block g hg)
  obtain ⟨v5, w5, hrun, hown5, hgr5, _, _⟩ := run_append_own_at (P := Tryz.prog) (w4.alloc (.cells #[.string x.1, .int .i64 x.2.1, .int .i64 x.2.2] 29)) hi 27 27 29 i0 (.agg #[.string ⟨#[]⟩, .int .i64 0, .int .i64 0]) 3 32 underS hi9 hz90 hz91 hz92 rfl (by decide) _ _ _ (own_keep hown4 (fun g _ hg => Below.heap_alloc w4 _ g hg)) ⟨w4.heap.size, 0, none⟩ 1 1 (spCells x) rfl (World.news_of_block (Blk.new w4 _ _)) (sp_one x) (by unfold maxLen; omega) (by omega) (by rw [World.size_alloc]; omega)
  obtain ⟨A5, c5, rfl⟩ := own_formT hown5
  have hgr := grown_trans (World.grownBy_alloc w4 _ _) hgr5
  obtain ⟨hp1, hp2⟩ := hO.push (x := x) hob4 hown5 hgr
  have hk : ∀ b, b < hi → w5.heap[b]? = w4.heap[b]? := fun b hb => hgr.block b (by omega) (fun e => by have := own_ge hown4 e.symm; omega)
  refine ⟨A5, c5, w5, hrun, hob4.cell0, (hob4.keep (hk _ (by omega))).cell0, (hob4.keep (hk _ (by omega))).frozen 0, hp1, Kp.trans ⟨hz4, fun b _ hb => hb4.block b (by show b < w.heap.size; omega)⟩ hp2⟩
end
/-- What a node's method gives, in all worlds that keep the node. -/
theorem MOf.all {nm : String} {T : TypeId} {b : Nat} {G : Int → Prop} {Q : World → Prop} (h : ∀ w, Q w → MOf nm w (.iface T (.pointer (some ⟨b, 0, none⟩))) G) (w0 : World) (h0 : Q w0) :
    ∃ f, (∀ w', Sem.run Tryz.prog (method 438 T (.pointer (some ⟨b, 0, none⟩)) nm) w' = .ok (f, .pointer (some ⟨b, 0, none⟩)) w') ∧ (∀ args w', Sem.run Tryz.prog (callFunc f args) w' = .ok (.enter f args) w') ∧
      ∀ w, Q w → Calls Tryz.prog f #[.pointer (some ⟨b, 0, none⟩)] w fun e w' => (∃ r, e = .returned (.int .i64 r) ∧ G r) ∧ Below w.heap.size w w' := by
  obtain ⟨T1, b1, f, he, hm, hc, _⟩ := h w0 h0
  cases he
  refine ⟨f, hm, hc, fun w hw => ?_⟩
  obtain ⟨T2, b2, f2, he2, hm2, _, hC⟩ := h w hw
  cases he2
  have h3 := (hm w0).symm.trans (hm2 w0)
  cases h3
  exact hC
/-- The span of a node; its end is told if the node's texts are short. -/
def SpOf (P : Nat → Int) (x : Nd × Nat) (y : ByteArray × Int × Int) : Prop := y.1 = x.1.kd ∧ y.2.1 = P x.2 ∧ (x.1.shortB = true → y.2.2 = endOf P x.2 x.1)
inductive SpL (P : Nat → Int) : List (Nd × Nat) → List (ByteArray × Int × Int) → Prop
  | nil : SpL P [] []
  | cons {x : Nd × Nat} {y : ByteArray × Int × Int} {s : List (Nd × Nat)} {out : List (ByteArray × Int × Int)} (h : SpOf P x y) (hs : SpL P s out) : SpL P (x :: s) (y :: out)
theorem SpL.len {P : Nat → Int} {s : List (Nd × Nat)} {out : List (ByteArray × Int × Int)} (h : SpL P s out) : out.length = s.length := by
  induction h with
  | nil => rfl
  | cons _ _ ih => rw [List.length_cons, List.length_cons, ih]
theorem SpL.snoc {P : Nat → Int} {s : List (Nd × Nat)} {out : List (ByteArray × Int × Int)} {x : Nd × Nat} {y : ByteArray × Int × Int} (h : SpL P s out) (hx : SpOf P x y) : SpL P (s ++ [x]) (out ++ [y]) := by
  induction h with
  | nil => exact .cons hx .nil
  | cons h1 _ ih => exact .cons h1 ih
theorem spOf_all {P : Nat → Int} : ∀ {s : List (Nd × Nat)} {out : List (ByteArray × Int × Int)}, SpL P s out → (∀ x ∈ s, x.1.shortB = true) → out = s.map fun x => (x.1.kd, P x.2, endOf P x.2 x.1)
  | _, _, .nil, _ => rfl
  | _, _, .cons (x := x) (y := y) h hs, hx => by
    obtain ⟨h1, h2, h3⟩ := h
    rw [List.map_cons, ← spOf_all hs fun z hz => hx z (List.mem_cons_of_mem _ hz), ← h3 (hx x (List.mem_cons_self ..)), ← h1, ← h2]
theorem preL_short : ∀ (ks : List Nd) (is : List Nat) (x : Nd × Nat), is.length = ks.length → (∀ k ∈ ks, ∀ i, ∀ x ∈ k.pre i, x.1.shortB = true) → x ∈ preL is ks → x.1.shortB = true := fun ks is x hl h hx => by
  obtain ⟨q, s, k, _, h2, h3⟩ := preL_mem ks is x hl hx
  exact h k (List.mem_of_getElem? h2) s x h3
theorem pre_short : ∀ n : Nd, n.shapedB = true → n.shortB = true → ∀ i, ∀ x ∈ n.pre i, x.1.shortB = true := by
  refine Nd.ind fun n ih h hs i x hx => ?_
  have h' := h
  rw [Nd.shapedB_eq, Bool.and_eq_true, List.all_eq_true] at h'
  have hm : manyC (kcode n.kd) n.tx n.ks.length = true := h'.2
  have hs' := hs
  rw [Nd.shortB_eq, Bool.and_eq_true, List.all_eq_true] at hs'
  rw [pre_eq] at hx
  rcases List.mem_cons.1 hx with rfl | hx
  · exact hs
  rcases List.mem_append.1 hx with hx | hx
  · exact preL_short _ _ x (by rw [starts_len hm (by rw [List.length_map]), List.length_map]) (fun k hk => ih k hk (h'.1 k hk) (hs'.2 k hk)) hx
  · unfold selPre at hx
    split at hx
    · obtain rfl := List.mem_singleton.1 hx
      show (nmNd n.tx).shortB = true
      rw [Nd.shortB_eq, Bool.and_eq_true]
      exact ⟨hs'.1, rfl⟩
    · cases hx
theorem spans_of {P : Nat → Int} {n : Nd} (h : n.shapedB = true) (hs : n.shortB = true) {out : List (ByteArray × Int × Int)} (ho : SpL P (n.pre 0) out) : out = spansOf P n :=
  spOf_all ho (pre_short n h hs 0)
end Go.Proofs.YtjbhjbpamnoebaaGreatFmt

namespace Go.Proofs.YtjbhjbpamnoebaaGreatFmt
open Go.RowKit Go.Shelf
attribute [local go_sem] Oper.semAt_some

/-- append([]int{}, at...): a new row. -/
theorem ints_copy (w2 : World) (G : Option Addr) (gc : Nat) (ps : List Int) (hG : w2.ownsRow 0 3 1 (.slice G ps.length gc) ps.length (flatI ps)) (hp0 : 0 < ps.length) (hp5 : ps.length ≤ 100000) :
    ∃ A cap w5, Sem.run Tryz.prog (Builtin.append_ #[33, 33] 33 #[.slice (some ⟨w2.heap.size, 0, none⟩) 0 0, .slice G ps.length gc]) (w2.drew.alloc (.cells #[] 3)) = .ok (.slice A ps.length cap) w5 ∧
      PsAt w5 A cap ps w5.heap.size ∧ Below w2.heap.size w2 w5 := by
  obtain ⟨i0, hi, hz0, hz1, hz2⟩ := info_parts infoI
  have hsz : (w2.drew.alloc (.cells #[] 3)).heap.size = w2.heap.size + 1 := World.size_alloc _ _
  have hown : (w2.drew.alloc (.cells #[] 3)).ownsRow w2.heap.size 3 1 (.slice (some ⟨w2.heap.size, 0, none⟩) 0 0) 0 [] := World.ownsRow_made (base := w2.heap.size) (e := 3) (size := 1) w2.drew #[] 0 (Nat.le_refl _) (Nat.zero_le _) rfl
  obtain ⟨h20, ⟨he, hn⟩ | ⟨g, cap, cur, he, k1, k2, k3, k4, k5, k6⟩⟩ := hG
  · omega
  cases he
  have hg : g < w2.heap.size := (Array.getElem?_eq_some_iff.1 k2).1
  have k2' : (w2.drew.alloc (.cells #[] 3)).heap[g]? = some (.cells cur 3 (0, 0)) := (Below.heap_alloc w2.drew _ g hg).trans k2
  obtain ⟨v5, w5, hrun, hown5, hgr5, _, _⟩ := run_append_own_at (P := Tryz.prog) (w2.drew.alloc (.cells #[] 3)) w2.heap.size 33 33 3 i0 (.int .i64 0) 1 8 underIs hi hz0 hz1 hz2 rfl (by decide) _ _ _ hown ⟨g, 0, none⟩ ps.length gc (flatI ps) h20 (row_cells h20 k2' k6 k3) (by intro u hu; obtain ⟨x, _, rfl⟩ := List.mem_map.1 hu; rfl) (by unfold maxLen; omega) (by omega) (by rw [hsz]; omega)
  rw [Nat.zero_add, List.nil_append] at hown5
  obtain ⟨A, c5, rfl⟩ := own_formT hown5
  have hb : Below w2.heap.size w2 w5 := (((Below.refl w2.heap.size w2).drew).alloc (Nat.le_refl _) _).trans (below_own hown hgr5 (Nat.le_refl _) (by rw [hsz]; omega))
  refine ⟨A, c5, w5, hrun, ?_, hb⟩
  obtain ⟨q0, ⟨he, hn⟩ | ⟨g', cap', cur', he, r1, r2, r3, r4, r5, r6⟩⟩ := hown5
  · omega
  cases he
  refine ⟨r3, r4, fun j x hj => ⟨g', 0, rfl, (Array.getElem?_eq_some_iff.1 r2).1, ?_⟩⟩
  have hx : (flatI ps)[j]? = some (.int .i64 x) := by rw [flatI, List.getElem?_map, hj]; rfl
  have h := row_cells q0 r2 r6 r3 j _ hx
  have hadd : (⟨g', 0, none⟩ : Addr).add j = ⟨g', 0 + j, none⟩ := by unfold Addr.add; split <;> simp_all
  rwa [hadd] at h
end Go.Proofs.YtjbhjbpamnoebaaGreatFmt

namespace Go.Proofs.YtjbhjbpamnoebaaGreatFmt
open Go.RowKit

theorem flatP_at {l : List (ByteArray × Int × Int)} {j : Nat} {x : ByteArray × Int × Int} (h : l[j]? = some x) : (flatP l)[j * 3]? = some (.string x.1) ∧ (flatP l)[j * 3 + 1]? = some (.int .i64 x.2.1) ∧ (flatP l)[j * 3 + 2]? = some (.int .i64 x.2.2) := by
  induction l generalizing j with
  | nil => simp at h
  | cons y l ih =>
    cases j with
    | zero => simp at h; subst h; exact ⟨rfl, rfl, rfl⟩
    | succ j =>
      have := ih (j := j) (by simpa using h)
      rw [show (j + 1) * 3 = j * 3 + 3 by omega]
      exact this
/-- The cells of a row of spans. -/
def PlAt (w : World) (A : Option Addr) (l : List (ByteArray × Int × Int)) : Prop := ∀ (j : Nat) (x : ByteArray × Int × Int), l[j]? = some x → ∃ g, A = some ⟨g, 0, none⟩ ∧ w.cell? ⟨g, j * 3, none⟩ = some (.string x.1) ∧ w.cell? ⟨g, j * 3 + 1, none⟩ = some (.int .i64 x.2.1) ∧ w.cell? ⟨g, j * 3 + 2, none⟩ = some (.int .i64 x.2.2)
theorem PlAt.of {w : World} {base m c : Nat} {A : Option Addr} {l : List (ByteArray × Int × Int)} (h : w.ownsRow base 29 3 (.slice A m c) l.length (flatP l)) : PlAt w A l := by
  intro j x hj
  obtain ⟨h0, ⟨he, hn⟩ | ⟨g, cap', cur, he, k1, k2, k3, k4, k5, k6⟩⟩ := h
  · obtain rfl := List.length_eq_zero_iff.1 hn
    simp at hj
  · cases he
    have hjl : j < l.length := (List.getElem?_eq_some_iff.1 hj).1
    have hf := flatP_at hj
    have hcell : ∀ q, q < l.length * 3 → w.cell? ⟨g, q, none⟩ = (flatP l)[q]? := fun q hq => by
      rw [cell_of_row w g q cur 29 (0, 0) k2, ← k6, List.getElem?_take_of_lt hq]
      simp
    exact ⟨g, rfl, (hcell _ (by omega)).trans hf.1, (hcell _ (by omega)).trans hf.2.1, (hcell _ (by omega)).trans hf.2.2⟩
theorem PlAt.below {w w' : World} {A : Option Addr} {l : List (ByteArray × Int × Int)} (h : PlAt w A l) (hb : Below w.heap.size w w') : PlAt w' A l := fun j x hj => by
  obtain ⟨g, rfl, h1, h2, h3⟩ := h j x hj
  have hg : g < w.heap.size := World.block_lt_of_cell? w _ h1
  exact ⟨g, rfl, (hb.cell (p := ⟨g, j * 3, none⟩) hg).trans h1, (hb.cell (p := ⟨g, j * 3 + 1, none⟩) hg).trans h2, (hb.cell (p := ⟨g, j * 3 + 2, none⟩) hg).trans h3⟩
set_option maxRecDepth 100000 in
theorem eqP_any (l : List (ByteArray × Int × Int)) (W : World) (A A' : Option Addr) (c c' n : Nat) (hn : l.length = n) (hm : n ≤ 5000) (h1 : PlAt W A l) (h2 : PlAt W A' l) :
    Calls Tryz.prog 8 #[.slice A n c, .slice A' n c'] W fun e w => e = .returned (.bool true) ∧ Below W.heap.size W w := by
  have hM : n ≤ 9223372036854775807 := by omega
  have HA := Lib.hid h1
  have HB := Lib.hid h2
  clear h1 h2
  go_enter Tryz.func8, Tryz.ntmps8
  go_wp2_with fail
  go_loopw [13] (fun i' wr => ∃ j : Nat, i' = .int .i64 j ∧ j ≤ n ∧ Below W.heap.size W wr) (fun i' _ => n - (intOf i').toNat)
  case atStart => exact ⟨0, rfl, Nat.zero_le _, Below.refl _ _⟩
  case round =>
    obtain ⟨j, rfl, hj, hb⟩ := hrel
    have HW := Lib.hid hb
    by_cases hlt : j < n
    · obtain ⟨g, rfl, e1, e2, e3⟩ := HA.out.below hb j l[j] (List.getElem?_eq_getElem (by omega))
      obtain ⟨g', rfl, e1', e2', e3'⟩ := HB.out.below hb j l[j] (List.getElem?_eq_getElem (by omega))
      generalize l[j] = x at e1 e2 e3 e1' e2' e3'
      clear hb
      go_wp2_with fail
      go_quiet (fail)
      go_wp2_with fail
      go_roundw
      case rel => exact ⟨j + 1, by go_num, by omega, below_drewN HW.out _⟩
      case measure => simp [intOf]; omega
    · clear hb
      go_wp2_with fail
      go_ret
      exact ⟨rfl, HW.out⟩
end Go.Proofs.YtjbhjbpamnoebaaGreatFmt
