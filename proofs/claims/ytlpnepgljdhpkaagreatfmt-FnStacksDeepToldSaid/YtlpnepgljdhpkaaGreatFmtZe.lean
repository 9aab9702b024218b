/-
  ast.PreorderStack: the function that it hands to Inspect.
-/
import Derived.Test.YtlpnepgljdhpkaaGreatFmtZc
import Derived.Test.YtlpnepgljdhpkaaGreatFmtOb
namespace Go.Proofs.YtlpnepgljdhpkaaGreatFmt
open Go.RowKit

/-- append, as it runs, at the list of a plain region's operations. -/
theorem wpl_append_run {w w' : World} {ops : Array Oper} {rest : List Oper} {o : Oper} {a : Act} {Q : Exit → Act → World → Prop} {v u v' : Value} (hgd : o.guard = none) (s x : Operand) {t : TypeId}
    (ho : o.op = .call { callee := .builtin .append, args := #[s, x], argTypes := #[t, t] }) (hs : a.eval s = v) (hx : a.eval x = u) (hrun : Sem.run Tryz.prog (Builtin.append_ #[t, t] o.type #[v, u]) w = .ok v' w') (h : wpList Tryz.prog ops Q rest (a.put o.dst v') w') :
    wpList Tryz.prog ops Q (o :: rest) a w := by
  refine wpList_plain hgd fun K hK => ?_
  unfold Oper.wp execOp
  simp only [ho, resolve, invoke, builtin, Sem.run_bind, Sem.run_pure, Result.andThen_ok, List.map_toArray, List.map_cons, List.map_nil, hs, hx, hrun]
  exact hK _ _ h
/-- impl.Stacks's function, as a value. -/
def fvS (ob sb : Nat) : Value := .func (.func 33) #[] #[.pointer (some ⟨ob, 0, none⟩), .pointer (some ⟨sb, 0, none⟩)]
/-- What stands while PreorderStack goes: the rows kept; the stack's variable in block hi, its row behind hi + 1; the function in block hi + 1. -/
def ZSt (W0 : World) (st : ByteArray) (ob sb lo hi : Nat) (P : Nat → Int) (rows : List (List ByteArray)) (d : List (Nd × Nat)) (w : World) : Prop :=
  ∃ go A cap vs, SO W0 st ob sb (hi + 2) go (Value.slice A d.length cap).ownBlock rows w ∧ (ob < lo ∧ sb < lo ∧ lo ≤ hi) ∧ Blk w hi 60 #[.slice A d.length cap] ∧ w.ownsRow (hi + 2) 53 1 (.slice A d.length cap) d.length vs ∧
    StkV w lo hi P d vs ∧ (∀ g, (Value.slice A d.length cap).ownBlock = some g → go ≠ some g) ∧ Blk w (hi + 1) 61 #[fvS ob sb]
section
variable {W0 w w' : World} {st : ByteArray} {ob sb lo hi : Nat} {P : Nat → Int} {go : Option Nat} {A : Option Addr} {cap : Nat} {vs : List Value} {rows : List (List ByteArray)} {d : List (Nd × Nat)}
/-- The stack grows. -/
theorem Zs_push (hO : SO W0 st ob sb (hi + 2) go (Value.slice A d.length cap).ownBlock rows w) (hbd : ob < lo ∧ sb < lo ∧ lo ≤ hi) (hblk : Blk w hi 60 #[.slice A d.length cap]) (hown : w.ownsRow (hi + 2) 53 1 (.slice A d.length cap) d.length vs)
    (hV : StkV w lo hi P d vs) (hg : ∀ g, (Value.slice A d.length cap).ownBlock = some g → go ≠ some g) (hf : Blk w (hi + 1) 61 #[fvS ob sb]) {n : Nd} {i : Nat} {v : Value} (hs : n.shapedB = true) (hz : n.size ≤ 400) (hX : ExR w (Rng lo hi) P i n v) (hone : v.oneCell' = true) (hd : d.length < 5000) :
    ∃ A3 c3 w3, Sem.run Tryz.prog (Builtin.append_ #[60, 60] 60 #[.slice A d.length cap, .slice (some ⟨w.heap.size, 0, none⟩) 1 1]) (w.alloc (.cells #[v] 53)) = .ok (.slice A3 (d.length + 1) c3) w3 ∧
      w3.cell? ⟨hi, 0, none⟩ = some (.slice A d.length cap) ∧ w3.frozen? ⟨hi, 0, none⟩ = false ∧ ZSt W0 st ob sb lo hi P rows (d ++ [(n, i)]) (w3.setCell ⟨hi, 0, none⟩ (.slice A3 (d.length + 1) c3)) ∧ Kp lo hi w (w3.setCell ⟨hi, 0, none⟩ (.slice A3 (d.length + 1) c3)) := by
  obtain ⟨i0, hi9, hz90, hz91, hz92⟩ := info_parts infoA
  have hh := hblk.lt
  have hfl := hf.lt
  have hh0 := hO.2.2.1.2.2.2.2
  obtain ⟨v3, w3, hrun, hown3, hgr3, _, hloc⟩ := run_append_own_at (P := Tryz.prog) (w.alloc (.cells #[v] 53)) (hi + 2) 60 60 53 i0 .nilIface 1 16 underA hi9 hz90 hz91 hz92 rfl (by decide) _ _ _ (own_keep hown (fun g _ hg => Below.heap_alloc w _ g hg)) ⟨w.heap.size, 0, none⟩ 1 1 [v] rfl (World.news_of_block (Blk.new w _ _)) (by intro u hu; simp at hu; subst hu; exact hone) (by unfold maxLen; omega) (by omega) (by rw [World.size_alloc]; omega)
  obtain ⟨A3, c3, rfl⟩ := own_formT hown3
  have hgr := grown_trans (World.grownBy_alloc w (.cells #[v] 53) _) hgr3
  have hs3 := hgr.size
  have hgo : ∀ g, (Value.slice A d.length cap).ownBlock = some g → hi + 2 ≤ g ∧ g < w.heap.size := fun g e => own_ge hown e
  have hk : ∀ b, b < w.heap.size → (Value.slice A d.length cap).ownBlock ≠ some b → w3.heap[b]? = w.heap[b]? := fun b hb hne => hgr.block b hb (fun e => hne e.symm)
  have hk2 : ∀ b, b < w.heap.size → b ≠ hi → (Value.slice A d.length cap).ownBlock ≠ some b → (w3.setCell ⟨hi, 0, none⟩ (.slice A3 (d.length + 1) c3)).heap[b]? = w.heap[b]? := fun b hb h1 h2 => (Below.heap_setCell w3 _ _ b h1).trans (hk b hb h2)
  have hne : ∀ b, b < hi + 2 → (Value.slice A d.length cap).ownBlock ≠ some b := fun b hb e => by have := (hgo b e).1; omega
  have hszs : (w3.setCell ⟨hi, 0, none⟩ (.slice A3 (d.length + 1) c3)).heap.size = w3.heap.size := by simp [World.setCell]
  have hKp : Kp lo hi w (w3.setCell ⟨hi, 0, none⟩ (.slice A3 (d.length + 1) c3)) := ⟨by omega, fun b _ hb => hk2 b (by omega) (by omega) (hne b (by omega))⟩
  have hlen : (d ++ [(n, i)]).length = d.length + 1 := by simp
  refine ⟨A3, c3, w3, hrun, (hblk.keep (hk hi hh (hne hi (by omega)))).c00, (hblk.keep (hk hi hh (hne hi (by omega)))).frozen 0, ⟨go, A3, c3, vs ++ [v], ?_, hbd, ?_, ?_, (hV.snoc hs hz hX).keep hKp, ?_, hf.keep (hk2 _ hfl (by omega) (hne _ (by omega)))⟩, hKp⟩
  · rw [hlen]
    refine hO.next hgr.os hgr.tape hgr.output (by omega) (fun b hb hw hgb => hk2 b hb ?_ hgb) (fun g e => ⟨(hgo g e).1, hg g e⟩) (fun b hb e => ?_)
    · have := hO.2.2.1
      have := hO.1.size
      rcases hw with h | h | h | h <;> omega
    · rcases hloc with h | h
      · exact h.symm.trans e
      · rw [h] at e
        cases e
        rw [World.size_alloc] at hb
        omega
  · rw [hlen]
    exact (hblk.keep (hk hi hh (hne hi (by omega)))).set_ 0 _
  · rw [hlen]
    obtain ⟨q0, ⟨q1, q2⟩ | ⟨g, c, cur, q1, k1, k2, k3⟩⟩ := hown3
    · omega
    · exact ⟨q0, .inr ⟨g, c, cur, q1, k1, (Below.heap_setCell _ _ _ _ (by show g ≠ hi; omega)).trans k2, k3⟩⟩
  · rw [hlen]
    intro g e
    rcases hloc with h | h
    · exact hg g (h.symm.trans e)
    · rw [h] at e
      cases e
      obtain ⟨_, _, _, _, Ao, co, rvs, _, h6, h7, _⟩ := hO
      intro e2
      have := (own_ge h6 (h7.trans e2)).2
      rw [World.size_alloc] at this
      omega
/-- The stack shrinks. -/
theorem Zs_pop {x : Nd × Nat} (h : ZSt W0 st ob sb lo hi P rows (d ++ [x]) w) : ∃ A cap, w.cell? ⟨hi, 0, none⟩ = some (.slice A (d.length + 1) cap) ∧ w.frozen? ⟨hi, 0, none⟩ = false ∧ d.length + 1 ≤ cap ∧ cap ≤ 9223372036854775807 ∧
    ZSt W0 st ob sb lo hi P rows d (w.setCell ⟨hi, 0, none⟩ (.slice A d.length cap)) ∧ Kp lo hi w (w.setCell ⟨hi, 0, none⟩ (.slice A d.length cap)) := by
  obtain ⟨go, A, cap, vs, hO, hbd, hblk, hown, hV, hg, hf⟩ := h
  have hlen : (d ++ [x]).length = d.length + 1 := by simp
  rw [hlen] at hO hblk hown hg
  have hh := hblk.lt
  have hk2 : ∀ b, b ≠ hi → (w.setCell ⟨hi, 0, none⟩ (.slice A d.length cap)).heap[b]? = w.heap[b]? := fun b h1 => Below.heap_setCell w _ _ b h1
  have hszs : (w.setCell ⟨hi, 0, none⟩ (.slice A d.length cap)).heap.size = w.heap.size := by simp [World.setCell]
  have hKp : Kp lo hi w (w.setCell ⟨hi, 0, none⟩ (.slice A d.length cap)) := ⟨by omega, fun b _ hb => hk2 b (by omega)⟩
  have hob : (Value.slice A d.length cap).ownBlock = (Value.slice A (d.length + 1) cap).ownBlock := by cases A <;> rfl
  have hgo : ∀ g, (Value.slice A (d.length + 1) cap).ownBlock = some g → hi + 2 ≤ g ∧ g < w.heap.size := fun g e => own_ge hown e
  obtain ⟨q0, ⟨q1, q2⟩ | ⟨g, c, cur, q1, k1, k2, k3, k4, k5, k6⟩⟩ := hown
  · omega
  cases q1
  refine ⟨some ⟨g, 0, none⟩, cap, hblk.c00, hblk.frozen 0, k3, k4, ⟨go, some ⟨g, 0, none⟩, cap, vs.take d.length, ?_, hbd, ?_, ?_, hV.pop.keep hKp, ?_, hf.keep (hk2 _ (by omega))⟩, hKp⟩
  · refine hO.next rfl rfl rfl (by omega) (fun b hb hw hgb => hk2 b ?_) (fun g e => ⟨(hgo g e).1, hg g e⟩) (fun b hb e => hob.symm.trans e)
    have := hO.2.2.1
    have := hO.1.size
    rcases hw with h | h | h | h <;> omega
  · exact hblk.set_ 0 _
  · refine ⟨by rw [List.length_take]; omega, .inr ⟨g, _, cur, rfl, k1, (hk2 g (by omega)).trans k2, by omega, k4, k5, ?_⟩⟩
    rw [← k6, List.take_take]
    congr 1
    omega
  · intro g e
    exact hg g (hob.symm.trans e)
end
set_option maxHeartbeats 2000000 in
set_option maxRecDepth 100000 in
theorem Ps_node (P : Nat → Int) (hNf : ∀ m : Nd, m.shapedB = true → m.size ≤ 400 → NOf P m) (st : ByteArray) (W0 : World) (ob sb lo hi : Nat) (rows : List (List ByteArray)) (d : List (Nd × Nat)) (W : World) (i : Nat) (n : Nd) (v : Value)
    (hs : n.shapedB = true) (hz : n.size ≤ 400) (ho : ZSt W0 st ob sb lo hi P rows d W) (hh : hi ≤ W.heap.size) (hX : ExR W (Rng lo hi) P i n v) (hd : d.length < 5000) (hr : rows.length < 5000) :
    Calls Tryz.prog 51 #[v, .pointer (some ⟨hi + 1, 0, none⟩), .pointer (some ⟨hi, 0, none⟩)] W fun e w' =>
      e = .returned (.bool (!(n.kd.toList == st.toList))) ∧ ZSt W0 st ob sb lo hi P (rows ++ [kdl d ++ [n.kd]]) (if (!(n.kd.toList == st.toList)) = true then d ++ [(n, i)] else d) w' ∧ Kp lo hi W w' := by
  obtain ⟨q, c, rfl⟩ := hX.form
  obtain ⟨go, A, cap, vs, hO, hbd, hblk, hown, hV, hg, hf⟩ := ho
  have HC := Lib.hid (St_node P hNf st W0 ob sb (hi + 2) lo hi go _ rows W d A cap vs hown hV rfl hO i n _ hs hz hX hh (Nat.le_of_lt hd) hr)
  have c1 : W.cell? ⟨hi, 0, none⟩ = some (.slice A d.length cap) := hblk.c00
  have c2 : W.cell? ⟨hi + 1, 0, none⟩ = some (.func (.func 33) #[] #[.pointer (some ⟨ob, 0, none⟩), .pointer (some ⟨sb, 0, none⟩)]) := hf.c00
  have hent : ∀ args w, Sem.run Tryz.prog (callFunc 33 args) w = .ok (.enter 33 args) w := fun args w => by kernel_rfl
  have H0 := Lib.hid (And.intro hO (And.intro hbd (And.intro hblk (And.intro hown (And.intro hV (And.intro hg (And.intro hf hX)))))))
  clear hO hbd hblk hown hV hg hf hX hNf
  go_enter Tryz.func51, Tryz.ntmps51
  go_wp2_with fail
  refine HC.out.mono ?_
  clear HC
  rintro e w2 ⟨rfl, go', hO2, hgo', hz2, hk2⟩
  have hgl : ∀ b, b < hi + 2 → go ≠ some b := fun b hb e => by
    obtain ⟨_, _, _, _, Ao, co, rvs, _, h6, h7, _⟩ := H0.out.1
    have := (own_ge h6 (h7.trans e)).1
    omega
  have hbl : ∀ b, b < W.heap.size → hi ≤ b → go ≠ some b → w2.heap[b]? = W.heap[b]? := fun b hb h1 h2 => hk2 b hb (by have := H0.out.2.1; omega) h2
  have hlt1 := H0.out.2.2.1.lt
  have hlt2 := H0.out.2.2.2.2.2.2.1.lt
  have hKp2 : Kp lo hi W w2 := ⟨hz2, fun b hb1 hb2 => hk2 b (by omega) (by have := H0.out.2.1; omega) (hgl b (by omega))⟩
  have hB2 : Blk w2 hi 60 #[.slice A d.length cap] := H0.out.2.2.1.keep (hbl hi hlt1 (Nat.le_refl _) (hgl hi (by omega)))
  have hF2 : Blk w2 (hi + 1) 61 #[fvS ob sb] := H0.out.2.2.2.2.2.2.1.keep (hbl _ hlt2 (by omega) (hgl _ (by omega)))
  have hR2 : w2.ownsRow (hi + 2) 53 1 (.slice A d.length cap) d.length vs := by
    obtain ⟨q0, h | ⟨g, c, cur, he, k1, k2, k3⟩⟩ := H0.out.2.2.2.1
    · exact ⟨q0, .inl h⟩
    · exact ⟨q0, .inr ⟨g, c, cur, he, k1, (hbl g (Array.getElem?_eq_some_iff.1 k2).1 (by omega) (H0.out.2.2.2.2.2.1 g (by rw [he]; rfl))).trans k2, k3⟩⟩
  have hg2 : ∀ g, (Value.slice A d.length cap).ownBlock = some g → go' ≠ some g := fun g e => by
    rcases hgo' with h | ⟨g', h, h'⟩
    · rw [h]
      exact H0.out.2.2.2.2.2.1 g e
    · rw [h]
      intro e2
      cases e2
      have := (own_ge H0.out.2.2.2.1 e).2
      omega
  have hP := Zs_push hO2 H0.out.2.1 hB2 hR2 (H0.out.2.2.2.2.1.keep hKp2) hg2 hF2 hs hz (hKp2.ex H0.out.2.2.2.2.2.2.2) rfl hd
  have HZ := Lib.hid (show ZSt W0 st ob sb lo hi P (rows ++ [kdl d ++ [n.kd]]) d w2 from ⟨go', A, cap, vs, hO2, H0.out.2.1, hB2, hR2, H0.out.2.2.2.2.1.keep hKp2, hg2, hF2⟩)
  have HK := Lib.hid hKp2
  have d1 : w2.cell? ⟨hi, 0, none⟩ = some (.slice A d.length cap) := hB2.c00
  clear hO2 hgo' hz2 hk2 hbl hKp2 hB2 hF2 hR2 hg2 hgl c1 c2
  cases hst : (n.kd.toList == st.toList)
  · obtain ⟨A3, c3, w3, hrun, z0, z1, hZ, hK3⟩ := hP
    have HR := Lib.hid (And.intro hrun (And.intro hZ hK3))
    clear hrun hZ hK3
    go_wp2_with (at_builtin; refine wpl_append_run rfl _ _ rfl rfl rfl HR.out.1 ?_)
    all_goals go_ret
    all_goals exact ⟨rfl, HR.out.2.1, HK.out.trans HR.out.2.2⟩
  · clear hP
    go_wp2_with fail
    all_goals go_ret
    all_goals exact ⟨rfl, HZ.out, HK.out⟩
set_option maxRecDepth 100000 in
theorem Ps_nil (P : Nat → Int) (st : ByteArray) (W0 : World) (ob sb lo hi : Nat) (rows : List (List ByteArray)) (d : List (Nd × Nat)) (x : Nd × Nat) (W : World) (ho : ZSt W0 st ob sb lo hi P rows (d ++ [x]) W) (hd : d.length < 5000) :
    Calls Tryz.prog 51 #[.nilIface, .pointer (some ⟨hi + 1, 0, none⟩), .pointer (some ⟨hi, 0, none⟩)] W fun e w' => (∃ b, e = .returned (.bool b)) ∧ ZSt W0 st ob sb lo hi P rows d w' ∧ Kp lo hi W w' := by
  obtain ⟨A, cap, c1, c2, hcap, hcm, hZ, hK⟩ := Zs_pop ho
  have HR := Lib.hid (And.intro hZ hK)
  clear hZ hK ho
  go_enter Tryz.func51, Tryz.ntmps51
  go_wp2_with fail
  go_ret
  exact ⟨⟨_, rfl⟩, HR.out⟩
/-- PreorderStack's function as a rule for Inspect. -/
theorem stack_cs (P : Nat → Int) (hNf : ∀ m : Nd, m.shapedB = true → m.size ≤ 400 → NOf P m) (st : ByteArray) (W0 : World) (ob sb lo hi : Nat) :
    CS lo hi P (goStop st) 51 #[.pointer (some ⟨hi + 1, 0, none⟩), .pointer (some ⟨hi, 0, none⟩)] (fun tr d w => ZSt W0 st ob sb lo hi P (rowsOf tr) d w) where
  ent := fun args w => by kernel_rfl
  node := fun d out w i n v hs hz hb ho hh hX => by
    have hl : (rowsOf out).length ≤ out.length := List.length_filterMap_le ..
    rw [goStop_at, rowsOf_some]
    exact Ps_node P hNf st W0 ob sb lo hi (rowsOf out) d w i n v hs hz ho hh hX (by omega) (by omega)
  nil := fun d x out w hb ho hh => by
    rw [rowsOf_none]
    exact Ps_nil P st W0 ob sb lo hi (rowsOf out) d x w ho (by rw [List.length_append, List.length_singleton] at hb; omega)
end Go.Proofs.YtlpnepgljdhpkaaGreatFmt
