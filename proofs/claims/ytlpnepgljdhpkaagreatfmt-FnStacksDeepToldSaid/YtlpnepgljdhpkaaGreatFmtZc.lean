/-
  impl.Stacks: the function that it hands to PreorderStack.
-/
import Derived.Test.YtlpnepgljdhpkaaGreatFmtZb
import Derived.Deep.RegionLaw
namespace Go.Proofs.YtlpnepgljdhpkaaGreatFmt
open Go.RowKit

theorem Blk.c00 {w : World} {g : Nat} {t : TypeId} {v : Value} (h : Blk w g t #[v]) : w.cell? ⟨g, 0, none⟩ = some v := h.cell 0
theorem kdl_take {d : List (Nd × Nat)} {j : Nat} {x : Nd × Nat} (h : d[j]? = some x) : kdl (d.take (j + 1)) = kdl (d.take j) ++ [x.1.kd] := by
  rw [kdl, List.take_add_one, h, Option.toList_some, List.map_append]
  rfl
theorem own_cell1 {w : World} {base n m c : Nat} {t : TypeId} {A : Option Addr} {vs : List Value} (h : w.ownsRow base t 1 (.slice A m c) n vs) (j : Nat) (v : Value) (hj : vs[j]? = some v) : ∃ g, A = some ⟨g, 0, none⟩ ∧ g < w.heap.size ∧ base ≤ g ∧ w.cell? ⟨g, j, none⟩ = some v := by
  obtain ⟨h0, ⟨he, hn⟩ | ⟨g, cap', cur, he, k1, k2, k3, k4, k5, k6⟩⟩ := h
  · subst hn
    obtain rfl := List.length_eq_zero_iff.1 (by simpa using h0)
    simp at hj
  · cases he
    have hjl : j < n := by have := (List.getElem?_eq_some_iff.1 hj).1; omega
    refine ⟨g, rfl, (Array.getElem?_eq_some_iff.1 k2).1, k1, ?_⟩
    rw [cell_of_row w g j cur t (0, 0) k2]
    rw [← k6, List.getElem?_take_of_lt (by omega)] at hj
    simpa using hj
/-- append at a step of a region, as it runs. -/
theorem step_append {ops : Array Oper} {o : Oper} {a : Act} {w w' : World} {K : Act → World → Prop} {Q : Exit → Act → World → Prop} {E : Prop} {v u v' : Value} (hgd : o.guard = none) (s x : Operand) {t : TypeId}
    (ho : o.op = .call { callee := .builtin .append, args := #[s, x], argTypes := #[t, t] }) (hs : a.eval s = v) (hx : a.eval x = u) (hrun : Sem.run Tryz.prog (Builtin.append_ #[t, t] o.type #[v, u]) w = .ok v' w') (h : K (a.put o.dst v') w') :
    if Region.wanted o (yielded ops a.tmps) = true then Oper.wp Tryz.prog o a w K Q else E := by
  have hw : Region.wanted o (yielded ops a.tmps) = true := by simp [Region.wanted, hgd]
  rw [if_pos hw]
  unfold Oper.wp execOp
  simp only [ho, resolve, invoke, builtin, Sem.run_bind, Sem.run_pure, Result.andThen_ok, List.map_toArray, List.map_cons, List.map_nil, hs, hx, hrun]
  exact h
theorem drew_cell {w : World} {p : Addr} {v : Value} (h : w.cell? p = some v) : w.drew.cell? p = some v := h
theorem SO.drew {W0 w : World} {st : ByteArray} {ob sb h0 : Nat} {go gs : Option Nat} {rows : List (List ByteArray)} (h : SO W0 st ob sb h0 go gs rows w) : SO W0 st ob sb h0 go gs rows w.drew := ⟨h.1.drew, h.2⟩
/-- What the two appends give, and what stands behind them. -/
theorem St_run {W0 W w2 : World} {st : ByteArray} {ob sb h0 : Nat} {go gs : Option Nat} {rows : List (List ByteArray)} {A1 : Option Addr} {m c1 : Nat} {l : List ByteArray} (kd : ByteArray) (hO : SO W0 st ob sb h0 go gs rows W) (hb : Below W.heap.size W w2)
    (hrow : w2.ownsRow W.heap.size 9 1 (.slice A1 m c1) m (flatT l)) (hl : l.length = m) (hm : m ≤ 5000) (hr : rows.length < 5000) (hgs : ∀ g, gs = some g → g < W.heap.size) :
    ∃ Ao co, w2.cell? ⟨ob, 0, none⟩ = some (.slice Ao rows.length co) ∧ ∃ A3 c3 w3, Sem.run Tryz.prog (Builtin.append_ #[34, 34] 34 #[.slice A1 m c1, .slice (some ⟨w2.heap.size, 0, none⟩) 1 1]) (w2.alloc (.cells #[.string kd] 9)).drew = .ok (.slice A3 (m + 1) c3) w3 ∧
      w3.cell? ⟨ob, 0, none⟩ = some (.slice Ao rows.length co) ∧ ∃ A5 c5 w5, Sem.run Tryz.prog (Builtin.append_ #[40, 40] 40 #[.slice Ao rows.length co, .slice (some ⟨w3.heap.size, 0, none⟩) 1 1]) (w3.alloc (.cells #[.slice A3 (m + 1) c3] 34)) = .ok (.slice A5 (rows.length + 1) c5) w5 ∧
      w5.cell? ⟨ob, 0, none⟩ = some (.slice Ao rows.length co) ∧ w5.frozen? ⟨ob, 0, none⟩ = false ∧ w5.cell? ⟨sb, 0, none⟩ = some (.string st) ∧
      ∃ go', SO W0 st ob sb h0 go' gs (rows ++ [l ++ [kd]]) (w5.setCell ⟨ob, 0, none⟩ (.slice A5 (rows.length + 1) c5)) ∧ (go' = go ∨ ∃ g, go' = some g ∧ W.heap.size ≤ g) ∧ W.heap.size ≤ (w5.setCell ⟨ob, 0, none⟩ (.slice A5 (rows.length + 1) c5)).heap.size ∧ ∀ b, b < W.heap.size → b ≠ ob → go ≠ some b → (w5.setCell ⟨ob, 0, none⟩ (.slice A5 (rows.length + 1) c5)).heap[b]? = W.heap[b]? := by
  obtain ⟨i0, hi9, hz90, hz91, hz92⟩ := info_parts infoT
  obtain ⟨j0, hj9, hy90, hy91, hy92⟩ := info_parts infoS
  obtain ⟨h1, h2, ⟨h3, h30, h31, h32, h33⟩, h4, Ao, co, rvs, h5, h6, h7, h8⟩ := id hO
  have hs := hb.size
  obtain ⟨v3, w3, hrun3, hown3, hgr3, _, _⟩ := run_append_own_at (P := Tryz.prog) (w2.alloc (.cells #[.string kd] 9)).drew W.heap.size 34 34 9 i0 (.string ⟨#[]⟩) 1 16 underT hi9 hz90 hz91 hz92 rfl (by decide) _ _ _ (own_keep (w1 := (w2.alloc (.cells #[.string kd] 9)).drew) hrow (fun g _ hg => Below.heap_alloc w2 _ g hg)) ⟨w2.heap.size, 0, none⟩ 1 1 [.string kd] rfl (World.news_of_block (Blk.new w2 _ _).drew) (by intro u hu; simp at hu; subst hu; rfl) (by unfold maxLen; omega) (by omega) (by show _ ≤ (w2.alloc _).heap.size; rw [World.size_alloc]; omega)
  obtain ⟨A3, c3, rfl⟩ := own_formT hown3
  have hb2d : Below W.heap.size W (w2.alloc (.cells #[.string kd] 9)).drew := (hb.alloc hs _).drew
  have hb3 : Below W.heap.size W w3 := hb2d.trans (below_own (own_keep (w1 := (w2.alloc (.cells #[.string kd] 9)).drew) hrow (fun g _ hg => Below.heap_alloc w2 _ g hg)) hgr3 (Nat.le_refl _) (by show _ ≤ (w2.alloc _).heap.size; rw [World.size_alloc]; omega))
  have hs3 := hb3.size
  have hO3 := hO.below hb3
  have hob3 := h5.below hb3 h5.lt
  have hrv3 := own_keep h6 (fun g _ hg => hb3.block g hg)
  have hsb3 := h4.below hb3 h4.lt
  obtain ⟨v5, w5, hrun5, hown5, hgr5, _, hloc5⟩ := run_append_own_at (P := Tryz.prog) (w3.alloc (.cells #[.slice A3 (m + 1) c3] 34)) h0 40 40 34 j0 (.slice none 0 0) 1 24 underS hj9 hy90 hy91 hy92 rfl (by decide) _ _ _ (own_keep hrv3 (fun g _ hg => Below.heap_alloc w3 _ g hg)) ⟨w3.heap.size, 0, none⟩ 1 1 [.slice A3 (m + 1) c3] rfl (World.news_of_block (Blk.new w3 _ _)) (by intro u hu; simp at hu; subst hu; rfl) (by unfold maxLen; omega) (by omega) (by rw [World.size_alloc]; omega)
  obtain ⟨A5, c5, rfl⟩ := own_formT hown5
  have hgr := grown_trans (World.grownBy_alloc w3 (.cells #[.slice A3 (m + 1) c3] 34) _) hgr5
  have hlen : (l ++ [kd]).length = m + 1 := by simp [hl]
  have hgo : ∀ g, go = some g → h0 ≤ g ∧ g < W.heap.size := fun g e => own_ge h6 (h7.trans e)
  have hr3 : TxAt w3 A3 (l ++ [kd]) := TxAt.of (m := m + 1) (c := c3) (base := W.heap.size) (by
    rw [hlen, flatT_append]
    exact hown3)
  have hcap : (l ++ [kd]).length ≤ c3 ∧ c3 ≤ 9223372036854775807 := by
    rw [hlen]
    obtain ⟨_, ⟨h, h0⟩ | ⟨g, cap, cur, h, k1, k2, k3, k4, _⟩⟩ := hown3
    · omega
    · cases h
      exact ⟨k3, k4⟩
  have hA3 : ∀ p, A3 = some p → h0 ≤ p.block ∧ p.block < w3.heap.size ∧ ¬ (go = some p.block ∨ gs = some p.block) := fun p hp => by
    have hge := own_blk hown3 p hp
    have hlt := (own_ge hown3 (g := p.block) (by rw [hp]; rfl)).2
    refine ⟨by omega, hlt, fun h => h.elim (fun e => ?_) (fun e => ?_)⟩
    · have := (hgo _ e).2
      omega
    · have := hgs _ e
      omega
  have hk : ∀ b, b < w3.heap.size → go ≠ some b → w5.heap[b]? = w3.heap[b]? := fun b hb hg => hgr.block b hb (fun e => hg (h7.symm.trans e.symm))
  have hobg : go ≠ some ob := fun e => by have := (hgo _ e).1; omega
  have hsbg : go ≠ some sb := fun e => by have := (hgo _ e).1; omega
  obtain ⟨go', p1, p2, p3, p4⟩ := hO3.push (r := l ++ [kd]) (A2 := A3) (c2 := c3) hob3 hrv3 (by rw [hlen]; exact hown5) hgr (hloc5.imp id fun e => ⟨_, e, by rw [World.size_alloc]; omega⟩) hcap hr3 hA3
  refine ⟨Ao, co, (h5.below hb h5.lt).c00, A3, c3, w3, hrun3, hob3.c00, A5, c5, w5, hrun5, (hob3.keep (hk _ hob3.lt hobg)).c00, (hob3.keep (hk _ hob3.lt hobg)).frozen 0, (hsb3.keep (hk _ hsb3.lt hsbg)).c00, go', p1, p2.imp id fun ⟨g, e, hg⟩ => ⟨g, e, by omega⟩, by omega, fun b hb1 hb2 hb4 => (p4 b (by omega) hb2 hb4).trans (hb3.block b hb1)⟩
set_option maxHeartbeats 4000000 in
set_option maxRecDepth 100000 in
theorem St_node (P : Nat → Int) (hNf : ∀ m : Nd, m.shapedB = true → m.size ≤ 400 → NOf P m) (st : ByteArray) (W0 : World) (ob sb h0 lo hi : Nat) (go gs : Option Nat) (rows : List (List ByteArray)) (W : World)
    (d : List (Nd × Nat)) (A : Option Addr) (cap : Nat) (vs : List Value) (hown : W.ownsRow h0 53 1 (.slice A d.length cap) d.length vs) (hV : StkV W lo hi P d vs) (hgs : (Value.slice A d.length cap).ownBlock = gs)
    (hO : SO W0 st ob sb h0 go gs rows W) (i : Nat) (n : Nd) (v : Value) (hs : n.shapedB = true) (hz : n.size ≤ 400) (hX : ExR W (Rng lo hi) P i n v) (hhi : hi ≤ W.heap.size) (hd : d.length ≤ 5000) (hr : rows.length < 5000) :
    Calls Tryz.prog 33 #[v, .slice A d.length cap, .pointer (some ⟨ob, 0, none⟩), .pointer (some ⟨sb, 0, none⟩)] W fun e w' =>
      e = .returned (.bool (!(n.kd.toList == st.toList))) ∧ ∃ go', SO W0 st ob sb h0 go' gs (rows ++ [kdl d ++ [n.kd]]) w' ∧ (go' = go ∨ ∃ g, go' = some g ∧ W.heap.size ≤ g) ∧ W.heap.size ≤ w'.heap.size ∧ ∀ b, b < W.heap.size → b ≠ ob → go ≠ some b → w'.heap[b]? = W.heap[b]? := by
  obtain ⟨q, c, rfl⟩ := hX.form
  have H0 := Lib.hid (And.intro hown (And.intro hV (And.intro hgs (And.intro hO (And.intro hX hNf)))))
  have hM : d.length ≤ 9223372036854775807 := by omega
  clear hown hV hgs hO hX hNf
  obtain ⟨i0, hi9, hz90, hz91, hz92⟩ := info_parts infoT
  go_enter Tryz.func33, Tryz.ntmps33
  go_wp2_with fail
  go_loopw [7, 13] (fun sv i' wr => ∃ j : Nat, i' = .int .i64 j ∧ j ≤ d.length ∧ wr.ownsRow W.heap.size 9 1 sv j (flatT (kdl (d.take j))) ∧ Below W.heap.size W wr) (fun _ i' _ => d.length - (intOf i').toNat)
  case atStart => exact ⟨0, rfl, Nat.zero_le _, World.ownsRow_nil _ _ _ _, Below.refl _ _⟩
  case round =>
    obtain ⟨j, rfl, hj, hrow, hb⟩ := hrel
    obtain ⟨A1, c1, rfl⟩ := own_formT hrow
    have HR := Lib.hid (And.intro hrow hb)
    have hzr := hb.size
    clear hrow hb
    by_cases hlt : j < d.length
    · have hj0 : d[j]? = some d[j] := List.getElem?_eq_getElem hlt
      have hk := kdl_take hj0
      obtain ⟨hs1, hz1, v1, hv1, hX1⟩ := H0.out.2.1.2 j _ hj0
      generalize d[j] = x at hj0 hk hs1 hz1 hX1
      obtain ⟨q1, b1, rfl⟩ := hX1.form
      obtain ⟨g, rfl, hg, _, hc⟩ := own_cell1 H0.out.1 j _ hv1
      have e1 := (HR.out.2.cell (p := ⟨g, j, none⟩) hg).trans hc
      have HX := Lib.hid (And.intro hk (And.intro (H0.out.2.2.2.2.2 x.1 hs1 hz1) (ExR.keep (w' := wr) (fun b (hb : Rng lo hi b) => HR.out.2.block b (by have := hb.2; omega)) (fun _ h => h) x.1 x.2 _ hX1)))
      clear hj0 hk hs1 hz1 hv1 hX1 hc hg
      go_wp2_with fail
      refine (kindOf_any P x.1 HX.out.2.1 _ lo hi x.2 _ (H0.out.2.2.2.1.tok.below HR.out.2) (by omega) HX.out.2.2).mono ?_
      rintro e w2 ⟨rfl, hb2⟩
      have HR2 := Lib.hid (And.intro (own_keep HR.out.1 (fun g _ hg => hb2.block g hg)) (HR.out.2.trans (hb2.mono hzr)))
      have hz2 := hb2.size
      clear hb2 e1
      go_wp2_with (at_builtin; refine wpList_append_own_at _ rfl _ _ 34 rfl W.heap.size 9 i0 (.string ⟨#[]⟩) 1 16 underT hi9 hz90 hz91 hz92 rfl (by decide) _ _ (flatT (kdl (d.take j))) rfl (own_keep HR2.out.1 (fun g _ hg => Below.heap_alloc w2 _ g hg)) ⟨w2.heap.size, 0, none⟩ 1 1 [.string x.1.kd] rfl rfl (World.news_of_block (Blk.new w2 _ _)) (by intro u hu; simp at hu; subst hu; rfl) (by unfold maxLen; omega) (by omega) (by rw [World.size_alloc]; omega) ?_; intro v3 w3 hown hgr _ _; have HR3 := Lib.hid (And.intro hown (HR2.out.2.trans (below_own HR2.out.1 (grown_trans (World.grownBy_alloc w2 _ _) hgr) (Nat.le_refl _) (by omega)))); clear hown hgr)
      go_roundw
      case rel => exact ⟨j + 1, by go_num, by omega, by rw [HX.out.1, flatT_append]; exact HR3.out.1, HR3.out.2⟩
      case measure => simp [intOf]; omega
    · have hje : d.take j = d := List.take_of_length_le (by omega)
      have hjn : j = d.length := by omega
      have hgs0 : ∀ g, gs = some g → g < W.heap.size := fun g e => (own_ge H0.out.1 (H0.out.2.2.1.trans e)).2
      have HX := Lib.hid (ExR.keep (w' := wr) (fun b (hb : Rng lo hi b) => HR.out.2.block b (by have := hb.2; omega)) (fun _ h => h) n i _ H0.out.2.2.2.2.1)
      subst hjn
      rw [hje] at HR
      clear hje
      go_wp2_with fail
      refine (kindOf_any P n (H0.out.2.2.2.2.2 n hs hz) _ lo hi i _ (H0.out.2.2.2.1.tok.below HR.out.2) (by omega) HX.out).mono ?_
      rintro e w2 ⟨rfl, hb2⟩
      obtain ⟨Ao, co, y2, A3, c3, w3, hr3, y3, A5, c5, w5, hr5, y5, z5, x5, hpost⟩ := St_run n.kd H0.out.2.2.2.1 (HR.out.2.trans (hb2.mono hzr)) (own_keep HR.out.1 (fun g _ hg => hb2.block g hg)) (by simp [kdl]) hd hr hgs0
      have HP := Lib.hid hpost
      have HR3 := Lib.hid hr3
      have HR5 := Lib.hid hr5
      have y2a := drew_cell ((World.cell?_alloc_some w2 ⟨ob, 0, none⟩ (.cells #[.string n.kd] 9) (by rw [y2]; rfl)).trans y2)
      have y3a := (World.cell?_alloc_some w3 ⟨ob, 0, none⟩ (.cells #[.slice A3 (d.length + 1) c3] 34) (by rw [y3]; rfl)).trans y3
      clear hb2 hgs0 hpost hr3 hr5
      go_wp2_with fail
      have hne := H0.out.2.2.2.1.2.2.1.2.1
      go_region_law (first
          | (refine step_append rfl _ _ rfl rfl rfl HR3.out ?_)
          | (refine step_append rfl _ _ rfl rfl rfl HR5.out ?_))
      all_goals go_wp2_with fail
      all_goals go_ret
      all_goals exact ⟨rfl, HP.out⟩
