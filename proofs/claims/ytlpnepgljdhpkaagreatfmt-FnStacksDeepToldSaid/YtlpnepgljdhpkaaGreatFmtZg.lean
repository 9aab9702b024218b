/-
  spec.Stacks: the stacks of a tree as the specification tells them.
-/
import Derived.Test.YtlpnepgljdhpkaaGreatFmtZf
import Derived.Test.YtlpnepgljdhpkaaGreatFmtK21
namespace Go.Proofs.YtlpnepgljdhpkaaGreatFmt
open Go.RowKit

theorem stkL_append (st : ByteArray) (p : List ByteArray) : ∀ a b : List Nd, stkL st p (a ++ b) = stkL st p a ++ stkL st p b
  | [], b => by rw [List.nil_append, stkL, List.nil_append]
  | k :: a, b => by rw [List.cons_append, stkL, stkL, stkL_append st p a b, List.append_assoc]
theorem stkL_take {st : ByteArray} {p : List ByteArray} {ks : List Nd} {j : Nat} {x : Nd} (h : ks[j]? = some x) : stkL st p (ks.take (j + 1)) = stkL st p (ks.take j) ++ x.stk st p := by
  rw [List.take_add_one, h, Option.toList_some, stkL_append, stkL, stkL, List.append_nil]
theorem stkL_le (st : ByteArray) (p : List ByteArray) (ks : List Nd) (j : Nat) : (stkL st p (ks.take j)).length ≤ (stkL st p ks).length := by
  have h := stkL_append st p (ks.take j) (ks.drop j)
  rw [List.take_append_drop] at h
  rw [h, List.length_append]
  omega
theorem stk_nm (st tx : ByteArray) (p : List ByteArray) : (nmNd tx).stk st p = [p ++ [nameK]] := by
  have h6 : ¬ kcode (⟨#[110, 97, 109, 101]⟩ : ByteArray) = 6 := by decide
  rw [nmNd, Nd.stk]
  split
  · rfl
  · rw [stkL, selStk, if_neg h6]
    rfl
theorem stk_bl (st : ByteArray) (n : Nd) (p : List ByteArray) : n.stk st p = (p ++ [n.kd]) :: (if (n.kd.toList == st.toList) = true then [] else stkL st (p ++ [n.kd]) (bl n)) := by
  obtain ⟨kd, tx, ad, cp, ks⟩ := n
  rw [Nd.stk, bl, stkL_append]
  have h : selStk (kcode kd) (p ++ [kd]) = stkL st (p ++ [kd]) (if kcode kd = 6 then [nmNd tx] else []) := by
    unfold selStk
    split
    · rw [stkL, stkL, stk_nm, List.append_nil]
    · rw [stkL]
  rw [h]
theorem bl_smallZ {n k : Nd} (h : n.shapedB = true) (hk : k ∈ bl n) : k.size < n.size ∧ k.shapedB = true := by
  rw [Nd.size_eq n]
  rcases List.mem_append.1 hk with hk | hk
  · rw [Nd.shapedB_eq, Bool.and_eq_true, List.all_eq_true] at h
    exact ⟨by have := sizeL_mem hk; omega, h.1 k hk⟩
  · split at hk
    · rename_i h6
      obtain rfl := List.mem_singleton.1 hk
      rw [Nd.shapedB_eq, Bool.and_eq_true] at h
      have hm : manyC (kcode n.kd) n.tx n.ks.length = true := h.2
      rw [h6] at hm
      have hm : (n.ks.length == 1) = true := hm
      have hl := sizeL_len n.ks
      refine ⟨?_, rfl⟩
      simp only [beq_iff_eq] at hm
      show Nd.size ⟨_, _, _, _, []⟩ < _
      rw [Nd.size, sizeL]
      omega
    · cases hk
theorem bl_lenZ (n : Nd) : (bl n).length ≤ n.size := by
  have hl := sizeL_len n.ks
  rw [Nd.size_eq, bl, List.length_append]
  split <;> simp <;> omega
section
variable {w w' : World} {h0 h1 : Nat} {bad bad' : Nat → Prop} {rows rows2 : List (List ByteArray)} {rvs rvs2 : List Value}
theorem RowsV.weak (h : RowsV w h1 bad rows rvs) (h01 : h0 ≤ h1) (hb : ∀ b, h1 ≤ b → b < w.heap.size → ¬ bad' b) : RowsV w h0 bad' rows rvs := ⟨h.1, fun j r hj => by
  obtain ⟨A, c, q1, q2, q3⟩ := h.2 j r hj
  exact ⟨A, c, q1, q2, fun p hp => ⟨Nat.le_trans h01 (q3 p hp).1, (q3 p hp).2.1, hb _ (q3 p hp).1 (q3 p hp).2.1⟩⟩⟩
theorem RowsV.append (h : RowsV w h0 bad rows rvs) (k : RowsV w h0 bad rows2 rvs2) : RowsV w h0 bad (rows ++ rows2) (rvs ++ rvs2) := by
  refine ⟨by simp [h.1, k.1], fun j x hj => ?_⟩
  by_cases hlt : j < rows.length
  · rw [List.getElem?_append_left hlt] at hj
    rw [List.getElem?_append_left (by rw [h.1]; exact hlt)]
    exact h.2 j x hj
  · rw [List.getElem?_append_right (by omega)] at hj
    rw [List.getElem?_append_right (by rw [h.1]; omega), h.1]
    exact k.2 _ x hj
end
/-- What spec.Stacks leaves. -/
def SpPost (W : World) (rows : List (List ByteArray)) (e : Ending) (w : World) : Prop := ∃ A cap rvs, e = .returned (.slice A rows.length cap) ∧ w.ownsRow W.heap.size 34 1 (.slice A rows.length cap) rows.length rvs ∧ RowsV w W.heap.size (fun b => (Value.slice A rows.length cap).ownBlock = some b) rows rvs ∧ Below W.heap.size W w
/-- out's row, from block b0 on, beside what stood in w1. -/
def RJ (b0 : Nat) (W w1 : World) (sv : Value) (rows : List (List ByteArray)) (n : Nat) (rvs : List Value) (wr : World) : Prop :=
  wr.ownsRow b0 34 1 sv n rvs ∧ (∀ g, sv.ownBlock = some g → g = b0 ∨ w1.heap.size ≤ g) ∧ Below W.heap.size W wr ∧ w1.heap.size ≤ wr.heap.size ∧ (∀ g, g ≠ b0 → g < w1.heap.size → wr.heap[g]? = w1.heap[g]?) ∧ RowsV wr W.heap.size (fun b => sv.ownBlock = some b) rows rvs
section
variable {b0 n m : Nat} {W w1 wr w2 w3 : World} {sv v' : Value} {rows rows2 : List (List ByteArray)} {rvs rvs2 : List Value}
theorem RJ.next (h : RJ b0 W w1 sv rows n rvs wr) (hb : Below wr.heap.size wr w2) : RJ b0 W w1 sv rows n rvs w2 := by
  obtain ⟨h1, h2, h3, h4, h5, h6⟩ := h
  have hs := hb.size
  exact ⟨own_keep h1 fun g _ hg => hb.block g hg, h2, h3.trans (hb.mono h3.size), by omega, fun g hg1 hg2 => (hb.block g (by omega)).trans (h5 g hg1 hg2), h6.keep hs (fun b _ hb2 _ => hb.block b hb2) fun _ _ h => h⟩
theorem RJ.app {wc : World} (hb0 : W.heap.size ≤ b0) (h : RJ b0 W w1 sv rows n rvs wc) (hb : Below wc.heap.size wc w2) {bad : Nat → Prop} (h2 : RowsV w2 wc.heap.size bad rows2 rvs2) (hown : w3.ownsRow b0 34 1 v' m (rvs ++ rvs2)) (hg : w2.grownBy w3 sv.ownBlock) (hloc : v'.ownBlock = sv.ownBlock ∨ v'.ownBlock = some w2.heap.size) : RJ b0 W w1 v' (rows ++ rows2) m (rvs ++ rvs2) w3 := by
  have hn := h.next hb
  have hsv : ∀ g, sv.ownBlock = some g → g < wc.heap.size := fun g e => (own_ge h.1 e).2
  obtain ⟨k1, k2, k3, k4, k5, k6⟩ := hn
  have hs := hg.size
  have hs2 := hb.size
  refine ⟨hown, fun g hv => ?_, k3.trans (below_own k1 hg hb0 k3.size), by omega, fun g hg1 hg2 => (hg.block g (by omega) (fun e => ?_)).trans (k5 g hg1 hg2), ?_⟩
  · rcases hloc with hl | hl
    · exact k2 g (hl ▸ hv)
    · rw [hl] at hv
      cases hv
      exact .inr k4
  · have := k2 g e.symm
    omega
  · have hall : RowsV w2 W.heap.size (fun b => sv.ownBlock = some b) (rows ++ rows2) (rvs ++ rvs2) := k6.append (h2.weak (Nat.le_trans h.2.2.1.size (Nat.le_refl _)) fun b hb1 _ e => by have := hsv b e; omega)
    refine hall.keep hs (fun b _ hb2 hb3 => hg.block b hb2 (fun e => hb3 e.symm)) (fun b hb2 hbad => ?_)
    rcases hloc with hl | hl
    · exact hl.symm.trans hbad
    · rw [hl] at hbad
      cases hbad
      omega
theorem RJ.start {A3 : Option Addr} {c3 : Nat} {r : List ByteArray} (hown : w3.ownsRow (W.heap.size + 1) 9 1 (.slice A3 m c3) m (flatT r)) (hrl : r.length = m) (hb : Below W.heap.size W w3) :
    RJ w3.heap.size W (w3.alloc (.cells #[.slice A3 m c3] 34)) (.slice (some ⟨w3.heap.size, 0, none⟩) 1 1) [r] 1 [.slice A3 m c3] (w3.alloc (.cells #[.slice A3 m c3] 34)) := by
  subst hrl
  have hal := Below.al w3 (.cells #[.slice A3 r.length c3] 34)
  have hs := hb.size
  have hsz : (w3.alloc (.cells #[.slice A3 r.length c3] 34)).heap.size = w3.heap.size + 1 := World.size_alloc _ _
  refine ⟨⟨rfl, .inr ⟨_, 1, _, rfl, Nat.le_refl _, Blk.new w3 34 #[.slice A3 r.length c3], Nat.le_refl _, by decide, rfl, rfl⟩⟩, fun g e => by cases e; exact .inl rfl, hb.trans (hal.mono hs), Nat.le_refl _, fun _ _ _ => rfl, ⟨rfl, fun j x hj => ?_⟩⟩
  rcases j with _ | j
  · obtain rfl : r = x := by simpa using hj
    refine ⟨A3, c3, rfl, (TxAt.of hown).below hal, fun p hp => ?_⟩
    have h1 := own_blk hown p hp
    have h2 := (own_ge hown (g := p.block) (by rw [hp]; rfl)).2
    refine ⟨by omega, by omega, fun e => ?_⟩
    have e : some w3.heap.size = some p.block := e
    have := Option.some.inj e
    omega
  · simp at hj
theorem RJ.re (h : RJ b0 W w1 sv rows n rvs wr) (hb : ∀ g, sv.ownBlock = some g → g = b0) : RJ b0 W wr sv rows n rvs wr := ⟨h.1, fun g e => .inl (hb g e), h.2.2.1, Nat.le_refl _, fun _ _ _ => rfl, h.2.2.2.2.2⟩
theorem RJ.elem (h : RJ b0 W w1 sv rows n rvs wr) {A : Option Addr} {j : Nat} {x : Nd} (he : ElemAt w1 w1.heap.size A j x) (hA : ∀ p, A = some p → b0 < p.block) :
    ∃ b o, A = some ⟨b, o, none⟩ ∧ b < wr.heap.size ∧ wr.cell? ⟨b, o + j * 3, none⟩ = some (.string x.kd) ∧ wr.cell? ⟨b, o + j * 3 + 1, none⟩ = some (.string x.tx) ∧ wr.cell? ⟨b, o + j * 3 + 2, none⟩ = some (.slice x.ad x.ks.length x.cp) := by
  obtain ⟨b, o, rfl, hb, h1, h2, h3⟩ := he
  have hk : ∀ q, wr.cell? ⟨b, q, none⟩ = w1.cell? ⟨b, q, none⟩ := fun q => World.cell?_of_block (a := ⟨b, q, none⟩) (h.2.2.2.2.1 b (by have h := hA _ rfl; have h : b0 < b := h; omega) hb)
  exact ⟨b, o, rfl, Nat.lt_of_lt_of_le hb h.2.2.2.1, (hk _).trans h1, (hk _).trans h2, (hk _).trans h3⟩
theorem RowsV.one {w : World} {h0 : Nat} {bad : Nat → Prop} {rows : List (List ByteArray)} {rvs : List Value} (h : RowsV w h0 bad rows rvs) : ∀ u ∈ rvs, u.oneCell' = true := by
  intro u hu
  obtain ⟨j, hj⟩ := List.mem_iff_getElem?.1 hu
  have hl := (List.getElem?_eq_some_iff.1 hj).1
  rw [h.1] at hl
  obtain ⟨A, c, h1, _⟩ := h.2 j _ (List.getElem?_eq_getElem hl)
  rw [h1] at hj
  cases hj
  rfl
end
theorem nilT_some (a : Addr) (n c : Nat) (w : World) : Sem.run Tryz.prog (binOp BinOp.eql 34 (.slice (some a) n c) (.slice none 0 0)) w = .ok (.bool false) w := by kernel_rfl
theorem nilT_none (n c : Nat) (w : World) : Sem.run Tryz.prog (binOp BinOp.eql 34 (.slice none n c) (.slice none 0 0)) w = .ok (.bool true) w := by kernel_rfl
theorem TxAt.news {w : World} {a : Addr} {l : List ByteArray} (h : TxAt w (some a) l) (p : Nat) (u : Value) (hp : (flatT l)[p]? = some u) : w.cell? (a.add p) = some u := by
  obtain ⟨x, hx, rfl⟩ : ∃ x, l[p]? = some x ∧ Value.string x = u := by simpa [flatT] using hp
  obtain ⟨g, he, hc⟩ := h p x hx
  cases he
  have hadd : (⟨g, 0, none⟩ : Addr).add p = ⟨g, p, none⟩ := by unfold Addr.add; split <;> simp_all
  rw [hadd]
  exact hc
/-- What slices.Clone of texts leaves. -/
def ClPost (W : World) (l : List ByteArray) (e : Ending) (w : World) : Prop := ∃ v, e = .returned v ∧ w.ownsRow W.heap.size 9 1 v l.length (flatT l) ∧ Below W.heap.size W w
set_option maxRecDepth 100000 in
theorem CloneT_any (A : Option Addr) (l : List ByteArray) (cap : Nat) (W : World) (hA : TxAt W A l) (hl : l.length ≤ 5000) (n : Nat) (hn : l.length = n) :
    Calls Tryz.prog 34 #[.slice A n cap] W (ClPost W l) := by
  subst hn
  cases A with
  | none =>
    have hk : l = [] := by
      cases l with
      | nil => rfl
      | cons k ks => obtain ⟨b, he, _⟩ := hA 0 k rfl; cases he
    subst hk
    clear hA
    have h1 := nilT_none
    go_enter Tryz.func34, Tryz.ntmps34
    go_wp2_with fail
    go_ret
    exact ⟨_, rfl, World.ownsRow_nil _ _ _ _, Below.refl _ _⟩
  | some a =>
    have h1 := nilT_some
    have hnews := fun p u hp => hA.news p u hp
    have HA := Lib.hid (fun (p : Nat) (u : Value) (h : (flatT l)[p]? = some u) => (World.cell?_alloc_some W (a.add p) (.cells #[] 9) (by rw [hnews p u h]; rfl)).trans (hnews p u h))
    obtain ⟨i0, hi, hz0, hz1, hz2⟩ := info_parts infoT
    have hown0 := World.ownsRow_made (base := W.heap.size) (e := 9) (size := 1) W #[] 0 (Nat.le_refl _) (Nat.zero_le _) rfl
    clear hA hnews
    go_enter Tryz.func34, Tryz.ntmps34
    go_wp2_with (at_builtin; refine wpList_append_own_at _ rfl _ _ 34 rfl W.heap.size 9 i0 (.string ⟨#[]⟩) 1 16 underT hi hz0 hz1 hz2 rfl (by decide) _ _ [] rfl hown0 a l.length cap (flatT l) rfl (by simp [flatT]) HA.out (by intro u hu; obtain ⟨x, _, rfl⟩ := List.mem_map.1 hu; rfl) (by unfold maxLen; omega) (by omega) (by rw [World.size_alloc]; omega) ?_; intro v' w3 hown hgr _ _; rw [Nat.zero_add, List.nil_append] at hown)
    go_ret
    exact ⟨_, rfl, hown, below_grown (grown_trans (World.grownBy_alloc _ _ _) hgr) (Nat.le_refl _) (Nat.le_refl _)⟩
theorem Blk.m0' {w : World} {g : Nat} {a b c : Value} (h : Blk w g 24 #[a, b, c]) : w.cell? ⟨g, 0, none⟩ = some a := h.cell 0
theorem Blk.m1' {w : World} {g : Nat} {a b c : Value} (h : Blk w g 24 #[a, b, c]) : w.cell? ⟨g, 1, none⟩ = some b := h.cell 1
theorem Blk.m2' {w : World} {g : Nat} {a b c : Value} (h : Blk w g 24 #[a, b, c]) : w.cell? ⟨g, 2, none⟩ = some c := h.cell 2
theorem own_low1 {w : World} {base base' : Nat} {e : TypeId} {size : Nat} {v : Value} {n : Nat} {xs : List Value} (h : w.ownsRow base e size v n xs) (hb : base' ≤ base) : w.ownsRow base' e size v n xs := by
  obtain ⟨h0, h1 | ⟨g, c, cur, he, k1, k2, k3⟩⟩ := h
  · exact ⟨h0, .inl h1⟩
  · exact ⟨h0, .inr ⟨g, c, cur, he, Nat.le_trans hb k1, k2, k3⟩⟩
/-- append of one text, as it runs. -/
theorem Ap_run {w2 : World} {base m c1 b : Nat} {A1 : Option Addr} {l : List ByteArray} (kd : ByteArray) (hrow : w2.ownsRow base 9 1 (.slice A1 m c1) m (flatT l)) (hb : Blk w2 b 9 #[.string kd]) (hbase : base ≤ w2.heap.size) (hm : m ≤ 5000) :
    ∃ A3 c3 w3, Sem.run Tryz.prog (Builtin.append_ #[34, 34] 34 #[.slice A1 m c1, .slice (some ⟨b, 0, none⟩) 1 1]) w2 = .ok (.slice A3 (m + 1) c3) w3 ∧ w3.ownsRow base 9 1 (.slice A3 (m + 1) c3) (m + 1) (flatT (l ++ [kd])) ∧ w2.grownBy w3 (Value.slice A1 m c1).ownBlock := by
  obtain ⟨i0, hi9, hz90, hz91, hz92⟩ := info_parts infoT
  obtain ⟨v3, w3, hrun3, hown3, hgr3, _, _⟩ := run_append_own_at (P := Tryz.prog) w2 base 34 34 9 i0 (.string ⟨#[]⟩) 1 16 underT hi9 hz90 hz91 hz92 rfl (by decide) _ _ _ hrow ⟨b, 0, none⟩ 1 1 [.string kd] rfl (World.news_of_block hb) (by intro u hu; simp at hu; subst hu; rfl) (by unfold maxLen; omega) (by omega) hbase
  obtain ⟨A3, c3, rfl⟩ := own_formT hown3
  exact ⟨A3, c3, w3, hrun3, by rw [flatT_append]; exact hown3, hgr3⟩
/-- The contract of spec.Stacks at a tree. -/
def SSOf (n : Nd) : Prop := ∀ (st : ByteArray) (W : World) (p : List ByteArray) (A : Option Addr) (m c : Nat), n.shapedB = true → n.size ≤ 400 → n.In W W.heap.size → TxAt W A p → p.length = m → p.length + n.size ≤ 1000 →
  Calls Tryz.prog 21 #[n.val, .string st, .slice A m c] W (SpPost W (n.stk st p))
set_option maxHeartbeats 2000000 in
set_option maxRecDepth 100000 in
theorem ss_of (n : Nd) (IH : ∀ k ∈ bl n, SSOf k) : SSOf n := by
  intro st W p A m c hs hz hin hA hm hpz
  subst hm
  have HI := Lib.hid IH
  obtain ⟨i0, hi0, hz0, hza, hzb⟩ := info_parts infoT
  obtain ⟨j0, hj0, hy0, hya, hyb⟩ := info_parts infoS
  have HN := Lib.hid (And.intro hj0 (And.intro hy0 (And.intro hya hyb)))
  clear IH hj0 hy0 hya hyb
  show Calls _ _ #[.agg #[.string n.kd, .string n.tx, .slice n.ad n.ks.length n.cp], .string st, .slice A p.length c] W _
  have hb1 : Below W.heap.size W (W.alloc (.cells #[.string n.kd, .string n.tx, .slice n.ad n.ks.length n.cp] 24)) := (Below.refl _ _).alloc (Nat.le_refl _) _
  have hbox : Blk (W.alloc (.cells #[.string n.kd, .string n.tx, .slice n.ad n.ks.length n.cp] 24)) W.heap.size 24 #[.string n.kd, .string n.tx, .slice n.ad n.ks.length n.cp] := Blk.new _ _ _
  have hs1 : (W.alloc (.cells #[.string n.kd, .string n.tx, .slice n.ad n.ks.length n.cp] 24)).heap.size = W.heap.size + 1 := World.size_alloc _ _
  have HC1 := Lib.hid (CloneT_any A p c (W.alloc (.cells #[.string n.kd, .string n.tx, .slice n.ad n.ks.length n.cp] 24)).drew (hA.below hb1.drew) (by omega) _ rfl)
  have hb1a : Below W.heap.size W ((W.alloc (.cells #[.string n.kd, .string n.tx, .slice n.ad n.ks.length n.cp] 24)).alloc (.cells #[.string n.kd] 9)).drew := (hb1.alloc (by rw [hs1]; omega) _).drew
  have HC2 := Lib.hid (CloneT_any A p c ((W.alloc (.cells #[.string n.kd, .string n.tx, .slice n.ad n.ks.length n.cp] 24)).alloc (.cells #[.string n.kd] 9)).drew (hA.below hb1a) (by omega) _ rfl)
  have hs1a : ((W.alloc (.cells #[.string n.kd, .string n.tx, .slice n.ad n.ks.length n.cp] 24)).alloc (.cells #[.string n.kd] 9)).heap.size = W.heap.size + 2 := by rw [World.size_alloc, hs1]
  have hk1a : Blk ((W.alloc (.cells #[.string n.kd, .string n.tx, .slice n.ad n.ks.length n.cp] 24)).alloc (.cells #[.string n.kd] 9)) (W.heap.size + 1) 9 #[.string n.kd] := by
    have h := Blk.new (W.alloc (.cells #[.string n.kd, .string n.tx, .slice n.ad n.ks.length n.cp] 24)) 9 #[.string n.kd]
    rwa [hs1] at h
  have H0 := Lib.hid (And.intro hin (And.intro hb1 (And.intro hbox (And.intro trivial (And.intro hb1a hk1a)))))
  have y1 : (W.alloc (.cells #[.string n.kd, .string n.tx, .slice n.ad n.ks.length n.cp] 24)).drew.cell? ⟨W.heap.size, 0, none⟩ = some (.string n.kd) := hbox.cell 0
  have y1a : ((W.alloc (.cells #[.string n.kd, .string n.tx, .slice n.ad n.ks.length n.cp] 24)).alloc (.cells #[.string n.kd] 9)).drew.cell? ⟨W.heap.size, 0, none⟩ = some (.string n.kd) := (hbox.alloc _).cell 0
  have hm5 : p.length ≤ 5000 := by omega
  have hF1 : ∀ (w2 : World) (A1 : Option Addr) (c1 : Nat), w2.ownsRow (W.alloc (.cells #[.string n.kd, .string n.tx, .slice n.ad n.ks.length n.cp] 24)).drew.heap.size 9 1 (.slice A1 p.length c1) p.length (flatT p) → Below (W.alloc (.cells #[.string n.kd, .string n.tx, .slice n.ad n.ks.length n.cp] 24)).drew.heap.size (W.alloc (.cells #[.string n.kd, .string n.tx, .slice n.ad n.ks.length n.cp] 24)).drew w2 → ∃ A3 c3 w3,
      Sem.run Tryz.prog (Builtin.append_ #[34, 34] 34 #[.slice A1 p.length c1, .slice (some ⟨w2.heap.size, 0, none⟩) 1 1]) (w2.alloc (.cells #[.string n.kd] 9)) = .ok (.slice A3 (p.length + 1) c3) w3 ∧ w2.cell? ⟨W.heap.size, 0, none⟩ = some (.string n.kd) ∧ (w2.alloc (.cells #[.string n.kd] 9)).cell? ⟨W.heap.size, 0, none⟩ = some (.string n.kd) ∧ w3.cell? ⟨W.heap.size, 0, none⟩ = some (.string n.kd) ∧
      (w3.ownsRow (W.heap.size + 1) 9 1 (.slice A3 (p.length + 1) c3) (p.length + 1) (flatT (p ++ [n.kd])) ∧ Below W.heap.size W w3 ∧ Blk w3 W.heap.size 24 #[.string n.kd, .string n.tx, .slice n.ad n.ks.length n.cp] ∧ W.heap.size + 1 ≤ w3.heap.size) := by
    intro w2 A1 c1 hown hb2
    have hs2 := hb2.size
    have hw1 : (W.alloc (.cells #[.string n.kd, .string n.tx, .slice n.ad n.ks.length n.cp] 24)).drew.heap.size = W.heap.size + 1 := hs1
    obtain ⟨A3, c3, w3, hrun, hown3, hgr3⟩ := Ap_run n.kd (own_keep (w1 := w2.alloc (.cells #[.string n.kd] 9)) hown (fun g _ hg => Below.heap_alloc w2 _ g hg)) (Blk.new w2 9 #[.string n.kd]) (Nat.le_trans hs2 (Below.al w2 _).size) hm5
    have hX2 := hbox.drew.below hb2 hbox.lt
    have hB3 := (hb2.alloc hs2 (.cells #[.string n.kd] 9)).trans (below_own (own_keep (w1 := w2.alloc (.cells #[.string n.kd] 9)) hown (fun g _ hg => Below.heap_alloc w2 _ g hg)) hgr3 (Nat.le_refl _) (Nat.le_trans hs2 (Below.al w2 _).size))
    have hs3 := hB3.size
    exact ⟨A3, c3, w3, hrun, hX2.m0', (hX2.alloc _).m0', (hbox.drew.below hB3 hbox.lt).m0', own_low1 hown3 (by omega), hb1.drew.trans (hB3.mono (by omega)), hbox.drew.below hB3 hbox.lt, by omega⟩
  have hF2 : ∀ (w2 : World) (A1 : Option Addr) (c1 : Nat), w2.ownsRow (World.alloc (W.alloc (.cells #[.string n.kd, .string n.tx, .slice n.ad n.ks.length n.cp] 24)) (.cells #[.string n.kd] 9)).drew.heap.size 9 1 (.slice A1 p.length c1) p.length (flatT p) → Below (World.alloc (W.alloc (.cells #[.string n.kd, .string n.tx, .slice n.ad n.ks.length n.cp] 24)) (.cells #[.string n.kd] 9)).drew.heap.size (World.alloc (W.alloc (.cells #[.string n.kd, .string n.tx, .slice n.ad n.ks.length n.cp] 24)) (.cells #[.string n.kd] 9)).drew w2 → ∃ A3 c3 w3,
      Sem.run Tryz.prog (Builtin.append_ #[34, 34] 34 #[.slice A1 p.length c1, .slice (some ⟨W.heap.size + 1, 0, none⟩) 1 1]) w2 = .ok (.slice A3 (p.length + 1) c3) w3 ∧ w2.cell? ⟨W.heap.size, 0, none⟩ = some (.string n.kd) ∧ w3.cell? ⟨W.heap.size, 0, none⟩ = some (.string n.kd) ∧
      (w3.ownsRow (W.heap.size + 1) 9 1 (.slice A3 (p.length + 1) c3) (p.length + 1) (flatT (p ++ [n.kd])) ∧ Below W.heap.size W w3 ∧ Blk w3 W.heap.size 24 #[.string n.kd, .string n.tx, .slice n.ad n.ks.length n.cp] ∧ W.heap.size + 1 ≤ w3.heap.size) := by
    intro w2 A1 c1 hown hb2
    have hs2 := hb2.size
    have hw1 : (World.alloc (W.alloc (.cells #[.string n.kd, .string n.tx, .slice n.ad n.ks.length n.cp] 24)) (.cells #[.string n.kd] 9)).drew.heap.size = W.heap.size + 2 := hs1a
    obtain ⟨A3, c3, w3, hrun, hown3, hgr3⟩ := Ap_run n.kd hown (hk1a.drew.below hb2 hk1a.lt) hs2 hm5
    have hX2 := (hbox.alloc (.cells #[.string n.kd] 9)).drew.below hb2 (hbox.alloc (.cells #[.string n.kd] 9)).lt
    have hB3 := hb2.trans (below_own hown hgr3 (Nat.le_refl _) hs2)
    have hs3 := hB3.size
    exact ⟨A3, c3, w3, hrun, hX2.m0', ((hbox.alloc (.cells #[.string n.kd] 9)).drew.below hB3 (hbox.alloc (.cells #[.string n.kd] 9)).lt).m0', own_low1 hown3 (by omega), hb1a.trans (hB3.mono (by omega)), (hbox.alloc (.cells #[.string n.kd] 9)).drew.below hB3 (hbox.alloc (.cells #[.string n.kd] 9)).lt, by omega⟩
  have HF1 := Lib.hid hF1
  have HF2 := Lib.hid hF2
  clear hin hb1 hbox hA hb1a hk1a hF1 hF2
  go_enter Tryz.func21, Tryz.ntmps21
  go_wp2_with fail
  go_region_held3 (fun w' => w'.cell? ⟨W.heap.size, 0, none⟩ = some (.string n.kd))
    (first | with_reducible exact z3 | with_reducible exact z2a | with_reducible exact z2 | with_reducible exact y1a | exact y1)
    (first
      | (refine HC1.out.mono ?_; rintro e w2 ⟨v, rfl, hown, hb2⟩; obtain ⟨A1, c1, rfl⟩ := own_len hown; obtain ⟨A3, c3, w3, hrun, z2, z2a, z3, hp⟩ := HF1.out w2 A1 c1 hown hb2; have R := Lib.hid hrun; have HW := Lib.hid hp; clear hown hb2 hrun hp)
      | (refine HC2.out.mono ?_; rintro e w2 ⟨v, rfl, hown, hb2⟩; obtain ⟨A1, c1, rfl⟩ := own_len hown; obtain ⟨A3, c3, w3, hrun, z2, z3, hp⟩ := HF2.out w2 A1 c1 hown hb2; have R := Lib.hid hrun; have HW := Lib.hid hp; clear hown hb2 hrun hp)
      | (refine step_append rfl _ _ rfl rfl rfl R.out ?_))
  all_goals clear HC1 HC2 HF1 HF2 R y1 y1a
  all_goals try clear z2a
  all_goals clear z2
  all_goals
    have hz3 := HW.out.2.2.2
    have HJ := Lib.hid (RJ.start (r := p ++ [n.kd]) HW.out.1 (by simp) HW.out.2.1)
    have HT3 := Lib.hid (TxAt.of (m := p.length + 1) (c := c3) (l := p ++ [n.kd]) (by rw [List.length_append, List.length_singleton]; exact HW.out.1))
    have HA3 := Lib.hid (fun (q : Addr) (hq : A3 = some q) => (own_ge HW.out.1 (g := q.block) (by rw [hq]; rfl)).2)
    have hw4 : (w3.alloc (.cells #[.slice A3 (p.length + 1) c3] 34)).heap.size = w3.heap.size + 1 := World.size_alloc _ _
    have z4 : (w3.alloc (.cells #[.slice A3 (p.length + 1) c3] 34)).cell? ⟨W.heap.size, 0, none⟩ = some (.string n.kd) := (HW.out.2.2.1.alloc _).m0'
    have z5 : (w3.alloc (.cells #[.slice A3 (p.length + 1) c3] 34)).cell? ⟨W.heap.size, 1, none⟩ = some (.string n.tx) := (HW.out.2.2.1.alloc _).m1'
    have z6 : (w3.alloc (.cells #[.slice A3 (p.length + 1) c3] 34)).cell? ⟨W.heap.size, 2, none⟩ = some (.slice n.ad n.ks.length n.cp) := (HW.out.2.2.1.alloc _).m2'
    cases hst : (n.kd.toList == st.toList)
    rotate_left
    · have hE := stk_bl st n p
      rw [hst, if_pos rfl] at hE
      have HE := Lib.hid hE
      clear hE
      go_wp2_with fail
      go_ret
      rw [HE.out]
      exact ⟨_, _, _, rfl, own_low1 HJ.out.1 (by omega), HJ.out.2.2.2.2.2, HJ.out.2.2.1⟩
    · have hE := stk_bl st n p
      rw [hst, if_neg Bool.false_ne_true] at hE
      have HE := Lib.hid hE
      clear hE
      go_wp2_with fail
      refine (below_any n (by have := sizeL_len n.ks; rw [Nd.size_eq] at hz; omega) _ (H0.out.1.below HJ.out.2.2.1 HJ.out.2.2.1.size)).mono ?_
      rintro e w5 ⟨Ab, cb, rfl, hel, hAb, hb5⟩
      have hz5 := hb5.size
      rw [hw4] at hz5
      have hAb' : ∀ q, Ab = some q → w3.heap.size < q.block := fun q hq => by
        have h := hAb q hq
        rw [hw4] at h
        omega
      have HJ5 := Lib.hid ((HJ.out.next hb5).re (fun g e => by cases e; rfl))
      have HT5 := Lib.hid ((HT3.out.below (Below.al w3 (.cells #[.slice A3 (p.length + 1) c3] 34))).below hb5)
      have HEL := Lib.hid (And.intro hel hAb')
      have hM : (bl n).length ≤ 9223372036854775807 := by have := bl_lenZ n; omega
      have hsl := stk_len st n p
      rw [HE.out, List.length_cons] at hsl
      clear hb5 hel hAb hAb' z3 z4 z5 z6
      go_wp2_with fail
      go_loopw [8, 27] (fun sv i' wr => ∃ (j : Nat) (m : Nat) (rows : List (List ByteArray)) (rvs : List Value), i' = .int .i64 j ∧ j ≤ (bl n).length ∧ rows = [p ++ [n.kd]] ++ stkL st (p ++ [n.kd]) ((bl n).take j) ∧ m = rows.length ∧ RJ w3.heap.size W w5 sv rows m rvs wr) (fun _ i' _ => (bl n).length - (intOf i').toNat)
      case atStart => exact ⟨0, 1, _, _, rfl, Nat.zero_le _, by rw [List.take_zero, stkL, List.append_nil], rfl, HJ5.out⟩
      case round =>
        obtain ⟨j, m, rows, rvs, rfl, hj, hl, hm, hR⟩ := hrel
        obtain ⟨A6, c6, rfl⟩ := own_len hR.1
        have HRR := Lib.hid hR
        have HLL := Lib.hid (And.intro hl hm)
        have hml : m ≤ 1 + (stkL st (p ++ [n.kd]) (bl n)).length := by
          rw [hm, hl, List.length_append, List.length_singleton]
          have := stkL_le st (p ++ [n.kd]) (bl n) j
          omega
        have hzr := hR.2.2.2.1
        clear hl hm
        by_cases hlt : j < (bl n).length
        · have hj0 : (bl n)[j]? = some (bl n)[j] := List.getElem?_eq_getElem hlt
          have hmem : (bl n)[j] ∈ bl n := List.getElem_mem hlt
          have hev := stkL_take (st := st) (p := p ++ [n.kd]) hj0
          have hle := stkL_le st (p ++ [n.kd]) (bl n) (j + 1)
          obtain ⟨b, o, hAe, hb, e0, e1, e2⟩ := hR.elem (HEL.out.1 j _ hj0) HEL.out.2
          obtain ⟨hks, hksh⟩ := bl_smallZ hs hmem
          have hkin := bl_in H0.out.1 j _ hj0
          generalize (bl n)[j] = x at hj0 hmem hev e0 e1 e2 hks hksh hkin
          subst hAe
          rw [hev, List.length_append] at hle
          have HX := Lib.hid (And.intro hmem (And.intro hev (And.intro hksh hkin)))
          clear hR hmem hev hksh hkin hj0
          go_wp2_with fail
          refine (HI.out x HX.out.1 st _ (p ++ [n.kd]) A3 (p.length + 1) c3 HX.out.2.2.1 (by omega) (HX.out.2.2.2.below (HRR.out.next (Below.al wr _)).2.2.1 (HRR.out.next (Below.al wr _)).2.2.1.size) ?_ (by simp) (by simp; omega)).mono ?_
          · refine TxAt.below ?_ (Below.al wr _)
            exact HT5.out.keep fun q hq => HRR.out.2.2.2.2.1 q.block (by have := HA3.out q hq; omega) (by have := HA3.out q hq; omega)
          rintro e w6 ⟨A7, c7, rvs7, rfl, hown7, hr7, hb7⟩
          have HRw := Lib.hid (HRR.out.next (Below.al wr (.cells #[.string x.kd, .string x.tx, .slice x.ad x.ks.length x.cp] 24)))
          have HR6 := Lib.hid (HRw.out.next hb7)
          have HO7 := Lib.hid (And.intro hown7 (And.intro hr7 hb7))
          obtain ⟨hj0, hy0, hya, hyb⟩ := HN.out
          clear hown7 hr7 hb7 e0 e1 e2
          go_wp2_with (at_builtin; refine wpl_append_rows rfl _ _ 40 rfl 34 j0 _ 1 24 underS hj0 hy0 hya hyb rfl (by decide) rfl rfl HR6.out.1 HO7.out.1 HO7.out.2.1.one (by unfold maxLen; omega) (by omega) (by have := HR6.out.2.2.2.1; omega) ?_; intro v3 w7 hown hgr hloc; have HR7 := Lib.hid (HRw.out.app (by omega) HO7.out.2.2 HO7.out.2.1 hown hgr hloc); clear hown hgr hloc)
          go_roundw
          case rel => exact ⟨j + 1, m + (x.stk st (p ++ [n.kd])).length, rows ++ x.stk st (p ++ [n.kd]), rvs ++ rvs7, by go_num, by omega, by rw [HX.out.2.1, HLL.out.1, List.append_assoc], by rw [List.length_append, HLL.out.2], HR7.out⟩
          case measure => simp [intOf]; omega
        · have hje : (bl n).take j = bl n := List.take_of_length_le (by omega)
          have hrw : rows = n.stk st p := by rw [HLL.out.1, hje, HE.out]; rfl
          have HS := Lib.hid hrw
          clear hje hrw hR
          go_wp2_with fail
          go_ret
          rw [← HS.out]
          refine ⟨A6, c6, rvs, by rw [← HLL.out.2]; rfl, ?_, ?_, HRR.out.2.2.1⟩
          · rw [← HLL.out.2]
            exact own_low1 HRR.out.1 (by omega)
          · rw [← HLL.out.2]
            exact HRR.out.2.2.2.2.2
/-- spec.Stacks of any shaped tree. -/
theorem specStacks_any : ∀ n : Nd, SSOf n := by
  have hn : ∀ tx, SSOf (nmNd tx) := fun tx => ss_of _ (fun k hk => by
    have h6 : ¬ kcode (⟨#[110, 97, 109, 101]⟩ : ByteArray) = 6 := by decide
    have hk : k ∈ ([] ++ (if kcode (⟨#[110, 97, 109, 101]⟩ : ByteArray) = 6 then [nmNd tx] else [])) := hk
    rw [if_neg h6] at hk
    cases hk)
  refine Nd.ind fun n ih => ss_of n fun k hk => ?_
  rcases List.mem_append.1 hk with hk | hk
  · exact ih k hk
  · split at hk
    · obtain rfl := List.mem_singleton.1 hk
      exact hn _
    · cases hk
end Go.Proofs.YtlpnepgljdhpkaaGreatFmt
