/-
  spec.Tokens: its two functions; spec.list: the tokens of nodes with commas between.
  spec.Tokens: its state; its two functions; what it hands to join.
  The tokens of a short tree are short; what the law of nesting asks of the spans.
-/
import Derived.Test.YtjbhjbpamnoebaaGreatFmtGd
import Derived.Test.YtjbhjbpamnoebaaGreatFmtL1
namespace Go.Proofs.YtjbhjbpamnoebaaGreatFmt
open Go.RowKit

theorem ntok_le : ∀ n : Nd, n.shapedB = true → n.ntok + 1 ≤ 5 * n.size := by
  refine Nd.ind fun n ih h => ?_
  rw [Nd.shapedB_eq, Bool.and_eq_true, List.all_eq_true] at h
  have hL : ∀ ks : List Nd, (∀ k ∈ ks, k ∈ n.ks) → ntokL ks + ks.length ≤ 5 * sizeL ks := by
    intro ks
    induction ks with
    | nil => intro _; simp [ntokL]
    | cons k ks ihk =>
      intro hm
      have h1 := ih k (hm k (List.mem_cons_self ..)) (h.1 k (hm k (List.mem_cons_self ..)))
      have h2 := ihk fun x hx => hm x (List.mem_cons_of_mem _ hx)
      rw [ntokL, sizeL, List.length_cons]
      omega
  have h1 := hL n.ks fun _ h => h
  have h2 : ownTok (kcode n.kd) n.tx n.ks.length ≤ 4 + n.ks.length := by
    unfold ownTok
    repeat' split
    all_goals omega
  have h3 : n.ntok = ownTok (kcode n.kd) n.tx n.ks.length + ntokL n.ks := by
    obtain ⟨kd, tx, ad, cp, ks⟩ := n
    rw [Nd.ntok]
  rw [h3, Nd.size_eq]
  omega
theorem comma_snoc : ∀ (ts : List (List ByteArray)) (t : List ByteArray), commaT (ts ++ [t]) = commaT ts ++ (if ts = [] then [] else [⟨#[44]⟩]) ++ t
  | [], t => rfl
  | [a], t => by simp [commaT]
  | a :: b :: ts, t => by
    have h := comma_snoc (b :: ts) t
    rw [List.cons_append, List.cons_append, commaT, ← List.cons_append, h, commaT]
    simp
/-- What list has after so many nodes. -/
def cm (ks : List Nd) (j : Nat) : List ByteArray := commaT ((ks.take j).map Nd.toks)
theorem cm_next {ks : List Nd} {j : Nat} {x : Nd} (h : ks[j]? = some x) : cm ks (j + 1) = cm ks j ++ (if j = 0 then [] else [⟨#[44]⟩]) ++ x.toks := by
  have hl : j < ks.length := (List.getElem?_eq_some_iff.1 h).1
  unfold cm
  rw [List.take_add_one, h, Option.toList_some, List.map_append, List.map_cons, List.map_nil, comma_snoc]
  rcases Nat.eq_zero_or_pos j with rfl | h0
  · simp
  · have hne : (ks.take j).map Nd.toks ≠ [] := fun he => by
      have := congrArg List.length he
      rw [List.length_map, List.length_take, List.length_nil] at this
      omega
    rw [if_neg hne, if_neg (by omega)]
theorem cm_le (ks : List Nd) (hs : ∀ k ∈ ks, k.shapedB = true) (j : Nat) : (cm ks j).length ≤ 6 * sizeL ks := by
  have h1 : ∀ l : List Nd, (∀ k ∈ l, k.shapedB = true) → lenL (l.map Nd.toks) + l.length ≤ 5 * sizeL l := by
    intro l
    induction l with
    | nil => intro _; simp [lenL]
    | cons k l ih =>
      intro h
      have h2 := toks_len k (h k (List.mem_cons_self ..))
      have h3 := ntok_le k (h k (List.mem_cons_self ..))
      have h4 := ih fun x hx => h x (List.mem_cons_of_mem _ hx)
      rw [sizeL, List.length_cons, List.map_cons]
      simp only [lenL, List.map_cons, List.sum_cons] at h4 ⊢
      omega
  have hsz : ∀ (l : List Nd) (j : Nat), sizeL (l.take j) ≤ sizeL l := by
    intro l
    induction l with
    | nil => intro j; simp
    | cons k l ih =>
      intro j
      cases j with
      | zero => simp [sizeL]
      | succ j =>
        have := ih j
        rw [List.take_succ_cons, sizeL, sizeL]
        omega
  have h := h1 (ks.take j) fun k hk => hs k (List.mem_of_mem_take hk)
  have h5 := hsz ks j
  rw [cm, comma_len, List.length_map]
  omega
/-- The contract of spec.Tokens at a tree. -/
def TOf (n : Nd) : Prop := ∀ W : World, n.shapedB = true → n.size ≤ 400 → n.In W W.heap.size → Calls Tryz.prog 13 #[n.val] W (EvPost W n.toks)
set_option maxHeartbeats 2000000 in
set_option maxRecDepth 100000 in
theorem tlist_any (ks : List Nd) (IH : ∀ k ∈ ks, TOf k) (hs : ∀ k ∈ ks, k.shapedB = true) (hz : sizeL ks ≤ 400) (A : Option Addr) (cap : Nat) (W : World) (hin : ∀ (j : Nat) (k : Nd), ks[j]? = some k → ElemAt W W.heap.size A j k ∧ k.In W W.heap.size) (k : Nat) (hk : k = ks.length) :
    Calls Tryz.prog 26 #[.slice A k cap] W (EvPost W (commaT (ks.map Nd.toks))) := by
  subst hk
  obtain ⟨i0, hi0, hz0, hza, hzb⟩ := info_parts infoT
  have HN := Lib.hid (And.intro hi0 (And.intro hz0 (And.intro hza hzb)))
  have H0 := Lib.hid (And.intro IH (And.intro hs hin))
  have hlen := sizeL_len ks
  have HCL := Lib.hid (cm_le ks hs)
  clear hi0 hz0 hza hzb IH hs hin
  go_enter Tryz.func26, Tryz.ntmps26
  have hM : ks.length ≤ 9223372036854775807 := by omega
  go_wp2_with fail
  go_loopw [3, 8] (fun sv i' wr => ∃ (j m : Nat) (l : List ByteArray), i' = .int .i64 j ∧ j ≤ ks.length ∧ l = cm ks j ∧ m = l.length ∧ wr.ownsRow W.heap.size 9 1 sv m (flatT l) ∧ Below W.heap.size W wr) (fun _ i' _ => ks.length - (intOf i').toNat)
  case atStart => exact ⟨0, 0, [], rfl, Nat.zero_le _, rfl, rfl, World.ownsRow_nil _ _ _ _, Below.refl _ _⟩
  case round =>
    obtain ⟨j, m, l, rfl, hj, hl, hm, hR, hB⟩ := hrel
    obtain ⟨A2, c2, rfl⟩ := own_len hR
    have hml : m ≤ 2400 := by
      have := HCL.out j
      rw [hm, hl]
      omega
    by_cases hlt : j < ks.length
    · have hj0 : ks[j]? = some ks[j] := List.getElem?_eq_getElem hlt
      have hmem := List.getElem_mem hlt
      obtain ⟨⟨b, o, hA, hb, e0, e1, e2⟩, hkin⟩ := H0.out.2.2 j _ hj0
      have hnx := cm_next hj0
      have hle := HCL.out (j + 1)
      have hsz := sizeL_mem hmem
      generalize ks[j] = x at hj0 hmem e0 e1 e2 hkin hnx hsz
      subst hA
      have HX := Lib.hid (And.intro hmem (And.intro hnx (And.intro hl (And.intro hm hle))))
      have HO := Lib.hid (And.intro hR (And.intro hB hkin))
      have f0 : wr.cell? ⟨b, o + j * 3, none⟩ = some (.string x.kd) := (hB.cell (p := ⟨b, o + j * 3, none⟩) hb).trans e0
      have f1 : wr.cell? ⟨b, o + j * 3 + 1, none⟩ = some (.string x.tx) := (hB.cell (p := ⟨b, o + j * 3 + 1, none⟩) hb).trans e1
      have f2 : wr.cell? ⟨b, o + j * 3 + 2, none⟩ = some (.slice x.ad x.ks.length x.cp) := (hB.cell (p := ⟨b, o + j * 3 + 2, none⟩) hb).trans e2
      clear hj0 hmem e0 e1 e2 hkin hnx hl hm hR hB hle
      by_cases h0 : j = 0
      · subst h0
        have hcm : cm ks (0 + 1) = l ++ x.toks := by rw [HX.out.2.1, if_pos rfl, List.append_nil, HX.out.2.2.1]
        simp only [Nat.zero_mul, Nat.add_zero] at f0 f1 f2
        have HC := Lib.hid hcm
        have hm2 : m + x.toks.length ≤ 2400 := by
          have h1 := HX.out.2.2.2.2
          rw [hcm, List.length_append, ← HX.out.2.2.2.1] at h1
          omega
        have HB1 := Lib.hid (show Below W.heap.size W (wr.alloc (.cells #[.string x.kd, .string x.tx, .slice x.ad x.ks.length x.cp] 24)) from HO.out.2.1.alloc HO.out.2.1.size _)
        clear hcm
        go_wp2_with fail
        refine (H0.out.1 x HX.out.1 _ (H0.out.2.1 x HX.out.1) (by omega) (HO.out.2.2.below HB1.out HB1.out.size)).mono ?_
        rintro e w2 ⟨A3, c3, rfl, hown2, hb2⟩
        have HR2 := Lib.hid (And.intro (own_keep (own_keep HO.out.1 (fun g _ hg => Below.heap_alloc wr _ g hg)) (fun g _ hg => hb2.block g hg)) (HB1.out.trans (hb2.mono HB1.out.size)))
        have HO2 := Lib.hid hown2
        obtain ⟨hi0, hz0, hza, hzb⟩ := HN.out
        clear hown2 hb2 f0 f1 f2
        go_wp2_with (at_builtin; refine wpl_append_rows rfl _ _ 36 rfl 9 i0 _ 1 16 underT hi0 hz0 hza hzb rfl (by decide) rfl rfl HR2.out.1 HO2.out (flatT_c1 _) (by unfold maxLen; omega) (by omega) HR2.out.2.size ?_; intro v3 w3 hown hgr hloc; have HR3 := Lib.hid (And.intro hown (HR2.out.2.trans (below_own HR2.out.1 hgr (Nat.le_refl _) HR2.out.2.size))); clear hown hgr hloc)
        go_roundw
        case rel => exact ⟨0 + 1, m + x.toks.length, l ++ x.toks, by go_num, by omega, by rw [HC.out], by rw [List.length_append, HX.out.2.2.2.1], by rw [flatT_append]; exact HR3.out.1, HR3.out.2⟩
        case measure => simp [intOf]; omega
      · have hcm : cm ks (j + 1) = l ++ [⟨#[44]⟩] ++ x.toks := by rw [HX.out.2.1, if_neg h0, HX.out.2.2.1]
        have HC := Lib.hid hcm
        have hjz : (j : Int) > 0 := by omega
        have hm2 : m + 1 + x.toks.length ≤ 2400 := by
          have h1 := HX.out.2.2.2.2
          rw [hcm, List.length_append, List.length_append, ← HX.out.2.2.2.1, List.length_singleton] at h1
          omega
        obtain ⟨hi0, hz0, hza, hzb⟩ := HN.out
        have HBX := Lib.hid (And.intro ((Blk.new wr 24 #[.string x.kd, .string x.tx, .slice x.ad x.ks.length x.cp]).alloc (.cells #[.string ⟨#[44]⟩] 9)) (And.intro (own_keep (own_keep HO.out.1 (fun g _ hg => Below.heap_alloc wr (.cells #[.string x.kd, .string x.tx, .slice x.ad x.ks.length x.cp] 24) g hg)) (fun g _ hg => Below.heap_alloc _ (.cells #[.string ⟨#[44]⟩] 9) g hg)) (show Below W.heap.size W ((wr.alloc (.cells #[.string x.kd, .string x.tx, .slice x.ad x.ks.length x.cp] 24)).alloc (.cells #[.string ⟨#[44]⟩] 9)) from (HO.out.2.1.alloc HO.out.2.1.size _).alloc (by rw [World.size_alloc]; have := HO.out.2.1.size; omega) _)))
        have HFR := Lib.hid (show ∀ g, (Value.slice A2 m c2).ownBlock = some g → g < wr.heap.size from fun g hg => (own_ge HO.out.1 hg).2)
        clear hcm
        have HNB := Lib.hid (show Blk ((wr.alloc (.cells #[.string x.kd, .string x.tx, .slice x.ad x.ks.length x.cp] 24)).alloc (.cells #[.string ⟨#[44]⟩] 9)) (wr.heap.size + 1) 9 #[.string ⟨#[44]⟩] from by
          have h := Blk.new (wr.alloc (.cells #[.string x.kd, .string x.tx, .slice x.ad x.ks.length x.cp] 24)) 9 #[.string ⟨#[44]⟩]
          rwa [World.size_alloc] at h)
        go_wp2_with (at_builtin; refine wpList_append_own_at _ rfl _ _ 36 rfl W.heap.size 9 i0 (.string ⟨#[]⟩) 1 16 underT hi0 hz0 hza hzb rfl (by decide) _ _ (flatT l) rfl HBX.out.2.1 ⟨_, 0, none⟩ 1 1 [.string ⟨#[44]⟩] rfl rfl (World.news_of_block HNB.out) (by intro u hu; simp at hu; subst hu; rfl) (by unfold maxLen; omega) (by omega) HBX.out.2.2.size ?_; intro v3 w3 hown hgr hnil hloc; have g0 : w3.cell? ⟨wr.heap.size, 0, none⟩ = some (.string x.kd) := (HBX.out.1.grown hgr (fun e => by have := HFR.out _ e.symm; omega)).cell 0; have g1 : w3.cell? ⟨wr.heap.size, 1, none⟩ = some (.string x.tx) := (HBX.out.1.grown hgr (fun e => by have := HFR.out _ e.symm; omega)).cell 1; have g2 : w3.cell? ⟨wr.heap.size, 2, none⟩ = some (.slice x.ad x.ks.length x.cp) := (HBX.out.1.grown hgr (fun e => by have := HFR.out _ e.symm; omega)).cell 2; have HR3 := Lib.hid (And.intro hown (HBX.out.2.2.trans (below_own HBX.out.2.1 hgr (Nat.le_refl _) HBX.out.2.2.size))); clear hown hgr hnil hloc)
        refine (H0.out.1 x HX.out.1 _ (H0.out.2.1 x HX.out.1) (by omega) (HO.out.2.2.below HR3.out.2 HR3.out.2.size)).mono ?_
        rintro e w4 ⟨A4, c4, rfl, hown4, hb4⟩
        have HR4 := Lib.hid (And.intro (own_keep (flatT_append l [⟨#[44]⟩] ▸ HR3.out.1 : w3.ownsRow W.heap.size 9 1 v3 (m + 1) (flatT (l ++ [⟨#[44]⟩]))) (fun g _ hg => hb4.block g hg)) (HR3.out.2.trans (hb4.mono HR3.out.2.size)))
        have HO4 := Lib.hid hown4
        clear hown4 hb4 f0 f1 f2 g0 g1 g2
        go_wp2_with (at_builtin; refine wpl_append_rows rfl _ _ 36 rfl 9 i0 _ 1 16 underT hi0 hz0 hza hzb rfl (by decide) rfl rfl HR4.out.1 HO4.out (flatT_c1 _) (by unfold maxLen; omega) (by omega) HR4.out.2.size ?_; intro v5 w5 hown hgr hloc; have HR5 := Lib.hid (And.intro hown (HR4.out.2.trans (below_own HR4.out.1 hgr (Nat.le_refl _) HR4.out.2.size))); clear hown hgr hloc)
        go_roundw
        case rel => exact ⟨j + 1, m + 1 + x.toks.length, l ++ [⟨#[44]⟩] ++ x.toks, by go_num, by omega, by rw [HC.out], by rw [List.length_append, List.length_append, HX.out.2.2.2.1]; rfl, by rw [flatT_append]; exact HR5.out.1, HR5.out.2⟩
        case measure => simp [intOf]; omega
    · have hje : ks.take j = ks := List.take_of_length_le (by omega)
      have HO := Lib.hid (And.intro hR (And.intro hB (And.intro hje (And.intro hl hm))))
      clear hR hB hje hl hm
      go_wp2_with fail
      go_ret
      obtain ⟨q1, q2, q3, q4, q5⟩ := HO.out
      rw [cm, q3] at q4
      subst q4 q5
      exact ⟨_, _, rfl, q1, q2⟩
end Go.Proofs.YtjbhjbpamnoebaaGreatFmt

namespace Go.Proofs.YtjbhjbpamnoebaaGreatFmt
open Go.RowKit

/-- In the call of Tokens that began in W: the node's box, the row of its text, and what stood in W. -/
def TC (W : World) (n : Nd) (w : World) : Prop :=
  Blk w W.heap.size 24 n.cells.toArray ∧ Blk w (W.heap.size + 1) 9 #[.string n.tx] ∧ Below W.heap.size W w ∧ n.In w W.heap.size
/-- A row of texts that lies in w. -/
def Rw (w : World) (v : Value) (l : List ByteArray) : Prop := w.ownsRow 0 9 1 v l.length (flatT l)
section
variable {W w w' : World} {n : Nd} {v : Value} {l : List ByteArray}
theorem TC.next (h : TC W n w) (hb : Below w.heap.size w w') : TC W n w' := by
  obtain ⟨h1, h2, h3, h4⟩ := h
  exact ⟨h1.below hb h1.lt, h2.below hb h2.lt, h3.trans (hb.mono h3.size), h4.below (hb.mono h3.size) (Nat.le_refl _)⟩
theorem TC.alloc (h : TC W n w) (o : Obj) : TC W n (w.alloc o) := h.next (Below.al w o)
theorem TC.drew (h : TC W n w) : TC W n w.drew := h.next ((Below.refl _ _).drew)
theorem TC.start (hin : n.In W W.heap.size) : TC W n ((W.alloc (.cells n.cells.toArray 24)).alloc (.cells #[.string n.tx] 9)) := by
  have hb := ((Below.refl W.heap.size W).alloc (Nat.le_refl _) (.cells n.cells.toArray 24)).alloc (by rw [World.size_alloc]; omega) (.cells #[.string n.tx] 9)
  refine ⟨(Blk.new _ _ _).alloc _, ?_, hb, hin.below hb (Nat.le_refl _)⟩
  have h := Blk.new (W.alloc (.cells n.cells.toArray 24)) 9 #[.string n.tx]
  rwa [World.size_alloc] at h
theorem TC.c0 (h : TC W n w) : w.cell? ⟨W.heap.size, 0, none⟩ = some (.string n.kd) := h.1.cell 0
theorem TC.c1 (h : TC W n w) : w.cell? ⟨W.heap.size, 1, none⟩ = some (.string n.tx) := h.1.cell 1
theorem TC.c2 (h : TC W n w) : w.cell? ⟨W.heap.size, 2, none⟩ = some (.slice n.ad n.ks.length n.cp) := h.1.cell 2
theorem TC.below (h : TC W n w) : Below W.heap.size W w := h.2.2.1
theorem TC.in_ (h : TC W n w) : n.In w w.heap.size := h.2.2.2.below (Below.refl _ _) h.2.2.1.size
theorem TC.one (h : TC W n w) : Rw w (.slice (some ⟨W.heap.size + 1, 0, none⟩) 1 1) [n.tx] := ⟨rfl, .inr ⟨_, 1, _, rfl, Nat.zero_le _, h.2.1, Nat.le_refl _, by decide, rfl, rfl⟩⟩
theorem Rw.next (h : Rw w v l) (hb : Below w.heap.size w w') : Rw w' v l := own_keep h fun g _ hg => hb.block g hg
theorem Rw.alloc (h : Rw w v l) (o : Obj) : Rw (w.alloc o) v l := h.next (Below.al w o)
theorem Rw.drew (h : Rw w v l) : Rw w.drew v l := h.next ((Below.refl _ _).drew)
theorem Rw.low {B : Nat} (h : w.ownsRow B 9 1 v l.length (flatT l)) : Rw w v l := own_lowT h (Nat.zero_le _)
theorem Rw.newg {g : Nat} (w : World) (x : ByteArray) (hg : g = w.heap.size) : Rw (w.alloc (.cells #[.string x] 9)) (.slice (some ⟨g, 0, none⟩) 1 1) [x] := by
  subst hg
  exact ⟨rfl, .inr ⟨_, 1, _, rfl, Nat.zero_le _, Blk.new _ _ _, Nat.le_refl _, by decide, rfl, rfl⟩⟩
theorem Rw.newg2 {g : Nat} (w : World) (x y : ByteArray) (hg : g = w.heap.size) : Rw (w.alloc (.cells #[.string x, .string y] 9)) (.slice (some ⟨g, 0, none⟩) 2 2) [x, y] := by
  subst hg
  exact ⟨rfl, .inr ⟨_, 2, _, rfl, Nat.zero_le _, Blk.new _ _ _, Nat.le_refl _, by decide, rfl, rfl⟩⟩
end
theorem lists2 {w : World} {g : Nat} {v1 v2 : Value} {l1 l2 : List ByteArray} (h1 : Rw w v1 l1) (h2 : Rw w v2 l2) (hg : g = w.heap.size) : Lists (w.alloc (.cells #[v1, v2] 36)) (some ⟨g, 0, none⟩) [l1, l2] := by
  subst hg
  intro j l hj
  have hb := Blk.new w 36 #[v1, v2]
  rcases j with _ | _ | j
  · obtain rfl : l1 = l := by simpa using hj
    exact ⟨_, v1, rfl, hb.cell 0, h1.alloc _⟩
  · obtain rfl : l2 = l := by simpa using hj
    exact ⟨_, v2, rfl, hb.cell 1, h2.alloc _⟩
  · simp at hj
theorem lists3 {w : World} {g : Nat} {v1 v2 v3 : Value} {l1 l2 l3 : List ByteArray} (h1 : Rw w v1 l1) (h2 : Rw w v2 l2) (h3 : Rw w v3 l3) (hg : g = w.heap.size) : Lists (w.alloc (.cells #[v1, v2, v3] 36)) (some ⟨g, 0, none⟩) [l1, l2, l3] := by
  subst hg
  intro j l hj
  have hb := Blk.new w 36 #[v1, v2, v3]
  rcases j with _ | _ | _ | j
  · obtain rfl : l1 = l := by simpa using hj
    exact ⟨_, v1, rfl, hb.cell 0, h1.alloc _⟩
  · obtain rfl : l2 = l := by simpa using hj
    exact ⟨_, v2, rfl, hb.cell 1, h2.alloc _⟩
  · obtain rfl : l3 = l := by simpa using hj
    exact ⟨_, v3, rfl, hb.cell 2, h3.alloc _⟩
  · simp at hj
theorem lists4 {w : World} {g : Nat} {v1 v2 v3 v4 : Value} {l1 l2 l3 l4 : List ByteArray} (h1 : Rw w v1 l1) (h2 : Rw w v2 l2) (h3 : Rw w v3 l3) (h4 : Rw w v4 l4) (hg : g = w.heap.size) : Lists (w.alloc (.cells #[v1, v2, v3, v4] 36)) (some ⟨g, 0, none⟩) [l1, l2, l3, l4] := by
  subst hg
  intro j l hj
  have hb := Blk.new w 36 #[v1, v2, v3, v4]
  rcases j with _ | _ | _ | _ | j
  · obtain rfl : l1 = l := by simpa using hj
    exact ⟨_, v1, rfl, hb.cell 0, h1.alloc _⟩
  · obtain rfl : l2 = l := by simpa using hj
    exact ⟨_, v2, rfl, hb.cell 1, h2.alloc _⟩
  · obtain rfl : l3 = l := by simpa using hj
    exact ⟨_, v3, rfl, hb.cell 2, h3.alloc _⟩
  · obtain rfl : l4 = l := by simpa using hj
    exact ⟨_, v4, rfl, hb.cell 3, h4.alloc _⟩
  · simp at hj
theorem kid_ok {n k : Nd} (h : n.shapedB = true) (hz : n.size ≤ 400) (hk : k ∈ n.ks) : k.shapedB = true ∧ k.size ≤ 400 := by
  rw [Nd.shapedB_eq, Bool.and_eq_true, List.all_eq_true] at h
  rw [Nd.size_eq] at hz
  exact ⟨h.1 k hk, by have := sizeL_mem hk; omega⟩
theorem toks_le {n : Nd} (h : n.shapedB = true) (hz : n.size ≤ 400) : n.toks.length ≤ 2000 := by
  have h1 := toks_len n h
  have h2 := ntok_le n h
  omega
theorem tk_end {W w w1 : World} {n : Nd} {l : List ByteArray} {A : Option Addr} {cap : Nat} (C : TC W n w) (ht : n.toks = l) (h1 : w1.ownsRow w.heap.size 9 1 (.slice A l.length cap) l.length (flatT l)) (h2 : Below w.heap.size w w1) :
    EvPost W n.toks (.returned (.slice A l.length cap)) w1 := by
  rw [ht]
  exact ⟨_, _, rfl, own_lowT h1 C.below.size, C.below.trans (h2.mono C.below.size)⟩
theorem tok2_any (A : Option Addr) (k cap : Nat) (w : World) : Calls Tryz.prog 24 #[.slice A k cap] w fun e w' => e = .returned (.slice A k cap) ∧ w = w' := by
  go_enter Tryz.func24, Tryz.ntmps24
  go_wp2_with fail
  go_ret
  exact ⟨rfl, rfl⟩
set_option maxRecDepth 100000 in
theorem tkid_any (n : Nd) (IH : ∀ k ∈ n.ks, TOf k) (hs : n.shapedB = true) (hz : n.size ≤ 400) (W w : World) (C : TC W n w) (j : Nat) (k : Nd) (hk : n.ks[j]? = some k) :
    Calls Tryz.prog 23 #[.int .i64 j, .pointer (some ⟨W.heap.size, 0, none⟩)] w (EvPost w k.toks) := by
  have hjl : (j : Int) < (n.ks.length : Int) := by have := (List.getElem?_eq_some_iff.1 hk).1; omega
  have hj0 : (0 : Int) ≤ (j : Int) := by omega
  have cS := C.c2
  obtain ⟨hl, hm, hall⟩ := Nd.In_iff.1 C.in_
  obtain ⟨⟨b, o, had, hb, c1, c2, c3⟩, hkin⟩ := hall j k hk
  rw [had] at cS
  have hlm : n.ks.length ≤ 9223372036854775807 := by unfold maxLen at hm; omega
  have hmem := List.mem_of_getElem? hk
  have HI := Lib.hid (And.intro (IH k hmem) (And.intro (kid_ok hs hz hmem) hkin))
  clear C hk had hall hkin IH hm hs hz hmem
  go_enter Tryz.func23, Tryz.ntmps23
  go_wp2_with fail
  refine (HI.out.1 w HI.out.2.1.1 HI.out.2.1.2 HI.out.2.2).mono ?_
  rintro e w1 ⟨A, cap, rfl, h1, h2⟩
  go_wp2_with fail
  go_ret
  exact ⟨_, _, rfl, h1, h2⟩
end Go.Proofs.YtjbhjbpamnoebaaGreatFmt

namespace Go.Proofs.YtjbhjbpamnoebaaGreatFmt
open Go.RowKit

theorem t0_mem {ts : List (List ByteArray)} {j : Nat} {t : ByteArray} (h : t ∈ t0 ts j) : ∃ u ∈ ts, t ∈ u := by
  unfold t0 at h
  rw [List.getD_eq_getElem?_getD] at h
  cases hu : ts[j]? with
  | none => rw [hu] at h; cases h
  | some u => rw [hu] at h; exact ⟨u, List.mem_of_getElem? hu, h⟩
theorem comma_mem : ∀ {ts : List (List ByteArray)} {t : ByteArray}, t ∈ commaT ts → t.size ≤ 3 ∨ ∃ u ∈ ts, t ∈ u
  | [], t, h => by cases h
  | [x], t, h => .inr ⟨x, by simp, h⟩
  | x :: u :: ts, t, h => by
    rw [commaT] at h
    rcases List.mem_append.1 h with h | h
    · rcases List.mem_append.1 h with h | h
      · exact .inr ⟨x, by simp, h⟩
      · obtain rfl := List.mem_singleton.1 h
        exact .inl (by decide)
    · rcases comma_mem h with h | ⟨v, hv, h⟩
      · exact .inl h
      · exact .inr ⟨v, List.mem_cons_of_mem _ hv, h⟩
/-- Where a token of a node is from. -/
def TokSrc (tx : ByteArray) (ts : List (List ByteArray)) (t : ByteArray) : Prop := t = tx ∨ t.size ≤ 3 ∨ ∃ u ∈ ts, t ∈ u
section
variable {tx : ByteArray} {ts : List (List ByteArray)} {t : ByteArray}
theorem src_app {a b : List ByteArray} (ha : t ∈ a → TokSrc tx ts t) (hb : t ∈ b → TokSrc tx ts t) (h : t ∈ a ++ b) : TokSrc tx ts t := (List.mem_append.1 h).elim ha hb
theorem src_ite {p : Prop} [Decidable p] {a b : List ByteArray} (ha : t ∈ a → TokSrc tx ts t) (hb : t ∈ b → TokSrc tx ts t) (h : t ∈ if p then a else b) : TokSrc tx ts t := by
  split at h
  · exact ha h
  · exact hb h
theorem src_nil (h : t ∈ ([] : List ByteArray)) : TokSrc tx ts t := by cases h
theorem src_t0 {j : Nat} (h : t ∈ t0 ts j) : TokSrc tx ts t := .inr (.inr (t0_mem h))
theorem src_t0d {i j : Nat} (h : t ∈ t0 (ts.drop i) j) : TokSrc tx ts t := by
  obtain ⟨u, hu, h⟩ := t0_mem h
  exact .inr (.inr ⟨u, List.mem_of_mem_drop hu, h⟩)
theorem src_comma (h : t ∈ commaT ts) : TokSrc tx ts t := by
  rcases comma_mem h with h | h
  · exact .inr (.inl h)
  · exact .inr (.inr h)
theorem src_commad {i : Nat} (h : t ∈ commaT (ts.drop i)) : TokSrc tx ts t := by
  rcases comma_mem h with h | ⟨u, hu, h⟩
  · exact .inr (.inl h)
  · exact .inr (.inr ⟨u, List.mem_of_mem_drop hu, h⟩)
theorem src_tx (h : t ∈ [tx]) : TokSrc tx ts t := .inl (List.mem_singleton.1 h)
theorem src_lit {l : List ByteArray} (hl : ∀ x ∈ l, x.size ≤ 3) (h : t ∈ l) : TokSrc tx ts t := .inr (.inl (hl t h))
theorem src_slice {l : List UInt8} (h : t ∈ sliceT l (ts.drop 1)) : TokSrc tx ts t := by
  unfold sliceT at h
  repeat' (first
    | exact src_t0d h
    | exact src_lit (by decide) h
    | (refine src_app (fun h => ?_) (fun h => ?_) h)
    | (refine src_ite (fun h => ?_) (fun h => ?_) h))
theorem tok_src {c : Nat} (h : t ∈ tokOf c tx ts) : TokSrc tx ts t := by
  unfold tokOf at h
  repeat' (first
    | exact src_tx h
    | exact src_nil h
    | exact src_t0 h
    | exact src_comma h
    | exact src_commad h
    | exact src_slice h
    | exact src_lit (by decide) h
    | (refine src_app (fun h => ?_) (fun h => ?_) h)
    | (refine src_ite (fun h => ?_) (fun h => ?_) h))
end
theorem toks_short : ∀ n : Nd, n.shortB = true → ∀ t ∈ n.toks, t.size ≤ 1048576 := by
  refine Nd.ind fun n ih h t ht => ?_
  rw [Nd.shortB_eq, Bool.and_eq_true, List.all_eq_true] at h
  rw [toks_eq] at ht
  rcases tok_src ht with rfl | h3 | ⟨u, hu, hut⟩
  · simpa using h.1
  · omega
  · obtain ⟨k, hk, rfl⟩ := List.mem_map.1 hu
    exact ih k hk (h.2 k hk) t hut
theorem sum_le : ∀ (ts : List ByteArray), (∀ t ∈ ts, t.size ≤ 1048576) → sumSize ts ≤ 1048576 * ts.length
  | [], _ => by simp [sumSize]
  | t :: ts, h => by
    have h1 := h t (by simp)
    have h2 := sum_le ts fun x hx => h x (by simp [hx])
    have hss : sumSize (t :: ts) = t.size + sumSize ts := by simp [sumSize]
    rw [hss, List.length_cons]
    omega
/-- The places of a short tree's tokens: none is 0, none is far. -/
theorem starts_ok {n : Nd} (hs : n.shapedB = true) (hsh : n.shortB = true) (hz : n.size ≤ 400) (gs : List Int) (i : Nat) : 1 ≤ posOf (startsL gs 0 1 n.toks) i ∧ posOf (startsL gs 0 1 n.toks) i ≤ 4611686018427387904 := by
  have hl : n.toks.length ≤ 2000 := by
    have h1 := toks_len n hs
    have h2 := ntok_le n hs
    omega
  have h3 := sum_le n.toks (toks_short n hsh)
  unfold posOf
  rw [List.getD_eq_getElem?_getD]
  cases hx : (startsL gs 0 1 n.toks)[i]? with
  | none => exact ⟨by decide, by decide⟩
  | some x =>
    have h1 := startsL_ge gs n.toks 0 1 i x hx
    have h2 := startsL_le gs n.toks 0 1 i x hx
    rw [Option.getD_some]
    exact ⟨h1, by omega⟩
/-- Spans nest. -/
def NestL (l : List (ByteArray × Int × Int)) : Prop := ∃ x0 : ByteArray × Int × Int, l[0]? = some x0 ∧
  (∀ (j : Nat) (x : ByteArray × Int × Int), l[j]? = some x → x.2.1 ≤ x.2.2 ∧ x0.2.1 ≤ x.2.1 ∧ x.2.2 ≤ x0.2.2) ∧
  ∀ (i j : Nat) (x y : ByteArray × Int × Int), i < j → l[i]? = some x → l[j]? = some y → ¬ (y.2.1 < x.2.2 ∧ x.2.2 < y.2.2)
theorem nest_of {P : Nat → Int} {n : Nd} (hs : n.shapedB = true) (hP : MonoP P n.toks) : NestL (spansOf P n) := by
  obtain ⟨h1, h2⟩ := nest hs hP
  refine ⟨(n.kd, P 0, endOf P 0 n), ?_, fun j x hj => ?_, fun i j x y hij hi hj => ?_⟩
  · unfold spansOf
    rw [pre_eq]
    rfl
  · unfold spansOf at hj
    rw [List.getElem?_map] at hj
    obtain ⟨z, hz, rfl⟩ := Option.map_eq_some_iff.1 hj
    exact h1 z (List.mem_of_getElem? hz)
  · unfold spansOf at hi hj
    rw [List.getElem?_map] at hi hj
    obtain ⟨a, ha, rfl⟩ := Option.map_eq_some_iff.1 hi
    obtain ⟨b, hb, rfl⟩ := Option.map_eq_some_iff.1 hj
    obtain ⟨hil, ha⟩ := List.getElem?_eq_some_iff.1 ha
    obtain ⟨hjl, hb⟩ := List.getElem?_eq_some_iff.1 hb
    have := List.pairwise_iff_getElem.1 h2 i j hil hjl hij
    rw [ha, hb] at this
    exact this
theorem pre_len (n : Nd) (i : Nat) : (n.pre i).length = n.kinds.length := by rw [← pre_kinds n i, List.length_map]
end Go.Proofs.YtjbhjbpamnoebaaGreatFmt
