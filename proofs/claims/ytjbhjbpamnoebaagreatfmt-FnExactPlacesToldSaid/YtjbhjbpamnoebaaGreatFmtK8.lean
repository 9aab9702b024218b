/-
  Trees whose cells lie in a range of blocks; lists of them.
  impl.nodes: a list of trees of a list of expressions.
  impl.nodes: the walk.
  impl.nodes: the walk.
  impl.node, kind by kind: what serves all kinds.
  What Walk visits: plain lists, no program in sight.
  impl.kindOf: the kind of an expression; empty for nil.
-/
import Derived.Test.YtjbhjbpamnoebaaGreatFmtK1
import Derived.Test.YtjbhjbpamnoebaaGreatFmtK3
import Derived.Maps.AppendAt
import Derived.OwnWalk
import Derived.Stop.Asserts
namespace Go.Proofs.YtjbhjbpamnoebaaGreatFmt
open Go.RowKit

mutual
/-- All the kids' cells lie in w, in blocks from lo on, below hi. -/
def Nd.InR (w : World) (lo hi : Nat) : Nd → Prop
  | ⟨_, _, a, c, ks⟩ => ks.length ≤ c ∧ c ≤ maxLen ∧ NdRL w lo hi a 0 ks
def NdRL (w : World) (lo hi : Nat) (a : Option Addr) : Nat → List Nd → Prop
  | _, [] => True
  | i, k :: ks => (ElemAt w hi a i k ∧ ∀ p, a = some p → lo ≤ p.block) ∧ k.InR w lo hi ∧ NdRL w lo hi a (i + 1) ks
end
theorem NdRL.at_ {w : World} {lo hi : Nat} {a : Option Addr} : ∀ {ks : List Nd} {i : Nat}, NdRL w lo hi a i ks → ∀ (j : Nat) (k : Nd), ks[j]? = some k → (ElemAt w hi a (i + j) k ∧ ∀ p, a = some p → lo ≤ p.block) ∧ k.InR w lo hi
  | [], _, _, j, k, hk => by simp at hk
  | x :: ks, i, h, j, k, hk => by
    obtain ⟨h1, h2, h3⟩ := h
    cases j with
    | zero => simp at hk; subst hk; exact ⟨h1, h2⟩
    | succ j =>
      have := NdRL.at_ h3 j k (by simpa using hk)
      rwa [show i + (j + 1) = i + 1 + j by omega]
theorem NdRL.mk_ {w : World} {lo hi : Nat} {a : Option Addr} : ∀ {ks : List Nd} {i : Nat}, (∀ (j : Nat) (k : Nd), ks[j]? = some k → (ElemAt w hi a (i + j) k ∧ ∀ p, a = some p → lo ≤ p.block) ∧ k.InR w lo hi) → NdRL w lo hi a i ks
  | [], _, _ => trivial
  | x :: ks, i, h => by
    have h0 := h 0 x rfl
    refine ⟨h0.1, h0.2, NdRL.mk_ fun j k hk => ?_⟩
    have := h (j + 1) k (by simpa using hk)
    rwa [show i + 1 + j = i + (j + 1) by omega]
theorem Nd.InR_iff {w : World} {lo hi : Nat} {n : Nd} : n.InR w lo hi ↔ n.ks.length ≤ n.cp ∧ n.cp ≤ maxLen ∧ ∀ (j : Nat) (k : Nd), n.ks[j]? = some k → (ElemAt w hi n.ad j k ∧ ∀ p, n.ad = some p → lo ≤ p.block) ∧ k.InR w lo hi := by
  obtain ⟨kd, tx, a, c, ks⟩ := n
  refine ⟨fun h => ⟨h.1, h.2.1, fun j k hk => ?_⟩, fun h => ⟨h.1, h.2.1, NdRL.mk_ fun j k hk => ?_⟩⟩
  · have := NdRL.at_ h.2.2 j k hk
    rwa [Nat.zero_add] at this
  · rw [Nat.zero_add]
    exact h.2.2 j k hk
theorem Nd.InR.in_ {w : World} {lo hi : Nat} : ∀ n : Nd, n.InR w lo hi → n.In w hi := by
  refine Nd.ind fun n ih h => ?_
  rw [Nd.InR_iff] at h
  rw [Nd.In_iff]
  exact ⟨h.1, h.2.1, fun j k hj => ⟨(h.2.2 j k hj).1.1, ih k (List.mem_of_getElem? hj) (h.2.2 j k hj).2⟩⟩
theorem Nd.InR.keep {w w' : World} {lo hi lo' hi' : Nat} (hk : ∀ b, lo ≤ b → b < hi → w'.heap[b]? = w.heap[b]?) (h1 : lo' ≤ lo) (h2 : hi ≤ hi') : ∀ n : Nd, n.InR w lo hi → n.InR w' lo' hi' := by
  refine Nd.ind fun n ih h => ?_
  rw [Nd.InR_iff] at h ⊢
  refine ⟨h.1, h.2.1, fun j k hj => ⟨⟨?_, fun p hp => Nat.le_trans h1 ((h.2.2 j k hj).1.2 p hp)⟩, ih k (List.mem_of_getElem? hj) (h.2.2 j k hj).2⟩⟩
  obtain ⟨⟨b, o, had, hb, e1, e2, e3⟩, hlo⟩ := (h.2.2 j k hj).1
  have hb2 := hk b (hlo _ had) hb
  exact ⟨b, o, had, by omega, (World.cell?_of_block (a := ⟨b, o + j * 3, none⟩) hb2).trans e1, (World.cell?_of_block (a := ⟨b, o + j * 3 + 1, none⟩) hb2).trans e2, (World.cell?_of_block (a := ⟨b, o + j * 3 + 2, none⟩) hb2).trans e3⟩
end Go.Proofs.YtjbhjbpamnoebaaGreatFmt

namespace Go.Proofs.YtjbhjbpamnoebaaGreatFmt
open Go.RowKit

/-- The cells of nodes in a row. -/
def flat : List Nd → List Value
  | [] => []
  | m :: ms => m.cells ++ flat ms
theorem flat_length (ms : List Nd) : (flat ms).length = ms.length * 3 := by
  induction ms with
  | nil => rfl
  | cons m ms ih =>
    rw [flat, List.length_append, ih, List.length_cons]
    simp [Nd.cells]
    omega
theorem flat_append (ms ns : List Nd) : flat (ms ++ ns) = flat ms ++ flat ns := by
  induction ms with
  | nil => rfl
  | cons m ms ih => rw [List.cons_append, flat, flat, ih, List.append_assoc]
theorem flat_at {ms : List Nd} {j : Nat} {m : Nd} (h : ms[j]? = some m) : (flat ms)[j * 3]? = some (.string m.kd) ∧ (flat ms)[j * 3 + 1]? = some (.string m.tx) ∧ (flat ms)[j * 3 + 2]? = some (.slice m.ad m.ks.length m.cp) := by
  induction ms generalizing j with
  | nil => simp at h
  | cons x ms ih =>
    cases j with
    | zero => simp at h; subst h; exact ⟨rfl, rfl, rfl⟩
    | succ j =>
      have := ih (j := j) (by simpa using h)
      rw [show (j + 1) * 3 = j * 3 + 3 by omega]
      exact this

/-- Expressions in a row, a nil one left out. -/
inductive NL (w : World) (S : Nat → Prop) (P : Nat → Int) : List Nd → List Value → Prop
  | nil : NL w S P [] []
  | skip {ks vs} : NL w S P ks vs → NL w S P ks (.nilIface :: vs)
  | take {i k v ks vs} : ExR w S P i k v → NL w S P ks vs → NL w S P (k :: ks) (v :: vs)

/-- What nodes has made: the trees ms in a row of its own. -/
def LN (W : World) (sv : Value) (ms : List Nd) (w : World) : Prop :=
  w.ownsRow W.heap.size 24 3 sv ms.length (flat ms) ∧ Below W.heap.size W w ∧
    ∀ m ∈ ms, ∃ lo hi, W.heap.size ≤ lo ∧ hi ≤ w.heap.size ∧ (∀ g, sv.ownBlock = some g → g < lo ∨ hi ≤ g) ∧ m.InR w lo hi
section
variable {W w w1 w2 w3 : World} {sv : Value} {ms : List Nd}
theorem LN.start (W : World) : LN W (.slice none 0 0) [] W := ⟨⟨by simp [flat], .inl ⟨rfl, rfl⟩⟩, Below.refl _ _, fun m hm => by cases hm⟩
theorem LN.next (h : LN W sv ms w) (hb : Below w.heap.size w w1) : LN W sv ms w1 := by
  obtain ⟨h1, h2, h3⟩ := h
  refine ⟨own_keep h1 fun g _ hg => hb.block g hg, h2.trans (hb.mono h2.size), fun m hm => ?_⟩
  obtain ⟨lo, hi, k1, k2, k3, k4⟩ := h3 m hm
  have := hb.size
  exact ⟨lo, hi, k1, by omega, k3, Nd.InR.keep (fun b _ hb2 => hb.block b (by omega)) (Nat.le_refl _) (Nat.le_refl _) m k4⟩
theorem LN.append (h : LN W sv ms w1) (hb : Below w1.heap.size w1 w2) {m : Nd} (hm : m.InR w2 w1.heap.size w2.heap.size) (o : Obj) {v' : Value}
    (hown : w3.ownsRow W.heap.size 24 3 v' (ms.length + 1) (flat ms ++ m.cells)) (hg : (w2.alloc o).grownBy w3 sv.ownBlock) (hloc : v'.ownBlock = sv.ownBlock ∨ v'.ownBlock = some (w2.alloc o).heap.size) :
    LN W v' (ms ++ [m]) w3 := by
  have hA := (h.next hb).next (w1 := w2.alloc o) ((Below.refl _ _).alloc (Nat.le_refl _) o)
  obtain ⟨h1, h2, h3⟩ := hA
  have hs1 := hb.size
  have hs := hg.size
  have hsa : (w2.alloc o).heap.size = w2.heap.size + 1 := World.size_alloc _ _
  have hW := h.2.1.size
  have hkeep : ∀ lo hi : Nat, (∀ g, sv.ownBlock = some g → g < lo ∨ hi ≤ g) → hi ≤ (w2.alloc o).heap.size → ∀ b, lo ≤ b → b < hi → w3.heap[b]? = (w2.alloc o).heap[b]? := fun lo hi hh hhi b hb1 hb2 =>
    hg.block b (Nat.lt_of_lt_of_le hb2 hhi) (fun e => by have := hh b e.symm; omega)
  refine ⟨by rw [List.length_append, flat_append]; simpa [flat] using hown, h2.trans ⟨hg.os, hg.tape, hg.output, hs, fun b hb => hg.block b (by omega) (fun e => by have := (own_ge h1 e.symm).1; omega)⟩, fun y hy => ?_⟩
  rcases List.mem_append.1 hy with hy | hy
  · obtain ⟨lo, hi, k1, k2, k3, k4⟩ := h3 y hy
    obtain ⟨lo0, hi0, q1, q2, q3, q4⟩ := (h.next hb).2.2 y hy
    refine ⟨lo0, hi0, q1, by omega, fun g hg' => ?_, Nd.InR.keep (fun b hb1 hb2 => (hkeep lo0 hi0 q3 (by omega) b hb1 hb2).trans (Below.heap_alloc w2 o b (by omega))) (Nat.le_refl _) (Nat.le_refl _) y q4⟩
    rcases hloc with hl | hl
    · exact q3 g (hl ▸ hg')
    · rw [hl] at hg'
      cases hg'
      right
      omega
  · rw [List.mem_singleton] at hy
    subst hy
    have hh : ∀ g, sv.ownBlock = some g → g < w1.heap.size ∨ w2.heap.size ≤ g := fun g hg' => .inl (own_ge h.1 hg').2
    refine ⟨w1.heap.size, w2.heap.size, hW, by omega, fun g hg' => ?_, Nd.InR.keep (fun b hb1 hb2 => (hkeep _ _ hh (by omega) b hb1 hb2).trans (Below.heap_alloc w2 o b hb2)) (Nat.le_refl _) (Nat.le_refl _) y hm⟩
    rcases hloc with hl | hl
    · exact hh g (hl ▸ hg')
    · rw [hl] at hg'
      cases hg'
      right
      omega
end
end Go.Proofs.YtjbhjbpamnoebaaGreatFmt

namespace Go.Proofs.YtjbhjbpamnoebaaGreatFmt
open Go.RowKit

theorem infoN : (Tryz.prog.info? 24).map (fun i => (i.zero, i.size, i.bytes)) = some (some (.agg #[.string ⟨#[]⟩, .string ⟨#[]⟩, .slice none 0 0]), 3, 56) := by kernel_rfl
theorem underN : Tryz.prog.underlying 22 = some (.slice 24) := by kernel_rfl

/-- What node leaves: a tree that is the same, of cells of its own. -/
def NPost (W : World) (n : Nd) (e : Ending) (w : World) : Prop := ∃ m : Nd, e = .returned m.val ∧ m.InR w W.heap.size w.heap.size ∧ n.same m = true ∧ Below W.heap.size W w
/-- The contract of node at a tree. -/
def NOf (P : Nat → Int) (n : Nd) : Prop := ∀ (w : World) (lo hi i : Nat) (v : Value), TokTab w → hi ≤ w.heap.size → ExR w (Rng lo hi) P i n v → Calls Tryz.prog 45 #[v] w (NPost w n)
/-- What nodes leaves. -/
def NsPost (W : World) (ks : List Nd) (e : Ending) (w : World) : Prop :=
  ∃ A cap ms, e = .returned (.slice A (ms : List Nd).length cap) ∧ Nd.InR w W.heap.size w.heap.size ⟨⟨#[]⟩, ⟨#[]⟩, A, cap, ms⟩ ∧ sameL ks ms = true ∧ Below W.heap.size W w ∧ LN W (.slice A ms.length cap) ms w
theorem LN.done {W w : World} {sv : Value} {ms ks : List Nd} (h : LN W sv ms w) (hs : sameL ks ms = true) : NsPost W ks (.returned sv) w := by
  have hLN := h
  obtain ⟨h1, h2, h3⟩ := h
  have hin : ∀ m ∈ ms, m.InR w W.heap.size w.heap.size := fun m hm => by
    obtain ⟨lo, hi, k1, k2, _, k4⟩ := h3 m hm
    exact Nd.InR.keep (fun _ _ _ => rfl) k1 k2 m k4
  obtain ⟨h0, ⟨rfl, hn⟩ | ⟨g, cap, cur, rfl, k1, k2, k3, k4, k5, k6⟩⟩ := h1
  · obtain rfl := List.length_eq_zero_iff.1 hn
    refine ⟨none, 0, [], rfl, ?_, hs, h2, hLN⟩
    rw [Nd.InR_iff]
    exact ⟨Nat.le_refl _, Nat.zero_le _, fun j k hj => by simp at hj⟩
  · refine ⟨some ⟨g, 0, none⟩, cap, ms, rfl, ?_, hs, h2, hLN⟩
    rw [Nd.InR_iff]
    refine ⟨k3, k4, fun j k hj => ⟨⟨?_, fun p hp => ?_⟩, hin k (List.mem_of_getElem? hj)⟩⟩
    · have hjl : j < ms.length := (List.getElem?_eq_some_iff.1 hj).1
      have hf := flat_at hj
      have hcell : ∀ q, q < ms.length * 3 → w.cell? ⟨g, q, none⟩ = (flat ms)[q]? := fun q hq => by
        rw [cell_of_row w g q cur 24 (0, 0) k2, ← k6, List.getElem?_take_of_lt hq]
        simp
      refine ⟨g, 0, rfl, (Array.getElem?_eq_some_iff.1 k2).1, ?_, ?_, ?_⟩
      · rw [Nat.zero_add, hcell _ (by omega)]; exact hf.1
      · rw [Nat.zero_add, hcell _ (by omega)]; exact hf.2.1
      · rw [Nat.zero_add, hcell _ (by omega)]; exact hf.2.2
    · cases hp
      exact k1
theorem sameL_snoc {k m : Nd} : ∀ {a b : List Nd}, sameL a b = true → k.same m = true → sameL (a ++ [k]) (b ++ [m]) = true
  | [], [], _, h => by simp [sameL, h]
  | [], _ :: _, h, _ => by simp [sameL] at h
  | _ :: _, [], h, _ => by simp [sameL] at h
  | x :: a, y :: b, h, hk => by
    rw [sameL, Bool.and_eq_true] at h
    rw [List.cons_append, List.cons_append, sameL, Bool.and_eq_true]
    exact ⟨h.1, sameL_snoc h.2 hk⟩
theorem NL.keep {w w' : World} {S : Nat → Prop} {P : Nat → Int} (hk : ∀ b, S b → w'.heap[b]? = w.heap[b]?) {ks : List Nd} {vs : List Value} (h : NL w S P ks vs) : NL w' S P ks vs := by
  induction h with
  | nil => exact .nil
  | skip _ ih => exact .skip ih
  | take h _ ih => exact .take (ExR.keep hk (fun _ hs => hs) _ _ _ h) ih
end Go.Proofs.YtjbhjbpamnoebaaGreatFmt

namespace Go.Proofs.YtjbhjbpamnoebaaGreatFmt
open Go.RowKit

theorem cells_new (w : World) (m : Nd) : ∀ j u, m.cells[j]? = some u → (w.alloc (.cells #[.string m.kd, .string m.tx, .slice m.ad m.ks.length m.cp] 24)).cell? ((⟨w.heap.size, 0, none⟩ : Addr).add j) = some u := by
  intro j u h
  have := (Blk.new w 24 #[.string m.kd, .string m.tx, .slice m.ad m.ks.length m.cp]).cell j
  have ha : ((⟨w.heap.size, 0, none⟩ : Addr).add j) = ⟨w.heap.size, j, none⟩ := by
    simp [Addr.add]
    intro hj
    exact hj.symm
  rw [ha, this]
  simpa [Nd.cells] using h
theorem cells_one (m : Nd) : ∀ u ∈ m.cells, u.oneCell' = true := by
  intro u hu
  simp [Nd.cells] at hu
  rcases hu with rfl | rfl | rfl <;> rfl

theorem nodes_any (P : Nat → Int) (ks : List Nd) (IH : ∀ k ∈ ks, NOf P k) (vs : List Value) (W : World) (hT : TokTab W) (lo hi : Nat) (hhi : hi ≤ W.heap.size) (A : Option Addr) (cap : Nat)
    (hcell : ∀ j v, vs[j]? = some v → ∃ g o, A = some ⟨g, o, none⟩ ∧ g < W.heap.size ∧ W.cell? ⟨g, o + j, none⟩ = some v) (hNL : NL W (Rng lo hi) P ks vs) (hlen : vs.length ≤ 401) (n : Nat) (hn : vs.length = n) :
    Calls Tryz.prog 61 #[.slice A n cap] W (NsPost W ks) := by
  subst hn
  have hlm : vs.length ≤ 9223372036854775807 := by omega
  obtain ⟨i0, hi0, hz0, hz1, hz2⟩ := info_parts infoN
  have HI := Lib.hid (And.intro hi0 (And.intro hz0 (And.intro hz1 hz2)))
  have L0 := Lib.hid (LN.start W)
  have H0 := Lib.hid hNL
  have HT := Lib.hid hT
  have HK := Lib.hid hcell
  have IH' := Lib.hid IH
  clear hNL hcell IH hT hi0 hz0 hz1 hz2
  go_enter Tryz.func61, Tryz.ntmps61
  go_wp2_with fail
  go_loopw [3, 8] (fun sv i' wr => ∃ (j : Nat) (k0 k1 ms : List Nd), i' = .int .i64 j ∧ j ≤ vs.length ∧ ks = k0 ++ k1 ∧ ms.length ≤ j ∧ LN W sv ms wr ∧ NL W (Rng lo hi) P k1 (vs.drop j) ∧ sameL k0 ms = true) (fun _ i' _ => vs.length - (intOf i').toNat)
  case atStart => exact ⟨0, [], ks, [], rfl, Nat.zero_le _, rfl, Nat.le_refl _, L0.out, H0.out, rfl⟩
  case round =>
    obtain ⟨j, k0, k1, ms, rfl, hj, hks, hml, hL, hN, hS⟩ := hrel
    have hsz := hL.2.1.size
    by_cases hlt : j < vs.length
    · obtain ⟨g, o, rfl, hg, hc0⟩ := HK.out j vs[j] (List.getElem?_eq_getElem hlt)
      have hd : vs.drop j = vs[j] :: vs.drop (j + 1) := List.drop_eq_getElem_cons hlt
      rw [hd] at hN
      generalize vs[j] = v at hc0 hN
      have hc := (hL.2.1.cell (p := ⟨g, o + j, none⟩) hg).trans hc0
      have HL := Lib.hid hL
      have HS := Lib.hid hS
      have HQ := Lib.hid hks
      clear hc0 hd hL hS hks
      cases hN with
      | skip hN =>
        have HN := Lib.hid hN
        clear hN
        go_wp2_with fail
        go_roundw
        case rel => exact ⟨j + 1, k0, k1, ms, by go_num, by omega, HQ.out, by omega, HL.out, HN.out, HS.out⟩
        case measure => simp [intOf]; omega
      | @take ii k _ kr _ hX hN =>
        obtain ⟨q, c, rfl⟩ := hX.form
        have HX := Lib.hid (ExR.keep (w' := wr) (fun b hb => HL.out.2.1.block b (Nat.lt_of_lt_of_le hb.2 hhi)) (fun _ hs => hs) _ _ _ hX)
        have HN := Lib.hid hN
        clear hX hN
        go_wp2_with fail
        refine (IH'.out k (by rw [HQ.out]; simp) wr lo hi ii _ (HT.out.below HL.out.2.1) (by omega) HX.out).mono ?_
        rintro e w2 ⟨m, he, hm, hsame, hb⟩
        have he2 : e = .returned (.agg #[.string m.kd, .string m.tx, .slice m.ad m.ks.length m.cp]) := he
        subst he2
        have HM := Lib.hid hm
        have HSm := Lib.hid hsame
        have HB := Lib.hid hb
        obtain ⟨hi0, hz0, hz1, hz2⟩ := HI.out
        clear hm hsame hb he
        go_wp2_with (at_builtin; refine wpList_append_own_at _ rfl _ _ 22 rfl W.heap.size 24 i0 (.agg #[.string ⟨#[]⟩, .string ⟨#[]⟩, .slice none 0 0]) 3 56 underN hi0 hz0 hz1 hz2 rfl (by decide) _ _ (flat ms) rfl ((HL.out.next HB.out).next ((Below.refl _ _).alloc (Nat.le_refl _) _)).1 ⟨w2.heap.size, 0, none⟩ 1 1 m.cells rfl rfl (cells_new w2 m) (cells_one m) (by unfold maxLen; omega) (by omega) (by have := (HL.out.next HB.out).2.1.size; rw [World.size_alloc]; omega) ?_; intro v' w3 hown hgrow hnil hloc)
        have HL3 := Lib.hid (LN.append HL.out HB.out HM.out _ hown hgrow hloc)
        clear hown hgrow hnil hloc hi0 hz0 hz1 hz2
        go_roundw
        case rel => exact ⟨j + 1, k0 ++ [k], kr, ms ++ [m], by go_num, by omega, by rw [HQ.out]; simp, by simp; omega, HL3.out, HN.out, sameL_snoc HS.out HSm.out⟩
        case measure => simp [intOf]; omega
    · have hj2 : j = vs.length := by omega
      subst hj2
      rw [List.drop_length] at hN
      cases hN
      have hd := LN.done hL hS
      rw [← List.append_nil k0, ← hks] at hd
      have HD := Lib.hid hd
      clear hd hL hS hks
      go_wp2_with fail
      go_ret
      exact HD.out
end Go.Proofs.YtjbhjbpamnoebaaGreatFmt

namespace Go.Proofs.YtjbhjbpamnoebaaGreatFmt
open Go.RowKit

/-- nodes of a list that is written out. -/
theorem nodes_lit (P : Nat → Int) (ks : List Nd) (IH : ∀ k ∈ ks, NOf P k) (vs : List Value) (w : World) (hT : TokTab w) (lo hi : Nat) (hhi : hi ≤ w.heap.size) (hNL : NL w (Rng lo hi) P ks vs) (hlen : vs.length ≤ 401) (n : Nat) (hn : vs.length = n) :
    Calls Tryz.prog 61 #[.slice (some ⟨w.heap.size, 0, none⟩) n n] (w.alloc (.cells vs.toArray 44)) (NsPost (w.alloc (.cells vs.toArray 44)) ks) := by
  refine nodes_any P ks IH vs _ (hT.below ((Below.refl _ _).alloc (Nat.le_refl _) _)) lo hi (by rw [World.size_alloc]; omega) _ n (fun j v hj => ⟨w.heap.size, 0, rfl, by rw [World.size_alloc]; omega, ?_⟩) (hNL.keep fun b hb => Below.heap_alloc w _ b (Nat.lt_of_lt_of_le hb.2 hhi)) hlen n hn
  have := (Blk.new w 44 vs.toArray).cell j
  rw [Nat.zero_add, this]
  simpa using hj
theorem exl_cons {w : World} {S : Nat → Prop} {P : Nat → Int} {is : List Nat} {x : Nd} {ks : List Nd} {vs : List Value} (h : ExL w S P is (x :: ks) vs) : ∃ i is' q c vs', vs = .iface q (.pointer (some ⟨c, 0, none⟩)) :: vs' ∧ ExR w S P i x (.iface q (.pointer (some ⟨c, 0, none⟩))) ∧ ExL w S P is' ks vs' := by
  cases is with
  | nil => simp [ExL] at h
  | cons i is =>
    cases vs with
    | nil => simp [ExL] at h
    | cons v vs =>
      obtain ⟨q, c, rfl⟩ := h.1.form
      exact ⟨i, is, q, c, vs, rfl, h.1, h.2⟩
theorem exl_nil {w : World} {S : Nat → Prop} {P : Nat → Int} {is : List Nat} {vs : List Value} (h : ExL w S P is [] vs) : vs = [] := by
  cases is with
  | nil =>
    cases vs with
    | nil => rfl
    | cons v vs => simp [ExL] at h
  | cons i is =>
    cases vs <;> simp [ExL] at h
theorem exl1 {w : World} {S : Nat → Prop} {P : Nat → Int} {is : List Nat} {x : Nd} {vs : List Value} (h : ExL w S P is [x] vs) : ∃ i q c, vs = [.iface q (.pointer (some ⟨c, 0, none⟩))] ∧ ExR w S P i x (.iface q (.pointer (some ⟨c, 0, none⟩))) := by
  obtain ⟨i, is', q, c, vs', rfl, h1, h2⟩ := exl_cons h
  rw [exl_nil h2]
  exact ⟨i, q, c, rfl, h1⟩
theorem exl2 {w : World} {S : Nat → Prop} {P : Nat → Int} {is : List Nat} {x y : Nd} {vs : List Value} (h : ExL w S P is [x, y] vs) :
    ∃ i q c j r d, vs = [.iface q (.pointer (some ⟨c, 0, none⟩)), .iface r (.pointer (some ⟨d, 0, none⟩))] ∧ ExR w S P i x (.iface q (.pointer (some ⟨c, 0, none⟩))) ∧ ExR w S P j y (.iface r (.pointer (some ⟨d, 0, none⟩))) := by
  obtain ⟨i, is', q, c, vs', rfl, h1, h2⟩ := exl_cons h
  obtain ⟨j, r, d, rfl, h3⟩ := exl1 h2
  exact ⟨i, q, c, j, r, d, rfl, h1, h3⟩
end Go.Proofs.YtjbhjbpamnoebaaGreatFmt

namespace Go.Proofs.YtjbhjbpamnoebaaGreatFmt
open Go.RowKit

/-- A name as a node. -/
def nmNd (tx : ByteArray) : Nd := ⟨⟨#[110, 97, 109, 101]⟩, tx, none, 0, []⟩
/-- The visits of a name. -/
def leafEvs (st : ByteArray) (d : Nat) : List (ByteArray × Nat) :=
  (⟨#[110, 97, 109, 101]⟩, d) :: if (⟨#[110, 97, 109, 101]⟩ : ByteArray).toList == st.toList then [] else [(⟨#[]⟩, d + 1)]
mutual
/-- The visits of a tree, each kind with how deep the visitor is; an empty kind for nil. -/
def Nd.evs (st : ByteArray) : Nat → Nd → List (ByteArray × Nat)
  | d, ⟨kd, _, _, _, ks⟩ => (kd, d) :: if kd.toList == st.toList then [] else evsL st (d + 1) ks ++ (if kcode kd = 6 then leafEvs st (d + 1) else []) ++ [(⟨#[]⟩, d + 1)]
def evsL (st : ByteArray) : Nat → List Nd → List (ByteArray × Nat)
  | _, [] => []
  | d, k :: ks => k.evs st d ++ evsL st d ks
end
theorem evsL_append (st : ByteArray) (d : Nat) (a b : List Nd) : evsL st d (a ++ b) = evsL st d a ++ evsL st d b := by
  induction a with
  | nil => rfl
  | cons x a ih => rw [List.cons_append, evsL, evsL, ih, List.append_assoc]
theorem evs_nm (st tx : ByteArray) (d : Nat) : (nmNd tx).evs st d = leafEvs st d := by
  have h6 : ¬ kcode (⟨#[110, 97, 109, 101]⟩ : ByteArray) = 6 := by decide
  rw [nmNd, Nd.evs, leafEvs, if_neg h6, evsL]
  rfl
theorem Nd.evs_stop {st : ByteArray} {d : Nat} {n : Nd} (h : (n.kd.toList == st.toList) = true) : n.evs st d = [(n.kd, d)] := by
  obtain ⟨kd, tx, ad, cp, ks⟩ := n
  rw [Nd.evs, if_pos h]
theorem Nd.evs_go {st : ByteArray} {d : Nat} {n : Nd} (h : (n.kd.toList == st.toList) = false) : n.evs st d = (n.kd, d) :: (evsL st (d + 1) n.ks ++ (if kcode n.kd = 6 then leafEvs st (d + 1) else []) ++ [(⟨#[]⟩, d + 1)]) := by
  obtain ⟨kd, tx, ad, cp, ks⟩ := n
  rw [Nd.evs, if_neg (by rw [h]; exact Bool.false_ne_true)]
theorem evs_pos (st : ByteArray) (d : Nat) (n : Nd) : 1 ≤ (n.evs st d).length := by
  obtain ⟨kd, tx, ad, cp, ks⟩ := n
  rw [Nd.evs, List.length_cons]
  omega
mutual
theorem Nd.evs_len (st : ByteArray) : ∀ (n : Nd) (d : Nat), (n.evs st d).length ≤ 4 * n.size
  | ⟨kd, tx, ad, cp, ks⟩, d => by
    have h := evsL_len st ks (d + 1)
    rw [Nd.evs, Nd.size_eq]
    have hl : (leafEvs st (d + 1)).length ≤ 2 := by
      unfold leafEvs
      split <;> simp
    split
    · simp
      omega
    · split
      · simp only [List.length_cons, List.length_append, List.length_nil]
        omega
      · simp only [List.length_cons, List.length_append, List.length_nil]
        omega
theorem evsL_len (st : ByteArray) : ∀ (ks : List Nd) (d : Nat), (evsL st d ks).length ≤ 4 * sizeL ks
  | [], _ => by simp [evsL, sizeL]
  | k :: ks, d => by
    have h1 := Nd.evs_len st k d
    have h2 := evsL_len st ks d
    rw [evsL, sizeL, List.length_append]
    omega
end

/-! ### The trace of Walk: each visit with the nodes above it -/
/-- A visit: a node and its first token's number, or nil; and the nodes above. -/
abbrev Ev := Option (Nd × Nat) × List (Nd × Nat)
def leafRun (go : List Ev → Bool) (d : List (Nd × Nat)) (j : Nat) (tx : ByteArray) (out : List Ev) : List Ev :=
  if go (out ++ [(some (nmNd tx, j), d)]) = true then out ++ [(some (nmNd tx, j), d)] ++ [(none, d ++ [(nmNd tx, j)])] else out ++ [(some (nmNd tx, j), d)]
def selRun (go : List Ev → Bool) (d : List (Nd × Nat)) (c j : Nat) (tx : ByteArray) (out : List Ev) : List Ev := if c = 6 then leafRun go d j tx out else out
mutual
def Nd.run (go : List Ev → Bool) : List (Nd × Nat) → Nat → Nd → List Ev → List Ev
  | d, i, ⟨kd, tx, ad, cp, ks⟩, out =>
    if go (out ++ [(some (⟨kd, tx, ad, cp, ks⟩, i), d)]) = true then
      selRun go (d ++ [(⟨kd, tx, ad, cp, ks⟩, i)]) (kcode kd) (i + (ks.map Nd.ntok).getD 0 0 + 1) tx (runL go (d ++ [(⟨kd, tx, ad, cp, ks⟩, i)]) (starts (kcode kd) tx (ks.map Nd.ntok) i) ks (out ++ [(some (⟨kd, tx, ad, cp, ks⟩, i), d)])) ++ [(none, d ++ [(⟨kd, tx, ad, cp, ks⟩, i)])]
    else out ++ [(some (⟨kd, tx, ad, cp, ks⟩, i), d)]
def runL (go : List Ev → Bool) : List (Nd × Nat) → List Nat → List Nd → List Ev → List Ev
  | _, _, [], out => out
  | d, is, k :: ks, out => runL go d is.tail ks (k.run go d (is.headD 0) out)
end
section
variable {go : List Ev → Bool} {d d1 : List (Nd × Nat)} {i : Nat} {n : Nd} {out o1 : List Ev}
theorem runL_nil (is : List Nat) : runL go d is [] out = out := by
  rw [runL]
theorem runL_cons (is : List Nat) (k : Nd) (ks : List Nd) : runL go d (i :: is) (k :: ks) out = runL go d is ks (k.run go d i out) := by
  rw [runL]
  rfl
theorem runL_append : ∀ (is js : List Nat) (a b : List Nd) (out : List Ev), is.length = a.length → runL go d (is ++ js) (a ++ b) out = runL go d js b (runL go d is a out)
  | [], js, [], b, out, _ => by rw [runL_nil]; rfl
  | i :: is, js, x :: a, b, out, h => by
    rw [List.cons_append, List.cons_append, runL_cons, runL_cons]
    exact runL_append is js a b _ (by simpa using h)
theorem selRun_ne {c j : Nat} {tx : ByteArray} (h : c ≠ 6) : selRun go d c j tx out = out := if_neg h
theorem run_nm (tx : ByteArray) (j : Nat) : (nmNd tx).run go d j out = leafRun go d j tx out := by
  have h0 : (kcode (⟨#[110, 97, 109, 101]⟩ : ByteArray)) ≠ 6 := by decide
  rw [nmNd, Nd.run, leafRun, selRun_ne h0, runL_nil]
  rfl
theorem Nd.run_stop (ho : o1 = out ++ [(some (n, i), d)]) (h : go o1 = false) : n.run go d i out = o1 := by
  obtain ⟨kd, tx, ad, cp, ks⟩ := n
  rw [Nd.run, ← ho, h, if_neg Bool.false_ne_true]
theorem Nd.run_go {IS : List Nat} (hIS : starts (kcode n.kd) n.tx (n.ks.map Nd.ntok) i = IS) (hd : d1 = d ++ [(n, i)]) (ho : o1 = out ++ [(some (n, i), d)]) (h : go o1 = true) :
    n.run go d i out = selRun go d1 (kcode n.kd) (i + (n.ks.map Nd.ntok).getD 0 0 + 1) n.tx (runL go d1 IS n.ks o1) ++ [(none, d1)] := by
  obtain ⟨kd, tx, ad, cp, ks⟩ := n
  subst hIS hd
  rw [Nd.run, ← ho, h, if_pos rfl]
theorem leafRun_lt (j : Nat) (tx : ByteArray) : out.length < (leafRun go d j tx out).length := by
  unfold leafRun
  split <;> simp
mutual
theorem run_lt (go : List Ev → Bool) : ∀ (n : Nd) (d : List (Nd × Nat)) (i : Nat) (out : List Ev), out.length < (n.run go d i out).length
  | ⟨kd, tx, ad, cp, ks⟩, d, i, out => by
    rw [Nd.run]
    split
    · have h := runL_le go ks (d ++ [(⟨kd, tx, ad, cp, ks⟩, i)]) (starts (kcode kd) tx (ks.map Nd.ntok) i) (out ++ [(some (⟨kd, tx, ad, cp, ks⟩, i), d)])
      generalize runL go _ _ ks _ = r at h
      have h2 : r.length ≤ (selRun go (d ++ [(⟨kd, tx, ad, cp, ks⟩, i)]) (kcode kd) (i + (ks.map Nd.ntok).getD 0 0 + 1) tx r).length := by
        unfold selRun
        split
        · exact Nat.le_of_lt (leafRun_lt _ _)
        · exact Nat.le_refl _
      rw [List.length_append] at h ⊢
      simp only [List.length_cons, List.length_nil] at h ⊢
      omega
    · simp
theorem runL_le (go : List Ev → Bool) : ∀ (ks : List Nd) (d : List (Nd × Nat)) (is : List Nat) (out : List Ev), out.length ≤ (runL go d is ks out).length
  | [], _, _, _ => by rw [runL_nil]; exact Nat.le_refl _
  | k :: ks, d, is, out => by
    rw [runL]
    exact Nat.le_trans (Nat.le_of_lt (run_lt go k d _ out)) (runL_le go ks d _ _)
end
theorem leafRun_len (j : Nat) (tx : ByteArray) : (leafRun go d j tx out).length ≤ out.length + 2 := by
  unfold leafRun
  split <;> simp
mutual
theorem run_len (go : List Ev → Bool) : ∀ (n : Nd) (d : List (Nd × Nat)) (i : Nat) (out : List Ev), (n.run go d i out).length ≤ out.length + 4 * n.size
  | ⟨kd, tx, ad, cp, ks⟩, d, i, out => by
    rw [Nd.run, Nd.size_eq]
    split
    · have h := runL_len go ks (d ++ [(⟨kd, tx, ad, cp, ks⟩, i)]) (starts (kcode kd) tx (ks.map Nd.ntok) i) (out ++ [(some (⟨kd, tx, ad, cp, ks⟩, i), d)])
      generalize runL go _ _ ks _ = r at h
      have h2 : (selRun go (d ++ [(⟨kd, tx, ad, cp, ks⟩, i)]) (kcode kd) (i + (ks.map Nd.ntok).getD 0 0 + 1) tx r).length ≤ r.length + 2 := by
        unfold selRun
        split
        · exact leafRun_len _ _
        · omega
      rw [List.length_append] at h ⊢
      simp only [List.length_cons, List.length_nil] at h ⊢
      omega
    · simp
      omega
theorem runL_len (go : List Ev → Bool) : ∀ (ks : List Nd) (d : List (Nd × Nat)) (is : List Nat) (out : List Ev), (runL go d is ks out).length ≤ out.length + 4 * sizeL ks
  | [], _, _, _ => by rw [runL_nil]; omega
  | k :: ks, d, is, out => by
    have h1 := run_len go k d (is.headD 0) out
    have h2 := runL_len go ks d is.tail (k.run go d (is.headD 0) out)
    rw [runL, sizeL]
    omega
end
theorem runL_take {is : List Nat} {ks : List Nd} {j : Nat} {x : Nd} (h : ks[j]? = some x) (hi : is[j]? = some i) : runL go d (is.take (j + 1)) (ks.take (j + 1)) out = x.run go d i (runL go d (is.take j) (ks.take j) out) := by
  have h1 : j < ks.length := (List.getElem?_eq_some_iff.1 h).1
  have h2 : j < is.length := (List.getElem?_eq_some_iff.1 hi).1
  rw [List.take_add_one, List.take_add_one, h, hi, Option.toList_some, Option.toList_some, runL_append _ _ _ _ _ (by simp; omega), runL_cons, runL_nil]
theorem runL_take_le {is : List Nat} {ks : List Nd} (hl : is.length = ks.length) (j : Nat) : (runL go d (is.take j) (ks.take j) out).length ≤ (runL go d is ks out).length := by
  have h := runL_append (go := go) (d := d) (is.take j) (is.drop j) (ks.take j) (ks.drop j) out (by simp; omega)
  rw [List.take_append_drop, List.take_append_drop] at h
  rw [h]
  exact runL_le _ _ _ _ _
end
/-! ### Visits with a kind at which the way ends -/
def Ev.kd (e : Ev) : ByteArray := match e.1 with
  | some (n, _) => n.kd
  | none => ⟨#[]⟩
/-- A visit as its kind and how deep it is. -/
def evKd (e : Ev) : ByteArray × Nat := (Ev.kd e, e.2.length)
def goStop (st : ByteArray) (tr : List Ev) : Bool := match tr.getLast? with
  | some (some (n, _), _) => !(n.kd.toList == st.toList)
  | _ => true
theorem goStop_at (st : ByteArray) (out : List Ev) (n : Nd) (i : Nat) (d : List (Nd × Nat)) : goStop st (out ++ [(some (n, i), d)]) = !(n.kd.toList == st.toList) := by
  simp [goStop]
theorem leafRun_evs (st : ByteArray) (d : List (Nd × Nat)) (j : Nat) (tx : ByteArray) (out : List Ev) : (leafRun (goStop st) d j tx out).map evKd = out.map evKd ++ leafEvs st d.length := by
  unfold leafRun leafEvs
  rw [goStop_at]
  cases h : ((nmNd tx).kd.toList == st.toList)
  · replace h : ((⟨#[110, 97, 109, 101]⟩ : ByteArray).toList == st.toList) = false := h
    rw [if_pos (by rfl), h, if_neg Bool.false_ne_true]
    simp [evKd, Ev.kd, nmNd]
  · replace h : ((⟨#[110, 97, 109, 101]⟩ : ByteArray).toList == st.toList) = true := h
    rw [if_neg (by simp), h, if_pos rfl]
    simp [evKd, Ev.kd, nmNd]
mutual
theorem run_evs (st : ByteArray) : ∀ (n : Nd) (d : List (Nd × Nat)) (i : Nat) (out : List Ev), (n.run (goStop st) d i out).map evKd = out.map evKd ++ n.evs st d.length
  | ⟨kd, tx, ad, cp, ks⟩, d, i, out => by
    rw [Nd.run, Nd.evs, goStop_at]
    cases h : ((⟨kd, tx, ad, cp, ks⟩ : Nd).kd.toList == st.toList)
    · replace h : (kd.toList == st.toList) = false := h
      rw [if_pos (by rfl), if_neg Bool.false_ne_true]
      have h1 := runL_evs st ks (d ++ [(⟨kd, tx, ad, cp, ks⟩, i)]) (starts (kcode kd) tx (ks.map Nd.ntok) i) (out ++ [(some (⟨kd, tx, ad, cp, ks⟩, i), d)])
      generalize runL (goStop st) _ _ ks _ = r at h1
      have hs : (selRun (goStop st) (d ++ [(⟨kd, tx, ad, cp, ks⟩, i)]) (kcode kd) (i + (ks.map Nd.ntok).getD 0 0 + 1) tx r).map evKd = r.map evKd ++ (if kcode kd = 6 then leafEvs st (d.length + 1) else []) := by
        unfold selRun
        split
        · rw [leafRun_evs, List.length_append]
          rfl
        · simp
      rw [List.map_append, hs, h1, List.map_append, List.length_append]
      simp [evKd, Ev.kd, List.append_assoc]
    · replace h : (kd.toList == st.toList) = true := h
      rw [if_neg (by simp), if_pos rfl, List.map_append]
      rfl
theorem runL_evs (st : ByteArray) : ∀ (ks : List Nd) (d : List (Nd × Nat)) (is : List Nat) (out : List Ev), (runL (goStop st) d is ks out).map evKd = out.map evKd ++ evsL st d.length ks
  | [], _, _, _ => by rw [runL_nil, evsL, List.append_nil]
  | k :: ks, d, is, out => by
    rw [runL, evsL, runL_evs st ks d, run_evs st k d, List.append_assoc]
end
end Go.Proofs.YtjbhjbpamnoebaaGreatFmt

namespace Go.Proofs.YtjbhjbpamnoebaaGreatFmt
open Go.RowKit

theorem ex_nil (w : World) : (Instr.typeAssert .nilIface 51 44 true).run Tryz.prog w = .ok (.tuple #[.nilIface, .bool false]) w := by kernel_rfl
theorem ex_Ident (v : Value) (w : World) : (Instr.typeAssert (.iface 80 v) 51 44 true).run Tryz.prog w = .ok (.tuple #[.iface 80 v, .bool true]) w := run_typeAssert_hasB Tryz.underlying44 (by kernel_rfl) v 51 w
theorem ex_BasicLit (v : Value) (w : World) : (Instr.typeAssert (.iface 76 v) 51 44 true).run Tryz.prog w = .ok (.tuple #[.iface 76 v, .bool true]) w := run_typeAssert_hasB Tryz.underlying44 (by kernel_rfl) v 51 w
theorem ex_ParenExpr (v : Value) (w : World) : (Instr.typeAssert (.iface 100 v) 51 44 true).run Tryz.prog w = .ok (.tuple #[.iface 100 v, .bool true]) w := run_typeAssert_hasB Tryz.underlying44 (by kernel_rfl) v 51 w
theorem ex_StarExpr (v : Value) (w : World) : (Instr.typeAssert (.iface 121 v) 51 44 true).run Tryz.prog w = .ok (.tuple #[.iface 121 v, .bool true]) w := run_typeAssert_hasB Tryz.underlying44 (by kernel_rfl) v 51 w
theorem ex_UnaryExpr (v : Value) (w : World) : (Instr.typeAssert (.iface 124 v) 51 44 true).run Tryz.prog w = .ok (.tuple #[.iface 124 v, .bool true]) w := run_typeAssert_hasB Tryz.underlying44 (by kernel_rfl) v 51 w
theorem ex_BinaryExpr (v : Value) (w : World) : (Instr.typeAssert (.iface 128 v) 51 44 true).run Tryz.prog w = .ok (.tuple #[.iface 128 v, .bool true]) w := run_typeAssert_hasB Tryz.underlying44 (by kernel_rfl) v 51 w
theorem ex_SelectorExpr (v : Value) (w : World) : (Instr.typeAssert (.iface 103 v) 51 44 true).run Tryz.prog w = .ok (.tuple #[.iface 103 v, .bool true]) w := run_typeAssert_hasB Tryz.underlying44 (by kernel_rfl) v 51 w
theorem ex_IndexExpr (v : Value) (w : World) : (Instr.typeAssert (.iface 106 v) 51 44 true).run Tryz.prog w = .ok (.tuple #[.iface 106 v, .bool true]) w := run_typeAssert_hasB Tryz.underlying44 (by kernel_rfl) v 51 w
theorem ex_TypeAssertExpr (v : Value) (w : World) : (Instr.typeAssert (.iface 115 v) 51 44 true).run Tryz.prog w = .ok (.tuple #[.iface 115 v, .bool true]) w := run_typeAssert_hasB Tryz.underlying44 (by kernel_rfl) v 51 w
theorem ex_KeyValueExpr (v : Value) (w : World) : (Instr.typeAssert (.iface 131 v) 51 44 true).run Tryz.prog w = .ok (.tuple #[.iface 131 v, .bool true]) w := run_typeAssert_hasB Tryz.underlying44 (by kernel_rfl) v 51 w
theorem ex_MapType (v : Value) (w : World) : (Instr.typeAssert (.iface 145 v) 51 44 true).run Tryz.prog w = .ok (.tuple #[.iface 145 v, .bool true]) w := run_typeAssert_hasB Tryz.underlying44 (by kernel_rfl) v 51 w
theorem ex_SliceExpr (v : Value) (w : World) : (Instr.typeAssert (.iface 112 v) 51 44 true).run Tryz.prog w = .ok (.tuple #[.iface 112 v, .bool true]) w := run_typeAssert_hasB Tryz.underlying44 (by kernel_rfl) v 51 w
theorem ex_CallExpr (v : Value) (w : World) : (Instr.typeAssert (.iface 118 v) 51 44 true).run Tryz.prog w = .ok (.tuple #[.iface 118 v, .bool true]) w := run_typeAssert_hasB Tryz.underlying44 (by kernel_rfl) v 51 w
theorem ex_CompositeLit (v : Value) (w : World) : (Instr.typeAssert (.iface 95 v) 51 44 true).run Tryz.prog w = .ok (.tuple #[.iface 95 v, .bool true]) w := run_typeAssert_hasB Tryz.underlying44 (by kernel_rfl) v 51 w
theorem ex_ArrayType (v : Value) (w : World) : (Instr.typeAssert (.iface 134 v) 51 44 true).run Tryz.prog w = .ok (.tuple #[.iface 134 v, .bool true]) w := run_typeAssert_hasB Tryz.underlying44 (by kernel_rfl) v 51 w
/-- An expression is one. -/
theorem ExR.isExpr {w : World} {S : Nat → Prop} {P : Nat → Int} {i : Nat} {n : Nd} {v : Value} (h : ExR w S P i n v) :
    ∃ t b, v = .iface t (.pointer (some ⟨b, 0, none⟩)) ∧ ∀ w : World, (Instr.typeAssert (.iface t (.pointer (some ⟨b, 0, none⟩))) 51 44 true).run Tryz.prog w = .ok (.tuple #[.iface t (.pointer (some ⟨b, 0, none⟩)), .bool true]) w := by
  obtain ⟨kd, tx, ad, cp, ks⟩ := n
  obtain ⟨vs, hl, b, hb, h⟩ := h
  split at h
  case h_1 => exact ⟨_, b, h.1, ex_Ident _⟩
  case h_2 => exact ⟨_, b, h.1, ex_BasicLit _⟩
  case h_3 => exact ⟨_, b, h.1, ex_ParenExpr _⟩
  case h_4 => exact ⟨_, b, h.1, ex_StarExpr _⟩
  case h_5 => exact ⟨_, b, h.1, ex_UnaryExpr _⟩
  case h_6 => exact ⟨_, b, h.1, ex_BinaryExpr _⟩
  case h_7 => exact ⟨_, b, h.1, ex_SelectorExpr _⟩
  case h_8 => exact ⟨_, b, h.1, ex_IndexExpr _⟩
  case h_9 => exact ⟨_, b, h.1, ex_TypeAssertExpr _⟩
  case h_10 => exact ⟨_, b, h.1, ex_KeyValueExpr _⟩
  case h_11 => exact ⟨_, b, h.1, ex_MapType _⟩
  case h_12 => exact ⟨_, b, h.1, ex_SliceExpr _⟩
  case h_13 => exact ⟨_, b, h.1, ex_CallExpr _⟩
  case h_14 => exact ⟨_, b, h.1, ex_CompositeLit _⟩
  case h_15 => exact ⟨_, b, h.1, ex_ArrayType _⟩
  case h_16 => exact h.elim
theorem same_kd {n m : Nd} (h : n.same m = true) : m.kd = n.kd := by
  obtain ⟨k, t, ad, c, ks⟩ := n
  simp only [Nd.same, Bool.and_eq_true, beq_iff_eq] at h
  have h1 := h.1.1
  refine bytes_ext ?_
  obtain ⟨⟨a⟩⟩ := k
  obtain ⟨⟨⟨b⟩⟩, _, _, _, _⟩ := m
  dsimp only at h1 ⊢
  rw [show (ByteArray.mk ⟨a⟩).toList = a from ByteArray.toList_mk _, show (ByteArray.mk ⟨b⟩).toList = b from ByteArray.toList_mk _] at h1
  exact h1.symm

theorem field_kd (s t : ByteArray) (A : Option Addr) (l c : Nat) (w : World) : (Instr.field 24 (.agg #[.string s, .string t, .slice A l c]) 0).run Tryz.prog w = .ok (.string s) w := by kernel_rfl
set_option maxRecDepth 100000 in
theorem kindOf_any (P : Nat → Int) (n : Nd) (hN : NOf P n) (w : World) (lo hi i : Nat) (v : Value) (hT : TokTab w) (hhi : hi ≤ w.heap.size) (hX : ExR w (Rng lo hi) P i n v) :
    Calls Tryz.prog 22 #[v] w fun e w' => e = .returned (.string n.kd) ∧ Below w.heap.size w w' := by
  obtain ⟨t, b, rfl, has⟩ := hX.isExpr
  have hfd := field_kd
  have HC := Lib.hid (hN w lo hi i _ hT hhi hX)
  clear hX hN hT
  go_enter Tryz.func22, Tryz.ntmps22
  go_wp2_with fail
  refine HC.out.mono ?_
  rintro e w1 ⟨m, he, _, hsm, hb⟩
  have he2 : e = .returned (.agg #[.string m.kd, .string m.tx, .slice m.ad m.ks.length m.cp]) := he
  subst he2
  have HB := Lib.hid (And.intro hb (same_kd hsm))
  clear hb hsm he
  go_wp2_with fail
  go_ret
  rw [HB.out.2]
  exact ⟨rfl, HB.out.1⟩
theorem kindOf_nil (w : World) : Calls Tryz.prog 22 #[.nilIface] w fun e w' => e = .returned (.string ⟨#[]⟩) ∧ w = w' := by
  have h1 := ex_nil
  go_enter Tryz.func22, Tryz.ntmps22
  go_wp2_with fail
  go_ret
  exact ⟨rfl, rfl⟩
end Go.Proofs.YtjbhjbpamnoebaaGreatFmt
