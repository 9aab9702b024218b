/-
  spec.below: the nodes below a node, the name of a selector behind its operand.
  Rows that a function owns: append of a row to a row; a row beside the nodes below.
-/
import Derived.Test.YtjbhjbpamnoebaaGreatFmtK8
import Derived.Test.YtjbhjbpamnoebaaGreatFmtK10
import Derived.Laws.AppendOwnNone
import Derived.Test.YtjbhjbpamnoebaaGreatFmtK2
namespace Go.Proofs.YtjbhjbpamnoebaaGreatFmt
open Go.RowKit

/-- The nodes below a node. -/
def bl (n : Nd) : List Nd := n.ks ++ (if kcode n.kd = 6 then [nmNd n.tx] else [])
theorem flat_cell {w : World} {B b o : Nat} {ks : List Nd} (h : ∀ (j : Nat) (k : Nd), ks[j]? = some k → ElemAt w B (some ⟨b, o, none⟩) j k) (p : Nat) (u : Value) (hp : (flat ks)[p]? = some u) : w.cell? ((⟨b, o, none⟩ : Addr).add p) = some u := by
  have hadd : (⟨b, o, none⟩ : Addr).add p = ⟨b, o + p, none⟩ := by unfold Addr.add; split <;> simp_all
  rw [hadd]
  have hl : p < ks.length * 3 := by rw [← flat_length]; exact (List.getElem?_eq_some_iff.1 hp).1
  have hj : ks[p / 3]? = some ks[p / 3] := List.getElem?_eq_getElem (by omega)
  obtain ⟨b', o', he, hb, h0, h1, h2⟩ := h _ _ hj
  cases he
  obtain ⟨f0, f1, f2⟩ := flat_at hj
  have hm : p = p / 3 * 3 + p % 3 := by omega
  have hr : p % 3 = 0 ∨ p % 3 = 1 ∨ p % 3 = 2 := by omega
  generalize ks[p / 3] = x at f0 f1 f2 h0 h1 h2
  rcases hr with hr | hr | hr
  · rw [hm, hr, Nat.add_zero] at hp ⊢
    rw [f0] at hp
    rw [h0, hp]
  · rw [hm, hr] at hp ⊢
    rw [f1] at hp
    rw [← Nat.add_assoc, h1, hp]
  · rw [hm, hr] at hp ⊢
    rw [f2] at hp
    rw [← Nat.add_assoc, h2, hp]
def RowPost (W : World) (ks : List Nd) (e : Ending) (w : World) : Prop := ∃ v, e = .returned v ∧ w.ownsRow W.heap.size 24 3 v ks.length (flat ks) ∧ Below W.heap.size W w
theorem nil_some (a : Addr) (n c : Nat) (w : World) : Sem.run Tryz.prog (binOp BinOp.eql 22 (.slice (some a) n c) (.slice none 0 0)) w = .ok (.bool false) w := by kernel_rfl
theorem nil_none (n c : Nat) (w : World) : Sem.run Tryz.prog (binOp BinOp.eql 22 (.slice none n c) (.slice none 0 0)) w = .ok (.bool true) w := by kernel_rfl
set_option maxRecDepth 100000 in
theorem Clone_any (A : Option Addr) (ks : List Nd) (cap : Nat) (W : World) (hA : ∀ (j : Nat) (k : Nd), ks[j]? = some k → ElemAt W W.heap.size A j k) (hl : ks.length ≤ 400) (n : Nat) (hn : ks.length = n) :
    Calls Tryz.prog 40 #[.slice A n cap] W (RowPost W ks) := by
  subst hn
  cases A with
  | none =>
    have hk : ks = [] := by
      cases ks with
      | nil => rfl
      | cons k ks => obtain ⟨b, o, he, _⟩ := hA 0 k rfl; cases he
    subst hk
    clear hA
    have h1 := nil_none
    go_enter Tryz.func40, Tryz.ntmps40
    go_wp2_with fail
    go_ret
    exact ⟨_, rfl, World.ownsRow_nil _ _ _ _, Below.refl _ _⟩
  | some a =>
    have h1 := nil_some
    have hnews : ∀ (p : Nat) (u : Value), (flat ks)[p]? = some u → W.cell? (a.add p) = some u := fun p u hp => by
      cases ks with
      | nil => simp [flat] at hp
      | cons k ks =>
        obtain ⟨b, o, he, _⟩ := hA 0 k rfl
        cases he
        exact flat_cell hA p u hp
    have HA := Lib.hid (fun (p : Nat) (u : Value) (h : (flat ks)[p]? = some u) => (World.cell?_alloc_some W (a.add p) (.cells #[] 24) (by rw [hnews p u h]; rfl)).trans (hnews p u h))
    obtain ⟨i0, hi, hz0, hz1, hz2⟩ := info_parts infoN
    have hown0 := World.ownsRow_made (base := W.heap.size) (e := 24) (size := 3) W #[] 0 (Nat.le_refl _) (Nat.zero_le _) rfl
    clear hA hnews
    go_enter Tryz.func40, Tryz.ntmps40
    go_wp2_with (at_builtin; refine wpList_append_own_at _ rfl _ _ 22 rfl W.heap.size 24 i0 (.agg #[.string ⟨#[]⟩, .string ⟨#[]⟩, .slice none 0 0]) 3 56 underN hi hz0 hz1 hz2 rfl (by decide) _ _ [] rfl hown0 a ks.length cap (flat ks) rfl (flat_length ks) HA.out (flat_one ks) (by unfold maxLen; omega) (by omega) (by rw [World.size_alloc]; omega) ?_; intro v' w3 hown hgr _ _; rw [Nat.zero_add, List.nil_append] at hown)
    go_ret
    exact ⟨_, rfl, hown, below_grown (grown_trans (World.grownBy_alloc _ _ _) hgr) (Nat.le_refl _) (Nat.le_refl _)⟩
theorem own_elem {w : World} {base m c : Nat} {A : Option Addr} {ks : List Nd} (h : w.ownsRow base 24 3 (.slice A m c) ks.length (flat ks)) (j : Nat) (k : Nd) (hj : ks[j]? = some k) : ElemAt w w.heap.size A j k := by
  obtain ⟨h0, ⟨he, hn⟩ | ⟨g, cap', cur, he, k1, k2, k3, k4, k5, k6⟩⟩ := h
  · obtain rfl := List.length_eq_zero_iff.1 hn
    simp at hj
  · cases he
    have hjl : j < ks.length := (List.getElem?_eq_some_iff.1 hj).1
    have hf := flat_at hj
    have hcell : ∀ q, q < ks.length * 3 → w.cell? ⟨g, q, none⟩ = (flat ks)[q]? := fun q hq => by
      rw [cell_of_row w g q cur 24 (0, 0) k2, ← k6, List.getElem?_take_of_lt hq]
      simp
    refine ⟨g, 0, rfl, (Array.getElem?_eq_some_iff.1 k2).1, ?_, ?_, ?_⟩
    · rw [Nat.zero_add, hcell _ (by omega)]; exact hf.1
    · rw [Nat.zero_add, hcell _ (by omega)]; exact hf.2.1
    · rw [Nat.zero_add, hcell _ (by omega)]; exact hf.2.2
theorem own_blk {w : World} {base k n m c : Nat} {t : TypeId} {A : Option Addr} {xs : List Value} (h : w.ownsRow base k t (.slice A m c) n xs) (p : Addr) (hp : A = some p) : base ≤ p.block := by
  obtain ⟨_, ⟨he, hn⟩ | ⟨g, c, cur, he, k1, _⟩⟩ := h
  · cases he
    cases hp
  · cases he
    cases hp
    exact k1
theorem own_len {w : World} {base k n : Nat} {t : TypeId} {v : Value} {xs : List Value} (h : w.ownsRow base k t v n xs) : ∃ A c, v = .slice A n c := by
  obtain ⟨_, ⟨rfl, hn⟩ | ⟨g, c, cur, rfl, _⟩⟩ := h
  · exact ⟨none, 0, by rw [hn]⟩
  · exact ⟨_, c, rfl⟩
theorem below_own {w w' : World} {base k n B : Nat} {t : TypeId} {v : Value} {xs : List Value} (h : w.ownsRow base k t v n xs) (hg : w.grownBy w' v.ownBlock) (hB : B ≤ base) (hw : B ≤ w.heap.size) : Below B w w' :=
  ⟨hg.os, hg.tape, hg.output, hg.size, fun i hi => hg.block i (by omega) (fun e => by have := (own_ge h e.symm).1; omega)⟩
theorem infoN33 : (Tryz.prog.info? 24).map (·.size) = some 3 := by
  have := infoN
  cases hq : Tryz.prog.info? 24 with
  | none => rw [hq] at this; cases this
  | some q =>
    rw [hq] at this
    simp only [Option.map_some, Option.some.injEq, Prod.mk.injEq] at this ⊢
    exact this.2.1
set_option maxRecDepth 100000 in
theorem name_any (tx : ByteArray) (W : World) : Calls Tryz.prog 41 #[.string tx] W fun e w => e = .returned (.agg #[.string ⟨#[110, 97, 109, 101]⟩, .string tx, .slice none 0 0]) ∧ Below W.heap.size W w := by
  go_enter Tryz.func41, Tryz.ntmps41
  go_wp2_with fail
  have hf : Blk (W.alloc (.cells #[.string ⟨#[110, 97, 109, 101]⟩, .string tx, .slice none 0 0] 24)) W.heap.size 24 #[.string ⟨#[110, 97, 109, 101]⟩, .string tx, .slice none 0 0] := Blk.new _ _ _
  refine bodyPost_ret (results_cell_row rfl _ _ W.heap.size 24 _ (0, 0) _ rfl hf Tryz.underlying24 rfl infoN33) rfl ⟨rfl, ?_⟩
  exact (Below.refl W.heap.size W).alloc (Nat.le_refl _) _

/-- What spec.below leaves. -/
def BlPost (W : World) (n : Nd) (e : Ending) (w : World) : Prop := ∃ A cap, e = .returned (.slice A (bl n).length cap) ∧ (∀ (j : Nat) (k : Nd), (bl n)[j]? = some k → ElemAt w w.heap.size A j k) ∧ (∀ p, A = some p → W.heap.size ≤ p.block) ∧ Below W.heap.size W w
theorem nm_in (w : World) (tx : ByteArray) : (nmNd tx).In w w.heap.size := by
  rw [nmNd, Nd.In_iff]
  exact ⟨Nat.zero_le _, Nat.zero_le _, fun j k hj => by simp at hj⟩
theorem bl_in {w : World} {n : Nd} (h : n.In w w.heap.size) (j : Nat) (k : Nd) (hj : (bl n)[j]? = some k) : k.In w w.heap.size := by
  have hm := List.mem_of_getElem? hj
  rcases List.mem_append.1 hm with hm | hm
  · obtain ⟨i, hi⟩ := List.mem_iff_getElem?.1 hm
    exact ((Nd.In_iff.1 h).2.2 i k hi).2
  · split at hm
    · obtain rfl := List.mem_singleton.1 hm
      exact nm_in w _
    · cases hm
set_option maxRecDepth 100000 in
theorem below_any (n : Nd) (hk : n.ks.length ≤ 400) (W : World) (hin : n.In W W.heap.size) :
    Calls Tryz.prog 20 #[n.val] W (BlPost W n) := by
  show Calls _ _ #[.agg #[.string n.kd, .string n.tx, .slice n.ad n.ks.length n.cp]] W _
  have hb1 : Below W.heap.size W (W.alloc (.cells #[.string n.kd, .string n.tx, .slice n.ad n.ks.length n.cp] 24)) := (Below.refl _ _).alloc (Nat.le_refl _) _
  have hbox : Blk (W.alloc (.cells #[.string n.kd, .string n.tx, .slice n.ad n.ks.length n.cp] 24)) W.heap.size 24 #[.string n.kd, .string n.tx, .slice n.ad n.ks.length n.cp] := Blk.new _ _ _
  have hs1 : (W.alloc (.cells #[.string n.kd, .string n.tx, .slice n.ad n.ks.length n.cp] 24)).heap.size = W.heap.size + 1 := World.size_alloc _ _
  have HC := Lib.hid (Clone_any n.ad n.ks n.cp (W.alloc (.cells #[.string n.kd, .string n.tx, .slice n.ad n.ks.length n.cp] 24)) (fun j k hj => ((Nd.In_iff.1 hin).2.2 j k hj).1.keep (fun p hp => hb1.cell hp) (by rw [hs1]; omega)) hk _ rfl)
  have H0 := Lib.hid (And.intro hin (And.intro hb1 hbox))
  clear hin hb1 hbox
  go_enter Tryz.func20, Tryz.ntmps20
  go_wp2_with fail
  refine HC.out.mono ?_
  clear HC
  rintro e w1 ⟨v, rfl, hown, hb⟩
  rw [hs1] at hown
  obtain ⟨A, c, rfl⟩ := own_len hown
  have hz := hb.size
  rw [hs1] at hz
  have HO := Lib.hid hown
  have HB := Lib.hid (H0.out.2.1.trans (hb.mono (by rw [hs1]; omega)))
  have X1 := Lib.hid (H0.out.2.2.below hb (by rw [hs1]; omega))
  have c0 : w1.cell? ⟨W.heap.size, 0, none⟩ = some (.string n.kd) := X1.out.cell 0
  have c1 : w1.cell? ⟨W.heap.size, 1, none⟩ = some (.string n.tx) := X1.out.cell 1
  clear hown hb
  have hsel : (n.kd.toList == [115, 101, 108, 101, 99, 116]) = decide (kcode n.kd = 6) := by
    rw [Bool.eq_iff_iff, beq_iff_eq, decide_eq_true_eq, toList_data]
    constructor
    · intro h
      unfold kcode
      rw [h]
      decide
    · intro h
      exact kcode_at h (by decide)
  by_cases h6 : kcode n.kd = 6
  · rw [decide_eq_true h6] at hsel
    have hbl : bl n = n.ks ++ [nmNd n.tx] := by rw [bl, if_pos h6]
    have HL := Lib.hid hbl
    obtain ⟨i0, hi, hz0, hz1, hzb⟩ := info_parts infoN
    clear hbl
    go_wp2_with fail
    refine (name_any n.tx w1).mono ?_
    rintro e w2 ⟨rfl, hb2⟩
    have HB2 := Lib.hid (HB.out.trans (hb2.mono HB.out.size))
    have HO2 := Lib.hid (own_keep HO.out (fun g _ hg => hb2.block g hg))
    have hz2 := hb2.size
    clear hb2 c0 c1
    go_wp2_with (at_builtin; refine wpList_append_own_at _ rfl _ _ 22 rfl (W.heap.size + 1) 24 i0 (.agg #[.string ⟨#[]⟩, .string ⟨#[]⟩, .slice none 0 0]) 3 56 underN hi hz0 hz1 hzb rfl (by decide) _ _ (flat n.ks) rfl (own_keep HO2.out (fun g _ hg => Below.heap_alloc w2 _ g hg)) ⟨w2.heap.size, 0, none⟩ 1 1 (nmNd n.tx).cells rfl rfl (cells_new w2 (nmNd n.tx)) (cells_one (nmNd n.tx)) (by unfold maxLen; omega) (by omega) (by rw [World.size_alloc]; omega) ?_; intro v3 w3 hown hgr _ _; obtain ⟨A3, c3, rfl⟩ := own_len hown)
    go_ret
    have hlen : (bl n).length = n.ks.length + 1 := by rw [HL.out]; simp
    have hfl : flat (bl n) = flat n.ks ++ (nmNd n.tx).cells := by rw [HL.out, flat_append, flat, flat, List.append_nil]
    have hB3 : Below W.heap.size W w3 := HB2.out.trans (below_own HO2.out (grown_trans (World.grownBy_alloc w2 _ _) hgr) (by omega) HB2.out.size)
    rw [← hlen, ← hfl] at hown
    exact ⟨A3, c3, by rw [hlen]; rfl, fun j k hj => own_elem hown j k hj, fun p hp => Nat.le_of_succ_le (own_blk hown p hp), hB3⟩
  · rw [decide_eq_false h6] at hsel
    have hbl : bl n = n.ks := by rw [bl, if_neg h6, List.append_nil]
    have HL := Lib.hid hbl
    clear hbl
    go_wp2_with fail
    go_ret
    have h := HO.out
    rw [← HL.out] at h
    refine ⟨A, c, by rw [HL.out]; rfl, fun j k hj => own_elem h j k hj, fun p hp => Nat.le_of_succ_le (own_blk h p hp), HB.out⟩
end Go.Proofs.YtjbhjbpamnoebaaGreatFmt

namespace Go.Proofs.YtjbhjbpamnoebaaGreatFmt
open Go.RowKit

theorem row_cells {w : World} {g cap k n : Nat} {cur : Array Value} {e : TypeId} {xs : List Value} (h0 : xs.length = n * k) (k2 : w.heap[g]? = some (.cells cur e (0, 0))) (k6 : cur.toList.take (n * k) = xs) (_hc : n ≤ cap) :
    ∀ j u, xs[j]? = some u → w.cell? ((⟨g, 0, none⟩ : Addr).add j) = some u := fun j u hj => by
  have hadd : (⟨g, 0, none⟩ : Addr).add j = ⟨g, j, none⟩ := by unfold Addr.add; split <;> simp_all
  have hjl : j < n * k := by rw [← h0]; exact (List.getElem?_eq_some_iff.1 hj).1
  rw [hadd, cell_of_row w g j cur e (0, 0) k2]
  rw [← k6, List.getElem?_take_of_lt hjl] at hj
  simpa using hj
theorem wpl_append_rows {P : Program} {w : World} {ops : Array Oper} {rest : List Oper} {o : Oper} {a : Act} {Q : Exit → Act → World → Prop} (hgd : o.guard = none) (s x : Operand) (t : TypeId)
    (ho : o.op = .call { callee := .builtin .append, args := #[s, x], argTypes := #[t, t] })
    (e : TypeId) (i : TypeInfo) (z : Value) (k bytes : Nat) (ht : P.underlying t = some (.slice e)) (hi : P.info? e = some i) (hz : i.zero = some z) (hsize : i.size = k) (hby : i.bytes = bytes) (hzs : z.cells.size = k) (hsz : 0 < k)
    {b1 b2 n1 n2 : Nat} {sv1 sv2 : Value} {xs1 xs2 : List Value} (hs : a.eval s = sv1) (hx : a.eval x = sv2) (h1 : w.ownsRow b1 e k sv1 n1 xs1) (h2 : w.ownsRow b2 e k sv2 n2 xs2) (hone : ∀ u ∈ xs2, u.oneCell' = true)
    (hm : n1 + n2 ≤ maxLen) (hbt : (n1 + n2) * bytes ≤ 140737488355328) (hb : b1 ≤ w.heap.size)
    (h : ∀ v' w', w'.ownsRow b1 e k v' (n1 + n2) (xs1 ++ xs2) → w.grownBy w' sv1.ownBlock → (v'.ownBlock = sv1.ownBlock ∨ v'.ownBlock = some w.heap.size) → wpList P ops Q rest (a.put o.dst v') w') :
    wpList P ops Q (o :: rest) a w := by
  obtain ⟨h20, ⟨rfl, hn⟩ | ⟨g, cap, cur, rfl, k1, k2, k3, k4, k5, k6⟩⟩ := h2
  · subst hn
    obtain rfl := List.length_eq_zero_iff.1 (by simpa using h20)
    refine wpList_append_own_none hgd s x t ho b1 e i k ht hi sv1 n1 xs1 hs h1 hx ?_
    exact h _ _ (by simpa using h1) (grown_refl _ _) (.inl rfl)
  · refine wpList_append_own_at _ hgd s x t ho b1 e i z k bytes ht hi hz hsize hby hzs hsz sv1 n1 xs1 hs h1 ⟨g, 0, none⟩ n2 cap xs2 hx h20 (row_cells h20 k2 k6 k3) hone hm hbt hb fun v' w' r1 r2 _ r4 => h v' w' r1 r2 r4

/-- A row of its own (from block W.heap.size + 1 on) beside what stood in w1 from block W.heap.size + 2 on. -/
def RI (t : TypeId) (k : Nat) (W w1 : World) (sv : Value) (n : Nat) (xs : List Value) (wr : World) : Prop :=
  wr.ownsRow (W.heap.size + 1) t k sv n xs ∧ (∀ g, sv.ownBlock = some g → g = W.heap.size + 1 ∨ w1.heap.size ≤ g) ∧ Below W.heap.size W wr ∧ w1.heap.size ≤ wr.heap.size ∧ W.heap.size + 2 ≤ w1.heap.size ∧ ∀ g, W.heap.size + 2 ≤ g → g < w1.heap.size → wr.heap[g]? = w1.heap[g]?
section
variable {t : TypeId} {k n m : Nat} {W w1 wr w2 w3 : World} {sv v' : Value} {xs ys : List Value}
theorem RI.start (h : w1.ownsRow (W.heap.size + 1) t k sv n xs) (hs : ∀ g, sv.ownBlock = some g → g = W.heap.size + 1) (hb : Below W.heap.size W w1) (hz : W.heap.size + 2 ≤ w1.heap.size) : RI t k W w1 sv n xs w1 :=
  ⟨h, fun g hg => .inl (hs g hg), hb, Nat.le_refl _, hz, fun _ _ _ => rfl⟩
theorem RI.next (h : RI t k W w1 sv n xs wr) (hb : Below wr.heap.size wr w2) : RI t k W w1 sv n xs w2 := by
  obtain ⟨h1, h2, h3, h4, h5, h6⟩ := h
  have hs := hb.size
  exact ⟨own_keep h1 fun g _ hg => hb.block g hg, h2, h3.trans (hb.mono h3.size), by omega, h5, fun g hg1 hg2 => (hb.block g (by omega)).trans (h6 g hg1 hg2)⟩
theorem RI.alloc (h : RI t k W w1 sv n xs wr) (o : Obj) : RI t k W w1 sv n xs (wr.alloc o) := h.next (Below.al wr o)
theorem RI.app (h : RI t k W w1 sv n xs w2) (hown : w3.ownsRow (W.heap.size + 1) t k v' m ys) (hg : w2.grownBy w3 sv.ownBlock) (hloc : v'.ownBlock = sv.ownBlock ∨ v'.ownBlock = some w2.heap.size) : RI t k W w1 v' m ys w3 := by
  obtain ⟨h1, h2, h3, h4, h5, h6⟩ := h
  have hs := hg.size
  refine ⟨hown, fun g hv => ?_, h3.trans (below_own h1 hg (by omega) h3.size), by omega, h5, fun g hg1 hg2 => (hg.block g (by omega) (fun e => ?_)).trans (h6 g hg1 hg2)⟩
  · rcases hloc with hl | hl
    · exact h2 g (hl ▸ hv)
    · rw [hl] at hv
      cases hv
      exact .inr h4
  · have := h2 g e.symm
    omega
theorem RI.size (h : RI t k W w1 sv n xs wr) : w1.heap.size ≤ wr.heap.size ∧ W.heap.size + 2 ≤ wr.heap.size := ⟨h.2.2.2.1, Nat.le_trans h.2.2.2.2.1 h.2.2.2.1⟩
theorem RI.elem (h : RI t k W w1 sv n xs wr) {A : Option Addr} {j : Nat} {x : Nd} (he : ElemAt w1 w1.heap.size A j x) (hA : ∀ p, A = some p → W.heap.size + 2 ≤ p.block) :
    ∃ b o, A = some ⟨b, o, none⟩ ∧ b < wr.heap.size ∧ wr.cell? ⟨b, o + j * 3, none⟩ = some (.string x.kd) ∧ wr.cell? ⟨b, o + j * 3 + 1, none⟩ = some (.string x.tx) ∧ wr.cell? ⟨b, o + j * 3 + 2, none⟩ = some (.slice x.ad x.ks.length x.cp) := by
  obtain ⟨b, o, rfl, hb, h1, h2, h3⟩ := he
  have hk : ∀ q, wr.cell? ⟨b, q, none⟩ = w1.cell? ⟨b, q, none⟩ := fun q => World.cell?_of_block (a := ⟨b, q, none⟩) (h.2.2.2.2.2 b (hA _ rfl) hb)
  exact ⟨b, o, rfl, Nat.lt_of_lt_of_le hb h.size.1, (hk _).trans h1, (hk _).trans h2, (hk _).trans h3⟩
end
end Go.Proofs.YtjbhjbpamnoebaaGreatFmt
