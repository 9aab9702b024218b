/-
  spec.holds of one byte: whether a text has it.
  spec.sliced: the tokens between the brackets of a slice.
-/
import Derived.Test.YtjbhjbpamnoebaaGreatFmtK3
import Derived.Laws.DeepStrings4
import Derived.Test.YtjbhjbpamnoebaaGreatFmtL2
namespace Go.Proofs.YtjbhjbpamnoebaaGreatFmt
open Go.RowKit

theorem ext_one {s : ByteArray} {j : Nat} {x : UInt8} (h : s.data.toList[j]? = some x) : (s.extract j (j + 1)).toList = [x] := by
  have hj : j < s.data.toList.length := (List.getElem?_eq_some_iff.1 h).1
  rw [toList_data, ByteArray.data_extract, Array.toList_extract, List.extract, Nat.add_sub_cancel_left, List.drop_eq_getElem_cons hj]
  rw [List.getElem?_eq_getElem hj] at h
  rw [Option.some.inj h]
  rfl
set_option maxRecDepth 100000 in
theorem holds_any (s p : ByteArray) (c : UInt8) (hp : p.data.toList = [c]) (hs : s.size ≤ 1048576) (w : World) :
    Calls Tryz.prog 47 #[.string s, .string p] w fun e w' => e = .returned (.bool (s.data.toList.contains c)) ∧ w = w' := by
  have hps : p.size = 1 := by
    have : p.data.toList.length = 1 := by rw [hp]; rfl
    simpa using this
  have hpl : p.toList = [c] := by rw [toList_data]; exact hp
  have hsl : s.data.toList.length = s.size := by simp
  clear hp
  go_enter Tryz.func47, Tryz.ntmps47
  go_wp2_with fail
  go_loopw [5] (fun i wr => w = wr ∧ ∃ j : Nat, i = .int .i64 j ∧ j ≤ s.size ∧ ∀ q, q < j → s.data.toList[q]? ≠ some c) (fun i _ => s.size - (intOf i).toNat)
  case atStart => exact ⟨rfl, 0, rfl, Nat.zero_le _, fun q hq => absurd hq (Nat.not_lt_zero _)⟩
  case round =>
    obtain ⟨rfl, j, rfl, hj, hno⟩ := hrel
    have HN := Lib.hid (And.intro hno hsl)
    have hw : IntKind.i64.wrap ((j : Int) + 1) = (j : Int) + 1 := wrap_small _ (by omega) (by omega)
    clear hno
    by_cases hlt : j < s.size
    · obtain ⟨x, hx⟩ : ∃ x, s.data.toList[j]? = some x := ⟨_, List.getElem?_eq_getElem (by omega)⟩
      have hxt := ext_one hx
      have HX := Lib.hid hx
      clear hx hsl
      by_cases hc : x = c
      · subst hc
        have hin : s.data.toList.contains x = true := List.contains_iff_mem.2 (List.mem_of_getElem? HX.out)
        have HC := Lib.hid hin
        clear hin
        go_wp2_with fail
        go_ret
        rw [HC.out]
        exact ⟨rfl, rfl⟩
      · have hxc : (x == c) = false := by simp [hc]
        go_wp2_with fail
        go_roundw
        case measure => simp [intOf]; omega
        refine ⟨trivial, j + 1, by go_num, by omega, fun q hq => ?_⟩
        by_cases hqj : q = j
        · rw [hqj, HX.out]
          exact fun h => hc (Option.some.inj h)
        · exact HN.out.1 q (by omega)
    · have hout : s.data.toList.contains c = false := by
        rw [Bool.eq_false_iff]
        intro h
        obtain ⟨q, hq, he⟩ := List.getElem_of_mem (List.contains_iff_mem.1 h)
        exact HN.out.1 q (by omega) (by rw [List.getElem?_eq_getElem hq, he])
      have HC := Lib.hid hout
      clear hsl hout
      go_wp2_with fail
      go_ret
      rw [HC.out]
      exact ⟨rfl, rfl⟩
end Go.Proofs.YtjbhjbpamnoebaaGreatFmt

namespace Go.Proofs.YtjbhjbpamnoebaaGreatFmt
open Go.RowKit

/-- Does a text have a byte. -/
def hasB (l : List UInt8) (c : UInt8) : Bool := l.contains c
/-- How many of the nodes behind the first are taken ahead of end number j. -/
def slQ (l : List UInt8) : Nat → Nat
  | 0 => 0
  | 1 => (hasB l 108).toNat
  | 2 => (hasB l 108).toNat + (hasB l 104).toNat
  | _ => (hasB l 108).toNat + (hasB l 104).toNat + (hasB l 109).toNat
/-- The tokens ahead of end number j. -/
def slO (l : List UInt8) (ts : List (List ByteArray)) : Nat → List ByteArray
  | 0 => []
  | 1 => if hasB l 108 then t0 ts 0 else []
  | 2 => (if hasB l 108 then t0 ts 0 else []) ++ [⟨#[58]⟩] ++ (if hasB l 104 then t0 ts (hasB l 108).toNat else [])
  | _ => (if hasB l 108 then t0 ts 0 else []) ++ [⟨#[58]⟩] ++ (if hasB l 104 then t0 ts (hasB l 108).toNat else []) ++ (if hasB l 115 then [⟨#[58]⟩] else []) ++ (if hasB l 109 then t0 ts ((hasB l 108).toNat + (hasB l 104).toNat) else [])
theorem sl_split {tx : ByteArray} {k : Nat} (h : manyC 11 tx (k + 1) = true) (ts : List (List ByteArray)) : slQ tx.data.toList 3 = k ∧ sliceT tx.data.toList ts = slO tx.data.toList ts 3 ∧ tx.size ≤ 4 := by
  have hsz : tx.size = tx.data.toList.length := by simp
  rcases forms h with ⟨hc, hk⟩ | ⟨hc, hk⟩ | ⟨hc, hk⟩ | ⟨_, hk⟩ | ⟨hc, hk⟩ | ⟨hc, hk⟩ | ⟨hc, hk⟩
  · omega
  · omega
  · omega
  · rw [hsz]
    rcases hk with ⟨e, hk⟩ | ⟨e, hk⟩ | ⟨e, hk⟩ | ⟨e, hk⟩ | ⟨e, hk⟩ | ⟨e, hk⟩ <;> rw [e] <;> refine ⟨by simp [slQ, hasB]; omega, by simp [sliceT, slO, hasB], by simp⟩
  · omega
  · omega
  · omega
/-- What is left of the nodes. -/
def KidsAt (W : World) (A : Option Addr) (ks : List Nd) : Prop := ∀ (j : Nat) (k : Nd), ks[j]? = some k → ElemAt W W.heap.size A j k ∧ k.In W W.heap.size
theorem KidsAt.tail {W : World} {b o c : Nat} {x : Nd} {r : List Nd} (h : KidsAt W (some ⟨b, o, none⟩) (x :: r)) (hc : r.length + 1 ≤ c) : KidsAt W (if c = 1 then some ⟨b, o, none⟩ else some ⟨b, o + 3, none⟩) r := by
  intro j k hj
  obtain ⟨⟨b', o', he, hb, e0, e1, e2⟩, hin⟩ := h (j + 1) k (by simpa using hj)
  have hl := (List.getElem?_eq_some_iff.1 hj).1
  rw [if_neg (by omega)]
  cases he
  refine ⟨⟨b, o + 3, rfl, hb, ?_, ?_, ?_⟩, hin⟩
  · rwa [show o + (j + 1) * 3 = o + 3 + j * 3 by omega] at e0
  · rwa [show o + (j + 1) * 3 = o + 3 + j * 3 by omega] at e1
  · rwa [show o + (j + 1) * 3 = o + 3 + j * 3 by omega] at e2
theorem slice_run (b o k c : Nat) : ∃ A, A = (if c = 1 then some ⟨b, o, none⟩ else some ⟨b, o + 3, none⟩ : Option Addr) ∧ ∀ wx, (Instr.slice 22 (.slice (some ⟨b, o, none⟩) (k + 1) c) (some (.int .i64 1)) none none).run Tryz.prog wx = .ok (.slice A k (c - 1)) wx := by
  have hu : Tryz.prog.underlying 22 = some (.slice (Tryz.prog.elem 22)) := by kernel_rfl
  have he : Tryz.prog.elem 22 = 24 := by kernel_rfl
  have hc3 : Tryz.prog.cellsOf 24 = 3 := by kernel_rfl
  obtain ⟨i0, hi0, _⟩ := info_parts infoN
  refine ⟨_, rfl, fun wx => ?_⟩
  have hlow : (1 : Int) ≤ ((k + 1 : Nat) : Int) := by omega
  rw [run_slice_l wx _ (some ⟨b, o, none⟩) (k + 1) c hu .i64 1 (by omega) hlow, he, run_sizeOf (P := Tryz.prog) (w := wx) hi0, hc3]
  have hadd : (⟨b, o, none⟩ : Addr).add 3 = ⟨b, o + 3, none⟩ := by unfold Addr.add; split <;> simp_all
  simp [Result.andThen, sliced, hadd]
set_option maxHeartbeats 8000000 in
set_option maxRecDepth 100000 in
theorem sliced_any (n : Nd) (IH : ∀ k ∈ n.ks, TOf k) (hs : n.shapedB = true) (hz : n.size ≤ 400) (hc : kcode n.kd = 11) (W : World) (hin : n.In W W.heap.size) :
    Calls Tryz.prog 27 #[n.val] W (EvPost W (sliceT n.tx.data.toList ((n.ks.map Nd.toks).drop 1))) := by
  obtain ⟨kd, tx, ad, cp, ks⟩ := n
  obtain ⟨x, r, rfl⟩ : ∃ x r, ks = x :: r := by
    rw [Nd.shapedB_eq, Bool.and_eq_true] at hs
    have hm : manyC (kcode kd) tx ks.length = true := hs.2
    rw [show kcode kd = 11 from hc] at hm
    rcases ks with _ | ⟨x, r⟩
    · exfalso
      rcases forms hm with ⟨h1, hk⟩ | ⟨h1, hk⟩ | ⟨h1, hk⟩ | ⟨h1, hk⟩ | ⟨h1, hk⟩ | ⟨h1, hk⟩ | ⟨h1, hk⟩
      · omega
      · omega
      · omega
      · rcases hk with ⟨_, hk⟩ | ⟨_, hk⟩ | ⟨_, hk⟩ | ⟨_, hk⟩ | ⟨_, hk⟩ | ⟨_, hk⟩ <;> simp at hk
      · omega
      · omega
      · omega
    · exact ⟨x, r, rfl⟩
  obtain ⟨⟨ab, ao, had⟩, hcp1, hcp2⟩ := ad_form hin
  subst had
  have hm : manyC 11 tx (r.length + 1) = true := by
    rw [Nd.shapedB_eq, Bool.and_eq_true] at hs
    have hm : manyC (kcode kd) tx (x :: r).length = true := hs.2
    rwa [show kcode kd = 11 from hc] at hm
  obtain ⟨hq3, hT, htx⟩ := sl_split hm (r.map Nd.toks)
  show Calls _ _ #[.agg #[.string kd, .string tx, .slice (some ⟨ab, ao, none⟩) (r.length + 1) cp]] W (EvPost W (sliceT tx.data.toList (r.map Nd.toks)))
  rw [hT]
  have hKA : KidsAt W (some ⟨ab, ao, none⟩) (x :: r) := (Nd.In_iff.1 hin).2.2
  obtain ⟨A1, hA1, hsl⟩ := slice_run ab ao r.length cp
  have HKA := Lib.hid (show KidsAt W A1 r from hA1 ▸ hKA.tail (c := cp) hcp1)
  have HI := Lib.hid (show ∀ k ∈ r, TOf k ∧ k.shapedB = true ∧ k.size ≤ 400 ∧ k.toks.length ≤ 2000 from fun k hk => ⟨IH k (List.mem_cons_of_mem _ hk), (kid_ok hs hz (List.mem_cons_of_mem _ hk)).1, (kid_ok hs hz (List.mem_cons_of_mem _ hk)).2, toks_le (kid_ok hs hz (List.mem_cons_of_mem _ hk)).1 (kid_ok hs hz (List.mem_cons_of_mem _ hk)).2⟩)
  have hts : ∀ i k, r[i]? = some k → t0 (r.map Nd.toks) i = k.toks := fun i k hk => by
    unfold t0
    rw [List.getD_eq_getElem?_getD, List.getElem?_map, hk]
    rfl
  have hrl : r.length ≤ 9223372036854775807 := by omega
  have HT := Lib.hid (And.intro hq3 hts)
  obtain ⟨i0, hi0, hz0, hza, hzb⟩ := info_parts infoT
  have HN := Lib.hid (And.intro hi0 (And.intro hz0 (And.intro hza hzb)))
  clear IH hs hz hc hin hm hT hq3 hts hKA hi0 hz0 hza hzb hA1
  obtain ⟨W2, hW2⟩ : ∃ W2, (W.alloc (.cells #[.string kd, .string tx, .slice (some ⟨ab, ao, none⟩) (r.length + 1) cp] 24)).alloc (.cells #[.string ⟨#[108]⟩, .string ⟨#[104]⟩, .string ⟨#[109]⟩] 9) = W2 := ⟨_, rfl⟩
  have hb2 : Below W.heap.size W W2 := hW2 ▸ ((Below.refl _ _).alloc (Nat.le_refl _) _).alloc (by simp) _
  have hs2 : W2.heap.size = W.heap.size + 2 := by rw [← hW2, World.size_alloc, World.size_alloc]
  have hbox : Blk W2 W.heap.size 24 #[.string kd, .string tx, .slice (some ⟨ab, ao, none⟩) (r.length + 1) cp] := hW2 ▸ (Blk.new W _ _).alloc _
  have harr : Blk W2 (W.heap.size + 1) 9 #[.string ⟨#[108]⟩, .string ⟨#[104]⟩, .string ⟨#[109]⟩] := by
    have := Blk.new (W.alloc (.cells #[.string kd, .string tx, .slice (some ⟨ab, ao, none⟩) (r.length + 1) cp] 24)) 9 #[.string ⟨#[108]⟩, .string ⟨#[104]⟩, .string ⟨#[109]⟩]
    rw [World.size_alloc] at this
    exact hW2 ▸ this
  have H0 := Lib.hid (And.intro hb2 (And.intro hbox (And.intro harr hs2)))
  have HW2 := Lib.hid hW2
  clear hb2 hbox harr hs2 hW2
  go_enter Tryz.func27, Tryz.ntmps27
  go_wp2_with fail
  have hW2 := HW2.out
  simp only [hW2]
  clear hW2
  go_loopw [3, 4, 12] (fun sv kv i' wr => ∃ (j m kk c : Nat) (A : Option Addr) (l : List ByteArray), i' = .int .i64 j ∧ j ≤ 3 ∧ l = slO tx.data.toList (r.map Nd.toks) j ∧ m = l.length ∧ m ≤ 2001 * j ∧ kk = r.length - slQ tx.data.toList j ∧ kk ≤ c ∧ c ≤ 9223372036854775807 ∧ kv = .slice A kk c ∧ KidsAt W A (r.drop (slQ tx.data.toList j)) ∧ wr.ownsRow W2.heap.size 9 1 sv m (flatT l) ∧ Below W2.heap.size W2 wr) (fun _ _ i' _ => 3 - (intOf i').toNat)
  case atStart => exact ⟨0, 0, r.length, _, _, [], rfl, Nat.zero_le _, rfl, rfl, Nat.zero_le _, rfl, by omega, by omega, rfl, HKA.out, World.ownsRow_nil _ _ _ _, Below.refl _ _⟩
  case round =>
    obtain ⟨j, m, kk, c, A, l, rfl, hj, hl, hm, hmj, hkk, hkc, hc9, rfl, hKA, hR, hB⟩ := hrel
    obtain ⟨A2, c2, rfl⟩ := own_len hR
    have hj4 : j = 0 ∨ j = 1 ∨ j = 2 ∨ j = 3 := by omega
    have f1 : wr.cell? ⟨W.heap.size, 1, none⟩ = some (.string tx) := (H0.out.2.1.below hB (by rw [H0.out.2.2.2]; omega)).cell 1
    have g0 : wr.cell? ⟨W.heap.size + 1, 0, none⟩ = some (.string ⟨#[108]⟩) := (H0.out.2.2.1.below hB (by rw [H0.out.2.2.2]; omega)).cell 0
    have g1 : wr.cell? ⟨W.heap.size + 1, 1, none⟩ = some (.string ⟨#[104]⟩) := (H0.out.2.2.1.below hB (by rw [H0.out.2.2.2]; omega)).cell 1
    have g2 : wr.cell? ⟨W.heap.size + 1, 2, none⟩ = some (.string ⟨#[109]⟩) := (H0.out.2.2.1.below hB (by rw [H0.out.2.2.2]; omega)).cell 2
    have HR := Lib.hid (And.intro hR (And.intro hB hKA))
    have HL := Lib.hid (And.intro hl (And.intro hm hkk))
    clear hR hB hKA hl hm hkk hj
    rcases hj4 with rfl | rfl | rfl | rfl
    · -- end number 0
      cases hfl : hasB tx.data.toList 108
      · have HFL := Lib.hid hfl
        have HFC := Lib.hid (show tx.data.toList.contains 108 = _ from hfl)
        clear hfl
        obtain ⟨hi0, hz0, hza, hzb⟩ := HN.out
        go_wp2_with fail
        refine (holds_any tx ⟨#[108]⟩ 108 rfl (by omega) _).mono ?_
        rw [HFC.out]
        rintro e wq ⟨rfl, rfl⟩
        go_wp2_with fail
        go_roundw
        case rel => exact ⟨1, m, kk, c, A, l, by go_num, by omega, by rw [HL.out.1]; simp [slO, HFL.out], by rw [HL.out.2.1], by omega, by rw [HL.out.2.2]; simp [slQ, HFL.out], by omega, by omega, rfl, by have h := HR.out.2.2; simpa [slQ, HFL.out] using h, HR.out.1, HR.out.2.1⟩
        case measure => simp [intOf]
      · have HFL := Lib.hid hfl
        have HFC := Lib.hid (show tx.data.toList.contains 108 = _ from hfl)
        have hkl : slQ tx.data.toList 0 < r.length := by
          rw [← HT.out.1]
          simp [slQ, HFL.out]; try omega
        have hx0 : r[slQ tx.data.toList 0]? = some r[slQ tx.data.toList 0] := List.getElem?_eq_getElem hkl
        have hdr : r.drop (slQ tx.data.toList 0) = r[slQ tx.data.toList 0] :: r.drop (slQ tx.data.toList 0 + 1) := List.drop_eq_getElem_cons hkl
        have hmem := List.getElem_mem hkl
        have hto := HT.out.2 _ _ hx0
        generalize r[slQ tx.data.toList 0] = y at hx0 hdr hmem hto
        have hKA := HR.out.2.2
        rw [hdr] at hKA
        obtain ⟨⟨b, o, rfl, hb, e0, e1, e2⟩, hyin⟩ := hKA 0 y rfl
        have hkk : 0 < kk := by have := HL.out.2.2; omega
        have hkkI : (0 : Int) < (kk : Int) := by omega
        have hkk1 : (1 : Int) ≤ (kk : Int) := by omega
        have HB0 := Lib.hid (show ∀ w, Below W2.heap.size W2 w → w.cell? ⟨b, o, none⟩ = some (.string y.kd) ∧ w.cell? ⟨b, o + 1, none⟩ = some (.string y.tx) ∧ w.cell? ⟨b, o + 2, none⟩ = some (.slice y.ad y.ks.length y.cp) from fun w hw => ⟨((H0.out.1.trans (hw.mono (by rw [H0.out.2.2.2]; omega))).cell (p := ⟨b, o, none⟩) hb).trans (by simpa using e0), ((H0.out.1.trans (hw.mono (by rw [H0.out.2.2.2]; omega))).cell (p := ⟨b, o + 1, none⟩) hb).trans (by simpa using e1), ((H0.out.1.trans (hw.mono (by rw [H0.out.2.2.2]; omega))).cell (p := ⟨b, o + 2, none⟩) hb).trans (by simpa using e2)⟩)
        obtain ⟨iy1, iy2, iy3, iy4⟩ := HI.out y hmem
        have HKT := Lib.hid (KidsAt.tail (c := c) hKA (by have h1 := HL.out.2.2; rw [List.length_drop]; omega))
        have HY := Lib.hid (And.intro iy1 (And.intro iy2 (And.intro iy3 (And.intro hyin hto))))
        clear e0 e1 e2 hyin hto hdr hmem hx0 hKA iy1 iy2 iy3 hb
        clear hfl
        obtain ⟨hi0, hz0, hza, hzb⟩ := HN.out
        go_wp2_with fail
        refine (holds_any tx ⟨#[108]⟩ 108 rfl (by omega) _).mono ?_
        rw [HFC.out]
        rintro e wq ⟨rfl, rfl⟩
        obtain ⟨k0, k1, k2⟩ := HB0.out _ HR.out.2.1
        go_wp2_with fail
        refine (HY.out.1 _ HY.out.2.1 HY.out.2.2.1 (HY.out.2.2.2.1.below (H0.out.1.trans (HR.out.2.1.mono (by rw [H0.out.2.2.2]; omega))) (H0.out.1.trans (HR.out.2.1.mono (by rw [H0.out.2.2.2]; omega))).size)).mono ?_
        rintro e w4 ⟨A4, c4, rfl, hown4, hb4⟩
        have HR4 := Lib.hid (And.intro (own_keep HR.out.1 (fun g _ hg => hb4.block g hg)) (HR.out.2.1.trans (hb4.mono HR.out.2.1.size)))
        have HO4 := Lib.hid hown4
        clear hown4 hb4 k0 k1 k2
        go_wp2_with (at_builtin; refine wpl_append_rows rfl _ _ 36 rfl 9 i0 _ 1 16 underT hi0 hz0 hza hzb rfl (by decide) rfl rfl HR4.out.1 HO4.out (flatT_c1 _) (by unfold maxLen; omega) (by omega) HR4.out.2.size ?_; intro v5 w5 hown hgr hloc; have HR5 := Lib.hid (And.intro hown (HR4.out.2.trans (below_own HR4.out.1 hgr (Nat.le_refl _) HR4.out.2.size))); clear hown hgr hloc)
        go_roundw
        case rel => exact ⟨1, m + y.toks.length, kk - 1, c - 1, _, l ++ y.toks, by go_num, by omega, by rw [HL.out.1, ← HY.out.2.2.2.2]; simp [slO, slQ, HFL.out], by rw [HL.out.2.1]; simp, by omega, by have h := HL.out.2.2; simp [slQ, HFL.out] at h ⊢; omega, by omega, by omega, rfl, by have h := HKT.out; simpa [slQ, HFL.out] using h, by rw [flatT_append]; exact HR5.out.1, HR5.out.2⟩
        case measure => simp [intOf]
    · -- end number 1
      cases hfl : hasB tx.data.toList 104
      · have HFL := Lib.hid hfl
        have HFC := Lib.hid (show tx.data.toList.contains 104 = _ from hfl)
        clear hfl
        obtain ⟨hi0, hz0, hza, hzb⟩ := HN.out
        go_wp2_with (at_builtin; refine wpList_append_own_at _ rfl _ _ 36 rfl W2.heap.size 9 i0 (.string ⟨#[]⟩) 1 16 underT hi0 hz0 hza hzb rfl (by decide) _ _ (flatT l) rfl (own_keep HR.out.1 (fun g _ hg => Below.heap_alloc _ _ g hg)) ⟨_, 0, none⟩ 1 1 [.string ⟨#[58]⟩] rfl rfl (World.news_of_block (Blk.new _ _ _)) (by intro u hu; simp at hu; subst hu; rfl) (by unfold maxLen; omega) (by omega) (by rw [World.size_alloc]; have := HR.out.2.1.size; omega) ?_; intro v3 w3 hown hgr hnil hloc; obtain ⟨A3, c3, rfl⟩ := own_len hown; have hbw := HR.out.2.1.trans (((Below.al wr _).mono HR.out.2.1.size).trans (below_own (own_keep HR.out.1 (fun g _ hg => Below.heap_alloc _ _ g hg)) hgr (Nat.le_refl _) (by rw [World.size_alloc]; have := HR.out.2.1.size; omega))); have f1 : w3.cell? ⟨W.heap.size, 1, none⟩ = some (.string tx) := (H0.out.2.1.below hbw (by rw [H0.out.2.2.2]; omega)).cell 1; have HR3 := Lib.hid (And.intro hown hbw); clear hown hgr hnil hloc hbw)
        refine (holds_any tx ⟨#[104]⟩ 104 rfl (by omega) _).mono ?_
        rw [HFC.out]
        rintro e wq ⟨rfl, rfl⟩
        go_wp2_with fail
        go_roundw
        case rel => exact ⟨2, (m + 1), kk, c, A, (l ++ [⟨#[58]⟩]), by go_num, by omega, by rw [HL.out.1]; simp [slO, HFL.out], by rw [HL.out.2.1]; simp, by omega, by rw [HL.out.2.2]; simp [slQ, HFL.out], by omega, by omega, rfl, by have h := HR.out.2.2; simpa [slQ, HFL.out] using h, (by rw [flatT_append]; exact HR3.out.1), HR3.out.2⟩
        case measure => simp [intOf]
      · have HFL := Lib.hid hfl
        have HFC := Lib.hid (show tx.data.toList.contains 104 = _ from hfl)
        have hkl : slQ tx.data.toList 1 < r.length := by
          rw [← HT.out.1]
          simp [slQ, HFL.out]; try omega
        have hx0 : r[slQ tx.data.toList 1]? = some r[slQ tx.data.toList 1] := List.getElem?_eq_getElem hkl
        have hdr : r.drop (slQ tx.data.toList 1) = r[slQ tx.data.toList 1] :: r.drop (slQ tx.data.toList 1 + 1) := List.drop_eq_getElem_cons hkl
        have hmem := List.getElem_mem hkl
        have hto := HT.out.2 _ _ hx0
        generalize r[slQ tx.data.toList 1] = y at hx0 hdr hmem hto
        have hKA := HR.out.2.2
        rw [hdr] at hKA
        obtain ⟨⟨b, o, rfl, hb, e0, e1, e2⟩, hyin⟩ := hKA 0 y rfl
        have hkk : 0 < kk := by have := HL.out.2.2; omega
        have hkkI : (0 : Int) < (kk : Int) := by omega
        have hkk1 : (1 : Int) ≤ (kk : Int) := by omega
        have HB0 := Lib.hid (show ∀ w, Below W2.heap.size W2 w → w.cell? ⟨b, o, none⟩ = some (.string y.kd) ∧ w.cell? ⟨b, o + 1, none⟩ = some (.string y.tx) ∧ w.cell? ⟨b, o + 2, none⟩ = some (.slice y.ad y.ks.length y.cp) from fun w hw => ⟨((H0.out.1.trans (hw.mono (by rw [H0.out.2.2.2]; omega))).cell (p := ⟨b, o, none⟩) hb).trans (by simpa using e0), ((H0.out.1.trans (hw.mono (by rw [H0.out.2.2.2]; omega))).cell (p := ⟨b, o + 1, none⟩) hb).trans (by simpa using e1), ((H0.out.1.trans (hw.mono (by rw [H0.out.2.2.2]; omega))).cell (p := ⟨b, o + 2, none⟩) hb).trans (by simpa using e2)⟩)
        obtain ⟨iy1, iy2, iy3, iy4⟩ := HI.out y hmem
        have HKT := Lib.hid (KidsAt.tail (c := c) hKA (by have h1 := HL.out.2.2; rw [List.length_drop]; omega))
        have HY := Lib.hid (And.intro iy1 (And.intro iy2 (And.intro iy3 (And.intro hyin hto))))
        clear e0 e1 e2 hyin hto hdr hmem hx0 hKA iy1 iy2 iy3 hb
        clear hfl
        obtain ⟨hi0, hz0, hza, hzb⟩ := HN.out
        go_wp2_with (at_builtin; refine wpList_append_own_at _ rfl _ _ 36 rfl W2.heap.size 9 i0 (.string ⟨#[]⟩) 1 16 underT hi0 hz0 hza hzb rfl (by decide) _ _ (flatT l) rfl (own_keep HR.out.1 (fun g _ hg => Below.heap_alloc _ _ g hg)) ⟨_, 0, none⟩ 1 1 [.string ⟨#[58]⟩] rfl rfl (World.news_of_block (Blk.new _ _ _)) (by intro u hu; simp at hu; subst hu; rfl) (by unfold maxLen; omega) (by omega) (by rw [World.size_alloc]; have := HR.out.2.1.size; omega) ?_; intro v3 w3 hown hgr hnil hloc; obtain ⟨A3, c3, rfl⟩ := own_len hown; have hbw := HR.out.2.1.trans (((Below.al wr _).mono HR.out.2.1.size).trans (below_own (own_keep HR.out.1 (fun g _ hg => Below.heap_alloc _ _ g hg)) hgr (Nat.le_refl _) (by rw [World.size_alloc]; have := HR.out.2.1.size; omega))); have f1 : w3.cell? ⟨W.heap.size, 1, none⟩ = some (.string tx) := (H0.out.2.1.below hbw (by rw [H0.out.2.2.2]; omega)).cell 1; have HR3 := Lib.hid (And.intro hown hbw); clear hown hgr hnil hloc hbw)
        refine (holds_any tx ⟨#[104]⟩ 104 rfl (by omega) _).mono ?_
        rw [HFC.out]
        rintro e wq ⟨rfl, rfl⟩
        obtain ⟨k0, k1, k2⟩ := HB0.out _ HR3.out.2
        go_wp2_with fail
        refine (HY.out.1 _ HY.out.2.1 HY.out.2.2.1 (HY.out.2.2.2.1.below (H0.out.1.trans (HR3.out.2.mono (by rw [H0.out.2.2.2]; omega))) (H0.out.1.trans (HR3.out.2.mono (by rw [H0.out.2.2.2]; omega))).size)).mono ?_
        rintro e w4 ⟨A4, c4, rfl, hown4, hb4⟩
        have HR4 := Lib.hid (And.intro (own_keep HR3.out.1 (fun g _ hg => hb4.block g hg)) (HR3.out.2.trans (hb4.mono HR3.out.2.size)))
        have HO4 := Lib.hid hown4
        clear hown4 hb4 k0 k1 k2
        go_wp2_with (at_builtin; refine wpl_append_rows rfl _ _ 36 rfl 9 i0 _ 1 16 underT hi0 hz0 hza hzb rfl (by decide) rfl rfl HR4.out.1 HO4.out (flatT_c1 _) (by unfold maxLen; omega) (by omega) HR4.out.2.size ?_; intro v5 w5 hown hgr hloc; have HR5 := Lib.hid (And.intro hown (HR4.out.2.trans (below_own HR4.out.1 hgr (Nat.le_refl _) HR4.out.2.size))); clear hown hgr hloc)
        go_roundw
        case rel => exact ⟨2, (m + 1) + y.toks.length, kk - 1, c - 1, _, (l ++ [⟨#[58]⟩]) ++ y.toks, by go_num, by omega, by rw [HL.out.1, ← HY.out.2.2.2.2]; simp [slO, slQ, HFL.out], by rw [HL.out.2.1]; simp; omega, by omega, by have h := HL.out.2.2; simp [slQ, HFL.out] at h ⊢; omega, by omega, by omega, rfl, by have h := HKT.out; simpa [slQ, HFL.out] using h, by rw [flatT_append, flatT_append]; exact HR5.out.1, HR5.out.2⟩
        case measure => simp [intOf]
    · -- end number 2
      cases hcs : hasB tx.data.toList 115
      · have HCS := Lib.hid hcs
        have HCC := Lib.hid (show tx.data.toList.contains 115 = _ from hcs)
        cases hfl : hasB tx.data.toList 109
        · have HFL := Lib.hid hfl
          have HFC := Lib.hid (show tx.data.toList.contains 109 = _ from hfl)
          clear hfl hcs
          obtain ⟨hi0, hz0, hza, hzb⟩ := HN.out
          go_wp2_with fail
          refine (holds_any tx ⟨#[115]⟩ 115 rfl (by omega) _).mono ?_
          rw [HCC.out]
          rintro e wq ⟨rfl, rfl⟩
          go_wp2_with fail
          refine (holds_any tx ⟨#[109]⟩ 109 rfl (by omega) _).mono ?_
          rw [HFC.out]
          rintro e wq ⟨rfl, rfl⟩
          go_wp2_with fail
          go_roundw
          case rel => exact ⟨3, m, kk, c, A, l, by go_num, by omega, by rw [HL.out.1]; simp [slO, HFL.out, HCS.out], by rw [HL.out.2.1], by omega, by rw [HL.out.2.2]; simp [slQ, HFL.out], by omega, by omega, rfl, by have h := HR.out.2.2; simpa [slQ, HFL.out] using h, HR.out.1, HR.out.2.1⟩
          case measure => simp [intOf]
        · have HFL := Lib.hid hfl
          have HFC := Lib.hid (show tx.data.toList.contains 109 = _ from hfl)
          have hkl : slQ tx.data.toList 2 < r.length := by
            rw [← HT.out.1]
            simp [slQ, HFL.out]; try omega
          have hx0 : r[slQ tx.data.toList 2]? = some r[slQ tx.data.toList 2] := List.getElem?_eq_getElem hkl
          have hdr : r.drop (slQ tx.data.toList 2) = r[slQ tx.data.toList 2] :: r.drop (slQ tx.data.toList 2 + 1) := List.drop_eq_getElem_cons hkl
          have hmem := List.getElem_mem hkl
          have hto := HT.out.2 _ _ hx0
          generalize r[slQ tx.data.toList 2] = y at hx0 hdr hmem hto
          have hKA := HR.out.2.2
          rw [hdr] at hKA
          obtain ⟨⟨b, o, rfl, hb, e0, e1, e2⟩, hyin⟩ := hKA 0 y rfl
          have hkk : 0 < kk := by have := HL.out.2.2; omega
          have hkkI : (0 : Int) < (kk : Int) := by omega
          have hkk1 : (1 : Int) ≤ (kk : Int) := by omega
          have HB0 := Lib.hid (show ∀ w, Below W2.heap.size W2 w → w.cell? ⟨b, o, none⟩ = some (.string y.kd) ∧ w.cell? ⟨b, o + 1, none⟩ = some (.string y.tx) ∧ w.cell? ⟨b, o + 2, none⟩ = some (.slice y.ad y.ks.length y.cp) from fun w hw => ⟨((H0.out.1.trans (hw.mono (by rw [H0.out.2.2.2]; omega))).cell (p := ⟨b, o, none⟩) hb).trans (by simpa using e0), ((H0.out.1.trans (hw.mono (by rw [H0.out.2.2.2]; omega))).cell (p := ⟨b, o + 1, none⟩) hb).trans (by simpa using e1), ((H0.out.1.trans (hw.mono (by rw [H0.out.2.2.2]; omega))).cell (p := ⟨b, o + 2, none⟩) hb).trans (by simpa using e2)⟩)
          obtain ⟨iy1, iy2, iy3, iy4⟩ := HI.out y hmem
          have HKT := Lib.hid (KidsAt.tail (c := c) hKA (by have h1 := HL.out.2.2; rw [List.length_drop]; omega))
          have HY := Lib.hid (And.intro iy1 (And.intro iy2 (And.intro iy3 (And.intro hyin hto))))
          clear e0 e1 e2 hyin hto hdr hmem hx0 hKA iy1 iy2 iy3 hb
          clear hfl hcs
          obtain ⟨hi0, hz0, hza, hzb⟩ := HN.out
          go_wp2_with fail
          refine (holds_any tx ⟨#[115]⟩ 115 rfl (by omega) _).mono ?_
          rw [HCC.out]
          rintro e wq ⟨rfl, rfl⟩
          go_wp2_with fail
          refine (holds_any tx ⟨#[109]⟩ 109 rfl (by omega) _).mono ?_
          rw [HFC.out]
          rintro e wq ⟨rfl, rfl⟩
          obtain ⟨k0, k1, k2⟩ := HB0.out _ HR.out.2.1
          go_wp2_with fail
          refine (HY.out.1 _ HY.out.2.1 HY.out.2.2.1 (HY.out.2.2.2.1.below (H0.out.1.trans (HR.out.2.1.mono (by rw [H0.out.2.2.2]; omega))) (H0.out.1.trans (HR.out.2.1.mono (by rw [H0.out.2.2.2]; omega))).size)).mono ?_
          rintro e w4 ⟨A4, c4, rfl, hown4, hb4⟩
          have HR4 := Lib.hid (And.intro (own_keep HR.out.1 (fun g _ hg => hb4.block g hg)) (HR.out.2.1.trans (hb4.mono HR.out.2.1.size)))
          have HO4 := Lib.hid hown4
          clear hown4 hb4 k0 k1 k2
          go_wp2_with (at_builtin; refine wpl_append_rows rfl _ _ 36 rfl 9 i0 _ 1 16 underT hi0 hz0 hza hzb rfl (by decide) rfl rfl HR4.out.1 HO4.out (flatT_c1 _) (by unfold maxLen; omega) (by omega) HR4.out.2.size ?_; intro v5 w5 hown hgr hloc; have HR5 := Lib.hid (And.intro hown (HR4.out.2.trans (below_own HR4.out.1 hgr (Nat.le_refl _) HR4.out.2.size))); clear hown hgr hloc)
          go_roundw
          case rel => exact ⟨3, m + y.toks.length, kk - 1, c - 1, _, l ++ y.toks, by go_num, by omega, by rw [HL.out.1, ← HY.out.2.2.2.2]; simp [slO, slQ, HFL.out, HCS.out], by rw [HL.out.2.1]; simp, by omega, by have h := HL.out.2.2; simp [slQ, HFL.out] at h ⊢; omega, by omega, by omega, rfl, by have h := HKT.out; simpa [slQ, HFL.out] using h, by rw [flatT_append]; exact HR5.out.1, HR5.out.2⟩
          case measure => simp [intOf]
      · have HCS := Lib.hid hcs
        have HCC := Lib.hid (show tx.data.toList.contains 115 = _ from hcs)
        cases hfl : hasB tx.data.toList 109
        · have HFL := Lib.hid hfl
          have HFC := Lib.hid (show tx.data.toList.contains 109 = _ from hfl)
          clear hfl hcs
          obtain ⟨hi0, hz0, hza, hzb⟩ := HN.out
          go_wp2_with fail
          refine (holds_any tx ⟨#[115]⟩ 115 rfl (by omega) _).mono ?_
          rw [HCC.out]
          rintro e wq ⟨rfl, rfl⟩
          go_wp2_with (at_builtin; refine wpList_append_own_at _ rfl _ _ 36 rfl W2.heap.size 9 i0 (.string ⟨#[]⟩) 1 16 underT hi0 hz0 hza hzb rfl (by decide) _ _ (flatT l) rfl (own_keep HR.out.1 (fun g _ hg => Below.heap_alloc _ _ g hg)) ⟨_, 0, none⟩ 1 1 [.string ⟨#[58]⟩] rfl rfl (World.news_of_block (Blk.new _ _ _)) (by intro u hu; simp at hu; subst hu; rfl) (by unfold maxLen; omega) (by omega) (by rw [World.size_alloc]; have := HR.out.2.1.size; omega) ?_; intro v3 w3 hown hgr hnil hloc; obtain ⟨A3, c3, rfl⟩ := own_len hown; have hbw := HR.out.2.1.trans (((Below.al wr _).mono HR.out.2.1.size).trans (below_own (own_keep HR.out.1 (fun g _ hg => Below.heap_alloc _ _ g hg)) hgr (Nat.le_refl _) (by rw [World.size_alloc]; have := HR.out.2.1.size; omega))); have f1 : w3.cell? ⟨W.heap.size, 1, none⟩ = some (.string tx) := (H0.out.2.1.below hbw (by rw [H0.out.2.2.2]; omega)).cell 1; have HR3 := Lib.hid (And.intro hown hbw); clear hown hgr hnil hloc hbw)
          refine (holds_any tx ⟨#[109]⟩ 109 rfl (by omega) _).mono ?_
          rw [HFC.out]
          rintro e wq ⟨rfl, rfl⟩
          go_wp2_with fail
          go_roundw
          case rel => exact ⟨3, (m + 1), kk, c, A, (l ++ [⟨#[58]⟩]), by go_num, by omega, by rw [HL.out.1]; simp [slO, HFL.out, HCS.out], by rw [HL.out.2.1]; simp, by omega, by rw [HL.out.2.2]; simp [slQ, HFL.out], by omega, by omega, rfl, by have h := HR.out.2.2; simpa [slQ, HFL.out] using h, (by rw [flatT_append]; exact HR3.out.1), HR3.out.2⟩
          case measure => simp [intOf]
        · have HFL := Lib.hid hfl
          have HFC := Lib.hid (show tx.data.toList.contains 109 = _ from hfl)
          have hkl : slQ tx.data.toList 2 < r.length := by
            rw [← HT.out.1]
            simp [slQ, HFL.out]; try omega
          have hx0 : r[slQ tx.data.toList 2]? = some r[slQ tx.data.toList 2] := List.getElem?_eq_getElem hkl
          have hdr : r.drop (slQ tx.data.toList 2) = r[slQ tx.data.toList 2] :: r.drop (slQ tx.data.toList 2 + 1) := List.drop_eq_getElem_cons hkl
          have hmem := List.getElem_mem hkl
          have hto := HT.out.2 _ _ hx0
          generalize r[slQ tx.data.toList 2] = y at hx0 hdr hmem hto
          have hKA := HR.out.2.2
          rw [hdr] at hKA
          obtain ⟨⟨b, o, rfl, hb, e0, e1, e2⟩, hyin⟩ := hKA 0 y rfl
          have hkk : 0 < kk := by have := HL.out.2.2; omega
          have hkkI : (0 : Int) < (kk : Int) := by omega
          have hkk1 : (1 : Int) ≤ (kk : Int) := by omega
          have HB0 := Lib.hid (show ∀ w, Below W2.heap.size W2 w → w.cell? ⟨b, o, none⟩ = some (.string y.kd) ∧ w.cell? ⟨b, o + 1, none⟩ = some (.string y.tx) ∧ w.cell? ⟨b, o + 2, none⟩ = some (.slice y.ad y.ks.length y.cp) from fun w hw => ⟨((H0.out.1.trans (hw.mono (by rw [H0.out.2.2.2]; omega))).cell (p := ⟨b, o, none⟩) hb).trans (by simpa using e0), ((H0.out.1.trans (hw.mono (by rw [H0.out.2.2.2]; omega))).cell (p := ⟨b, o + 1, none⟩) hb).trans (by simpa using e1), ((H0.out.1.trans (hw.mono (by rw [H0.out.2.2.2]; omega))).cell (p := ⟨b, o + 2, none⟩) hb).trans (by simpa using e2)⟩)
          obtain ⟨iy1, iy2, iy3, iy4⟩ := HI.out y hmem
          have HKT := Lib.hid (KidsAt.tail (c := c) hKA (by have h1 := HL.out.2.2; rw [List.length_drop]; omega))
          have HY := Lib.hid (And.intro iy1 (And.intro iy2 (And.intro iy3 (And.intro hyin hto))))
          clear e0 e1 e2 hyin hto hdr hmem hx0 hKA iy1 iy2 iy3 hb
          clear hfl hcs
          obtain ⟨hi0, hz0, hza, hzb⟩ := HN.out
          go_wp2_with fail
          refine (holds_any tx ⟨#[115]⟩ 115 rfl (by omega) _).mono ?_
          rw [HCC.out]
          rintro e wq ⟨rfl, rfl⟩
          go_wp2_with (at_builtin; refine wpList_append_own_at _ rfl _ _ 36 rfl W2.heap.size 9 i0 (.string ⟨#[]⟩) 1 16 underT hi0 hz0 hza hzb rfl (by decide) _ _ (flatT l) rfl (own_keep HR.out.1 (fun g _ hg => Below.heap_alloc _ _ g hg)) ⟨_, 0, none⟩ 1 1 [.string ⟨#[58]⟩] rfl rfl (World.news_of_block (Blk.new _ _ _)) (by intro u hu; simp at hu; subst hu; rfl) (by unfold maxLen; omega) (by omega) (by rw [World.size_alloc]; have := HR.out.2.1.size; omega) ?_; intro v3 w3 hown hgr hnil hloc; obtain ⟨A3, c3, rfl⟩ := own_len hown; have hbw := HR.out.2.1.trans (((Below.al wr _).mono HR.out.2.1.size).trans (below_own (own_keep HR.out.1 (fun g _ hg => Below.heap_alloc _ _ g hg)) hgr (Nat.le_refl _) (by rw [World.size_alloc]; have := HR.out.2.1.size; omega))); have f1 : w3.cell? ⟨W.heap.size, 1, none⟩ = some (.string tx) := (H0.out.2.1.below hbw (by rw [H0.out.2.2.2]; omega)).cell 1; have HR3 := Lib.hid (And.intro hown hbw); clear hown hgr hnil hloc hbw)
          refine (holds_any tx ⟨#[109]⟩ 109 rfl (by omega) _).mono ?_
          rw [HFC.out]
          rintro e wq ⟨rfl, rfl⟩
          obtain ⟨k0, k1, k2⟩ := HB0.out _ HR3.out.2
          go_wp2_with fail
          refine (HY.out.1 _ HY.out.2.1 HY.out.2.2.1 (HY.out.2.2.2.1.below (H0.out.1.trans (HR3.out.2.mono (by rw [H0.out.2.2.2]; omega))) (H0.out.1.trans (HR3.out.2.mono (by rw [H0.out.2.2.2]; omega))).size)).mono ?_
          rintro e w4 ⟨A4, c4, rfl, hown4, hb4⟩
          have HR4 := Lib.hid (And.intro (own_keep HR3.out.1 (fun g _ hg => hb4.block g hg)) (HR3.out.2.trans (hb4.mono HR3.out.2.size)))
          have HO4 := Lib.hid hown4
          clear hown4 hb4 k0 k1 k2
          go_wp2_with (at_builtin; refine wpl_append_rows rfl _ _ 36 rfl 9 i0 _ 1 16 underT hi0 hz0 hza hzb rfl (by decide) rfl rfl HR4.out.1 HO4.out (flatT_c1 _) (by unfold maxLen; omega) (by omega) HR4.out.2.size ?_; intro v5 w5 hown hgr hloc; have HR5 := Lib.hid (And.intro hown (HR4.out.2.trans (below_own HR4.out.1 hgr (Nat.le_refl _) HR4.out.2.size))); clear hown hgr hloc)
          go_roundw
          case rel => exact ⟨3, (m + 1) + y.toks.length, kk - 1, c - 1, _, (l ++ [⟨#[58]⟩]) ++ y.toks, by go_num, by omega, by rw [HL.out.1, ← HY.out.2.2.2.2]; simp [slO, slQ, HFL.out, HCS.out], by rw [HL.out.2.1]; simp; omega, by omega, by have h := HL.out.2.2; simp [slQ, HFL.out] at h ⊢; omega, by omega, by omega, rfl, by have h := HKT.out; simpa [slQ, HFL.out] using h, by rw [flatT_append, flatT_append]; exact HR5.out.1, HR5.out.2⟩
          case measure => simp [intOf]
    · -- the end
      obtain ⟨q1, q2, q3⟩ := HR.out
      go_wp2_with fail
      go_ret
      obtain ⟨h1, h2, h3⟩ := HL.out
      subst h1 h2
      exact ⟨_, _, rfl, own_lowT q1 (by rw [H0.out.2.2.2]; omega), H0.out.1.trans (q2.mono (by rw [H0.out.2.2.2]; omega))⟩
end Go.Proofs.YtjbhjbpamnoebaaGreatFmt
