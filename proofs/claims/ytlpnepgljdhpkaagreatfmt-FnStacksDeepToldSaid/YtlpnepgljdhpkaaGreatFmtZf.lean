/-
  ast.PreorderStack; impl.Stacks: the kinds of the nodes above each node of a tree.
-/
import Derived.Test.YtlpnepgljdhpkaaGreatFmtZe
import Derived.Test.YtlpnepgljdhpkaaGreatFmtOc
namespace Go.Proofs.YtlpnepgljdhpkaaGreatFmt
open Go.RowKit

/-- Rows of texts as they are read. -/
def RowsR (w : World) (A : Option Addr) (rows : List (List ByteArray)) : Prop := ∀ (j : Nat) (r : List ByteArray), rows[j]? = some r → ∃ g A2 c2, A = some ⟨g, 0, none⟩ ∧ w.cell? ⟨g, j, none⟩ = some (.slice A2 r.length c2) ∧ TxAt w A2 r
theorem RowsR.of {w : World} {base h0 n c : Nat} {A : Option Addr} {bad : Nat → Prop} {rows : List (List ByteArray)} {rvs : List Value} (h : w.ownsRow base 34 1 (.slice A n c) n rvs) (hr : RowsV w h0 bad rows rvs) : RowsR w A rows := fun j r hj => by
  obtain ⟨A2, c2, h1, h2, _⟩ := hr.2 j r hj
  obtain ⟨g, hA, _, _, hc⟩ := own_cell1 h j _ h1
  exact ⟨g, A2, c2, hA, hc, h2⟩
theorem RowsR.below {w w' : World} {A : Option Addr} {rows : List (List ByteArray)} (h : RowsR w A rows) (hb : Below w.heap.size w w') : RowsR w' A rows := fun j r hj => by
  obtain ⟨g, A2, c2, rfl, h1, h2⟩ := h j r hj
  exact ⟨g, A2, c2, rfl, (hb.cell (p := ⟨g, j, none⟩) (World.block_lt_of_cell? w _ h1)).trans h1, h2.below hb⟩
/-- .. and the room of each. -/
def RowsC (w : World) (A : Option Addr) (rows : List (List ByteArray)) : Prop := ∀ (j : Nat) (r : List ByteArray), rows[j]? = some r → ∃ g A2 c2, A = some ⟨g, 0, none⟩ ∧ w.cell? ⟨g, j, none⟩ = some (.slice A2 r.length c2) ∧ TxAt w A2 r ∧ r.length ≤ c2 ∧ c2 ≤ 9223372036854775807
theorem RowsC.of {w : World} {base h0 n c : Nat} {A : Option Addr} {bad : Nat → Prop} {rows : List (List ByteArray)} {rvs : List Value} (h : w.ownsRow base 34 1 (.slice A n c) n rvs) (hr : RowsV w h0 bad rows rvs) (hc : ∀ u ∈ rvs, capOk u) : RowsC w A rows := fun j r hj => by
  obtain ⟨A2, c2, h1, h2, _⟩ := hr.2 j r hj
  obtain ⟨g, hA, _, _, hc1⟩ := own_cell1 h j _ h1
  exact ⟨g, A2, c2, hA, hc1, h2, hc _ (List.mem_of_getElem? h1)⟩
theorem RowsC.below {w w' : World} {A : Option Addr} {rows : List (List ByteArray)} (h : RowsC w A rows) (hb : Below w.heap.size w w') : RowsC w' A rows := fun j r hj => by
  obtain ⟨g, A2, c2, rfl, h1, h2, h3⟩ := h j r hj
  exact ⟨g, A2, c2, rfl, (hb.cell (p := ⟨g, j, none⟩) (World.block_lt_of_cell? w _ h1)).trans h1, h2.below hb, h3⟩
def SkPost (W : World) (rows : List (List ByteArray)) (e : Ending) (w : World) : Prop := ∃ A cap, e = .returned (.slice A rows.length cap) ∧ RowsR w A rows ∧ Below W.heap.size W w ∧ RowsC w A rows
set_option maxRecDepth 100000 in
theorem PreorderStack_any (P : Nat → Int) (hNf : ∀ m : Nd, m.shapedB = true → m.size ≤ 400 → NOf P m) (n : Nd) (hs : n.shapedB = true) (hz : n.size ≤ 400) (st : ByteArray) (W0 : World) (ob sb lo hi : Nat) (v : Value) (W : World) (hW : W.heap.size = hi)
    (hb : Below W0.heap.size W0 W) (hT : TokTab W0) (hob : Blk W ob 40 #[.slice none 0 0]) (hsb : Blk W sb 9 #[.string st]) (hbd : W0.heap.size ≤ ob ∧ sb ≠ ob ∧ ob < lo ∧ sb < lo ∧ lo ≤ hi) (hX : ExR W (Rng lo hi) P 0 n v) :
    Calls Tryz.prog 32 #[v, .slice none 0 0, fvS ob sb] W fun e w' => e = .returned (.tuple #[]) ∧ ZSt W0 st ob sb lo hi P (n.stk st []) [] w' := by
  obtain ⟨q, c, rfl⟩ := hX.form
  have hb2 : Below W.heap.size W ((W.alloc (.cells #[.slice none 0 0] 60)).alloc (.cells #[fvS ob sb] 61)) := ((Below.refl _ _).alloc (Nat.le_refl _) _).alloc (by simp) _
  have hs2 : ((W.alloc (.cells #[.slice none 0 0] 60)).alloc (.cells #[fvS ob sb] 61)).heap.size = hi + 2 := by rw [World.size_alloc, World.size_alloc, hW]
  have hkb : Blk ((W.alloc (.cells #[.slice none 0 0] 60)).alloc (.cells #[fvS ob sb] 61)) hi 60 #[.slice none 0 0] := by
    have h := (Blk.new W 60 #[.slice none 0 0]).alloc (.cells #[fvS ob sb] 61)
    rwa [hW] at h
  have hfb : Blk ((W.alloc (.cells #[.slice none 0 0] 60)).alloc (.cells #[fvS ob sb] 61)) (hi + 1) 61 #[fvS ob sb] := by
    have h := Blk.new (W.alloc (.cells #[.slice none 0 0] 60)) 61 #[fvS ob sb]
    rwa [World.size_alloc, hW] at h
  have hZ : ZSt W0 st ob sb lo hi P (rowsOf []) [] ((W.alloc (.cells #[.slice none 0 0] 60)).alloc (.cells #[fvS ob sb] 61)) :=
    ⟨none, none, 0, [], ⟨hb.trans (hb2.mono hb.size), hT, ⟨hbd.1, hbd.2.1, by omega, by omega, by rw [hs2]; exact Nat.le_refl _⟩, hsb.below hb2 hsb.lt, none, 0, [], hob.below hb2 hob.lt, World.ownsRow_nil _ _ _ _, rfl, RowsV.nil _ _ _, fun u hu => by cases hu⟩, hbd.2.2, hkb, World.ownsRow_nil _ _ _ _, ⟨rfl, fun j x hj => by simp at hj⟩, (fun g e => by cases e), hfb⟩
  have HI := Lib.hid (inspect_any (stack_cs P hNf st W0 ob sb lo hi) n hs hz _ 0 _ hZ (by rw [hs2]; omega) ((show Kp lo hi W _ from ⟨hb2.size, fun b _ h => hb2.block b (by omega)⟩).ex hX))
  have HR0 := Lib.hid (run_rows st n [] 0 [])
  clear hZ hkb hfb hb2 hX hob hsb hb hT hNf
  show Calls _ _ #[.iface q (.pointer (some ⟨c, 0, none⟩)), .slice none 0 0, .func (.func 33) #[] #[.pointer (some ⟨ob, 0, none⟩), .pointer (some ⟨sb, 0, none⟩)]] W _
  go_enter Tryz.func32, Tryz.ntmps32
  go_wp2_with fail
  refine HI.out.mono ?_
  clear HI
  rintro e w2 ⟨rfl, hZ, hK⟩
  rw [HR0.out] at hZ
  have HZ := Lib.hid hZ
  obtain ⟨go, A, cap, vs, hO, hbd, hblk, hown, hV, hg, hf⟩ := hZ
  have d1 : w2.cell? ⟨hi, 0, none⟩ = some (.slice A 0 cap) := hblk.c00
  clear hO hbd hblk hown hV hg hf hK
  go_wp2_with fail
  go_end0
  exact ⟨rfl, HZ.out⟩
set_option maxRecDepth 100000 in
theorem Stacks_any (n : Nd) (st : ByteArray) (hE : EOf [] n) (hs : n.shapedB = true) (hz : n.size ≤ 400) (W : World) (hT : TokTab W) (hin : n.In W W.heap.size) :
    Calls Tryz.prog 20 #[n.val, .string st] W (SkPost W (n.stk st [])) := by
  show Calls _ _ #[.agg #[.string n.kd, .string n.tx, .slice n.ad n.ks.length n.cp], .string st] W _
  generalize hll : n.stk st [] = rows
  have HLL := Lib.hid hll
  clear hll
  have hb2 : Below W.heap.size W (((W.alloc (.cells #[.string n.kd, .string n.tx, .slice n.ad n.ks.length n.cp] 24)).alloc (.cells #[.string st] 9)).alloc (.cells #[.slice none 0 0] 40)) := (((Below.refl _ _).alloc (Nat.le_refl _) _).alloc (by simp) _).alloc (by simp; omega) _
  have hs2 : (((W.alloc (.cells #[.string n.kd, .string n.tx, .slice n.ad n.ks.length n.cp] 24)).alloc (.cells #[.string st] 9)).alloc (.cells #[.slice none 0 0] 40)).heap.size = W.heap.size + 3 := by rw [World.size_alloc, World.size_alloc, World.size_alloc]
  have hob : Blk (((W.alloc (.cells #[.string n.kd, .string n.tx, .slice n.ad n.ks.length n.cp] 24)).alloc (.cells #[.string st] 9)).alloc (.cells #[.slice none 0 0] 40)) (W.heap.size + 2) 40 #[.slice none 0 0] := by
    have := Blk.new ((W.alloc (.cells #[.string n.kd, .string n.tx, .slice n.ad n.ks.length n.cp] 24)).alloc (.cells #[.string st] 9)) 40 #[.slice none 0 0]
    rwa [World.size_alloc, World.size_alloc] at this
  have hsb : Blk (((W.alloc (.cells #[.string n.kd, .string n.tx, .slice n.ad n.ks.length n.cp] 24)).alloc (.cells #[.string st] 9)).alloc (.cells #[.slice none 0 0] 40)) (W.heap.size + 1) 9 #[.string st] := by
    have := (Blk.new (W.alloc (.cells #[.string n.kd, .string n.tx, .slice n.ad n.ks.length n.cp] 24)) 9 #[.string st]).alloc (.cells #[.slice none 0 0] 40)
    rwa [World.size_alloc] at this
  have HC := Lib.hid (build_any [] n hE _ (hT.below hb2) (hin.below hb2 (by rw [hs2]; omega)) none 0 ⟨Nat.le_refl _, Nat.zero_le _, fun j x hj => by simp at hj⟩ 0 rfl)
  have H0 := Lib.hid (And.intro hs (And.intro hT (And.intro hb2 (And.intro hob (And.intro hsb hs2)))))
  clear hE hs hT hin hb2 hob hsb hs2
  go_enter Tryz.func20, Tryz.ntmps20
  go_wp2_with fail
  refine HC.out.mono ?_
  clear HC
  rintro e w1 ⟨v, rfl, hX, hB1⟩
  obtain ⟨q, c, rfl⟩ := hX.form
  rw [H0.out.2.2.2.2.2] at hX hB1
  have hz1 := hB1.size
  rw [H0.out.2.2.2.2.2] at hz1
  have HC := Lib.hid (PreorderStack_any (posOf []) (fun m h1 h2 => node_any (posOf []) posOf_ni m h1 h2) n H0.out.1 hz st W (W.heap.size + 2) (W.heap.size + 1) (W.heap.size + 3) w1.heap.size _ w1 rfl (H0.out.2.2.1.trans (hB1.mono (by omega))) H0.out.2.1 (H0.out.2.2.2.1.below hB1 (by omega)) (H0.out.2.2.2.2.1.below hB1 (by omega)) ⟨by omega, by omega, by omega, by omega, by omega⟩ hX)
  clear hX hB1
  go_wp2_with fail
  refine HC.out.mono ?_
  clear HC
  rintro e w2 ⟨rfl, go, A0, cap0, vs, hO, _⟩
  obtain ⟨h1, _, _, _, A, cap, rvs, h5, h6, _, h8⟩ := hO
  have HR := Lib.hid (And.intro h1 (And.intro (RowsR.of h6 h8.1) (RowsC.of h6 h8.1 h8.2)))
  rw [HLL.out] at HR h5
  have z0 : w2.cell? ⟨W.heap.size + 2, 0, none⟩ = some (.slice A rows.length cap) := h5.c00
  clear h1 h5 h6 h8
  go_wp2_with fail
  go_ret
  exact ⟨A, cap, rfl, HR.out.2.1, HR.out.1, HR.out.2.2⟩
end Go.Proofs.YtlpnepgljdhpkaaGreatFmt
