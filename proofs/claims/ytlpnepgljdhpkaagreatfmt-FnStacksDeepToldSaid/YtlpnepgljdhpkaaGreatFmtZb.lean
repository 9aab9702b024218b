/-
  impl.Stacks: what its function has kept: rows of texts, each in a block of its own.
-/
import Derived.Test.YtlpnepgljdhpkaaGreatFmtOe
import Derived.Test.YtlpnepgljdhpkaaGreatFmtZa
namespace Go.Proofs.YtlpnepgljdhpkaaGreatFmt
open Go.RowKit

theorem infoS : (Tryz.prog.info? 34).map (fun i => (i.zero, i.size, i.bytes)) = some (some (.slice none 0 0), 1, 24) := by kernel_rfl
theorem underS : Tryz.prog.underlying 40 = some (.slice 34) := by kernel_rfl
theorem infoA : (Tryz.prog.info? 53).map (fun i => (i.zero, i.size, i.bytes)) = some (some .nilIface, 1, 16) := by kernel_rfl
theorem underA : Tryz.prog.underlying 60 = some (.slice 53) := by kernel_rfl
theorem TxAt.keep {w w' : World} {A : Option Addr} {l : List ByteArray} (h : TxAt w A l) (hk : ∀ p, A = some p → w'.heap[p.block]? = w.heap[p.block]?) : TxAt w' A l := fun j x hj => by
  obtain ⟨g, rfl, h1⟩ := h j x hj
  exact ⟨g, rfl, (World.cell?_of_block (a := ⟨g, j, none⟩) (hk ⟨g, 0, none⟩ rfl)).trans h1⟩
/-- The kinds of the nodes above. -/
def kdl (d : List (Nd × Nat)) : List ByteArray := d.map (·.1.kd)
/-- The nodes above, as values. -/
def StkV (w : World) (lo hi : Nat) (P : Nat → Int) (d : List (Nd × Nat)) (vs : List Value) : Prop :=
  vs.length = d.length ∧ ∀ (j : Nat) (x : Nd × Nat), d[j]? = some x → x.1.shapedB = true ∧ x.1.size ≤ 400 ∧ ∃ v, vs[j]? = some v ∧ ExR w (Rng lo hi) P x.2 x.1 v
/-- Rows of texts, none of whose blocks is bad. -/
def RowsV (w : World) (h0 : Nat) (bad : Nat → Prop) (rows : List (List ByteArray)) (rvs : List Value) : Prop :=
  rvs.length = rows.length ∧ ∀ (j : Nat) (r : List ByteArray), rows[j]? = some r → ∃ A c, rvs[j]? = some (.slice A r.length c) ∧ TxAt w A r ∧ ∀ p, A = some p → h0 ≤ p.block ∧ p.block < w.heap.size ∧ ¬ bad p.block
section
variable {w w' : World} {lo hi h0 : Nat} {P : Nat → Int} {d : List (Nd × Nat)} {vs rvs : List Value} {bad bad' : Nat → Prop} {rows : List (List ByteArray)}
theorem StkV.keep (h : StkV w lo hi P d vs) (hk : Kp lo hi w w') : StkV w' lo hi P d vs := ⟨h.1, fun j x hj => by
  obtain ⟨h1, h2, v, h3, h4⟩ := h.2 j x hj
  exact ⟨h1, h2, v, h3, hk.ex h4⟩⟩
theorem StkV.snoc {n : Nd} {i : Nat} {v : Value} (h : StkV w lo hi P d vs) (hs : n.shapedB = true) (hz : n.size ≤ 400) (hX : ExR w (Rng lo hi) P i n v) : StkV w lo hi P (d ++ [(n, i)]) (vs ++ [v]) := by
  refine ⟨by simp [h.1], fun j x hj => ?_⟩
  by_cases hlt : j < d.length
  · rw [List.getElem?_append_left hlt] at hj
    rw [List.getElem?_append_left (by rw [h.1]; exact hlt)]
    exact h.2 j x hj
  · rw [List.getElem?_append_right (by omega)] at hj
    have hj0 : j - d.length = 0 := by
      have := (List.getElem?_eq_some_iff.1 hj).1
      simp at this
      omega
    rw [hj0] at hj
    obtain rfl : (n, i) = x := by simpa using hj
    refine ⟨hs, hz, v, ?_, hX⟩
    rw [List.getElem?_append_right (by rw [h.1]; omega), h.1, hj0]
    rfl
theorem StkV.pop {x : Nd × Nat} (h : StkV w lo hi P (d ++ [x]) vs) : StkV w lo hi P d (vs.take d.length) := by
  have hl := h.1
  rw [List.length_append, List.length_singleton] at hl
  refine ⟨by rw [List.length_take]; omega, fun j y hj => ?_⟩
  have hlt : j < d.length := (List.getElem?_eq_some_iff.1 hj).1
  obtain ⟨h1, h2, v, h3, h4⟩ := h.2 j y (by rw [List.getElem?_append_left hlt]; exact hj)
  exact ⟨h1, h2, v, by rw [List.getElem?_take_of_lt hlt]; exact h3, h4⟩
theorem RowsV.nil (w : World) (h0 : Nat) (bad : Nat → Prop) : RowsV w h0 bad [] [] := ⟨rfl, fun j r hj => by simp at hj⟩
theorem RowsV.keep (h : RowsV w h0 bad rows rvs) (hs : w.heap.size ≤ w'.heap.size) (hk : ∀ b, h0 ≤ b → b < w.heap.size → ¬ bad b → w'.heap[b]? = w.heap[b]?) (hb : ∀ b, b < w.heap.size → bad' b → bad b) : RowsV w' h0 bad' rows rvs :=
  ⟨h.1, fun j r hj => by
    obtain ⟨A, c, h1, h2, h3⟩ := h.2 j r hj
    exact ⟨A, c, h1, h2.keep fun p hp => hk _ (h3 p hp).1 (h3 p hp).2.1 (h3 p hp).2.2, fun p hp => ⟨(h3 p hp).1, Nat.lt_of_lt_of_le (h3 p hp).2.1 hs, fun hbad => (h3 p hp).2.2 (hb _ (h3 p hp).2.1 hbad)⟩⟩⟩
theorem RowsV.snoc {r : List ByteArray} {A : Option Addr} {c : Nat} (h : RowsV w h0 bad rows rvs) (hr : TxAt w A r) (hA : ∀ p, A = some p → h0 ≤ p.block ∧ p.block < w.heap.size ∧ ¬ bad p.block) : RowsV w h0 bad (rows ++ [r]) (rvs ++ [.slice A r.length c]) := by
  refine ⟨by simp [h.1], fun j x hj => ?_⟩
  by_cases hlt : j < rows.length
  · rw [List.getElem?_append_left hlt] at hj
    rw [List.getElem?_append_left (by rw [h.1]; exact hlt)]
    exact h.2 j x hj
  · rw [List.getElem?_append_right (by omega)] at hj
    have hj0 : j - rows.length = 0 := by
      have := (List.getElem?_eq_some_iff.1 hj).1
      simp at this
      omega
    rw [hj0] at hj
    obtain rfl : r = x := by simpa using hj
    refine ⟨A, c, ?_, hr, hA⟩
    rw [List.getElem?_append_right (by rw [h.1]; omega), h.1, hj0]
    rfl
end
theorem ownB_lt {w : World} {base k n g : Nat} {t : TypeId} {v : Value} {xs : List Value} (h : w.ownsRow base k t v n xs) (hg : v.ownBlock = some g) : base ≤ g ∧ g < w.heap.size := own_ge h hg
/-- A slice's length is within its room. -/
def capOk : Value → Prop
  | .slice _ n c => n ≤ c ∧ c ≤ 9223372036854775807
  | _ => True
/-- What the function has kept: out's variable in block ob, its row behind h0; the text in block sb; go: out's own block; gs: the stack's. -/
def SO (W0 : World) (st : ByteArray) (ob sb h0 : Nat) (go gs : Option Nat) (rows : List (List ByteArray)) (w : World) : Prop :=
  Below W0.heap.size W0 w ∧ TokTab W0 ∧ (W0.heap.size ≤ ob ∧ sb ≠ ob ∧ sb < h0 ∧ ob < h0 ∧ h0 ≤ w.heap.size) ∧ Blk w sb 9 #[.string st] ∧
  ∃ A cap rvs, Blk w ob 40 #[.slice A rows.length cap] ∧ w.ownsRow h0 34 1 (.slice A rows.length cap) rows.length rvs ∧ (Value.slice A rows.length cap).ownBlock = go ∧ RowsV w h0 (fun b => go = some b ∨ gs = some b) rows rvs ∧ ∀ u ∈ rvs, capOk u
section
variable {W0 w w' : World} {st : ByteArray} {ob sb h0 : Nat} {go gs gs' : Option Nat} {rows : List (List ByteArray)}
theorem SO.tok (h : SO W0 st ob sb h0 go gs rows w) : TokTab w := h.2.1.below h.1
/-- Blocks that are none of its own may turn. -/
theorem SO.next (h : SO W0 st ob sb h0 go gs rows w) (hos : w'.os = w.os) (htp : w'.tape = w.tape) (hout : w'.output = w.output) (hs : w.heap.size ≤ w'.heap.size) (hk : ∀ b, b < w.heap.size → (b < W0.heap.size ∨ b = ob ∨ b = sb ∨ h0 ≤ b) → gs ≠ some b → w'.heap[b]? = w.heap[b]?)
    (hgs : ∀ g, gs = some g → h0 ≤ g ∧ go ≠ some g) (hgs' : ∀ b, b < w.heap.size → gs' = some b → gs = some b) : SO W0 st ob sb h0 go gs' rows w' := by
  obtain ⟨h1, h2, ⟨h3, h30, h31, h32, h33⟩, h4, A, cap, rvs, h5, h6, h7, h8⟩ := h
  have hsb := h4.lt
  have hob := h5.lt
  have hW := h1.size
  refine ⟨h1.trans ⟨hos, htp, hout, hs, fun b hb => hk b (by omega) (.inl hb) (fun e => by have := hgs b e; omega)⟩, h2, ⟨h3, h30, h31, h32, by omega⟩, h4.keep (hk sb hsb (.inr (.inr (.inl rfl))) (fun e => by have := hgs sb e; omega)), A, cap, rvs, h5.keep (hk ob hob (.inr (.inl rfl)) (fun e => by have := hgs ob e; omega)), ?_, h7, ?_⟩
  · obtain ⟨h60, h61 | ⟨g, c, cur, he, k1, k2, k3⟩⟩ := h6
    · exact ⟨h60, .inl h61⟩
    · have hgo : go = some g := by rw [← h7, he]; rfl
      exact ⟨h60, .inr ⟨g, c, cur, he, k1, (hk g (Array.getElem?_eq_some_iff.1 k2).1 (.inr (.inr (.inr k1))) (fun e => (hgs g e).2 hgo)).trans k2, k3⟩⟩
  · refine ⟨?_, h8.2⟩
    exact h8.1.keep hs (fun b hb1 hb2 hb3 => hk b hb2 (.inr (.inr (.inr hb1))) (fun e => hb3 (.inr e))) (fun b hb hbad => hbad.elim .inl fun e => .inr (hgs' b hb e))
theorem SO.below (h : SO W0 st ob sb h0 go gs rows w) (hb : Below w.heap.size w w') : SO W0 st ob sb h0 go gs rows w' := by
  obtain ⟨h1, h2, ⟨h3, h30, h31, h32, h33⟩, h4, A, cap, rvs, h5, h6, h7, h8⟩ := h
  have hs := hb.size
  exact ⟨h1.trans (hb.mono h1.size), h2, ⟨h3, h30, h31, h32, by omega⟩, h4.below hb h4.lt, A, cap, rvs, h5.below hb h5.lt, own_keep h6 fun g _ hg => hb.block g hg, h7, h8.1.keep hs (fun b _ hb2 _ => hb.block b hb2) (fun _ _ h => h), h8.2⟩
/-- One row more. -/
theorem SO.push {r : List ByteArray} {A2 : Option Addr} {c2 : Nat} {sv v' : Value} {rvs : List Value} (h : SO W0 st ob sb h0 go gs rows w) (hsv : Blk w ob 40 #[sv])
    (hrv : w.ownsRow h0 34 1 sv rows.length rvs) (hown : w'.ownsRow h0 34 1 v' (rows.length + 1) (rvs ++ [.slice A2 r.length c2])) (hg : w.grownBy w' sv.ownBlock) (hloc : v'.ownBlock = sv.ownBlock ∨ ∃ g, v'.ownBlock = some g ∧ w.heap.size ≤ g)
    (hcap : r.length ≤ c2 ∧ c2 ≤ 9223372036854775807) (hr : TxAt w A2 r) (hA2 : ∀ p, A2 = some p → h0 ≤ p.block ∧ p.block < w.heap.size ∧ ¬ (go = some p.block ∨ gs = some p.block)) :
    ∃ go', SO W0 st ob sb h0 go' gs (rows ++ [r]) (w'.setCell ⟨ob, 0, none⟩ v') ∧ (go' = go ∨ ∃ g, go' = some g ∧ w.heap.size ≤ g) ∧ w.heap.size ≤ (w'.setCell ⟨ob, 0, none⟩ v').heap.size ∧ ∀ b, b < w.heap.size → b ≠ ob → go ≠ some b → (w'.setCell ⟨ob, 0, none⟩ v').heap[b]? = w.heap[b]? := by
  obtain ⟨h1, h2, ⟨h3, h30, h31, h32, h33⟩, h4, A, cap, rvs0, h5, h6, h7, h8⟩ := h
  have he : some (Obj.cells #[Value.slice A rows.length cap] 40 (0, 0)) = some (.cells #[sv] 40 (0, 0)) := h5.symm.trans hsv
  obtain rfl : sv = .slice A rows.length cap := by
    have := Option.some.inj he
    simp only [Obj.cells.injEq] at this
    simpa using this.1.symm
  have hs := hg.size
  have hsb := h4.lt
  have hob := h5.lt
  have hgo : ∀ g, go = some g → h0 ≤ g := fun g hg' => (own_ge h6 (h7.trans hg')).1
  have hk : ∀ b, b < w.heap.size → b ≠ ob → go ≠ some b → (w'.setCell ⟨ob, 0, none⟩ v').heap[b]? = w.heap[b]? := fun b hb hb1 hb2 =>
    (Below.heap_setCell w' _ _ b hb1).trans (hg.block b hb (fun e => hb2 (h7.symm.trans e.symm)))
  obtain rfl : rvs0 = rvs := by
    obtain ⟨h60, ⟨h61, h62⟩ | ⟨g, c, cur, h63, k1, k2, k3, k4, k5, k6⟩⟩ := h6
    · obtain ⟨g60, ⟨g61, g62⟩ | ⟨g', c', cur', g63, _⟩⟩ := hrv
      · rw [h62] at h60 g60
        have e1 : rvs0 = [] := List.length_eq_zero_iff.1 (by simpa using h60)
        have e2 : rvs = [] := List.length_eq_zero_iff.1 (by simpa using g60)
        rw [e1, e2]
      · rw [h61] at g63
        cases g63
    · obtain ⟨g60, ⟨g61, g62⟩ | ⟨g', c', cur', g63, q1, q2, q3, q4, q5, q6⟩⟩ := hrv
      · rw [h63] at g61
        cases g61
      · rw [h63] at g63
        cases g63
        have h := k2.symm.trans q2
        have h := Option.some.inj h
        simp only [Obj.cells.injEq] at h
        rw [← k6, ← q6, h.1]
  obtain ⟨A', cap', rfl⟩ := own_len hown
  have hlen : (rows ++ [r]).length = rows.length + 1 := by simp
  have hsz : (w'.setCell ⟨ob, 0, none⟩ (.slice A' (rows.length + 1) cap')).heap.size = w'.heap.size := by simp [World.setCell]
  have hblk : Blk w' ob 40 #[.slice A rows.length cap] := h5.keep (hg.block ob hob (fun e => by have := hgo ob (h7.symm.trans e.symm); omega))
  have hrow' : (w'.setCell ⟨ob, 0, none⟩ (.slice A' (rows.length + 1) cap')).ownsRow h0 34 1 (.slice A' (rows.length + 1) cap') (rows.length + 1) (rvs0 ++ [.slice A2 r.length c2]) := by
    obtain ⟨g0, ⟨g1, g2⟩ | ⟨g, c, cur, g1, k1, k2, k3⟩⟩ := hown
    · omega
    · exact ⟨g0, .inr ⟨g, c, cur, g1, k1, (Below.heap_setCell _ _ _ _ (by show g ≠ ob; omega)).trans k2, k3⟩⟩
  refine ⟨(Value.slice A' (rows.length + 1) cap').ownBlock, ⟨h1.trans ⟨?_, ?_, ?_, by omega, fun b hb => hk b (by have := h1.size; omega) (by omega) (fun e => by have := hgo b e; have := h1.size; omega)⟩, h2, ⟨h3, h30, h31, h32, by omega⟩, h4.keep (hk sb hsb h30 (fun e => by have := hgo sb e; omega)), A', cap', rvs0 ++ [.slice A2 r.length c2], ?_, ?_, ?_, ?_⟩, ?_, by omega, hk⟩
  · exact hg.os
  · exact hg.tape
  · exact hg.output
  · rw [hlen]
    exact hblk.set_ 0 (.slice A' (rows.length + 1) cap')
  · rw [hlen]
    exact hrow'
  · rw [hlen]
  · refine ⟨?_, fun u hu => (List.mem_append.1 hu).elim (h8.2 u) fun h => by rw [List.mem_singleton.1 h]; exact hcap⟩
    refine RowsV.keep (h8.1.snoc (c := c2) hr hA2) (by omega) (fun b hb1 hb2 hb3 => hk b hb2 (by omega) (fun e => hb3 (.inl e))) (fun b hb hbad => ?_)
    rcases hbad with hbad | hbad
    · rcases hloc with hl | ⟨g, hl, hgl⟩
      · exact .inl (h7.symm.trans (hl.symm.trans hbad))
      · rw [hl] at hbad
        cases hbad
        omega
    · exact .inr hbad
  · rcases hloc with hl | ⟨g, hl, hgl⟩
    · exact .inl (hl.trans h7)
    · exact .inr ⟨g, hl, hgl⟩
end
end Go.Proofs.YtlpnepgljdhpkaaGreatFmt
