/-
  impl.visitor: its Visit as a rule for Walk.
-/
import Derived.Test.YtjbhjbpamnoebaaGreatFmtK8
import Derived.Test.YtjbhjbpamnoebaaGreatFmtK16
import Derived.Deep.AppendLies
import Derived.Deep.RegionLaw
import Derived.StillTailTactics
namespace Go.Proofs.YtjbhjbpamnoebaaGreatFmt
open Go.RowKit

theorem infoS : (Tryz.prog.info? 29).map (fun i => (i.zero, i.size, i.bytes)) = some (some (.agg #[.string ⟨#[]⟩, .int .i64 0, .int .i64 0]), 3, 32) := by kernel_rfl
theorem underS : Tryz.prog.underlying 27 = some (.slice 29) := by kernel_rfl

/-- The cells of a visit. -/
def evCells (e : ByteArray × Nat) : List Value := [.string e.1, .int .i64 e.2, .int .i64 e.2]
def flatE (l : List (ByteArray × Nat)) : List Value := l.flatMap evCells
theorem flatE_append (a b : List (ByteArray × Nat)) : flatE (a ++ b) = flatE a ++ flatE b := by simp [flatE]
/-- What the visitor has kept: in the variable in block ob, its row behind hi. -/
def OutS (W0 : World) (ob lo hi : Nat) (out : List (ByteArray × Nat)) (w : World) : Prop :=
  Below W0.heap.size W0 w ∧ TokTab W0 ∧ W0.heap.size ≤ ob ∧ ob < lo ∧ lo ≤ hi ∧ hi ≤ w.heap.size ∧ ∃ A cap, Blk w ob 27 #[.slice A out.length cap] ∧ w.ownsRow hi 29 3 (.slice A out.length cap) out.length (flatE out)
section
variable {W0 w w' w3 : World} {ob lo hi : Nat} {out : List (ByteArray × Nat)}
theorem OutS.next (h : OutS W0 ob lo hi out w) (hb : Below w.heap.size w w') : OutS W0 ob lo hi out w' := by
  obtain ⟨h1, h2, h3, h4, h5, h6, A, cap, h7, h8⟩ := h
  have hs := hb.size
  exact ⟨h1.trans (hb.mono h1.size), h2, h3, h4, h5, by omega, A, cap, h7.below hb h7.lt, own_keep h8 fun g _ hg => hb.block g hg⟩
theorem OutS.tok (h : OutS W0 ob lo hi out w) : TokTab w := h.2.1.below h.1
theorem OutS.push (h : OutS W0 ob lo hi out w) {v' : Value} {x : ByteArray × Nat} {sv : Value} (hsv : Blk w ob 27 #[sv])
    (hown : w'.ownsRow hi 29 3 v' (out.length + 1) (flatE out ++ evCells x)) (hg : w.grownBy w' sv.ownBlock) : OutS W0 ob lo hi (out ++ [x]) (w'.setCell ⟨ob, 0, none⟩ v') ∧ Kp lo hi w (w'.setCell ⟨ob, 0, none⟩ v') := by
  obtain ⟨h1, h2, h3, h4, h5, h6, A, cap, h7, h8⟩ := h
  have he : some (Obj.cells #[Value.slice A out.length cap] 27 (0, 0)) = some (.cells #[sv] 27 (0, 0)) := h7.symm.trans hsv
  obtain rfl : sv = .slice A out.length cap := by
    have := Option.some.inj he
    simp only [Obj.cells.injEq] at this
    simpa using this.1.symm
  have hs := hg.size
  have hrow : ∀ g, (Value.slice A out.length cap).ownBlock = some g → hi ≤ g ∧ g < w.heap.size := fun g hg' => own_ge h8 hg'
  have hkeep : ∀ b, b < hi → w'.heap[b]? = w.heap[b]? := fun b hb => hg.block b (by omega) (fun e => by have := (hrow b e.symm).1; omega)
  have hbw : Below W0.heap.size W0 w' := h1.trans ⟨hg.os, hg.tape, hg.output, hg.size, fun b hb => hkeep b (by omega)⟩
  obtain ⟨A', cap', rfl⟩ : ∃ A' cap', v' = .slice A' (out.length + 1) cap' := by
    obtain ⟨_, ⟨rfl, hn⟩ | ⟨g, c, cur, rfl, _⟩⟩ := hown
    · omega
    · exact ⟨_, c, rfl⟩
  have hblk' : Blk w' ob 27 #[.slice A out.length cap] := h7.keep (hkeep ob (by omega))
  have hlen : (out ++ [x]).length = out.length + 1 := by simp
  refine ⟨⟨hbw.setCell h3 _, h2, h3, h4, h5, by simp [World.setCell]; omega, A', cap', ?_, ?_⟩, by simp [World.setCell]; omega, fun b hb1 hb2 => ?_⟩
  · rw [hlen]
    exact hblk'.set_ 0 (.slice A' (out.length + 1) cap')
  · rw [hlen, flatE_append]
    obtain ⟨h0, ⟨he', hn⟩ | ⟨g, c, cur, he', k1, k2, k3⟩⟩ := hown
    · omega
    · refine ⟨by simpa [flatE] using h0, .inr ⟨g, c, cur, he', k1, (Below.heap_setCell _ _ _ _ (by show g ≠ ob; omega)).trans k2, by simpa [flatE] using k3⟩⟩
  · rw [Below.heap_setCell _ _ _ _ (by show b ≠ ob; omega)]
    exact hkeep b hb2
end

/-- append of one visit, at a step of a region. -/
theorem step_append_ev {w : World} {ops : Array Oper} {o : Oper} {a : Act} {K : Act → World → Prop} {Q : Exit → Act → World → Prop} {F : Prop} (hgd : o.guard = none) (s x : Operand)
    (ho : o.op = .call { callee := .builtin .append, args := #[s, x], argTypes := #[27, 27] })
    {base g n : Nat} {sv : Value} {xs : List Value} {e : ByteArray × Nat} (hs : a.eval s = sv) (hx : a.eval x = .slice (some ⟨g, 0, none⟩) 1 1) (hown : w.ownsRow base 29 3 sv n xs) (hb : base ≤ w.heap.size) (hn : n ≤ 5000)
    (hblk : Blk w g 29 #[.string e.1, .int .i64 e.2, .int .i64 e.2])
    (h : ∀ v' w', w'.ownsRow base 29 3 v' (n + 1) (xs ++ evCells e) → w.grownBy w' sv.ownBlock → K (a.put o.dst v') w') :
    if Region.wanted o (yielded ops a.tmps) = true then Oper.wp Tryz.prog o a w K Q else F := by
  have hw : Region.wanted o (yielded ops a.tmps) = true := by simp [Region.wanted, hgd]
  rw [if_pos hw]
  obtain ⟨i0, hi, hz0, hz1, hz2⟩ := info_parts infoS
  obtain ⟨v', w', hr, r2, r3, r4, r5⟩ := run_append_own_at (P := Tryz.prog) w base 27 o.type 29 i0 (.agg #[.string ⟨#[]⟩, .int .i64 0, .int .i64 0]) 3 32 underS hi hz0 hz1 hz2 rfl (by decide) sv n xs hown ⟨g, 0, none⟩ 1 1 (evCells e) rfl (World.news_of_block hblk) (by intro u hu; simp [evCells] at hu; rcases hu with rfl | rfl | rfl <;> rfl) (by unfold maxLen; omega) (by omega) hb
  unfold Oper.wp execOp
  simp only [ho, resolve, invoke, builtin, Sem.run_bind, Sem.run_pure, Result.andThen_ok, List.map_toArray, List.map_cons, List.map_nil, hs, hx, hr]
  exact h v' w' r2 r3

theorem Below.alN (w : World) (o : Obj) : Below w.heap.size w (w.alloc o) := (Below.refl _ _).alloc (Nat.le_refl _) _
theorem Blk.v0 {w : World} {g : Nat} {t : TypeId} {a b c : Value} (h : Blk w g t #[a, b, c]) : w.cell? ⟨g, 0, none⟩ = some a := h.cell 0
theorem Blk.v1 {w : World} {g : Nat} {t : TypeId} {a b c : Value} (h : Blk w g t #[a, b, c]) : w.cell? ⟨g, 1, none⟩ = some b := h.cell 1
theorem Blk.v2 {w : World} {g : Nat} {t : TypeId} {a b c : Value} (h : Blk w g t #[a, b, c]) : w.cell? ⟨g, 2, none⟩ = some c := h.cell 2
theorem blk_nw (w : World) (t : TypeId) (cs : Array Value) : Blk (w.alloc (.cells cs t)).drew w.heap.size t cs := Blk.new w t cs
theorem own_form {w : World} {base k n : Nat} {t : TypeId} {v : Value} {xs : List Value} (h : w.ownsRow base t k v n xs) : ∃ A c, v = .slice A n c := by
  obtain ⟨_, ⟨rfl, hn⟩ | ⟨g, c, cur, rfl, _⟩⟩ := h
  · exact ⟨none, 0, by rw [hn]⟩
  · exact ⟨_, c, rfl⟩
theorem ap_far2 {w w' : World} {g : Nat} {sv : Value} {o : Obj} (hg : (w.alloc o).grownBy w' sv.ownBlock) (hb : ∀ k, sv.ownBlock = some k → k ≠ g) (hlt : g < w.heap.size) : w'.heap[g]? = w.heap[g]? :=
  (hg.block g (by rw [World.size_alloc]; omega) (fun e => hb g e.symm rfl)).trans (Below.heap_alloc w o g hlt)
theorem ap_far {w w' : World} {g : Nat} {sv : Value} {o : Obj} (hg : (w.alloc o).drew.grownBy w' sv.ownBlock) (hb : ∀ k, sv.ownBlock = some k → k ≠ g) (hlt : g < w.heap.size) : w'.heap[g]? = w.heap[g]? :=
  (hg.block g (by show g < (w.alloc o).heap.size; rw [World.size_alloc]; omega) (fun e => hb g e.symm rfl)).trans (Below.heap_alloc w o g hlt)
set_option maxHeartbeats 4000000 in
set_option maxRecDepth 100000 in
theorem Visit_node (P : Nat → Int) (st : ByteArray) (W0 : World) (ob lo hi d : Nat) (out : List (ByteArray × Nat)) (W : World) (i : Nat) (n : Nd) (v : Value) (hN : NOf P n) (hbd : d ≤ out.length ∧ out.length < 5000) (ho : OutS W0 ob lo hi out W) (hX : ExR W (Rng lo hi) P i n v) :
    Calls Tryz.prog 96 #[.agg #[.int .i64 d, .string st, .pointer (some ⟨ob, 0, none⟩)], v] W fun e w' =>
      e = .returned (if (n.kd.toList == st.toList) = true then .nilIface else .iface 42 (.agg #[.int .i64 ((d + 1 : Nat) : Int), .string st, .pointer (some ⟨ob, 0, none⟩)])) ∧ OutS W0 ob lo hi (out ++ [(n.kd, d)]) w' ∧ Kp lo hi W w' := by
  obtain ⟨q, c, rfl⟩ := hX.form
  have HN := Lib.hid hN
  have H0 := Lib.hid (And.intro ho hX)
  have hd0 : (d : Int) < 5000 := by omega
  clear hN ho hX
  go_enter Tryz.func96, Tryz.ntmps96
  go_wp2_with fail
  have hbox : Blk (W.alloc (.cells #[.int .i64 d, .string st, .pointer (some ⟨ob, 0, none⟩)] 42)) W.heap.size 42 #[.int .i64 d, .string st, .pointer (some ⟨ob, 0, none⟩)] := Blk.new _ _ _
  have hs1 : (W.alloc (.cells #[.int .i64 d, .string st, .pointer (some ⟨ob, 0, none⟩)] 42)).heap.size = W.heap.size + 1 := World.size_alloc _ _
  have HO1 := Lib.hid (H0.out.1.next (Below.alN W (.cells #[.int .i64 d, .string st, .pointer (some ⟨ob, 0, none⟩)] 42)))
  refine (kindOf_any P n HN.out _ lo hi i _ HO1.out.tok HO1.out.2.2.2.2.2.1 (H0.out.2.allocR H0.out.1.2.2.2.2.2.1 _)).mono ?_
  rintro e w1 ⟨rfl, hb1⟩
  have hz1 := hb1.size
  rw [hs1] at hz1
  have HO2 := Lib.hid (HO1.out.next hb1)
  have X1 := Lib.hid (hbox.below hb1 (by rw [hs1]; omega))
  have HB1 := Lib.hid ((Below.alN W (.cells #[.int .i64 d, .string st, .pointer (some ⟨ob, 0, none⟩)] 42)).trans (hb1.mono (by rw [hs1]; omega)))
  clear hb1 hbox
  obtain ⟨_, _, ho1, ho2, ho3, ho4, A, cap, hob0, hown0⟩ := H0.out.1
  have hrw : ∀ k, (Value.slice A out.length cap).ownBlock = some k → k < W.heap.size := fun k hk => (own_ge hown0 hk).2
  have hob : Blk w1 ob 27 #[.slice A out.length cap] := hob0.keep ((HB1.out.block ob hob0.lt))
  have hown : w1.ownsRow hi 29 3 (.slice A out.length cap) out.length (flatE out) := own_keep hown0 (fun g _ hg => HB1.out.block g hg)
  clear hob0 hown0
  have hall : OutS W0 ob lo hi out w1.drew ∧ Blk w1.drew W.heap.size 42 #[.int .i64 d, .string st, .pointer (some ⟨ob, 0, none⟩)] ∧ Blk w1.drew ob 27 #[.slice A out.length cap] ∧ w1.drew.ownsRow hi 29 3 (.slice A out.length cap) out.length (flatE out) ∧ Below W.heap.size W w1.drew ∧ W.heap.size < w1.drew.heap.size :=
    ⟨HO2.out.next (Below.refl _ w1).drew, X1.out.drew, hob.drew, hown, HB1.out.drew, hz1⟩
  have HALL := Lib.hid hall
  have hoblt : ob < W.heap.size := by have := H0.out.1.2.2.2.2.2.1; omega
  have k0 := X1.out.v0
  have k1 := X1.out.v1
  have k2 := X1.out.v2
  have y0 : w1.cell? ⟨ob, 0, none⟩ = some (.slice A out.length cap) := hob.cell 0
  have y1 := hob.frozen 0
  clear hob hown hall
  go_wp2_with fail
  refine wp_region_held_drew (S := fun w => w.cell? ⟨W.heap.size, 0, none⟩ = some (.int .i64 d) ∧ w.cell? ⟨W.heap.size, 1, none⟩ = some (.string st) ∧ w.cell? ⟨W.heap.size, 2, none⟩ = some (.pointer (some ⟨ob, 0, none⟩))) (by kernel_rfl) ⟨k0, k1, k2⟩ (fun hHeld => ?_)
  clear k0 k1 k2 y0 y1 X1 HO2 HB1 hz1
  generalize w1.drew = w2 at HALL hHeld ⊢
  refine wpAnyH_take (i := 0) (oi := { dst := some 8, op := Op.fieldAddr 42 (Operand.tmp 2) 2, type := 0, pos := "tree.go:209", after := #[], guard := none }) (v := ?v0) rfl (by kernel_rfl) (by kernel_rfl) (by kernel_rfl) (fun _ _ _ h => h) (Or.inl ⟨by rfl, ?y0⟩) hHeld ?r0
  case y0 => (intro w hSw; (try dsimp only at hSw); go_simp; (try with_reducible rfl))
  (try simp only [Act.put, List.setIfInBounds_toArray, List.set_cons_zero, List.set_cons_succ])
  refine wpAnyH_take (i := 1) (oi := { dst := some 9, op := Op.load 40 (Operand.tmp 8), type := 40, pos := "tree.go:209", after := #[{ on := 0, ground := Ground.data }], guard := none }) (v := ?v1) rfl (by kernel_rfl) (by kernel_rfl) (by kernel_rfl) (fun _ _ _ h => h) (Or.inl ⟨by rfl, ?y1⟩) hHeld ?r1
  case y1 => (intro w hSw; (try dsimp only at hSw); go_simp; (try with_reducible rfl))
  (try simp only [Act.put, List.setIfInBounds_toArray, List.set_cons_zero, List.set_cons_succ])
  refine wpAnyH_take (i := 2) (oi := { dst := some 10, op := Op.fieldAddr 42 (Operand.tmp 2) 2, type := 0, pos := "tree.go:209", after := #[], guard := none }) (v := ?v2) rfl (by kernel_rfl) (by kernel_rfl) (by kernel_rfl) (fun _ _ _ h => h) (Or.inl ⟨by rfl, ?y2⟩) hHeld ?r2
  case y2 => (intro w hSw; (try dsimp only at hSw); go_simp; (try with_reducible rfl))
  (try simp only [Act.put, List.setIfInBounds_toArray, List.set_cons_zero, List.set_cons_succ])
  refine wpAnyH_take (i := 3) (oi := { dst := some 11, op := Op.load 40 (Operand.tmp 10), type := 40, pos := "tree.go:209", after := #[{ on := 2, ground := Ground.data }], guard := none }) (v := ?v3) rfl (by kernel_rfl) (by kernel_rfl) (by kernel_rfl) (fun _ _ _ h => h) (Or.inl ⟨by rfl, ?y3⟩) hHeld ?r3
  case y3 => (intro w hSw; (try dsimp only at hSw); go_simp; (try with_reducible rfl))
  (try simp only [Act.put, List.setIfInBounds_toArray, List.set_cons_zero, List.set_cons_succ])
  refine wpAnyH_take (i := 4) (oi := { dst := some 12, op := Op.nilCheck (Operand.tmp 11), type := 0, pos := "tree.go:209", after := #[{ on := 3, ground := Ground.data }], guard := none }) (v := ?v4) rfl (by kernel_rfl) (by kernel_rfl) (by kernel_rfl) (fun _ _ _ h => h) (Or.inl ⟨by rfl, ?y4⟩) hHeld ?r4
  case y4 => (intro w hSw; (try dsimp only at hSw); go_simp; (try with_reducible rfl))
  (try simp only [Act.put, List.setIfInBounds_toArray, List.set_cons_zero, List.set_cons_succ])
  refine wpAnyH_take (i := 6) (oi := { dst := some 14, op := Op.move (Operand.tmp 5), type := 9, pos := "tree.go:209", after := #[], guard := none }) (v := ?v6) rfl (by kernel_rfl) (by kernel_rfl) (by kernel_rfl) (fun _ _ _ h => h) (Or.inl ⟨by rfl, ?y6⟩) hHeld ?r6
  case y6 => (intro w hSw; (try dsimp only at hSw); go_simp; (try with_reducible rfl))
  (try simp only [Act.put, List.setIfInBounds_toArray, List.set_cons_zero, List.set_cons_succ])
  refine wpAnyH_take (i := 7) (oi := { dst := some 15, op := Op.fieldAddr 42 (Operand.tmp 2) 0, type := 0, pos := "tree.go:209", after := #[], guard := none }) (v := ?v7) rfl (by kernel_rfl) (by kernel_rfl) (by kernel_rfl) (fun _ _ _ h => h) (Or.inl ⟨by rfl, ?y7⟩) hHeld ?r7
  case y7 => (intro w hSw; (try dsimp only at hSw); go_simp; (try with_reducible rfl))
  (try simp only [Act.put, List.setIfInBounds_toArray, List.set_cons_zero, List.set_cons_succ])
  refine wpAnyH_take (i := 8) (oi := { dst := some 16, op := Op.load 3 (Operand.tmp 15), type := 3, pos := "tree.go:209", after := #[{ on := 7, ground := Ground.data }], guard := none }) (v := ?v8) rfl (by kernel_rfl) (by kernel_rfl) (by kernel_rfl) (fun _ _ _ h => h) (Or.inl ⟨by rfl, ?y8⟩) hHeld ?r8
  case y8 => (intro w hSw; (try dsimp only at hSw); go_simp; (try with_reducible rfl))
  (try simp only [Act.put, List.setIfInBounds_toArray, List.set_cons_zero, List.set_cons_succ])
  refine wpAnyH_take (i := 9) (oi := { dst := some 17, op := Op.fieldAddr 42 (Operand.tmp 2) 0, type := 0, pos := "tree.go:209", after := #[], guard := none }) (v := ?v9) rfl (by kernel_rfl) (by kernel_rfl) (by kernel_rfl) (fun _ _ _ h => h) (Or.inl ⟨by rfl, ?y9⟩) hHeld ?r9
  case y9 => (intro w hSw; (try dsimp only at hSw); go_simp; (try with_reducible rfl))
  (try simp only [Act.put, List.setIfInBounds_toArray, List.set_cons_zero, List.set_cons_succ])
  refine wpAnyH_take (i := 10) (oi := { dst := some 18, op := Op.load 3 (Operand.tmp 17), type := 3, pos := "tree.go:209", after := #[{ on := 9, ground := Ground.data }], guard := none }) (v := ?v10) rfl (by kernel_rfl) (by kernel_rfl) (by kernel_rfl) (fun _ _ _ h => h) (Or.inl ⟨by rfl, ?y10⟩) hHeld ?r10
  case y10 => (intro w hSw; (try dsimp only at hSw); go_simp; (try with_reducible rfl))
  (try simp only [Act.put, List.setIfInBounds_toArray, List.set_cons_zero, List.set_cons_succ])
  refine wpAnyH_take (i := 11) (oi := { dst := some 19, op := Op.build 29 #[(0, Operand.tmp 14), (1, Operand.tmp 16), (2, Operand.tmp 18)], type := 29, pos := "tree.go:209", after := #[{ on := 6, ground := Ground.data }, { on := 8, ground := Ground.data }, { on := 10, ground := Ground.data }], guard := none }) (v := ?v11) rfl (by kernel_rfl) (by kernel_rfl) (by kernel_rfl) (fun _ _ _ h => h) (Or.inl ⟨by rfl, ?y11⟩) hHeld ?r11
  case y11 => (intro w hSw; (try dsimp only at hSw); go_simp; (try with_reducible rfl))
  (try simp only [Act.put, List.setIfInBounds_toArray, List.set_cons_zero, List.set_cons_succ])
  obtain ⟨q1, q2, q3, q4, q5, q6⟩ := HALL.out
  have Q1 := Lib.hid q1
  have X2 := Lib.hid q2
  have Q3 := Lib.hid q3
  have Q4 := Lib.hid q4
  have Q5 := Lib.hid q5
  have y0 : w2.cell? ⟨ob, 0, none⟩ = some (.slice A out.length cap) := q3.cell 0
  have y1 := q3.frozen 0
  have q7 : ob < w2.heap.size := by omega
  clear q1 q2 q3 q4 q5 HALL
  refine wpAnyH_ready (rs := [5, 12]) (by kernel_rfl) (by simp) ?_
  refine AllReadyH.cons (o := { dst := some 13, op := Op.load 27 (Operand.tmp 12), type := 27, pos := "tree.go:209", after := #[{ on := 4, ground := Ground.data }], guard := none }) rfl (fun K hK => ?g1) (AllReadyH.cons (o := { dst := some 20, op := Op.buildSlice 27 1 #[(0, Operand.tmp 19)], type := 27, pos := "tree.go:209", after := #[{ on := 11, ground := Ground.data }], guard := none }) rfl (fun K hK => ?g2) AllReadyH.nil)
  case' g1 =>
    go_simp
    refine hK.out _ _ hHeld (fun hHeld2 => ?_)
    clear hK K hHeld2
    (try simp only [Act.put, List.setIfInBounds_toArray, List.set_cons_zero, List.set_cons_succ])
    refine wpAnyH_ready (rs := [12]) (by kernel_rfl) (by simp) (AllReadyH.cons (o := { dst := some 20, op := Op.buildSlice 27 1 #[(0, Operand.tmp 19)], type := 27, pos := "tree.go:209", after := #[{ on := 11, ground := Ground.data }], guard := none }) rfl (fun K hK => ?_) AllReadyH.nil)
    go_simp
    refine hK.out _ _ ⟨(X2.out.alloc (.cells #[.string n.kd, .int .i64 d, .int .i64 d] 29)).v0, (X2.out.alloc (.cells #[.string n.kd, .int .i64 d, .int .i64 d] 29)).v1, (X2.out.alloc (.cells #[.string n.kd, .int .i64 d, .int .i64 d] 29)).v2⟩ (fun hHeld2 => ?_)
    clear hK K hHeld2
    (try simp only [Act.put, List.setIfInBounds_toArray, List.set_cons_zero, List.set_cons_succ])
  case' g2 =>
    go_simp
    refine hK.out _ _ ⟨(X2.out.alloc (.cells #[.string n.kd, .int .i64 d, .int .i64 d] 29)).v0, (X2.out.alloc (.cells #[.string n.kd, .int .i64 d, .int .i64 d] 29)).v1, (X2.out.alloc (.cells #[.string n.kd, .int .i64 d, .int .i64 d] 29)).v2⟩ (fun hHeld2 => ?_)
    clear hK K hHeld2
    (try simp only [Act.put, List.setIfInBounds_toArray, List.set_cons_zero, List.set_cons_succ])
    refine wpAnyH_ready (rs := [5]) (by kernel_rfl) (by simp) (AllReadyH.cons (o := { dst := some 13, op := Op.load 27 (Operand.tmp 12), type := 27, pos := "tree.go:209", after := #[{ on := 4, ground := Ground.data }], guard := none }) rfl (fun K hK => ?_) AllReadyH.nil)
    go_simp
    refine hK.out _ _ ⟨(X2.out.alloc (.cells #[.string n.kd, .int .i64 d, .int .i64 d] 29)).v0, (X2.out.alloc (.cells #[.string n.kd, .int .i64 d, .int .i64 d] 29)).v1, (X2.out.alloc (.cells #[.string n.kd, .int .i64 d, .int .i64 d] 29)).v2⟩ (fun hHeld2 => ?_)
    clear hK K hHeld2
    (try simp only [Act.put, List.setIfInBounds_toArray, List.set_cons_zero, List.set_cons_succ])
  all_goals (
    refine wpAnyH_ready (rs := [13]) (by kernel_rfl) (by simp) (AllReadyH.cons (o := { dst := some 21, op := Op.call { callee := Callee.builtin Builtin.append, args := #[Operand.tmp 13, Operand.tmp 20], argTypes := #[27, 27] }, type := 27, pos := "tree.go:209", after := #[{ on := 5, ground := Ground.data }, { on := 12, ground := Ground.data }], guard := none }) rfl (fun K hK => ?_) AllReadyH.nil)
    refine step_append_ev (e := (n.kd, d)) rfl (Operand.tmp 13) (Operand.tmp 20) rfl rfl rfl (own_keep Q4.out (fun g _ hg => Below.heap_alloc w2 _ g hg)) (by rw [World.size_alloc]; omega) (by omega) (Blk.new w2 _ _) ?_
    intro v3 w3 hown hgr
    obtain ⟨A3, c3, rfl⟩ := own_form hown
    have z0 : w3.cell? ⟨ob, 0, none⟩ = some (.slice A out.length cap) := (Q3.out.keep (ap_far2 hgr (fun k hk => by have := own_ge Q4.out hk; omega) (by omega))).cell 0
    have z1 := (Q3.out.keep (ap_far2 hgr (fun k hk => by have := own_ge Q4.out hk; omega) (by omega))).frozen 0
    have X3 := Lib.hid (X2.out.keep (ap_far2 hgr (fun k hk => by have := hrw k hk; omega) (by omega)))
    have PU := Lib.hid (Q1.out.push (x := (n.kd, d)) Q3.out hown (grown_trans (World.grownBy_alloc w2 _ _) hgr))
    refine hK.out _ _ ⟨X3.out.v0, X3.out.v1, X3.out.v2⟩ (fun hHeld2 => ?_)
    clear hK K hown hgr hHeld2
    (try simp only [Act.put, List.setIfInBounds_toArray, List.set_cons_zero, List.set_cons_succ])
    refine wpAnyH_ready (rs := [14]) (by kernel_rfl) (by simp) (AllReadyH.cons rfl (fun K hK => ?_) AllReadyH.nil)
    go_simp
    refine hK.out _ _ ⟨X3.out.v0, X3.out.v1, X3.out.v2⟩ (fun hHeld2 => ?_)
    clear hK K hHeld2
    (try simp only [Act.put, List.setIfInBounds_toArray, List.set_cons_zero, List.set_cons_succ])
    refine wpAnyH_ready (rs := [15]) (by kernel_rfl) (by simp) (AllReadyH.cons rfl (fun K hK => ?_) AllReadyH.nil)
    go_simp
    have X4 := Lib.hid (X3.out.far (p := ⟨ob, 0, none⟩) (show W.heap.size ≠ ob by omega) (.slice A3 (out.length + 1) c3))
    refine hK.out _ _ ⟨X4.out.v0, X4.out.v1, X4.out.v2⟩ (fun hHeld2 => ?_)
    clear hK K hHeld2 z0 z1 X3
    (try simp only [Act.put, List.setIfInBounds_toArray, List.set_cons_zero, List.set_cons_succ])
    refine wpAnyH_done (by kernel_rfl) ?_ _
    have hkp : Kp lo hi W w2 := ⟨Q5.out.size, fun b h1 h2 => Q5.out.block b (by omega)⟩
    generalize (w3.setCell ⟨ob, 0, none⟩ (.slice A3 (out.length + 1) c3)) = w4 at PU X4 ⊢
    have u0 := X4.out.v0
    have u1 := X4.out.v1
    have u2 := X4.out.v2
    clear X4
    cases hst : (n.kd.toList == st.toList)
    all_goals (go_wp2_with fail)
    all_goals first
      | (exfalso; rw [hst] at h; cases h; done)
      | (go_ret; exact ⟨rfl, PU.out.1, hkp.trans PU.out.2⟩))
end Go.Proofs.YtjbhjbpamnoebaaGreatFmt
