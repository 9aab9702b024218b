/-
  impl.visitor: its Visit of nil; the visitor as a rule for Walk.
-/
import Derived.Test.YtlpnepgljdhpkaaGreatFmtWc
namespace Go.Proofs.YtlpnepgljdhpkaaGreatFmt
open Go.RowKit

set_option maxHeartbeats 4000000 in
set_option maxRecDepth 100000 in
theorem Visit_nil (st : ByteArray) (W0 : World) (ob lo hi d : Nat) (out : List (ByteArray × Nat)) (W : World) (hbd : d ≤ out.length ∧ out.length < 5000) (ho : OutS W0 ob lo hi out W) :
    Calls Tryz.prog 94 #[.agg #[.int .i64 d, .string st, .pointer (some ⟨ob, 0, none⟩)], .nilIface] W fun e w' =>
      (∃ r, e = .returned r) ∧ OutS W0 ob lo hi (out ++ [((⟨#[]⟩ : ByteArray), d)]) w' ∧ Kp lo hi W w' := by
  have H0 := Lib.hid (And.intro ho trivial)
  have hd0 : (d : Int) < 5000 := by omega
  clear ho
  go_enter Tryz.func94, Tryz.ntmps94
  go_wp2_with fail
  have hbox : Blk (W.alloc (.cells #[.int .i64 d, .string st, .pointer (some ⟨ob, 0, none⟩)] 46)) W.heap.size 46 #[.int .i64 d, .string st, .pointer (some ⟨ob, 0, none⟩)] := Blk.new _ _ _
  have hs1 : (W.alloc (.cells #[.int .i64 d, .string st, .pointer (some ⟨ob, 0, none⟩)] 46)).heap.size = W.heap.size + 1 := World.size_alloc _ _
  have HO1 := Lib.hid (H0.out.1.next (Below.alN W (.cells #[.int .i64 d, .string st, .pointer (some ⟨ob, 0, none⟩)] 46)))
  refine (kindOf_nil _).mono ?_
  rintro e w1 ⟨rfl, hb0⟩
  have hb1 : Below (W.alloc (.cells #[.int .i64 d, .string st, .pointer (some ⟨ob, 0, none⟩)] 46)).heap.size (W.alloc (.cells #[.int .i64 d, .string st, .pointer (some ⟨ob, 0, none⟩)] 46)) w1 := hb0 ▸ Below.refl _ _
  clear hb0
  have hz1 := hb1.size
  rw [hs1] at hz1
  have HO2 := Lib.hid (HO1.out.next hb1)
  have X1 := Lib.hid (hbox.below hb1 (by rw [hs1]; omega))
  have HB1 := Lib.hid ((Below.alN W (.cells #[.int .i64 d, .string st, .pointer (some ⟨ob, 0, none⟩)] 46)).trans (hb1.mono (by rw [hs1]; omega)))
  clear hb1 hbox
  obtain ⟨_, _, ho1, ho2, ho3, ho4, A, cap, hob0, hown0⟩ := H0.out.1
  have hrw : ∀ k, (Value.slice A out.length cap).ownBlock = some k → k < W.heap.size := fun k hk => (own_ge hown0 hk).2
  have hob : Blk w1 ob 27 #[.slice A out.length cap] := hob0.keep ((HB1.out.block ob hob0.lt))
  have hown : w1.ownsRow hi 29 3 (.slice A out.length cap) out.length (flatE out) := own_keep hown0 (fun g _ hg => HB1.out.block g hg)
  clear hob0 hown0
  have hall : OutS W0 ob lo hi out w1.drew ∧ Blk w1.drew W.heap.size 46 #[.int .i64 d, .string st, .pointer (some ⟨ob, 0, none⟩)] ∧ Blk w1.drew ob 27 #[.slice A out.length cap] ∧ w1.drew.ownsRow hi 29 3 (.slice A out.length cap) out.length (flatE out) ∧ Below W.heap.size W w1.drew ∧ W.heap.size < w1.drew.heap.size :=
    ⟨HO2.out.next (Below.refl _ w1).drew, X1.out.drew, hob.drew, hown, HB1.out.drew, hz1⟩
  have HALL := Lib.hid hall
  have hoblt : ob < W.heap.size := by have := H0.out.1.2.2.2.2.2.1; omega
  have k0 := X1.out.v0
  have k1 := X1.out.v1
  have k2 := X1.out.v2
  have y0 : w1.cell? ⟨ob, 0, none⟩ = some (.slice A out.length cap) := hob.cell 0
  have y1 := hob.frozen 0
  clear hob hown hall
  go_wp2_with fail
  refine wp_region_held_drew (S := fun w => w.cell? ⟨W.heap.size, 0, none⟩ = some (.int .i64 d) ∧ w.cell? ⟨W.heap.size, 1, none⟩ = some (.string st) ∧ w.cell? ⟨W.heap.size, 2, none⟩ = some (.pointer (some ⟨ob, 0, none⟩))) (by kernel_rfl) ⟨k0, k1, k2⟩ (fun hHeld => ?_)
  clear k0 k1 k2 y0 y1 X1 HO2 HB1 hz1
  generalize w1.drew = w2 at HALL hHeld ⊢
  refine wpAnyH_take (i := 0) (oi := { dst := some 8, op := Op.fieldAddr 46 (Operand.tmp 2) 2, type := 0, pos := "tree.go:209", after := #[], guard := none }) (v := ?v0) rfl (by kernel_rfl) (by kernel_rfl) (by kernel_rfl) (fun _ _ _ h => h) (Or.inl ⟨by rfl, ?y0⟩) hHeld ?r0
  case y0 => (intro w hSw; (try dsimp only at hSw); go_simp; (try with_reducible rfl))
  (try simp only [Act.put, List.setIfInBounds_toArray, List.set_cons_zero, List.set_cons_succ])
  refine wpAnyH_take (i := 1) (oi := { dst := some 9, op := Op.load 44 (Operand.tmp 8), type := 44, pos := "tree.go:209", after := #[{ on := 0, ground := Ground.data }], guard := none }) (v := ?v1) rfl (by kernel_rfl) (by kernel_rfl) (by kernel_rfl) (fun _ _ _ h => h) (Or.inl ⟨by rfl, ?y1⟩) hHeld ?r1
  case y1 => (intro w hSw; (try dsimp only at hSw); go_simp; (try with_reducible rfl))
  (try simp only [Act.put, List.setIfInBounds_toArray, List.set_cons_zero, List.set_cons_succ])
  refine wpAnyH_take (i := 2) (oi := { dst := some 10, op := Op.fieldAddr 46 (Operand.tmp 2) 2, type := 0, pos := "tree.go:209", after := #[], guard := none }) (v := ?v2) rfl (by kernel_rfl) (by kernel_rfl) (by kernel_rfl) (fun _ _ _ h => h) (Or.inl ⟨by rfl, ?y2⟩) hHeld ?r2
  case y2 => (intro w hSw; (try dsimp only at hSw); go_simp; (try with_reducible rfl))
  (try simp only [Act.put, List.setIfInBounds_toArray, List.set_cons_zero, List.set_cons_succ])
  refine wpAnyH_take (i := 3) (oi := { dst := some 11, op := Op.load 44 (Operand.tmp 10), type := 44, pos := "tree.go:209", after := #[{ on := 2, ground := Ground.data }], guard := none }) (v := ?v3) rfl (by kernel_rfl) (by kernel_rfl) (by kernel_rfl) (fun _ _ _ h => h) (Or.inl ⟨by rfl, ?y3⟩) hHeld ?r3
  case y3 => (intro w hSw; (try dsimp only at hSw); go_simp; (try with_reducible rfl))
  (try simp only [Act.put, List.setIfInBounds_toArray, List.set_cons_zero, List.set_cons_succ])
  refine wpAnyH_take (i := 4) (oi := { dst := some 12, op := Op.nilCheck (Operand.tmp 11), type := 0, pos := "tree.go:209", after := #[{ on := 3, ground := Ground.data }], guard := none }) (v := ?v4) rfl (by kernel_rfl) (by kernel_rfl) (by kernel_rfl) (fun _ _ _ h => h) (Or.inl ⟨by rfl, ?y4⟩) hHeld ?r4
  case y4 => (intro w hSw; (try dsimp only at hSw); go_simp; (try with_reducible rfl))
  (try simp only [Act.put, List.setIfInBounds_toArray, List.set_cons_zero, List.set_cons_succ])
  refine wpAnyH_take (i := 6) (oi := { dst := some 14, op := Op.move (Operand.tmp 5), type := 9, pos := "tree.go:209", after := #[], guard := none }) (v := ?v6) rfl (by kernel_rfl) (by kernel_rfl) (by kernel_rfl) (fun _ _ _ h => h) (Or.inl ⟨by rfl, ?y6⟩) hHeld ?r6
  case y6 => (intro w hSw; (try dsimp only at hSw); go_simp; (try with_reducible rfl))
  (try simp only [Act.put, List.setIfInBounds_toArray, List.set_cons_zero, List.set_cons_succ])
  refine wpAnyH_take (i := 7) (oi := { dst := some 15, op := Op.fieldAddr 46 (Operand.tmp 2) 0, type := 0, pos := "tree.go:209", after := #[], guard := none }) (v := ?v7) rfl (by kernel_rfl) (by kernel_rfl) (by kernel_rfl) (fun _ _ _ h => h) (Or.inl ⟨by rfl, ?y7⟩) hHeld ?r7
  case y7 => (intro w hSw; (try dsimp only at hSw); go_simp; (try with_reducible rfl))
  (try simp only [Act.put, List.setIfInBounds_toArray, List.set_cons_zero, List.set_cons_succ])
  refine wpAnyH_take (i := 8) (oi := { dst := some 16, op := Op.load 3 (Operand.tmp 15), type := 3, pos := "tree.go:209", after := #[{ on := 7, ground := Ground.data }], guard := none }) (v := ?v8) rfl (by kernel_rfl) (by kernel_rfl) (by kernel_rfl) (fun _ _ _ h => h) (Or.inl ⟨by rfl, ?y8⟩) hHeld ?r8
  case y8 => (intro w hSw; (try dsimp only at hSw); go_simp; (try with_reducible rfl))
  (try simp only [Act.put, List.setIfInBounds_toArray, List.set_cons_zero, List.set_cons_succ])
  refine wpAnyH_take (i := 9) (oi := { dst := some 17, op := Op.fieldAddr 46 (Operand.tmp 2) 0, type := 0, pos := "tree.go:209", after := #[], guard := none }) (v := ?v9) rfl (by kernel_rfl) (by kernel_rfl) (by kernel_rfl) (fun _ _ _ h => h) (Or.inl ⟨by rfl, ?y9⟩) hHeld ?r9
  case y9 => (intro w hSw; (try dsimp only at hSw); go_simp; (try with_reducible rfl))
  (try simp only [Act.put, List.setIfInBounds_toArray, List.set_cons_zero, List.set_cons_succ])
  refine wpAnyH_take (i := 10) (oi := { dst := some 18, op := Op.load 3 (Operand.tmp 17), type := 3, pos := "tree.go:209", after := #[{ on := 9, ground := Ground.data }], guard := none }) (v := ?v10) rfl (by kernel_rfl) (by kernel_rfl) (by kernel_rfl) (fun _ _ _ h => h) (Or.inl ⟨by rfl, ?y10⟩) hHeld ?r10
  case y10 => (intro w hSw; (try dsimp only at hSw); go_simp; (try with_reducible rfl))
  (try simp only [Act.put, List.setIfInBounds_toArray, List.set_cons_zero, List.set_cons_succ])
  refine wpAnyH_take (i := 11) (oi := { dst := some 19, op := Op.build 29 #[(0, Operand.tmp 14), (1, Operand.tmp 16), (2, Operand.tmp 18)], type := 29, pos := "tree.go:209", after := #[{ on := 6, ground := Ground.data }, { on := 8, ground := Ground.data }, { on := 10, ground := Ground.data }], guard := none }) (v := ?v11) rfl (by kernel_rfl) (by kernel_rfl) (by kernel_rfl) (fun _ _ _ h => h) (Or.inl ⟨by rfl, ?y11⟩) hHeld ?r11
  case y11 => (intro w hSw; (try dsimp only at hSw); go_simp; (try with_reducible rfl))
  (try simp only [Act.put, List.setIfInBounds_toArray, List.set_cons_zero, List.set_cons_succ])
  obtain ⟨q1, q2, q3, q4, q5, q6⟩ := HALL.out
  have Q1 := Lib.hid q1
  have X2 := Lib.hid q2
  have Q3 := Lib.hid q3
  have Q4 := Lib.hid q4
  have Q5 := Lib.hid q5
  have y0 : w2.cell? ⟨ob, 0, none⟩ = some (.slice A out.length cap) := q3.cell 0
  have y1 := q3.frozen 0
  have q7 : ob < w2.heap.size := by omega
  clear q1 q2 q3 q4 q5 HALL
  refine wpAnyH_ready (rs := [5, 12]) (by kernel_rfl) (by simp) ?_
  refine AllReadyH.cons (o := { dst := some 13, op := Op.load 27 (Operand.tmp 12), type := 27, pos := "tree.go:209", after := #[{ on := 4, ground := Ground.data }], guard := none }) rfl (fun K hK => ?g1) (AllReadyH.cons (o := { dst := some 20, op := Op.buildSlice 27 1 #[(0, Operand.tmp 19)], type := 27, pos := "tree.go:209", after := #[{ on := 11, ground := Ground.data }], guard := none }) rfl (fun K hK => ?g2) AllReadyH.nil)
  case' g1 =>
    go_simp
    refine hK.out _ _ hHeld (fun hHeld2 => ?_)
    clear hK K hHeld2
    (try simp only [Act.put, List.setIfInBounds_toArray, List.set_cons_zero, List.set_cons_succ])
    refine wpAnyH_ready (rs := [12]) (by kernel_rfl) (by simp) (AllReadyH.cons (o := { dst := some 20, op := Op.buildSlice 27 1 #[(0, Operand.tmp 19)], type := 27, pos := "tree.go:209", after := #[{ on := 11, ground := Ground.data }], guard := none }) rfl (fun K hK => ?_) AllReadyH.nil)
    go_simp
    refine hK.out _ _ ⟨(X2.out.alloc (.cells #[.string (⟨#[]⟩ : ByteArray), .int .i64 d, .int .i64 d] 29)).v0, (X2.out.alloc (.cells #[.string (⟨#[]⟩ : ByteArray), .int .i64 d, .int .i64 d] 29)).v1, (X2.out.alloc (.cells #[.string (⟨#[]⟩ : ByteArray), .int .i64 d, .int .i64 d] 29)).v2⟩ (fun hHeld2 => ?_)
    clear hK K hHeld2
    (try simp only [Act.put, List.setIfInBounds_toArray, List.set_cons_zero, List.set_cons_succ])
  case' g2 =>
    go_simp
    refine hK.out _ _ ⟨(X2.out.alloc (.cells #[.string (⟨#[]⟩ : ByteArray), .int .i64 d, .int .i64 d] 29)).v0, (X2.out.alloc (.cells #[.string (⟨#[]⟩ : ByteArray), .int .i64 d, .int .i64 d] 29)).v1, (X2.out.alloc (.cells #[.string (⟨#[]⟩ : ByteArray), .int .i64 d, .int .i64 d] 29)).v2⟩ (fun hHeld2 => ?_)
    clear hK K hHeld2
    (try simp only [Act.put, List.setIfInBounds_toArray, List.set_cons_zero, List.set_cons_succ])
    refine wpAnyH_ready (rs := [5]) (by kernel_rfl) (by simp) (AllReadyH.cons (o := { dst := some 13, op := Op.load 27 (Operand.tmp 12), type := 27, pos := "tree.go:209", after := #[{ on := 4, ground := Ground.data }], guard := none }) rfl (fun K hK => ?_) AllReadyH.nil)
    go_simp
    refine hK.out _ _ ⟨(X2.out.alloc (.cells #[.string (⟨#[]⟩ : ByteArray), .int .i64 d, .int .i64 d] 29)).v0, (X2.out.alloc (.cells #[.string (⟨#[]⟩ : ByteArray), .int .i64 d, .int .i64 d] 29)).v1, (X2.out.alloc (.cells #[.string (⟨#[]⟩ : ByteArray), .int .i64 d, .int .i64 d] 29)).v2⟩ (fun hHeld2 => ?_)
    clear hK K hHeld2
    (try simp only [Act.put, List.setIfInBounds_toArray, List.set_cons_zero, List.set_cons_succ])
  all_goals (
    refine wpAnyH_ready (rs := [13]) (by kernel_rfl) (by simp) (AllReadyH.cons (o := { dst := some 21, op := Op.call { callee := Callee.builtin Builtin.append, args := #[Operand.tmp 13, Operand.tmp 20], argTypes := #[27, 27] }, type := 27, pos := "tree.go:209", after := #[{ on := 5, ground := Ground.data }, { on := 12, ground := Ground.data }], guard := none }) rfl (fun K hK => ?_) AllReadyH.nil)
    refine step_append_ev (e := ((⟨#[]⟩ : ByteArray), d)) rfl (Operand.tmp 13) (Operand.tmp 20) rfl rfl rfl (own_keep Q4.out (fun g _ hg => Below.heap_alloc w2 _ g hg)) (by rw [World.size_alloc]; omega) (by omega) (Blk.new w2 _ _) ?_
    intro v3 w3 hown hgr
    obtain ⟨A3, c3, rfl⟩ := own_form hown
    have z0 : w3.cell? ⟨ob, 0, none⟩ = some (.slice A out.length cap) := (Q3.out.keep (ap_far2 hgr (fun k hk => by have := own_ge Q4.out hk; omega) (by omega))).cell 0
    have z1 := (Q3.out.keep (ap_far2 hgr (fun k hk => by have := own_ge Q4.out hk; omega) (by omega))).frozen 0
    have X3 := Lib.hid (X2.out.keep (ap_far2 hgr (fun k hk => by have := hrw k hk; omega) (by omega)))
    have PU := Lib.hid (Q1.out.push (x := ((⟨#[]⟩ : ByteArray), d)) Q3.out hown (grown_trans (World.grownBy_alloc w2 _ _) hgr))
    refine hK.out _ _ ⟨X3.out.v0, X3.out.v1, X3.out.v2⟩ (fun hHeld2 => ?_)
    clear hK K hown hgr hHeld2
    (try simp only [Act.put, List.setIfInBounds_toArray, List.set_cons_zero, List.set_cons_succ])
    refine wpAnyH_ready (rs := [14]) (by kernel_rfl) (by simp) (AllReadyH.cons rfl (fun K hK => ?_) AllReadyH.nil)
    go_simp
    refine hK.out _ _ ⟨X3.out.v0, X3.out.v1, X3.out.v2⟩ (fun hHeld2 => ?_)
    clear hK K hHeld2
    (try simp only [Act.put, List.setIfInBounds_toArray, List.set_cons_zero, List.set_cons_succ])
    refine wpAnyH_ready (rs := [15]) (by kernel_rfl) (by simp) (AllReadyH.cons rfl (fun K hK => ?_) AllReadyH.nil)
    go_simp
    have X4 := Lib.hid (X3.out.far (p := ⟨ob, 0, none⟩) (show W.heap.size ≠ ob by omega) (.slice A3 (out.length + 1) c3))
    refine hK.out _ _ ⟨X4.out.v0, X4.out.v1, X4.out.v2⟩ (fun hHeld2 => ?_)
    clear hK K hHeld2 z0 z1 X3
    (try simp only [Act.put, List.setIfInBounds_toArray, List.set_cons_zero, List.set_cons_succ])
    refine wpAnyH_done (by kernel_rfl) ?_ _
    have hkp : Kp lo hi W w2 := ⟨Q5.out.size, fun b h1 h2 => Q5.out.block b (by omega)⟩
    generalize (w3.setCell ⟨ob, 0, none⟩ (.slice A3 (out.length + 1) c3)) = w4 at PU X4 ⊢
    have u0 := X4.out.v0
    have u1 := X4.out.v1
    have u2 := X4.out.v2
    clear X4
    all_goals (go_wp2_with fail)
    all_goals (go_ret; exact ⟨⟨_, rfl⟩, PU.out.1, hkp.trans PU.out.2⟩))

/-- impl.visitor as a rule for Walk. -/
theorem visitor_vs (P : Nat → Int) (hN : ∀ n : Nd, n.shapedB = true → n.size ≤ 400 → NOf P n) (st : ByteArray) (W0 : World) (ob lo hi : Nat) :
    VS lo hi P (goStop st) 46 (fun d => .agg #[.int .i64 (d : Int), .string st, .pointer (some ⟨ob, 0, none⟩)]) (fun d => .agg #[.int .i64 (d : Int), .string st, .pointer (some ⟨ob, 0, none⟩)]) 94 (fun tr _ w => OutS W0 ob lo hi (tr.map evKd) w) where
  meth := fun d w => by kernel_rfl
  ent := fun args w => by kernel_rfl
  node := fun d out w i n v hs hz hb ho hh hX => by
    refine (Visit_node P st W0 ob lo hi d.length (out.map evKd) w i n v (hN n hs hz) (by rw [List.length_map]; exact hb) ho hX).mono ?_
    rintro e w' ⟨rfl, h1, h2⟩
    refine ⟨?_, ?_, h2⟩
    · rw [goStop_at, List.length_append]
      cases (n.kd.toList == st.toList) <;> rfl
    · rw [List.map_append]
      exact h1
  nil := fun d x out w hb ho hh => by
    refine (Visit_nil st W0 ob lo hi (d ++ [x]).length (out.map evKd) w (by rw [List.length_map]; exact hb) ho).mono ?_
    rintro e w' ⟨he, h1, h2⟩
    refine ⟨he, ?_, h2⟩
    rw [List.map_append]
    exact h1
end Go.Proofs.YtlpnepgljdhpkaaGreatFmt
