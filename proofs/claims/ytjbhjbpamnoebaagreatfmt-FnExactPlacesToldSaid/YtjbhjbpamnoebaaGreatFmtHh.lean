/-
  spec.placer.node: index expressions, assertions, keys, maps.
-/
import Derived.Test.YtjbhjbpamnoebaaGreatFmtL9
namespace Go.Proofs.YtjbhjbpamnoebaaGreatFmt
open Go.RowKit

set_option maxHeartbeats 8000000 in
set_option maxRecDepth 100000 in
theorem pn_two (ps : List Int) (hps : Okp ps) (kd tx : ByteArray) (ad : Option Addr) (cp : Nat) (ks : List Nd) (IH : ∀ k ∈ ks, PNOf ps k) (hg : kcode kd = 7 ∨ kcode kd = 8 ∨ kcode kd = 9 ∨ kcode kd = 10) : PNOf ps ⟨kd, tx, ad, cp, ks⟩ := by
  intro X pb i e out W h hin hs hsh hz hi ho
  have htp := toks_pos hs
  have hm : manyC (kcode kd) tx ks.length = true := by
    have h := hs
    rw [Nd.shapedB_eq, Bool.and_eq_true] at h
    exact h.2
  have htx : tx.size ≤ 1048576 := by
    have h := hsh
    rw [Nd.shortB_eq, Bool.and_eq_true] at h
    simpa using h.1
  have HH := Lib.hid (And.intro hs (And.intro hsh (And.intro hz (And.intro hi (And.intro ho (And.intro hm (And.intro htx (And.intro hps (And.intro h.1.2.1 (And.intro IH (And.intro hin hg)))))))))))
  have hC1 : NC W X pb ps ⟨kd, tx, ad, cp, ks⟩ i e out ((W.alloc (.cells #[.pointer (some ⟨pb, 0, none⟩)] 59)).alloc (.cells #[.string kd, .string tx, .slice ad ks.length cp] 24)) := NC.start h hin
  have hne := nc_ne hC1 h.lt
  obtain ⟨A, nn, cap, A2, c2, hblk, hnn, hcell, hown, hgx⟩ := hC1.st_.cells
  obtain ⟨p0, hp0⟩ : ∃ p0, (ps.drop i)[0]? = some p0 := ⟨_, List.getElem?_eq_getElem (by rw [List.length_drop]; omega)⟩
  obtain ⟨g0, o0, rfl, hg0, z0⟩ := hcell 0 p0 hp0
  rw [← pos_drop hp0, Nat.add_zero] at z0
  have hn0 : (0 : Int) < (nn : Int) := by rw [hnn, List.length_drop]; omega
  have hnN : 0 < nn := by omega
  have cB := hC1.cB
  have c0 := hC1.c0
  have y0 : ((W.alloc (.cells #[.pointer (some ⟨pb, 0, none⟩)] 59)).alloc (.cells #[.string kd, .string tx, .slice ad ks.length cp] 24)).cell? ⟨pb, 0, none⟩ = some (.slice (some ⟨g0, o0, none⟩) nn cap) := hblk.cell 0
  have y2 : ((W.alloc (.cells #[.pointer (some ⟨pb, 0, none⟩)] 59)).alloc (.cells #[.string kd, .string tx, .slice ad ks.length cp] 24)).cell? ⟨pb, 2, none⟩ = some (.slice A2 out.length c2) := hblk.cell 2
  have hrow : ∀ g, (Value.slice A2 out.length c2).ownBlock = some g → pb + 1 ≤ g ∧ g < ((W.alloc (.cells #[.pointer (some ⟨pb, 0, none⟩)] 59)).alloc (.cells #[.string kd, .string tx, .slice ad ks.length cp] 24)).heap.size := fun g hg => own_ge hown hg
  have HALL := Lib.hid (show NC W X pb ps ⟨kd, tx, ad, cp, ks⟩ i e out ((W.alloc (.cells #[.pointer (some ⟨pb, 0, none⟩)] 59)).alloc (.cells #[.string kd, .string tx, .slice ad ks.length cp] 24)).drew ∧ Blk ((W.alloc (.cells #[.pointer (some ⟨pb, 0, none⟩)] 59)).alloc (.cells #[.string kd, .string tx, .slice ad ks.length cp] 24)).drew pb 61 #[.slice (some ⟨g0, o0, none⟩) nn cap, .int .i64 e, .slice A2 out.length c2] ∧ ((W.alloc (.cells #[.pointer (some ⟨pb, 0, none⟩)] 59)).alloc (.cells #[.string kd, .string tx, .slice ad ks.length cp] 24)).drew.ownsRow (pb + 1) 29 3 (.slice A2 out.length c2) out.length (flatP out) ∧
      ((∀ g, (Value.slice A2 out.length c2).ownBlock = some g → W.heap.size ≠ g) ∧ (∀ g, (Value.slice A2 out.length c2).ownBlock = some g → W.heap.size + 1 ≠ g) ∧ (∀ g, (Value.slice A2 out.length c2).ownBlock = some g → pb ≠ g) ∧ (∀ g, (Value.slice A2 out.length c2).ownBlock = some g → g0 ≠ g)) from
    ⟨hC1.drew, hblk.drew, hown, fun g hg e => hgx g hg (.inr (.inl e.symm)), fun g hg e => hgx g hg (.inr (.inr e.symm)), fun g hg e => by have := (hrow g hg).1; omega, fun g hg e => by have := (hrow g hg).1; omega⟩)
  have HNE := Lib.hid (show W.heap.size ≠ pb ∧ W.heap.size + 1 ≠ pb ∧ g0 ≠ pb from ⟨hne.1, hne.2, by omega⟩)
  have HOL := Lib.hid (show out.length ≤ 5000 by omega)
  show Calls _ _ #[_, .agg #[.string kd, .string tx, .slice ad ks.length cp]] W _
  clear h hin hs hsh hz hi ho hm htx htp hps hg hC1 hne hblk hnn hcell hown hgx hp0 hg0 hrow IH
  go_enter Tryz.func28, Tryz.ntmps28
  go_wp2_with fail
  generalize (W.alloc (.cells #[.pointer (some ⟨pb, 0, none⟩)] 59)).alloc (.cells #[.string kd, .string tx, .slice ad ks.length cp] 24) = W1 at cB c0 y0 y2 z0 HALL ⊢
  refine wp_region_held_drew (S := fun w => w.cell? ⟨W.heap.size, 0, none⟩ = some (.pointer (some ⟨pb, 0, none⟩)) ∧ w.cell? ⟨W.heap.size + 1, 0, none⟩ = some (.string kd) ∧ w.cell? ⟨pb, 0, none⟩ = some (.slice (some ⟨g0, o0, none⟩) nn cap) ∧ w.cell? ⟨g0, o0, none⟩ = some (.int .i64 (posOf ps i))) (by kernel_rfl) ⟨cB, c0, y0, z0⟩ (fun hHeld => ?_)
  clear cB c0 y0 y2 z0
  generalize W1.drew = w2 at HALL hHeld ⊢
  refine wpAnyH_take (i := 0) (oi := { dst := some 13, op := Op.load 59 (Operand.tmp 2), type := 59, pos := "data.go:154", after := #[], guard := none }) (v := ?v0) rfl (by kernel_rfl) (by kernel_rfl) (by kernel_rfl) (fun _ _ _ h => h) (Or.inl ⟨by rfl, ?y0⟩) hHeld ?r0
  case y0 => (intro w hSw; (try dsimp only at hSw); go_simp; (try with_reducible rfl))
  (try simp only [Act.put, List.setIfInBounds_toArray, List.set_cons_zero, List.set_cons_succ])
  refine wpAnyH_take (i := 1) (oi := { dst := some 14, op := Op.load 59 (Operand.tmp 2), type := 59, pos := "data.go:154", after := #[], guard := none }) (v := ?v1) rfl (by kernel_rfl) (by kernel_rfl) (by kernel_rfl) (fun _ _ _ h => h) (Or.inl ⟨by rfl, ?y1⟩) hHeld ?r1
  case y1 => (intro w hSw; (try dsimp only at hSw); go_simp; (try with_reducible rfl))
  (try simp only [Act.put, List.setIfInBounds_toArray, List.set_cons_zero, List.set_cons_succ])
  refine wpAnyH_take (i := 2) (oi := { dst := some 15, op := Op.nilCheck (Operand.tmp 14), type := 0, pos := "data.go:154", after := #[{ on := 1, ground := Ground.data }], guard := none }) (v := ?v2) rfl (by kernel_rfl) (by kernel_rfl) (by kernel_rfl) (fun _ _ _ h => h) (Or.inl ⟨by rfl, ?y2⟩) hHeld ?r2
  case y2 => (intro w hSw; (try dsimp only at hSw); go_simp; (try with_reducible rfl))
  (try simp only [Act.put, List.setIfInBounds_toArray, List.set_cons_zero, List.set_cons_succ])
  refine wpAnyH_take (i := 3) (oi := { dst := some 16, op := Op.fieldAddr 61 (Operand.tmp 15) 2, type := 0, pos := "data.go:154", after := #[{ on := 2, ground := Ground.data }], guard := none }) (v := ?v3) rfl (by kernel_rfl) (by kernel_rfl) (by kernel_rfl) (fun _ _ _ h => h) (Or.inl ⟨by rfl, ?y3⟩) hHeld ?r3
  case y3 => (intro w hSw; (try dsimp only at hSw); go_simp; (try with_reducible rfl))
  (try simp only [Act.put, List.setIfInBounds_toArray, List.set_cons_zero, List.set_cons_succ])
  refine wpAnyH_take (i := 5) (oi := { dst := some 18, op := Op.fieldAddr 24 (Operand.tmp 3) 0, type := 0, pos := "data.go:154", after := #[], guard := none }) (v := ?v5) rfl (by kernel_rfl) (by kernel_rfl) (by kernel_rfl) (fun _ _ _ h => h) (Or.inl ⟨by rfl, ?y5⟩) hHeld ?r5
  case y5 => (intro w hSw; (try dsimp only at hSw); go_simp; (try with_reducible rfl))
  (try simp only [Act.put, List.setIfInBounds_toArray, List.set_cons_zero, List.set_cons_succ])
  refine wpAnyH_take (i := 6) (oi := { dst := some 19, op := Op.load 9 (Operand.tmp 18), type := 9, pos := "data.go:154", after := #[{ on := 5, ground := Ground.data }], guard := none }) (v := ?v6) rfl (by kernel_rfl) (by kernel_rfl) (by kernel_rfl) (fun _ _ _ h => h) (Or.inl ⟨by rfl, ?y6⟩) hHeld ?r6
  case y6 => (intro w hSw; (try dsimp only at hSw); go_simp; (try with_reducible rfl))
  (try simp only [Act.put, List.setIfInBounds_toArray, List.set_cons_zero, List.set_cons_succ])
  refine wpAnyH_take (i := 7) (oi := { dst := some 20, op := Op.load 59 (Operand.tmp 2), type := 59, pos := "data.go:154", after := #[], guard := none }) (v := ?v7) rfl (by kernel_rfl) (by kernel_rfl) (by kernel_rfl) (fun _ _ _ h => h) (Or.inl ⟨by rfl, ?y7⟩) hHeld ?r7
  case y7 => (intro w hSw; (try dsimp only at hSw); go_simp; (try with_reducible rfl))
  (try simp only [Act.put, List.setIfInBounds_toArray, List.set_cons_zero, List.set_cons_succ])
  refine wpAnyH_take (i := 8) (oi := { dst := some 21, op := Op.nilCheck (Operand.tmp 20), type := 0, pos := "data.go:154", after := #[{ on := 7, ground := Ground.data }], guard := none }) (v := ?v8) rfl (by kernel_rfl) (by kernel_rfl) (by kernel_rfl) (fun _ _ _ h => h) (Or.inl ⟨by rfl, ?y8⟩) hHeld ?r8
  case y8 => (intro w hSw; (try dsimp only at hSw); go_simp; (try with_reducible rfl))
  (try simp only [Act.put, List.setIfInBounds_toArray, List.set_cons_zero, List.set_cons_succ])
  refine wpAnyH_take (i := 9) (oi := { dst := some 22, op := Op.fieldAddr 61 (Operand.tmp 21) 0, type := 0, pos := "data.go:154", after := #[{ on := 8, ground := Ground.data }], guard := none }) (v := ?v9) rfl (by kernel_rfl) (by kernel_rfl) (by kernel_rfl) (fun _ _ _ h => h) (Or.inl ⟨by rfl, ?y9⟩) hHeld ?r9
  case y9 => (intro w hSw; (try dsimp only at hSw); go_simp; (try with_reducible rfl))
  (try simp only [Act.put, List.setIfInBounds_toArray, List.set_cons_zero, List.set_cons_succ])
  refine wpAnyH_take (i := 10) (oi := { dst := some 23, op := Op.load 33 (Operand.tmp 22), type := 33, pos := "data.go:154", after := #[{ on := 9, ground := Ground.data }], guard := none }) (v := ?v10) rfl (by kernel_rfl) (by kernel_rfl) (by kernel_rfl) (fun _ _ _ h => h) (Or.inl ⟨by rfl, ?y10⟩) hHeld ?r10
  case y10 => (intro w hSw; (try dsimp only at hSw); go_simp; (try with_reducible rfl))
  (try simp only [Act.put, List.setIfInBounds_toArray, List.set_cons_zero, List.set_cons_succ])
  refine wpAnyH_take (i := 11) (oi := { dst := some 24, op := Op.indexAddr 33 (Operand.tmp 23) (Operand.const (Value.int IntKind.i64 0)), type := 0, pos := "data.go:154", after := #[{ on := 10, ground := Ground.data }], guard := none }) (v := ?v11) rfl (by kernel_rfl) (by kernel_rfl) (by kernel_rfl) (fun _ _ _ h => h) (Or.inl ⟨by rfl, ?y11⟩) hHeld ?r11
  case y11 => (intro w hSw; (try dsimp only at hSw); go_simp; (try with_reducible rfl))
  (try simp only [Act.put, List.setIfInBounds_toArray, List.set_cons_zero, List.set_cons_succ])
  refine wpAnyH_take (i := 12) (oi := { dst := some 25, op := Op.load 3 (Operand.tmp 24), type := 3, pos := "data.go:154", after := #[{ on := 11, ground := Ground.data }], guard := none }) (v := ?v12) rfl (by kernel_rfl) (by kernel_rfl) (by kernel_rfl) (fun _ _ _ h => h) (Or.inl ⟨by rfl, ?y12⟩) hHeld ?r12
  case y12 => (intro w hSw; (try dsimp only at hSw); go_simp; (try with_reducible rfl))
  (try simp only [Act.put, List.setIfInBounds_toArray, List.set_cons_zero, List.set_cons_succ])
  refine wpAnyH_take (i := 13) (oi := { dst := some 26, op := Op.build 29 #[(0, Operand.tmp 19), (1, Operand.tmp 25)], type := 29, pos := "data.go:154", after := #[{ on := 6, ground := Ground.data }, { on := 12, ground := Ground.data }], guard := none }) (v := ?v13) rfl (by kernel_rfl) (by kernel_rfl) (by kernel_rfl) (fun _ _ _ h => h) (Or.inl ⟨by rfl, ?y13⟩) hHeld ?r13
  case y13 => (intro w hSw; (try dsimp only at hSw); go_simp; (try with_reducible rfl))
  (try simp only [Act.put, List.setIfInBounds_toArray, List.set_cons_zero, List.set_cons_succ])
  obtain ⟨qN, qB, qown, qrow⟩ := HALL.out
  have N2 := Lib.hid qN
  have Q2 := Lib.hid qB
  have Q4 := Lib.hid (And.intro qown qrow)
  have y2 : w2.cell? ⟨pb, 2, none⟩ = some (.slice A2 out.length c2) := qB.cell 2
  have q7 : pb < w2.heap.size := qB.lt
  clear qN qB qown qrow
  refine two_ways (T := ?TT) (fun tail => ?mainW) ?tailW
  case mainW =>
   refine wpAnyH_ready (rs := [4, 14]) (by kernel_rfl) (by simp) ?_
   refine AllReadyH.cons (o := { dst := some 17, op := Op.load 27 (Operand.tmp 16), type := 27, pos := "data.go:154", after := #[{ on := 3, ground := Ground.data }], guard := none }) rfl (fun K hK => ?g1) (AllReadyH.cons (o := { dst := some 27, op := Op.buildSlice 27 1 #[(0, Operand.tmp 26)], type := 27, pos := "data.go:154", after := #[{ on := 13, ground := Ground.data }], guard := none }) rfl (fun K hK => ?g2) AllReadyH.nil)
   case g1 =>
     go_simp
     refine hK.out _ _ hHeld (fun hHeld2 => ?_)
     clear hK K hHeld2
     (try simp only [Act.put, List.setIfInBounds_toArray, List.set_cons_zero, List.set_cons_succ])
     refine wpAnyH_ready (rs := [14]) (by kernel_rfl) (by simp) (AllReadyH.cons (o := { dst := some 27, op := Op.buildSlice 27 1 #[(0, Operand.tmp 26)], type := 27, pos := "data.go:154", after := #[{ on := 13, ground := Ground.data }], guard := none }) rfl (fun K hK => ?_) AllReadyH.nil)
     go_simp
     refine hK.out _ _ (ss_alloc hHeld _) (fun hHeld2 => ?_)
     clear hK K hHeld2
     (try simp only [Act.put, List.setIfInBounds_toArray, List.set_cons_zero, List.set_cons_succ])
     exact tail
   case g2 =>
     go_simp
     refine hK.out _ _ (ss_alloc hHeld _) (fun hHeld2 => ?_)
     clear hK K hHeld2
     (try simp only [Act.put, List.setIfInBounds_toArray, List.set_cons_zero, List.set_cons_succ])
     refine wpAnyH_ready (rs := [4]) (by kernel_rfl) (by simp) (AllReadyH.cons (o := { dst := some 17, op := Op.load 27 (Operand.tmp 16), type := 27, pos := "data.go:154", after := #[{ on := 3, ground := Ground.data }], guard := none }) rfl (fun K hK => ?_) AllReadyH.nil)
     go_simp
     refine hK.out _ _ (ss_alloc hHeld _) (fun hHeld2 => ?_)
     clear hK K hHeld2
     (try simp only [Act.put, List.setIfInBounds_toArray, List.set_cons_zero, List.set_cons_succ])
     exact tail
  refine wpAnyH_ready (rs := [15]) (by kernel_rfl) (by simp) (AllReadyH.cons (o := { dst := some 28, op := Op.call { callee := Callee.builtin Builtin.append, args := #[Operand.tmp 17, Operand.tmp 27], argTypes := #[27, 27] }, type := 27, pos := "data.go:154", after := #[{ on := 4, ground := Ground.data }, { on := 14, ground := Ground.data }], guard := none }) rfl (fun K hK => ?_) AllReadyH.nil)
  refine step_append_sp (e := (kd, posOf ps i, 0)) rfl (Operand.tmp 17) (Operand.tmp 27) rfl rfl rfl (own_keep Q4.out.1 (fun g _ hg => Below.heap_alloc w2 _ g hg)) (by rw [World.size_alloc]; omega) HOL.out (Blk.new w2 _ _) ?_
  intro v3 w3 hown hgr hloc
  obtain ⟨A3, c3, rfl⟩ := own_formT hown
  have PU := Lib.hid (N2.out.st_.push (x := (kd, posOf ps i, 0)) Q2.out hown (grown_trans (World.grownBy_alloc w2 _ _) hgr) (hloc.imp id fun h => ⟨_, h, by rw [World.size_alloc]; omega⟩))
  have HKP := Lib.hid (fun (b : Nat) (hb : b < w2.heap.size) (hne : ∀ g, (Value.slice A2 out.length c2).ownBlock = some g → b ≠ g) => (hgr.block b (by rw [World.size_alloc]; omega) (fun e => hne b e.symm rfl)).trans (Below.heap_alloc w2 _ b hb))
  have hS3 := ss_keep hHeld (HKP.out _ (World.block_lt_of_cell? w2 _ hHeld.1) (Q4.out.2.1)) (HKP.out _ (World.block_lt_of_cell? w2 _ hHeld.2.1) (Q4.out.2.2.1)) (HKP.out _ q7 (Q4.out.2.2.2.1)) (HKP.out _ (World.block_lt_of_cell? w2 _ hHeld.2.2.2) (Q4.out.2.2.2.2))
  have u2 : w3.cell? ⟨pb, 2, none⟩ = some (.slice A2 out.length c2) := (Q2.out.keep (HKP.out pb q7 Q4.out.2.2.2.1)).cell 2
  have u3 : w3.frozen? ⟨pb, 2, none⟩ = false := (Q2.out.keep (HKP.out pb q7 Q4.out.2.2.2.1)).frozen 2
  refine hK.out _ _ hS3 (fun hHeld2 => ?_)
  clear hK K hown hgr hloc hHeld2 HKP
  (try simp only [Act.put, List.setIfInBounds_toArray, List.set_cons_zero, List.set_cons_succ])
  refine wpAnyH_ready (rs := [16]) (by kernel_rfl) (by simp) (AllReadyH.cons rfl (fun K hK => ?_) AllReadyH.nil)
  go_simp
  refine hK.out _ _ hS3 (fun hHeld2 => ?_)
  clear hK K hHeld2
  (try simp only [Act.put, List.setIfInBounds_toArray, List.set_cons_zero, List.set_cons_succ])
  refine wpAnyH_ready (rs := [17]) (by kernel_rfl) (by simp) (AllReadyH.cons rfl (fun K hK => ?_) AllReadyH.nil)
  go_simp
  refine hK.out _ _ hS3 (fun hHeld2 => ?_)
  clear hK K hHeld2
  (try simp only [Act.put, List.setIfInBounds_toArray, List.set_cons_zero, List.set_cons_succ])
  refine wpAnyH_ready (rs := [18]) (by kernel_rfl) (by simp) (AllReadyH.cons rfl (fun K hK => ?_) AllReadyH.nil)
  go_simp
  refine hK.out _ _ (ss_set hS3 (fun h => HNE.out.1 (congrArg Addr.block h)) (fun h => HNE.out.2.1 (congrArg Addr.block h)) (fun h => by cases h) (fun h => HNE.out.2.2 (congrArg Addr.block h)) _) (fun hHeld2 => ?_)
  clear hK K hHeld2 hS3 u2 u3
  (try simp only [Act.put, List.setIfInBounds_toArray, List.set_cons_zero, List.set_cons_succ])
  refine wpAnyH_done (by kernel_rfl) ?_ _
  have hC : NS W X pb ps ⟨kd, tx, ad, cp, ks⟩ i e out [] [] (w3.setCell ⟨pb, 2, none⟩ (.slice A3 (out.length + 1) c3)) := NS.start (N2.out.to PU.out.1 PU.out.2)
  have C := Lib.hid hC
  generalize (w3.setCell ⟨pb, 2, none⟩ (.slice A3 (out.length + 1) c3)) = w4 at C ⊢
  clear hHeld y2 PU hC
  obtain ⟨hs, hsh, hz, hi, ho, hm, htx, hps, hX, IH, hin, hg⟩ := HH.out
  have HP := Lib.hid hps
  clear HH hps
  rcases hg with hkc | hkc | hkc | hkc
  · -- index
    rw [hkc] at hm
    obtain rfl := kind_eq hkc (by decide) ⟨#[105, 110, 100, 101, 120]⟩ rfl
    replace hm : (tx.data.toList.isEmpty && ks.length == 2) = true := hm
    simp only [Bool.and_eq_true, beq_iff_eq] at hm
    obtain ⟨x, y, rfl⟩ := two_of hm.2
    have hlx := toks_len x (kid_ok hs hz (by simp)).1
    have hTL : Nd.toks ⟨(⟨#[105, 110, 100, 101, 120]⟩ : ByteArray), tx, ad, cp, [x, y]⟩ = ([] : List ByteArray) ++ x.toks ++ [(⟨#[91]⟩ : ByteArray)] ++ y.toks ++ [(⟨#[93]⟩ : ByteArray)] := by
      rw [toks_eq, hkc]
      simp [tokOf, t0]
    have hST : spansAt (posOf ps) i ⟨(⟨#[105, 110, 100, 101, 120]⟩ : ByteArray), tx, ad, cp, [x, y]⟩ = ((⟨#[105, 110, 100, 101, 120]⟩ : ByteArray), posOf ps i, endOf (posOf ps) i ⟨(⟨#[105, 110, 100, 101, 120]⟩ : ByteArray), tx, ad, cp, [x, y]⟩) :: (([] : List (ByteArray × Int × Int)) ++ spansAt (posOf ps) (i + (([] : List ByteArray)).length) x ++ spansAt (posOf ps) (i + (([] : List ByteArray) ++ x.toks ++ [(⟨#[91]⟩ : ByteArray)]).length) y) := by
      unfold spansAt
      rw [pre_eq, hkc]
      simp [starts, preL, selPre, hlx, Nat.add_assoc]
    rw [hTL] at hi
    simp only [List.length_append, List.length_cons, List.length_nil] at hi
    have HLS := Lib.hid (And.intro hTL.symm (And.intro hST (And.intro hs hX)))
    have hks := kinds_n ⟨(⟨#[105, 110, 100, 101, 120]⟩ : ByteArray), tx, ad, cp, [x, y]⟩ hkc
    simp only [List.map_cons, List.map_nil, List.sum_cons, List.sum_nil] at hks
    rw [hks] at ho
    have HI := Lib.hid (show ∀ k ∈ [x, y], PNOf ps k ∧ k.shapedB = true ∧ k.shortB = true ∧ k.size ≤ 400 from fun k hk => ⟨IH k hk, (kid_ok hs hz hk).1, kid_sh hsh hk, (kid_ok hs hz hk).2⟩)
    clear hTL hST hs hsh hz hX IH hin hks hkc hm hlx
    have cB := C.out.cB
    have c0 := C.out.c0
    have c1 := C.out.c1
    have c2 := C.out.c2
    go_wp2_with fail
    refine (NS.kid C.out 0 x rfl (HI.out x (by simp)).1 (HI.out x (by simp)).2.1 (HI.out x (by simp)).2.2.1 (HI.out x (by simp)).2.2.2 (by simp <;> omega) (by simp <;> omega)).mono ?_
    rintro r9 w5 ⟨rfl, h9⟩
    clear C cB c0 c1 c2
    have C := Lib.hid h9
    clear h9
    have cB := C.out.cB
    have c0 := C.out.c0
    have c1 := C.out.c1
    have c2 := C.out.c2
    go_wp2_with fail
    refine (NS.t1 C.out HP.out ⟨#[91]⟩ (by decide) (by simp <;> omega)).mono ?_
    rintro r9 w6 ⟨rfl, h9⟩
    clear C cB c0 c1 c2
    have C := Lib.hid h9
    clear h9
    have cB := C.out.cB
    have c0 := C.out.c0
    have c1 := C.out.c1
    have c2 := C.out.c2
    go_wp2_with fail
    refine (NS.kid C.out 1 y rfl (HI.out y (by simp)).1 (HI.out y (by simp)).2.1 (HI.out y (by simp)).2.2.1 (HI.out y (by simp)).2.2.2 (by simp <;> omega) (by simp [spansAt_len] <;> omega)).mono ?_
    rintro r9 w7 ⟨rfl, h9⟩
    clear C cB c0 c1 c2
    have C := Lib.hid h9
    clear h9
    have cB := C.out.cB
    have c0 := C.out.c0
    have c1 := C.out.c1
    have c2 := C.out.c2
    go_wp2_with fail
    refine (NS.t1 C.out HP.out ⟨#[93]⟩ (by decide) (by simp <;> omega)).mono ?_
    rintro r9 w8 ⟨rfl, h9⟩
    clear C cB c0 c1 c2
    have C := Lib.hid h9
    clear h9
    have cB := C.out.cB
    have c0 := C.out.c0
    have c1 := C.out.c1
    have c2 := C.out.c2
    go_wp2_with fail
    obtain ⟨g9, c9, m9, v9, ⟨y1, y2⟩, ⟨hml, hm9⟩, ⟨hfz, u9, hu9⟩, k8, hD⟩ := C.out.fin (by simp [spansAt_len] <;> omega) HLS.out.2.2.2 HLS.out.2.2.1 HLS.out.1 HLS.out.2.1
    have K8 := Lib.hid k8
    have HD := Lib.hid hD
    have hmI : (out.length : Int) < (m9 : Int) := by omega
    clear k8 hD c0 c1 c2
    go_region_held3 (fun w' => w'.cell? ⟨W.heap.size, 0, none⟩ = some (.pointer (some ⟨pb, 0, none⟩)) ∧ w'.cell? ⟨pb, 1, none⟩ = some (.int .i64 v9) ∧ w'.cell? ⟨pb, 2, none⟩ = some (.slice (some ⟨g9, 0, none⟩) m9 c9)) (first | exact ⟨cB, y1, y2⟩ | exact K8.out) (fail)
    (try simp only [Exit.inBlock, Exit.then])
    refine bodyPost_ret (results_none rfl _ _ _) rfl ?_
    exact HD.out
  · -- assert
    rw [hkc] at hm
    obtain rfl := kind_eq hkc (by decide) ⟨#[97, 115, 115, 101, 114, 116]⟩ rfl
    replace hm : (tx.data.toList.isEmpty && ks.length == 2) = true := hm
    simp only [Bool.and_eq_true, beq_iff_eq] at hm
    obtain ⟨x, y, rfl⟩ := two_of hm.2
    have hlx := toks_len x (kid_ok hs hz (by simp)).1
    have hTL : Nd.toks ⟨(⟨#[97, 115, 115, 101, 114, 116]⟩ : ByteArray), tx, ad, cp, [x, y]⟩ = ([] : List ByteArray) ++ x.toks ++ [(⟨#[46]⟩ : ByteArray), (⟨#[40]⟩ : ByteArray)] ++ y.toks ++ [(⟨#[41]⟩ : ByteArray)] := by
      rw [toks_eq, hkc]
      simp [tokOf, t0]
    have hST : spansAt (posOf ps) i ⟨(⟨#[97, 115, 115, 101, 114, 116]⟩ : ByteArray), tx, ad, cp, [x, y]⟩ = ((⟨#[97, 115, 115, 101, 114, 116]⟩ : ByteArray), posOf ps i, endOf (posOf ps) i ⟨(⟨#[97, 115, 115, 101, 114, 116]⟩ : ByteArray), tx, ad, cp, [x, y]⟩) :: (([] : List (ByteArray × Int × Int)) ++ spansAt (posOf ps) (i + (([] : List ByteArray)).length) x ++ spansAt (posOf ps) (i + (([] : List ByteArray) ++ x.toks ++ [(⟨#[46]⟩ : ByteArray), (⟨#[40]⟩ : ByteArray)]).length) y) := by
      unfold spansAt
      rw [pre_eq, hkc]
      simp [starts, preL, selPre, hlx, Nat.add_assoc]
    rw [hTL] at hi
    simp only [List.length_append, List.length_cons, List.length_nil] at hi
    have HLS := Lib.hid (And.intro hTL.symm (And.intro hST (And.intro hs hX)))
    have hks := kinds_n ⟨(⟨#[97, 115, 115, 101, 114, 116]⟩ : ByteArray), tx, ad, cp, [x, y]⟩ hkc
    simp only [List.map_cons, List.map_nil, List.sum_cons, List.sum_nil] at hks
    rw [hks] at ho
    have HI := Lib.hid (show ∀ k ∈ [x, y], PNOf ps k ∧ k.shapedB = true ∧ k.shortB = true ∧ k.size ≤ 400 from fun k hk => ⟨IH k hk, (kid_ok hs hz hk).1, kid_sh hsh hk, (kid_ok hs hz hk).2⟩)
    clear hTL hST hs hsh hz hX IH hin hks hkc hm hlx
    have cB := C.out.cB
    have c0 := C.out.c0
    have c1 := C.out.c1
    have c2 := C.out.c2
    go_wp2_with fail
    refine (NS.kid C.out 0 x rfl (HI.out x (by simp)).1 (HI.out x (by simp)).2.1 (HI.out x (by simp)).2.2.1 (HI.out x (by simp)).2.2.2 (by simp <;> omega) (by simp <;> omega)).mono ?_
    rintro r9 w5 ⟨rfl, h9⟩
    clear C cB c0 c1 c2
    have C := Lib.hid h9
    clear h9
    have cB := C.out.cB
    have c0 := C.out.c0
    have c1 := C.out.c1
    have c2 := C.out.c2
    go_wp2_with fail
    refine (NS.t2 C.out HP.out ⟨#[46]⟩ ⟨#[40]⟩ (by decide) (by decide) (by simp <;> omega)).mono ?_
    rintro r9 w6 ⟨rfl, h9⟩
    clear C cB c0 c1 c2
    have C := Lib.hid h9
    clear h9
    have cB := C.out.cB
    have c0 := C.out.c0
    have c1 := C.out.c1
    have c2 := C.out.c2
    go_wp2_with fail
    refine (NS.kid C.out 1 y rfl (HI.out y (by simp)).1 (HI.out y (by simp)).2.1 (HI.out y (by simp)).2.2.1 (HI.out y (by simp)).2.2.2 (by simp <;> omega) (by simp [spansAt_len] <;> omega)).mono ?_
    rintro r9 w7 ⟨rfl, h9⟩
    clear C cB c0 c1 c2
    have C := Lib.hid h9
    clear h9
    have cB := C.out.cB
    have c0 := C.out.c0
    have c1 := C.out.c1
    have c2 := C.out.c2
    go_wp2_with fail
    refine (NS.t1 C.out HP.out ⟨#[41]⟩ (by decide) (by simp <;> omega)).mono ?_
    rintro r9 w8 ⟨rfl, h9⟩
    clear C cB c0 c1 c2
    have C := Lib.hid h9
    clear h9
    have cB := C.out.cB
    have c0 := C.out.c0
    have c1 := C.out.c1
    have c2 := C.out.c2
    go_wp2_with fail
    obtain ⟨g9, c9, m9, v9, ⟨y1, y2⟩, ⟨hml, hm9⟩, ⟨hfz, u9, hu9⟩, k8, hD⟩ := C.out.fin (by simp [spansAt_len] <;> omega) HLS.out.2.2.2 HLS.out.2.2.1 HLS.out.1 HLS.out.2.1
    have K8 := Lib.hid k8
    have HD := Lib.hid hD
    have hmI : (out.length : Int) < (m9 : Int) := by omega
    clear k8 hD c0 c1 c2
    go_region_held3 (fun w' => w'.cell? ⟨W.heap.size, 0, none⟩ = some (.pointer (some ⟨pb, 0, none⟩)) ∧ w'.cell? ⟨pb, 1, none⟩ = some (.int .i64 v9) ∧ w'.cell? ⟨pb, 2, none⟩ = some (.slice (some ⟨g9, 0, none⟩) m9 c9)) (first | exact ⟨cB, y1, y2⟩ | exact K8.out) (fail)
    (try simp only [Exit.inBlock, Exit.then])
    refine bodyPost_ret (results_none rfl _ _ _) rfl ?_
    exact HD.out
  · -- key
    rw [hkc] at hm
    obtain rfl := kind_eq hkc (by decide) ⟨#[107, 101, 121]⟩ rfl
    replace hm : (tx.data.toList.isEmpty && ks.length == 2) = true := hm
    simp only [Bool.and_eq_true, beq_iff_eq] at hm
    obtain ⟨x, y, rfl⟩ := two_of hm.2
    have hlx := toks_len x (kid_ok hs hz (by simp)).1
    have hTL : Nd.toks ⟨(⟨#[107, 101, 121]⟩ : ByteArray), tx, ad, cp, [x, y]⟩ = ([] : List ByteArray) ++ x.toks ++ [(⟨#[58]⟩ : ByteArray)] ++ y.toks := by
      rw [toks_eq, hkc]
      simp [tokOf, t0]
    have hST : spansAt (posOf ps) i ⟨(⟨#[107, 101, 121]⟩ : ByteArray), tx, ad, cp, [x, y]⟩ = ((⟨#[107, 101, 121]⟩ : ByteArray), posOf ps i, endOf (posOf ps) i ⟨(⟨#[107, 101, 121]⟩ : ByteArray), tx, ad, cp, [x, y]⟩) :: (([] : List (ByteArray × Int × Int)) ++ spansAt (posOf ps) (i + (([] : List ByteArray)).length) x ++ spansAt (posOf ps) (i + (([] : List ByteArray) ++ x.toks ++ [(⟨#[58]⟩ : ByteArray)]).length) y) := by
      unfold spansAt
      rw [pre_eq, hkc]
      simp [starts, preL, selPre, hlx, Nat.add_assoc]
    rw [hTL] at hi
    simp only [List.length_append, List.length_cons, List.length_nil] at hi
    have HLS := Lib.hid (And.intro hTL.symm (And.intro hST (And.intro hs hX)))
    have hks := kinds_n ⟨(⟨#[107, 101, 121]⟩ : ByteArray), tx, ad, cp, [x, y]⟩ hkc
    simp only [List.map_cons, List.map_nil, List.sum_cons, List.sum_nil] at hks
    rw [hks] at ho
    have HI := Lib.hid (show ∀ k ∈ [x, y], PNOf ps k ∧ k.shapedB = true ∧ k.shortB = true ∧ k.size ≤ 400 from fun k hk => ⟨IH k hk, (kid_ok hs hz hk).1, kid_sh hsh hk, (kid_ok hs hz hk).2⟩)
    clear hTL hST hs hsh hz hX IH hin hks hkc hm hlx
    have cB := C.out.cB
    have c0 := C.out.c0
    have c1 := C.out.c1
    have c2 := C.out.c2
    go_wp2_with fail
    refine (NS.kid C.out 0 x rfl (HI.out x (by simp)).1 (HI.out x (by simp)).2.1 (HI.out x (by simp)).2.2.1 (HI.out x (by simp)).2.2.2 (by simp <;> omega) (by simp <;> omega)).mono ?_
    rintro r9 w5 ⟨rfl, h9⟩
    clear C cB c0 c1 c2
    have C := Lib.hid h9
    clear h9
    have cB := C.out.cB
    have c0 := C.out.c0
    have c1 := C.out.c1
    have c2 := C.out.c2
    go_wp2_with fail
    refine (NS.t1 C.out HP.out ⟨#[58]⟩ (by decide) (by simp <;> omega)).mono ?_
    rintro r9 w6 ⟨rfl, h9⟩
    clear C cB c0 c1 c2
    have C := Lib.hid h9
    clear h9
    have cB := C.out.cB
    have c0 := C.out.c0
    have c1 := C.out.c1
    have c2 := C.out.c2
    go_wp2_with fail
    refine (NS.kid C.out 1 y rfl (HI.out y (by simp)).1 (HI.out y (by simp)).2.1 (HI.out y (by simp)).2.2.1 (HI.out y (by simp)).2.2.2 (by simp <;> omega) (by simp [spansAt_len] <;> omega)).mono ?_
    rintro r9 w7 ⟨rfl, h9⟩
    clear C cB c0 c1 c2
    have C := Lib.hid h9
    clear h9
    have cB := C.out.cB
    have c0 := C.out.c0
    have c1 := C.out.c1
    have c2 := C.out.c2
    go_wp2_with fail
    obtain ⟨g9, c9, m9, v9, ⟨y1, y2⟩, ⟨hml, hm9⟩, ⟨hfz, u9, hu9⟩, k8, hD⟩ := C.out.fin (by simp [spansAt_len] <;> omega) HLS.out.2.2.2 HLS.out.2.2.1 HLS.out.1 HLS.out.2.1
    have K8 := Lib.hid k8
    have HD := Lib.hid hD
    have hmI : (out.length : Int) < (m9 : Int) := by omega
    clear k8 hD c0 c1 c2
    go_region_held3 (fun w' => w'.cell? ⟨W.heap.size, 0, none⟩ = some (.pointer (some ⟨pb, 0, none⟩)) ∧ w'.cell? ⟨pb, 1, none⟩ = some (.int .i64 v9) ∧ w'.cell? ⟨pb, 2, none⟩ = some (.slice (some ⟨g9, 0, none⟩) m9 c9)) (first | exact ⟨cB, y1, y2⟩ | exact K8.out) (fail)
    (try simp only [Exit.inBlock, Exit.then])
    refine bodyPost_ret (results_none rfl _ _ _) rfl ?_
    exact HD.out
  · -- map
    rw [hkc] at hm
    obtain rfl := kind_eq hkc (by decide) ⟨#[109, 97, 112]⟩ rfl
    replace hm : (tx.data.toList.isEmpty && ks.length == 2) = true := hm
    simp only [Bool.and_eq_true, beq_iff_eq] at hm
    obtain ⟨x, y, rfl⟩ := two_of hm.2
    have hlx := toks_len x (kid_ok hs hz (by simp)).1
    have hTL : Nd.toks ⟨(⟨#[109, 97, 112]⟩ : ByteArray), tx, ad, cp, [x, y]⟩ = ([] : List ByteArray) ++ [(⟨#[109, 97, 112]⟩ : ByteArray), (⟨#[91]⟩ : ByteArray)] ++ x.toks ++ [(⟨#[93]⟩ : ByteArray)] ++ y.toks := by
      rw [toks_eq, hkc]
      simp [tokOf, t0]
    have hST : spansAt (posOf ps) i ⟨(⟨#[109, 97, 112]⟩ : ByteArray), tx, ad, cp, [x, y]⟩ = ((⟨#[109, 97, 112]⟩ : ByteArray), posOf ps i, endOf (posOf ps) i ⟨(⟨#[109, 97, 112]⟩ : ByteArray), tx, ad, cp, [x, y]⟩) :: (([] : List (ByteArray × Int × Int)) ++ spansAt (posOf ps) (i + (([] : List ByteArray) ++ [(⟨#[109, 97, 112]⟩ : ByteArray), (⟨#[91]⟩ : ByteArray)]).length) x ++ spansAt (posOf ps) (i + (([] : List ByteArray) ++ [(⟨#[109, 97, 112]⟩ : ByteArray), (⟨#[91]⟩ : ByteArray)] ++ x.toks ++ [(⟨#[93]⟩ : ByteArray)]).length) y) := by
      unfold spansAt
      rw [pre_eq, hkc]
      simp [starts, preL, selPre, hlx, Nat.add_assoc]
      all_goals (congr 2; omega)
    rw [hTL] at hi
    simp only [List.length_append, List.length_cons, List.length_nil] at hi
    have HLS := Lib.hid (And.intro hTL.symm (And.intro hST (And.intro hs hX)))
    have hks := kinds_n ⟨(⟨#[109, 97, 112]⟩ : ByteArray), tx, ad, cp, [x, y]⟩ hkc
    simp only [List.map_cons, List.map_nil, List.sum_cons, List.sum_nil] at hks
    rw [hks] at ho
    have HI := Lib.hid (show ∀ k ∈ [x, y], PNOf ps k ∧ k.shapedB = true ∧ k.shortB = true ∧ k.size ≤ 400 from fun k hk => ⟨IH k hk, (kid_ok hs hz hk).1, kid_sh hsh hk, (kid_ok hs hz hk).2⟩)
    clear hTL hST hs hsh hz hX IH hin hks hkc hm hlx
    have cB := C.out.cB
    have c0 := C.out.c0
    have c1 := C.out.c1
    have c2 := C.out.c2
    go_wp2_with fail
    refine (NS.t2 C.out HP.out ⟨#[109, 97, 112]⟩ ⟨#[91]⟩ (by decide) (by decide) (by simp <;> omega)).mono ?_
    rintro r9 w5 ⟨rfl, h9⟩
    clear C cB c0 c1 c2
    have C := Lib.hid h9
    clear h9
    have cB := C.out.cB
    have c0 := C.out.c0
    have c1 := C.out.c1
    have c2 := C.out.c2
    go_wp2_with fail
    refine (NS.kid C.out 0 x rfl (HI.out x (by simp)).1 (HI.out x (by simp)).2.1 (HI.out x (by simp)).2.2.1 (HI.out x (by simp)).2.2.2 (by simp <;> omega) (by simp <;> omega)).mono ?_
    rintro r9 w6 ⟨rfl, h9⟩
    clear C cB c0 c1 c2
    have C := Lib.hid h9
    clear h9
    have cB := C.out.cB
    have c0 := C.out.c0
    have c1 := C.out.c1
    have c2 := C.out.c2
    go_wp2_with fail
    refine (NS.t1 C.out HP.out ⟨#[93]⟩ (by decide) (by simp <;> omega)).mono ?_
    rintro r9 w7 ⟨rfl, h9⟩
    clear C cB c0 c1 c2
    have C := Lib.hid h9
    clear h9
    have cB := C.out.cB
    have c0 := C.out.c0
    have c1 := C.out.c1
    have c2 := C.out.c2
    go_wp2_with fail
    refine (NS.kid C.out 1 y rfl (HI.out y (by simp)).1 (HI.out y (by simp)).2.1 (HI.out y (by simp)).2.2.1 (HI.out y (by simp)).2.2.2 (by simp <;> omega) (by simp [spansAt_len] <;> omega)).mono ?_
    rintro r9 w8 ⟨rfl, h9⟩
    clear C cB c0 c1 c2
    have C := Lib.hid h9
    clear h9
    have cB := C.out.cB
    have c0 := C.out.c0
    have c1 := C.out.c1
    have c2 := C.out.c2
    go_wp2_with fail
    obtain ⟨g9, c9, m9, v9, ⟨y1, y2⟩, ⟨hml, hm9⟩, ⟨hfz, u9, hu9⟩, k8, hD⟩ := C.out.fin (by simp [spansAt_len] <;> omega) HLS.out.2.2.2 HLS.out.2.2.1 HLS.out.1 HLS.out.2.1
    have K8 := Lib.hid k8
    have HD := Lib.hid hD
    have hmI : (out.length : Int) < (m9 : Int) := by omega
    clear k8 hD c0 c1 c2
    go_region_held3 (fun w' => w'.cell? ⟨W.heap.size, 0, none⟩ = some (.pointer (some ⟨pb, 0, none⟩)) ∧ w'.cell? ⟨pb, 1, none⟩ = some (.int .i64 v9) ∧ w'.cell? ⟨pb, 2, none⟩ = some (.slice (some ⟨g9, 0, none⟩) m9 c9)) (first | exact ⟨cB, y1, y2⟩ | exact K8.out) (fail)
    (try simp only [Exit.inBlock, Exit.then])
    refine bodyPost_ret (results_none rfl _ _ _) rfl ?_
    exact HD.out
end Go.Proofs.YtjbhjbpamnoebaaGreatFmt
