/-
  impl.Events: the function that it hands to Inspect, at nil; ast.inspector as a rule for Walk.
-/
import Derived.Test.YtlpnepgljdhpkaaGreatFmtOa
namespace Go.Proofs.YtlpnepgljdhpkaaGreatFmt
open Go.RowKit

set_option maxHeartbeats 4000000 in
set_option maxRecDepth 100000 in
theorem Ev_nil (st : ByteArray) (W0 : World) (ob sb lo hi : Nat) (out : List ByteArray) (W : World) (hbd : out.length < 5000) (ho : OutT W0 st ob sb lo hi out W) :
    Calls Tryz.prog 29 #[.nilIface, .pointer (some ⟨ob, 0, none⟩), .pointer (some ⟨sb, 0, none⟩)] W fun e w' =>
      (∃ b, e = .returned (.bool b)) ∧ OutT W0 st ob sb lo hi (out ++ [(⟨#[]⟩ : ByteArray)]) w' ∧ Kp lo hi W w' := by
  have H0 := Lib.hid (And.intro ho trivial)
  clear ho
  go_enter Tryz.func29, Tryz.ntmps29
  go_wp2_with fail
  refine (kindOf_nil _).mono ?_
  rintro e w1 ⟨rfl, hb0⟩
  have hb1 : Below W.heap.size W w1 := hb0 ▸ Below.refl _ _
  clear hb0
  have HO1 := Lib.hid (H0.out.1.next hb1)
  have HK1 := Lib.hid (show Kp lo hi W w1 from ⟨hb1.size, fun b _ h2 => hb1.block b (by have := H0.out.1.2.2.1.2.2.2.2.2; omega)⟩)
  clear hb1
  obtain ⟨_, _, hz, hst, A, cap, hob, hown⟩ := HO1.out
  have y0 : w1.cell? ⟨ob, 0, none⟩ = some (.slice A out.length cap) := hob.cell 0
  have y1 := hob.frozen 0
  have y2 : w1.cell? ⟨sb, 0, none⟩ = some (.string st) := hst.cell 0
  have HP := Lib.hid (And.intro hob (And.intro hst hown))
  obtain ⟨i0, hi9, hz90, hz91, hz92⟩ := info_parts infoT
  have hne := hz.2.2.2.1
  clear hob hst hown
  go_wp2_with (at_builtin; refine wpList_append_own_at _ rfl _ _ 34 rfl hi 9 i0 (.string ⟨#[]⟩) 1 16 underT hi9 hz90 hz91 hz92 rfl (by decide) _ _ (flatT out) rfl (own_keep HP.out.2.2 (fun g _ hg => Below.heap_alloc w1 _ g hg)) ⟨w1.heap.size, 0, none⟩ 1 1 [.string (⟨#[]⟩ : ByteArray)] rfl rfl (World.news_of_block (Blk.new w1 _ _)) (by intro u hu; simp at hu; subst hu; rfl) (by unfold maxLen; omega) (by omega) (by rw [World.size_alloc]; omega) ?_; intro v3 w3 hown hgr _ _; obtain ⟨A3, c3, rfl⟩ := own_formT hown; have z0 : w3.cell? ⟨ob, 0, none⟩ = some (.slice A out.length cap) := (HP.out.1.keep (ap_farT hgr (fun k hk => by have := own_ge HP.out.2.2 hk; omega) (by omega))).cell 0; have z1 := (HP.out.1.keep (ap_farT hgr (fun k hk => by have := own_ge HP.out.2.2 hk; omega) (by omega))).frozen 0; have z2 : w3.cell? ⟨sb, 0, none⟩ = some (.string st) := (HP.out.2.1.keep (ap_farT hgr (fun k hk => by have := own_ge HP.out.2.2 hk; omega) (by omega))).cell 0; have PU := Lib.hid (HO1.out.push (x := (⟨#[]⟩ : ByteArray)) HP.out.1 hown (grown_trans (World.grownBy_alloc w1 _ _) hgr)); clear hown hgr)
  go_ret
  exact ⟨⟨_, rfl⟩, PU.out.1, HK1.out.trans PU.out.2⟩

/-- A function that Inspect is handed: what it answers, what it has kept. -/
structure CS (lo hi : Nat) (P : Nat → Int) (go : List Ev → Bool) (fC : FuncId) (caps : Array Value) (Out : List Ev → List (Nd × Nat) → World → Prop) : Prop where
  ent : ∀ args w, Sem.run Tryz.prog (callFunc fC args) w = .ok (.enter fC args) w
  node : ∀ (d : List (Nd × Nat)) (out : List Ev) (w : World) (i : Nat) (n : Nd) (v : Value), n.shapedB = true → n.size ≤ 400 → d.length ≤ out.length ∧ out.length < 5000 → Out out d w → hi ≤ w.heap.size → ExR w (Rng lo hi) P i n v →
    Calls Tryz.prog fC (#[v] ++ caps) w fun e w' => e = .returned (.bool (go (out ++ [(some (n, i), d)]))) ∧ Out (out ++ [(some (n, i), d)]) (if go (out ++ [(some (n, i), d)]) = true then d ++ [(n, i)] else d) w' ∧ Kp lo hi w w'
  nil : ∀ (d : List (Nd × Nat)) (x : Nd × Nat) (out : List Ev) (w : World), (d ++ [x]).length ≤ out.length ∧ out.length < 5000 → Out out (d ++ [x]) w → hi ≤ w.heap.size →
    Calls Tryz.prog fC (#[.nilIface] ++ caps) w fun e w' => (∃ b, e = .returned (.bool b)) ∧ Out (out ++ [(none, d ++ [x])]) d w' ∧ Kp lo hi w w'
section
variable {lo hi : Nat} {P : Nat → Int} {go : List Ev → Bool} {fC : FuncId} {caps : Array Value} {Out : List Ev → List (Nd × Nat) → World → Prop}
set_option maxRecDepth 100000 in
theorem Insp_node (hC : CS lo hi P go fC caps Out) (d : List (Nd × Nat)) (out : List Ev) (w : World) (i : Nat) (n : Nd) (v : Value) (hs : n.shapedB = true) (hz : n.size ≤ 400) (hb : d.length ≤ out.length ∧ out.length < 5000) (ho : Out out d w) (hh : hi ≤ w.heap.size) (hX : ExR w (Rng lo hi) P i n v) :
    Calls Tryz.prog 262 #[.func (.func fC) #[] caps, v] w fun e w' => e = .returned (if go (out ++ [(some (n, i), d)]) = true then .iface 258 (.func (.func fC) #[] caps) else .nilIface) ∧ Out (out ++ [(some (n, i), d)]) (if go (out ++ [(some (n, i), d)]) = true then d ++ [(n, i)] else d) w' ∧ Kp lo hi w w' := by
  have hc := hC.node d out w i n v hs hz hb ho hh hX
  generalize go (out ++ [(some (n, i), d)]) = g at hc ⊢
  have HC := Lib.hid hc
  clear hc
  have hent := hC.ent
  clear ho hX hC
  go_enter Tryz.func262, Tryz.ntmps262
  go_wp2_with fail
  refine HC.out.mono ?_
  clear HC
  rintro e w1 ⟨rfl, h1, h2⟩
  have HR := Lib.hid (And.intro h1 h2)
  clear h1 h2
  cases g
  · go_wp2_with fail
    go_ret
    exact ⟨rfl, HR.out⟩
  · go_wp2_with fail
    go_ret
    exact ⟨rfl, HR.out⟩
set_option maxRecDepth 100000 in
theorem Insp_nil (hC : CS lo hi P go fC caps Out) (d : List (Nd × Nat)) (x : Nd × Nat) (out : List Ev) (w : World) (hb : (d ++ [x]).length ≤ out.length ∧ out.length < 5000) (ho : Out out (d ++ [x]) w) (hh : hi ≤ w.heap.size) :
    Calls Tryz.prog 262 #[.func (.func fC) #[] caps, .nilIface] w fun e w' => (∃ r, e = .returned r) ∧ Out (out ++ [(none, d ++ [x])]) d w' ∧ Kp lo hi w w' := by
  have HC := Lib.hid (hC.nil d x out w hb ho hh)
  have hent := hC.ent
  clear ho hC
  go_enter Tryz.func262, Tryz.ntmps262
  go_wp2_with fail
  refine HC.out.mono ?_
  clear HC
  rintro e w1 ⟨⟨b, rfl⟩, h1, h2⟩
  have HR := Lib.hid (And.intro h1 h2)
  clear h1 h2
  cases b
  · go_wp2_with fail
    go_ret
    exact ⟨⟨_, rfl⟩, HR.out⟩
  · go_wp2_with fail
    go_ret
    exact ⟨⟨_, rfl⟩, HR.out⟩
/-- ast.inspector as a rule for Walk. -/
theorem insp_vs (hC : CS lo hi P go fC caps Out) : VS lo hi P go 258 (fun _ => .func (.func fC) #[] caps) (fun _ => .func (.func fC) #[] caps) 262 Out where
  meth := fun d w => by kernel_rfl
  ent := fun args w => by kernel_rfl
  node := Insp_node hC
  nil := Insp_nil hC
end
/-- impl.Events's function as such a rule. -/
theorem events_cs (P : Nat → Int) (hN : ∀ n : Nd, n.shapedB = true → n.size ≤ 400 → NOf P n) (st : ByteArray) (W0 : World) (ob sb lo hi : Nat) :
    CS lo hi P (goStop st) 29 #[.pointer (some ⟨ob, 0, none⟩), .pointer (some ⟨sb, 0, none⟩)] (fun tr _ w => OutT W0 st ob sb lo hi (tr.map Ev.kd) w) where
  ent := fun args w => by kernel_rfl
  node := fun d out w i n v hs hz hb ho hh hX => by
    refine (Ev_node P st W0 ob sb lo hi (out.map Ev.kd) w i n v (hN n hs hz) (by rw [List.length_map]; exact hb.2) ho hX).mono ?_
    rintro e w' ⟨rfl, h1, h2⟩
    refine ⟨by rw [goStop_at], ?_, h2⟩
    rw [List.map_append]
    exact h1
  nil := fun d x out w hb ho hh => by
    refine (Ev_nil st W0 ob sb lo hi (out.map Ev.kd) w (by rw [List.length_map]; exact hb.2) ho).mono ?_
    rintro e w' ⟨he, h1, h2⟩
    refine ⟨he, ?_, h2⟩
    rw [List.map_append]
    exact h1
theorem run_kds (st : ByteArray) (n : Nd) (i : Nat) : (n.run (goStop st) [] i []).map Ev.kd = (n.evs st 0).map (·.1) := by
  have h := run_evs st n [] i []
  rw [List.map_nil, List.nil_append, List.length_nil] at h
  rw [← h, List.map_map]
  rfl
end Go.Proofs.YtlpnepgljdhpkaaGreatFmt
