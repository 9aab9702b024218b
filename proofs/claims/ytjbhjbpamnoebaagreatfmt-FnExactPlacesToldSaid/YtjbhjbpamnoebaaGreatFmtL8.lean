/-
  impl.Events: the function that it hands to Inspect.
  impl.Events: the function that it hands to Inspect, at nil; ast.inspector as a rule for Walk.
  ast.Inspect; impl.Events: the kinds with which Inspect of the expression of a tree calls.
-/
import Derived.Test.YtjbhjbpamnoebaaGreatFmtK8
import Derived.Test.YtjbhjbpamnoebaaGreatFmtK16
import Derived.Deep.AppendLies
import Derived.Test.YtjbhjbpamnoebaaGreatFmtK19
import Derived.Test.YtjbhjbpamnoebaaGreatFmtK15
import Derived.Test.YtjbhjbpamnoebaaGreatFmtK7
import Derived.Test.YtjbhjbpamnoebaaGreatFmtK21
namespace Go.Proofs.YtjbhjbpamnoebaaGreatFmt
open Go.RowKit

theorem infoT : (Tryz.prog.info? 9).map (fun i => (i.zero, i.size, i.bytes)) = some (some (.string ⟨#[]⟩), 1, 16) := by kernel_rfl
theorem underT : Tryz.prog.underlying 36 = some (.slice 9) := by kernel_rfl
/-- The cells of a row of texts. -/
def flatT (l : List ByteArray) : List Value := l.map .string
theorem flatT_append (a b : List ByteArray) : flatT (a ++ b) = flatT a ++ flatT b := by simp [flatT]
/-- What the function has kept: in the variable in block ob, its row behind hi; the text in block sb. -/
def OutT (W0 : World) (st : ByteArray) (ob sb lo hi : Nat) (out : List ByteArray) (w : World) : Prop :=
  Below W0.heap.size W0 w ∧ TokTab W0 ∧ (W0.heap.size ≤ ob ∧ ob < lo ∧ sb < lo ∧ sb ≠ ob ∧ lo ≤ hi ∧ hi ≤ w.heap.size) ∧ Blk w sb 9 #[.string st] ∧ ∃ A cap, Blk w ob 36 #[.slice A out.length cap] ∧ w.ownsRow hi 9 1 (.slice A out.length cap) out.length (flatT out)
section
variable {W0 w w' : World} {st : ByteArray} {ob sb lo hi : Nat} {out : List ByteArray}
theorem OutT.next (h : OutT W0 st ob sb lo hi out w) (hb : Below w.heap.size w w') : OutT W0 st ob sb lo hi out w' := by
  obtain ⟨h1, h2, h3, h4, A, cap, h7, h8⟩ := h
  have hs := hb.size
  exact ⟨h1.trans (hb.mono h1.size), h2, ⟨h3.1, h3.2.1, h3.2.2.1, h3.2.2.2.1, h3.2.2.2.2.1, by omega⟩, h4.below hb h4.lt, A, cap, h7.below hb h7.lt, own_keep h8 fun g _ hg => hb.block g hg⟩
theorem OutT.tok (h : OutT W0 st ob sb lo hi out w) : TokTab w := h.2.1.below h.1
theorem OutT.push (h : OutT W0 st ob sb lo hi out w) {v' : Value} {x : ByteArray} {sv : Value} (hsv : Blk w ob 36 #[sv])
    (hown : w'.ownsRow hi 9 1 v' (out.length + 1) (flatT out ++ [.string x])) (hg : w.grownBy w' sv.ownBlock) : OutT W0 st ob sb lo hi (out ++ [x]) (w'.setCell ⟨ob, 0, none⟩ v') ∧ Kp lo hi w (w'.setCell ⟨ob, 0, none⟩ v') := by
  obtain ⟨h1, h2, ⟨h3, h4, h40, h41, h5, h6⟩, h42, A, cap, h7, h8⟩ := h
  have he : some (Obj.cells #[Value.slice A out.length cap] 36 (0, 0)) = some (.cells #[sv] 36 (0, 0)) := h7.symm.trans hsv
  obtain rfl : sv = .slice A out.length cap := by
    have := Option.some.inj he
    simp only [Obj.cells.injEq] at this
    simpa using this.1.symm
  have hs := hg.size
  have hrow : ∀ g, (Value.slice A out.length cap).ownBlock = some g → hi ≤ g ∧ g < w.heap.size := fun g hg' => own_ge h8 hg'
  have hkeep : ∀ b, b < hi → w'.heap[b]? = w.heap[b]? := fun b hb => hg.block b (by omega) (fun e => by have := (hrow b e.symm).1; omega)
  have hbw : Below W0.heap.size W0 w' := h1.trans ⟨hg.os, hg.tape, hg.output, hg.size, fun b hb => hkeep b (by omega)⟩
  obtain ⟨A', cap', rfl⟩ : ∃ A' cap', v' = .slice A' (out.length + 1) cap' := by
    obtain ⟨_, ⟨rfl, hn⟩ | ⟨g, c, cur, rfl, _⟩⟩ := hown
    · omega
    · exact ⟨_, c, rfl⟩
  have hblk' : Blk w' ob 36 #[.slice A out.length cap] := h7.keep (hkeep ob (by omega))
  have hlen : (out ++ [x]).length = out.length + 1 := by simp
  refine ⟨⟨hbw.setCell h3 _, h2, ⟨h3, h4, h40, h41, h5, by simp [World.setCell]; omega⟩, (h42.keep (hkeep sb (by omega))).far (by show sb ≠ ob; omega) _, A', cap', ?_, ?_⟩, by simp [World.setCell]; omega, fun b hb1 hb2 => ?_⟩
  · rw [hlen]
    exact hblk'.set_ 0 (.slice A' (out.length + 1) cap')
  · rw [hlen, flatT_append]
    obtain ⟨h0, ⟨he', hn⟩ | ⟨g, c, cur, he', k1, k2, k3⟩⟩ := hown
    · omega
    · refine ⟨h0, .inr ⟨g, c, cur, he', k1, (Below.heap_setCell _ _ _ _ (by show g ≠ ob; omega)).trans k2, k3⟩⟩
  · rw [Below.heap_setCell _ _ _ _ (by show b ≠ ob; omega)]
    exact hkeep b hb2
end
theorem own_formT {w : World} {base k n : Nat} {t : TypeId} {v : Value} {xs : List Value} (h : w.ownsRow base k t v n xs) : ∃ A c, v = .slice A n c := by
  obtain ⟨_, ⟨rfl, hn⟩ | ⟨g, c, cur, rfl, _⟩⟩ := h
  · exact ⟨none, 0, by rw [hn]⟩
  · exact ⟨_, c, rfl⟩
theorem ap_farT {w w' : World} {g : Nat} {sv : Value} {o : Obj} (hg : (w.alloc o).grownBy w' sv.ownBlock) (hb : ∀ k, sv.ownBlock = some k → k ≠ g) (hlt : g < w.heap.size) : w'.heap[g]? = w.heap[g]? :=
  (hg.block g (by rw [World.size_alloc]; omega) (fun e => hb g e.symm rfl)).trans (Below.heap_alloc w o g hlt)
end Go.Proofs.YtjbhjbpamnoebaaGreatFmt

namespace Go.Proofs.YtjbhjbpamnoebaaGreatFmt
open Go.RowKit

/-- A function that Inspect is handed: what it answers, what it has kept. -/
structure CS (lo hi : Nat) (P : Nat → Int) (go : List Ev → Bool) (fC : FuncId) (caps : Array Value) (Out : List Ev → List (Nd × Nat) → World → Prop) : Prop where
  ent : ∀ args w, Sem.run Tryz.prog (callFunc fC args) w = .ok (.enter fC args) w
  node : ∀ (d : List (Nd × Nat)) (out : List Ev) (w : World) (i : Nat) (n : Nd) (v : Value), n.shapedB = true → n.size ≤ 400 → d.length ≤ out.length ∧ out.length < 5000 → Out out d w → hi ≤ w.heap.size → ExR w (Rng lo hi) P i n v →
    Calls Tryz.prog fC (#[v] ++ caps) w fun e w' => e = .returned (.bool (go (out ++ [(some (n, i), d)]))) ∧ Out (out ++ [(some (n, i), d)]) (if go (out ++ [(some (n, i), d)]) = true then d ++ [(n, i)] else d) w' ∧ Kp lo hi w w'
  nil : ∀ (d : List (Nd × Nat)) (x : Nd × Nat) (out : List Ev) (w : World), (d ++ [x]).length ≤ out.length ∧ out.length < 5000 → Out out (d ++ [x]) w → hi ≤ w.heap.size →
    Calls Tryz.prog fC (#[.nilIface] ++ caps) w fun e w' => (∃ b, e = .returned (.bool b)) ∧ Out (out ++ [(none, d ++ [x])]) d w' ∧ Kp lo hi w w'
section
variable {lo hi : Nat} {P : Nat → Int} {go : List Ev → Bool} {fC : FuncId} {caps : Array Value} {Out : List Ev → List (Nd × Nat) → World → Prop}
set_option maxRecDepth 100000 in
theorem Insp_node (hC : CS lo hi P go fC caps Out) (d : List (Nd × Nat)) (out : List Ev) (w : World) (i : Nat) (n : Nd) (v : Value) (hs : n.shapedB = true) (hz : n.size ≤ 400) (hb : d.length ≤ out.length ∧ out.length < 5000) (ho : Out out d w) (hh : hi ≤ w.heap.size) (hX : ExR w (Rng lo hi) P i n v) :
    Calls Tryz.prog 265 #[.func (.func fC) #[] caps, v] w fun e w' => e = .returned (if go (out ++ [(some (n, i), d)]) = true then .iface 276 (.func (.func fC) #[] caps) else .nilIface) ∧ Out (out ++ [(some (n, i), d)]) (if go (out ++ [(some (n, i), d)]) = true then d ++ [(n, i)] else d) w' ∧ Kp lo hi w w' := by
  have hc := hC.node d out w i n v hs hz hb ho hh hX
  generalize go (out ++ [(some (n, i), d)]) = g at hc ⊢
  have HC := Lib.hid hc
  clear hc
  have hent := hC.ent
  clear ho hX hC
  go_enter Tryz.func265, Tryz.ntmps265
  go_wp2_with fail
  refine HC.out.mono ?_
  clear HC
  rintro e w1 ⟨rfl, h1, h2⟩
  have HR := Lib.hid (And.intro h1 h2)
  clear h1 h2
  cases g
  · go_wp2_with fail
    go_ret
    exact ⟨rfl, HR.out⟩
  · go_wp2_with fail
    go_ret
    exact ⟨rfl, HR.out⟩
set_option maxRecDepth 100000 in
theorem Insp_nil (hC : CS lo hi P go fC caps Out) (d : List (Nd × Nat)) (x : Nd × Nat) (out : List Ev) (w : World) (hb : (d ++ [x]).length ≤ out.length ∧ out.length < 5000) (ho : Out out (d ++ [x]) w) (hh : hi ≤ w.heap.size) :
    Calls Tryz.prog 265 #[.func (.func fC) #[] caps, .nilIface] w fun e w' => (∃ r, e = .returned r) ∧ Out (out ++ [(none, d ++ [x])]) d w' ∧ Kp lo hi w w' := by
  have HC := Lib.hid (hC.nil d x out w hb ho hh)
  have hent := hC.ent
  clear ho hC
  go_enter Tryz.func265, Tryz.ntmps265
  go_wp2_with fail
  refine HC.out.mono ?_
  clear HC
  rintro e w1 ⟨⟨b, rfl⟩, h1, h2⟩
  have HR := Lib.hid (And.intro h1 h2)
  clear h1 h2
  cases b
  · go_wp2_with fail
    go_ret
    exact ⟨⟨_, rfl⟩, HR.out⟩
  · go_wp2_with fail
    go_ret
    exact ⟨⟨_, rfl⟩, HR.out⟩
/-- ast.inspector as a rule for Walk. -/
theorem insp_vs (hC : CS lo hi P go fC caps Out) : VS lo hi P go 276 (fun _ => .func (.func fC) #[] caps) (fun _ => .func (.func fC) #[] caps) 265 Out where
  meth := fun d w => by kernel_rfl
  ent := fun args w => by kernel_rfl
  node := Insp_node hC
  nil := Insp_nil hC
end
theorem run_kds (st : ByteArray) (n : Nd) (i : Nat) : (n.run (goStop st) [] i []).map Ev.kd = (n.evs st 0).map (·.1) := by
  have h := run_evs st n [] i []
  rw [List.map_nil, List.nil_append, List.length_nil] at h
  rw [← h, List.map_map]
  rfl
end Go.Proofs.YtjbhjbpamnoebaaGreatFmt

namespace Go.Proofs.YtjbhjbpamnoebaaGreatFmt
open Go.RowKit

section
variable {lo hi : Nat} {P : Nat → Int} {go : List Ev → Bool} {fC : FuncId} {caps : Array Value} {Out : List Ev → List (Nd × Nat) → World → Prop}
set_option maxRecDepth 100000 in
theorem inspect_any (hC : CS lo hi P go fC caps Out) (n : Nd) (hs : n.shapedB = true) (hz : n.size ≤ 400) (w : World) (i : Nat) (v : Value) (ho : Out [] [] w) (hh : hi ≤ w.heap.size) (hX : ExR w (Rng lo hi) P i n v) :
    Calls Tryz.prog 43 #[v, .func (.func fC) #[] caps] w fun e w' => e = .returned (.tuple #[]) ∧ Out (n.run go [] i []) [] w' ∧ Kp lo hi w w' := by
  have hl := run_len go n [] i []
  have HC := Lib.hid (walk_any (insp_vs hC) n hs hz [] [] w i v ⟨Nat.le_refl _, by rw [List.length_nil] at hl; omega⟩ ho hh hX)
  obtain ⟨q, c, rfl⟩ := hX.form
  clear ho hX hC hl
  go_enter Tryz.func43, Tryz.ntmps43
  go_wp2_with fail
  refine HC.out.mono ?_
  clear HC
  rintro e w1 ⟨rfl, h1, h2⟩
  have HR := Lib.hid (And.intro h1 h2)
  clear h1 h2
  go_wp2_with fail
  go_end0
  exact ⟨rfl, HR.out⟩
end
def EvPost (W : World) (l : List ByteArray) (e : Ending) (w : World) : Prop := ∃ A cap, e = .returned (.slice A l.length cap) ∧ w.ownsRow W.heap.size 9 1 (.slice A l.length cap) l.length (flatT l) ∧ Below W.heap.size W w
theorem posOf_ni (j : Nat) : posOf [] j ≠ 0 := by
  unfold posOf
  simp
theorem own_lowT {w : World} {base base' : Nat} {e : TypeId} {size : Nat} {v : Value} {n : Nat} {xs : List Value} (h : w.ownsRow base e size v n xs) (hb : base' ≤ base) : w.ownsRow base' e size v n xs := by
  obtain ⟨h0, h1 | ⟨g, c, cur, he, k1, k2, k3⟩⟩ := h
  · exact ⟨h0, .inl h1⟩
  · exact ⟨h0, .inr ⟨g, c, cur, he, Nat.le_trans hb k1, k2, k3⟩⟩
end Go.Proofs.YtjbhjbpamnoebaaGreatFmt
