/-
  builder.expr, kind by kind (laid by gen/ep2.py).
-/
import Derived.Test.YtnpnmfblcogkmaaDoorSt
namespace Go.Proofs.YtnpnmfblcogkmaaDoor
open Go.RowKit

theorem St.alloc {W w : World} {bb : Nat} {ps : List Int} {n : Nd} {b : Nat} {t : TypeId} {cs : Array Value} {j : Nat} {es : List (Nat × Nd × Value)} (h : St W bb ps n b t cs j es w) (o : Obj) : St W bb ps n b t cs j es (w.alloc o) :=
  h.next (h.1.alloc o).bat (World.grownBy_alloc w o _)
theorem sel_cell {W w : World} {bb : Nat} {ps : List Int} {n : Nd} {b : Nat} {t : TypeId} {u v : Value} {j : Nat} {es : List (Nat × Nd × Value)} (h : St W bb ps n b t #[u, v] j es w) (o : Obj) : (w.alloc o).cell? ⟨b, 1, none⟩ = some v := (h.alloc o).cell 1

set_option maxRecDepth 100000 in
theorem expr_select (ps : List Int) (tx : ByteArray) (ad : Option Addr) (cp : Nat) (x : Nd) (IHx : EOf ps x) : EOf ps ⟨⟨#[115, 101, 108, 101, 99, 116]⟩, tx, ad, cp, [x]⟩ := by
  intro W bb i hB hin
  have C0 : Ctx W bb ps ⟨⟨#[115, 101, 108, 101, 99, 116]⟩, tx, ad, cp, [x]⟩ i ((W.alloc (.cells #[.pointer (some ⟨bb, 0, none⟩)] 111)).alloc (.cells #[.string ⟨#[115, 101, 108, 101, 99, 116]⟩, .string tx, .slice ad 1 cp] 32)) := Ctx.start hB hin
  show Calls _ _ #[_, .agg #[.string ⟨#[115, 101, 108, 101, 99, 116]⟩, .string tx, .slice ad 1 cp]] W _
  have cB := C0.cellB
  have cK := C0.cellK
  have cT := C0.cellT
  have T0 := Lib.hid C0.st
  have Ix := Lib.hid IHx
  clear C0 IHx hB hin
  go_enter Tryd.func35, Tryd.ntmps35
  go_wp2_with fail
  clear cK
  refine (kid_any ps _ W _ bb (i) T0.out.ctx 0 x rfl Ix.out).mono ?_
  rintro e w1 ⟨vx, rfl, hE, hB, hg⟩
  obtain ⟨qx, cx, rfl⟩ := hE.form
  have T1 := Lib.hid (T0.out.kid hE hB hg)
  clear hE hB hg cB
  have hz := T1.out.ctx.size
  have cB := T1.out.ctx.cellB
  have cA := fun o => (T1.out.ctx.alloc o).cellB
  go_wp2_with fail
  clear cA
  have T2 := Lib.hid (T1.out.box 79 #[.iface qx (.pointer (some ⟨cx, 0, none⟩)), .pointer none])
  have hsz2 := T1.out.ctx.size
  refine (next_any _ bb ps (i + x.ntok) T2.out.ctx.bat).mono ?_
  rintro e w3 ⟨rfl, hB, hg⟩
  have T3 := Lib.hid (T2.out.next hB hg)
  clear hB hg cB hz
  have hz := T3.out.ctx.size
  have cB := T3.out.ctx.cellB
  have cT := T3.out.ctx.cellT
  go_wp2_with fail
  go_region_held3 (fun w' => w'.cell? ⟨W.heap.size, 0, none⟩ = some (.pointer (some ⟨bb, 0, none⟩)) ∧ w'.cell? ⟨W.heap.size + 1, 1, none⟩ = some (.string tx)) (first | with_reducible exact ⟨((T4.out.alloc _).set_ _ _).ctx.cellB, ((T4.out.alloc _).set_ _ _).ctx.cellT⟩ | with_reducible exact ⟨(T4.out.alloc _).ctx.cellB, (T4.out.alloc _).ctx.cellT⟩ | with_reducible exact ⟨T4.out.ctx.cellB, T4.out.ctx.cellT⟩ | with_reducible exact ⟨T3.out.drew.ctx.cellB, T3.out.drew.ctx.cellT⟩) (first | (go_at_call 40; refine (next_any _ bb ps (i + x.ntok + 1) T3.out.drew.ctx.bat).mono ?_; rintro e w4 ⟨rfl, hB, hg⟩; have T4 := Lib.hid (T3.out.drew.next hB hg); have ck := fun o => sel_cell T4.out o; have fk := fun o => (T4.out.alloc o).frozen 1; clear hB hg))
  have hI := Lib.hid ((Blk.new w4 60 #[int (posOf ps (i + x.ntok + 1)), .string tx, .pointer none]).far (p := ⟨w1.heap.size, 1, none⟩) (Nat.ne_of_gt T4.out.blk.lt) (.pointer (some ⟨w4.heap.size, 0, none⟩)))
  have T5 := Lib.hid ((T4.out.alloc (.cells #[int (posOf ps (i + x.ntok + 1)), .string tx, .pointer none] 60)).set_ 1 (.pointer (some ⟨w4.heap.size, 0, none⟩)))
  clear cB cT hz
  go_wp2_with fail
  go_ret
  have hn : Nd.ntok ⟨⟨#[115, 101, 108, 101, 99, 116]⟩, tx, ad, cp, [x]⟩ = 2 + (x.ntok + 0) := Nd.ntok_of 6 rfl
  refine St.done T5.out (by rw [hn] <;> omega) (ExR.mk 6 rfl (vs := [.iface qx (.pointer (some ⟨cx, 0, none⟩))]) ?_ ?_)
  · exact ⟨T5.out.ex (by simp), trivial⟩
  · refine ⟨_, T5.out.own, rfl, w4.heap.size, ⟨by have := T4.out.ctx.size; omega, hI.out.lt⟩, T5.out.blk, hI.out⟩
end Go.Proofs.YtnpnmfblcogkmaaDoor
