/-
  builder.expr, kind by kind (laid by gen/ep2.py).
-/
import Derived.Test.YtnpnmfblcogkmaaDoorSt
namespace Go.Proofs.YtnpnmfblcogkmaaDoor
open Go.RowKit

set_option maxRecDepth 100000 in
theorem expr_name (ps : List Int) (tx : ByteArray) (ad : Option Addr) (cp : Nat) : EOf ps ⟨⟨#[110, 97, 109, 101]⟩, tx, ad, cp, []⟩ := by
  intro W bb i hB hin
  have C0 : Ctx W bb ps ⟨⟨#[110, 97, 109, 101]⟩, tx, ad, cp, []⟩ i ((W.alloc (.cells #[.pointer (some ⟨bb, 0, none⟩)] 111)).alloc (.cells #[.string ⟨#[110, 97, 109, 101]⟩, .string tx, .slice ad 0 cp] 32)) := Ctx.start hB hin
  show Calls _ _ #[_, .agg #[.string ⟨#[110, 97, 109, 101]⟩, .string tx, .slice ad 0 cp]] W _
  have cB := C0.cellB
  have cK := C0.cellK
  have cT := C0.cellT
  have T0 := Lib.hid C0.st
  clear C0  hB hin
  go_enter Tryd.func35, Tryd.ntmps35
  go_wp2_with fail
  clear cK
  go_region_held3 (fun w' => w'.cell? ⟨W.heap.size, 0, none⟩ = some (.pointer (some ⟨bb, 0, none⟩)) ∧ w'.cell? ⟨W.heap.size + 1, 1, none⟩ = some (.string tx)) (first | with_reducible exact ⟨(T1.out.ctx.alloc _).cellB, (T1.out.ctx.alloc _).cellT⟩ | with_reducible exact ⟨T1.out.ctx.cellB, T1.out.ctx.cellT⟩ | with_reducible exact ⟨T0.out.drew.ctx.cellB, T0.out.drew.ctx.cellT⟩) (first | (go_at_call 40; refine (next_any _ bb ps (i) T0.out.drew.ctx.bat).mono ?_; rintro e w1 ⟨rfl, hB, hg⟩; have T1 := Lib.hid (T0.out.drew.next hB hg); clear hB hg))
  have T2 := Lib.hid (T1.out.box 60 #[int (posOf ps i), .string tx, .pointer none])
  have hsz2 := T1.out.ctx.size
  clear cB cT
  have cB := T2.out.ctx.cellB
  go_wp2_with fail
  go_ret
  have hn : Nd.ntok ⟨⟨#[110, 97, 109, 101]⟩, tx, ad, cp, []⟩ = 1 + 0 := Nd.ntok_of 0 rfl
  refine St.done T2.out (by rw [hn] <;> omega) (ExR.mk 0 rfl (vs := []) ?_ ?_)
  · trivial
  · refine ⟨_, T2.out.own, rfl, ?_⟩
    show Blk _ _ 60 #[int (posOf ps i), .string tx, .pointer none]
    exact T2.out.blk

set_option maxRecDepth 100000 in
theorem expr_literal (ps : List Int) (tx : ByteArray) (ad : Option Addr) (cp : Nat) (hps : ∀ i, 0 ≤ posOf ps i ∧ posOf ps i ≤ 4611686018427387904) (htx : tx.size ≤ 1048576) : EOf ps ⟨⟨#[108, 105, 116, 101, 114, 97, 108]⟩, tx, ad, cp, []⟩ := by
  intro W bb i hB hin
  have C0 : Ctx W bb ps ⟨⟨#[108, 105, 116, 101, 114, 97, 108]⟩, tx, ad, cp, []⟩ i ((W.alloc (.cells #[.pointer (some ⟨bb, 0, none⟩)] 111)).alloc (.cells #[.string ⟨#[108, 105, 116, 101, 114, 97, 108]⟩, .string tx, .slice ad 0 cp] 32)) := Ctx.start hB hin
  show Calls _ _ #[_, .agg #[.string ⟨#[108, 105, 116, 101, 114, 97, 108]⟩, .string tx, .slice ad 0 cp]] W _
  have cB := C0.cellB
  have cK := C0.cellK
  have cT := C0.cellT
  have hp1 := (hps i).1
  have hp2 := (hps i).2
  have ht1 : (tx.size : Int) ≤ 1048576 := by omega
  clear hps
  have T0 := Lib.hid C0.st
  clear C0  hB hin
  go_enter Tryd.func35, Tryd.ntmps35
  go_wp2_with fail
  clear cK
  refine (next_any _ bb ps (i) T0.out.ctx.bat).mono ?_
  rintro e w1 ⟨rfl, hB, hg⟩
  have T1 := Lib.hid (T0.out.next hB hg)
  clear hB hg cB
  have hz := T1.out.ctx.size
  have cB := T1.out.ctx.cellB
  have cT := T1.out.ctx.cellT
  go_wp2_with fail
  have T2 := Lib.hid (T1.out.box 63 #[int (posOf ps i), int (posOf ps i + tx.size), int 5, .string tx])
  have hsz2 := T1.out.ctx.size
  go_ret
  have hn : Nd.ntok ⟨⟨#[108, 105, 116, 101, 114, 97, 108]⟩, tx, ad, cp, []⟩ = 1 + 0 := Nd.ntok_of 1 rfl
  refine St.done T2.out (by rw [hn] <;> omega) (ExR.mk 1 rfl (vs := []) ?_ ?_)
  · trivial
  · refine ⟨_, T2.out.own, rfl, ?_⟩
    show Blk _ _ 63 #[int (posOf ps i), int (posOf ps i + tx.size), int 5, .string tx]
    exact T2.out.blk

set_option maxRecDepth 100000 in
theorem expr_array1 (ps : List Int) (tx : ByteArray) (ad : Option Addr) (cp : Nat) (x : Nd) (IHx : EOf ps x) : EOf ps ⟨⟨#[97, 114, 114, 97, 121]⟩, tx, ad, cp, [x]⟩ := by
  intro W bb i hB hin
  have C0 : Ctx W bb ps ⟨⟨#[97, 114, 114, 97, 121]⟩, tx, ad, cp, [x]⟩ i ((W.alloc (.cells #[.pointer (some ⟨bb, 0, none⟩)] 111)).alloc (.cells #[.string ⟨#[97, 114, 114, 97, 121]⟩, .string tx, .slice ad 1 cp] 32)) := Ctx.start hB hin
  show Calls _ _ #[_, .agg #[.string ⟨#[97, 114, 114, 97, 121]⟩, .string tx, .slice ad 1 cp]] W _
  have cB := C0.cellB
  have cK := C0.cellK
  have cS := C0.cellS
  simp only [List.length_cons, List.length_nil, Nat.zero_add] at cS
  have T0 := Lib.hid C0.st
  have Ix := Lib.hid IHx
  clear C0 IHx hB hin
  go_enter Tryd.func35, Tryd.ntmps35
  go_wp2_with fail
  clear cK
  refine (next_any _ bb ps (i) T0.out.ctx.bat).mono ?_
  rintro e w1 ⟨rfl, hB, hg⟩
  have T1 := Lib.hid (T0.out.next hB hg)
  clear hB hg cB
  have hz := T1.out.ctx.size
  have cB := T1.out.ctx.cellB
  have cS := T1.out.ctx.cellS
  simp only [List.length_cons, List.length_nil, Nat.zero_add] at cS
  have cA := fun o => (T1.out.ctx.alloc o).cellB
  go_wp2_with fail
  clear cA
  have T2 := Lib.hid (T1.out.box 105 #[int (posOf ps i), .nilIface, .nilIface])
  have hsz2 := T1.out.ctx.size
  refine (next_any _ bb ps (i + 1) T2.out.ctx.bat).mono ?_
  rintro e w3 ⟨rfl, hB, hg⟩
  have T3 := Lib.hid (T2.out.next hB hg)
  clear hB hg cB hz cS
  have hz := T3.out.ctx.size
  have cB := T3.out.ctx.cellB
  have cS := T3.out.ctx.cellS
  simp only [List.length_cons, List.length_nil, Nat.zero_add] at cS
  go_wp2_with fail
  refine (kid_any ps _ W _ bb (i + 1 + 1) T3.out.ctx 0 x rfl Ix.out).mono ?_
  rintro e w4 ⟨vx, rfl, hE, hB, hg⟩
  obtain ⟨qx, cx, rfl⟩ := hE.form
  have T4 := Lib.hid (T3.out.kid hE hB hg)
  clear hE hB hg cB hz cS
  have hz := T4.out.ctx.size
  have cB := T4.out.ctx.cellB
  have ck := T4.out.cell 2
  have fk := T4.out.frozen 2
  simp at ck
  go_wp2_with fail
  have T5 := Lib.hid (T4.out.set_ 2 (.iface qx (.pointer (some ⟨cx, 0, none⟩))))
  go_ret
  have hn : Nd.ntok ⟨⟨#[97, 114, 114, 97, 121]⟩, tx, ad, cp, [x]⟩ = 2 + (x.ntok + 0) := Nd.ntok_of 14 rfl
  refine St.done T5.out (by rw [hn] <;> omega) (ExR.mk 14 rfl (vs := [.iface qx (.pointer (some ⟨cx, 0, none⟩))]) ?_ ?_)
  · exact ⟨T5.out.ex (by simp), trivial⟩
  · refine ⟨_, T5.out.own, rfl, ?_⟩
    show Blk _ _ 105 #[int (posOf ps i), .nilIface, .iface qx (.pointer (some ⟨cx, 0, none⟩))]
    exact T5.out.blk

set_option maxRecDepth 100000 in
theorem expr_array2 (ps : List Int) (tx : ByteArray) (ad : Option Addr) (cp : Nat) (x : Nd) (y : Nd) (IHx : EOf ps x) (IHy : EOf ps y) : EOf ps ⟨⟨#[97, 114, 114, 97, 121]⟩, tx, ad, cp, [x, y]⟩ := by
  intro W bb i hB hin
  have C0 : Ctx W bb ps ⟨⟨#[97, 114, 114, 97, 121]⟩, tx, ad, cp, [x, y]⟩ i ((W.alloc (.cells #[.pointer (some ⟨bb, 0, none⟩)] 111)).alloc (.cells #[.string ⟨#[97, 114, 114, 97, 121]⟩, .string tx, .slice ad 2 cp] 32)) := Ctx.start hB hin
  show Calls _ _ #[_, .agg #[.string ⟨#[97, 114, 114, 97, 121]⟩, .string tx, .slice ad 2 cp]] W _
  have cB := C0.cellB
  have cK := C0.cellK
  have cS := C0.cellS
  simp only [List.length_cons, List.length_nil, Nat.zero_add, Nat.reduceAdd] at cS
  have T0 := Lib.hid C0.st
  have Ix := Lib.hid IHx
  have Iy := Lib.hid IHy
  clear C0 IHx IHy hB hin
  go_enter Tryd.func35, Tryd.ntmps35
  go_wp2_with fail
  clear cK
  refine (next_any _ bb ps (i) T0.out.ctx.bat).mono ?_
  rintro e w1 ⟨rfl, hB, hg⟩
  have T1 := Lib.hid (T0.out.next hB hg)
  clear hB hg cB
  have hz := T1.out.ctx.size
  have cB := T1.out.ctx.cellB
  have cS := T1.out.ctx.cellS
  simp only [List.length_cons, List.length_nil, Nat.zero_add, Nat.reduceAdd] at cS
  go_wp2_with fail
  have T2 := Lib.hid (T1.out.box 105 #[int (posOf ps i), .nilIface, .nilIface])
  have hsz2 := T1.out.ctx.size
  refine (kid_any ps _ W _ bb (i + 1) T2.out.ctx 0 x rfl Ix.out).mono ?_
  rintro e w3 ⟨vx, rfl, hE, hB, hg⟩
  obtain ⟨qx, cx, rfl⟩ := hE.form
  have T3 := Lib.hid (T2.out.kid hE hB hg)
  clear hE hB hg cB hz cS
  have hz := T3.out.ctx.size
  have cB := T3.out.ctx.cellB
  have cS := T3.out.ctx.cellS
  simp only [List.length_cons, List.length_nil, Nat.zero_add, Nat.reduceAdd] at cS
  have ck := T3.out.cell 1
  have fk := T3.out.frozen 1
  simp at ck
  go_wp2_with fail
  have T4 := Lib.hid (T3.out.set_ 1 (.iface qx (.pointer (some ⟨cx, 0, none⟩))))
  refine (next_any _ bb ps (i + 1 + x.ntok) T4.out.ctx.bat).mono ?_
  rintro e w5 ⟨rfl, hB, hg⟩
  have T5 := Lib.hid (T4.out.next hB hg)
  clear hB hg cB hz ck fk cS
  have hz := T5.out.ctx.size
  have cB := T5.out.ctx.cellB
  have cS := T5.out.ctx.cellS
  simp only [List.length_cons, List.length_nil, Nat.zero_add, Nat.reduceAdd] at cS
  go_wp2_with fail
  refine (kid_any ps _ W _ bb (i + 1 + x.ntok + 1) T5.out.ctx 1 y rfl Iy.out).mono ?_
  rintro e w6 ⟨vy, rfl, hE, hB, hg⟩
  obtain ⟨qy, cy, rfl⟩ := hE.form
  have T6 := Lib.hid (T5.out.kid hE hB hg)
  clear hE hB hg cB hz cS
  have hz := T6.out.ctx.size
  have cB := T6.out.ctx.cellB
  have ck := T6.out.cell 2
  have fk := T6.out.frozen 2
  simp at ck
  go_wp2_with fail
  have T7 := Lib.hid (T6.out.set_ 2 (.iface qy (.pointer (some ⟨cy, 0, none⟩))))
  go_ret
  have hn : Nd.ntok ⟨⟨#[97, 114, 114, 97, 121]⟩, tx, ad, cp, [x, y]⟩ = 2 + (x.ntok + (y.ntok + 0)) := Nd.ntok_of 14 rfl
  refine St.done T7.out (by rw [hn] <;> omega) (ExR.mk 14 rfl (vs := [.iface qx (.pointer (some ⟨cx, 0, none⟩)), .iface qy (.pointer (some ⟨cy, 0, none⟩))]) ?_ ?_)
  · exact ⟨T7.out.ex (by simp), T7.out.ex (by simp), trivial⟩
  · refine ⟨_, T7.out.own, rfl, ?_⟩
    show Blk _ _ 105 #[int (posOf ps i), .iface qx (.pointer (some ⟨cx, 0, none⟩)), .iface qy (.pointer (some ⟨cy, 0, none⟩))]
    exact T7.out.blk
end Go.Proofs.YtnpnmfblcogkmaaDoor
