/-
  builder.expr, kind by kind (laid by gen/ep2.py).
-/
import Derived.Test.YtnpnmfblcogkmaaDoorSt
namespace Go.Proofs.YtnpnmfblcogkmaaDoor
open Go.RowKit

set_option maxRecDepth 100000 in
theorem expr_paren (ps : List Int) (tx : ByteArray) (ad : Option Addr) (cp : Nat) (x : Nd) (IHx : EOf ps x) : EOf ps ⟨⟨#[112, 97, 114, 101, 110]⟩, tx, ad, cp, [x]⟩ := by
  intro W bb i hB hin
  have C0 : Ctx W bb ps ⟨⟨#[112, 97, 114, 101, 110]⟩, tx, ad, cp, [x]⟩ i ((W.alloc (.cells #[.pointer (some ⟨bb, 0, none⟩)] 111)).alloc (.cells #[.string ⟨#[112, 97, 114, 101, 110]⟩, .string tx, .slice ad 1 cp] 32)) := Ctx.start hB hin
  show Calls _ _ #[_, .agg #[.string ⟨#[112, 97, 114, 101, 110]⟩, .string tx, .slice ad 1 cp]] W _
  have cB := C0.cellB
  have cK := C0.cellK
  have T0 := Lib.hid C0.st
  have Ix := Lib.hid IHx
  clear C0 IHx hB hin
  go_enter Tryd.func35, Tryd.ntmps35
  go_wp2_with fail
  clear cK
  refine (next_any _ bb ps (i) T0.out.ctx.bat).mono ?_
  rintro e w1 ⟨rfl, hB, hg⟩
  have T1 := Lib.hid (T0.out.next hB hg)
  clear hB hg cB
  have hz := T1.out.ctx.size
  have cB := T1.out.ctx.cellB
  go_wp2_with fail
  have T2 := Lib.hid (T1.out.box 67 #[int (posOf ps i), .nilIface, int 0])
  have hsz2 := T1.out.ctx.size
  refine (kid_any ps _ W _ bb (i + 1) T2.out.ctx 0 x rfl Ix.out).mono ?_
  rintro e w3 ⟨vx, rfl, hE, hB, hg⟩
  obtain ⟨qx, cx, rfl⟩ := hE.form
  have T3 := Lib.hid (T2.out.kid hE hB hg)
  clear hE hB hg cB hz
  have hz := T3.out.ctx.size
  have cB := T3.out.ctx.cellB
  have ck := T3.out.cell 1
  have fk := T3.out.frozen 1
  simp at ck
  go_wp2_with fail
  have T4 := Lib.hid (T3.out.set_ 1 (.iface qx (.pointer (some ⟨cx, 0, none⟩))))
  refine (next_any _ bb ps (i + 1 + x.ntok) T4.out.ctx.bat).mono ?_
  rintro e w5 ⟨rfl, hB, hg⟩
  have T5 := Lib.hid (T4.out.next hB hg)
  clear hB hg cB hz ck fk
  have hz := T5.out.ctx.size
  have cB := T5.out.ctx.cellB
  have ck := T5.out.cell 2
  have fk := T5.out.frozen 2
  simp at ck
  go_wp2_with fail
  have T6 := Lib.hid (T5.out.set_ 2 (int (posOf ps (i + 1 + x.ntok))))
  go_ret
  have hn : Nd.ntok ⟨⟨#[112, 97, 114, 101, 110]⟩, tx, ad, cp, [x]⟩ = 2 + (x.ntok + 0) := Nd.ntok_of 2 rfl
  refine St.done T6.out (by rw [hn]; omega) (ExR.mk 2 rfl (vs := [.iface qx (.pointer (some ⟨cx, 0, none⟩))]) ?_ ?_)
  · exact ⟨T6.out.ex (by simp), trivial⟩
  · refine ⟨_, T6.out.own, rfl, ?_⟩
    show Blk _ _ 67 #[int (posOf ps i), .iface qx (.pointer (some ⟨cx, 0, none⟩)), int (posOf ps (i + (2 + (x.ntok + 0)) - 1))]
    rw [show i + (2 + (x.ntok + 0)) - 1 = i + 1 + x.ntok by omega]
    exact T6.out.blk

set_option maxRecDepth 100000 in
theorem expr_star (ps : List Int) (tx : ByteArray) (ad : Option Addr) (cp : Nat) (x : Nd) (IHx : EOf ps x) : EOf ps ⟨⟨#[115, 116, 97, 114]⟩, tx, ad, cp, [x]⟩ := by
  intro W bb i hB hin
  have C0 : Ctx W bb ps ⟨⟨#[115, 116, 97, 114]⟩, tx, ad, cp, [x]⟩ i ((W.alloc (.cells #[.pointer (some ⟨bb, 0, none⟩)] 111)).alloc (.cells #[.string ⟨#[115, 116, 97, 114]⟩, .string tx, .slice ad 1 cp] 32)) := Ctx.start hB hin
  show Calls _ _ #[_, .agg #[.string ⟨#[115, 116, 97, 114]⟩, .string tx, .slice ad 1 cp]] W _
  have cB := C0.cellB
  have cK := C0.cellK
  have T0 := Lib.hid C0.st
  have Ix := Lib.hid IHx
  clear C0 IHx hB hin
  go_enter Tryd.func35, Tryd.ntmps35
  go_wp2_with fail
  clear cK
  refine (next_any _ bb ps (i) T0.out.ctx.bat).mono ?_
  rintro e w1 ⟨rfl, hB, hg⟩
  have T1 := Lib.hid (T0.out.next hB hg)
  clear hB hg cB
  have hz := T1.out.ctx.size
  have cB := T1.out.ctx.cellB
  go_wp2_with fail
  have T2 := Lib.hid (T1.out.box 73 #[int (posOf ps i), .nilIface])
  have hsz2 := T1.out.ctx.size
  refine (kid_any ps _ W _ bb (i + 1) T2.out.ctx 0 x rfl Ix.out).mono ?_
  rintro e w3 ⟨vx, rfl, hE, hB, hg⟩
  obtain ⟨qx, cx, rfl⟩ := hE.form
  have T3 := Lib.hid (T2.out.kid hE hB hg)
  clear hE hB hg cB hz
  have hz := T3.out.ctx.size
  have cB := T3.out.ctx.cellB
  have ck := T3.out.cell 1
  have fk := T3.out.frozen 1
  simp at ck
  go_wp2_with fail
  have T4 := Lib.hid (T3.out.set_ 1 (.iface qx (.pointer (some ⟨cx, 0, none⟩))))
  go_ret
  have hn : Nd.ntok ⟨⟨#[115, 116, 97, 114]⟩, tx, ad, cp, [x]⟩ = 1 + (x.ntok + 0) := Nd.ntok_of 3 rfl
  refine St.done T4.out (by rw [hn]; omega) (ExR.mk 3 rfl (vs := [.iface qx (.pointer (some ⟨cx, 0, none⟩))]) ?_ ?_)
  · exact ⟨T4.out.ex (by simp), trivial⟩
  · refine ⟨_, T4.out.own, rfl, ?_⟩
    show Blk _ _ 73 #[int (posOf ps i), .iface qx (.pointer (some ⟨cx, 0, none⟩))]
    exact T4.out.blk

set_option maxRecDepth 100000 in
theorem expr_unary (ps : List Int) (tx : ByteArray) (ad : Option Addr) (cp : Nat) (x : Nd) (IHx : EOf ps x) (hop : tx.data.toList ∈ opTexts) : EOf ps ⟨⟨#[117, 110, 97, 114, 121]⟩, tx, ad, cp, [x]⟩ := by
  intro W bb i hB hin
  have C0 : Ctx W bb ps ⟨⟨#[117, 110, 97, 114, 121]⟩, tx, ad, cp, [x]⟩ i ((W.alloc (.cells #[.pointer (some ⟨bb, 0, none⟩)] 111)).alloc (.cells #[.string ⟨#[117, 110, 97, 114, 121]⟩, .string tx, .slice ad 1 cp] 32)) := Ctx.start hB hin
  show Calls _ _ #[_, .agg #[.string ⟨#[117, 110, 97, 114, 121]⟩, .string tx, .slice ad 1 cp]] W _
  have cB := C0.cellB
  have cK := C0.cellK
  have cT := C0.cellT
  have HOP := Lib.hid hop
  have T0 := Lib.hid C0.st
  have Ix := Lib.hid IHx
  clear C0 IHx hB hin
  go_enter Tryd.func35, Tryd.ntmps35
  go_wp2_with fail
  clear cK
  go_region_held3 (fun w' => w'.cell? ⟨W.heap.size, 0, none⟩ = some (.pointer (some ⟨bb, 0, none⟩)) ∧ w'.cell? ⟨W.heap.size + 1, 1, none⟩ = some (.string tx)) (first | with_reducible exact ⟨(T1.out.ctx.alloc _).cellB, (T1.out.ctx.alloc _).cellT⟩ | with_reducible exact ⟨T1.out.ctx.cellB, T1.out.ctx.cellT⟩ | with_reducible exact ⟨T0.out.drew.ctx.cellB, T0.out.drew.ctx.cellT⟩) (first | (go_at_call 40; refine (next_any _ bb ps (i) T0.out.drew.ctx.bat).mono ?_; rintro e w1 ⟨rfl, hB, hg⟩; have T1 := Lib.hid (T0.out.drew.next hB hg); clear hB hg) | (go_at_call 41; refine (operator_any _ _ T1.out.ctx.bat.1.1 HOP.out).mono ?_; rintro e w2 ⟨rfl, rfl⟩))
  have T2 := Lib.hid (T1.out.box 70 #[int (posOf ps i), int (opNo tx), .nilIface])
  have hsz2 := T1.out.ctx.size
  clear cB cT
  have cB := T2.out.ctx.cellB
  go_wp2_with fail
  refine (kid_any ps _ W _ bb (i + 1) T2.out.ctx 0 x rfl Ix.out).mono ?_
  rintro e w3 ⟨vx, rfl, hE, hB, hg⟩
  obtain ⟨qx, cx, rfl⟩ := hE.form
  have T3 := Lib.hid (T2.out.kid hE hB hg)
  clear hE hB hg cB
  have hz := T3.out.ctx.size
  have cB := T3.out.ctx.cellB
  have ck := T3.out.cell 2
  have fk := T3.out.frozen 2
  simp at ck
  go_wp2_with fail
  have T4 := Lib.hid (T3.out.set_ 2 (.iface qx (.pointer (some ⟨cx, 0, none⟩))))
  go_ret
  have hn : Nd.ntok ⟨⟨#[117, 110, 97, 114, 121]⟩, tx, ad, cp, [x]⟩ = 1 + (x.ntok + 0) := Nd.ntok_of 4 rfl
  refine St.done T4.out (by rw [hn]; omega) (ExR.mk 4 rfl (vs := [.iface qx (.pointer (some ⟨cx, 0, none⟩))]) ?_ ?_)
  · exact ⟨T4.out.ex (by simp), trivial⟩
  · refine ⟨_, T4.out.own, rfl, ?_⟩
    show Blk _ _ 70 #[int (posOf ps i), int (opNo tx), .iface qx (.pointer (some ⟨cx, 0, none⟩))]
    exact T4.out.blk

set_option maxRecDepth 100000 in
theorem expr_key (ps : List Int) (tx : ByteArray) (ad : Option Addr) (cp : Nat) (x : Nd) (y : Nd) (IHx : EOf ps x) (IHy : EOf ps y) : EOf ps ⟨⟨#[107, 101, 121]⟩, tx, ad, cp, [x, y]⟩ := by
  intro W bb i hB hin
  have C0 : Ctx W bb ps ⟨⟨#[107, 101, 121]⟩, tx, ad, cp, [x, y]⟩ i ((W.alloc (.cells #[.pointer (some ⟨bb, 0, none⟩)] 111)).alloc (.cells #[.string ⟨#[107, 101, 121]⟩, .string tx, .slice ad 2 cp] 32)) := Ctx.start hB hin
  show Calls _ _ #[_, .agg #[.string ⟨#[107, 101, 121]⟩, .string tx, .slice ad 2 cp]] W _
  have cB := C0.cellB
  have cK := C0.cellK
  have T0 := Lib.hid C0.st
  have Ix := Lib.hid IHx
  have Iy := Lib.hid IHy
  clear C0 IHx IHy hB hin
  go_enter Tryd.func35, Tryd.ntmps35
  go_wp2_with fail
  clear cK
  go_region_held3 (fun w' => w'.cell? ⟨W.heap.size, 0, none⟩ = some (.pointer (some ⟨bb, 0, none⟩))) (first | with_reducible exact ((T2.out.ctx.alloc _).cellB) | with_reducible exact (T2.out.ctx.cellB) | with_reducible exact (T1.out.ctx.cellB) | with_reducible exact (T0.out.drew.ctx.cellB)) (first | (go_at_call 39; refine (kid_any ps _ W _ bb (i) T0.out.drew.ctx 0 x rfl Ix.out).mono ?_; rintro e w1 ⟨vx, rfl, hE, hB, hg⟩; obtain ⟨qx, cx, rfl⟩ := hE.form; have T1 := Lib.hid (T0.out.drew.kid hE hB hg); clear hE hB hg) | (go_at_call 40; refine (next_any _ bb ps (i + x.ntok) T1.out.ctx.bat).mono ?_; rintro e w2 ⟨rfl, hB, hg⟩; have T2 := Lib.hid (T1.out.next hB hg); clear hB hg))
  have T3 := Lib.hid (T2.out.box 102 #[.iface qx (.pointer (some ⟨cx, 0, none⟩)), int (posOf ps (i + x.ntok)), .nilIface])
  have hsz3 := T2.out.ctx.size
  clear cB
  have cB := T3.out.ctx.cellB
  go_wp2_with fail
  refine (kid_any ps _ W _ bb (i + x.ntok + 1) T3.out.ctx 1 y rfl Iy.out).mono ?_
  rintro e w4 ⟨vy, rfl, hE, hB, hg⟩
  obtain ⟨qy, cy, rfl⟩ := hE.form
  have T4 := Lib.hid (T3.out.kid hE hB hg)
  clear hE hB hg cB
  have hz := T4.out.ctx.size
  have cB := T4.out.ctx.cellB
  have ck := T4.out.cell 2
  have fk := T4.out.frozen 2
  simp at ck
  go_wp2_with fail
  have T5 := Lib.hid (T4.out.set_ 2 (.iface qy (.pointer (some ⟨cy, 0, none⟩))))
  go_ret
  have hn : Nd.ntok ⟨⟨#[107, 101, 121]⟩, tx, ad, cp, [x, y]⟩ = 1 + (x.ntok + (y.ntok + 0)) := Nd.ntok_of 9 rfl
  refine St.done T5.out (by rw [hn]; omega) (ExR.mk 9 rfl (vs := [.iface qx (.pointer (some ⟨cx, 0, none⟩)), .iface qy (.pointer (some ⟨cy, 0, none⟩))]) ?_ ?_)
  · exact ⟨T5.out.ex (by simp), T5.out.ex (by simp), trivial⟩
  · refine ⟨_, T5.out.own, rfl, ?_⟩
    show Blk _ _ 102 #[.iface qx (.pointer (some ⟨cx, 0, none⟩)), int (posOf ps (i + x.ntok)), .iface qy (.pointer (some ⟨cy, 0, none⟩))]
    exact T5.out.blk
end Go.Proofs.YtnpnmfblcogkmaaDoor
