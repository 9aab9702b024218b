/-
  builder.expr, kind by kind (laid by gen/ep2.py).
  builder.expr, kind by kind (laid by gen/ep2.py).
  builder.expr, kind by kind (laid by gen/ep2.py).
  builder.expr, kind by kind (laid by gen/ep2.py).
-/
import Derived.Test.YtjbhjbpamnoebaaGreatFmtK3
namespace Go.Proofs.YtjbhjbpamnoebaaGreatFmt
open Go.RowKit

set_option maxRecDepth 100000 in
theorem expr_paren (ps : List Int) (tx : ByteArray) (ad : Option Addr) (cp : Nat) (x : Nd) (IHx : EOf ps x) : EOf ps ⟨⟨#[112, 97, 114, 101, 110]⟩, tx, ad, cp, [x]⟩ := by
  intro W bb i hB hin
  have C0 : Ctx W bb ps ⟨⟨#[112, 97, 114, 101, 110]⟩, tx, ad, cp, [x]⟩ i ((W.alloc (.cells #[.pointer (some ⟨bb, 0, none⟩)] 250)).alloc (.cells #[.string ⟨#[112, 97, 114, 101, 110]⟩, .string tx, .slice ad 1 cp] 24)) := Ctx.start hB hin
  show Calls _ _ #[_, .agg #[.string ⟨#[112, 97, 114, 101, 110]⟩, .string tx, .slice ad 1 cp]] W _
  have cB := C0.cellB
  have cK := C0.cellK
  have T0 := Lib.hid C0.st
  have Ix := Lib.hid IHx
  clear C0 IHx hB hin
  go_enter Tryz.func39, Tryz.ntmps39
  go_wp2_with fail
  clear cK
  refine (next_any _ bb ps (i) T0.out.ctx.bat).mono ?_
  rintro e w1 ⟨rfl, hB, hg⟩
  have T1 := Lib.hid (T0.out.next hB hg)
  clear hB hg cB
  have hz := T1.out.ctx.size
  have cB := T1.out.ctx.cellB
  go_wp2_with fail
  have T2 := Lib.hid (T1.out.box 102 #[int (posOf ps i), .nilIface, int 0])
  have hsz2 := T1.out.ctx.size
  refine (kid_any ps _ W _ bb (i + 1) T2.out.ctx 0 x rfl Ix.out).mono ?_
  rintro e w3 ⟨vx, rfl, hE, hB, hg⟩
  obtain ⟨qx, cx, rfl⟩ := hE.form
  have T3 := Lib.hid (T2.out.kid hE hB hg)
  clear hE hB hg cB hz
  have hz := T3.out.ctx.size
  have cB := T3.out.ctx.cellB
  have ck := T3.out.cell 1
  have fk := T3.out.frozen 1
  simp at ck
  go_wp2_with fail
  have T4 := Lib.hid (T3.out.set_ 1 (.iface qx (.pointer (some ⟨cx, 0, none⟩))))
  refine (next_any _ bb ps (i + 1 + x.ntok) T4.out.ctx.bat).mono ?_
  rintro e w5 ⟨rfl, hB, hg⟩
  have T5 := Lib.hid (T4.out.next hB hg)
  clear hB hg cB hz ck fk
  have hz := T5.out.ctx.size
  have cB := T5.out.ctx.cellB
  have ck := T5.out.cell 2
  have fk := T5.out.frozen 2
  simp at ck
  go_wp2_with fail
  have T6 := Lib.hid (T5.out.set_ 2 (int (posOf ps (i + 1 + x.ntok))))
  go_ret
  have hn : Nd.ntok ⟨⟨#[112, 97, 114, 101, 110]⟩, tx, ad, cp, [x]⟩ = 2 + (x.ntok + 0) := Nd.ntok_of 2 rfl
  refine St.done T6.out (by rw [hn]; omega) (ExR.mk 2 rfl (vs := [.iface qx (.pointer (some ⟨cx, 0, none⟩))]) ?_ ?_)
  · exact ⟨T6.out.ex (by simp), trivial⟩
  · refine ⟨_, T6.out.own, rfl, ?_⟩
    show Blk _ _ 102 #[int (posOf ps i), .iface qx (.pointer (some ⟨cx, 0, none⟩)), int (posOf ps (i + (2 + (x.ntok + 0)) - 1))]
    rw [show i + (2 + (x.ntok + 0)) - 1 = i + 1 + x.ntok by omega]
    exact T6.out.blk

set_option maxRecDepth 100000 in
theorem expr_star (ps : List Int) (tx : ByteArray) (ad : Option Addr) (cp : Nat) (x : Nd) (IHx : EOf ps x) : EOf ps ⟨⟨#[115, 116, 97, 114]⟩, tx, ad, cp, [x]⟩ := by
  intro W bb i hB hin
  have C0 : Ctx W bb ps ⟨⟨#[115, 116, 97, 114]⟩, tx, ad, cp, [x]⟩ i ((W.alloc (.cells #[.pointer (some ⟨bb, 0, none⟩)] 250)).alloc (.cells #[.string ⟨#[115, 116, 97, 114]⟩, .string tx, .slice ad 1 cp] 24)) := Ctx.start hB hin
  show Calls _ _ #[_, .agg #[.string ⟨#[115, 116, 97, 114]⟩, .string tx, .slice ad 1 cp]] W _
  have cB := C0.cellB
  have cK := C0.cellK
  have T0 := Lib.hid C0.st
  have Ix := Lib.hid IHx
  clear C0 IHx hB hin
  go_enter Tryz.func39, Tryz.ntmps39
  go_wp2_with fail
  clear cK
  refine (next_any _ bb ps (i) T0.out.ctx.bat).mono ?_
  rintro e w1 ⟨rfl, hB, hg⟩
  have T1 := Lib.hid (T0.out.next hB hg)
  clear hB hg cB
  have hz := T1.out.ctx.size
  have cB := T1.out.ctx.cellB
  go_wp2_with fail
  have T2 := Lib.hid (T1.out.box 123 #[int (posOf ps i), .nilIface])
  have hsz2 := T1.out.ctx.size
  refine (kid_any ps _ W _ bb (i + 1) T2.out.ctx 0 x rfl Ix.out).mono ?_
  rintro e w3 ⟨vx, rfl, hE, hB, hg⟩
  obtain ⟨qx, cx, rfl⟩ := hE.form
  have T3 := Lib.hid (T2.out.kid hE hB hg)
  clear hE hB hg cB hz
  have hz := T3.out.ctx.size
  have cB := T3.out.ctx.cellB
  have ck := T3.out.cell 1
  have fk := T3.out.frozen 1
  simp at ck
  go_wp2_with fail
  have T4 := Lib.hid (T3.out.set_ 1 (.iface qx (.pointer (some ⟨cx, 0, none⟩))))
  go_ret
  have hn : Nd.ntok ⟨⟨#[115, 116, 97, 114]⟩, tx, ad, cp, [x]⟩ = 1 + (x.ntok + 0) := Nd.ntok_of 3 rfl
  refine St.done T4.out (by rw [hn]; omega) (ExR.mk 3 rfl (vs := [.iface qx (.pointer (some ⟨cx, 0, none⟩))]) ?_ ?_)
  · exact ⟨T4.out.ex (by simp), trivial⟩
  · refine ⟨_, T4.out.own, rfl, ?_⟩
    show Blk _ _ 123 #[int (posOf ps i), .iface qx (.pointer (some ⟨cx, 0, none⟩))]
    exact T4.out.blk

set_option maxRecDepth 100000 in
theorem expr_unary (ps : List Int) (tx : ByteArray) (ad : Option Addr) (cp : Nat) (x : Nd) (IHx : EOf ps x) (hop : tx.data.toList ∈ opTexts) : EOf ps ⟨⟨#[117, 110, 97, 114, 121]⟩, tx, ad, cp, [x]⟩ := by
  intro W bb i hB hin
  have C0 : Ctx W bb ps ⟨⟨#[117, 110, 97, 114, 121]⟩, tx, ad, cp, [x]⟩ i ((W.alloc (.cells #[.pointer (some ⟨bb, 0, none⟩)] 250)).alloc (.cells #[.string ⟨#[117, 110, 97, 114, 121]⟩, .string tx, .slice ad 1 cp] 24)) := Ctx.start hB hin
  show Calls _ _ #[_, .agg #[.string ⟨#[117, 110, 97, 114, 121]⟩, .string tx, .slice ad 1 cp]] W _
  have cB := C0.cellB
  have cK := C0.cellK
  have cT := C0.cellT
  have HOP := Lib.hid hop
  have T0 := Lib.hid C0.st
  have Ix := Lib.hid IHx
  clear C0 IHx hB hin
  go_enter Tryz.func39, Tryz.ntmps39
  go_wp2_with fail
  clear cK
  go_region_held3 (fun w' => w'.cell? ⟨W.heap.size, 0, none⟩ = some (.pointer (some ⟨bb, 0, none⟩)) ∧ w'.cell? ⟨W.heap.size + 1, 1, none⟩ = some (.string tx)) (first | with_reducible exact ⟨(T1.out.ctx.alloc _).cellB, (T1.out.ctx.alloc _).cellT⟩ | with_reducible exact ⟨T1.out.ctx.cellB, T1.out.ctx.cellT⟩ | with_reducible exact ⟨T0.out.drew.ctx.cellB, T0.out.drew.ctx.cellT⟩) (first | (go_at_call 57; refine (next_any _ bb ps (i) T0.out.drew.ctx.bat).mono ?_; rintro e w1 ⟨rfl, hB, hg⟩; have T1 := Lib.hid (T0.out.drew.next hB hg); clear hB hg) | (go_at_call 58; refine (operator_any _ _ T1.out.ctx.bat.1.1 HOP.out).mono ?_; rintro e w2 ⟨rfl, rfl⟩))
  have T2 := Lib.hid (T1.out.box 127 #[int (posOf ps i), int (opNo tx), .nilIface])
  have hsz2 := T1.out.ctx.size
  clear cB cT
  have cB := T2.out.ctx.cellB
  go_wp2_with fail
  refine (kid_any ps _ W _ bb (i + 1) T2.out.ctx 0 x rfl Ix.out).mono ?_
  rintro e w3 ⟨vx, rfl, hE, hB, hg⟩
  obtain ⟨qx, cx, rfl⟩ := hE.form
  have T3 := Lib.hid (T2.out.kid hE hB hg)
  clear hE hB hg cB
  have hz := T3.out.ctx.size
  have cB := T3.out.ctx.cellB
  have ck := T3.out.cell 2
  have fk := T3.out.frozen 2
  simp at ck
  go_wp2_with fail
  have T4 := Lib.hid (T3.out.set_ 2 (.iface qx (.pointer (some ⟨cx, 0, none⟩))))
  go_ret
  have hn : Nd.ntok ⟨⟨#[117, 110, 97, 114, 121]⟩, tx, ad, cp, [x]⟩ = 1 + (x.ntok + 0) := Nd.ntok_of 4 rfl
  refine St.done T4.out (by rw [hn]; omega) (ExR.mk 4 rfl (vs := [.iface qx (.pointer (some ⟨cx, 0, none⟩))]) ?_ ?_)
  · exact ⟨T4.out.ex (by simp), trivial⟩
  · refine ⟨_, T4.out.own, rfl, ?_⟩
    show Blk _ _ 127 #[int (posOf ps i), int (opNo tx), .iface qx (.pointer (some ⟨cx, 0, none⟩))]
    exact T4.out.blk

set_option maxRecDepth 100000 in
theorem expr_key (ps : List Int) (tx : ByteArray) (ad : Option Addr) (cp : Nat) (x : Nd) (y : Nd) (IHx : EOf ps x) (IHy : EOf ps y) : EOf ps ⟨⟨#[107, 101, 121]⟩, tx, ad, cp, [x, y]⟩ := by
  intro W bb i hB hin
  have C0 : Ctx W bb ps ⟨⟨#[107, 101, 121]⟩, tx, ad, cp, [x, y]⟩ i ((W.alloc (.cells #[.pointer (some ⟨bb, 0, none⟩)] 250)).alloc (.cells #[.string ⟨#[107, 101, 121]⟩, .string tx, .slice ad 2 cp] 24)) := Ctx.start hB hin
  show Calls _ _ #[_, .agg #[.string ⟨#[107, 101, 121]⟩, .string tx, .slice ad 2 cp]] W _
  have cB := C0.cellB
  have cK := C0.cellK
  have T0 := Lib.hid C0.st
  have Ix := Lib.hid IHx
  have Iy := Lib.hid IHy
  clear C0 IHx IHy hB hin
  go_enter Tryz.func39, Tryz.ntmps39
  go_wp2_with fail
  clear cK
  go_region_held3 (fun w' => w'.cell? ⟨W.heap.size, 0, none⟩ = some (.pointer (some ⟨bb, 0, none⟩))) (first | with_reducible exact ((T2.out.ctx.alloc _).cellB) | with_reducible exact (T2.out.ctx.cellB) | with_reducible exact (T1.out.ctx.cellB) | with_reducible exact (T0.out.drew.ctx.cellB)) (first | (go_at_call 56; refine (kid_any ps _ W _ bb (i) T0.out.drew.ctx 0 x rfl Ix.out).mono ?_; rintro e w1 ⟨vx, rfl, hE, hB, hg⟩; obtain ⟨qx, cx, rfl⟩ := hE.form; have T1 := Lib.hid (T0.out.drew.kid hE hB hg); clear hE hB hg) | (go_at_call 57; refine (next_any _ bb ps (i + x.ntok) T1.out.ctx.bat).mono ?_; rintro e w2 ⟨rfl, hB, hg⟩; have T2 := Lib.hid (T1.out.next hB hg); clear hB hg))
  have T3 := Lib.hid (T2.out.box 133 #[.iface qx (.pointer (some ⟨cx, 0, none⟩)), int (posOf ps (i + x.ntok)), .nilIface])
  have hsz3 := T2.out.ctx.size
  clear cB
  have cB := T3.out.ctx.cellB
  go_wp2_with fail
  refine (kid_any ps _ W _ bb (i + x.ntok + 1) T3.out.ctx 1 y rfl Iy.out).mono ?_
  rintro e w4 ⟨vy, rfl, hE, hB, hg⟩
  obtain ⟨qy, cy, rfl⟩ := hE.form
  have T4 := Lib.hid (T3.out.kid hE hB hg)
  clear hE hB hg cB
  have hz := T4.out.ctx.size
  have cB := T4.out.ctx.cellB
  have ck := T4.out.cell 2
  have fk := T4.out.frozen 2
  simp at ck
  go_wp2_with fail
  have T5 := Lib.hid (T4.out.set_ 2 (.iface qy (.pointer (some ⟨cy, 0, none⟩))))
  go_ret
  have hn : Nd.ntok ⟨⟨#[107, 101, 121]⟩, tx, ad, cp, [x, y]⟩ = 1 + (x.ntok + (y.ntok + 0)) := Nd.ntok_of 9 rfl
  refine St.done T5.out (by rw [hn]; omega) (ExR.mk 9 rfl (vs := [.iface qx (.pointer (some ⟨cx, 0, none⟩)), .iface qy (.pointer (some ⟨cy, 0, none⟩))]) ?_ ?_)
  · exact ⟨T5.out.ex (by simp), T5.out.ex (by simp), trivial⟩
  · refine ⟨_, T5.out.own, rfl, ?_⟩
    show Blk _ _ 133 #[.iface qx (.pointer (some ⟨cx, 0, none⟩)), int (posOf ps (i + x.ntok)), .iface qy (.pointer (some ⟨cy, 0, none⟩))]
    exact T5.out.blk
end Go.Proofs.YtjbhjbpamnoebaaGreatFmt

namespace Go.Proofs.YtjbhjbpamnoebaaGreatFmt
open Go.RowKit

set_option maxRecDepth 100000 in
theorem expr_binary (ps : List Int) (tx : ByteArray) (ad : Option Addr) (cp : Nat) (x : Nd) (y : Nd) (IHx : EOf ps x) (IHy : EOf ps y) (hop : tx.data.toList ∈ opTexts) : EOf ps ⟨⟨#[98, 105, 110, 97, 114, 121]⟩, tx, ad, cp, [x, y]⟩ := by
  intro W bb i hB hin
  have C0 : Ctx W bb ps ⟨⟨#[98, 105, 110, 97, 114, 121]⟩, tx, ad, cp, [x, y]⟩ i ((W.alloc (.cells #[.pointer (some ⟨bb, 0, none⟩)] 250)).alloc (.cells #[.string ⟨#[98, 105, 110, 97, 114, 121]⟩, .string tx, .slice ad 2 cp] 24)) := Ctx.start hB hin
  show Calls _ _ #[_, .agg #[.string ⟨#[98, 105, 110, 97, 114, 121]⟩, .string tx, .slice ad 2 cp]] W _
  have cB := C0.cellB
  have cK := C0.cellK
  have cT := C0.cellT
  have HOP := Lib.hid hop
  have T0 := Lib.hid C0.st
  have Ix := Lib.hid IHx
  have Iy := Lib.hid IHy
  clear C0 IHx IHy hB hin
  go_enter Tryz.func39, Tryz.ntmps39
  go_wp2_with fail
  clear cK
  go_region_held3 (fun w' => w'.cell? ⟨W.heap.size, 0, none⟩ = some (.pointer (some ⟨bb, 0, none⟩)) ∧ w'.cell? ⟨W.heap.size + 1, 1, none⟩ = some (.string tx)) (first | with_reducible exact ⟨(T2.out.ctx.alloc _).cellB, (T2.out.ctx.alloc _).cellT⟩ | with_reducible exact ⟨T2.out.ctx.cellB, T2.out.ctx.cellT⟩ | with_reducible exact ⟨T1.out.ctx.cellB, T1.out.ctx.cellT⟩ | with_reducible exact ⟨T0.out.drew.ctx.cellB, T0.out.drew.ctx.cellT⟩) (first | (go_at_call 56; refine (kid_any ps _ W _ bb (i) T0.out.drew.ctx 0 x rfl Ix.out).mono ?_; rintro e w1 ⟨vx, rfl, hE, hB, hg⟩; obtain ⟨qx, cx, rfl⟩ := hE.form; have T1 := Lib.hid (T0.out.drew.kid hE hB hg); clear hE hB hg) | (go_at_call 57; refine (next_any _ bb ps (i + x.ntok) T1.out.ctx.bat).mono ?_; rintro e w2 ⟨rfl, hB, hg⟩; have T2 := Lib.hid (T1.out.next hB hg); clear hB hg) | (go_at_call 58; refine (operator_any _ _ T2.out.ctx.bat.1.1 HOP.out).mono ?_; rintro e w3 ⟨rfl, rfl⟩))
  have T3 := Lib.hid (T2.out.box 130 #[.iface qx (.pointer (some ⟨cx, 0, none⟩)), int (posOf ps (i + x.ntok)), int (opNo tx), .nilIface])
  have hsz3 := T2.out.ctx.size
  clear cB cT
  have cB := T3.out.ctx.cellB
  go_wp2_with fail
  refine (kid_any ps _ W _ bb (i + x.ntok + 1) T3.out.ctx 1 y rfl Iy.out).mono ?_
  rintro e w4 ⟨vy, rfl, hE, hB, hg⟩
  obtain ⟨qy, cy, rfl⟩ := hE.form
  have T4 := Lib.hid (T3.out.kid hE hB hg)
  clear hE hB hg cB
  have hz := T4.out.ctx.size
  have cB := T4.out.ctx.cellB
  have ck := T4.out.cell 3
  have fk := T4.out.frozen 3
  simp at ck
  go_wp2_with fail
  have T5 := Lib.hid (T4.out.set_ 3 (.iface qy (.pointer (some ⟨cy, 0, none⟩))))
  go_ret
  have hn : Nd.ntok ⟨⟨#[98, 105, 110, 97, 114, 121]⟩, tx, ad, cp, [x, y]⟩ = 1 + (x.ntok + (y.ntok + 0)) := Nd.ntok_of 5 rfl
  refine St.done T5.out (by rw [hn]; omega) (ExR.mk 5 rfl (vs := [.iface qx (.pointer (some ⟨cx, 0, none⟩)), .iface qy (.pointer (some ⟨cy, 0, none⟩))]) ?_ ?_)
  · exact ⟨T5.out.ex (by simp), T5.out.ex (by simp), trivial⟩
  · refine ⟨_, T5.out.own, rfl, ?_⟩
    show Blk _ _ 130 #[.iface qx (.pointer (some ⟨cx, 0, none⟩)), int (posOf ps (i + x.ntok)), int (opNo tx), .iface qy (.pointer (some ⟨cy, 0, none⟩))]
    exact T5.out.blk

set_option maxRecDepth 100000 in
theorem expr_index (ps : List Int) (tx : ByteArray) (ad : Option Addr) (cp : Nat) (x : Nd) (y : Nd) (IHx : EOf ps x) (IHy : EOf ps y) : EOf ps ⟨⟨#[105, 110, 100, 101, 120]⟩, tx, ad, cp, [x, y]⟩ := by
  intro W bb i hB hin
  have C0 : Ctx W bb ps ⟨⟨#[105, 110, 100, 101, 120]⟩, tx, ad, cp, [x, y]⟩ i ((W.alloc (.cells #[.pointer (some ⟨bb, 0, none⟩)] 250)).alloc (.cells #[.string ⟨#[105, 110, 100, 101, 120]⟩, .string tx, .slice ad 2 cp] 24)) := Ctx.start hB hin
  show Calls _ _ #[_, .agg #[.string ⟨#[105, 110, 100, 101, 120]⟩, .string tx, .slice ad 2 cp]] W _
  have cB := C0.cellB
  have cK := C0.cellK
  have T0 := Lib.hid C0.st
  have Ix := Lib.hid IHx
  have Iy := Lib.hid IHy
  clear C0 IHx IHy hB hin
  go_enter Tryz.func39, Tryz.ntmps39
  go_wp2_with fail
  clear cK
  go_region_held3 (fun w' => w'.cell? ⟨W.heap.size, 0, none⟩ = some (.pointer (some ⟨bb, 0, none⟩))) (first | with_reducible exact ((T2.out.ctx.alloc _).cellB) | with_reducible exact (T2.out.ctx.cellB) | with_reducible exact (T1.out.ctx.cellB) | with_reducible exact (T0.out.drew.ctx.cellB)) (first | (go_at_call 56; refine (kid_any ps _ W _ bb (i) T0.out.drew.ctx 0 x rfl Ix.out).mono ?_; rintro e w1 ⟨vx, rfl, hE, hB, hg⟩; obtain ⟨qx, cx, rfl⟩ := hE.form; have T1 := Lib.hid (T0.out.drew.kid hE hB hg); clear hE hB hg) | (go_at_call 57; refine (next_any _ bb ps (i + x.ntok) T1.out.ctx.bat).mono ?_; rintro e w2 ⟨rfl, hB, hg⟩; have T2 := Lib.hid (T1.out.next hB hg); clear hB hg))
  have T3 := Lib.hid (T2.out.box 108 #[.iface qx (.pointer (some ⟨cx, 0, none⟩)), int (posOf ps (i + x.ntok)), .nilIface, int 0])
  have hsz3 := T2.out.ctx.size
  clear cB
  have cB := T3.out.ctx.cellB
  go_wp2_with fail
  refine (kid_any ps _ W _ bb (i + x.ntok + 1) T3.out.ctx 1 y rfl Iy.out).mono ?_
  rintro e w4 ⟨vy, rfl, hE, hB, hg⟩
  obtain ⟨qy, cy, rfl⟩ := hE.form
  have T4 := Lib.hid (T3.out.kid hE hB hg)
  clear hE hB hg cB
  have hz := T4.out.ctx.size
  have cB := T4.out.ctx.cellB
  have ck := T4.out.cell 2
  have fk := T4.out.frozen 2
  simp at ck
  go_wp2_with fail
  have T5 := Lib.hid (T4.out.set_ 2 (.iface qy (.pointer (some ⟨cy, 0, none⟩))))
  refine (next_any _ bb ps (i + x.ntok + 1 + y.ntok) T5.out.ctx.bat).mono ?_
  rintro e w6 ⟨rfl, hB, hg⟩
  have T6 := Lib.hid (T5.out.next hB hg)
  clear hB hg cB hz ck fk
  have hz := T6.out.ctx.size
  have cB := T6.out.ctx.cellB
  have ck := T6.out.cell 3
  have fk := T6.out.frozen 3
  simp at ck
  go_wp2_with fail
  have T7 := Lib.hid (T6.out.set_ 3 (int (posOf ps (i + x.ntok + 1 + y.ntok))))
  go_ret
  have hn : Nd.ntok ⟨⟨#[105, 110, 100, 101, 120]⟩, tx, ad, cp, [x, y]⟩ = 2 + (x.ntok + (y.ntok + 0)) := Nd.ntok_of 7 rfl
  refine St.done T7.out (by rw [hn]; omega) (ExR.mk 7 rfl (vs := [.iface qx (.pointer (some ⟨cx, 0, none⟩)), .iface qy (.pointer (some ⟨cy, 0, none⟩))]) ?_ ?_)
  · exact ⟨T7.out.ex (by simp), T7.out.ex (by simp), trivial⟩
  · refine ⟨_, T7.out.own, rfl, ?_⟩
    show Blk _ _ 108 #[.iface qx (.pointer (some ⟨cx, 0, none⟩)), int (posOf ps (i + x.ntok)), .iface qy (.pointer (some ⟨cy, 0, none⟩)), int (posOf ps (i + (2 + (x.ntok + (y.ntok + 0))) - 1))]
    rw [show i + (2 + (x.ntok + (y.ntok + 0))) - 1 = i + x.ntok + 1 + y.ntok by omega]
    exact T7.out.blk

set_option maxRecDepth 100000 in
theorem expr_map (ps : List Int) (tx : ByteArray) (ad : Option Addr) (cp : Nat) (x : Nd) (y : Nd) (IHx : EOf ps x) (IHy : EOf ps y) : EOf ps ⟨⟨#[109, 97, 112]⟩, tx, ad, cp, [x, y]⟩ := by
  intro W bb i hB hin
  have C0 : Ctx W bb ps ⟨⟨#[109, 97, 112]⟩, tx, ad, cp, [x, y]⟩ i ((W.alloc (.cells #[.pointer (some ⟨bb, 0, none⟩)] 250)).alloc (.cells #[.string ⟨#[109, 97, 112]⟩, .string tx, .slice ad 2 cp] 24)) := Ctx.start hB hin
  show Calls _ _ #[_, .agg #[.string ⟨#[109, 97, 112]⟩, .string tx, .slice ad 2 cp]] W _
  have cB := C0.cellB
  have cK := C0.cellK
  have T0 := Lib.hid C0.st
  have Ix := Lib.hid IHx
  have Iy := Lib.hid IHy
  clear C0 IHx IHy hB hin
  go_enter Tryz.func39, Tryz.ntmps39
  go_wp2_with fail
  clear cK
  refine (next_any _ bb ps (i) T0.out.ctx.bat).mono ?_
  rintro e w1 ⟨rfl, hB, hg⟩
  have T1 := Lib.hid (T0.out.next hB hg)
  clear hB hg cB
  have hz := T1.out.ctx.size
  have cB := T1.out.ctx.cellB
  have cA := fun o => (T1.out.ctx.alloc o).cellB
  go_wp2_with fail
  clear cA
  have T2 := Lib.hid (T1.out.box 147 #[int (posOf ps i), .nilIface, .nilIface])
  have hsz2 := T1.out.ctx.size
  refine (next_any _ bb ps (i + 1) T2.out.ctx.bat).mono ?_
  rintro e w3 ⟨rfl, hB, hg⟩
  have T3 := Lib.hid (T2.out.next hB hg)
  clear hB hg cB hz
  have hz := T3.out.ctx.size
  have cB := T3.out.ctx.cellB
  go_wp2_with fail
  refine (kid_any ps _ W _ bb (i + 1 + 1) T3.out.ctx 0 x rfl Ix.out).mono ?_
  rintro e w4 ⟨vx, rfl, hE, hB, hg⟩
  obtain ⟨qx, cx, rfl⟩ := hE.form
  have T4 := Lib.hid (T3.out.kid hE hB hg)
  clear hE hB hg cB hz
  have hz := T4.out.ctx.size
  have cB := T4.out.ctx.cellB
  have ck := T4.out.cell 1
  have fk := T4.out.frozen 1
  simp at ck
  go_wp2_with fail
  have T5 := Lib.hid (T4.out.set_ 1 (.iface qx (.pointer (some ⟨cx, 0, none⟩))))
  refine (next_any _ bb ps (i + 1 + 1 + x.ntok) T5.out.ctx.bat).mono ?_
  rintro e w6 ⟨rfl, hB, hg⟩
  have T6 := Lib.hid (T5.out.next hB hg)
  clear hB hg cB hz ck fk
  have hz := T6.out.ctx.size
  have cB := T6.out.ctx.cellB
  go_wp2_with fail
  refine (kid_any ps _ W _ bb (i + 1 + 1 + x.ntok + 1) T6.out.ctx 1 y rfl Iy.out).mono ?_
  rintro e w7 ⟨vy, rfl, hE, hB, hg⟩
  obtain ⟨qy, cy, rfl⟩ := hE.form
  have T7 := Lib.hid (T6.out.kid hE hB hg)
  clear hE hB hg cB hz
  have hz := T7.out.ctx.size
  have cB := T7.out.ctx.cellB
  have ck := T7.out.cell 2
  have fk := T7.out.frozen 2
  simp at ck
  go_wp2_with fail
  have T8 := Lib.hid (T7.out.set_ 2 (.iface qy (.pointer (some ⟨cy, 0, none⟩))))
  go_ret
  have hn : Nd.ntok ⟨⟨#[109, 97, 112]⟩, tx, ad, cp, [x, y]⟩ = 3 + (x.ntok + (y.ntok + 0)) := Nd.ntok_of 10 rfl
  refine St.done T8.out (by rw [hn]; omega) (ExR.mk 10 rfl (vs := [.iface qx (.pointer (some ⟨cx, 0, none⟩)), .iface qy (.pointer (some ⟨cy, 0, none⟩))]) ?_ ?_)
  · exact ⟨T8.out.ex (by simp), (show ExR _ _ _ (i + 3 + x.ntok) y _ from (by rw [show i + 3 + x.ntok = i + 1 + 1 + x.ntok + 1 by omega]; exact T8.out.ex (by simp))), trivial⟩
  · refine ⟨_, T8.out.own, rfl, ?_⟩
    show Blk _ _ 147 #[int (posOf ps i), .iface qx (.pointer (some ⟨cx, 0, none⟩)), .iface qy (.pointer (some ⟨cy, 0, none⟩))]
    exact T8.out.blk

set_option maxRecDepth 100000 in
theorem expr_assert (ps : List Int) (tx : ByteArray) (ad : Option Addr) (cp : Nat) (x : Nd) (y : Nd) (IHx : EOf ps x) (IHy : EOf ps y) : EOf ps ⟨⟨#[97, 115, 115, 101, 114, 116]⟩, tx, ad, cp, [x, y]⟩ := by
  intro W bb i hB hin
  have C0 : Ctx W bb ps ⟨⟨#[97, 115, 115, 101, 114, 116]⟩, tx, ad, cp, [x, y]⟩ i ((W.alloc (.cells #[.pointer (some ⟨bb, 0, none⟩)] 250)).alloc (.cells #[.string ⟨#[97, 115, 115, 101, 114, 116]⟩, .string tx, .slice ad 2 cp] 24)) := Ctx.start hB hin
  show Calls _ _ #[_, .agg #[.string ⟨#[97, 115, 115, 101, 114, 116]⟩, .string tx, .slice ad 2 cp]] W _
  have cB := C0.cellB
  have cK := C0.cellK
  have T0 := Lib.hid C0.st
  have Ix := Lib.hid IHx
  have Iy := Lib.hid IHy
  clear C0 IHx IHy hB hin
  go_enter Tryz.func39, Tryz.ntmps39
  go_wp2_with fail
  clear cK
  refine (kid_any ps _ W _ bb (i) T0.out.ctx 0 x rfl Ix.out).mono ?_
  rintro e w1 ⟨vx, rfl, hE, hB, hg⟩
  obtain ⟨qx, cx, rfl⟩ := hE.form
  have T1 := Lib.hid (T0.out.kid hE hB hg)
  clear hE hB hg cB
  have hz := T1.out.ctx.size
  have cB := T1.out.ctx.cellB
  have cA := fun o => (T1.out.ctx.alloc o).cellB
  go_wp2_with fail
  clear cA
  have T2 := Lib.hid (T1.out.box 117 #[.iface qx (.pointer (some ⟨cx, 0, none⟩)), int 0, .nilIface, int 0])
  have hsz2 := T1.out.ctx.size
  refine (next_any _ bb ps (i + x.ntok) T2.out.ctx.bat).mono ?_
  rintro e w3 ⟨rfl, hB, hg⟩
  have T3 := Lib.hid (T2.out.next hB hg)
  clear hB hg cB hz
  have hz := T3.out.ctx.size
  have cB := T3.out.ctx.cellB
  go_wp2_with fail
  refine (next_any _ bb ps (i + x.ntok + 1) T3.out.ctx.bat).mono ?_
  rintro e w4 ⟨rfl, hB, hg⟩
  have T4 := Lib.hid (T3.out.next hB hg)
  clear hB hg cB hz
  have hz := T4.out.ctx.size
  have cB := T4.out.ctx.cellB
  have ck := T4.out.cell 1
  have fk := T4.out.frozen 1
  simp at ck
  go_wp2_with fail
  have T5 := Lib.hid (T4.out.set_ 1 (int (posOf ps (i + x.ntok + 1))))
  refine (kid_any ps _ W _ bb (i + x.ntok + 1 + 1) T5.out.ctx 1 y rfl Iy.out).mono ?_
  rintro e w6 ⟨vy, rfl, hE, hB, hg⟩
  obtain ⟨qy, cy, rfl⟩ := hE.form
  have T6 := Lib.hid (T5.out.kid hE hB hg)
  clear hE hB hg cB hz ck fk
  have hz := T6.out.ctx.size
  have cB := T6.out.ctx.cellB
  have ck := T6.out.cell 2
  have fk := T6.out.frozen 2
  simp at ck
  go_wp2_with fail
  have T7 := Lib.hid (T6.out.set_ 2 (.iface qy (.pointer (some ⟨cy, 0, none⟩))))
  refine (next_any _ bb ps (i + x.ntok + 1 + 1 + y.ntok) T7.out.ctx.bat).mono ?_
  rintro e w8 ⟨rfl, hB, hg⟩
  have T8 := Lib.hid (T7.out.next hB hg)
  clear hB hg cB hz ck fk
  have hz := T8.out.ctx.size
  have cB := T8.out.ctx.cellB
  have ck := T8.out.cell 3
  have fk := T8.out.frozen 3
  simp at ck
  go_wp2_with fail
  have T9 := Lib.hid (T8.out.set_ 3 (int (posOf ps (i + x.ntok + 1 + 1 + y.ntok))))
  go_ret
  have hn : Nd.ntok ⟨⟨#[97, 115, 115, 101, 114, 116]⟩, tx, ad, cp, [x, y]⟩ = 3 + (x.ntok + (y.ntok + 0)) := Nd.ntok_of 8 rfl
  refine St.done T9.out (by rw [hn]; omega) (ExR.mk 8 rfl (vs := [.iface qx (.pointer (some ⟨cx, 0, none⟩)), .iface qy (.pointer (some ⟨cy, 0, none⟩))]) ?_ ?_)
  · exact ⟨T9.out.ex (by simp), T9.out.ex (by simp), trivial⟩
  · refine ⟨_, T9.out.own, rfl, ?_⟩
    show Blk _ _ 117 #[.iface qx (.pointer (some ⟨cx, 0, none⟩)), int (posOf ps (i + x.ntok + 1)), .iface qy (.pointer (some ⟨cy, 0, none⟩)), int (posOf ps (i + (3 + (x.ntok + (y.ntok + 0))) - 1))]
    rw [show i + (3 + (x.ntok + (y.ntok + 0))) - 1 = i + x.ntok + 1 + 1 + y.ntok by omega]
    exact T9.out.blk
end Go.Proofs.YtjbhjbpamnoebaaGreatFmt

namespace Go.Proofs.YtjbhjbpamnoebaaGreatFmt
open Go.RowKit

set_option maxRecDepth 100000 in
theorem expr_name (ps : List Int) (tx : ByteArray) (ad : Option Addr) (cp : Nat) : EOf ps ⟨⟨#[110, 97, 109, 101]⟩, tx, ad, cp, []⟩ := by
  intro W bb i hB hin
  have C0 : Ctx W bb ps ⟨⟨#[110, 97, 109, 101]⟩, tx, ad, cp, []⟩ i ((W.alloc (.cells #[.pointer (some ⟨bb, 0, none⟩)] 250)).alloc (.cells #[.string ⟨#[110, 97, 109, 101]⟩, .string tx, .slice ad 0 cp] 24)) := Ctx.start hB hin
  show Calls _ _ #[_, .agg #[.string ⟨#[110, 97, 109, 101]⟩, .string tx, .slice ad 0 cp]] W _
  have cB := C0.cellB
  have cK := C0.cellK
  have cT := C0.cellT
  have T0 := Lib.hid C0.st
  clear C0  hB hin
  go_enter Tryz.func39, Tryz.ntmps39
  go_wp2_with fail
  clear cK
  go_region_held3 (fun w' => w'.cell? ⟨W.heap.size, 0, none⟩ = some (.pointer (some ⟨bb, 0, none⟩)) ∧ w'.cell? ⟨W.heap.size + 1, 1, none⟩ = some (.string tx)) (first | with_reducible exact ⟨(T1.out.ctx.alloc _).cellB, (T1.out.ctx.alloc _).cellT⟩ | with_reducible exact ⟨T1.out.ctx.cellB, T1.out.ctx.cellT⟩ | with_reducible exact ⟨T0.out.drew.ctx.cellB, T0.out.drew.ctx.cellT⟩) (first | (go_at_call 57; refine (next_any _ bb ps (i) T0.out.drew.ctx.bat).mono ?_; rintro e w1 ⟨rfl, hB, hg⟩; have T1 := Lib.hid (T0.out.drew.next hB hg); clear hB hg))
  have T2 := Lib.hid (T1.out.box 273 #[int (posOf ps i), .string tx, .pointer none])
  have hsz2 := T1.out.ctx.size
  clear cB cT
  have cB := T2.out.ctx.cellB
  go_wp2_with fail
  go_ret
  have hn : Nd.ntok ⟨⟨#[110, 97, 109, 101]⟩, tx, ad, cp, []⟩ = 1 + 0 := Nd.ntok_of 0 rfl
  refine St.done T2.out (by rw [hn] <;> omega) (ExR.mk 0 rfl (vs := []) ?_ ?_)
  · trivial
  · refine ⟨_, T2.out.own, rfl, ?_⟩
    show Blk _ _ 273 #[int (posOf ps i), .string tx, .pointer none]
    exact T2.out.blk

set_option maxRecDepth 100000 in
theorem expr_literal (ps : List Int) (tx : ByteArray) (ad : Option Addr) (cp : Nat) (hps : ∀ i, 0 ≤ posOf ps i ∧ posOf ps i ≤ 4611686018427387904) (htx : tx.size ≤ 1048576) : EOf ps ⟨⟨#[108, 105, 116, 101, 114, 97, 108]⟩, tx, ad, cp, []⟩ := by
  intro W bb i hB hin
  have C0 : Ctx W bb ps ⟨⟨#[108, 105, 116, 101, 114, 97, 108]⟩, tx, ad, cp, []⟩ i ((W.alloc (.cells #[.pointer (some ⟨bb, 0, none⟩)] 250)).alloc (.cells #[.string ⟨#[108, 105, 116, 101, 114, 97, 108]⟩, .string tx, .slice ad 0 cp] 24)) := Ctx.start hB hin
  show Calls _ _ #[_, .agg #[.string ⟨#[108, 105, 116, 101, 114, 97, 108]⟩, .string tx, .slice ad 0 cp]] W _
  have cB := C0.cellB
  have cK := C0.cellK
  have cT := C0.cellT
  have hp1 := (hps i).1
  have hp2 := (hps i).2
  have ht1 : (tx.size : Int) ≤ 1048576 := by omega
  clear hps
  have T0 := Lib.hid C0.st
  clear C0  hB hin
  go_enter Tryz.func39, Tryz.ntmps39
  go_wp2_with fail
  clear cK
  refine (next_any _ bb ps (i) T0.out.ctx.bat).mono ?_
  rintro e w1 ⟨rfl, hB, hg⟩
  have T1 := Lib.hid (T0.out.next hB hg)
  clear hB hg cB
  have hz := T1.out.ctx.size
  have cB := T1.out.ctx.cellB
  have cT := T1.out.ctx.cellT
  go_wp2_with fail
  have T2 := Lib.hid (T1.out.box 269 #[int (posOf ps i), int (posOf ps i + tx.size), int 5, .string tx])
  have hsz2 := T1.out.ctx.size
  go_ret
  have hn : Nd.ntok ⟨⟨#[108, 105, 116, 101, 114, 97, 108]⟩, tx, ad, cp, []⟩ = 1 + 0 := Nd.ntok_of 1 rfl
  refine St.done T2.out (by rw [hn] <;> omega) (ExR.mk 1 rfl (vs := []) ?_ ?_)
  · trivial
  · refine ⟨_, T2.out.own, rfl, ?_⟩
    show Blk _ _ 269 #[int (posOf ps i), int (posOf ps i + tx.size), int 5, .string tx]
    exact T2.out.blk

set_option maxRecDepth 100000 in
theorem expr_array1 (ps : List Int) (tx : ByteArray) (ad : Option Addr) (cp : Nat) (x : Nd) (IHx : EOf ps x) : EOf ps ⟨⟨#[97, 114, 114, 97, 121]⟩, tx, ad, cp, [x]⟩ := by
  intro W bb i hB hin
  have C0 : Ctx W bb ps ⟨⟨#[97, 114, 114, 97, 121]⟩, tx, ad, cp, [x]⟩ i ((W.alloc (.cells #[.pointer (some ⟨bb, 0, none⟩)] 250)).alloc (.cells #[.string ⟨#[97, 114, 114, 97, 121]⟩, .string tx, .slice ad 1 cp] 24)) := Ctx.start hB hin
  show Calls _ _ #[_, .agg #[.string ⟨#[97, 114, 114, 97, 121]⟩, .string tx, .slice ad 1 cp]] W _
  have cB := C0.cellB
  have cK := C0.cellK
  have cS := C0.cellS
  simp only [List.length_cons, List.length_nil, Nat.zero_add] at cS
  have T0 := Lib.hid C0.st
  have Ix := Lib.hid IHx
  clear C0 IHx hB hin
  go_enter Tryz.func39, Tryz.ntmps39
  go_wp2_with fail
  clear cK
  refine (next_any _ bb ps (i) T0.out.ctx.bat).mono ?_
  rintro e w1 ⟨rfl, hB, hg⟩
  have T1 := Lib.hid (T0.out.next hB hg)
  clear hB hg cB
  have hz := T1.out.ctx.size
  have cB := T1.out.ctx.cellB
  have cS := T1.out.ctx.cellS
  simp only [List.length_cons, List.length_nil, Nat.zero_add] at cS
  have cA := fun o => (T1.out.ctx.alloc o).cellB
  go_wp2_with fail
  clear cA
  have T2 := Lib.hid (T1.out.box 136 #[int (posOf ps i), .nilIface, .nilIface])
  have hsz2 := T1.out.ctx.size
  refine (next_any _ bb ps (i + 1) T2.out.ctx.bat).mono ?_
  rintro e w3 ⟨rfl, hB, hg⟩
  have T3 := Lib.hid (T2.out.next hB hg)
  clear hB hg cB hz cS
  have hz := T3.out.ctx.size
  have cB := T3.out.ctx.cellB
  have cS := T3.out.ctx.cellS
  simp only [List.length_cons, List.length_nil, Nat.zero_add] at cS
  go_wp2_with fail
  refine (kid_any ps _ W _ bb (i + 1 + 1) T3.out.ctx 0 x rfl Ix.out).mono ?_
  rintro e w4 ⟨vx, rfl, hE, hB, hg⟩
  obtain ⟨qx, cx, rfl⟩ := hE.form
  have T4 := Lib.hid (T3.out.kid hE hB hg)
  clear hE hB hg cB hz cS
  have hz := T4.out.ctx.size
  have cB := T4.out.ctx.cellB
  have ck := T4.out.cell 2
  have fk := T4.out.frozen 2
  simp at ck
  go_wp2_with fail
  have T5 := Lib.hid (T4.out.set_ 2 (.iface qx (.pointer (some ⟨cx, 0, none⟩))))
  go_ret
  have hn : Nd.ntok ⟨⟨#[97, 114, 114, 97, 121]⟩, tx, ad, cp, [x]⟩ = 2 + (x.ntok + 0) := Nd.ntok_of 14 rfl
  refine St.done T5.out (by rw [hn] <;> omega) (ExR.mk 14 rfl (vs := [.iface qx (.pointer (some ⟨cx, 0, none⟩))]) ?_ ?_)
  · exact ⟨T5.out.ex (by simp), trivial⟩
  · refine ⟨_, T5.out.own, rfl, ?_⟩
    show Blk _ _ 136 #[int (posOf ps i), .nilIface, .iface qx (.pointer (some ⟨cx, 0, none⟩))]
    exact T5.out.blk

set_option maxRecDepth 100000 in
theorem expr_array2 (ps : List Int) (tx : ByteArray) (ad : Option Addr) (cp : Nat) (x : Nd) (y : Nd) (IHx : EOf ps x) (IHy : EOf ps y) : EOf ps ⟨⟨#[97, 114, 114, 97, 121]⟩, tx, ad, cp, [x, y]⟩ := by
  intro W bb i hB hin
  have C0 : Ctx W bb ps ⟨⟨#[97, 114, 114, 97, 121]⟩, tx, ad, cp, [x, y]⟩ i ((W.alloc (.cells #[.pointer (some ⟨bb, 0, none⟩)] 250)).alloc (.cells #[.string ⟨#[97, 114, 114, 97, 121]⟩, .string tx, .slice ad 2 cp] 24)) := Ctx.start hB hin
  show Calls _ _ #[_, .agg #[.string ⟨#[97, 114, 114, 97, 121]⟩, .string tx, .slice ad 2 cp]] W _
  have cB := C0.cellB
  have cK := C0.cellK
  have cS := C0.cellS
  simp only [List.length_cons, List.length_nil, Nat.zero_add, Nat.reduceAdd] at cS
  have T0 := Lib.hid C0.st
  have Ix := Lib.hid IHx
  have Iy := Lib.hid IHy
  clear C0 IHx IHy hB hin
  go_enter Tryz.func39, Tryz.ntmps39
  go_wp2_with fail
  clear cK
  refine (next_any _ bb ps (i) T0.out.ctx.bat).mono ?_
  rintro e w1 ⟨rfl, hB, hg⟩
  have T1 := Lib.hid (T0.out.next hB hg)
  clear hB hg cB
  have hz := T1.out.ctx.size
  have cB := T1.out.ctx.cellB
  have cS := T1.out.ctx.cellS
  simp only [List.length_cons, List.length_nil, Nat.zero_add, Nat.reduceAdd] at cS
  go_wp2_with fail
  have T2 := Lib.hid (T1.out.box 136 #[int (posOf ps i), .nilIface, .nilIface])
  have hsz2 := T1.out.ctx.size
  refine (kid_any ps _ W _ bb (i + 1) T2.out.ctx 0 x rfl Ix.out).mono ?_
  rintro e w3 ⟨vx, rfl, hE, hB, hg⟩
  obtain ⟨qx, cx, rfl⟩ := hE.form
  have T3 := Lib.hid (T2.out.kid hE hB hg)
  clear hE hB hg cB hz cS
  have hz := T3.out.ctx.size
  have cB := T3.out.ctx.cellB
  have cS := T3.out.ctx.cellS
  simp only [List.length_cons, List.length_nil, Nat.zero_add, Nat.reduceAdd] at cS
  have ck := T3.out.cell 1
  have fk := T3.out.frozen 1
  simp at ck
  go_wp2_with fail
  have T4 := Lib.hid (T3.out.set_ 1 (.iface qx (.pointer (some ⟨cx, 0, none⟩))))
  refine (next_any _ bb ps (i + 1 + x.ntok) T4.out.ctx.bat).mono ?_
  rintro e w5 ⟨rfl, hB, hg⟩
  have T5 := Lib.hid (T4.out.next hB hg)
  clear hB hg cB hz ck fk cS
  have hz := T5.out.ctx.size
  have cB := T5.out.ctx.cellB
  have cS := T5.out.ctx.cellS
  simp only [List.length_cons, List.length_nil, Nat.zero_add, Nat.reduceAdd] at cS
  go_wp2_with fail
  refine (kid_any ps _ W _ bb (i + 1 + x.ntok + 1) T5.out.ctx 1 y rfl Iy.out).mono ?_
  rintro e w6 ⟨vy, rfl, hE, hB, hg⟩
  obtain ⟨qy, cy, rfl⟩ := hE.form
  have T6 := Lib.hid (T5.out.kid hE hB hg)
  clear hE hB hg cB hz cS
  have hz := T6.out.ctx.size
  have cB := T6.out.ctx.cellB
  have ck := T6.out.cell 2
  have fk := T6.out.frozen 2
  simp at ck
  go_wp2_with fail
  have T7 := Lib.hid (T6.out.set_ 2 (.iface qy (.pointer (some ⟨cy, 0, none⟩))))
  go_ret
  have hn : Nd.ntok ⟨⟨#[97, 114, 114, 97, 121]⟩, tx, ad, cp, [x, y]⟩ = 2 + (x.ntok + (y.ntok + 0)) := Nd.ntok_of 14 rfl
  refine St.done T7.out (by rw [hn] <;> omega) (ExR.mk 14 rfl (vs := [.iface qx (.pointer (some ⟨cx, 0, none⟩)), .iface qy (.pointer (some ⟨cy, 0, none⟩))]) ?_ ?_)
  · exact ⟨T7.out.ex (by simp), T7.out.ex (by simp), trivial⟩
  · refine ⟨_, T7.out.own, rfl, ?_⟩
    show Blk _ _ 136 #[int (posOf ps i), .iface qx (.pointer (some ⟨cx, 0, none⟩)), .iface qy (.pointer (some ⟨cy, 0, none⟩))]
    exact T7.out.blk
end Go.Proofs.YtjbhjbpamnoebaaGreatFmt

namespace Go.Proofs.YtjbhjbpamnoebaaGreatFmt
open Go.RowKit

theorem St.alloc {W w : World} {bb : Nat} {ps : List Int} {n : Nd} {b : Nat} {t : TypeId} {cs : Array Value} {j : Nat} {es : List (Nat × Nd × Value)} (h : St W bb ps n b t cs j es w) (o : Obj) : St W bb ps n b t cs j es (w.alloc o) :=
  h.next (h.1.alloc o).bat (World.grownBy_alloc w o _)
theorem sel_cell {W w : World} {bb : Nat} {ps : List Int} {n : Nd} {b : Nat} {t : TypeId} {u v : Value} {j : Nat} {es : List (Nat × Nd × Value)} (h : St W bb ps n b t #[u, v] j es w) (o : Obj) : (w.alloc o).cell? ⟨b, 1, none⟩ = some v := (h.alloc o).cell 1

set_option maxRecDepth 100000 in
theorem expr_select (ps : List Int) (tx : ByteArray) (ad : Option Addr) (cp : Nat) (x : Nd) (IHx : EOf ps x) : EOf ps ⟨⟨#[115, 101, 108, 101, 99, 116]⟩, tx, ad, cp, [x]⟩ := by
  intro W bb i hB hin
  have C0 : Ctx W bb ps ⟨⟨#[115, 101, 108, 101, 99, 116]⟩, tx, ad, cp, [x]⟩ i ((W.alloc (.cells #[.pointer (some ⟨bb, 0, none⟩)] 250)).alloc (.cells #[.string ⟨#[115, 101, 108, 101, 99, 116]⟩, .string tx, .slice ad 1 cp] 24)) := Ctx.start hB hin
  show Calls _ _ #[_, .agg #[.string ⟨#[115, 101, 108, 101, 99, 116]⟩, .string tx, .slice ad 1 cp]] W _
  have cB := C0.cellB
  have cK := C0.cellK
  have cT := C0.cellT
  have T0 := Lib.hid C0.st
  have Ix := Lib.hid IHx
  clear C0 IHx hB hin
  go_enter Tryz.func39, Tryz.ntmps39
  go_wp2_with fail
  clear cK
  refine (kid_any ps _ W _ bb (i) T0.out.ctx 0 x rfl Ix.out).mono ?_
  rintro e w1 ⟨vx, rfl, hE, hB, hg⟩
  obtain ⟨qx, cx, rfl⟩ := hE.form
  have T1 := Lib.hid (T0.out.kid hE hB hg)
  clear hE hB hg cB
  have hz := T1.out.ctx.size
  have cB := T1.out.ctx.cellB
  have cA := fun o => (T1.out.ctx.alloc o).cellB
  go_wp2_with fail
  clear cA
  have T2 := Lib.hid (T1.out.box 105 #[.iface qx (.pointer (some ⟨cx, 0, none⟩)), .pointer none])
  have hsz2 := T1.out.ctx.size
  refine (next_any _ bb ps (i + x.ntok) T2.out.ctx.bat).mono ?_
  rintro e w3 ⟨rfl, hB, hg⟩
  have T3 := Lib.hid (T2.out.next hB hg)
  clear hB hg cB hz
  have hz := T3.out.ctx.size
  have cB := T3.out.ctx.cellB
  have cT := T3.out.ctx.cellT
  go_wp2_with fail
  go_region_held3 (fun w' => w'.cell? ⟨W.heap.size, 0, none⟩ = some (.pointer (some ⟨bb, 0, none⟩)) ∧ w'.cell? ⟨W.heap.size + 1, 1, none⟩ = some (.string tx)) (first | with_reducible exact ⟨((T4.out.alloc _).set_ _ _).ctx.cellB, ((T4.out.alloc _).set_ _ _).ctx.cellT⟩ | with_reducible exact ⟨(T4.out.alloc _).ctx.cellB, (T4.out.alloc _).ctx.cellT⟩ | with_reducible exact ⟨T4.out.ctx.cellB, T4.out.ctx.cellT⟩ | with_reducible exact ⟨T3.out.drew.ctx.cellB, T3.out.drew.ctx.cellT⟩) (first | (go_at_call 57; refine (next_any _ bb ps (i + x.ntok + 1) T3.out.drew.ctx.bat).mono ?_; rintro e w4 ⟨rfl, hB, hg⟩; have T4 := Lib.hid (T3.out.drew.next hB hg); have ck := fun o => sel_cell T4.out o; have fk := fun o => (T4.out.alloc o).frozen 1; clear hB hg))
  have hI := Lib.hid ((Blk.new w4 273 #[int (posOf ps (i + x.ntok + 1)), .string tx, .pointer none]).far (p := ⟨w1.heap.size, 1, none⟩) (Nat.ne_of_gt T4.out.blk.lt) (.pointer (some ⟨w4.heap.size, 0, none⟩)))
  have T5 := Lib.hid ((T4.out.alloc (.cells #[int (posOf ps (i + x.ntok + 1)), .string tx, .pointer none] 273)).set_ 1 (.pointer (some ⟨w4.heap.size, 0, none⟩)))
  clear cB cT hz
  go_wp2_with fail
  go_ret
  have hn : Nd.ntok ⟨⟨#[115, 101, 108, 101, 99, 116]⟩, tx, ad, cp, [x]⟩ = 2 + (x.ntok + 0) := Nd.ntok_of 6 rfl
  refine St.done T5.out (by rw [hn] <;> omega) (ExR.mk 6 rfl (vs := [.iface qx (.pointer (some ⟨cx, 0, none⟩))]) ?_ ?_)
  · exact ⟨T5.out.ex (by simp), trivial⟩
  · refine ⟨_, T5.out.own, rfl, w4.heap.size, ⟨by have := T4.out.ctx.size; omega, hI.out.lt⟩, T5.out.blk, hI.out⟩
end Go.Proofs.YtjbhjbpamnoebaaGreatFmt
