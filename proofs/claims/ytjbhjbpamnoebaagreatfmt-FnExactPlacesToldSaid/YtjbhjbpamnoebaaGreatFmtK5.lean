/-
  builder.expr, kind by kind (laid by gen/ep2.py).
  builder.expr, kind by kind (laid by gen/ep2.py).
  builder.expr, kind by kind (laid by gen/ep2.py).
-/
import Derived.Test.YtjbhjbpamnoebaaGreatFmtK3
namespace Go.Proofs.YtjbhjbpamnoebaaGreatFmt
open Go.RowKit

set_option maxRecDepth 100000 in
theorem expr_call_n (ps : List Int) (ad : Option Addr) (cp : Nat) (x : Nd) (rest : List Nd) (hcp : ¬ cp = 1) (IHx : EOf ps x) (IHr : ∀ k ∈ rest, EOf ps k) (hlen : rest.length ≤ 400) : EOf ps ⟨⟨#[99, 97, 108, 108]⟩, ⟨#[]⟩, ad, cp, x :: rest⟩ := by
  intro W bb i hB hin
  have hinK := hin
  obtain ⟨⟨ab, ao, had⟩, hcp1, hcp2⟩ := ad_form hin
  have hcp3 : cp ≤ 9223372036854775807 := hcp2
  subst had
  clear hcp2
  have hr1 : rest.length + 1 ≤ 9223372036854775807 := by omega
  have hrI : (1 : Int) ≤ (rest.length : Int) + 1 := by omega
  have C0 : Ctx W bb ps ⟨⟨#[99, 97, 108, 108]⟩, ⟨#[]⟩, (some ⟨ab, ao, none⟩), cp, x :: rest⟩ i ((W.alloc (.cells #[.pointer (some ⟨bb, 0, none⟩)] 250)).alloc (.cells #[.string ⟨#[99, 97, 108, 108]⟩, .string ⟨#[]⟩, .slice (some ⟨ab, ao, none⟩) (rest.length + 1) cp] 24)) := Ctx.start hB hin
  show Calls _ _ #[_, .agg #[.string ⟨#[99, 97, 108, 108]⟩, .string ⟨#[]⟩, .slice (some ⟨ab, ao, none⟩) (rest.length + 1) cp]] W _
  have cB := C0.cellB
  have cK := C0.cellK
  have HR := Lib.hid IHr
  clear hinK IHr
  have T0 := Lib.hid C0.st
  have Ix := Lib.hid IHx
  clear C0 IHx hB hin
  go_enter Tryz.func39, Tryz.ntmps39
  go_wp2_with fail
  clear cK
  have kS : ∀ j w, Ctx W bb ps ⟨⟨#[99, 97, 108, 108]⟩, ⟨#[]⟩, (some ⟨ab, ao, none⟩), cp, x :: rest⟩ j w → w.cell? ⟨W.heap.size + 1, 2, none⟩ = some (.slice (some ⟨ab, ao, none⟩) (rest.length + 1) cp) := fun j w h => h.cellS
  have KS := Lib.hid kS
  clear kS
  go_region_held3 (fun w' => w'.cell? ⟨W.heap.size, 0, none⟩ = some (.pointer (some ⟨bb, 0, none⟩))) (first | with_reducible exact ((T2.out.ctx.alloc _).cellB) | with_reducible exact (T2.out.ctx.cellB) | with_reducible exact (T1.out.ctx.cellB) | with_reducible exact (T0.out.drew.ctx.cellB)) (first | (go_at_call 56; refine (kid_any ps _ W _ bb (i) T0.out.drew.ctx 0 x rfl Ix.out).mono ?_; rintro e w1 ⟨vx, rfl, hE, hB, hg⟩; obtain ⟨qx, cx, rfl⟩ := hE.form; have T1 := Lib.hid (T0.out.drew.kid hE hB hg); clear hE hB hg) | (go_at_call 57; refine (next_any _ bb ps (i + x.ntok) T1.out.ctx.bat).mono ?_; rintro e w2 ⟨rfl, hB, hg⟩; have T2 := Lib.hid (T1.out.next hB hg); clear hB hg))
  have T3 := Lib.hid (T2.out.box 120 #[.iface qx (.pointer (some ⟨cx, 0, none⟩)), int (posOf ps (i + x.ntok)), .slice none 0 0, int 0, int 0])
  have hsz3 := T2.out.ctx.size
  clear cB
  have cB := T3.out.ctx.cellB
  have cS := T2.out.ctx.cellS
  simp only [List.length_cons ] at cS
  go_wp2_with fail
  clear cB cS
  go_region_held3 (fun w' => w'.cell? ⟨W.heap.size, 0, none⟩ = some (.pointer (some ⟨bb, 0, none⟩)) ∧ w'.cell? ⟨W.heap.size + 1, 2, none⟩ = some (.slice (some ⟨ab, ao, none⟩) (rest.length + 1) cp)) (first | with_reducible exact ⟨(T4.out.set_ _ _).ctx.cellB, KS.out _ _ (T4.out.set_ _ _).ctx⟩ | with_reducible exact ⟨T4.out.ctx.cellB, KS.out _ _ T4.out.ctx⟩ | exact ⟨T3.out.drew.ctx.cellB, KS.out _ _ T3.out.drew.ctx⟩) (first | (go_at_call 60; refine (list_any ps ⟨⟨#[99, 97, 108, 108]⟩, ⟨#[]⟩, some ⟨ab, ao + 3, none⟩, cp - 1, rest⟩ hlen HR.out _ bb (i + x.ntok + 1) T3.out.drew.ctx.bat (tail_in T3.out.drew.ctx.in_) _ rfl).mono ?_; rintro e w4 ⟨sv, us, rfl, hX, hSl, hB, hg⟩; obtain ⟨sA, sn, sc, rfl⟩ := hSl.form; have LR4 := Lib.hid (T3.out.drew.list hX hSl); have T4 := Lib.hid (T3.out.drew.next hB hg); have ck := sl_cell (T4.out.cell 2) rfl; have fk := T4.out.frozen 2; clear hX hSl hB hg))
  have T5 := Lib.hid (T4.out.set_ 2 (.slice sA sn sc))
  have LR5 := Lib.hid (LR4.out.set_ 2 (.slice sA sn sc))
  have hz := T4.out.ctx.size
  have cB := T4.out.ctx.cellB
  have cT := T4.out.ctx.cellT
  clear ck fk
  go_wp2_with fail
  refine (next_any _ bb ps (i + x.ntok + 1 + ntokL rest + (rest.length - 1)) T5.out.ctx.bat).mono ?_
  rintro e w6 ⟨rfl, hB, hg⟩
  have T6 := Lib.hid (T5.out.next hB hg)
  have LR6 := Lib.hid (LR5.out.grown hg)
  clear hB hg cB hz cT
  have hz := T6.out.ctx.size
  have cB := T6.out.ctx.cellB
  have ck := T6.out.cell 4
  have fk := T6.out.frozen 4
  simp at ck
  go_wp2_with fail
  have T7 := Lib.hid (T6.out.set_ 4 (int (posOf ps (i + x.ntok + 1 + ntokL rest + (rest.length - 1)))))
  have LR7 := Lib.hid (LR6.out.set_ 4 (int (posOf ps (i + x.ntok + 1 + ntokL rest + (rest.length - 1)))))
  go_ret
  have hn : Nd.ntok ⟨⟨#[99, 97, 108, 108]⟩, ⟨#[]⟩, (some ⟨ab, ao, none⟩), cp, x :: rest⟩ = 2 + (rest.length + 1 - 2) + 0 + (x.ntok + ntokL rest) := Nd.ntok_of 12 rfl
  have hr0 := Nat.zero_le rest.length
  refine St.done T7.out (by rw [hn]; omega) (ExR.mk 12 rfl (vs := .iface qx (.pointer (some ⟨cx, 0, none⟩)) :: us) ?_ ?_)
  · exact ⟨T7.out.ex (by simp), LR7.out.exl⟩
  · refine ⟨_, T7.out.own, rfl, .slice sA sn sc, LR7.out.sl, ?_⟩
    show Blk _ _ 120 #[.iface qx (.pointer (some ⟨cx, 0, none⟩)), int (posOf ps (i + x.ntok)), .slice sA sn sc, int 0, int (posOf ps (i + (2 + (rest.length + 1 - 2) + 0 + (x.ntok + ntokL rest)) - 1))]
    rw [show i + (2 + (rest.length + 1 - 2) + 0 + (x.ntok + ntokL rest)) - 1 = i + x.ntok + 1 + ntokL rest + (rest.length - 1) by omega]
    exact T7.out.blk

set_option maxRecDepth 100000 in
theorem expr_call_1 (ps : List Int) (ad : Option Addr) (x : Nd) (IHx : EOf ps x) : EOf ps ⟨⟨#[99, 97, 108, 108]⟩, ⟨#[]⟩, ad, 1, [x]⟩ := by
  intro W bb i hB hin
  have hinK := hin
  obtain ⟨⟨ab, ao, had⟩, hcp1, hcp2⟩ := ad_form hin
  subst had
  clear hcp2
  have C0 : Ctx W bb ps ⟨⟨#[99, 97, 108, 108]⟩, ⟨#[]⟩, (some ⟨ab, ao, none⟩), 1, [x]⟩ i ((W.alloc (.cells #[.pointer (some ⟨bb, 0, none⟩)] 250)).alloc (.cells #[.string ⟨#[99, 97, 108, 108]⟩, .string ⟨#[]⟩, .slice (some ⟨ab, ao, none⟩) 1 1] 24)) := Ctx.start hB hin
  show Calls _ _ #[_, .agg #[.string ⟨#[99, 97, 108, 108]⟩, .string ⟨#[]⟩, .slice (some ⟨ab, ao, none⟩) 1 1]] W _
  have cB := C0.cellB
  have cK := C0.cellK
  have T0 := Lib.hid C0.st
  have Ix := Lib.hid IHx
  clear C0 IHx hB hin
  go_enter Tryz.func39, Tryz.ntmps39
  go_wp2_with fail
  clear cK
  clear hinK hcp1
  have kS : ∀ j w, Ctx W bb ps ⟨⟨#[99, 97, 108, 108]⟩, ⟨#[]⟩, (some ⟨ab, ao, none⟩), 1, [x]⟩ j w → w.cell? ⟨W.heap.size + 1, 2, none⟩ = some (.slice (some ⟨ab, ao, none⟩) 1 1) := fun j w h => h.cellS
  have KS := Lib.hid kS
  clear kS
  go_region_held3 (fun w' => w'.cell? ⟨W.heap.size, 0, none⟩ = some (.pointer (some ⟨bb, 0, none⟩))) (first | with_reducible exact ((T2.out.ctx.alloc _).cellB) | with_reducible exact (T2.out.ctx.cellB) | with_reducible exact (T1.out.ctx.cellB) | with_reducible exact (T0.out.drew.ctx.cellB)) (first | (go_at_call 56; refine (kid_any ps _ W _ bb (i) T0.out.drew.ctx 0 x rfl Ix.out).mono ?_; rintro e w1 ⟨vx, rfl, hE, hB, hg⟩; obtain ⟨qx, cx, rfl⟩ := hE.form; have T1 := Lib.hid (T0.out.drew.kid hE hB hg); clear hE hB hg) | (go_at_call 57; refine (next_any _ bb ps (i + x.ntok) T1.out.ctx.bat).mono ?_; rintro e w2 ⟨rfl, hB, hg⟩; have T2 := Lib.hid (T1.out.next hB hg); clear hB hg))
  have T3 := Lib.hid (T2.out.box 120 #[.iface qx (.pointer (some ⟨cx, 0, none⟩)), int (posOf ps (i + x.ntok)), .slice none 0 0, int 0, int 0])
  have hsz3 := T2.out.ctx.size
  clear cB
  have cB := T3.out.ctx.cellB
  have cS := T2.out.ctx.cellS
  simp only [List.length_cons, List.length_nil, Nat.zero_add] at cS
  go_wp2_with fail
  clear cB cS
  go_region_held3 (fun w' => w'.cell? ⟨W.heap.size, 0, none⟩ = some (.pointer (some ⟨bb, 0, none⟩)) ∧ w'.cell? ⟨W.heap.size + 1, 2, none⟩ = some (.slice (some ⟨ab, ao, none⟩) 1 1)) (first | with_reducible exact ⟨(T4.out.set_ _ _).ctx.cellB, KS.out _ _ (T4.out.set_ _ _).ctx⟩ | with_reducible exact ⟨T4.out.ctx.cellB, KS.out _ _ T4.out.ctx⟩ | exact ⟨T3.out.drew.ctx.cellB, KS.out _ _ T3.out.drew.ctx⟩) (first | (go_at_call 60; refine (list_any ps ⟨⟨#[99, 97, 108, 108]⟩, ⟨#[]⟩, some ⟨ab, ao, none⟩, 0, ([] : List Nd)⟩ (Nat.zero_le _) (fun k hk => by cases hk) _ bb (i + x.ntok + 1) T3.out.drew.ctx.bat (nil_in _ _ _ _ _) _ rfl).mono ?_; rintro e w4 ⟨sv, us, rfl, hX, hSl, hB, hg⟩; obtain ⟨sA, sn, sc, rfl⟩ := hSl.form; have LR4 := Lib.hid (T3.out.drew.list hX hSl); have T4 := Lib.hid (T3.out.drew.next hB hg); have ck := sl_cell (T4.out.cell 2) rfl; have fk := T4.out.frozen 2; clear hX hSl hB hg))
  have T5 := Lib.hid (T4.out.set_ 2 (.slice sA sn sc))
  have LR5 := Lib.hid (LR4.out.set_ 2 (.slice sA sn sc))
  have hz := T4.out.ctx.size
  have cB := T4.out.ctx.cellB
  have cT := T4.out.ctx.cellT
  clear ck fk
  go_wp2_with fail
  refine (next_any _ bb ps (i + x.ntok + 1 + ntokL ([] : List Nd) + (([] : List Nd).length - 1)) T5.out.ctx.bat).mono ?_
  rintro e w6 ⟨rfl, hB, hg⟩
  have T6 := Lib.hid (T5.out.next hB hg)
  have LR6 := Lib.hid (LR5.out.grown hg)
  clear hB hg cB hz cT
  have hz := T6.out.ctx.size
  have cB := T6.out.ctx.cellB
  have ck := T6.out.cell 4
  have fk := T6.out.frozen 4
  simp at ck
  go_wp2_with fail
  have T7 := Lib.hid (T6.out.set_ 4 (int (posOf ps (i + x.ntok + 1 + ntokL ([] : List Nd) + (([] : List Nd).length - 1)))))
  have LR7 := Lib.hid (LR6.out.set_ 4 (int (posOf ps (i + x.ntok + 1 + ntokL ([] : List Nd) + (([] : List Nd).length - 1)))))
  go_ret
  have hn : Nd.ntok ⟨⟨#[99, 97, 108, 108]⟩, ⟨#[]⟩, (some ⟨ab, ao, none⟩), 1, [x]⟩ = 2 + (1 - 2) + 0 + (x.ntok + ntokL ([] : List Nd)) := Nd.ntok_of 12 rfl
  have hz0 : ntokL [] = 0 := rfl
  have hz1 : ([] : List Nd).length = 0 := rfl
  refine St.done T7.out (by rw [hn]; omega) (ExR.mk 12 rfl (vs := .iface qx (.pointer (some ⟨cx, 0, none⟩)) :: us) ?_ ?_)
  · exact ⟨T7.out.ex (by simp), LR7.out.exl⟩
  · refine ⟨_, T7.out.own, rfl, .slice sA sn sc, LR7.out.sl, ?_⟩
    show Blk _ _ 120 #[.iface qx (.pointer (some ⟨cx, 0, none⟩)), int (posOf ps (i + x.ntok)), .slice sA sn sc, int 0, int (posOf ps (i + (2 + (1 - 2) + 0 + (x.ntok + ntokL ([] : List Nd))) - 1))]
    rw [show i + (2 + (1 - 2) + 0 + (x.ntok + ntokL ([] : List Nd))) - 1 = i + x.ntok + 1 + ntokL ([] : List Nd) + (([] : List Nd).length - 1) by omega]
    exact T7.out.blk
end Go.Proofs.YtjbhjbpamnoebaaGreatFmt

namespace Go.Proofs.YtjbhjbpamnoebaaGreatFmt
open Go.RowKit

set_option maxRecDepth 100000 in
theorem expr_call_d (ps : List Int) (ad : Option Addr) (cp : Nat) (x : Nd) (rest : List Nd) (hcp : ¬ cp = 1) (hrest : 0 < rest.length) (IHx : EOf ps x) (IHr : ∀ k ∈ rest, EOf ps k) (hlen : rest.length ≤ 400) : EOf ps ⟨⟨#[99, 97, 108, 108]⟩, ⟨#[46, 46, 46]⟩, ad, cp, x :: rest⟩ := by
  intro W bb i hB hin
  have hinK := hin
  obtain ⟨⟨ab, ao, had⟩, hcp1, hcp2⟩ := ad_form hin
  have hcp3 : cp ≤ 9223372036854775807 := hcp2
  subst had
  clear hcp2
  have hr1 : rest.length + 1 ≤ 9223372036854775807 := by omega
  have hrI : (1 : Int) ≤ (rest.length : Int) + 1 := by omega
  have C0 : Ctx W bb ps ⟨⟨#[99, 97, 108, 108]⟩, ⟨#[46, 46, 46]⟩, (some ⟨ab, ao, none⟩), cp, x :: rest⟩ i ((W.alloc (.cells #[.pointer (some ⟨bb, 0, none⟩)] 250)).alloc (.cells #[.string ⟨#[99, 97, 108, 108]⟩, .string ⟨#[46, 46, 46]⟩, .slice (some ⟨ab, ao, none⟩) (rest.length + 1) cp] 24)) := Ctx.start hB hin
  show Calls _ _ #[_, .agg #[.string ⟨#[99, 97, 108, 108]⟩, .string ⟨#[46, 46, 46]⟩, .slice (some ⟨ab, ao, none⟩) (rest.length + 1) cp]] W _
  have cB := C0.cellB
  have cK := C0.cellK
  have HR := Lib.hid IHr
  clear hinK IHr
  have T0 := Lib.hid C0.st
  have Ix := Lib.hid IHx
  clear C0 IHx hB hin
  go_enter Tryz.func39, Tryz.ntmps39
  go_wp2_with fail
  clear cK
  have kS : ∀ j w, Ctx W bb ps ⟨⟨#[99, 97, 108, 108]⟩, ⟨#[46, 46, 46]⟩, (some ⟨ab, ao, none⟩), cp, x :: rest⟩ j w → w.cell? ⟨W.heap.size + 1, 2, none⟩ = some (.slice (some ⟨ab, ao, none⟩) (rest.length + 1) cp) := fun j w h => h.cellS
  have KS := Lib.hid kS
  clear kS
  go_region_held3 (fun w' => w'.cell? ⟨W.heap.size, 0, none⟩ = some (.pointer (some ⟨bb, 0, none⟩))) (first | with_reducible exact ((T2.out.ctx.alloc _).cellB) | with_reducible exact (T2.out.ctx.cellB) | with_reducible exact (T1.out.ctx.cellB) | with_reducible exact (T0.out.drew.ctx.cellB)) (first | (go_at_call 56; refine (kid_any ps _ W _ bb (i) T0.out.drew.ctx 0 x rfl Ix.out).mono ?_; rintro e w1 ⟨vx, rfl, hE, hB, hg⟩; obtain ⟨qx, cx, rfl⟩ := hE.form; have T1 := Lib.hid (T0.out.drew.kid hE hB hg); clear hE hB hg) | (go_at_call 57; refine (next_any _ bb ps (i + x.ntok) T1.out.ctx.bat).mono ?_; rintro e w2 ⟨rfl, hB, hg⟩; have T2 := Lib.hid (T1.out.next hB hg); clear hB hg))
  have T3 := Lib.hid (T2.out.box 120 #[.iface qx (.pointer (some ⟨cx, 0, none⟩)), int (posOf ps (i + x.ntok)), .slice none 0 0, int 0, int 0])
  have hsz3 := T2.out.ctx.size
  clear cB
  have cB := T3.out.ctx.cellB
  have cS := T2.out.ctx.cellS
  simp only [List.length_cons ] at cS
  go_wp2_with fail
  clear cB cS
  go_region_held3 (fun w' => w'.cell? ⟨W.heap.size, 0, none⟩ = some (.pointer (some ⟨bb, 0, none⟩)) ∧ w'.cell? ⟨W.heap.size + 1, 2, none⟩ = some (.slice (some ⟨ab, ao, none⟩) (rest.length + 1) cp)) (first | with_reducible exact ⟨(T4.out.set_ _ _).ctx.cellB, KS.out _ _ (T4.out.set_ _ _).ctx⟩ | with_reducible exact ⟨T4.out.ctx.cellB, KS.out _ _ T4.out.ctx⟩ | exact ⟨T3.out.drew.ctx.cellB, KS.out _ _ T3.out.drew.ctx⟩) (first | (go_at_call 60; refine (list_any ps ⟨⟨#[99, 97, 108, 108]⟩, ⟨#[46, 46, 46]⟩, some ⟨ab, ao + 3, none⟩, cp - 1, rest⟩ hlen HR.out _ bb (i + x.ntok + 1) T3.out.drew.ctx.bat (tail_in T3.out.drew.ctx.in_) _ rfl).mono ?_; rintro e w4 ⟨sv, us, rfl, hX, hSl, hB, hg⟩; obtain ⟨sA, sn, sc, rfl⟩ := hSl.form; have LR4 := Lib.hid (T3.out.drew.list hX hSl); have T4 := Lib.hid (T3.out.drew.next hB hg); have ck := sl_cell (T4.out.cell 2) rfl; have fk := T4.out.frozen 2; clear hX hSl hB hg))
  have T5 := Lib.hid (T4.out.set_ 2 (.slice sA sn sc))
  have LR5 := Lib.hid (LR4.out.set_ 2 (.slice sA sn sc))
  have hz := T4.out.ctx.size
  have cB := T4.out.ctx.cellB
  have cT := T4.out.ctx.cellT
  clear ck fk
  go_wp2_with fail
  refine (next_any _ bb ps (i + x.ntok + 1 + ntokL rest + (rest.length - 1)) T5.out.ctx.bat).mono ?_
  rintro e w6 ⟨rfl, hB, hg⟩
  have T6 := Lib.hid (T5.out.next hB hg)
  have LR6 := Lib.hid (LR5.out.grown hg)
  clear hB hg cB hz cT
  have hz := T6.out.ctx.size
  have cB := T6.out.ctx.cellB
  have ck := T6.out.cell 3
  have fk := T6.out.frozen 3
  simp at ck
  go_wp2_with fail
  have T7 := Lib.hid (T6.out.set_ 3 (int (posOf ps (i + x.ntok + 1 + ntokL rest + (rest.length - 1)))))
  have LR7 := Lib.hid (LR6.out.set_ 3 (int (posOf ps (i + x.ntok + 1 + ntokL rest + (rest.length - 1)))))
  refine (next_any _ bb ps (i + x.ntok + 1 + ntokL rest + (rest.length - 1) + 1) T7.out.ctx.bat).mono ?_
  rintro e w8 ⟨rfl, hB, hg⟩
  have T8 := Lib.hid (T7.out.next hB hg)
  have LR8 := Lib.hid (LR7.out.grown hg)
  clear hB hg cB hz ck fk
  have hz := T8.out.ctx.size
  have cB := T8.out.ctx.cellB
  have ck := T8.out.cell 4
  have fk := T8.out.frozen 4
  simp at ck
  go_wp2_with fail
  have T9 := Lib.hid (T8.out.set_ 4 (int (posOf ps (i + x.ntok + 1 + ntokL rest + (rest.length - 1) + 1))))
  have LR9 := Lib.hid (LR8.out.set_ 4 (int (posOf ps (i + x.ntok + 1 + ntokL rest + (rest.length - 1) + 1))))
  go_ret
  have hn : Nd.ntok ⟨⟨#[99, 97, 108, 108]⟩, ⟨#[46, 46, 46]⟩, (some ⟨ab, ao, none⟩), cp, x :: rest⟩ = 2 + (rest.length + 1 - 2) + 1 + (x.ntok + ntokL rest) := Nd.ntok_of 12 rfl
  have hr0 : 0 < rest.length := hrest
  refine St.done T9.out (by rw [hn]; omega) (ExR.mk 12 rfl (vs := .iface qx (.pointer (some ⟨cx, 0, none⟩)) :: us) ?_ ?_)
  · exact ⟨T9.out.ex (by simp), LR9.out.exl⟩
  · refine ⟨_, T9.out.own, rfl, .slice sA sn sc, LR9.out.sl, ?_⟩
    show Blk _ _ 120 #[.iface qx (.pointer (some ⟨cx, 0, none⟩)), int (posOf ps (i + x.ntok)), .slice sA sn sc, int (posOf ps (i + (2 + (rest.length + 1 - 2) + 1 + (x.ntok + ntokL rest)) - 2)), int (posOf ps (i + (2 + (rest.length + 1 - 2) + 1 + (x.ntok + ntokL rest)) - 1))]
    rw [show i + (2 + (rest.length + 1 - 2) + 1 + (x.ntok + ntokL rest)) - 2 = i + x.ntok + 1 + ntokL rest + (rest.length - 1) by omega]
    rw [show i + (2 + (rest.length + 1 - 2) + 1 + (x.ntok + ntokL rest)) - 1 = i + x.ntok + 1 + ntokL rest + (rest.length - 1) + 1 by omega]
    exact T9.out.blk
end Go.Proofs.YtjbhjbpamnoebaaGreatFmt

namespace Go.Proofs.YtjbhjbpamnoebaaGreatFmt
open Go.RowKit

set_option maxRecDepth 100000 in
theorem expr_comp_e (ps : List Int) (ad : Option Addr) (cp : Nat) (ks : List Nd) (IHr : ∀ k ∈ ks, EOf ps k) (hlen : ks.length ≤ 400) : EOf ps ⟨⟨#[99, 111, 109, 112, 111, 115, 105, 116, 101]⟩, ⟨#[]⟩, ad, cp, ks⟩ := by
  intro W bb i hB hin
  have C0 : Ctx W bb ps ⟨⟨#[99, 111, 109, 112, 111, 115, 105, 116, 101]⟩, ⟨#[]⟩, ad, cp, ks⟩ i ((W.alloc (.cells #[.pointer (some ⟨bb, 0, none⟩)] 250)).alloc (.cells #[.string ⟨#[99, 111, 109, 112, 111, 115, 105, 116, 101]⟩, .string ⟨#[]⟩, .slice ad (ks.length) cp] 24)) := Ctx.start hB hin
  show Calls _ _ #[_, .agg #[.string ⟨#[99, 111, 109, 112, 111, 115, 105, 116, 101]⟩, .string ⟨#[]⟩, .slice ad (ks.length) cp]] W _
  have cB := C0.cellB
  have cK := C0.cellK
  have cS := C0.cellS
  have cT := C0.cellT
  have HR := Lib.hid IHr
  clear IHr
  have T0 := Lib.hid C0.st
  clear C0  hB hin
  go_enter Tryz.func39, Tryz.ntmps39
  go_wp2_with fail
  clear cK
  have hb0 : ((W.alloc (.cells #[.pointer (some ⟨bb, 0, none⟩)] 250)).alloc (.cells #[.string ⟨#[99, 111, 109, 112, 111, 115, 105, 116, 101]⟩, .string ⟨#[]⟩, .slice ad (ks.length) cp] 24)).heap.size = W.heap.size + 1 + 1 := by simp only [World.size_alloc]
  have t1 := T0.out.box 98 #[.nilIface, int 0, .slice none 0 0, int 0, .bool false]
  rw [hb0] at t1
  have T1 := Lib.hid t1
  have hsz1 : W.heap.size + 1 < W.heap.size + 1 + 1 := Nat.lt_succ_self _
  clear hb0 t1
  clear cS cT
  refine (next_any _ bb ps (i) T1.out.ctx.bat).mono ?_
  rintro e w2 ⟨rfl, hB, hg⟩
  have T2 := Lib.hid (T1.out.next hB hg)
  clear hB hg cB
  have hz := T2.out.ctx.size
  have cB := T2.out.ctx.cellB
  have ck := T2.out.cell 1
  have fk := T2.out.frozen 1
  simp at ck
  go_wp2_with fail
  have T3 := Lib.hid (T2.out.set_ 1 (int (posOf ps (i))))
  refine (list_any ps ⟨⟨#[99, 111, 109, 112, 111, 115, 105, 116, 101]⟩, ⟨#[]⟩, ad, cp, ks⟩ hlen HR.out _ bb (i + 1) T3.out.ctx.bat (T3.out.ctx.in_) _ rfl).mono ?_
  rintro e w4 ⟨sv, us, rfl, hX, hSl, hB, hg⟩
  obtain ⟨sA, sn, sc, rfl⟩ := hSl.form
  have LR4 := Lib.hid (T3.out.list hX hSl)
  have T4 := Lib.hid (T3.out.next hB hg)
  clear hX hSl hB hg cB hz ck fk
  have hz := T4.out.ctx.size
  have cB := T4.out.ctx.cellB
  have ck := T4.out.cell 2
  have fk := T4.out.frozen 2
  simp at ck
  go_wp2_with fail
  have T5 := Lib.hid (T4.out.set_ 2 (.slice sA sn sc))
  have LR5 := Lib.hid (LR4.out.set_ 2 (.slice sA sn sc))
  refine (next_any _ bb ps (i + 1 + ntokL ks + (ks.length - 1)) T5.out.ctx.bat).mono ?_
  rintro e w6 ⟨rfl, hB, hg⟩
  have T6 := Lib.hid (T5.out.next hB hg)
  have LR6 := Lib.hid (LR5.out.grown hg)
  clear hB hg cB hz ck fk
  have hz := T6.out.ctx.size
  have cB := T6.out.ctx.cellB
  have ck := T6.out.cell 3
  have fk := T6.out.frozen 3
  simp at ck
  go_wp2_with fail
  have T7 := Lib.hid (T6.out.set_ 3 (int (posOf ps (i + 1 + ntokL ks + (ks.length - 1)))))
  have LR7 := Lib.hid (LR6.out.set_ 3 (int (posOf ps (i + 1 + ntokL ks + (ks.length - 1)))))
  go_ret
  have hn : Nd.ntok ⟨⟨#[99, 111, 109, 112, 111, 115, 105, 116, 101]⟩, ⟨#[]⟩, ad, cp, ks⟩ = 2 + (ks.length - 1) + ntokL ks := Nd.ntok_of 13 rfl
  refine St.done T7.out (by rw [hn]; omega) (ExR.mk 13 rfl (vs := us) ?_ ?_)
  · exact LR7.out.exl
  · refine ⟨_, T7.out.own, rfl, .slice sA sn sc, LR7.out.sl, ?_⟩
    show Blk _ _ 98 #[.nilIface, int (posOf ps i), .slice sA sn sc, int (posOf ps (i + (2 + (ks.length - 1) + ntokL ks) - 1)), .bool false]
    rw [show i + (2 + (ks.length - 1) + ntokL ks) - 1 = i + 1 + ntokL ks + (ks.length - 1) by omega]
    exact T7.out.blk

set_option maxRecDepth 100000 in
theorem expr_comp_n (ps : List Int) (ad : Option Addr) (cp : Nat) (x : Nd) (rest : List Nd) (hcp : ¬ cp = 1) (IHx : EOf ps x) (IHr : ∀ k ∈ rest, EOf ps k) (hlen : rest.length ≤ 400) : EOf ps ⟨⟨#[99, 111, 109, 112, 111, 115, 105, 116, 101]⟩, ⟨#[116, 121, 112, 101]⟩, ad, cp, x :: rest⟩ := by
  intro W bb i hB hin
  have hinK := hin
  obtain ⟨⟨ab, ao, had⟩, hcp1, hcp2⟩ := ad_form hin
  have hcp3 : cp ≤ 9223372036854775807 := hcp2
  subst had
  clear hcp2
  have hr1 : rest.length + 1 ≤ 9223372036854775807 := by omega
  have hrI : (1 : Int) ≤ (rest.length : Int) + 1 := by omega
  have C0 : Ctx W bb ps ⟨⟨#[99, 111, 109, 112, 111, 115, 105, 116, 101]⟩, ⟨#[116, 121, 112, 101]⟩, (some ⟨ab, ao, none⟩), cp, x :: rest⟩ i ((W.alloc (.cells #[.pointer (some ⟨bb, 0, none⟩)] 250)).alloc (.cells #[.string ⟨#[99, 111, 109, 112, 111, 115, 105, 116, 101]⟩, .string ⟨#[116, 121, 112, 101]⟩, .slice (some ⟨ab, ao, none⟩) (rest.length + 1) cp] 24)) := Ctx.start hB hin
  show Calls _ _ #[_, .agg #[.string ⟨#[99, 111, 109, 112, 111, 115, 105, 116, 101]⟩, .string ⟨#[116, 121, 112, 101]⟩, .slice (some ⟨ab, ao, none⟩) (rest.length + 1) cp]] W _
  have cB := C0.cellB
  have cK := C0.cellK
  have cS := C0.cellS
  simp only [List.length_cons] at cS
  have cT := C0.cellT
  have HR := Lib.hid IHr
  clear hinK IHr
  have T0 := Lib.hid C0.st
  have Ix := Lib.hid IHx
  clear C0 IHx hB hin
  go_enter Tryz.func39, Tryz.ntmps39
  go_wp2_with fail
  clear cK
  have hb0 : ((W.alloc (.cells #[.pointer (some ⟨bb, 0, none⟩)] 250)).alloc (.cells #[.string ⟨#[99, 111, 109, 112, 111, 115, 105, 116, 101]⟩, .string ⟨#[116, 121, 112, 101]⟩, .slice (some ⟨ab, ao, none⟩) (rest.length + 1) cp] 24)).heap.size = W.heap.size + 1 + 1 := by simp only [World.size_alloc]
  have t1 := T0.out.box 98 #[.nilIface, int 0, .slice none 0 0, int 0, .bool false]
  rw [hb0] at t1
  have T1 := Lib.hid t1
  have hsz1 : W.heap.size + 1 < W.heap.size + 1 + 1 := Nat.lt_succ_self _
  clear hb0 t1
  clear cS cT
  refine (kid_any ps _ W _ bb (i) T1.out.ctx 0 x rfl Ix.out).mono ?_
  rintro e w2 ⟨vx, rfl, hE, hB, hg⟩
  obtain ⟨qx, cx, rfl⟩ := hE.form
  have T2 := Lib.hid (T1.out.kid hE hB hg)
  clear hE hB hg cB
  have hz := T2.out.ctx.size
  have cB := T2.out.ctx.cellB
  have ck := T2.out.cell 0
  have fk := T2.out.frozen 0
  simp at ck
  go_wp2_with fail
  have T3 := Lib.hid (T2.out.set_ 0 (.iface qx (.pointer (some ⟨cx, 0, none⟩))))
  refine (next_any _ bb ps (i + x.ntok) T3.out.ctx.bat).mono ?_
  rintro e w4 ⟨rfl, hB, hg⟩
  have T4 := Lib.hid (T3.out.next hB hg)
  clear hB hg cB hz ck fk
  have hz := T4.out.ctx.size
  have cB := T4.out.ctx.cellB
  have ck := T4.out.cell 1
  have fk := T4.out.frozen 1
  simp at ck
  go_wp2_with fail
  have T5 := Lib.hid (T4.out.set_ 1 (int (posOf ps (i + x.ntok))))
  refine (list_any ps ⟨⟨#[99, 111, 109, 112, 111, 115, 105, 116, 101]⟩, ⟨#[116, 121, 112, 101]⟩, some ⟨ab, ao + 3, none⟩, cp - 1, rest⟩ hlen HR.out _ bb (i + x.ntok + 1) T5.out.ctx.bat (tail_in T5.out.ctx.in_) _ rfl).mono ?_
  rintro e w6 ⟨sv, us, rfl, hX, hSl, hB, hg⟩
  obtain ⟨sA, sn, sc, rfl⟩ := hSl.form
  have LR6 := Lib.hid (T5.out.list hX hSl)
  have T6 := Lib.hid (T5.out.next hB hg)
  clear hX hSl hB hg cB hz ck fk
  have hz := T6.out.ctx.size
  have cB := T6.out.ctx.cellB
  have ck := T6.out.cell 2
  have fk := T6.out.frozen 2
  simp at ck
  go_wp2_with fail
  have T7 := Lib.hid (T6.out.set_ 2 (.slice sA sn sc))
  have LR7 := Lib.hid (LR6.out.set_ 2 (.slice sA sn sc))
  refine (next_any _ bb ps (i + x.ntok + 1 + ntokL rest + (rest.length - 1)) T7.out.ctx.bat).mono ?_
  rintro e w8 ⟨rfl, hB, hg⟩
  have T8 := Lib.hid (T7.out.next hB hg)
  have LR8 := Lib.hid (LR7.out.grown hg)
  clear hB hg cB hz ck fk
  have hz := T8.out.ctx.size
  have cB := T8.out.ctx.cellB
  have ck := T8.out.cell 3
  have fk := T8.out.frozen 3
  simp at ck
  go_wp2_with fail
  have T9 := Lib.hid (T8.out.set_ 3 (int (posOf ps (i + x.ntok + 1 + ntokL rest + (rest.length - 1)))))
  have LR9 := Lib.hid (LR8.out.set_ 3 (int (posOf ps (i + x.ntok + 1 + ntokL rest + (rest.length - 1)))))
  go_ret
  have hn : Nd.ntok ⟨⟨#[99, 111, 109, 112, 111, 115, 105, 116, 101]⟩, ⟨#[116, 121, 112, 101]⟩, (some ⟨ab, ao, none⟩), cp, x :: rest⟩ = 2 + (rest.length + 1 - 1 - 1) + (x.ntok + ntokL rest) := Nd.ntok_of 13 rfl
  refine St.done T9.out (by rw [hn]; omega) (ExR.mk 13 rfl (vs := .iface qx (.pointer (some ⟨cx, 0, none⟩)) :: us) ?_ ?_)
  · exact ⟨T9.out.ex (by simp), LR9.out.exl⟩
  · refine ⟨_, T9.out.own, rfl, .slice sA sn sc, LR9.out.sl, ?_⟩
    show Blk _ _ 98 #[.iface qx (.pointer (some ⟨cx, 0, none⟩)), int (posOf ps (i + x.ntok)), .slice sA sn sc, int (posOf ps (i + (2 + (rest.length + 1 - 1 - 1) + (x.ntok + ntokL rest)) - 1)), .bool false]
    rw [show i + (2 + (rest.length + 1 - 1 - 1) + (x.ntok + ntokL rest)) - 1 = i + x.ntok + 1 + ntokL rest + (rest.length - 1) by omega]
    exact T9.out.blk

set_option maxRecDepth 100000 in
theorem expr_comp_1 (ps : List Int) (ad : Option Addr) (x : Nd) (IHx : EOf ps x) : EOf ps ⟨⟨#[99, 111, 109, 112, 111, 115, 105, 116, 101]⟩, ⟨#[116, 121, 112, 101]⟩, ad, 1, [x]⟩ := by
  intro W bb i hB hin
  have hinK := hin
  obtain ⟨⟨ab, ao, had⟩, hcp1, hcp2⟩ := ad_form hin
  subst had
  clear hcp2
  have C0 : Ctx W bb ps ⟨⟨#[99, 111, 109, 112, 111, 115, 105, 116, 101]⟩, ⟨#[116, 121, 112, 101]⟩, (some ⟨ab, ao, none⟩), 1, [x]⟩ i ((W.alloc (.cells #[.pointer (some ⟨bb, 0, none⟩)] 250)).alloc (.cells #[.string ⟨#[99, 111, 109, 112, 111, 115, 105, 116, 101]⟩, .string ⟨#[116, 121, 112, 101]⟩, .slice (some ⟨ab, ao, none⟩) 1 1] 24)) := Ctx.start hB hin
  show Calls _ _ #[_, .agg #[.string ⟨#[99, 111, 109, 112, 111, 115, 105, 116, 101]⟩, .string ⟨#[116, 121, 112, 101]⟩, .slice (some ⟨ab, ao, none⟩) 1 1]] W _
  have cB := C0.cellB
  have cK := C0.cellK
  have cS := C0.cellS
  simp only [List.length_cons, List.length_nil, Nat.zero_add] at cS
  have cT := C0.cellT
  have T0 := Lib.hid C0.st
  have Ix := Lib.hid IHx
  clear C0 IHx hB hin
  go_enter Tryz.func39, Tryz.ntmps39
  go_wp2_with fail
  clear cK
  have hb0 : ((W.alloc (.cells #[.pointer (some ⟨bb, 0, none⟩)] 250)).alloc (.cells #[.string ⟨#[99, 111, 109, 112, 111, 115, 105, 116, 101]⟩, .string ⟨#[116, 121, 112, 101]⟩, .slice (some ⟨ab, ao, none⟩) 1 1] 24)).heap.size = W.heap.size + 1 + 1 := by simp only [World.size_alloc]
  have t1 := T0.out.box 98 #[.nilIface, int 0, .slice none 0 0, int 0, .bool false]
  rw [hb0] at t1
  have T1 := Lib.hid t1
  have hsz1 : W.heap.size + 1 < W.heap.size + 1 + 1 := Nat.lt_succ_self _
  clear hb0 t1
  clear cS cT
  refine (kid_any ps _ W _ bb (i) T1.out.ctx 0 x rfl Ix.out).mono ?_
  rintro e w2 ⟨vx, rfl, hE, hB, hg⟩
  obtain ⟨qx, cx, rfl⟩ := hE.form
  have T2 := Lib.hid (T1.out.kid hE hB hg)
  clear hE hB hg cB
  have hz := T2.out.ctx.size
  have cB := T2.out.ctx.cellB
  have ck := T2.out.cell 0
  have fk := T2.out.frozen 0
  simp at ck
  go_wp2_with fail
  have T3 := Lib.hid (T2.out.set_ 0 (.iface qx (.pointer (some ⟨cx, 0, none⟩))))
  refine (next_any _ bb ps (i + x.ntok) T3.out.ctx.bat).mono ?_
  rintro e w4 ⟨rfl, hB, hg⟩
  have T4 := Lib.hid (T3.out.next hB hg)
  clear hB hg cB hz ck fk
  have hz := T4.out.ctx.size
  have cB := T4.out.ctx.cellB
  have ck := T4.out.cell 1
  have fk := T4.out.frozen 1
  simp at ck
  go_wp2_with fail
  have T5 := Lib.hid (T4.out.set_ 1 (int (posOf ps (i + x.ntok))))
  refine (list_any ps ⟨⟨#[99, 111, 109, 112, 111, 115, 105, 116, 101]⟩, ⟨#[116, 121, 112, 101]⟩, some ⟨ab, ao, none⟩, 0, ([] : List Nd)⟩ (Nat.zero_le _) (fun k hk => by cases hk) _ bb (i + x.ntok + 1) T5.out.ctx.bat (nil_in _ _ _ _ _) _ rfl).mono ?_
  rintro e w6 ⟨sv, us, rfl, hX, hSl, hB, hg⟩
  obtain ⟨sA, sn, sc, rfl⟩ := hSl.form
  have LR6 := Lib.hid (T5.out.list hX hSl)
  have T6 := Lib.hid (T5.out.next hB hg)
  clear hX hSl hB hg cB hz ck fk
  have hz := T6.out.ctx.size
  have cB := T6.out.ctx.cellB
  have ck := T6.out.cell 2
  have fk := T6.out.frozen 2
  simp at ck
  go_wp2_with fail
  have T7 := Lib.hid (T6.out.set_ 2 (.slice sA sn sc))
  have LR7 := Lib.hid (LR6.out.set_ 2 (.slice sA sn sc))
  refine (next_any _ bb ps (i + x.ntok + 1 + ntokL ([] : List Nd) + (([] : List Nd).length - 1)) T7.out.ctx.bat).mono ?_
  rintro e w8 ⟨rfl, hB, hg⟩
  have T8 := Lib.hid (T7.out.next hB hg)
  have LR8 := Lib.hid (LR7.out.grown hg)
  clear hB hg cB hz ck fk
  have hz := T8.out.ctx.size
  have cB := T8.out.ctx.cellB
  have ck := T8.out.cell 3
  have fk := T8.out.frozen 3
  simp at ck
  go_wp2_with fail
  have T9 := Lib.hid (T8.out.set_ 3 (int (posOf ps (i + x.ntok + 1 + ntokL ([] : List Nd) + (([] : List Nd).length - 1)))))
  have LR9 := Lib.hid (LR8.out.set_ 3 (int (posOf ps (i + x.ntok + 1 + ntokL ([] : List Nd) + (([] : List Nd).length - 1)))))
  go_ret
  have hn : Nd.ntok ⟨⟨#[99, 111, 109, 112, 111, 115, 105, 116, 101]⟩, ⟨#[116, 121, 112, 101]⟩, (some ⟨ab, ao, none⟩), 1, [x]⟩ = 2 + (1 - 1 - 1) + (x.ntok + ntokL ([] : List Nd)) := Nd.ntok_of 13 rfl
  have hz0 : ntokL [] = 0 := rfl
  have hz1 : ([] : List Nd).length = 0 := rfl
  refine St.done T9.out (by rw [hn]; omega) (ExR.mk 13 rfl (vs := .iface qx (.pointer (some ⟨cx, 0, none⟩)) :: us) ?_ ?_)
  · exact ⟨T9.out.ex (by simp), LR9.out.exl⟩
  · refine ⟨_, T9.out.own, rfl, .slice sA sn sc, LR9.out.sl, ?_⟩
    show Blk _ _ 98 #[.iface qx (.pointer (some ⟨cx, 0, none⟩)), int (posOf ps (i + x.ntok)), .slice sA sn sc, int (posOf ps (i + (2 + (1 - 1 - 1) + (x.ntok + ntokL ([] : List Nd))) - 1)), .bool false]
    rw [show i + (2 + (1 - 1 - 1) + (x.ntok + ntokL ([] : List Nd))) - 1 = i + x.ntok + 1 + ntokL ([] : List Nd) + (([] : List Nd).length - 1) by omega]
    exact T9.out.blk
end Go.Proofs.YtjbhjbpamnoebaaGreatFmt
