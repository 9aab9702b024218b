/-
  builder.expr, kind by kind (laid by gen/ep2.py).
-/
import Derived.Test.YtnpnmfblcogkmaaDoorEg
namespace Go.Proofs.YtnpnmfblcogkmaaDoor
open Go.RowKit

set_option maxRecDepth 100000 in
theorem expr_slice_n (ps : List Int) (tx : ByteArray) (ad : Option Addr) (cp : Nat) (x : Nd) (rest : List Nd) (hcp : ¬ cp = 1) (IHx : EOf ps x) (IHr : ∀ k ∈ rest, EOf ps k) (hw : slN tx.data.toList = some rest.length) : EOf ps ⟨⟨#[115, 108, 105, 99, 101]⟩, tx, ad, cp, x :: rest⟩ := by
  intro W bb i hB hin
  have hinK := hin
  obtain ⟨⟨ab, ao, had⟩, hcp1, hcp2⟩ := ad_form hin
  have hcp3 : cp ≤ 9223372036854775807 := hcp2
  subst had
  clear hcp2
  have hr1 : rest.length + 1 ≤ 9223372036854775807 := by omega
  have hrI : (1 : Int) ≤ (rest.length : Int) + 1 := by omega
  have C0 : Ctx W bb ps ⟨⟨#[115, 108, 105, 99, 101]⟩, tx, (some ⟨ab, ao, none⟩), cp, x :: rest⟩ i ((W.alloc (.cells #[.pointer (some ⟨bb, 0, none⟩)] 111)).alloc (.cells #[.string ⟨#[115, 108, 105, 99, 101]⟩, .string tx, .slice (some ⟨ab, ao, none⟩) (rest.length + 1) cp] 32)) := Ctx.start hB hin
  show Calls _ _ #[_, .agg #[.string ⟨#[115, 108, 105, 99, 101]⟩, .string tx, .slice (some ⟨ab, ao, none⟩) (rest.length + 1) cp]] W _
  have cB := C0.cellB
  have cK := C0.cellK
  have HR := Lib.hid IHr
  have HW := Lib.hid hw
  clear hinK IHr hw
  have T0 := Lib.hid C0.st
  have Ix := Lib.hid IHx
  clear C0 IHx hB hin
  go_enter Tryd.func35, Tryd.ntmps35
  go_wp2_with fail
  clear cK
  have kS : ∀ j w, Ctx W bb ps ⟨⟨#[115, 108, 105, 99, 101]⟩, tx, (some ⟨ab, ao, none⟩), cp, x :: rest⟩ j w → w.cell? ⟨W.heap.size + 1, 2, none⟩ = some (.slice (some ⟨ab, ao, none⟩) (rest.length + 1) cp) := fun j w h => h.cellS
  have KS := Lib.hid kS
  clear kS
  go_region_held3 (fun w' => w'.cell? ⟨W.heap.size, 0, none⟩ = some (.pointer (some ⟨bb, 0, none⟩))) (first | with_reducible exact ((T2.out.ctx.alloc _).cellB) | with_reducible exact (T2.out.ctx.cellB) | with_reducible exact (T1.out.ctx.cellB) | with_reducible exact (T0.out.drew.ctx.cellB)) (first | (go_at_call 39; refine (kid_any ps _ W _ bb (i) T0.out.drew.ctx 0 x rfl Ix.out).mono ?_; rintro e w1 ⟨vx, rfl, hE, hB, hg⟩; obtain ⟨qx, cx, rfl⟩ := hE.form; have T1 := Lib.hid (T0.out.drew.kid hE hB hg); clear hE hB hg) | (go_at_call 40; refine (next_any _ bb ps (i + x.ntok) T1.out.ctx.bat).mono ?_; rintro e w2 ⟨rfl, hB, hg⟩; have T2 := Lib.hid (T1.out.next hB hg); clear hB hg))
  have T3 := Lib.hid (T2.out.box 90 #[.iface qx (.pointer (some ⟨cx, 0, none⟩)), int (posOf ps (i + x.ntok)), .nilIface, .nilIface, .nilIface, .bool false, int 0])
  have hsz3 := T2.out.ctx.size
  clear cB
  have cB := T3.out.ctx.cellB
  have cS := T2.out.ctx.cellS
  simp only [List.length_cons ] at cS
  go_wp2_with fail
  clear cB cS
  go_region_held3 (fun w' => w'.cell? ⟨W.heap.size, 0, none⟩ = some (.pointer (some ⟨bb, 0, none⟩)) ∧ w'.cell? ⟨W.heap.size + 1, 1, none⟩ = some (.string tx) ∧ w'.cell? ⟨W.heap.size + 1, 2, none⟩ = some (.slice (some ⟨ab, ao, none⟩) (rest.length + 1) cp)) (first | with_reducible exact ⟨T4.out.ctx.cellB, T4.out.ctx.cellT, KS.out _ _ T4.out.ctx⟩ | exact ⟨T3.out.drew.ctx.cellB, T3.out.drew.ctx.cellT, KS.out _ _ T3.out.drew.ctx⟩) (first | (go_at_call 42; refine (ends_any ps tx (slOk HW.out).1 (slOk HW.out).2 ⟨⟨#[115, 108, 105, 99, 101]⟩, tx, some ⟨ab, ao + 3, none⟩, cp - 1, rest⟩ HR.out _ bb _ (i + x.ntok + 1) _ _ _ T3.out.drew.ctx.bat (Nat.lt_trans (Nat.lt_trans T3.out.ctx.lt (Nat.lt_succ_self _)) T3.out.2.1) T3.out.drew.blk (tail_in T3.out.drew.ctx.in_)).mono ?_; rintro e w4 ⟨rfl, j, es, lo, hi, mx, mm, ap, s, hs, hE, hR⟩; have T4 := Lib.hid (T3.out.drew.ends hE); have HE := Lib.hid hE; have HRn := Lib.hid hR; have HS := Lib.hid hs; clear hE hR hs))
  have hz := T4.out.ctx.size
  have cB := T4.out.ctx.cellB
  go_wp2_with fail
  refine (next_any _ bb ps (j) T4.out.ctx.bat).mono ?_
  rintro e w5 ⟨rfl, hB, hg⟩
  have T5 := Lib.hid (T4.out.next hB hg)
  clear hB hg cB hz
  have hz := T5.out.ctx.size
  have cB := T5.out.ctx.cellB
  have ck := T5.out.cell 6
  have fk := T5.out.frozen 6
  simp at ck
  go_wp2_with fail
  have T6 := Lib.hid (T5.out.set_ 6 (int (posOf ps (j))))
  go_ret
  have hr := HRn.out
  rw [← HS.out, flag_all] at hr
  have hSf := HS.out
  rw [flag_all] at hSf
  subst hSf
  obtain ⟨us, hus, hj, hv⟩ := ends_are (w := _) (S := Rng W.heap.size _) (P := posOf ps) hr HW.out (fun e he => T6.out.ex (List.mem_append_right _ he))
  obtain ⟨rfl, rfl, rfl⟩ := hv (.iface qx (.pointer (some ⟨cx, 0, none⟩)))
  have hn : Nd.ntok ⟨⟨#[115, 108, 105, 99, 101]⟩, tx, (some ⟨ab, ao, none⟩), cp, x :: rest⟩ = (if tx.data.toList.contains 115 then 4 else 3) + (x.ntok + ntokL rest) := Nd.ntok_of 11 rfl
  have hjn : j + 1 = i + Nd.ntok ⟨⟨#[115, 108, 105, 99, 101]⟩, tx, (some ⟨ab, ao, none⟩), cp, x :: rest⟩ := by rw [hn, hj]; dsimp only; split <;> omega
  refine St.done T6.out hjn (ExR.mk 11 rfl (vs := .iface qx (.pointer (some ⟨cx, 0, none⟩)) :: us) ?_ ?_)
  · exact ⟨T6.out.ex (by simp), hus⟩
  · refine ⟨_, T6.out.own, rfl, ?_⟩
    have hjt : i + (ownTok 11 tx (x :: rest).length + ntokL (x :: rest)) - 1 = j := by have := Nd.ntok_of (tx := tx) (ad := some ⟨ab, ao, none⟩) (cp := cp) (ks := x :: rest) (kd := ⟨#[115, 108, 105, 99, 101]⟩) 11 rfl; omega
    rw [hjt]
    exact T6.out.blk

set_option maxRecDepth 100000 in
theorem expr_slice_1 (ps : List Int) (tx : ByteArray) (ad : Option Addr) (x : Nd) (IHx : EOf ps x) (hw : slN tx.data.toList = some 0) : EOf ps ⟨⟨#[115, 108, 105, 99, 101]⟩, tx, ad, 1, [x]⟩ := by
  intro W bb i hB hin
  have hinK := hin
  obtain ⟨⟨ab, ao, had⟩, hcp1, hcp2⟩ := ad_form hin
  subst had
  clear hcp2
  have C0 : Ctx W bb ps ⟨⟨#[115, 108, 105, 99, 101]⟩, tx, (some ⟨ab, ao, none⟩), 1, [x]⟩ i ((W.alloc (.cells #[.pointer (some ⟨bb, 0, none⟩)] 111)).alloc (.cells #[.string ⟨#[115, 108, 105, 99, 101]⟩, .string tx, .slice (some ⟨ab, ao, none⟩) 1 1] 32)) := Ctx.start hB hin
  show Calls _ _ #[_, .agg #[.string ⟨#[115, 108, 105, 99, 101]⟩, .string tx, .slice (some ⟨ab, ao, none⟩) 1 1]] W _
  have cB := C0.cellB
  have cK := C0.cellK
  have HW := Lib.hid hw
  clear hw hinK
  have T0 := Lib.hid C0.st
  have Ix := Lib.hid IHx
  clear C0 IHx hB hin
  go_enter Tryd.func35, Tryd.ntmps35
  go_wp2_with fail
  clear cK
  clear hcp1
  have kS : ∀ j w, Ctx W bb ps ⟨⟨#[115, 108, 105, 99, 101]⟩, tx, (some ⟨ab, ao, none⟩), 1, [x]⟩ j w → w.cell? ⟨W.heap.size + 1, 2, none⟩ = some (.slice (some ⟨ab, ao, none⟩) 1 1) := fun j w h => h.cellS
  have KS := Lib.hid kS
  clear kS
  go_region_held3 (fun w' => w'.cell? ⟨W.heap.size, 0, none⟩ = some (.pointer (some ⟨bb, 0, none⟩))) (first | with_reducible exact ((T2.out.ctx.alloc _).cellB) | with_reducible exact (T2.out.ctx.cellB) | with_reducible exact (T1.out.ctx.cellB) | with_reducible exact (T0.out.drew.ctx.cellB)) (first | (go_at_call 39; refine (kid_any ps _ W _ bb (i) T0.out.drew.ctx 0 x rfl Ix.out).mono ?_; rintro e w1 ⟨vx, rfl, hE, hB, hg⟩; obtain ⟨qx, cx, rfl⟩ := hE.form; have T1 := Lib.hid (T0.out.drew.kid hE hB hg); clear hE hB hg) | (go_at_call 40; refine (next_any _ bb ps (i + x.ntok) T1.out.ctx.bat).mono ?_; rintro e w2 ⟨rfl, hB, hg⟩; have T2 := Lib.hid (T1.out.next hB hg); clear hB hg))
  have T3 := Lib.hid (T2.out.box 90 #[.iface qx (.pointer (some ⟨cx, 0, none⟩)), int (posOf ps (i + x.ntok)), .nilIface, .nilIface, .nilIface, .bool false, int 0])
  have hsz3 := T2.out.ctx.size
  clear cB
  have cB := T3.out.ctx.cellB
  have cS := T2.out.ctx.cellS
  simp only [List.length_cons, List.length_nil, Nat.zero_add] at cS
  go_wp2_with fail
  clear cB cS
  go_region_held3 (fun w' => w'.cell? ⟨W.heap.size, 0, none⟩ = some (.pointer (some ⟨bb, 0, none⟩)) ∧ w'.cell? ⟨W.heap.size + 1, 1, none⟩ = some (.string tx) ∧ w'.cell? ⟨W.heap.size + 1, 2, none⟩ = some (.slice (some ⟨ab, ao, none⟩) 1 1)) (first | with_reducible exact ⟨T4.out.ctx.cellB, T4.out.ctx.cellT, KS.out _ _ T4.out.ctx⟩ | exact ⟨T3.out.drew.ctx.cellB, T3.out.drew.ctx.cellT, KS.out _ _ T3.out.drew.ctx⟩) (first | (go_at_call 42; refine (ends_any ps tx (slOk HW.out).1 (slOk HW.out).2 ⟨⟨#[115, 108, 105, 99, 101]⟩, tx, some ⟨ab, ao, none⟩, 0, []⟩ (fun k hk => by cases hk) _ bb _ (i + x.ntok + 1) _ _ _ T3.out.drew.ctx.bat (Nat.lt_trans (Nat.lt_trans T3.out.ctx.lt (Nat.lt_succ_self _)) T3.out.2.1) T3.out.drew.blk (nil_in _ _ _ _ _)).mono ?_; rintro e w4 ⟨rfl, j, es, lo, hi, mx, mm, ap, s, hs, hE, hR⟩; have T4 := Lib.hid (T3.out.drew.ends hE); have HE := Lib.hid hE; have HRn := Lib.hid hR; have HS := Lib.hid hs; clear hE hR hs))
  have hz := T4.out.ctx.size
  have cB := T4.out.ctx.cellB
  go_wp2_with fail
  refine (next_any _ bb ps (j) T4.out.ctx.bat).mono ?_
  rintro e w5 ⟨rfl, hB, hg⟩
  have T5 := Lib.hid (T4.out.next hB hg)
  clear hB hg cB hz
  have hz := T5.out.ctx.size
  have cB := T5.out.ctx.cellB
  have ck := T5.out.cell 6
  have fk := T5.out.frozen 6
  simp at ck
  go_wp2_with fail
  have T6 := Lib.hid (T5.out.set_ 6 (int (posOf ps (j))))
  go_ret
  have hr := HRn.out
  rw [← HS.out, flag_all] at hr
  have hSf := HS.out
  rw [flag_all] at hSf
  subst hSf
  obtain ⟨us, hus, hj, hv⟩ := ends_are (w := _) (S := Rng W.heap.size _) (P := posOf ps) hr HW.out (fun e he => T6.out.ex (List.mem_append_right _ he))
  obtain ⟨rfl, rfl, rfl⟩ := hv (.iface qx (.pointer (some ⟨cx, 0, none⟩)))
  have hn : Nd.ntok ⟨⟨#[115, 108, 105, 99, 101]⟩, tx, (some ⟨ab, ao, none⟩), 1, [x]⟩ = (if tx.data.toList.contains 115 then 4 else 3) + (x.ntok + ntokL ([] : List Nd)) := Nd.ntok_of 11 rfl
  have hjn : j + 1 = i + Nd.ntok ⟨⟨#[115, 108, 105, 99, 101]⟩, tx, (some ⟨ab, ao, none⟩), 1, [x]⟩ := by rw [hn, hj]; dsimp only; split <;> omega
  refine St.done T6.out hjn (ExR.mk 11 rfl (vs := .iface qx (.pointer (some ⟨cx, 0, none⟩)) :: us) ?_ ?_)
  · exact ⟨T6.out.ex (by simp), hus⟩
  · refine ⟨_, T6.out.own, rfl, ?_⟩
    have hjt : i + (ownTok 11 tx (x :: ([] : List Nd)).length + ntokL (x :: ([] : List Nd))) - 1 = j := by have := Nd.ntok_of (tx := tx) (ad := some ⟨ab, ao, none⟩) (cp := 1) (ks := x :: ([] : List Nd)) (kd := ⟨#[115, 108, 105, 99, 101]⟩) 11 rfl; omega
    rw [hjt]
    exact T6.out.blk
end Go.Proofs.YtnpnmfblcogkmaaDoor
