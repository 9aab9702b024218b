/-
  builder.ends: the walk.
-/
import Derived.Test.YtnpnmfblcogkmaaDoorEn
namespace Go.Proofs.YtnpnmfblcogkmaaDoor
open Go.RowKit

/-- The byte at a place of a text. -/
def chr (tx : ByteArray) (p : Nat) : Nat := (tx.data.toList.getD p 0).toNat
theorem chr_at {tx : ByteArray} {p : Nat} (h : p < tx.size) : (tx[p]'h).toNat = chr tx p := by
  have hl : p < tx.data.toList.length := by simpa using h
  unfold chr
  rw [List.getD_eq_getElem?_getD, List.getElem?_eq_getElem hl, Option.getD_some]
  rfl
def flagAt (tx : ByteArray) (p : Nat) : Bool := (tx.data.toList.take p).contains 115
theorem flag_step {tx : ByteArray} {p : Nat} (h : p < tx.size) : flagAt tx (p + 1) = (flagAt tx p || (chr tx p == 115)) := by
  have hl : p < tx.data.toList.length := by simpa using h
  unfold flagAt chr
  rw [List.take_succ_eq_append_getElem hl, List.contains_append, List.getD_eq_getElem?_getD, List.getElem?_eq_getElem hl, Option.getD_some]
  generalize tx.data.toList[p] = c
  congr 1
  simp only [List.contains_cons, List.contains_nil, Bool.or_false]
  rw [Bool.eq_iff_iff, beq_iff_eq, beq_iff_eq]
  constructor
  · rintro rfl; rfl
  · intro h; exact (UInt8.toNat_inj.1 h).symm
theorem iterPos_of {w : World} {k : Nat} {s : ByteArray} {p : Nat} (h : w.heap[k]? = some (.stringIter s p)) : w.iterPos k = p := by simp [World.iterPos, h]

/-- What the loops over "lhm" do: the number of rounds gone, the next token's number, what was made, the ends, the nodes that are left. -/
inductive Run (tx : ByteArray) (s : Bool) (i : Nat) (m0 : Nd) : Nat → Nat → List (Nat × Nd × Value) → Value → Value → Value → Nd → Prop
  | zero : Run tx s i m0 0 i [] .nilIface .nilIface .nilIface m0
  | skipL {j es lo hi mx m} : Run tx s i m0 0 j es lo hi mx m → ((∀ p, p < tx.size → chr tx p ≠ 108) ∨ m.ks = []) → Run tx s i m0 1 j es lo hi mx m
  | takeL {j es lo hi mx m x r v m'} : Run tx s i m0 0 j es lo hi mx m → (∃ p, p < tx.size ∧ chr tx p = 108) → m.ks = x :: r → m'.ks = r → Run tx s i m0 1 (j + x.ntok) (es ++ [(j, x, v)]) v hi mx m'
  | skipH {j es lo hi mx m} : Run tx s i m0 1 j es lo hi mx m → ((∀ p, p < tx.size → chr tx p ≠ 104) ∨ m.ks = []) → Run tx s i m0 2 (j + 1) es lo hi mx m
  | takeH {j es lo hi mx m x r v m'} : Run tx s i m0 1 j es lo hi mx m → (∃ p, p < tx.size ∧ chr tx p = 104) → m.ks = x :: r → m'.ks = r → Run tx s i m0 2 (j + 1 + x.ntok) (es ++ [(j + 1, x, v)]) lo v mx m'
  | skipM {j es lo hi mx m} : Run tx s i m0 2 j es lo hi mx m → ((∀ p, p < tx.size → chr tx p ≠ 109) ∨ m.ks = []) → Run tx s i m0 3 (j + (if s then 1 else 0)) es lo hi mx m
  | takeM {j es lo hi mx m x r v m'} : Run tx s i m0 2 j es lo hi mx m → (∃ p, p < tx.size ∧ chr tx p = 109) → m.ks = x :: r → m'.ks = r → Run tx s i m0 3 (j + (if s then 1 else 0) + x.ntok) (es ++ [(j + (if s then 1 else 0), x, v)]) lo hi v m'

theorem Run.sub {tx : ByteArray} {s : Bool} {i : Nat} {m0 : Nd} {o j : Nat} {es : List (Nat × Nd × Value)} {lo hi mx : Value} {m : Nd} (h : Run tx s i m0 o j es lo hi mx m) : ∀ k ∈ m.ks, k ∈ m0.ks := by
  induction h with
  | zero => exact fun k hk => hk
  | skipL _ _ ih => exact ih
  | skipH _ _ ih => exact ih
  | skipM _ _ ih => exact ih
  | takeL _ _ h1 h2 ih => exact fun k hk => ih k (by rw [h1]; exact List.mem_cons_of_mem _ (h2 ▸ hk))
  | takeH _ _ h1 h2 ih => exact fun k hk => ih k (by rw [h1]; exact List.mem_cons_of_mem _ (h2 ▸ hk))
  | takeM _ _ h1 h2 ih => exact fun k hk => ih k (by rw [h1]; exact List.mem_cons_of_mem _ (h2 ▸ hk))
theorem head_cells {w : World} {B : Nat} {kd tx : ByteArray} {ab ao cp : Nat} {x : Nd} {r : List Nd} (h : Nd.In w B ⟨kd, tx, some ⟨ab, ao, none⟩, cp, x :: r⟩) :
    w.cell? ⟨ab, ao, none⟩ = some (.string x.kd) ∧ w.cell? ⟨ab, ao + 1, none⟩ = some (.string x.tx) ∧ w.cell? ⟨ab, ao + 2, none⟩ = some (.slice x.ad x.ks.length x.cp) ∧ x.In w B := by
  obtain ⟨h1, h2, h3⟩ := Nd.In_iff.1 h
  obtain ⟨⟨b, o, had, hb, e1, e2, e3⟩, hin⟩ := h3 0 x rfl
  cases had
  exact ⟨by simpa using e1, by simpa using e2, by simpa using e3, hin⟩

def EnPost (W : World) (bb : Nat) (ps : List Int) (xb : Nat) (a0 a1 a6 : Value) (tx : ByteArray) (i : Nat) (m : Nd) (e : Ending) (w : World) : Prop :=
  e = .returned (.tuple #[]) ∧ ∃ j es lo hi mx mm ap s, flagAt tx tx.size = s ∧ ES W bb ps xb #[a0, a1, lo, hi, mx, .bool s, a6] j es ap mm w ∧ Run tx s i m 3 j es lo hi mx mm

set_option maxRecDepth 100000 in
set_option maxHeartbeats 4000000 in
theorem ends_any (ps : List Int) (tx : ByteArray) (hasc : ∀ p, chr tx p < 128) (huniq : ∀ p q, p < tx.size → q < tx.size → chr tx p = chr tx q → p = q) (m : Nd) (IH : ∀ k ∈ m.ks, EOf ps k) (W : World) (bb xb i : Nat) (a0 a1 a6 : Value) (hB : BAt W bb ps i) (hbx : bb < xb)
    (hx : Blk W xb 90 #[a0, a1, .nilIface, .nilIface, .nilIface, .bool false, a6]) (hin : m.In W bb) :
    Calls Tryd.prog 42 #[.pointer (some ⟨bb, 0, none⟩), .pointer (some ⟨xb, 0, none⟩), .string tx, .slice m.ad m.ks.length m.cp] W (EnPost W bb ps xb a0 a1 a6 tx i m) := by
  have E0 := Lib.hid (ES.start hB hx hbx hin)
  have hm := (Nd.In_iff.1 hin).2.1
  have HC := Lib.hid hasc
  have HU := Lib.hid huniq
  have IH' := Lib.hid IH
  clear hB hx hin hasc huniq IH
  go_enter Tryd.func42, Tryd.ntmps42
  go_wp2_with fail
  go_loopw [] (fun wr => ∃ pos, pos ≤ tx.size ∧ wr.heap[W.heap.size]? = some (.stringIter tx pos) ∧ ES W bb ps xb #[a0, a1, .nilIface, .nilIface, .nilIface, .bool (flagAt tx pos), a6] i [] [W.heap.size] m wr) (fun wr => tx.size - wr.iterPos W.heap.size)
  case atStart => exact ⟨0, Nat.zero_le _, World.iter_heap W tx 0, E0.out.alloc _⟩
  case round =>
    obtain ⟨pos, hpos, hit, hE⟩ := hrel
    have hpos0 := Lib.hid (iterPos_of hit)
    by_cases hp : pos < tx.size
    · have hch := chr_at hp
      have hnx : ∀ ty, (Instr.next (.pointer (some ⟨W.heap.size, 0, none⟩)) true ty).run Tryd.prog wr = _ := fun ty => Lib.run_next_ascii_at wr W.heap.size tx pos ty hit hp (by rw [hch]; exact HC.out pos)
      rw [hch] at hnx
      have hit2 := Lib.iterAt_heap wr W.heap.size tx pos (pos + 1) hit
      have hE2 := hE.iterAt (List.mem_singleton.2 rfl) tx (pos + 1)
      obtain ⟨W1, hW1⟩ : ∃ W1, W1 = wr.iterAt W.heap.size tx (pos + 1) := ⟨_, rfl⟩
      rw [← hW1] at hnx hit2 hE2
      have c5 := hE2.blk.cell 5
      have f5 := hE2.blk.frozen 5
      simp at c5
      have HF := Lib.hid (flag_step hp)
      have HE := Lib.hid hE2
      have HI := Lib.hid hit2
      clear hW1 hit hE hE2 hit2 hch
      cases hf : flagAt tx pos
      · rw [hf] at c5
        have HF2 := Lib.hid hf
        clear hf
        by_cases hc : chr tx pos = 115
        · have hc2 : ((chr tx pos : Int) == 115) = true := by simp; omega
          have HC2 := Lib.hid (show (chr tx pos == 115) = true by simpa using hc)
          clear hc
          go_wp2_with fail
          go_roundw
          case rel =>
            refine ⟨pos + 1, by omega, (HE.out.iter_set (List.mem_singleton.2 rfl) 5 _).trans HI.out, ?_⟩
            have := HE.out.set_ 5 (.bool true)
            rw [HF.out, HF2.out, HC2.out]
            exact this
          case measure =>
            rw [hpos0.out, iterPos_of ((HE.out.iter_set (List.mem_singleton.2 rfl) 5 _).trans HI.out)]
            omega
        · have hc2 : ((chr tx pos : Int) == 115) = false := by simp; omega
          have HC2 := Lib.hid (show (chr tx pos == 115) = false by simpa using hc)
          clear hc
          go_wp2_with fail
          go_roundw
          case rel =>
            refine ⟨pos + 1, by omega, (HE.out.iter_set (List.mem_singleton.2 rfl) 5 _).trans HI.out, ?_⟩
            have := HE.out.set_ 5 (.bool false)
            rw [HF.out, HF2.out, HC2.out]
            exact this
          case measure =>
            rw [hpos0.out, iterPos_of ((HE.out.iter_set (List.mem_singleton.2 rfl) 5 _).trans HI.out)]
            omega
      · rw [hf] at c5
        have HF2 := Lib.hid hf
        clear hf
        go_wp2_with fail
        go_roundw
        case rel =>
          refine ⟨pos + 1, by omega, (HE.out.iter_set (List.mem_singleton.2 rfl) 5 _).trans HI.out, ?_⟩
          have := HE.out.set_ 5 (.bool true)
          rw [HF.out, HF2.out, Bool.true_or]
          exact this
        case measure =>
          rw [hpos0.out, iterPos_of ((HE.out.iter_set (List.mem_singleton.2 rfl) 5 _).trans HI.out)]
          omega
    · have hpe : pos = tx.size := by omega
      have hnx : ∀ ty, (Instr.next (.pointer (some ⟨W.heap.size, 0, none⟩)) true ty).run Tryd.prog wr = _ := fun ty => Lib.run_next_end_at wr W.heap.size tx pos ty hit hp
      rw [hpe] at hE
      generalize hfs : flagAt tx tx.size = s at hE
      have HS := Lib.hid hfs
      clear hfs
      have E1 := Lib.hid (hE.alloc (.stringIter ⟨#[108, 104, 109]⟩ 0))
      clear hE hit hpe hp hpos hpos0
      go_wp2_with fail
      clear hnx
      generalize hg2 : wr.heap.size = g2 at E1 ⊢
      have hit0 : (wr.alloc (.stringIter ⟨#[108, 104, 109]⟩ 0)).heap[g2]? = some (.stringIter ⟨#[108, 104, 109]⟩ 0) := hg2 ▸ World.iter_heap wr _ 0
      have HI0 := Lib.hid hit0
      have HG2 := Lib.hid hg2
      clear hit0 hg2
      go_loopw [3] (fun sv wr => ∃ o j es lo hi mx mm ap, o ≤ 3 ∧ sv = .slice mm.ad mm.ks.length mm.cp ∧ wr.heap[g2]? = some (.stringIter ⟨#[108, 104, 109]⟩ o) ∧ g2 ∈ ap ∧ ES W bb ps xb #[a0, a1, lo, hi, mx, .bool s, a6] j es ap mm wr ∧ Run tx s i m o j es lo hi mx mm) (fun _ wr => 3 - wr.iterPos g2)
      case atStart => exact ⟨0, i, [], .nilIface, .nilIface, .nilIface, m, _, by omega, rfl, HI0.out, List.mem_cons_self .., E1.out, .zero⟩
      case round =>
        obtain ⟨o, j, es, lo, hi, mx, mm, ap, ho, rfl, hit, hap, hE, hR⟩ := hrel
        have hpos0 := Lib.hid (iterPos_of hit)
        have ho4 : o = 0 ∨ o = 1 ∨ o = 2 ∨ o = 3 := by omega
        clear ho
        rcases ho4 with h0 | h1 | h2 | h3
        · subst h0
          have hch : ((⟨#[108, 104, 109]⟩ : ByteArray)[0]'(by decide)).toNat = 108 := by decide
          have hnx : ∀ ty, (Instr.next (.pointer (some ⟨g2, 0, none⟩)) true ty).run Tryd.prog wr = _ := fun ty => Lib.run_next_ascii_at wr g2 ⟨#[108, 104, 109]⟩ 0 ty hit (by decide) (by decide)
          rw [hch] at hnx
          have hit2 := Lib.iterAt_heap wr g2 ⟨#[108, 104, 109]⟩ 0 (0 + 1) hit
          have hE2 := hE.iterAt hap ⟨#[108, 104, 109]⟩ (0 + 1)
          obtain ⟨W1, hW1⟩ : ∃ W1, W1 = wr.iterAt g2 ⟨#[108, 104, 109]⟩ (0 + 1) := ⟨_, rfl⟩
          rw [← hW1] at hnx hit2 hE2
          have c5 := hE2.blk.cell 5
          simp at c5
          have HE := Lib.hid hE2
          have HI := Lib.hid hit2
          have HR := Lib.hid hR
          have HAP := Lib.hid hap
          have HPo := hpos0
          clear hW1 hit hE hE2 hit2 hR hap
          go_wp2_with fail
          have EA := Lib.hid (HE.out.alloc (.stringIter tx 0))
          have HIa := Lib.hid ((Below.heap_alloc W1 (.stringIter tx 0) g2 (Array.getElem?_eq_some_iff.1 HI.out).1).trans HI.out)
          have hitA := World.iter_heap W1 tx 0
          have HIt := Lib.hid (show (W1.alloc (.stringIter tx 0)).heap[W1.heap.size]? = some (.stringIter tx 0) from hitA)
          have HNE := Lib.hid (Nat.ne_of_lt (Array.getElem?_eq_some_iff.1 HI.out).1)
          clear hitA c5
          generalize W1.heap.size = g3 at EA HIt HNE ⊢
          go_loopw [3] (fun sv wq => ∃ pos, pos ≤ tx.size ∧ wq.heap[g3]? = some (.stringIter tx pos) ∧ wq.heap[g2]? = some (.stringIter ⟨#[108, 104, 109]⟩ 1) ∧
              ((((∀ p, p < pos → chr tx p ≠ 108) ∨ mm.ks = []) ∧ sv = .slice mm.ad mm.ks.length mm.cp ∧ ES W bb ps xb #[a0, a1, lo, hi, mx, .bool s, a6] (j) es (g3 :: ap) mm wq) ∨
               ((∃ p, p < pos ∧ chr tx p = 108) ∧ ∃ x r v m', mm.ks = x :: r ∧ m'.ks = r ∧ sv = .slice m'.ad m'.ks.length m'.cp ∧ ES W bb ps xb #[a0, a1, v, hi, mx, .bool s, a6] (j + x.ntok) (es ++ [(j, x, v)]) (g3 :: ap) m' wq))) (fun _ wq => tx.size - wq.iterPos g3)
          case atStart => exact ⟨0, Nat.zero_le _, HIt.out, HIa.out, .inl ⟨.inl fun p hp => absurd hp (Nat.not_lt_zero _), rfl, EA.out⟩⟩
          case round =>
            obtain ⟨pos, hpos, hit, hitg, hS⟩ := hrel
            have hpos0 := Lib.hid (iterPos_of hit)
            by_cases hp : pos < tx.size
            · have hch := chr_at hp
              have hnx : ∀ ty, (Instr.next (.pointer (some ⟨g3, 0, none⟩)) true ty).run Tryd.prog wr = _ := fun ty => Lib.run_next_ascii_at wr g3 tx pos ty hit hp (by rw [hch]; exact HC.out pos)
              rw [hch] at hnx
              have hit2 := Lib.iterAt_heap wr g3 tx pos (pos + 1) hit
              have hitg2 := (Lib.iterAt_other wr g3 g2 tx (pos + 1) HNE.out).trans hitg
              rcases hS with ⟨hno, rfl, hE3⟩ | ⟨⟨p0, hp0, hp1⟩, x, r, v, m', hks, hks', rfl, hE3⟩
              · have hE4 := hE3.iterAt (List.mem_cons_self ..) tx (pos + 1)
                obtain ⟨W2, hW2⟩ : ∃ W2, W2 = wr.iterAt g3 tx (pos + 1) := ⟨_, rfl⟩
                rw [← hW2] at hnx hit2 hitg2 hE4
                have HN := Lib.hid hno
                have HE4 := Lib.hid hE4
                have HT := Lib.hid hit2
                have HG := Lib.hid hitg2
                clear hW2 hno hE3 hE4 hit2 hitg2 hit hitg hch
                by_cases hc : chr tx pos = 108
                · have hc2 : (chr tx pos : Int) = 108 := by omega
                  have HC2 := Lib.hid hc
                  clear hc
                  obtain ⟨mk, mt, mad, mcp, mks⟩ := mm
                  dsimp only at *
                  cases mks with
                  | nil =>
                    go_wp2_with fail
                    go_roundw
                    case rel => exact ⟨pos + 1, by omega, HT.out, HG.out, .inl ⟨.inr (by trivial), rfl, HE4.out⟩⟩
                    case measure =>
                      rw [hpos0.out, iterPos_of HT.out]
                      omega
                  | cons x r =>
                    obtain ⟨⟨ab, ao, had⟩, hcp1, hcp2⟩ := ad_form HE4.out.in_
                    subst had
                    obtain ⟨d1, d2, d3, hxin⟩ := head_cells HE4.out.in_
                    have HX := Lib.hid hxin
                    clear hxin
                    have hlr : (x :: r).length = r.length + 1 := rfl
                    by_cases hcp : mcp = 1
                    · skip
                      subst hcp
                      obtain rfl : r = [] := List.length_eq_zero_iff.1 (by omega)
                      go_wp2_with fail
                      refine (IH'.out x (HR.out.sub x (List.mem_cons_self ..)) _ bb (j) HE4.out.bat HX.out).mono ?_
                      rintro e w3 ⟨v, rfl, hEx, hB3, hg3⟩
                      obtain ⟨q, c, rfl⟩ := hEx.form
                      have HT3 := Lib.hid ((HE4.out.iter (List.mem_cons_self ..) hg3).trans HT.out)
                      have HG3 := Lib.hid ((HE4.out.iter (List.mem_cons_of_mem _ HAP.out) hg3).trans HG.out)
                      have HE5 := Lib.hid (HE4.out.kid hEx hB3 hg3)
                      have ck := sl_cell (HE5.out.blk.cell 2) rfl
                      have fk := HE5.out.blk.frozen 2
                      clear hEx hB3 hg3 d1 d2 d3
                      have HE6 := Lib.hid ((HE5.out.with_ (m' := ⟨mk, mt, some ⟨ab, ao, none⟩, 0, []⟩) (nil_in _ _ _ _ _)).set_ 2 (.iface q (.pointer (some ⟨c, 0, none⟩))))
                      have HT6 := Lib.hid ((HE5.out.iter_set (List.mem_cons_self ..) 2 (.iface q (.pointer (some ⟨c, 0, none⟩)))).trans HT3.out)
                      have HG6 := Lib.hid ((HE5.out.iter_set (List.mem_cons_of_mem _ HAP.out) 2 (.iface q (.pointer (some ⟨c, 0, none⟩)))).trans HG3.out)
                      go_wp2_with fail
                      go_roundw
                      case rel => exact ⟨pos + 1, by omega, HT6.out, HG6.out, .inr ⟨⟨pos, Nat.lt_succ_self _, HC2.out⟩, x, [], .iface q (.pointer (some ⟨c, 0, none⟩)), ⟨mk, mt, some ⟨ab, ao, none⟩, 0, []⟩, rfl, rfl, rfl, HE6.out⟩⟩
                      case measure =>
                        rw [hpos0.out, iterPos_of HT6.out]
                        omega
                    · skip
                      have hr1 : (1 : Int) ≤ (r.length : Int) + 1 := by omega
                      have hr2 : r.length + 1 ≤ 9223372036854775807 := by omega
                      go_wp2_with fail
                      refine (IH'.out x (HR.out.sub x (List.mem_cons_self ..)) _ bb (j) HE4.out.bat HX.out).mono ?_
                      rintro e w3 ⟨v, rfl, hEx, hB3, hg3⟩
                      obtain ⟨q, c, rfl⟩ := hEx.form
                      have HT3 := Lib.hid ((HE4.out.iter (List.mem_cons_self ..) hg3).trans HT.out)
                      have HG3 := Lib.hid ((HE4.out.iter (List.mem_cons_of_mem _ HAP.out) hg3).trans HG.out)
                      have HE5 := Lib.hid (HE4.out.kid hEx hB3 hg3)
                      have ck := sl_cell (HE5.out.blk.cell 2) rfl
                      have fk := HE5.out.blk.frozen 2
                      clear hEx hB3 hg3 d1 d2 d3
                      have HE6 := Lib.hid ((HE5.out.with_ (m' := ⟨mk, mt, some ⟨ab, ao + 3, none⟩, mcp - 1, r⟩) (tail_in HE5.out.in_)).set_ 2 (.iface q (.pointer (some ⟨c, 0, none⟩))))
                      have HT6 := Lib.hid ((HE5.out.iter_set (List.mem_cons_self ..) 2 (.iface q (.pointer (some ⟨c, 0, none⟩)))).trans HT3.out)
                      have HG6 := Lib.hid ((HE5.out.iter_set (List.mem_cons_of_mem _ HAP.out) 2 (.iface q (.pointer (some ⟨c, 0, none⟩)))).trans HG3.out)
                      go_wp2_with fail
                      go_roundw
                      case rel => exact ⟨pos + 1, by omega, HT6.out, HG6.out, .inr ⟨⟨pos, Nat.lt_succ_self _, HC2.out⟩, x, r, .iface q (.pointer (some ⟨c, 0, none⟩)), ⟨mk, mt, some ⟨ab, ao + 3, none⟩, mcp - 1, r⟩, rfl, rfl, rfl, HE6.out⟩⟩
                      case measure =>
                        rw [hpos0.out, iterPos_of HT6.out]
                        omega
                · have hc2 : ((chr tx pos : Int) == 108) = false := by simp; omega
                  have HC2 := Lib.hid hc
                  clear hc
                  go_wp2_with fail
                  go_roundw
                  case rel =>
                    refine ⟨pos + 1, by omega, HT.out, HG.out, .inl ⟨HN.out.imp (fun h p hp => ?_) id, rfl, HE4.out⟩⟩
                    by_cases hpp : p = pos
                    · exact hpp ▸ HC2.out
                    · exact h p (by omega)
                  case measure =>
                    rw [hpos0.out, iterPos_of HT.out]
                    omega
              · have hne : chr tx pos ≠ 108 := fun e => by have := HU.out p0 pos (by omega) hp (hp1.trans e.symm); omega
                have hc2 : ((chr tx pos : Int) == 108) = false := by simp; omega
                have hE4 := hE3.iterAt (List.mem_cons_self ..) tx (pos + 1)
                obtain ⟨W2, hW2⟩ : ∃ W2, W2 = wr.iterAt g3 tx (pos + 1) := ⟨_, rfl⟩
                rw [← hW2] at hnx hit2 hitg2 hE4
                have HY := Lib.hid (And.intro hp0 hp1)
                have HK := Lib.hid (And.intro hks hks')
                have HE4 := Lib.hid hE4
                have HT := Lib.hid hit2
                have HG := Lib.hid hitg2
                clear hW2 hE3 hE4 hit2 hitg2 hit hitg hch hp0 hp1 hks hks' hne
                go_wp2_with fail
                go_roundw
                case rel => exact ⟨pos + 1, by omega, HT.out, HG.out, .inr ⟨⟨p0, Nat.lt_succ_of_lt HY.out.1, HY.out.2⟩, x, r, v, m', HK.out.1, HK.out.2, rfl, HE4.out⟩⟩
                case measure =>
                  rw [hpos0.out, iterPos_of HT.out]
                  omega
            · have hpe : pos = tx.size := by omega
              have hnx : ∀ ty, (Instr.next (.pointer (some ⟨g3, 0, none⟩)) true ty).run Tryd.prog wr = _ := fun ty => Lib.run_next_end_at wr g3 tx pos ty hit hp
              subst hpe
              have HG := Lib.hid hitg
              rcases hS with ⟨hno, rfl, hE3⟩ | ⟨hyes, x, r, v, m', hks, hks', rfl, hE3⟩
              · have HN := Lib.hid hno
                have HE3 := Lib.hid hE3
                clear hno hE3 hit hitg
                go_wp2_with fail
                go_roundw
                case rel => exact ⟨1, _, es, lo, hi, mx, mm, g3 :: ap, by omega, rfl, HG.out, List.mem_cons_of_mem _ HAP.out, HE3.out, .skipL HR.out HN.out⟩
                case measure =>
                  rw [HPo.out, iterPos_of HG.out]
                  omega
              · have HY := Lib.hid hyes
                have HK := Lib.hid (And.intro hks hks')
                have HE3 := Lib.hid hE3
                clear hyes hks hks' hE3 hit hitg
                go_wp2_with fail
                go_roundw
                case rel => exact ⟨1, _, _, v, hi, mx, m', g3 :: ap, by omega, rfl, HG.out, List.mem_cons_of_mem _ HAP.out, HE3.out, .takeL HR.out HY.out HK.out.1 HK.out.2⟩
                case measure =>
                  rw [HPo.out, iterPos_of HG.out]
                  omega
        · subst h1
          have hch : ((⟨#[108, 104, 109]⟩ : ByteArray)[1]'(by decide)).toNat = 104 := by decide
          have hnx : ∀ ty, (Instr.next (.pointer (some ⟨g2, 0, none⟩)) true ty).run Tryd.prog wr = _ := fun ty => Lib.run_next_ascii_at wr g2 ⟨#[108, 104, 109]⟩ 1 ty hit (by decide) (by decide)
          rw [hch] at hnx
          have hit2 := Lib.iterAt_heap wr g2 ⟨#[108, 104, 109]⟩ 1 (1 + 1) hit
          have hE2 := hE.iterAt hap ⟨#[108, 104, 109]⟩ (1 + 1)
          obtain ⟨W1, hW1⟩ : ∃ W1, W1 = wr.iterAt g2 ⟨#[108, 104, 109]⟩ (1 + 1) := ⟨_, rfl⟩
          rw [← hW1] at hnx hit2 hE2
          have c5 := hE2.blk.cell 5
          simp at c5
          have HE := Lib.hid hE2
          have HI := Lib.hid hit2
          have HR := Lib.hid hR
          have HAP := Lib.hid hap
          have HPo := hpos0
          clear hW1 hit hE hE2 hit2 hR hap
          go_wp2_with fail
          refine (next_any _ bb ps j HE.out.bat).mono ?_
          rintro e W3 ⟨rfl, hB, hg⟩
          have HI := Lib.hid ((HE.out.iter HAP.out hg).trans HI.out)
          have HE := Lib.hid (HE.out.next hB hg)
          clear hB hg
          go_wp2_with fail
          have EA := Lib.hid (HE.out.alloc (.stringIter tx 0))
          have HIa := Lib.hid ((Below.heap_alloc W3 (.stringIter tx 0) g2 (Array.getElem?_eq_some_iff.1 HI.out).1).trans HI.out)
          have hitA := World.iter_heap W3 tx 0
          have HIt := Lib.hid (show (W3.alloc (.stringIter tx 0)).heap[W3.heap.size]? = some (.stringIter tx 0) from hitA)
          have HNE := Lib.hid (Nat.ne_of_lt (Array.getElem?_eq_some_iff.1 HI.out).1)
          clear hitA c5
          generalize W3.heap.size = g3 at EA HIt HNE ⊢
          go_loopw [3] (fun sv wq => ∃ pos, pos ≤ tx.size ∧ wq.heap[g3]? = some (.stringIter tx pos) ∧ wq.heap[g2]? = some (.stringIter ⟨#[108, 104, 109]⟩ 2) ∧
              ((((∀ p, p < pos → chr tx p ≠ 104) ∨ mm.ks = []) ∧ sv = .slice mm.ad mm.ks.length mm.cp ∧ ES W bb ps xb #[a0, a1, lo, hi, mx, .bool s, a6] (j + 1) es (g3 :: ap) mm wq) ∨
               ((∃ p, p < pos ∧ chr tx p = 104) ∧ ∃ x r v m', mm.ks = x :: r ∧ m'.ks = r ∧ sv = .slice m'.ad m'.ks.length m'.cp ∧ ES W bb ps xb #[a0, a1, lo, v, mx, .bool s, a6] (j + 1 + x.ntok) (es ++ [(j + 1, x, v)]) (g3 :: ap) m' wq))) (fun _ wq => tx.size - wq.iterPos g3)
          case atStart => exact ⟨0, Nat.zero_le _, HIt.out, HIa.out, .inl ⟨.inl fun p hp => absurd hp (Nat.not_lt_zero _), rfl, EA.out⟩⟩
          case round =>
            obtain ⟨pos, hpos, hit, hitg, hS⟩ := hrel
            have hpos0 := Lib.hid (iterPos_of hit)
            by_cases hp : pos < tx.size
            · have hch := chr_at hp
              have hnx : ∀ ty, (Instr.next (.pointer (some ⟨g3, 0, none⟩)) true ty).run Tryd.prog wr = _ := fun ty => Lib.run_next_ascii_at wr g3 tx pos ty hit hp (by rw [hch]; exact HC.out pos)
              rw [hch] at hnx
              have hit2 := Lib.iterAt_heap wr g3 tx pos (pos + 1) hit
              have hitg2 := (Lib.iterAt_other wr g3 g2 tx (pos + 1) HNE.out).trans hitg
              rcases hS with ⟨hno, rfl, hE3⟩ | ⟨⟨p0, hp0, hp1⟩, x, r, v, m', hks, hks', rfl, hE3⟩
              · have hE4 := hE3.iterAt (List.mem_cons_self ..) tx (pos + 1)
                obtain ⟨W2, hW2⟩ : ∃ W2, W2 = wr.iterAt g3 tx (pos + 1) := ⟨_, rfl⟩
                rw [← hW2] at hnx hit2 hitg2 hE4
                have HN := Lib.hid hno
                have HE4 := Lib.hid hE4
                have HT := Lib.hid hit2
                have HG := Lib.hid hitg2
                clear hW2 hno hE3 hE4 hit2 hitg2 hit hitg hch
                by_cases hc : chr tx pos = 104
                · have hc2 : (chr tx pos : Int) = 104 := by omega
                  have HC2 := Lib.hid hc
                  clear hc
                  obtain ⟨mk, mt, mad, mcp, mks⟩ := mm
                  dsimp only at *
                  cases mks with
                  | nil =>
                    go_wp2_with fail
                    go_roundw
                    case rel => exact ⟨pos + 1, by omega, HT.out, HG.out, .inl ⟨.inr (by trivial), rfl, HE4.out⟩⟩
                    case measure =>
                      rw [hpos0.out, iterPos_of HT.out]
                      omega
                  | cons x r =>
                    obtain ⟨⟨ab, ao, had⟩, hcp1, hcp2⟩ := ad_form HE4.out.in_
                    subst had
                    obtain ⟨d1, d2, d3, hxin⟩ := head_cells HE4.out.in_
                    have HX := Lib.hid hxin
                    clear hxin
                    have hlr : (x :: r).length = r.length + 1 := rfl
                    by_cases hcp : mcp = 1
                    · skip
                      subst hcp
                      obtain rfl : r = [] := List.length_eq_zero_iff.1 (by omega)
                      go_wp2_with fail
                      refine (IH'.out x (HR.out.sub x (List.mem_cons_self ..)) _ bb (j + 1) HE4.out.bat HX.out).mono ?_
                      rintro e w3 ⟨v, rfl, hEx, hB3, hg3⟩
                      obtain ⟨q, c, rfl⟩ := hEx.form
                      have HT3 := Lib.hid ((HE4.out.iter (List.mem_cons_self ..) hg3).trans HT.out)
                      have HG3 := Lib.hid ((HE4.out.iter (List.mem_cons_of_mem _ HAP.out) hg3).trans HG.out)
                      have HE5 := Lib.hid (HE4.out.kid hEx hB3 hg3)
                      have ck := sl_cell (HE5.out.blk.cell 3) rfl
                      have fk := HE5.out.blk.frozen 3
                      clear hEx hB3 hg3 d1 d2 d3
                      have HE6 := Lib.hid ((HE5.out.with_ (m' := ⟨mk, mt, some ⟨ab, ao, none⟩, 0, []⟩) (nil_in _ _ _ _ _)).set_ 3 (.iface q (.pointer (some ⟨c, 0, none⟩))))
                      have HT6 := Lib.hid ((HE5.out.iter_set (List.mem_cons_self ..) 3 (.iface q (.pointer (some ⟨c, 0, none⟩)))).trans HT3.out)
                      have HG6 := Lib.hid ((HE5.out.iter_set (List.mem_cons_of_mem _ HAP.out) 3 (.iface q (.pointer (some ⟨c, 0, none⟩)))).trans HG3.out)
                      go_wp2_with fail
                      go_roundw
                      case rel => exact ⟨pos + 1, by omega, HT6.out, HG6.out, .inr ⟨⟨pos, Nat.lt_succ_self _, HC2.out⟩, x, [], .iface q (.pointer (some ⟨c, 0, none⟩)), ⟨mk, mt, some ⟨ab, ao, none⟩, 0, []⟩, rfl, rfl, rfl, HE6.out⟩⟩
                      case measure =>
                        rw [hpos0.out, iterPos_of HT6.out]
                        omega
                    · skip
                      have hr1 : (1 : Int) ≤ (r.length : Int) + 1 := by omega
                      have hr2 : r.length + 1 ≤ 9223372036854775807 := by omega
                      go_wp2_with fail
                      refine (IH'.out x (HR.out.sub x (List.mem_cons_self ..)) _ bb (j + 1) HE4.out.bat HX.out).mono ?_
                      rintro e w3 ⟨v, rfl, hEx, hB3, hg3⟩
                      obtain ⟨q, c, rfl⟩ := hEx.form
                      have HT3 := Lib.hid ((HE4.out.iter (List.mem_cons_self ..) hg3).trans HT.out)
                      have HG3 := Lib.hid ((HE4.out.iter (List.mem_cons_of_mem _ HAP.out) hg3).trans HG.out)
                      have HE5 := Lib.hid (HE4.out.kid hEx hB3 hg3)
                      have ck := sl_cell (HE5.out.blk.cell 3) rfl
                      have fk := HE5.out.blk.frozen 3
                      clear hEx hB3 hg3 d1 d2 d3
                      have HE6 := Lib.hid ((HE5.out.with_ (m' := ⟨mk, mt, some ⟨ab, ao + 3, none⟩, mcp - 1, r⟩) (tail_in HE5.out.in_)).set_ 3 (.iface q (.pointer (some ⟨c, 0, none⟩))))
                      have HT6 := Lib.hid ((HE5.out.iter_set (List.mem_cons_self ..) 3 (.iface q (.pointer (some ⟨c, 0, none⟩)))).trans HT3.out)
                      have HG6 := Lib.hid ((HE5.out.iter_set (List.mem_cons_of_mem _ HAP.out) 3 (.iface q (.pointer (some ⟨c, 0, none⟩)))).trans HG3.out)
                      go_wp2_with fail
                      go_roundw
                      case rel => exact ⟨pos + 1, by omega, HT6.out, HG6.out, .inr ⟨⟨pos, Nat.lt_succ_self _, HC2.out⟩, x, r, .iface q (.pointer (some ⟨c, 0, none⟩)), ⟨mk, mt, some ⟨ab, ao + 3, none⟩, mcp - 1, r⟩, rfl, rfl, rfl, HE6.out⟩⟩
                      case measure =>
                        rw [hpos0.out, iterPos_of HT6.out]
                        omega
                · have hc2 : ((chr tx pos : Int) == 104) = false := by simp; omega
                  have HC2 := Lib.hid hc
                  clear hc
                  go_wp2_with fail
                  go_roundw
                  case rel =>
                    refine ⟨pos + 1, by omega, HT.out, HG.out, .inl ⟨HN.out.imp (fun h p hp => ?_) id, rfl, HE4.out⟩⟩
                    by_cases hpp : p = pos
                    · exact hpp ▸ HC2.out
                    · exact h p (by omega)
                  case measure =>
                    rw [hpos0.out, iterPos_of HT.out]
                    omega
              · have hne : chr tx pos ≠ 104 := fun e => by have := HU.out p0 pos (by omega) hp (hp1.trans e.symm); omega
                have hc2 : ((chr tx pos : Int) == 104) = false := by simp; omega
                have hE4 := hE3.iterAt (List.mem_cons_self ..) tx (pos + 1)
                obtain ⟨W2, hW2⟩ : ∃ W2, W2 = wr.iterAt g3 tx (pos + 1) := ⟨_, rfl⟩
                rw [← hW2] at hnx hit2 hitg2 hE4
                have HY := Lib.hid (And.intro hp0 hp1)
                have HK := Lib.hid (And.intro hks hks')
                have HE4 := Lib.hid hE4
                have HT := Lib.hid hit2
                have HG := Lib.hid hitg2
                clear hW2 hE3 hE4 hit2 hitg2 hit hitg hch hp0 hp1 hks hks' hne
                go_wp2_with fail
                go_roundw
                case rel => exact ⟨pos + 1, by omega, HT.out, HG.out, .inr ⟨⟨p0, Nat.lt_succ_of_lt HY.out.1, HY.out.2⟩, x, r, v, m', HK.out.1, HK.out.2, rfl, HE4.out⟩⟩
                case measure =>
                  rw [hpos0.out, iterPos_of HT.out]
                  omega
            · have hpe : pos = tx.size := by omega
              have hnx : ∀ ty, (Instr.next (.pointer (some ⟨g3, 0, none⟩)) true ty).run Tryd.prog wr = _ := fun ty => Lib.run_next_end_at wr g3 tx pos ty hit hp
              subst hpe
              have HG := Lib.hid hitg
              rcases hS with ⟨hno, rfl, hE3⟩ | ⟨hyes, x, r, v, m', hks, hks', rfl, hE3⟩
              · have HN := Lib.hid hno
                have HE3 := Lib.hid hE3
                clear hno hE3 hit hitg
                go_wp2_with fail
                go_roundw
                case rel => exact ⟨2, _, es, lo, hi, mx, mm, g3 :: ap, by omega, rfl, HG.out, List.mem_cons_of_mem _ HAP.out, HE3.out, .skipH HR.out HN.out⟩
                case measure =>
                  rw [HPo.out, iterPos_of HG.out]
                  omega
              · have HY := Lib.hid hyes
                have HK := Lib.hid (And.intro hks hks')
                have HE3 := Lib.hid hE3
                clear hyes hks hks' hE3 hit hitg
                go_wp2_with fail
                go_roundw
                case rel => exact ⟨2, _, _, lo, v, mx, m', g3 :: ap, by omega, rfl, HG.out, List.mem_cons_of_mem _ HAP.out, HE3.out, .takeH HR.out HY.out HK.out.1 HK.out.2⟩
                case measure =>
                  rw [HPo.out, iterPos_of HG.out]
                  omega
        · subst h2
          cases s
          · skip
            have hch : ((⟨#[108, 104, 109]⟩ : ByteArray)[2]'(by decide)).toNat = 109 := by decide
            have hnx : ∀ ty, (Instr.next (.pointer (some ⟨g2, 0, none⟩)) true ty).run Tryd.prog wr = _ := fun ty => Lib.run_next_ascii_at wr g2 ⟨#[108, 104, 109]⟩ 2 ty hit (by decide) (by decide)
            rw [hch] at hnx
            have hit2 := Lib.iterAt_heap wr g2 ⟨#[108, 104, 109]⟩ 2 (2 + 1) hit
            have hE2 := hE.iterAt hap ⟨#[108, 104, 109]⟩ (2 + 1)
            obtain ⟨W1, hW1⟩ : ∃ W1, W1 = wr.iterAt g2 ⟨#[108, 104, 109]⟩ (2 + 1) := ⟨_, rfl⟩
            rw [← hW1] at hnx hit2 hE2
            have c5 := hE2.blk.cell 5
            simp at c5
            have HE := Lib.hid hE2
            have HI := Lib.hid hit2
            have HR := Lib.hid hR
            have HAP := Lib.hid hap
            have HPo := hpos0
            clear hW1 hit hE hE2 hit2 hR hap
            go_wp2_with fail
            have EA := Lib.hid (HE.out.alloc (.stringIter tx 0))
            have HIa := Lib.hid ((Below.heap_alloc W1 (.stringIter tx 0) g2 (Array.getElem?_eq_some_iff.1 HI.out).1).trans HI.out)
            have hitA := World.iter_heap W1 tx 0
            have HIt := Lib.hid (show (W1.alloc (.stringIter tx 0)).heap[W1.heap.size]? = some (.stringIter tx 0) from hitA)
            have HNE := Lib.hid (Nat.ne_of_lt (Array.getElem?_eq_some_iff.1 HI.out).1)
            clear hitA c5
            generalize W1.heap.size = g3 at EA HIt HNE ⊢
            go_loopw [3] (fun sv wq => ∃ pos, pos ≤ tx.size ∧ wq.heap[g3]? = some (.stringIter tx pos) ∧ wq.heap[g2]? = some (.stringIter ⟨#[108, 104, 109]⟩ 3) ∧
                ((((∀ p, p < pos → chr tx p ≠ 109) ∨ mm.ks = []) ∧ sv = .slice mm.ad mm.ks.length mm.cp ∧ ES W bb ps xb #[a0, a1, lo, hi, mx, .bool false, a6] (j) es (g3 :: ap) mm wq) ∨
                 ((∃ p, p < pos ∧ chr tx p = 109) ∧ ∃ x r v m', mm.ks = x :: r ∧ m'.ks = r ∧ sv = .slice m'.ad m'.ks.length m'.cp ∧ ES W bb ps xb #[a0, a1, lo, hi, v, .bool false, a6] (j + x.ntok) (es ++ [(j, x, v)]) (g3 :: ap) m' wq))) (fun _ wq => tx.size - wq.iterPos g3)
            case atStart => exact ⟨0, Nat.zero_le _, HIt.out, HIa.out, .inl ⟨.inl fun p hp => absurd hp (Nat.not_lt_zero _), rfl, EA.out⟩⟩
            case round =>
              obtain ⟨pos, hpos, hit, hitg, hS⟩ := hrel
              have hpos0 := Lib.hid (iterPos_of hit)
              by_cases hp : pos < tx.size
              · have hch := chr_at hp
                have hnx : ∀ ty, (Instr.next (.pointer (some ⟨g3, 0, none⟩)) true ty).run Tryd.prog wr = _ := fun ty => Lib.run_next_ascii_at wr g3 tx pos ty hit hp (by rw [hch]; exact HC.out pos)
                rw [hch] at hnx
                have hit2 := Lib.iterAt_heap wr g3 tx pos (pos + 1) hit
                have hitg2 := (Lib.iterAt_other wr g3 g2 tx (pos + 1) HNE.out).trans hitg
                rcases hS with ⟨hno, rfl, hE3⟩ | ⟨⟨p0, hp0, hp1⟩, x, r, v, m', hks, hks', rfl, hE3⟩
                · have hE4 := hE3.iterAt (List.mem_cons_self ..) tx (pos + 1)
                  obtain ⟨W2, hW2⟩ : ∃ W2, W2 = wr.iterAt g3 tx (pos + 1) := ⟨_, rfl⟩
                  rw [← hW2] at hnx hit2 hitg2 hE4
                  have HN := Lib.hid hno
                  have HE4 := Lib.hid hE4
                  have HT := Lib.hid hit2
                  have HG := Lib.hid hitg2
                  clear hW2 hno hE3 hE4 hit2 hitg2 hit hitg hch
                  by_cases hc : chr tx pos = 109
                  · have hc2 : (chr tx pos : Int) = 109 := by omega
                    have HC2 := Lib.hid hc
                    clear hc
                    obtain ⟨mk, mt, mad, mcp, mks⟩ := mm
                    dsimp only at *
                    cases mks with
                    | nil =>
                      go_wp2_with fail
                      go_roundw
                      case rel => exact ⟨pos + 1, by omega, HT.out, HG.out, .inl ⟨.inr (by trivial), rfl, HE4.out⟩⟩
                      case measure =>
                        rw [hpos0.out, iterPos_of HT.out]
                        omega
                    | cons x r =>
                      obtain ⟨⟨ab, ao, had⟩, hcp1, hcp2⟩ := ad_form HE4.out.in_
                      subst had
                      obtain ⟨d1, d2, d3, hxin⟩ := head_cells HE4.out.in_
                      have HX := Lib.hid hxin
                      clear hxin
                      have hlr : (x :: r).length = r.length + 1 := rfl
                      by_cases hcp : mcp = 1
                      · skip
                        subst hcp
                        obtain rfl : r = [] := List.length_eq_zero_iff.1 (by omega)
                        go_wp2_with fail
                        refine (IH'.out x (HR.out.sub x (List.mem_cons_self ..)) _ bb (j) HE4.out.bat HX.out).mono ?_
                        rintro e w3 ⟨v, rfl, hEx, hB3, hg3⟩
                        obtain ⟨q, c, rfl⟩ := hEx.form
                        have HT3 := Lib.hid ((HE4.out.iter (List.mem_cons_self ..) hg3).trans HT.out)
                        have HG3 := Lib.hid ((HE4.out.iter (List.mem_cons_of_mem _ HAP.out) hg3).trans HG.out)
                        have HE5 := Lib.hid (HE4.out.kid hEx hB3 hg3)
                        have ck := sl_cell (HE5.out.blk.cell 4) rfl
                        have fk := HE5.out.blk.frozen 4
                        clear hEx hB3 hg3 d1 d2 d3
                        have HE6 := Lib.hid ((HE5.out.with_ (m' := ⟨mk, mt, some ⟨ab, ao, none⟩, 0, []⟩) (nil_in _ _ _ _ _)).set_ 4 (.iface q (.pointer (some ⟨c, 0, none⟩))))
                        have HT6 := Lib.hid ((HE5.out.iter_set (List.mem_cons_self ..) 4 (.iface q (.pointer (some ⟨c, 0, none⟩)))).trans HT3.out)
                        have HG6 := Lib.hid ((HE5.out.iter_set (List.mem_cons_of_mem _ HAP.out) 4 (.iface q (.pointer (some ⟨c, 0, none⟩)))).trans HG3.out)
                        go_wp2_with fail
                        go_roundw
                        case rel => exact ⟨pos + 1, by omega, HT6.out, HG6.out, .inr ⟨⟨pos, Nat.lt_succ_self _, HC2.out⟩, x, [], .iface q (.pointer (some ⟨c, 0, none⟩)), ⟨mk, mt, some ⟨ab, ao, none⟩, 0, []⟩, rfl, rfl, rfl, HE6.out⟩⟩
                        case measure =>
                          rw [hpos0.out, iterPos_of HT6.out]
                          omega
                      · skip
                        have hr1 : (1 : Int) ≤ (r.length : Int) + 1 := by omega
                        have hr2 : r.length + 1 ≤ 9223372036854775807 := by omega
                        go_wp2_with fail
                        refine (IH'.out x (HR.out.sub x (List.mem_cons_self ..)) _ bb (j) HE4.out.bat HX.out).mono ?_
                        rintro e w3 ⟨v, rfl, hEx, hB3, hg3⟩
                        obtain ⟨q, c, rfl⟩ := hEx.form
                        have HT3 := Lib.hid ((HE4.out.iter (List.mem_cons_self ..) hg3).trans HT.out)
                        have HG3 := Lib.hid ((HE4.out.iter (List.mem_cons_of_mem _ HAP.out) hg3).trans HG.out)
                        have HE5 := Lib.hid (HE4.out.kid hEx hB3 hg3)
                        have ck := sl_cell (HE5.out.blk.cell 4) rfl
                        have fk := HE5.out.blk.frozen 4
                        clear hEx hB3 hg3 d1 d2 d3
                        have HE6 := Lib.hid ((HE5.out.with_ (m' := ⟨mk, mt, some ⟨ab, ao + 3, none⟩, mcp - 1, r⟩) (tail_in HE5.out.in_)).set_ 4 (.iface q (.pointer (some ⟨c, 0, none⟩))))
                        have HT6 := Lib.hid ((HE5.out.iter_set (List.mem_cons_self ..) 4 (.iface q (.pointer (some ⟨c, 0, none⟩)))).trans HT3.out)
                        have HG6 := Lib.hid ((HE5.out.iter_set (List.mem_cons_of_mem _ HAP.out) 4 (.iface q (.pointer (some ⟨c, 0, none⟩)))).trans HG3.out)
                        go_wp2_with fail
                        go_roundw
                        case rel => exact ⟨pos + 1, by omega, HT6.out, HG6.out, .inr ⟨⟨pos, Nat.lt_succ_self _, HC2.out⟩, x, r, .iface q (.pointer (some ⟨c, 0, none⟩)), ⟨mk, mt, some ⟨ab, ao + 3, none⟩, mcp - 1, r⟩, rfl, rfl, rfl, HE6.out⟩⟩
                        case measure =>
                          rw [hpos0.out, iterPos_of HT6.out]
                          omega
                  · have hc2 : ((chr tx pos : Int) == 109) = false := by simp; omega
                    have HC2 := Lib.hid hc
                    clear hc
                    go_wp2_with fail
                    go_roundw
                    case rel =>
                      refine ⟨pos + 1, by omega, HT.out, HG.out, .inl ⟨HN.out.imp (fun h p hp => ?_) id, rfl, HE4.out⟩⟩
                      by_cases hpp : p = pos
                      · exact hpp ▸ HC2.out
                      · exact h p (by omega)
                    case measure =>
                      rw [hpos0.out, iterPos_of HT.out]
                      omega
                · have hne : chr tx pos ≠ 109 := fun e => by have := HU.out p0 pos (by omega) hp (hp1.trans e.symm); omega
                  have hc2 : ((chr tx pos : Int) == 109) = false := by simp; omega
                  have hE4 := hE3.iterAt (List.mem_cons_self ..) tx (pos + 1)
                  obtain ⟨W2, hW2⟩ : ∃ W2, W2 = wr.iterAt g3 tx (pos + 1) := ⟨_, rfl⟩
                  rw [← hW2] at hnx hit2 hitg2 hE4
                  have HY := Lib.hid (And.intro hp0 hp1)
                  have HK := Lib.hid (And.intro hks hks')
                  have HE4 := Lib.hid hE4
                  have HT := Lib.hid hit2
                  have HG := Lib.hid hitg2
                  clear hW2 hE3 hE4 hit2 hitg2 hit hitg hch hp0 hp1 hks hks' hne
                  go_wp2_with fail
                  go_roundw
                  case rel => exact ⟨pos + 1, by omega, HT.out, HG.out, .inr ⟨⟨p0, Nat.lt_succ_of_lt HY.out.1, HY.out.2⟩, x, r, v, m', HK.out.1, HK.out.2, rfl, HE4.out⟩⟩
                  case measure =>
                    rw [hpos0.out, iterPos_of HT.out]
                    omega
              · have hpe : pos = tx.size := by omega
                have hnx : ∀ ty, (Instr.next (.pointer (some ⟨g3, 0, none⟩)) true ty).run Tryd.prog wr = _ := fun ty => Lib.run_next_end_at wr g3 tx pos ty hit hp
                subst hpe
                have HG := Lib.hid hitg
                rcases hS with ⟨hno, rfl, hE3⟩ | ⟨hyes, x, r, v, m', hks, hks', rfl, hE3⟩
                · have HN := Lib.hid hno
                  have HE3 := Lib.hid hE3
                  clear hno hE3 hit hitg
                  go_wp2_with fail
                  go_roundw
                  case rel => exact ⟨3, _, es, lo, hi, mx, mm, g3 :: ap, by omega, rfl, HG.out, List.mem_cons_of_mem _ HAP.out, HE3.out, .skipM HR.out HN.out⟩
                  case measure =>
                    rw [HPo.out, iterPos_of HG.out]
                    omega
                · have HY := Lib.hid hyes
                  have HK := Lib.hid (And.intro hks hks')
                  have HE3 := Lib.hid hE3
                  clear hyes hks hks' hE3 hit hitg
                  go_wp2_with fail
                  go_roundw
                  case rel => exact ⟨3, _, _, lo, hi, v, m', g3 :: ap, by omega, rfl, HG.out, List.mem_cons_of_mem _ HAP.out, HE3.out, .takeM HR.out HY.out HK.out.1 HK.out.2⟩
                  case measure =>
                    rw [HPo.out, iterPos_of HG.out]
                    omega
          · skip
            have hch : ((⟨#[108, 104, 109]⟩ : ByteArray)[2]'(by decide)).toNat = 109 := by decide
            have hnx : ∀ ty, (Instr.next (.pointer (some ⟨g2, 0, none⟩)) true ty).run Tryd.prog wr = _ := fun ty => Lib.run_next_ascii_at wr g2 ⟨#[108, 104, 109]⟩ 2 ty hit (by decide) (by decide)
            rw [hch] at hnx
            have hit2 := Lib.iterAt_heap wr g2 ⟨#[108, 104, 109]⟩ 2 (2 + 1) hit
            have hE2 := hE.iterAt hap ⟨#[108, 104, 109]⟩ (2 + 1)
            obtain ⟨W1, hW1⟩ : ∃ W1, W1 = wr.iterAt g2 ⟨#[108, 104, 109]⟩ (2 + 1) := ⟨_, rfl⟩
            rw [← hW1] at hnx hit2 hE2
            have c5 := hE2.blk.cell 5
            simp at c5
            have HE := Lib.hid hE2
            have HI := Lib.hid hit2
            have HR := Lib.hid hR
            have HAP := Lib.hid hap
            have HPo := hpos0
            clear hW1 hit hE hE2 hit2 hR hap
            go_wp2_with fail
            refine (next_any _ bb ps j HE.out.bat).mono ?_
            rintro e W3 ⟨rfl, hB, hg⟩
            have HI := Lib.hid ((HE.out.iter HAP.out hg).trans HI.out)
            have HE := Lib.hid (HE.out.next hB hg)
            clear hB hg
            go_wp2_with fail
            have EA := Lib.hid (HE.out.alloc (.stringIter tx 0))
            have HIa := Lib.hid ((Below.heap_alloc W3 (.stringIter tx 0) g2 (Array.getElem?_eq_some_iff.1 HI.out).1).trans HI.out)
            have hitA := World.iter_heap W3 tx 0
            have HIt := Lib.hid (show (W3.alloc (.stringIter tx 0)).heap[W3.heap.size]? = some (.stringIter tx 0) from hitA)
            have HNE := Lib.hid (Nat.ne_of_lt (Array.getElem?_eq_some_iff.1 HI.out).1)
            clear hitA c5
            generalize W3.heap.size = g3 at EA HIt HNE ⊢
            go_loopw [3] (fun sv wq => ∃ pos, pos ≤ tx.size ∧ wq.heap[g3]? = some (.stringIter tx pos) ∧ wq.heap[g2]? = some (.stringIter ⟨#[108, 104, 109]⟩ 3) ∧
                ((((∀ p, p < pos → chr tx p ≠ 109) ∨ mm.ks = []) ∧ sv = .slice mm.ad mm.ks.length mm.cp ∧ ES W bb ps xb #[a0, a1, lo, hi, mx, .bool true, a6] (j + 1) es (g3 :: ap) mm wq) ∨
                 ((∃ p, p < pos ∧ chr tx p = 109) ∧ ∃ x r v m', mm.ks = x :: r ∧ m'.ks = r ∧ sv = .slice m'.ad m'.ks.length m'.cp ∧ ES W bb ps xb #[a0, a1, lo, hi, v, .bool true, a6] (j + 1 + x.ntok) (es ++ [(j + 1, x, v)]) (g3 :: ap) m' wq))) (fun _ wq => tx.size - wq.iterPos g3)
            case atStart => exact ⟨0, Nat.zero_le _, HIt.out, HIa.out, .inl ⟨.inl fun p hp => absurd hp (Nat.not_lt_zero _), rfl, EA.out⟩⟩
            case round =>
              obtain ⟨pos, hpos, hit, hitg, hS⟩ := hrel
              have hpos0 := Lib.hid (iterPos_of hit)
              by_cases hp : pos < tx.size
              · have hch := chr_at hp
                have hnx : ∀ ty, (Instr.next (.pointer (some ⟨g3, 0, none⟩)) true ty).run Tryd.prog wr = _ := fun ty => Lib.run_next_ascii_at wr g3 tx pos ty hit hp (by rw [hch]; exact HC.out pos)
                rw [hch] at hnx
                have hit2 := Lib.iterAt_heap wr g3 tx pos (pos + 1) hit
                have hitg2 := (Lib.iterAt_other wr g3 g2 tx (pos + 1) HNE.out).trans hitg
                rcases hS with ⟨hno, rfl, hE3⟩ | ⟨⟨p0, hp0, hp1⟩, x, r, v, m', hks, hks', rfl, hE3⟩
                · have hE4 := hE3.iterAt (List.mem_cons_self ..) tx (pos + 1)
                  obtain ⟨W2, hW2⟩ : ∃ W2, W2 = wr.iterAt g3 tx (pos + 1) := ⟨_, rfl⟩
                  rw [← hW2] at hnx hit2 hitg2 hE4
                  have HN := Lib.hid hno
                  have HE4 := Lib.hid hE4
                  have HT := Lib.hid hit2
                  have HG := Lib.hid hitg2
                  clear hW2 hno hE3 hE4 hit2 hitg2 hit hitg hch
                  by_cases hc : chr tx pos = 109
                  · have hc2 : (chr tx pos : Int) = 109 := by omega
                    have HC2 := Lib.hid hc
                    clear hc
                    obtain ⟨mk, mt, mad, mcp, mks⟩ := mm
                    dsimp only at *
                    cases mks with
                    | nil =>
                      go_wp2_with fail
                      go_roundw
                      case rel => exact ⟨pos + 1, by omega, HT.out, HG.out, .inl ⟨.inr (by trivial), rfl, HE4.out⟩⟩
                      case measure =>
                        rw [hpos0.out, iterPos_of HT.out]
                        omega
                    | cons x r =>
                      obtain ⟨⟨ab, ao, had⟩, hcp1, hcp2⟩ := ad_form HE4.out.in_
                      subst had
                      obtain ⟨d1, d2, d3, hxin⟩ := head_cells HE4.out.in_
                      have HX := Lib.hid hxin
                      clear hxin
                      have hlr : (x :: r).length = r.length + 1 := rfl
                      by_cases hcp : mcp = 1
                      · skip
                        subst hcp
                        obtain rfl : r = [] := List.length_eq_zero_iff.1 (by omega)
                        go_wp2_with fail
                        refine (IH'.out x (HR.out.sub x (List.mem_cons_self ..)) _ bb (j + 1) HE4.out.bat HX.out).mono ?_
                        rintro e w3 ⟨v, rfl, hEx, hB3, hg3⟩
                        obtain ⟨q, c, rfl⟩ := hEx.form
                        have HT3 := Lib.hid ((HE4.out.iter (List.mem_cons_self ..) hg3).trans HT.out)
                        have HG3 := Lib.hid ((HE4.out.iter (List.mem_cons_of_mem _ HAP.out) hg3).trans HG.out)
                        have HE5 := Lib.hid (HE4.out.kid hEx hB3 hg3)
                        have ck := sl_cell (HE5.out.blk.cell 4) rfl
                        have fk := HE5.out.blk.frozen 4
                        clear hEx hB3 hg3 d1 d2 d3
                        have HE6 := Lib.hid ((HE5.out.with_ (m' := ⟨mk, mt, some ⟨ab, ao, none⟩, 0, []⟩) (nil_in _ _ _ _ _)).set_ 4 (.iface q (.pointer (some ⟨c, 0, none⟩))))
                        have HT6 := Lib.hid ((HE5.out.iter_set (List.mem_cons_self ..) 4 (.iface q (.pointer (some ⟨c, 0, none⟩)))).trans HT3.out)
                        have HG6 := Lib.hid ((HE5.out.iter_set (List.mem_cons_of_mem _ HAP.out) 4 (.iface q (.pointer (some ⟨c, 0, none⟩)))).trans HG3.out)
                        go_wp2_with fail
                        go_roundw
                        case rel => exact ⟨pos + 1, by omega, HT6.out, HG6.out, .inr ⟨⟨pos, Nat.lt_succ_self _, HC2.out⟩, x, [], .iface q (.pointer (some ⟨c, 0, none⟩)), ⟨mk, mt, some ⟨ab, ao, none⟩, 0, []⟩, rfl, rfl, rfl, HE6.out⟩⟩
                        case measure =>
                          rw [hpos0.out, iterPos_of HT6.out]
                          omega
                      · skip
                        have hr1 : (1 : Int) ≤ (r.length : Int) + 1 := by omega
                        have hr2 : r.length + 1 ≤ 9223372036854775807 := by omega
                        go_wp2_with fail
                        refine (IH'.out x (HR.out.sub x (List.mem_cons_self ..)) _ bb (j + 1) HE4.out.bat HX.out).mono ?_
                        rintro e w3 ⟨v, rfl, hEx, hB3, hg3⟩
                        obtain ⟨q, c, rfl⟩ := hEx.form
                        have HT3 := Lib.hid ((HE4.out.iter (List.mem_cons_self ..) hg3).trans HT.out)
                        have HG3 := Lib.hid ((HE4.out.iter (List.mem_cons_of_mem _ HAP.out) hg3).trans HG.out)
                        have HE5 := Lib.hid (HE4.out.kid hEx hB3 hg3)
                        have ck := sl_cell (HE5.out.blk.cell 4) rfl
                        have fk := HE5.out.blk.frozen 4
                        clear hEx hB3 hg3 d1 d2 d3
                        have HE6 := Lib.hid ((HE5.out.with_ (m' := ⟨mk, mt, some ⟨ab, ao + 3, none⟩, mcp - 1, r⟩) (tail_in HE5.out.in_)).set_ 4 (.iface q (.pointer (some ⟨c, 0, none⟩))))
                        have HT6 := Lib.hid ((HE5.out.iter_set (List.mem_cons_self ..) 4 (.iface q (.pointer (some ⟨c, 0, none⟩)))).trans HT3.out)
                        have HG6 := Lib.hid ((HE5.out.iter_set (List.mem_cons_of_mem _ HAP.out) 4 (.iface q (.pointer (some ⟨c, 0, none⟩)))).trans HG3.out)
                        go_wp2_with fail
                        go_roundw
                        case rel => exact ⟨pos + 1, by omega, HT6.out, HG6.out, .inr ⟨⟨pos, Nat.lt_succ_self _, HC2.out⟩, x, r, .iface q (.pointer (some ⟨c, 0, none⟩)), ⟨mk, mt, some ⟨ab, ao + 3, none⟩, mcp - 1, r⟩, rfl, rfl, rfl, HE6.out⟩⟩
                        case measure =>
                          rw [hpos0.out, iterPos_of HT6.out]
                          omega
                  · have hc2 : ((chr tx pos : Int) == 109) = false := by simp; omega
                    have HC2 := Lib.hid hc
                    clear hc
                    go_wp2_with fail
                    go_roundw
                    case rel =>
                      refine ⟨pos + 1, by omega, HT.out, HG.out, .inl ⟨HN.out.imp (fun h p hp => ?_) id, rfl, HE4.out⟩⟩
                      by_cases hpp : p = pos
                      · exact hpp ▸ HC2.out
                      · exact h p (by omega)
                    case measure =>
                      rw [hpos0.out, iterPos_of HT.out]
                      omega
                · have hne : chr tx pos ≠ 109 := fun e => by have := HU.out p0 pos (by omega) hp (hp1.trans e.symm); omega
                  have hc2 : ((chr tx pos : Int) == 109) = false := by simp; omega
                  have hE4 := hE3.iterAt (List.mem_cons_self ..) tx (pos + 1)
                  obtain ⟨W2, hW2⟩ : ∃ W2, W2 = wr.iterAt g3 tx (pos + 1) := ⟨_, rfl⟩
                  rw [← hW2] at hnx hit2 hitg2 hE4
                  have HY := Lib.hid (And.intro hp0 hp1)
                  have HK := Lib.hid (And.intro hks hks')
                  have HE4 := Lib.hid hE4
                  have HT := Lib.hid hit2
                  have HG := Lib.hid hitg2
                  clear hW2 hE3 hE4 hit2 hitg2 hit hitg hch hp0 hp1 hks hks' hne
                  go_wp2_with fail
                  go_roundw
                  case rel => exact ⟨pos + 1, by omega, HT.out, HG.out, .inr ⟨⟨p0, Nat.lt_succ_of_lt HY.out.1, HY.out.2⟩, x, r, v, m', HK.out.1, HK.out.2, rfl, HE4.out⟩⟩
                  case measure =>
                    rw [hpos0.out, iterPos_of HT.out]
                    omega
              · have hpe : pos = tx.size := by omega
                have hnx : ∀ ty, (Instr.next (.pointer (some ⟨g3, 0, none⟩)) true ty).run Tryd.prog wr = _ := fun ty => Lib.run_next_end_at wr g3 tx pos ty hit hp
                subst hpe
                have HG := Lib.hid hitg
                rcases hS with ⟨hno, rfl, hE3⟩ | ⟨hyes, x, r, v, m', hks, hks', rfl, hE3⟩
                · have HN := Lib.hid hno
                  have HE3 := Lib.hid hE3
                  clear hno hE3 hit hitg
                  go_wp2_with fail
                  go_roundw
                  case rel => exact ⟨3, _, es, lo, hi, mx, mm, g3 :: ap, by omega, rfl, HG.out, List.mem_cons_of_mem _ HAP.out, HE3.out, .skipM HR.out HN.out⟩
                  case measure =>
                    rw [HPo.out, iterPos_of HG.out]
                    omega
                · have HY := Lib.hid hyes
                  have HK := Lib.hid (And.intro hks hks')
                  have HE3 := Lib.hid hE3
                  clear hyes hks hks' hE3 hit hitg
                  go_wp2_with fail
                  go_roundw
                  case rel => exact ⟨3, _, _, lo, hi, v, m', g3 :: ap, by omega, rfl, HG.out, List.mem_cons_of_mem _ HAP.out, HE3.out, .takeM HR.out HY.out HK.out.1 HK.out.2⟩
                  case measure =>
                    rw [HPo.out, iterPos_of HG.out]
                    omega
        · subst h3
          have hnx : ∀ ty, (Instr.next (.pointer (some ⟨g2, 0, none⟩)) true ty).run Tryd.prog wr = _ := fun ty => Lib.run_next_end_at wr g2 ⟨#[108, 104, 109]⟩ 3 ty hit (by decide)
          have HE := Lib.hid hE
          have HR := Lib.hid hR
          clear hE hR hit
          go_wp2_with fail
          (try simp only [Exit.inBlock, Exit.then])
          refine bodyPost_ret (results_none rfl _ _ _) rfl ?_
          exact ⟨rfl, j, es, lo, hi, mx, mm, ap, s, HS.out, HE.out, HR.out⟩
end Go.Proofs.YtnpnmfblcogkmaaDoor
