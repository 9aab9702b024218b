/-
  What ends has made of a slice's text: plain laws.
-/
import Derived.Test.YtnpnmfblcogkmaaDoorEo
namespace Go.Proofs.YtnpnmfblcogkmaaDoor
open Go.RowKit

theorem chr_has {tx : ByteArray} {c : UInt8} : (∃ p, p < tx.size ∧ chr tx p = c.toNat) ↔ c ∈ tx.data.toList := by
  have hs : tx.size = tx.data.toList.length := by simp
  constructor
  · rintro ⟨p, hp, h⟩
    have hl : p < tx.data.toList.length := by omega
    unfold chr at h
    rw [List.getD_eq_getElem?_getD, List.getElem?_eq_getElem hl, Option.getD_some] at h
    rw [← UInt8.toNat_inj.1 h]
    exact List.getElem_mem hl
  · intro h
    obtain ⟨p, hp, rfl⟩ := List.getElem_of_mem h
    refine ⟨p, by omega, ?_⟩
    unfold chr
    rw [List.getD_eq_getElem?_getD, List.getElem?_eq_getElem hp, Option.getD_some]
theorem chr_no {tx : ByteArray} {c : UInt8} : (∀ p, p < tx.size → chr tx p ≠ c.toNat) ↔ c ∉ tx.data.toList := by
  rw [← chr_has]
  constructor
  · rintro h ⟨p, hp, he⟩
    exact h p hp he
  · intro h p hp he
    exact h ⟨p, hp, he⟩
theorem flag_all (tx : ByteArray) : flagAt tx tx.size = tx.data.toList.contains 115 := by
  unfold flagAt
  rw [List.take_of_length_le (by simp)]

theorem len2 {ks : List Nd} (h : ks.length = 2) : ∃ x y, ks = [x, y] := by
  match ks, h with
  | [x, y], _ => exact ⟨x, y, rfl⟩
theorem len3 {ks : List Nd} (h : ks.length = 3) : ∃ x y z, ks = [x, y, z] := by
  match ks, h with
  | [x, y, z], _ => exact ⟨x, y, z, rfl⟩
section
variable {tx : ByteArray} {s : Bool} {i j : Nat} {m0 m : Nd} {es : List (Nat × Nd × Value)} {lo hi mx : Value}
theorem inv1 (h : Run tx s i m0 1 j es lo hi mx m) : hi = .nilIface ∧ mx = .nilIface ∧
    (((108 ∉ tx.data.toList ∨ m0.ks = []) ∧ j = i ∧ es = [] ∧ lo = .nilIface ∧ m.ks = m0.ks) ∨ (108 ∈ tx.data.toList ∧ ∃ x r v, m0.ks = x :: r ∧ m.ks = r ∧ j = i + x.ntok ∧ es = [(i, x, v)] ∧ lo = v)) := by
  cases h with
  | skipL h hc =>
    cases h
    exact ⟨rfl, rfl, .inl ⟨hc.imp (fun h => chr_no.1 h) id, rfl, rfl, rfl, rfl⟩⟩
  | takeL h hc h1 h2 =>
    cases h
    exact ⟨rfl, rfl, .inr ⟨chr_has.1 hc, _, _, _, h1, h2, rfl, rfl, rfl⟩⟩
theorem inv2 (h : Run tx s i m0 2 j es lo hi mx m) : ∃ j1 es1 hi1 m1, Run tx s i m0 1 j1 es1 lo hi1 mx m1 ∧
    (((104 ∉ tx.data.toList ∨ m1.ks = []) ∧ j = j1 + 1 ∧ es = es1 ∧ hi = hi1 ∧ m.ks = m1.ks) ∨ (104 ∈ tx.data.toList ∧ ∃ x r v, m1.ks = x :: r ∧ m.ks = r ∧ j = j1 + 1 + x.ntok ∧ es = es1 ++ [(j1 + 1, x, v)] ∧ hi = v)) := by
  cases h with
  | skipH h hc => exact ⟨_, _, _, _, h, .inl ⟨hc.imp (fun h => chr_no.1 h) id, rfl, rfl, rfl, rfl⟩⟩
  | takeH h hc h1 h2 => exact ⟨_, _, _, _, h, .inr ⟨chr_has.1 hc, _, _, _, h1, h2, rfl, rfl, rfl⟩⟩
theorem inv3 (h : Run tx s i m0 3 j es lo hi mx m) : ∃ j1 es1 mx1 m1, Run tx s i m0 2 j1 es1 lo hi mx1 m1 ∧
    (((109 ∉ tx.data.toList ∨ m1.ks = []) ∧ j = j1 + (if s then 1 else 0) ∧ es = es1 ∧ mx = mx1 ∧ m.ks = m1.ks) ∨ (109 ∈ tx.data.toList ∧ ∃ x r v, m1.ks = x :: r ∧ m.ks = r ∧ j = j1 + (if s then 1 else 0) + x.ntok ∧ es = es1 ++ [(j1 + (if s then 1 else 0), x, v)] ∧ mx = v)) := by
  cases h with
  | skipM h hc => exact ⟨_, _, _, _, h, .inl ⟨hc.imp (fun h => chr_no.1 h) id, rfl, rfl, rfl, rfl⟩⟩
  | takeM h hc h1 h2 => exact ⟨_, _, _, _, h, .inr ⟨chr_has.1 hc, _, _, _, h1, h2, rfl, rfl, rfl⟩⟩
end

/-- The ends of a slice: what the loops made is what the text tells. -/
def EndsAre (w : World) (S : Nat → Prop) (P : Nat → Int) (l : List UInt8) (i : Nat) (rest : List Nd) (j : Nat) (lo hi mx : Value) : Prop :=
  ∃ us : List Value, ExL w S P (endStarts l i (rest.map Nd.ntok)) rest us ∧ j = i + (if l.contains 115 then 2 else 1) + ntokL rest ∧ ∀ v, lo = lowV l (v :: us) ∧ hi = highV l (v :: us) ∧ mx = maxV l (v :: us)
theorem ends_are {w : World} {S : Nat → Prop} {P : Nat → Int} {tx : ByteArray} {i : Nat} {m0 m : Nd} {j : Nat} {es : List (Nat × Nd × Value)} {lo hi mx : Value} (h : Run tx (tx.data.toList.contains 115) i m0 3 j es lo hi mx m)
    (hw : slN tx.data.toList = some m0.ks.length) (hx : ∀ e ∈ es, ExR w S P e.1 e.2.1 e.2.2) : EndsAre w S P tx.data.toList i m0.ks j lo hi mx := by
  obtain ⟨j2, es2, mx2, m2, h2, c3⟩ := inv3 h
  obtain ⟨j1, es1, hi1, m1, h1, c2⟩ := inv2 h2
  obtain ⟨rfl, rfl, c1⟩ := inv1 h1
  clear h h1 h2
  generalize tx.data.toList = l at *
  have hcase : (l = [] ∧ m0.ks = []) ∨ (l = [108] ∧ ∃ x, m0.ks = [x]) ∨ (l = [104] ∧ ∃ x, m0.ks = [x]) ∨ (l = [108, 104] ∧ ∃ x y, m0.ks = [x, y]) ∨ (l = [104, 109, 115] ∧ ∃ x y, m0.ks = [x, y]) ∨ (l = [108, 104, 109, 115] ∧ ∃ x y z, m0.ks = [x, y, z]) := by
    unfold slN at hw
    repeat' split at hw
    all_goals try (simp at hw)
    · exact .inl ⟨by assumption, List.length_eq_zero_iff.1 (by omega)⟩
    · exact .inr (.inl ⟨by assumption, List.length_eq_one_iff.1 (by omega)⟩)
    · exact .inr (.inr (.inl ⟨by assumption, List.length_eq_one_iff.1 (by omega)⟩))
    · exact .inr (.inr (.inr (.inl ⟨by assumption, len2 (by omega)⟩)))
    · exact .inr (.inr (.inr (.inr (.inl ⟨by assumption, len2 (by omega)⟩))))
    · exact .inr (.inr (.inr (.inr (.inr ⟨by assumption, len3 (by omega)⟩))))
  clear hw
  rcases hcase with ⟨rfl, hk⟩ | ⟨rfl, x, hk⟩ | ⟨rfl, x, hk⟩ | ⟨rfl, x, y, hk⟩ | ⟨rfl, x, y, hk⟩ | ⟨rfl, x, y, z, hk⟩
  · rcases c3 with ⟨d3, rfl, rfl, rfl, k3⟩ | ⟨d3, x3, r3, v3, k3, k3', rfl, rfl, rfl⟩ <;>
      rcases c2 with ⟨d2, rfl, rfl, rfl, k2⟩ | ⟨d2, x2, r2, v2, k2, k2', rfl, rfl, rfl⟩ <;>
      rcases c1 with ⟨d1, rfl, rfl, rfl, k1⟩ | ⟨d1, x1, r1, v1, k1, k1', rfl, rfl, rfl⟩ <;>
      first
        | (exfalso; simp_all; done)
        | skip
    refine ⟨[], ?_, ?_, fun u => ⟨rfl, rfl, rfl⟩⟩
    · rw [hk]
      exact trivial
    · rw [hk]
      simp [ntokL]
  · rcases c3 with ⟨d3, rfl, rfl, rfl, k3⟩ | ⟨d3, x3, r3, v3, k3, k3', rfl, rfl, rfl⟩ <;>
      rcases c2 with ⟨d2, rfl, rfl, rfl, k2⟩ | ⟨d2, x2, r2, v2, k2, k2', rfl, rfl, rfl⟩ <;>
      rcases c1 with ⟨d1, rfl, rfl, rfl, k1⟩ | ⟨d1, x1, r1, v1, k1, k1', rfl, rfl, rfl⟩ <;>
      first
        | (exfalso; simp_all; done)
        | skip
    rw [hk] at k1
    cases k1
    refine ⟨[lo], ?_, ?_, fun u => ⟨rfl, rfl, rfl⟩⟩
    · rw [hk]
      exact ⟨hx (_, x, lo) (by simp), trivial⟩
    · rw [hk]
      simp [ntokL]
      omega
  · rcases c3 with ⟨d3, rfl, rfl, rfl, k3⟩ | ⟨d3, x3, r3, v3, k3, k3', rfl, rfl, rfl⟩ <;>
      rcases c2 with ⟨d2, rfl, rfl, rfl, k2⟩ | ⟨d2, x2, r2, v2, k2, k2', rfl, rfl, rfl⟩ <;>
      rcases c1 with ⟨d1, rfl, rfl, rfl, k1⟩ | ⟨d1, x1, r1, v1, k1, k1', rfl, rfl, rfl⟩ <;>
      first
        | (exfalso; simp_all; done)
        | skip
    rw [k1, hk] at k2
    cases k2
    refine ⟨[hi], ?_, ?_, fun u => ⟨rfl, rfl, rfl⟩⟩
    · rw [hk]
      exact ⟨hx (_, x, hi) (by simp), trivial⟩
    · rw [hk]
      simp [ntokL]
  · rcases c3 with ⟨d3, rfl, rfl, rfl, k3⟩ | ⟨d3, x3, r3, v3, k3, k3', rfl, rfl, rfl⟩ <;>
      rcases c2 with ⟨d2, rfl, rfl, rfl, k2⟩ | ⟨d2, x2, r2, v2, k2, k2', rfl, rfl, rfl⟩ <;>
      rcases c1 with ⟨d1, rfl, rfl, rfl, k1⟩ | ⟨d1, x1, r1, v1, k1, k1', rfl, rfl, rfl⟩ <;>
      first
        | (exfalso; simp_all; done)
        | skip
    rw [hk] at k1
    cases k1
    rw [k1'] at k2
    cases k2
    refine ⟨[lo, hi], ?_, ?_, fun u => ⟨rfl, rfl, rfl⟩⟩
    · rw [hk]
      exact ⟨hx (_, x, lo) (by simp), hx (_, y, hi) (by simp), trivial⟩
    · rw [hk]
      simp [ntokL]
      omega
  · rcases c3 with ⟨d3, rfl, rfl, rfl, k3⟩ | ⟨d3, x3, r3, v3, k3, k3', rfl, rfl, rfl⟩ <;>
      rcases c2 with ⟨d2, rfl, rfl, rfl, k2⟩ | ⟨d2, x2, r2, v2, k2, k2', rfl, rfl, rfl⟩ <;>
      rcases c1 with ⟨d1, rfl, rfl, rfl, k1⟩ | ⟨d1, x1, r1, v1, k1, k1', rfl, rfl, rfl⟩ <;>
      first
        | (exfalso; simp_all; done)
        | skip
    rw [k1, hk] at k2
    cases k2
    rw [k2'] at k3
    cases k3
    refine ⟨[hi, mx], ?_, ?_, fun u => ⟨rfl, rfl, rfl⟩⟩
    · rw [hk]
      exact ⟨hx (_, x, hi) (by simp), hx (_, y, mx) (by simp), trivial⟩
    · rw [hk]
      simp [ntokL]
      omega
  · rcases c3 with ⟨d3, rfl, rfl, rfl, k3⟩ | ⟨d3, x3, r3, v3, k3, k3', rfl, rfl, rfl⟩ <;>
      rcases c2 with ⟨d2, rfl, rfl, rfl, k2⟩ | ⟨d2, x2, r2, v2, k2, k2', rfl, rfl, rfl⟩ <;>
      rcases c1 with ⟨d1, rfl, rfl, rfl, k1⟩ | ⟨d1, x1, r1, v1, k1, k1', rfl, rfl, rfl⟩ <;>
      first
        | (exfalso; simp_all; done)
        | skip
    rw [hk] at k1
    cases k1
    rw [k1'] at k2
    cases k2
    rw [k2'] at k3
    cases k3
    refine ⟨[lo, hi, mx], ?_, ?_, fun u => ⟨rfl, rfl, rfl⟩⟩
    · rw [hk]
      exact ⟨hx (_, x, lo) (by simp), hx (_, y, hi) (by simp), hx (_, z, mx) (by simp), trivial⟩
    · rw [hk]
      simp [ntokL]
      omega
end Go.Proofs.YtnpnmfblcogkmaaDoor
