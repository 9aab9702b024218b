/-
  Trees of nodes as the memory of a call holds them: plain definitions and laws, no program in sight.
  'Nd' is an impl.Node with the address of its slice of kids; 'Nd.In w B n': all the kids' cells lie in w, in blocks below B.
  token.Token's String, IsOperator, Precedence: what they compute, walked once each, over a table 'tokens' that holds what its initialiser lays.
  slices.Index, slices.Contains over slices of strings, spec.Prec: walked once each.
  spec.Prec: the precedence of a text, by five rows of operators: walked once.
  The kinds of nodes, and what spec.Shaped tells of a tree: plain definitions and laws, no program in sight.
  Blocks known whole; the expression of a tree as impl.builder makes it: 'ExR w S P i n v': v is the expression of n, whose first token is number i, the tokens standing at the places P; all its blocks are of the set S.
-/
import Derived.Below
import Derived.Laws.OwnMore
import Derived.Laws.Strings
import Derived.Deep.Draws
import Derived.Test.YtjbhjbpamnoebaaGreatFmtProg
import Derived.WalkKit
import Derived.WalkSpells
import Derived.WalkLawsBesides
import Derived.Lib.Hide
import Derived.Outline
import Derived.LoopTactic
namespace Go.Proofs.YtjbhjbpamnoebaaGreatFmt
open Go.RowKit

/-- A node of the thin package, with where its kids lie. -/
structure Nd where
  kd : ByteArray
  tx : ByteArray
  ad : Option Addr
  cp : Nat
  ks : List Nd

theorem Nd.ind {P : Nd → Prop} (h : ∀ n : Nd, (∀ k ∈ n.ks, P k) → P n) : ∀ n, P n := fun n =>
  Nd.rec (motive_1 := P) (motive_2 := fun l => ∀ k ∈ l, P k) (fun kd tx ad cp ks ih => h ⟨kd, tx, ad, cp, ks⟩ ih)
    (by intro k hk; cases hk)
    (fun k ks hk hks x hx => by
      rcases List.mem_cons.1 hx with rfl | hx
      · exact hk
      · exact hks x hx) n

/-- The value of a node: three cells. -/
def Nd.cells (n : Nd) : List Value := [.string n.kd, .string n.tx, .slice n.ad n.ks.length n.cp]
def Nd.val (n : Nd) : Value := .agg n.cells.toArray

/-- The cells of an element i of a slice of nodes. -/
def ElemAt (w : World) (B : Nat) (a : Option Addr) (i : Nat) (k : Nd) : Prop :=
  ∃ b o, a = some ⟨b, o, none⟩ ∧ b < B ∧ w.cell? ⟨b, o + i * 3, none⟩ = some (.string k.kd) ∧ w.cell? ⟨b, o + i * 3 + 1, none⟩ = some (.string k.tx) ∧ w.cell? ⟨b, o + i * 3 + 2, none⟩ = some (.slice k.ad k.ks.length k.cp)

mutual
def Nd.In (w : World) (B : Nat) : Nd → Prop
  | ⟨_, _, a, c, ks⟩ => ks.length ≤ c ∧ c ≤ maxLen ∧ NdL w B a 0 ks
def NdL (w : World) (B : Nat) (a : Option Addr) : Nat → List Nd → Prop
  | _, [] => True
  | i, k :: ks => ElemAt w B a i k ∧ k.In w B ∧ NdL w B a (i + 1) ks
end

theorem NdL.at_ {w : World} {B : Nat} {a : Option Addr} : ∀ {ks : List Nd} {i : Nat}, NdL w B a i ks → ∀ (j : Nat) (k : Nd), ks[j]? = some k → ElemAt w B a (i + j) k ∧ k.In w B
  | [], _, _, j, k, hk => by simp at hk
  | x :: ks, i, h, j, k, hk => by
    obtain ⟨h1, h2, h3⟩ := h
    cases j with
    | zero => simp at hk; subst hk; exact ⟨h1, h2⟩
    | succ j =>
      have := NdL.at_ h3 j k (by simpa using hk)
      rwa [show i + (j + 1) = i + 1 + j by omega]
theorem NdL.mk_ {w : World} {B : Nat} {a : Option Addr} : ∀ {ks : List Nd} {i : Nat}, (∀ (j : Nat) (k : Nd), ks[j]? = some k → ElemAt w B a (i + j) k ∧ k.In w B) → NdL w B a i ks
  | [], _, _ => trivial
  | x :: ks, i, h => by
    have h0 := h 0 x rfl
    refine ⟨h0.1, h0.2, NdL.mk_ fun j k hk => ?_⟩
    have := h (j + 1) k (by simpa using hk)
    rwa [show i + 1 + j = i + (j + 1) by omega]
theorem Nd.In_iff {w : World} {B : Nat} {n : Nd} : n.In w B ↔ n.ks.length ≤ n.cp ∧ n.cp ≤ maxLen ∧ ∀ (j : Nat) (k : Nd), n.ks[j]? = some k → ElemAt w B n.ad j k ∧ k.In w B := by
  obtain ⟨kd, tx, a, c, ks⟩ := n
  refine ⟨fun h => ⟨h.1, h.2.1, fun j k hk => ?_⟩, fun h => ⟨h.1, h.2.1, NdL.mk_ fun j k hk => ?_⟩⟩
  · have := NdL.at_ h.2.2 j k hk
    rwa [Nat.zero_add] at this
  · rw [Nat.zero_add]
    exact h.2.2 j k hk

theorem ElemAt.keep {w w' : World} {B B' : Nat} {a : Option Addr} {i : Nat} {k : Nd} (h : ElemAt w B a i k) (hk : ∀ p : Addr, p.block < B → w'.cell? p = w.cell? p) (hB : B ≤ B') : ElemAt w' B' a i k := by
  obtain ⟨b, o, rfl, hb, h1, h2, h3⟩ := h
  exact ⟨b, o, rfl, by omega, (hk _ hb).trans h1, (hk _ hb).trans h2, (hk _ hb).trans h3⟩
theorem Nd.In.keep {w w' : World} {B B' : Nat} (hk : ∀ p : Addr, p.block < B → w'.cell? p = w.cell? p) (hB : B ≤ B') : ∀ n : Nd, n.In w B → n.In w' B' := by
  refine Nd.ind fun n ih h => ?_
  rw [Nd.In_iff] at h ⊢
  exact ⟨h.1, h.2.1, fun j k hj => ⟨(h.2.2 j k hj).1.keep hk hB, ih k (List.mem_of_getElem? hj) (h.2.2 j k hj).2⟩⟩
theorem Nd.In.below {w w' : World} {B B' : Nat} {n : Nd} (h : n.In w B) (hb : Below B w w') (hB : B ≤ B') : n.In w' B' := Nd.In.keep (fun _ hp => hb.cell hp) hB n h
theorem Nd.In.drewN {w : World} {B : Nat} {n : Nd} (h : n.In w B) (k : Nat) : n.In (w.drewN k) B := Nd.In.keep (w := w) (w' := w.drewN k) (fun _ _ => rfl) (Nat.le_refl _) n h

/- Two trees are the same: their addresses are not looked at. -/
mutual
def Nd.same : Nd → Nd → Bool
  | ⟨k, t, _, _, ks⟩, m => (k.toList == m.kd.toList) && (t.toList == m.tx.toList) && sameL ks m.ks
def sameL : List Nd → List Nd → Bool
  | [], [] => true
  | [], _ :: _ => false
  | _ :: _, [] => false
  | x :: xs, y :: ys => x.same y && sameL xs ys
end

/- How many nodes a tree has. -/
mutual
def Nd.size : Nd → Nat
  | ⟨_, _, _, _, ks⟩ => 1 + sizeL ks
def sizeL : List Nd → Nat
  | [] => 0
  | k :: ks => k.size + sizeL ks
end
end Go.Proofs.YtjbhjbpamnoebaaGreatFmt

namespace Go.Proofs.YtjbhjbpamnoebaaGreatFmt
open Go.RowKit

/-- The texts of the tokens, in the order of their numbers. -/
def tab : List (List UInt8) := [[73, 76, 76, 69, 71, 65, 76], [69, 79, 70], [67, 79, 77, 77, 69, 78, 84], [], [73, 68, 69, 78, 84], [73, 78, 84], [70, 76, 79, 65, 84], [73, 77, 65, 71], [67, 72, 65, 82], [83, 84, 82, 73, 78, 71], [], [], [43], [45], [42], [47], [37], [38], [124], [94], [60, 60], [62, 62], [38, 94], [43, 61], [45, 61], [42, 61], [47, 61], [37, 61], [38, 61], [124, 61], [94, 61], [60, 60, 61], [62, 62, 61], [38, 94, 61], [38, 38], [124, 124], [60, 45], [43, 43], [45, 45], [61, 61], [60], [62], [61], [33], [33, 61], [60, 61], [62, 61], [58, 61], [46, 46, 46], [40], [91], [123], [44], [46], [41], [93], [125], [59], [58], [], [], [98, 114, 101, 97, 107], [99, 97, 115, 101], [99, 104, 97, 110], [99, 111, 110, 115, 116], [99, 111, 110, 116, 105, 110, 117, 101], [100, 101, 102, 97, 117, 108, 116], [100, 101, 102, 101, 114], [101, 108, 115, 101], [102, 97, 108, 108, 116, 104, 114, 111, 117, 103, 104], [102, 111, 114], [102, 117, 110, 99], [103, 111], [103, 111, 116, 111], [105, 102], [105, 109, 112, 111, 114, 116], [105, 110, 116, 101, 114, 102, 97, 99, 101], [109, 97, 112], [112, 97, 99, 107, 97, 103, 101], [114, 97, 110, 103, 101], [114, 101, 116, 117, 114, 110], [115, 101, 108, 101, 99, 116], [115, 116, 114, 117, 99, 116], [115, 119, 105, 116, 99, 104], [116, 121, 112, 101], [118, 97, 114], [], [], [126]]
def tk (i : Nat) : ByteArray := ⟨(tab.getD i []).toArray⟩
theorem tk_toList (i : Nat) : (tk i).toList = tab.getD i [] := ByteArray.toList_mk _

/-- The variable 'tokens' holds its table. -/
def TokTab (w : World) : Prop := ∀ i, i < 89 → w.cell? ⟨0, i, none⟩ = some (.string (tk i))
theorem TokTab.keep {w w' : World} (h : TokTab w) (hk : ∀ p : Addr, p.block < w.heap.size → w'.cell? p = w.cell? p) : TokTab w' := fun i hi => by
  have h1 := h i hi
  exact (hk _ (block_lt_of_cell h1)).trans h1
theorem TokTab.below {w w' : World} (h : TokTab w) (hb : Below w.heap.size w w') : TokTab w' := h.keep fun _ hp => hb.cell hp

/-- String of a token that has a text in the table. -/
theorem String_tab (i : Nat) (hi : i < 89) (hne : (tab.getD i []).isEmpty = false) (w : World) (hT : TokTab w) :
    Calls Tryz.prog 62 #[.int .i64 i] w fun e w' => e = .returned (.string (tk i)) ∧ w = w' := by
  have hc := hT i hi
  clear hT
  have h1 : (0 : Int) ≤ (i : Int) := by omega
  have h2 : (i : Int) < 89 := by omega
  have h3 : (tk i).toList.isEmpty = false := by rw [tk_toList]; exact hne
  clear hne
  go_enter Tryz.func62, Tryz.ntmps62
  go_wp2
  go_ret
  exact ⟨rfl, rfl⟩
end Go.Proofs.YtjbhjbpamnoebaaGreatFmt

namespace Go.Proofs.YtjbhjbpamnoebaaGreatFmt
open Go.RowKit

/-- A text is one of some. -/
def has (zs : List ByteArray) (s : ByteArray) : Bool := zs.any fun z => s.toList == z.toList
/-- A slice of strings: nil and empty ones too. -/
def StrsAt (w : World) (a : Option Addr) (zs : List ByteArray) : Prop :=
  zs.length ≤ maxLen ∧ ∀ i (h : i < zs.length), ∃ b o, a = some ⟨b, o, none⟩ ∧ w.cell? ⟨b, o + i, none⟩ = some (.string zs[i])

def IdxIs (w : World) (zs : List ByteArray) (s : ByteArray) (e : Ending) (w' : World) : Prop := ∃ r : Int, e = .returned (.int .i64 r) ∧ w = w' ∧ ((r = -1 ∧ has zs s = false) ∨ (0 ≤ r ∧ has zs s = true))

theorem Index_any (a : Option Addr) (c : Nat) (zs : List ByteArray) (s : ByteArray) (w : World) (h : StrsAt w a zs) (n : Nat) (hn : zs.length = n) :
    Calls Tryz.prog 66 #[.slice a n c, .string s] w (IdxIs w zs s) := by
  subst hn
  have hm := h.1
  unfold maxLen at hm
  have H := Lib.hid h.2
  clear h
  go_enter Tryz.func66, Tryz.ntmps66
  go_wp2
  go_loop [5, 8] (fun _ i => ∃ k : Nat, k ≤ zs.length ∧ i = .int .i64 k ∧ has (zs.take k) s = false) (fun _ i => zs.length - (intOf i).toNat)
  case atStart => exact ⟨0, Nat.zero_le _, rfl, rfl⟩
  case round =>
    obtain ⟨k, hk, rfl, hno⟩ := hrel
    have HN := Lib.hid hno
    clear hno
    by_cases hlt : k < zs.length
    · obtain ⟨b, o, rfl, hc⟩ := H.out k hlt
      by_cases he : (s.toList == zs[k].toList) = true
      · go_wp2
        go_ret
        refine ⟨k, rfl, rfl, .inr ⟨by omega, ?_⟩⟩
        unfold has
        rw [List.any_eq_true]
        exact ⟨zs[k], List.getElem_mem hlt, he⟩
      · have he' : (s.toList == zs[k].toList) = false := by simpa using he
        clear he
        go_wp2
        go_round
        case rel =>
          refine ⟨k + 1, by omega, by go_num, ?_⟩
          have h1 := HN.out
          unfold has at h1 ⊢
          rw [List.take_succ_eq_append_getElem hlt, List.any_append, h1]
          simpa using he'
        case measure => simp [intOf]; omega
    · go_wp2
      go_ret
      refine ⟨-1, rfl, rfl, .inl ⟨rfl, ?_⟩⟩
      have h1 := HN.out
      rwa [List.take_of_length_le (by omega)] at h1

theorem Contains_any (a : Option Addr) (c : Nat) (zs : List ByteArray) (s : ByteArray) (w : World) (h : StrsAt w a zs) (n : Nat) (hn : zs.length = n) :
    Calls Tryz.prog 53 #[.slice a n c, .string s] w fun e w' => e = .returned (.bool (has zs s)) ∧ w = w' := by
  have H := Lib.hid h
  clear h
  subst hn
  go_enter Tryz.func53, Tryz.ntmps53
  go_wp2_with (go_at_call 66; refine (Index_any _ _ _ _ _ H.out _ rfl).mono ?_; rintro e w' ⟨r, rfl, rfl, hr⟩)
  go_ret
  rcases hr with ⟨rfl, hr⟩ | ⟨h0, hr⟩
  · rw [hr]
    exact ⟨rfl, rfl⟩
  · rw [hr]
    simp [h0]
end Go.Proofs.YtjbhjbpamnoebaaGreatFmt

namespace Go.Proofs.YtjbhjbpamnoebaaGreatFmt
open Go.RowKit

def opRows : List (List ByteArray) := [[⟨#[124, 124]⟩], [⟨#[38, 38]⟩], [⟨#[61, 61]⟩, ⟨#[33, 61]⟩, ⟨#[60]⟩, ⟨#[60, 61]⟩, ⟨#[62]⟩, ⟨#[62, 61]⟩], [⟨#[43]⟩, ⟨#[45]⟩, ⟨#[124]⟩, ⟨#[94]⟩], [⟨#[42]⟩, ⟨#[47]⟩, ⟨#[37]⟩, ⟨#[60, 60]⟩, ⟨#[62, 62]⟩, ⟨#[38]⟩, ⟨#[38, 94]⟩]]
/-- The precedence of a text: the number of the first row that has it, from 1 on; 0 if none has. -/
def precS (s : ByteArray) : Nat := if has (opRows.getD 0 []) s then 1 else if has (opRows.getD 1 []) s then 2 else if has (opRows.getD 2 []) s then 3 else if has (opRows.getD 3 []) s then 4 else if has (opRows.getD 4 []) s then 5 else 0

theorem precS_at (s : ByteArray) (k : Nat) (hk : k < 5) (hno : ∀ j, j < k → has (opRows.getD j []) s = false) (hh : has (opRows.getD k []) s = true) : precS s = k + 1 := by
  have hk5 : k = 0 ∨ k = 1 ∨ k = 2 ∨ k = 3 ∨ k = 4 := by omega
  unfold precS
  rcases hk5 with rfl | rfl | rfl | rfl | rfl
  · rw [hh]; rfl
  · rw [hno 0 (by omega), hh]; rfl
  · rw [hno 0 (by omega), hno 1 (by omega), hh]; rfl
  · rw [hno 0 (by omega), hno 1 (by omega), hno 2 (by omega), hh]; rfl
  · rw [hno 0 (by omega), hno 1 (by omega), hno 2 (by omega), hno 3 (by omega), hh]; rfl
theorem precS_none (s : ByteArray) (hno : ∀ j, j < 5 → has (opRows.getD j []) s = false) : precS s = 0 := by
  unfold precS
  rw [hno 0 (by omega), hno 1 (by omega), hno 2 (by omega), hno 3 (by omega), hno 4 (by omega)]; rfl

set_option maxHeartbeats 1000000 in
theorem Prec_any (s : ByteArray) (w : World) :
    Calls Tryz.prog 54 #[.string s] w fun e w' => e = .returned (.int .i64 (precS s)) ∧ Below w.heap.size w w' := by
  go_enter Tryz.func54, Tryz.ntmps54
  go_wp2
  go_loop [3, 4, 12] (fun _ _ i => ∃ k : Nat, k ≤ 5 ∧ i = .int .i64 k ∧ ∀ j, j < k → has (opRows.getD j []) s = false) (fun _ _ i => 5 - (intOf i).toNat)
  case atStart => exact ⟨0, by omega, rfl, fun j hj => absurd hj (by omega)⟩
  case round =>
    obtain ⟨k, hk, rfl, hno⟩ := hrel
    have HN := Lib.hid hno
    clear hno
    have hk5 : k = 0 ∨ k = 1 ∨ k = 2 ∨ k = 3 ∨ k = 4 ∨ k = 5 := by omega
    clear hk
    rcases hk5 with rfl | rfl | rfl | rfl | rfl | rfl
    · cases hh : has (opRows.getD 0 []) s
      · have HH := Lib.hid hh
        clear hh
        go_wp2_with (go_at_call 53; refine (Contains_any _ _ (opRows.getD 0 []) _ _ ?c0 _ rfl).mono ?_; rotate_left; rw [HH.out]; rintro e w' ⟨rfl, rfl⟩)
        case c0 => exact ⟨by decide, fun i hi => by rcases i with _ | _ | _ | _ | _ | _ | _ | i <;> first | (simp [opRows] at hi; done) | (exfalso; simp [opRows] at hi; omega) | (refine ⟨_, _, rfl, ?_⟩; go_simp; rfl)⟩
        go_round
        case rel =>
          refine ⟨1, by omega, by go_num, fun j hj => ?_⟩
          by_cases hj' : j = 0
          · rw [hj']; exact HH.out
          · exact HN.out j (by omega)
        case measure => simp [intOf]
      · have HH := Lib.hid hh
        clear hh
        go_wp2_with (go_at_call 53; refine (Contains_any _ _ (opRows.getD 0 []) _ _ ?c0 _ rfl).mono ?_; rotate_left; rw [HH.out]; rintro e w' ⟨rfl, rfl⟩)
        case c0 => exact ⟨by decide, fun i hi => by rcases i with _ | _ | _ | _ | _ | _ | _ | i <;> first | (simp [opRows] at hi; done) | (exfalso; simp [opRows] at hi; omega) | (refine ⟨_, _, rfl, ?_⟩; go_simp; rfl)⟩
        go_ret
        exact ⟨by rw [precS_at s 0 (by omega) HN.out HH.out]; rfl, by repeat (first | exact Below.refl _ _ | (refine Below.alloc ?_ (by simp; try omega) _))⟩
    · cases hh : has (opRows.getD 1 []) s
      · have HH := Lib.hid hh
        clear hh
        go_wp2_with (go_at_call 53; refine (Contains_any _ _ (opRows.getD 1 []) _ _ ?c0 _ rfl).mono ?_; rotate_left; rw [HH.out]; rintro e w' ⟨rfl, rfl⟩)
        case c0 => exact ⟨by decide, fun i hi => by rcases i with _ | _ | _ | _ | _ | _ | _ | i <;> first | (simp [opRows] at hi; done) | (exfalso; simp [opRows] at hi; omega) | (refine ⟨_, _, rfl, ?_⟩; go_simp; rfl)⟩
        go_round
        case rel =>
          refine ⟨2, by omega, by go_num, fun j hj => ?_⟩
          by_cases hj' : j = 1
          · rw [hj']; exact HH.out
          · exact HN.out j (by omega)
        case measure => simp [intOf]
      · have HH := Lib.hid hh
        clear hh
        go_wp2_with (go_at_call 53; refine (Contains_any _ _ (opRows.getD 1 []) _ _ ?c0 _ rfl).mono ?_; rotate_left; rw [HH.out]; rintro e w' ⟨rfl, rfl⟩)
        case c0 => exact ⟨by decide, fun i hi => by rcases i with _ | _ | _ | _ | _ | _ | _ | i <;> first | (simp [opRows] at hi; done) | (exfalso; simp [opRows] at hi; omega) | (refine ⟨_, _, rfl, ?_⟩; go_simp; rfl)⟩
        go_ret
        exact ⟨by rw [precS_at s 1 (by omega) HN.out HH.out]; rfl, by repeat (first | exact Below.refl _ _ | (refine Below.alloc ?_ (by simp; try omega) _))⟩
    · cases hh : has (opRows.getD 2 []) s
      · have HH := Lib.hid hh
        clear hh
        go_wp2_with (go_at_call 53; refine (Contains_any _ _ (opRows.getD 2 []) _ _ ?c0 _ rfl).mono ?_; rotate_left; rw [HH.out]; rintro e w' ⟨rfl, rfl⟩)
        case c0 => exact ⟨by decide, fun i hi => by rcases i with _ | _ | _ | _ | _ | _ | _ | i <;> first | (simp [opRows] at hi; done) | (exfalso; simp [opRows] at hi; omega) | (refine ⟨_, _, rfl, ?_⟩; go_simp; rfl)⟩
        go_round
        case rel =>
          refine ⟨3, by omega, by go_num, fun j hj => ?_⟩
          by_cases hj' : j = 2
          · rw [hj']; exact HH.out
          · exact HN.out j (by omega)
        case measure => simp [intOf]
      · have HH := Lib.hid hh
        clear hh
        go_wp2_with (go_at_call 53; refine (Contains_any _ _ (opRows.getD 2 []) _ _ ?c0 _ rfl).mono ?_; rotate_left; rw [HH.out]; rintro e w' ⟨rfl, rfl⟩)
        case c0 => exact ⟨by decide, fun i hi => by rcases i with _ | _ | _ | _ | _ | _ | _ | i <;> first | (simp [opRows] at hi; done) | (exfalso; simp [opRows] at hi; omega) | (refine ⟨_, _, rfl, ?_⟩; go_simp; rfl)⟩
        go_ret
        exact ⟨by rw [precS_at s 2 (by omega) HN.out HH.out]; rfl, by repeat (first | exact Below.refl _ _ | (refine Below.alloc ?_ (by simp; try omega) _))⟩
    · cases hh : has (opRows.getD 3 []) s
      · have HH := Lib.hid hh
        clear hh
        go_wp2_with (go_at_call 53; refine (Contains_any _ _ (opRows.getD 3 []) _ _ ?c0 _ rfl).mono ?_; rotate_left; rw [HH.out]; rintro e w' ⟨rfl, rfl⟩)
        case c0 => exact ⟨by decide, fun i hi => by rcases i with _ | _ | _ | _ | _ | _ | _ | i <;> first | (simp [opRows] at hi; done) | (exfalso; simp [opRows] at hi; omega) | (refine ⟨_, _, rfl, ?_⟩; go_simp; rfl)⟩
        go_round
        case rel =>
          refine ⟨4, by omega, by go_num, fun j hj => ?_⟩
          by_cases hj' : j = 3
          · rw [hj']; exact HH.out
          · exact HN.out j (by omega)
        case measure => simp [intOf]
      · have HH := Lib.hid hh
        clear hh
        go_wp2_with (go_at_call 53; refine (Contains_any _ _ (opRows.getD 3 []) _ _ ?c0 _ rfl).mono ?_; rotate_left; rw [HH.out]; rintro e w' ⟨rfl, rfl⟩)
        case c0 => exact ⟨by decide, fun i hi => by rcases i with _ | _ | _ | _ | _ | _ | _ | i <;> first | (simp [opRows] at hi; done) | (exfalso; simp [opRows] at hi; omega) | (refine ⟨_, _, rfl, ?_⟩; go_simp; rfl)⟩
        go_ret
        exact ⟨by rw [precS_at s 3 (by omega) HN.out HH.out]; rfl, by repeat (first | exact Below.refl _ _ | (refine Below.alloc ?_ (by simp; try omega) _))⟩
    · cases hh : has (opRows.getD 4 []) s
      · have HH := Lib.hid hh
        clear hh
        go_wp2_with (go_at_call 53; refine (Contains_any _ _ (opRows.getD 4 []) _ _ ?c0 _ rfl).mono ?_; rotate_left; rw [HH.out]; rintro e w' ⟨rfl, rfl⟩)
        case c0 => exact ⟨by decide, fun i hi => by rcases i with _ | _ | _ | _ | _ | _ | _ | i <;> first | (simp [opRows] at hi; done) | (exfalso; simp [opRows] at hi; omega) | (refine ⟨_, _, rfl, ?_⟩; go_simp; rfl)⟩
        go_round
        case rel =>
          refine ⟨5, by omega, by go_num, fun j hj => ?_⟩
          by_cases hj' : j = 4
          · rw [hj']; exact HH.out
          · exact HN.out j (by omega)
        case measure => simp [intOf]
      · have HH := Lib.hid hh
        clear hh
        go_wp2_with (go_at_call 53; refine (Contains_any _ _ (opRows.getD 4 []) _ _ ?c0 _ rfl).mono ?_; rotate_left; rw [HH.out]; rintro e w' ⟨rfl, rfl⟩)
        case c0 => exact ⟨by decide, fun i hi => by rcases i with _ | _ | _ | _ | _ | _ | _ | i <;> first | (simp [opRows] at hi; done) | (exfalso; simp [opRows] at hi; omega) | (refine ⟨_, _, rfl, ?_⟩; go_simp; rfl)⟩
        go_ret
        exact ⟨by rw [precS_at s 4 (by omega) HN.out HH.out]; rfl, by repeat (first | exact Below.refl _ _ | (refine Below.alloc ?_ (by simp; try omega) _))⟩
    · go_wp2
      go_ret
      exact ⟨by rw [precS_none s HN.out]; rfl, by repeat (first | exact Below.refl _ _ | (refine Below.alloc ?_ (by simp; try omega) _))⟩
end Go.Proofs.YtjbhjbpamnoebaaGreatFmt

namespace Go.Proofs.YtjbhjbpamnoebaaGreatFmt
open Go.RowKit

def kName : List UInt8 := [110, 97, 109, 101]
def kLiteral : List UInt8 := [108, 105, 116, 101, 114, 97, 108]
def kParen : List UInt8 := [112, 97, 114, 101, 110]
def kStar : List UInt8 := [115, 116, 97, 114]
def kUnary : List UInt8 := [117, 110, 97, 114, 121]
def kBinary : List UInt8 := [98, 105, 110, 97, 114, 121]
def kSelect : List UInt8 := [115, 101, 108, 101, 99, 116]
def kIndex : List UInt8 := [105, 110, 100, 101, 120]
def kAssert : List UInt8 := [97, 115, 115, 101, 114, 116]
def kKey : List UInt8 := [107, 101, 121]
def kMap : List UInt8 := [109, 97, 112]
def kSlice : List UInt8 := [115, 108, 105, 99, 101]
def kCall : List UInt8 := [99, 97, 108, 108]
def kComposite : List UInt8 := [99, 111, 109, 112, 111, 115, 105, 116, 101]
def kArray : List UInt8 := [97, 114, 114, 97, 121]
/-- The kinds, by number. -/
def kindList : List (List UInt8) := [kName, kLiteral, kParen, kStar, kUnary, kBinary, kSelect, kIndex, kAssert, kKey, kMap, kSlice, kCall, kComposite, kArray]
def kcode (b : ByteArray) : Nat := kindList.idxOf b.data.toList
theorem kcode_at {b : ByteArray} {c : Nat} (h : kcode b = c) (hc : c < 15) : b.data.toList = kindList.getD c [] := by
  subst h
  unfold kcode at hc ⊢
  have hl : kindList.idxOf b.data.toList < kindList.length := hc
  rw [List.getD_eq_getElem?_getD, List.getElem?_eq_getElem hl, Option.getD_some]
  exact (List.getElem_idxOf hl).symm
theorem bytes_ext {a b : ByteArray} (h : a.data.toList = b.data.toList) : a = b := by
  obtain ⟨⟨a⟩⟩ := a
  obtain ⟨⟨b⟩⟩ := b
  simp at h
  rw [h]
theorem kind_eq {b : ByteArray} {c : Nat} (h : kcode b = c) (hc : c < 15) (k : ByteArray) (hk : k.data.toList = kindList.getD c []) : b = k := bytes_ext ((kcode_at h hc).trans hk.symm)

/-- How many ends the text of a slice tells. -/
def slN (l : List UInt8) : Option Nat := if l = [] then some 0 else if l = [108] then some 1 else if l = [104] then some 1 else if l = [108, 104] then some 2 else if l = [104, 109, 115] then some 2 else if l = [108, 104, 109, 115] then some 3 else none
def wellSl (tx : ByteArray) (k : Nat) : Bool := match slN tx.data.toList with
  | some m => k == m + 1
  | none => false
def unOps : List ByteArray := [⟨#[43]⟩, ⟨#[45]⟩, ⟨#[33]⟩, ⟨#[94]⟩, ⟨#[38]⟩]

/-- spec.many, of a kind's number, a text, and how many nodes are below. -/
def manyC (c : Nat) (tx : ByteArray) (k : Nat) : Bool :=
  let plain := tx.data.toList.isEmpty
  if c ≤ 1 then k == 0
  else if c ≤ 3 then plain && k == 1
  else if c = 4 then has unOps tx && k == 1
  else if c = 5 then decide (0 < precS tx) && k == 2
  else if c = 6 then k == 1
  else if c ≤ 10 then plain && k == 2
  else if c = 11 then wellSl tx k
  else if c = 12 then decide (0 < k) && (plain || ((tx.data.toList == [46, 46, 46]) && decide (1 < k)))
  else if c = 13 then plain || ((tx.data.toList == [116, 121, 112, 101]) && decide (0 < k))
  else if c = 14 then plain && (k == 1 || k == 2)
  else false
def Nd.manyB (n : Nd) : Bool := manyC (kcode n.kd) n.tx n.ks.length

mutual
def Nd.shapedB : Nd → Bool
  | ⟨k, t, _, _, ks⟩ => shapedL ks && manyC (kcode k) t ks.length
def shapedL : List Nd → Bool
  | [] => true
  | k :: ks => k.shapedB && shapedL ks
end
mutual
def Nd.shortB : Nd → Bool
  | ⟨_, t, _, _, ks⟩ => decide (t.size ≤ 1048576) && shortL ks
def shortL : List Nd → Bool
  | [] => true
  | k :: ks => k.shortB && shortL ks
end
/- spec.count: whether there are few nodes, and how many are left. -/
mutual
def Nd.cnt : Nd → Int → Nat → Bool × Int
  | ⟨_, _, _, _, ks⟩, l, d => if l - 1 < 0 ∨ 30 < d ∨ l - 1 < ks.length then (false, l - 1) else cntL ks (l - 1) (d + 1)
def cntL : List Nd → Int → Nat → Bool × Int
  | [], l, _ => (true, l)
  | k :: ks, l, d => if (k.cnt l d).1 then cntL ks (k.cnt l d).2 d else (false, (k.cnt l d).2)
end
theorem shapedL_all (ks : List Nd) : shapedL ks = ks.all Nd.shapedB := by
  induction ks with
  | nil => rfl
  | cons k ks ih => simp [shapedL, ih]
theorem shortL_all (ks : List Nd) : shortL ks = ks.all Nd.shortB := by
  induction ks with
  | nil => rfl
  | cons k ks ih => simp [shortL, ih]
theorem Nd.shapedB_eq (n : Nd) : n.shapedB = (n.ks.all Nd.shapedB && n.manyB) := by
  obtain ⟨k, t, a, c, ks⟩ := n
  simp [Nd.shapedB, shapedL_all, Nd.manyB]
theorem Nd.shortB_eq (n : Nd) : n.shortB = (decide (n.tx.size ≤ 1048576) && n.ks.all Nd.shortB) := by
  obtain ⟨k, t, a, c, ks⟩ := n
  simp [Nd.shortB, shortL_all]
theorem Nd.size_eq (n : Nd) : n.size = 1 + sizeL n.ks := by
  obtain ⟨k, t, a, c, ks⟩ := n
  simp [Nd.size]

/-- What spec.Shaped gives. -/
def Nd.okB (n : Nd) : Bool := (n.cnt 400 0).1 && n.shortB && n.shapedB
theorem cntL_spec : ∀ (ks : List Nd) (l : Int) (d : Nat), (∀ k ∈ ks, ∀ (l : Int) (d : Nat), (k.cnt l d).1 = true → (k.cnt l d).2 = l - k.size ∧ 0 ≤ (k.cnt l d).2) → 0 ≤ l → (cntL ks l d).1 = true → (cntL ks l d).2 = l - sizeL ks ∧ 0 ≤ (cntL ks l d).2
  | [], l, d, _, h0, _ => by simp [cntL, sizeL]; exact h0
  | k :: ks, l, d, hk, h0, h => by
    rw [cntL] at h ⊢
    by_cases hc : (k.cnt l d).1 = true
    · rw [if_pos hc] at h ⊢
      have h1 := hk k (List.mem_cons_self ..) l d hc
      have h2 := cntL_spec ks _ d (fun x hx => hk x (List.mem_cons_of_mem _ hx)) h1.2 h
      rw [sizeL]
      omega
    · rw [if_neg hc] at h
      cases h
theorem Nd.cnt_spec : ∀ (n : Nd) (l : Int) (d : Nat), (n.cnt l d).1 = true → (n.cnt l d).2 = l - n.size ∧ 0 ≤ (n.cnt l d).2 := by
  refine Nd.ind fun n ih l d h => ?_
  obtain ⟨kd, tx, ad, cp, ks⟩ := n
  rw [Nd.cnt] at h ⊢
  rw [Nd.size]
  split at h
  · cases h
  · rename_i hc
    rw [if_neg hc]
    have := cntL_spec ks (l - 1) (d + 1) ih (by omega) h
    omega
theorem Nd.okB_size {n : Nd} (h : n.okB = true) : n.size ≤ 400 := by
  simp only [Nd.okB, Bool.and_eq_true] at h
  have := n.cnt_spec 400 0 h.1.1
  omega
end Go.Proofs.YtjbhjbpamnoebaaGreatFmt

namespace Go.Proofs.YtjbhjbpamnoebaaGreatFmt
open Go.RowKit

/-! ### A block known whole -/
def Blk (w : World) (g : Nat) (t : TypeId) (cs : Array Value) : Prop := w.heap[g]? = some (.cells cs t (0, 0))
section
variable {w w' : World} {g : Nat} {t : TypeId} {cs : Array Value}
theorem Blk.lt (h : Blk w g t cs) : g < w.heap.size := by
  unfold Blk at h
  exact (Array.getElem?_eq_some_iff.1 h).1
theorem Blk.cell (h : Blk w g t cs) (i : Nat) : w.cell? ⟨g, i, none⟩ = cs[i]? := cell_of_row w g i cs t (0, 0) h
theorem Blk.frozen (h : Blk w g t cs) (i : Nat) : w.frozen? ⟨g, i, none⟩ = false := frozen_of_row w g i cs t h
theorem Blk.new (w : World) (t : TypeId) (cs : Array Value) : Blk (w.alloc (.cells cs t)) w.heap.size t cs := heap_alloc_new w _
theorem Blk.keep (h : Blk w g t cs) (he : w'.heap[g]? = w.heap[g]?) : Blk w' g t cs := he.trans h
theorem Blk.alloc (h : Blk w g t cs) (o : Obj) : Blk (w.alloc o) g t cs := h.keep (Below.heap_alloc w o g h.lt)
theorem Blk.set_ (h : Blk w g t cs) (i : Nat) (u : Value) : Blk (w.setCell ⟨g, i, none⟩ u) g t (cs.setIfInBounds i u) := by
  unfold Blk at h ⊢
  simp [World.setCell, Array.getElem?_modify, h]
theorem Blk.far (h : Blk w g t cs) {p : Addr} (hp : g ≠ p.block) (u : Value) : Blk (w.setCell p u) g t cs := h.keep (Below.heap_setCell w p u g hp)
theorem Blk.below {B : Nat} (h : Blk w g t cs) (hb : Below B w w') (hg : g < B) : Blk w' g t cs := h.keep (hb.block g hg)
theorem Blk.grown {row : Option Nat} (h : Blk w g t cs) (hb : w.grownBy w' row) (hg : some g ≠ row) : Blk w' g t cs := h.keep (hb.block g h.lt hg)
theorem Blk.drew (h : Blk w g t cs) : Blk w.drew g t cs := h
end

/-! ### Tokens, and where those of the nodes below begin -/
/-- A node's own tokens. -/
def ownTok (c : Nat) (tx : ByteArray) (k : Nat) : Nat :=
  if c ≤ 1 then 1
  else if c = 2 then 2
  else if c ≤ 5 then 1
  else if c ≤ 7 then 2
  else if c = 8 then 3
  else if c = 9 then 1
  else if c = 10 then 3
  else if c = 11 then (if tx.data.toList.contains 115 then 4 else 3)
  else if c = 12 then 2 + (k - 2) + (if tx.data.toList.isEmpty then 0 else 1)
  else if c = 13 then 2 + ((if tx.data.toList.isEmpty then k else k - 1) - 1)
  else 2
mutual
def Nd.ntok : Nd → Nat
  | ⟨kd, tx, _, _, ks⟩ => ownTok (kcode kd) tx ks.length + ntokL ks
def ntokL : List Nd → Nat
  | [] => 0
  | k :: ks => k.ntok + ntokL ks
end
/-- Where nodes with commas between begin. -/
def commas : Nat → List Nat → List Nat
  | _, [] => []
  | s, n :: ns => s :: commas (s + n + 1) ns
/-- Where the ends of a slice begin, the first token behind the bracket being number j. -/
def endStarts (l : List UInt8) (j : Nat) (ns : List Nat) : List Nat :=
  if l = [108] then [j]
  else if l = [104] then [j + 1]
  else if l = [108, 104] then [j, j + ns.getD 0 0 + 1]
  else if l = [104, 109, 115] then [j + 1, j + 1 + ns.getD 0 0 + 1]
  else if l = [108, 104, 109, 115] then [j, j + ns.getD 0 0 + 1, j + ns.getD 0 0 + 1 + ns.getD 1 0 + 1]
  else []
/-- Where the nodes below begin. -/
def starts (c : Nat) (tx : ByteArray) (ns : List Nat) (i : Nat) : List Nat :=
  if c ≤ 1 then []
  else if c ≤ 4 then [i + 1]
  else if c = 5 then [i, i + ns.getD 0 0 + 1]
  else if c = 6 then [i]
  else if c = 7 then [i, i + ns.getD 0 0 + 1]
  else if c = 8 then [i, i + ns.getD 0 0 + 2]
  else if c = 9 then [i, i + ns.getD 0 0 + 1]
  else if c = 10 then [i + 2, i + 3 + ns.getD 0 0]
  else if c = 11 then i :: endStarts tx.data.toList (i + ns.getD 0 0 + 1) (ns.drop 1)
  else if c = 12 then i :: commas (i + ns.getD 0 0 + 1) (ns.drop 1)
  else if c = 13 then (if tx.data.toList.isEmpty then commas (i + 1) ns else i :: commas (i + ns.getD 0 0 + 1) (ns.drop 1))
  else (if ns.length = 2 then [i + 1, i + 1 + ns.getD 0 0 + 1] else [i + 2])

/-- The number of an operator. -/
def opTexts : List (List UInt8) := (tab.drop 12).take 47
def opNo (tx : ByteArray) : Nat := 12 + opTexts.idxOf tx.data.toList

/-- A slice of expressions, of the builder's own make. -/
def SlAt (w : World) (S : Nat → Prop) (sv : Value) (vs : List Value) : Prop :=
  (vs = [] ∧ sv = .slice none 0 0) ∨
  ∃ g cap cs, sv = .slice (some ⟨g, 0, none⟩) vs.length cap ∧ S g ∧ Blk w g 44 cs ∧ 0 < vs.length ∧ vs.length ≤ cap ∧ cap ≤ maxLen ∧ cs.toList.take vs.length = vs
def ptr (t : TypeId) (b : Nat) : Value := .iface t (.pointer (some ⟨b, 0, none⟩))
def int (x : Int) : Value := .int .i64 x
def v0 (vs : List Value) (j : Nat) : Value := vs.getD j .nilIface
/-- The three ends of a slice: those that are there. -/
def lowV (l : List UInt8) (vs : List Value) : Value := if l.contains 108 then v0 vs 1 else .nilIface
def highV (l : List UInt8) (vs : List Value) : Value := if l.contains 104 then (if l.contains 108 then v0 vs 2 else v0 vs 1) else .nilIface
def maxV (l : List UInt8) (vs : List Value) : Value := if l.contains 109 then (if l.contains 108 then v0 vs 3 else v0 vs 2) else .nilIface

/-- The block of a node: its kind's number, its text, how many tokens the nodes below have, its first token's number, how many tokens it has, and the expressions below it. -/
def NodeAt (w : World) (S : Nat → Prop) (P : Nat → Int) (c : Nat) (tx : ByteArray) (ns : List Nat) (i tot : Nat) (vs : List Value) (v : Value) : Prop :=
  ∃ b, S b ∧ match c with
    | 0 => v = ptr 80 b ∧ Blk w b 273 #[int (P i), .string tx, .pointer none]
    | 1 => v = ptr 76 b ∧ Blk w b 269 #[int (P i), int (P i + tx.size), int 5, .string tx]
    | 2 => v = ptr 100 b ∧ Blk w b 102 #[int (P i), v0 vs 0, int (P (i + tot - 1))]
    | 3 => v = ptr 121 b ∧ Blk w b 123 #[int (P i), v0 vs 0]
    | 4 => v = ptr 124 b ∧ Blk w b 127 #[int (P i), int (opNo tx), v0 vs 0]
    | 5 => v = ptr 128 b ∧ Blk w b 130 #[v0 vs 0, int (P (i + ns.getD 0 0)), int (opNo tx), v0 vs 1]
    | 6 => v = ptr 103 b ∧ ∃ b2, S b2 ∧ Blk w b 105 #[v0 vs 0, .pointer (some ⟨b2, 0, none⟩)] ∧ Blk w b2 273 #[int (P (i + ns.getD 0 0 + 1)), .string tx, .pointer none]
    | 7 => v = ptr 106 b ∧ Blk w b 108 #[v0 vs 0, int (P (i + ns.getD 0 0)), v0 vs 1, int (P (i + tot - 1))]
    | 8 => v = ptr 115 b ∧ Blk w b 117 #[v0 vs 0, int (P (i + ns.getD 0 0 + 1)), v0 vs 1, int (P (i + tot - 1))]
    | 9 => v = ptr 131 b ∧ Blk w b 133 #[v0 vs 0, int (P (i + ns.getD 0 0)), v0 vs 1]
    | 10 => v = ptr 145 b ∧ Blk w b 147 #[int (P i), v0 vs 0, v0 vs 1]
    | 11 => v = ptr 112 b ∧ Blk w b 114 #[v0 vs 0, int (P (i + ns.getD 0 0)), lowV tx.data.toList vs, highV tx.data.toList vs, maxV tx.data.toList vs, .bool (tx.data.toList.contains 115), int (P (i + tot - 1))]
    | 12 => v = ptr 118 b ∧ ∃ sv, SlAt w S sv (vs.drop 1) ∧ Blk w b 120 #[v0 vs 0, int (P (i + ns.getD 0 0)), sv, int (if tx.data.toList.isEmpty then 0 else P (i + tot - 2)), int (P (i + tot - 1))]
    | 13 => v = ptr 95 b ∧ ∃ sv, SlAt w S sv (if tx.data.toList.isEmpty then vs else vs.drop 1) ∧ Blk w b 98 #[if tx.data.toList.isEmpty then .nilIface else v0 vs 0, int (P (if tx.data.toList.isEmpty then i else i + ns.getD 0 0)), sv, int (P (i + tot - 1)), .bool false]
    | 14 => v = ptr 134 b ∧ Blk w b 136 #[int (P i), if ns.length = 2 then v0 vs 0 else .nilIface, if ns.length = 2 then v0 vs 1 else v0 vs 0]
    | _ => False

mutual
def ExR (w : World) (S : Nat → Prop) (P : Nat → Int) : Nat → Nd → Value → Prop
  | i, ⟨kd, tx, _, _, ks⟩, v => ∃ vs : List Value, ExL w S P (starts (kcode kd) tx (ks.map Nd.ntok) i) ks vs ∧ NodeAt w S P (kcode kd) tx (ks.map Nd.ntok) i (ownTok (kcode kd) tx ks.length + ntokL ks) vs v
def ExL (w : World) (S : Nat → Prop) (P : Nat → Int) : List Nat → List Nd → List Value → Prop
  | [], [], [] => True
  | i :: is, k :: ks, v :: vs => ExR w S P i k v ∧ ExL w S P is ks vs
  | _, _, _ => False
end

section
variable {w w' : World} {S S' : Nat → Prop} {P : Nat → Int}
theorem SlAt.keep {sv : Value} {vs : List Value} (h : SlAt w S sv vs) (hk : ∀ b, S b → w'.heap[b]? = w.heap[b]?) (h1 : ∀ b, S b → S' b) : SlAt w' S' sv vs := by
  rcases h with h | ⟨g, cap, cs, rfl, hg, hb, h0, hc, hm, ht⟩
  · exact .inl h
  · exact .inr ⟨g, cap, cs, rfl, h1 g hg, hb.keep (hk g hg), h0, hc, hm, ht⟩
theorem NodeAt.keep {c : Nat} {tx : ByteArray} {ns : List Nat} {i tot : Nat} {vs : List Value} {v : Value} (h : NodeAt w S P c tx ns i tot vs v) (hk : ∀ b, S b → w'.heap[b]? = w.heap[b]?) (h1 : ∀ b, S b → S' b) :
    NodeAt w' S' P c tx ns i tot vs v := by
  obtain ⟨b, hb, h⟩ := h
  refine ⟨b, h1 b hb, ?_⟩
  have e := hk b hb
  split at h
  case h_7 =>
    obtain ⟨hv, b2, h3, h5, h6⟩ := h
    exact ⟨hv, b2, h1 b2 h3, h5.keep e, h6.keep (hk b2 h3)⟩
  case h_13 =>
    obtain ⟨hv, sv, h3, h4⟩ := h
    exact ⟨hv, sv, h3.keep hk h1, h4.keep e⟩
  case h_14 =>
    obtain ⟨hv, sv, h3, h4⟩ := h
    exact ⟨hv, sv, h3.keep hk h1, h4.keep e⟩
  all_goals first
    | exact ⟨h.1, h.2.keep e⟩
    | exact h.elim
theorem ExL.keep_of (hk : ∀ b, S b → w'.heap[b]? = w.heap[b]?) (h1 : ∀ b, S b → S' b) : ∀ (ks : List Nd), (∀ k ∈ ks, ∀ i v, ExR w S P i k v → ExR w' S' P i k v) → ∀ is vs, ExL w S P is ks vs → ExL w' S' P is ks vs
  | [], _, is, vs, h => by
    cases is <;> cases vs <;> simp [ExL] at h ⊢
  | k :: ks, ih, is, vs, h => by
    cases is with
    | nil => simp [ExL] at h
    | cons i is =>
      cases vs with
      | nil => simp [ExL] at h
      | cons v vs => exact ⟨ih k (List.mem_cons_self ..) i v h.1, ExL.keep_of hk h1 ks (fun x hx => ih x (List.mem_cons_of_mem _ hx)) is vs h.2⟩
theorem ExR.keep (hk : ∀ b, S b → w'.heap[b]? = w.heap[b]?) (h1 : ∀ b, S b → S' b) : ∀ (n : Nd) (i : Nat) (v : Value), ExR w S P i n v → ExR w' S' P i n v := by
  refine Nd.ind fun n ih i v h => ?_
  obtain ⟨kd, tx, ad, cp, ks⟩ := n
  obtain ⟨vs, hl, hn⟩ := h
  exact ⟨vs, ExL.keep_of hk h1 ks ih _ _ hl, hn.keep hk h1⟩
theorem ExL.keep (hk : ∀ b, S b → w'.heap[b]? = w.heap[b]?) (h1 : ∀ b, S b → S' b) {ks : List Nd} {is : List Nat} {vs : List Value} (h : ExL w S P is ks vs) : ExL w' S' P is ks vs :=
  ExL.keep_of hk h1 ks (fun k _ i v hx => ExR.keep hk h1 k i v hx) is vs h
theorem ExR.below {n : Nd} {i : Nat} {v : Value} (h : ExR w S P i n v) (hb : Below w.heap.size w w') (hh : ∀ b, S b → b < w.heap.size) : ExR w' S P i n v :=
  ExR.keep (fun b hs => hb.block b (hh b hs)) (fun _ hs => hs) n i v h
end
/-- The blocks from lo on, below hi. -/
def Rng (lo hi : Nat) (b : Nat) : Prop := lo ≤ b ∧ b < hi
theorem grown_trans {a b c : World} {row : Option Nat} (h : a.grownBy b row) (k : b.grownBy c row) : a.grownBy c row :=
  ⟨k.os.trans h.os, k.tape.trans h.tape, k.output.trans h.output, Nat.le_trans h.size k.size, fun i hi hne => (k.block i (Nat.lt_of_lt_of_le hi h.size) hne).trans (h.block i hi hne)⟩
theorem grown_refl (a : World) (row : Option Nat) : a.grownBy a row := ⟨rfl, rfl, rfl, Nat.le_refl _, fun _ _ _ => rfl⟩
theorem grown_alloc {a b : World} {row : Option Nat} (h : a.grownBy b row) (o : Obj) : a.grownBy (b.alloc o) row := grown_trans h (World.grownBy_alloc b o row)
theorem grown_drew {a b : World} {row : Option Nat} (h : a.grownBy b row) : a.grownBy b.drew row := ⟨h.os, h.tape, h.output, h.size, h.block⟩
theorem grown_set {a b : World} {row : Option Nat} (h : a.grownBy b row) {p : Addr} (hp : a.heap.size ≤ p.block) (u : Value) : a.grownBy (b.setCell p u) row :=
  ⟨h.os, h.tape, h.output, by simpa [World.setCell] using h.size, fun i hi hne => (Below.heap_setCell b p u i (by omega)).trans (h.block i hi hne)⟩
theorem grown_below {a b : World} {row : Option Nat} (h : Below a.heap.size a b) : a.grownBy b row := ⟨h.os, h.tape, h.output, h.size, fun i hi _ => h.block i hi⟩
section
variable {w w' : World} {lo hi : Nat} {P : Nat → Int} {n : Nd} {i : Nat} {v : Value}
theorem ExR.grownR (h : ExR w (Rng lo hi) P i n v) {bb : Nat} (hg : w.grownBy w' (some bb)) (hbb : bb < lo) (hhi : hi ≤ w.heap.size) : ExR w' (Rng lo hi) P i n v :=
  ExR.keep (fun _ hs => hg.block _ (Nat.lt_of_lt_of_le hs.2 hhi) (fun e => by cases e; have := hs.1; omega)) (fun _ hs => hs) n i v h
theorem ExR.setR (h : ExR w (Rng lo hi) P i n v) {p : Addr} (hp : p.block < lo ∨ hi ≤ p.block) (u : Value) : ExR (w.setCell p u) (Rng lo hi) P i n v :=
  ExR.keep (fun _ hs => Below.heap_setCell w p u _ (fun e => by have := hs.1; have := hs.2; omega)) (fun _ hs => hs) n i v h
theorem ExR.allocR (h : ExR w (Rng lo hi) P i n v) (hhi : hi ≤ w.heap.size) (o : Obj) : ExR (w.alloc o) (Rng lo hi) P i n v :=
  ExR.keep (fun _ hs => Below.heap_alloc w o _ (Nat.lt_of_lt_of_le hs.2 hhi)) (fun _ hs => hs) n i v h
theorem ExR.wideR (h : ExR w (Rng lo hi) P i n v) {lo' hi' : Nat} (h1 : lo' ≤ lo) (h2 : hi ≤ hi') : ExR w (Rng lo' hi') P i n v :=
  ExR.keep (fun _ _ => rfl) (fun _ hs => ⟨Nat.le_trans h1 hs.1, Nat.lt_of_lt_of_le hs.2 h2⟩) n i v h
/-- An expression is a pointer in an interface value. -/
theorem ExR.form {S : Nat → Prop} (h : ExR w S P i n v) : ∃ t b, v = .iface t (.pointer (some ⟨b, 0, none⟩)) := by
  obtain ⟨kd, tx, ad, cp, ks⟩ := n
  obtain ⟨vs, _, b, _, h⟩ := h
  split at h
  all_goals first
    | exact ⟨_, b, h.1⟩
    | exact h.elim
end
end Go.Proofs.YtjbhjbpamnoebaaGreatFmt
