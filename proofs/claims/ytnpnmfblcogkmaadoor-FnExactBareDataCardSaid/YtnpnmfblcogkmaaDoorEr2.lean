/-
  From a call of ends back to the call of expr.
-/
import Derived.Test.YtnpnmfblcogkmaaDoorEn
namespace Go.Proofs.YtnpnmfblcogkmaaDoor
open Go.RowKit

theorem St.ends {W w w' : World} {bb : Nat} {ps : List Int} {n : Nd} {b : Nat} {cs cs' : Array Value} {j j' : Nat} {es0 es : List (Nat × Nd × Value)} {ap : List Nat} {m : Nd}
    (h : St W bb ps n b 90 cs j es0 w) (hE : ES w bb ps b cs' j' es ap m w') : St W bb ps n b 90 cs' j' (es0 ++ es) w' := by
  obtain ⟨hc, hb, hB, he0⟩ := h
  obtain ⟨k1, k2, k3, k4, k5, k6, k7⟩ := hE
  obtain ⟨c1, c2, c3, c4, c5, c6⟩ := hc
  have hs := k4.size
  have hws := c4.size
  have c2l := c2.lt
  refine ⟨⟨c1.keep (k4.block _ (by omega) (by omega) (by omega)), c2.keep (k4.block _ c2l (by omega) (by omega)), k1, ⟨k4.os.trans c4.os, k4.tape.trans c4.tape, k4.output.trans c4.output, Nat.le_trans c4.size hs, fun x hx hne => ?_⟩, c5,
    Nd.In.keep (fun p hp => World.cell?_of_block (k4.block p.block (by omega) (by omega) (by omega))) (Nat.le_refl _) n c6⟩, hb, k2, fun e he => ?_⟩
  · exact (k4.block x (by omega) (fun e => hne (congrArg some e)) (by omega)).trans (c4.block x hx hne)
  · rcases List.mem_append.1 he with he | he
    · obtain ⟨lo, hi, h1, h2, h3, h4⟩ := he0 e he
      exact ⟨lo, hi, h1, by omega, h3, ExR.keep (fun g hg => k4.block g (Nat.lt_of_lt_of_le hg.2 h2) (by have := hg.1; omega) (by have := hg.1; have := hg.2; omega)) (fun _ hs => hs) _ _ _ h4⟩
    · obtain ⟨lo, hi, h1, h2, h3, h4⟩ := k7 e he
      exact ⟨lo, hi, by omega, h2, .inl (by omega), h4⟩
end Go.Proofs.YtnpnmfblcogkmaaDoor
