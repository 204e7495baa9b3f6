/-
  ROWS OF VALUES that grow, whose elements lie anywhere but in the row itself; rows of rows that come in.
-/
import Derived.Test.YtnlndpgbhmkanaaDoorTrD
namespace Go.Proofs.YtnlndpgbhmkanaaDoor.Va
open Go.RowKit
set_option linter.unusedVariables false
set_option linter.unusedSimpArgs false

def RowsG (base : Nat) (acc : List V) (ov : Value) (wr : World) : Prop :=
  ∃ cs : List Value, wr.ownsRow base 26 6 ov acc.length cs ∧ ∀ i (hi : i < acc.length), ∃ c0 c1 c2 c3 c4 c5, SixAt cs (i * 6) c0 c1 c2 c3 c4 c5 ∧ RV wr (fun r => r < wr.heap.size ∧ some r ≠ ov.ownBlock) acc[i] (.agg #[c0, c1, c2, c3, c4, c5])
theorem RowsG.nil (base : Nat) (wr : World) : RowsG base [] (.slice none 0 0) wr := ⟨[], World.ownsRow_nil _ _ _ _, fun i hi => by simp at hi⟩
theorem RowsG.keep {base : Nat} {acc : List V} {ov : Value} {w w' : World} (h : RowsG base acc ov w) (hb : Below w.heap.size w w') : RowsG base acc ov w' := by
  obtain ⟨cs, h1, h2⟩ := h
  refine ⟨cs, ownsRow_same h1 (fun b hb2 => hb.block b (h1.lt b hb2.symm).2), fun i hi => ?_⟩
  obtain ⟨c0, c1, c2, c3, c4, c5, h6, hx⟩ := h2 i hi
  exact ⟨c0, c1, c2, c3, c4, c5, h6, RV.mono (fun b hb2 => hb.block b hb2.1) (fun b hb2 => ⟨Nat.lt_of_lt_of_le hb2.1 hb.size, hb2.2⟩) _ _ hx⟩
theorem RowsG.next {base : Nat} {acc : List V} {x : V} {ov ov' : Value} {wr wa w' : World} {c0 c1 c2 c3 c4 c5 : Value} {cs : List Value} (hbase : base ≤ wr.heap.size) (hown : wr.ownsRow base 26 6 ov acc.length cs)
    (hch : ∀ i (hi : i < acc.length), ∃ c0 c1 c2 c3 c4 c5, SixAt cs (i * 6) c0 c1 c2 c3 c4 c5 ∧ RV wr (fun r => r < wr.heap.size ∧ some r ≠ ov.ownBlock) acc[i] (.agg #[c0, c1, c2, c3, c4, c5]))
    (hB : Below wr.heap.size wr wa) (hx : RV wa (fun r => r < wa.heap.size ∧ some r ≠ ov.ownBlock) x (.agg #[c0, c1, c2, c3, c4, c5])) (ha : Appended wa base 26 6 ov acc.length (cs ++ [c0, c1, c2, c3, c4, c5]) ov' w') :
    RowsG base (acc ++ [x]) ov' w' ∧ Below base wr w' := by
  have hlt := hown.lt
  have hsz := hB.size
  have hBel : Below base wr w' := Below.grown (hB.mono hbase) ha.grown (by omega) (fun j hj => (hlt j hj).1)
  have hs : Same (fun r => r < wa.heap.size ∧ some r ≠ ov.ownBlock) wa w' := fun b hb => ha.grown.block b hb.1 hb.2
  have hgs := ha.grown.size
  have hS : ∀ r, r < wa.heap.size ∧ some r ≠ ov.ownBlock → r < w'.heap.size ∧ some r ≠ ov'.ownBlock := by
    rintro r ⟨h1, h2⟩
    refine ⟨by omega, ?_⟩
    rcases ha.wher with e | e
    · rw [e]; exact h2
    · rw [e]; simp; omega
  have hl := hown.1
  refine ⟨⟨cs ++ [c0, c1, c2, c3, c4, c5], by simpa using ha.owns, fun i hi => ?_⟩, hBel⟩
  simp only [List.length_append, List.length_cons, List.length_nil] at hi
  by_cases c : i < acc.length
  · obtain ⟨d0, d1, d2, d3, d4, d5, h6, hx'⟩ := hch i c
    refine ⟨d0, d1, d2, d3, d4, d5, h6.old, ?_⟩
    rw [List.getElem_append_left c]
    have hw : RV wa (fun r => r < wa.heap.size ∧ some r ≠ ov.ownBlock) acc[i] (.agg #[d0, d1, d2, d3, d4, d5]) := RV.mono (fun b hb => hB.block b hb.1) (fun b hb => ⟨by omega, hb.2⟩) _ _ hx'
    exact RV.mono hs hS _ _ hw
  · obtain rfl : i = acc.length := by omega
    refine ⟨c0, c1, c2, c3, c4, c5, SixAt.new hl .., ?_⟩
    rw [List.getElem_append_right (by omega)]
    simpa using RV.mono hs hS _ _ hx
theorem RowsG.done {base : Nat} {acc : List V} {ov : Value} {w : World} (h : RowsG base acc ov w) : ∃ a c, ov = .slice a acc.length c ∧ RL w (fun r => r < w.heap.size) acc a := by
  obtain ⟨cs, h1, h2⟩ := h
  rcases h1.2 with ⟨rfl, h0⟩ | ⟨g, cap, cur, rfl, hb, hgg, hn, hm, hsz, htake⟩
  · have : acc = [] := List.length_eq_zero_iff.1 h0
    subst this
    exact ⟨none, 0, rfl, by rw [RL]; trivial⟩
  · have hlt := heap_lt hgg
    refine ⟨_, _, rfl, RL.of acc g 0 (fun _ => hlt) fun i hi => ?_⟩
    obtain ⟨c0, c1, c2, c3, c4, c5, ⟨h60, h61, h62, h63, h64, h65⟩, hx⟩ := h2 i hi
    have hcell : ∀ j v, cs[j]? = some v → w.cell? ⟨g, j, none⟩ = some v := by
      intro j v hj
      refine cell_of hgg j ?_
      rw [← htake, List.getElem?_take] at hj
      split at hj
      · simpa using hj
      · cases hj
    refine ⟨c0, c1, c2, c3, c4, c5, ?_, RV.mono (fun _ _ => rfl) (fun b hb => hb.1) _ _ hx⟩
    rw [Nat.zero_add]
    exact ⟨hcell _ _ h60, hcell _ _ h61, hcell _ _ h62, hcell _ _ h63, hcell _ _ h64, hcell _ _ h65⟩

/-- rows of values, read -/
def RLL (w : World) (S : Nat → Prop) (rs : List (List V)) (a : Option Addr) : Prop :=
  ∀ i (hi : i < rs.length), ∃ b o ai ci, a = some ⟨b, o, none⟩ ∧ S b ∧ w.cell? ⟨b, o + i, none⟩ = some (.slice ai (rs[i]).length ci) ∧ RL w S rs[i] ai

end Go.Proofs.YtnlndpgbhmkanaaDoor.Va
