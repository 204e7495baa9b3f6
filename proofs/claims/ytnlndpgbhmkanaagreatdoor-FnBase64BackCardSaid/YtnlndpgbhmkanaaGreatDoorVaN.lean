/-
  TWO ROWS THAT GROW TOGETHER: keys and values.
-/
import Derived.Test.YtnlndpgbhmkanaaGreatDoorVaS
namespace Go.Proofs.YtnlndpgbhmkanaaGreatDoor.Va
open Go.RowKit
set_option linter.unusedVariables false
set_option linter.unusedSimpArgs false

/-- the values' part: each of the first k values is read out of the cells cs, in blocks that are neither row's -/
def Kids (base : Nat) (vs : List V) (k : Nat) (kv vv : Value) (cs : List Value) (w : World) : Prop :=
  ∀ i (hi : i < k) (hl : i < vs.length), ∃ c0 c1 c2 c3 c4 c5, SixAt cs (i * 6) c0 c1 c2 c3 c4 c5 ∧ RV w (fun r => base ≤ r ∧ some r ≠ kv.ownBlock ∧ some r ≠ vv.ownBlock) vs[i] (.agg #[c0, c1, c2, c3, c4, c5])
structure MRows (base : Nat) (ks : List ByteArray) (vs : List V) (k : Nat) (kv vv : Value) (cs : List Value) (w : World) : Prop where
  keys : w.ownsRow base 9 1 kv k ((ks.take k).map .string)
  vals : w.ownsRow base 27 6 vv k cs
  apart : ∀ b, kv.ownBlock = some b → vv.ownBlock ≠ some b
  kids : Kids base vs k kv vv cs w
theorem MRows.nil (base : Nat) (ks : List ByteArray) (vs : List V) (w : World) : MRows base ks vs 0 (.slice none 0 0) (.slice none 0 0) [] w :=
  ⟨by simpa using World.ownsRow_nil w base 9 1, World.ownsRow_nil _ _ _ _, (fun b h => by cases h), fun i hi => absurd hi (by omega)⟩
theorem MRows.same {base : Nat} {ks : List ByteArray} {vs : List V} {k : Nat} {kv vv : Value} {cs : List Value} {w w' : World} (h : MRows base ks vs k kv vv cs w) (hs : ∀ b, base ≤ b → b < w.heap.size → w'.heap[b]? = w.heap[b]?) : MRows base ks vs k kv vv cs w' := by
  refine ⟨ownsRow_same h.keys fun b hb => ?_, ownsRow_same h.vals fun b hb => ?_, h.apart, fun i hi hl => ?_⟩
  · have := h.keys.lt b hb.symm; exact hs b this.1 this.2
  · have := h.vals.lt b hb.symm; exact hs b this.1 this.2
  · obtain ⟨c0, c1, c2, c3, c4, c5, h6, hx⟩ := h.kids i hi hl
    exact ⟨c0, c1, c2, c3, c4, c5, h6, RV.mono (S := fun r => (base ≤ r ∧ some r ≠ kv.ownBlock ∧ some r ≠ vv.ownBlock) ∧ r < w.heap.size) (fun b hb => hs b hb.1.1 hb.2) (fun b hb => hb.1) _ _ (RV.lt _ _ hx)⟩
theorem MRows.keep {base : Nat} {ks : List ByteArray} {vs : List V} {k : Nat} {kv vv : Value} {cs : List Value} {w w' : World} (h : MRows base ks vs k kv vv cs w) (hb : Below w.heap.size w w') : MRows base ks vs k kv vv cs w' := h.same fun b _ hlt => hb.block b hlt

/-- the append of the key, then that of the value -/
theorem MRows.next {base : Nat} {ks : List ByteArray} {vs : List V} {k : Nat} {kv vv kv' vv' : Value} {cs : List Value} {wr wa wb wc wd : World} (h : MRows base ks vs k kv vv cs wr) (hk : k < ks.length) (hv : k < vs.length) (hbase : base ≤ wr.heap.size)
    {c0 c1 c2 c3 c4 c5 : Value} (hB : Below wr.heap.size wr wa) (hx : RV wa (fun r => wr.heap.size ≤ r) vs[k] (.agg #[c0, c1, c2, c3, c4, c5]))
    (ha : Appended wa base 9 1 kv k ((ks.take k).map .string ++ [.string ks[k]]) kv' wb) (hBc : Below wb.heap.size wb wc)
    (hd : Appended wc base 27 6 vv k (cs ++ [c0, c1, c2, c3, c4, c5]) vv' wd) : MRows base ks vs (k + 1) kv' vv' (cs ++ [c0, c1, c2, c3, c4, c5]) wd ∧ Below base wr wd := by
  have klt := h.keys.lt
  have vlt := h.vals.lt
  have s1 := hB.size
  have s2 := ha.grown.size
  have s3 := hBc.size
  have kne : ∀ b, kv.ownBlock = some b → kv.ownBlock ≠ vv.ownBlock := fun b hb e => h.apart b hb (e ▸ hb)
  -- the blocks of the rows, told apart
  have kb' : ∀ b, kv'.ownBlock = some b → (kv.ownBlock = some b ∨ b = wa.heap.size) := fun b hb => by
    rcases ha.wher with e | e
    · left; rw [← e]; exact hb
    · right; rw [e] at hb; cases hb; rfl
  have vb' : ∀ b, vv'.ownBlock = some b → (vv.ownBlock = some b ∨ b = wc.heap.size) := fun b hb => by
    rcases hd.wher with e | e
    · left; rw [← e]; exact hb
    · right; rw [e] at hb; cases hb; rfl
  have hkblt : ∀ b, kv'.ownBlock = some b → b < wb.heap.size := fun b hb => (ha.owns.lt b hb).2
  have apart' : ∀ b, kv'.ownBlock = some b → vv'.ownBlock ≠ some b := by
    intro b hb hvb
    have hbl := hkblt b hb
    rcases vb' b hvb with e | e
    · rcases kb' b hb with f | f
      · exact h.apart b f e
      · have := vlt b e; omega
    · omega
  have hS1 : Same (fun r => r < wa.heap.size ∧ some r ≠ kv.ownBlock) wa wb := fun b hb => ha.grown.block b hb.1 hb.2
  have hS2 : Same (fun r => r < wb.heap.size) wb wc := fun b hb => hBc.block b hb
  have hS3 : Same (fun r => r < wc.heap.size ∧ some r ≠ vv.ownBlock) wc wd := fun b hb => hd.grown.block b hb.1 hb.2
  have out : ∀ r, r < wa.heap.size → some r ≠ kv.ownBlock → some r ≠ vv.ownBlock → (some r ≠ kv'.ownBlock ∧ some r ≠ vv'.ownBlock) := by
    intro r h1 h2 h3
    refine ⟨fun e => ?_, fun e => ?_⟩
    · rcases kb' r e.symm with f | f
      · exact h2 f.symm
      · omega
    · rcases vb' r e.symm with f | f
      · exact h3 f.symm
      · omega
  have move : ∀ x v, RV wa (fun r => r < wa.heap.size ∧ base ≤ r ∧ some r ≠ kv.ownBlock ∧ some r ≠ vv.ownBlock) x v → RV wd (fun r => base ≤ r ∧ some r ≠ kv'.ownBlock ∧ some r ≠ vv'.ownBlock) x v := by
    intro x v hxv
    have e1 := RV.mono (w' := wb) (T := fun r => r < wa.heap.size ∧ base ≤ r ∧ some r ≠ kv.ownBlock ∧ some r ≠ vv.ownBlock) (fun b hb => hS1 b ⟨hb.1, hb.2.2.1⟩) (fun _ h => h) _ _ hxv
    have e2 := RV.mono (w' := wc) (T := fun r => r < wa.heap.size ∧ base ≤ r ∧ some r ≠ kv.ownBlock ∧ some r ≠ vv.ownBlock) (fun b hb => hS2 b (by have := hb.1; omega)) (fun _ h => h) _ _ e1
    exact RV.mono (fun b hb => hS3 b ⟨by have := hb.1; omega, hb.2.2.2⟩) (fun b hb => ⟨hb.2.1, out b hb.1 hb.2.2.1 hb.2.2.2⟩) _ _ e2
  refine ⟨⟨?_, hd.owns, apart', fun i hi hl => ?_⟩, ?_⟩
  · have e0 : (ks.take (k + 1)).map Value.string = (ks.take k).map .string ++ [.string ks[k]] := by rw [List.take_succ_eq_append_getElem hk, List.map_append]; rfl
    rw [e0]
    refine ownsRow_same ha.owns fun b hb => ?_
    have hbl := hkblt b hb.symm
    refine (hS3 b ⟨by omega, fun e => ?_⟩).trans (hS2 b hbl)
    rcases kb' b hb.symm with f | f
    · exact h.apart b f e.symm
    · have := vlt b e.symm; omega
  · by_cases c : i = k
    · subst c
      refine ⟨c0, c1, c2, c3, c4, c5, SixAt.new h.vals.1 .., move _ _ (RV.mono (S := fun r => wr.heap.size ≤ r ∧ r < wa.heap.size) (fun _ _ => rfl) (fun b hb => ⟨hb.2, by omega, fun e => by have := klt b e.symm; omega, fun e => by have := vlt b e.symm; omega⟩) _ _ (RV.lt _ _ hx))⟩
    · obtain ⟨d0, d1, d2, d3, d4, d5, h6, hx'⟩ := h.kids i (by omega) hl
      refine ⟨d0, d1, d2, d3, d4, d5, h6.old, move _ _ ?_⟩
      exact RV.mono (S := fun r => (base ≤ r ∧ some r ≠ kv.ownBlock ∧ some r ≠ vv.ownBlock) ∧ r < wr.heap.size) (fun b hb => hB.block b hb.2) (fun b hb => ⟨by omega, hb.1.1, hb.1.2.1, hb.1.2.2⟩) _ _ (RV.lt _ _ hx')
  · have b1 : Below base wr wa := hB.mono hbase
    have b2 : Below base wr wb := Below.grown b1 ha.grown (by omega) (fun j hj => (klt j hj).1)
    have b3 : Below base wr wc := b2.trans (hBc.mono (by omega))
    exact Below.grown b3 hd.grown (by omega) (fun j hj => (vlt j hj).1)

/-- a row of texts, read in memory -/
theorem RK.of {w : World} {S : Nat → Prop} : ∀ (l : List ByteArray) (b o : Nat), (0 < l.length → S b) → (∀ i (hi : i < l.length), w.cell? ⟨b, o + i, none⟩ = some (.string l[i])) → RK w S l (some ⟨b, o, none⟩)
  | [], b, o, _, _ => trivial
  | x :: xs, b, o, hS, h => ⟨b, o, rfl, hS (by simp), h 0 (by simp), RK.of xs b (o + 1) (fun _ => hS (by simp)) fun i hi => by
      have := h (i + 1) (by simpa using hi)
      rw [show o + 1 + i = o + (i + 1) by omega]
      exact this⟩
theorem ownsRow_cell {w : World} {base : Nat} {e : TypeId} {size g n c : Nat} {xs : List Value} (h : w.ownsRow base e size (.slice (some ⟨g, 0, none⟩) n c) n xs) (j : Nat) {v : Value} (hj : xs[j]? = some v) : w.cell? ⟨g, j, none⟩ = some v ∧ w.frozen? ⟨g, j, none⟩ = false := by
  rcases h.2 with ⟨h0, _⟩ | ⟨g', cap, cur, e, _, hg, _, _, _, htake⟩
  · cases h0
  · cases e
    refine ⟨cell_of hg j ?_, free_of hg j⟩
    rw [← htake, List.getElem?_take] at hj
    split at hj
    · simpa using hj
    · cases hj
theorem MRows.done {base : Nat} {ks : List ByteArray} {vs : List V} {kv vv : Value} {cs : List Value} {w : World} (h : MRows base ks vs ks.length kv vv cs w) (hl : ks.length = vs.length) :
    ∃ ka kc va vc, kv = .slice ka ks.length kc ∧ vv = .slice va vs.length vc ∧ RK w (fun r => base ≤ r) ks ka ∧ RL w (fun r => base ≤ r) vs va := by
  obtain ⟨va, vc, hve, hvl⟩ := Rows.done (base := base) (l := vs) (ov := vv) (w := w) ⟨cs, hl ▸ h.vals, fun i hi hl' => by
    obtain ⟨c0, c1, c2, c3, c4, c5, h6, hx⟩ := h.kids i (by omega) hl'
    exact ⟨c0, c1, c2, c3, c4, c5, h6, RV.mono (fun _ _ => rfl) (fun b hb => ⟨hb.1, hb.2.2⟩) _ _ hx⟩⟩
  have hk := h.keys
  rw [List.take_length] at hk
  obtain ⟨ka, kc, rfl⟩ := ownsRow_slice hk
  refine ⟨ka, kc, va, vc, rfl, hve, ?_, hvl⟩
  cases ka with
  | none =>
    rcases hk.2 with ⟨_, h0⟩ | ⟨g, cap, cur, e, _⟩
    · have : ks = [] := List.length_eq_zero_iff.1 h0
      subst this; trivial
    · cases e
  | some a =>
    rcases hk.2 with ⟨e, _⟩ | ⟨g, cap, cur, e, hb, _⟩
    · cases e
    · cases e
      refine RK.of ks g 0 (fun _ => hb) fun i hi => ?_
      rw [Nat.zero_add]
      exact (ownsRow_cell hk i (by simp [hi])).1

end Go.Proofs.YtnlndpgbhmkanaaGreatDoor.Va
