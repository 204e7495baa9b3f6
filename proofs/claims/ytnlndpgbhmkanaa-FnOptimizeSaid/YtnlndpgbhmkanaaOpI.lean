/-
  WHAT THE PROGRAM's COMPILER HOLDS IN MEMORY: its list of instructions, each in a block of its own.
-/
import Derived.Test.YtnlndpgbhmkanaaOpH
namespace Go.Proofs.Ytnlndpgbhmkanaa.Op
open Go.RowKit
set_option linter.unusedVariables false
set_option linter.unusedSimpArgs false

/-- an instruction's numbers as the program keeps them -/
def OV (x : Ins) (v : Value) : Prop :=
  (x.op ≠ 23 ∧ v = .iface 3 (.int .i64 x.a)) ∨ (x.op ≠ 23 ∧ ¬ jumps x ∧ v = .iface 64 (.agg #[.int .i64 0, .int .i64 x.a])) ∨ (x.op = 23 ∧ v = .iface 65 (.agg #[.int .i64 x.a, .int .i64 x.b, .int .i64 x.c]))
theorem OV.jump {x : Ins} {v : Value} (h : OV x v) (hj : jumps x) : v = .iface 3 (.int .i64 x.a) := by
  rcases h with ⟨_, h⟩ | ⟨_, h, _⟩ | ⟨h, _⟩
  · exact h
  · exact absurd hj h
  · unfold jumps at hj; omega
theorem OV.scope {x : Ins} {v : Value} (h : OV x v) (ho : x.op = 23) : v = .iface 65 (.agg #[.int .i64 x.a, .int .i64 x.b, .int .i64 x.c]) := by
  rcases h with ⟨q, h⟩ | ⟨q, h, _⟩ | ⟨_, h⟩
  · exact absurd ho q
  · exact absurd ho q
  · exact h
theorem OV.op {x : Ins} {v : Value} (h : OV x v) (ho : x.op ≠ 23) {op' : Int} (hj : jumps { x with op := op' } → jumps x) (h' : op' ≠ 23) : OV { x with op := op' } v := by
  rcases h with ⟨_, h⟩ | ⟨_, h1, h⟩ | ⟨h, _⟩
  · exact .inl ⟨h', h⟩
  · exact .inr (.inl ⟨h', fun q => h1 (hj q), h⟩)
  · exact absurd h ho
def CodeAt (w : World) (x : Ins) (p : Nat) : Prop := ∃ v, OV x v ∧ w.heap[p]? = some (.cells #[v, .int .i64 x.op] 63 (0, 0))
def ptr (p : Nat) : Value := .pointer (some ⟨p, 0, none⟩)
def compBox (sv : Value) : Array Value := #[.slice none 0 0, sv, .slice none 0 0, .pointer none, .slice none 0 0, .int .i64 0]
structure RC (w0 : World) (N : Nat) (l : List Ins) (ps : List Nat) (sv : Value) (w : World) : Prop where
  base : w0.heap.size ≤ N
  below : Below w0.heap.size w0 w
  size : N < w.heap.size
  box : w.heap[N]? = some (.cells (compBox sv) 58 (0, 0))
  row : w.ownsRow (N + 1) 60 1 sv l.length (ps.map ptr)
  nodup : ps.Nodup
  lo : ∀ p ∈ ps, N < p
  codes : ∀ (i : Nat) (x : Ins), l[i]? = some x → ∃ p, ps[i]? = some p ∧ CodeAt w x p

section
variable {w0 w w' : World} {N : Nat} {l : List Ins} {ps : List Nat} {sv : Value}
theorem RC.len (h : RC w0 N l ps sv w) : ps.length = l.length := by
  have := h.row.1
  simpa using this
theorem own_keep {w w' : World} {base : Nat} {e : TypeId} {s : Nat} {v : Value} {n : Nat} {xs : List Value} (h : w.ownsRow base e s v n xs) (hk : ∀ g, v.ownBlock = some g → w'.heap[g]? = w.heap[g]?) : w'.ownsRow base e s v n xs := by
  refine ⟨h.1, ?_⟩
  rcases h.2 with hn | ⟨g, cap, cur, rfl, a, b, rest⟩
  · exact .inl hn
  · exact .inr ⟨g, cap, cur, rfl, a, (hk g rfl).trans b, rest⟩
theorem RC.keep (h : RC w0 N l ps sv w) (hb : Below w.heap.size w w') : RC w0 N l ps sv w' := by
  refine ⟨h.base, h.below.trans (hb.mono h.below.size), Nat.lt_of_lt_of_le h.size hb.size, (hb.block N h.size).trans h.box, own_keep h.row fun g hg => hb.block g (h.row.lt g hg).2, h.nodup, h.lo, fun i x hx => ?_⟩
  obtain ⟨p, hp, v, hv, hc⟩ := h.codes i x hx
  exact ⟨p, hp, v, hv, Op.keep hb hc⟩
theorem RC.alloc (h : RC w0 N l ps sv w) (o : Obj) : RC w0 N l ps sv (w.alloc o) := h.keep (below_alloc w o)
theorem RC.drew (h : RC w0 N l ps sv w) : RC w0 N l ps sv w.drew := h.keep (Below.refl _ _).drew
theorem RC.rowLen {ao : Option Addr} {n cap : Nat} (h : RC w0 N l ps (.slice ao n cap) w) : n = l.length := by
  rcases h.row.2 with ⟨e, e2⟩ | ⟨g, cap, cur, e, _⟩
  · simp only [Value.slice.injEq] at e; omega
  · simp only [Value.slice.injEq] at e; omega
/-- one instruction, where it lies -/
theorem RC.code {g n cap i : Nat} {x : Ins} (h : RC w0 N l ps (.slice (some ⟨g, 0, none⟩) n cap) w) (hx : l[i]? = some x) : ∃ p v, ps[i]? = some p ∧ OV x v ∧ w.heap[p]? = some (.cells #[v, .int .i64 x.op] 63 (0, 0)) ∧ w.cell? ⟨g, i, none⟩ = some (ptr p) := by
  obtain ⟨p, hp, v, hv, hc⟩ := h.codes i x hx
  refine ⟨p, v, hp, hv, hc, ?_⟩
  have hi : i < l.length := (List.getElem?_eq_some_iff.1 hx).1
  have hil : i < l.length * 1 := by omega
  have hn : n = l.length := h.rowLen
  subst hn
  refine (h.row.cellAt i hil).trans ?_
  rw [List.getElem?_map, hp]
  rfl
theorem RC.boxc (h : RC w0 N l ps sv w) : w.cell? ⟨N, 1, none⟩ = some sv ∧ w.frozen? ⟨N, 1, none⟩ = false := ⟨cell_of h.box 1 rfl, free_of h.box 1⟩
theorem RC.pos {c : Ins} {t : List Ins} (h : RC w0 N (c :: t) ps sv w) : ∃ g cap, sv = .slice (some ⟨g, 0, none⟩) (t.length + 1) cap := by
  obtain ⟨g, cap, e, _⟩ := own_some h.row
  exact ⟨g, cap, e⟩
theorem nodup_get {ps : List Nat} (h : ps.Nodup) {i j p : Nat} (hi : ps[i]? = some p) (hj : ps[j]? = some p) : i = j := by
  obtain ⟨hi1, hi2⟩ := List.getElem?_eq_some_iff.1 hi
  obtain ⟨hj1, hj2⟩ := List.getElem?_eq_some_iff.1 hj
  exact (List.getElem_inj h).1 (hi2.trans hj2.symm)
/-- an instruction is turned where it lies -/
theorem RC.turn {i : Nat} {x x' : Ins} {p : Nat} {v : Value} (h : RC w0 N l ps sv w) (hx : l[i]? = some x) (hp : ps[i]? = some p) (hc : w'.heap[p]? = some (.cells #[v, .int .i64 x'.op] 63 (0, 0))) (hv : OV x' v)
    (hb : ∀ k, k ≠ p → w'.heap[k]? = w.heap[k]?) (hs : w'.heap.size = w.heap.size) (hbel : Below (N + 1) w w') : RC w0 N (l.set i x') ps sv w' := by
  have hpl : N < p := h.lo p (List.mem_of_getElem? hp)
  refine ⟨h.base, h.below.trans (hbel.mono (Nat.le_succ_of_le h.base)), by rw [hs]; exact h.size, (hb N (by omega)).trans h.box, ?_, h.nodup, h.lo, fun j y hy => ?_⟩
  · rw [List.length_set]
    refine own_keep h.row fun g hg => hb g ?_
    rintro rfl
    obtain ⟨p', hp', v', hv', hc'⟩ := h.codes i x hx
    rw [hp] at hp'
    obtain rfl := Option.some.inj hp'
    rcases h.row.2 with ⟨rfl, _⟩ | ⟨g, cap, cur, rfl, _, hg2, _⟩
    · cases hg
    · simp only [Value.ownBlock, Option.some.injEq] at hg
      subst hg
      rw [hc'] at hg2
      simp at hg2
  · by_cases e : j = i
    · subst e
      have hjl : j < l.length := (List.getElem?_eq_some_iff.1 hx).1
      rw [List.getElem?_set_self hjl] at hy
      obtain rfl := Option.some.inj hy
      exact ⟨p, hp, v, hv, hc⟩
    · rw [List.getElem?_set_ne (Ne.symm e)] at hy
      obtain ⟨q, hq, u, hu, hc2⟩ := h.codes j y hy
      refine ⟨q, hq, u, hu, (hb q ?_).trans hc2⟩
      rintro rfl
      exact e (nodup_get h.nodup hq hp)
theorem RC.setOp {i : Nat} {x : Ins} {p : Nat} {v : Value} (h : RC w0 N l ps sv w) (hx : l[i]? = some x) (hp : ps[i]? = some p) (hc : w.heap[p]? = some (.cells #[v, .int .i64 x.op] 63 (0, 0))) {op' : Int} (hv : OV { x with op := op' } v) :
    RC w0 N (l.set i { x with op := op' }) ps sv (w.setCell ⟨p, 1, none⟩ (.int .i64 op')) := by
  have hpl : N < p := h.lo p (List.mem_of_getElem? hp)
  exact h.turn (x' := { x with op := op' }) hx hp (heap_setCell_same w p 1 _ _ _ hc) hv (fun k hk => heap_setCell_other _ _ k _ hk) (by simp) ((Below.refl _ _).setCell hpl _)
theorem RC.setV {i : Nat} {x : Ins} {p : Nat} {v : Value} (h : RC w0 N l ps sv w) (hx : l[i]? = some x) (hp : ps[i]? = some p) (hc : w.heap[p]? = some (.cells #[v, .int .i64 x.op] 63 (0, 0))) {a' : Int} {v' : Value} (hv : OV { x with a := a' } v') :
    RC w0 N (l.set i { x with a := a' }) ps sv (w.setCell ⟨p, 0, none⟩ v') := by
  have hpl : N < p := h.lo p (List.mem_of_getElem? hp)
  exact h.turn (x' := { x with a := a' }) hx hp (heap_setCell_same w p 0 _ _ _ hc) hv (fun k hk => heap_setCell_other _ _ k _ hk) (by simp) ((Below.refl _ _).setCell hpl _)
end
end Go.Proofs.Ytnlndpgbhmkanaa.Op
