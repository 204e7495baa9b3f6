/-
  WHAT THE REFERENCE's MACHINE HOLDS IN MEMORY: its box, its variables, its stack and its ways back.
-/
import Derived.Test.YtnlndpgbhmkanaaOpM
namespace Go.Proofs.Ytnlndpgbhmkanaa.Op
open Go.RowKit
set_option linter.unusedVariables false
set_option linter.unusedSimpArgs false

def cellV (c : Cell) : List Value := [.bool c.1, .int .i64 c.2]
def flatV (l : List Cell) : List Value := l.flatMap cellV
theorem flatV_cons (c : Cell) (t : List Cell) : flatV (c :: t) = .bool c.1 :: .int .i64 c.2 :: flatV t := rfl
theorem flatV_append (a b : List Cell) : flatV (a ++ b) = flatV a ++ flatV b := by simp [flatV]
theorem flatV_len : ∀ (l : List Cell), (flatV l).length = l.length * 2
  | [] => rfl
  | c :: t => by rw [flatV_cons, List.length_cons, List.length_cons, flatV_len t, List.length_cons]; omega
theorem flatV_get : ∀ (l : List Cell) (i : Nat) (hi : i < l.length), (flatV l)[i * 2]? = some (.bool l[i].1) ∧ (flatV l)[i * 2 + 1]? = some (.int .i64 l[i].2)
  | [], _, hi => absurd hi (by simp)
  | c :: t, 0, _ => ⟨rfl, rfl⟩
  | c :: t, i + 1, hi => by
    have h := flatV_get t i (by simpa using hi)
    rw [flatV_cons, show (i + 1) * 2 = i * 2 + 1 + 1 by omega, show i * 2 + 1 + 1 + 1 = (i * 2 + 1) + 1 + 1 by omega]
    exact h
theorem flatV_set : ∀ (l : List Cell) (i : Nat) (c : Cell), ((flatV l).set (i * 2) (.bool c.1)).set (i * 2 + 1) (.int .i64 c.2) = flatV (l.set i c)
  | [], _, _ => rfl
  | d :: t, 0, c => rfl
  | d :: t, i + 1, c => by
    have h := flatV_set t i c
    rw [flatV_cons, show (i + 1) * 2 = i * 2 + 1 + 1 by omega]
    simp only [List.set_cons_succ, flatV_cons]
    rw [h]
def enc (st : List Cell) : List Value := flatV st.reverse
theorem enc_cons (c : Cell) (t : List Cell) : enc (c :: t) = enc t ++ [.bool c.1, .int .i64 c.2] := by
  unfold enc
  rw [List.reverse_cons, flatV_append]
  rfl
theorem enc_len (st : List Cell) : (enc st).length = st.length * 2 := by unfold enc; rw [flatV_len, List.length_reverse]
def encB (b : List Nat) : List Value := b.reverse.map fun p : Nat => Value.int .i64 (p : Int)
theorem encB_cons (p : Nat) (r : List Nat) : encB (p :: r) = encB r ++ [.int .i64 (p : Int)] := by
  unfold encB
  rw [List.reverse_cons, List.map_append]
  rfl
theorem encB_len (b : List Nat) : (encB b).length = b.length := by simp [encB]

structure MS (N : Nat) (st vars : List Cell) (back : List Nat) (sv bv : Value) (w0 wr : World) : Prop where
  base : w0.heap.size = N
  below : Below N w0 wr
  size : N + 3 ≤ wr.heap.size
  res : wr.heap[N]? = some (.cells #[.slice none 0 0, .slice none 0 0, .bool false] 28 (0, 0))
  var : ∃ arr, wr.heap[N + 1]? = some (.cells arr 40 (0, 0)) ∧ arr.toList = flatV vars
  vlen : vars.length = 8
  box : wr.heap[N + 2]? = some (.cells #[sv, .slice (some ⟨N + 1, 0, none⟩) 8 8, .bool false] 28 (0, 0))
  stack : wr.ownsRow (N + 3) 40 2 sv st.length (enc st)
  bk : wr.ownsRow (N + 3) 3 1 bv back.length (encB back)

section
variable {N : Nat} {st vars : List Cell} {back : List Nat} {sv bv : Value} {w0 wr : World}
theorem MS.alloc (h : MS N st vars back sv bv w0 wr) (o : Obj) : MS N st vars back sv bv w0 (wr.alloc o) :=
  ⟨h.base, h.below.alloc (Nat.le_trans (Nat.le_add_right _ _) h.size) o, by have := h.size; simp; omega, block_past h.res o, by obtain ⟨arr, a, b⟩ := h.var; exact ⟨arr, block_past a o, b⟩, h.vlen, block_past h.box o, h.stack.alloc o, h.bk.alloc o⟩
theorem MS.drew (h : MS N st vars back sv bv w0 wr) : MS N st vars back sv bv w0 wr.drew :=
  ⟨h.base, h.below.drew, h.size, h.res, h.var, h.vlen, h.box, h.stack, h.bk⟩
theorem own_shape {w : World} {base : Nat} {e : TypeId} {s : Nat} {v : Value} {n : Nat} {xs : List Value} (h : w.ownsRow base e s v n xs) : ∃ ao cap, v = .slice ao n cap := by
  rcases h.2 with ⟨rfl, rfl⟩ | ⟨g, cap, cur, rfl, _⟩
  · exact ⟨none, 0, rfl⟩
  · exact ⟨_, cap, rfl⟩
theorem own_some {w : World} {base : Nat} {e : TypeId} {s : Nat} {v : Value} {n : Nat} {xs : List Value} (h : w.ownsRow base e s v (n + 1) xs) : ∃ g cap, v = .slice (some ⟨g, 0, none⟩) (n + 1) cap ∧ base ≤ g ∧ n + 1 ≤ cap := by
  rcases h.2 with ⟨_, h0⟩ | ⟨g, cap, cur, rfl, hb, _, hc, _⟩
  · exact absurd h0 (by omega)
  · exact ⟨g, cap, rfl, hb, hc⟩
theorem own_ne {w : World} {base : Nat} {e e' : TypeId} {s s' : Nat} {v v' : Value} {n n' : Nat} {xs xs' : List Value} (h : w.ownsRow base e s v n xs) (h' : w.ownsRow base e' s' v' n' xs') (hne : e ≠ e') : v.ownBlock = none ∨ v.ownBlock ≠ v'.ownBlock := by
  rcases h.2 with ⟨rfl, _⟩ | ⟨g, cap, cur, rfl, _, hg, _⟩
  · exact .inl rfl
  · refine .inr fun e1 => ?_
    rcases h'.2 with ⟨rfl, _⟩ | ⟨g', cap', cur', rfl, _, hg', _⟩
    · cases e1
    · simp only [Value.ownBlock, Option.some.injEq] at e1
      subst e1
      rw [hg] at hg'
      simp only [Option.some.injEq, Obj.cells.injEq] at hg'
      exact hne hg'.2.1
/-- fewer elements of a row -/
theorem own_cut {w : World} {base : Nat} {e : TypeId} {s g cap n m : Nat} {xs ys : List Value} (h : w.ownsRow base e s (.slice (some ⟨g, 0, none⟩) n cap) n (xs ++ ys)) (hx : xs.length = m * s) (hm : m ≤ n) : w.ownsRow base e s (.slice (some ⟨g, 0, none⟩) m cap) m xs := by
  refine ⟨hx, ?_⟩
  rcases h.2 with ⟨h', _⟩ | ⟨g', cap', cur, h', hb, hg, hnc, hcm, hcs, htake⟩
  · simp at h'
  · simp only [Value.slice.injEq, Option.some.injEq, Addr.mk.injEq, and_true, true_and] at h'
    obtain ⟨rfl, rfl⟩ := h'
    refine .inr ⟨g, cap, cur, rfl, hb, hg, by omega, hcm, hcs, ?_⟩
    have h2 := congrArg (List.take (m * s)) htake
    rw [List.take_take, Nat.min_eq_left (Nat.mul_le_mul_right _ hm), ← hx, List.take_left, hx] at h2
    exact h2

/-- a new slice in the box -/
theorem MS.setBox {sv0 sv' : Value} (base : w0.heap.size = N) (below : Below N w0 wr) (size : N + 3 ≤ wr.heap.size)
    (res : wr.heap[N]? = some (.cells #[.slice none 0 0, .slice none 0 0, .bool false] 28 (0, 0)))
    (var : ∃ arr, wr.heap[N + 1]? = some (.cells arr 40 (0, 0)) ∧ arr.toList = flatV vars) (vlen : vars.length = 8)
    (box : wr.heap[N + 2]? = some (.cells #[sv0, .slice (some ⟨N + 1, 0, none⟩) 8 8, .bool false] 28 (0, 0)))
    (stack : wr.ownsRow (N + 3) 40 2 sv' st.length (enc st)) (bk : wr.ownsRow (N + 3) 3 1 bv back.length (encB back)) :
    MS N st vars back sv' bv w0 (wr.setCell ⟨N + 2, 0, none⟩ sv') := by
  refine ⟨base, below.setCell (by show N ≤ N + 2; omega) _, by simpa using size, ?_, ?_, vlen, ?_, ownsRow_setCell_below stack (by show N + 2 < N + 3; omega) _, ownsRow_setCell_below bk (by show N + 2 < N + 3; omega) _⟩
  · exact (heap_setCell_other wr ⟨N + 2, 0, none⟩ N sv' (by show N ≠ N + 2; omega)).trans res
  · obtain ⟨arr, a, b⟩ := var
    exact ⟨arr, (heap_setCell_other wr ⟨N + 2, 0, none⟩ (N + 1) sv' (by show N + 1 ≠ N + 2; omega)).trans a, b⟩
  · exact heap_setCell_same wr (N + 2) 0 _ _ sv' box
theorem MS.push {w' : World} {sv' : Value} {c : Cell} (h : MS N st vars back sv bv w0 wr) (ha : Appended wr (N + 3) 40 2 sv st.length (enc st ++ [.bool c.1, .int .i64 c.2]) sv' w') : MS N (c :: st) vars back sv' bv w0 (w'.setCell ⟨N + 2, 0, none⟩ sv') := by
  have hl := h.stack.lt
  have hk : ∀ k, k < N + 3 → w'.heap[k]? = wr.heap[k]? := fun k hk => ha.grown.block k (Nat.lt_of_lt_of_le hk h.size) fun e => by have := hl k e.symm; omega
  refine MS.setBox (sv0 := sv) h.base (h.below.grown ha.grown (Nat.le_trans (Nat.le_add_right _ _) h.size) fun k e => by have := hl k e; omega) (Nat.le_trans h.size ha.grown.size) ((hk N (by omega)).trans h.res) ?_ h.vlen ((hk _ (by omega)).trans h.box) ?_ (h.bk.kept ha.grown (own_ne h.bk h.stack (by decide)))
  · obtain ⟨arr, a, b⟩ := h.var
    exact ⟨arr, (hk _ (by omega)).trans a, b⟩
  · rw [enc_cons]; exact ha.owns
theorem MS.pop {c : Cell} {t : List Cell} {g n cap : Nat} (h : MS N (c :: t) vars back (.slice (some ⟨g, 0, none⟩) n cap) bv w0 wr) (hn : n = t.length + 1) : MS N t vars back (.slice (some ⟨g, 0, none⟩) (n - 1) cap) bv w0 (wr.setCell ⟨N + 2, 0, none⟩ (.slice (some ⟨g, 0, none⟩) (n - 1) cap)) := by
  subst hn
  have hs := h.stack
  rw [enc_cons] at hs
  exact MS.setBox h.base h.below h.size h.res h.var h.vlen h.box (own_cut hs (enc_len t) (by simp)) h.bk
theorem MS.top {c : Cell} {t : List Cell} {g n cap : Nat} (h : MS N (c :: t) vars back (.slice (some ⟨g, 0, none⟩) n cap) bv w0 wr) (hn : n = t.length + 1) : wr.cell? ⟨g, (n - 1) * 2, none⟩ = some (.bool c.1) ∧ wr.cell? ⟨g, (n - 1) * 2 + 1, none⟩ = some (.int .i64 c.2) ∧ wr.frozen? ⟨g, (n - 1) * 2, none⟩ = false ∧ wr.frozen? ⟨g, (n - 1) * 2 + 1, none⟩ = false := by
  subst hn
  have hs := h.stack
  rw [enc_cons] at hs
  have hl := enc_len t
  simp only [List.length_cons] at hs
  refine ⟨(hs.cellAt _ (by omega)).trans ?_, (hs.cellAt _ (by omega)).trans ?_, hs.frozenAt _, hs.frozenAt _⟩
  · rw [List.getElem?_append_right (by omega), show (t.length + 1 - 1) * 2 - (enc t).length = 0 by omega]; rfl
  · rw [List.getElem?_append_right (by omega), show (t.length + 1 - 1) * 2 + 1 - (enc t).length = 1 by omega]; rfl
theorem MS.setTop {c : Cell} {t : List Cell} {g n cap : Nat} (h : MS N (c :: t) vars back (.slice (some ⟨g, 0, none⟩) n cap) bv w0 wr) (hn : n = t.length + 1) (d : Cell) :
    MS N (d :: t) vars back (.slice (some ⟨g, 0, none⟩) n cap) bv w0 ((wr.setCell ⟨g, (n - 1) * 2, none⟩ (.bool d.1)).setCell ⟨g, (n - 1) * 2 + 1, none⟩ (.int .i64 d.2)) := by
  subst hn
  have hs := h.stack
  have hge := (hs.lt g rfl).1
  rw [enc_cons] at hs
  have hl := enc_len t
  simp only [List.length_cons] at hs
  obtain ⟨s1, g1⟩ := hs.stored ((t.length + 1 - 1) * 2) (.bool d.1)
  obtain ⟨s2, g2⟩ := s1.stored ((t.length + 1 - 1) * 2 + 1) (.int .i64 d.2)
  have e : ((enc t ++ [Value.bool c.1, Value.int .i64 c.2]).set ((t.length + 1 - 1) * 2) (.bool d.1)).set ((t.length + 1 - 1) * 2 + 1) (.int .i64 d.2) = enc (d :: t) := by
    rw [enc_cons, List.set_append_right _ _ (by omega), List.set_append_right _ _ (by omega), show (t.length + 1 - 1) * 2 - (enc t).length = 0 by omega, show (t.length + 1 - 1) * 2 + 1 - (enc t).length = 1 by omega]
    rfl
  rw [e] at s2
  have hne := own_ne h.bk h.stack (by decide)
  have hk : ∀ k, k < N + 3 → ((wr.setCell ⟨g, (t.length + 1 - 1) * 2, none⟩ (.bool d.1)).setCell ⟨g, (t.length + 1 - 1) * 2 + 1, none⟩ (.int .i64 d.2)).heap[k]? = wr.heap[k]? := fun k hk =>
    (heap_setCell_other _ _ k _ (by show k ≠ g; omega)).trans (heap_setCell_other _ _ k _ (by show k ≠ g; omega))
  refine ⟨h.base, (h.below.setCell (by show N ≤ g; omega) _).setCell (by show N ≤ g; omega) _, by simpa using h.size, (hk _ (by omega)).trans h.res, ?_, h.vlen, (hk _ (by omega)).trans h.box, s2, (h.bk.kept g1 hne).kept g2 hne⟩
  obtain ⟨arr, a, b⟩ := h.var
  exact ⟨arr, (hk _ (by omega)).trans a, b⟩
theorem MS.getVar (h : MS N st vars back sv bv w0 wr) (i : Nat) (hi : i < 8) : wr.cell? ⟨N + 1, i * 2, none⟩ = some (.bool (vars.getD i (false, 0)).1) ∧ wr.cell? ⟨N + 1, i * 2 + 1, none⟩ = some (.int .i64 (vars.getD i (false, 0)).2) ∧ wr.frozen? ⟨N + 1, i * 2, none⟩ = false ∧ wr.frozen? ⟨N + 1, i * 2 + 1, none⟩ = false := by
  obtain ⟨arr, a, b⟩ := h.var
  have hv := h.vlen
  obtain ⟨q1, q2⟩ := flatV_get vars i (by omega)
  have e : vars.getD i (false, 0) = vars[i]'(by omega) := by simp [List.getD, show i < vars.length by omega]
  rw [e]
  refine ⟨cell_of a _ ?_, cell_of a _ ?_, free_of a _, free_of a _⟩
  · rw [← b] at q1; simpa using q1
  · rw [← b] at q2; simpa using q2
theorem MS.setVar (h : MS N st vars back sv bv w0 wr) (i : Nat) (c : Cell) : MS N st (vars.set i c) back sv bv w0 ((wr.setCell ⟨N + 1, i * 2, none⟩ (.bool c.1)).setCell ⟨N + 1, i * 2 + 1, none⟩ (.int .i64 c.2)) := by
  obtain ⟨arr, a, b⟩ := h.var
  have hk : ∀ k, k ≠ N + 1 → ((wr.setCell ⟨N + 1, i * 2, none⟩ (.bool c.1)).setCell ⟨N + 1, i * 2 + 1, none⟩ (.int .i64 c.2)).heap[k]? = wr.heap[k]? := fun k hk =>
    (heap_setCell_other _ _ k _ hk).trans (heap_setCell_other _ _ k _ hk)
  refine ⟨h.base, (h.below.setCell (by show N ≤ N + 1; omega) _).setCell (by show N ≤ N + 1; omega) _, by simpa using h.size, (hk _ (by omega)).trans h.res, ?_, by simpa using h.vlen, (hk _ (by omega)).trans h.box, ownsRow_setCell_below (ownsRow_setCell_below h.stack (by show N + 1 < N + 3; omega) _) (by show N + 1 < N + 3; omega) _, ownsRow_setCell_below (ownsRow_setCell_below h.bk (by show N + 1 < N + 3; omega) _) (by show N + 1 < N + 3; omega) _⟩
  refine ⟨_, heap_setCell_same _ (N + 1) _ _ _ _ (heap_setCell_same wr (N + 1) _ _ _ _ a), ?_⟩
  rw [Array.toList_setIfInBounds, Array.toList_setIfInBounds, b, flatV_set]
theorem MS.call {w' : World} {bv' : Value} {p : Nat} (h : MS N st vars back sv bv w0 wr) (ha : Appended wr (N + 3) 3 1 bv back.length (encB back ++ [.int .i64 (p : Int)]) bv' w') : MS N st vars (p :: back) sv bv' w0 w' := by
  have hl := h.bk.lt
  have hk : ∀ k, k < N + 3 → w'.heap[k]? = wr.heap[k]? := fun k hk => ha.grown.block k (Nat.lt_of_lt_of_le hk h.size) fun e => by have := hl k e.symm; omega
  refine ⟨h.base, h.below.grown ha.grown (Nat.le_trans (Nat.le_add_right _ _) h.size) fun k e => by have := hl k e; omega, Nat.le_trans h.size ha.grown.size, (hk N (by omega)).trans h.res, ?_, h.vlen, (hk _ (by omega)).trans h.box, h.stack.kept ha.grown (own_ne h.stack h.bk (by decide)), ?_⟩
  · obtain ⟨arr, a, b⟩ := h.var
    exact ⟨arr, (hk _ (by omega)).trans a, b⟩
  · rw [encB_cons]; exact ha.owns
theorem MS.ret {p : Nat} {r : List Nat} {g m cap : Nat} (h : MS N st vars (p :: r) sv (.slice (some ⟨g, 0, none⟩) m cap) w0 wr) (hm : m = r.length + 1) : MS N st vars r sv (.slice (some ⟨g, 0, none⟩) (m - 1) cap) w0 wr ∧ wr.cell? ⟨g, m - 1, none⟩ = some (.int .i64 (p : Int)) := by
  subst hm
  have hs := h.bk
  rw [encB_cons] at hs
  have hl := encB_len r
  refine ⟨⟨h.base, h.below, h.size, h.res, h.var, h.vlen, h.box, h.stack, own_cut hs (by simpa using hl) (by simp)⟩, ?_⟩
  simp only [List.length_cons] at hs
  refine (hs.cellAt _ (by omega)).trans ?_
  rw [List.getElem?_append_right (by omega), show r.length + 1 - 1 - (encB r).length = 0 by omega]
  rfl
end

section
variable {N : Nat} {st vars : List Cell} {back : List Nat} {sv bv : Value} {w0 wr : World}
theorem MS.pos {c : Cell} {t : List Cell} {ao : Option Addr} {n cap : Nat} (h : MS N (c :: t) vars back (.slice ao n cap) bv w0 wr) : ∃ g, ao = some ⟨g, 0, none⟩ ∧ n = t.length + 1 ∧ n ≤ cap ∧ N + 3 ≤ g ∧ g < wr.heap.size := by
  obtain ⟨g, cap', e, h1, h2⟩ := own_some h.stack
  cases e
  exact ⟨g, rfl, rfl, h2, h1, (h.stack.lt g rfl).2⟩
theorem MS.bpos {p : Nat} {r : List Nat} {ao : Option Addr} {n cap : Nat} (h : MS N st vars (p :: r) sv (.slice ao n cap) w0 wr) : ∃ g, ao = some ⟨g, 0, none⟩ ∧ n = r.length + 1 ∧ n ≤ cap ∧ N + 3 ≤ g ∧ g < wr.heap.size := by
  obtain ⟨g, cap', e, h1, h2⟩ := own_some h.bk
  cases e
  exact ⟨g, rfl, rfl, h2, h1, (h.bk.lt g rfl).2⟩
theorem MS.slen {ao : Option Addr} {n cap : Nat} (h : MS N st vars back (.slice ao n cap) bv w0 wr) : n = st.length := by
  rcases h.stack.2 with ⟨e, e2⟩ | ⟨g, cap, cur, e, _⟩
  · cases e; exact e2.symm
  · cases e; rfl
theorem MS.boxPush {w' : World} {sv' : Value} {ys : List Value} (h : MS N st vars back sv bv w0 wr) (ha : Appended wr (N + 3) 40 2 sv st.length ys sv' w') : w'.heap[N + 2]? = some (.cells #[sv, .slice (some ⟨N + 1, 0, none⟩) 8 8, .bool false] 28 (0, 0)) := by
  have hl := h.stack.lt
  exact (ha.grown.block _ (Nat.lt_of_lt_of_le (by omega) h.size) fun e => by have := hl _ e.symm; omega).trans h.box
end
theorem infoInt : (Try.prog.info? 3).map (fun i => (i.zero, i.size, i.bytes)) = some (some (.int .i64 0), 1, 8) := by kernel_rfl
theorem cells_one (b : Bool) (v : Int) : ∀ u ∈ [Value.bool b, Value.int .i64 v], u.oneCell' = true := by
  intro u hu
  rcases List.mem_cons.1 hu with rfl | hu
  · rfl
  · rcases List.mem_cons.1 hu with rfl | hu
    · rfl
    · cases hu
theorem int_one (v : Int) : ∀ u ∈ [Value.int .i64 v], u.oneCell' = true := by
  intro u hu
  rcases List.mem_cons.1 hu with rfl | hu
  · rfl
  · cases hu
theorem is3 {w : World} {b : Nat} {a0 a1 a2 : Value} {t : TypeId} (h : w.heap[b]? = some (.cells #[a0, a1, a2] t (0, 0))) : (w.cell? ⟨b, 0, none⟩).isSome = true ∧ (w.cell? ⟨b, 1, none⟩).isSome = true ∧ (w.cell? ⟨b, 2, none⟩).isSome = true := by
  have hc := cells3 h
  rw [hc.1.1, hc.1.2.1, hc.1.2.2]
  exact ⟨rfl, rfl, rfl⟩
theorem blk_kept {wr wa w' : World} {base : Nat} {e : TypeId} {sz : Nat} {v v' : Value} {n n' : Nat} {xs ys : List Value} {o : Obj} {b : Nat} (hown : wr.ownsRow base e sz v n xs) (z : wa.heap[b]? = some o) (hb : wr.heap.size ≤ b) (hap : Appended wa base e sz v n' ys v' w') : w'.heap[b]? = some o :=
  (hap.grown.block b (heap_lt z) (fun e => by have := (hown.lt b e.symm).2; omega)).trans z
theorem exec_back {x : Ins} (h : x.op = 14) (s : Sta) : exec x s = .fin ⟨s.st, s.vars, false⟩ := by
  unfold exec
  rw [h]
  rfl
theorem exec_store {x : Ins} (h : x.op = 6) (s : Sta) : exec x s = match s.st with | [] => .bad | c :: t => if 0 ≤ x.a ∧ x.a < 8 then .go { s with pc := s.pc + 1, st := t, vars := s.vars.set x.a.toNat c } else .bad := by
  unfold exec
  rw [h]
  rfl
theorem nat_int {x : Int} (h : 0 ≤ x) : Value.int .i64 x = .int .i64 ((x.toNat : Nat) : Int) := by rw [Int.toNat_of_nonneg h]
/-- a Final that was returned -/
def RF (N : Nat) (f : Fin) (v : Value) (w : World) : Prop := ∃ sv gv arr, v = .agg #[sv, .slice (some ⟨gv, 0, none⟩) 8 8, .bool f.ret] ∧ N ≤ gv ∧ w.heap[gv]? = some (.cells arr 40 (0, 0)) ∧ arr.toList = flatV f.vars ∧ f.vars.length = 8 ∧ w.ownsRow N 40 2 sv f.st.length (enc f.st)
theorem RF.keep {N B : Nat} {f : Fin} {v : Value} {w w' : World} (h : RF N f v w) (hb : Below w.heap.size w w') : RF N f v w' := by
  obtain ⟨sv, gv, arr, rfl, h1, h2, h3, h4, h5⟩ := h
  refine ⟨sv, gv, arr, rfl, h1, Op.keep hb h2, h3, h4, h5.1, ?_⟩
  rcases h5.2 with hn | ⟨g, cap, cur, e, a, b, rest⟩
  · exact .inl hn
  · exact .inr ⟨g, cap, cur, e, a, Op.keep hb b, rest⟩

theorem MS.fin {N : Nat} {st vars : List Cell} {back : List Nat} {sv bv : Value} {w0 wr w' : World} (h : MS N st vars back sv bv w0 wr) (r : Bool) (hb : ∀ b, N < b → b ≠ N + 2 → w'.heap[b]? = wr.heap[b]?) : RF N ⟨st, vars, r⟩ (.agg #[sv, .slice (some ⟨N + 1, 0, none⟩) 8 8, .bool r]) w' := by
  obtain ⟨arr, a, b⟩ := h.var
  refine ⟨sv, N + 1, arr, rfl, by omega, (hb _ (by omega) (by omega)).trans a, b, h.vlen, h.stack.1, ?_⟩
  rcases h.stack.2 with hn | ⟨g, cap, cur, e, a, b, rest⟩
  · exact .inl hn
  · exact .inr ⟨g, cap, cur, e, by omega, (hb _ (by omega) (by omega)).trans b, rest⟩

/-- where the machine begins -/
def st0 : Sta := ⟨0, [], List.replicate 8 (false, 0), []⟩
/-- what Means returns -/
def MeansEnd (l : List Ins) (w : World) (e : Ending) (w' : World) : Prop :=
  ∃ v b, e = .returned (.tuple #[v, .bool b]) ∧ Below w.heap.size w w' ∧ ((b = false ∧ run l 400 st0 = none ∧ v = .agg #[.slice none 0 0, .slice none 0 0, .bool false]) ∨ ∃ f, b = true ∧ run l 400 st0 = some f ∧ RF w.heap.size f v w')
def LoopF (l : List Ins) (w0 : World) (vb vp vn : Value) (wr : World) : Prop :=
  ∃ (k : Nat) (s : Sta) (sv : Value), vn = .int .i64 k ∧ k ≤ 400 ∧ vp = .int .i64 s.pc ∧ s.st.length ≤ k ∧ s.back.length ≤ k ∧ MS w0.heap.size s.st s.vars s.back sv vb w0 wr ∧ run l 400 st0 = run l (400 - k) s
theorem loopF_next {l : List Ins} {w0 wr : World} {k : Nat} {s s' : Sta} {sv vb vp : Value} {x : Ins} (hk : k < 400) (hx : l[s.pc]? = some x) (hr : run l 400 st0 = run l (400 - k) s) (he : exec x s = .go s') (hp : vp = .int .i64 s'.pc)
    (hs : s'.st.length ≤ k + 1) (hb : s'.back.length ≤ k + 1) (hm : MS w0.heap.size s'.st s'.vars s'.back sv vb w0 wr) : LoopF l w0 vb vp (.int .i64 ((k : Int) + 1)) wr := by
  refine ⟨k + 1, s', sv, rfl, hk, hp, hs, hb, hm, ?_⟩
  rw [hr, show 400 - k = (400 - (k + 1)) + 1 by omega, run_go hx he]
theorem loopF_bad {l : List Ins} {k : Nat} {s : Sta} {x : Ins} (hk : k < 400) (hx : l[s.pc]? = some x) (hr : run l 400 st0 = run l (400 - k) s) (he : exec x s = .bad) : run l 400 st0 = none := by
  rw [hr, show 400 - k = (400 - (k + 1)) + 1 by omega, run_at hx, he]
  rfl
theorem loopF_fin {l : List Ins} {k : Nat} {s : Sta} {x : Ins} {f : Fin} (hk : k < 400) (hx : l[s.pc]? = some x) (hr : run l 400 st0 = run l (400 - k) s) (he : exec x s = .fin f) : run l 400 st0 = some f := by
  rw [hr, show 400 - k = (400 - (k + 1)) + 1 by omega, run_at hx, he]
  rfl
theorem loopF_out {l : List Ins} {k : Nat} {s : Sta} (hk : k < 400) (hx : l.length ≤ s.pc) (hr : run l 400 st0 = run l (400 - k) s) : run l 400 st0 = none := by
  rw [hr, show 400 - k = (400 - (k + 1)) + 1 by omega, run, List.getElem?_eq_none hx]

theorem cells_info : (Try.prog.info? 40).map (fun i => (i.zero, i.size, i.bytes)) = some (some (.agg #[.bool false, .int .i64 0]), 2, 16) := by kernel_rfl
/-- the variables' row, as it is made -/
def row8 : Array Value := #[.bool false, .int .i64 0, .bool false, .int .i64 0, .bool false, .int .i64 0, .bool false, .int .i64 0, .bool false, .int .i64 0, .bool false, .int .i64 0, .bool false, .int .i64 0, .bool false, .int .i64 0]
@[go_sem] theorem make8 (w : World) : (Instr.makeSlice 26 (.int .i64 8) (.int .i64 8)).run Try.prog w = .ok (.slice (some ⟨w.heap.size, 0, none⟩) 8 8) (w.alloc (.cells row8 40)) := by
  obtain ⟨i, hi, hz, h1, h2⟩ := info_parts cells_info
  have hr := run_make (P := Try.prog) w 26 40 i _ (by kernel_rfl) hi hz .i64 .i64 8 8 (by decide) (by decide) (by rw [h2]; decide) (by decide)
  rw [h1] at hr
  have e : madeCells (Value.cells (.agg #[.bool false, .int .i64 0])) ((8 : Int).toNat * 2) = row8 := by
    apply Array.ext'
    unfold madeCells
    rw [Array.toList_map, Array.toList_range]
    rfl
  rw [e] at hr
  exact hr
theorem MS.start (w : World) : MS w.heap.size st0.st st0.vars st0.back (.slice none 0 0) (.slice none 0 0) w (((w.alloc (.cells #[.slice none 0 0, .slice none 0 0, .bool false] 28)).alloc (.cells row8 40)).alloc (.cells #[.slice none 0 0, .slice (some ⟨w.heap.size + 1, 0, none⟩) 8 8, .bool false] 28)) := by
  have h1 := block_new w #[.slice none 0 0, .slice none 0 0, .bool false] 28
  have b1 := below_alloc w (.cells #[.slice none 0 0, .slice none 0 0, .bool false] 28)
  have s1 : (w.alloc (.cells #[.slice none 0 0, .slice none 0 0, .bool false] 28)).heap.size = w.heap.size + 1 := by simp
  generalize w.alloc (.cells #[.slice none 0 0, .slice none 0 0, .bool false] 28) = w1 at h1 b1 s1 ⊢
  have h2 := block_new w1 row8 40
  have s2 : (w1.alloc (.cells row8 40)).heap.size = w.heap.size + 2 := by simp [s1]
  have h1' := block_past h1 (.cells row8 40)
  have b2 := b1.alloc (by omega) (.cells row8 40)
  rw [s1] at h2
  generalize w1.alloc (.cells row8 40) = w2 at h1' h2 b2 s2 ⊢
  have h3 := block_new w2 #[.slice none 0 0, .slice (some ⟨w.heap.size + 1, 0, none⟩) 8 8, .bool false] 28
  rw [s2] at h3
  exact ⟨rfl, b2.alloc (by omega) _, by simp [s2], block_past h1' _, ⟨_, block_past h2 _, rfl⟩, rfl, h3, World.ownsRow_nil _ _ _ _, World.ownsRow_nil _ _ _ _⟩

end Go.Proofs.Ytnlndpgbhmkanaa.Op
