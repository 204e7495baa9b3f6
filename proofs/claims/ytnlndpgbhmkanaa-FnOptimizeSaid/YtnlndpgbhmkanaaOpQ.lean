/-
  THE WALK of Optimize.
-/
import Derived.Test.YtnlndpgbhmkanaaOpP
import Derived.Test.YtnlndpgbhmkanaaOpJ
namespace Go.Proofs.Ytnlndpgbhmkanaa.Op
open Go.RowKit
set_option linter.unusedVariables false
set_option linter.unusedSimpArgs false

theorem stepCall_len (l : List Ins) (i : Nat) (x : Ins) (pcs : List Nat) (sc : Nat → Option Bool) : (stepCall l i x pcs sc).length = l.length := by
  unfold stepCall
  repeat' (first | split | simp)
theorem callsFrom_len : ∀ (n i : Nat) (l : List Ins) (pcs : List Nat) (sc : Nat → Option Bool), (callsFrom n i l pcs sc).length = l.length
  | 0, _, _, _, _ => rfl
  | n + 1, i, l, pcs, sc => by
    unfold callsFrom
    cases l[i]? with
    | none => rfl
    | some x =>
      dsimp only
      split
      · exact callsFrom_len n _ _ _ _
      · split
        · rw [callsFrom_len n _ _ _ _, stepCall_len]
        · split
          · split
            · rfl
            · exact callsFrom_len n _ _ _ _
          · exact callsFrom_len n _ _ _ _
theorem opsFrom_len : ∀ (i : Nat) (l : List Ins), (opsFrom l i).length = l.length
  | 0, _ => rfl
  | i + 1, l => by rw [opsFrom, opsFrom_len i, stepOps_len]
theorem calls_any (w0 w : World) (N : Nat) (l0 : List Ins) (ps0 : List Nat) (sv : Value) (h : RC w0 N l0 ps0 sv w) (hok : StepsOk l0) (hne : l0 ≠ []) :
    Calls Try.prog 19 #[ptr N] w (AppEnd w0 N (callsFrom l0.length 0 l0 [] nosc)) := by
  have H := Lib.hid (tailRec_any w0 w N l0 ps0 sv h (fun p z _ hz ho => hok.inv.fwd p z hz (.inl ho)) hne hok.len)
  clear h hok hne
  unfold ptr at H ⊢
  go_enter Try.func19, Try.ntmps19
  go_wp2_with fail
  refine H.out.mono ?_
  rintro e w' ⟨ps, sv, rfl, hr⟩
  have HR := Lib.hid hr
  clear hr
  go_wp2_with fail
  go_returns
  exact ⟨_, _, rfl, HR.out⟩
theorem ops_any (w0 w : World) (N : Nat) (l0 : List Ins) (ps0 : List Nat) (sv : Value) (h : RC w0 N l0 ps0 sv w) (hok : StepsOk l0) (hne : l0 ≠ []) :
    Calls Try.prog 20 #[ptr N] w (AppEnd w0 N (opsFrom l0 l0.length)) := by
  have H := Lib.hid (codeOps_any w0 w N l0 ps0 sv h hok.inv hok.last hne hok.len)
  clear h hok hne
  unfold ptr at H ⊢
  go_enter Try.func20, Try.ntmps20
  go_wp2_with fail
  refine H.out.mono ?_
  rintro e w' ⟨ps, sv, rfl, hr⟩
  have HR := Lib.hid hr
  clear hr
  go_wp2_with fail
  go_returns
  exact ⟨_, _, rfl, HR.out⟩

/-- the list that is handed back: its first k instructions are there -/
def OutR (m : List Ins) (g k : Nat) (wr : World) : Prop :=
  ∃ arr : Array Value, wr.heap[g]? = some (.cells arr 36 (0, 0)) ∧ arr.size = m.length * 4 ∧ ∀ (i : Nat) (x : Ins), i < k → m[i]? = some x → arr[i * 4]? = some (.int .i64 x.op) ∧ arr[i * 4 + 1]? = some (.int .i64 x.a) ∧ arr[i * 4 + 2]? = some (.int .i64 x.b) ∧ arr[i * 4 + 3]? = some (.int .i64 x.c)
theorem OutR.keep {m : List Ins} {g k : Nat} {w w' : World} (h : OutR m g k w) (hb : Below w.heap.size w w') : OutR m g k w' := by
  obtain ⟨arr, h1, h2, h3⟩ := h
  exact ⟨arr, Op.keep hb h1, h2, h3⟩
theorem OutR.lt {m : List Ins} {g k : Nat} {w : World} (h : OutR m g k w) : g < w.heap.size := by
  obtain ⟨arr, h1, _⟩ := h
  exact heap_lt h1
theorem OutR.cells {m : List Ins} {g k : Nat} {w : World} (h : OutR m g k w) (hk : k < m.length) : ∃ u0 u1 u2 u3, (w.cell? ⟨g, k * 4, none⟩ = some u0 ∧ w.cell? ⟨g, k * 4 + 1, none⟩ = some u1 ∧ w.cell? ⟨g, k * 4 + 2, none⟩ = some u2 ∧ w.cell? ⟨g, k * 4 + 3, none⟩ = some u3) ∧
    w.frozen? ⟨g, k * 4, none⟩ = false ∧ w.frozen? ⟨g, k * 4 + 1, none⟩ = false ∧ w.frozen? ⟨g, k * 4 + 2, none⟩ = false ∧ w.frozen? ⟨g, k * 4 + 3, none⟩ = false := by
  obtain ⟨arr, h1, h2, _⟩ := h
  have hc : ∀ j, j < arr.size → ∃ u, w.cell? ⟨g, j, none⟩ = some u := fun j hj => ⟨arr[j], cell_of h1 j (by rw [Array.getElem?_eq_getElem hj])⟩
  obtain ⟨u0, e0⟩ := hc (k * 4) (by omega)
  obtain ⟨u1, e1⟩ := hc (k * 4 + 1) (by omega)
  obtain ⟨u2, e2⟩ := hc (k * 4 + 2) (by omega)
  obtain ⟨u3, e3⟩ := hc (k * 4 + 3) (by omega)
  exact ⟨u0, u1, u2, u3, ⟨e0, e1, e2, e3⟩, free_of h1 _, free_of h1 _, free_of h1 _, free_of h1 _⟩
theorem RC.setOut {w0 w : World} {N g j : Nat} {l : List Ins} {ps : List Nat} {sv v : Value} {arr : Array Value} (h : RC w0 N l ps sv w) (hg : w.heap[g]? = some (.cells arr 36 (0, 0))) (hN : N < g) : RC w0 N l ps sv (w.setCell ⟨g, j, none⟩ v) :=
  h.grown (row := some g) ⟨rfl, rfl, rfl, by simp, fun k _ hk => heap_setCell_other _ _ k _ (fun e => hk (by rw [e]))⟩ (fun b cs t hb ht e => by
    obtain rfl := Option.some.inj e
    rw [hb] at hg
    simp only [Option.some.injEq, Obj.cells.injEq] at hg
    have := hg.2.1
    rcases ht with rfl | rfl | rfl <;> exact absurd this (by decide)) (fun k e => by obtain rfl := Option.some.inj e; exact hN)
def put4 (w : World) (g k : Nat) (x : Ins) : World := (((w.setCell ⟨g, k * 4, none⟩ (.int .i64 x.op)).setCell ⟨g, k * 4 + 1, none⟩ (.int .i64 x.a)).setCell ⟨g, k * 4 + 2, none⟩ (.int .i64 x.b)).setCell ⟨g, k * 4 + 3, none⟩ (.int .i64 x.c)
theorem put4_ok {w0 w : World} {N g k : Nat} {l m : List Ins} {ps : List Nat} {sv : Value} {x : Ins} (h : RC w0 N l ps sv w) (ho : OutR m g k w) (hN : N < g) (hx : m[k]? = some x) : RC w0 N l ps sv (put4 w g k x) ∧ OutR m g (k + 1) (put4 w g k x) := by
  obtain ⟨arr, h1, h2, h3⟩ := ho
  have a1 := heap_setCell_same w g (k * 4) _ _ (.int .i64 x.op) h1
  have a2 := heap_setCell_same _ g (k * 4 + 1) _ _ (.int .i64 x.a) a1
  have a3 := heap_setCell_same _ g (k * 4 + 2) _ _ (.int .i64 x.b) a2
  have a4 := heap_setCell_same _ g (k * 4 + 3) _ _ (.int .i64 x.c) a3
  refine ⟨(((h.setOut h1 hN).setOut a1 hN).setOut a2 hN).setOut a3 hN, _, a4, by simp [h2], fun i y hi hy => ?_⟩
  have hkm : k < m.length := (List.getElem?_eq_some_iff.1 hx).1
  by_cases e : i = k
  · subst e
    rw [hx] at hy
    obtain rfl := Option.some.inj hy
    simp only [Array.getElem?_setIfInBounds, Array.size_setIfInBounds]
    refine ⟨?_, ?_, ?_, ?_⟩ <;> simp [h2] <;> omega
  · have := h3 i y (by omega) hy
    simp only [Array.getElem?_setIfInBounds, Array.size_setIfInBounds]
    rw [if_neg (by omega), if_neg (by omega), if_neg (by omega), if_neg (by omega), if_neg (by omega), if_neg (by omega), if_neg (by omega), if_neg (by omega), if_neg (by omega), if_neg (by omega), if_neg (by omega), if_neg (by omega), if_neg (by omega), if_neg (by omega), if_neg (by omega), if_neg (by omega)]
    exact this
theorem OutR.done {m : List Ins} {g : Nat} {w : World} (h : OutR m g m.length w) : RI w (fun b => b = g) m (some ⟨g, 0, none⟩) := by
  obtain ⟨arr, h1, h2, h3⟩ := h
  intro i hi
  obtain ⟨e0, e1, e2, e3⟩ := h3 i _ hi (List.getElem?_eq_getElem hi)
  exact ⟨g, 0, rfl, rfl, cell_of h1 _ (by rw [Nat.zero_add]; exact e0), cell_of h1 _ (by rw [Nat.zero_add]; exact e1), cell_of h1 _ (by rw [Nat.zero_add]; exact e2), cell_of h1 _ (by rw [Nat.zero_add]; exact e3)⟩
end Go.Proofs.Ytnlndpgbhmkanaa.Op
