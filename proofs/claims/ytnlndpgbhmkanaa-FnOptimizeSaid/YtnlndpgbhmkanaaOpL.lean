/-
  THE WALKS of ZzNewCompiler, ZzAppend, ZzAt: a compiler, an instruction more, an instruction read.
-/
import Derived.Test.YtnlndpgbhmkanaaOpK
namespace Go.Proofs.Ytnlndpgbhmkanaa.Op
open Go.RowKit
set_option linter.unusedVariables false
set_option linter.unusedSimpArgs false

theorem RC.lt {w0 w : World} {N : Nat} {l : List Ins} {ps : List Nat} {sv : Value} (h : RC w0 N l ps sv w) : ∀ p ∈ ps, p < w.heap.size := by
  intro p hp
  obtain ⟨i, hi, rfl⟩ := List.getElem_of_mem hp
  have hil : i < l.length := by rw [← h.len]; exact hi
  obtain ⟨q, hq, v, _, hc⟩ := h.codes i _ (List.getElem?_eq_getElem hil)
  rw [List.getElem?_eq_getElem hi] at hq
  obtain rfl := Option.some.inj hq
  exact heap_lt hc
theorem RC.ne_own {w0 w : World} {N : Nat} {l : List Ins} {ps : List Nat} {sv : Value} (h : RC w0 N l ps sv w) {q : Nat} {cs : Array Value} {t : TypeId} (hq : w.heap[q]? = some (.cells cs t (0, 0))) (ht : t ≠ 60) : some q ≠ sv.ownBlock := by
  intro e
  rcases h.row.2 with ⟨rfl, _⟩ | ⟨g, cap, cur, rfl, _, hg2, _⟩
  · cases e
  · simp only [Value.ownBlock, Option.some.injEq] at e
    subst e
    rw [hq] at hg2
    simp only [Option.some.injEq, Obj.cells.injEq] at hg2
    exact ht hg2.2.1
theorem RC.app {w0 w w' : World} {N : Nat} {l : List Ins} {ps : List Nat} {sv sv' v : Value} {x : Ins} {p : Nat} (h : RC w0 N l ps sv w) (hv : OV x v) (hc : w.heap[p]? = some (.cells #[v, .int .i64 x.op] 63 (0, 0))) (hp : N < p) (hnew : p ∉ ps)
    (ha : Appended w (N + 1) 60 1 sv l.length (ps.map ptr ++ [ptr p]) sv' w') : RC w0 N (l ++ [x]) (ps ++ [p]) sv' (w'.setCell ⟨N, 1, none⟩ sv') := by
  have hb : ∀ {q : Nat} {cs : Array Value} {t : TypeId}, w.heap[q]? = some (.cells cs t (0, 0)) → t ≠ 60 → q ≠ N → (w'.setCell ⟨N, 1, none⟩ sv').heap[q]? = some (.cells cs t (0, 0)) := fun hq ht hn =>
    (heap_setCell_other _ _ _ _ hn).trans ((ha.grown.block _ (heap_lt hq) (h.ne_own hq ht)).trans hq)
  have hbox : w'.heap[N]? = some (.cells (compBox sv) 58 (0, 0)) := (ha.grown.block N h.size (h.ne_own h.box (by decide))).trans h.box
  refine ⟨h.base, (h.below.grown ha.grown h.below.size fun k hk => ?_).setCell h.base _, ?_, heap_setCell_same w' N 1 _ _ _ hbox, ?_, ?_, ?_, fun i y hy => ?_⟩
  · have := (h.row.lt k hk).1; have := h.base; omega
  · have := ha.grown.size; have := h.size; simp; omega
  · rw [List.length_append, List.map_append]
    exact ownsRow_setCell_below ha.owns (by show N < N + 1; omega) _
  · rw [List.nodup_append]
    exact ⟨h.nodup, by simp, fun a hap b hb => by simp at hb; subst hb; rintro rfl; exact hnew hap⟩
  · intro q hq
    rcases List.mem_append.1 hq with hq | hq
    · exact h.lo q hq
    · simp at hq; subst hq; exact hp
  · rcases Nat.lt_or_ge i l.length with hi | hi
    · rw [List.getElem?_append_left hi] at hy
      obtain ⟨q, hq, u, hu, hc2⟩ := h.codes i y hy
      exact ⟨q, by rw [List.getElem?_append_left (by rw [h.len]; exact hi)]; exact hq, u, hu, hb hc2 (by decide) (by have := h.lo q (List.mem_of_getElem? hq); omega)⟩
    · rw [List.getElem?_append_right hi] at hy
      have hi0 : i - l.length = 0 := by
        rcases Nat.eq_zero_or_pos (i - l.length) with e | e
        · exact e
        · rw [List.getElem?_eq_none (by simp; omega)] at hy; cases hy
      rw [hi0] at hy
      obtain rfl := Option.some.inj hy
      exact ⟨p, by rw [List.getElem?_append_right (by rw [h.len]; exact hi), h.len, hi0]; rfl, v, hv, hb hc (by decide) (by omega)⟩

theorem RC.boxA {w0 w w' : World} {N : Nat} {l : List Ins} {ps : List Nat} {sv sv' : Value} {ys : List Value} (h : RC w0 N l ps sv w) (ha : Appended w (N + 1) 60 1 sv l.length ys sv' w') : w'.cell? ⟨N, 1, none⟩ = some sv ∧ w'.frozen? ⟨N, 1, none⟩ = false :=
  have hb := (ha.grown.block N h.size (h.ne_own h.box (by decide))).trans h.box
  ⟨cell_of hb 1 rfl, free_of hb 1⟩
def NewEnd (w : World) (e : Ending) (w' : World) : Prop := e = .returned (ptr w.heap.size) ∧ w' = w.alloc (.cells (compBox (.slice none 0 0)) 58)
theorem new_any (w : World) : Calls Try.prog 16 #[] w (NewEnd w) := by
  go_enter Try.func16, Try.ntmps16
  go_wp2_with fail
  go_returns
  exact ⟨rfl, rfl⟩
theorem RC.new (w0 w : World) (hb : Below w0.heap.size w0 w) : RC w0 w.heap.size [] [] (.slice none 0 0) (w.alloc (.cells (compBox (.slice none 0 0)) 58)) :=
  ⟨hb.size, hb.alloc hb.size _, by simp, block_new _ _ _, World.ownsRow_nil _ _ _ _, by simp, by simp, fun i x hx => by simp at hx⟩

theorem codes_info : (Try.prog.info? 60).map (fun i => (i.zero, i.size, i.bytes)) = some (some (.pointer none), 1, 8) := by kernel_rfl
def AppEnd (w0 : World) (N : Nat) (l : List Ins) (e : Ending) (w' : World) : Prop := ∃ ps sv, e = .returned (.tuple #[]) ∧ RC w0 N l ps sv w'

set_option maxHeartbeats 4000000 in
theorem cAppend_any (w0 w : World) (N : Nat) (l : List Ins) (ps : List Nat) (sv v : Value) (x : Ins) (p : Nat) (h : RC w0 N l ps sv w) (hl : l.length ≤ 200) (hv : OV x v) (hc : w.heap[p]? = some (.cells #[v, .int .i64 x.op] 63 (0, 0))) (hp : N < p) (hnew : p ∉ ps) :
    Calls Try.prog 25 #[ptr N, ptr p] w (AppEnd w0 N (l ++ [x])) := by
  obtain ⟨ao, cap, rfl⟩ := own_shape h.row
  have hbox := h.boxc
  have H := Lib.hid h
  have HC := Lib.hid hc
  have HNW := Lib.hid hnew
  clear h hc hnew
  unfold ptr
  obtain ⟨i0, hi, hz0, hz1, hz2⟩ := info_parts codes_info
  go_enter Try.func25, Try.ntmps25
  have HS := Lib.hid H.out.size
  have HONE : Hid (∀ u ∈ [ptr p], u.oneCell' = true) := Lib.hid (by simp [ptr, Value.oneCell'])
  go_wp2_with (at_builtin; refine wpList_append_one _ rfl _ _ 53 rfl (N + 1) 60 i0 _ 1 8 Try.underlying53 hi hz0 hz1 hz2 rfl (by decide) _ _ (ps.map ptr) rfl ((H.out.alloc _).row) ⟨w.heap.size, 0, none⟩ 1 [ptr p] rfl rfl (cell_new w _ _) HONE.out (by unfold maxLen; omega) (by omega) (by have := HS.out; simp; omega) ?_; intro v' w3 hap; obtain ⟨g', cap', rfl⟩ := hap.made; have HP := Lib.hid ((H.out.alloc _).app hv (block_past HC.out _) hp HNW.out hap); have hq := ((H.out.alloc _).boxA hap); clear hap)
  go_returns
  exact ⟨_, _, rfl, HP.out⟩

set_option maxHeartbeats 4000000 in
theorem append_any (w0 w : World) (N : Nat) (l : List Ins) (ps : List Nat) (sv v : Value) (x : Ins) (h : RC w0 N l ps sv w) (hl : l.length ≤ 200) (hv : OV x v) :
    Calls Try.prog 17 #[ptr N, .int .i64 x.op, v] w (AppEnd w0 N (l ++ [x])) := by
  have H := Lib.hid h
  have HNW : Hid (w.heap.size ∉ ps) := Lib.hid fun hq => by have := h.lt _ hq; omega
  have HNS := Lib.hid h.size
  clear h
  obtain ⟨T, u, rfl⟩ : ∃ T u, v = .iface T u := by rcases hv with ⟨_, rfl⟩ | ⟨_, _, rfl⟩ | ⟨_, rfl⟩ <;> exact ⟨_, _, rfl⟩
  unfold ptr
  go_enter Try.func17, Try.ntmps17
  go_wp2_with fail
  refine (cAppend_any w0 _ N l ps sv _ x w.heap.size (H.out.alloc _) hl hv (block_new w _ _) HNS.out HNW.out).mono ?_
  rintro e w' ⟨ps', sv', rfl, hr⟩
  have HR := Lib.hid hr
  clear hr
  go_wp2_with fail
  go_returns
  exact ⟨_, _, rfl, HR.out⟩

def AtEnd (x : Ins) (w : World) (e : Ending) (w' : World) : Prop := ∃ v, e = .returned (.tuple #[.int .i64 x.op, v]) ∧ OV x v ∧ Below w.heap.size w w'
set_option maxHeartbeats 4000000 in
theorem at_any (w0 w : World) (N : Nat) (l : List Ins) (ps : List Nat) (sv : Value) (x : Ins) (i : Nat) (h : RC w0 N l ps sv w) (hx : l[i]? = some x) (hl : l.length ≤ 200) :
    Calls Try.prog 22 #[ptr N, .int .i64 i] w (AtEnd x w) := by
  have hi : i < l.length := (List.getElem?_eq_some_iff.1 hx).1
  obtain ⟨ao, cap, rfl⟩ := own_shape h.row
  obtain ⟨g, rfl⟩ : ∃ g, ao = some ⟨g, 0, none⟩ := by
    rcases h.row.2 with ⟨e, e2⟩ | ⟨g, cap, cur, e, _⟩
    · omega
    · simp only [Value.slice.injEq] at e; exact ⟨g, e.1⟩
  obtain ⟨p, v, hp, hv, hc, hg⟩ := h.code hx
  have hbox := h.boxc.1
  have hc0 : w.cell? ⟨p, 0, none⟩ = some v := cell_of hc 0 rfl
  have hc1 : w.cell? ⟨p, 1, none⟩ = some (.int .i64 x.op) := cell_of hc 1 rfl
  have HV := Lib.hid hv
  clear h hx hp hc hv
  unfold ptr at hg ⊢
  generalize l.length = n at hi hl hbox
  go_enter Try.func22, Try.ntmps22
  go_wp2_with fail
  go_quiet (fail)
  go_wp2_with fail
  go_returns
  exact ⟨_, rfl, HV.out, ⟨rfl, rfl, rfl, Nat.le_refl _, fun _ _ => rfl⟩⟩
end Go.Proofs.Ytnlndpgbhmkanaa.Op
