/-
  THE WALKS of Reverse.
-/
import Derived.Test.YtnlndpgbhmkanaaDoorTrU
import Derived.Test.YtnlndpgbhmkanaaDoorFlB
namespace Go.Proofs.YtnlndpgbhmkanaaDoor.Va
open Go.RowKit
set_option linter.unusedVariables false
set_option linter.unusedSimpArgs false

/-- the block in which the list is made from its end: the first k elements are there -/
def MadeR (S : Nat → Prop) (l : List V) (g k : Nat) (wr : World) : Prop :=
  ∃ cur : Array Value, wr.heap[g]? = some (.cells cur 20 (0, 0)) ∧ cur.size = l.length ∧ ∀ i (hi : i < l.length), i < k → ∃ e, cur[l.length - 1 - i]? = some e ∧ GV wr S l[i] e
theorem MadeR.cell {S : Nat → Prop} {l : List V} {g k : Nat} {w : World} (h : MadeR S l g k w) {j : Nat} (hj : j < l.length) : ∃ v, w.cell? ⟨g, j, none⟩ = some v ∧ w.frozen? ⟨g, j, none⟩ = false := by
  obtain ⟨cur, h1, h2, _⟩ := h
  exact ⟨cur[j]'(by omega), cell_of h1 j (by rw [Array.getElem?_eq_getElem]), free_of h1 j⟩
theorem MadeR.store {S : Nat → Prop} {l : List V} {g k : Nat} {w : World} (hS : ∀ b, S b → b < g) (h : MadeR S l g k w) (hk : k < l.length) {e : Value} (hg : GV w S l[k] e) {m : Nat} (hm : m = l.length - 1 - k) : MadeR S l g (k + 1) (w.setCell ⟨g, m, none⟩ e) := by
  obtain ⟨cur, h1, h2, h3⟩ := h
  subst hm
  have hs : Same S w (w.setCell ⟨g, l.length - 1 - k, none⟩ e) := fun b hb => set_other _ e (by have := hS b hb; omega)
  refine ⟨cur.setIfInBounds (l.length - 1 - k) e, set_block h1 _ e, by simpa using h2, fun i hi hlt => ?_⟩
  by_cases c : i = k
  · subst c
    exact ⟨e, by rw [Array.getElem?_setIfInBounds_self_of_lt (by omega)], GV.mono hs (fun _ h => h) _ _ hg⟩
  · obtain ⟨d, hd, hx⟩ := h3 i hi (by omega)
    exact ⟨d, by rw [Array.getElem?_setIfInBounds_ne (by omega)]; exact hd, GV.mono hs (fun _ h => h) _ _ hx⟩
theorem MadeR.done {S : Nat → Prop} {l : List V} {g : Nat} {w : World} (hS : ∀ b, S b → b < g) (h : MadeR S l g l.length w) : GL w (fun r => r < w.heap.size) l.reverse (some ⟨g, 0, none⟩) := by
  obtain ⟨cur, h1, h2, h3⟩ := h
  have hlt := heap_lt h1
  refine GL.of l.reverse g 0 (fun _ => hlt) fun i hi => ?_
  rw [List.length_reverse] at hi
  obtain ⟨e, he, hx⟩ := h3 (l.length - 1 - i) (by omega) (by omega)
  refine ⟨e, cell_of h1 _ (by rw [show 0 + i = l.length - 1 - (l.length - 1 - i) by omega]; exact he), ?_⟩
  rw [List.getElem_reverse]
  exact GV.mono (fun _ _ => rfl) (fun b hb => by have := hS b hb; show b < _; omega) _ _ hx

/-- what a function of the program returns that makes a list -/
def ListPost (l : List V) (w : World) (e : Ending) (w' : World) : Prop :=
  ∃ (g n : Nat), e = .returned (.iface 48 (.slice (some ⟨g, 0, none⟩) n n)) ∧ l.length = n ∧ GL w' (fun b => b < w'.heap.size) l (some ⟨g, 0, none⟩) ∧ Below w.heap.size w w'
def LoopR (S : Nat → Prop) (l : List V) (n : Nat) (w : World) (i : Value) (wr : World) : Prop :=
  ∃ k : Nat, i = .int .i64 k ∧ k ≤ n ∧ MadeR S l w.heap.size k wr ∧ Below w.heap.size w wr

set_option maxHeartbeats 2000000 in
set_option maxRecDepth 100000 in
theorem funcReverse_any (l : List V) (n : Nat) (hn : l.length = n) (hmax : n ≤ 2147483647) (a : Option Addr) (c : Nat) (S : Nat → Prop) (w : World) (hl : GL w S l a) (hS : ∀ b, S b → b < w.heap.size) :
    Calls Tryd.prog 50 #[.iface 48 (.slice a n c)] w (ListPost l.reverse w) := by
  obtain ⟨i0, hi, hz0, hz1, hz2⟩ := info_parts infoAny
  have hmk : ∀ w : World, (Instr.makeSlice 48 (.int .i64 (n : Int)) (.int .i64 (n : Int))).run Tryd.prog w = .ok (.slice (some ⟨w.heap.size, 0, none⟩) n n) (w.alloc (.cells (madeCells #[.nilIface] n) 20)) := by
    intro w
    have := run_make (P := Tryd.prog) w 48 20 i0 .nilIface Tryd.underlying48 hi hz0 .i64 .i64 n n (by omega) (by omega) (by rw [hz2]; omega) (by omega)
    rw [hz1] at this
    simpa [Value.cells] using this
  have HN := Lib.hid hn
  have HL := Lib.hid hl
  have HS := Lib.hid hS
  clear hi hz0 hz1 hz2 hn hl hS
  go_enter Tryd.func50, Tryd.ntmps50
  go_wp2_with fail
  go_loopw [24] (LoopR S l n w) (fun i _ => n - (intOf i).toNat)
  case atStart => exact ⟨0, rfl, Nat.zero_le _, ⟨_, block_new w _ _, by rw [size_madeCells, HN.out], fun i _ h => absurd h (by omega)⟩, below_alloc w _⟩
  case round =>
    obtain ⟨k, rfl, hk, hm, hb⟩ := hrel
    have HM := Lib.hid hm
    have HB := Lib.hid hb
    clear hm hb
    by_cases hlt : k < n
    · have hkl : k < l.length := by rw [HN.out]; exact hlt
      obtain ⟨b, o, rfl⟩ := HL.out.addr (by omega)
      obtain ⟨hSb, g, hc, hg⟩ := GL.at l b o HL.out k hkl
      have hsame := Same.of_below HB.out HS.out
      have hc' := (hsame.cell hSb).trans hc
      have HG := Lib.hid (GV.mono hsame (fun _ h => h) _ _ hg)
      obtain ⟨v0, hcm, hfm⟩ := HM.out.cell (j := n - k - 1) (by rw [HN.out]; omega)
      have HMS := Lib.hid (HM.out.store (m := n - k - 1) HS.out hkl HG.out (by rw [HN.out]; omega))
      clear hc hg hsame
      rcases HG.out.flat with rfl | ⟨ty, gv, rfl⟩
      · go_wp2_with fail
        go_roundw
        case rel => exact ⟨k + 1, rfl, hlt, HMS.out, HB.out.setCell (Nat.le_refl _) _⟩
        case measure => simp [intOf]; omega
      · go_wp2_with fail
        go_roundw
        case rel => exact ⟨k + 1, rfl, hlt, HMS.out, HB.out.setCell (Nat.le_refl _) _⟩
        case measure => simp [intOf]; omega
    · obtain rfl : k = n := by omega
      go_wp2_with fail
      go_returns
      refine ⟨_, _, rfl, by rw [List.length_reverse]; exact HN.out, MadeR.done HS.out ?_, HB.out⟩
      rw [HN.out]
      exact HM.out

end Go.Proofs.YtnlndpgbhmkanaaDoor.Va
