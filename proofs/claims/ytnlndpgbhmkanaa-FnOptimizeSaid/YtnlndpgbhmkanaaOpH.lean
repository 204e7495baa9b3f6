/-
  THE WALK of SameFinal: two that hold the same are the same.
-/
import Derived.Test.YtnlndpgbhmkanaaOpF
import Derived.Deep.QuietTactic
namespace Go.Proofs.Ytnlndpgbhmkanaa.Op
open Go.RowKit
set_option linter.unusedVariables false
set_option linter.unusedSimpArgs false

/-- a row of cells, read in memory -/
def CR (w : World) (l : List Cell) (a : Option Addr) : Prop :=
  ∀ i (hi : i < l.length), ∃ g, a = some ⟨g, 0, none⟩ ∧ g < w.heap.size ∧ w.cell? ⟨g, i * 2, none⟩ = some (.bool (l[i]).1) ∧ w.cell? ⟨g, i * 2 + 1, none⟩ = some (.int .i64 (l[i]).2)
theorem CR.keep {w w' : World} {l : List Cell} {a : Option Addr} (h : CR w l a) (hb : Below w.heap.size w w') : CR w' l a := by
  intro i hi
  obtain ⟨g, e, hg, h0, h1⟩ := h i hi
  exact ⟨g, e, Nat.lt_of_lt_of_le hg hb.size, (World.cell?_of_block (hb.block g hg)).trans h0, (World.cell?_of_block (hb.block g hg)).trans h1⟩
theorem CR.of_own {w : World} {N : Nat} {st : List Cell} {ao : Option Addr} {n cap : Nat} (h : w.ownsRow N 40 2 (.slice ao n cap) st.length (enc st)) : CR w st.reverse ao := by
  intro i hi
  rw [List.length_reverse] at hi
  have hl := enc_len st
  rcases h.2 with ⟨e, e2⟩ | ⟨g, cap', cur, e, hb, _⟩
  · omega
  · cases e
    obtain ⟨q1, q2⟩ := flatV_get st.reverse i (by simpa using hi)
    exact ⟨g, rfl, (h.lt g rfl).2, (h.cellAt _ (by omega)).trans q1, (h.cellAt _ (by omega)).trans q2⟩
theorem CR.of_arr {w : World} {vars : List Cell} {gv : Nat} {arr : Array Value} (h : w.heap[gv]? = some (.cells arr 40 (0, 0))) (e : arr.toList = flatV vars) : CR w vars (some ⟨gv, 0, none⟩) := by
  intro i hi
  obtain ⟨q1, q2⟩ := flatV_get vars i hi
  rw [← e] at q1 q2
  exact ⟨gv, rfl, heap_lt h, cell_of h _ (by simpa using q1), cell_of h _ (by simpa using q2)⟩
theorem RF.parts {N : Nat} {f : Fin} {v : Value} {w : World} (h : RF N f v w) : ∃ ao n cap gv, v = .agg #[.slice ao n cap, .slice (some ⟨gv, 0, none⟩) 8 8, .bool f.ret] ∧ f.st.length = n ∧ f.vars.length = 8 ∧ CR w f.st.reverse ao ∧ CR w f.vars (some ⟨gv, 0, none⟩) := by
  obtain ⟨sv, gv, arr, rfl, h1, h2, h3, h4, h5⟩ := h
  obtain ⟨ao, cap, hsv⟩ : ∃ ao cap, sv = .slice ao f.st.length cap := by
    rcases h5.2 with ⟨rfl, e2⟩ | ⟨g, cap', cur, rfl, _⟩
    · exact ⟨none, 0, by rw [e2]⟩
    · exact ⟨_, _, rfl⟩
  subst hsv
  exact ⟨_, _, _, _, rfl, rfl, h4, .of_own h5, .of_arr h2 h3⟩

def SameLoop (w : World) (b1 b2 : Array Value) (n : Nat) (i : Value) (wr : World) : Prop :=
  ∃ k : Nat, i = .int .i64 k ∧ k ≤ n ∧ Below w.heap.size w wr ∧ wr.heap[w.heap.size]? = some (.cells b1 28 (0, 0)) ∧ wr.heap[w.heap.size + 1]? = some (.cells b2 28 (0, 0))
theorem block_top (w : World) (cs ds : Array Value) (t u : TypeId) : ((w.alloc (.cells cs t)).alloc (.cells ds u)).heap[w.heap.size + 1]? = some (.cells ds u (0, 0)) := by
  have h := block_new (w.alloc (.cells cs t)) ds u
  rwa [show (w.alloc (.cells cs t)).heap.size = w.heap.size + 1 by simp] at h
theorem SameLoop.start (w : World) (b1 b2 : Array Value) (n : Nat) : SameLoop w b1 b2 n (.int .i64 0) ((w.alloc (.cells b1 28)).alloc (.cells b2 28)) :=
  ⟨0, rfl, Nat.zero_le _, ((Below.refl _ _).alloc (Nat.le_refl _) _).alloc (by simp) _, block_past (block_new _ _ _) _, block_top _ _ _ _ _⟩
theorem SameLoop.again {w wr : World} {b1 b2 : Array Value} {n k : Nat} (h : SameLoop w b1 b2 n (.int .i64 k) wr) (hlt : k < n) (q : Nat) : SameLoop w b1 b2 n (.int .i64 ((k : Int) + 1)) (wr.drewN q) := by
  obtain ⟨k', e, _, hb, z1, z2⟩ := h
  exact ⟨k + 1, rfl, hlt, hb.trans ⟨rfl, rfl, rfl, Nat.le_refl _, fun _ _ => rfl⟩, z1, z2⟩
theorem SameLoop.zero {w wr : World} {b1 b2 : Array Value} {n k m : Nat} (h : SameLoop w b1 b2 n (.int .i64 k) wr) : SameLoop w b1 b2 m (.int .i64 0) wr := by
  obtain ⟨k', e, _, hb, z1, z2⟩ := h
  exact ⟨0, rfl, Nat.zero_le _, hb, z1, z2⟩

set_option maxHeartbeats 4000000 in
set_option maxRecDepth 100000 in
theorem same_any (f : Fin) (N N' : Nat) (v v' : Value) (w : World) (h : RF N f v w) (h' : RF N' f v' w) (hs : f.st.length ≤ 401) : Calls Try.prog 11 #[v, v'] w (Ret (.bool true) w) := by
  obtain ⟨ao, n, cap, gv, rfl, hn, hv8, hA, hB⟩ := h.parts
  obtain ⟨ao', n', cap', gv', rfl, hn', _, hA', hB'⟩ := h'.parts
  clear h h'
  rw [hn] at hn'
  subst hn'
  obtain ⟨fs, fv, fr⟩ := f
  dsimp only at hn hv8 hA hB hA' hB' hs ⊢
  have HN := Lib.hid hn
  have HV8 := Lib.hid hv8
  have HA := Lib.hid hA
  have HB := Lib.hid hB
  have HA' := Lib.hid hA'
  have HB' := Lib.hid hB'
  rw [hn] at hs
  clear hn hv8 hA hB hA' hB'
  have hfr : (fr != fr) = false := by cases fr <;> rfl
  go_enter Try.func11, Try.ntmps11
  go_wp2_with fail
  go_loopw [5] (SameLoop w #[.slice ao n cap, .slice (some ⟨gv, 0, none⟩) 8 8, .bool fr] #[.slice ao' n cap', .slice (some ⟨gv', 0, none⟩) 8 8, .bool fr] n) (fun i _ => n - (intOf i).toNat)
  case atStart => exact SameLoop.start w _ _ _
  case round =>
    obtain ⟨k, rfl, hk, hb, z1, z2⟩ := hrel
    have HL : Hid (SameLoop w #[.slice ao n cap, .slice (some ⟨gv, 0, none⟩) 8 8, .bool fr] #[.slice ao' n cap', .slice (some ⟨gv', 0, none⟩) 8 8, .bool fr] n (.int .i64 k) wr) := Lib.hid ⟨k, rfl, hk, hb, z1, z2⟩
    have hq1 := cells3 z1
    have hq2 := cells3 z2
    by_cases hlt : k < n
    · obtain ⟨g, e, _, c0, c1⟩ := (HA.out.keep hb) k (by rw [List.length_reverse, HN.out]; exact hlt)
      obtain ⟨g', e', _, d0, d1⟩ := (HA'.out.keep hb) k (by rw [List.length_reverse, HN.out]; exact hlt)
      obtain ⟨x, hx⟩ : ∃ x, Hid (fs.reverse[k]'(by rw [List.length_reverse, HN.out]; exact hlt) = x) := ⟨_, Lib.hid rfl⟩
      rw [hx.out] at c0 c1 d0 d1
      clear hx hb z1 z2
      subst e e'
      obtain ⟨xb, xv⟩ := x
      dsimp only at c0 c1 d0 d1
      go_wp2_with fail
      go_quiet (fail)
      go_wp2_with fail
      go_roundw
      case rel => exact HL.out.again hlt _
      case measure => simp [intOf]; omega
    · obtain rfl : k = n := by omega
      clear hb z1 z2
      go_wp2_with fail
      obtain ⟨wo, rfl⟩ : ∃ wo : World, wo = wr := ⟨_, rfl⟩
      go_loopw [6] (SameLoop w #[.slice ao k cap, .slice (some ⟨gv, 0, none⟩) 8 8, .bool fr] #[.slice ao' k cap', .slice (some ⟨gv', 0, none⟩) 8 8, .bool fr] 8) (fun i _ => 8 - (intOf i).toNat)
      case atStart => exact HL.out.zero
      case round =>
        clear HL hq1 hq2
        obtain ⟨k2, rfl, hk, hb, z1, z2⟩ := hrel
        have HL : Hid (SameLoop w #[.slice ao k cap, .slice (some ⟨gv, 0, none⟩) 8 8, .bool fr] #[.slice ao' k cap', .slice (some ⟨gv', 0, none⟩) 8 8, .bool fr] 8 (.int .i64 k2) wr) := Lib.hid ⟨k2, rfl, hk, hb, z1, z2⟩
        have hq1 := cells3 z1
        have hq2 := cells3 z2
        by_cases hlt : k2 < 8
        · obtain ⟨g, e, _, c0, c1⟩ := (HB.out.keep hb) k2 (by rw [HV8.out]; exact hlt)
          obtain ⟨g', e', _, d0, d1⟩ := (HB'.out.keep hb) k2 (by rw [HV8.out]; exact hlt)
          obtain ⟨x, hx⟩ : ∃ x, Hid (fv[k2]'(by rw [HV8.out]; exact hlt) = x) := ⟨_, Lib.hid rfl⟩
          rw [hx.out] at c0 c1 d0 d1
          clear hx hb z1 z2
          cases e
          cases e'
          obtain ⟨xb, xv⟩ := x
          dsimp only at c0 c1 d0 d1
          go_wp2_with fail
          go_quiet (fail)
          go_wp2_with fail
          go_roundw
          case rel => exact HL.out.again hlt _
          case measure => simp [intOf]; omega
        · obtain rfl : k2 = 8 := by omega
          clear z1 z2
          have hHB := Lib.hid hb
          clear hb
          go_wp2_with fail
          go_returns
          exact ⟨rfl, hHB.out⟩
end Go.Proofs.Ytnlndpgbhmkanaa.Op
