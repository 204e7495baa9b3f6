/-
  THE WALK of funcTranspose.
-/
import Derived.Test.YtnlndpgbhmkanaaDoorTrB
import Derived.Deep.LoopGhost
namespace Go.Proofs.YtnlndpgbhmkanaaDoor.Va
open Go.RowKit
set_option linter.unusedVariables false
set_option linter.unusedSimpArgs false

@[go_sem] theorem ta_list_force (v : Value) (w : World) : (Instr.typeAssert (.iface 48 v) 20 48 false).run Tryd.prog w = .ok v w := by kernel_rfl

def rowAt (rows : List V) (i : Nat) : V := (rows[i]?).getD nullV
/-- so much is filled: the first I rows, and J cells of the next -/
def fill (rows : List V) (I J : Nat) (j i : Nat) : V := if i < I ∨ (i = I ∧ j < J) then cellV (rowAt rows i) j else nullV
theorem fill_start (rows : List V) (j i : Nat) : fill rows 0 0 j i = nullV := by
  unfold fill; rw [if_neg (by omega)]
theorem fill_put (rows : List V) (I J : Nat) : fill rows I (J + 1) J I = cellV (rowAt rows I) J := by
  unfold fill; rw [if_pos (by omega)]
theorem fill_old (rows : List V) (I J : Nat) {j i : Nat} (h : ¬ (j = J ∧ i = I)) : fill rows I (J + 1) j i = fill rows I J j i := by
  unfold fill
  by_cases c : i < I ∨ (i = I ∧ j < J)
  · rw [if_pos c, if_pos (by omega)]
  · rw [if_neg c, if_neg (by omega)]
theorem fill_row (rows : List V) (I : Nat) (j i : Nat) {J : Nat} (hJ : (rowAt rows I).list.length = J) : fill rows (I + 1) 0 j i = fill rows I J j i := by
  unfold fill
  by_cases c : i < I
  · rw [if_pos (by omega), if_pos (by omega)]
  · by_cases q : i = I
    · subst q
      rw [if_pos (by omega)]
      by_cases r : j < J
      · rw [if_pos (by omega)]
      · rw [if_neg (by omega)]
        unfold cellV
        rw [List.getElem?_eq_none (by omega)]
        rfl
    · rw [if_neg (by omega), if_neg (by omega)]
theorem fill_all (rows : List V) (j i : Nat) (hi : i < rows.length) : fill rows rows.length 0 j i = cellV rows[i] j := by
  unfold fill
  rw [if_pos (by omega), rowAt, List.getElem?_eq_getElem hi]
  rfl
theorem wid_take (rows : List V) (k : Nat) (hk : k < rows.length) : wid (rows.take (k + 1)) = max (wid (rows.take k)) (rows[k]).list.length := by
  rw [List.take_succ_eq_append_getElem hk, wid_append]
  simp [wid]

def LoopW1 (rows : List V) (n : Nat) (w : World) (l i : Value) (wr : World) : Prop := ∃ k : Nat, l = .int .i64 ((wid (rows.take k) : Nat) : Int) ∧ i = .int .i64 k ∧ k ≤ n ∧ w = wr
def LoopW2 (S : Nat → Prop) (n L : Nat) (w : World) (i : Value) (wr : World) : Prop := ∃ J : Nat, i = .int .i64 J ∧ J ≤ L ∧ Mat S w.heap.size L J n (fun _ _ => nullV) wr ∧ wr.heap.size = w.heap.size + 2 + J ∧ Below w.heap.size w wr
def LoopW3 (S : Nat → Prop) (rows : List V) (n L : Nat) (w : World) (i : Value) (wr : World) : Prop := ∃ I : Nat, i = .int .i64 I ∧ I ≤ n ∧ Mat S w.heap.size L L n (fill rows I 0) wr ∧ Below w.heap.size w wr
def LoopW4 (S : Nat → Prop) (rows : List V) (n L I m : Nat) (w : World) (g : Nat) (i : Value) (wr : World) : Prop := ∃ J : Nat, i = .int .i64 J ∧ J + g = m ∧ Mat S w.heap.size L L n (fill rows I J) wr ∧ Below w.heap.size w wr

set_option maxHeartbeats 8000000 in
set_option maxRecDepth 100000 in
theorem funcTranspose_any (rows : List V) (hrows : ∀ x ∈ rows, ∃ l, x = mkL l) (n : Nat) (hn : rows.length = n) (hmax : sizeL rows ≤ 400) (a : Option Addr) (c : Nat) (S : Nat → Prop) (w : World) (hl : GL w S rows a) (hS : ∀ b, S b → b < w.heap.size) :
    Calls Tryd.prog 49 #[.iface 48 (.slice a n c)] w (ListPost (transV rows) w) := by
  have HN := Lib.hid hn
  have HL := Lib.hid hl
  have HS := Lib.hid hS
  have HRW := Lib.hid hrows
  have hnm : n ≤ 400 := by have := length_le rows; omega
  have hwm : wid rows ≤ 400 := Nat.le_trans wid_le hmax
  clear hn hl hS hrows
  obtain ⟨i0, hi, hz0, hz1, hz2⟩ := info_parts infoAny
  obtain ⟨i1, hi1, hy0, hy1, hy2⟩ := info_parts infoAnys
  have hmk : ∀ (m : Nat), m ≤ 400 → ∀ w : World, (Instr.makeSlice 48 (.int .i64 (m : Int)) (.int .i64 (m : Int))).run Tryd.prog w = .ok (.slice (some ⟨w.heap.size, 0, none⟩) m m) (w.alloc (.cells (madeCells #[.nilIface] m) 20)) := by
    intro m hm w
    have := run_make (P := Tryd.prog) w 48 20 i0 .nilIface Tryd.underlying48 hi hz0 .i64 .i64 m m (by omega) (by omega) (by rw [hz2]; omega) (by omega)
    rw [hz1] at this
    simpa [Value.cells] using this
  have hmk2 : ∀ (m : Nat), m ≤ 400 → ∀ w : World, (Instr.makeSlice 112 (.int .i64 (m : Int)) (.int .i64 (m : Int))).run Tryd.prog w = .ok (.slice (some ⟨w.heap.size, 0, none⟩) m m) (w.alloc (.cells (madeCells #[.slice none 0 0] m) 48)) := by
    intro m hm w
    have := run_make (P := Tryd.prog) w 112 48 i1 (.slice none 0 0) Tryd.underlying112 hi1 hy0 .i64 .i64 m m (by omega) (by omega) (by rw [hy2]; omega) (by omega)
    rw [hy1] at this
    simpa [Value.cells] using this
  have HMK := Lib.hid hmk
  have HMK2 := Lib.hid hmk2
  clear hi hz0 hz1 hz2 hi1 hy0 hy1 hy2 hmk hmk2
  by_cases hn0 : n = 0
  · subst hn0
    have hnil : rows = [] := List.length_eq_zero_iff.1 HN.out
    go_enter Tryd.func49, Tryd.ntmps49
    go_wp2_with fail
    go_returns
    refine ⟨_, _, rfl, by subst hnil; rfl, by subst hnil; exact GL.of [] _ 0 (fun h => by simp at h) (fun i h => by simp at h), by go_grown⟩
  go_enter Tryd.func49, Tryd.ntmps49
  go_wp2_with fail
  go_loopw [5, 38] (LoopW1 rows n w) (fun _ i _ => n - (intOf i).toNat)
  case atStart => exact ⟨0, rfl, rfl, Nat.zero_le _, rfl⟩
  case round =>
    obtain ⟨k, rfl, rfl, hk, rfl⟩ := hrel
    by_cases hlt : k < n
    · have hkl : k < rows.length := by rw [HN.out]; exact hlt
      obtain ⟨b, o, rfl⟩ := HL.out.addr (by omega)
      obtain ⟨hSb, g, hc, hg⟩ := GL.at rows b o HL.out k hkl
      obtain ⟨rl, hrl⟩ := HRW.out _ (List.getElem_mem hkl)
      rw [hrl] at hg
      obtain ⟨a2, c2, rfl, _⟩ := hg.asList
      have HWT := Lib.hid (wid_take rows k hkl)
      rw [hrl] at HWT
      obtain ⟨m, hm⟩ : ∃ m, Hid (wid (rows.take k) = m) := ⟨_, Lib.hid rfl⟩
      rw [hm.out] at HWT ⊢
      clear hg hSb
      by_cases hcmp : m < rl.length
      · go_wp2_with fail
        go_roundw
        case rel => exact ⟨k + 1, by rw [HWT.out]; simp only [mkL, V.list]; rw [Nat.max_eq_right (by omega)], rfl, hlt, rfl⟩
        case measure => simp [intOf]; omega
      · go_wp2_with fail
        go_roundw
        case rel => exact ⟨k + 1, by rw [HWT.out]; simp only [mkL, V.list]; rw [Nat.max_eq_left (by omega)], rfl, hlt, rfl⟩
        case measure => simp [intOf]; omega
    · obtain rfl : k = n := by omega
      rw [List.take_of_length_le (by rw [HN.out]; exact Nat.le_refl _)]
      obtain ⟨L, hL⟩ : ∃ L, Hid (wid rows = L) := ⟨_, Lib.hid rfl⟩
      rw [hL.out] at hwm ⊢
      have hmkL := HMK.out L hwm
      have hmkL2 := HMK2.out L hwm
      have hmkn := HMK.out k hnm
      go_wp2_with fail
      go_loopw [13] (LoopW2 S k L w) (fun i _ => L - (intOf i).toNat)
      case atStart => exact ⟨0, rfl, Nat.zero_le _, ⟨⟨_, block_past (block_new w _ _) _, size_madeCells _ _, fun j hj => absurd hj (by omega)⟩, ⟨_, by rw [block_top], size_madeCells _ _, fun j hj => absurd hj (by omega)⟩, fun j hj => absurd hj (by omega)⟩, by simp, by go_grown⟩
      case round =>
        obtain ⟨J, rfl, hJ, hm, hsz, hb⟩ := hrel
        have HM := Lib.hid hm
        have HB := Lib.hid hb
        clear hm hb
        by_cases hlt2 : J < L
        · have HNX := Lib.hid (HM.out.next HS.out hsz hlt2)
          go_upto_region 23 with fail
          generalize hW : World.alloc wr _ = W
          have b1 : Below wr.heap.size wr W := hW ▸ below_alloc wr _
          obtain ⟨⟨q1, hq1⟩, hf1, ⟨q2, hq2⟩, hf2⟩ := (HM.out.below HS.out b1).cellN hlt2
          have HW := Lib.hid hW
          have HB1 := Lib.hid (HB.out.trans (b1.mono HB.out.size))
          clear hW b1
          go_wp2_with fail
          go_roundw
          case rel =>
            refine ⟨J + 1, rfl, hlt2, ?_, ?_, (HB1.out.setCell (Nat.le_refl _) _).setCell (Nat.le_succ _) _⟩
            · have q := HNX.out
              rw [hsz] at q
              rw [← HW.out]; exact q
            · rw [← HW.out]; simp [hsz]; omega
          case measure => simp [intOf]; omega
        · obtain rfl : J = L := by omega
          have HM3 := Lib.hid (HM.out.congr (M' := fill rows 0 0) fun a b _ _ => fill_start rows a b)
          clear HM hsz
          go_wp2_with fail
          go_loopw [84] (LoopW3 S rows k J w) (fun i _ => k - (intOf i).toNat)
          case atStart => exact ⟨0, rfl, Nat.zero_le _, HM3.out, HB.out⟩
          case round =>
            obtain ⟨I, rfl, hI, hm, hb⟩ := hrel
            have HM := Lib.hid hm
            have HB4 := Lib.hid hb
            clear hm hb
            by_cases hlt3 : I < k
            · have hIl : I < rows.length := by rw [HN.out]; exact hlt3
              obtain ⟨b, o, rfl⟩ := HL.out.addr (by omega)
              obtain ⟨hSb, g, hc, hg⟩ := GL.at rows b o HL.out I hIl
              have hsame := Same.of_below HB4.out HS.out
              have hc' := (hsame.cell hSb).trans hc
              obtain ⟨rl, hrl⟩ := HRW.out _ (List.getElem_mem hIl)
              have hrw : rl.length ≤ J := by
                have := wid_mem (List.getElem_mem hIl)
                rw [hrl, hL.out] at this
                exact this
              rw [hrl] at hg
              obtain ⟨a2, c2, rfl, hgl⟩ := hg.asList
              have HGL := Lib.hid hgl
              have HRA := Lib.hid (show rowAt rows I = mkL rl by rw [rowAt, List.getElem?_eq_getElem hIl, hrl]; rfl)
              clear hc hg hgl hSb
              obtain ⟨m, hm⟩ : ∃ m, rl.length = m := ⟨_, rfl⟩
              rw [hm] at hc' hrw
              have HM_ := Lib.hid hm
              clear hm
              go_wp2_with fail
              clear hc'
              go_loopg [92] m (LoopW4 S rows k J I m w)
              case atStart => exact ⟨0, rfl, by omega, HM.out, HB4.out⟩
              case round =>
                obtain ⟨j, rfl, hj, hm, hb⟩ := hrel
                have HM5 := Lib.hid hm
                have HB5 := Lib.hid hb
                clear hm hb
                by_cases hlt4 : j < m
                · have hjl : j < rl.length := by rw [HM_.out]; exact hlt4
                  obtain ⟨b2, o2, rfl⟩ := HGL.out.addr (by omega)
                  obtain ⟨hSb, g, hc, hg⟩ := GL.at rl b2 o2 HGL.out j hjl
                  have hsame := Same.of_below HB5.out HS.out
                  have hc' := (hsame.cell hSb).trans hc
                  have HG := Lib.hid (GV.mono hsame (fun _ h => h) _ _ hg)
                  obtain ⟨hcw, v0, hcv, hfv⟩ := HM5.out.cellW (j := j) (i := I) (by omega) hlt3
                  have HPUT := Lib.hid (HM5.out.put HS.out (j := j) (i := I) (by omega) hlt3 HG.out (M' := fill rows I (j + 1)) (by rw [fill_put, HRA.out, cellV, mkL, V.list, List.getElem?_eq_getElem hjl]; rfl) (fun a b _ _ hab => fill_old rows I j hab))
                  clear hc hg hSb
                  rcases HG.out.flat with rfl | ⟨ty, gv, rfl⟩
                  · go_wp2_with fail
                    go_roundg (gk - 1)
                    case rel => exact ⟨j + 1, rfl, by omega, HPUT.out, HB5.out.setCell (by show w.heap.size ≤ w.heap.size + 2 + j; omega) _⟩
                    case measure => omega
                  · go_wp2_with fail
                    go_roundg (gk - 1)
                    case rel => exact ⟨j + 1, rfl, by omega, HPUT.out, HB5.out.setCell (by show w.heap.size ≤ w.heap.size + 2 + j; omega) _⟩
                    case measure => omega
                · obtain rfl : j = m := by omega
                  go_wp2_with fail
                  go_roundw
                  case rel => exact ⟨I + 1, rfl, hlt3, HM5.out.congr fun a b _ _ => fill_row rows I a b (by rw [HRA.out]; exact HM_.out), HB5.out⟩
                  case measure => simp [intOf]; omega
            · obtain rfl : I = k := by omega
              go_wp2_with fail
              go_returns
              refine ⟨_, _, rfl, by rw [transV, List.length_map, List.length_range, hL.out], HM.out.done HS.out _ (by rw [transV, List.length_map, List.length_range, hL.out]) fun j hj => ?_, HB4.out⟩
              refine ⟨colL rows j, by simp [transV], by rw [colL, List.length_map]; exact HN.out, fun i hi => ?_⟩
              have hi' : i < rows.length := by simpa [colL] using hi
              have := fill_all rows j i hi'
              rw [HN.out] at this
              rw [this]
              simp [colL]

end Go.Proofs.YtnlndpgbhmkanaaDoor.Va
