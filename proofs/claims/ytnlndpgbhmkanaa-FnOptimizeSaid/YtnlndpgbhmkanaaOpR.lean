/-
  THE WALK of Optimize: what it hands back is the list behind the pass.
-/
import Derived.Test.YtnlndpgbhmkanaaOpQ
namespace Go.Proofs.Ytnlndpgbhmkanaa.Op
open Go.RowKit
set_option linter.unusedVariables false
set_option linter.unusedSimpArgs false

def OptEnd (m : List Ins) (n : Nat) (w : World) (e : Ending) (w' : World) : Prop :=
  ∃ g cap, e = .returned (.slice (some ⟨g, 0, none⟩) n cap) ∧ m.length = n ∧ g < w'.heap.size ∧ Below w.heap.size w w' ∧ RI w' (fun b => b = g) m (some ⟨g, 0, none⟩)
def LoopB (w : World) (l : List Ins) (n N : Nat) (i : Value) (wr : World) : Prop := ∃ (k : Nat) (ps : List Nat) (sv : Value), i = .int .i64 k ∧ k ≤ n ∧ RC w N (l.take k) ps sv wr
def LoopC (w : World) (m : List Ins) (n N g : Nat) (i : Value) (wr : World) : Prop := ∃ (k : Nat) (ps : List Nat) (sv : Value), i = .int .i64 k ∧ k ≤ n ∧ RC w N m ps sv wr ∧ OutR (m.map norm) g k wr
theorem LoopC.start {w w2 : World} {m : List Ins} {n N : Nat} {ps : List Nat} {sv : Value} (h : RC w N m ps sv w2) (hm : m.length = n) : LoopC w m n N w2.heap.size (.int .i64 0) (w2.alloc (.cells (madeCells #[.int .i64 0, .int .i64 0, .int .i64 0, .int .i64 0] (n * 4)) 36)) :=
  ⟨0, ps, sv, rfl, Nat.zero_le _, h.alloc _, _, block_new _ _ _, by rw [size_madeCells, List.length_map, hm], fun i x hi => absurd hi (by omega)⟩
theorem LoopC.next {w w2 : World} {m : List Ins} {n N g k : Nat} {ps : List Nat} {sv : Value} {x : Ins} (hk : k < n) (h : RC w N m ps sv w2) (ho : OutR (m.map norm) g k w2) (hN : N < g) (hx : m[k]? = some x) : LoopC w m n N g (.int .i64 ((k : Int) + 1)) (put4 w2 g k (norm x)) := by
  obtain ⟨h1, h2⟩ := put4_ok h ho hN (x := norm x) (by rw [List.getElem?_map, hx]; rfl)
  exact ⟨k + 1, ps, sv, rfl, hk, h1, h2⟩
theorem steps_info : (Try.prog.info? 36).map (fun i => (i.zero, i.size, i.bytes)) = some (some (.agg #[.int .i64 0, .int .i64 0, .int .i64 0, .int .i64 0]), 4, 32) := by kernel_rfl
theorem opt_calls (l : List Ins) : opt l true = (callsFrom l.length 0 l [] nosc).map norm := rfl
theorem opt_ops (l : List Ins) : opt l false = (opsFrom l l.length).map norm := rfl


set_option maxHeartbeats 8000000 in
set_option maxRecDepth 100000 in
theorem optimize_any (l : List Ins) (hok : StepsOk l) (n : Nat) (hn : l.length = n) (h1 : 1 ≤ n) (calls : Bool) (a : Option Addr) (c : Nat) (S : Nat → Prop) (w : World) (h : RI w S l a) (hS : ∀ b, S b → b < w.heap.size) :
    Calls Try.prog 10 #[.slice a n c, .bool calls] w (OptEnd (opt l calls) n w) := by
  obtain ⟨i0, hi, hz0, hz1, hz2⟩ := info_parts steps_info
  have hne : l ≠ [] := by
    rintro rfl
    simp at hn
    omega
  have h200 : n ≤ 200 := by have := hok.len; omega
  have hmk : ∀ w : World, (Instr.makeSlice 24 (.int .i64 (n : Int)) (.int .i64 (n : Int))).run Try.prog w = .ok (.slice (some ⟨w.heap.size, 0, none⟩) n n) (w.alloc (.cells (madeCells #[.int .i64 0, .int .i64 0, .int .i64 0, .int .i64 0] (n * 4)) 36)) := by
    intro w
    have := run_make (P := Try.prog) w 24 36 i0 _ Try.underlying24 hi hz0 .i64 .i64 n n (by omega) (by omega) (by rw [hz2]; omega) (by omega)
    rw [hz1] at this
    rw [show Value.cells (.agg #[.int .i64 0, .int .i64 0, .int .i64 0, .int .i64 0]) = #[.int .i64 0, .int .i64 0, .int .i64 0, .int .i64 0] from rfl] at this
    simpa using this
  have HP := Lib.hid (isProgram_any l hok hne n hn a c S w h hS)
  have HL := Lib.hid h
  have HN := Lib.hid hn
  have HS := Lib.hid hS
  have HO := Lib.hid hok
  have HNE := Lib.hid hne
  have HMK := Lib.hid hmk
  clear hi hz0 hz1 hz2 hmk h hn hS hok hne
  go_enter Try.func10, Try.ntmps10
  go_wp2_with fail
  refine HP.out.mono ?_
  rintro e w1 ⟨rfl, hb1⟩
  have B1 := Lib.hid hb1
  clear hb1 HP
  go_wp2_with fail
  refine (new_any w1).mono ?_
  rintro e w2 ⟨rfl, he2⟩
  have HR2 : Hid (RC w w1.heap.size [] [] (.slice none 0 0) w2) := Lib.hid (by rw [he2]; exact RC.new w w1 B1.out)
  clear he2
  unfold ptr
  generalize w1.heap.size = N at HR2 ⊢
  clear B1
  go_wp2_with fail
  go_loopw [16] (LoopB w l n N) (fun i _ => n - (intOf i).toNat)
  case atStart => exact ⟨0, [], _, rfl, Nat.zero_le _, HR2.out⟩
  case round =>
    clear HR2
    obtain ⟨k, ps, sv, rfl, hk, hrc⟩ := hrel
    have HRC := Lib.hid hrc
    clear hrc
    by_cases hlt : k < n
    · have hkl : k < l.length := by rw [HN.out]; exact hlt
      obtain ⟨b, o, e, hsb, c0, c1, c2, c3⟩ := (HL.out.keep HS.out HRC.out.below) k hkl
      obtain ⟨⟨op, xa, xb, xc⟩, hxk⟩ : ∃ x, Hid (l[k] = x) := ⟨_, Lib.hid rfl⟩
      have HX := Lib.hid ((List.getElem?_eq_getElem hkl).trans (congrArg some hxk.out))
      rw [hxk.out] at c0 c1 c2 c3
      subst e
      dsimp only at c0 c1 c2 c3
      have HTK : Hid (l.take (k + 1) = l.take k ++ [⟨op, xa, xb, xc⟩]) := Lib.hid (by rw [List.take_add_one, HX.out]; rfl)
      have HTL : Hid ((l.take k).length ≤ 200) := Lib.hid (by rw [List.length_take]; omega)
      clear hxk hkl
      go_upto_region 7 with fail
      generalize hW : World.alloc wr _ = W
      have z := hW ▸ block_new wr _ _
      have HRW := Lib.hid (hW ▸ HRC.out.alloc _ : RC w N (l.take k) ps sv W)
      clear hW c0 c1 c2 c3
      refine wp_region_D (fun w' => w'.heap[wr.heap.size]? = some (.cells #[.int .i64 op, .int .i64 xa, .int .i64 xb, .int .i64 xc] 36 (0, 0))) [5] (by kernel_rfl) ?_
      have hS3 : (World.drew W).heap[wr.heap.size]? = some (.cells #[.int .i64 op, .int .i64 xa, .int .i64 xb, .int .i64 xc] 36 (0, 0)) := z
      have HR3 : Hid (RC w N (l.take k) ps sv (World.drew W)) := Lib.hid HRW.out.drew
      clear HRW HRC z
      generalize World.drew W = W5 at hS3 HR3 ⊢
      (refine wpAnyD_take (i := 0) (v := ?_) [5] [5] rfl (by kernel_rfl) (by kernel_rfl) (by kernel_rfl) (fun _ _ _ h => h) (by kernel_rfl) (by kernel_rfl) (by kernel_rfl) (Or.inl ⟨?_, ?_⟩) hS3 ?_
       rotate_left
       focus rfl
       focus (intro w' hw'; have hw1 := cells4 hw'; clear hw'; go_simp; with_reducible rfl)
       try go_simp)
      (refine wpAnyD_take (i := 1) (v := ?_) [2, 5] [5] rfl (by kernel_rfl) (by kernel_rfl) (by kernel_rfl) (fun _ _ _ h => h) (by kernel_rfl) (by kernel_rfl) (by kernel_rfl) (Or.inl ⟨?_, ?_⟩) hS3 ?_
       rotate_left
       focus rfl
       focus (intro w' hw'; have hw1 := cells4 hw'; clear hw'; go_simp; with_reducible rfl)
       try go_simp)
      (refine wpAnyD_take (i := 2) (v := ?_) [5] [5] rfl (by kernel_rfl) (by kernel_rfl) (by kernel_rfl) (fun _ _ _ h => h) (by kernel_rfl) (by kernel_rfl) (by kernel_rfl) (Or.inl ⟨?_, ?_⟩) hS3 ?_
       rotate_left
       focus rfl
       focus (intro w' hw'; have hw1 := cells4 hw'; clear hw'; go_simp; with_reducible rfl)
       try go_simp)
      (refine wpAnyD_take (i := 3) (v := ?_) [4, 5] [5] rfl (by kernel_rfl) (by kernel_rfl) (by kernel_rfl) (fun _ _ _ h => h) (by kernel_rfl) (by kernel_rfl) (by kernel_rfl) (Or.inl ⟨?_, ?_⟩) hS3 ?_
       rotate_left
       focus rfl
       focus (intro w' hw'; have hw1 := cells4 hw'; clear hw'; go_simp; with_reducible rfl)
       try go_simp)
      refine wpAnyD_ready (rs := [4]) (by kernel_rfl) (by simp) ?_
      refine AllReadyD.cons rfl (fun K hK => ?_) AllReadyD.nil
      go_simp
      refine (operand_any op xa xb xc W5).mono ?_
      rintro e w6 ⟨v, rfl, hv, hb6⟩
      have HV := Lib.hid hv
      have HR6 := Lib.hid (HR3.out.keep hb6)
      refine hK.out _ _ (fun _ => keep hb6 hS3) ?_
      clear hK K hb6 hS3 HR3 hv
      try go_simp
      refine wpAnyD_ready (rs := [5]) (by kernel_rfl) (by simp) ?_
      refine AllReadyD.cons rfl (fun K hK => ?_) AllReadyD.nil
      go_simp
      refine (append_any w w6 N (l.take k) ps sv v ⟨op, xa, xb, xc⟩ HR6.out HTL.out HV.out).mono ?_
      rintro e w7 ⟨ps', sv', rfl, hr7⟩
      have HR7 := Lib.hid hr7
      refine hK.out _ _ (fun h => absurd h (by decide)) ?_
      clear hK K hr7
      try go_simp
      refine wpAnyD_done (by kernel_rfl) ?_ _
      have R : Hid (LoopB w l n N (.int .i64 ((k : Int) + 1)) w7) := Lib.hid ⟨k + 1, ps', sv', rfl, hlt, by rw [HTK.out]; exact HR7.out⟩
      go_wp2_with fail
      go_roundw
      case rel => exact R.out
      case measure => simp [intOf]; omega
    · obtain rfl : k = n := by omega
      have HRL : Hid (RC w N l ps sv wr) := Lib.hid (by have := HRC.out; rwa [List.take_of_length_le (by rw [HN.out]; exact Nat.le_refl _)] at this)
      clear HRC hlt hk
      cases calls
      all_goals
        go_wp2_with fail
        first
          | refine (ops_any w wr N l ps sv HRL.out HO.out HNE.out).mono ?_
          | refine (calls_any w wr N l ps sv HRL.out HO.out HNE.out).mono ?_
        rintro e w2 ⟨ps2, sv2, rfl, hr2⟩
        have HR2 := Lib.hid hr2
        clear hr2
      · have HM0 : Hid (opt l false = (opsFrom l l.length).map norm ∧ (opsFrom l l.length).length = k) := Lib.hid ⟨opt_ops l, by rw [opsFrom_len]; exact HN.out⟩
        generalize opsFrom l l.length = m0 at HR2 HM0
        have HSZ := Lib.hid HR2.out.size
        have hmk := HMK.out
        clear HMK HRL
        go_wp2_with fail
        clear hmk
        have HST := Lib.hid (LoopC.start HR2.out HM0.out.2)
        generalize hg : w2.heap.size = g at HSZ HST ⊢
        clear hg HR2
        go_loopw [37] (LoopC w m0 k N g) (fun i _ => k - (intOf i).toNat)
        case atStart => exact HST.out
        case round =>
          clear HST
          obtain ⟨q, ps3, sv3, rfl, hq, hrc, hout⟩ := hrel
          have HRC := Lib.hid hrc
          have HOUT := Lib.hid hout
          clear hrc hout
          by_cases hlt : q < k
          · have hql : q < m0.length := by rw [HM0.out.2]; exact hlt
            have hx := List.getElem?_eq_getElem hql
            generalize m0[q] = x at hx
            have HX := Lib.hid hx
            clear hx hql
            go_wp2_with fail
            refine (at_any w wr N m0 ps3 sv3 x q HRC.out HX.out (by rw [HM0.out.2]; exact h200)).mono ?_
            rintro e w3 ⟨v, rfl, hv, hb3⟩
            have HV := Lib.hid hv
            have HRC3 := Lib.hid (HRC.out.keep hb3)
            have HOUT3 := Lib.hid (HOUT.out.keep hb3)
            clear hv hb3
            go_wp2_with fail
            refine (step_any x v HV.out w3).mono ?_
            rintro e w4 ⟨rfl, hb4⟩
            have HRC4 := Lib.hid (HRC3.out.keep hb4)
            have HOUT4 := Lib.hid (HOUT3.out.keep hb4)
            clear hb4 HRC HRC3 HOUT HOUT3
            unfold insV
            obtain ⟨u0, u1, u2, u3, hcell, hfro⟩ := HOUT4.out.cells (by rw [List.length_map, HM0.out.2]; exact hlt)
            have R := Lib.hid (LoopC.next (n := k) hlt HRC4.out HOUT4.out HSZ.out HX.out)
            unfold put4 at R
            go_wp2_with fail
            go_roundw
            case rel => exact R.out
            case measure => simp [intOf]; omega
          · obtain rfl : q = k := by omega
            clear hlt hq
            go_wp2_with fail
            go_returns
            refine ⟨g, _, rfl, ?_, HOUT.out.lt, HRC.out.below, ?_⟩
            · rw [HM0.out.1, List.length_map]; exact HM0.out.2
            · rw [HM0.out.1]
              refine OutR.done ?_
              rw [List.length_map, HM0.out.2]
              exact HOUT.out
      · have HM0 : Hid (opt l true = (callsFrom l.length 0 l [] nosc).map norm ∧ (callsFrom l.length 0 l [] nosc).length = k) := Lib.hid ⟨opt_calls l, by rw [callsFrom_len]; exact HN.out⟩
        generalize callsFrom l.length 0 l [] nosc = m0 at HR2 HM0
        have HSZ := Lib.hid HR2.out.size
        have hmk := HMK.out
        clear HMK HRL
        go_wp2_with fail
        clear hmk
        have HST := Lib.hid (LoopC.start HR2.out HM0.out.2)
        generalize hg : w2.heap.size = g at HSZ HST ⊢
        clear hg HR2
        go_loopw [37] (LoopC w m0 k N g) (fun i _ => k - (intOf i).toNat)
        case atStart => exact HST.out
        case round =>
          clear HST
          obtain ⟨q, ps3, sv3, rfl, hq, hrc, hout⟩ := hrel
          have HRC := Lib.hid hrc
          have HOUT := Lib.hid hout
          clear hrc hout
          by_cases hlt : q < k
          · have hql : q < m0.length := by rw [HM0.out.2]; exact hlt
            have hx := List.getElem?_eq_getElem hql
            generalize m0[q] = x at hx
            have HX := Lib.hid hx
            clear hx hql
            go_wp2_with fail
            refine (at_any w wr N m0 ps3 sv3 x q HRC.out HX.out (by rw [HM0.out.2]; exact h200)).mono ?_
            rintro e w3 ⟨v, rfl, hv, hb3⟩
            have HV := Lib.hid hv
            have HRC3 := Lib.hid (HRC.out.keep hb3)
            have HOUT3 := Lib.hid (HOUT.out.keep hb3)
            clear hv hb3
            go_wp2_with fail
            refine (step_any x v HV.out w3).mono ?_
            rintro e w4 ⟨rfl, hb4⟩
            have HRC4 := Lib.hid (HRC3.out.keep hb4)
            have HOUT4 := Lib.hid (HOUT3.out.keep hb4)
            clear hb4 HRC HRC3 HOUT HOUT3
            unfold insV
            obtain ⟨u0, u1, u2, u3, hcell, hfro⟩ := HOUT4.out.cells (by rw [List.length_map, HM0.out.2]; exact hlt)
            have R := Lib.hid (LoopC.next (n := k) hlt HRC4.out HOUT4.out HSZ.out HX.out)
            unfold put4 at R
            go_wp2_with fail
            go_roundw
            case rel => exact R.out
            case measure => simp [intOf]; omega
          · obtain rfl : q = k := by omega
            clear hlt hq
            go_wp2_with fail
            go_returns
            refine ⟨g, _, rfl, ?_, HOUT.out.lt, HRC.out.below, ?_⟩
            · rw [HM0.out.1, List.length_map]; exact HM0.out.2
            · rw [HM0.out.1]
              refine OutR.done ?_
              rw [List.length_map, HM0.out.2]
              exact HOUT.out
end Go.Proofs.Ytnlndpgbhmkanaa.Op
