/-
  THE WALK of optimizeCodeOps.
-/
import Derived.Test.YtnlndpgbhmkanaaOpL
namespace Go.Proofs.Ytnlndpgbhmkanaa.Op
open Go.RowKit
set_option linter.unusedVariables false
set_option linter.unusedSimpArgs false

theorem set_keep {l : List Ins} {i m : Nat} {x z : Ins} (hx : l[i]? = some x) (ho : x.op ≠ 24) (hz : l[m]? = some z) (hzo : z.op = 24) (v : Ins) : (l.set i v)[m]? = some z := by
  rw [List.getElem?_set_ne]
  · exact hz
  · rintro rfl
    rw [hx] at hz
    obtain rfl := Option.some.inj hz
    exact ho hzo
theorem stepOps_last {l : List Ins} {m : Nat} {z : Ins} (hz : l[m]? = some z) (ho : z.op = 24) (i : Nat) : (stepOps l i)[m]? = some z := by
  unfold stepOps
  cases hx : l[i]? with
  | none => exact hz
  | some x =>
    dsimp only
    split
    · rename_i hA
      cases hy : l[i + 1]? with
      | none => exact hz
      | some y =>
        dsimp only
        have h1 : ∀ v, (l.set i v)[m]? = some z := fun v => set_keep hx (by omega) hz ho v
        split
        · rename_i h2
          refine set_keep (x := y) ?_ (by omega) (h1 _) ho _
          rw [List.getElem?_set_ne (by omega)]; exact hy
        · split
          · rename_i h2
            refine set_keep (x := y) ?_ (by omega) (h1 _) ho _
            rw [List.getElem?_set_ne (by omega)]; exact hy
          · exact hz
    · split
      · rename_i hB
        split
        · exact set_keep hx (by omega) hz ho _
        · cases hy : l[x.a.toNat]? with
          | none => exact hz
          | some y =>
            dsimp only
            split
            · exact set_keep hx (by omega) hz ho _
            · exact hz
      · exact hz
theorem stepOps_len (l : List Ins) (i : Nat) : (stepOps l i).length = l.length := by
  unfold stepOps
  repeat' (first | split | simp)

def LoopO (w0 : World) (N n : Nat) (sv : Value) (l0 : List Ins) (i nv : Value) (wr : World) : Prop :=
  ∃ (k : Nat) (l : List Ins) (ps : List Nat), i = .int .i64 ((k : Int) - 1) ∧ k ≤ n ∧ l.length = n ∧ RC w0 N l ps sv wr ∧ Inv l ∧ (∃ z, l[n - 1]? = some z ∧ z.op = 24) ∧ opsFrom l0 n = opsFrom l k ∧ (k < n → ∃ p, ps[k]? = some p ∧ nv = ptr p)
theorem LoopO.next {w0 w' : World} {N n j p : Nat} {sv : Value} {l0 l l' : List Ins} {ps : List Nat} (hj : j < n) (hl : l.length = n) (hinv : Inv l) (hlast : ∃ z, l[n - 1]? = some z ∧ z.op = 24) (he : opsFrom l0 n = opsFrom l (j + 1)) (hp : ps[j]? = some p)
    (hs : stepOps l j = l') (hrc : RC w0 N l' ps sv w') : LoopO w0 N n sv l0 (.int .i64 ((j : Int) - 1)) (ptr p) w' := by
  subst hs
  obtain ⟨z, hz, ho⟩ := hlast
  exact ⟨j, stepOps l j, ps, rfl, Nat.le_of_lt hj, (stepOps_len l j).trans hl, hrc, stepOps_inv hinv j, ⟨z, stepOps_last hz ho j, ho⟩, he, fun _ => ⟨p, hp, rfl⟩⟩
theorem cells2 {w : World} {b : Nat} {a0 a1 : Value} {t : TypeId} (h : w.heap[b]? = some (.cells #[a0, a1] t (0, 0))) :
    (w.cell? ⟨b, 0, none⟩ = some a0 ∧ w.cell? ⟨b, 1, none⟩ = some a1) ∧ w.frozen? ⟨b, 0, none⟩ = false ∧ w.frozen? ⟨b, 1, none⟩ = false :=
  ⟨⟨cell_of h 0 rfl, cell_of h 1 rfl⟩, free_of h 0, free_of h 1⟩
theorem stepOps_A0 {l : List Ins} {i : Nat} {x y : Ins} (hx : l[i]? = some x) (hy : l[i + 1]? = some y) (h : x.op = 1 ∨ x.op = 3 ∨ x.op = 5) (h2 : y.op = 2) : stepOps l i = (l.set i { x with op := 0 }).set (i + 1) { y with op := 0 } := by
  unfold stepOps
  simp only [hx, hy, if_pos h, if_pos h2]
theorem stepOps_A1 {l : List Ins} {i : Nat} {x y : Ins} (hx : l[i]? = some x) (hy : l[i + 1]? = some y) (h : x.op = 1 ∨ x.op = 3 ∨ x.op = 5) (h2 : y.op = 4) : stepOps l i = (l.set i { x with op := 0 }).set (i + 1) { y with op := 1 } := by
  unfold stepOps
  simp only [hx, hy, if_pos h, if_neg (show ¬ y.op = 2 by omega), if_pos h2]
theorem stepOps_A2 {l : List Ins} {i : Nat} {x y : Ins} (hx : l[i]? = some x) (hy : l[i + 1]? = some y) (h : x.op = 1 ∨ x.op = 3 ∨ x.op = 5) (h2 : y.op ≠ 2) (h4 : y.op ≠ 4) : stepOps l i = l := by
  unfold stepOps
  simp only [hx, hy, if_pos h, if_neg h2, if_neg h4]
theorem stepOps_B0 {l : List Ins} {i : Nat} {x : Ins} (hx : l[i]? = some x) (h : x.op = 15 ∨ x.op = 16) (h2 : x.a - 1 = i) : stepOps l i = l.set i { x with op := 0 } := by
  unfold stepOps
  simp only [hx, if_neg (show ¬ (x.op = 1 ∨ x.op = 3 ∨ x.op = 5) by omega), if_pos h, if_pos h2]
theorem stepOps_B1 {l : List Ins} {i : Nat} {x y : Ins} (hx : l[i]? = some x) (h : x.op = 15 ∨ x.op = 16) (h2 : x.a - 1 ≠ i) (hy : l[x.a.toNat]? = some y) (h3 : y.op = 15) : stepOps l i = l.set i { x with a := y.a } := by
  unfold stepOps
  simp only [hx, if_neg (show ¬ (x.op = 1 ∨ x.op = 3 ∨ x.op = 5) by omega), if_pos h, if_neg h2, hy, if_pos h3]
theorem stepOps_B2 {l : List Ins} {i : Nat} {x y : Ins} (hx : l[i]? = some x) (h : x.op = 15 ∨ x.op = 16) (h2 : x.a - 1 ≠ i) (hy : l[x.a.toNat]? = some y) (h3 : y.op ≠ 15) : stepOps l i = l := by
  unfold stepOps
  simp only [hx, if_neg (show ¬ (x.op = 1 ∨ x.op = 3 ∨ x.op = 5) by omega), if_pos h, if_neg h2, hy, if_neg h3]
theorem stepOps_C {l : List Ins} {i : Nat} {x : Ins} (hx : l[i]? = some x) (h : ¬ (x.op = 1 ∨ x.op = 3 ∨ x.op = 5)) (h2 : ¬ (x.op = 15 ∨ x.op = 16)) : stepOps l i = l := by
  unfold stepOps
  simp only [hx, if_neg h, if_neg h2]


set_option maxHeartbeats 8000000 in
set_option maxRecDepth 100000 in
theorem codeOps_any (w0 w : World) (N : Nat) (l0 : List Ins) (ps0 : List Nat) (sv : Value) (h : RC w0 N l0 ps0 sv w) (hinv : Inv l0) (hlast : ∃ z, l0[l0.length - 1]? = some z ∧ z.op = 24) (hne : l0 ≠ []) (hl : l0.length ≤ 200) :
    Calls Try.prog 27 #[ptr N] w (AppEnd w0 N (opsFrom l0 l0.length)) := by
  obtain ⟨g, cap, rfl⟩ : ∃ g cap, sv = .slice (some ⟨g, 0, none⟩) l0.length cap := by
    cases l0 with
    | nil => exact absurd rfl hne
    | cons a b => exact h.pos
  have hbox := h.boxc.1
  generalize hn : l0.length = n at *
  have H : Hid (LoopO w0 N n (.slice (some ⟨g, 0, none⟩) n cap) l0 (.int .i64 ((n : Int) - 1)) (.pointer none) w) := Lib.hid ⟨n, l0, ps0, rfl, Nat.le_refl _, hn, h, hinv, hlast, rfl, fun hq => absurd hq (by omega)⟩
  have h1 : 1 ≤ n := by
    rw [← hn]
    cases l0 with
    | nil => exact absurd rfl hne
    | cons a b => simp
  clear h hinv hlast hne hn
  show Calls Try.prog 27 #[.pointer (some ⟨N, 0, none⟩)] w _
  go_enter Try.func27, Try.ntmps27
  go_wp2_with fail
  clear hbox
  go_loopw [2, 3] (LoopO w0 N n (.slice (some ⟨g, 0, none⟩) n cap) l0) (fun i _ _ => (intOf i + 1).toNat)
  case atStart => exact H.out
  case round =>
    clear H
    obtain ⟨k, l, ps, hi, hk, hl', hrc, hinv, hlast, heq, hnext⟩ := hrel
    have HRC := Lib.hid hrc
    have HINV := Lib.hid hinv
    have HLAST := Lib.hid hlast
    have HEQ := Lib.hid heq
    have HLL := Lib.hid hl'
    have hbox := hrc.boxc.1
    clear hrc hinv hlast heq
    cases k with
    | zero =>
      rw [show ((0 : Nat) : Int) - 1 = -1 by rfl] at hi
      subst hi
      clear hnext hl'
      go_wp2_with fail
      go_returns
      exact ⟨ps, _, rfl, by rw [HEQ.out]; exact HRC.out⟩
    | succ j =>
      rw [show ((j + 1 : Nat) : Int) - 1 = (j : Int) by omega] at hi
      subst hi
      have hjl : j < l.length := by omega
      have hx := List.getElem?_eq_getElem hjl
      generalize l[j] = x at hx
      obtain ⟨p, v, hp, hv, hc, hg⟩ := HRC.out.code hx
      have hcc := cells2 hc
      have HX := Lib.hid hx
      have HP := Lib.hid hp
      have HV := Lib.hid hv
      have HC := Lib.hid hc
      have hjn : j < n := by omega
      unfold ptr at hg
      clear hx hp hv hc
      by_cases hA : x.op = 1 ∨ x.op = 3 ∨ x.op = 5
      · obtain ⟨z, hz, hzo⟩ := HLAST.out
        have hj1 : j + 1 < n := by
          rcases Nat.lt_or_ge (j + 1) n with hq | hq
          · exact hq
          · have e : n - 1 = j := by omega
            rw [e, HX.out] at hz
            obtain rfl := Option.some.inj hz
            omega
        clear hz hzo
        obtain ⟨p1, hp1, rfl⟩ := hnext hj1
        have hy := List.getElem?_eq_getElem (show j + 1 < l.length by omega)
        generalize l[j + 1] = y at hy
        obtain ⟨q, u, hq, hu, hd, _⟩ := HRC.out.code hy
        rw [hp1] at hq
        obtain rfl := Option.some.inj hq
        have hdd := cells2 hd
        have hne : p ≠ p1 := by
          rintro rfl
          have := nodup_get HRC.out.nodup HP.out hp1
          omega
        have hne2 : p1 ≠ p := Ne.symm hne
        have HY := Lib.hid hy
        have HP1 := Lib.hid hp1
        have HU := Lib.hid hu
        have HD := Lib.hid hd
        have HA := Lib.hid hA
        clear hy hp1 hu hd hnext hl' hjl hq
        obtain ⟨op, xa, xb, xc⟩ := x
        obtain ⟨oq, ya, yb, yc⟩ := y
        dsimp only at hcc hdd hA
        unfold ptr
        by_cases h2 : oq = 2
        · subst h2
          have R : Hid (LoopO w0 N n (.slice (some ⟨g, 0, none⟩) n cap) l0 (.int .i64 ((j : Int) - 1)) (ptr p) ((wr.setCell ⟨p, 1, none⟩ (.int .i64 0)).setCell ⟨p1, 1, none⟩ (.int .i64 0))) :=
            Lib.hid (LoopO.next hjn HLL.out HINV.out HLAST.out HEQ.out HP.out (stepOps_A0 HX.out HY.out HA.out rfl)
              ((HRC.out.setOp HX.out HP.out HC.out (op' := 0) (HV.out.op (by dsimp only; omega) (by unfold jumps; simp) (by decide))).setOp (x := ⟨2, ya, yb, yc⟩) (by rw [List.getElem?_set_ne (by omega)]; exact HY.out) HP1.out (by rw [heap_setCell_other _ _ _ _ (by show p1 ≠ p; omega)]; exact HD.out) (op' := 0) (HU.out.op (by simp) (by unfold jumps; simp) (by decide))))
          rcases hA with rfl | rfl | rfl
          all_goals
            go_wp2_with fail
            (go_roundw
             case rel => exact R.out
             case measure => (simp [intOf] <;> omega))
        by_cases h4 : oq = 4
        · subst h4
          have R : Hid (LoopO w0 N n (.slice (some ⟨g, 0, none⟩) n cap) l0 (.int .i64 ((j : Int) - 1)) (ptr p) ((wr.setCell ⟨p, 1, none⟩ (.int .i64 0)).setCell ⟨p1, 1, none⟩ (.int .i64 1))) :=
            Lib.hid (LoopO.next hjn HLL.out HINV.out HLAST.out HEQ.out HP.out (stepOps_A1 HX.out HY.out HA.out rfl)
              ((HRC.out.setOp HX.out HP.out HC.out (op' := 0) (HV.out.op (by dsimp only; omega) (by unfold jumps; simp) (by decide))).setOp (x := ⟨4, ya, yb, yc⟩) (by rw [List.getElem?_set_ne (by omega)]; exact HY.out) HP1.out (by rw [heap_setCell_other _ _ _ _ (by show p1 ≠ p; omega)]; exact HD.out) (op' := 1) (HU.out.op (by simp) (by unfold jumps; simp) (by decide))))
          rcases hA with rfl | rfl | rfl
          all_goals
            go_wp2_with fail
            (go_roundw
             case rel => exact R.out
             case measure => (simp [intOf] <;> omega))
        · have R : Hid (LoopO w0 N n (.slice (some ⟨g, 0, none⟩) n cap) l0 (.int .i64 ((j : Int) - 1)) (ptr p) wr) :=
            Lib.hid (LoopO.next hjn HLL.out HINV.out HLAST.out HEQ.out HP.out (stepOps_A2 HX.out HY.out HA.out h2 h4) HRC.out)
          have e2 : (oq == 2) = false := by simpa using h2
          have e4 : (oq == 4) = false := by simpa using h4
          clear h2 h4
          rcases hA with rfl | rfl | rfl
          all_goals
            go_wp2_with fail
            (go_roundw
             case rel => exact R.out
             case measure => (simp [intOf] <;> omega))
      · by_cases hB : x.op = 15 ∨ x.op = 16
        · clear hnext
          obtain rfl := HV.out.jump (by unfold jumps; omega)
          have hf := HINV.out.fwd j x HX.out hB
          obtain ⟨ht0, ht1, _⟩ := HINV.out.tgt j x HX.out (by unfold jumps; omega)
          obtain ⟨op, xa, xb, xc⟩ := x
          dsimp only at hcc hA hB hf ht0 ht1
          obtain ⟨xi, rfl⟩ : ∃ xi : Nat, xa = (xi : Int) := ⟨xa.toNat, (Int.toNat_of_nonneg ht0).symm⟩
          have hxi : xi < n := by omega
          have hxp : 1 ≤ xi := by omega
          clear ht0 hf hA
          by_cases hj1 : xi = j + 1
          · subst hj1
            have R : Hid (LoopO w0 N n (.slice (some ⟨g, 0, none⟩) n cap) l0 (.int .i64 ((j : Int) - 1)) (ptr p) (wr.setCell ⟨p, 1, none⟩ (.int .i64 0))) :=
              Lib.hid (LoopO.next hjn HLL.out HINV.out HLAST.out HEQ.out HP.out (stepOps_B0 HX.out hB (by dsimp only; omega))
                (HRC.out.setOp HX.out HP.out HC.out (op' := 0) (HV.out.op (by dsimp only; omega) (by unfold jumps; simp) (by decide))))
            clear hl' hjl ht1
            rcases hB with rfl | rfl
            all_goals
              go_wp2_with fail
              (go_roundw
               case rel => exact R.out
               case measure => (simp [intOf] <;> omega))
          · have hy := List.getElem?_eq_getElem (show xi < l.length by omega)
            generalize l[xi] = y at hy
            obtain ⟨p1, u, hp1, hu, hd, hg1⟩ := HRC.out.code hy
            have hdd := cells2 hd
            have HY := Lib.hid hy
            have HU := Lib.hid hu
            have hBt : Hid _ := Lib.hid hB
            have hjx : ((xi : Int) - 1 == (j : Int)) = false := by
              have : ¬ ((xi : Int) - 1 = (j : Int)) := by omega
              simpa using this
            have HJ : Hid (xi ≠ j + 1) := Lib.hid hj1
            clear hy hp1 hu hd hl' hjl ht1 hj1
            unfold ptr at hg1
            obtain ⟨oq, ya, yb, yc⟩ := y
            dsimp only at hdd
            by_cases h15 : oq = 15
            · subst h15
              obtain rfl := HU.out.jump (by unfold jumps; simp)
              have R : Hid (LoopO w0 N n (.slice (some ⟨g, 0, none⟩) n cap) l0 (.int .i64 ((j : Int) - 1)) (ptr p) (wr.setCell ⟨p, 0, none⟩ (.iface 3 (.int .i64 ya)))) :=
                Lib.hid (LoopO.next hjn HLL.out HINV.out HLAST.out HEQ.out HP.out (stepOps_B1 HX.out hBt.out (by have := HJ.out; dsimp only; omega) HY.out rfl)
                  (HRC.out.setV HX.out HP.out HC.out (a' := ya) (.inl ⟨by have := hBt.out; dsimp only at this ⊢; omega, rfl⟩)))
              rcases hB with rfl | rfl
              all_goals
                go_wp2_with fail
                (go_roundw
                 case rel => exact R.out
                 case measure => (simp [intOf] <;> omega))
            · have R : Hid (LoopO w0 N n (.slice (some ⟨g, 0, none⟩) n cap) l0 (.int .i64 ((j : Int) - 1)) (ptr p) wr) :=
                Lib.hid (LoopO.next hjn HLL.out HINV.out HLAST.out HEQ.out HP.out (stepOps_B2 HX.out hBt.out (by have := HJ.out; dsimp only; omega) HY.out h15) HRC.out)
              have e15 : (oq == 15) = false := by simpa using h15
              clear h15
              rcases hB with rfl | rfl
              all_goals
                go_wp2_with fail
                (go_roundw
                 case rel => exact R.out
                 case measure => (simp [intOf] <;> omega))
        · have R : Hid (LoopO w0 N n (.slice (some ⟨g, 0, none⟩) n cap) l0 (.int .i64 ((j : Int) - 1)) (ptr p) wr) :=
            Lib.hid (LoopO.next hjn HLL.out HINV.out HLAST.out HEQ.out HP.out (stepOps_C HX.out hA hB) HRC.out)
          obtain ⟨op, xa, xb, xc⟩ := x
          dsimp only at hcc hA hB
          simp only [not_or] at hA hB
          have e1 : (op == 1) = false := by simpa using hA.1
          have e3 : (op == 3) = false := by simpa using hA.2.1
          have e5 : (op == 5) = false := by simpa using hA.2.2
          have e15 : (op == 15) = false := by simpa using hB.1
          have e16 : (op == 16) = false := by simpa using hB.2
          clear hA hB hnext hl' hjl
          go_wp2_with fail
          (go_roundw
           case rel => exact R.out
           case measure => (simp [intOf] <;> omega))
end Go.Proofs.Ytnlndpgbhmkanaa.Op
