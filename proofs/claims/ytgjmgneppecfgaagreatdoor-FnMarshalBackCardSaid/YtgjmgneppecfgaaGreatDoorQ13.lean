/-
  THE WALK of decimal.text, with one digit behind the point.
-/
import Derived.Test.YtgjmgneppecfgaaGreatDoorQMaR
set_option linter.unusedVariables false
set_option linter.unusedSimpArgs false
namespace Go.Proofs.YtgjmgneppecfgaaGreatDoor.Ma
open Go.RowKit Go.Proofs.YtgjmgneppecfgaaGreatDoor.Va Go.Proofs.YtgjmgneppecfgaaGreatDoor.Ba
set_option linter.unusedVariables false
set_option linter.unusedSimpArgs false

/-- a row that the call builds -/
def OutR (out : List Nat) (ov : Value) (w wr : World) : Prop := Below w.heap.size w wr ∧ wr.ownsRow w.heap.size 5 1 ov out.length (cellsD out)
theorem OutR.next {out : List Nat} {ov v' : Value} {w wr w3 : World} {o : Obj} {x : Nat} (h : OutR out ov w wr)
    (hap : Appended (wr.alloc o) w.heap.size 5 1 ov out.length (cellsD out ++ [.int .u8 (x : Int)]) v' w3) : OutR (out ++ [x]) v' w w3 := by
  obtain ⟨h1, h3⟩ := h
  refine ⟨Below.grown (h1.alloc h1.size o) hap.grown (h1.alloc h1.size o).size (fun j hj => (h3.lt j hj).1), ?_⟩
  have := hap.owns
  rw [List.length_append, List.length_singleton]
  have e : cellsD (out ++ [x]) = cellsD out ++ [.int .u8 (x : Int)] := by simp [cellsD]
  rw [e]
  exact this
theorem OutR.nil (w : World) : OutR [] (.slice none 0 0) w w := ⟨Below.refl _ _, World.ownsRow_nil _ _ _ _⟩
/-- the row as a text -/
theorem OutR.str {out : List Nat} {w wr : World} {m cap : Nat} {oa : Option Addr} (h : OutR out (.slice oa m cap) w wr) (hm : 0 < out.length) :
    out.length = m ∧ ∃ g, oa = some ⟨g, 0, none⟩ ∧ (convert 73 9 (.slice (some ⟨g, 0, none⟩) m cap)).run Tryz.prog wr = .ok (.string (numS out)) wr := by
  have h3 := h.2
  obtain ⟨a, c, e, _, hd⟩ := owns_digs h3
  cases e
  refine ⟨rfl, ?_⟩
  rcases hd with hd | ⟨g, rfl, _, _, _, _, hc⟩
  · rw [hd] at hm; cases hm
  · exact ⟨g, rfl, run_convert_bytes_arg (P := Tryz.prog) wr 73 5 Tryz.underlying73 Tryz.underlying5 g 0 _ cap (out.map fun x : Nat => (x : Int)) (by rw [List.length_map])
      (fun j hj => by
        rw [Nat.zero_add, hc j hj]
        simp [List.getD, List.getElem?_eq_getElem hj]) 9 Tryz.underlying9⟩
/-- a number's digits with one of them behind the point -/
def textL (d : List Nat) (p : Nat) : List Nat := (if p = 0 then [48] else (d.take p).map (48 + ·)) ++ [46, 48 + d.getD p 0]
def LoopX1 (d : List Nat) (p : Nat) (w : World) (ov iv : Value) (wr : World) : Prop := ∃ i : Nat, iv = .int .i64 (i : Int) ∧ i ≤ p ∧ OutR ((d.take i).map (48 + ·)) ov w wr
def LoopX2 (A : List Nat) (x : Nat) (w : World) (ov iv : Value) (wr : World) : Prop := ∃ i : Nat, iv = .int .i64 (i : Int) ∧ i ≤ 1 ∧ OutR (A ++ [x].take i) ov w wr
set_option maxHeartbeats 4000000 in
set_option maxRecDepth 100000 in
theorem text_dec (b p : Nat) (d : List Nat) (hp : p < d.length) (hd9 : ∀ x ∈ d, x < 10) (hd2 : d.length ≤ 100) (w : World) (h : Dec w b d (p : Int)) :
    Calls Tryz.prog 244 #[.pointer (some ⟨b, 0, none⟩), .int .i64 1] w (StrEnd (numS (textL d p)) w) := by
  obtain ⟨i8, z8, hi0, hi1, hi2, hi3, hi4⟩ := info8g
  have HI0 := Lib.hid hi0
  have HI1 := Lib.hid hi1
  have HI2 := Lib.hid hi2
  have HI3 := Lib.hid hi3
  have HI4 := Lib.hid hi4
  clear hi0 hi1 hi2 hi3 hi4
  have H := Lib.hid h
  have HD9 := Lib.hid hd9
  have HDL := Lib.hid hp
  have hp9 : p ≤ 100 := by omega
  have HONE : Hid (∀ (y : Int), ∀ u ∈ (#[Value.int .u8 y] : Array Value).toList, u.oneCell' = true) := Lib.hid (by
    intro y u hu
    have e : u = .int .u8 y := by simpa using hu
    rw [e]
    rfl)
  have HCD : Hid (∀ W : World, Below w.heap.size w W → (W.cell? ⟨b, 1, none⟩ = some (.int .i64 (p : Int)))) := Lib.hid (fun W hW => by
    obtain ⟨a, cap, h1, _⟩ := h.below hW
    exact (cells2 h1).1.2)
  clear h hd9 hp hd2
  go_enter Tryz.func244, Tryz.ntmps244
  go_wp2_with fail
  go_loopw [5, 6] (LoopX1 d p w) (fun _ i _ => p - (intOf i).toNat)
  case atStart => exact ⟨0, rfl, Nat.zero_le _, OutR.nil w⟩
  case round =>
    obtain ⟨i, rfl, hi, ho⟩ := hrel
    have hc := HCD.out wr ho.1
    have HO := Lib.hid ho
    have hsz := ho.1.size
    have HL : Hid (((d.take i).map (48 + ·)).length = i) := Lib.hid (by rw [List.length_map, List.length_take]; have := HDL.out; omega)
    have HOWN := Lib.hid ho.2
    obtain ⟨oa, ocap, rfl, holen, _⟩ := owns_digs ho.2
    rw [HL.out] at HOWN holen ⊢
    clear ho
    by_cases hlt : i < p
    · have hx9 := getD_all HD9.out i
      have HTK : Hid ((d.take (i + 1)).map (48 + ·) = (d.take i).map (48 + ·) ++ [48 + d.getD i 0]) := Lib.hid (by
        have := HDL.out
        rw [List.take_succ_eq_append_getElem (by omega), List.map_append]
        simp [List.getD, List.getElem?_eq_getElem (show i < d.length by omega)])
      have HDG := Lib.hid (digit_any b d (p : Int) i wr (H.out.below HO.out.1))
      obtain ⟨x, hx0⟩ : ∃ x, d.getD i 0 = x := ⟨_, rfl⟩
      rw [hx0] at hx9 HTK HDG
      clear hx0
      have hw48 : IntKind.u8.wrap (48 + (x : Int)) = ((48 + x : Nat) : Int) := by rw [IntKind.wrap_u8]; omega
      go_wp2_with fail
      refine HDG.out.mono ?_
      rintro e w' ⟨rfl, rfl⟩
      go_wp2_with (at_builtin; refine wpList_append_one _ rfl _ _ 73 rfl w.heap.size 5 i8 _ 1 1 Tryz.underlying73 HI0.out HI1.out HI2.out HI3.out HI4.out (by decide) _ _ (cellsD ((d.take i).map (48 + ·))) rfl (HOWN.out.alloc _) ⟨wr.heap.size, 0, none⟩ 1 _ rfl rfl (cell_new wr _ _) (HONE.out _) (by unfold maxLen; omega) (by omega) (by simp; omega) ?_; intro v' w3 hap
                   have F := Lib.hid (HO.out.next (x := 48 + x) (by rw [HL.out]; exact hap))
                   obtain ⟨vg, vcap, rfl⟩ := hap.made
                   clear hap)
      go_roundw
      case rel => exact ⟨i + 1, by push_cast; rfl, hlt, by rw [HTK.out]; exact F.out⟩
      case measure => simp [intOf]; omega
    · obtain rfl : i = p := by omega
      have hx9 := getD_all HD9.out i
      have HDG := Lib.hid (fun (W : World) (hW : Below w.heap.size w W) => digit_any b d (i : Int) i W (H.out.below hW))
      obtain ⟨x, hx0⟩ : ∃ x, d.getD i 0 = x := ⟨_, rfl⟩
      have HX := Lib.hid hx0
      rw [hx0] at hx9 HDG
      clear hx0 hlt
      have hw48 : IntKind.u8.wrap (48 + (x : Int)) = ((48 + x : Nat) : Int) := by rw [IntKind.wrap_u8]; omega
      obtain ⟨A, HA⟩ : ∃ A, Hid ((if i = 0 then [48] else (d.take i).map (48 + ·)) ++ [46] = A) := ⟨_, Lib.hid rfl⟩
      have HAL : Hid (A.length ≤ 200) := Lib.hid (by
        rw [← HA.out, List.length_append]
        split
        · decide
        · rw [HL.out]; simp; omega)
      rcases Nat.eq_zero_or_pos i with hi0 | hi0
      focus
        have hi1 : ((i : Int) == 0) = true := by simp; omega
        have HI : Hid (i = 0) := Lib.hid hi0
        clear hi0
        go_wp2_with (at_builtin; refine wpList_append_one _ rfl _ _ 73 rfl w.heap.size 5 i8 _ 1 1 Tryz.underlying73 HI0.out HI1.out HI2.out HI3.out HI4.out (by decide) _ _ (cellsD ((d.take i).map (48 + ·))) rfl (HOWN.out.alloc _) ⟨wr.heap.size, 0, none⟩ 1 _ rfl rfl (cell_new wr _ _) (HONE.out _) (by unfold maxLen; omega) (by omega) (by simp; omega) ?_; intro v' w3 hap; refine Hid.out ?_)
        refine Lib.hid ?_
        have F0 := Lib.hid (HO.out.next (x := 48) (by rw [HL.out]; exact hap))
        obtain ⟨vg, vcap, rfl⟩ := hap.made
        clear hap
        have hsz3 := F0.out.1.size
        have hown3 := F0.out.2
        have hl0 : ((d.take i).map (48 + ·) ++ [48]).length = i + 1 := by rw [List.length_append, HL.out]; rfl
        rw [hl0] at hown3
        have HOWN3 := Lib.hid hown3
        clear hown3 hl0
        go_wp2_with (at_builtin; refine wpList_append_one _ rfl _ _ 73 rfl w.heap.size 5 i8 _ 1 1 Tryz.underlying73 HI0.out HI1.out HI2.out HI3.out HI4.out (by decide) _ _ (cellsD ((d.take i).map (48 + ·) ++ [48])) rfl (HOWN3.out.alloc _) ⟨w3.heap.size, 0, none⟩ 1 _ rfl rfl (cell_new w3 _ _) (HONE.out _) (by unfold maxLen; omega) (by omega) (by simp; omega) ?_; intro v' w4 hap
                     have F : Hid (OutR A v' w w4) := Lib.hid (by
                       have := F0.out.next (x := 46) (by rw [List.length_append, HL.out]; exact hap)
                       rw [← HA.out, if_pos HI.out]
                       rw [HI.out, List.take_zero] at this
                       exact this)
                     obtain ⟨vg4, vcap4, rfl⟩ := hap.made
                     clear hap)
      rotate_left
      focus
        have hi1 : ((i : Int) == 0) = false := by simp; omega
        go_wp2_with (at_builtin; refine wpList_append_one _ rfl _ _ 73 rfl w.heap.size 5 i8 _ 1 1 Tryz.underlying73 HI0.out HI1.out HI2.out HI3.out HI4.out (by decide) _ _ (cellsD ((d.take i).map (48 + ·))) rfl (HOWN.out.alloc _) ⟨wr.heap.size, 0, none⟩ 1 _ rfl rfl (cell_new wr _ _) (HONE.out _) (by unfold maxLen; omega) (by omega) (by simp; omega) ?_; intro v' w4 hap
                     have F : Hid (OutR A v' w w4) := Lib.hid (by
                       have := HO.out.next (x := 46) (by rw [HL.out]; exact hap)
                       rw [← HA.out, if_neg (by omega)]
                       exact this)
                     obtain ⟨vg4, vcap4, rfl⟩ := hap.made
                     clear hap)
      all_goals
        go_loopw [5, 7] (LoopX2 A (48 + x) w) (fun _ iv _ => 1 - (intOf iv).toNat)
        case atStart => exact ⟨0, rfl, Nat.zero_le _, by rw [List.take_zero, List.append_nil]; exact F.out⟩
        case round =>
          obtain ⟨j, rfl, hj, ho⟩ := hrel
          have hc := HCD.out wr ho.1
          have HO := Lib.hid ho
          have hsz := ho.1.size
          have HOWN := Lib.hid ho.2
          obtain ⟨oa, ocap, rfl, holen, _⟩ := owns_digs ho.2
          have hAL := HAL.out
          clear ho
          rcases Nat.eq_zero_or_pos j with rfl | hj0
          · obtain ⟨m, hm⟩ : ∃ m, (A ++ [48 + x].take 0).length = m := ⟨_, rfl⟩
            have hm9 : m ≤ 200 := by rw [← hm]; simpa using hAL
            have HM := Lib.hid hm
            rw [hm] at HOWN ⊢
            clear hm
            have HDG2 := Lib.hid (HDG.out wr HO.out.1)
            go_wp2_with fail
            refine HDG2.out.mono ?_
            rintro e w' ⟨rfl, rfl⟩
            go_wp2_with (at_builtin; refine wpList_append_one _ rfl _ _ 73 rfl w.heap.size 5 i8 _ 1 1 Tryz.underlying73 HI0.out HI1.out HI2.out HI3.out HI4.out (by decide) _ _ (cellsD (A ++ [48 + x].take 0)) rfl (HOWN.out.alloc _) ⟨wr.heap.size, 0, none⟩ 1 _ rfl rfl (cell_new wr _ _) (HONE.out _) (by unfold maxLen; omega) (by omega) (by simp; omega) ?_; intro v' w5 hap
                         have F5 := Lib.hid (HO.out.next (x := 48 + x) (by rw [HM.out]; exact hap))
                         obtain ⟨vg5, vcap5, rfl⟩ := hap.made
                         clear hap)
            go_roundw
            case rel => exact ⟨1, rfl, Nat.le_refl _, by have := F5.out; rw [List.take_zero, List.append_nil] at this; exact this⟩
            case measure => simp [intOf]
          · obtain rfl : j = 1 := by omega
            have HT : Hid (A ++ [48 + x].take 1 = textL d i) := Lib.hid (by
              unfold textL
              rw [← HA.out, HX.out, List.append_assoc]
              rfl)
            rw [HT.out] at HO HOWN holen ⊢
            obtain ⟨hlen, g, rfl, hcv⟩ := HO.out.str (by rw [← HT.out]; simp)
            have HLN := Lib.hid hlen
            clear hlen
            go_wp2_with fail
            go_returns
            exact ⟨rfl, HO.out.1⟩
end Go.Proofs.YtgjmgneppecfgaaGreatDoor.Ma
/-
  THE WALK of decimal.short, of half a whole number: none shorter is found.
-/
namespace Go.Proofs.YtgjmgneppecfgaaGreatDoor.Ma
open Go.RowKit Go.Proofs.YtgjmgneppecfgaaGreatDoor.Va Go.Proofs.YtgjmgneppecfgaaGreatDoor.Ba
set_option linter.unusedVariables false
set_option linter.unusedSimpArgs false

/-- newDecimal's end, by the number -/
theorem newDec_can (n : Nat) (h0 : 0 < n) (hn : n < 18446744073709551616) (w : World) : Calls Tryz.prog 239 #[.int .u64 (n : Int)] w
    (fun e w' => e = .returned (.pointer (some ⟨w.heap.size, 0, none⟩)) ∧ IsDec (w.heap.size + 1) w.heap.size (canD n) ((dg n).length : Int) w' ∧ Below w.heap.size w w') := by
  refine (newDec_any n hn w).mono ?_
  rintro e w' ⟨h1, h2, h3⟩
  refine ⟨h1, ?_, h3⟩
  have hne : stripZ (valsD (digs n)) ≠ [] := fun e => by
    have := (canD_row h0).pos
    unfold canD dg at this
    rw [e] at this
    exact absurd this (by decide)
  unfold trimP at h2
  rw [if_neg hne] at h2
  have e : ((dg n).length : Int) = ((digs n).length : Int) := by unfold dg valsD; rw [List.length_map]
  rw [e]
  exact h2
theorem dg_len {n : Nat} (hn : n < 18446744073709551616) : (dg n).length ≤ 20 := by unfold dg valsD; rw [List.length_map]; exact digs_len hn
/-- .. shifted -/
theorem canD_shift {n k : Nat} (h0 : 0 < n) : canD (numD (canD n) * 5 ^ k) = canD (n * 5 ^ k) ∧ ((dg n).length : Int) + (dg (numD (canD n) * 5 ^ k)).length - (canD n).length - k = canP (n * 5 ^ k) k := by
  obtain ⟨h1, h2⟩ := canD_num n
  have hp : 0 < numD (canD n) * 5 ^ k := Nat.mul_pos (numD_pos (canD_row h0).pos (canD_row h0).head) (Nat.pow_pos (by decide))
  have e : n * 5 ^ k = numD (canD n) * 5 ^ k * 10 ^ ((dg n).length - (canD n).length) := by
    rw [Nat.mul_right_comm, h2]
  have e2 := len_pow hp ((dg n).length - (canD n).length)
  rw [← e] at e2
  refine ⟨by rw [e, canD_pow hp], ?_⟩
  unfold canP
  omega
def ShiftEnd (b n k : Nat) (w : World) (e : Ending) (w' : World) : Prop :=
  e = .returned (.tuple #[]) ∧ IsDec w.heap.size b (canD (n * 5 ^ k)) (canP (n * 5 ^ k) k) w' ∧ w.grownBy w' (some b)
theorem shift_can (base b n k : Nat) (z : Int) (hz : -z = (k : Int)) (hk0 : 0 < k) (hk : k ≤ 55) (h0 : 0 < n) (hn : n < 18446744073709551616) (w : World) (h : IsDec base b (canD n) ((dg n).length : Int) w) :
    Calls Tryz.prog 240 #[.pointer (some ⟨b, 0, none⟩), .int .i64 z] w (ShiftEnd b n k w) := by
  have hr := canD_row h0
  have hl := dg_len hn
  have hc := (canD_num n).1
  refine (shift_any base b k (canD n) ((dg n).length : Int) z hz hk0 hk hr.pos hr.head hr.all (by omega) (by omega) (by omega) w h).mono ?_
  rintro e w' ⟨h1, h2, h3⟩
  obtain ⟨e1, e2⟩ := canD_shift (k := k) h0
  rw [e1, e2] at h2
  exact ⟨h1, h2, h3⟩
theorem canP_small {n j : Nat} (hn : n < 10 ^ 100) (hj : j ≤ 100) : (dg n).length ≤ 100 ∧ -1000 ≤ canP n j ∧ canP n j ≤ 1000 := by
  have h1 : (dg n).length ≤ 100 := by
    by_cases hz : n = 0
    · subst hz; rw [dg_small (by decide)]; decide
    · rcases Nat.lt_or_ge 100 (dg n).length with q | q
      · exfalso
        have := numD_ge (dg n) (dg_len_pos n) (dg_head n (by omega))
        rw [numD_dg] at this
        have h2 : 10 ^ 100 ≤ 10 ^ ((dg n).length - 1) := Nat.pow_le_pow_right (by decide) (by omega)
        omega
      · exact q
  unfold canP
  omega
end Go.Proofs.YtgjmgneppecfgaaGreatDoor.Ma
