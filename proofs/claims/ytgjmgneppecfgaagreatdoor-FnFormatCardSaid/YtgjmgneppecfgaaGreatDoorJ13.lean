/-
  FnFormat, texts MaT MaU MpA MaV: lemmas for the law; the theorem stands in the last text.
-/
import Derived.BigQuiet
import Derived.Test.YtgjmgneppecfgaaGreatDoorJ09
import Derived.Test.YtgjmgneppecfgaaGreatDoorJ12
namespace Go.Proofs.YtgjmgneppecfgaaGreatDoor.Ma
open Go.RowKit Go.Proofs.YtgjmgneppecfgaaGreatDoor.Va Go.Proofs.YtgjmgneppecfgaaGreatDoor.Ba
set_option linter.unusedVariables false
set_option linter.unusedSimpArgs false

/-- newDecimal's end, by the number -/
theorem newDec_can (n : Nat) (h0 : 0 < n) (hn : n < 18446744073709551616) (w : World) : Calls Tryz.prog 239 #[.int .u64 (n : Int)] w
    (fun e w' => e = .returned (.pointer (some ⟨w.heap.size, 0, none⟩)) ∧ IsDec (w.heap.size + 1) w.heap.size (canD n) ((dg n).length : Int) w' ∧ Below w.heap.size w w') := by
  refine (newDec_any n hn w).mono ?_
  rintro e w' ⟨h1, h2, h3⟩
  refine ⟨h1, ?_, h3⟩
  have hne : stripZ (valsD (digs n)) ≠ [] := fun e => by
    have := (canD_row h0).pos
    unfold canD dg at this
    rw [e] at this
    exact absurd this (by decide)
  unfold trimP at h2
  rw [if_neg hne] at h2
  have e : ((dg n).length : Int) = ((digs n).length : Int) := by unfold dg valsD; rw [List.length_map]
  rw [e]
  exact h2
theorem dg_len {n : Nat} (hn : n < 18446744073709551616) : (dg n).length ≤ 20 := by unfold dg valsD; rw [List.length_map]; exact digs_len hn
/-- .. shifted -/
theorem canD_shift {n k : Nat} (h0 : 0 < n) : canD (numD (canD n) * 5 ^ k) = canD (n * 5 ^ k) ∧ ((dg n).length : Int) + (dg (numD (canD n) * 5 ^ k)).length - (canD n).length - k = canP (n * 5 ^ k) k := by
  obtain ⟨h1, h2⟩ := canD_num n
  have hp : 0 < numD (canD n) * 5 ^ k := Nat.mul_pos (numD_pos (canD_row h0).pos (canD_row h0).head) (Nat.pow_pos (by decide))
  have e : n * 5 ^ k = numD (canD n) * 5 ^ k * 10 ^ ((dg n).length - (canD n).length) := by
    rw [Nat.mul_right_comm, h2]
  have e2 := len_pow hp ((dg n).length - (canD n).length)
  rw [← e] at e2
  refine ⟨by rw [e, canD_pow hp], ?_⟩
  unfold canP
  omega
def ShiftEnd (b n k : Nat) (w : World) (e : Ending) (w' : World) : Prop :=
  e = .returned (.tuple #[]) ∧ IsDec w.heap.size b (canD (n * 5 ^ k)) (canP (n * 5 ^ k) k) w' ∧ w.grownBy w' (some b)
theorem shift_can (base b n k : Nat) (z : Int) (hz : -z = (k : Int)) (hk0 : 0 < k) (hk : k ≤ 55) (h0 : 0 < n) (hn : n < 18446744073709551616) (w : World) (h : IsDec base b (canD n) ((dg n).length : Int) w) :
    Calls Tryz.prog 240 #[.pointer (some ⟨b, 0, none⟩), .int .i64 z] w (ShiftEnd b n k w) := by
  have hr := canD_row h0
  have hl := dg_len hn
  have hc := (canD_num n).1
  refine (shift_any base b k (canD n) ((dg n).length : Int) z hz hk0 hk hr.pos hr.head hr.all (by omega) (by omega) (by omega) w h).mono ?_
  rintro e w' ⟨h1, h2, h3⟩
  obtain ⟨e1, e2⟩ := canD_shift (k := k) h0
  rw [e1, e2] at h2
  exact ⟨h1, h2, h3⟩
theorem canP_small {n j : Nat} (hn : n < 10 ^ 100) (hj : j ≤ 100) : (dg n).length ≤ 100 ∧ -1000 ≤ canP n j ∧ canP n j ≤ 1000 := by
  have h1 : (dg n).length ≤ 100 := by
    by_cases hz : n = 0
    · subst hz; rw [dg_small (by decide)]; decide
    · rcases Nat.lt_or_ge 100 (dg n).length with q | q
      · exfalso
        have := numD_ge (dg n) (dg_len_pos n) (dg_head n (by omega))
        rw [numD_dg] at this
        have h2 : 10 ^ 100 ≤ 10 ^ ((dg n).length - 1) := Nat.pow_le_pow_right (by decide) (by omega)
        omega
      · exact q
  unfold canP
  omega
end Go.Proofs.YtgjmgneppecfgaaGreatDoor.Ma
namespace Go.Proofs.YtgjmgneppecfgaaGreatDoor.Ma
open Go.RowKit Go.Proofs.YtgjmgneppecfgaaGreatDoor.Va Go.Proofs.YtgjmgneppecfgaaGreatDoor.Ba
set_option linter.unusedVariables false
set_option linter.unusedSimpArgs false

theorem IsDec.below {base b : Nat} {d : List Nat} {dp : Int} {w w' : World} (h : IsDec base b d dp w) (hb : Below w.heap.size w w') : IsDec base b d dp w' := by
  obtain ⟨v, h1, h2, h3⟩ := h
  exact ⟨v, keep hb h1, owns_other h2 fun g hg => hb.block g (h2.lt g hg).2, h3⟩
def NewEnd (n : Nat) (w : World) (e : Ending) (w' : World) : Prop := e = .returned (.pointer (some ⟨w.heap.size, 0, none⟩)) ∧ IsDec (w.heap.size + 1) w.heap.size (canD n) ((dg n).length : Int) w' ∧ Below w.heap.size w w'
theorem newDec_int (z : Int) (n : Nat) (hz : z = (n : Int)) (h0 : 0 < n) (hn : n < 18446744073709551616) (w : World) : Calls Tryz.prog 239 #[.int .u64 z] w (NewEnd n w) := by
  subst hz
  exact newDec_can n h0 hn w
theorem cells3 {w : World} {b : Nat} {a0 a1 a2 : Value} {t : TypeId} (h : w.heap[b]? = some (.cells #[a0, a1, a2] t (0, 0))) :
    w.cell? ⟨b, 0, none⟩ = some a0 ∧ w.cell? ⟨b, 1, none⟩ = some a1 ∧ w.cell? ⟨b, 2, none⟩ = some a2 := ⟨cell_of h 0 rfl, cell_of h 1 rfl, cell_of h 2 rfl⟩
/-- what stands behind newDecimal and shift -/
theorem made_kept {B blk n k : Nat} {w0 w w' : World} {e : Ending} (hb : Below B w0 w) (hB : B ≤ blk) (hB2 : B ≤ w0.heap.size) (h : ShiftEnd blk n k w e w') : Dec w' blk (canD (n * 5 ^ k)) (canP (n * 5 ^ k) k) ∧ Below B w0 w' ∧ w.heap.size ≤ w'.heap.size :=
  ⟨h.2.1.dec, Below.grown hb h.2.2 (Nat.le_trans hB2 hb.size) (fun j hj => by cases hj; exact hB), h.2.2.size⟩
/-- the lower edge -/
def LowEdge (h k lo : Nat) (W : World) : Prop := ∃ Lv j, 0 < Lv ∧ j ≤ k + 2 ∧ Lv < 10 ^ 100 ∧ h / 2 * 10 ^ (k + 2) < Lv * 10 ^ (k + 2 - j) ∧ Dec W lo (canD Lv) (canP Lv j)
theorem five_small {n j : Nat} (hn : n < 10 ^ 20) (hj : j ≤ 55) : n * 5 ^ j < 10 ^ 100 := by
  have h1 : 5 ^ j ≤ 5 ^ 55 := Nat.pow_le_pow_right (by decide) hj
  have h2 : n * 5 ^ j ≤ n * 5 ^ 55 := Nat.mul_le_mul_left _ h1
  have h3 : n * 5 ^ 55 < 10 ^ 20 * 5 ^ 55 := Nat.mul_lt_mul_of_pos_right hn (Nat.pow_pos (by decide))
  have h4 : 10 ^ 20 * 5 ^ 55 ≤ 10 ^ 100 := by decide
  omega
theorem cmp_low {base h k n lo bd Lv j : Nat} {W : World} (ho : h % 2 = 1) (hh : h < 9007199254740992) (hk : 0 < k) (hk2 : k ≤ 53) (hn : n < (dg (5 * h)).length) (l0 : 0 < Lv) (l1 : j ≤ k + 2) (l2 : Lv < 10 ^ 100) (l3 : h / 2 * 10 ^ (k + 2) < Lv * 10 ^ (k + 2 - j)) (l4 : Dec W lo (canD Lv) (canP Lv j))
    (hd : IsDec base bd (stripZ ((dg (5 * h)).take n)) (trimP ((dg (5 * h)).take n) ((dg (5 * h)).length - 1 : Nat)) W) :
    ∃ z : Int, 0 < z ∧ Calls Tryz.prog 285 #[.pointer (some ⟨lo, 0, none⟩), .pointer (some ⟨bd, 0, none⟩)] W (RetZ z W) := by
  have hL := dg_len (n := 5 * h) (by omega)
  obtain ⟨s1, s2, s3⟩ := canP_small (n := Lv) (j := j) l2 (by omega)
  have c1 := (canD_num Lv).1
  obtain ⟨z, hz⟩ := stripZ_dec ((dg (5 * h)).take n)
  have hl : (stripZ ((dg (5 * h)).take n)).length ≤ 20 := by
    have := congrArg List.length hz
    rw [List.length_append, List.length_take] at this
    omega
  have ht : trimP ((dg (5 * h)).take n) ((dg (5 * h)).length - 1 : Nat) = 0 ∨ trimP ((dg (5 * h)).take n) ((dg (5 * h)).length - 1 : Nat) = ((dg (5 * h)).length - 1 : Nat) := by
    unfold trimP
    split
    · exact .inl rfl
    · exact .inr rfl
  refine ⟨_, low_gt ho hk hn Lv j l0 l1 l3, cmp_any lo bd _ _ _ _ (canD_row l0).all (fun x hx => dg_all (5 * h) x (List.mem_of_mem_take (i := n) (by rw [hz]; exact List.mem_append_left _ hx))) (by omega) (by omega) (by omega) (by omega) W l4 hd.dec⟩
theorem cmp_up {base h k n hi bu Hv j : Nat} {W : World} (ho : h % 2 = 1) (hh : h < 9007199254740992) (hk : 0 < k) (hk2 : k ≤ 53) (hn : n < (dg (5 * h)).length) (l0 : 0 < Hv) (l1 : j ≤ k + 2) (l2 : Hv < 10 ^ 100) (l3 : Hv * 10 ^ (k + 2 - j) < (h / 2 + 1) * 10 ^ (k + 2)) (l4 : Dec W hi (canD Hv) (canP Hv j))
    (hd : IsDec base bu (upL (dg (5 * h)) n) (((dg (5 * h)).length - 1 : Nat) + upE (dg (5 * h)) n) W) :
    ∃ z : Int, 0 < z ∧ Calls Tryz.prog 285 #[.pointer (some ⟨bu, 0, none⟩), .pointer (some ⟨hi, 0, none⟩)] W (RetZ z W) := by
  have hL := dg_len (n := 5 * h) (by omega)
  obtain ⟨s1, s2, s3⟩ := canP_small (n := Hv) (j := j) l2 (by omega)
  have c1 := (canD_num Hv).1
  have hr := upL_row (five_row (h := h) (by omega)) n (by omega)
  have hl := upL_len (d := dg (5 * h)) n (by omega)
  have h01 := upE_01 (dg (5 * h)) n
  exact ⟨_, up_gt ho hk hn Hv j l0 l1 l3, cmp_any bu hi _ _ _ _ hr.all (canD_row l0).all (by omega) (by omega) (by omega) (by omega) W hd.dec l4⟩
theorem IsDec.drewN {base b m : Nat} {d : List Nat} {dp : Int} {w : World} (h : IsDec base b d dp w) : IsDec base b d dp (w.drewN m) := h.below ⟨rfl, rfl, rfl, Nat.le_refl _, fun _ _ => rfl⟩
theorem Dec.drewN {b m : Nat} {d : List Nat} {dp : Int} {w : World} (h : Dec w b d dp) : Dec (w.drewN m) b d dp := h.below ⟨rfl, rfl, rfl, Nat.le_refl _, fun _ _ => rfl⟩
def LoopS (L : Nat) (W : World) (iv : Value) (wr : World) : Prop := ∃ n : Nat, iv = .int .i64 (n : Int) ∧ n ≤ L ∧ Below W.heap.size W wr
def ShortEnd (b : Nat) (w : World) (e : Ending) (w' : World) : Prop := e = .returned (.pointer (some ⟨b, 0, none⟩)) ∧ Below w.heap.size w w'
set_option maxHeartbeats 4000000 in
set_option maxRecDepth 100000 in
theorem short_any (base b h k m : Nat) (ex : Int) (ho : h % 2 = 1) (hh : h < 9007199254740992) (hk : 0 < k) (hk2 : k ≤ 53) (hm : m = h * 2 ^ (k - 1)) (hm1 : 4503599627370496 ≤ m) (hm2 : m < 9007199254740992) (hex : 52 - ex = (k : Int)) (w : World)
    (H : IsDec base b (dg (5 * h)) ((dg (5 * h)).length - 1 : Nat) w) :
    Calls Tryz.prog 241 #[.pointer (some ⟨b, 0, none⟩), .int .u64 (m : Int), .int .i64 ex, .agg #[.int .i64 52, .int .i64 11, .int .i64 (-1023)]] w (ShortEnd b w) := by
  have HH := Lib.hid H
  have HED := Lib.hid (edges ho hk hm)
  have HM := Lib.hid hm
  have HO := Lib.hid ho
  have HEX := Lib.hid hex
  have e1 : -1 ≤ ex := by omega
  have e2 : ex ≤ 51 := by omega
  have hL := dg_len (n := 5 * h) (by omega)
  have HLP := Lib.hid (dg_len_pos (5 * h))
  have HDA := Lib.hid (dg_all (5 * h))
  obtain ⟨D, hD⟩ : ∃ D, dg (5 * h) = D := ⟨_, rfl⟩
  have HD := Lib.hid hD
  rw [hD] at HH hL HLP HDA
  obtain ⟨L, hLL⟩ : ∃ L, D.length = L := ⟨_, rfl⟩
  have HLL := Lib.hid hLL
  rw [hLL] at HH hL HLP
  have hbw : b < w.heap.size := by obtain ⟨v, h1, _⟩ := HH.out; exact heap_lt h1
  clear H ho hm hex hD hLL
  have hm0 : ((m : Int) == 0) = false := by simp; omega
  go_enter Tryz.func241, Tryz.ntmps241
  go_wp2_with fail
  generalize hW : World.alloc w _ = W1
  have B1 := Lib.hid (hW ▸ below_alloc w _ : Below w.heap.size w W1)
  have hz1 : w.heap.size < W1.heap.size := by rw [← hW, World.size_alloc]; omega
  have F1 := Lib.hid (hW ▸ block_new w _ _ : W1.heap[w.heap.size]? = some (.cells #[.int .i64 52, .int .i64 11, .int .i64 (-1023)] 260 (0, 0)))
  clear hW
  refine (newDec_int _ (2 * m + 1) (by push_cast; rfl) (by omega) (by omega) W1).mono ?_
  rintro e W2 ⟨rfl, h2, b2⟩
  have A2 := Lib.hid h2
  have F2 := Lib.hid (keep b2 F1.out)
  have B2 := Lib.hid (B1.out.trans (b2.mono B1.out.size))
  have c2 := cells3 F2.out
  have hz2 := b2.size
  clear h2 b2
  go_wp2_with fail
  refine (shift_can _ W1.heap.size (2 * m + 1) (k + 1) (ex - 52 - 1) (by have := HEX.out; omega) (by omega) (by omega) (by omega) (by omega) W2 A2.out).mono ?_
  intro e W3 h3
  obtain ⟨a3, b3, z3⟩ := made_kept B2.out B1.out.size (Nat.le_refl _) h3
  have F3 := Lib.hid ((h3.2.2.block w.heap.size (by omega) (fun e => by have := Option.some.inj e; omega)).trans F2.out)
  obtain ⟨rfl, _, _⟩ := h3
  have A3 := Lib.hid a3
  have B3 := Lib.hid b3
  have hz3 := b3.size
  have c3 := cells3 F3.out
  clear a3 b3 c2
  go_wp2_with fail
  refine (newDec_int _ (2 * m - 1) (by omega) (by omega) (by omega) W3).mono ?_
  rintro e W4 ⟨rfl, h4, b4⟩
  have A4 := Lib.hid (A3.out.below b4)
  have L4 := Lib.hid h4
  have B4 := Lib.hid (B3.out.trans (b4.mono hz3))
  have B34 := Lib.hid b4
  have F4 := Lib.hid (keep b4 F3.out)
  have c4 := cells3 F4.out
  have hz4 := b4.size
  clear h4 b4 c3
  go_wp2_with fail
  refine (shift_can _ W3.heap.size (2 * m - 1) (k + 1) (ex - 52 - 1) (by have := HEX.out; omega) (by omega) (by omega) (by omega) (by omega) W4 L4.out).mono ?_
  intro e W5 h5
  obtain ⟨a5, b5, z5⟩ := made_kept B4.out hz3 (Nat.le_refl _) h5
  have F5 := Lib.hid ((h5.2.2.block w.heap.size (by omega) (fun e => by have := Option.some.inj e; omega)).trans F4.out)
  have A5 := Lib.hid (A3.out.below (Below.grown B34.out h5.2.2 B34.out.size (fun j hj => by cases hj; exact Nat.le_refl _)))
  have hz5 := b5.size
  have z35 : W3.heap.size ≤ W5.heap.size := Nat.le_trans B34.out.size z5
  obtain ⟨rfl, _, _⟩ := h5
  have L5 := Lib.hid a5
  have B5 := Lib.hid b5
  have c5 := cells3 F5.out
  clear a5 b5 c4
  by_cases hB : m = 4503599627370496
  focus
    have hB1 : ((m : Int) == 4503599627370496) = true := by simp; omega
    have hB2 : decide (ex > -1022) = true := by simp; omega
    have hB3 : decide (-1022 < ex) = true := by simp; omega
    have HB := Lib.hid hB
    clear hB
    go_wp2_with fail
    refine (newDec_int _ (4 * m - 1) (by omega) (by omega) (by omega) W5).mono ?_
    rintro e W6 ⟨rfl, h6, b6⟩
    have A6 := Lib.hid (A5.out.below b6)
    have L6 := Lib.hid h6
    have B6 := Lib.hid (B5.out.trans (b6.mono hz5))
    have F6 := Lib.hid (keep b6 F5.out)
    have c6 := cells3 F6.out
    have hz6 := b6.size
    have B56 := Lib.hid b6
    clear h6 b6 c5
    go_wp2_with fail
    refine (shift_can _ W5.heap.size (4 * m - 1) (k + 2) (ex - 52 - 2) (by have := HEX.out; omega) (by omega) (by omega) (by omega) (by omega) W6 L6.out).mono ?_
    intro e W7 h7
    obtain ⟨a7, b7, z7⟩ := made_kept B6.out hz5 (Nat.le_refl _) h7
    have A7 := Lib.hid (A5.out.below (Below.grown B56.out h7.2.2 B56.out.size (fun j hj => by cases hj; exact Nat.le_refl _)))
    have F7 := Lib.hid ((h7.2.2.block w.heap.size (by omega) (fun e => by have := Option.some.inj e; omega)).trans F6.out)
    obtain ⟨rfl, _, _⟩ := h7
    have B7 := Lib.hid b7
    have LE : Hid (LowEdge h k W5.heap.size W7) := Lib.hid ⟨(4 * m - 1) * 5 ^ (k + 2), k + 2, Nat.mul_pos (by omega) (Nat.pow_pos (by decide)), Nat.le_refl _, five_small (by omega) (by omega), HED.out.2.1, a7⟩
    generalize W5.heap.size = lo at LE ⊢
    clear a7 b7 c6 A6 A5 A3 A2 L6 L5 F6 F5 F2 B6 B56 B5 B4 B34 B3 B2 hB1 hB2 hB3
    obtain ⟨par, hpar⟩ : ∃ par : Bool, ((m : Int) % 2 == 0) = par := ⟨_, rfl⟩
    cases par <;> go_wp2_with fail
  rotate_left 2
  focus
    have hB1 : ((m : Int) == 4503599627370496) = false := by simp; omega
    have HB := Lib.hid hB
    obtain ⟨W7, rfl⟩ : ∃ W7, W7 = W5 := ⟨_, rfl⟩
    have LE : Hid (LowEdge h k W3.heap.size W7) := Lib.hid ⟨(2 * m - 1) * 5 ^ (k + 1), k + 1, Nat.mul_pos (by omega) (Nat.pow_pos (by decide)), by omega, five_small (by omega) (by omega), HED.out.1, L5.out⟩
    have A7 := Lib.hid A5.out
    have F7 := Lib.hid F5.out
    have B7 := Lib.hid B5.out
    generalize W3.heap.size = lo at LE ⊢
    clear hB A3 A2 F2 B4 B3 B2 A5 F5 B5
    obtain ⟨par, hpar⟩ : ∃ par : Bool, ((m : Int) % 2 == 0) = par := ⟨_, rfl⟩
    cases par <;> go_wp2_with fail
  all_goals
    have hz7 := B7.out.size
    go_loopw [12] (LoopS L W7) (fun iv _ => L - (intOf iv).toNat)
    case atStart => exact ⟨0, rfl, Nat.zero_le _, Below.refl _ _⟩
    case round =>
      obtain ⟨n, rfl, hn, hb⟩ := hrel
      have HB8 := Lib.hid hb
      have HA := Lib.hid (HH.out.below (B7.out.trans (hb.mono hz7)))
      obtain ⟨Lv, j, l0, l1, l2, l3, l4⟩ := LE.out
      have LO := Lib.hid (l4.below hb)
      have HI := Lib.hid (A7.out.below hb)
      have HL3 := Lib.hid l3
      obtain ⟨a, cap, h1, _⟩ := HA.out.dec
      rw [HLL.out] at h1
      have c := cells2 h1
      have hz8 := HB8.out.size
      clear h1 hb l3 l4
      by_cases hlt : n < L
      · go_wp2_with fail
        refine (down_any base b n D ((L - 1 : Nat) : Int) (by rw [HLL.out]; exact hlt) HDA.out (by rw [HLL.out]; omega) wr HA.out).mono ?_
        rintro e W9 ⟨bd, rfl, hbd, h9, b9⟩
        have HA9 := Lib.hid (HA.out.below b9)
        have D9 := Lib.hid h9
        have B9 := Lib.hid b9
        clear h9 b9
        go_wp2_with fail
        refine (up_any base b n D ((L - 1 : Nat) : Int) (by rw [HLL.out]; exact hlt) HDA.out (by rw [HLL.out]; omega) (by omega) (by omega) W9 HA9.out).mono ?_
        rintro e W10 ⟨bu, rfl, hbu, h10, b10⟩
        have D10 := Lib.hid (D9.out.below b10)
        have U10 := Lib.hid h10
        have B10 := Lib.hid (B9.out.trans (b10.mono B9.out.size))
        clear h10 b10
        have X1 := cmp_low (base := wr.heap.size) (bd := bd) (n := n) (W := W10) HO.out hh hk hk2 (by rw [HD.out, HLL.out]; exact hlt) l0 l1 l2 HL3.out (LO.out.below B10.out) (by rw [HD.out, HLL.out]; exact D10.out)
        obtain ⟨z1, hz1p, hc1⟩ := X1
        have HC1 := Lib.hid hc1
        have q1 : decide (z1 < 1) = false := by simp; omega
        have q2 : decide (z1 < 0) = false := by simp; omega
        clear hc1
        go_wp2_with fail
        refine HC1.out.mono ?_
        rintro e W11 ⟨rfl, m1, rfl⟩
        have X2 := cmp_up (base := W9.heap.size) (bu := bu) (n := n) (W := W10.drewN m1) HO.out hh hk hk2 (by rw [HD.out, HLL.out]; exact hlt) (Nat.mul_pos (by omega) (Nat.pow_pos (by decide))) (by omega) (five_small (by omega) (by omega)) HED.out.2.2 (HI.out.below B10.out).drewN (by rw [HD.out, HLL.out]; exact U10.out.drewN)
        obtain ⟨z2, hz2p, hc2⟩ := X2
        have HC2 := Lib.hid hc2
        have q3 : decide (z2 < 1) = false := by simp; omega
        have q4 : decide (z2 < 0) = false := by simp; omega
        clear hc2
        go_wp2_with fail
        refine HC2.out.mono ?_
        rintro e W12 ⟨rfl, m2, rfl⟩
        have B12 : Hid (∀ q, Below W7.heap.size W7 (W10.drewN q)) := Lib.hid (fun q => (HB8.out.trans (B10.out.mono hz8)).trans ⟨rfl, rfl, rfl, Nat.le_refl _, fun _ _ => rfl⟩)
        go_wp2_with fail
        go_roundw
        case rel => exact ⟨n + 1, by push_cast; rfl, hlt, B12.out _⟩
        case measure => simp [intOf]; omega
      · go_wp2_with fail
        go_returns
        exact ⟨rfl, B7.out.trans (HB8.out.mono hz7)⟩
end Go.Proofs.YtgjmgneppecfgaaGreatDoor.Ma
namespace Go.Proofs.YtgjmgneppecfgaaGreatDoor.Ma
open Go.RowKit Go.Proofs.YtgjmgneppecfgaaGreatDoor.Va Go.Proofs.YtgjmgneppecfgaaGreatDoor.Ba
set_option linter.unusedVariables false

def hexd (n : Nat) : Nat := if n < 10 then 48 + n else 87 + n
/-- a byte that stands for itself -/
def plainB (c : Nat) : Bool := (decide (32 ≤ c) && decide (c ≤ 126) && decide (c ≠ 34) && decide (c ≠ 92)) || decide (128 ≤ c)
def escB (c : Nat) : List Nat :=
  if plainB c then [c] else if c = 34 then [92, 34] else if c = 92 then [92, 92] else if c = 8 then [92, 98] else if c = 12 then [92, 102] else if c = 10 then [92, 110] else if c = 13 then [92, 114] else if c = 9 then [92, 116]
  else [92, 117, 48, 48, hexd (c / 16), hexd (c % 16)]
def escL (l : List Nat) : List Nat := l.flatMap escB
def encStr (l : List Nat) : List Nat := 34 :: (escL l ++ [34])
def numJ (h : Int) : List Nat := (if h < 0 then [45] else []) ++ (digs (h.natAbs / 2) ++ (if h % 2 = 0 then [] else [46, 53]))
mutual
/-- the JSON text of a value -/
def encJ : V → List Nat
  | .mk k h t ls ks vs => if k = 0 then [110, 117, 108, 108] else if k = 1 then [102, 97, 108, 115, 101] else if k = 2 then [116, 114, 117, 101] else if k = 3 then numJ h else if k = 4 then encStr (bytesN t)
    else if k = 5 then 91 :: ((encC ls).tail ++ [93]) else 123 :: ((encM vs ks).tail ++ [125])
/-- the elements, a comma ahead of each -/
def encC : List V → List Nat
  | [] => []
  | x :: xs => 44 :: (encJ x ++ encC xs)
def encM : List V → List ByteArray → List Nat
  | [], _ => []
  | _ :: _, [] => []
  | v :: vs, k :: ks => 44 :: (encStr (bytesN k) ++ (58 :: (encJ v ++ encM vs ks)))
end
theorem encC_append : ∀ (a b : List V), encC (a ++ b) = encC a ++ encC b
  | [], b => by rw [encC]; rfl
  | x :: xs, b => by rw [List.cons_append, encC, encC, encC_append xs b]; simp
theorem encM_append : ∀ (a b : List V) (c d : List ByteArray), a.length = c.length → encM (a ++ b) (c ++ d) = encM a c ++ encM b d
  | [], b, [], d, _ => by simp [encM]
  | [], b, _ :: _, d, h => by simp at h
  | _ :: _, b, [], d, h => by simp at h
  | x :: xs, b, k :: ks, d, h => by
    rw [List.cons_append, List.cons_append, encM, encM, encM_append xs b ks d (by simpa using h)]
    simp
theorem tail_append {a b : List Nat} (h : a ≠ []) : (a ++ b).tail = a.tail ++ b := by
  cases a with
  | nil => exact absurd rfl h
  | cons x xs => rfl
theorem encC_ne {l : List V} (h : 0 < l.length) : encC l ≠ [] := by
  cases l with
  | nil => cases h
  | cons x xs => rw [encC]; exact List.cons_ne_nil _ _
theorem encM_ne {l : List V} {k : List ByteArray} (h : 0 < l.length) (hk : l.length = k.length) : encM l k ≠ [] := by
  cases l with
  | nil => cases h
  | cons x xs => cases k with
    | nil => simp at hk
    | cons y ys => rw [encM]; exact List.cons_ne_nil _ _
/-- one element more -/
theorem encC_next {l : List V} {i : Nat} (h : i < l.length) : (encC (l.take (i + 1))).tail = (if 0 < i then (encC (l.take i)).tail ++ [44] else []) ++ encJ l[i] := by
  rw [List.take_succ_eq_append_getElem h, encC_append, encC, encC, List.append_nil]
  by_cases h0 : 0 < i
  · rw [if_pos h0, tail_append (encC_ne (by rw [List.length_take]; omega)), List.append_assoc]
    rfl
  · obtain rfl : i = 0 := by omega
    rw [if_neg (by omega), List.take_zero, encC]
    rfl
theorem encM_next {l : List V} {k : List ByteArray} {i : Nat} (h : i < l.length) (hk : l.length = k.length) :
    (encM (l.take (i + 1)) (k.take (i + 1))).tail = (if 0 < i then (encM (l.take i) (k.take i)).tail ++ [44] else []) ++ (encStr (bytesN (k[i]'(by omega))) ++ 58 :: encJ l[i]) := by
  have h' : i < k.length := by omega
  rw [List.take_succ_eq_append_getElem h, List.take_succ_eq_append_getElem h', encM_append _ _ _ _ (by rw [List.length_take, List.length_take]; omega), encM, encM, List.append_nil]
  by_cases h0 : 0 < i
  · rw [if_pos h0, tail_append (encM_ne (by rw [List.length_take]; omega) (by rw [List.length_take, List.length_take]; omega)), List.append_assoc]
    rfl
  · obtain rfl : i = 0 := by omega
    rw [if_neg (by omega), List.take_zero, List.take_zero, encM]
    rfl
theorem numJ_even {h : Int} (he : h % 2 = 0) : numJ h = itoa (h / 2) := by
  unfold numJ itoa
  rw [if_pos he, List.append_nil]
  by_cases hn : h < 0
  · rw [if_pos hn, if_pos (by omega), show (-(h / 2)).toNat = h.natAbs / 2 by omega]
    rfl
  · rw [if_neg hn, if_neg (by omega), show (h / 2).toNat = h.natAbs / 2 by omega]
    rfl
theorem escB_lt {c : Nat} (h : c < 256) : ∀ x ∈ escB c, x < 256 := by
  intro x hx
  unfold escB at hx
  repeat' split at hx
  all_goals simp at hx
  all_goals try omega
  rcases hx with rfl | rfl | rfl | rfl | rfl
  all_goals try omega
  all_goals (unfold hexd; split <;> omega)
theorem escL_lt {l : List Nat} (h : ∀ x ∈ l, x < 256) : ∀ x ∈ escL l, x < 256 := by
  intro x hx
  unfold escL at hx
  obtain ⟨c, hc, hx⟩ := List.mem_flatMap.1 hx
  exact escB_lt (h c hc) x hx
theorem encStr_lt {l : List Nat} (h : ∀ x ∈ l, x < 256) : ∀ x ∈ encStr l, x < 256 := by
  intro x hx
  unfold encStr at hx
  rcases List.mem_cons.1 hx with rfl | hx
  · decide
  · rcases List.mem_append.1 hx with q | q
    · exact escL_lt h x q
    · rw [List.mem_singleton] at q; omega
theorem escB_len (c : Nat) : (escB c).length ≤ 6 := by
  unfold escB
  repeat' split
  all_goals simp
theorem escL_len : ∀ (l : List Nat), (escL l).length ≤ 6 * l.length
  | [] => by simp [escL]
  | x :: xs => by
    have := escL_len xs
    have := escB_len x
    unfold escL at *
    rw [List.flatMap_cons, List.length_append, List.length_cons]
    omega
theorem encStr_len (l : List Nat) : (encStr l).length ≤ 6 * l.length + 2 := by
  unfold encStr
  have := escL_len l
  rw [List.length_cons, List.length_append]
  simp
  omega
theorem numJ_len {h : Int} (h0 : h.natAbs ≤ 18014398509481984) : (numJ h).length ≤ 30 := by
  unfold numJ
  have := digs_len (n := h.natAbs / 2) (by omega)
  rw [List.length_append, List.length_append]
  split <;> split <;> simp <;> omega
/-- how long a text can be -/
def NodeLen : Nat := 2 ^ 35
mutual
theorem encJ_len : ∀ (x : V), Va.Good x → (encJ x).length + 17179869184 ≤ x.size * NodeLen
  | .mk k h t ls ks vs, hg => by
    rw [Va.Good] at hg
    obtain ⟨g, gl, _, gv⟩ := hg
    have h1 := encC_len ls gl
    have h2 := encM_len vs ks (fun s hs => Nat.le_trans (g.kb s hs) (by decide)) gv
    have h3 := encStr_len (bytesN t)
    have h4 := numJ_len (h := h) (by have := g.lo; have := g.hi; omega)
    have ht := g.tb
    rw [bytesN_len] at h3
    rw [encJ, V.size]
    unfold NodeLen at *
    repeat' split
    all_goals (try simp only [List.length_cons, List.length_append, List.length_nil, List.length_tail])
    all_goals omega
theorem encC_len : ∀ (l : List V), GoodL l → (encC l).length ≤ sizeL l * NodeLen
  | [], _ => by rw [encC]; simp
  | x :: xs, hg => by
    rw [GoodL] at hg
    have h1 := encJ_len x hg.1
    have h2 := encC_len xs hg.2
    rw [encC, sizeL]
    unfold NodeLen at *
    simp only [List.length_cons, List.length_append]
    omega
theorem encM_len : ∀ (l : List V) (ks : List ByteArray), (∀ s ∈ ks, s.size ≤ 2147483647) → GoodL l → (encM l ks).length ≤ sizeL l * NodeLen
  | [], _, _, _ => by rw [encM]; simp
  | _ :: _, [], _, _ => by rw [encM]; simp
  | x :: xs, k :: ks, hk, hg => by
    rw [GoodL] at hg
    have h1 := encJ_len x hg.1
    have h2 := encM_len xs ks (fun s hs => hk s (List.mem_cons_of_mem _ hs)) hg.2
    have h3 := encStr_len (bytesN k)
    have h4 := hk k List.mem_cons_self
    rw [bytesN_len] at h3
    rw [encM, sizeL]
    unfold NodeLen at *
    simp only [List.length_cons, List.length_append]
    omega
end
end Go.Proofs.YtgjmgneppecfgaaGreatDoor.Ma
namespace Go.Proofs.YtgjmgneppecfgaaGreatDoor.Ma
open Go.RowKit Go.Proofs.YtgjmgneppecfgaaGreatDoor.Va Go.Proofs.YtgjmgneppecfgaaGreatDoor.Ba
set_option linter.unusedVariables false
set_option linter.unusedSimpArgs false

theorem map_vals {l : List Nat} (h : ∀ x ∈ l, 48 ≤ x) : (valsD l).map (48 + ·) = l := by
  unfold valsD
  rw [List.map_map]
  have : ∀ x ∈ l, ((48 + ·) ∘ (· - 48)) x = id x := fun x hx => by have := h x hx; simp; omega
  rw [List.map_congr_left this, List.map_id]
theorem five_text {n : Nat} (ho : n % 2 = 1) : textL (dg (5 * n)) ((dg (5 * n)).length - 1) = digs (n / 2) ++ [46, 53] := by
  unfold textL
  by_cases hs : 5 * n < 10
  · obtain rfl : n = 1 := by omega
    have e : digs (1 / 2) = [48] := by rw [digs, digs0_zero]; rfl
    rw [dg_small hs, e]
    rfl
  · have e1 : 5 * n / 10 = n / 2 := by omega
    have e2 : 5 * n % 10 = 5 := by omega
    have hp := dg_len_pos (n / 2)
    rw [dg_ge (by omega), e1, e2, List.length_append, List.length_singleton, Nat.add_sub_cancel, if_neg (by omega), List.take_left]
    have e3 : (dg (n / 2) ++ [5]).getD (dg (n / 2)).length 0 = 5 := by simp [List.getD]
    rw [e3]
    have e4 : (dg (n / 2)).map (48 + ·) = digs (n / 2) := map_vals fun x hx => (digs_range _ x hx).1
    rw [e4]
theorem numJ_odd {h : Int} (ho : h % 2 ≠ 0) : numJ h = (if h < 0 then [45] else []) ++ textL (dg (5 * h.natAbs)) ((dg (5 * h.natAbs)).length - 1) := by
  rw [five_text (by omega)]
  unfold numJ
  rw [if_neg ho]
theorem word_eq (s : Bool) (r : Nat) : Ieee.double.word s r = (if s then 2048 * B else 0) + r := by
  unfold Ieee.Format.word
  rw [sw_eq]
  cases s <;> simp <;> omega
/-- the word's parts -/
theorem wd_parts {h : Int} {s : Bool} {M k : Nat} (H : Half h s M k) : fl h = (if s then 9223372036854775808 else 0) + (1074 - k) * 4503599627370496 + (M - 4503599627370496) ∧ k ≤ 52 ∧ 4503599627370496 ≤ M ∧ M < 9007199254740992 := by
  have h1 := H.hfl
  have hk := H.hk
  have lo := H.lo
  have hi := H.hi
  have hB : B = 4503599627370496 := by unfold B; decide
  rw [hB] at lo hi
  unfold wd at h1
  rw [word_eq, hB, show (-1 - (k : Int) + 1074).toNat = 1073 - k by omega] at h1
  refine ⟨?_, hk, lo, by omega⟩
  rw [h1, show 1074 - k = (1073 - k) + 1 by omega]
  cases s <;> simp <;> omega
def FormEnd (w : World) (e : Ending) (w' : World) : Prop := e = .returned (.agg #[.int .i64 52, .int .i64 11, .int .i64 (-1023)]) ∧ Below w.heap.size w w'
set_option maxHeartbeats 1000000 in
theorem formOf_any (w : World) : Calls Tryz.prog 237 #[.int .i64 64] w (FormEnd w) := by
  go_enter Tryz.func237, Tryz.ntmps237
  go_wp2_with fail
  go_returns
  exact ⟨rfl, (Below.refl _ _).alloc (Nat.le_refl _) _⟩
theorem run_bits (x : Nat) (w : World) : (callFunc 212 #[.float .f64 x]).run Tryz.prog w = .ok (.value (.int .u64 (x : Int))) w := by
  rw [run_callFunc_extern (P := Tryz.prog) (f := 212) (fn := Tryz.f212) (e := Extern.MathFloatBits.float64bits) (by kernel_rfl) (by kernel_rfl) (by kernel_rfl) (by kernel_rfl) (by kernel_rfl)]
  rfl
end Go.Proofs.YtgjmgneppecfgaaGreatDoor.Ma
