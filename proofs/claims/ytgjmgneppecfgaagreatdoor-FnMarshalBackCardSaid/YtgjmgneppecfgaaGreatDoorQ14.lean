/-
  THE WALK of decimal.short, of half a whole number: none shorter is found.
-/
import Derived.Test.YtgjmgneppecfgaaGreatDoorQ13
import Derived.Test.YtgjmgneppecfgaaGreatDoorQ08
import Derived.BigQuiet
import Derived.Laws.BitsLemmas
set_option linter.unusedVariables false
set_option linter.unusedSimpArgs false
namespace Go.Proofs.YtgjmgneppecfgaaGreatDoor.Ma
open Go.RowKit Go.Proofs.YtgjmgneppecfgaaGreatDoor.Va Go.Proofs.YtgjmgneppecfgaaGreatDoor.Ba
set_option linter.unusedVariables false
set_option linter.unusedSimpArgs false

theorem IsDec.below {base b : Nat} {d : List Nat} {dp : Int} {w w' : World} (h : IsDec base b d dp w) (hb : Below w.heap.size w w') : IsDec base b d dp w' := by
  obtain ⟨v, h1, h2, h3⟩ := h
  exact ⟨v, keep hb h1, owns_other h2 fun g hg => hb.block g (h2.lt g hg).2, h3⟩
def NewEnd (n : Nat) (w : World) (e : Ending) (w' : World) : Prop := e = .returned (.pointer (some ⟨w.heap.size, 0, none⟩)) ∧ IsDec (w.heap.size + 1) w.heap.size (canD n) ((dg n).length : Int) w' ∧ Below w.heap.size w w'
theorem newDec_int (z : Int) (n : Nat) (hz : z = (n : Int)) (h0 : 0 < n) (hn : n < 18446744073709551616) (w : World) : Calls Tryz.prog 239 #[.int .u64 z] w (NewEnd n w) := by
  subst hz
  exact newDec_can n h0 hn w
theorem cells3 {w : World} {b : Nat} {a0 a1 a2 : Value} {t : TypeId} (h : w.heap[b]? = some (.cells #[a0, a1, a2] t (0, 0))) :
    w.cell? ⟨b, 0, none⟩ = some a0 ∧ w.cell? ⟨b, 1, none⟩ = some a1 ∧ w.cell? ⟨b, 2, none⟩ = some a2 := ⟨cell_of h 0 rfl, cell_of h 1 rfl, cell_of h 2 rfl⟩
/-- what stands behind newDecimal and shift -/
theorem made_kept {B blk n k : Nat} {w0 w w' : World} {e : Ending} (hb : Below B w0 w) (hB : B ≤ blk) (hB2 : B ≤ w0.heap.size) (h : ShiftEnd blk n k w e w') : Dec w' blk (canD (n * 5 ^ k)) (canP (n * 5 ^ k) k) ∧ Below B w0 w' ∧ w.heap.size ≤ w'.heap.size :=
  ⟨h.2.1.dec, Below.grown hb h.2.2 (Nat.le_trans hB2 hb.size) (fun j hj => by cases hj; exact hB), h.2.2.size⟩
/-- the lower edge -/
def LowEdge (h k lo : Nat) (W : World) : Prop := ∃ Lv j, 0 < Lv ∧ j ≤ k + 2 ∧ Lv < 10 ^ 100 ∧ h / 2 * 10 ^ (k + 2) < Lv * 10 ^ (k + 2 - j) ∧ Dec W lo (canD Lv) (canP Lv j)
theorem five_small {n j : Nat} (hn : n < 10 ^ 20) (hj : j ≤ 55) : n * 5 ^ j < 10 ^ 100 := by
  have h1 : 5 ^ j ≤ 5 ^ 55 := Nat.pow_le_pow_right (by decide) hj
  have h2 : n * 5 ^ j ≤ n * 5 ^ 55 := Nat.mul_le_mul_left _ h1
  have h3 : n * 5 ^ 55 < 10 ^ 20 * 5 ^ 55 := Nat.mul_lt_mul_of_pos_right hn (Nat.pow_pos (by decide))
  have h4 : 10 ^ 20 * 5 ^ 55 ≤ 10 ^ 100 := by decide
  omega
theorem cmp_low {base h k n lo bd Lv j : Nat} {W : World} (ho : h % 2 = 1) (hh : h < 9007199254740992) (hk : 0 < k) (hk2 : k ≤ 53) (hn : n < (dg (5 * h)).length) (l0 : 0 < Lv) (l1 : j ≤ k + 2) (l2 : Lv < 10 ^ 100) (l3 : h / 2 * 10 ^ (k + 2) < Lv * 10 ^ (k + 2 - j)) (l4 : Dec W lo (canD Lv) (canP Lv j))
    (hd : IsDec base bd (stripZ ((dg (5 * h)).take n)) (trimP ((dg (5 * h)).take n) ((dg (5 * h)).length - 1 : Nat)) W) :
    ∃ z : Int, 0 < z ∧ Calls Tryz.prog 285 #[.pointer (some ⟨lo, 0, none⟩), .pointer (some ⟨bd, 0, none⟩)] W (RetZ z W) := by
  have hL := dg_len (n := 5 * h) (by omega)
  obtain ⟨s1, s2, s3⟩ := canP_small (n := Lv) (j := j) l2 (by omega)
  have c1 := (canD_num Lv).1
  obtain ⟨z, hz⟩ := stripZ_dec ((dg (5 * h)).take n)
  have hl : (stripZ ((dg (5 * h)).take n)).length ≤ 20 := by
    have := congrArg List.length hz
    rw [List.length_append, List.length_take] at this
    omega
  have ht : trimP ((dg (5 * h)).take n) ((dg (5 * h)).length - 1 : Nat) = 0 ∨ trimP ((dg (5 * h)).take n) ((dg (5 * h)).length - 1 : Nat) = ((dg (5 * h)).length - 1 : Nat) := by
    unfold trimP
    split
    · exact .inl rfl
    · exact .inr rfl
  refine ⟨_, low_gt ho hk hn Lv j l0 l1 l3, cmp_any lo bd _ _ _ _ (canD_row l0).all (fun x hx => dg_all (5 * h) x (List.mem_of_mem_take (i := n) (by rw [hz]; exact List.mem_append_left _ hx))) (by omega) (by omega) (by omega) (by omega) W l4 hd.dec⟩
theorem cmp_up {base h k n hi bu Hv j : Nat} {W : World} (ho : h % 2 = 1) (hh : h < 9007199254740992) (hk : 0 < k) (hk2 : k ≤ 53) (hn : n < (dg (5 * h)).length) (l0 : 0 < Hv) (l1 : j ≤ k + 2) (l2 : Hv < 10 ^ 100) (l3 : Hv * 10 ^ (k + 2 - j) < (h / 2 + 1) * 10 ^ (k + 2)) (l4 : Dec W hi (canD Hv) (canP Hv j))
    (hd : IsDec base bu (upL (dg (5 * h)) n) (((dg (5 * h)).length - 1 : Nat) + upE (dg (5 * h)) n) W) :
    ∃ z : Int, 0 < z ∧ Calls Tryz.prog 285 #[.pointer (some ⟨bu, 0, none⟩), .pointer (some ⟨hi, 0, none⟩)] W (RetZ z W) := by
  have hL := dg_len (n := 5 * h) (by omega)
  obtain ⟨s1, s2, s3⟩ := canP_small (n := Hv) (j := j) l2 (by omega)
  have c1 := (canD_num Hv).1
  have hr := upL_row (five_row (h := h) (by omega)) n (by omega)
  have hl := upL_len (d := dg (5 * h)) n (by omega)
  have h01 := upE_01 (dg (5 * h)) n
  exact ⟨_, up_gt ho hk hn Hv j l0 l1 l3, cmp_any bu hi _ _ _ _ hr.all (canD_row l0).all (by omega) (by omega) (by omega) (by omega) W hd.dec l4⟩
theorem IsDec.drewN {base b m : Nat} {d : List Nat} {dp : Int} {w : World} (h : IsDec base b d dp w) : IsDec base b d dp (w.drewN m) := h.below ⟨rfl, rfl, rfl, Nat.le_refl _, fun _ _ => rfl⟩
theorem Dec.drewN {b m : Nat} {d : List Nat} {dp : Int} {w : World} (h : Dec w b d dp) : Dec (w.drewN m) b d dp := h.below ⟨rfl, rfl, rfl, Nat.le_refl _, fun _ _ => rfl⟩
def LoopS (L : Nat) (W : World) (iv : Value) (wr : World) : Prop := ∃ n : Nat, iv = .int .i64 (n : Int) ∧ n ≤ L ∧ Below W.heap.size W wr
def ShortEnd (b : Nat) (w : World) (e : Ending) (w' : World) : Prop := e = .returned (.pointer (some ⟨b, 0, none⟩)) ∧ Below w.heap.size w w'
set_option maxHeartbeats 4000000 in
set_option maxRecDepth 100000 in
theorem short_any (base b h k m : Nat) (ex : Int) (ho : h % 2 = 1) (hh : h < 9007199254740992) (hk : 0 < k) (hk2 : k ≤ 53) (hm : m = h * 2 ^ (k - 1)) (hm1 : 4503599627370496 ≤ m) (hm2 : m < 9007199254740992) (hex : 52 - ex = (k : Int)) (w : World)
    (H : IsDec base b (dg (5 * h)) ((dg (5 * h)).length - 1 : Nat) w) :
    Calls Tryz.prog 241 #[.pointer (some ⟨b, 0, none⟩), .int .u64 (m : Int), .int .i64 ex, .agg #[.int .i64 52, .int .i64 11, .int .i64 (-1023)]] w (ShortEnd b w) := by
  have HH := Lib.hid H
  have HED := Lib.hid (edges ho hk hm)
  have HM := Lib.hid hm
  have HO := Lib.hid ho
  have HEX := Lib.hid hex
  have e1 : -1 ≤ ex := by omega
  have e2 : ex ≤ 51 := by omega
  have hL := dg_len (n := 5 * h) (by omega)
  have HLP := Lib.hid (dg_len_pos (5 * h))
  have HDA := Lib.hid (dg_all (5 * h))
  obtain ⟨D, hD⟩ : ∃ D, dg (5 * h) = D := ⟨_, rfl⟩
  have HD := Lib.hid hD
  rw [hD] at HH hL HLP HDA
  obtain ⟨L, hLL⟩ : ∃ L, D.length = L := ⟨_, rfl⟩
  have HLL := Lib.hid hLL
  rw [hLL] at HH hL HLP
  have hbw : b < w.heap.size := by obtain ⟨v, h1, _⟩ := HH.out; exact heap_lt h1
  clear H ho hm hex hD hLL
  have hm0 : ((m : Int) == 0) = false := by simp; omega
  go_enter Tryz.func241, Tryz.ntmps241
  go_wp2_with fail
  generalize hW : World.alloc w _ = W1
  have B1 := Lib.hid (hW ▸ below_alloc w _ : Below w.heap.size w W1)
  have hz1 : w.heap.size < W1.heap.size := by rw [← hW, World.size_alloc]; omega
  have F1 := Lib.hid (hW ▸ block_new w _ _ : W1.heap[w.heap.size]? = some (.cells #[.int .i64 52, .int .i64 11, .int .i64 (-1023)] 260 (0, 0)))
  clear hW
  refine (newDec_int _ (2 * m + 1) (by push_cast; rfl) (by omega) (by omega) W1).mono ?_
  rintro e W2 ⟨rfl, h2, b2⟩
  have A2 := Lib.hid h2
  have F2 := Lib.hid (keep b2 F1.out)
  have B2 := Lib.hid (B1.out.trans (b2.mono B1.out.size))
  have c2 := cells3 F2.out
  have hz2 := b2.size
  clear h2 b2
  go_wp2_with fail
  refine (shift_can _ W1.heap.size (2 * m + 1) (k + 1) (ex - 52 - 1) (by have := HEX.out; omega) (by omega) (by omega) (by omega) (by omega) W2 A2.out).mono ?_
  intro e W3 h3
  obtain ⟨a3, b3, z3⟩ := made_kept B2.out B1.out.size (Nat.le_refl _) h3
  have F3 := Lib.hid ((h3.2.2.block w.heap.size (by omega) (fun e => by have := Option.some.inj e; omega)).trans F2.out)
  obtain ⟨rfl, _, _⟩ := h3
  have A3 := Lib.hid a3
  have B3 := Lib.hid b3
  have hz3 := b3.size
  have c3 := cells3 F3.out
  clear a3 b3 c2
  go_wp2_with fail
  refine (newDec_int _ (2 * m - 1) (by omega) (by omega) (by omega) W3).mono ?_
  rintro e W4 ⟨rfl, h4, b4⟩
  have A4 := Lib.hid (A3.out.below b4)
  have L4 := Lib.hid h4
  have B4 := Lib.hid (B3.out.trans (b4.mono hz3))
  have B34 := Lib.hid b4
  have F4 := Lib.hid (keep b4 F3.out)
  have c4 := cells3 F4.out
  have hz4 := b4.size
  clear h4 b4 c3
  go_wp2_with fail
  refine (shift_can _ W3.heap.size (2 * m - 1) (k + 1) (ex - 52 - 1) (by have := HEX.out; omega) (by omega) (by omega) (by omega) (by omega) W4 L4.out).mono ?_
  intro e W5 h5
  obtain ⟨a5, b5, z5⟩ := made_kept B4.out hz3 (Nat.le_refl _) h5
  have F5 := Lib.hid ((h5.2.2.block w.heap.size (by omega) (fun e => by have := Option.some.inj e; omega)).trans F4.out)
  have A5 := Lib.hid (A3.out.below (Below.grown B34.out h5.2.2 B34.out.size (fun j hj => by cases hj; exact Nat.le_refl _)))
  have hz5 := b5.size
  have z35 : W3.heap.size ≤ W5.heap.size := Nat.le_trans B34.out.size z5
  obtain ⟨rfl, _, _⟩ := h5
  have L5 := Lib.hid a5
  have B5 := Lib.hid b5
  have c5 := cells3 F5.out
  clear a5 b5 c4
  by_cases hB : m = 4503599627370496
  focus
    have hB1 : ((m : Int) == 4503599627370496) = true := by simp; omega
    have hB2 : decide (ex > -1022) = true := by simp; omega
    have hB3 : decide (-1022 < ex) = true := by simp; omega
    have HB := Lib.hid hB
    clear hB
    go_wp2_with fail
    refine (newDec_int _ (4 * m - 1) (by omega) (by omega) (by omega) W5).mono ?_
    rintro e W6 ⟨rfl, h6, b6⟩
    have A6 := Lib.hid (A5.out.below b6)
    have L6 := Lib.hid h6
    have B6 := Lib.hid (B5.out.trans (b6.mono hz5))
    have F6 := Lib.hid (keep b6 F5.out)
    have c6 := cells3 F6.out
    have hz6 := b6.size
    have B56 := Lib.hid b6
    clear h6 b6 c5
    go_wp2_with fail
    refine (shift_can _ W5.heap.size (4 * m - 1) (k + 2) (ex - 52 - 2) (by have := HEX.out; omega) (by omega) (by omega) (by omega) (by omega) W6 L6.out).mono ?_
    intro e W7 h7
    obtain ⟨a7, b7, z7⟩ := made_kept B6.out hz5 (Nat.le_refl _) h7
    have A7 := Lib.hid (A5.out.below (Below.grown B56.out h7.2.2 B56.out.size (fun j hj => by cases hj; exact Nat.le_refl _)))
    have F7 := Lib.hid ((h7.2.2.block w.heap.size (by omega) (fun e => by have := Option.some.inj e; omega)).trans F6.out)
    obtain ⟨rfl, _, _⟩ := h7
    have B7 := Lib.hid b7
    have LE : Hid (LowEdge h k W5.heap.size W7) := Lib.hid ⟨(4 * m - 1) * 5 ^ (k + 2), k + 2, Nat.mul_pos (by omega) (Nat.pow_pos (by decide)), Nat.le_refl _, five_small (by omega) (by omega), HED.out.2.1, a7⟩
    generalize W5.heap.size = lo at LE ⊢
    clear a7 b7 c6 A6 A5 A3 A2 L6 L5 F6 F5 F2 B6 B56 B5 B4 B34 B3 B2 hB1 hB2 hB3
    obtain ⟨par, hpar⟩ : ∃ par : Bool, ((m : Int) % 2 == 0) = par := ⟨_, rfl⟩
    cases par <;> go_wp2_with fail
  rotate_left 2
  focus
    have hB1 : ((m : Int) == 4503599627370496) = false := by simp; omega
    have HB := Lib.hid hB
    obtain ⟨W7, rfl⟩ : ∃ W7, W7 = W5 := ⟨_, rfl⟩
    have LE : Hid (LowEdge h k W3.heap.size W7) := Lib.hid ⟨(2 * m - 1) * 5 ^ (k + 1), k + 1, Nat.mul_pos (by omega) (Nat.pow_pos (by decide)), by omega, five_small (by omega) (by omega), HED.out.1, L5.out⟩
    have A7 := Lib.hid A5.out
    have F7 := Lib.hid F5.out
    have B7 := Lib.hid B5.out
    generalize W3.heap.size = lo at LE ⊢
    clear hB A3 A2 F2 B4 B3 B2 A5 F5 B5
    obtain ⟨par, hpar⟩ : ∃ par : Bool, ((m : Int) % 2 == 0) = par := ⟨_, rfl⟩
    cases par <;> go_wp2_with fail
  all_goals
    have hz7 := B7.out.size
    go_loopw [12] (LoopS L W7) (fun iv _ => L - (intOf iv).toNat)
    case atStart => exact ⟨0, rfl, Nat.zero_le _, Below.refl _ _⟩
    case round =>
      obtain ⟨n, rfl, hn, hb⟩ := hrel
      have HB8 := Lib.hid hb
      have HA := Lib.hid (HH.out.below (B7.out.trans (hb.mono hz7)))
      obtain ⟨Lv, j, l0, l1, l2, l3, l4⟩ := LE.out
      have LO := Lib.hid (l4.below hb)
      have HI := Lib.hid (A7.out.below hb)
      have HL3 := Lib.hid l3
      obtain ⟨a, cap, h1, _⟩ := HA.out.dec
      rw [HLL.out] at h1
      have c := cells2 h1
      have hz8 := HB8.out.size
      clear h1 hb l3 l4
      by_cases hlt : n < L
      · go_wp2_with fail
        refine (down_any base b n D ((L - 1 : Nat) : Int) (by rw [HLL.out]; exact hlt) HDA.out (by rw [HLL.out]; omega) wr HA.out).mono ?_
        rintro e W9 ⟨bd, rfl, hbd, h9, b9⟩
        have HA9 := Lib.hid (HA.out.below b9)
        have D9 := Lib.hid h9
        have B9 := Lib.hid b9
        clear h9 b9
        go_wp2_with fail
        refine (up_any base b n D ((L - 1 : Nat) : Int) (by rw [HLL.out]; exact hlt) HDA.out (by rw [HLL.out]; omega) (by omega) (by omega) W9 HA9.out).mono ?_
        rintro e W10 ⟨bu, rfl, hbu, h10, b10⟩
        have D10 := Lib.hid (D9.out.below b10)
        have U10 := Lib.hid h10
        have B10 := Lib.hid (B9.out.trans (b10.mono B9.out.size))
        clear h10 b10
        have X1 := cmp_low (base := wr.heap.size) (bd := bd) (n := n) (W := W10) HO.out hh hk hk2 (by rw [HD.out, HLL.out]; exact hlt) l0 l1 l2 HL3.out (LO.out.below B10.out) (by rw [HD.out, HLL.out]; exact D10.out)
        obtain ⟨z1, hz1p, hc1⟩ := X1
        have HC1 := Lib.hid hc1
        have q1 : decide (z1 < 1) = false := by simp; omega
        have q2 : decide (z1 < 0) = false := by simp; omega
        clear hc1
        go_wp2_with fail
        refine HC1.out.mono ?_
        rintro e W11 ⟨rfl, m1, rfl⟩
        have X2 := cmp_up (base := W9.heap.size) (bu := bu) (n := n) (W := W10.drewN m1) HO.out hh hk hk2 (by rw [HD.out, HLL.out]; exact hlt) (Nat.mul_pos (by omega) (Nat.pow_pos (by decide))) (by omega) (five_small (by omega) (by omega)) HED.out.2.2 (HI.out.below B10.out).drewN (by rw [HD.out, HLL.out]; exact U10.out.drewN)
        obtain ⟨z2, hz2p, hc2⟩ := X2
        have HC2 := Lib.hid hc2
        have q3 : decide (z2 < 1) = false := by simp; omega
        have q4 : decide (z2 < 0) = false := by simp; omega
        clear hc2
        go_wp2_with fail
        refine HC2.out.mono ?_
        rintro e W12 ⟨rfl, m2, rfl⟩
        have B12 : Hid (∀ q, Below W7.heap.size W7 (W10.drewN q)) := Lib.hid (fun q => (HB8.out.trans (B10.out.mono hz8)).trans ⟨rfl, rfl, rfl, Nat.le_refl _, fun _ _ => rfl⟩)
        go_wp2_with fail
        go_roundw
        case rel => exact ⟨n + 1, by push_cast; rfl, hlt, B12.out _⟩
        case measure => simp [intOf]; omega
      · go_wp2_with fail
        go_returns
        exact ⟨rfl, B7.out.trans (HB8.out.mono hz7)⟩
end Go.Proofs.YtgjmgneppecfgaaGreatDoor.Ma
/-
  THE WALK of FormatFloat, at half a whole number.
-/
namespace Go.Proofs.YtgjmgneppecfgaaGreatDoor.Ma
open Go.RowKit Go.Proofs.YtgjmgneppecfgaaGreatDoor.Va Go.Proofs.YtgjmgneppecfgaaGreatDoor.Ba
set_option linter.unusedVariables false
set_option linter.unusedSimpArgs false

theorem map_vals {l : List Nat} (h : ∀ x ∈ l, 48 ≤ x) : (valsD l).map (48 + ·) = l := by
  unfold valsD
  rw [List.map_map]
  have : ∀ x ∈ l, ((48 + ·) ∘ (· - 48)) x = id x := fun x hx => by have := h x hx; simp; omega
  rw [List.map_congr_left this, List.map_id]
theorem five_text {n : Nat} (ho : n % 2 = 1) : textL (dg (5 * n)) ((dg (5 * n)).length - 1) = digs (n / 2) ++ [46, 53] := by
  unfold textL
  by_cases hs : 5 * n < 10
  · obtain rfl : n = 1 := by omega
    have e : digs (1 / 2) = [48] := by rw [digs, digs0_zero]; rfl
    rw [dg_small hs, e]
    rfl
  · have e1 : 5 * n / 10 = n / 2 := by omega
    have e2 : 5 * n % 10 = 5 := by omega
    have hp := dg_len_pos (n / 2)
    rw [dg_ge (by omega), e1, e2, List.length_append, List.length_singleton, Nat.add_sub_cancel, if_neg (by omega), List.take_left]
    have e3 : (dg (n / 2) ++ [5]).getD (dg (n / 2)).length 0 = 5 := by simp [List.getD]
    rw [e3]
    have e4 : (dg (n / 2)).map (48 + ·) = digs (n / 2) := map_vals fun x hx => (digs_range _ x hx).1
    rw [e4]
theorem numJ_odd {h : Int} (ho : h % 2 ≠ 0) : numJ h = (if h < 0 then [45] else []) ++ textL (dg (5 * h.natAbs)) ((dg (5 * h.natAbs)).length - 1) := by
  rw [five_text (by omega)]
  unfold numJ
  rw [if_neg ho]
theorem word_eq (s : Bool) (r : Nat) : Ieee.double.word s r = (if s then 2048 * B else 0) + r := by
  unfold Ieee.Format.word
  rw [sw_eq]
  cases s <;> simp <;> omega
/-- the word's parts -/
theorem wd_parts {h : Int} {s : Bool} {M k : Nat} (H : Half h s M k) : fl h = (if s then 9223372036854775808 else 0) + (1074 - k) * 4503599627370496 + (M - 4503599627370496) ∧ k ≤ 52 ∧ 4503599627370496 ≤ M ∧ M < 9007199254740992 := by
  have h1 := H.hfl
  have hk := H.hk
  have lo := H.lo
  have hi := H.hi
  have hB : B = 4503599627370496 := by unfold B; decide
  rw [hB] at lo hi
  unfold wd at h1
  rw [word_eq, hB, show (-1 - (k : Int) + 1074).toNat = 1073 - k by omega] at h1
  refine ⟨?_, hk, lo, by omega⟩
  rw [h1, show 1074 - k = (1073 - k) + 1 by omega]
  cases s <;> simp <;> omega
def FormEnd (w : World) (e : Ending) (w' : World) : Prop := e = .returned (.agg #[.int .i64 52, .int .i64 11, .int .i64 (-1023)]) ∧ Below w.heap.size w w'
set_option maxHeartbeats 1000000 in
theorem formOf_any (w : World) : Calls Tryz.prog 237 #[.int .i64 64] w (FormEnd w) := by
  go_enter Tryz.func237, Tryz.ntmps237
  go_wp2_with fail
  go_returns
  exact ⟨rfl, (Below.refl _ _).alloc (Nat.le_refl _) _⟩
theorem run_bits (x : Nat) (w : World) : (callFunc 212 #[.float .f64 x]).run Tryz.prog w = .ok (.value (.int .u64 (x : Int))) w := by
  rw [run_callFunc_extern (P := Tryz.prog) (f := 212) (fn := Tryz.f212) (e := Extern.MathFloatBits.float64bits) (by kernel_rfl) (by kernel_rfl) (by kernel_rfl) (by kernel_rfl) (by kernel_rfl)]
  rfl
end Go.Proofs.YtgjmgneppecfgaaGreatDoor.Ma
/-
  THE WALK of FormatFloat, at half a whole number.
-/
namespace Go.Proofs.YtgjmgneppecfgaaGreatDoor.Ma
open Go.RowKit Go.Proofs.YtgjmgneppecfgaaGreatDoor.Va Go.Proofs.YtgjmgneppecfgaaGreatDoor.Ba
set_option linter.unusedVariables false
set_option linter.unusedSimpArgs false

theorem below_drewN {B : Nat} {a w : World} (h : Below B a w) (q : Nat) : Below B a (w.drewN q) := h.trans ⟨rfl, rfl, rfl, Nat.le_refl _, fun _ _ => rfl⟩
theorem and2047 (n : Int) : bits .and .i64 n 2047 = n % 2048 := by
  have h127 : (BitVec.ofInt 64 2047).toNat = 2 ^ 11 - 1 := by decide
  have key : (BitVec.ofInt 64 n &&& BitVec.ofInt 64 2047).toNat = (n % ((2 ^ 64 : Nat) : Int)).toNat % 2 ^ 11 := by
    rw [BitVec.toNat_and, BitVec.toNat_ofInt, h127, Nat.and_two_pow_sub_one_eq_mod]
  show IntKind.i64.wrap ((BitVec.ofInt 64 n &&& BitVec.ofInt 64 2047).toNat : Nat) = n % 2048
  rw [key, IntKind.wrap_i64]
  omega
theorem or52 {m : Nat} (h : m < 4503599627370496) : bits .or .u64 (m : Int) 4503599627370496 = ((m + 4503599627370496 : Nat) : Int) := by
  have e := u64_or_nat m 4503599627370496 (by omega) (by decide)
  have h2 : m ||| 4503599627370496 = m + 4503599627370496 := by
    have := Nat.two_pow_add_eq_or_of_lt (i := 52) (b := m) (by simpa using h) 1
    simp only [Nat.mul_one] at this
    rw [Nat.or_comm, Nat.add_comm m]
    exact this.symm
  rw [h2] at e
  exact e
theorem and52 {x : Nat} (h : x < 18446744073709551616) : bits .and .u64 (x : Int) 4503599627370495 = ((x % 4503599627370496 : Nat) : Int) := by
  have e := u64_and_nat x 4503599627370495 h (by decide)
  have h2 : x &&& 4503599627370495 = x % 4503599627370496 := Nat.and_two_pow_sub_one_eq_mod x 52
  rw [h2] at e
  exact e
set_option maxHeartbeats 4000000 in
set_option maxRecDepth 100000 in
theorem fmtFloat_any {h : Int} {s : Bool} {M k : Nat} (H : Half h s M k) (ho : h % 2 ≠ 0) (hb : h.natAbs < 9007199254740992) (w : World) :
    Calls Tryz.prog 213 #[.float .f64 (fl h), .int .u8 102, .int .i64 (-1), .int .i64 64] w (StrEnd (numS (numJ h)) w) := by
  obtain ⟨hx, hk, lo, hi⟩ := wd_parts H
  have HS := Lib.hid H.hs
  have HM := Lib.hid H.hM
  have HOO := Lib.hid ho
  have HRES := Lib.hid (numJ_odd ho)
  clear H
  obtain ⟨x, hx0⟩ : ∃ x, fl h = x := ⟨_, rfl⟩
  rw [hx0] at hx ⊢
  clear hx0
  have hd := run_bits x
  obtain ⟨n, hn⟩ : ∃ n, h.natAbs = n := ⟨_, rfl⟩
  have HN := Lib.hid hn
  rw [hn] at hb HM HRES
  clear hn ho
  obtain ⟨E, hE⟩ : ∃ E, 1074 - k = E := ⟨_, rfl⟩
  obtain ⟨m, hm⟩ : ∃ m, M - 4503599627370496 = m := ⟨_, rfl⟩
  rw [hE, hm] at hx
  have hE1 : 1022 ≤ E := by omega
  have hE2 : E ≤ 1074 := by omega
  have hEk : E + k = 1074 := by omega
  have hmM : m + 4503599627370496 = M := by omega
  have HX := Lib.hid hx
  have hx63 : ((x : Int) / 9223372036854775808 != 0) = s := by
    cases s
    · have : (x : Int) / 9223372036854775808 = 0 := by simp at hx; omega
      rw [this]; rfl
    · have : (x : Int) / 9223372036854775808 = 1 := by simp at hx; omega
      rw [this]; rfl
  have hxs : x = (if s then 9223372036854775808 else 0) + E * 4503599627370496 + m := hx
  have hx64 : x < 18446744073709551616 := by rw [hxs]; cases s <;> simp <;> omega
  have hm52 : m < 4503599627370496 := by omega
  have hq0 : 0 ≤ (x : Int) / 4503599627370496 := by omega
  have hq1 : (x : Int) / 4503599627370496 < 4096 := by omega
  have hwx : wrap64 ((x : Int) / 4503599627370496) = (x : Int) / 4503599627370496 := by unfold wrap64; omega
  have hand : bits .and .i64 ((x : Int) / 4503599627370496) 2047 = (E : Int) := by
    rw [and2047]
    cases s
    · simp at hxs; omega
    · simp at hxs; omega
  have hand2 : bits .and .u64 (x : Int) 4503599627370495 = (m : Int) := by
    rw [and52 hx64]
    cases s
    · simp at hxs; omega
    · simp at hxs; omega
  have hor : bits .or .u64 (m : Int) 4503599627370496 = (M : Int) := by rw [or52 hm52, hmM]
  have he1 : ((E : Int) == 2047) = false := by simp; omega
  have he2 : ((E : Int) == 0) = false := by simp; omega
  have HEK := Lib.hid hEk
  have ho2 : n % 2 = 1 := by have := HOO.out; have := HN.out; omega
  have HO2 := Lib.hid ho2
  have HL5 := Lib.hid (dg_len (n := 5 * n) (by omega))
  obtain ⟨p, hp⟩ : ∃ p, (dg (5 * n)).length = p + 1 := ⟨_, (Nat.succ_pred_eq_of_pos (dg_len_pos _)).symm⟩
  have HP := Lib.hid hp
  obtain ⟨l, hl⟩ : ∃ l, p + 1 = l := ⟨_, rfl⟩
  have HLP := Lib.hid hl
  have hl20 : l ≤ 20 := by rw [← hl, ← hp]; exact HL5.out
  have hp20 : p < l := by omega
  have hsub : wrap64 ((l : Int) - (p : Int)) = 1 := by unfold wrap64; omega
  have hsub2 : IntKind.i64.wrap ((l : Int) - (p : Int)) = 1 := by rw [IntKind.wrap_i64]; omega
  clear hE hm hx hEk hmM hxs hx64 hm52 hq0 hq1 ho2 hp hl
  go_enter Tryz.func213, Tryz.ntmps213
  go_wp2_with fail
  refine (formOf_any w).mono ?_
  rintro e W1 ⟨rfl, b1⟩
  have B1 := Lib.hid b1
  have hz1 := b1.size
  clear b1
  cases s
  all_goals
    go_wp2_with fail
    go_quiet (fail)
    go_wp2_with fail
    generalize hW2 : World.drewN _ nq = W2
    have F2 : Hid (W2.heap[W1.heap.size]? = some (.cells #[.int .i64 52, .int .i64 11, .int .i64 (-1023)] 260 (0, 0))) := Lib.hid (by rw [← hW2]; exact block_new W1 _ _)
    have B2 : Hid (Below w.heap.size w W2) := Lib.hid (by rw [← hW2]; exact (B1.out.alloc hz1 _).trans ⟨rfl, rfl, rfl, Nat.le_refl _, fun _ _ => rfl⟩)
    have hz12 : W1.heap.size < W2.heap.size := heap_lt F2.out
    clear hW2
    refine (newDec_int _ M rfl (by omega) (by omega) _).mono ?_
    rintro e W3 ⟨rfl, h3, b3⟩
    have A3 := Lib.hid h3
    have F3 := Lib.hid (keep b3 F2.out)
    have hz3 := b3.size
    have B3 := Lib.hid (B2.out.trans (b3.mono B2.out.size))
    have c3 := cells3 F3.out
    have hz2 := B2.out.size
    clear h3 b3
    go_wp2_with fail
    refine (shift_can _ W2.heap.size M (k + 1) _ (by have := HEK.out; omega) (by omega) (by omega) (by omega) (by omega) W3 A3.out).mono ?_
    intro e W4 h4
    obtain ⟨a4, b4, z4⟩ := made_kept B3.out hz2 (Nat.le_refl _) h4
    obtain ⟨m1, m2⟩ := mant_can HO2.out (Nat.succ_pos k) HM.out
    have hd4 := h4.2.1
    rw [m1, m2] at hd4
    have F4 := Lib.hid ((h4.2.2.block W1.heap.size (by omega) (fun e => by have := Option.some.inj e; omega)).trans F3.out)
    have B4 := Lib.hid b4
    obtain ⟨rfl, _, _⟩ := h4
    have A4 := Lib.hid hd4
    have c4 := cells3 F4.out
    have hz4 := B4.out.size
    clear a4 b4 m1 m2 hd4 c3
    go_wp2_with fail
    refine (short_any _ W2.heap.size n (k + 1) M _ HO2.out hb (by omega) (by omega) HM.out lo hi (by have := HEK.out; omega) W4 A4.out).mono ?_
    rintro e W5 ⟨rfl, b5⟩
    have A5 := Lib.hid (A4.out.below b5)
    have B5 := Lib.hid (B4.out.trans (b5.mono hz4))
    obtain ⟨a, cap, h1, _⟩ := A5.out.dec
    rw [HP.out, Nat.add_sub_cancel, HLP.out] at h1
    have c5 := cells2 h1
    have hz5 := B5.out.size
    clear h1 b5 c4
    go_wp2_with fail
    go_quiet (fail)
    go_wp2_with fail
    have DC := A5.out.dec
    rw [HP.out, Nat.add_sub_cancel] at DC
    have HTX := Lib.hid (fun q => text_dec W2.heap.size p (dg (5 * n)) (by rw [HP.out]; omega) (dg_all _) (by have := HL5.out; omega) (W5.drewN q) DC.drewN)
    clear DC
    refine (HTX.out _).mono ?_
    rintro e W7 ⟨rfl, b7⟩
    have B7 : Hid (Below w.heap.size w W7) := Lib.hid ((below_drewN B5.out _).trans (b7.mono hz5))
    clear b7
    have hsz : (numS (textL (dg (5 * n)) p)).size ≤ 30 := by
      have q := numJ_len (h := h) (by have := HN.out; omega)
      rw [HRES.out, HP.out, Nat.add_sub_cancel, List.length_append] at q
      rw [numS_size]
      omega
    have hsz2 : (⟨#[45]⟩ : ByteArray).size = 1 := rfl
    have hsz3 : (⟨#[]⟩ : ByteArray).size = 0 := rfl
    rw [HP.out, Nat.add_sub_cancel] at HRES
    have hcat : (⟨#[45]⟩ : ByteArray) ++ numS (textL (dg (5 * n)) p) = numS (45 :: textL (dg (5 * n)) p) := numS_cons 45 _
    go_wp2_with fail
    go_returns
    refine ⟨?_, B7.out⟩
    rw [HRES.out]
    first
      | (rw [if_neg (by have := HS.out; simp at this; omega)]; exact congrArg (fun q => Ending.returned (.string q)) (numS_append [] _))
      | (rw [if_pos (by have := HS.out; simp at this; omega)]; rfl)
end Go.Proofs.YtgjmgneppecfgaaGreatDoor.Ma
/-
  THE WALK of AppendFloat, into a part of a row.
-/
namespace Go.Proofs.YtgjmgneppecfgaaGreatDoor.Ma
open Go.RowKit Go.Proofs.YtgjmgneppecfgaaGreatDoor.Va Go.Proofs.YtgjmgneppecfgaaGreatDoor.Ba
set_option linter.unusedVariables false
set_option linter.unusedSimpArgs false

theorem numJ_lt (h : Int) : ∀ x ∈ numJ h, x < 256 := by
  intro x hx
  unfold numJ at hx
  rcases List.mem_append.1 hx with q | q
  · split at q
    · rw [List.mem_singleton] at q; omega
    · cases q
  · rcases List.mem_append.1 q with r | r
    · exact digs_lt _ x r
    · split at r
      · cases r
      · simp at r; omega
set_option maxHeartbeats 2000000 in
set_option maxRecDepth 100000 in
theorem appFloat_any (g o k cap n : Nat) (t : TypeId) (f : Nat → Value) {h : Int} {s : Bool} {M kk : Nat} (H : Half h s M kk) (ho : h % 2 ≠ 0) (hb : h.natAbs < 9007199254740992) (w : World) (hr : w.rowIs g t n f) (hcap : k + 30 ≤ cap) (hfit : o + cap ≤ n) :
    Calls Tryz.prog 183 #[.slice (some ⟨g, o, none⟩) k cap, .float .f64 (fl h), .int .u8 102, .int .i64 (-1), .int .i64 64] w (AppEnd g o k cap n t f (numJ h) w) := by
  have HR := Lib.hid hr
  obtain ⟨i8, hi8, hs8⟩ := info8f
  have HI8 := Lib.hid hi8
  have HS8 := Lib.hid hs8
  have HL := Lib.hid (numJ_len (h := h) (by omega))
  have HC := Lib.hid (fun w => fmtFloat_any H ho hb w)
  clear hr hi8 hs8 H ho
  obtain ⟨x, hx⟩ : ∃ x, fl h = x := ⟨_, rfl⟩
  rw [hx] at HC ⊢
  clear hx
  go_enter Tryz.func183, Tryz.ntmps183
  go_wp2_with fail
  refine (HC.out w).mono ?_
  rintro e w1 ⟨rfl, hb⟩
  have HR1 := Lib.hid (HR.out.of_block (hb.block g HR.out.lt) : w1.rowIs g t n f)
  have HB := Lib.hid hb
  have hro : k + (numS (numJ h)).size ≤ cap := by rw [numS_size]; have := HL.out; omega
  have hfi : o + k + (numS (numJ h)).size ≤ n := by omega
  clear hb
  go_wp2_with (refine wpList_append_part rfl (.tmp 11) (.tmp 16) 73 9 rfl 5 i8 Tryz.underlying73 Tryz.underlying9 HI8.out HS8.out g o k cap n t f rfl HR1.out _ rfl hro hfi ?_; intro w2 hrow hgr; have HROW := Lib.hid hrow; have HGR := Lib.hid hgr; clear hrow hgr hro hfi)
  go_returns
  refine ⟨by rw [numS_size]; rfl, ?_, ?_⟩
  · have := HROW.out
    rwa [bytesN_numS' _ (numJ_lt h)] at this
  · exact ⟨HGR.out.os.trans HB.out.os, HGR.out.tape.trans HB.out.tape, HGR.out.output.trans HB.out.output, Nat.le_trans HB.out.size HGR.out.size, fun i hi hne => (HGR.out.block i (Nat.lt_of_lt_of_le hi HB.out.size) hne).trans (HB.out.block i hi)⟩
end Go.Proofs.YtgjmgneppecfgaaGreatDoor.Ma
