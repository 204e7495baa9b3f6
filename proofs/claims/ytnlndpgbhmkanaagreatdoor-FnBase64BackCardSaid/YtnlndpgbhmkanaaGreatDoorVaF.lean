/-
  FLOATS: halves of odd numbers below 2^53 as doubles: what float64(h)/2, 2*x, -x, Trunc and int(x) give.
-/
import Derived.Laws.FloatArith
import GoSem.Extern.MathFloor
namespace Go.Proofs.YtnlndpgbhmkanaaGreatDoor.Va
open Ieee

/-- 2^52, kept whole -/
def B : Nat := 2 ^ 52
theorem B_pos : 0 < B := by unfold B; exact Nat.two_pow_pos 52
theorem bin_eq : Ieee.double.binade = B := rfl
theorem inf_eq : Ieee.double.infRung = 2047 * B := by unfold B; decide
theorem sw_eq : Ieee.double.signWeight = 2048 * B := by unfold B; decide
theorem lp_eq : Ieee.double.leastPlace = -1074 := by decide
theorem pow_B (j : Nat) : 2 ^ (52 + j) = B * 2 ^ j := by rw [Nat.pow_add, B]

/-- the word of a normal number -/
def wd (s : Bool) (M : Nat) (q : Int) : Nat := Ieee.double.word s ((q + 1074).toNat * B + M)

theorem log2_of {n k : Nat} (h1 : 2 ^ k ≤ n) (h2 : n < 2 ^ (k + 1)) : n.log2 = k := by
  have hn : n ≠ 0 := by have := Nat.two_pow_pos k; omega
  have a := (Nat.log2_lt hn).2 h2
  have b := (Nat.le_log2 hn).2 h1
  omega
theorem log2_mul (M j : Nat) (hM : B ≤ M) (h2 : M < 2 * B) : (M * 2 ^ j).log2 = 52 + j := by
  have hp := Nat.two_pow_pos j
  refine log2_of ?_ ?_
  · rw [pow_B]; exact Nat.mul_le_mul_right _ hM
  · rw [show 52 + j + 1 = 52 + (j + 1) by omega, pow_B, Nat.pow_succ, show B * (2 ^ j * 2) = 2 * B * 2 ^ j by rw [Nat.mul_comm (2 ^ j) 2, ← Nat.mul_assoc, Nat.mul_comm B 2]]
    exact Nat.mul_lt_mul_of_pos_right h2 hp

theorem cut_zero (s : Bool) (n : Nat) : Toward.even.cut s n 0 = n := by
  simp [Toward.cut, Nat.mod_one]
theorem cut_mul (s : Bool) (M j : Nat) (hM : B ≤ M) (h2 : M < 2 * B) : Toward.even.cut s (M * 2 ^ j) j = M := by
  have hl := log2_mul M j hM h2
  have hg : min j ((M * 2 ^ j).log2 + 2) = j := by rw [hl]; omega
  have h0 : M * 2 ^ j % 2 ^ j = 0 := Nat.mul_mod_left _ _
  have h1 : M * 2 ^ j / 2 ^ j = M := Nat.mul_div_cancel _ (Nat.two_pow_pos j)
  have hp := Nat.two_pow_pos j
  simp only [Toward.cut, hg, Nat.one_shiftLeft, h0, h1]
  simp

theorem rung_le (n M : Nat) (hn : n ≤ 1974) (h2 : M < 2 * B) : n * B + M ≤ 2047 * B := by
  have h := Nat.mul_le_mul_right B hn
  omega
theorem min_rung (n M : Nat) (hn : n ≤ 1974) (h2 : M < 2 * B) : min (n * B + M) (2047 * B) = n * B + M := Nat.min_eq_left (rung_le n M hn h2)

/-- a number that is normal when its last digits are struck -/
theorem write_norm (s : Bool) (M j : Nat) (q p : Int) (hp : p = q - j) (hM : B ≤ M) (h2 : M < 2 * B) (hq : -1074 ≤ q) (hq2 : q ≤ 900) : Ieee.double.write (.number s (M * 2 ^ j) p) = wd s M q := by
  subst hp
  have hpos : M * 2 ^ j ≠ 0 := Nat.ne_of_gt (Nat.mul_pos (Nat.lt_of_lt_of_le B_pos hM) (Nat.two_pow_pos j))
  have hl := log2_mul M j hM h2
  have hfb : Ieee.double.fractionBits = 52 := rfl
  have hlast : max (q - (j : Int) + ((M * 2 ^ j).log2 : Nat) - (Ieee.double.fractionBits : Nat)) Ieee.double.leastPlace = q := by rw [hl, lp_eq, hfb]; omega
  have e1 : (q - (j : Int) - q).toNat = 0 := by omega
  have e2 : (q - (q - (j : Int))).toNat = j := by omega
  have e3 : (q - -1074).toNat = (q + 1074).toNat := by omega
  have hb : (q + 1074).toNat ≤ 1974 := by omega
  rw [Ieee.Format.write, Ieee.Format.nearest, if_neg hpos]
  simp only [hlast]
  rw [e1, e2, Nat.shiftLeft_zero, cut_mul s M j hM h2, lp_eq, bin_eq, inf_eq, e3, min_rung _ M hb h2, wd]

/-- a small whole number of units -/
theorem write_small (s : Bool) (m k : Nat) (p : Int) (hm : 0 < m) (hM : B ≤ m * 2 ^ k) (h2 : m * 2 ^ k < 2 * B) (hp : -900 ≤ p) (hp2 : p ≤ 800) (hk : k ≤ 52) : Ieee.double.write (.number s m p) = wd s (m * 2 ^ k) (p - k) := by
  have hm0 : m ≠ 0 := by omega
  have hl : m.log2 + k = 52 := by
    have a : (m * 2 ^ k).log2 = 52 := by simpa using log2_mul (m * 2 ^ k) 0 hM h2
    have b := Nat.log2_self_le hm0
    have c := @Nat.lt_log2_self m
    have d : (m * 2 ^ k).log2 = m.log2 + k := by
      refine log2_of ?_ ?_
      · rw [Nat.pow_add]; exact Nat.mul_le_mul_right _ b
      · rw [show m.log2 + k + 1 = m.log2 + 1 + k by omega, Nat.pow_add]; exact Nat.mul_lt_mul_of_pos_right c (Nat.two_pow_pos k)
    omega
  have hfb : Ieee.double.fractionBits = 52 := rfl
  have hlast : max (p + (m.log2 : Nat) - (Ieee.double.fractionBits : Nat)) Ieee.double.leastPlace = p - (k : Int) := by rw [lp_eq, hfb]; omega
  have e1 : (p - (p - (k : Int))).toNat = k := by omega
  have e2 : (p - (k : Int) - p).toNat = 0 := by omega
  have e3 : (p - (k : Int) - -1074).toNat = (p - (k : Int) + 1074).toNat := by omega
  have hb : (p - (k : Int) + 1074).toNat ≤ 1974 := by omega
  rw [Ieee.Format.write, Ieee.Format.nearest, if_neg hm0]
  simp only [hlast]
  rw [e1, e2, cut_zero, Nat.shiftLeft_eq, lp_eq, bin_eq, inf_eq, e3, min_rung _ _ hb h2, wd]

theorem read_wd (s : Bool) (M : Nat) (q : Int) (hM : B ≤ M) (h2 : M < 2 * B) (hq : -1074 ≤ q) (hq2 : q ≤ 900) : Ieee.double.read (wd s M q) = .number s M q := by
  obtain ⟨n, hn⟩ : ∃ n : Nat, q + 1074 = n := ⟨(q + 1074).toNat, by omega⟩
  have hn2 : n ≤ 1974 := by omega
  have e : (q + 1074).toNat = n := by omega
  have hr := rung_le n M hn2 h2
  have hBp := B_pos
  have hlt : n * B + M < 2048 * B := by omega
  have hlow : wd s M q % Ieee.double.signWeight = n * B + M := by
    unfold wd Ieee.Format.word
    rw [e, sw_eq]
    cases s
    · simp only [Bool.false_eq_true, if_false]; exact Nat.mod_eq_of_lt hlt
    · simp only [if_true]; rw [Nat.add_mod_left]; exact Nat.mod_eq_of_lt hlt
  have hneg : (wd s M q / Ieee.double.signWeight % 2 == 1) = s := by
    unfold wd Ieee.Format.word
    rw [e, sw_eq]
    cases s
    · simp only [Bool.false_eq_true, if_false]; rw [Nat.div_eq_of_lt hlt]; rfl
    · simp only [if_true]; rw [Nat.add_div_left _ (by omega), Nat.div_eq_of_lt hlt]; rfl
  have c1 : ¬ (n * B + M < B) := by omega
  have c2 : n * B + M < 2047 * B := by
    have := Nat.mul_le_mul_right B hn2
    omega
  have d0 : n * B + M = (M - B) + B * (n + 1) := by rw [Nat.mul_add, Nat.mul_comm B n, Nat.mul_one]; omega
  have hMB : M - B < B := by omega
  have d1 : (n * B + M) % B = M - B := by rw [d0, Nat.add_mul_mod_self_left]; exact Nat.mod_eq_of_lt hMB
  have d2 : (n * B + M) / B = n + 1 := by rw [d0, Nat.add_mul_div_left _ _ hBp, Nat.div_eq_of_lt hMB]; omega
  have f1 : B + (M - B) = M := by omega
  have f2 : (-1074 : Int) + ((n + 1 - 1 : Nat) : Int) = q := by omega
  simp only [Ieee.Format.read, hlow, hneg, bin_eq, inf_eq]
  rw [if_neg c1, if_pos c2, d1, d2, lp_eq, f1, f2]

/-! ### an odd number below 2^53, as a double, and its half -/
def two : Nat := 4611686018427387904
theorem two_eq : two = wd false B (-51) := by unfold two wd Ieee.Format.word B; decide
def fi (h : Int) : Nat := floatOfInt .f64 h
/-- h/2 as a double -/
def fl (h : Int) : Nat := Ieee.double.write (.number (decide (h < 0)) h.natAbs (-1))

/-- by how many digits a number is moved -/
theorem move (m : Nat) (hm : 0 < m) (h2 : m < 2 * B) : ∃ k, k ≤ 52 ∧ B ≤ m * 2 ^ k ∧ m * 2 ^ k < 2 * B := by
  have hm0 : m ≠ 0 := by omega
  have hl : m.log2 < 53 := (Nat.log2_lt hm0).2 (by unfold B at h2; omega)
  have b := Nat.log2_self_le hm0
  have c := @Nat.lt_log2_self m
  refine ⟨52 - m.log2, by omega, ?_, ?_⟩
  · have h := Nat.mul_le_mul_right (2 ^ (52 - m.log2)) b
    rw [← Nat.pow_add, show m.log2 + (52 - m.log2) = 52 + 0 by omega, pow_B] at h
    simpa using h
  · have h := Nat.mul_lt_mul_of_pos_right c (Nat.two_pow_pos (52 - m.log2))
    rw [← Nat.pow_add, show m.log2 + 1 + (52 - m.log2) = 52 + 1 by omega, pow_B] at h
    omega

/-- what is known of an odd number's words -/
structure Half (h : Int) (s : Bool) (M k : Nat) : Prop where
  hs : s = decide (h < 0)
  hk : k ≤ 52
  hM : M = h.natAbs * 2 ^ k
  lo : B ≤ M
  hi : M < 2 * B
  hfi : fi h = wd s M (-k)
  hfl : fl h = wd s M (-1 - k)
theorem half_of (h : Int) (h0 : h ≠ 0) (hb : h.natAbs < 2 * B) : ∃ s M k, Half h s M k := by
  obtain ⟨k, hk, lo, hi⟩ := move h.natAbs (by omega) hb
  refine ⟨decide (h < 0), h.natAbs * 2 ^ k, k, rfl, hk, rfl, lo, hi, ?_, ?_⟩
  · have := write_small (decide (h < 0)) h.natAbs k 0 (by omega) lo hi (by omega) (by omega) hk
    rw [show (0 : Int) - k = -k by omega] at this
    exact this
  · exact write_small (decide (h < 0)) h.natAbs k (-1) (by omega) lo hi (by omega) (by omega) hk

section
variable {h : Int} {s : Bool} {M k : Nat}
theorem Half.readI (H : Half h s M k) : Ieee.double.read (Va.fi h) = .number s M (-k) := by
  have := H.hk
  rw [H.hfi]; exact read_wd s M _ H.lo H.hi (by omega) (by omega)
theorem Half.readL (H : Half h s M k) : Ieee.double.read (Va.fl h) = .number s M (-1 - k) := by
  have := H.hk
  rw [H.hfl]; exact read_wd s M _ H.lo H.hi (by omega) (by omega)
theorem read_two : Ieee.double.read two = .number false B (-51) := by
  have := B_pos
  rw [two_eq]; exact read_wd false B (-51) (by omega) (by omega) (by omega) (by omega)

end

theorem quot_two (s : Bool) (M : Nat) (P : Int) (lo : B ≤ M) (hi : M < 2 * B) : Datum.quotient 54 (.number s M P) (.number false B (-51)) = some (.number s (M * 2 ^ 3) (P - 4)) := by
  have hBp := B_pos
  have hl : M.log2 = 52 := by simpa using log2_mul M 0 lo hi
  have hlB : B.log2 = 52 := by simpa using log2_mul B 0 (by omega) (by omega)
  have hB0 : B ≠ 0 := by omega
  have h54 : 54 + B.log2 - M.log2 = 54 := by rw [hl, hlB]
  have hsh : M <<< 54 = M * 4 * B := by rw [Nat.shiftLeft_eq, show 54 = 52 + 2 by rfl, pow_B, Nat.mul_comm B, ← Nat.mul_assoc]
  rw [Datum.quotient, if_neg hB0]
  simp only [h54, hsh]
  rw [Nat.mul_div_cancel _ hBp, Nat.mul_mod_left]
  have e1 : 2 * (M * 4) + (0 != 0).toNat = M * 2 ^ 3 := by rw [show (0 != 0) = false by rfl, Bool.toNat_false]; omega
  have e2 : P - -51 - ((54 : Nat) : Int) - 1 = P - 4 := by omega
  have e3 : (s ^^ false) = s := Bool.xor_false s
  rw [e1, e2, e3]

section
variable {h : Int} {s : Bool} {M k : Nat}
/-- float64(h) / 2 -/
theorem div_two (H : Half h s M k) : Ieee.double.div (Va.fi h) two = some (Va.fl h) := by
  have hk := H.hk
  have e := write_norm s M 3 (-1 - (k : Int)) (-(k : Int) - 4) (by omega) H.lo H.hi (by omega) (by omega)
  rw [Ieee.Format.div, H.readI, read_two, H.hfl, ← e]
  exact congrArg (Option.map Ieee.double.write) (quot_two s M (-(k : Int)) H.lo H.hi)

/-- 2 * x of a half -/
theorem mul_two (H : Half h s M k) : Ieee.double.mul two (Va.fl h) = some (Va.fi h) := by
  have hk := H.hk
  have e := write_norm s M 52 (-(k : Int)) (-51 + (-1 - (k : Int))) (by omega) H.lo H.hi (by omega) (by omega)
  have p : Datum.product (.number false B (-51)) (.number s M (-1 - (k : Int))) = some (.number s (M * 2 ^ 52) (-51 + (-1 - (k : Int)))) := by
    rw [Datum.product, Bool.false_xor, Nat.mul_comm B M, show B = 2 ^ 52 from rfl]
  rw [Ieee.Format.mul, H.readL, read_two, p, H.hfi, ← e]
  rfl
theorem natAbs_pos (H : Half h s M k) : 0 < h.natAbs := by
  rcases Nat.eq_zero_or_pos h.natAbs with e | e
  · have h1 := H.hM
    rw [e, Nat.zero_mul] at h1
    have := H.lo
    have := B_pos
    omega
  · exact e
theorem cmp_lt {a b : Int} (h : a < b) : compare a b = .lt := by simp [compare, compareOfLessAndEq, h]
theorem cmp_gt {a b : Int} (h : b < a) : compare a b = .gt := by
  have h1 : ¬ a < b := by omega
  have h2 : ¬ a = b := by omega
  simp [compare, compareOfLessAndEq, h1, h2]
theorem cmp_self (a : Int) : compare a a = .eq := by simp [compare, compareOfLessAndEq]
/-- the number of the word, as a whole number -/
theorem integral_fi (H : Half h s M k) : (Datum.number s M (-(k : Int))).integral .zero = .number s h.natAbs 0 := by
  have hk := H.hk
  have e1 : (-(k : Int)).toNat = 0 := by omega
  have e2 : (- -(k : Int)).toNat = k := by omega
  have hl : M.log2 = 52 := by simpa using log2_mul M 0 H.lo H.hi
  have hg : min k (M.log2 + 2) = k := by rw [hl]; omega
  have hc : Toward.zero.cut s M k = h.natAbs := by
    simp only [Toward.cut, hg, Nat.one_shiftLeft]
    rw [H.hM, Nat.mul_div_cancel _ (Nat.two_pow_pos k)]
    rfl
  simp only [Datum.integral, e1, e2, Nat.shiftLeft_zero, hc]
theorem signed_natAbs (H : Half h s M k) : signed s h.natAbs 0 = h := by
  unfold signed
  rw [H.hs, Nat.shiftLeft_zero]
  by_cases c : h < 0
  · simp [c]; omega
  · simp [c]; omega
theorem trunc_fi (H : Half h s M k) : FloatKind.f64.encode (((FloatKind.f64.decode (Va.fi h))).integral .zero) = Va.fi h := by
  show Ieee.double.write ((Ieee.double.read (Va.fi h)).integral .zero) = Va.fi h
  rw [H.readI, integral_fi H, H.hs]
  rfl
theorem toInt_fi (H : Half h s M k) : (FloatKind.f64.decode (Va.fi h)).toInt .zero = some h := by
  show (Ieee.double.read (Va.fi h)).toInt .zero = some h
  rw [H.readI, Datum.toInt, integral_fi H]
  simp only [signed_natAbs H]
theorem order_self (H : Half h s M k) : Ieee.double.order (Va.fi h) (Va.fi h) = some .eq := by
  rw [Ieee.Format.order, H.readI]
  simp only [Datum.order, cmp_self]

/-- the word of -2^62, of 2^62 -/
def low62 : Nat := 14109777632551763968
def high62 : Nat := 4886405595696988160
theorem low62_eq : low62 = wd true B 10 := by unfold low62 wd Ieee.Format.word Ieee.Format.signWeight B; decide
theorem high62_eq : high62 = wd false B 10 := by unfold high62 wd Ieee.Format.word Ieee.Format.signWeight B; decide
theorem read_low : Ieee.double.read low62 = .number true B 10 := by
  have := B_pos
  rw [low62_eq]; exact read_wd true B 10 (by omega) (by omega) (by omega) (by omega)
theorem read_high : Ieee.double.read high62 = .number false B 10 := by
  have := B_pos
  rw [high62_eq]; exact read_wd false B 10 (by omega) (by omega) (by omega) (by omega)
theorem order_low (H : Half h s M k) : Ieee.double.order (Va.fi h) low62 = some .gt := by
  have hk := H.hk
  have hB := B_pos
  have hi := H.hi
  rw [Ieee.Format.order, H.readI, read_low]
  have e0 : min (-(k : Int)) 10 = -(k : Int) := by omega
  have e1 : (-(k : Int) - -(k : Int)).toNat = 0 := by omega
  have e2 : (10 - -(k : Int)).toNat = k + 10 := by omega
  simp only [Datum.order, e0, e1, e2, signed, Nat.shiftLeft_zero, Nat.shiftLeft_eq, if_true]
  have h2 : 2 * B ≤ B * 2 ^ (k + 10) := by
    have : 2 ^ 1 ≤ 2 ^ (k + 10) := Nat.pow_le_pow_right (by omega) (by omega)
    have := Nat.mul_le_mul_left B this
    omega
  obtain ⟨T, hT⟩ : ∃ T, B * 2 ^ (k + 10) = T := ⟨_, rfl⟩
  rw [hT] at h2 ⊢
  refine congrArg some (cmp_gt ?_)
  cases s <;> simp <;> omega
theorem order_high (H : Half h s M k) : Ieee.double.order (Va.fi h) high62 = some .lt := by
  have hk := H.hk
  have hB := B_pos
  have hi := H.hi
  rw [Ieee.Format.order, H.readI, read_high]
  have e0 : min (-(k : Int)) 10 = -(k : Int) := by omega
  have e1 : (-(k : Int) - -(k : Int)).toNat = 0 := by omega
  have e2 : (10 - -(k : Int)).toNat = k + 10 := by omega
  simp only [Datum.order, e0, e1, e2, signed, Nat.shiftLeft_zero, Nat.shiftLeft_eq]
  have h2 : 2 * B ≤ B * 2 ^ (k + 10) := by
    have : 2 ^ 1 ≤ 2 ^ (k + 10) := Nat.pow_le_pow_right (by omega) (by omega)
    have := Nat.mul_le_mul_left B this
    omega
  obtain ⟨T, hT⟩ : ∃ T, B * 2 ^ (k + 10) = T := ⟨_, rfl⟩
  rw [hT] at h2 ⊢
  refine congrArg some (cmp_lt ?_)
  cases s <;> simp <;> omega
end

end Go.Proofs.YtnlndpgbhmkanaaGreatDoor.Va
