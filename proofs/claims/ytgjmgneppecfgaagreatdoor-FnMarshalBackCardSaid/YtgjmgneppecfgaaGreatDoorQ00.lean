/-
  FLOATS: halves of odd numbers below 2^53 as doubles: what float64(h)/2, 2*x, -x, Trunc and int(x) give.
-/
import Derived.Laws.FloatArith
import GoSem.Extern.MathFloor
import Derived.Test.YtgjmgneppecfgaaGreatDoorRows
import Derived.Below
import Derived.OwnWalk
import Derived.Laws.Rows
import Derived.MapKept
import Derived.Lib.ValidU
import Derived.WalkKit
import Derived.KernelRfl
import Derived.Stop.Asserts
import Derived.WalkSpells
import Derived.WalkLawsBesides
import Derived.Deep.QuietTactic
import Derived.BigQuiet
import Derived.Handy
import Derived.Lib.Hide
import Derived.Deep.DeepCutAuto
import Derived.Laws.Cover2
import Derived.IntWalk
import Derived.Laws.MakeOwn
import Derived.Maps.Own
set_option linter.unusedVariables false
set_option linter.unusedSimpArgs false
namespace Go.Proofs.YtgjmgneppecfgaaGreatDoor.Va
open Ieee

/-- 2^52, kept whole -/
def B : Nat := 2 ^ 52
theorem B_pos : 0 < B := by unfold B; exact Nat.two_pow_pos 52
theorem bin_eq : Ieee.double.binade = B := rfl
theorem inf_eq : Ieee.double.infRung = 2047 * B := by unfold B; decide
theorem sw_eq : Ieee.double.signWeight = 2048 * B := by unfold B; decide
theorem lp_eq : Ieee.double.leastPlace = -1074 := by decide
theorem pow_B (j : Nat) : 2 ^ (52 + j) = B * 2 ^ j := by rw [Nat.pow_add, B]

/-- the word of a normal number -/
def wd (s : Bool) (M : Nat) (q : Int) : Nat := Ieee.double.word s ((q + 1074).toNat * B + M)

theorem log2_of {n k : Nat} (h1 : 2 ^ k ≤ n) (h2 : n < 2 ^ (k + 1)) : n.log2 = k := by
  have hn : n ≠ 0 := by have := Nat.two_pow_pos k; omega
  have a := (Nat.log2_lt hn).2 h2
  have b := (Nat.le_log2 hn).2 h1
  omega
theorem log2_mul (M j : Nat) (hM : B ≤ M) (h2 : M < 2 * B) : (M * 2 ^ j).log2 = 52 + j := by
  have hp := Nat.two_pow_pos j
  refine log2_of ?_ ?_
  · rw [pow_B]; exact Nat.mul_le_mul_right _ hM
  · rw [show 52 + j + 1 = 52 + (j + 1) by omega, pow_B, Nat.pow_succ, show B * (2 ^ j * 2) = 2 * B * 2 ^ j by rw [Nat.mul_comm (2 ^ j) 2, ← Nat.mul_assoc, Nat.mul_comm B 2]]
    exact Nat.mul_lt_mul_of_pos_right h2 hp

theorem cut_zero (s : Bool) (n : Nat) : Toward.even.cut s n 0 = n := by
  simp [Toward.cut, Nat.mod_one]
theorem cut_mul (s : Bool) (M j : Nat) (hM : B ≤ M) (h2 : M < 2 * B) : Toward.even.cut s (M * 2 ^ j) j = M := by
  have hl := log2_mul M j hM h2
  have hg : min j ((M * 2 ^ j).log2 + 2) = j := by rw [hl]; omega
  have h0 : M * 2 ^ j % 2 ^ j = 0 := Nat.mul_mod_left _ _
  have h1 : M * 2 ^ j / 2 ^ j = M := Nat.mul_div_cancel _ (Nat.two_pow_pos j)
  have hp := Nat.two_pow_pos j
  simp only [Toward.cut, hg, Nat.one_shiftLeft, h0, h1]
  simp

theorem rung_le (n M : Nat) (hn : n ≤ 1974) (h2 : M < 2 * B) : n * B + M ≤ 2047 * B := by
  have h := Nat.mul_le_mul_right B hn
  omega
theorem min_rung (n M : Nat) (hn : n ≤ 1974) (h2 : M < 2 * B) : min (n * B + M) (2047 * B) = n * B + M := Nat.min_eq_left (rung_le n M hn h2)

/-- a number that is normal when its last digits are struck -/
theorem write_norm (s : Bool) (M j : Nat) (q p : Int) (hp : p = q - j) (hM : B ≤ M) (h2 : M < 2 * B) (hq : -1074 ≤ q) (hq2 : q ≤ 900) : Ieee.double.write (.number s (M * 2 ^ j) p) = wd s M q := by
  subst hp
  have hpos : M * 2 ^ j ≠ 0 := Nat.ne_of_gt (Nat.mul_pos (Nat.lt_of_lt_of_le B_pos hM) (Nat.two_pow_pos j))
  have hl := log2_mul M j hM h2
  have hfb : Ieee.double.fractionBits = 52 := rfl
  have hlast : max (q - (j : Int) + ((M * 2 ^ j).log2 : Nat) - (Ieee.double.fractionBits : Nat)) Ieee.double.leastPlace = q := by rw [hl, lp_eq, hfb]; omega
  have e1 : (q - (j : Int) - q).toNat = 0 := by omega
  have e2 : (q - (q - (j : Int))).toNat = j := by omega
  have e3 : (q - -1074).toNat = (q + 1074).toNat := by omega
  have hb : (q + 1074).toNat ≤ 1974 := by omega
  rw [Ieee.Format.write, Ieee.Format.nearest, if_neg hpos]
  simp only [hlast]
  rw [e1, e2, Nat.shiftLeft_zero, cut_mul s M j hM h2, lp_eq, bin_eq, inf_eq, e3, min_rung _ M hb h2, wd]

/-- a small whole number of units -/
theorem write_small (s : Bool) (m k : Nat) (p : Int) (hm : 0 < m) (hM : B ≤ m * 2 ^ k) (h2 : m * 2 ^ k < 2 * B) (hp : -900 ≤ p) (hp2 : p ≤ 800) (hk : k ≤ 52) : Ieee.double.write (.number s m p) = wd s (m * 2 ^ k) (p - k) := by
  have hm0 : m ≠ 0 := by omega
  have hl : m.log2 + k = 52 := by
    have a : (m * 2 ^ k).log2 = 52 := by simpa using log2_mul (m * 2 ^ k) 0 hM h2
    have b := Nat.log2_self_le hm0
    have c := @Nat.lt_log2_self m
    have d : (m * 2 ^ k).log2 = m.log2 + k := by
      refine log2_of ?_ ?_
      · rw [Nat.pow_add]; exact Nat.mul_le_mul_right _ b
      · rw [show m.log2 + k + 1 = m.log2 + 1 + k by omega, Nat.pow_add]; exact Nat.mul_lt_mul_of_pos_right c (Nat.two_pow_pos k)
    omega
  have hfb : Ieee.double.fractionBits = 52 := rfl
  have hlast : max (p + (m.log2 : Nat) - (Ieee.double.fractionBits : Nat)) Ieee.double.leastPlace = p - (k : Int) := by rw [lp_eq, hfb]; omega
  have e1 : (p - (p - (k : Int))).toNat = k := by omega
  have e2 : (p - (k : Int) - p).toNat = 0 := by omega
  have e3 : (p - (k : Int) - -1074).toNat = (p - (k : Int) + 1074).toNat := by omega
  have hb : (p - (k : Int) + 1074).toNat ≤ 1974 := by omega
  rw [Ieee.Format.write, Ieee.Format.nearest, if_neg hm0]
  simp only [hlast]
  rw [e1, e2, cut_zero, Nat.shiftLeft_eq, lp_eq, bin_eq, inf_eq, e3, min_rung _ _ hb h2, wd]

theorem read_wd (s : Bool) (M : Nat) (q : Int) (hM : B ≤ M) (h2 : M < 2 * B) (hq : -1074 ≤ q) (hq2 : q ≤ 900) : Ieee.double.read (wd s M q) = .number s M q := by
  obtain ⟨n, hn⟩ : ∃ n : Nat, q + 1074 = n := ⟨(q + 1074).toNat, by omega⟩
  have hn2 : n ≤ 1974 := by omega
  have e : (q + 1074).toNat = n := by omega
  have hr := rung_le n M hn2 h2
  have hBp := B_pos
  have hlt : n * B + M < 2048 * B := by omega
  have hlow : wd s M q % Ieee.double.signWeight = n * B + M := by
    unfold wd Ieee.Format.word
    rw [e, sw_eq]
    cases s
    · simp only [Bool.false_eq_true, if_false]; exact Nat.mod_eq_of_lt hlt
    · simp only [if_true]; rw [Nat.add_mod_left]; exact Nat.mod_eq_of_lt hlt
  have hneg : (wd s M q / Ieee.double.signWeight % 2 == 1) = s := by
    unfold wd Ieee.Format.word
    rw [e, sw_eq]
    cases s
    · simp only [Bool.false_eq_true, if_false]; rw [Nat.div_eq_of_lt hlt]; rfl
    · simp only [if_true]; rw [Nat.add_div_left _ (by omega), Nat.div_eq_of_lt hlt]; rfl
  have c1 : ¬ (n * B + M < B) := by omega
  have c2 : n * B + M < 2047 * B := by
    have := Nat.mul_le_mul_right B hn2
    omega
  have d0 : n * B + M = (M - B) + B * (n + 1) := by rw [Nat.mul_add, Nat.mul_comm B n, Nat.mul_one]; omega
  have hMB : M - B < B := by omega
  have d1 : (n * B + M) % B = M - B := by rw [d0, Nat.add_mul_mod_self_left]; exact Nat.mod_eq_of_lt hMB
  have d2 : (n * B + M) / B = n + 1 := by rw [d0, Nat.add_mul_div_left _ _ hBp, Nat.div_eq_of_lt hMB]; omega
  have f1 : B + (M - B) = M := by omega
  have f2 : (-1074 : Int) + ((n + 1 - 1 : Nat) : Int) = q := by omega
  simp only [Ieee.Format.read, hlow, hneg, bin_eq, inf_eq]
  rw [if_neg c1, if_pos c2, d1, d2, lp_eq, f1, f2]

/-! ### an odd number below 2^53, as a double, and its half -/
def two : Nat := 4611686018427387904
theorem two_eq : two = wd false B (-51) := by unfold two wd Ieee.Format.word B; decide
def fi (h : Int) : Nat := floatOfInt .f64 h
/-- h/2 as a double -/
def fl (h : Int) : Nat := Ieee.double.write (.number (decide (h < 0)) h.natAbs (-1))

/-- by how many digits a number is moved -/
theorem move (m : Nat) (hm : 0 < m) (h2 : m < 2 * B) : ∃ k, k ≤ 52 ∧ B ≤ m * 2 ^ k ∧ m * 2 ^ k < 2 * B := by
  have hm0 : m ≠ 0 := by omega
  have hl : m.log2 < 53 := (Nat.log2_lt hm0).2 (by unfold B at h2; omega)
  have b := Nat.log2_self_le hm0
  have c := @Nat.lt_log2_self m
  refine ⟨52 - m.log2, by omega, ?_, ?_⟩
  · have h := Nat.mul_le_mul_right (2 ^ (52 - m.log2)) b
    rw [← Nat.pow_add, show m.log2 + (52 - m.log2) = 52 + 0 by omega, pow_B] at h
    simpa using h
  · have h := Nat.mul_lt_mul_of_pos_right c (Nat.two_pow_pos (52 - m.log2))
    rw [← Nat.pow_add, show m.log2 + 1 + (52 - m.log2) = 52 + 1 by omega, pow_B] at h
    omega

/-- what is known of an odd number's words -/
structure Half (h : Int) (s : Bool) (M k : Nat) : Prop where
  hs : s = decide (h < 0)
  hk : k ≤ 52
  hM : M = h.natAbs * 2 ^ k
  lo : B ≤ M
  hi : M < 2 * B
  hfi : fi h = wd s M (-k)
  hfl : fl h = wd s M (-1 - k)
theorem half_of (h : Int) (h0 : h ≠ 0) (hb : h.natAbs < 2 * B) : ∃ s M k, Half h s M k := by
  obtain ⟨k, hk, lo, hi⟩ := move h.natAbs (by omega) hb
  refine ⟨decide (h < 0), h.natAbs * 2 ^ k, k, rfl, hk, rfl, lo, hi, ?_, ?_⟩
  · have := write_small (decide (h < 0)) h.natAbs k 0 (by omega) lo hi (by omega) (by omega) hk
    rw [show (0 : Int) - k = -k by omega] at this
    exact this
  · exact write_small (decide (h < 0)) h.natAbs k (-1) (by omega) lo hi (by omega) (by omega) hk

section
variable {h : Int} {s : Bool} {M k : Nat}
theorem Half.readI (H : Half h s M k) : Ieee.double.read (Va.fi h) = .number s M (-k) := by
  have := H.hk
  rw [H.hfi]; exact read_wd s M _ H.lo H.hi (by omega) (by omega)
theorem Half.readL (H : Half h s M k) : Ieee.double.read (Va.fl h) = .number s M (-1 - k) := by
  have := H.hk
  rw [H.hfl]; exact read_wd s M _ H.lo H.hi (by omega) (by omega)
theorem read_two : Ieee.double.read two = .number false B (-51) := by
  have := B_pos
  rw [two_eq]; exact read_wd false B (-51) (by omega) (by omega) (by omega) (by omega)

end

theorem quot_two (s : Bool) (M : Nat) (P : Int) (lo : B ≤ M) (hi : M < 2 * B) : Datum.quotient 54 (.number s M P) (.number false B (-51)) = some (.number s (M * 2 ^ 3) (P - 4)) := by
  have hBp := B_pos
  have hl : M.log2 = 52 := by simpa using log2_mul M 0 lo hi
  have hlB : B.log2 = 52 := by simpa using log2_mul B 0 (by omega) (by omega)
  have hB0 : B ≠ 0 := by omega
  have h54 : 54 + B.log2 - M.log2 = 54 := by rw [hl, hlB]
  have hsh : M <<< 54 = M * 4 * B := by rw [Nat.shiftLeft_eq, show 54 = 52 + 2 by rfl, pow_B, Nat.mul_comm B, ← Nat.mul_assoc]
  rw [Datum.quotient, if_neg hB0]
  simp only [h54, hsh]
  rw [Nat.mul_div_cancel _ hBp, Nat.mul_mod_left]
  have e1 : 2 * (M * 4) + (0 != 0).toNat = M * 2 ^ 3 := by rw [show (0 != 0) = false by rfl, Bool.toNat_false]; omega
  have e2 : P - -51 - ((54 : Nat) : Int) - 1 = P - 4 := by omega
  have e3 : (s ^^ false) = s := Bool.xor_false s
  rw [e1, e2, e3]

section
variable {h : Int} {s : Bool} {M k : Nat}
/-- float64(h) / 2 -/
theorem div_two (H : Half h s M k) : Ieee.double.div (Va.fi h) two = some (Va.fl h) := by
  have hk := H.hk
  have e := write_norm s M 3 (-1 - (k : Int)) (-(k : Int) - 4) (by omega) H.lo H.hi (by omega) (by omega)
  rw [Ieee.Format.div, H.readI, read_two, H.hfl, ← e]
  exact congrArg (Option.map Ieee.double.write) (quot_two s M (-(k : Int)) H.lo H.hi)

/-- 2 * x of a half -/
theorem mul_two (H : Half h s M k) : Ieee.double.mul two (Va.fl h) = some (Va.fi h) := by
  have hk := H.hk
  have e := write_norm s M 52 (-(k : Int)) (-51 + (-1 - (k : Int))) (by omega) H.lo H.hi (by omega) (by omega)
  have p : Datum.product (.number false B (-51)) (.number s M (-1 - (k : Int))) = some (.number s (M * 2 ^ 52) (-51 + (-1 - (k : Int)))) := by
    rw [Datum.product, Bool.false_xor, Nat.mul_comm B M, show B = 2 ^ 52 from rfl]
  rw [Ieee.Format.mul, H.readL, read_two, p, H.hfi, ← e]
  rfl
theorem natAbs_pos (H : Half h s M k) : 0 < h.natAbs := by
  rcases Nat.eq_zero_or_pos h.natAbs with e | e
  · have h1 := H.hM
    rw [e, Nat.zero_mul] at h1
    have := H.lo
    have := B_pos
    omega
  · exact e
theorem cmp_lt {a b : Int} (h : a < b) : compare a b = .lt := by simp [compare, compareOfLessAndEq, h]
theorem cmp_gt {a b : Int} (h : b < a) : compare a b = .gt := by
  have h1 : ¬ a < b := by omega
  have h2 : ¬ a = b := by omega
  simp [compare, compareOfLessAndEq, h1, h2]
theorem cmp_self (a : Int) : compare a a = .eq := by simp [compare, compareOfLessAndEq]
/-- the number of the word, as a whole number -/
theorem integral_fi (H : Half h s M k) : (Datum.number s M (-(k : Int))).integral .zero = .number s h.natAbs 0 := by
  have hk := H.hk
  have e1 : (-(k : Int)).toNat = 0 := by omega
  have e2 : (- -(k : Int)).toNat = k := by omega
  have hl : M.log2 = 52 := by simpa using log2_mul M 0 H.lo H.hi
  have hg : min k (M.log2 + 2) = k := by rw [hl]; omega
  have hc : Toward.zero.cut s M k = h.natAbs := by
    simp only [Toward.cut, hg, Nat.one_shiftLeft]
    rw [H.hM, Nat.mul_div_cancel _ (Nat.two_pow_pos k)]
    rfl
  simp only [Datum.integral, e1, e2, Nat.shiftLeft_zero, hc]
theorem signed_natAbs (H : Half h s M k) : signed s h.natAbs 0 = h := by
  unfold signed
  rw [H.hs, Nat.shiftLeft_zero]
  by_cases c : h < 0
  · simp [c]; omega
  · simp [c]; omega
theorem trunc_fi (H : Half h s M k) : FloatKind.f64.encode (((FloatKind.f64.decode (Va.fi h))).integral .zero) = Va.fi h := by
  show Ieee.double.write ((Ieee.double.read (Va.fi h)).integral .zero) = Va.fi h
  rw [H.readI, integral_fi H, H.hs]
  rfl
theorem toInt_fi (H : Half h s M k) : (FloatKind.f64.decode (Va.fi h)).toInt .zero = some h := by
  show (Ieee.double.read (Va.fi h)).toInt .zero = some h
  rw [H.readI, Datum.toInt, integral_fi H]
  simp only [signed_natAbs H]
theorem order_self (H : Half h s M k) : Ieee.double.order (Va.fi h) (Va.fi h) = some .eq := by
  rw [Ieee.Format.order, H.readI]
  simp only [Datum.order, cmp_self]

/-- the word of -2^62, of 2^62 -/
def low62 : Nat := 14109777632551763968
def high62 : Nat := 4886405595696988160
theorem low62_eq : low62 = wd true B 10 := by unfold low62 wd Ieee.Format.word Ieee.Format.signWeight B; decide
theorem high62_eq : high62 = wd false B 10 := by unfold high62 wd Ieee.Format.word Ieee.Format.signWeight B; decide
theorem read_low : Ieee.double.read low62 = .number true B 10 := by
  have := B_pos
  rw [low62_eq]; exact read_wd true B 10 (by omega) (by omega) (by omega) (by omega)
theorem read_high : Ieee.double.read high62 = .number false B 10 := by
  have := B_pos
  rw [high62_eq]; exact read_wd false B 10 (by omega) (by omega) (by omega) (by omega)
theorem order_low (H : Half h s M k) : Ieee.double.order (Va.fi h) low62 = some .gt := by
  have hk := H.hk
  have hB := B_pos
  have hi := H.hi
  rw [Ieee.Format.order, H.readI, read_low]
  have e0 : min (-(k : Int)) 10 = -(k : Int) := by omega
  have e1 : (-(k : Int) - -(k : Int)).toNat = 0 := by omega
  have e2 : (10 - -(k : Int)).toNat = k + 10 := by omega
  simp only [Datum.order, e0, e1, e2, signed, Nat.shiftLeft_zero, Nat.shiftLeft_eq, if_true]
  have h2 : 2 * B ≤ B * 2 ^ (k + 10) := by
    have : 2 ^ 1 ≤ 2 ^ (k + 10) := Nat.pow_le_pow_right (by omega) (by omega)
    have := Nat.mul_le_mul_left B this
    omega
  obtain ⟨T, hT⟩ : ∃ T, B * 2 ^ (k + 10) = T := ⟨_, rfl⟩
  rw [hT] at h2 ⊢
  refine congrArg some (cmp_gt ?_)
  cases s <;> simp <;> omega
theorem order_high (H : Half h s M k) : Ieee.double.order (Va.fi h) high62 = some .lt := by
  have hk := H.hk
  have hB := B_pos
  have hi := H.hi
  rw [Ieee.Format.order, H.readI, read_high]
  have e0 : min (-(k : Int)) 10 = -(k : Int) := by omega
  have e1 : (-(k : Int) - -(k : Int)).toNat = 0 := by omega
  have e2 : (10 - -(k : Int)).toNat = k + 10 := by omega
  simp only [Datum.order, e0, e1, e2, signed, Nat.shiftLeft_zero, Nat.shiftLeft_eq]
  have h2 : 2 * B ≤ B * 2 ^ (k + 10) := by
    have : 2 ^ 1 ≤ 2 ^ (k + 10) := Nat.pow_le_pow_right (by omega) (by omega)
    have := Nat.mul_le_mul_left B this
    omega
  obtain ⟨T, hT⟩ : ∃ T, B * 2 ^ (k + 10) = T := ⟨_, rfl⟩
  rw [hT] at h2 ⊢
  refine congrArg some (cmp_lt ?_)
  cases s <;> simp <;> omega
end

end Go.Proofs.YtgjmgneppecfgaaGreatDoor.Va
/-
  THE VALUES: a value of the thin package as data (V); what it is to read it in memory (RV); what it is to be its value of the program (GV).
-/
namespace Go.Proofs.YtgjmgneppecfgaaGreatDoor.Va
open Go.RowKit

/-- a value of the thin package, as data: its kind, twice its number, its text, its list, its keys and their values -/
inductive V where
  | mk (kind half : Int) (text : ByteArray) (list : List V) (keys : List ByteArray) (vals : List V)
def V.kind : V → Int | .mk k _ _ _ _ _ => k
def V.half : V → Int | .mk _ h _ _ _ _ => h
def V.text : V → ByteArray | .mk _ _ t _ _ _ => t
def V.list : V → List V | .mk _ _ _ l _ _ => l
def V.keys : V → List ByteArray | .mk _ _ _ _ k _ => k
def V.vals : V → List V | .mk _ _ _ _ _ v => v

mutual
def V.size : V → Nat
  | .mk _ _ _ l _ vs => 1 + sizeL l + sizeL vs
def sizeL : List V → Nat
  | [] => 0
  | x :: xs => x.size + sizeL xs
end
theorem size_mem {l : List V} {x : V} (h : x ∈ l) : x.size ≤ sizeL l := by
  induction l with
  | nil => cases h
  | cons y ys ih =>
    rw [sizeL]
    rcases List.mem_cons.1 h with rfl | h
    · omega
    · have := ih h; omega
theorem size_pos (x : V) : 1 ≤ x.size := by cases x; rw [V.size]; omega
theorem length_le (l : List V) : l.length ≤ sizeL l := by
  induction l with
  | nil => simp
  | cons y ys ih => rw [sizeL, List.length_cons]; have := size_pos y; omega

/-! ### reading a list of texts, values, lists of values: every cell that is read lies in a block of S -/
def RK (w : World) (S : Nat → Prop) : List ByteArray → Option Addr → Prop
  | [], _ => True
  | t :: ts, a => ∃ b o, a = some ⟨b, o, none⟩ ∧ S b ∧ w.cell? ⟨b, o, none⟩ = some (.string t) ∧ RK w S ts (some ⟨b, o + 1, none⟩)
/-- the six cells of a value at a place -/
def Six (w : World) (b o : Nat) (c0 c1 c2 c3 c4 c5 : Value) : Prop :=
  w.cell? ⟨b, o, none⟩ = some c0 ∧ w.cell? ⟨b, o + 1, none⟩ = some c1 ∧ w.cell? ⟨b, o + 2, none⟩ = some c2 ∧ w.cell? ⟨b, o + 3, none⟩ = some c3 ∧ w.cell? ⟨b, o + 4, none⟩ = some c4 ∧ w.cell? ⟨b, o + 5, none⟩ = some c5
mutual
def RV (w : World) (S : Nat → Prop) : V → Value → Prop
  | .mk k h t ls ks vs, v => ∃ la lc ka kc va vc, v = .agg #[.int .i64 k, .int .i64 h, .string t, .slice la ls.length lc, .slice ka ks.length kc, .slice va vs.length vc] ∧ RL w S ls la ∧ RK w S ks ka ∧ RL w S vs va
def RL (w : World) (S : Nat → Prop) : List V → Option Addr → Prop
  | [], _ => True
  | x :: xs, a => ∃ b o c0 c1 c2 c3 c4 c5, a = some ⟨b, o, none⟩ ∧ S b ∧ Six w b o c0 c1 c2 c3 c4 c5 ∧ RV w S x (.agg #[c0, c1, c2, c3, c4, c5]) ∧ RL w S xs (some ⟨b, o + 6, none⟩)
end

/-- a world in which the blocks of S are as they were -/
def Same (S : Nat → Prop) (w w' : World) : Prop := ∀ b, S b → w'.heap[b]? = w.heap[b]?
theorem Same.cell {S : Nat → Prop} {w w' : World} (h : Same S w w') {b o : Nat} (hb : S b) : w'.cell? ⟨b, o, none⟩ = w.cell? ⟨b, o, none⟩ := World.cell?_of_block (w := w) (h b hb)
theorem Same.of_below {w w' : World} {B : Nat} (h : Below B w w') {S : Nat → Prop} (hS : ∀ b, S b → b < B) : Same S w w' := fun b hb => h.block b (hS b hb)
theorem Same.trans {S : Nat → Prop} {a b c : World} (h : Same S a b) (k : Same S b c) : Same S a c := fun x hx => (k x hx).trans (h x hx)
theorem Same.mono {S T : Nat → Prop} {a b : World} (h : Same S a b) (hT : ∀ x, T x → S x) : Same T a b := fun x hx => h x (hT x hx)

theorem RK.mono {w w' : World} {S T : Nat → Prop} (h : Same S w w') (hT : ∀ b, S b → T b) : ∀ l a, RK w S l a → RK w' T l a
  | [], _, _ => trivial
  | t :: ts, a, ⟨b, o, ha, hb, hc, hr⟩ => ⟨b, o, ha, hT b hb, (h.cell hb).trans hc, RK.mono h hT ts _ hr⟩
theorem Six.mono {w w' : World} {S : Nat → Prop} (h : Same S w w') {b o : Nat} (hb : S b) {c0 c1 c2 c3 c4 c5 : Value} (k : Six w b o c0 c1 c2 c3 c4 c5) : Six w' b o c0 c1 c2 c3 c4 c5 := by
  obtain ⟨k0, k1, k2, k3, k4, k5⟩ := k
  exact ⟨(h.cell hb).trans k0, (h.cell hb).trans k1, (h.cell hb).trans k2, (h.cell hb).trans k3, (h.cell hb).trans k4, (h.cell hb).trans k5⟩
mutual
theorem RV.mono {w w' : World} {S T : Nat → Prop} (h : Same S w w') (hT : ∀ b, S b → T b) : ∀ x v, RV w S x v → RV w' T x v
  | .mk k hh t ls ks vs, v, hv => by
    rw [RV] at hv ⊢
    obtain ⟨la, lc, ka, kc, va, vc, e, h1, h2, h3⟩ := hv
    exact ⟨la, lc, ka, kc, va, vc, e, RL.mono h hT ls la h1, RK.mono h hT ks ka h2, RL.mono h hT vs va h3⟩
theorem RL.mono {w w' : World} {S T : Nat → Prop} (h : Same S w w') (hT : ∀ b, S b → T b) : ∀ l a, RL w S l a → RL w' T l a
  | [], a, _ => by rw [RL]; trivial
  | x :: xs, a, hl => by
    rw [RL] at hl ⊢
    obtain ⟨b, o, c0, c1, c2, c3, c4, c5, ha, hb, h6, hx, hr⟩ := hl
    exact ⟨b, o, c0, c1, c2, c3, c4, c5, ha, hT b hb, Six.mono h hb h6, RV.mono h hT x _ hx, RL.mono h hT xs _ hr⟩
end

/-- the element at a place of a list -/
theorem RL.at {w : World} {S : Nat → Prop} : ∀ (l : List V) (b o : Nat), RL w S l (some ⟨b, o, none⟩) → ∀ i (hi : i < l.length), S b ∧ ∃ c0 c1 c2 c3 c4 c5, Six w b (o + i * 6) c0 c1 c2 c3 c4 c5 ∧ RV w S l[i] (.agg #[c0, c1, c2, c3, c4, c5])
  | [], b, o, _, i, hi => by simp at hi
  | x :: xs, b, o, hl, i, hi => by
    rw [RL] at hl
    obtain ⟨b', o', c0, c1, c2, c3, c4, c5, ha, hb, h6, hx, hr⟩ := hl
    simp only [Option.some.injEq, Addr.mk.injEq, and_true] at ha
    obtain ⟨rfl, rfl⟩ := ha
    cases i with
    | zero => exact ⟨hb, c0, c1, c2, c3, c4, c5, by simpa using h6, hx⟩
    | succ i =>
      obtain ⟨_, d0, d1, d2, d3, d4, d5, k6, kx⟩ := RL.at xs b (o + 6) hr i (by simpa using hi)
      exact ⟨hb, d0, d1, d2, d3, d4, d5, by rw [show o + (i + 1) * 6 = o + 6 + i * 6 by omega]; exact k6, kx⟩
theorem RL.addr {w : World} {S : Nat → Prop} {l : List V} {a : Option Addr} (h : RL w S l a) (hl : 0 < l.length) : ∃ b o, a = some ⟨b, o, none⟩ := by
  cases l with
  | nil => simp at hl
  | cons x xs =>
    rw [RL] at h
    obtain ⟨b, o, _, _, _, _, _, _, ha, _⟩ := h
    exact ⟨b, o, ha⟩
theorem RK.at {w : World} {S : Nat → Prop} : ∀ (l : List ByteArray) (b o : Nat), RK w S l (some ⟨b, o, none⟩) → ∀ i (hi : i < l.length), S b ∧ w.cell? ⟨b, o + i, none⟩ = some (.string l[i])
  | [], b, o, _, i, hi => by simp at hi
  | x :: xs, b, o, ⟨b', o', ha, hb, hc, hr⟩, i, hi => by
    simp only [Option.some.injEq, Addr.mk.injEq, and_true] at ha
    obtain ⟨rfl, rfl⟩ := ha
    cases i with
    | zero => exact ⟨hb, by simpa using hc⟩
    | succ i =>
      obtain ⟨_, k⟩ := RK.at xs b (o + 1) hr i (by simpa using hi)
      exact ⟨hb, by rw [show o + (i + 1) = o + 1 + i by omega]; exact k⟩
theorem RK.addr {w : World} {S : Nat → Prop} {l : List ByteArray} {a : Option Addr} (h : RK w S l a) (hl : 0 < l.length) : ∃ b o, a = some ⟨b, o, none⟩ := by
  cases l with
  | nil => simp at hl
  | cons x xs => obtain ⟨b, o, ha, _⟩ := h; exact ⟨b, o, ha⟩

/-! ### the values of the program -/
/-- a number: an int, or (a half) a float64 -/
def gnum (h : Int) : Value := if h % 2 = 0 then .iface 3 (.int .i64 (h / 2)) else .iface 65 (.float .f64 (fl h))
mutual
/-- g is the program's value of x; every block that it leads to is one of S -/
def GV (w : World) (S : Nat → Prop) : V → Value → Prop
  | .mk k h t ls ks vs, g =>
    (k = 0 ∧ g = .nilIface) ∨ (k = 1 ∧ g = .iface 4 (.bool false)) ∨ (k = 2 ∧ g = .iface 4 (.bool true)) ∨ (k = 3 ∧ g = gnum h) ∨ (k = 4 ∧ g = .iface 9 (.string t)) ∨
    (k = 5 ∧ ∃ a c, g = .iface 60 (.slice a ls.length c) ∧ GL w S ls a) ∨
    (k = 6 ∧ ∃ r es clock, g = .iface 106 (.map (some r)) ∧ S r ∧ w.heap[r]? = some (.map es clock) ∧ MapKept.Stamped es clock ∧ GM w S vs ks es.toList)
def GL (w : World) (S : Nat → Prop) : List V → Option Addr → Prop
  | [], _ => True
  | x :: xs, a => ∃ b o g, a = some ⟨b, o, none⟩ ∧ S b ∧ w.cell? ⟨b, o, none⟩ = some g ∧ GV w S x g ∧ GL w S xs (some ⟨b, o + 1, none⟩)
def GM (w : World) (S : Nat → Prop) : List V → List ByteArray → List MapEntry → Prop
  | [], ks, es => ks = [] ∧ es = []
  | x :: xs, ks, es => ∃ k ks' e es', ks = k :: ks' ∧ es = e :: es' ∧ e.key = .string k ∧ GV w S x e.val ∧ GM w S xs ks' es'
end

mutual
theorem GV.mono {w w' : World} {S T : Nat → Prop} (h : Same S w w') (hT : ∀ b, S b → T b) : ∀ x g, GV w S x g → GV w' T x g
  | .mk k hh t ls ks vs, g, hg => by
    rw [GV] at hg ⊢
    rcases hg with q | q | q | q | q | ⟨q, a, c, e, hl⟩ | ⟨q, r, es, cl, e, hr, hb, hst, hm⟩
    · exact .inl q
    · exact .inr (.inl q)
    · exact .inr (.inr (.inl q))
    · exact .inr (.inr (.inr (.inl q)))
    · exact .inr (.inr (.inr (.inr (.inl q))))
    · exact .inr (.inr (.inr (.inr (.inr (.inl ⟨q, a, c, e, GL.mono h hT ls a hl⟩)))))
    · exact .inr (.inr (.inr (.inr (.inr (.inr ⟨q, r, es, cl, e, hT r hr, (h r hr).trans hb, hst, GM.mono h hT vs ks es.toList hm⟩)))))
theorem GL.mono {w w' : World} {S T : Nat → Prop} (h : Same S w w') (hT : ∀ b, S b → T b) : ∀ l a, GL w S l a → GL w' T l a
  | [], a, _ => by rw [GL]; trivial
  | x :: xs, a, hl => by
    rw [GL] at hl ⊢
    obtain ⟨b, o, g, ha, hb, hc, hx, hr⟩ := hl
    exact ⟨b, o, g, ha, hT b hb, (h.cell hb).trans hc, GV.mono h hT x _ hx, GL.mono h hT xs _ hr⟩
theorem GM.mono {w w' : World} {S T : Nat → Prop} (h : Same S w w') (hT : ∀ b, S b → T b) : ∀ vs ks es, GM w S vs ks es → GM w' T vs ks es
  | [], ks, es, hm => by rw [GM] at hm ⊢; exact hm
  | x :: xs, ks, es, hm => by
    rw [GM] at hm ⊢
    obtain ⟨k, ks', e, es', h1, h2, h3, hx, hr⟩ := hm
    exact ⟨k, ks', e, es', h1, h2, h3, GV.mono h hT x _ hx, GM.mono h hT xs _ _ hr⟩
end

/-- what is read lies in blocks that are there -/
theorem cell_lt {w : World} {b o : Nat} {v : Value} (h : w.cell? ⟨b, o, none⟩ = some v) : b < w.heap.size := by
  rcases Nat.lt_or_ge b w.heap.size with h' | h'
  · exact h'
  · simp [World.cell?, Array.getElem?_eq_none h'] at h
theorem heap_lt {w : World} {b : Nat} {v : Obj} (h : w.heap[b]? = some v) : b < w.heap.size := by
  rcases Nat.lt_or_ge b w.heap.size with h' | h'
  · exact h'
  · rw [Array.getElem?_eq_none h'] at h; cases h
mutual
theorem GV.lt {w : World} {S : Nat → Prop} : ∀ x g, GV w S x g → GV w (fun b => S b ∧ b < w.heap.size) x g
  | .mk k hh t ls ks vs, g, hg => by
    rw [GV] at hg ⊢
    rcases hg with q | q | q | q | q | ⟨q, a, c, e, hl⟩ | ⟨q, r, es, cl, e, hr, hb, hst, hm⟩
    · exact .inl q
    · exact .inr (.inl q)
    · exact .inr (.inr (.inl q))
    · exact .inr (.inr (.inr (.inl q)))
    · exact .inr (.inr (.inr (.inr (.inl q))))
    · exact .inr (.inr (.inr (.inr (.inr (.inl ⟨q, a, c, e, GL.lt ls a hl⟩)))))
    · exact .inr (.inr (.inr (.inr (.inr (.inr ⟨q, r, es, cl, e, ⟨hr, heap_lt hb⟩, hb, hst, GM.lt vs ks es.toList hm⟩)))))
theorem GL.lt {w : World} {S : Nat → Prop} : ∀ l a, GL w S l a → GL w (fun b => S b ∧ b < w.heap.size) l a
  | [], a, _ => by rw [GL]; trivial
  | x :: xs, a, hl => by
    rw [GL] at hl ⊢
    obtain ⟨b, o, g, ha, hb, hc, hx, hr⟩ := hl
    exact ⟨b, o, g, ha, ⟨hb, cell_lt hc⟩, hc, GV.lt x _ hx, GL.lt xs _ hr⟩
theorem GM.lt {w : World} {S : Nat → Prop} : ∀ vs ks es, GM w S vs ks es → GM w (fun b => S b ∧ b < w.heap.size) vs ks es
  | [], ks, es, hm => by rw [GM] at hm ⊢; exact hm
  | x :: xs, ks, es, hm => by
    rw [GM] at hm ⊢
    obtain ⟨k, ks', e, es', h1, h2, h3, hx, hr⟩ := hm
    exact ⟨k, ks', e, es', h1, h2, h3, GV.lt x _ hx, GM.lt xs _ _ hr⟩
end
theorem RK.lt {w : World} {S : Nat → Prop} : ∀ l a, RK w S l a → RK w (fun b => S b ∧ b < w.heap.size) l a
  | [], _, _ => trivial
  | t :: ts, a, ⟨b, o, ha, hb, hc, hr⟩ => ⟨b, o, ha, ⟨hb, cell_lt hc⟩, hc, RK.lt ts _ hr⟩
mutual
theorem RV.lt {w : World} {S : Nat → Prop} : ∀ x v, RV w S x v → RV w (fun b => S b ∧ b < w.heap.size) x v
  | .mk k hh t ls ks vs, v, hv => by
    rw [RV] at hv ⊢
    obtain ⟨la, lc, ka, kc, va, vc, e, h1, h2, h3⟩ := hv
    exact ⟨la, lc, ka, kc, va, vc, e, RL.lt ls la h1, RK.lt ks ka h2, RL.lt vs va h3⟩
theorem RL.lt {w : World} {S : Nat → Prop} : ∀ l a, RL w S l a → RL w (fun b => S b ∧ b < w.heap.size) l a
  | [], a, _ => by rw [RL]; trivial
  | x :: xs, a, hl => by
    rw [RL] at hl ⊢
    obtain ⟨b, o, c0, c1, c2, c3, c4, c5, ha, hb, h6, hx, hr⟩ := hl
    exact ⟨b, o, c0, c1, c2, c3, c4, c5, ha, ⟨hb, cell_lt h6.1⟩, h6, RV.lt x _ hx, RL.lt xs _ hr⟩
end

theorem GL.at {w : World} {S : Nat → Prop} : ∀ (l : List V) (b o : Nat), GL w S l (some ⟨b, o, none⟩) → ∀ i (hi : i < l.length), S b ∧ ∃ g, w.cell? ⟨b, o + i, none⟩ = some g ∧ GV w S l[i] g
  | [], b, o, _, i, hi => by simp at hi
  | x :: xs, b, o, hl, i, hi => by
    rw [GL] at hl
    obtain ⟨b', o', g, ha, hb, hc, hx, hr⟩ := hl
    simp only [Option.some.injEq, Addr.mk.injEq, and_true] at ha
    obtain ⟨rfl, rfl⟩ := ha
    cases i with
    | zero => exact ⟨hb, g, by simpa using hc, hx⟩
    | succ i =>
      obtain ⟨_, d, kc, kx⟩ := GL.at xs b (o + 1) hr i (by simpa using hi)
      exact ⟨hb, d, by rw [show o + (i + 1) = o + 1 + i by omega]; exact kc, kx⟩
theorem GL.addr {w : World} {S : Nat → Prop} {l : List V} {a : Option Addr} (h : GL w S l a) (hl : 0 < l.length) : ∃ b o, a = some ⟨b, o, none⟩ := by
  cases l with
  | nil => simp at hl
  | cons x xs =>
    rw [GL] at h
    obtain ⟨b, o, _, ha, _⟩ := h
    exact ⟨b, o, ha⟩
/-- a list out of its elements -/
theorem GL.of {w : World} {S : Nat → Prop} : ∀ (l : List V) (b o : Nat), (0 < l.length → S b) → (∀ i (hi : i < l.length), ∃ g, w.cell? ⟨b, o + i, none⟩ = some g ∧ GV w S l[i] g) → GL w S l (some ⟨b, o, none⟩)
  | [], b, o, _, _ => by rw [GL]; trivial
  | x :: xs, b, o, hS, h => by
    rw [GL]
    obtain ⟨g, hc, hx⟩ := h 0 (by simp)
    exact ⟨b, o, g, rfl, hS (by simp), hc, hx, GL.of xs b (o + 1) (fun _ => hS (by simp)) fun i hi => by
      obtain ⟨d, kc, kx⟩ := h (i + 1) (by simpa using hi)
      exact ⟨d, by rw [show o + 1 + i = o + (i + 1) by omega]; exact kc, kx⟩⟩
theorem RL.of {w : World} {S : Nat → Prop} : ∀ (l : List V) (b o : Nat), (0 < l.length → S b) → (∀ i (hi : i < l.length), ∃ c0 c1 c2 c3 c4 c5, Six w b (o + i * 6) c0 c1 c2 c3 c4 c5 ∧ RV w S l[i] (.agg #[c0, c1, c2, c3, c4, c5])) → RL w S l (some ⟨b, o, none⟩)
  | [], b, o, _, _ => by rw [RL]; trivial
  | x :: xs, b, o, hS, h => by
    rw [RL]
    obtain ⟨c0, c1, c2, c3, c4, c5, h6, hx⟩ := h 0 (by simp)
    exact ⟨b, o, c0, c1, c2, c3, c4, c5, rfl, hS (by simp), by simpa using h6, hx, RL.of xs b (o + 6) (fun _ => hS (by simp)) fun i hi => by
      obtain ⟨d0, d1, d2, d3, d4, d5, k6, kx⟩ := h (i + 1) (by simpa using hi)
      exact ⟨d0, d1, d2, d3, d4, d5, by rw [show o + 6 + i * 6 = o + (i + 1) * 6 by omega]; exact k6, kx⟩⟩

/-! ### the values that are right -/
/-- two texts in their order -/
def Rising : List ByteArray → Prop
  | a :: b :: r => Op.bytesLess a.data.toList b.data.toList = true ∧ Rising (b :: r)
  | _ => True
structure Good1 (k h : Int) (t : ByteArray) (ls : List V) (ks : List ByteArray) (vs : List V) : Prop where
  k0 : 0 ≤ k
  k6 : k ≤ 6
  num : k = 3 ∨ h = 0
  txt : k = 4 ∨ t.size = 0
  lst : k = 5 ∨ ls.length = 0
  map : k = 6 ∨ ks.length = 0
  len : ks.length = vs.length
  lo : -18014398509481984 ≤ h
  hi : h ≤ 18014398509481984
  odd : h % 2 = 0 ∨ (-9007199254740992 < h ∧ h < 9007199254740992)
  tb : t.size ≤ 2147483647
  kb : ∀ s ∈ ks, s.size ≤ 2147483647
  tv : Lib.validD t.data.toList = true
  kv : ∀ s ∈ ks, Lib.validD s.data.toList = true
mutual
def Good : V → Prop
  | .mk k h t ls ks vs => Good1 k h t ls ks vs ∧ GoodL ls ∧ Rising ks ∧ GoodL vs
def GoodL : List V → Prop
  | [] => True
  | x :: xs => Good x ∧ GoodL xs
end
theorem GoodL.mem {l : List V} (h : GoodL l) : ∀ x ∈ l, Good x := by
  induction l with
  | nil => intro x hx; cases hx
  | cons y ys ih =>
    intro x hx
    rw [GoodL] at h
    rcases List.mem_cons.1 hx with rfl | hx
    · exact h.1
    · exact ih h.2 x hx

end Go.Proofs.YtgjmgneppecfgaaGreatDoor.Va
/-
  TYPE ASSERTIONS on the values of the program: what each gives, by the dynamic type.
-/
namespace Go.Proofs.YtgjmgneppecfgaaGreatDoor.Ta
@[go_sem] theorem ta_bool_bool (v : Value) (w : World) : (Instr.typeAssert (.iface 4 v) 20 4 true).run Tryz.prog w = .ok (.tuple #[v, .bool true]) w := by kernel_rfl
@[go_sem] theorem ta_bool_int (v : Value) (w : World) : (Instr.typeAssert (.iface 4 v) 20 3 true).run Tryz.prog w = .ok (.tuple #[.int .i64 0, .bool false]) w := by kernel_rfl
@[go_sem] theorem ta_bool_float (v : Value) (w : World) : (Instr.typeAssert (.iface 4 v) 20 65 true).run Tryz.prog w = .ok (.tuple #[.float .f64 0, .bool false]) w := by kernel_rfl
@[go_sem] theorem ta_bool_string (v : Value) (w : World) : (Instr.typeAssert (.iface 4 v) 20 9 true).run Tryz.prog w = .ok (.tuple #[.string ⟨#[]⟩, .bool false]) w := by kernel_rfl
@[go_sem] theorem ta_bool_list (v : Value) (w : World) : (Instr.typeAssert (.iface 4 v) 20 60 true).run Tryz.prog w = .ok (.tuple #[.slice none 0 0, .bool false]) w := by kernel_rfl
@[go_sem] theorem ta_bool_map (v : Value) (w : World) : (Instr.typeAssert (.iface 4 v) 20 106 true).run Tryz.prog w = .ok (.tuple #[.map none, .bool false]) w := by kernel_rfl
@[go_sem] theorem ta_bool_big (v : Value) (w : World) : (Instr.typeAssert (.iface 4 v) 20 158 true).run Tryz.prog w = .ok (.tuple #[.pointer none, .bool false]) w := by kernel_rfl
@[go_sem] theorem ta_bool_num (v : Value) (w : World) : (Instr.typeAssert (.iface 4 v) 20 160 true).run Tryz.prog w = .ok (.tuple #[.string ⟨#[]⟩, .bool false]) w := by kernel_rfl
theorem lacks_bool (v : Value) (w : World) : (Instr.typeAssert (.iface 4 v) 20 75 true).run Tryz.prog w = .ok (.tuple #[.nilIface, .bool false]) w := run_typeAssert_lacksB Tryz.underlying75 (by kernel_rfl) (by kernel_rfl) v 20 w
attribute [go_sem] lacks_bool
@[go_sem] theorem ta_int_bool (v : Value) (w : World) : (Instr.typeAssert (.iface 3 v) 20 4 true).run Tryz.prog w = .ok (.tuple #[.bool false, .bool false]) w := by kernel_rfl
@[go_sem] theorem ta_int_int (v : Value) (w : World) : (Instr.typeAssert (.iface 3 v) 20 3 true).run Tryz.prog w = .ok (.tuple #[v, .bool true]) w := by kernel_rfl
@[go_sem] theorem ta_int_float (v : Value) (w : World) : (Instr.typeAssert (.iface 3 v) 20 65 true).run Tryz.prog w = .ok (.tuple #[.float .f64 0, .bool false]) w := by kernel_rfl
@[go_sem] theorem ta_int_string (v : Value) (w : World) : (Instr.typeAssert (.iface 3 v) 20 9 true).run Tryz.prog w = .ok (.tuple #[.string ⟨#[]⟩, .bool false]) w := by kernel_rfl
@[go_sem] theorem ta_int_list (v : Value) (w : World) : (Instr.typeAssert (.iface 3 v) 20 60 true).run Tryz.prog w = .ok (.tuple #[.slice none 0 0, .bool false]) w := by kernel_rfl
@[go_sem] theorem ta_int_map (v : Value) (w : World) : (Instr.typeAssert (.iface 3 v) 20 106 true).run Tryz.prog w = .ok (.tuple #[.map none, .bool false]) w := by kernel_rfl
@[go_sem] theorem ta_int_big (v : Value) (w : World) : (Instr.typeAssert (.iface 3 v) 20 158 true).run Tryz.prog w = .ok (.tuple #[.pointer none, .bool false]) w := by kernel_rfl
@[go_sem] theorem ta_int_num (v : Value) (w : World) : (Instr.typeAssert (.iface 3 v) 20 160 true).run Tryz.prog w = .ok (.tuple #[.string ⟨#[]⟩, .bool false]) w := by kernel_rfl
theorem lacks_int (v : Value) (w : World) : (Instr.typeAssert (.iface 3 v) 20 75 true).run Tryz.prog w = .ok (.tuple #[.nilIface, .bool false]) w := run_typeAssert_lacksB Tryz.underlying75 (by kernel_rfl) (by kernel_rfl) v 20 w
attribute [go_sem] lacks_int
@[go_sem] theorem ta_float_bool (v : Value) (w : World) : (Instr.typeAssert (.iface 65 v) 20 4 true).run Tryz.prog w = .ok (.tuple #[.bool false, .bool false]) w := by kernel_rfl
@[go_sem] theorem ta_float_int (v : Value) (w : World) : (Instr.typeAssert (.iface 65 v) 20 3 true).run Tryz.prog w = .ok (.tuple #[.int .i64 0, .bool false]) w := by kernel_rfl
@[go_sem] theorem ta_float_float (v : Value) (w : World) : (Instr.typeAssert (.iface 65 v) 20 65 true).run Tryz.prog w = .ok (.tuple #[v, .bool true]) w := by kernel_rfl
@[go_sem] theorem ta_float_string (v : Value) (w : World) : (Instr.typeAssert (.iface 65 v) 20 9 true).run Tryz.prog w = .ok (.tuple #[.string ⟨#[]⟩, .bool false]) w := by kernel_rfl
@[go_sem] theorem ta_float_list (v : Value) (w : World) : (Instr.typeAssert (.iface 65 v) 20 60 true).run Tryz.prog w = .ok (.tuple #[.slice none 0 0, .bool false]) w := by kernel_rfl
@[go_sem] theorem ta_float_map (v : Value) (w : World) : (Instr.typeAssert (.iface 65 v) 20 106 true).run Tryz.prog w = .ok (.tuple #[.map none, .bool false]) w := by kernel_rfl
@[go_sem] theorem ta_float_big (v : Value) (w : World) : (Instr.typeAssert (.iface 65 v) 20 158 true).run Tryz.prog w = .ok (.tuple #[.pointer none, .bool false]) w := by kernel_rfl
@[go_sem] theorem ta_float_num (v : Value) (w : World) : (Instr.typeAssert (.iface 65 v) 20 160 true).run Tryz.prog w = .ok (.tuple #[.string ⟨#[]⟩, .bool false]) w := by kernel_rfl
theorem lacks_float (v : Value) (w : World) : (Instr.typeAssert (.iface 65 v) 20 75 true).run Tryz.prog w = .ok (.tuple #[.nilIface, .bool false]) w := run_typeAssert_lacksB Tryz.underlying75 (by kernel_rfl) (by kernel_rfl) v 20 w
attribute [go_sem] lacks_float
@[go_sem] theorem ta_string_bool (v : Value) (w : World) : (Instr.typeAssert (.iface 9 v) 20 4 true).run Tryz.prog w = .ok (.tuple #[.bool false, .bool false]) w := by kernel_rfl
@[go_sem] theorem ta_string_int (v : Value) (w : World) : (Instr.typeAssert (.iface 9 v) 20 3 true).run Tryz.prog w = .ok (.tuple #[.int .i64 0, .bool false]) w := by kernel_rfl
@[go_sem] theorem ta_string_float (v : Value) (w : World) : (Instr.typeAssert (.iface 9 v) 20 65 true).run Tryz.prog w = .ok (.tuple #[.float .f64 0, .bool false]) w := by kernel_rfl
@[go_sem] theorem ta_string_string (v : Value) (w : World) : (Instr.typeAssert (.iface 9 v) 20 9 true).run Tryz.prog w = .ok (.tuple #[v, .bool true]) w := by kernel_rfl
@[go_sem] theorem ta_string_list (v : Value) (w : World) : (Instr.typeAssert (.iface 9 v) 20 60 true).run Tryz.prog w = .ok (.tuple #[.slice none 0 0, .bool false]) w := by kernel_rfl
@[go_sem] theorem ta_string_map (v : Value) (w : World) : (Instr.typeAssert (.iface 9 v) 20 106 true).run Tryz.prog w = .ok (.tuple #[.map none, .bool false]) w := by kernel_rfl
@[go_sem] theorem ta_string_big (v : Value) (w : World) : (Instr.typeAssert (.iface 9 v) 20 158 true).run Tryz.prog w = .ok (.tuple #[.pointer none, .bool false]) w := by kernel_rfl
@[go_sem] theorem ta_string_num (v : Value) (w : World) : (Instr.typeAssert (.iface 9 v) 20 160 true).run Tryz.prog w = .ok (.tuple #[.string ⟨#[]⟩, .bool false]) w := by kernel_rfl
theorem lacks_string (v : Value) (w : World) : (Instr.typeAssert (.iface 9 v) 20 75 true).run Tryz.prog w = .ok (.tuple #[.nilIface, .bool false]) w := run_typeAssert_lacksB Tryz.underlying75 (by kernel_rfl) (by kernel_rfl) v 20 w
attribute [go_sem] lacks_string
@[go_sem] theorem ta_list_bool (v : Value) (w : World) : (Instr.typeAssert (.iface 60 v) 20 4 true).run Tryz.prog w = .ok (.tuple #[.bool false, .bool false]) w := by kernel_rfl
@[go_sem] theorem ta_list_int (v : Value) (w : World) : (Instr.typeAssert (.iface 60 v) 20 3 true).run Tryz.prog w = .ok (.tuple #[.int .i64 0, .bool false]) w := by kernel_rfl
@[go_sem] theorem ta_list_float (v : Value) (w : World) : (Instr.typeAssert (.iface 60 v) 20 65 true).run Tryz.prog w = .ok (.tuple #[.float .f64 0, .bool false]) w := by kernel_rfl
@[go_sem] theorem ta_list_string (v : Value) (w : World) : (Instr.typeAssert (.iface 60 v) 20 9 true).run Tryz.prog w = .ok (.tuple #[.string ⟨#[]⟩, .bool false]) w := by kernel_rfl
@[go_sem] theorem ta_list_list (v : Value) (w : World) : (Instr.typeAssert (.iface 60 v) 20 60 true).run Tryz.prog w = .ok (.tuple #[v, .bool true]) w := by kernel_rfl
@[go_sem] theorem ta_list_map (v : Value) (w : World) : (Instr.typeAssert (.iface 60 v) 20 106 true).run Tryz.prog w = .ok (.tuple #[.map none, .bool false]) w := by kernel_rfl
@[go_sem] theorem ta_list_big (v : Value) (w : World) : (Instr.typeAssert (.iface 60 v) 20 158 true).run Tryz.prog w = .ok (.tuple #[.pointer none, .bool false]) w := by kernel_rfl
@[go_sem] theorem ta_list_num (v : Value) (w : World) : (Instr.typeAssert (.iface 60 v) 20 160 true).run Tryz.prog w = .ok (.tuple #[.string ⟨#[]⟩, .bool false]) w := by kernel_rfl
theorem lacks_list (v : Value) (w : World) : (Instr.typeAssert (.iface 60 v) 20 75 true).run Tryz.prog w = .ok (.tuple #[.nilIface, .bool false]) w := run_typeAssert_lacksB Tryz.underlying75 (by kernel_rfl) (by kernel_rfl) v 20 w
attribute [go_sem] lacks_list
@[go_sem] theorem ta_map_bool (v : Value) (w : World) : (Instr.typeAssert (.iface 106 v) 20 4 true).run Tryz.prog w = .ok (.tuple #[.bool false, .bool false]) w := by kernel_rfl
@[go_sem] theorem ta_map_int (v : Value) (w : World) : (Instr.typeAssert (.iface 106 v) 20 3 true).run Tryz.prog w = .ok (.tuple #[.int .i64 0, .bool false]) w := by kernel_rfl
@[go_sem] theorem ta_map_float (v : Value) (w : World) : (Instr.typeAssert (.iface 106 v) 20 65 true).run Tryz.prog w = .ok (.tuple #[.float .f64 0, .bool false]) w := by kernel_rfl
@[go_sem] theorem ta_map_string (v : Value) (w : World) : (Instr.typeAssert (.iface 106 v) 20 9 true).run Tryz.prog w = .ok (.tuple #[.string ⟨#[]⟩, .bool false]) w := by kernel_rfl
@[go_sem] theorem ta_map_list (v : Value) (w : World) : (Instr.typeAssert (.iface 106 v) 20 60 true).run Tryz.prog w = .ok (.tuple #[.slice none 0 0, .bool false]) w := by kernel_rfl
@[go_sem] theorem ta_map_map (v : Value) (w : World) : (Instr.typeAssert (.iface 106 v) 20 106 true).run Tryz.prog w = .ok (.tuple #[v, .bool true]) w := by kernel_rfl
@[go_sem] theorem ta_map_big (v : Value) (w : World) : (Instr.typeAssert (.iface 106 v) 20 158 true).run Tryz.prog w = .ok (.tuple #[.pointer none, .bool false]) w := by kernel_rfl
@[go_sem] theorem ta_map_num (v : Value) (w : World) : (Instr.typeAssert (.iface 106 v) 20 160 true).run Tryz.prog w = .ok (.tuple #[.string ⟨#[]⟩, .bool false]) w := by kernel_rfl
theorem lacks_map (v : Value) (w : World) : (Instr.typeAssert (.iface 106 v) 20 75 true).run Tryz.prog w = .ok (.tuple #[.nilIface, .bool false]) w := run_typeAssert_lacksB Tryz.underlying75 (by kernel_rfl) (by kernel_rfl) v 20 w
attribute [go_sem] lacks_map
@[go_sem] theorem ta_nil_bool (w : World) : (Instr.typeAssert .nilIface 20 4 true).run Tryz.prog w = .ok (.tuple #[.bool false, .bool false]) w := by kernel_rfl
@[go_sem] theorem ta_nil_int (w : World) : (Instr.typeAssert .nilIface 20 3 true).run Tryz.prog w = .ok (.tuple #[.int .i64 0, .bool false]) w := by kernel_rfl
@[go_sem] theorem ta_nil_float (w : World) : (Instr.typeAssert .nilIface 20 65 true).run Tryz.prog w = .ok (.tuple #[.float .f64 0, .bool false]) w := by kernel_rfl
@[go_sem] theorem ta_nil_string (w : World) : (Instr.typeAssert .nilIface 20 9 true).run Tryz.prog w = .ok (.tuple #[.string ⟨#[]⟩, .bool false]) w := by kernel_rfl
@[go_sem] theorem ta_nil_list (w : World) : (Instr.typeAssert .nilIface 20 60 true).run Tryz.prog w = .ok (.tuple #[.slice none 0 0, .bool false]) w := by kernel_rfl
@[go_sem] theorem ta_nil_map (w : World) : (Instr.typeAssert .nilIface 20 106 true).run Tryz.prog w = .ok (.tuple #[.map none, .bool false]) w := by kernel_rfl
@[go_sem] theorem ta_nil_big (w : World) : (Instr.typeAssert .nilIface 20 158 true).run Tryz.prog w = .ok (.tuple #[.pointer none, .bool false]) w := by kernel_rfl
@[go_sem] theorem ta_nil_num (w : World) : (Instr.typeAssert .nilIface 20 160 true).run Tryz.prog w = .ok (.tuple #[.string ⟨#[]⟩, .bool false]) w := by kernel_rfl
@[go_sem] theorem ta_nil_err (w : World) : (Instr.typeAssert .nilIface 20 75 true).run Tryz.prog w = .ok (.tuple #[.nilIface, .bool false]) w := by kernel_rfl
end Go.Proofs.YtgjmgneppecfgaaGreatDoor.Ta
/-
  THE WALK of toGo at a value that is neither list nor map.
-/
namespace Go.Proofs.YtgjmgneppecfgaaGreatDoor.Va
open Go.RowKit
set_option linter.unusedVariables false
set_option linter.unusedSimpArgs false

/-- what toGo returns -/
def ToGo (x : V) (w : World) (e : Ending) (w' : World) : Prop :=
  ∃ g, e = .returned (.tuple #[g, .bool true]) ∧ GV w' (fun r => w.heap.size ≤ r) x g ∧ Below w.heap.size w w'

section
variable (h : Int) (t : ByteArray) (ls : List V) (ks : List ByteArray) (vs : List V) (la ka va : Option Addr) (n1 lc n2 kc n3 vc : Nat) (w : World)

set_option maxHeartbeats 400000 in
theorem toGo_0 : Calls Tryz.prog 43 #[.agg #[.int .i64 0, .int .i64 h, .string t, .slice la n1 lc, .slice ka n2 kc, .slice va n3 vc]] w (ToGo (.mk 0 h t ls ks vs) w) := by
  go_enter Tryz.func43, Tryz.ntmps43
  go_wp2
  go_returns
  exact ⟨_, rfl, by rw [GV]; exact .inl ⟨rfl, rfl⟩, by go_grown⟩
set_option maxHeartbeats 400000 in
theorem toGo_1 : Calls Tryz.prog 43 #[.agg #[.int .i64 1, .int .i64 h, .string t, .slice la n1 lc, .slice ka n2 kc, .slice va n3 vc]] w (ToGo (.mk 1 h t ls ks vs) w) := by
  go_enter Tryz.func43, Tryz.ntmps43
  go_wp2
  go_returns
  exact ⟨_, rfl, by rw [GV]; exact .inr (.inl ⟨rfl, rfl⟩), by go_grown⟩
set_option maxHeartbeats 400000 in
theorem toGo_2 : Calls Tryz.prog 43 #[.agg #[.int .i64 2, .int .i64 h, .string t, .slice la n1 lc, .slice ka n2 kc, .slice va n3 vc]] w (ToGo (.mk 2 h t ls ks vs) w) := by
  go_enter Tryz.func43, Tryz.ntmps43
  go_wp2
  go_returns
  exact ⟨_, rfl, by rw [GV]; exact .inr (.inr (.inl ⟨rfl, rfl⟩)), by go_grown⟩
set_option maxHeartbeats 400000 in
theorem toGo_4 : Calls Tryz.prog 43 #[.agg #[.int .i64 4, .int .i64 h, .string t, .slice la n1 lc, .slice ka n2 kc, .slice va n3 vc]] w (ToGo (.mk 4 h t ls ks vs) w) := by
  go_enter Tryz.func43, Tryz.ntmps43
  go_wp2
  go_returns
  exact ⟨_, rfl, by rw [GV]; exact .inr (.inr (.inr (.inr (.inl ⟨rfl, rfl⟩)))), by go_grown⟩

theorem tmod_even {h : Int} (he : h % 2 = 0) : h.tmod 2 = 0 := Int.tmod_eq_zero_of_dvd (Int.dvd_of_emod_eq_zero he)
theorem tmod_odd {h : Int} (he : h % 2 ≠ 0) : h.tmod 2 ≠ 0 := fun e => he (Int.emod_eq_zero_of_dvd (Int.dvd_of_tmod_eq_zero e))

set_option maxHeartbeats 400000 in
theorem toGo_3e (hlo : -18014398509481984 ≤ h) (hhi : h ≤ 18014398509481984) (he : h % 2 = 0) : Calls Tryz.prog 43 #[.agg #[.int .i64 3, .int .i64 h, .string t, .slice la n1 lc, .slice ka n2 kc, .slice va n3 vc]] w (ToGo (.mk 3 h t ls ks vs) w) := by
  have e1 := tmod_even he
  have e2 : h.tdiv 2 = h / 2 := Int.tdiv_eq_ediv_of_dvd (Int.dvd_of_emod_eq_zero he)
  have HE := Lib.hid he
  clear he
  have hw : wrap64 (h / 2) = h / 2 := by unfold wrap64; omega
  go_enter Tryz.func43, Tryz.ntmps43
  go_wp2
  go_returns
  refine ⟨_, rfl, ?_, by go_grown⟩
  rw [GV]
  exact .inr (.inr (.inr (.inl ⟨rfl, by rw [gnum, if_pos HE.out]; rfl⟩)))

set_option maxHeartbeats 400000 in
theorem toGo_3o (hlo : -9007199254740992 < h) (hhi : h < 9007199254740992) (he : h % 2 ≠ 0) : Calls Tryz.prog 43 #[.agg #[.int .i64 3, .int .i64 h, .string t, .slice la n1 lc, .slice ka n2 kc, .slice va n3 vc]] w (ToGo (.mk 3 h t ls ks vs) w) := by
  have e1 : (h.tmod 2 == 0) = false := by simpa using tmod_odd he
  obtain ⟨s, M, k, H⟩ := half_of h (by omega) (by unfold B; omega)
  have hq : ∀ w : World, (binOp .quo 65 (.float .f64 (floatOfInt .f64 h)) (.float .f64 4611686018427387904)).run Tryz.prog w = .ok (.float .f64 (fl h)) w := fun w => run_float_arith w .quo 65 .f64 _ _ _ (div_two H)
  have HE := Lib.hid he
  clear he H
  go_enter Tryz.func43, Tryz.ntmps43
  go_wp2
  go_returns
  refine ⟨_, rfl, ?_, by go_grown⟩
  rw [GV]
  exact .inr (.inr (.inr (.inl ⟨rfl, by rw [gnum, if_neg HE.out]; rfl⟩)))
end

end Go.Proofs.YtgjmgneppecfgaaGreatDoor.Va
/-
  THE WALK of listToGo: given that toGo serves each element, the list's value.
-/
namespace Go.Proofs.YtgjmgneppecfgaaGreatDoor.Va
open Go.RowKit
set_option linter.unusedVariables false
set_option linter.unusedSimpArgs false

/-- toGo serves x -/
def TG (x : V) : Prop := ∀ (v : Value) (S : Nat → Prop) (w : World), RV w S x v → (∀ b, S b → b < w.heap.size) → Calls Tryz.prog 43 #[v] w (ToGo x w)

theorem block_new (w : World) (cs : Array Value) (t : TypeId) : (w.alloc (.cells cs t)).heap[w.heap.size]? = some (.cells cs t (0, 0)) := heap_alloc_new w _
theorem block_past {w : World} {b : Nat} {o : Obj} (h : w.heap[b]? = some o) (o' : Obj) : (w.alloc o').heap[b]? = some o := by
  rw [Below.heap_alloc w o' b (heap_lt h), h]
/-- a contract's world holds the blocks that were there -/
theorem keep {w w' : World} (h : Below w.heap.size w w') {b : Nat} {o : Obj} (k : w.heap[b]? = some o) : w'.heap[b]? = some o := (h.block b (heap_lt k)).trans k
theorem cell_of {w : World} {b : Nat} {cs : Array Value} {t : TypeId} {fz : Nat × Nat} (h : w.heap[b]? = some (.cells cs t fz)) (j : Nat) {v : Value} (hj : cs[j]? = some v) : w.cell? ⟨b, j, none⟩ = some v := by
  simp [World.cell?, h, hj]
theorem free_of {w : World} {b : Nat} {cs : Array Value} {t : TypeId} (h : w.heap[b]? = some (.cells cs t (0, 0))) (j : Nat) : w.frozen? ⟨b, j, none⟩ = false := by
  simp [World.frozen?, h]
theorem below_alloc (w : World) (o : Obj) : Below w.heap.size w (w.alloc o) := (Below.refl _ _).alloc (Nat.le_refl _) o
/-- a block behind a store into it -/
theorem set_block {w : World} {b : Nat} {cs : Array Value} {t : TypeId} {fz : Nat × Nat} (h : w.heap[b]? = some (.cells cs t fz)) (j : Nat) (v : Value) : (w.setCell ⟨b, j, none⟩ v).heap[b]? = some (.cells (cs.setIfInBounds j v) t fz) := by
  simp [World.setCell, Array.getElem?_modify, h]
theorem set_other {w : World} {b b' : Nat} (j : Nat) (v : Value) (h : b' ≠ b) : (w.setCell ⟨b, j, none⟩ v).heap[b']? = w.heap[b']? := Below.heap_setCell w _ v b' h

/-- the block in which the list is made: the first k elements are there -/
def Made (l : List V) (g k : Nat) (wr : World) : Prop :=
  ∃ cur : Array Value, wr.heap[g]? = some (.cells cur 20 (0, 0)) ∧ cur.size = l.length ∧ ∀ i (hi : i < l.length), i < k → ∃ e, cur[i]? = some e ∧ GV wr (fun r => g < r) l[i] e
theorem Made.keep {l : List V} {g k : Nat} {w w' : World} (h : Made l g k w) (hb : Below w.heap.size w w') : Made l g k w' := by
  obtain ⟨cur, h1, h2, h3⟩ := h
  refine ⟨cur, Va.keep hb h1, h2, fun i hi hk => ?_⟩
  obtain ⟨e, he, hg⟩ := h3 i hi hk
  exact ⟨e, he, GV.mono (S := fun r => g < r ∧ r < w.heap.size) (Same.of_below hb fun b h => h.2) (fun b h => h.1) _ _ (GV.lt _ _ hg)⟩
theorem Made.store {l : List V} {g k : Nat} {w : World} (h : Made l g k w) (hk : k < l.length) {e : Value} (hg : GV w (fun r => g < r) l[k] e) : Made l g (k + 1) (w.setCell ⟨g, k, none⟩ e) := by
  obtain ⟨cur, h1, h2, h3⟩ := h
  have hs : Same (fun r => g < r) w (w.setCell ⟨g, k, none⟩ e) := fun b hb => set_other k e (by omega)
  refine ⟨cur.setIfInBounds k e, set_block h1 k e, by simpa using h2, fun i hi hlt => ?_⟩
  by_cases c : i = k
  · subst c
    exact ⟨e, by rw [Array.getElem?_setIfInBounds_self_of_lt (by omega)], GV.mono hs (fun _ h => h) _ _ hg⟩
  · obtain ⟨d, hd, hx⟩ := h3 i hi (by omega)
    exact ⟨d, by rw [Array.getElem?_setIfInBounds_ne (by omega)]; exact hd, GV.mono hs (fun _ h => h) _ _ hx⟩
theorem Made.done {l : List V} {g : Nat} {w : World} (h : Made l g l.length w) : GL w (fun r => g ≤ r) l (some ⟨g, 0, none⟩) := by
  obtain ⟨cur, h1, h2, h3⟩ := h
  refine GL.of l g 0 (fun _ => Nat.le_refl _) fun i hi => ?_
  obtain ⟨e, he, hx⟩ := h3 i hi hi
  exact ⟨e, cell_of h1 _ (by simpa using he), GV.mono (fun _ _ => rfl) (fun b hb => Nat.le_of_lt hb) _ _ hx⟩

theorem infoAny : (Tryz.prog.info? 20).map (fun i => (i.zero, i.size, i.bytes)) = some (some .nilIface, 1, 16) := by kernel_rfl

/-- a value's cells -/
theorem RV.parts {w : World} {S : Nat → Prop} {x : V} {v : Value} (h : RV w S x v) : ∃ (la : Option Addr) (lc : Nat) (ka : Option Addr) (kc : Nat) (va : Option Addr) (vc : Nat) (t0 n0 : Int) (tx : ByteArray) (n1 n2 n3 : Nat), v = .agg #[.int .i64 t0, .int .i64 n0, .string tx, .slice la n1 lc, .slice ka n2 kc, .slice va n3 vc] ∧ Hid (RV w S x (.agg #[.int .i64 t0, .int .i64 n0, .string tx, .slice la n1 lc, .slice ka n2 kc, .slice va n3 vc])) := by
  cases x with
  | mk k hh t ls ks vs =>
    have h' := h
    rw [RV] at h
    obtain ⟨la, lc, ka, kc, va, vc, e, _⟩ := h
    exact ⟨la, lc, ka, kc, va, vc, k, hh, t, _, _, _, e, Lib.hid (e ▸ h')⟩

/-- what listToGo returns -/
def ListToGo (l : List V) (w : World) (e : Ending) (w' : World) : Prop :=
  ∃ g, e = .returned (.tuple #[.slice (some ⟨g, 0, none⟩) l.length l.length, .bool true]) ∧ w.heap.size ≤ g ∧ GL w' (fun r => w.heap.size ≤ r) l (some ⟨g, 0, none⟩) ∧ Below w.heap.size w w'

def LoopL (l : List V) (w : World) (g : Nat) (i : Value) (wr : World) : Prop :=
  ∃ k : Nat, i = .int .i64 k ∧ k ≤ l.length ∧ Made l g k wr ∧ Below w.heap.size w wr

theorem Made.lt {l : List V} {g k : Nat} {w : World} (h : Made l g k w) : g < w.heap.size := by
  obtain ⟨cur, h1, _⟩ := h
  exact heap_lt h1
theorem Made.cell {l : List V} {g k : Nat} {w : World} (h : Made l g k w) {j : Nat} (hj : j < l.length) : ∃ v, w.cell? ⟨g, j, none⟩ = some v ∧ w.frozen? ⟨g, j, none⟩ = false := by
  obtain ⟨cur, h1, h2, _⟩ := h
  exact ⟨cur[j]'(by omega), cell_of h1 j (by rw [Array.getElem?_eq_getElem]), free_of h1 j⟩
theorem loopL_next {l : List V} {k : Nat} (hk : k < l.length) {w w2 : World} (hm : Made l w.heap.size k w2) {g : Value} (hg : GV w2 (fun r => w.heap.size < r) l[k] g) (hb : Below w.heap.size w w2) : LoopL l w w.heap.size (.int .i64 ((k : Int) + 1)) (w2.setCell ⟨w.heap.size, k, none⟩ g) :=
  ⟨k + 1, rfl, hk, hm.store hk hg, hb.setCell (Nat.le_refl _) _⟩
theorem gnum_flat (h : Int) : ∃ t v, gnum h = .iface t v := by
  unfold gnum; split
  · exact ⟨_, _, rfl⟩
  · exact ⟨_, _, rfl⟩
theorem GV.flat {w : World} {S : Nat → Prop} {x : V} {g : Value} (h : GV w S x g) : g = .nilIface ∨ ∃ t v, g = .iface t v := by
  cases x with
  | mk k hh t ls ks vs =>
    rw [GV] at h
    rcases h with q | q | q | q | q | ⟨q, a, c, e, hl⟩ | ⟨q, r, es, cl, e, hr, hb, hst, hm⟩
    · exact .inl q.2
    · exact .inr ⟨_, _, q.2⟩
    · exact .inr ⟨_, _, q.2⟩
    · obtain ⟨t, v, e⟩ := gnum_flat hh
      exact .inr ⟨t, v, q.2.trans e⟩
    · exact .inr ⟨_, _, q.2⟩
    · exact .inr ⟨_, _, e⟩
    · exact .inr ⟨_, _, e⟩
theorem loopL_start (l : List V) (w : World) : LoopL l w w.heap.size (.int .i64 0) (w.alloc (.cells (madeCells #[.nilIface] l.length) 20)) :=
  ⟨0, rfl, Nat.zero_le _, ⟨_, block_new w _ _, size_madeCells _ _, fun i _ h => absurd h (by omega)⟩, below_alloc w _⟩

set_option maxHeartbeats 2000000 in
set_option maxRecDepth 100000 in
theorem listToGo_any (l : List V) (H : ∀ x ∈ l, TG x) (a : Option Addr) (c : Nat) (S : Nat → Prop) (w : World) (hl : RL w S l a) (hS : ∀ b, S b → b < w.heap.size) (hn : l.length ≤ 2147483647) :
    Calls Tryz.prog 38 #[.slice a l.length c] w (ListToGo l w) := by
  obtain ⟨i0, hi, hz0, hz1, hz2⟩ := info_parts infoAny
  have hmk : ∀ w : World, (Instr.makeSlice 60 (.int .i64 (l.length : Int)) (.int .i64 (l.length : Int))).run Tryz.prog w = .ok (.slice (some ⟨w.heap.size, 0, none⟩) l.length l.length) (w.alloc (.cells (madeCells #[.nilIface] l.length) 20)) := by
    intro w
    have := run_make (P := Tryz.prog) w 60 20 i0 .nilIface Tryz.underlying60 hi hz0 .i64 .i64 l.length l.length (by omega) (by omega) (by rw [hz2]; omega) (by omega)
    rw [hz1] at this
    simpa [Value.cells] using this
  clear hi hz0 hz1 hz2
  go_enter Tryz.func38, Tryz.ntmps38
  go_wp2_with fail
  go_loopw [14] (LoopL l w w.heap.size) (fun i _ => l.length - (intOf i).toNat)
  case atStart => exact loopL_start l w
  case round =>
    obtain ⟨k, rfl, hk, hm, hb⟩ := hrel
    by_cases hlt : k < l.length
    · obtain ⟨b, o, rfl⟩ := hl.addr (by omega)
      obtain ⟨hSb, c0, c1, c2, c3, c4, c5, h6, hx⟩ := RL.at l b o hl k hlt
      have hsame := Same.of_below hb hS
      have h6' := Six.mono hsame hSb h6
      have hx' := RV.mono hsame (fun _ h => h) _ _ hx
      have HM := Lib.hid hm
      have HB := Lib.hid hb
      obtain ⟨la, lc, ka, kc, va, vc, t0, n0, tx, ls, ks, vs, e, HX⟩ := RV.parts hx'
      simp only [Value.agg.injEq, Array.mk.injEq, List.cons.injEq, and_true] at e
      obtain ⟨rfl, rfl, rfl, rfl, rfl, rfl⟩ := e
      have HH := Lib.hid H
      have HS := Lib.hid hS
      clear hm hb hx hx' h6 hsame H hl hS
      unfold Six at h6'
      go_wp2_with fail
      generalize hW : World.alloc wr _ = W
      have b1 : Below wr.heap.size wr W := hW ▸ below_alloc wr _
      clear hW h6'
      have hg0 : w.heap.size < wr.heap.size := HM.out.lt
      refine (HH.out _ (List.getElem_mem hlt) _ S W (RV.mono (Same.of_below b1 fun b h => Nat.lt_of_lt_of_le (HS.out b h) HB.out.size) (fun _ h => h) _ _ HX.out) (fun b h => Nat.lt_of_lt_of_le (Nat.lt_of_lt_of_le (HS.out b h) HB.out.size) b1.size)).mono ?_
      rintro e w2 ⟨g, rfl, hg, hb2⟩
      have hs1 := b1.size
      have HG := Lib.hid (GV.mono (T := fun r => w.heap.size < r) (fun _ _ => rfl) (fun b (h : W.heap.size ≤ b) => by show w.heap.size < b; omega) _ _ hg)
      have HM2 := Lib.hid ((HM.out.keep b1).keep hb2)
      have HB2 := Lib.hid ((HB.out.trans (b1.mono HB.out.size)).trans (hb2.mono (Nat.le_trans HB.out.size hs1)))
      clear hg hb2 hs1 b1 HX
      obtain ⟨old, hc1, hc2⟩ := HM2.out.cell hlt
      rcases HG.out.flat with rfl | ⟨gt, gv, rfl⟩
      all_goals
        go_wp2_with fail
        go_roundw
        case rel => exact loopL_next hlt HM2.out HG.out HB2.out
        case measure => simp [intOf]; omega
    · obtain rfl : k = l.length := by omega
      have HM := Lib.hid hm
      have HB := Lib.hid hb
      clear hm hb H
      go_wp2_with fail
      go_returns
      exact ⟨_, rfl, Nat.le_refl _, HM.out.done, HB.out⟩

end Go.Proofs.YtgjmgneppecfgaaGreatDoor.Va
/-
  MAPS: a new key is put into a map whose keys are texts; texts in their order.
-/
namespace Go.Proofs.YtgjmgneppecfgaaGreatDoor.Va
open Go.RowKit
open Go.MapKept (Stamped IsKey)
set_option linter.unusedVariables false
set_option linter.unusedSimpArgs false

theorem bytesLess_trans : ∀ (a b c : List UInt8), Op.bytesLess a b = true → Op.bytesLess b c = true → Op.bytesLess a c = true
  | [], [], _, h, _ => by simp [Op.bytesLess] at h
  | [], _ :: _, [], _, h => by simp [Op.bytesLess] at h
  | [], _ :: _, _ :: _, _, _ => by simp [Op.bytesLess]
  | _ :: _, [], _, h, _ => by simp [Op.bytesLess] at h
  | _ :: _, _ :: _, [], _, h => by simp [Op.bytesLess] at h
  | x :: a, y :: b, z :: c, h, k => by
    have ih := bytesLess_trans a b c
    simp only [Op.bytesLess] at h k ⊢
    by_cases h1 : x < y
    · by_cases h2 : y < z
      · have : x < z := UInt8.lt_trans h1 h2
        simp [this]
      · by_cases h3 : y = z
        · subst h3; simp [h1]
        · simp [h2, h3] at k
    · by_cases h3 : x = y
      · subst h3
        by_cases h2 : x < z
        · simp [h2]
        · by_cases h4 : x = z
          · subst h4
            simp [h1] at h k ⊢
            exact ih h k
          · simp [h2, h4] at k
      · simp [h1, h3] at h
theorem bytesLess_self (l : List UInt8) : Op.bytesLess l l = false := by
  induction l with
  | nil => rfl
  | cons a t ih => simp [Op.bytesLess, ih]
theorem bytesLess_not : ∀ (a b : List UInt8), Op.bytesLess a b = true → Op.bytesLess b a = false := fun a b h => by
  cases e : Op.bytesLess b a with
  | false => rfl
  | true => have := bytesLess_trans a b a h e; rw [bytesLess_self] at this; cases this

theorem Rising.tail {a : ByteArray} {l : List ByteArray} (h : Rising (a :: l)) : Rising l := by
  cases l with
  | nil => trivial
  | cons b r => exact h.2
theorem Rising.head {a : ByteArray} : ∀ {l : List ByteArray}, Rising (a :: l) → ∀ x ∈ l, Op.bytesLess a.data.toList x.data.toList = true
  | [], _, x, hx => by cases hx
  | b :: r, h, x, hx => by
    have h' := h
    rcases List.mem_cons.1 hx with rfl | hx
    · exact h'.1
    · exact bytesLess_trans _ _ _ h'.1 (Rising.head (l := r) h'.2 x hx)
theorem Rising.less : ∀ {l : List ByteArray}, Rising l → ∀ i j (hj : j < l.length) (hij : i < j), Op.bytesLess (l[i]'(Nat.lt_trans hij hj)).data.toList l[j].data.toList = true
  | [], _, i, j, hj, _ => by simp at hj
  | a :: l, h, 0, j + 1, hj, _ => h.head _ (List.getElem_mem (by simpa using hj))
  | a :: l, h, i + 1, j + 1, hj, hij => Rising.less h.tail i j (by simpa using hj) (by omega)
theorem Rising.apart {l : List ByteArray} (h : Rising l) {i j : Nat} (hj : j < l.length) (hij : i < j) : l[i]'(Nat.lt_trans hij hj) ≠ l[j] := fun e => by
  have := h.less i j hj hij
  rw [e, bytesLess_self] at this
  cases this

/-- a new key is put behind the others -/
theorem run_put {P : Program} {w : World} {mty kt et : TypeId} {r clock : Nat} {es : Array MapEntry} {s : ByteArray} {val : Value} (hm : P.underlying mty = some (.map kt et)) (hk : P.underlying kt = some .string)
    (hb : w.heap[r]? = some (.map es clock)) (hst : Stamped es clock) (hs : ∀ x ∈ es.toList, IsKey .string x.key) (hne : ∀ x ∈ es.toList, x.key ≠ .string s) :
    ∃ w', (Instr.mapUpdate mty (.map (some r)) (.string s) val).run P w = .ok () w' ∧ w'.heap[r]? = some (.map (es.push { key := .string s, val := val, born := clock }) (clock + 1)) ∧ Stamped (es.push { key := .string s, val := val, born := clock }) (clock + 1) ∧ w.grownBy w' (some r) := by
  have hkey : IsKey .string (.string s) := trivial
  rcases MapKept.findNow_spec hkey es.toList 0 hs with ⟨h1, _⟩ | ⟨j, e, _, h2, h3⟩
  · refine ⟨{ w with heap := w.heap.setIfInBounds r (.map (es.push { key := .string s, val := val, born := clock }) (clock + 1)) }, ?_, (MapKept.heap_set hb).1, MapKept.stamped_push hst hne, ⟨rfl, rfl, rfl, by simp, fun i _ hi => (MapKept.heap_set hb).2 i (fun e => hi (by rw [e]))⟩⟩
    simp [Instr.mapUpdate, run_underlying hm, MapKept.run_getObj_map hb, MapKept.run_checkKey hk hkey, MapKept.run_findKey hk h1, MapKept.run_setObj_map _ hb, Result.andThen]
  · exact absurd h3 (hne e (List.mem_of_getElem? h2))

/-- the map under construction: the first k entries are there -/
def MadeM (ks : List ByteArray) (vs : List V) (g k : Nat) (wr : World) : Prop :=
  ∃ (es : Array MapEntry) (clock : Nat), wr.heap[g]? = some (.map es clock) ∧ Stamped es clock ∧ es.size = k ∧ ∀ i (hi : i < k) (h1 : i < ks.length) (h2 : i < vs.length), ∃ e, es[i]? = some e ∧ e.key = .string ks[i] ∧ GV wr (fun r => g < r) vs[i] e.val

theorem MadeM.keep {ks : List ByteArray} {vs : List V} {g k : Nat} {w w' : World} (h : MadeM ks vs g k w) (hb : Below w.heap.size w w') : MadeM ks vs g k w' := by
  obtain ⟨es, cl, h1, h2, h3, h4⟩ := h
  refine ⟨es, cl, Va.keep hb h1, h2, h3, fun i hi h1 h2 => ?_⟩
  obtain ⟨e, he, hk, hg⟩ := h4 i hi h1 h2
  exact ⟨e, he, hk, GV.mono (S := fun r => g < r ∧ r < w.heap.size) (Same.of_below hb fun b h => h.2) (fun b h => h.1) _ _ (GV.lt _ _ hg)⟩
theorem MadeM.lt {ks : List ByteArray} {vs : List V} {g k : Nat} {w : World} (h : MadeM ks vs g k w) : g < w.heap.size := by
  obtain ⟨es, cl, h1, _⟩ := h
  exact heap_lt h1
theorem entries_mem {es : Array MapEntry} {x : MapEntry} (hx : x ∈ es.toList) : ∃ i, i < es.size ∧ es[i]? = some x := by
  obtain ⟨i, hi, e⟩ := List.mem_iff_getElem.1 hx
  exact ⟨i, by simpa using hi, by rw [← Array.getElem?_toList, List.getElem?_eq_getElem hi, e]⟩
theorem MadeM.put {P : Program} {ks : List ByteArray} {vs : List V} {g k : Nat} {w : World} {mty kt et : TypeId} (h : MadeM ks vs g k w) (hm : P.underlying mty = some (.map kt et)) (hk : P.underlying kt = some .string)
    (hr : Rising ks) (h1 : k < ks.length) (h2 : k < vs.length) {x : Value} (hg : GV w (fun r => g < r) vs[k] x) :
    ∃ w', (Instr.mapUpdate mty (.map (some g)) (.string ks[k]) x).run P w = .ok () w' ∧ MadeM ks vs g (k + 1) w' ∧ w.grownBy w' (some g) := by
  obtain ⟨es, cl, e1, e2, e3, e4⟩ := h
  have hkeys : ∀ y ∈ es.toList, ∃ i, ∃ (hi : i < k), y.key = .string (ks[i]'(Nat.lt_trans hi h1)) := by
    intro y hy
    obtain ⟨i, hi, hyi⟩ := entries_mem hy
    obtain ⟨e, he, hke, _⟩ := e4 i (by omega) (by omega) (by omega)
    rw [he] at hyi; cases hyi
    exact ⟨i, by omega, hke⟩
  obtain ⟨w', hrun, hb, hst, hgr⟩ := run_put (P := P) (mty := mty) (val := x) (s := ks[k]) hm hk e1 e2 (fun y hy => by obtain ⟨i, hi, e⟩ := hkeys y hy; rw [e]; trivial)
    (fun y hy => by obtain ⟨i, hi, e⟩ := hkeys y hy; rw [e]; intro h; exact hr.apart h1 hi (by simpa using h))
  have hs : Same (fun r => g < r ∧ r < w.heap.size) w w' := fun b hb => hgr.block b hb.2 (by simp; omega)
  refine ⟨w', hrun, ⟨_, _, hb, hst, by simp [e3], fun i hi i1 i2 => ?_⟩, hgr⟩
  by_cases c : i = k
  · subst c
    exact ⟨{ key := .string (ks[i]'h1), val := x, born := cl }, by simp [← e3], rfl, GV.mono (S := fun r => g < r ∧ r < w.heap.size) hs (fun _ h => h.1) vs[i] x (GV.lt _ _ hg)⟩
  · obtain ⟨e, he, hke, hx⟩ := e4 i (by omega) i1 i2
    exact ⟨e, by rw [Array.getElem?_push_lt (by omega), ← he, Array.getElem?_eq_getElem], hke, GV.mono hs (fun _ h => h.1) _ _ (GV.lt _ _ hx)⟩
theorem GM.of {w : World} {S : Nat → Prop} : ∀ (vs : List V) (ks : List ByteArray) (es : List MapEntry), ks.length = vs.length → es.length = vs.length → (∀ i (h1 : i < ks.length) (h2 : i < vs.length), ∃ e, es[i]? = some e ∧ e.key = .string ks[i] ∧ GV w S vs[i] e.val) → GM w S vs ks es
  | [], ks, es, h1, h2, _ => by rw [GM]; exact ⟨List.length_eq_zero_iff.1 h1, List.length_eq_zero_iff.1 h2⟩
  | x :: xs, [], es, h1, h2, _ => by simp at h1
  | x :: xs, k :: ks, [], h1, h2, _ => by simp at h2
  | x :: xs, k :: ks, e :: es, h1, h2, h => by
    rw [GM]
    obtain ⟨e', he', hk, hx⟩ := h 0 (by simp) (by simp)
    simp only [List.getElem?_cons_zero, Option.some.injEq] at he'
    subst he'
    exact ⟨k, ks, e, es, rfl, rfl, hk, hx, GM.of xs ks es (by simpa using h1) (by simpa using h2) fun i i1 i2 => by
      have := h (i + 1) (by simpa using i1) (by simpa using i2)
      simp only [List.getElem?_cons_succ, List.getElem_cons_succ] at this
      exact this⟩
theorem MadeM.done {ks : List ByteArray} {vs : List V} {g : Nat} {w : World} (h : MadeM ks vs g ks.length w) (hl : ks.length = vs.length) : ∃ (es : Array MapEntry) (clock : Nat), w.heap[g]? = some (.map es clock) ∧ Stamped es clock ∧ GM w (fun r => g ≤ r) vs ks es.toList := by
  obtain ⟨es, cl, h1, h2, h3, h4⟩ := h
  refine ⟨es, cl, h1, h2, GM.of _ _ _ hl (by simp; omega) fun i i1 i2 => ?_⟩
  obtain ⟨e, he, hk, hx⟩ := h4 i i1 i1 i2
  exact ⟨e, by simpa using he, hk, GV.mono (fun _ _ => rfl) (fun b hb => Nat.le_of_lt hb) _ _ hx⟩

end Go.Proofs.YtgjmgneppecfgaaGreatDoor.Va
/-
  THE WALK of mapToGo: given that toGo serves each value, the map.
-/
namespace Go.Proofs.YtgjmgneppecfgaaGreatDoor.Va
open Go.RowKit
open Go.MapKept (Stamped IsKey)
set_option linter.unusedVariables false
set_option linter.unusedSimpArgs false

theorem cells6 {w : World} {b : Nat} {a0 a1 a2 a3 a4 a5 : Value} {t : TypeId} (h : w.heap[b]? = some (.cells #[a0, a1, a2, a3, a4, a5] t (0, 0))) :
    (w.cell? ⟨b, 0, none⟩ = some a0 ∧ w.cell? ⟨b, 1, none⟩ = some a1 ∧ w.cell? ⟨b, 2, none⟩ = some a2 ∧ w.cell? ⟨b, 3, none⟩ = some a3 ∧ w.cell? ⟨b, 4, none⟩ = some a4 ∧ w.cell? ⟨b, 5, none⟩ = some a5) ∧
    w.frozen? ⟨b, 0, none⟩ = false ∧ w.frozen? ⟨b, 1, none⟩ = false ∧ w.frozen? ⟨b, 2, none⟩ = false ∧ w.frozen? ⟨b, 3, none⟩ = false ∧ w.frozen? ⟨b, 4, none⟩ = false ∧ w.frozen? ⟨b, 5, none⟩ = false :=
  ⟨⟨cell_of h 0 rfl, cell_of h 1 rfl, cell_of h 2 rfl, cell_of h 3 rfl, cell_of h 4 rfl, cell_of h 5 rfl⟩, free_of h 0, free_of h 1, free_of h 2, free_of h 3, free_of h 4, free_of h 5⟩

/-- what mapToGo returns -/
def MapToGo (ks : List ByteArray) (vs : List V) (w : World) (e : Ending) (w' : World) : Prop :=
  ∃ r es clock, e = .returned (.tuple #[.map (some r), .bool true]) ∧ w.heap.size ≤ r ∧ w'.heap[r]? = some (.map es clock) ∧ Stamped es clock ∧ GM w' (fun b => w.heap.size ≤ b) vs ks es.toList ∧ Below w.heap.size w w'

def LoopM (cs : Array Value) (ks : List ByteArray) (vs : List V) (w : World) (i : Value) (wr : World) : Prop :=
  ∃ k : Nat, i = .int .i64 k ∧ k ≤ ks.length ∧ wr.heap[w.heap.size]? = some (.cells cs 27 (0, 0)) ∧ MadeM ks vs (w.heap.size + 1) k wr ∧ Below w.heap.size w wr

theorem loopM_start (cs : Array Value) (ks : List ByteArray) (vs : List V) (w : World) : LoopM cs ks vs w (.int .i64 0) ((w.alloc (.cells cs 27)).alloc (.map #[] 0)) :=
  ⟨0, rfl, Nat.zero_le _, block_past (block_new w cs _) _, ⟨#[], 0, by have := heap_alloc_new (w.alloc (.cells cs 27)) (.map #[] 0); rwa [World.size_alloc] at this, MapKept.stamped_empty 0, rfl, fun i h => absurd h (by omega)⟩, by go_grown⟩
theorem loopM_next {cs : Array Value} {ks : List ByteArray} {vs : List V} {k : Nat} (hk : k < ks.length) {w w2 w3 : World} (hb : w2.heap[w.heap.size]? = some (.cells cs 27 (0, 0))) (hm : MadeM ks vs (w.heap.size + 1) (k + 1) w3) (hB : Below w.heap.size w w2) (hg : w2.grownBy w3 (some (w.heap.size + 1))) : LoopM cs ks vs w (.int .i64 ((k : Int) + 1)) w3 :=
  ⟨k + 1, rfl, hk, by rw [hg.block _ (heap_lt hb) (by simp)]; exact hb, hm, Below.grown hB hg (Nat.le_of_lt (heap_lt hb)) (fun j hj => by cases hj; omega)⟩

theorem run_len (w : World) (n : Nat) : (Instr.makeMap 106 (some (.int .i64 (n : Int)))).run Tryz.prog w = .ok (.map (some w.heap.size)) (w.alloc (.map #[] 0)) := by
  simp [Instr.makeMap, run_underlying Tryz.underlying106, asInt, asIntOf, Result.andThen]


set_option maxHeartbeats 2000000 in
set_option maxRecDepth 100000 in
theorem mapToGo_any (ks : List ByteArray) (vs : List V) (H : ∀ x ∈ vs, TG x) (hr : Rising ks) (n : Nat) (hkn : ks.length = n) (hvn : vs.length = n) (hn : n ≤ 2147483647) (k0 h0 : Int) (t0 : ByteArray) (la ka va : Option Addr) (nl lc kc vc : Nat) (S : Nat → Prop) (w : World) (hk : RK w S ks ka) (hv : RL w S vs va) (hS : ∀ b, S b → b < w.heap.size) :
    Calls Tryz.prog 91 #[.agg #[.int .i64 k0, .int .i64 h0, .string t0, .slice la nl lc, .slice ka n kc, .slice va n vc]] w (MapToGo ks vs w) := by
  have HH := Lib.hid H
  have HS := Lib.hid hS
  have HK := Lib.hid hk
  have HV := Lib.hid hv
  have HR := Lib.hid hr
  have HKN := Lib.hid hkn
  have HVN := Lib.hid hvn
  have hmk := fun w => run_len w n
  clear H hS hk hv hr hkn hvn
  go_enter Tryz.func91, Tryz.ntmps91
  go_wp2_with fail
  go_loopw [23] (LoopM #[.int .i64 k0, .int .i64 h0, .string t0, .slice la nl lc, .slice ka n kc, .slice va n vc] ks vs w) (fun i _ => n - (intOf i).toNat)
  case atStart => exact loopM_start _ ks vs w
  case round =>
    obtain ⟨k, rfl, hk, hbox, hm, hb⟩ := hrel
    have HM := Lib.hid hm
    have HB := Lib.hid hb
    clear hm hb
    have hc6 := cells6 hbox
    have HX := Lib.hid hbox
    clear hbox
    rw [HKN.out] at hk
    by_cases hlt : k < n
    · obtain ⟨bk, ok, rfl⟩ := HK.out.addr (by rw [HKN.out]; omega)
      obtain ⟨bv, ov, rfl⟩ := HV.out.addr (by rw [HVN.out]; omega)
      obtain ⟨hSk, hck⟩ := RK.at ks bk ok HK.out k (by rw [HKN.out]; exact hlt)
      obtain ⟨hSv, c0, c1, c2, c3, c4, c5, h6, hx⟩ := RL.at vs bv ov HV.out k (by rw [HVN.out]; exact hlt)
      have hsame : Same S w wr := Same.of_below HB.out HS.out
      have h6' := Six.mono hsame hSv h6
      have hck' := (hsame.cell hSk).trans hck
      have hx' := RV.mono hsame (fun _ h => h) _ _ hx
      obtain ⟨s, hs⟩ : ∃ s, Hid (ks[k]'(by rw [HKN.out]; exact hlt) = s) := ⟨_, Lib.hid rfl⟩
      rw [hs.out] at hck'
      obtain ⟨la, lc, ka, kc, va, vc, t1, n1, tx, ls, ks', vs', e, HX'⟩ := RV.parts hx'
      simp only [Value.agg.injEq, Array.mk.injEq, List.cons.injEq, and_true] at e
      obtain ⟨rfl, rfl, rfl, rfl, rfl, rfl⟩ := e
      have HSA := Lib.hid hsame
      clear hck hx hx' h6 hsame
      unfold Six at h6'
      have hb2 : (w.heap.size + 1 < wr.heap.size) := HM.out.lt
      rcases Nat.eq_zero_or_pos k with rfl | hpos
      · simp only [Nat.add_zero, Nat.zero_mul] at hck' h6'
        go_wp2_with fail
        (refine (HH.out _ (List.getElem_mem (by rw [HVN.out]; exact hlt)) _ S wr HX'.out (fun b h => Nat.lt_of_lt_of_le (HS.out b h) HB.out.size)).mono ?_
         rintro e w2 ⟨g, rfl, hg, hb2⟩
         have HG := Lib.hid (GV.mono (T := fun r => w.heap.size + 1 < r) (fun _ _ => rfl) (fun b (h : wr.heap.size ≤ b) => by show _ < b; omega) _ _ hg)
         have HM2 := HM.out.keep hb2
         have HB2 := HB.out.trans (hb2.mono HB.out.size)
         have hbox2 := keep hb2 HX.out
         obtain ⟨w3, hrun, hm3, hgr⟩ := HM2.put (P := Tryz.prog) (mty := 106) Tryz.underlying106 Tryz.underlying9 HR.out (by rw [HKN.out]; exact hlt) (by rw [HVN.out]; exact hlt) HG.out
         rw [hs.out] at hrun
         have L := Lib.hid (loopM_next (by rw [HKN.out]; exact hlt) hbox2 hm3 HB2 hgr)
         clear hg hb2 HG HM2 HB2 hbox2 hm3 hgr
         go_wp2_with fail
         go_roundw
         case rel => exact L.out
         case measure => simp [intOf]; omega)
      · obtain ⟨m, rfl⟩ : ∃ m, k = m + 1 := ⟨k - 1, by omega⟩
        obtain ⟨_, hck0⟩ := RK.at ks bk ok HK.out m (by rw [HKN.out]; omega)
        have hckp := (HSA.out.cell hSk).trans hck0
        clear hck0
        have hless := HR.out.less m (m + 1) (by rw [HKN.out]; exact hlt) (by omega)
        rw [hs.out, ← ByteArray.toList_eq, ← ByteArray.toList_eq] at hless
        obtain ⟨p, hp⟩ : ∃ p, Hid (ks[m]'(by rw [HKN.out]; omega) = p) := ⟨_, Lib.hid rfl⟩
        rw [hp.out] at hless hckp
        go_wp2_with fail
        (refine (HH.out _ (List.getElem_mem (by rw [HVN.out]; exact hlt)) _ S wr HX'.out (fun b h => Nat.lt_of_lt_of_le (HS.out b h) HB.out.size)).mono ?_
         rintro e w2 ⟨g, rfl, hg, hb2⟩
         have HG := Lib.hid (GV.mono (T := fun r => w.heap.size + 1 < r) (fun _ _ => rfl) (fun b (h : wr.heap.size ≤ b) => by show _ < b; omega) _ _ hg)
         have HM2 := HM.out.keep hb2
         have HB2 := HB.out.trans (hb2.mono HB.out.size)
         have hbox2 := keep hb2 HX.out
         obtain ⟨w3, hrun, hm3, hgr⟩ := HM2.put (P := Tryz.prog) (mty := 106) Tryz.underlying106 Tryz.underlying9 HR.out (by rw [HKN.out]; exact hlt) (by rw [HVN.out]; exact hlt) HG.out
         rw [hs.out] at hrun
         have L := Lib.hid (loopM_next (by rw [HKN.out]; exact hlt) hbox2 hm3 HB2 hgr)
         clear hg hb2 HG HM2 HB2 hbox2 hm3 hgr
         go_wp2_with fail
         go_roundw
         case rel => exact L.out
         case measure => simp [intOf]; omega)
    · obtain rfl : k = n := by omega
      have HD := Lib.hid (HM.out)
      rw [← HKN.out] at HD
      obtain ⟨es, cl, e1, e2, e3⟩ := HD.out.done (HKN.out.trans HVN.out.symm)
      have R := Lib.hid (show MapToGo ks vs w (.returned (.tuple #[.map (some (w.heap.size + 1)), .bool true])) wr from ⟨_, es, cl, rfl, Nat.le_succ _, e1, e2, GM.mono (fun _ _ => rfl) (fun b (hb : w.heap.size + 1 ≤ b) => by show _ ≤ b; omega) _ _ _ e3, HB.out⟩)
      clear HD e1 e2 e3
      go_wp2_with fail
      go_returns
      exact R.out

end Go.Proofs.YtgjmgneppecfgaaGreatDoor.Va
/-
  toGo serves every value that is right.
-/
namespace Go.Proofs.YtgjmgneppecfgaaGreatDoor.Va
open Go.RowKit
open Go.MapKept (Stamped IsKey)
set_option linter.unusedVariables false
set_option linter.unusedSimpArgs false

section
variable (h : Int) (t : ByteArray) (ls : List V) (ks : List ByteArray) (vs : List V) (la ka va : Option Addr) (n1 lc n2 kc n3 vc : Nat) (w : World)

set_option maxHeartbeats 400000 in
theorem toGo_5 (H : ∀ x ∈ ls, TG x) (hn1 : ls.length = n1) (hn : n1 ≤ 2147483647) (S : Nat → Prop) (hl : RL w S ls la) (hS : ∀ b, S b → b < w.heap.size) : Calls Tryz.prog 43 #[.agg #[.int .i64 5, .int .i64 h, .string t, .slice la n1 lc, .slice ka n2 kc, .slice va n3 vc]] w (ToGo (.mk 5 h t ls ks vs) w) := by
  have HL := Lib.hid hl
  have HS := Lib.hid hS
  have HH := Lib.hid H
  have HN := Lib.hid hn1
  clear hl hS H hn1
  go_enter Tryz.func43, Tryz.ntmps43
  go_wp2_with fail
  generalize hW : World.alloc w _ = W
  have b1 : Below w.heap.size w W := hW ▸ below_alloc w _
  clear hW
  have c := listToGo_any ls HH.out la lc S W (RL.mono (Same.of_below b1 HS.out) (fun _ h => h) _ _ HL.out) (fun b h => Nat.lt_of_lt_of_le (HS.out b h) b1.size) (by rw [HN.out]; exact hn)
  rw [HN.out] at c
  refine c.mono ?_
  rintro e w2 ⟨g, rfl, hg, hgl, hb2⟩
  have hs := b1.size
  have R : Hid (GV w2 (fun r => w.heap.size ≤ r) (.mk 5 h t ls ks vs) (.iface 60 (.slice (some ⟨g, 0, none⟩) n1 n1)) ∧ Below w.heap.size w w2) := Lib.hid ⟨by
    rw [GV, ← HN.out]
    exact .inr (.inr (.inr (.inr (.inr (.inl ⟨rfl, _, _, rfl, GL.mono (fun _ _ => rfl) (fun b (hb : W.heap.size ≤ b) => by show _ ≤ b; omega) _ _ hgl⟩))))), b1.trans (hb2.mono b1.size)⟩
  clear c hg hgl hb2 hs b1
  rw [HN.out]
  go_wp2_with fail
  go_returns
  exact ⟨_, rfl, R.out.1, R.out.2⟩

set_option maxHeartbeats 400000 in
theorem toGo_6 (H : ∀ x ∈ vs, TG x) (hr : Rising ks) (hn2 : ks.length = n2) (hn3 : vs.length = n2) (hn : n2 ≤ 2147483647) (S : Nat → Prop) (hk : RK w S ks ka) (hv : RL w S vs va) (hS : ∀ b, S b → b < w.heap.size) : Calls Tryz.prog 43 #[.agg #[.int .i64 6, .int .i64 h, .string t, .slice la n1 lc, .slice ka n2 kc, .slice va n2 vc]] w (ToGo (.mk 6 h t ls ks vs) w) := by
  have HK := Lib.hid hk
  have HV := Lib.hid hv
  have HS := Lib.hid hS
  have HH := Lib.hid H
  have HN := Lib.hid hn2
  have HN3 := Lib.hid hn3
  clear hk hv hS H hn2 hn3
  go_enter Tryz.func43, Tryz.ntmps43
  go_wp2_with fail
  generalize hW : World.alloc w _ = W
  have b1 : Below w.heap.size w W := hW ▸ below_alloc w _
  clear hW
  have hs := b1.size
  refine (mapToGo_any ks vs HH.out hr n2 HN.out HN3.out hn _ _ _ _ _ _ _ _ _ _ S W (RK.mono (Same.of_below b1 HS.out) (fun _ h => h) _ _ HK.out) (RL.mono (Same.of_below b1 HS.out) (fun _ h => h) _ _ HV.out) (fun b h => Nat.lt_of_lt_of_le (HS.out b h) b1.size)).mono ?_
  rintro e w2 ⟨r, es, cl, rfl, hg, hb, hst, hgm, hb2⟩
  have R : Hid (GV w2 (fun r => w.heap.size ≤ r) (.mk 6 h t ls ks vs) (.iface 106 (.map (some r))) ∧ Below w.heap.size w w2) := Lib.hid ⟨by
    rw [GV]
    exact .inr (.inr (.inr (.inr (.inr (.inr ⟨rfl, _, _, _, rfl, by show _ ≤ r; omega, hb, hst, GM.mono (fun _ _ => rfl) (fun b (hb : W.heap.size ≤ b) => by show _ ≤ b; omega) _ _ _ hgm⟩))))), b1.trans (hb2.mono b1.size)⟩
  clear hg hgm hb2 hs b1 hst hb
  go_wp2_with fail
  go_returns
  exact ⟨_, rfl, R.out.1, R.out.2⟩
end

theorem toGo_good : ∀ (n : Nat) (x : V), x.size ≤ n → n ≤ 2147483647 → Good x → TG x
  | 0, x, h, _, _ => by have := size_pos x; omega
  | n + 1, .mk k h t ls ks vs, hsz, hn, hg => by
    intro v S w hv hS
    rw [RV] at hv
    rw [Good] at hg
    obtain ⟨g1, gl, gr, gv⟩ := hg
    rw [V.size] at hsz
    obtain ⟨la, lc, ka, kc, va, vc, rfl, h1, h2, h3⟩ := hv
    have hls := length_le ls
    have hvs := length_le vs
    have hll := g1.len
    have k0 := g1.k0
    have k6 := g1.k6
    obtain rfl | rfl | rfl | rfl | rfl | rfl | rfl : k = 0 ∨ k = 1 ∨ k = 2 ∨ k = 3 ∨ k = 4 ∨ k = 5 ∨ k = 6 := by omega
    · exact toGo_0 _ _ _ _ _ _ _ _ _ _ _ _ _ _ _
    · exact toGo_1 _ _ _ _ _ _ _ _ _ _ _ _ _ _ _
    · exact toGo_2 _ _ _ _ _ _ _ _ _ _ _ _ _ _ _
    · by_cases he : h % 2 = 0
      · exact toGo_3e _ _ _ _ _ _ _ _ _ _ _ _ _ _ _ g1.lo g1.hi he
      · have := g1.odd
        exact toGo_3o _ _ _ _ _ _ _ _ _ _ _ _ _ _ _ (by omega) (by omega) he
    · exact toGo_4 _ _ _ _ _ _ _ _ _ _ _ _ _ _ _
    · exact toGo_5 _ _ _ _ _ _ _ _ _ _ _ _ _ _ _ (fun x hx => toGo_good n x (by have := size_mem hx; omega) (by omega) (gl.mem x hx)) rfl (by omega) S h1 hS
    · rw [← hll]
      exact toGo_6 _ _ _ _ _ _ _ _ _ _ _ _ _ _ (fun x hx => toGo_good n x (by have := size_mem hx; omega) (by omega) (gv.mem x hx)) gr rfl hll.symm (by omega) S h2 h3 hS

end Go.Proofs.YtgjmgneppecfgaaGreatDoor.Va
