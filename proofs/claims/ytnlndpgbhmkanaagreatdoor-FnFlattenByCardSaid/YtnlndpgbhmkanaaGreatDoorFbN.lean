/-
  EVERY DEPTH BELOW 0 as a float: what is below 0 stays below 0, one taken away.
-/
import Derived.Test.YtnlndpgbhmkanaaGreatDoorFlA
namespace Go.Proofs.YtnlndpgbhmkanaaGreatDoor.Va
open Ieee
set_option linter.unusedVariables false
set_option linter.unusedSimpArgs false

/-- the word of a number below 0 -/
def NegW (f : Nat) : Prop := ∃ low, 1 ≤ low ∧ low ≤ 2047 * B ∧ f = 2048 * B + low

theorem cut_none (s : Bool) (n : Nat) : Toward.even.cut s n 0 = n := by
  simp [Toward.cut, Nat.mod_one]
theorem near_neg (mag : Nat) (place : Int) (hm : mag ≠ 0) (hp : -1074 ≤ place) : NegW (Ieee.double.nearest true mag place) := by
  have hB := B_pos
  rw [Ieee.Format.nearest, if_neg hm]
  simp only [Ieee.Format.word, if_true, sw_eq, inf_eq, bin_eq, lp_eq]
  refine ⟨_, ?_, Nat.min_le_right _ _, rfl⟩
  refine Nat.le_min.2 ⟨?_, by omega⟩
  generalize hL : max (place + (mag.log2 : Int) - (Ieee.double.fractionBits : Int)) (-1074) = last
  have hge : -1074 ≤ last := by rw [← hL]; exact Int.le_max_right _ _
  rcases Int.lt_or_eq_of_le hge with h | h
  · have : 1 ≤ (last - -1074).toNat := by omega
    exact Nat.le_trans (Nat.le_trans hB (Nat.le_mul_of_pos_left _ this)) (Nat.le_add_right _ _)
  · have h0 : (last - place).toNat = 0 := by omega
    rw [h0, cut_none]
    refine Nat.le_trans ?_ (Nat.le_add_left _ _)
    rw [Nat.shiftLeft_eq]
    exact Nat.mul_pos (Nat.pos_of_ne_zero hm) (Nat.two_pow_pos _)
/-- such a word, read -/
theorem read_neg {f : Nat} (h : NegW f) : (∃ m q, m ≠ 0 ∧ -1074 ≤ q ∧ Ieee.double.read f = .number true m q) ∨ Ieee.double.read f = .infinity true := by
  obtain ⟨low, h1, h2, rfl⟩ := h
  have hB := B_pos
  have hr : (2048 * B + low) % (2048 * B) = low := by rw [Nat.add_mod_left, Nat.mod_eq_of_lt (by omega)]
  have hn : ((2048 * B + low) / (2048 * B) % 2 == 1) = true := by rw [Nat.add_div_left _ (by omega), Nat.div_eq_of_lt (by omega)]; rfl
  simp only [Ieee.Format.read, sw_eq, hr, hn, bin_eq, inf_eq, lp_eq]
  by_cases c1 : low < B
  · rw [if_pos c1]
    exact .inl ⟨low, -1074, by omega, by omega, rfl⟩
  · rw [if_neg c1]
    by_cases c2 : low < 2047 * B
    · rw [if_pos c2]
      exact .inl ⟨_, _, by omega, by omega, rfl⟩
    · rw [if_neg c2, if_pos (by omega)]
      exact .inr rfl
theorem read_zero0 : Ieee.double.read 0 = .number false 0 (-1074) := by
  have hB := B_pos
  simp only [Ieee.Format.read, sw_eq, bin_eq, lp_eq, Nat.zero_mod, Nat.zero_div]
  rw [if_pos hB]
  rfl
theorem one_eq : one = wd false B (-52) := by unfold one wd Ieee.Format.word B; decide
theorem read_one : Ieee.double.read one = .number false B (-52) := by
  have := B_pos
  rw [one_eq]; exact read_wd false B _ (Nat.le_refl _) (by omega) (by omega) (by omega)
theorem signed_neg (m k : Nat) (hm : m ≠ 0) : signed true m k < 0 := by
  have : 0 < m <<< k := by rw [Nat.shiftLeft_eq]; exact Nat.mul_pos (Nat.pos_of_ne_zero hm) (Nat.two_pow_pos _)
  unfold signed
  rw [if_pos rfl]
  omega
theorem neg_ne {f : Nat} (h : NegW f) : Op.floatEq .f64 f 0 = false := by
  show (Ieee.double.order f 0 == some .eq) = false
  unfold Ieee.Format.order
  rw [read_zero0]
  rcases read_neg h with ⟨m, q, hm, _, e⟩ | e
  · rw [e]
    simp only [Datum.order]
    have h1 := signed_neg m (q - min q (-1074)).toNat hm
    have h2 : signed false 0 (-1074 - min q (-1074)).toNat = 0 := by simp [signed]
    rw [h2, cmp_lt h1]
    rfl
  · rw [e]
    rfl
theorem neg_sub {f : Nat} (h : NegW f) : ∃ f', Ieee.double.sub f one = some f' ∧ NegW f' := by
  unfold Ieee.Format.sub
  rw [read_one]
  rcases read_neg h with ⟨m, q, hm, hq, e⟩ | e
  · rw [e]
    simp only [Datum.opposite, Datum.sum, Option.map_some, Bool.not_false]
    refine ⟨_, rfl, ?_⟩
    have h1 := signed_neg m (q - min q (-52)).toNat hm
    have h2 := signed_neg B (-52 - min q (-52)).toNat (by have := B_pos; omega)
    generalize ht : signed true m (q - min q (-52)).toNat + signed true B (-52 - min q (-52)).toNat = total
    have hneg : total < 0 := by omega
    have hz : ¬ total = 0 := by omega
    rw [if_neg hz, decide_eq_true hneg]
    exact near_neg _ _ (by omega) (by omega)
  · rw [e]
    simp only [Datum.opposite, Datum.sum, Option.map_some]
    refine ⟨_, rfl, 2047 * B, by have := B_pos; omega, Nat.le_refl _, ?_⟩
    simp only [Ieee.Format.write, Ieee.Format.word, if_true, sw_eq, inf_eq]
theorem dep_neg : ∀ (n f : Nat) (d : Int), NegW f → d < 0 → Dep n f d
  | 0, f, d, h, hd => by
    show Op.floatEq .f64 f 0 = decide (d = 0)
    rw [neg_ne h, decide_eq_false (by omega)]
  | n + 1, f, d, h, hd => by
    obtain ⟨f', h1, h2⟩ := neg_sub h
    exact ⟨by rw [neg_ne h, decide_eq_false (by omega)], f', h1, dep_neg n f' (d - 1) h2 (by omega)⟩
theorem dep_int (n : Nat) (d : Int) (hd : d < 0) : Dep n (floatOfInt .f64 d) d := by
  refine dep_neg n _ d ?_ hd
  show NegW (Ieee.double.write (.number (decide (d < 0)) d.natAbs 0))
  rw [decide_eq_true hd]
  exact near_neg _ _ (by omega) (by omega)

end Go.Proofs.YtnlndpgbhmkanaaGreatDoor.Va
