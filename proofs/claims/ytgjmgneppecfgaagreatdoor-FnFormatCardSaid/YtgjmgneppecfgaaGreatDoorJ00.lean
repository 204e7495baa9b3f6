/-
  FnFormat, texts VaF VaA Ta: lemmas for the law; the theorem stands in the last text.
-/
import Derived.Laws.FloatArith
import GoSem.Extern.MathFloor
import Derived.Test.YtgjmgneppecfgaaGreatDoorRows
import Derived.Below
import Derived.OwnWalk
import Derived.Laws.Rows
import Derived.MapKept
import Derived.Lib.ValidU
import Derived.WalkKit
import Derived.KernelRfl
import Derived.Stop.Asserts
namespace Go.Proofs.YtgjmgneppecfgaaGreatDoor.Va
open Ieee

/-- 2^52, kept whole -/
def B : Nat := 2 ^ 52
theorem B_pos : 0 < B := by unfold B; exact Nat.two_pow_pos 52
theorem bin_eq : Ieee.double.binade = B := rfl
theorem inf_eq : Ieee.double.infRung = 2047 * B := by unfold B; decide
theorem sw_eq : Ieee.double.signWeight = 2048 * B := by unfold B; decide
theorem lp_eq : Ieee.double.leastPlace = -1074 := by decide
theorem pow_B (j : Nat) : 2 ^ (52 + j) = B * 2 ^ j := by rw [Nat.pow_add, B]

/-- the word of a normal number -/
def wd (s : Bool) (M : Nat) (q : Int) : Nat := Ieee.double.word s ((q + 1074).toNat * B + M)

theorem log2_of {n k : Nat} (h1 : 2 ^ k ≤ n) (h2 : n < 2 ^ (k + 1)) : n.log2 = k := by
  have hn : n ≠ 0 := by have := Nat.two_pow_pos k; omega
  have a := (Nat.log2_lt hn).2 h2
  have b := (Nat.le_log2 hn).2 h1
  omega
theorem log2_mul (M j : Nat) (hM : B ≤ M) (h2 : M < 2 * B) : (M * 2 ^ j).log2 = 52 + j := by
  have hp := Nat.two_pow_pos j
  refine log2_of ?_ ?_
  · rw [pow_B]; exact Nat.mul_le_mul_right _ hM
  · rw [show 52 + j + 1 = 52 + (j + 1) by omega, pow_B, Nat.pow_succ, show B * (2 ^ j * 2) = 2 * B * 2 ^ j by rw [Nat.mul_comm (2 ^ j) 2, ← Nat.mul_assoc, Nat.mul_comm B 2]]
    exact Nat.mul_lt_mul_of_pos_right h2 hp

theorem cut_zero (s : Bool) (n : Nat) : Toward.even.cut s n 0 = n := by
  simp [Toward.cut, Nat.mod_one]
theorem cut_mul (s : Bool) (M j : Nat) (hM : B ≤ M) (h2 : M < 2 * B) : Toward.even.cut s (M * 2 ^ j) j = M := by
  have hl := log2_mul M j hM h2
  have hg : min j ((M * 2 ^ j).log2 + 2) = j := by rw [hl]; omega
  have h0 : M * 2 ^ j % 2 ^ j = 0 := Nat.mul_mod_left _ _
  have h1 : M * 2 ^ j / 2 ^ j = M := Nat.mul_div_cancel _ (Nat.two_pow_pos j)
  have hp := Nat.two_pow_pos j
  simp only [Toward.cut, hg, Nat.one_shiftLeft, h0, h1]
  simp

theorem rung_le (n M : Nat) (hn : n ≤ 1974) (h2 : M < 2 * B) : n * B + M ≤ 2047 * B := by
  have h := Nat.mul_le_mul_right B hn
  omega
theorem min_rung (n M : Nat) (hn : n ≤ 1974) (h2 : M < 2 * B) : min (n * B + M) (2047 * B) = n * B + M := Nat.min_eq_left (rung_le n M hn h2)

/-- a number that is normal when its last digits are struck -/
theorem write_norm (s : Bool) (M j : Nat) (q p : Int) (hp : p = q - j) (hM : B ≤ M) (h2 : M < 2 * B) (hq : -1074 ≤ q) (hq2 : q ≤ 900) : Ieee.double.write (.number s (M * 2 ^ j) p) = wd s M q := by
  subst hp
  have hpos : M * 2 ^ j ≠ 0 := Nat.ne_of_gt (Nat.mul_pos (Nat.lt_of_lt_of_le B_pos hM) (Nat.two_pow_pos j))
  have hl := log2_mul M j hM h2
  have hfb : Ieee.double.fractionBits = 52 := rfl
  have hlast : max (q - (j : Int) + ((M * 2 ^ j).log2 : Nat) - (Ieee.double.fractionBits : Nat)) Ieee.double.leastPlace = q := by rw [hl, lp_eq, hfb]; omega
  have e1 : (q - (j : Int) - q).toNat = 0 := by omega
  have e2 : (q - (q - (j : Int))).toNat = j := by omega
  have e3 : (q - -1074).toNat = (q + 1074).toNat := by omega
  have hb : (q + 1074).toNat ≤ 1974 := by omega
  rw [Ieee.Format.write, Ieee.Format.nearest, if_neg hpos]
  simp only [hlast]
  rw [e1, e2, Nat.shiftLeft_zero, cut_mul s M j hM h2, lp_eq, bin_eq, inf_eq, e3, min_rung _ M hb h2, wd]

/-- a small whole number of units -/
theorem write_small (s : Bool) (m k : Nat) (p : Int) (hm : 0 < m) (hM : B ≤ m * 2 ^ k) (h2 : m * 2 ^ k < 2 * B) (hp : -900 ≤ p) (hp2 : p ≤ 800) (hk : k ≤ 52) : Ieee.double.write (.number s m p) = wd s (m * 2 ^ k) (p - k) := by
  have hm0 : m ≠ 0 := by omega
  have hl : m.log2 + k = 52 := by
    have a : (m * 2 ^ k).log2 = 52 := by simpa using log2_mul (m * 2 ^ k) 0 hM h2
    have b := Nat.log2_self_le hm0
    have c := @Nat.lt_log2_self m
    have d : (m * 2 ^ k).log2 = m.log2 + k := by
      refine log2_of ?_ ?_
      · rw [Nat.pow_add]; exact Nat.mul_le_mul_right _ b
      · rw [show m.log2 + k + 1 = m.log2 + 1 + k by omega, Nat.pow_add]; exact Nat.mul_lt_mul_of_pos_right c (Nat.two_pow_pos k)
    omega
  have hfb : Ieee.double.fractionBits = 52 := rfl
  have hlast : max (p + (m.log2 : Nat) - (Ieee.double.fractionBits : Nat)) Ieee.double.leastPlace = p - (k : Int) := by rw [lp_eq, hfb]; omega
  have e1 : (p - (p - (k : Int))).toNat = k := by omega
  have e2 : (p - (k : Int) - p).toNat = 0 := by omega
  have e3 : (p - (k : Int) - -1074).toNat = (p - (k : Int) + 1074).toNat := by omega
  have hb : (p - (k : Int) + 1074).toNat ≤ 1974 := by omega
  rw [Ieee.Format.write, Ieee.Format.nearest, if_neg hm0]
  simp only [hlast]
  rw [e1, e2, cut_zero, Nat.shiftLeft_eq, lp_eq, bin_eq, inf_eq, e3, min_rung _ _ hb h2, wd]

theorem read_wd (s : Bool) (M : Nat) (q : Int) (hM : B ≤ M) (h2 : M < 2 * B) (hq : -1074 ≤ q) (hq2 : q ≤ 900) : Ieee.double.read (wd s M q) = .number s M q := by
  obtain ⟨n, hn⟩ : ∃ n : Nat, q + 1074 = n := ⟨(q + 1074).toNat, by omega⟩
  have hn2 : n ≤ 1974 := by omega
  have e : (q + 1074).toNat = n := by omega
  have hr := rung_le n M hn2 h2
  have hBp := B_pos
  have hlt : n * B + M < 2048 * B := by omega
  have hlow : wd s M q % Ieee.double.signWeight = n * B + M := by
    unfold wd Ieee.Format.word
    rw [e, sw_eq]
    cases s
    · simp only [Bool.false_eq_true, if_false]; exact Nat.mod_eq_of_lt hlt
    · simp only [if_true]; rw [Nat.add_mod_left]; exact Nat.mod_eq_of_lt hlt
  have hneg : (wd s M q / Ieee.double.signWeight % 2 == 1) = s := by
    unfold wd Ieee.Format.word
    rw [e, sw_eq]
    cases s
    · simp only [Bool.false_eq_true, if_false]; rw [Nat.div_eq_of_lt hlt]; rfl
    · simp only [if_true]; rw [Nat.add_div_left _ (by omega), Nat.div_eq_of_lt hlt]; rfl
  have c1 : ¬ (n * B + M < B) := by omega
  have c2 : n * B + M < 2047 * B := by
    have := Nat.mul_le_mul_right B hn2
    omega
  have d0 : n * B + M = (M - B) + B * (n + 1) := by rw [Nat.mul_add, Nat.mul_comm B n, Nat.mul_one]; omega
  have hMB : M - B < B := by omega
  have d1 : (n * B + M) % B = M - B := by rw [d0, Nat.add_mul_mod_self_left]; exact Nat.mod_eq_of_lt hMB
  have d2 : (n * B + M) / B = n + 1 := by rw [d0, Nat.add_mul_div_left _ _ hBp, Nat.div_eq_of_lt hMB]; omega
  have f1 : B + (M - B) = M := by omega
  have f2 : (-1074 : Int) + ((n + 1 - 1 : Nat) : Int) = q := by omega
  simp only [Ieee.Format.read, hlow, hneg, bin_eq, inf_eq]
  rw [if_neg c1, if_pos c2, d1, d2, lp_eq, f1, f2]

/-! ### an odd number below 2^53, as a double, and its half -/
def two : Nat := 4611686018427387904
theorem two_eq : two = wd false B (-51) := by unfold two wd Ieee.Format.word B; decide
def fi (h : Int) : Nat := floatOfInt .f64 h
/-- h/2 as a double -/
def fl (h : Int) : Nat := Ieee.double.write (.number (decide (h < 0)) h.natAbs (-1))

/-- by how many digits a number is moved -/
theorem move (m : Nat) (hm : 0 < m) (h2 : m < 2 * B) : ∃ k, k ≤ 52 ∧ B ≤ m * 2 ^ k ∧ m * 2 ^ k < 2 * B := by
  have hm0 : m ≠ 0 := by omega
  have hl : m.log2 < 53 := (Nat.log2_lt hm0).2 (by unfold B at h2; omega)
  have b := Nat.log2_self_le hm0
  have c := @Nat.lt_log2_self m
  refine ⟨52 - m.log2, by omega, ?_, ?_⟩
  · have h := Nat.mul_le_mul_right (2 ^ (52 - m.log2)) b
    rw [← Nat.pow_add, show m.log2 + (52 - m.log2) = 52 + 0 by omega, pow_B] at h
    simpa using h
  · have h := Nat.mul_lt_mul_of_pos_right c (Nat.two_pow_pos (52 - m.log2))
    rw [← Nat.pow_add, show m.log2 + 1 + (52 - m.log2) = 52 + 1 by omega, pow_B] at h
    omega

/-- what is known of an odd number's words -/
structure Half (h : Int) (s : Bool) (M k : Nat) : Prop where
  hs : s = decide (h < 0)
  hk : k ≤ 52
  hM : M = h.natAbs * 2 ^ k
  lo : B ≤ M
  hi : M < 2 * B
  hfi : fi h = wd s M (-k)
  hfl : fl h = wd s M (-1 - k)
theorem half_of (h : Int) (h0 : h ≠ 0) (hb : h.natAbs < 2 * B) : ∃ s M k, Half h s M k := by
  obtain ⟨k, hk, lo, hi⟩ := move h.natAbs (by omega) hb
  refine ⟨decide (h < 0), h.natAbs * 2 ^ k, k, rfl, hk, rfl, lo, hi, ?_, ?_⟩
  · have := write_small (decide (h < 0)) h.natAbs k 0 (by omega) lo hi (by omega) (by omega) hk
    rw [show (0 : Int) - k = -k by omega] at this
    exact this
  · exact write_small (decide (h < 0)) h.natAbs k (-1) (by omega) lo hi (by omega) (by omega) hk

section
variable {h : Int} {s : Bool} {M k : Nat}
theorem Half.readI (H : Half h s M k) : Ieee.double.read (Va.fi h) = .number s M (-k) := by
  have := H.hk
  rw [H.hfi]; exact read_wd s M _ H.lo H.hi (by omega) (by omega)
theorem Half.readL (H : Half h s M k) : Ieee.double.read (Va.fl h) = .number s M (-1 - k) := by
  have := H.hk
  rw [H.hfl]; exact read_wd s M _ H.lo H.hi (by omega) (by omega)
theorem read_two : Ieee.double.read two = .number false B (-51) := by
  have := B_pos
  rw [two_eq]; exact read_wd false B (-51) (by omega) (by omega) (by omega) (by omega)

end

theorem quot_two (s : Bool) (M : Nat) (P : Int) (lo : B ≤ M) (hi : M < 2 * B) : Datum.quotient 54 (.number s M P) (.number false B (-51)) = some (.number s (M * 2 ^ 3) (P - 4)) := by
  have hBp := B_pos
  have hl : M.log2 = 52 := by simpa using log2_mul M 0 lo hi
  have hlB : B.log2 = 52 := by simpa using log2_mul B 0 (by omega) (by omega)
  have hB0 : B ≠ 0 := by omega
  have h54 : 54 + B.log2 - M.log2 = 54 := by rw [hl, hlB]
  have hsh : M <<< 54 = M * 4 * B := by rw [Nat.shiftLeft_eq, show 54 = 52 + 2 by rfl, pow_B, Nat.mul_comm B, ← Nat.mul_assoc]
  rw [Datum.quotient, if_neg hB0]
  simp only [h54, hsh]
  rw [Nat.mul_div_cancel _ hBp, Nat.mul_mod_left]
  have e1 : 2 * (M * 4) + (0 != 0).toNat = M * 2 ^ 3 := by rw [show (0 != 0) = false by rfl, Bool.toNat_false]; omega
  have e2 : P - -51 - ((54 : Nat) : Int) - 1 = P - 4 := by omega
  have e3 : (s ^^ false) = s := Bool.xor_false s
  rw [e1, e2, e3]

section
variable {h : Int} {s : Bool} {M k : Nat}
/-- float64(h) / 2 -/
theorem div_two (H : Half h s M k) : Ieee.double.div (Va.fi h) two = some (Va.fl h) := by
  have hk := H.hk
  have e := write_norm s M 3 (-1 - (k : Int)) (-(k : Int) - 4) (by omega) H.lo H.hi (by omega) (by omega)
  rw [Ieee.Format.div, H.readI, read_two, H.hfl, ← e]
  exact congrArg (Option.map Ieee.double.write) (quot_two s M (-(k : Int)) H.lo H.hi)

theorem cmp_lt {a b : Int} (h : a < b) : compare a b = .lt := by simp [compare, compareOfLessAndEq, h]
theorem cmp_gt {a b : Int} (h : b < a) : compare a b = .gt := by
  have h1 : ¬ a < b := by omega
  have h2 : ¬ a = b := by omega
  simp [compare, compareOfLessAndEq, h1, h2]
theorem cmp_self (a : Int) : compare a a = .eq := by simp [compare, compareOfLessAndEq]
end

end Go.Proofs.YtgjmgneppecfgaaGreatDoor.Va
namespace Go.Proofs.YtgjmgneppecfgaaGreatDoor.Va
open Go.RowKit

/-- a value of the thin package, as data: its kind, twice its number, its text, its list, its keys and their values -/
inductive V where
  | mk (kind half : Int) (text : ByteArray) (list : List V) (keys : List ByteArray) (vals : List V)
def V.kind : V → Int | .mk k _ _ _ _ _ => k
def V.half : V → Int | .mk _ h _ _ _ _ => h
def V.text : V → ByteArray | .mk _ _ t _ _ _ => t
def V.list : V → List V | .mk _ _ _ l _ _ => l
def V.keys : V → List ByteArray | .mk _ _ _ _ k _ => k
def V.vals : V → List V | .mk _ _ _ _ _ v => v

mutual
def V.size : V → Nat
  | .mk _ _ _ l _ vs => 1 + sizeL l + sizeL vs
def sizeL : List V → Nat
  | [] => 0
  | x :: xs => x.size + sizeL xs
end
theorem size_mem {l : List V} {x : V} (h : x ∈ l) : x.size ≤ sizeL l := by
  induction l with
  | nil => cases h
  | cons y ys ih =>
    rw [sizeL]
    rcases List.mem_cons.1 h with rfl | h
    · omega
    · have := ih h; omega
theorem size_pos (x : V) : 1 ≤ x.size := by cases x; rw [V.size]; omega
theorem length_le (l : List V) : l.length ≤ sizeL l := by
  induction l with
  | nil => simp
  | cons y ys ih => rw [sizeL, List.length_cons]; have := size_pos y; omega

/-! ### reading a list of texts, values, lists of values: every cell that is read lies in a block of S -/
def RK (w : World) (S : Nat → Prop) : List ByteArray → Option Addr → Prop
  | [], _ => True
  | t :: ts, a => ∃ b o, a = some ⟨b, o, none⟩ ∧ S b ∧ w.cell? ⟨b, o, none⟩ = some (.string t) ∧ RK w S ts (some ⟨b, o + 1, none⟩)
/-- the six cells of a value at a place -/
def Six (w : World) (b o : Nat) (c0 c1 c2 c3 c4 c5 : Value) : Prop :=
  w.cell? ⟨b, o, none⟩ = some c0 ∧ w.cell? ⟨b, o + 1, none⟩ = some c1 ∧ w.cell? ⟨b, o + 2, none⟩ = some c2 ∧ w.cell? ⟨b, o + 3, none⟩ = some c3 ∧ w.cell? ⟨b, o + 4, none⟩ = some c4 ∧ w.cell? ⟨b, o + 5, none⟩ = some c5
mutual
def RV (w : World) (S : Nat → Prop) : V → Value → Prop
  | .mk k h t ls ks vs, v => ∃ la lc ka kc va vc, v = .agg #[.int .i64 k, .int .i64 h, .string t, .slice la ls.length lc, .slice ka ks.length kc, .slice va vs.length vc] ∧ RL w S ls la ∧ RK w S ks ka ∧ RL w S vs va
def RL (w : World) (S : Nat → Prop) : List V → Option Addr → Prop
  | [], _ => True
  | x :: xs, a => ∃ b o c0 c1 c2 c3 c4 c5, a = some ⟨b, o, none⟩ ∧ S b ∧ Six w b o c0 c1 c2 c3 c4 c5 ∧ RV w S x (.agg #[c0, c1, c2, c3, c4, c5]) ∧ RL w S xs (some ⟨b, o + 6, none⟩)
end

/-- a world in which the blocks of S are as they were -/
def Same (S : Nat → Prop) (w w' : World) : Prop := ∀ b, S b → w'.heap[b]? = w.heap[b]?
theorem Same.cell {S : Nat → Prop} {w w' : World} (h : Same S w w') {b o : Nat} (hb : S b) : w'.cell? ⟨b, o, none⟩ = w.cell? ⟨b, o, none⟩ := World.cell?_of_block (w := w) (h b hb)
theorem Same.of_below {w w' : World} {B : Nat} (h : Below B w w') {S : Nat → Prop} (hS : ∀ b, S b → b < B) : Same S w w' := fun b hb => h.block b (hS b hb)
theorem Same.trans {S : Nat → Prop} {a b c : World} (h : Same S a b) (k : Same S b c) : Same S a c := fun x hx => (k x hx).trans (h x hx)
theorem Same.mono {S T : Nat → Prop} {a b : World} (h : Same S a b) (hT : ∀ x, T x → S x) : Same T a b := fun x hx => h x (hT x hx)

theorem RK.mono {w w' : World} {S T : Nat → Prop} (h : Same S w w') (hT : ∀ b, S b → T b) : ∀ l a, RK w S l a → RK w' T l a
  | [], _, _ => trivial
  | _ :: ts, _, ⟨b, o, ha, hb, hc, hr⟩ => ⟨b, o, ha, hT b hb, (h.cell hb).trans hc, RK.mono h hT ts _ hr⟩
theorem Six.mono {w w' : World} {S : Nat → Prop} (h : Same S w w') {b o : Nat} (hb : S b) {c0 c1 c2 c3 c4 c5 : Value} (k : Six w b o c0 c1 c2 c3 c4 c5) : Six w' b o c0 c1 c2 c3 c4 c5 := by
  obtain ⟨k0, k1, k2, k3, k4, k5⟩ := k
  exact ⟨(h.cell hb).trans k0, (h.cell hb).trans k1, (h.cell hb).trans k2, (h.cell hb).trans k3, (h.cell hb).trans k4, (h.cell hb).trans k5⟩
mutual
theorem RV.mono {w w' : World} {S T : Nat → Prop} (h : Same S w w') (hT : ∀ b, S b → T b) : ∀ x v, RV w S x v → RV w' T x v
  | .mk k hh t ls ks vs, v, hv => by
    rw [RV] at hv ⊢
    obtain ⟨la, lc, ka, kc, va, vc, e, h1, h2, h3⟩ := hv
    exact ⟨la, lc, ka, kc, va, vc, e, RL.mono h hT ls la h1, RK.mono h hT ks ka h2, RL.mono h hT vs va h3⟩
theorem RL.mono {w w' : World} {S T : Nat → Prop} (h : Same S w w') (hT : ∀ b, S b → T b) : ∀ l a, RL w S l a → RL w' T l a
  | [], a, _ => by rw [RL]; trivial
  | x :: xs, a, hl => by
    rw [RL] at hl ⊢
    obtain ⟨b, o, c0, c1, c2, c3, c4, c5, ha, hb, h6, hx, hr⟩ := hl
    exact ⟨b, o, c0, c1, c2, c3, c4, c5, ha, hT b hb, Six.mono h hb h6, RV.mono h hT x _ hx, RL.mono h hT xs _ hr⟩
end

/-- the element at a place of a list -/
theorem RL.at {w : World} {S : Nat → Prop} : ∀ (l : List V) (b o : Nat), RL w S l (some ⟨b, o, none⟩) → ∀ i (hi : i < l.length), S b ∧ ∃ c0 c1 c2 c3 c4 c5, Six w b (o + i * 6) c0 c1 c2 c3 c4 c5 ∧ RV w S l[i] (.agg #[c0, c1, c2, c3, c4, c5])
  | [], b, o, _, i, hi => by simp at hi
  | x :: xs, b, o, hl, i, hi => by
    rw [RL] at hl
    obtain ⟨b', o', c0, c1, c2, c3, c4, c5, ha, hb, h6, hx, hr⟩ := hl
    simp only [Option.some.injEq, Addr.mk.injEq, and_true] at ha
    obtain ⟨rfl, rfl⟩ := ha
    cases i with
    | zero => exact ⟨hb, c0, c1, c2, c3, c4, c5, by simpa using h6, hx⟩
    | succ i =>
      obtain ⟨_, d0, d1, d2, d3, d4, d5, k6, kx⟩ := RL.at xs b (o + 6) hr i (by simpa using hi)
      exact ⟨hb, d0, d1, d2, d3, d4, d5, by rw [show o + (i + 1) * 6 = o + 6 + i * 6 by omega]; exact k6, kx⟩
theorem RL.addr {w : World} {S : Nat → Prop} {l : List V} {a : Option Addr} (h : RL w S l a) (hl : 0 < l.length) : ∃ b o, a = some ⟨b, o, none⟩ := by
  cases l with
  | nil => simp at hl
  | cons x xs =>
    rw [RL] at h
    obtain ⟨b, o, _, _, _, _, _, _, ha, _⟩ := h
    exact ⟨b, o, ha⟩
theorem RK.at {w : World} {S : Nat → Prop} : ∀ (l : List ByteArray) (b o : Nat), RK w S l (some ⟨b, o, none⟩) → ∀ i (hi : i < l.length), S b ∧ w.cell? ⟨b, o + i, none⟩ = some (.string l[i])
  | [], b, o, _, i, hi => by simp at hi
  | x :: xs, b, o, ⟨b', o', ha, hb, hc, hr⟩, i, hi => by
    simp only [Option.some.injEq, Addr.mk.injEq, and_true] at ha
    obtain ⟨rfl, rfl⟩ := ha
    cases i with
    | zero => exact ⟨hb, by simpa using hc⟩
    | succ i =>
      obtain ⟨_, k⟩ := RK.at xs b (o + 1) hr i (by simpa using hi)
      exact ⟨hb, by rw [show o + (i + 1) = o + 1 + i by omega]; exact k⟩
theorem RK.addr {w : World} {S : Nat → Prop} {l : List ByteArray} {a : Option Addr} (h : RK w S l a) (hl : 0 < l.length) : ∃ b o, a = some ⟨b, o, none⟩ := by
  cases l with
  | nil => simp at hl
  | cons x xs => obtain ⟨b, o, ha, _⟩ := h; exact ⟨b, o, ha⟩

/-! ### the values of the program -/
/-- a number: an int, or (a half) a float64 -/
def gnum (h : Int) : Value := if h % 2 = 0 then .iface 3 (.int .i64 (h / 2)) else .iface 65 (.float .f64 (fl h))
mutual
/-- g is the program's value of x; every block that it leads to is one of S -/
def GV (w : World) (S : Nat → Prop) : V → Value → Prop
  | .mk k h t ls ks vs, g =>
    (k = 0 ∧ g = .nilIface) ∨ (k = 1 ∧ g = .iface 4 (.bool false)) ∨ (k = 2 ∧ g = .iface 4 (.bool true)) ∨ (k = 3 ∧ g = gnum h) ∨ (k = 4 ∧ g = .iface 9 (.string t)) ∨
    (k = 5 ∧ ∃ a c, g = .iface 60 (.slice a ls.length c) ∧ GL w S ls a) ∨
    (k = 6 ∧ ∃ r es clock, g = .iface 106 (.map (some r)) ∧ S r ∧ w.heap[r]? = some (.map es clock) ∧ MapKept.Stamped es clock ∧ GM w S vs ks es.toList)
def GL (w : World) (S : Nat → Prop) : List V → Option Addr → Prop
  | [], _ => True
  | x :: xs, a => ∃ b o g, a = some ⟨b, o, none⟩ ∧ S b ∧ w.cell? ⟨b, o, none⟩ = some g ∧ GV w S x g ∧ GL w S xs (some ⟨b, o + 1, none⟩)
def GM (w : World) (S : Nat → Prop) : List V → List ByteArray → List MapEntry → Prop
  | [], ks, es => ks = [] ∧ es = []
  | x :: xs, ks, es => ∃ k ks' e es', ks = k :: ks' ∧ es = e :: es' ∧ e.key = .string k ∧ GV w S x e.val ∧ GM w S xs ks' es'
end

mutual
theorem GV.mono {w w' : World} {S T : Nat → Prop} (h : Same S w w') (hT : ∀ b, S b → T b) : ∀ x g, GV w S x g → GV w' T x g
  | .mk k hh t ls ks vs, g, hg => by
    rw [GV] at hg ⊢
    rcases hg with q | q | q | q | q | ⟨q, a, c, e, hl⟩ | ⟨q, r, es, cl, e, hr, hb, hst, hm⟩
    · exact .inl q
    · exact .inr (.inl q)
    · exact .inr (.inr (.inl q))
    · exact .inr (.inr (.inr (.inl q)))
    · exact .inr (.inr (.inr (.inr (.inl q))))
    · exact .inr (.inr (.inr (.inr (.inr (.inl ⟨q, a, c, e, GL.mono h hT ls a hl⟩)))))
    · exact .inr (.inr (.inr (.inr (.inr (.inr ⟨q, r, es, cl, e, hT r hr, (h r hr).trans hb, hst, GM.mono h hT vs ks es.toList hm⟩)))))
theorem GL.mono {w w' : World} {S T : Nat → Prop} (h : Same S w w') (hT : ∀ b, S b → T b) : ∀ l a, GL w S l a → GL w' T l a
  | [], a, _ => by rw [GL]; trivial
  | x :: xs, a, hl => by
    rw [GL] at hl ⊢
    obtain ⟨b, o, g, ha, hb, hc, hx, hr⟩ := hl
    exact ⟨b, o, g, ha, hT b hb, (h.cell hb).trans hc, GV.mono h hT x _ hx, GL.mono h hT xs _ hr⟩
theorem GM.mono {w w' : World} {S T : Nat → Prop} (h : Same S w w') (hT : ∀ b, S b → T b) : ∀ vs ks es, GM w S vs ks es → GM w' T vs ks es
  | [], ks, es, hm => by rw [GM] at hm ⊢; exact hm
  | x :: xs, ks, es, hm => by
    rw [GM] at hm ⊢
    obtain ⟨k, ks', e, es', h1, h2, h3, hx, hr⟩ := hm
    exact ⟨k, ks', e, es', h1, h2, h3, GV.mono h hT x _ hx, GM.mono h hT xs _ _ hr⟩
end

/-- what is read lies in blocks that are there -/
theorem cell_lt {w : World} {b o : Nat} {v : Value} (h : w.cell? ⟨b, o, none⟩ = some v) : b < w.heap.size := by
  rcases Nat.lt_or_ge b w.heap.size with h' | h'
  · exact h'
  · simp [World.cell?, Array.getElem?_eq_none h'] at h
theorem heap_lt {w : World} {b : Nat} {v : Obj} (h : w.heap[b]? = some v) : b < w.heap.size := by
  rcases Nat.lt_or_ge b w.heap.size with h' | h'
  · exact h'
  · rw [Array.getElem?_eq_none h'] at h; cases h
mutual
theorem GV.lt {w : World} {S : Nat → Prop} : ∀ x g, GV w S x g → GV w (fun b => S b ∧ b < w.heap.size) x g
  | .mk k hh t ls ks vs, g, hg => by
    rw [GV] at hg ⊢
    rcases hg with q | q | q | q | q | ⟨q, a, c, e, hl⟩ | ⟨q, r, es, cl, e, hr, hb, hst, hm⟩
    · exact .inl q
    · exact .inr (.inl q)
    · exact .inr (.inr (.inl q))
    · exact .inr (.inr (.inr (.inl q)))
    · exact .inr (.inr (.inr (.inr (.inl q))))
    · exact .inr (.inr (.inr (.inr (.inr (.inl ⟨q, a, c, e, GL.lt ls a hl⟩)))))
    · exact .inr (.inr (.inr (.inr (.inr (.inr ⟨q, r, es, cl, e, ⟨hr, heap_lt hb⟩, hb, hst, GM.lt vs ks es.toList hm⟩)))))
theorem GL.lt {w : World} {S : Nat → Prop} : ∀ l a, GL w S l a → GL w (fun b => S b ∧ b < w.heap.size) l a
  | [], a, _ => by rw [GL]; trivial
  | x :: xs, a, hl => by
    rw [GL] at hl ⊢
    obtain ⟨b, o, g, ha, hb, hc, hx, hr⟩ := hl
    exact ⟨b, o, g, ha, ⟨hb, cell_lt hc⟩, hc, GV.lt x _ hx, GL.lt xs _ hr⟩
theorem GM.lt {w : World} {S : Nat → Prop} : ∀ vs ks es, GM w S vs ks es → GM w (fun b => S b ∧ b < w.heap.size) vs ks es
  | [], ks, es, hm => by rw [GM] at hm ⊢; exact hm
  | x :: xs, ks, es, hm => by
    rw [GM] at hm ⊢
    obtain ⟨k, ks', e, es', h1, h2, h3, hx, hr⟩ := hm
    exact ⟨k, ks', e, es', h1, h2, h3, GV.lt x _ hx, GM.lt xs _ _ hr⟩
end
theorem RK.lt {w : World} {S : Nat → Prop} : ∀ l a, RK w S l a → RK w (fun b => S b ∧ b < w.heap.size) l a
  | [], _, _ => trivial
  | _ :: ts, _, ⟨b, o, ha, hb, hc, hr⟩ => ⟨b, o, ha, ⟨hb, cell_lt hc⟩, hc, RK.lt ts _ hr⟩
mutual
theorem RV.lt {w : World} {S : Nat → Prop} : ∀ x v, RV w S x v → RV w (fun b => S b ∧ b < w.heap.size) x v
  | .mk k hh t ls ks vs, v, hv => by
    rw [RV] at hv ⊢
    obtain ⟨la, lc, ka, kc, va, vc, e, h1, h2, h3⟩ := hv
    exact ⟨la, lc, ka, kc, va, vc, e, RL.lt ls la h1, RK.lt ks ka h2, RL.lt vs va h3⟩
theorem RL.lt {w : World} {S : Nat → Prop} : ∀ l a, RL w S l a → RL w (fun b => S b ∧ b < w.heap.size) l a
  | [], a, _ => by rw [RL]; trivial
  | x :: xs, a, hl => by
    rw [RL] at hl ⊢
    obtain ⟨b, o, c0, c1, c2, c3, c4, c5, ha, hb, h6, hx, hr⟩ := hl
    exact ⟨b, o, c0, c1, c2, c3, c4, c5, ha, ⟨hb, cell_lt h6.1⟩, h6, RV.lt x _ hx, RL.lt xs _ hr⟩
end

theorem GL.at {w : World} {S : Nat → Prop} : ∀ (l : List V) (b o : Nat), GL w S l (some ⟨b, o, none⟩) → ∀ i (hi : i < l.length), S b ∧ ∃ g, w.cell? ⟨b, o + i, none⟩ = some g ∧ GV w S l[i] g
  | [], b, o, _, i, hi => by simp at hi
  | x :: xs, b, o, hl, i, hi => by
    rw [GL] at hl
    obtain ⟨b', o', g, ha, hb, hc, hx, hr⟩ := hl
    simp only [Option.some.injEq, Addr.mk.injEq, and_true] at ha
    obtain ⟨rfl, rfl⟩ := ha
    cases i with
    | zero => exact ⟨hb, g, by simpa using hc, hx⟩
    | succ i =>
      obtain ⟨_, d, kc, kx⟩ := GL.at xs b (o + 1) hr i (by simpa using hi)
      exact ⟨hb, d, by rw [show o + (i + 1) = o + 1 + i by omega]; exact kc, kx⟩
theorem GL.addr {w : World} {S : Nat → Prop} {l : List V} {a : Option Addr} (h : GL w S l a) (hl : 0 < l.length) : ∃ b o, a = some ⟨b, o, none⟩ := by
  cases l with
  | nil => simp at hl
  | cons x xs =>
    rw [GL] at h
    obtain ⟨b, o, _, ha, _⟩ := h
    exact ⟨b, o, ha⟩
/-- a list out of its elements -/
theorem GL.of {w : World} {S : Nat → Prop} : ∀ (l : List V) (b o : Nat), (0 < l.length → S b) → (∀ i (hi : i < l.length), ∃ g, w.cell? ⟨b, o + i, none⟩ = some g ∧ GV w S l[i] g) → GL w S l (some ⟨b, o, none⟩)
  | [], b, o, _, _ => by rw [GL]; trivial
  | x :: xs, b, o, hS, h => by
    rw [GL]
    obtain ⟨g, hc, hx⟩ := h 0 (by simp)
    exact ⟨b, o, g, rfl, hS (by simp), hc, hx, GL.of xs b (o + 1) (fun _ => hS (by simp)) fun i hi => by
      obtain ⟨d, kc, kx⟩ := h (i + 1) (by simpa using hi)
      exact ⟨d, by rw [show o + 1 + i = o + (i + 1) by omega]; exact kc, kx⟩⟩
theorem RL.of {w : World} {S : Nat → Prop} : ∀ (l : List V) (b o : Nat), (0 < l.length → S b) → (∀ i (hi : i < l.length), ∃ c0 c1 c2 c3 c4 c5, Six w b (o + i * 6) c0 c1 c2 c3 c4 c5 ∧ RV w S l[i] (.agg #[c0, c1, c2, c3, c4, c5])) → RL w S l (some ⟨b, o, none⟩)
  | [], b, o, _, _ => by rw [RL]; trivial
  | x :: xs, b, o, hS, h => by
    rw [RL]
    obtain ⟨c0, c1, c2, c3, c4, c5, h6, hx⟩ := h 0 (by simp)
    exact ⟨b, o, c0, c1, c2, c3, c4, c5, rfl, hS (by simp), by simpa using h6, hx, RL.of xs b (o + 6) (fun _ => hS (by simp)) fun i hi => by
      obtain ⟨d0, d1, d2, d3, d4, d5, k6, kx⟩ := h (i + 1) (by simpa using hi)
      exact ⟨d0, d1, d2, d3, d4, d5, by rw [show o + 6 + i * 6 = o + (i + 1) * 6 by omega]; exact k6, kx⟩⟩

/-! ### the values that are right -/
/-- two texts in their order -/
def Rising : List ByteArray → Prop
  | a :: b :: r => Op.bytesLess a.data.toList b.data.toList = true ∧ Rising (b :: r)
  | _ => True
structure Good1 (k h : Int) (t : ByteArray) (ls : List V) (ks : List ByteArray) (vs : List V) : Prop where
  k0 : 0 ≤ k
  k6 : k ≤ 6
  num : k = 3 ∨ h = 0
  txt : k = 4 ∨ t.size = 0
  lst : k = 5 ∨ ls.length = 0
  map : k = 6 ∨ ks.length = 0
  len : ks.length = vs.length
  lo : -18014398509481984 ≤ h
  hi : h ≤ 18014398509481984
  odd : h % 2 = 0 ∨ (-9007199254740992 < h ∧ h < 9007199254740992)
  tb : t.size ≤ 4096
  kb : ∀ s ∈ ks, s.size ≤ 4096
  tv : Lib.validD t.data.toList = true
  kv : ∀ s ∈ ks, Lib.validD s.data.toList = true
mutual
def Good : V → Prop
  | .mk k h t ls ks vs => Good1 k h t ls ks vs ∧ GoodL ls ∧ Rising ks ∧ GoodL vs
def GoodL : List V → Prop
  | [] => True
  | x :: xs => Good x ∧ GoodL xs
end
theorem GoodL.mem {l : List V} (h : GoodL l) : ∀ x ∈ l, Good x := by
  induction l with
  | nil => intro x hx; cases hx
  | cons y ys ih =>
    intro x hx
    rw [GoodL] at h
    rcases List.mem_cons.1 hx with rfl | hx
    · exact h.1
    · exact ih h.2 x hx

end Go.Proofs.YtgjmgneppecfgaaGreatDoor.Va
namespace Go.Proofs.YtgjmgneppecfgaaGreatDoor.Ta
@[go_sem] theorem ta_bool_bool (v : Value) (w : World) : (Instr.typeAssert (.iface 4 v) 20 4 true).run Tryz.prog w = .ok (.tuple #[v, .bool true]) w := by kernel_rfl
@[go_sem] theorem ta_bool_string (v : Value) (w : World) : (Instr.typeAssert (.iface 4 v) 20 9 true).run Tryz.prog w = .ok (.tuple #[.string ⟨#[]⟩, .bool false]) w := by kernel_rfl
@[go_sem] theorem ta_bool_list (v : Value) (w : World) : (Instr.typeAssert (.iface 4 v) 20 60 true).run Tryz.prog w = .ok (.tuple #[.slice none 0 0, .bool false]) w := by kernel_rfl
@[go_sem] theorem ta_bool_map (v : Value) (w : World) : (Instr.typeAssert (.iface 4 v) 20 106 true).run Tryz.prog w = .ok (.tuple #[.map none, .bool false]) w := by kernel_rfl
theorem lacks_bool (v : Value) (w : World) : (Instr.typeAssert (.iface 4 v) 20 75 true).run Tryz.prog w = .ok (.tuple #[.nilIface, .bool false]) w := run_typeAssert_lacksB Tryz.underlying75 (by kernel_rfl) (by kernel_rfl) v 20 w
attribute [go_sem] lacks_bool
@[go_sem] theorem ta_int_bool (v : Value) (w : World) : (Instr.typeAssert (.iface 3 v) 20 4 true).run Tryz.prog w = .ok (.tuple #[.bool false, .bool false]) w := by kernel_rfl
@[go_sem] theorem ta_int_int (v : Value) (w : World) : (Instr.typeAssert (.iface 3 v) 20 3 true).run Tryz.prog w = .ok (.tuple #[v, .bool true]) w := by kernel_rfl
@[go_sem] theorem ta_int_string (v : Value) (w : World) : (Instr.typeAssert (.iface 3 v) 20 9 true).run Tryz.prog w = .ok (.tuple #[.string ⟨#[]⟩, .bool false]) w := by kernel_rfl
@[go_sem] theorem ta_int_list (v : Value) (w : World) : (Instr.typeAssert (.iface 3 v) 20 60 true).run Tryz.prog w = .ok (.tuple #[.slice none 0 0, .bool false]) w := by kernel_rfl
@[go_sem] theorem ta_int_map (v : Value) (w : World) : (Instr.typeAssert (.iface 3 v) 20 106 true).run Tryz.prog w = .ok (.tuple #[.map none, .bool false]) w := by kernel_rfl
theorem lacks_int (v : Value) (w : World) : (Instr.typeAssert (.iface 3 v) 20 75 true).run Tryz.prog w = .ok (.tuple #[.nilIface, .bool false]) w := run_typeAssert_lacksB Tryz.underlying75 (by kernel_rfl) (by kernel_rfl) v 20 w
attribute [go_sem] lacks_int
@[go_sem] theorem ta_float_bool (v : Value) (w : World) : (Instr.typeAssert (.iface 65 v) 20 4 true).run Tryz.prog w = .ok (.tuple #[.bool false, .bool false]) w := by kernel_rfl
@[go_sem] theorem ta_float_int (v : Value) (w : World) : (Instr.typeAssert (.iface 65 v) 20 3 true).run Tryz.prog w = .ok (.tuple #[.int .i64 0, .bool false]) w := by kernel_rfl
@[go_sem] theorem ta_float_float (v : Value) (w : World) : (Instr.typeAssert (.iface 65 v) 20 65 true).run Tryz.prog w = .ok (.tuple #[v, .bool true]) w := by kernel_rfl
@[go_sem] theorem ta_float_string (v : Value) (w : World) : (Instr.typeAssert (.iface 65 v) 20 9 true).run Tryz.prog w = .ok (.tuple #[.string ⟨#[]⟩, .bool false]) w := by kernel_rfl
@[go_sem] theorem ta_float_list (v : Value) (w : World) : (Instr.typeAssert (.iface 65 v) 20 60 true).run Tryz.prog w = .ok (.tuple #[.slice none 0 0, .bool false]) w := by kernel_rfl
@[go_sem] theorem ta_float_map (v : Value) (w : World) : (Instr.typeAssert (.iface 65 v) 20 106 true).run Tryz.prog w = .ok (.tuple #[.map none, .bool false]) w := by kernel_rfl
theorem lacks_float (v : Value) (w : World) : (Instr.typeAssert (.iface 65 v) 20 75 true).run Tryz.prog w = .ok (.tuple #[.nilIface, .bool false]) w := run_typeAssert_lacksB Tryz.underlying75 (by kernel_rfl) (by kernel_rfl) v 20 w
attribute [go_sem] lacks_float
@[go_sem] theorem ta_string_bool (v : Value) (w : World) : (Instr.typeAssert (.iface 9 v) 20 4 true).run Tryz.prog w = .ok (.tuple #[.bool false, .bool false]) w := by kernel_rfl
@[go_sem] theorem ta_string_int (v : Value) (w : World) : (Instr.typeAssert (.iface 9 v) 20 3 true).run Tryz.prog w = .ok (.tuple #[.int .i64 0, .bool false]) w := by kernel_rfl
@[go_sem] theorem ta_string_float (v : Value) (w : World) : (Instr.typeAssert (.iface 9 v) 20 65 true).run Tryz.prog w = .ok (.tuple #[.float .f64 0, .bool false]) w := by kernel_rfl
@[go_sem] theorem ta_string_string (v : Value) (w : World) : (Instr.typeAssert (.iface 9 v) 20 9 true).run Tryz.prog w = .ok (.tuple #[v, .bool true]) w := by kernel_rfl
@[go_sem] theorem ta_string_list (v : Value) (w : World) : (Instr.typeAssert (.iface 9 v) 20 60 true).run Tryz.prog w = .ok (.tuple #[.slice none 0 0, .bool false]) w := by kernel_rfl
@[go_sem] theorem ta_string_map (v : Value) (w : World) : (Instr.typeAssert (.iface 9 v) 20 106 true).run Tryz.prog w = .ok (.tuple #[.map none, .bool false]) w := by kernel_rfl
@[go_sem] theorem ta_string_big (v : Value) (w : World) : (Instr.typeAssert (.iface 9 v) 20 158 true).run Tryz.prog w = .ok (.tuple #[.pointer none, .bool false]) w := by kernel_rfl
@[go_sem] theorem ta_string_num (v : Value) (w : World) : (Instr.typeAssert (.iface 9 v) 20 160 true).run Tryz.prog w = .ok (.tuple #[.string ⟨#[]⟩, .bool false]) w := by kernel_rfl
theorem lacks_string (v : Value) (w : World) : (Instr.typeAssert (.iface 9 v) 20 75 true).run Tryz.prog w = .ok (.tuple #[.nilIface, .bool false]) w := run_typeAssert_lacksB Tryz.underlying75 (by kernel_rfl) (by kernel_rfl) v 20 w
attribute [go_sem] lacks_string
@[go_sem] theorem ta_list_bool (v : Value) (w : World) : (Instr.typeAssert (.iface 60 v) 20 4 true).run Tryz.prog w = .ok (.tuple #[.bool false, .bool false]) w := by kernel_rfl
@[go_sem] theorem ta_list_int (v : Value) (w : World) : (Instr.typeAssert (.iface 60 v) 20 3 true).run Tryz.prog w = .ok (.tuple #[.int .i64 0, .bool false]) w := by kernel_rfl
@[go_sem] theorem ta_list_float (v : Value) (w : World) : (Instr.typeAssert (.iface 60 v) 20 65 true).run Tryz.prog w = .ok (.tuple #[.float .f64 0, .bool false]) w := by kernel_rfl
@[go_sem] theorem ta_list_string (v : Value) (w : World) : (Instr.typeAssert (.iface 60 v) 20 9 true).run Tryz.prog w = .ok (.tuple #[.string ⟨#[]⟩, .bool false]) w := by kernel_rfl
@[go_sem] theorem ta_list_list (v : Value) (w : World) : (Instr.typeAssert (.iface 60 v) 20 60 true).run Tryz.prog w = .ok (.tuple #[v, .bool true]) w := by kernel_rfl
@[go_sem] theorem ta_list_map (v : Value) (w : World) : (Instr.typeAssert (.iface 60 v) 20 106 true).run Tryz.prog w = .ok (.tuple #[.map none, .bool false]) w := by kernel_rfl
@[go_sem] theorem ta_list_big (v : Value) (w : World) : (Instr.typeAssert (.iface 60 v) 20 158 true).run Tryz.prog w = .ok (.tuple #[.pointer none, .bool false]) w := by kernel_rfl
@[go_sem] theorem ta_list_num (v : Value) (w : World) : (Instr.typeAssert (.iface 60 v) 20 160 true).run Tryz.prog w = .ok (.tuple #[.string ⟨#[]⟩, .bool false]) w := by kernel_rfl
theorem lacks_list (v : Value) (w : World) : (Instr.typeAssert (.iface 60 v) 20 75 true).run Tryz.prog w = .ok (.tuple #[.nilIface, .bool false]) w := run_typeAssert_lacksB Tryz.underlying75 (by kernel_rfl) (by kernel_rfl) v 20 w
attribute [go_sem] lacks_list
@[go_sem] theorem ta_map_bool (v : Value) (w : World) : (Instr.typeAssert (.iface 106 v) 20 4 true).run Tryz.prog w = .ok (.tuple #[.bool false, .bool false]) w := by kernel_rfl
@[go_sem] theorem ta_map_int (v : Value) (w : World) : (Instr.typeAssert (.iface 106 v) 20 3 true).run Tryz.prog w = .ok (.tuple #[.int .i64 0, .bool false]) w := by kernel_rfl
@[go_sem] theorem ta_map_float (v : Value) (w : World) : (Instr.typeAssert (.iface 106 v) 20 65 true).run Tryz.prog w = .ok (.tuple #[.float .f64 0, .bool false]) w := by kernel_rfl
@[go_sem] theorem ta_map_string (v : Value) (w : World) : (Instr.typeAssert (.iface 106 v) 20 9 true).run Tryz.prog w = .ok (.tuple #[.string ⟨#[]⟩, .bool false]) w := by kernel_rfl
@[go_sem] theorem ta_map_list (v : Value) (w : World) : (Instr.typeAssert (.iface 106 v) 20 60 true).run Tryz.prog w = .ok (.tuple #[.slice none 0 0, .bool false]) w := by kernel_rfl
@[go_sem] theorem ta_map_map (v : Value) (w : World) : (Instr.typeAssert (.iface 106 v) 20 106 true).run Tryz.prog w = .ok (.tuple #[v, .bool true]) w := by kernel_rfl
@[go_sem] theorem ta_map_big (v : Value) (w : World) : (Instr.typeAssert (.iface 106 v) 20 158 true).run Tryz.prog w = .ok (.tuple #[.pointer none, .bool false]) w := by kernel_rfl
@[go_sem] theorem ta_map_num (v : Value) (w : World) : (Instr.typeAssert (.iface 106 v) 20 160 true).run Tryz.prog w = .ok (.tuple #[.string ⟨#[]⟩, .bool false]) w := by kernel_rfl
theorem lacks_map (v : Value) (w : World) : (Instr.typeAssert (.iface 106 v) 20 75 true).run Tryz.prog w = .ok (.tuple #[.nilIface, .bool false]) w := run_typeAssert_lacksB Tryz.underlying75 (by kernel_rfl) (by kernel_rfl) v 20 w
attribute [go_sem] lacks_map
@[go_sem] theorem ta_nil_string (w : World) : (Instr.typeAssert .nilIface 20 9 true).run Tryz.prog w = .ok (.tuple #[.string ⟨#[]⟩, .bool false]) w := by kernel_rfl
@[go_sem] theorem ta_nil_list (w : World) : (Instr.typeAssert .nilIface 20 60 true).run Tryz.prog w = .ok (.tuple #[.slice none 0 0, .bool false]) w := by kernel_rfl
@[go_sem] theorem ta_nil_map (w : World) : (Instr.typeAssert .nilIface 20 106 true).run Tryz.prog w = .ok (.tuple #[.map none, .bool false]) w := by kernel_rfl
@[go_sem] theorem ta_nil_err (w : World) : (Instr.typeAssert .nilIface 20 75 true).run Tryz.prog w = .ok (.tuple #[.nilIface, .bool false]) w := by kernel_rfl
end Go.Proofs.YtgjmgneppecfgaaGreatDoor.Ta
