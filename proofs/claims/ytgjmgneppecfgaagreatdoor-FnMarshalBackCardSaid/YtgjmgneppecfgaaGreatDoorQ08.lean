/-
  Plain: the sign of cmp is the order of the numbers; of half a whole number none of fewer digits lies between its two edges.
-/
import Derived.Test.YtgjmgneppecfgaaGreatDoorQ07
set_option linter.unusedVariables false
set_option linter.unusedSimpArgs false
namespace Go.Proofs.YtgjmgneppecfgaaGreatDoor.Ma
set_option linter.unusedVariables false

theorem preD_more_le (d : List Nat) (i : Nat) : ∀ t, preD d i * 10 ^ t ≤ preD d (i + t)
  | 0 => by simp
  | t + 1 => by
    have := preD_more_le d i t
    rw [← Nat.add_assoc, preD, Nat.pow_succ, ← Nat.mul_assoc]
    omega
theorem getD_all {d : List Nat} (h : ∀ x ∈ d, x < 10) (i : Nat) : d.getD i 0 < 10 := by
  by_cases hi : i < d.length
  · rw [List.getD, List.getElem?_eq_getElem hi]; exact h _ (List.getElem_mem hi)
  · rw [List.getD, List.getElem?_eq_none (by omega)]; decide
theorem preD_more_lt {d : List Nat} (h : ∀ x ∈ d, x < 10) (i : Nat) : ∀ t, preD d (i + t) < (preD d i + 1) * 10 ^ t
  | 0 => by simp
  | t + 1 => by
    have := preD_more_lt h i t
    have h9 := getD_all h (i + t)
    rw [← Nat.add_assoc, preD, Nat.pow_succ, ← Nat.mul_assoc]
    omega
theorem preD_mono {d e : List Nat} (h : ∀ x ∈ d, x < 10) {i : Nat} (hl : preD d i < preD e i) : ∀ t, preD d (i + t) < preD e (i + t)
  | 0 => hl
  | t + 1 => by
    have := preD_mono h hl t
    have h9 := getD_all h (i + t)
    rw [← Nat.add_assoc, preD, preD]
    omega
theorem cmpF_pos {d e : List Nat} (hd : ∀ x ∈ d, x < 10) (H : ∀ M, d.length ≤ M → e.length ≤ M → preD e M < preD d M) :
    ∀ (m i : Nat), preD d i = preD e i → d.length + e.length + 1 ≤ m + i → 0 < cmpF d e m i
  | 0, i, hq, hm => by have := H i (by omega) (by omega); omega
  | m + 1, i, hq, hm => by
    rw [cmpF]
    split
    · rename_i h
      have := H i h.1 h.2
      omega
    · rename_i hne
      split
      · rename_i hx
        by_cases hlt : d.getD i 0 < e.getD i 0
        · exfalso
          have h1 : preD d (i + 1) < preD e (i + 1) := by rw [preD, preD, hq]; omega
          have h2 := preD_mono hd h1 (d.length + e.length)
          have h3 := H (i + 1 + (d.length + e.length)) (by omega) (by omega)
          omega
        · omega
      · rename_i hx
        have hx : d.getD i 0 = e.getD i 0 := Decidable.of_not_not hx
        exact cmpF_pos hd H m (i + 1) (by rw [preD, preD, hq, hx]) (by omega)
/-- a row of digits as a decimal has it -/
structure Row (d : List Nat) : Prop where
  pos : 0 < d.length
  head : d.getD 0 0 ≠ 0
  all : ∀ x ∈ d, x < 10
theorem cmp_pos {d e : List Nat} {dp ep : Int} {S : Nat} (hd : Row d) (he : e.length = 0 ∨ Row e) (h1 : (d.length : Int) ≤ dp + S) (h2 : (e.length : Int) ≤ ep + S)
    (H : numD e * 10 ^ (ep - e.length + S).toNat < numD d * 10 ^ (dp - d.length + S).toNat) : 0 < cmpD d dp e ep := by
  have hp := hd.pos
  unfold cmpD
  by_cases h0 : e.length = 0
  · rw [if_pos (.inr h0)]; omega
  · have he : Row e := he.resolve_left h0
    rw [if_neg (by omega)]
    have a1 := numD_lt d hd.all
    have a2 := numD_ge e he.pos he.head
    split
    · rename_i hne
      by_cases hlt : dp < ep
      · exfalso
        have b1 : numD d * 10 ^ (dp - d.length + S).toNat ≤ 10 ^ (dp + S).toNat := by
          refine Nat.le_trans (Nat.mul_le_mul_right _ (Nat.le_of_lt a1)) ?_
          rw [← Nat.pow_add]
          exact Nat.pow_le_pow_right (by decide) (by omega)
        have b2 : 10 ^ (dp + S).toNat ≤ numD e * 10 ^ (ep - e.length + S).toNat := by
          refine Nat.le_trans ?_ (Nat.mul_le_mul_right _ a2)
          rw [← Nat.pow_add]
          have := he.pos
          exact Nat.pow_le_pow_right (by decide) (by omega)
        omega
      · omega
    · rename_i heq
      have heq : dp = ep := Decidable.of_not_not heq
      subst heq
      refine cmpF_pos hd.all (fun M hM1 hM2 => ?_) _ 0 rfl (by omega)
      obtain ⟨a, rfl⟩ : ∃ a, M = d.length + a := ⟨M - d.length, by omega⟩
      obtain ⟨b, hb⟩ : ∃ b, d.length + a = e.length + b := ⟨d.length + a - e.length, by omega⟩
      obtain ⟨N, hN⟩ : ∃ N : Nat, dp + S = (N : Int) := ⟨(dp + S).toNat, by omega⟩
      have e1 : (dp - d.length + S).toNat + (d.length + a) = N + a := by omega
      have e2 : (dp - e.length + S).toNat + (d.length + a) = N + b := by omega
      have H2 := Nat.mul_lt_mul_of_pos_right H (Nat.pow_pos (n := d.length + a) (show 0 < 10 by decide))
      rw [Nat.mul_assoc, Nat.mul_assoc, ← Nat.pow_add, ← Nat.pow_add, e1, e2, Nat.pow_add, Nat.pow_add, Nat.mul_left_comm, Nat.mul_left_comm (numD d)] at H2
      have H3 := Nat.lt_of_mul_lt_mul_left H2
      rw [preD_more, hb, preD_more]
      exact H3
theorem canD_row {n : Nat} (h : 0 < n) : Row (canD n) := by
  unfold canD
  obtain ⟨z, hz⟩ := stripZ_dec (dg n)
  have h0 := dg_head n h
  have hl : 0 < (stripZ (dg n)).length := by
    rcases Nat.eq_zero_or_pos (stripZ (dg n)).length with q | q
    · exfalso
      rw [List.eq_nil_of_length_eq_zero q, List.nil_append] at hz
      rw [hz] at h0
      cases z with
      | zero => simp at h0
      | succ z => simp [List.replicate_succ] at h0
    · exact q
  refine ⟨hl, ?_, fun x hx => dg_all n x (by rw [hz]; exact List.mem_append_left _ hx)⟩
  rw [hz, getD_app_left hl] at h0
  exact h0
theorem numD_rep (l : List Nat) : ∀ z, numD (l ++ List.replicate z 0) = numD l * 10 ^ z
  | 0 => by simp
  | z + 1 => by rw [List.replicate_succ', ← List.append_assoc, numD_snoc, numD_rep l z, Nat.add_zero, Nat.pow_succ, Nat.mul_comm 10, Nat.mul_assoc]
theorem canD_num (n : Nat) : (canD n).length ≤ (dg n).length ∧ numD (canD n) * 10 ^ ((dg n).length - (canD n).length) = n := by
  obtain ⟨z, hz⟩ := stripZ_dec (dg n)
  have e : (dg n).length = (canD n).length + z := by
    have := congrArg List.length hz
    rwa [List.length_append, List.length_replicate] at this
  refine ⟨by omega, ?_⟩
  rw [e, Nat.add_sub_cancel_left, ← numD_rep]
  have : numD (dg n) = n := numD_dg n
  rw [hz] at this
  exact this
/-- a decimal of n / 10^j, at a scale -/
theorem canD_val {n j S : Nat} (h : 0 < n) (hS : j ≤ S) : ((canD n).length : Int) ≤ ((dg n).length : Int) - j + S ∧ numD (canD n) * 10 ^ (((dg n).length : Int) - j - (canD n).length + S).toNat = n * 10 ^ (S - j) := by
  obtain ⟨h1, h2⟩ := canD_num n
  refine ⟨by omega, ?_⟩
  have e : (((dg n).length : Int) - j - (canD n).length + S).toNat = ((dg n).length - (canD n).length) + (S - j) := by omega
  rw [e, Nat.pow_add, ← Nat.mul_assoc, h2]
theorem stripZ_row {l : List Nat} (h : Row l) : Row (stripZ l) ∧ (stripZ l).length ≤ l.length ∧ numD (stripZ l) * 10 ^ (l.length - (stripZ l).length) = numD l := by
  have e := dg_numD l h.pos h.head h.all
  have h1 := canD_row (numD_pos h.pos h.head)
  have h2 := canD_num (numD l)
  unfold canD at h1 h2
  rw [e] at h1 h2
  exact ⟨h1, h2⟩
theorem take_row {d : List Nat} (h : Row d) {n : Nat} (hn : 0 < n) (hl : n ≤ d.length) : Row (d.take n) := by
  have hp := h.pos
  refine ⟨by rw [List.length_take]; omega, ?_, fun x hx => h.all x (List.mem_of_mem_take hx)⟩
  have := h.head
  rw [List.getD, List.getElem?_take, if_pos hn]
  exact this
/-- up's digits, and how far the point moves -/
def upL (d : List Nat) : Nat → List Nat
  | 0 => [1]
  | i + 1 => if d.getD i 0 < 9 then d.take i ++ [d.getD i 0 + 1] else upL d i
def upE (d : List Nat) : Nat → Int
  | 0 => 1
  | i + 1 => if d.getD i 0 < 9 then 0 else upE d i
theorem upL_row {d : List Nat} (h : Row d) : ∀ n, n ≤ d.length → Row (upL d n)
  | 0, _ => ⟨by simp [upL], by simp [upL], by simp [upL]⟩
  | n + 1, hn => by
    rw [upL]
    split
    · rename_i h9
      refine ⟨by simp, ?_, fun x hx => ?_⟩
      · by_cases h0 : n = 0
        · subst h0; simp
        · have hr := take_row h (show 0 < n by omega) (by omega)
          rw [getD_app_left hr.pos]
          exact hr.head
      · rcases List.mem_append.1 hx with q | q
        · exact h.all x (List.mem_of_mem_take q)
        · rw [List.mem_singleton] at q; omega
    · exact upL_row h n (by omega)
theorem upL_len {d : List Nat} : ∀ n, n ≤ d.length → ((upL d n).length : Int) ≤ n + upE d n
  | 0, _ => by simp [upL, upE]
  | n + 1, hn => by
    rw [upL, upE]
    split
    · rw [List.length_append, List.length_take]; simp; omega
    · have := upL_len (d := d) n (by omega); omega
theorem upE_01 (d : List Nat) : ∀ n, upE d n = 0 ∨ upE d n = 1
  | 0 => .inr rfl
  | n + 1 => by rw [upE]; split; exact .inl rfl; exact upE_01 d n
theorem upL_val {d : List Nat} (h : ∀ x ∈ d, x < 10) : ∀ n, n ≤ d.length → numD (upL d n) * 10 ^ (n + upE d n - (upL d n).length).toNat = preD d n + 1
  | 0, _ => by simp [upL, upE, numD, preD]
  | n + 1, hn => by
    have h10 := getD_all h n
    rw [upL, upE, preD]
    split
    · have e : (((n + 1 : Nat) : Int) + 0 - (d.take n ++ [d.getD n 0 + 1]).length).toNat = 0 := by
        rw [List.length_append, List.length_take]; simp; omega
      rw [e, numD_snoc, preD_take d n (by omega), Nat.pow_zero, Nat.mul_one, Nat.add_assoc]
    · have ih := upL_val h n (by omega)
      have hl := upL_len (d := d) n (by omega)
      have e : (((n + 1 : Nat) : Int) + upE d n - (upL d n).length).toNat = ((n : Int) + upE d n - (upL d n).length).toNat + 1 := by omega
      rw [e, Nat.pow_succ, ← Nat.mul_assoc, ih]
      omega
/-- half a whole number: its digits, with the 5 behind the point -/
theorem five_row {h : Nat} (hh : 0 < h) : Row (dg (5 * h)) := ⟨dg_len_pos _, dg_head _ (by omega), dg_all _⟩
theorem five_pre {h : Nat} (ho : h % 2 = 1) : preD (dg (5 * h)) ((dg (5 * h)).length - 1) = h / 2 := by
  have hp := dg_len_pos (5 * h)
  have h1 := preD_all (dg (5 * h))
  obtain ⟨L, hL⟩ : ∃ L, (dg (5 * h)).length = L + 1 := ⟨_, (Nat.succ_pred_eq_of_pos hp).symm⟩
  rw [hL, numD_dg, preD] at h1
  rw [hL, Nat.add_sub_cancel]
  have h9 := getD_all (dg_all (5 * h)) L
  omega
theorem five_down {h n S : Nat} (ho : h % 2 = 1) (hn : n < (dg (5 * h)).length) :
    ((stripZ ((dg (5 * h)).take n)).length = 0 ∨ Row (stripZ ((dg (5 * h)).take n))) ∧ ((stripZ ((dg (5 * h)).take n)).length : Int) ≤ trimP ((dg (5 * h)).take n) ((dg (5 * h)).length - 1 : Nat) + S ∧
      numD (stripZ ((dg (5 * h)).take n)) * 10 ^ (trimP ((dg (5 * h)).take n) ((dg (5 * h)).length - 1 : Nat) - (stripZ ((dg (5 * h)).take n)).length + S).toNat ≤ h / 2 * 10 ^ S := by
  have hh : 0 < h := by omega
  have hr := five_row hh
  have hpre := five_pre ho
  generalize dg (5 * h) = d at hn hr hpre ⊢
  by_cases h0 : n = 0
  · subst h0
    rw [List.take_zero]
    exact ⟨.inl rfl, by simp [stripZ, trimP], by simp [stripZ, numD]⟩
  · have ht := take_row hr (show 0 < n by omega) (by omega)
    obtain ⟨h1, h2, h3⟩ := stripZ_row ht
    have hlen : (d.take n).length = n := by rw [List.length_take]; omega
    rw [hlen] at h2 h3
    have hne : stripZ (d.take n) ≠ [] := by intro q; have := h1.pos; rw [q] at this; exact absurd this (by decide)
    unfold trimP
    rw [if_neg hne]
    refine ⟨.inr h1, by omega, ?_⟩
    have e : (((d.length - 1 : Nat) : Int) - (stripZ (d.take n)).length + S).toNat = (n - (stripZ (d.take n)).length) + (d.length - 1 - n) + S := by omega
    rw [e, Nat.pow_add, Nat.pow_add, ← Nat.mul_assoc, ← Nat.mul_assoc, h3, ← preD_take d n (by omega)]
    refine Nat.mul_le_mul_right _ ?_
    have := preD_more_le d n (d.length - 1 - n)
    rw [show n + (d.length - 1 - n) = d.length - 1 by omega, hpre] at this
    exact this
theorem five_up {h n S : Nat} (ho : h % 2 = 1) (hn : n < (dg (5 * h)).length) :
    Row (upL (dg (5 * h)) n) ∧ ((upL (dg (5 * h)) n).length : Int) ≤ ((dg (5 * h)).length - 1 : Nat) + upE (dg (5 * h)) n + S ∧
      (h / 2 + 1) * 10 ^ S ≤ numD (upL (dg (5 * h)) n) * 10 ^ (((dg (5 * h)).length - 1 : Nat) + upE (dg (5 * h)) n - (upL (dg (5 * h)) n).length + S).toNat := by
  have hr := five_row (show 0 < h by omega)
  have hpre := five_pre ho
  generalize dg (5 * h) = d at hn hr hpre ⊢
  have hl := upL_len (d := d) n (by omega)
  have h01 := upE_01 d n
  refine ⟨upL_row hr n (by omega), by omega, ?_⟩
  have hv := upL_val hr.all n (by omega)
  have e : (((d.length - 1 : Nat) : Int) + upE d n - (upL d n).length + S).toNat = ((n : Int) + upE d n - (upL d n).length).toNat + (d.length - 1 - n) + S := by omega
  rw [e, Nat.pow_add, Nat.pow_add, ← Nat.mul_assoc, ← Nat.mul_assoc, hv]
  refine Nat.mul_le_mul_right _ ?_
  have := preD_more_lt hr.all n (d.length - 1 - n)
  rw [show n + (d.length - 1 - n) = d.length - 1 by omega, hpre] at this
  exact this
/-- a decimal's place of n / 10^j -/
def canP (n j : Nat) : Int := ((dg n).length : Int) - j
theorem pow5_lt {k : Nat} (hk : 0 < k) : 5 ^ k < 10 ^ k := Nat.pow_lt_pow_left (by decide) (by omega)
theorem low_gt {h k n : Nat} (ho : h % 2 = 1) (hk : 0 < k) (hn : n < (dg (5 * h)).length) (L j : Nat) (hL : 0 < L) (hj : j ≤ k + 2) (hLv : h / 2 * 10 ^ (k + 2) < L * 10 ^ (k + 2 - j)) :
    0 < cmpD (canD L) (canP L j) (stripZ ((dg (5 * h)).take n)) (trimP ((dg (5 * h)).take n) ((dg (5 * h)).length - 1 : Nat)) := by
  obtain ⟨h1, h2, h3⟩ := five_down (S := k + 2) ho hn
  obtain ⟨h4, h5⟩ := canD_val hL hj
  exact cmp_pos (S := k + 2) (canD_row hL) h1 h4 h2 (by unfold canP; rw [h5]; omega)
theorem up_gt {h k n : Nat} (ho : h % 2 = 1) (hk : 0 < k) (hn : n < (dg (5 * h)).length) (H j : Nat) (hH : 0 < H) (hj : j ≤ k + 2) (hHv : H * 10 ^ (k + 2 - j) < (h / 2 + 1) * 10 ^ (k + 2)) :
    0 < cmpD (upL (dg (5 * h)) n) (((dg (5 * h)).length - 1 : Nat) + upE (dg (5 * h)) n) (canD H) (canP H j) := by
  obtain ⟨h1, h2, h3⟩ := five_up (S := k + 2) ho hn
  obtain ⟨h4, h5⟩ := canD_val hH hj
  exact cmp_pos (S := k + 2) h1 (.inr (canD_row hH)) h2 h4 (by unfold canP; rw [h5]; omega)
theorem five_dg {h : Nat} (ho : h % 2 = 1) : canD (5 * h) = dg (5 * h) := by
  unfold canD
  by_cases hs : 5 * h < 10
  · rw [dg_small hs, show [5 * h] = [] ++ [5 * h] from rfl, stripZ_end _ _ (by omega)]
  · rw [dg_ge (by omega), stripZ_end _ _ (by omega)]
/-- what shift leaves of the mantissa: the digits of 5 * h, one of them behind the point -/
theorem mant_can {h k m : Nat} (ho : h % 2 = 1) (hk : 0 < k) (hm : m = h * 2 ^ (k - 1)) : canD (m * 5 ^ k) = dg (5 * h) ∧ canP (m * 5 ^ k) k = ((dg (5 * h)).length - 1 : Nat) := by
  obtain ⟨j, rfl⟩ : ∃ j, k = j + 1 := ⟨k - 1, by omega⟩
  have e : m * 5 ^ (j + 1) = 5 * h * 10 ^ j := by
    rw [hm, Nat.add_sub_cancel, Nat.pow_succ, ← pow_split j]
    simp only [Nat.mul_assoc, Nat.mul_comm, Nat.mul_left_comm]
  have hp : 0 < 5 * h := by omega
  rw [e]
  refine ⟨by rw [canD_pow hp, five_dg ho], ?_⟩
  unfold canP
  rw [len_pow hp]
  have := dg_len_pos (5 * h)
  omega
theorem edges {h k m : Nat} (ho : h % 2 = 1) (hk : 0 < k) (hm : m = h * 2 ^ (k - 1)) :
    h / 2 * 10 ^ (k + 2) < (2 * m - 1) * 5 ^ (k + 1) * 10 ^ (k + 2 - (k + 1)) ∧ h / 2 * 10 ^ (k + 2) < (4 * m - 1) * 5 ^ (k + 2) * 10 ^ (k + 2 - (k + 2)) ∧
      (2 * m + 1) * 5 ^ (k + 1) * 10 ^ (k + 2 - (k + 1)) < (h / 2 + 1) * 10 ^ (k + 2) := by
  obtain ⟨K, rfl⟩ : ∃ K, h = 2 * K + 1 := ⟨h / 2, by omega⟩
  rw [show (2 * K + 1) / 2 = K by omega]
  have h1 : k + 2 - (k + 1) = 1 := by omega
  rw [h1, Nat.sub_self, Nat.pow_one, Nat.pow_zero, Nat.mul_one]
  have e2 : 2 * m = (2 * K + 1) * 2 ^ k := by
    obtain ⟨j, rfl⟩ : ∃ j, k = j + 1 := ⟨k - 1, by omega⟩
    rw [hm, Nat.add_sub_cancel, Nat.pow_succ]
    simp only [Nat.mul_comm, Nat.mul_left_comm]
  have p5 := pow5_lt hk
  have p := pow_split k
  have e10 : 10 ^ (k + 2) = 10 ^ k * 100 := by rw [Nat.pow_add]
  have e51 : 5 ^ (k + 1) = 5 ^ k * 5 := by rw [Nat.pow_add]
  have e52 : 5 ^ (k + 2) = 5 ^ k * 25 := by rw [Nat.pow_add]
  have hm4 : 4 * m - 1 = 2 * (2 * m) - 1 := by omega
  rw [hm4, e2, e10, e51, e52, ← p]
  have q2 : 0 < 2 ^ k := Nat.pow_pos (by decide)
  have q5 : 0 < 5 ^ k := Nat.pow_pos (by decide)
  rw [← p] at p5
  generalize 2 ^ k = a at *
  generalize 5 ^ k = b at *
  have r1 : 1 ≤ (2 * K + 1) * a := Nat.mul_pos (by omega) q2
  refine ⟨?_, ?_, ?_⟩
  · have : ((2 * K + 1) * a - 1) * (b * 5) * 10 + b * 50 = (2 * K + 1) * a * b * 50 := by
      obtain ⟨c, hc⟩ : ∃ c, (2 * K + 1) * a = c + 1 := ⟨_, (Nat.succ_pred_eq_of_pos r1).symm⟩
      rw [hc, Nat.add_sub_cancel, Nat.add_mul c 1 b]
      rw [show c * (b * 5) * 10 = c * b * 50 by simp only [Nat.mul_assoc]]
      omega
    have e3 : (2 * K + 1) * a * b * 50 = K * (a * b * 100) + a * b * 50 := by
      rw [Nat.mul_assoc (2 * K + 1), Nat.add_mul (2 * K) 1 (a * b), Nat.mul_assoc 2, Nat.mul_comm (a * b) 100, Nat.mul_left_comm K 100]
      omega
    omega
  · have : (2 * ((2 * K + 1) * a) - 1) * (b * 25) + b * 25 = (2 * K + 1) * a * b * 50 := by
      obtain ⟨c, hc⟩ : ∃ c, (2 * K + 1) * a = c + 1 := ⟨_, (Nat.succ_pred_eq_of_pos r1).symm⟩
      rw [hc, show 2 * (c + 1) - 1 = 2 * c + 1 by omega, Nat.add_mul (2 * c) 1, Nat.add_mul c 1 b, Nat.mul_assoc 2, show c * (b * 25) = c * b * 25 by simp only [Nat.mul_assoc]]
      omega
    have e3 : (2 * K + 1) * a * b * 50 = K * (a * b * 100) + a * b * 50 := by
      rw [Nat.mul_assoc (2 * K + 1), Nat.add_mul (2 * K) 1 (a * b), Nat.mul_assoc 2, Nat.mul_comm (a * b) 100, Nat.mul_left_comm K 100]
      omega
    omega
  · have : ((2 * K + 1) * a + 1) * (b * 5) * 10 = (2 * K + 1) * a * b * 50 + b * 50 := by
      rw [Nat.add_mul, Nat.add_mul, show (2 * K + 1) * a * (b * 5) * 10 = (2 * K + 1) * a * b * 50 by simp only [Nat.mul_assoc]]
      omega
    have e3 : (2 * K + 1) * a * b * 50 = K * (a * b * 100) + a * b * 50 := by
      rw [Nat.mul_assoc (2 * K + 1), Nat.add_mul (2 * K) 1 (a * b), Nat.mul_assoc 2, Nat.mul_comm (a * b) 100, Nat.mul_left_comm K 100]
      omega
    rw [Nat.add_mul K 1]
    omega
end Go.Proofs.YtgjmgneppecfgaaGreatDoor.Ma
/-
  Plain: the JSON text of a value.
-/
namespace Go.Proofs.YtgjmgneppecfgaaGreatDoor.Ma
open Go.RowKit Go.Proofs.YtgjmgneppecfgaaGreatDoor.Va Go.Proofs.YtgjmgneppecfgaaGreatDoor.Ba
set_option linter.unusedVariables false

def hexd (n : Nat) : Nat := if n < 10 then 48 + n else 87 + n
/-- a byte that stands for itself -/
def plainB (c : Nat) : Bool := (decide (32 ≤ c) && decide (c ≤ 126) && decide (c ≠ 34) && decide (c ≠ 92)) || decide (128 ≤ c)
def escB (c : Nat) : List Nat :=
  if plainB c then [c] else if c = 34 then [92, 34] else if c = 92 then [92, 92] else if c = 8 then [92, 98] else if c = 12 then [92, 102] else if c = 10 then [92, 110] else if c = 13 then [92, 114] else if c = 9 then [92, 116]
  else [92, 117, 48, 48, hexd (c / 16), hexd (c % 16)]
def escL (l : List Nat) : List Nat := l.flatMap escB
def encStr (l : List Nat) : List Nat := 34 :: (escL l ++ [34])
def numJ (h : Int) : List Nat := (if h < 0 then [45] else []) ++ (digs (h.natAbs / 2) ++ (if h % 2 = 0 then [] else [46, 53]))
mutual
/-- the JSON text of a value -/
def encJ : V → List Nat
  | .mk k h t ls ks vs => if k = 0 then [110, 117, 108, 108] else if k = 1 then [102, 97, 108, 115, 101] else if k = 2 then [116, 114, 117, 101] else if k = 3 then numJ h else if k = 4 then encStr (bytesN t)
    else if k = 5 then 91 :: ((encC ls).tail ++ [93]) else 123 :: ((encM vs ks).tail ++ [125])
/-- the elements, a comma ahead of each -/
def encC : List V → List Nat
  | [] => []
  | x :: xs => 44 :: (encJ x ++ encC xs)
def encM : List V → List ByteArray → List Nat
  | [], _ => []
  | _ :: _, [] => []
  | v :: vs, k :: ks => 44 :: (encStr (bytesN k) ++ (58 :: (encJ v ++ encM vs ks)))
end
theorem encC_append : ∀ (a b : List V), encC (a ++ b) = encC a ++ encC b
  | [], b => by rw [encC]; rfl
  | x :: xs, b => by rw [List.cons_append, encC, encC, encC_append xs b]; simp
theorem encM_append : ∀ (a b : List V) (c d : List ByteArray), a.length = c.length → encM (a ++ b) (c ++ d) = encM a c ++ encM b d
  | [], b, [], d, _ => by simp [encM]
  | [], b, _ :: _, d, h => by simp at h
  | _ :: _, b, [], d, h => by simp at h
  | x :: xs, b, k :: ks, d, h => by
    rw [List.cons_append, List.cons_append, encM, encM, encM_append xs b ks d (by simpa using h)]
    simp
theorem tail_append {a b : List Nat} (h : a ≠ []) : (a ++ b).tail = a.tail ++ b := by
  cases a with
  | nil => exact absurd rfl h
  | cons x xs => rfl
theorem encC_ne {l : List V} (h : 0 < l.length) : encC l ≠ [] := by
  cases l with
  | nil => cases h
  | cons x xs => rw [encC]; exact List.cons_ne_nil _ _
theorem encM_ne {l : List V} {k : List ByteArray} (h : 0 < l.length) (hk : l.length = k.length) : encM l k ≠ [] := by
  cases l with
  | nil => cases h
  | cons x xs => cases k with
    | nil => simp at hk
    | cons y ys => rw [encM]; exact List.cons_ne_nil _ _
/-- one element more -/
theorem encC_next {l : List V} {i : Nat} (h : i < l.length) : (encC (l.take (i + 1))).tail = (if 0 < i then (encC (l.take i)).tail ++ [44] else []) ++ encJ l[i] := by
  rw [List.take_succ_eq_append_getElem h, encC_append, encC, encC, List.append_nil]
  by_cases h0 : 0 < i
  · rw [if_pos h0, tail_append (encC_ne (by rw [List.length_take]; omega)), List.append_assoc]
    rfl
  · obtain rfl : i = 0 := by omega
    rw [if_neg (by omega), List.take_zero, encC]
    rfl
theorem encM_next {l : List V} {k : List ByteArray} {i : Nat} (h : i < l.length) (hk : l.length = k.length) :
    (encM (l.take (i + 1)) (k.take (i + 1))).tail = (if 0 < i then (encM (l.take i) (k.take i)).tail ++ [44] else []) ++ (encStr (bytesN (k[i]'(by omega))) ++ 58 :: encJ l[i]) := by
  have h' : i < k.length := by omega
  rw [List.take_succ_eq_append_getElem h, List.take_succ_eq_append_getElem h', encM_append _ _ _ _ (by rw [List.length_take, List.length_take]; omega), encM, encM, List.append_nil]
  by_cases h0 : 0 < i
  · rw [if_pos h0, tail_append (encM_ne (by rw [List.length_take]; omega) (by rw [List.length_take, List.length_take]; omega)), List.append_assoc]
    rfl
  · obtain rfl : i = 0 := by omega
    rw [if_neg (by omega), List.take_zero, List.take_zero, encM]
    rfl
theorem numJ_even {h : Int} (he : h % 2 = 0) : numJ h = itoa (h / 2) := by
  unfold numJ itoa
  rw [if_pos he, List.append_nil]
  by_cases hn : h < 0
  · rw [if_pos hn, if_pos (by omega), show (-(h / 2)).toNat = h.natAbs / 2 by omega]
    rfl
  · rw [if_neg hn, if_neg (by omega), show (h / 2).toNat = h.natAbs / 2 by omega]
    rfl
theorem escB_lt {c : Nat} (h : c < 256) : ∀ x ∈ escB c, x < 256 := by
  intro x hx
  unfold escB at hx
  repeat' split at hx
  all_goals simp at hx
  all_goals try omega
  rcases hx with rfl | rfl | rfl | rfl | rfl
  all_goals try omega
  all_goals (unfold hexd; split <;> omega)
theorem escL_lt {l : List Nat} (h : ∀ x ∈ l, x < 256) : ∀ x ∈ escL l, x < 256 := by
  intro x hx
  unfold escL at hx
  obtain ⟨c, hc, hx⟩ := List.mem_flatMap.1 hx
  exact escB_lt (h c hc) x hx
theorem encStr_lt {l : List Nat} (h : ∀ x ∈ l, x < 256) : ∀ x ∈ encStr l, x < 256 := by
  intro x hx
  unfold encStr at hx
  rcases List.mem_cons.1 hx with rfl | hx
  · decide
  · rcases List.mem_append.1 hx with q | q
    · exact escL_lt h x q
    · rw [List.mem_singleton] at q; omega
theorem escB_len (c : Nat) : (escB c).length ≤ 6 := by
  unfold escB
  repeat' split
  all_goals simp
theorem escL_len : ∀ (l : List Nat), (escL l).length ≤ 6 * l.length
  | [] => by simp [escL]
  | x :: xs => by
    have := escL_len xs
    have := escB_len x
    unfold escL at *
    rw [List.flatMap_cons, List.length_append, List.length_cons]
    omega
theorem encStr_len (l : List Nat) : (encStr l).length ≤ 6 * l.length + 2 := by
  unfold encStr
  have := escL_len l
  rw [List.length_cons, List.length_append]
  simp
  omega
theorem numJ_len {h : Int} (h0 : h.natAbs ≤ 18014398509481984) : (numJ h).length ≤ 30 := by
  unfold numJ
  have := digs_len (n := h.natAbs / 2) (by omega)
  rw [List.length_append, List.length_append]
  split <;> split <;> simp <;> omega
/-- how long a text can be -/
def NodeLen : Nat := 2 ^ 35
mutual
theorem encJ_len : ∀ (x : V), Va.Good x → (encJ x).length + 17179869184 ≤ x.size * NodeLen
  | .mk k h t ls ks vs, hg => by
    rw [Va.Good] at hg
    obtain ⟨g, gl, _, gv⟩ := hg
    have h1 := encC_len ls gl
    have h2 := encM_len vs ks g.kb gv
    have h3 := encStr_len (bytesN t)
    have h4 := numJ_len (h := h) (by have := g.lo; have := g.hi; omega)
    have ht := g.tb
    rw [bytesN_len] at h3
    rw [encJ, V.size]
    unfold NodeLen at *
    repeat' split
    all_goals (try simp only [List.length_cons, List.length_append, List.length_nil, List.length_tail])
    all_goals omega
theorem encC_len : ∀ (l : List V), GoodL l → (encC l).length ≤ sizeL l * NodeLen
  | [], _ => by rw [encC]; simp
  | x :: xs, hg => by
    rw [GoodL] at hg
    have h1 := encJ_len x hg.1
    have h2 := encC_len xs hg.2
    rw [encC, sizeL]
    unfold NodeLen at *
    simp only [List.length_cons, List.length_append]
    omega
theorem encM_len : ∀ (l : List V) (ks : List ByteArray), (∀ s ∈ ks, s.size ≤ 2147483647) → GoodL l → (encM l ks).length ≤ sizeL l * NodeLen
  | [], _, _, _ => by rw [encM]; simp
  | _ :: _, [], _, _ => by rw [encM]; simp
  | x :: xs, k :: ks, hk, hg => by
    rw [GoodL] at hg
    have h1 := encJ_len x hg.1
    have h2 := encM_len xs ks (fun s hs => hk s (List.mem_cons_of_mem _ hs)) hg.2
    have h3 := encStr_len (bytesN k)
    have h4 := hk k List.mem_cons_self
    rw [bytesN_len] at h3
    rw [encM, sizeL]
    unfold NodeLen at *
    simp only [List.length_cons, List.length_append]
    omega
end
end Go.Proofs.YtgjmgneppecfgaaGreatDoor.Ma
