/-
  FnFormat, texts MaK MaL: lemmas for the law; the theorem stands in the last text.
-/
import Derived.Test.YtgjmgneppecfgaaGreatDoorJ08
namespace Go.Proofs.YtgjmgneppecfgaaGreatDoor.Ma
set_option linter.unusedVariables false

/-- the digits of a number -/
def dg (n : Nat) : List Nat := valsD (digs n)
theorem valsD_app (a b : List Nat) : valsD (a ++ b) = valsD a ++ valsD b := List.map_append
theorem dg_small {n : Nat} (h : n < 10) : dg n = [n] := by
  unfold dg digs
  rw [show n / 10 = 0 by omega, digs0_zero]
  simp [valsD]
  omega
theorem dg_ge {n : Nat} (h : 10 ≤ n) : dg n = dg (n / 10) ++ [n % 10] := by
  unfold dg
  rw [digs, digs0_pos (by omega), valsD_app]
  simp [valsD]
theorem dg_ind {P : Nat → Prop} (h0 : ∀ n, n < 10 → P n) (h1 : ∀ n, 10 ≤ n → P (n / 10) → P n) : ∀ n, P n := by
  have : ∀ m n, n < m → P n := by
    intro m
    induction m with
    | zero => intro n hn; omega
    | succ m ih =>
      intro n hn
      by_cases h : n < 10
      · exact h0 n h
      · exact h1 n (by omega) (ih _ (by omega))
  exact fun n => this (n + 1) n (Nat.lt_succ_self _)
theorem dg_len_pos (n : Nat) : 0 < (dg n).length := by
  by_cases h : n < 10
  · rw [dg_small h]; exact Nat.one_pos
  · rw [dg_ge (by omega), List.length_append]; simp
theorem numD_dg : ∀ n, numD (dg n) = n := by
  apply dg_ind
  · intro n h; rw [dg_small h]; simp [numD]
  · intro n h ih; rw [dg_ge h, numD_snoc, ih]; omega
theorem dg_all : ∀ n, ∀ x ∈ dg n, x < 10 := by
  apply dg_ind
  · intro n h x hx; rw [dg_small h, List.mem_singleton] at hx; omega
  · intro n h ih x hx
    rw [dg_ge h] at hx
    rcases List.mem_append.1 hx with q | q
    · exact ih x q
    · rw [List.mem_singleton] at q; omega
theorem getD_app_left {a b : List Nat} {i : Nat} (h : i < a.length) : (a ++ b).getD i 0 = a.getD i 0 := by
  rw [List.getD, List.getD, List.getElem?_append_left h]
theorem dg_head : ∀ n, 0 < n → (dg n).getD 0 0 ≠ 0 := by
  apply dg_ind
  · intro n h h0; rw [dg_small h]; simp; omega
  · intro n h ih h0; rw [dg_ge h, getD_app_left (dg_len_pos _)]; exact ih (by omega)
theorem dg_mul {n : Nat} (h : 0 < n) : dg (n * 10) = dg n ++ [0] := by
  rw [dg_ge (by omega), Nat.mul_div_cancel _ (by decide), Nat.mul_mod_left]
theorem dg_pow {n : Nat} (h : 0 < n) : ∀ j, dg (n * 10 ^ j) = dg n ++ List.replicate j 0
  | 0 => by simp
  | j + 1 => by
    rw [Nat.pow_succ, ← Nat.mul_assoc, dg_mul (Nat.mul_pos h (Nat.pow_pos (by decide))), dg_pow h j, List.append_assoc, ← List.replicate_succ']
theorem numD_lt : ∀ (l : List Nat), (∀ x ∈ l, x < 10) → numD l < 10 ^ l.length := by
  have h : ∀ (r : List Nat), (∀ x ∈ r, x < 10) → numD r.reverse < 10 ^ r.length := by
    intro r
    induction r with
    | nil => intro _; simp [numD]
    | cons x r ih =>
      intro hx
      have := ih (fun y hy => hx y (List.mem_cons_of_mem _ hy))
      have h9 := hx x List.mem_cons_self
      rw [List.reverse_cons, numD_snoc, List.length_cons, Nat.pow_succ]
      omega
  intro l hl
  have := h l.reverse (fun x hx => hl x (List.mem_reverse.1 hx))
  rwa [List.reverse_reverse, List.length_reverse] at this
theorem numD_ge : ∀ (l : List Nat), 0 < l.length → l.getD 0 0 ≠ 0 → 10 ^ (l.length - 1) ≤ numD l := by
  have h : ∀ (r : List Nat), 0 < r.length → r.reverse.getD 0 0 ≠ 0 → 10 ^ (r.length - 1) ≤ numD r.reverse := by
    intro r
    induction r with
    | nil => intro h; cases h
    | cons x r ih =>
      intro _ hx
      rw [List.reverse_cons] at hx ⊢
      rw [numD_snoc]
      by_cases hr : r = []
      · subst hr
        simp at hx
        simp [numD]
        omega
      · have hl : 0 < r.length := List.length_pos_iff.2 hr
        rw [getD_app_left (by rw [List.length_reverse]; exact hl)] at hx
        have := ih hl hx
        have e : (x :: r).length - 1 = (r.length - 1) + 1 := by rw [List.length_cons]; omega
        rw [e, Nat.pow_succ]
        omega
  intro l hl h0
  have := h l.reverse (by rwa [List.length_reverse]) (by rwa [List.reverse_reverse])
  rwa [List.reverse_reverse, List.length_reverse] at this
theorem numD_pos {l : List Nat} (h : 0 < l.length) (h0 : l.getD 0 0 ≠ 0) : 0 < numD l := Nat.lt_of_lt_of_le (Nat.pow_pos (by decide)) (numD_ge l h h0)
theorem dg_numD : ∀ (l : List Nat), 0 < l.length → l.getD 0 0 ≠ 0 → (∀ x ∈ l, x < 10) → dg (numD l) = l := by
  have h : ∀ (r : List Nat), 0 < r.length → r.reverse.getD 0 0 ≠ 0 → (∀ x ∈ r, x < 10) → dg (numD r.reverse) = r.reverse := by
    intro r
    induction r with
    | nil => intro h; cases h
    | cons x r ih =>
      intro _ hx h10
      have h9 := h10 x List.mem_cons_self
      rw [List.reverse_cons] at hx ⊢
      rw [numD_snoc]
      by_cases hr : r = []
      · subst hr
        simp [numD]
        exact dg_small h9
      · have hl : 0 < r.length := List.length_pos_iff.2 hr
        rw [getD_app_left (by rw [List.length_reverse]; exact hl)] at hx
        have hp := numD_pos (by rw [List.length_reverse]; exact hl) hx
        rw [dg_ge (by omega), show (10 * numD r.reverse + x) / 10 = numD r.reverse by omega, show (10 * numD r.reverse + x) % 10 = x by omega,
          ih hl hx (fun y hy => h10 y (List.mem_cons_of_mem _ hy))]
  intro l hl h0 h10
  have := h l.reverse (by rwa [List.length_reverse]) (by rwa [List.reverse_reverse]) (fun x hx => h10 x (List.mem_reverse.1 hx))
  rwa [List.reverse_reverse] at this
theorem stripZ_rep (l : List Nat) : ∀ j, stripZ (l ++ List.replicate j 0) = stripZ l
  | 0 => by simp
  | j + 1 => by rw [List.replicate_succ', ← List.append_assoc, stripZ_snoc, stripZ_rep l j]
theorem stripZ_dec (l : List Nat) : ∃ z, l = stripZ l ++ List.replicate z 0 := by
  induction l with
  | nil => exact ⟨0, rfl⟩
  | cons x xs ih =>
    obtain ⟨z, hz⟩ := ih
    rw [stripZ]
    split
    · rename_i h
      refine ⟨z + 1, ?_⟩
      rw [h.1, List.nil_append] at hz
      rw [h.2, hz, List.nil_append, List.replicate_succ]
    · exact ⟨z, by rw [List.cons_append, ← hz]⟩
/-- the digits without the zeros at the end -/
def canD (n : Nat) : List Nat := stripZ (dg n)
theorem canD_pow {n : Nat} (h : 0 < n) (j : Nat) : canD (n * 10 ^ j) = canD n := by
  unfold canD
  rw [dg_pow h, stripZ_rep]
theorem len_pow {n : Nat} (h : 0 < n) (j : Nat) : (dg (n * 10 ^ j)).length = (dg n).length + j := by
  rw [dg_pow h, List.length_append, List.length_replicate]
theorem pow_split (k : Nat) : 2 ^ k * 5 ^ k = 10 ^ k := by rw [← Nat.mul_pow]
/-- what half ends with -/
theorem half_fin {d out : List Nat} {k i : Nat} (hd : 0 < numD d) (h : preD d i = numD out * 2 ^ k * 10) (hi : d.length ≤ i) (ho : 0 < out.length) (h0 : out.getD 0 0 ≠ 0) (h10 : ∀ x ∈ out, x < 10) :
    stripZ out = canD (numD d * 5 ^ k) ∧ out.length + (k + 1) + d.length = (dg (numD d * 5 ^ k)).length + i := by
  obtain ⟨j, rfl⟩ : ∃ j, i = d.length + j := ⟨i - d.length, by omega⟩
  rw [preD_more] at h
  have hp : 0 < numD d * 5 ^ k := Nat.mul_pos hd (Nat.pow_pos (by decide))
  have e : numD d * 5 ^ k * 10 ^ j = numD out * 10 ^ (k + 1) := by
    rw [Nat.mul_right_comm, h, Nat.mul_right_comm, Nat.mul_assoc (numD out), pow_split, Nat.pow_succ, Nat.mul_assoc]
  have e1 := dg_pow hp j
  have e2 := dg_pow (numD_pos ho h0) (k + 1)
  rw [e, e2, dg_numD out ho h0 h10] at e1
  constructor
  · unfold canD
    rw [← stripZ_rep out (k + 1), e1, stripZ_rep]
  · have := congrArg List.length e1
    rw [List.length_append, List.length_append, List.length_replicate, List.length_replicate] at this
    omega
/-- what is left to divide, behind the end of the digits -/
def Left (d : List Nat) (k i n : Nat) : Prop := d.length ≤ i → (i ≤ d.length + k ∧ 2 ^ (i - d.length) ∣ n) ∨ n = 0
theorem Left.next {d : List Nat} {k i n : Nat} (h : Left d k i n) (hn : i < d.length ∨ 0 < n) : Left d k (i + 1) (n % 2 ^ k * 10 + d.getD i 0) := by
  intro hi
  by_cases he : i + 1 = d.length
  · exact .inl ⟨by omega, by rw [he, Nat.sub_self, Nat.pow_zero]; exact Nat.one_dvd _⟩
  · have hz : d.getD i 0 = 0 := by rw [List.getD, List.getElem?_eq_none (by omega)]; rfl
    rw [hz, Nat.add_zero]
    rcases h (by omega) with ⟨h1, h2⟩ | h1
    · by_cases hk : i = d.length + k
      · right
        exact half_gone (by rw [show k = i - d.length by omega]; exact h2)
      · left
        refine ⟨by omega, ?_⟩
        rw [show i + 1 - d.length = (i - d.length) + 1 by omega]
        exact half_left h2 (by omega)
    · omega
theorem left_start {d : List Nat} {k i : Nat} (hd : 0 < numD d) (hlt : preD d i < 10 * 2 ^ k) : Left d k i (preD d i) := by
  intro hi
  obtain ⟨j, rfl⟩ : ∃ j, i = d.length + j := ⟨i - d.length, by omega⟩
  rw [preD_more] at hlt ⊢
  left
  constructor
  · by_cases hj : j ≤ k
    · omega
    · have h1 : 10 ^ (k + 1) ≤ 10 ^ j := Nat.pow_le_pow_right (by decide) (by omega)
      have h2 : 2 ^ k ≤ 10 ^ k := Nat.pow_le_pow_left (by decide) k
      have h3 : 10 ^ j ≤ numD d * 10 ^ j := Nat.le_mul_of_pos_left _ hd
      rw [Nat.pow_succ] at h1
      omega
  · rw [Nat.add_sub_cancel_left]
    exact Nat.dvd_mul_left_of_dvd (by rw [← pow_split]; exact Nat.dvd_mul_right _ _) _
end Go.Proofs.YtgjmgneppecfgaaGreatDoor.Ma
namespace Go.Proofs.YtgjmgneppecfgaaGreatDoor.Ma
set_option linter.unusedVariables false

theorem preD_more_le (d : List Nat) (i : Nat) : ∀ t, preD d i * 10 ^ t ≤ preD d (i + t)
  | 0 => by simp
  | t + 1 => by
    have := preD_more_le d i t
    rw [← Nat.add_assoc, preD, Nat.pow_succ, ← Nat.mul_assoc]
    omega
theorem getD_all {d : List Nat} (h : ∀ x ∈ d, x < 10) (i : Nat) : d.getD i 0 < 10 := by
  by_cases hi : i < d.length
  · rw [List.getD, List.getElem?_eq_getElem hi]; exact h _ (List.getElem_mem hi)
  · rw [List.getD, List.getElem?_eq_none (by omega)]; decide
theorem preD_more_lt {d : List Nat} (h : ∀ x ∈ d, x < 10) (i : Nat) : ∀ t, preD d (i + t) < (preD d i + 1) * 10 ^ t
  | 0 => by simp
  | t + 1 => by
    have := preD_more_lt h i t
    have h9 := getD_all h (i + t)
    rw [← Nat.add_assoc, preD, Nat.pow_succ, ← Nat.mul_assoc]
    omega
theorem preD_mono {d e : List Nat} (h : ∀ x ∈ d, x < 10) {i : Nat} (hl : preD d i < preD e i) : ∀ t, preD d (i + t) < preD e (i + t)
  | 0 => hl
  | t + 1 => by
    have := preD_mono h hl t
    have h9 := getD_all h (i + t)
    rw [← Nat.add_assoc, preD, preD]
    omega
theorem cmpF_pos {d e : List Nat} (hd : ∀ x ∈ d, x < 10) (H : ∀ M, d.length ≤ M → e.length ≤ M → preD e M < preD d M) :
    ∀ (m i : Nat), preD d i = preD e i → d.length + e.length + 1 ≤ m + i → 0 < cmpF d e m i
  | 0, i, hq, hm => by have := H i (by omega) (by omega); omega
  | m + 1, i, hq, hm => by
    rw [cmpF]
    split
    · rename_i h
      have := H i h.1 h.2
      omega
    · rename_i hne
      split
      · rename_i hx
        by_cases hlt : d.getD i 0 < e.getD i 0
        · exfalso
          have h1 : preD d (i + 1) < preD e (i + 1) := by rw [preD, preD, hq]; omega
          have h2 := preD_mono hd h1 (d.length + e.length)
          have h3 := H (i + 1 + (d.length + e.length)) (by omega) (by omega)
          omega
        · omega
      · rename_i hx
        have hx : d.getD i 0 = e.getD i 0 := Decidable.of_not_not hx
        exact cmpF_pos hd H m (i + 1) (by rw [preD, preD, hq, hx]) (by omega)
/-- a row of digits as a decimal has it -/
structure Row (d : List Nat) : Prop where
  pos : 0 < d.length
  head : d.getD 0 0 ≠ 0
  all : ∀ x ∈ d, x < 10
theorem cmp_pos {d e : List Nat} {dp ep : Int} {S : Nat} (hd : Row d) (he : e.length = 0 ∨ Row e) (h1 : (d.length : Int) ≤ dp + S) (h2 : (e.length : Int) ≤ ep + S)
    (H : numD e * 10 ^ (ep - e.length + S).toNat < numD d * 10 ^ (dp - d.length + S).toNat) : 0 < cmpD d dp e ep := by
  have hp := hd.pos
  unfold cmpD
  by_cases h0 : e.length = 0
  · rw [if_pos (.inr h0)]; omega
  · have he : Row e := he.resolve_left h0
    rw [if_neg (by omega)]
    have a1 := numD_lt d hd.all
    have a2 := numD_ge e he.pos he.head
    split
    · rename_i hne
      by_cases hlt : dp < ep
      · exfalso
        have b1 : numD d * 10 ^ (dp - d.length + S).toNat ≤ 10 ^ (dp + S).toNat := by
          refine Nat.le_trans (Nat.mul_le_mul_right _ (Nat.le_of_lt a1)) ?_
          rw [← Nat.pow_add]
          exact Nat.pow_le_pow_right (by decide) (by omega)
        have b2 : 10 ^ (dp + S).toNat ≤ numD e * 10 ^ (ep - e.length + S).toNat := by
          refine Nat.le_trans ?_ (Nat.mul_le_mul_right _ a2)
          rw [← Nat.pow_add]
          have := he.pos
          exact Nat.pow_le_pow_right (by decide) (by omega)
        omega
      · omega
    · rename_i heq
      have heq : dp = ep := Decidable.of_not_not heq
      subst heq
      refine cmpF_pos hd.all (fun M hM1 hM2 => ?_) _ 0 rfl (by omega)
      obtain ⟨a, rfl⟩ : ∃ a, M = d.length + a := ⟨M - d.length, by omega⟩
      obtain ⟨b, hb⟩ : ∃ b, d.length + a = e.length + b := ⟨d.length + a - e.length, by omega⟩
      obtain ⟨N, hN⟩ : ∃ N : Nat, dp + S = (N : Int) := ⟨(dp + S).toNat, by omega⟩
      have e1 : (dp - d.length + S).toNat + (d.length + a) = N + a := by omega
      have e2 : (dp - e.length + S).toNat + (d.length + a) = N + b := by omega
      have H2 := Nat.mul_lt_mul_of_pos_right H (Nat.pow_pos (n := d.length + a) (show 0 < 10 by decide))
      rw [Nat.mul_assoc, Nat.mul_assoc, ← Nat.pow_add, ← Nat.pow_add, e1, e2, Nat.pow_add, Nat.pow_add, Nat.mul_left_comm, Nat.mul_left_comm (numD d)] at H2
      have H3 := Nat.lt_of_mul_lt_mul_left H2
      rw [preD_more, hb, preD_more]
      exact H3
theorem canD_row {n : Nat} (h : 0 < n) : Row (canD n) := by
  unfold canD
  obtain ⟨z, hz⟩ := stripZ_dec (dg n)
  have h0 := dg_head n h
  have hl : 0 < (stripZ (dg n)).length := by
    rcases Nat.eq_zero_or_pos (stripZ (dg n)).length with q | q
    · exfalso
      rw [List.eq_nil_of_length_eq_zero q, List.nil_append] at hz
      rw [hz] at h0
      cases z with
      | zero => simp at h0
      | succ z => simp [List.replicate_succ] at h0
    · exact q
  refine ⟨hl, ?_, fun x hx => dg_all n x (by rw [hz]; exact List.mem_append_left _ hx)⟩
  rw [hz, getD_app_left hl] at h0
  exact h0
theorem numD_rep (l : List Nat) : ∀ z, numD (l ++ List.replicate z 0) = numD l * 10 ^ z
  | 0 => by simp
  | z + 1 => by rw [List.replicate_succ', ← List.append_assoc, numD_snoc, numD_rep l z, Nat.add_zero, Nat.pow_succ, Nat.mul_comm 10, Nat.mul_assoc]
theorem canD_num (n : Nat) : (canD n).length ≤ (dg n).length ∧ numD (canD n) * 10 ^ ((dg n).length - (canD n).length) = n := by
  obtain ⟨z, hz⟩ := stripZ_dec (dg n)
  have e : (dg n).length = (canD n).length + z := by
    have := congrArg List.length hz
    rwa [List.length_append, List.length_replicate] at this
  refine ⟨by omega, ?_⟩
  rw [e, Nat.add_sub_cancel_left, ← numD_rep]
  have : numD (dg n) = n := numD_dg n
  rw [hz] at this
  exact this
/-- a decimal of n / 10^j, at a scale -/
theorem canD_val {n j S : Nat} (h : 0 < n) (hS : j ≤ S) : ((canD n).length : Int) ≤ ((dg n).length : Int) - j + S ∧ numD (canD n) * 10 ^ (((dg n).length : Int) - j - (canD n).length + S).toNat = n * 10 ^ (S - j) := by
  obtain ⟨h1, h2⟩ := canD_num n
  refine ⟨by omega, ?_⟩
  have e : (((dg n).length : Int) - j - (canD n).length + S).toNat = ((dg n).length - (canD n).length) + (S - j) := by omega
  rw [e, Nat.pow_add, ← Nat.mul_assoc, h2]
theorem stripZ_row {l : List Nat} (h : Row l) : Row (stripZ l) ∧ (stripZ l).length ≤ l.length ∧ numD (stripZ l) * 10 ^ (l.length - (stripZ l).length) = numD l := by
  have e := dg_numD l h.pos h.head h.all
  have h1 := canD_row (numD_pos h.pos h.head)
  have h2 := canD_num (numD l)
  unfold canD at h1 h2
  rw [e] at h1 h2
  exact ⟨h1, h2⟩
theorem take_row {d : List Nat} (h : Row d) {n : Nat} (hn : 0 < n) (hl : n ≤ d.length) : Row (d.take n) := by
  have hp := h.pos
  refine ⟨by rw [List.length_take]; omega, ?_, fun x hx => h.all x (List.mem_of_mem_take hx)⟩
  have := h.head
  rw [List.getD, List.getElem?_take, if_pos hn]
  exact this
/-- up's digits, and how far the point moves -/
def upL (d : List Nat) : Nat → List Nat
  | 0 => [1]
  | i + 1 => if d.getD i 0 < 9 then d.take i ++ [d.getD i 0 + 1] else upL d i
def upE (d : List Nat) : Nat → Int
  | 0 => 1
  | i + 1 => if d.getD i 0 < 9 then 0 else upE d i
theorem upL_row {d : List Nat} (h : Row d) : ∀ n, n ≤ d.length → Row (upL d n)
  | 0, _ => ⟨by simp [upL], by simp [upL], by simp [upL]⟩
  | n + 1, hn => by
    rw [upL]
    split
    · rename_i h9
      refine ⟨by simp, ?_, fun x hx => ?_⟩
      · by_cases h0 : n = 0
        · subst h0; simp
        · have hr := take_row h (show 0 < n by omega) (by omega)
          rw [getD_app_left hr.pos]
          exact hr.head
      · rcases List.mem_append.1 hx with q | q
        · exact h.all x (List.mem_of_mem_take q)
        · rw [List.mem_singleton] at q; omega
    · exact upL_row h n (by omega)
theorem upL_len {d : List Nat} : ∀ n, n ≤ d.length → ((upL d n).length : Int) ≤ n + upE d n
  | 0, _ => by simp [upL, upE]
  | n + 1, hn => by
    rw [upL, upE]
    split
    · rw [List.length_append, List.length_take]; simp; omega
    · have := upL_len (d := d) n (by omega); omega
theorem upE_01 (d : List Nat) : ∀ n, upE d n = 0 ∨ upE d n = 1
  | 0 => .inr rfl
  | n + 1 => by rw [upE]; split; exact .inl rfl; exact upE_01 d n
theorem upL_val {d : List Nat} (h : ∀ x ∈ d, x < 10) : ∀ n, n ≤ d.length → numD (upL d n) * 10 ^ (n + upE d n - (upL d n).length).toNat = preD d n + 1
  | 0, _ => by simp [upL, upE, numD, preD]
  | n + 1, hn => by
    have h10 := getD_all h n
    rw [upL, upE, preD]
    split
    · have e : (((n + 1 : Nat) : Int) + 0 - (d.take n ++ [d.getD n 0 + 1]).length).toNat = 0 := by
        rw [List.length_append, List.length_take]; simp; omega
      rw [e, numD_snoc, preD_take d n (by omega), Nat.pow_zero, Nat.mul_one, Nat.add_assoc]
    · have ih := upL_val h n (by omega)
      have hl := upL_len (d := d) n (by omega)
      have e : (((n + 1 : Nat) : Int) + upE d n - (upL d n).length).toNat = ((n : Int) + upE d n - (upL d n).length).toNat + 1 := by omega
      rw [e, Nat.pow_succ, ← Nat.mul_assoc, ih]
      omega
/-- half a whole number: its digits, with the 5 behind the point -/
theorem five_row {h : Nat} (hh : 0 < h) : Row (dg (5 * h)) := ⟨dg_len_pos _, dg_head _ (by omega), dg_all _⟩
theorem five_pre {h : Nat} (ho : h % 2 = 1) : preD (dg (5 * h)) ((dg (5 * h)).length - 1) = h / 2 := by
  have hp := dg_len_pos (5 * h)
  have h1 := preD_all (dg (5 * h))
  obtain ⟨L, hL⟩ : ∃ L, (dg (5 * h)).length = L + 1 := ⟨_, (Nat.succ_pred_eq_of_pos hp).symm⟩
  rw [hL, numD_dg, preD] at h1
  rw [hL, Nat.add_sub_cancel]
  have h9 := getD_all (dg_all (5 * h)) L
  omega
theorem five_down {h n S : Nat} (ho : h % 2 = 1) (hn : n < (dg (5 * h)).length) :
    ((stripZ ((dg (5 * h)).take n)).length = 0 ∨ Row (stripZ ((dg (5 * h)).take n))) ∧ ((stripZ ((dg (5 * h)).take n)).length : Int) ≤ trimP ((dg (5 * h)).take n) ((dg (5 * h)).length - 1 : Nat) + S ∧
      numD (stripZ ((dg (5 * h)).take n)) * 10 ^ (trimP ((dg (5 * h)).take n) ((dg (5 * h)).length - 1 : Nat) - (stripZ ((dg (5 * h)).take n)).length + S).toNat ≤ h / 2 * 10 ^ S := by
  have hh : 0 < h := by omega
  have hr := five_row hh
  have hpre := five_pre ho
  generalize dg (5 * h) = d at hn hr hpre ⊢
  by_cases h0 : n = 0
  · subst h0
    rw [List.take_zero]
    exact ⟨.inl rfl, by simp [stripZ, trimP], by simp [stripZ, numD]⟩
  · have ht := take_row hr (show 0 < n by omega) (by omega)
    obtain ⟨h1, h2, h3⟩ := stripZ_row ht
    have hlen : (d.take n).length = n := by rw [List.length_take]; omega
    rw [hlen] at h2 h3
    have hne : stripZ (d.take n) ≠ [] := by intro q; have := h1.pos; rw [q] at this; exact absurd this (by decide)
    unfold trimP
    rw [if_neg hne]
    refine ⟨.inr h1, by omega, ?_⟩
    have e : (((d.length - 1 : Nat) : Int) - (stripZ (d.take n)).length + S).toNat = (n - (stripZ (d.take n)).length) + (d.length - 1 - n) + S := by omega
    rw [e, Nat.pow_add, Nat.pow_add, ← Nat.mul_assoc, ← Nat.mul_assoc, h3, ← preD_take d n (by omega)]
    refine Nat.mul_le_mul_right _ ?_
    have := preD_more_le d n (d.length - 1 - n)
    rw [show n + (d.length - 1 - n) = d.length - 1 by omega, hpre] at this
    exact this
theorem five_up {h n S : Nat} (ho : h % 2 = 1) (hn : n < (dg (5 * h)).length) :
    Row (upL (dg (5 * h)) n) ∧ ((upL (dg (5 * h)) n).length : Int) ≤ ((dg (5 * h)).length - 1 : Nat) + upE (dg (5 * h)) n + S ∧
      (h / 2 + 1) * 10 ^ S ≤ numD (upL (dg (5 * h)) n) * 10 ^ (((dg (5 * h)).length - 1 : Nat) + upE (dg (5 * h)) n - (upL (dg (5 * h)) n).length + S).toNat := by
  have hr := five_row (show 0 < h by omega)
  have hpre := five_pre ho
  generalize dg (5 * h) = d at hn hr hpre ⊢
  have hl := upL_len (d := d) n (by omega)
  have h01 := upE_01 d n
  refine ⟨upL_row hr n (by omega), by omega, ?_⟩
  have hv := upL_val hr.all n (by omega)
  have e : (((d.length - 1 : Nat) : Int) + upE d n - (upL d n).length + S).toNat = ((n : Int) + upE d n - (upL d n).length).toNat + (d.length - 1 - n) + S := by omega
  rw [e, Nat.pow_add, Nat.pow_add, ← Nat.mul_assoc, ← Nat.mul_assoc, hv]
  refine Nat.mul_le_mul_right _ ?_
  have := preD_more_lt hr.all n (d.length - 1 - n)
  rw [show n + (d.length - 1 - n) = d.length - 1 by omega, hpre] at this
  exact this
/-- a decimal's place of n / 10^j -/
def canP (n j : Nat) : Int := ((dg n).length : Int) - j
theorem pow5_lt {k : Nat} (hk : 0 < k) : 5 ^ k < 10 ^ k := Nat.pow_lt_pow_left (by decide) (by omega)
theorem low_gt {h k n : Nat} (ho : h % 2 = 1) (hk : 0 < k) (hn : n < (dg (5 * h)).length) (L j : Nat) (hL : 0 < L) (hj : j ≤ k + 2) (hLv : h / 2 * 10 ^ (k + 2) < L * 10 ^ (k + 2 - j)) :
    0 < cmpD (canD L) (canP L j) (stripZ ((dg (5 * h)).take n)) (trimP ((dg (5 * h)).take n) ((dg (5 * h)).length - 1 : Nat)) := by
  obtain ⟨h1, h2, h3⟩ := five_down (S := k + 2) ho hn
  obtain ⟨h4, h5⟩ := canD_val hL hj
  exact cmp_pos (S := k + 2) (canD_row hL) h1 h4 h2 (by unfold canP; rw [h5]; omega)
theorem up_gt {h k n : Nat} (ho : h % 2 = 1) (hk : 0 < k) (hn : n < (dg (5 * h)).length) (H j : Nat) (hH : 0 < H) (hj : j ≤ k + 2) (hHv : H * 10 ^ (k + 2 - j) < (h / 2 + 1) * 10 ^ (k + 2)) :
    0 < cmpD (upL (dg (5 * h)) n) (((dg (5 * h)).length - 1 : Nat) + upE (dg (5 * h)) n) (canD H) (canP H j) := by
  obtain ⟨h1, h2, h3⟩ := five_up (S := k + 2) ho hn
  obtain ⟨h4, h5⟩ := canD_val hH hj
  exact cmp_pos (S := k + 2) h1 (.inr (canD_row hH)) h2 h4 (by unfold canP; rw [h5]; omega)
theorem five_dg {h : Nat} (ho : h % 2 = 1) : canD (5 * h) = dg (5 * h) := by
  unfold canD
  by_cases hs : 5 * h < 10
  · rw [dg_small hs, show [5 * h] = [] ++ [5 * h] from rfl, stripZ_end _ _ (by omega)]
  · rw [dg_ge (by omega), stripZ_end _ _ (by omega)]
/-- what shift leaves of the mantissa: the digits of 5 * h, one of them behind the point -/
theorem mant_can {h k m : Nat} (ho : h % 2 = 1) (hk : 0 < k) (hm : m = h * 2 ^ (k - 1)) : canD (m * 5 ^ k) = dg (5 * h) ∧ canP (m * 5 ^ k) k = ((dg (5 * h)).length - 1 : Nat) := by
  obtain ⟨j, rfl⟩ : ∃ j, k = j + 1 := ⟨k - 1, by omega⟩
  have e : m * 5 ^ (j + 1) = 5 * h * 10 ^ j := by
    rw [hm, Nat.add_sub_cancel, Nat.pow_succ, ← pow_split j]
    simp only [Nat.mul_assoc, Nat.mul_comm, Nat.mul_left_comm]
  have hp : 0 < 5 * h := by omega
  rw [e]
  refine ⟨by rw [canD_pow hp, five_dg ho], ?_⟩
  unfold canP
  rw [len_pow hp]
  have := dg_len_pos (5 * h)
  omega
theorem edges {h k m : Nat} (ho : h % 2 = 1) (hk : 0 < k) (hm : m = h * 2 ^ (k - 1)) :
    h / 2 * 10 ^ (k + 2) < (2 * m - 1) * 5 ^ (k + 1) * 10 ^ (k + 2 - (k + 1)) ∧ h / 2 * 10 ^ (k + 2) < (4 * m - 1) * 5 ^ (k + 2) * 10 ^ (k + 2 - (k + 2)) ∧
      (2 * m + 1) * 5 ^ (k + 1) * 10 ^ (k + 2 - (k + 1)) < (h / 2 + 1) * 10 ^ (k + 2) := by
  obtain ⟨K, rfl⟩ : ∃ K, h = 2 * K + 1 := ⟨h / 2, by omega⟩
  rw [show (2 * K + 1) / 2 = K by omega]
  have h1 : k + 2 - (k + 1) = 1 := by omega
  rw [h1, Nat.sub_self, Nat.pow_one, Nat.pow_zero, Nat.mul_one]
  have e2 : 2 * m = (2 * K + 1) * 2 ^ k := by
    obtain ⟨j, rfl⟩ : ∃ j, k = j + 1 := ⟨k - 1, by omega⟩
    rw [hm, Nat.add_sub_cancel, Nat.pow_succ]
    simp only [Nat.mul_comm, Nat.mul_left_comm]
  have p5 := pow5_lt hk
  have p := pow_split k
  have e10 : 10 ^ (k + 2) = 10 ^ k * 100 := by rw [Nat.pow_add]
  have e51 : 5 ^ (k + 1) = 5 ^ k * 5 := by rw [Nat.pow_add]
  have e52 : 5 ^ (k + 2) = 5 ^ k * 25 := by rw [Nat.pow_add]
  have hm4 : 4 * m - 1 = 2 * (2 * m) - 1 := by omega
  rw [hm4, e2, e10, e51, e52, ← p]
  have q2 : 0 < 2 ^ k := Nat.pow_pos (by decide)
  have q5 : 0 < 5 ^ k := Nat.pow_pos (by decide)
  rw [← p] at p5
  generalize 2 ^ k = a at *
  generalize 5 ^ k = b at *
  have r1 : 1 ≤ (2 * K + 1) * a := Nat.mul_pos (by omega) q2
  refine ⟨?_, ?_, ?_⟩
  · have : ((2 * K + 1) * a - 1) * (b * 5) * 10 + b * 50 = (2 * K + 1) * a * b * 50 := by
      obtain ⟨c, hc⟩ : ∃ c, (2 * K + 1) * a = c + 1 := ⟨_, (Nat.succ_pred_eq_of_pos r1).symm⟩
      rw [hc, Nat.add_sub_cancel, Nat.add_mul c 1 b]
      rw [show c * (b * 5) * 10 = c * b * 50 by simp only [Nat.mul_assoc]]
      omega
    have e3 : (2 * K + 1) * a * b * 50 = K * (a * b * 100) + a * b * 50 := by
      rw [Nat.mul_assoc (2 * K + 1), Nat.add_mul (2 * K) 1 (a * b), Nat.mul_assoc 2, Nat.mul_comm (a * b) 100, Nat.mul_left_comm K 100]
      omega
    omega
  · have : (2 * ((2 * K + 1) * a) - 1) * (b * 25) + b * 25 = (2 * K + 1) * a * b * 50 := by
      obtain ⟨c, hc⟩ : ∃ c, (2 * K + 1) * a = c + 1 := ⟨_, (Nat.succ_pred_eq_of_pos r1).symm⟩
      rw [hc, show 2 * (c + 1) - 1 = 2 * c + 1 by omega, Nat.add_mul (2 * c) 1, Nat.add_mul c 1 b, Nat.mul_assoc 2, show c * (b * 25) = c * b * 25 by simp only [Nat.mul_assoc]]
      omega
    have e3 : (2 * K + 1) * a * b * 50 = K * (a * b * 100) + a * b * 50 := by
      rw [Nat.mul_assoc (2 * K + 1), Nat.add_mul (2 * K) 1 (a * b), Nat.mul_assoc 2, Nat.mul_comm (a * b) 100, Nat.mul_left_comm K 100]
      omega
    omega
  · have : ((2 * K + 1) * a + 1) * (b * 5) * 10 = (2 * K + 1) * a * b * 50 + b * 50 := by
      rw [Nat.add_mul, Nat.add_mul, show (2 * K + 1) * a * (b * 5) * 10 = (2 * K + 1) * a * b * 50 by simp only [Nat.mul_assoc]]
      omega
    have e3 : (2 * K + 1) * a * b * 50 = K * (a * b * 100) + a * b * 50 := by
      rw [Nat.mul_assoc (2 * K + 1), Nat.add_mul (2 * K) 1 (a * b), Nat.mul_assoc 2, Nat.mul_comm (a * b) 100, Nat.mul_left_comm K 100]
      omega
    rw [Nat.add_mul K 1]
    omega
end Go.Proofs.YtgjmgneppecfgaaGreatDoor.Ma
