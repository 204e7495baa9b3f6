/-
  THE PLAIN LAW of tonumber's check: each number of JSON passes it; a text with a byte that no number has does not.
-/
import Derived.Test.YtnlndpgbhmkanaaVnP
namespace Go.Proofs.Ytnlndpgbhmkanaa.Vn

/-- the places from i on up to n are digits -/
def Digs (s : ByteArray) (i n : Nat) : Prop := i ≤ n ∧ n ≤ s.size ∧ ∀ k (h : k < s.size), i ≤ k → k < n → isNum (cI s[k]) = true

theorem Digs.refl (s : ByteArray) (i : Nat) (h : i ≤ s.size) : Digs s i i := ⟨Nat.le_refl _, h, fun k _ a b => by omega⟩
theorem Digs.snoc {s : ByteArray} {i n : Nat} (h : Digs s i n) (hn : n < s.size) (hd : isNum (cI s[n]) = true) : Digs s i (n + 1) := by
  obtain ⟨h1, h2, h3⟩ := h
  refine ⟨by omega, by omega, fun k hk a b => ?_⟩
  by_cases e : k = n
  · subst e; exact hd
  · exact h3 k hk a (by omega)

theorem Digs.tail {s : ByteArray} {i n : Nat} (h : Digs s i n) (hlt : i < n) : ∃ hi : i < s.size, isNum (cI s[i]) = true ∧ Digs s (i + 1) n := by
  obtain ⟨h1, h2, h3⟩ := h
  exact ⟨by omega, h3 i (by omega) (Nat.le_refl _) hlt, by omega, h2, fun k hk a b => h3 k hk (by omega) b⟩

theorem acc0_digs (s : ByteArray) (n : Nat) : ∀ d i, n - i = d → Digs s i n → acc0 (s.data.toList.drop i) = acc0 (s.data.toList.drop n) := by
  intro d
  induction d with
  | zero => intro i h hd; obtain rfl : i = n := by have := hd.1; omega
            rfl
  | succ d ih =>
    intro i h hd
    obtain ⟨hi, hn, ht⟩ := hd.tail (by omega)
    rw [drop_cons s i hi, acc0, if_pos hn]
    exact ih (i + 1) (by omega) ht
theorem acc1_digs (s : ByteArray) (n : Nat) : ∀ d i, n - i = d → Digs s i n → acc1 (s.data.toList.drop i) = acc1 (s.data.toList.drop n) := by
  intro d
  induction d with
  | zero => intro i h hd; obtain rfl : i = n := by have := hd.1; omega
            rfl
  | succ d ih =>
    intro i h hd
    obtain ⟨hi, hn, ht⟩ := hd.tail (by omega)
    rw [drop_cons s i hi, acc1, if_pos hn]
    exact ih (i + 1) (by omega) ht
theorem acc3_digs (s : ByteArray) (n : Nat) : ∀ d i, n - i = d → Digs s i n → acc3 (s.data.toList.drop i) = acc3 (s.data.toList.drop n) := by
  intro d
  induction d with
  | zero => intro i h hd; obtain rfl : i = n := by have := hd.1; omega
            rfl
  | succ d ih =>
    intro i h hd
    obtain ⟨hi, hn, ht⟩ := hd.tail (by omega)
    rw [drop_cons s i hi, acc3, hn, Bool.true_and]
    exact ih (i + 1) (by omega) ht

theorem bad_acc3 {c : UInt8} (hn : isNum (cI c) = false) : ∀ l, c ∈ l → acc3 l = false
  | [], h => by simp at h
  | d :: t, h => by
    rcases List.mem_cons.1 h with rfl | h
    · simp [acc3, hn]
    · simp [acc3, bad_acc3 hn t h]
theorem bad_acc2 {c : UInt8} (hn : isNum (cI c) = false) : ∀ l, c ∈ l → acc2 l = false
  | [], h => by simp at h
  | d :: t, h => by
    rcases List.mem_cons.1 h with rfl | h
    · simp [acc2, hn]
    · simp [acc2, bad_acc3 hn t h]
theorem mem_dropSign {c : UInt8} (hs : isSign (cI c) = false) : ∀ l, c ∈ l → c ∈ dropSign l
  | [], h => by simp at h
  | d :: t, h => by
    rw [dropSign]
    split
    · rcases List.mem_cons.1 h with rfl | h
      · simp_all
      · exact h
    · exact h
theorem bad_acc1 {c : UInt8} (hn : isNum (cI c) = false) (hs : isSign (cI c) = false) (he : isE (cI c) = false) : ∀ l, c ∈ l → acc1 l = false
  | [], h => by simp at h
  | d :: t, h => by
    rcases List.mem_cons.1 h with rfl | h
    · simp [acc1, hn, he]
    · unfold acc1
      rw [bad_acc1 hn hs he t h, bad_acc2 hn _ (mem_dropSign hs t h)]
      split <;> simp
theorem bad_acc0 {c : UInt8} (hn : isNum (cI c) = false) (hs : isSign (cI c) = false) (he : isE (cI c) = false) (h46 : (cI c == 46) = false) : ∀ l, c ∈ l → acc0 l = false
  | [], h => by simp at h
  | d :: t, h => by
    rcases List.mem_cons.1 h with rfl | h
    · simp [acc0, hn, he, h46]
    · unfold acc0
      rw [bad_acc0 hn hs he h46 t h, bad_acc1 hn hs he t h, bad_acc2 hn _ (mem_dropSign hs t h)]
      split <;> try rfl
      split <;> try rfl
      split <;> rfl
theorem bad_rest {c : UInt8} (hn : isNum (cI c) = false) (hs : isSign (cI c) = false) (he : isE (cI c) = false) (h46 : (cI c == 46) = false) : ∀ l, c ∈ l → vnRest l = false
  | [], _ => rfl
  | d :: t, h => by
    by_cases h4 : (cI d == 46) = true
    · rcases List.mem_cons.1 h with rfl | h
      · simp_all
      · cases t with
        | nil => simp at h
        | cons e t => simp [vnRest, h4, bad_acc1 hn hs he _ h]
    · simp [vnRest, h4, bad_acc0 hn hs he h46 _ h]
/-- A text with a byte that is no digit, sign, point or e does not pass. -/
theorem vn_bad {c : UInt8} (hn : isNum (cI c) = false) (hs : isSign (cI c) = false) (he : isE (cI c) = false) (h46 : (cI c == 46) = false) (l : List UInt8) (h : c ∈ l) : vn l = false :=
  bad_rest hn hs he h46 _ (mem_dropSign hs l h)

/-- behind the integer part and the fraction: what makes the whole text pass -/
def R2 (s : ByteArray) (n : Nat) : Prop :=
  n ≤ s.size ∧ (n = s.size → vn s.data.toList = true) ∧ (∀ h : n < s.size, isE (cI s[n]) = true → acc2 (dropSign (s.data.toList.drop (n + 1))) = true → vn s.data.toList = true)
theorem isE_not {c : Int} (h : isE c = true) : isNum c = false ∧ (c == 46) = false := by
  unfold isE at h; simp at h; unfold isNum; rcases h with h | h <;> simp [h]
theorem R2_of0 (s : ByteArray) (n : Nat) (hn : n ≤ s.size) (h : acc0 (s.data.toList.drop n) = true → vn s.data.toList = true) : R2 s n := by
  refine ⟨hn, fun e => h ?_, fun hlt he h2 => h ?_⟩
  · rw [drop_end s n (by omega)]; rfl
  · obtain ⟨h1, h46⟩ := isE_not he
    rw [drop_cons s n hlt, acc0, if_neg (by simp [h1]), if_neg (by simp [h46]), if_pos he]; exact h2
theorem R2_of1 (s : ByteArray) (n : Nat) (hn : n ≤ s.size) (h : acc1 (s.data.toList.drop n) = true → vn s.data.toList = true) : R2 s n := by
  refine ⟨hn, fun e => h ?_, fun hlt he h2 => h ?_⟩
  · rw [drop_end s n (by omega)]; rfl
  · rw [drop_cons s n hlt, acc1, if_neg (by simp [(isE_not he).1]), if_pos he]; exact h2

theorem vnRest_not (c : UInt8) (t : List UInt8) (h : (cI c == 46) = false) : vnRest (c :: t) = (isNum (cI c) && acc0 (c :: t)) := by
  unfold vnRest; simp [h]
/-- behind the sign: the rest decides -/
def R1 (s : ByteArray) (k : Nat) : Prop := k ≤ s.size ∧ (vnRest (s.data.toList.drop k) = true → vn s.data.toList = true)
theorem R1_none (s : ByteArray) (h : s.size ≤ 0) : R1 s 0 := ⟨by omega, fun h2 => by rw [drop_end s 0 h] at h2; simp [vnRest] at h2⟩
theorem R1_minus (s : ByteArray) (h : 0 < s.size) (c : Int) (hc : cI s[0] = c) (h45 : (c == 45) = true) : R1 s 1 := by
  refine ⟨h, fun h2 => ?_⟩
  have e : s.data.toList = s[0] :: s.data.toList.drop 1 := drop_cons s 0 h
  unfold vn
  rw [e, dropSign, if_pos (by rw [hc]; unfold isSign; simp [h45])]
  exact h2
theorem R1_plain (s : ByteArray) (h : 0 < s.size) (c : Int) (hc : cI s[0] = c) (h45 : (c == 45) = false) : R1 s 0 := by
  refine ⟨by omega, fun h2 => ?_⟩
  have e : s.data.toList = s[0] :: s.data.toList.drop 1 := drop_cons s 0 h
  have e2 : s.data.toList.drop 0 = s[0] :: s.data.toList.drop 1 := drop_cons s 0 h
  rw [e2] at h2
  by_cases hs : isSign (cI s[0]) = true
  · exfalso
    rw [hc] at hs
    have h43 : c = 43 := by unfold isSign at hs; simpa [h45] using hs
    subst h43
    rw [vnRest_not _ _ (by rw [hc]; rfl), hc] at h2
    simp [isNum] at h2
  · unfold vn
    rw [e, dropSign, if_neg hs]
    exact h2

/-- digits behind the sign -/
theorem R1_digits (s : ByteArray) (k n : Nat) (h : R1 s k) (hd : Digs s k n) (hlt : k < n) (h0 : acc0 (s.data.toList.drop n) = true) : vn s.data.toList = true := by
  obtain ⟨hi, hn, _⟩ := hd.tail hlt
  refine h.2 ?_
  have h46 : (cI s[k] == 46) = false := by unfold isNum at hn; simp at hn; simp; omega
  have := acc0_digs s n _ k rfl hd
  rw [drop_cons s k hi] at this ⊢
  rw [vnRest_not _ _ h46, hn, this]
  simp [h0]
theorem R2_int (s : ByteArray) (k n : Nat) (h : R1 s k) (hd : Digs s k n) (hlt : k < n) : R2 s n := R2_of0 s n hd.2.1 (R1_digits s k n h hd hlt)
theorem R2_frac (s : ByteArray) (k n m : Nat) (h : R1 s k) (hd : Digs s k n) (hlt : k < n) (hn : n < s.size) (c : Int) (hc : cI s[n] = c) (h46 : (c == 46) = true) (hd2 : Digs s (n + 1) m) : R2 s m := by
  refine R2_of1 s m hd2.2.1 fun h1 => R1_digits s k n h hd hlt ?_
  have hc46 : c = 46 := by simpa using h46
  rw [drop_cons s n hn, acc0, hc, if_neg (by rw [hc46]; simp [isNum]), if_pos h46, acc1_digs s m _ (n + 1) rfl hd2]
  exact h1
/-- behind the e: the digits decide -/
def R3 (s : ByteArray) (k : Nat) : Prop := k ≤ s.size ∧ (acc2 (s.data.toList.drop k) = true → vn s.data.toList = true)
theorem R3_sign (s : ByteArray) (n : Nat) (h : R2 s n) (hn : n < s.size) (he : isE (cI s[n]) = true) (hn1 : n + 1 < s.size) (hs : isSign (cI s[n + 1]) = true) : R3 s (n + 2) := by
  refine ⟨by omega, fun h2 => h.2.2 hn he ?_⟩
  rw [drop_cons s (n + 1) hn1, dropSign, if_pos hs]; exact h2
theorem R3_plain (s : ByteArray) (n : Nat) (h : R2 s n) (hn : n < s.size) (he : isE (cI s[n]) = true) (hn1 : n + 1 < s.size) (hs : isSign (cI s[n + 1]) = false) : R3 s (n + 1) := by
  refine ⟨by omega, fun h2 => h.2.2 hn he ?_⟩
  have e := drop_cons s (n + 1) hn1
  rw [e, dropSign, if_neg (by simp [hs]), ← e]; exact h2
theorem R3_end (s : ByteArray) (n : Nat) (hn : n < s.size) (hn1 : s.size ≤ n + 1) : R3 s (n + 1) := by
  refine ⟨by omega, fun h2 => ?_⟩
  rw [drop_end s (n + 1) hn1] at h2; simp [acc2] at h2
/-- at the end -/
def R4 (s : ByteArray) (n : Nat) : Prop := n ≤ s.size ∧ (n = s.size → vn s.data.toList = true)
theorem R4_of2 (s : ByteArray) (n : Nat) (h : R2 s n) : R4 s n := ⟨h.1, h.2.1⟩
theorem R4_of3 (s : ByteArray) (k n : Nat) (h : R3 s k) (hd : Digs s k n) (hlt : k < n) : R4 s n := by
  refine ⟨hd.2.1, fun e => h.2 ?_⟩
  obtain ⟨hi, hn, ht⟩ := hd.tail hlt
  rw [drop_cons s k hi, acc2, hn, acc3_digs s n _ (k + 1) rfl ht, drop_end s n (by omega)]; rfl

end Go.Proofs.Ytnlndpgbhmkanaa.Vn
