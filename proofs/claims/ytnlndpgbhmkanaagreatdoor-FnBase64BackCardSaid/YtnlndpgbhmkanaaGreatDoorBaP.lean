/-
  THE PLAIN LAW of base 64: what was packed is unpacked again.
-/
import Derived.Test.YtnlndpgbhmkanaaGreatDoorBaA
namespace Go.Proofs.YtnlndpgbhmkanaaGreatDoor.Ba
set_option linter.unusedVariables false
set_option linter.unusedSimpArgs false

/-- bytes as numbers below 64 -/
def encD : List Nat → List Nat
  | a :: b :: c :: r => a / 4 :: (a % 4 * 16 + b / 16) :: (b % 16 * 4 + c / 64) :: c % 64 :: encD r
  | [a, b] => [a / 4, a % 4 * 16 + b / 16, b % 16 * 4]
  | [a] => [a / 4, a % 4 * 16]
  | [] => []
/-- numbers below 64 as bytes -/
def decD : List Nat → List Nat
  | a :: b :: c :: d :: r => (a * 4 + b / 16) :: (b % 16 * 16 + c / 4) :: (c % 4 * 64 + d) :: decD r
  | [a, b, c] => [a * 4 + b / 16, b % 16 * 16 + c / 4]
  | [a, b] => [a * 4 + b / 16]
  | _ => []
theorem decD_encD : ∀ (s : List Nat), (∀ x ∈ s, x < 256) → decD (encD s) = s
  | a :: b :: c :: r, h => by
    have ha := h a (by simp)
    have hb := h b (by simp)
    have hc := h c (by simp)
    rw [encD, decD, decD_encD r (fun x hx => h x (by simp [hx]))]
    congr 1
    · omega
    · congr 1
      · omega
      · congr 1
        omega
  | [a, b], h => by
    have ha := h a (by simp)
    have hb := h b (by simp)
    rw [encD, decD]
    congr 1
    · omega
    · congr 1
      omega
  | [a], h => by
    have ha := h a (by simp)
    rw [encD, decD]
    congr 1
    omega
  | [], _ => rfl
theorem encD_lt : ∀ (s : List Nat), (∀ x ∈ s, x < 256) → ∀ d ∈ encD s, d < 64
  | a :: b :: c :: r, h, d, hd => by
    have ha := h a (by simp)
    have hb := h b (by simp)
    have hc := h c (by simp)
    rw [encD] at hd
    simp only [List.mem_cons] at hd
    rcases hd with rfl | rfl | rfl | rfl | hd
    · omega
    · omega
    · omega
    · omega
    · exact encD_lt r (fun x hx => h x (by simp [hx])) d hd
  | [a, b], h, d, hd => by
    have ha := h a (by simp)
    have hb := h b (by simp)
    simp only [encD, List.mem_cons, List.not_mem_nil, or_false] at hd
    omega
  | [a], h, d, hd => by
    have ha := h a (by simp)
    simp only [encD, List.mem_cons, List.not_mem_nil, or_false] at hd
    omega
  | [], _, d, hd => by cases hd
theorem encD_len : ∀ (s : List Nat), (encD s).length = s.length / 3 * 4 + (if s.length % 3 = 0 then 0 else s.length % 3 + 1)
  | a :: b :: c :: r => by
    rw [encD]
    simp only [List.length_cons]
    rw [encD_len r, show (r.length + 1 + 1 + 1) / 3 = r.length / 3 + 1 by omega, show (r.length + 1 + 1 + 1) % 3 = r.length % 3 by omega]
    omega
  | [a, b] => by simp [encD]
  | [a] => by simp [encD]
  | [] => by simp [encD]
/-- how many signs = there are -/
def padN (n : Nat) : Nat := if n % 3 = 0 then 0 else 3 - n % 3
/-- the text in base 64 -/
def encB (s : List Nat) : List Nat := (encD s).map lt ++ List.replicate (padN s.length) 61
theorem encB_len (s : List Nat) : (encB s).length = (s.length + 2) / 3 * 4 := by
  unfold encB padN
  rw [List.length_append, List.length_map, List.length_replicate, encD_len]
  split <;> omega
theorem encB_cons (a b c : Nat) (r : List Nat) : encB (a :: b :: c :: r) = lt (a / 4) :: lt (a % 4 * 16 + b / 16) :: lt (b % 16 * 4 + c / 64) :: lt (c % 64) :: encB r := by
  unfold encB padN
  rw [encD]
  simp only [List.length_cons, List.map_cons, List.cons_append]
  rw [show (r.length + 1 + 1 + 1) % 3 = r.length % 3 by omega]
theorem encB_drop : ∀ (k : Nat) (s : List Nat), 3 * k ≤ s.length → (encB s).drop (4 * k) = encB (s.drop (3 * k))
  | 0, _, _ => rfl
  | k + 1, s, h => by
    match s, h with
    | a :: b :: c :: r, h =>
      rw [encB_cons, show 4 * (k + 1) = 4 * k + 1 + 1 + 1 + 1 by omega, show 3 * (k + 1) = 3 * k + 1 + 1 + 1 by omega]
      simp only [List.drop_succ_cons]
      exact encB_drop k r (by simp at h; omega)
    | [], h => simp at h
    | [_], h => exact absurd h (by simp; omega)
    | [_, _], h => exact absurd h (by simp; omega)
theorem encB_at (k i : Nat) (s : List Nat) (h : 3 * k ≤ s.length) : (encB s)[4 * k + i]? = (encB (s.drop (3 * k)))[i]? := by
  rw [← encB_drop k s h, List.getElem?_drop]
/-- the text as far as the first sign = -/
theorem take_enc (s : List Nat) (h : ∀ x ∈ s, x < 256) : (encB s).takeWhile (fun c => c != 61) = (encD s).map lt := by
  unfold encB
  have hl : ∀ c ∈ (encD s).map lt, (c != 61) = true := by
    intro c hc
    obtain ⟨d, hd, rfl⟩ := List.mem_map.1 hc
    have := encD_lt s h d hd
    have h61 : lt d ≠ 61 := by
      unfold lt
      repeat' (first | split | omega)
    simpa using h61
  rw [List.takeWhile_append_of_pos hl]
  cases padN s.length with
  | zero => simp
  | succ n => rw [List.replicate_succ, List.takeWhile_cons]; simp
end Go.Proofs.YtnlndpgbhmkanaaGreatDoor.Ba
