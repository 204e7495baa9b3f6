/-
  THE PLAIN LAWS of flatten: levels added, all levels, sizes, what is right.
-/
import Derived.Test.YtnlndpgbhmkanaaGreatDoorVaL
namespace Go.Proofs.YtnlndpgbhmkanaaGreatDoor.Va
set_option linter.unusedVariables false
set_option linter.unusedSimpArgs false

mutual
/-- a value flattened: what stands for it in the list -/
def flat1 : V → Int → List V
  | .mk k h t ls ks vs, d => if k = 5 ∧ d ≠ 0 then flatL ls (d - 1) else [.mk k h t ls ks vs]
def flatL : List V → Int → List V
  | [], _ => []
  | x :: xs, d => flat1 x d ++ flatL xs d
end

theorem flatL_append (l m : List V) (d : Int) : flatL (l ++ m) d = flatL l d ++ flatL m d := by
  induction l with
  | nil => rw [List.nil_append, flatL, List.nil_append]
  | cons x xs ih => rw [List.cons_append, flatL, flatL, ih, List.append_assoc]
theorem flatL_one (x : V) (d : Int) : flatL [x] d = flat1 x d := by rw [flatL, flatL, List.append_nil]

mutual
theorem flat1_neg : ∀ (x : V) (d e : Int), d < 0 → e < 0 → flat1 x d = flat1 x e
  | .mk k h t ls ks vs, d, e, hd, he => by
    rw [flat1, flat1]
    by_cases c : k = 5
    · rw [if_pos ⟨c, by omega⟩, if_pos ⟨c, by omega⟩]
      exact flatL_neg ls _ _ (by omega) (by omega)
    · rw [if_neg (fun h => c h.1), if_neg (fun h => c h.1)]
theorem flatL_neg : ∀ (l : List V) (d e : Int), d < 0 → e < 0 → flatL l d = flatL l e
  | [], d, e, _, _ => by rw [flatL, flatL]
  | x :: xs, d, e, hd, he => by rw [flatL, flatL, flat1_neg x d e hd he, flatL_neg xs d e hd he]
end

mutual
theorem flat1_then : ∀ (x : V) (a b c : Int), 0 ≤ a → (0 ≤ b ∧ c = a + b) ∨ (b < 0 ∧ c < 0) → flatL (flat1 x a) b = flat1 x c
  | .mk k h t ls ks vs, a, b, c, ha, hb => by
    rw [flat1]
    by_cases q : k = 5 ∧ a ≠ 0
    · rw [if_pos q, flat1, if_pos ⟨q.1, by have := q.2; omega⟩]
      exact flatL_then ls _ _ _ (by have := q.2; omega) (by have := q.2; omega)
    · rw [if_neg q, flatL_one]
      by_cases k5 : k = 5
      · obtain rfl : a = 0 := by
          apply Decidable.byContradiction
          intro h; exact q ⟨k5, h⟩
        rcases hb with ⟨_, rfl⟩ | ⟨h1, h2⟩
        · rw [Int.zero_add]
        · exact flat1_neg _ _ _ h1 h2
      · rw [flat1, flat1, if_neg (fun h => k5 h.1), if_neg (fun h => k5 h.1)]
theorem flatL_then : ∀ (l : List V) (a b c : Int), 0 ≤ a → (0 ≤ b ∧ c = a + b) ∨ (b < 0 ∧ c < 0) → flatL (flatL l a) b = flatL l c
  | [], a, b, c, _, _ => by rw [flatL, flatL, flatL]
  | x :: xs, a, b, c, ha, hb => by rw [flatL, flatL_append, flatL, flat1_then x a b c ha hb, flatL_then xs a b c ha hb]
end

mutual
theorem flat1_none : ∀ (x : V) (d : Int), d < 0 → ∀ y ∈ flat1 x d, y.kind ≠ 5
  | .mk k h t ls ks vs, d, hd, y, hy => by
    rw [flat1] at hy
    by_cases c : k = 5
    · rw [if_pos ⟨c, by omega⟩] at hy
      exact flatL_none ls _ (by omega) y hy
    · rw [if_neg (fun h => c h.1)] at hy
      rw [List.mem_singleton] at hy
      subst hy
      exact c
theorem flatL_none : ∀ (l : List V) (d : Int), d < 0 → ∀ y ∈ flatL l d, y.kind ≠ 5
  | [], d, _, y, hy => by rw [flatL] at hy; cases hy
  | x :: xs, d, hd, y, hy => by
    rw [flatL] at hy
    rcases List.mem_append.1 hy with h | h
    · exact flat1_none x d hd y h
    · exact flatL_none xs d hd y h
end

theorem sizeL_app (l m : List V) : sizeL (l ++ m) = sizeL l + sizeL m := by
  induction l with
  | nil => simp [sizeL]
  | cons y ys ih => rw [List.cons_append, sizeL, sizeL, ih]; omega

mutual
theorem flat1_size : ∀ (x : V) (d : Int), sizeL (flat1 x d) ≤ x.size
  | .mk k h t ls ks vs, d => by
    rw [flat1]
    split
    · have := flatL_size ls (d - 1)
      rw [V.size]; omega
    · rw [sizeL, sizeL]; omega
theorem flatL_size : ∀ (l : List V) (d : Int), sizeL (flatL l d) ≤ sizeL l
  | [], d => by rw [flatL]; omega
  | x :: xs, d => by
    rw [flatL, sizeL_app, sizeL]
    have := flat1_size x d
    have := flatL_size xs d
    omega
end

theorem goodL_app {l m : List V} (h : GoodL l) (k : GoodL m) : GoodL (l ++ m) := by
  induction l with
  | nil => exact k
  | cons y ys ih => rw [GoodL] at h; rw [List.cons_append, GoodL]; exact ⟨h.1, ih h.2⟩
mutual
theorem flat1_good : ∀ (x : V) (d : Int), Good x → GoodL (flat1 x d)
  | .mk k h t ls ks vs, d, hg => by
    rw [flat1]
    split
    · rw [Good] at hg
      exact flatL_good ls _ hg.2.1
    · rw [GoodL, GoodL]; exact ⟨hg, trivial⟩
theorem flatL_good : ∀ (l : List V) (d : Int), GoodL l → GoodL (flatL l d)
  | [], d, _ => by rw [flatL, GoodL]; trivial
  | x :: xs, d, hg => by
    rw [GoodL] at hg
    rw [flatL]
    exact goodL_app (flat1_good x d hg.1) (flatL_good xs d hg.2)
end

/-- an array -/
def mkL (l : List V) : V := .mk 5 0 ⟨#[]⟩ l [] []
theorem size_mkL (l : List V) : (mkL l).size = 1 + sizeL l := by rw [mkL, V.size, sizeL]; omega
theorem good_mkL {l : List V} (h : GoodL l) : Good (mkL l) := by
  rw [mkL, Good]
  refine ⟨⟨by omega, by omega, .inr rfl, .inr rfl, .inl rfl, .inr rfl, rfl, by omega, by omega, .inl rfl, Nat.zero_le _, (fun _ h => by cases h), by decide, (fun _ h => by cases h)⟩, h, trivial, by rw [GoodL]; trivial⟩
theorem good_list {l : List V} (h : Good (mkL l)) : GoodL l := by rw [mkL, Good] at h; exact h.2.1

end Go.Proofs.YtnlndpgbhmkanaaGreatDoor.Va
