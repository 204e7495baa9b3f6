/-
  THE PLAIN LAWS of transpose and reverse.
-/
import Derived.Test.YtnlndpgbhmkanaaDoorVaU
namespace Go.Proofs.YtnlndpgbhmkanaaDoor.Va
set_option linter.unusedVariables false
set_option linter.unusedSimpArgs false

def nullV : V := .mk 0 0 ⟨#[]⟩ [] [] []
theorem good_null : Good nullV := by
  rw [nullV, Good]
  exact ⟨⟨by omega, by omega, .inr rfl, .inr rfl, .inr rfl, .inr rfl, rfl, by omega, by omega, .inl rfl, Nat.zero_le _, (fun _ h => by cases h), by decide, (fun _ h => by cases h)⟩, by rw [GoodL]; trivial, trivial, by rw [GoodL]; trivial⟩
theorem size_null : nullV.size = 1 := by rw [nullV, V.size, sizeL]

/-- the length of the longest row -/
def wid : List V → Nat
  | [] => 0
  | x :: xs => max x.list.length (wid xs)
theorem wid_append (l m : List V) : wid (l ++ m) = max (wid l) (wid m) := by
  induction l with
  | nil => simp [wid]
  | cons x xs ih => simp only [List.cons_append, wid, ih]; omega
theorem wid_reverse (l : List V) : wid l.reverse = wid l := by
  induction l with
  | nil => rfl
  | cons x xs ih => rw [List.reverse_cons, wid_append, ih]; simp only [wid]; omega
theorem wid_mem {l : List V} {x : V} (h : x ∈ l) : x.list.length ≤ wid l := by
  induction l with
  | nil => cases h
  | cons y ys ih =>
    simp only [wid]
    rcases List.mem_cons.1 h with rfl | h
    · omega
    · have := ih h; omega
theorem wid_le {l : List V} : wid l ≤ sizeL l := by
  induction l with
  | nil => simp [wid]
  | cons x xs ih =>
    simp only [wid, sizeL]
    have h : x.list.length ≤ x.size := by
      cases x with
      | mk k h t ls ks vs => rw [V.size]; simp only [V.list]; have := length_le ls; omega
    omega

/-- what stands in row i at column j -/
def cellV (r : V) (j : Nat) : V := (r.list[j]?).getD nullV
def colL (rows : List V) (j : Nat) : List V := rows.map fun r => cellV r j
def transV (rows : List V) : List V := (List.range (wid rows)).map fun j => mkL (colL rows j)
theorem trans_reverse (rows : List V) : transV rows.reverse = (transV rows).map fun c => mkL c.list.reverse := by
  unfold transV
  rw [wid_reverse, List.map_map]
  refine List.map_congr_left fun j _ => ?_
  simp only [Function.comp, mkL, V.list, colL, List.map_reverse]

theorem goodL_of {l : List V} (h : ∀ x ∈ l, Good x) : GoodL l := by
  induction l with
  | nil => rw [GoodL]; trivial
  | cons y ys ih => rw [GoodL]; exact ⟨h y (by simp), ih fun x hx => h x (by simp [hx])⟩
theorem good_cell {r : V} (h : Good r) (j : Nat) : Good (cellV r j) := by
  cases r with
  | mk k hh t ls ks vs =>
    rw [Good] at h
    unfold cellV V.list
    cases e : ls[j]? with
    | none => exact good_null
    | some x => exact h.2.1.mem x (List.mem_of_getElem? e)
theorem size_cell (r : V) (j : Nat) : (cellV r j).size ≤ r.size := by
  cases r with
  | mk k hh t ls ks vs =>
    unfold cellV V.list
    cases e : ls[j]? with
    | none => rw [Option.getD_none, size_null]; exact size_pos _
    | some x =>
      rw [Option.getD_some, V.size]
      have := size_mem (List.mem_of_getElem? e)
      omega
theorem good_col {rows : List V} (h : GoodL rows) (j : Nat) : GoodL (colL rows j) := goodL_of fun x hx => by
  obtain ⟨r, hr, rfl⟩ := List.mem_map.1 hx
  exact good_cell (h.mem r hr) j
theorem size_col (rows : List V) (j : Nat) : sizeL (colL rows j) ≤ sizeL rows := by
  induction rows with
  | nil => exact Nat.le_refl _
  | cons r rs ih =>
    have := size_cell r j
    unfold colL at ih ⊢
    rw [List.map_cons, sizeL, sizeL]
    omega
theorem good_trans {rows : List V} (h : GoodL rows) : GoodL (transV rows) := goodL_of fun x hx => by
  obtain ⟨j, _, rfl⟩ := List.mem_map.1 hx
  exact good_mkL (good_col h j)
theorem sizeL_bound {l : List V} {b : Nat} (h : ∀ x ∈ l, x.size ≤ b) : sizeL l ≤ l.length * b := by
  induction l with
  | nil => simp [sizeL]
  | cons y ys ih =>
    rw [sizeL, List.length_cons, Nat.succ_mul]
    have := h y (by simp)
    have := ih fun x hx => h x (by simp [hx])
    omega
theorem size_trans {rows : List V} (h : sizeL rows ≤ 400) : sizeL (transV rows) ≤ 400 * 401 := by
  have hb : ∀ x ∈ transV rows, x.size ≤ 401 := fun x hx => by
    obtain ⟨j, _, rfl⟩ := List.mem_map.1 hx
    rw [size_mkL]
    have := size_col rows j
    omega
  have h1 := sizeL_bound hb
  have h2 : (transV rows).length ≤ 400 := by
    unfold transV
    rw [List.length_map, List.length_range]
    have := @wid_le rows
    omega
  exact Nat.le_trans h1 (Nat.mul_le_mul_right _ h2)
theorem sizeL_reverse (l : List V) : sizeL l.reverse = sizeL l := by
  induction l with
  | nil => rfl
  | cons x xs ih => rw [List.reverse_cons, sizeL_app, ih, sizeL, sizeL, sizeL]; omega
theorem good_reverse {l : List V} (h : GoodL l) : GoodL l.reverse := goodL_of fun x hx => h.mem x (by simpa using hx)

end Go.Proofs.YtnlndpgbhmkanaaDoor.Va
