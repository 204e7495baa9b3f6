/-
  WHAT A DECODER OF BASE 64 DOES, as plain data: a quantum; all of them.
-/
import Derived.Test.YtnlndpgbhmkanaaGreatDoorBaP
namespace Go.Proofs.YtnlndpgbhmkanaaGreatDoor.Ba
set_option linter.unusedVariables false
set_option linter.unusedSimpArgs false

inductive QR where
  | done (si : Nat) (ds : List Nat)
  | nothing (si : Nat)
  | bad (si : Nat)
/-- up to four numbers are read, from a place on -/
def quant (l : List Nat) : Nat → Nat → List Nat → QR
  | 0, si, _ => .bad si
  | f + 1, si, ds => if ds.length = 4 then .done si ds else match l[si]? with
    | none => if ds.length = 0 then .nothing si else if ds.length = 1 then .bad si else .done si ds
    | some c => if dc c < 64 then quant l f (si + 1) (ds ++ [dc c]) else if c = 10 ∨ c = 13 then quant l f (si + 1) ds else .bad (si + 1)
/-- all of them -/
def runD (l : List Nat) : Nat → Nat → List Nat → List Nat × Bool
  | 0, _, out => (out, false)
  | f + 1, si, out => if l.length ≤ si then (out, true) else match quant l (l.length + 2 - si) si [] with
    | .done si' ds => runD l f si' (out ++ decD ds)
    | .nothing si' => runD l f si' out
    | .bad _ => (out, false)

theorem quant_four {l : List Nat} {f si : Nat} {ds : List Nat} (h : ds.length = 4) : quant l (f + 1) si ds = .done si ds := by
  unfold quant
  rw [if_pos h]
theorem quant_letter {l : List Nat} {f si c : Nat} {ds : List Nat} (h : ds.length ≠ 4) (hc : l[si]? = some c) (hd : dc c < 64) : quant l (f + 1) si ds = quant l f (si + 1) (ds ++ [dc c]) := by
  conv => lhs; unfold quant
  rw [if_neg h, hc]
  simp only [if_pos hd]
theorem quant_line {l : List Nat} {f si c : Nat} {ds : List Nat} (h : ds.length ≠ 4) (hc : l[si]? = some c) (hd : ¬ dc c < 64) (hn : c = 10 ∨ c = 13) : quant l (f + 1) si ds = quant l f (si + 1) ds := by
  conv => lhs; unfold quant
  rw [if_neg h, hc]
  simp only [if_neg hd, if_pos hn]
theorem quant_bad {l : List Nat} {f si c : Nat} {ds : List Nat} (h : ds.length ≠ 4) (hc : l[si]? = some c) (hd : ¬ dc c < 64) (hn : ¬ (c = 10 ∨ c = 13)) : quant l (f + 1) si ds = .bad (si + 1) := by
  unfold quant
  rw [if_neg h, hc]
  simp only [if_neg hd, if_neg hn]
theorem quant_end {l : List Nat} {f si : Nat} {ds : List Nat} (h : ds.length ≠ 4) (hc : l.length ≤ si) : quant l (f + 1) si ds = if ds.length = 0 then .nothing si else if ds.length = 1 then .bad si else .done si ds := by
  unfold quant
  rw [if_neg h, List.getElem?_eq_none hc]
/-- what comes of a quantum lies within bounds -/
def QOk (l : List Nat) (si : Nat) (ds : List Nat) : QR → Prop
  | .done si' ds' => si + (ds'.length - ds.length) ≤ si' ∧ si' ≤ l.length ∧ ds.length ≤ ds'.length ∧ 2 ≤ ds'.length ∧ ds'.length ≤ 4 ∧ ∀ d ∈ ds', d < 64
  | .nothing si' => si ≤ si' ∧ si' = l.length ∧ ds = []
  | .bad si' => si ≤ si' ∧ si' ≤ l.length
theorem quant_ok (l : List Nat) : ∀ (f si : Nat) (ds : List Nat), si ≤ l.length → ds.length ≤ 4 → (∀ d ∈ ds, d < 64) → QOk l si ds (quant l f si ds)
  | 0, si, ds, h, _, _ => ⟨Nat.le_refl _, h⟩
  | f + 1, si, ds, h, h4, h64 => by
    by_cases e4 : ds.length = 4
    · rw [quant_four e4]
      exact ⟨by omega, h, Nat.le_refl _, by omega, h4, h64⟩
    · rcases Nat.lt_or_ge si l.length with hlt | hge
      · have hc := List.getElem?_eq_getElem hlt
        generalize l[si] = c at hc
        by_cases hd : dc c < 64
        · rw [quant_letter e4 hc hd]
          have := quant_ok l f (si + 1) (ds ++ [dc c]) hlt (by simp; omega) (fun d hm => by
            rcases List.mem_append.1 hm with q | q
            · exact h64 d q
            · simp at q; rw [q]; exact hd)
          cases e : quant l f (si + 1) (ds ++ [dc c]) with
          | done si' ds' =>
            rw [e] at this
            obtain ⟨a1, a2, a3, a4, a5, a6⟩ := this
            simp only [List.length_append, List.length_cons, List.length_nil] at a1 a3
            exact ⟨by omega, a2, by omega, a4, a5, a6⟩
          | nothing si' =>
            rw [e] at this
            exact absurd this.2.2 (by simp)
          | bad si' =>
            rw [e] at this
            exact ⟨by have := this.1; omega, this.2⟩
        · by_cases hn : c = 10 ∨ c = 13
          · rw [quant_line e4 hc hd hn]
            have := quant_ok l f (si + 1) ds hlt h4 h64
            cases e : quant l f (si + 1) ds with
            | done si' ds' =>
              rw [e] at this
              obtain ⟨a1, a2, a3, a4, a5, a6⟩ := this
              exact ⟨by omega, a2, a3, a4, a5, a6⟩
            | nothing si' =>
              rw [e] at this
              exact ⟨by have := this.1; omega, this.2⟩
            | bad si' =>
              rw [e] at this
              exact ⟨by have := this.1; omega, this.2⟩
          · rw [quant_bad e4 hc hd hn]
            exact ⟨Nat.le_succ _, hlt⟩
      · rw [quant_end e4 hge]
        have hsi : si = l.length := by omega
        by_cases h0 : ds.length = 0
        · rw [if_pos h0]
          exact ⟨Nat.le_refl _, hsi, List.eq_nil_of_length_eq_zero h0⟩
        · rw [if_neg h0]
          by_cases h1 : ds.length = 1
          · rw [if_pos h1]
            exact ⟨Nat.le_refl _, h⟩
          · rw [if_neg h1]
            exact ⟨by omega, h, Nat.le_refl _, by omega, h4, h64⟩
theorem quant_4 {l : List Nat} {f si a b c d : Nat} (ha : l[si]? = some a) (hb : l[si + 1]? = some b) (hc : l[si + 2]? = some c) (hd : l[si + 3]? = some d) (h0 : dc a < 64) (h1 : dc b < 64) (h2 : dc c < 64) (h3 : dc d < 64) (hf : 5 ≤ f) :
    quant l f si [] = .done (si + 4) [dc a, dc b, dc c, dc d] := by
  obtain ⟨g, rfl⟩ : ∃ g, f = g + 5 := ⟨f - 5, by omega⟩
  rw [quant_letter (by simp) ha h0, quant_letter (by simp) hb h1, quant_letter (by simp) hc h2, quant_letter (by simp) hd h3, quant_four (by simp)]
  rfl
theorem quant_2 {l : List Nat} {f si a b : Nat} (ha : l[si]? = some a) (hb : l[si + 1]? = some b) (hl : l.length = si + 2) (h0 : dc a < 64) (h1 : dc b < 64) (hf : 3 ≤ f) :
    quant l f si [] = .done (si + 2) [dc a, dc b] := by
  obtain ⟨g, rfl⟩ : ∃ g, f = g + 3 := ⟨f - 3, by omega⟩
  rw [quant_letter (by simp) ha h0, quant_letter (by simp) hb h1, quant_end (by simp) (by omega)]
  rfl
theorem quant_3 {l : List Nat} {f si a b c : Nat} (ha : l[si]? = some a) (hb : l[si + 1]? = some b) (hc : l[si + 2]? = some c) (hl : l.length = si + 3) (h0 : dc a < 64) (h1 : dc b < 64) (h2 : dc c < 64) (hf : 4 ≤ f) :
    quant l f si [] = .done (si + 3) [dc a, dc b, dc c] := by
  obtain ⟨g, rfl⟩ : ∃ g, f = g + 4 := ⟨f - 4, by omega⟩
  rw [quant_letter (by simp) ha h0, quant_letter (by simp) hb h1, quant_letter (by simp) hc h2, quant_end (by simp) (by omega)]
  rfl
theorem runD_step {l : List Nat} {f si si' : Nat} {out ds : List Nat} (h : si < l.length) (hq : quant l (l.length + 2 - si) si [] = .done si' ds) : runD l (f + 1) si out = runD l f si' (out ++ decD ds) := by
  conv => lhs; unfold runD
  rw [if_neg (by omega), hq]
theorem runD_end {l : List Nat} {f si : Nat} {out : List Nat} (h : l.length ≤ si) : runD l (f + 1) si out = (out, true) := by
  unfold runD
  rw [if_pos h]
/-- letters alone: all of them are decoded -/
theorem runD_letters {l : List Nat} (hl : ∀ c ∈ l, dc c < 64) : ∀ (m si F : Nat) (out : List Nat), l.length - si = m → si ≤ l.length → m % 4 ≠ 1 → l.length + 1 ≤ si + F → runD l F si out = (out ++ decD ((l.drop si).map dc), true) := by
  intro m
  induction m using Nat.strongRecOn with
  | _ m ih =>
    intro si F out hm hsi h4 hF
    obtain ⟨f, rfl⟩ : ∃ f, F = f + 1 := ⟨F - 1, by omega⟩
    have hget : ∀ i, i < l.length → ∃ c, l[i]? = some c ∧ dc c < 64 := fun i hi => ⟨l[i], List.getElem?_eq_getElem hi, hl _ (List.getElem_mem hi)⟩
    by_cases h0 : m = 0
    · rw [runD_end (by omega), List.drop_of_length_le (by omega)]
      simp [decD]
    · obtain ⟨a, ha, ha6⟩ := hget si (by omega)
      obtain ⟨b, hb, hb6⟩ := hget (si + 1) (by omega)
      have e0 : l.drop si = a :: l.drop (si + 1) := by rw [List.drop_eq_getElem_cons (by omega)]; congr 1; exact Option.some.inj ((List.getElem?_eq_getElem (by omega)).symm.trans ha)
      have e1 : l.drop (si + 1) = b :: l.drop (si + 2) := by rw [List.drop_eq_getElem_cons (by omega)]; congr 1; exact Option.some.inj ((List.getElem?_eq_getElem (by omega)).symm.trans hb)
      by_cases h2 : m = 2
      · rw [runD_step (by omega) (quant_2 ha hb (by omega) ha6 hb6 (by omega))]
        obtain ⟨g, rfl⟩ : ∃ g, f = g + 1 := ⟨f - 1, by omega⟩
        rw [runD_end (by omega), e0, e1, List.drop_of_length_le (by omega)]
        rfl
      · obtain ⟨c, hc, hc6⟩ := hget (si + 2) (by omega)
        have e2 : l.drop (si + 2) = c :: l.drop (si + 3) := by rw [List.drop_eq_getElem_cons (by omega)]; congr 1; exact Option.some.inj ((List.getElem?_eq_getElem (by omega)).symm.trans hc)
        by_cases h3 : m = 3
        · rw [runD_step (by omega) (quant_3 ha hb hc (by omega) ha6 hb6 hc6 (by omega))]
          obtain ⟨g, rfl⟩ : ∃ g, f = g + 1 := ⟨f - 1, by omega⟩
          rw [runD_end (by omega), e0, e1, e2, List.drop_of_length_le (by omega)]
          rfl
        · obtain ⟨d, hd, hd6⟩ := hget (si + 3) (by omega)
          have e3 : l.drop (si + 3) = d :: l.drop (si + 4) := by rw [List.drop_eq_getElem_cons (by omega)]; congr 1; exact Option.some.inj ((List.getElem?_eq_getElem (by omega)).symm.trans hd)
          rw [runD_step (by omega) (quant_4 ha hb hc hd ha6 hb6 hc6 hd6 (by omega)), ih (m - 4) (by omega) (si + 4) f _ (by omega) (by omega) (by omega) (by omega), e0, e1, e2, e3]
          simp [decD, List.append_assoc]
end Go.Proofs.YtnlndpgbhmkanaaGreatDoor.Ba
