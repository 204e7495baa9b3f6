/-
  THE LITTLE MACHINE of instructions, as plain data; what a change of one or two instructions does to it.
-/
import Derived.Test.YtnlndpgbhmkanaaRows
namespace Go.Proofs.Ytnlndpgbhmkanaa.Op
set_option linter.unusedVariables false

structure Ins where
  op : Int
  a : Int
  b : Int
  c : Int
abbrev Cell := Bool × Int
structure Sta where
  pc : Nat
  st : List Cell
  vars : List Cell
  back : List Nat
structure Fin where
  st : List Cell
  vars : List Cell
  ret : Bool
inductive Res where
  | bad
  | go (s : Sta)
  | fin (f : Fin)

/-- one instruction -/
def exec (x : Ins) (s : Sta) : Res :=
  if x.op = 0 ∨ x.op = 23 then .go { s with pc := s.pc + 1 }
  else if x.op = 1 then .go { s with pc := s.pc + 1, st := (true, x.a) :: s.st }
  else if x.op = 2 then match s.st with | [] => .bad | _ :: t => .go { s with pc := s.pc + 1, st := t }
  else if x.op = 3 then match s.st with | [] => .bad | c :: t => .go { s with pc := s.pc + 1, st := c :: c :: t }
  else if x.op = 4 then match s.st with | [] => .bad | _ :: t => .go { s with pc := s.pc + 1, st := (true, x.a) :: t }
  else if x.op = 5 then (if 0 ≤ x.a ∧ x.a < 8 then .go { s with pc := s.pc + 1, st := s.vars.getD x.a.toNat (false, 0) :: s.st } else .bad)
  else if x.op = 6 then match s.st with | [] => .bad | c :: t => if 0 ≤ x.a ∧ x.a < 8 then .go { s with pc := s.pc + 1, st := t, vars := s.vars.set x.a.toNat c } else .bad
  else if x.op = 14 then .fin ⟨s.st, s.vars, false⟩
  else if x.op = 15 ∨ x.op = 20 then .go { s with pc := x.a.toNat }
  else if x.op = 16 then match s.st with | [] => .bad | c :: t => .go { s with pc := if c.1 then s.pc + 1 else x.a.toNat, st := t }
  else if x.op = 19 then .go { s with pc := x.a.toNat, back := (s.pc + 1) :: s.back }
  else if x.op = 24 then match s.back with | [] => .fin ⟨s.st, s.vars, true⟩ | b :: r => .go { s with pc := b, back := r }
  else .bad

/-- so many instructions are executed -/
def run (l : List Ins) : Nat → Sta → Option Fin
  | 0, _ => none
  | n + 1, s => match l[s.pc]? with
    | none => none
    | some x => match exec x s with
      | .bad => none
      | .go s' => run l n s'
      | .fin f => some f

/-- what comes of one instruction -/
def after (l : List Ins) (m : Nat) : Res → Option Fin
  | .bad => none
  | .go s' => run l m s'
  | .fin f => some f
theorem run_at {l : List Ins} {m : Nat} {s : Sta} {x : Ins} (hx : l[s.pc]? = some x) : run l (m + 1) s = after l m (exec x s) := by
  unfold run after
  rw [hx]
theorem run_some {l : List Ins} {n : Nat} {s : Sta} {f : Fin} (h : run l n s = some f) : ∃ m x, n = m + 1 ∧ l[s.pc]? = some x ∧ (exec x s = .fin f ∨ ∃ s', exec x s = .go s' ∧ run l m s' = some f) := by
  cases n with
  | zero => exact absurd h (by simp [run])
  | succ m =>
    cases hx : l[s.pc]? with
    | none =>
      unfold run at h
      rw [hx] at h
      exact absurd h (by simp)
    | some x =>
      rw [run_at hx] at h
      refine ⟨m, x, rfl, rfl, ?_⟩
      cases he : exec x s with
      | bad => rw [he, after] at h; exact absurd h (by simp)
      | go s' => rw [he, after] at h; exact .inr ⟨s', rfl, h⟩
      | fin g => rw [he, after] at h; rw [Option.some.inj h]; exact .inl rfl
theorem run_fin {l : List Ins} {m : Nat} {s : Sta} {x : Ins} {f : Fin} (hx : l[s.pc]? = some x) (h : exec x s = .fin f) : run l (m + 1) s = some f := by
  rw [run_at hx, h, after]
theorem run_go {l : List Ins} {m : Nat} {s s' : Sta} {x : Ins} (hx : l[s.pc]? = some x) (h : exec x s = .go s') : run l (m + 1) s = run l m s' := by
  rw [run_at hx, h, after]
theorem run_more {l : List Ins} : ∀ (n : Nat) (s : Sta) (f : Fin), run l n s = some f → run l (n + 1) s = some f := by
  intro n
  induction n with
  | zero => intro s f h; exact absurd h (by simp [run])
  | succ n ih =>
    intro s f h
    obtain ⟨m, x, hm, hx, h2⟩ := run_some h
    obtain rfl : m = n := by omega
    rcases h2 with h2 | ⟨s', h2, hr⟩
    · exact run_fin hx h2
    · rw [run_go hx h2]; exact ih _ _ hr
theorem run_mono {l : List Ins} {n m : Nat} {s : Sta} {f : Fin} (h : run l n s = some f) (hnm : n ≤ m) : run l m s = some f := by
  induction hnm with
  | refl => exact h
  | step _ ih => exact run_more _ _ _ ih

/-- where an instruction may lead -/
def jumps (x : Ins) : Prop := x.op = 15 ∨ x.op = 16 ∨ x.op = 19 ∨ x.op = 20
theorem exec_pc {x : Ins} {s s' : Sta} (h : exec x s = .go s') : (s'.pc = s.pc + 1 ∧ s'.back = s.back) ∨ (jumps x ∧ s'.pc = x.a.toNat ∧ (s'.back = s.back ∨ (x.op = 19 ∧ s'.back = (s.pc + 1) :: s.back))) ∨ ∃ r, s.back = s'.pc :: r ∧ s'.back = r := by
  unfold exec at h
  by_cases c : x.op = 0 ∨ x.op = 23
  · rw [if_pos c] at h; cases h; exact .inl ⟨rfl, rfl⟩
  rw [if_neg c] at h; clear c
  by_cases c : x.op = 1
  · rw [if_pos c] at h; cases h; exact .inl ⟨rfl, rfl⟩
  rw [if_neg c] at h; clear c
  by_cases c : x.op = 2
  · rw [if_pos c] at h
    cases e : s.st with
    | nil => rw [e] at h; cases h
    | cons q t => rw [e] at h; cases h; exact .inl ⟨rfl, rfl⟩
  rw [if_neg c] at h; clear c
  by_cases c : x.op = 3
  · rw [if_pos c] at h
    cases e : s.st with
    | nil => rw [e] at h; cases h
    | cons q t => rw [e] at h; cases h; exact .inl ⟨rfl, rfl⟩
  rw [if_neg c] at h; clear c
  by_cases c : x.op = 4
  · rw [if_pos c] at h
    cases e : s.st with
    | nil => rw [e] at h; cases h
    | cons q t => rw [e] at h; cases h; exact .inl ⟨rfl, rfl⟩
  rw [if_neg c] at h; clear c
  by_cases c : x.op = 5
  · rw [if_pos c] at h
    by_cases d : 0 ≤ x.a ∧ x.a < 8
    · rw [if_pos d] at h; cases h; exact .inl ⟨rfl, rfl⟩
    · rw [if_neg d] at h; cases h
  rw [if_neg c] at h; clear c
  by_cases c : x.op = 6
  · rw [if_pos c] at h
    cases e : s.st with
    | nil => rw [e] at h; cases h
    | cons q t =>
      rw [e] at h
      by_cases d : 0 ≤ x.a ∧ x.a < 8
      · simp only [if_pos d] at h; cases h; exact .inl ⟨rfl, rfl⟩
      · simp only [if_neg d] at h; cases h
  rw [if_neg c] at h; clear c
  by_cases c : x.op = 14
  · rw [if_pos c] at h; cases h
  rw [if_neg c] at h; clear c
  by_cases c : x.op = 15 ∨ x.op = 20
  · rw [if_pos c] at h; cases h
    exact .inr (.inl ⟨by rcases c with q | q; exact .inl q; exact .inr (.inr (.inr q)), rfl, .inl rfl⟩)
  rw [if_neg c] at h; clear c
  by_cases c : x.op = 16
  · rw [if_pos c] at h
    cases e : s.st with
    | nil => rw [e] at h; cases h
    | cons q t =>
      rw [e] at h
      cases h
      cases hc : q.1
      · exact .inr (.inl ⟨.inr (.inl c), by simp [hc], .inl rfl⟩)
      · exact .inl ⟨by simp [hc], rfl⟩
  rw [if_neg c] at h; clear c
  by_cases c : x.op = 19
  · rw [if_pos c] at h; cases h
    exact .inr (.inl ⟨.inr (.inr (.inl c)), rfl, .inr ⟨c, rfl⟩⟩)
  rw [if_neg c] at h; clear c
  by_cases c : x.op = 24
  · rw [if_pos c] at h
    cases e : s.back with
    | nil => rw [e] at h; cases h
    | cons b r => rw [e] at h; cases h; exact .inr (.inr ⟨r, rfl, rfl⟩)
  rw [if_neg c] at h
  cases h

/-- two instructions one behind the other that are turned, of which the second is no place to jump to -/
theorem run_pair {l : List Ins} {i : Nat} {x y x' y' : Ins} (hx : l[i]? = some x) (hy : l[i + 1]? = some y) (hj : ∀ (p : Nat) (z : Ins), l[p]? = some z → jumps z → z.a.toNat ≠ i + 1)
    (hfx : ∀ s f, exec x s ≠ .fin f) (hfy : ∀ s f, exec y s ≠ .fin f) (hx1 : ∀ s s1, s.pc = i → exec x s = .go s1 → s1.pc = i + 1)
    (hxy : ∀ s s1 s2, s.pc = i → exec x s = .go s1 → exec y s1 = .go s2 → s2.back = s.back ∧ s2.pc = i + 2 ∧ ∃ s1', exec x' s = .go s1' ∧ s1'.pc = i + 1 ∧ exec y' s1' = .go s2) :
    ∀ (n : Nat) (s : Sta) (f : Fin), s.pc ≠ i + 1 → (∀ b ∈ s.back, b ≠ i + 1) → run l n s = some f → run ((l.set i x').set (i + 1) y') n s = some f := by
  intro n
  induction n using Nat.strongRecOn with
  | _ n ih =>
    intro s f hpc hbk h
    obtain ⟨m, z, rfl, hz, h2⟩ := run_some h
    clear h
    have h := h2
    clear h2
    have hi1 : i + 1 < l.length := (List.getElem?_eq_some_iff.1 hy).1
    by_cases hpi : s.pc = i
    · rw [hpi, hx] at hz
      obtain rfl := Option.some.inj hz
      rcases h with h | ⟨s1, h1, hr⟩
      · exact absurd h (hfx _ _)
      · have hp1 : s1.pc = i + 1 := hx1 s s1 hpi h1
        obtain ⟨m2, w, rfl, hw, h2⟩ := run_some hr
        rw [hp1, hy] at hw
        obtain rfl := Option.some.inj hw
        rcases h2 with h2 | ⟨s2, h2, hr2⟩
        · exact absurd h2 (hfy _ _)
        · obtain ⟨hb2, hp2, s1', e1, hp1', e2⟩ := hxy s s1 s2 hpi h1 h2
          rw [run_go (s' := s1') (x := x') (by rw [hpi, List.getElem?_set_ne (by omega), List.getElem?_set_self (by omega)]) e1, run_go (s' := s2) (x := y') (by rw [hp1', List.getElem?_set_self (by simpa using hi1)]) e2]
          exact ih m2 (by omega) s2 f (by omega) (by rw [hb2]; exact hbk) hr2
    · have hz' : ((l.set i x').set (i + 1) y')[s.pc]? = some z := by rw [List.getElem?_set_ne (by omega), List.getElem?_set_ne (by omega)]; exact hz
      rcases h with h | ⟨s1, h1, hr⟩
      · exact run_fin hz' h
      · rw [run_go hz' h1]
        refine ih m (by omega) s1 f ?_ ?_ hr
        · rcases exec_pc h1 with q | q | ⟨r, q, _⟩
          · omega
          · have := hj _ _ hz q.1; omega
          · exact hbk _ (by rw [q]; exact List.mem_cons_self ..)
        · rcases exec_pc h1 with q | ⟨_, _, q | ⟨_, q⟩⟩ | ⟨r, q, q2⟩
          · rw [q.2]; exact hbk
          · rw [q]; exact hbk
          · rw [q]
            intro b hb
            rcases List.mem_cons.1 hb with rfl | hb
            · omega
            · exact hbk b hb
          · rw [q2]
            intro b hb
            exact hbk b (by rw [q]; exact List.mem_cons_of_mem _ hb)

end Go.Proofs.Ytnlndpgbhmkanaa.Op
