/-
  WHAT A CHANGE OF ONE INSTRUCTION does to the little machine: a jump that is threaded, a call at a function's end.
-/
import Derived.Test.YtnlndpgbhmkanaaOpA
namespace Go.Proofs.Ytnlndpgbhmkanaa.Op
set_option linter.unusedVariables false

/-- an instruction that is turned into one that does the same -/
theorem run_same {l : List Ins} {i : Nat} {x x' : Ins} (hx : l[i]? = some x) (he : ∀ s : Sta, s.pc = i → exec x s = exec x' s) : ∀ (n : Nat) (s : Sta) (f : Fin), run l n s = some f → run (l.set i x') n s = some f := by
  intro n
  induction n with
  | zero => intro s f h; exact absurd h (by simp [run])
  | succ n ih =>
    intro s f h
    obtain ⟨m, z, hm, hz, h2⟩ := run_some h
    obtain rfl : m = n := by omega
    have hi : i < l.length := (List.getElem?_eq_some_iff.1 hx).1
    by_cases hp : s.pc = i
    · rw [hp, hx] at hz
      obtain rfl := Option.some.inj hz
      have hz' : (l.set i x')[s.pc]? = some x' := by rw [hp, List.getElem?_set_self hi]
      rw [he s hp] at h2
      rcases h2 with h2 | ⟨s', h2, hr⟩
      · exact run_fin hz' h2
      · rw [run_go hz' h2]; exact ih _ _ hr
    · have hz' : (l.set i x')[s.pc]? = some z := by rw [List.getElem?_set_ne (by omega)]; exact hz
      rcases h2 with h2 | ⟨s', h2, hr⟩
      · exact run_fin hz' h2
      · rw [run_go hz' h2]; exact ih _ _ hr

theorem exec_jump {x : Ins} (h : x.op = 15) (s : Sta) : exec x s = .go { s with pc := x.a.toNat } := by
  unfold exec
  rw [h]
  rfl
theorem exec_ret {x : Ins} (h : x.op = 24) (s : Sta) : exec x s = match s.back with | [] => .fin ⟨s.st, s.vars, true⟩ | b :: r => .go { s with pc := b, back := r } := by
  unfold exec
  rw [h]
  rfl
theorem exec_jin {x : Ins} (h : x.op = 16) (s : Sta) : exec x s = match s.st with | [] => .bad | c :: t => .go { s with pc := if c.1 then s.pc + 1 else x.a.toNat, st := t } := by
  unfold exec
  rw [h]
  rfl
theorem exec_call {x : Ins} (h : x.op = 19) (s : Sta) : exec x s = .go { s with pc := x.a.toNat, back := (s.pc + 1) :: s.back } := by
  unfold exec
  rw [h]
  rfl
theorem exec_rec {x : Ins} (h : x.op = 20) (s : Sta) : exec x s = .go { s with pc := x.a.toNat } := by
  unfold exec
  rw [h]
  rfl
theorem exec_scope {x : Ins} (h : x.op = 23) (s : Sta) : exec x s = .go { s with pc := s.pc + 1 } := by
  unfold exec
  rw [h]
  rfl

/-- a jump to a jump goes to that one's place at once -/
theorem run_thread {l : List Ins} {i j : Nat} {x y : Ins} (hx : l[i]? = some x) (hop : x.op = 15 ∨ x.op = 16) (hj : x.a.toNat = j) (hji : j ≠ i) (hy : l[j]? = some y) (hyo : y.op = 15) :
    ∀ (n : Nat) (s : Sta) (f : Fin), run l n s = some f → run (l.set i { x with a := y.a }) n s = some f := by
  intro n
  induction n using Nat.strongRecOn with
  | _ n ih =>
    intro s f h
    obtain ⟨m, z, rfl, hz, h2⟩ := run_some h
    clear h
    have hi : i < l.length := (List.getElem?_eq_some_iff.1 hx).1
    have far : ∀ s1 : Sta, s1.pc = j → run l m s1 = some f → run (l.set i { x with a := y.a }) m { s1 with pc := y.a.toNat } = some f := by
      intro s1 hp hr
      obtain ⟨m2, w, rfl, hw, h3⟩ := run_some hr
      rw [hp, hy] at hw
      obtain rfl := Option.some.inj hw
      rw [exec_jump hyo] at h3
      rcases h3 with h3 | ⟨s2, h3, hr2⟩
      · cases h3
      · cases h3
        exact run_more _ _ _ (ih m2 (by omega) _ _ hr2)
    by_cases hp : s.pc = i
    · rw [hp, hx] at hz
      obtain rfl := Option.some.inj hz
      have hz' : (l.set i { x with a := y.a })[s.pc]? = some { x with a := y.a } := by rw [hp, List.getElem?_set_self hi]
      rcases hop with ho | ho
      · rw [exec_jump ho] at h2
        rcases h2 with h2 | ⟨s', h2, hr⟩
        · cases h2
        · cases h2
          rw [run_go hz' (exec_jump (x := { x with a := y.a }) ho s)]
          exact far { s with pc := x.a.toNat } hj hr
      · rw [exec_jin ho] at h2
        cases e : s.st with
        | nil => rw [e] at h2; rcases h2 with h2 | ⟨s', h2, hr⟩ <;> cases h2
        | cons c t =>
          rw [e] at h2
          rcases h2 with h2 | ⟨s', h2, hr⟩
          · cases h2
          · cases h2
            have hgo : exec { x with a := y.a } s = .go { s with pc := if c.1 then s.pc + 1 else y.a.toNat, st := t } := by rw [exec_jin (x := { x with a := y.a }) ho, e]
            rw [run_go hz' hgo]
            cases hc : c.1
            · rw [hc] at hr
              exact far { s with pc := x.a.toNat, st := t } hj hr
            · rw [hc] at hr
              exact ih m (by omega) _ _ hr
    · have hz' : (l.set i { x with a := y.a })[s.pc]? = some z := by rw [List.getElem?_set_ne (by omega)]; exact hz
      rcases h2 with h2 | ⟨s', h2, hr⟩
      · exact run_fin hz' h2
      · rw [run_go hz' h2]; exact ih m (by omega) _ _ hr

/-- entries that lead to a function's end may be left out -/
inductive Del (e : Nat) : List Nat → List Nat → Prop where
  | nil : Del e [] []
  | keep (b : Nat) {r r' : List Nat} : Del e r r' → Del e (b :: r) (b :: r')
  | drop {r r' : List Nat} : Del e r r' → Del e (e :: r) r'
/-- from here, over jumps, to a return -/
inductive Chain (l : List Ins) : Nat → Prop where
  | ret {p : Nat} {y : Ins} : l[p]? = some y → y.op = 24 → Chain l p
  | jump {p : Nat} {y : Ins} : l[p]? = some y → y.op = 15 → Chain l y.a.toNat → Chain l p
theorem chain_run {l : List Ins} {p : Nat} (h : Chain l p) : ∀ (m : Nat) (s : Sta) (f : Fin), s.pc = p → run l m s = some f → ∃ m2 p2 y, m2 ≤ m ∧ l[p2]? = some y ∧ y.op = 24 ∧ run l m2 { s with pc := p2 } = some f := by
  induction h with
  | @ret p y hy ho =>
    intro m s f hp hr
    exact ⟨m, p, y, Nat.le_refl _, hy, ho, by rw [← hp]; exact hr⟩
  | @jump p y hy ho _ ih =>
    intro m s f hp hr
    obtain ⟨m2, w, rfl, hw, h3⟩ := run_some hr
    rw [hp, hy] at hw
    obtain rfl := Option.some.inj hw
    rw [exec_jump ho] at h3
    rcases h3 with h3 | ⟨s2, h3, hr2⟩
    · cases h3
    · cases h3
      obtain ⟨m3, p2, z, h1, h2, h3, h4⟩ := ih m2 _ f rfl hr2
      exact ⟨m3, p2, z, by omega, h2, h3, h4⟩

/-- an instruction that is no return does the same with fewer entries -/
theorem exec_rel {z : Ins} (ho : z.op ≠ 24) {e pc : Nat} {st vars : List Cell} {back back' : List Nat} (hd : Del e back back') :
    (∀ f, exec z ⟨pc, st, vars, back⟩ = .fin f → exec z ⟨pc, st, vars, back'⟩ = .fin f) ∧
    (∀ s1, exec z ⟨pc, st, vars, back⟩ = .go s1 → ∃ s1', exec z ⟨pc, st, vars, back'⟩ = .go s1' ∧ s1.pc = s1'.pc ∧ s1.st = s1'.st ∧ s1.vars = s1'.vars ∧ Del e s1.back s1'.back) := by
  unfold exec
  by_cases c : z.op = 0 ∨ z.op = 23
  · simp only [if_pos c]; exact ⟨fun f h => (by cases h), fun s1 h => (by cases h; exact ⟨_, rfl, rfl, rfl, rfl, hd⟩)⟩
  simp only [if_neg c]; clear c
  by_cases c : z.op = 1
  · simp only [if_pos c]; exact ⟨fun f h => (by cases h), fun s1 h => (by cases h; exact ⟨_, rfl, rfl, rfl, rfl, hd⟩)⟩
  simp only [if_neg c]; clear c
  by_cases c : z.op = 2
  · simp only [if_pos c]
    cases st with
    | nil => exact ⟨fun f h => (by cases h), fun s1 h => (by cases h)⟩
    | cons q t => exact ⟨fun f h => (by cases h), fun s1 h => (by cases h; exact ⟨_, rfl, rfl, rfl, rfl, hd⟩)⟩
  simp only [if_neg c]; clear c
  by_cases c : z.op = 3
  · simp only [if_pos c]
    cases st with
    | nil => exact ⟨fun f h => (by cases h), fun s1 h => (by cases h)⟩
    | cons q t => exact ⟨fun f h => (by cases h), fun s1 h => (by cases h; exact ⟨_, rfl, rfl, rfl, rfl, hd⟩)⟩
  simp only [if_neg c]; clear c
  by_cases c : z.op = 4
  · simp only [if_pos c]
    cases st with
    | nil => exact ⟨fun f h => (by cases h), fun s1 h => (by cases h)⟩
    | cons q t => exact ⟨fun f h => (by cases h), fun s1 h => (by cases h; exact ⟨_, rfl, rfl, rfl, rfl, hd⟩)⟩
  simp only [if_neg c]; clear c
  by_cases c : z.op = 5
  · simp only [if_pos c]
    by_cases d : 0 ≤ z.a ∧ z.a < 8
    · simp only [if_pos d]; exact ⟨fun f h => (by cases h), fun s1 h => (by cases h; exact ⟨_, rfl, rfl, rfl, rfl, hd⟩)⟩
    · simp only [if_neg d]; exact ⟨fun f h => (by cases h), fun s1 h => (by cases h)⟩
  simp only [if_neg c]; clear c
  by_cases c : z.op = 6
  · simp only [if_pos c]
    cases st with
    | nil => exact ⟨fun f h => (by cases h), fun s1 h => (by cases h)⟩
    | cons q t =>
      by_cases d : 0 ≤ z.a ∧ z.a < 8
      · simp only [if_pos d]; exact ⟨fun f h => (by cases h), fun s1 h => (by cases h; exact ⟨_, rfl, rfl, rfl, rfl, hd⟩)⟩
      · simp only [if_neg d]; exact ⟨fun f h => (by cases h), fun s1 h => (by cases h)⟩
  simp only [if_neg c]; clear c
  by_cases c : z.op = 14
  · simp only [if_pos c]; exact ⟨fun f h => h, fun s1 h => (by cases h)⟩
  simp only [if_neg c]; clear c
  by_cases c : z.op = 15 ∨ z.op = 20
  · simp only [if_pos c]; exact ⟨fun f h => (by cases h), fun s1 h => (by cases h; exact ⟨_, rfl, rfl, rfl, rfl, hd⟩)⟩
  simp only [if_neg c]; clear c
  by_cases c : z.op = 16
  · simp only [if_pos c]
    cases st with
    | nil => exact ⟨fun f h => (by cases h), fun s1 h => (by cases h)⟩
    | cons q t => exact ⟨fun f h => (by cases h), fun s1 h => (by cases h; exact ⟨_, rfl, rfl, rfl, rfl, hd⟩)⟩
  simp only [if_neg c]; clear c
  by_cases c : z.op = 19
  · simp only [if_pos c]; exact ⟨fun f h => (by cases h), fun s1 h => (by cases h; exact ⟨_, rfl, rfl, rfl, rfl, .keep _ hd⟩)⟩
  simp only [if_neg c]; clear c
  simp only [if_neg ho]
  exact ⟨fun f h => (by cases h), fun s1 h => (by cases h)⟩

/-- a call at a function's end that is turned: it does not come back here (over), or goes into the function at once (its scope passed over) -/
theorem run_tail {l : List Ins} {i : Nat} {x x' : Ins} (hx : l[i]? = some x) (hop : x.op = 19) (hch : Chain l (i + 1))
    (hx' : (x'.op = 20 ∧ x'.a = x.a) ∨ (x'.op = 15 ∧ x'.a.toNat = x.a.toNat + 1 ∧ ∃ y, l[x.a.toNat]? = some y ∧ y.op = 23)) :
    ∀ (n : Nat) (pc pc' : Nat) (st vars : List Cell) (back back' : List Nat) (f : Fin), Del (i + 1) back back' → (pc = pc' ∨ ∃ y y', l[pc]? = some y ∧ y.op = 24 ∧ l[pc']? = some y' ∧ y'.op = 24) → run l n ⟨pc, st, vars, back⟩ = some f → run (l.set i x') n ⟨pc', st, vars, back'⟩ = some f := by
  intro n
  induction n using Nat.strongRecOn with
  | _ n ih =>
    intro pc pc' st vars back back' f hd hpc h
    obtain ⟨m, z, rfl, hz, h2⟩ := run_some h
    clear h
    have hi : i < l.length := (List.getElem?_eq_some_iff.1 hx).1
    dsimp only at hz
    by_cases hzr : z.op = 24
    · -- a return in both
      obtain ⟨z', hz', hzo'⟩ : ∃ z', l[pc']? = some z' ∧ z'.op = 24 := by
        rcases hpc with rfl | ⟨y, y', _, _, h3, h4⟩
        · exact ⟨z, hz, hzr⟩
        · exact ⟨y', h3, h4⟩
      have hne : pc' ≠ i := by
        rintro rfl
        rw [hx] at hz'
        obtain rfl := Option.some.inj hz'
        omega
      have hs' : (l.set i x')[pc']? = some z' := by rw [List.getElem?_set_ne (by omega)]; exact hz'
      rw [exec_ret hzr] at h2
      cases hd with
      | nil =>
        rcases h2 with h2 | ⟨s', h2, _⟩
        · exact run_fin (s := ⟨pc', st, vars, []⟩) hs' (by rw [exec_ret hzo']; exact h2)
        · cases h2
      | @keep b r r' hd =>
        rcases h2 with h2 | ⟨s', h2, hr⟩
        · cases h2
        · cases h2
          rw [run_go (s := ⟨pc', st, vars, b :: r'⟩) hs' (by rw [exec_ret hzo'])]
          exact ih m (by omega) b b st vars r r' f hd (.inl rfl) hr
      | @drop r _ hd =>
        rcases h2 with h2 | ⟨s', h2, hr⟩
        · cases h2
        · cases h2
          obtain ⟨m2, p2, y, hm2, hy, hyo, hr2⟩ := chain_run hch m _ f rfl hr
          exact run_mono (ih m2 (by omega) p2 pc' st vars r back' f hd (.inr ⟨y, z', hy, hyo, hz', hzo'⟩) hr2) (by omega)
    · have hpp : pc = pc' := by
        rcases hpc with h | ⟨y, y', h1, h2, _⟩
        · exact h
        · rw [hz] at h1
          obtain rfl := Option.some.inj h1
          exact absurd h2 hzr
      subst hpp
      by_cases hp : pc = i
      · subst hp
        rw [hx] at hz
        obtain rfl := Option.some.inj hz
        rw [exec_call hop] at h2
        rcases h2 with h2 | ⟨s', h2, hr⟩
        · cases h2
        · cases h2
          have hs' : (l.set pc x')[pc]? = some x' := List.getElem?_set_self hi
          rcases hx' with ⟨ho, ha⟩ | ⟨ho, ha, y, hy, hyo⟩
          · rw [run_go (s := ⟨pc, st, vars, back'⟩) hs' (exec_rec ho _), ha]
            exact ih m (by omega) _ _ st vars _ back' f (.drop hd) (.inl rfl) hr
          · rw [run_go (s := ⟨pc, st, vars, back'⟩) hs' (exec_jump ho _), ha]
            obtain ⟨m2, w, rfl, hw, h3⟩ := run_some hr
            dsimp only at hw
            rw [hy] at hw
            obtain rfl := Option.some.inj hw
            rw [exec_scope hyo] at h3
            rcases h3 with h3 | ⟨s2, h3, hr2⟩
            · cases h3
            · cases h3
              exact run_mono (ih m2 (by omega) _ _ st vars _ back' f (.drop hd) (.inl rfl) hr2) (by omega)
      · have hs' : (l.set i x')[pc]? = some z := by rw [List.getElem?_set_ne (by omega)]; exact hz
        obtain ⟨r1, r2⟩ := exec_rel (pc := pc) (st := st) (vars := vars) hzr hd
        rcases h2 with h2 | ⟨s', h2, hr⟩
        · exact run_fin (s := ⟨pc, st, vars, back'⟩) hs' (r1 _ h2)
        · obtain ⟨s1', g1, g2, g3, g4, g5⟩ := r2 _ h2
          rw [run_go (s := ⟨pc, st, vars, back'⟩) hs' g1]
          obtain ⟨p1, t1, v1, b1⟩ := s'
          obtain ⟨p2, t2, v2, b2⟩ := s1'
          dsimp only at g2 g3 g4 g5
          subst g2; subst g3; subst g4
          exact ih m (by omega) _ _ _ _ _ _ f g5 (.inl rfl) hr

end Go.Proofs.Ytnlndpgbhmkanaa.Op
