/-
  THE PASS over calls at the ends of functions keeps what they mean; both passes; what the lists must be.
-/
import Derived.Test.YtnlndpgbhmkanaaOpC
namespace Go.Proofs.Ytnlndpgbhmkanaa.Op
set_option linter.unusedVariables false

/-- do jumps lead from here to a return? -/
def follow (l : List Ins) : Nat → Nat → Bool
  | 0, _ => false
  | n + 1, j => match l[j]? with
    | none => false
    | some y => if y.op = 15 then follow l n y.a.toNat else decide (y.op = 24)
theorem follow_chain {l : List Ins} : ∀ (n j : Nat), follow l n j = true → Chain l j
  | 0, j, h => by cases h
  | n + 1, j, h => by
    unfold follow at h
    cases e : l[j]? with
    | none => rw [e] at h; cases h
    | some y =>
      rw [e] at h
      by_cases c : y.op = 15
      · simp only [if_pos c] at h
        exact .jump e c (follow_chain n _ h)
      · simp only [if_neg c, decide_eq_true_eq] at h
        exact .ret e h

/-- what is known of a scope: has it no variables? -/
def put (sc : Nat → Option Bool) (i : Nat) (v : Bool) (j : Nat) : Option Bool := if j = i then some v else sc j
/-- an instruction that is a call of the innermost scope, at that one's end -/
def stepCall (l : List Ins) (i : Nat) (x : Ins) (pcs : List Nat) (sc : Nat → Option Bool) : List Ins :=
  match pcs with
  | [] => l
  | j :: _ => if x.a = j then
      match sc j with
      | none => l
      | some can => if follow l l.length (i + 1) then (if can then l.set i { x with op := 15, a := (j : Int) + 1 } else l.set i { x with op := 20 }) else l
    else l
/-- the pass, from place i on, over n instructions -/
def callsFrom : Nat → Nat → List Ins → List Nat → (Nat → Option Bool) → List Ins
  | 0, _, l, _, _ => l
  | n + 1, i, l, pcs, sc => match l[i]? with
    | none => l
    | some x =>
      if x.op = 23 then callsFrom n (i + 1) l (i :: pcs) (if x.c = 0 then put sc i (decide (x.b = 0)) else sc)
      else if x.op = 19 then callsFrom n (i + 1) (stepCall l i x pcs sc) pcs sc
      else if x.op = 24 then (match pcs with | [] => l | _ :: r => callsFrom n (i + 1) l r sc)
      else callsFrom n (i + 1) l pcs sc

def Scopes (l : List Ins) (pcs : List Nat) : Prop := ∀ j ∈ pcs, ∃ y, l[j]? = some y ∧ y.op = 23
theorem stepCall_run {l : List Ins} {i : Nat} {x : Ins} {pcs : List Nat} {sc : Nat → Option Bool} (hx : l[i]? = some x) (ho : x.op = 19) (hp : Scopes l pcs) {n : Nat} {st vars : List Cell} {f : Fin} (h : run l n ⟨0, st, vars, []⟩ = some f) :
    run (stepCall l i x pcs sc) n ⟨0, st, vars, []⟩ = some f ∧ Scopes (stepCall l i x pcs sc) pcs := by
  have keep : ∀ v, Scopes (l.set i v) pcs := by
    intro v j hj
    obtain ⟨y, hy, hyo⟩ := hp j hj
    have hne : j ≠ i := by
      rintro rfl
      rw [hx] at hy
      obtain rfl := Option.some.inj hy
      omega
    exact ⟨y, by rw [List.getElem?_set_ne (by omega)]; exact hy, hyo⟩
  unfold stepCall
  split
  · exact ⟨h, hp⟩
  · rename_i j r
    split
    · rename_i ha
      split
      · exact ⟨h, hp⟩
      · rename_i can _
        split
        · rename_i hf
          have hch := follow_chain _ _ hf
          split
          · obtain ⟨y, hy, hyo⟩ := hp j (List.mem_cons_self ..)
            refine ⟨run_tail (x' := { x with op := 15, a := (j : Int) + 1 }) hx ho hch (.inr ⟨rfl, ?_, y, ?_, hyo⟩) n 0 0 st vars [] [] f .nil (.inl rfl) h, keep _⟩
            · show ((j : Int) + 1).toNat = x.a.toNat + 1
              omega
            · rw [ha]; exact hy
          · exact ⟨run_tail (x' := { x with op := 20 }) hx ho hch (.inl ⟨rfl, rfl⟩) n 0 0 st vars [] [] f .nil (.inl rfl) h, keep _⟩
        · exact ⟨h, hp⟩
    · exact ⟨h, hp⟩
theorem calls_run {f : Fin} {m : Nat} {st vars : List Cell} : ∀ (n i : Nat) (l : List Ins) (pcs : List Nat) (sc : Nat → Option Bool), Scopes l pcs → run l m ⟨0, st, vars, []⟩ = some f → run (callsFrom n i l pcs sc) m ⟨0, st, vars, []⟩ = some f
  | 0, _, l, _, _, _, h => h
  | n + 1, i, l, pcs, sc, hp, h => by
    unfold callsFrom
    cases e : l[i]? with
    | none => exact h
    | some x =>
      dsimp only
      split
      · rename_i ho
        refine calls_run n (i + 1) l _ _ (fun j hj => ?_) h
        rcases List.mem_cons.1 hj with rfl | hj
        · exact ⟨x, e, ho⟩
        · exact hp j hj
      · split
        · rename_i ho
          obtain ⟨h1, h2⟩ := stepCall_run (sc := sc) e ho hp h
          exact calls_run n (i + 1) _ pcs sc h2 h1
        · split
          · split
            · exact h
            · rename_i j r
              exact calls_run n (i + 1) l r sc (fun q hq => hp q (List.mem_cons_of_mem _ hq)) h
          · exact calls_run n (i + 1) l pcs sc hp h

/-- an instruction as plain data: one that does nothing has no numbers; none but a scope has more than one -/
def norm (x : Ins) : Ins := if x.op = 0 then ⟨0, 0, 0, 0⟩ else if x.op = 23 then x else ⟨x.op, x.a, 0, 0⟩
theorem exec_norm (x : Ins) (s : Sta) : exec (norm x) s = exec x s := by
  unfold norm
  split
  · rename_i h
    rw [exec_nop rfl, exec_nop h]
  · split
    · rfl
    · unfold exec; rfl
theorem run_norm (l : List Ins) : ∀ (n : Nat) (s : Sta) (f : Fin), run l n s = some f → run (l.map norm) n s = some f := by
  intro n
  induction n with
  | zero => intro s f h; exact absurd h (by simp [run])
  | succ n ih =>
    intro s f h
    obtain ⟨m, x, hm, hx, h2⟩ := run_some h
    obtain rfl : m = n := by omega
    have hx' : (l.map norm)[s.pc]? = some (norm x) := by rw [List.getElem?_map, hx]; rfl
    rcases h2 with h2 | ⟨s', h2, hr⟩
    · exact run_fin hx' (by rw [exec_norm]; exact h2)
    · rw [run_go hx' (by rw [exec_norm]; exact h2)]; exact ih _ _ hr

/-- what the pass makes of a list -/
def opt (l : List Ins) (calls : Bool) : List Ins := (if calls then callsFrom l.length 0 l [] (fun _ => none) else opsFrom l l.length).map norm

/-- an instruction that may stand in a list -/
def StepOk (l : List Ins) (i : Nat) (x : Ins) : Prop :=
  (x.op = 0 ∨ x.op = 1 ∨ x.op = 2 ∨ x.op = 3 ∨ x.op = 4 ∨ x.op = 14 ∨ x.op = 23 ∨ x.op = 24) ∨ ((x.op = 5 ∨ x.op = 6) ∧ 0 ≤ x.a ∧ x.a < 8) ∨
  (jumps x ∧ 0 ≤ x.a ∧ x.a < l.length ∧ ∃ t, l[x.a.toNat]? = some t ∧ ((x.op = 19 ∨ x.op = 20) → t.op = 23) ∧ (0 < x.a → t.op ≠ 2 ∧ t.op ≠ 4) ∧ ((x.op = 15 ∨ x.op = 16) → (i : Int) < x.a) ∧ (x.op = 16 → x.a ≠ (i : Int) + 1))
/-- the lists of which the statement speaks -/
structure StepsOk (l : List Ins) : Prop where
  len : l.length ≤ 200
  last : ∃ x, l[l.length - 1]? = some x ∧ x.op = 24
  each : ∀ i x, l[i]? = some x → StepOk l i x
theorem StepsOk.inv {l : List Ins} (h : StepsOk l) : Inv l := by
  refine ⟨fun p z hz hj => ?_, fun p z hz ho => ?_, fun p z hz ho => ?_⟩
  · rcases h.each p z hz with q | q | ⟨_, h0, h1, t, ht, _, h3, _⟩
    · unfold jumps at hj; omega
    · unfold jumps at hj; omega
    · refine ⟨h0, by omega, fun y hy => ?_⟩
      rw [ht] at hy
      obtain rfl := Option.some.inj hy
      by_cases c : 0 < z.a
      · exact .inr (h3 c)
      · exact .inl (by omega)
  · rcases h.each p z hz with q | q | ⟨_, _, _, t, _, _, _, h4, _⟩
    · omega
    · omega
    · exact h4 ho
  · rcases h.each p z hz with q | q | ⟨_, _, _, t, _, _, _, _, h5⟩
    · omega
    · omega
    · exact h5 ho
theorem opt_law {l : List Ins} (h : StepsOk l) (calls : Bool) (n : Nat) (st vars : List Cell) (f : Fin) (hr : run l n ⟨0, st, vars, []⟩ = some f) : run (opt l calls) n ⟨0, st, vars, []⟩ = some f := by
  unfold opt
  refine run_norm _ _ _ _ ?_
  cases calls
  · exact ops_run l.length l h.inv hr
  · exact calls_run l.length 0 l [] _ (fun _ h => by cases h) hr

end Go.Proofs.Ytnlndpgbhmkanaa.Op
