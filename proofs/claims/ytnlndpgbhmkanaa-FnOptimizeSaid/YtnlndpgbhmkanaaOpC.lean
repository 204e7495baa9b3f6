/-
  THE PASS over pairs of instructions and jumps keeps what they mean.
-/
import Derived.Test.YtnlndpgbhmkanaaOpB
namespace Go.Proofs.Ytnlndpgbhmkanaa.Op
set_option linter.unusedVariables false

structure Inv (l : List Ins) : Prop where
  tgt : ∀ (p : Nat) (z : Ins), l[p]? = some z → jumps z → 0 ≤ z.a ∧ z.a.toNat < l.length ∧ ∀ y, l[z.a.toNat]? = some y → z.a.toNat = 0 ∨ (y.op ≠ 2 ∧ y.op ≠ 4)
  fwd : ∀ (p : Nat) (z : Ins), l[p]? = some z → (z.op = 15 ∨ z.op = 16) → (p : Int) < z.a
  jin : ∀ (p : Nat) (z : Ins), l[p]? = some z → z.op = 16 → z.a ≠ (p : Int) + 1

/-- one instruction of the pass -/
def stepOps (l : List Ins) (i : Nat) : List Ins :=
  match l[i]? with
  | none => l
  | some x =>
    if x.op = 1 ∨ x.op = 3 ∨ x.op = 5 then
      match l[i + 1]? with
      | none => l
      | some y => if y.op = 2 then (l.set i { x with op := 0 }).set (i + 1) { y with op := 0 } else if y.op = 4 then (l.set i { x with op := 0 }).set (i + 1) { y with op := 1 } else l
    else if x.op = 15 ∨ x.op = 16 then
      if x.a - 1 = i then l.set i { x with op := 0 }
      else match l[x.a.toNat]? with
        | none => l
        | some y => if y.op = 15 then l.set i { x with a := y.a } else l
    else l
/-- the pass, from the end -/
def opsFrom (l : List Ins) : Nat → List Ins
  | 0 => l
  | i + 1 => opsFrom (stepOps l i) i

theorem not_jumps {x : Ins} (h : x.op = 0 ∨ x.op = 1 ∨ x.op = 3 ∨ x.op = 5 ∨ x.op = 2 ∨ x.op = 4) : ¬ jumps x := by
  unfold jumps; omega
theorem get_set {l : List Ins} {i p : Nat} {v z : Ins} (h : (l.set i v)[p]? = some z) : (p = i ∧ z = v) ∨ (p ≠ i ∧ l[p]? = some z) := by
  by_cases c : p = i
  · subst c
    have hl : p < l.length := by
      have := (List.getElem?_eq_some_iff.1 h).1
      simpa using this
    rw [List.getElem?_set_self hl] at h
    exact .inl ⟨rfl, (Option.some.inj h).symm⟩
  · rw [List.getElem?_set_ne (by omega)] at h
    exact .inr ⟨c, h⟩

/-- an instruction that is none of the jumps is turned into one that is no pop and no constant: nothing is lost -/
theorem Inv.set {l : List Ins} (h : Inv l) {i : Nat} {v : Ins} (hv : ¬ jumps v) (hv2 : v.op ≠ 2 ∧ v.op ≠ 4) : Inv (l.set i v) := by
  refine ⟨fun p z hz hj => ?_, fun p z hz ho => ?_, fun p z hz ho => ?_⟩
  · rcases get_set hz with ⟨_, rfl⟩ | ⟨_, hz⟩
    · exact absurd hj hv
    · obtain ⟨h1, h2, h3⟩ := h.tgt p z hz hj
      refine ⟨h1, by simpa using h2, fun y hy => ?_⟩
      rcases get_set hy with ⟨_, rfl⟩ | ⟨_, hy⟩
      · exact .inr hv2
      · exact h3 y hy
  · rcases get_set hz with ⟨_, rfl⟩ | ⟨_, hz⟩
    · exfalso; exact hv (by unfold jumps; omega)
    · exact h.fwd p z hz ho
  · rcases get_set hz with ⟨_, rfl⟩ | ⟨_, hz⟩
    · exfalso; exact hv (by unfold jumps; omega)
    · exact h.jin p z hz ho
theorem stepOps_inv {l : List Ins} (h : Inv l) (i : Nat) : Inv (stepOps l i) := by
  unfold stepOps
  split
  · exact h
  · rename_i x hx
    split
    · split
      · exact h
      · split
        · exact (h.set (not_jumps (.inl rfl)) ⟨by simp, by simp⟩).set (not_jumps (.inl rfl)) ⟨by simp, by simp⟩
        · split
          · exact (h.set (not_jumps (.inl rfl)) ⟨by simp, by simp⟩).set (not_jumps (.inr (.inl rfl))) ⟨by simp, by simp⟩
          · exact h
    · split
      · rename_i ho
        split
        · exact h.set (not_jumps (.inl rfl)) ⟨by simp, by simp⟩
        · split
          · exact h
          · rename_i y hy
            split
            · rename_i hyo
              have hjx : jumps x := by unfold jumps; omega
              have hjy : jumps y := .inl hyo
              have hxf := h.fwd i x hx ho
              have hyf := h.fwd _ y hy (.inl hyo)
              have hx0 := (h.tgt i x hx hjx).1
              obtain ⟨y0, y1, y2⟩ := h.tgt _ y hy hjy
              refine ⟨fun p z hz hj => ?_, fun p z hz hq => ?_, fun p z hz hq => ?_⟩
              · have key : ∀ (t : Int), (∀ w, l[t.toNat]? = some w → t.toNat = 0 ∨ (w.op ≠ 2 ∧ w.op ≠ 4)) → ∀ w, (l.set i { x with a := y.a })[t.toNat]? = some w → t.toNat = 0 ∨ (w.op ≠ 2 ∧ w.op ≠ 4) := by
                  intro t ht w hw
                  rcases get_set hw with ⟨_, rfl⟩ | ⟨_, hw⟩
                  · refine .inr ⟨?_, ?_⟩ <;> (show x.op ≠ _; omega)
                  · exact ht w hw
                rcases get_set hz with ⟨_, rfl⟩ | ⟨_, hz⟩
                · exact ⟨y0, by simpa using y1, key y.a y2⟩
                · obtain ⟨h1, h2, h3⟩ := h.tgt p z hz hj
                  exact ⟨h1, by simpa using h2, key z.a h3⟩
              · rcases get_set hz with ⟨rfl, rfl⟩ | ⟨_, hz⟩
                · show (p : Int) < y.a; omega
                · exact h.fwd p z hz hq
              · rcases get_set hz with ⟨rfl, rfl⟩ | ⟨_, hz⟩
                · show y.a ≠ (p : Int) + 1; omega
                · exact h.jin p z hz hq
            · exact h
      · exact h

theorem exec_nop {x : Ins} (h : x.op = 0) (s : Sta) : exec x s = .go { s with pc := s.pc + 1 } := by
  unfold exec; rw [h]; rfl
theorem exec_push {x : Ins} (h : x.op = 1) (s : Sta) : exec x s = .go { s with pc := s.pc + 1, st := (true, x.a) :: s.st } := by
  unfold exec; rw [h]; rfl
theorem exec_pop {x : Ins} (h : x.op = 2) (s : Sta) : exec x s = match s.st with | [] => .bad | _ :: t => .go { s with pc := s.pc + 1, st := t } := by
  unfold exec; rw [h]; rfl
theorem exec_dup {x : Ins} (h : x.op = 3) (s : Sta) : exec x s = match s.st with | [] => .bad | c :: t => .go { s with pc := s.pc + 1, st := c :: c :: t } := by
  unfold exec; rw [h]; rfl
theorem exec_const {x : Ins} (h : x.op = 4) (s : Sta) : exec x s = match s.st with | [] => .bad | _ :: t => .go { s with pc := s.pc + 1, st := (true, x.a) :: t } := by
  unfold exec; rw [h]; rfl
theorem exec_load {x : Ins} (h : x.op = 5) (s : Sta) : exec x s = if 0 ≤ x.a ∧ x.a < 8 then .go { s with pc := s.pc + 1, st := s.vars.getD x.a.toNat (false, 0) :: s.st } else .bad := by
  unfold exec; rw [h]; rfl

/-- what a push, a copy, a load does: one value more -/
theorem exec_one {x : Ins} (h : x.op = 1 ∨ x.op = 3 ∨ x.op = 5) (s : Sta) : exec x s = .bad ∨ ∃ c, exec x s = .go { s with pc := s.pc + 1, st := c :: s.st } := by
  rcases h with h | h | h
  · exact .inr ⟨_, exec_push h s⟩
  · rw [exec_dup h]
    cases e : s.st with
    | nil => exact .inl rfl
    | cons c t => exact .inr ⟨c, rfl⟩
  · rw [exec_load h]
    split
    · exact .inr ⟨_, rfl⟩
    · exact .inl rfl

theorem stepOps_run {l : List Ins} (h : Inv l) (i : Nat) (f : Fin) (n : Nat) (st vars : List Cell) (hr : run l n ⟨0, st, vars, []⟩ = some f) : run (stepOps l i) n ⟨0, st, vars, []⟩ = some f := by
  unfold stepOps
  split
  · exact hr
  · rename_i x hx
    split
    · rename_i ho
      split
      · exact hr
      · rename_i y hy
        have hnj : y.op = 2 ∨ y.op = 4 → ∀ (p : Nat) (z : Ins), l[p]? = some z → jumps z → z.a.toNat ≠ i + 1 := by
          intro hyo p z hz hj e
          obtain ⟨_, _, h3⟩ := h.tgt p z hz hj
          rw [e] at h3
          rcases h3 y hy with q | q
          · omega
          · omega
        have hfx : ∀ s f, exec x s ≠ .fin f := by
          intro s f e
          rcases exec_one ho s with q | ⟨c, q⟩ <;> rw [q] at e <;> cases e
        have hx1 : ∀ s s1 : Sta, s.pc = i → exec x s = .go s1 → s1.pc = i + 1 := by
          intro s s1 hp e
          rcases exec_one ho s with q | ⟨c, q⟩
          · rw [q] at e; cases e
          · rw [q] at e; cases e; show s.pc + 1 = i + 1; omega
        split
        · rename_i hyo
          refine run_pair hx hy (hnj (.inl hyo)) hfx (fun s f e => ?_) hx1 (fun s s1 s2 hp e1 e2 => ?_) n _ f (by simp) (fun b hb => by cases hb) hr
          · rw [exec_pop hyo] at e
            cases q : s.st with
            | nil => rw [q] at e; cases e
            | cons c t => rw [q] at e; cases e
          · rcases exec_one ho s with q | ⟨c, q⟩
            · rw [q] at e1; cases e1
            · rw [q] at e1; cases e1
              rw [exec_pop hyo] at e2
              cases e2
              exact ⟨rfl, by show s.pc + 1 + 1 = i + 2; omega, _, exec_nop rfl s, by show s.pc + 1 = i + 1; omega, by rw [exec_nop rfl]⟩
        · split
          · rename_i hyo
            refine run_pair hx hy (hnj (.inr hyo)) hfx (fun s f e => ?_) hx1 (fun s s1 s2 hp e1 e2 => ?_) n _ f (by simp) (fun b hb => by cases hb) hr
            · rw [exec_const hyo] at e
              cases q : s.st with
              | nil => rw [q] at e; cases e
              | cons c t => rw [q] at e; cases e
            · rcases exec_one ho s with q | ⟨c, q⟩
              · rw [q] at e1; cases e1
              · rw [q] at e1; cases e1
                rw [exec_const hyo] at e2
                cases e2
                exact ⟨rfl, by show s.pc + 1 + 1 = i + 2; omega, _, exec_nop rfl s, by show s.pc + 1 = i + 1; omega, by rw [exec_push rfl]⟩
          · exact hr
    · split
      · rename_i ho
        have hjx : jumps x := by unfold jumps; omega
        have hx0 := (h.tgt i x hx hjx).1
        split
        · rename_i ha
          have hop : x.op = 15 := by
            rcases ho with q | q
            · exact q
            · exact absurd (show x.a = (i : Int) + 1 by omega) (h.jin i x hx q)
          refine run_same hx (fun s hs => ?_) n _ f hr
          rw [exec_jump hop, exec_nop rfl, hs, show x.a.toNat = i + 1 by omega]
        · split
          · exact hr
          · rename_i y hy
            split
            · rename_i hyo
              have hxf := h.fwd i x hx ho
              exact run_thread hx ho rfl (by omega) hy hyo n _ f hr
            · exact hr
      · exact hr

theorem ops_run {f : Fin} {n : Nat} {st vars : List Cell} : ∀ (i : Nat) (l : List Ins), Inv l → run l n ⟨0, st, vars, []⟩ = some f → run (opsFrom l i) n ⟨0, st, vars, []⟩ = some f
  | 0, l, _, h => h
  | i + 1, l, hi, h => ops_run i _ (stepOps_inv hi i) (stepOps_run hi i f n st vars h)

end Go.Proofs.Ytnlndpgbhmkanaa.Op
