/-
  THE WALKS of operand and step: what is kept with an instruction, and what it is as plain data again.
-/
import Derived.Test.YtnlndpgbhmkanaaOpI
namespace Go.Proofs.Ytnlndpgbhmkanaa.Op
open Go.RowKit
set_option linter.unusedVariables false
set_option linter.unusedSimpArgs false

@[go_sem] theorem ta_int_int (v : Value) (w : World) : (Instr.typeAssert (.iface 3 v) 20 3 true).run Try.prog w = .ok (.tuple #[v, .bool true]) w := by kernel_rfl
@[go_sem] theorem ta_a2_int (v : Value) (w : World) : (Instr.typeAssert (.iface 64 v) 20 3 true).run Try.prog w = .ok (.tuple #[.int .i64 0, .bool false]) w := by kernel_rfl
@[go_sem] theorem ta_a3_int (v : Value) (w : World) : (Instr.typeAssert (.iface 65 v) 20 3 true).run Try.prog w = .ok (.tuple #[.int .i64 0, .bool false]) w := by kernel_rfl
@[go_sem] theorem ta_a2_a2 (v : Value) (w : World) : (Instr.typeAssert (.iface 64 v) 20 64 true).run Try.prog w = .ok (.tuple #[v, .bool true]) w := by kernel_rfl
@[go_sem] theorem ta_a3_a2 (v : Value) (w : World) : (Instr.typeAssert (.iface 65 v) 20 64 true).run Try.prog w = .ok (.tuple #[.agg #[.int .i64 0, .int .i64 0], .bool false]) w := by kernel_rfl
@[go_sem] theorem ta_a3_a3 (v : Value) (w : World) : (Instr.typeAssert (.iface 65 v) 20 65 true).run Try.prog w = .ok (.tuple #[v, .bool true]) w := by kernel_rfl
@[go_sem] theorem ta1_int (v : Value) (w : World) : (Instr.typeAssert (.iface 3 v) 20 3 false).run Try.prog w = .ok v w := by kernel_rfl
@[go_sem] theorem ta1_a3 (v : Value) (w : World) : (Instr.typeAssert (.iface 65 v) 20 65 false).run Try.prog w = .ok v w := by kernel_rfl

/-- what operand returns -/
def OpndEnd (x : Ins) (w : World) (e : Ending) (w' : World) : Prop := ∃ v, e = .returned v ∧ OV x v ∧ Below w.heap.size w w'
set_option maxHeartbeats 4000000 in
theorem operand_any (op a b c : Int) (w : World) : Calls Try.prog 18 #[.agg #[.int .i64 op, .int .i64 a, .int .i64 b, .int .i64 c]] w (OpndEnd ⟨op, a, b, c⟩ w) := by
  go_enter Try.func18, Try.ntmps18
  by_cases h5 : op = 5
  · subst h5
    go_wp2_with fail
    go_returns
    exact ⟨_, rfl, .inr (.inl ⟨by simp, by simp [jumps], rfl⟩), by go_grown⟩
  by_cases h6 : op = 6
  · subst h6
    go_wp2_with fail
    go_returns
    exact ⟨_, rfl, .inr (.inl ⟨by simp, by simp [jumps], rfl⟩), by go_grown⟩
  by_cases h23 : op = 23
  · subst h23
    go_wp2_with fail
    go_returns
    exact ⟨_, rfl, .inr (.inr ⟨rfl, rfl⟩), by go_grown⟩
  · have e5 : (op == 5) = false := by simpa using h5
    have e6 : (op == 6) = false := by simpa using h6
    have e23 : (op == 23) = false := by simpa using h23
    have H := Lib.hid h23
    clear h5 h6 h23
    go_wp2_with fail
    go_returns
    exact ⟨_, rfl, .inl ⟨H.out, rfl⟩, by go_grown⟩

def insV (x : Ins) : Value := .agg #[.int .i64 x.op, .int .i64 x.a, .int .i64 x.b, .int .i64 x.c]
def StepEnd (x : Ins) (w : World) (e : Ending) (w' : World) : Prop := e = .returned (insV (norm x)) ∧ Below w.heap.size w w'
theorem norm_zero (a b c : Int) : norm ⟨0, a, b, c⟩ = ⟨0, 0, 0, 0⟩ := rfl
theorem norm_scope (a b c : Int) : norm ⟨23, a, b, c⟩ = ⟨23, a, b, c⟩ := rfl
theorem norm_other {op a b c : Int} (h0 : op ≠ 0) (h : op ≠ 23) : norm ⟨op, a, b, c⟩ = ⟨op, a, 0, 0⟩ := by
  unfold norm
  rw [if_neg h0, if_neg h]
set_option maxHeartbeats 4000000 in
theorem step_any (x : Ins) (v : Value) (h : OV x v) (w : World) : Calls Try.prog 21 #[.int .i64 x.op, v] w (StepEnd x w) := by
  obtain ⟨op, a, b, c⟩ := x
  rcases h with ⟨h, rfl⟩ | ⟨h, _, rfl⟩ | ⟨h, rfl⟩
  · go_enter Try.func21, Try.ntmps21
    dsimp only at h
    by_cases h0 : op = 0
    · subst h0
      go_wp2_with fail
      go_returns
      exact ⟨by rw [norm_zero]; rfl, by go_grown⟩
    · have e0 : (op == 0) = false := by simpa using h0
      have HN := Lib.hid (norm_other (a := a) (b := b) (c := c) h0 h)
      clear h0 h
      go_wp2_with fail
      go_returns
      exact ⟨by rw [HN.out]; rfl, by go_grown⟩
  · go_enter Try.func21, Try.ntmps21
    dsimp only at h
    by_cases h0 : op = 0
    · subst h0
      go_wp2_with fail
      go_returns
      exact ⟨by rw [norm_zero]; rfl, by go_grown⟩
    · have e0 : (op == 0) = false := by simpa using h0
      have HN := Lib.hid (norm_other (a := a) (b := b) (c := c) h0 h)
      clear h0 h
      go_wp2_with fail
      go_returns
      exact ⟨by rw [HN.out]; rfl, by go_grown⟩
  · dsimp only at h
    subst h
    go_enter Try.func21, Try.ntmps21
    go_wp2_with fail
    go_region
    (try simp only [Exit.inBlock, Exit.then])
    go_at_K
    go_wp2_with fail
    go_returns
    exact ⟨by rw [norm_scope]; rfl, by go_grown⟩
end Go.Proofs.Ytnlndpgbhmkanaa.Op
