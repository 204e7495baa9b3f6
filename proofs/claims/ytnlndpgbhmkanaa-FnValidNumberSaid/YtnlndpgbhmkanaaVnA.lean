/-
  THE WALKS of tonumber's own check (the lexer's validNumber and what it calls): what each returns.
-/
import Derived.Test.YtnlndpgbhmkanaaRows
import Derived.Test.YtnlndpgbhmkanaaVnP
import Derived.WalkKit
import Derived.WalkSpells
import Derived.WalkLawsBesides
import Derived.Deep.QuietTactic
import Derived.BigQuiet
import Derived.Handy
import Derived.Lib.Hide
namespace Go.Proofs.Ytnlndpgbhmkanaa.Vn
open Go.RowKit

def Drawn (w w' : World) : Prop := ∃ n, w' = w.drewN n

set_option maxHeartbeats 400000 in
theorem isNumber_any (c : Int) (w : World) :
    Calls Try.prog 29 #[.int .u8 c] w fun e w' => e = .returned (.bool (isNum c)) ∧ w = w' := by
  unfold isNum
  go_enter Try.func29, Try.ntmps29
  by_cases h : 48 ≤ c
  · go_wp2
    go_ret
    exact ⟨by simp [h], rfl⟩
  · go_wp2
    go_ret
    exact ⟨by simp [h]; omega, rfl⟩

set_option maxHeartbeats 400000 in
theorem isIdent_any (c : Int) (w : World) :
    Calls Try.prog 31 #[.int .u8 c, .bool false] w fun e w' => e = .returned (.bool (isId c)) ∧ w = w' := by
  unfold isId
  by_cases h1 : 97 ≤ c <;> by_cases h2 : c ≤ 122 <;> by_cases h3 : 65 ≤ c <;> by_cases h4 : c ≤ 90 <;> try omega
  all_goals
    go_enter Try.func31, Try.ntmps31
    go_wp2
    all_goals
      go_ret
      exact ⟨by first | rfl | (simp [*]; done) | (simp [*]; rw [Bool.eq_iff_iff]; simp; omega), rfl⟩

theorem peek_end (b : Nat) (s : ByteArray) (k : Nat) (hk : s.size ≤ k) (hk' : k ≤ s.size) (w : World) (h0 : w.cell? ⟨b, 0, none⟩ = some (.string s)) (h1 : w.cell? ⟨b, 1, none⟩ = some (.int .i64 k)) :
    Calls Try.prog 28 #[.pointer (some ⟨b, 0, none⟩)] w fun e w' => e = .returned (.int .u8 0) ∧ Drawn w w' := by
  obtain rfl : k = s.size := by omega
  go_enter Try.func28, Try.ntmps28
  go_wp2
  go_quiet (fail)
  go_wp2
  go_ret
  exact ⟨rfl, _, rfl⟩

set_option maxHeartbeats 400000 in
theorem peek_at (b : Nat) (s : ByteArray) (k : Nat) (c : Int) (hk : k < s.size) (hc : Hid (cI s[k] = c)) (hs : s.size ≤ 2147483647) (w : World) (h0 : w.cell? ⟨b, 0, none⟩ = some (.string s)) (h1 : w.cell? ⟨b, 1, none⟩ = some (.int .i64 k)) :
    Calls Try.prog 28 #[.pointer (some ⟨b, 0, none⟩)] w fun e w' => e = .returned (.int .u8 c) ∧ Drawn w w' := by
  have hne : ((s.size : Int) == (k : Int)) = false := by simp; omega
  go_enter Try.func28, Try.ntmps28
  go_wp2
  go_quiet (fail)
  go_wp2
  go_quiet (fail)
  go_wp2
  go_ret
  exact ⟨by rw [← hc.out]; rfl, _, World.drewN_drewN ..⟩

/-- the lexer at block b stands at place k of the text s -/
structure LexAt (b : Nat) (s : ByteArray) (k : Nat) (w : World) : Prop where
  src : w.cell? ⟨b, 0, none⟩ = some (.string s)
  off : w.cell? ⟨b, 1, none⟩ = some (.int .i64 k)
  free : w.frozen? ⟨b, 1, none⟩ = false

theorem LexAt.drewN {b : Nat} {s : ByteArray} {k : Nat} {w : World} (h : LexAt b s k w) (n : Nat) : LexAt b s k (w.drewN n) := ⟨h.src, h.off, h.free⟩
theorem LexAt.setK {b : Nat} {s : ByteArray} {k : Nat} {w : World} (h : LexAt b s k w) (i : Int) (j : Nat) (hj : i = j) : LexAt b s j (w.setCell ⟨b, 1, none⟩ (.int .i64 i)) := by
  obtain ⟨h0, h1, h2⟩ := h
  subst hj
  exact ⟨by go_cell, by go_cell, by go_cell⟩
theorem below_drewN' {B : Nat} {a w : World} (h : Below B a w) (n : Nat) : Below B a (w.drewN n) := ⟨h.os, h.tape, h.output, h.size, h.block⟩

/-- the place, out of the world -/
def offOf (b : Nat) (w : World) : Nat := (intOf ((w.cell? ⟨b, 1, none⟩).getD undef)).toNat
theorem LexAt.offOf {b : Nat} {s : ByteArray} {k : Nat} {w : World} (h : LexAt b s k w) : offOf b w = k := by
  unfold Vn.offOf
  rw [h.off]
  simp [intOf]

/-- what the scan knows at the head of a round -/
def Scan (b : Nat) (s : ByteArray) (w : World) (A : Bool) (st : Value) (wr : World) : Prop :=
  ∃ (k : Nat) (t : Int), k ≤ s.size ∧ 0 ≤ t ∧ t ≤ 3 ∧ (t = 2 → 1 ≤ k) ∧ st = .int .i64 t ∧ LexAt b s k wr ∧ Below b w wr ∧ acc t (s.data.toList.drop k) = A

/-- what the scan returns -/
def ScanEnd (b : Nat) (s : ByteArray) (w : World) (A : Bool) (e : Ending) (w' : World) : Prop :=
  ∃ n : Int, e = .returned (.int .i64 n) ∧ (n == (s.size : Int)) = A ∧ (∃ k, LexAt b s k w') ∧ Below b w w'

theorem scan_of {b : Nat} {s : ByteArray} {w : World} {A : Bool} {wr : World} (k : Nat) (t : Int) (hk : k ≤ s.size) (h0 : 0 ≤ t) (h3 : t ≤ 3) (h2 : t = 2 → 1 ≤ k) (hl : LexAt b s k wr) (hb : Below b w wr) (hA : acc t (s.data.toList.drop k) = A) :
    Scan b s w A (.int .i64 t) wr := ⟨k, t, hk, h0, h3, h2, rfl, hl, hb, hA⟩
theorem scanEnd_of {b : Nat} {s : ByteArray} {w : World} {A : Bool} {wr : World} (k : Nat) (n : Int) (hl : LexAt b s k wr) (hb : Below b w wr) (hA : (n == (s.size : Int)) = A) :
    ScanEnd b s w A (.returned (.int .i64 n)) wr := ⟨n, rfl, hA, ⟨k, hl⟩, hb⟩
theorem beq_no {n m : Int} (h : n ≠ m) : (n == m) = false := by simpa using h
theorem beq_yes {n m : Int} (h : n = m) : (n == m) = true := by simpa using h

end Go.Proofs.Ytnlndpgbhmkanaa.Vn
