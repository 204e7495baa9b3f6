/-
  THE WALKS of Negate and Minus: what - of a value is.
-/
import Derived.Test.YtnlndpgbhmkanaaDoorVaX
import Derived.Test.YtnlndpgbhmkanaaDoorVaE
import Derived.Stop.Asserts
namespace Go.Proofs.YtnlndpgbhmkanaaDoor.Va
open Go.RowKit
set_option linter.unusedVariables false
set_option linter.unusedSimpArgs false

/-! ### a float's sign, turned -/
theorem xor_top (n low : Nat) (h : low < 2 ^ n) : low ^^^ 2 ^ n = 2 ^ n + low ∧ (2 ^ n + low) ^^^ 2 ^ n = low := by
  have e : 2 ^ n + low = 2 ^ n ||| low := by simpa using Nat.two_pow_add_eq_or_of_lt h 1
  have hn : low.testBit n = false := Nat.testBit_lt_two_pow h
  rw [e]
  constructor
  · apply Nat.eq_of_testBit_eq
    intro j
    rw [Nat.testBit_xor, Nat.testBit_or, Nat.testBit_two_pow]
    by_cases c : n = j
    · subst c; simp [hn]
    · simp [c]
  · apply Nat.eq_of_testBit_eq
    intro j
    rw [Nat.testBit_xor, Nat.testBit_or, Nat.testBit_two_pow]
    by_cases c : n = j
    · subst c; simp [hn]
    · simp [c]
theorem neg_fl {h : Int} (h0 : h ≠ 0) (hb : h.natAbs < 2 * B) : Op.negFloat .f64 (fl h) = fl (-h) := by
  obtain ⟨s, M, k, H⟩ := half_of h h0 hb
  obtain ⟨s', M', k', H'⟩ := half_of (-h) (by omega) (by omega)
  have hk := H.hk
  have lo := H.lo
  have hi := H.hi
  have e1 := write_small (decide (-h < 0)) h.natAbs k (-1) (by omega) (by rw [← H.hM]; exact lo) (by rw [← H.hM]; exact hi) (by omega) (by omega) hk
  have e2 : fl (-h) = wd (decide (-h < 0)) M (-1 - k) := by
    unfold fl
    rw [Int.natAbs_neg, e1, ← H.hM]
  rw [H.hfl, e2]
  obtain ⟨n, hn⟩ : ∃ n : Nat, (-1 - (k : Int) + 1074) = n := ⟨(-1 - (k : Int) + 1074).toNat, by omega⟩
  have hr := rung_le n M (by omega) hi
  have hlt : (-1 - (k : Int) + 1074).toNat * B + M < 2 ^ 63 := by
    rw [hn, Int.toNat_natCast]
    unfold B at *
    omega
  have hx := xor_top 63 _ hlt
  have hsgn : Ieee.double.signWeight = 2 ^ 63 := by decide
  have hbit : (2 : Nat) ^ (FloatKind.f64.format.exponentBits + FloatKind.f64.format.fractionBits) = 2 ^ 63 := by decide
  unfold Op.negFloat wd Ieee.Format.word
  rw [hbit, H.hs, hsgn]
  by_cases c : h < 0
  · have c' : ¬ (-h < 0) := by omega
    simp only [c, c', decide_true, decide_false, if_true, Bool.false_eq_true, if_false]
    exact hx.2
  · have c' : -h < 0 := by omega
    simp only [c, c', decide_true, decide_false, if_true, Bool.false_eq_true, if_false]
    exact hx.1

/-! ### the program's negation -/
theorem negate_any (n : Int) (hlo : -9007199254740992 ≤ n) (hhi : n ≤ 9007199254740992) (w : World) : Calls Tryd.prog 59 #[.int .i64 n] w fun e w' => e = .returned (.iface 3 (.int .i64 (-n))) ∧ w = w' := by
  have hw : IntKind.i64.wrap (-n) = -n := by rw [IntKind.wrap_i64]; omega
  have hne : ¬ n = -9223372036854775808 := by omega
  go_enter Tryd.func59, Tryd.ntmps59
  go_wp2_with fail
  go_returns
  exact ⟨by simp [hw], rfl⟩

theorem opNegate_int (n : Int) (hlo : -9007199254740992 ≤ n) (hhi : n ≤ 9007199254740992) (w : World) : Calls Tryd.prog 48 #[.iface 3 (.int .i64 n)] w fun e w' => e = .returned (.iface 3 (.int .i64 (-n))) ∧ w = w' := by
  go_enter Tryd.func48, Tryd.ntmps48
  go_wp2_with fail
  refine (negate_any n hlo hhi w).mono ?_
  rintro e w' ⟨rfl, rfl⟩
  go_wp2_with fail
  go_returns
  exact ⟨rfl, rfl⟩
theorem opNegate_float {h : Int} (h0 : h ≠ 0) (hb : h.natAbs < 2 * B) (w : World) : Calls Tryd.prog 48 #[.iface 53 (.float .f64 (fl h))] w fun e w' => e = .returned (.iface 53 (.float .f64 (fl (-h)))) ∧ w = w' := by
  have hn := neg_fl h0 hb
  have hun : ∀ w : World, (Op.unary UnOp.neg (.float .f64 (fl h))).run Tryd.prog w = .ok (.float .f64 (fl (-h))) w := fun w => by rw [← hn]; rfl
  clear hn
  go_enter Tryd.func48, Tryd.ntmps48
  go_wp2_with fail
  go_returns
  exact ⟨rfl, rfl⟩
theorem opNegate_num {h : Int} (hlo : -18014398509481984 ≤ h) (hhi : h ≤ 18014398509481984) (hodd : h % 2 = 0 ∨ (-9007199254740992 < h ∧ h < 9007199254740992)) (w : World) : Calls Tryd.prog 48 #[gnum h] w fun e w' => e = .returned (gnum (-h)) ∧ w = w' := by
  unfold gnum
  by_cases he : h % 2 = 0
  · rw [if_pos he, if_pos (by omega), show (-h) / 2 = -(h / 2) by omega]
    exact opNegate_int _ (by omega) (by omega) w
  · rw [if_neg he, if_neg (by omega)]
    exact opNegate_float (by omega) (by unfold B; omega) w

/-- an error of the negation -/
def NegErr (w : World) (e : Ending) (w' : World) : Prop := ∃ v, e = .returned (.iface 107 (.pointer (some v))) ∧ Below w.heap.size w w'
theorem opNegate_other (g : Value) (hg : g = .nilIface ∨ (∃ v, g = .iface 4 v) ∨ (∃ v, g = .iface 9 v) ∨ (∃ v, g = .iface 48 v) ∨ (∃ v, g = .iface 79 v)) (w : World) : Calls Tryd.prog 48 #[g] w (NegErr w) := by
  rcases hg with rfl | ⟨gv, rfl⟩ | ⟨gv, rfl⟩ | ⟨gv, rfl⟩ | ⟨gv, rfl⟩
  all_goals
    go_enter Tryd.func48, Tryd.ntmps48
    go_wp2_with fail
    go_returns
    exact ⟨_, rfl, by go_grown⟩

theorem zzNegate_of (g : Value) (w : World) (E : Ending → World → Prop) (h : Calls Tryd.prog 48 #[g] w fun e w' => (∃ v, e = .returned v ∧ (v = .nilIface ∨ ∃ t x, v = .iface t x)) ∧ E e w') : Calls Tryd.prog 36 #[g] w E := by
  have HH := Lib.hid h
  clear h
  go_enter Tryd.func36, Tryd.ntmps36
  go_wp2_with fail
  refine HH.out.mono ?_
  rintro e w' ⟨⟨v, rfl, hv⟩, hE⟩
  have HE := Lib.hid hE
  clear hE
  rcases hv with rfl | ⟨t, x, rfl⟩
  · go_wp2_with fail
    exact HE.out
  · go_wp2_with fail
    exact HE.out

@[go_sem] theorem ta_unary_err (v : Value) (w : World) : (Instr.typeAssert (.iface 107 v) 20 67 true).run Tryd.prog w = .ok (.tuple #[.iface 107 v, .bool true]) w := run_typeAssert_hasB Tryd.underlying67 (by kernel_rfl) v 20 w

/-- the answer that is an error -/
def errRes : Value := .agg #[.int .i64 0, .int .i64 0, .string ⟨#[]⟩, .slice none 0 0, .slice none 0 0, .slice none 0 0, .int .i64 1]
set_option maxHeartbeats 400000 in
theorem result_err (a : Addr) (w : World) : Calls Tryd.prog 25 #[.iface 107 (.pointer (some a))] w (Ret errRes w) := by
  unfold errRes
  go_enter Tryd.func25, Tryd.ntmps25
  go_wp2_with fail
  go_returns
  exact ⟨rfl, by go_grown⟩

/-! ### the reference -/
set_option maxHeartbeats 1000000 in
theorem number_any (h : Int) (hlo : -18014398509481984 ≤ h) (hhi : h ≤ 18014398509481984) (hodd : h % 2 = 0 ∨ (-9007199254740992 < h ∧ h < 9007199254740992)) (w : World) : Calls Tryd.prog 35 #[.int .i64 h] w (Ret (.tuple #[flat 3 h ⟨#[]⟩, .int .i64 0]) w) := by
  have h1 : ¬ h < -18014398509481984 := by omega
  have h2 : ¬ 18014398509481984 < h := by omega
  unfold flat
  by_cases he : h.tmod 2 = 0
  · go_enter Tryd.func35, Tryd.ntmps35
    go_wp2_with fail
    go_returns
    exact ⟨rfl, by go_grown⟩
  · have h3 : ¬ h ≤ -9007199254740992 := by
      intro hh
      rcases hodd with q | q
      · exact he (Int.tmod_eq_zero_of_dvd (Int.dvd_of_emod_eq_zero q))
      · omega
    have h4 : ¬ 9007199254740992 ≤ h := by
      intro hh
      rcases hodd with q | q
      · exact he (Int.tmod_eq_zero_of_dvd (Int.dvd_of_emod_eq_zero q))
      · omega
    go_enter Tryd.func35, Tryd.ntmps35
    go_wp2_with fail
    go_returns
    exact ⟨rfl, by go_grown⟩

section
variable (h : Int) (t : ByteArray) (la ka va : Option Addr) (n1 n2 n3 lc kc vc : Nat) (w : World)
set_option maxHeartbeats 1000000 in
theorem minus_num (h0 : h ≠ 0) (hlo : -18014398509481984 ≤ h) (hhi : h ≤ 18014398509481984) (hodd : h % 2 = 0 ∨ (-9007199254740992 < h ∧ h < 9007199254740992)) : Calls Tryd.prog 18 #[.agg #[.int .i64 3, .int .i64 h, .string t, .slice la n1 lc, .slice ka n2 kc, .slice va n3 vc]] w (Ret (.tuple #[flat 3 (-h) ⟨#[]⟩, .int .i64 0]) w) := by
  have hw : IntKind.i64.wrap (-h) = -h := by rw [IntKind.wrap_i64]; omega
  go_enter Tryd.func18, Tryd.ntmps18
  go_wp2_with fail
  refine (number_any (-h) (by omega) (by omega) (by omega) _).mono ?_
  rintro e w' ⟨rfl, hb⟩
  unfold flat
  have hb1 := keep hb (by have := block_new (w.alloc (.cells #[.int .i64 3, .int .i64 h, .string t, .slice la n1 lc, .slice ka n2 kc, .slice va n3 vc] 26)) #[.int .i64 0, .int .i64 0, .string ⟨#[]⟩, .slice none 0 0, .slice none 0 0, .slice none 0 0] 26; rwa [World.size_alloc] at this)
  have hc := cells6 hb1
  have HB := Lib.hid ((show Below w.heap.size w _ by go_grown : Below w.heap.size w ((w.alloc (.cells #[.int .i64 3, .int .i64 h, .string t, .slice la n1 lc, .slice ka n2 kc, .slice va n3 vc] 26)).alloc (.cells #[.int .i64 0, .int .i64 0, .string ⟨#[]⟩, .slice none 0 0, .slice none 0 0, .slice none 0 0] 26))).trans (hb.mono (by simp; omega)))
  clear hb hb1
  go_wp2_with fail
  refine bodyPost_ret (v := .tuple #[.agg #[.int .i64 3, .int .i64 (-h), .string ⟨#[]⟩, .slice none 0 0, .slice none 0 0, .slice none 0 0], .int .i64 0]) (by simp [results, Tryd.results18, go_sem, *]) rfl ⟨rfl, ?_⟩
  exact sets6 HB.out (by omega) _ _ _ _ _ _
set_option maxHeartbeats 1000000 in
theorem minus_zero : Calls Tryd.prog 18 #[.agg #[.int .i64 3, .int .i64 0, .string t, .slice la n1 lc, .slice ka n2 kc, .slice va n3 vc]] w (Ret (.tuple #[flat 0 0 ⟨#[]⟩, .int .i64 2]) w) := by
  unfold flat
  go_enter Tryd.func18, Tryd.ntmps18
  go_wp2_with fail
  go_returns
  exact ⟨rfl, by go_grown⟩
set_option maxHeartbeats 1000000 in
theorem minus_other (k : Int) (hk : k ≠ 3) (h7 : k ≠ 7) : Calls Tryd.prog 18 #[.agg #[.int .i64 k, .int .i64 h, .string t, .slice la n1 lc, .slice ka n2 kc, .slice va n3 vc]] w (Ret (.tuple #[flat 0 0 ⟨#[]⟩, .int .i64 1]) w) := by
  unfold flat
  go_enter Tryd.func18, Tryd.ntmps18
  go_wp2_with fail
  go_returns
  exact ⟨rfl, by go_grown⟩
end

end Go.Proofs.YtnlndpgbhmkanaaDoor.Va
