/-
  How half a whole number stands to the bounds that encodeFloat64 asks.
-/
import Derived.Test.YtgjmgneppecfgaaGreatDoorQ14
import Derived.Test.YtgjmgneppecfgaaGreatDoorQ15
set_option linter.unusedVariables false
set_option linter.unusedSimpArgs false
namespace Go.Proofs.YtgjmgneppecfgaaGreatDoor.Mb
open Go.RowKit Go.Proofs.YtgjmgneppecfgaaGreatDoor.Va Go.Proofs.YtgjmgneppecfgaaGreatDoor.Ba Go.Proofs.YtgjmgneppecfgaaGreatDoor.Ma
open Ieee
set_option linter.unusedVariables false
set_option linter.unusedSimpArgs false

theorem read_max : Ieee.double.read 9218868437227405311 = .number false 9007199254740991 971 := by rfl
theorem read_min : Ieee.double.read 18442240474082181119 = .number true 9007199254740991 971 := by rfl
theorem read_zero : Ieee.double.read 0 = .number false 0 (-1074) := by rfl
theorem read_tiny : Ieee.double.read 4517329193108106637 = .number false 4722366482869645 (-72) := by rfl
theorem read_huge : Ieee.double.read 4921056587992461136 = .number false 7629394531250000 17 := by rfl
theorem ord_gt {x y : Nat} {s t : Bool} {M N : Nat} {i j : Int} (hx : Ieee.double.read x = .number s M i) (hy : Ieee.double.read y = .number t N j)
    (h : signed t N (j - min i j).toNat < signed s M (i - min i j).toNat) : Ieee.double.order x y = some .gt := by
  rw [Ieee.Format.order, hx, hy]
  simp only [Datum.order]
  exact congrArg some (cmp_gt h)
theorem ord_lt {x y : Nat} {s t : Bool} {M N : Nat} {i j : Int} (hx : Ieee.double.read x = .number s M i) (hy : Ieee.double.read y = .number t N j)
    (h : signed s M (i - min i j).toNat < signed t N (j - min i j).toNat) : Ieee.double.order x y = some .lt := by
  rw [Ieee.Format.order, hx, hy]
  simp only [Datum.order]
  exact congrArg some (cmp_lt h)
section
variable {x k M : Nat} {s : Bool}
theorem mul_pow_le {M N a : Nat} (h : M < N) : M < N * 2 ^ a := Nat.lt_of_lt_of_le h (Nat.le_mul_of_pos_right _ (Nat.pow_pos (by decide)))
theorem ord_max (hx : Ieee.double.read x = .number s M (-1 - k)) (hk : k ≤ 52) (hi : M < 9007199254740992) : Ieee.double.order x 9218868437227405311 = some .lt := by
  refine ord_lt hx read_max ?_
  have e1 : ((-1 - (k : Int)) - min (-1 - (k : Int)) 971).toNat = 0 := by omega
  have e2 : ((971 : Int) - min (-1 - (k : Int)) 971).toNat = 1 + (971 + k) := by omega
  rw [e1, e2]
  unfold signed
  rw [Nat.shiftLeft_zero, Nat.shiftLeft_eq, Nat.pow_add, ← Nat.mul_assoc]
  have := mul_pow_le (M := M) (N := 9007199254740991 * 2 ^ 1) (a := 971 + k) (by omega)
  generalize 9007199254740991 * 2 ^ 1 * 2 ^ (971 + k) = q at *
  cases s <;> simp <;> omega
theorem ord_min (hx : Ieee.double.read x = .number s M (-1 - k)) (hk : k ≤ 52) (hi : M < 9007199254740992) : Ieee.double.order x 18442240474082181119 = some .gt := by
  refine ord_gt hx read_min ?_
  have e1 : ((-1 - (k : Int)) - min (-1 - (k : Int)) 971).toNat = 0 := by omega
  have e2 : ((971 : Int) - min (-1 - (k : Int)) 971).toNat = 1 + (971 + k) := by omega
  rw [e1, e2]
  unfold signed
  rw [Nat.shiftLeft_zero, Nat.shiftLeft_eq, Nat.pow_add, ← Nat.mul_assoc]
  have := mul_pow_le (M := M) (N := 9007199254740991 * 2 ^ 1) (a := 971 + k) (by omega)
  generalize 9007199254740991 * 2 ^ 1 * 2 ^ (971 + k) = q at *
  cases s <;> simp <;> omega
theorem ord_self (hx : Ieee.double.read x = .number s M (-1 - k)) : Ieee.double.order x x = some .eq := by
  rw [Ieee.Format.order, hx]
  simp only [Datum.order, cmp_self]
theorem ord_zero (hx : Ieee.double.read x = .number false M (-1 - k)) (hk : k ≤ 52) (lo : 4503599627370496 ≤ M) : Ieee.double.order x 0 = some .gt := by
  refine ord_gt hx read_zero ?_
  have e1 : ((-1 - (k : Int)) - min (-1 - (k : Int)) (-1074)).toNat = 1073 - k := by omega
  have e2 : ((-1074 : Int) - min (-1 - (k : Int)) (-1074)).toNat = 0 := by omega
  rw [e1, e2]
  unfold signed
  rw [Nat.shiftLeft_zero, Nat.shiftLeft_eq]
  have := mul_pow_le (M := 0) (N := M) (a := 1073 - k) (by omega)
  generalize M * 2 ^ (1073 - k) = q at *
  simp
  omega
theorem ord_tiny (hx : Ieee.double.read x = .number false M (-1 - k)) (hk : k ≤ 52) (lo : 4503599627370496 ≤ M) : Ieee.double.order x 4517329193108106637 = some .gt := by
  refine ord_gt hx read_tiny ?_
  have e1 : ((-1 - (k : Int)) - min (-1 - (k : Int)) (-72)).toNat = 1 + (70 - k) := by omega
  have e2 : ((-72 : Int) - min (-1 - (k : Int)) (-72)).toNat = 0 := by omega
  rw [e1, e2]
  unfold signed
  rw [Nat.shiftLeft_zero, Nat.shiftLeft_eq, Nat.pow_add, ← Nat.mul_assoc]
  have := mul_pow_le (M := 4722366482869645) (N := M * 2 ^ 1) (a := 70 - k) (by omega)
  generalize M * 2 ^ 1 * 2 ^ (70 - k) = q at *
  simp
  omega
theorem ord_huge (hx : Ieee.double.read x = .number false M (-1 - k)) (hk : k ≤ 52) (hi : M < 9007199254740992) : Ieee.double.order x 4921056587992461136 = some .lt := by
  refine ord_lt hx read_huge ?_
  have e1 : ((-1 - (k : Int)) - min (-1 - (k : Int)) 17).toNat = 0 := by omega
  have e2 : ((17 : Int) - min (-1 - (k : Int)) 17).toNat = 1 + (17 + k) := by omega
  rw [e1, e2]
  unfold signed
  rw [Nat.shiftLeft_zero, Nat.shiftLeft_eq, Nat.pow_add, ← Nat.mul_assoc]
  have := mul_pow_le (M := M) (N := 7629394531250000 * 2 ^ 1) (a := 17 + k) (by omega)
  generalize 7629394531250000 * 2 ^ 1 * 2 ^ (17 + k) = q at *
  simp
  omega
end
/-- the word without its sign -/
theorem abs_word {h : Int} {s : Bool} {M k : Nat} (H : Half h s M k) : Ieee.double.read (fl h % 9223372036854775808) = .number false M (-1 - k) := by
  obtain ⟨h1, h2, h3, h4⟩ := wd_parts H
  have hB : B = 4503599627370496 := by unfold B; decide
  have e : fl h % 9223372036854775808 = wd false M (-1 - k) := by
    unfold wd
    rw [word_eq, hB, show (-1 - (k : Int) + 1074).toNat = 1073 - k by omega]
    rw [h1]
    have hp : 1074 - k = (1073 - k) + 1 := by omega
    rw [hp]
    cases s <;> simp <;> omega
  rw [e]
  exact read_wd false M _ (by rw [hB]; exact h3) (by rw [hB]; omega) (by omega) (by omega)
end Go.Proofs.YtgjmgneppecfgaaGreatDoor.Mb
/-
  THE WALKS of IsNaN, Abs and encodeFloat64.
-/
namespace Go.Proofs.YtgjmgneppecfgaaGreatDoor.Mb
open Go.RowKit Go.Proofs.YtgjmgneppecfgaaGreatDoor.Va Go.Proofs.YtgjmgneppecfgaaGreatDoor.Ba Go.Proofs.YtgjmgneppecfgaaGreatDoor.Ma
set_option linter.unusedVariables false
set_option linter.unusedSimpArgs false

def RetF (x : Nat) (w : World) (e : Ending) (w' : World) : Prop := e = .returned (.float .f64 x) ∧ w = w'
def RetBool (b : Bool) (w : World) (e : Ending) (w' : World) : Prop := e = .returned (.bool b) ∧ w = w'
set_option maxHeartbeats 1000000 in
theorem isNaN_any (x : Nat) (h : Ieee.double.order x x = some .eq) (w : World) : Calls Tryz.prog 181 #[.float .f64 x] w (RetBool false w) := by
  have o : (FloatKind.f64.format.order x x != some Ordering.eq) = false := by
    have : FloatKind.f64.format.order x x = some .eq := h
    rw [this]
    rfl
  go_enter Tryz.func181, Tryz.ntmps181
  go_wp2_with fail
  go_returns
  exact ⟨rfl, rfl⟩
theorem run_from (x : Nat) (w : World) : (callFunc 211 #[.int .u64 (x : Int)]).run Tryz.prog w = .ok (.value (.float .f64 x)) w := by
  rw [run_callFunc_extern (P := Tryz.prog) (f := 211) (fn := Tryz.f211) (e := Extern.MathFloatBits.float64frombits) (by kernel_rfl) (by kernel_rfl) (by kernel_rfl) (by kernel_rfl) (by kernel_rfl)]
  rfl
theorem andnot63 {x : Nat} (h : x < 18446744073709551616) : bits .andNot .u64 (x : Int) 9223372036854775808 = ((x % 9223372036854775808 : Nat) : Int) := by
  have e := u64_andNot_nat x 9223372036854775808 h (by decide)
  have h2 : x &&& (18446744073709551615 - 9223372036854775808) = x % 9223372036854775808 := Nat.and_two_pow_sub_one_eq_mod x 63
  rw [h2] at e
  exact e
set_option maxHeartbeats 1000000 in
theorem abs_any (x : Nat) (h : x < 18446744073709551616) (w : World) : Calls Tryz.prog 182 #[.float .f64 x] w (RetF (x % 9223372036854775808) w) := by
  have h1 := run_bits x
  have h2 := andnot63 h
  obtain ⟨y, hy⟩ : ∃ y, x % 9223372036854775808 = y := ⟨_, rfl⟩
  rw [hy] at h2 ⊢
  have h3 := run_from y
  clear hy
  go_enter Tryz.func182, Tryz.ntmps182
  go_wp2_with fail
  go_returns
  exact ⟨rfl, rfl⟩
theorem run_max {x y : Nat} (o : FloatKind.f64.format.order x y = some .gt) (a : Array TypeId) (t : TypeId) (w : World) : (Builtin.max_ a t #[.float .f64 x, .float .f64 y]).run Tryz.prog w = .ok (.float .f64 x) w := by
  show (Builtin.max2 (.float .f64 x) (.float .f64 y) >>= pure).run Tryz.prog w = _
  unfold Builtin.max2
  simp only [o]
  rfl
theorem run_min {x y : Nat} (o : FloatKind.f64.format.order x y = some .lt) (a : Array TypeId) (t : TypeId) (w : World) : (Builtin.min_ a t #[.float .f64 x, .float .f64 y]).run Tryz.prog w = .ok (.float .f64 x) w := by
  show (Builtin.min2 (.float .f64 x) (.float .f64 y) >>= pure).run Tryz.prog w = _
  unfold Builtin.min2
  simp only [o]
  rfl
/-- something was put into the encoder's own row -/
theorem St.put {B b E : Nat} {bs cs : List Nat} {w w' : World} {f : Nat → Value} (h : St B b E bs w) (h0 : f 0 = wv b) (hr : w'.rowIs E 118 65 (putR f (1 + 0) cs)) (hg : w.grownBy w' (some E)) : Wrote B b E bs w w' := by
  obtain ⟨hb, ⟨f', _, hr'⟩, hlt⟩ := h
  have hBE : B ≤ E := by have := hb.1; omega
  obtain ⟨ce, he, _⟩ := hr'
  refine ⟨⟨?_, ⟨_, ?_, hr⟩, hlt⟩, ⟨hg.os, hg.tape, hg.output, hg.size, fun k hk => hg.block k ?_ (fun e => by have := Option.some.inj e; omega)⟩, fun k o hk _ hE _ => (hg.block k (heap_lt hk) (fun e => hE (Option.some.inj e))).trans hk⟩
  · obtain ⟨h1, v, lr, h2, ⟨h3, h4⟩, h5⟩ := hb
    refine ⟨h1, v, lr, (hg.block b (heap_lt h2) (fun e => by have := Option.some.inj e; omega)).trans h2, ⟨h3, ?_⟩, h5⟩
    rcases h4 with h4 | ⟨g, cap, cur, a, b', c, d⟩
    · exact .inl h4
    · refine .inr ⟨g, cap, cur, a, b', (hg.block g (heap_lt c) (fun e => ?_)).trans c, d⟩
      rw [Option.some.inj e] at c
      rw [c] at he
      cases he
  · unfold putR
    rw [if_neg (by omega)]
    exact h0
  · have := heap_lt he
    omega
set_option maxHeartbeats 4000000 in
set_option maxRecDepth 100000 in
theorem encFloat_any {h : Int} {s : Bool} {M k : Nat} (H : Half h s M k) (ho : h % 2 ≠ 0) (hb : h.natAbs < 9007199254740992) (B b E : Nat) (bs : List Nat) (w : World) (hst : St B b E bs w) (hB : B ≤ w.heap.size) (hlim : bs.length + 30 ≤ 140737488355328) :
    Calls Tryz.prog 148 #[.pointer (some ⟨E, 0, none⟩), .float .f64 (fl h)] w (EncEnd B b E (bs ++ numJ h) w) := by
  have HH := Lib.hid H
  have HST := Lib.hid hst
  have c0 := hst.cell
  obtain ⟨hx, hk, lo, hi⟩ := wd_parts H
  have hx64 : fl h < 18446744073709551616 := by rw [hx]; cases s <;> simp <;> omega
  have hrd := H.readL
  have habs := abs_word H
  have HC := Lib.hid (fun (g o k cap n : Nat) (t : TypeId) (f : Nat → Value) (w : World) => appFloat_any g o k cap n t f H ho hb w)
  have HJ := Lib.hid (numJ_len (h := h) (by omega))
  clear hst H hx
  obtain ⟨x, hx⟩ : ∃ x, fl h = x := ⟨_, rfl⟩
  rw [hx] at hx64 hrd habs HC ⊢
  obtain ⟨y, hy⟩ : ∃ y, x % 9223372036854775808 = y := ⟨_, rfl⟩
  rw [hy] at habs
  have HY := Lib.hid hy
  have HN := Lib.hid (isNaN_any x (ord_self hrd))
  have HA := Lib.hid (fun w => abs_any x hx64 w)
  have o1 : FloatKind.f64.format.order x 18442240474082181119 = some .gt := ord_min hrd hk hi
  have o2 : FloatKind.f64.format.order x 9218868437227405311 = some .lt := ord_max hrd hk hi
  have o3 : FloatKind.f64.format.order y 0 = some .gt := ord_zero habs hk lo
  have o4 : FloatKind.f64.format.order y 4517329193108106637 = some .gt := ord_tiny habs hk lo
  have o5 : FloatKind.f64.format.order y 4921056587992461136 = some .lt := ord_huge habs hk hi
  have p1 := run_max o1
  have p2 := run_min o2
  clear hx hy hrd habs ho o1 o2
  go_enter Tryz.func148, Tryz.ntmps148
  go_wp2_with fail
  refine (HN.out w).mono ?_
  rintro e w1 ⟨rfl, rfl⟩
  go_wp2_with fail
  refine (HA.out w).mono ?_
  rintro e w1 ⟨rfl, rfl⟩
  rw [HY.out]
  go_wp2_with fail
  obtain ⟨f, hf0, hfr⟩ := HST.out.enc
  have HF0 := Lib.hid hf0
  refine (HC.out E 1 0 64 65 118 f w hfr (by decide) (by decide)).mono ?_
  rintro e w2 ⟨rfl, hrow, hgr⟩
  have HR := Lib.hid hrow
  have W2 := Lib.hid (HST.out.put HF0.out hrow hgr)
  have c2 := W2.out.1.cell
  have hz2 := W2.out.2.1.size
  obtain ⟨l, hl⟩ : ∃ l, (numJ h).length = l := ⟨_, rfl⟩
  have HL := Lib.hid hl
  rw [hl]
  have hl30 : l ≤ 30 := by rw [← hl]; exact HJ.out
  clear hrow hgr hf0 hfr c0 hl
  go_wp2_with fail
  refine (write_any B b E E 1 l 64 bs (numJ h) w2 W2.out.1 (by omega) (by have := W2.out.1.lt; omega) HL.out (fun j hj => ?_) (by omega)).mono ?_
  · rw [HR.out.cell (by omega)]
    unfold putR
    rw [if_pos (by rw [HL.out]; omega), show 1 + j - (1 + 0) = j by omega]
  rintro e w3 ⟨rfl, h3⟩
  have W3 := Lib.hid (W2.out.trans h3)
  clear h3
  go_wp2_with fail
  go_returns
  exact ⟨rfl, W3.out⟩
end Go.Proofs.YtgjmgneppecfgaaGreatDoor.Mb
