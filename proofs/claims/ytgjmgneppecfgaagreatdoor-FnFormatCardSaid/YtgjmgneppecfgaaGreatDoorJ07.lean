/-
  FnFormat, texts BaL BaM MaA MaB MaC MaD: lemmas for the law; the theorem stands in the last text.
-/
import Derived.Lib.AppendStr
import Derived.Room.AppendFits
import Derived.BigQuiet
import Derived.Test.YtgjmgneppecfgaaGreatDoorJ03
import Derived.Test.YtgjmgneppecfgaaGreatDoorJ04
import Derived.Test.YtgjmgneppecfgaaGreatDoorJ06
namespace Go.Proofs.YtgjmgneppecfgaaGreatDoor.Ba
open Go.RowKit Go.Proofs.YtgjmgneppecfgaaGreatDoor.Va
set_option linter.unusedVariables false
set_option linter.unusedSimpArgs false

def Done0 (w : World) (e : Ending) (w' : World) : Prop := e = .returned (.tuple #[.int .i64 0, .nilIface]) ∧ w = w'
set_option maxRecDepth 100000 in
theorem dec_none (p d : Value) (a : Option Addr) (c : Nat) (w : World) : Calls Tryz.prog 191 #[p, d, .slice a 0 c] w (Done0 w) := by
  go_enter Tryz.func191, Tryz.ntmps191
  go_wp2_with fail
  go_returns
  exact ⟨rfl, rfl⟩

def DecSEnd (l : List Nat) (w : World) (e : Ending) (w' : World) : Prop :=
  ∃ (out : List Nat) (ok : Bool) (ev : Value) (b cap : Nat), runD l (l.length + 1) 0 [] = (out, ok) ∧ out.length ≤ cap ∧ out.length ≤ 4294967296 ∧ e = .returned (.tuple #[.slice (some ⟨b, 0, none⟩) out.length cap, ev]) ∧ ((ok = true ∧ ev = .nilIface) ∨ (ok = false ∧ ∃ v, ev = .iface 285 v)) ∧
    (∀ j, j < out.length → w'.cell? ⟨b, j, none⟩ = some (.int .u8 ((out.getD j 0 : Nat) : Int))) ∧ Below w.heap.size w w'

set_option maxHeartbeats 1000000 in
set_option maxRecDepth 100000 in
theorem decS_any (be : Nat) (s : ByteArray) (hs : s.size ≤ 2147483647) (w : World) (he : w.rowIs be 197 322 (encF 64 (-1))) :
    Calls Tryz.prog 160 #[.pointer (some ⟨be, 0, none⟩), .string s] w (DecSEnd (bytesN s) w) := by
  obtain ⟨n, hn⟩ : ∃ n, s.size = n := ⟨_, rfl⟩
  have hmk := run_make_row' (P := Tryz.prog) 73 5 (.int .u8 0) 1 Tryz.underlying73 info8 rfl .i64 .i64 (n / 4 * 3 + n % 4 * 6 / 8) (by omega) (by omega)
  have HMK := Lib.hid hmk
  have HEN := Lib.hid (decLen_any be n w he (by omega))
  have HE := Lib.hid he
  have HSZ := Lib.hid hn
  clear hmk he
  obtain ⟨N, hN⟩ : ∃ N, n / 4 * 3 + n % 4 * 6 / 8 = N := ⟨_, rfl⟩
  rw [hN] at HMK HEN
  have HNV := Lib.hid hN
  have hN2 : N ≤ 4294967295 := by omega
  clear hN
  rw [hn] at hs
  go_enter Tryz.func160, Tryz.ntmps160
  go_wp2_with fail
  refine HEN.out.mono ?_
  rintro e w1 ⟨rfl, rfl⟩
  have hmk := HMK.out
  go_upto_region 2 with fail
  clear hmk
  generalize hW : World.alloc w _ = W
  have HD : Hid (W.rowIs w.heap.size 5 N (fun _ => .int .u8 0)) := Lib.hid (hW ▸ World.rowIs_made w (.int .u8 0) N 5)
  have BW := Lib.hid (hW ▸ below_alloc w _ : Below w.heap.size w W)
  have hWs : W.heap.size = w.heap.size + 1 := by rw [← hW, World.size_alloc]
  have HWS := Lib.hid hWs
  clear hW hWs HMK HEN hn
  have hcv := Lib.run_convert_string_bytes (P := Tryz.prog) W 9 73 5 s Tryz.underlying9 Tryz.underlying73 Tryz.underlying5
  obtain ⟨cap, hcap⟩ : ∃ cap, grownCap W s.size 0 5 = cap := ⟨_, rfl⟩
  have hge := grownCap_ge W s.size 0 5
  have hle := grownCap_le_maxLen W s.size 0 5 (by unfold maxLen; have := HSZ.out; omega)
  rw [hcap] at hcv hge hle
  unfold maxLen at hle
  rw [HSZ.out] at hcv hge
  clear hcap
  have BW2 := Lib.hid (BW.out.trans ((below_bytes W 5 s).mono (BW.out.size)) : Below w.heap.size w (Lib.bytesWorld W 5 s))
  by_cases h0 : n = 0
  · subst h0
    obtain rfl : N = 0 := by have := HNV.out; omega
    have hl : bytesN s = [] := List.eq_nil_of_length_eq_zero (by rw [bytesN_len]; exact HSZ.out)
    have HL := Lib.hid hl
    clear hl
    go_wp2_with fail
    clear hcv
    refine (dec_none _ _ _ _ _).mono ?_
    rintro e w2 ⟨rfl, rfl⟩
    go_wp2_with fail
    go_returns
    rw [HL.out]
    exact ⟨[], true, _, w.heap.size, 0, rfl, Nat.le_refl _, by decide, rfl, .inl ⟨rfl, rfl⟩, fun j hj => absurd hj (by simp), BW2.out⟩
  · go_wp2_with fail
    clear hcv
    refine (dec_any be W.heap.size w.heap.size 0 n N cap (bytesN s) ((bytesN_len s).trans HSZ.out) (bytesN_lt s) hs (by omega) hge hle HNV.out.symm _ (HE.out.of_block (BW2.out.block be HE.out.lt)) (fun i hi => by rw [Nat.zero_add, Lib.bytesWorld_cell W 5 s i (by rw [HSZ.out]; exact hi), bytesN_at s i (by rw [HSZ.out]; exact hi)]) (HD.out.of_block (Lib.bytesWorld_at_old _ _ _ _ (by rw [HWS.out]; omega))) (by have := HE.out.lt; omega) (by rw [HWS.out]; omega) (by rw [Lib.bytesWorld_size]; omega)).mono ?_
    rintro e w2 ⟨out, ok, ev, hrun, hfit, rfl, hev, hrow, hgr⟩
    have HRUN := Lib.hid hrun
    have HEV := Lib.hid hev
    have HROW := Lib.hid hrow
    have B2 : Hid (Below w.heap.size w w2) := Lib.hid (BW2.out.grown hgr BW2.out.size (fun k e => by obtain rfl := Option.some.inj e; exact Nat.le_refl _))
    obtain ⟨m, hm⟩ : ∃ m, out.length = m := ⟨_, rfl⟩
    have HM := Lib.hid hm
    rw [hm] at hfit ⊢
    clear hrun hev hrow hgr hm
    go_wp2_with fail
    go_returns
    obtain ⟨g, hrow, hg⟩ := HROW.out
    refine ⟨out, ok, ev, w.heap.size, N, ?_, by rw [HM.out]; exact hfit, by rw [HM.out]; omega, by rw [HM.out]; rfl, HEV.out, fun j hj => ?_, B2.out⟩
    · rw [show (bytesN s).length = n from (bytesN_len s).trans HSZ.out]
      exact HRUN.out
    · rw [hrow.cell (by rw [HM.out] at hj; omega), hg j hj]
end Go.Proofs.YtgjmgneppecfgaaGreatDoor.Ba
namespace Go.Proofs.YtgjmgneppecfgaaGreatDoor.Ba
open Go.RowKit Go.Proofs.YtgjmgneppecfgaaGreatDoor.Va
set_option linter.unusedVariables false
set_option linter.unusedSimpArgs false

theorem bytesN_extract (s : ByteArray) (p : Nat) : bytesN (s.extract 0 p) = (bytesN s).take p := by
  unfold bytesN
  rw [ByteArray.data_extract, Array.toList_extract, List.map_take]
  simp [List.extract]
end Go.Proofs.YtgjmgneppecfgaaGreatDoor.Ba
namespace Go.Proofs.YtgjmgneppecfgaaGreatDoor.Ma
open Go.RowKit Go.Proofs.YtgjmgneppecfgaaGreatDoor.Va Go.Proofs.YtgjmgneppecfgaaGreatDoor.Ba
set_option linter.unusedVariables false
set_option linter.unusedSimpArgs false

/-- the digits of a number above 0, none of 0 -/
def digs0 (n : Nat) : List Nat := if h : n = 0 then [] else digs0 (n / 10) ++ [48 + n % 10]
/-- a number in decimal -/
def digs (n : Nat) : List Nat := digs0 (n / 10) ++ [48 + n % 10]
theorem digs0_pos {n : Nat} (h : 0 < n) : digs0 n = digs n := by
  rw [digs0, dif_neg (by omega)]
  rfl
theorem digs0_zero : digs0 0 = [] := by rw [digs0, dif_pos rfl]
def LoopU (n : Nat) (g : Nat) (w : World) (mv iv : Value) (wr : World) : Prop :=
  ∃ (m i : Nat) (l : List Nat) (f : Nat → Value), mv = .int .u64 (m : Int) ∧ iv = .int .i64 (i : Int) ∧ i + l.length = 64 ∧ m ≤ n ∧ m * 10 ^ l.length ≤ n ∧ ((l = [] ∧ m = n) ∨ (0 < l.length ∧ digs n = digs0 m ++ l)) ∧ wr.rowIs g 116 64 f ∧ (∀ j, j < l.length → f (i + j) = .int .u8 ((l.getD j 0 : Nat) : Int)) ∧ Below w.heap.size w wr
theorem pow_small {k n m : Nat} (hn : n < 18446744073709551616) (hm : 0 < m) (h : m * 10 ^ k ≤ n) : k < 20 := by
  apply Nat.lt_of_not_le
  intro hk
  have h1 : 10 ^ 20 ≤ 10 ^ k := Nat.pow_le_pow_right (by omega) hk
  have h2 : 10 ^ k ≤ m * 10 ^ k := Nat.le_mul_of_pos_left _ hm
  omega
def alnum : ByteArray := ⟨#[48, 49, 50, 51, 52, 53, 54, 55, 56, 57, 97, 98, 99, 100, 101, 102, 103, 104, 105, 106, 107, 108, 109, 110, 111, 112, 113, 114, 115, 116, 117, 118, 119, 120, 121, 122]⟩
theorem alnum_at (d : Nat) (h : d < 10) (hd : d < alnum.size) : (((alnum[d]'hd).toNat : Nat) : Int) = ((48 + d : Nat) : Int) := by
  rcases (show d = 0 ∨ d = 1 ∨ d = 2 ∨ d = 3 ∨ d = 4 ∨ d = 5 ∨ d = 6 ∨ d = 7 ∨ d = 8 ∨ d = 9 by omega) with h | h | h | h | h | h | h | h | h | h <;> subst h <;> rfl
set_option maxHeartbeats 2000000 in
set_option maxRecDepth 100000 in
theorem fmtUint_any (n : Nat) (hn : n < 18446744073709551616) (w : World) : Calls Tryz.prog 210 #[.int .u64 (n : Int), .int .i64 10] w (StrEnd (numS (digs n)) w) := by
  go_enter Tryz.func210, Tryz.ntmps210
  go_upto_region 4 with fail
  generalize hW : World.alloc w _ = W
  have hW2 : World.alloc w (.cells (Array.replicate 64 (.int .u8 0)) 116) = W := hW
  have H0 : Hid (W.rowIs w.heap.size 116 64 (fun _ => .int .u8 0)) := Lib.hid (hW2 ▸ World.rowIs_alloc w (Array.replicate 64 (.int .u8 0)) 116 (fun _ => .int .u8 0) (fun i hi => by rw [Array.getElem?_replicate, if_pos (by simpa using hi)]))
  have B0 := Lib.hid (hW ▸ below_alloc w _ : Below w.heap.size w W)
  clear hW hW2
  go_wp2_with fail
  go_loopw [0, 6] (LoopU n w.heap.size w) (fun a b _ => if intOf b = 64 then n + 1 else (intOf a).toNat)
  case atStart => exact ⟨n, 64, [], _, rfl, rfl, rfl, Nat.le_refl _, by simp, .inl ⟨rfl, rfl⟩, H0.out, fun j hj => absurd hj (by simp), B0.out⟩
  case round =>
    obtain ⟨m, i, l, f, rfl, rfl, hil, hmn, hpow, hcase, hrow, hf, hb⟩ := hrel
    have HC := Lib.hid hcase
    have HR := Lib.hid hrow
    have HF := Lib.hid hf
    have HB := Lib.hid hb
    have HP := Lib.hid hpow
    have HIL := Lib.hid hil
    have hm64 : m < 18446744073709551616 := by omega
    have hi64 : i ≤ 64 := by omega
    have hne : (i = 64 ∧ m = n) ∨ (i < 64 ∧ m ≤ n) := by
      rcases hcase with ⟨h1, h2⟩ | ⟨h1, _⟩
      · subst h1; exact .inl ⟨by simpa using hil, h2⟩
      · exact .inr ⟨by omega, hmn⟩
    clear hcase hrow hf hb hpow hil
    by_cases hgo : i = 64 ∨ 0 < m
    · have hi1 : 1 ≤ i := by
        rcases hgo with q | q
        · omega
        · have := pow_small hn q HP.out
          have := HIL.out
          omega
      have R : Hid (∀ W', W' = wr.setCell ⟨w.heap.size, i - 1, none⟩ (.int .u8 ((48 + m % 10 : Nat) : Int)) → LoopU n w.heap.size w (.int .u64 ((m / 10 : Nat) : Int)) (.int .i64 ((i - 1 : Nat) : Int)) W') := Lib.hid fun W' hW' => by
        subst hW'
        refine ⟨m / 10, i - 1, (48 + m % 10) :: l, _, rfl, rfl, ?_, ?_, ?_, .inr ⟨by simp, ?_⟩, HR.out.set _ _, ?_, ?_⟩
        · have := HIL.out
          simp only [List.length_cons]
          omega
        · omega
        · rw [List.length_cons, Nat.pow_succ]
          have h1 : m / 10 * 10 ≤ m := Nat.div_mul_le_self m 10
          calc m / 10 * (10 ^ l.length * 10) = (m / 10 * 10) * 10 ^ l.length := by rw [Nat.mul_comm (10 ^ l.length) 10, ← Nat.mul_assoc]
            _ ≤ m * 10 ^ l.length := Nat.mul_le_mul_right _ h1
            _ ≤ n := HP.out
        · rcases HC.out with ⟨h1, h2⟩ | ⟨h1, h2⟩
          · subst h1; subst h2; rfl
          · have hm : 0 < m := by
              rcases hgo with q | q
              · have := HIL.out; omega
              · exact q
            rw [h2, digs0_pos hm, digs]
            simp
        · intro j hj
          cases j with
          | zero => simp
          | succ j =>
            rw [if_neg (by omega), show i - 1 + (j + 1) = i + j by omega, HF.out j (by simpa using hj)]
            simp
        · exact HB.out.setCell (Nat.le_refl _) _
      have o0 := HR.out.cell (i := i - 1) (by omega)
      have f0 := HR.out.frozen (i - 1)
      by_cases h64 : i = 64
      · subst h64
        have hmn2 : m = n := by
          rcases hne with ⟨_, q⟩ | ⟨q, _⟩
          · exact q
          · omega
        subst hmn2
        clear hne hgo
        go_wp2_with fail
        refine ⟨?_, ?_⟩
        · have := R.out _ rfl
          rw [← alnum_at (m % 10) (by omega) (by show m % 10 < 36; omega)] at this
          exact this
        · simp [intOf]; omega
      · have q : 0 < m := by omega
        have hq : (0 : Int) < (m : Int) := by omega
        have hi2 : ((i : Int) == 64) = false := by simp; omega
        clear hne hgo
        go_wp2_with fail
        refine ⟨?_, ?_⟩
        · have e : (i : Int) - 1 = ((i - 1 : Nat) : Int) := by omega
          have := R.out _ rfl
          rw [← alnum_at (m % 10) (by omega) (by show m % 10 < 36; omega), ← e] at this
          exact this
        · rw [intOf, intOf, intOf, intOf, if_neg (by omega), if_neg (by omega)]; omega
    · obtain ⟨h64, h0⟩ : ¬ i = 64 ∧ m = 0 := ⟨fun q => hgo (.inl q), by omega⟩
      subst h0
      have hi2 : ((i : Int) == 64) = false := by simp; omega
      have hal : (i : Int) ≤ ((Tryz.prog.arrayLen 116 : Nat) : Int) := by rw [show Tryz.prog.arrayLen 116 = 64 by kernel_rfl]; omega
      have h64' : ¬ 64 = i := by omega
      have hal2 : (i : Int) ≤ 64 := by omega
      have hal3 : (0 : Int) ≤ (i : Int) := by omega
      obtain ⟨h1, h2⟩ : 0 < l.length ∧ digs n = l := by
        rcases HC.out with ⟨q, _⟩ | ⟨q1, q2⟩
        · subst q; have := HIL.out; simp at this; omega
        · rw [digs0_zero] at q2; exact ⟨q1, q2⟩
      have HD := Lib.hid h2
      obtain ⟨k, hk⟩ : ∃ k, l.length = k := ⟨_, rfl⟩
      have HK := Lib.hid hk
      have hik : 64 - i = k := by have := HIL.out; omega
      have g := run_convert_bytes_arg (P := Tryz.prog) wr 73 5 Tryz.underlying73 Tryz.underlying5 w.heap.size i k k (l.map fun x : Nat => (x : Int)) (by rw [List.length_map]; exact hk)
        (fun j hj => by
          rw [HR.out.cell (by omega), HF.out j (by rw [HK.out]; exact hj)]
          simp [List.getD, List.getElem?_eq_getElem (show j < l.length by rw [HK.out]; exact hj)]) 9 Tryz.underlying9
      clear hgo hne h1 h2 hk
      go_wp2_with fail
      go_returns
      rw [HD.out]
      exact ⟨rfl, HB.out⟩
end Go.Proofs.YtgjmgneppecfgaaGreatDoor.Ma
namespace Go.Proofs.YtgjmgneppecfgaaGreatDoor.Ma
open Go.RowKit Go.Proofs.YtgjmgneppecfgaaGreatDoor.Va Go.Proofs.YtgjmgneppecfgaaGreatDoor.Ba
set_option linter.unusedVariables false
set_option linter.unusedSimpArgs false

/-- a number in decimal, with its sign -/
def itoa (z : Int) : List Nat := if z < 0 then 45 :: digs (-z).toNat else digs z.toNat
theorem numS_cons (x : Nat) (l : List Nat) : (⟨#[UInt8.ofNat x]⟩ : ByteArray) ++ numS l = numS (x :: l) := by
  apply ByteArray.ext
  apply Array.ext'
  rw [ByteArray.data_append, Array.toList_append]
  rfl
theorem numS_append (a b : List Nat) : numS a ++ numS b = numS (a ++ b) := by
  apply ByteArray.ext
  apply Array.ext'
  rw [ByteArray.data_append, Array.toList_append]
  unfold numS
  rw [strOfNums_data, strOfNums_data, strOfNums_data, List.map_append, List.map_append]
theorem digs0_len : ∀ (k n : Nat), n < 10 ^ k → (digs0 n).length ≤ k
  | 0, n, h => by
    obtain rfl : n = 0 := by simpa using h
    rw [digs0_zero]
    exact Nat.le_refl _
  | k + 1, n, h => by
    rw [digs0]
    split
    · exact Nat.zero_le _
    · rw [List.length_append, List.length_singleton]
      have := digs0_len k (n / 10) (by rw [Nat.pow_succ] at h; omega)
      omega
theorem digs_len {n : Nat} (h : n < 18446744073709551616) : (digs n).length ≤ 20 := by
  unfold digs
  rw [List.length_append, List.length_singleton]
  have := digs0_len 19 (n / 10) (by have : 10 ^ 19 = 10000000000000000000 := by decide
                                    omega)
  omega
theorem numS_size (l : List Nat) : (numS l).size = l.length := by
  unfold numS
  rw [strOfNums_size, List.length_map]
theorem wrap_pos (z : Int) (h0 : 0 ≤ z) (h1 : z < 18446744073709551616) : IntKind.u64.wrap z = z := by
  rw [IntKind.wrap_u64]
  omega
theorem wrap_neg (z : Int) (h0 : z < 0) (h1 : -9223372036854775808 ≤ z) : IntKind.u64.wrap z = z + 18446744073709551616 := by
  rw [IntKind.wrap_u64]
  omega
set_option maxHeartbeats 2000000 in
set_option maxRecDepth 100000 in
theorem fmtInt_any (z : Int) (h0 : -9223372036854775808 ≤ z) (h1 : z ≤ 9223372036854775807) (w : World) : Calls Tryz.prog 180 #[.int .i64 z, .int .i64 10] w (StrEnd (numS (itoa z)) w) := by
  go_enter Tryz.func180, Tryz.ntmps180
  by_cases hz : z < 0
  · obtain ⟨n, hn⟩ : ∃ n : Nat, (n : Int) = -z := ⟨(-z).toNat, by omega⟩
    have hw1 := wrap_neg z hz h0
    have hw2 : IntKind.u64.wrap (-(z + 18446744073709551616)) = (n : Int) := by rw [IntKind.wrap_u64]; omega
    have HE := Lib.hid (fmtUint_any n (by omega) w)
    have HI : Hid (itoa z = 45 :: digs n) := Lib.hid (by unfold itoa; rw [if_pos hz, show (-z).toNat = n by omega])
    have HNB : Hid (n < 18446744073709551616) := Lib.hid (by omega)
    clear hn
    go_wp2_with fail
    refine HE.out.mono ?_
    rintro e w1 ⟨rfl, hb⟩
    have HB := Lib.hid hb
    clear hb
    have hsz : (numS (digs n)).size ≤ 20 := by rw [numS_size]; exact digs_len HNB.out
    have hsz2 : (⟨#[45]⟩ : ByteArray).size = 1 := rfl
    have hs : (⟨#[45]⟩ : ByteArray) ++ numS (digs n) = numS (itoa z) := by rw [HI.out, ← numS_cons]; rfl
    go_wp2_with fail
    go_returns
    exact ⟨rfl, HB.out⟩
  · obtain ⟨n, hn⟩ : ∃ n : Nat, (n : Int) = z := ⟨z.toNat, by omega⟩
    subst hn
    have hw1 := wrap_pos (n : Int) (by omega) (by omega)
    have HE := Lib.hid (fmtUint_any n (by omega) w)
    have HI : Hid (itoa (n : Int) = digs n) := Lib.hid (by unfold itoa; rw [if_neg hz]; rfl)
    go_wp2_with fail
    refine HE.out.mono ?_
    rintro e w1 ⟨rfl, hb⟩
    have HB := Lib.hid hb
    clear hb
    go_wp2_with fail
    go_returns
    exact ⟨by rw [HI.out]; rfl, HB.out⟩
end Go.Proofs.YtgjmgneppecfgaaGreatDoor.Ma
namespace Go.Proofs.YtgjmgneppecfgaaGreatDoor.Ma
open Go.RowKit Go.Proofs.YtgjmgneppecfgaaGreatDoor.Va Go.Proofs.YtgjmgneppecfgaaGreatDoor.Ba
set_option linter.unusedVariables false
set_option linter.unusedSimpArgs false

/-- a row in which some places were written -/
def putR (f : Nat → Value) (q : Nat) (bs : List Nat) (j : Nat) : Value := if q ≤ j ∧ j < q + bs.length then .int .u8 ((bs.getD (j - q) 0 : Nat) : Int) else f j
theorem run_append_part_string {P : Program} (w : World) (t u ty e e2 : TypeId) (i : TypeInfo) (ht : P.underlying t = some (.slice e)) (hu : P.underlying u = some .string) (hi : P.info? e = some i) (hs1 : i.size = 1)
    (g o sLen sCap : Nat) (cur : Array Value) (hg : w.heap[g]? = some (.cells cur e2 (0, 0))) (s : ByteArray)
    (hroom : sLen + s.size ≤ sCap) (hfit : o + sLen + s.size ≤ cur.size) :
    (Builtin.append_ #[t, u] ty #[.slice (some ⟨g, o, none⟩) sLen sCap, .string s]).run P w =
      .ok (.slice (some ⟨g, o, none⟩) (sLen + s.size) sCap) (w.setRow g (cur.toList.take (o + sLen) ++ Lib.strCells s ++ cur.toList.drop (o + sLen + s.size)).toArray) := by
  have hf := Lib.run_firstCells_string (P := P) w 1 s
  have hst := run_storeCells_at P g (o + sLen) e2 (Lib.strCells s) 0 cur w hg (by simpa [Lib.strCells_length] using hfit) (Lib.strCells_oneCell s)
  simp only [Nat.add_zero, Lib.strCells_length] at hst
  simp [Builtin.append_, run_underlying ht, run_underlying hu, sizeOf, typeInfo, hi, hs1, Builtin.lenOf, hroom, hf, Addr.add_lit, hst]
/-- the row behind it -/
theorem append_part {P : Program} {w : World} {g n : Nat} {t : TypeId} {f : Nat → Value} (h : w.rowIs g t n f) (o sLen sCap : Nat) (s : ByteArray) (dT sT ty elem : TypeId) (i : TypeInfo) (hu : P.underlying dT = some (.slice elem)) (hsT : P.underlying sT = some .string) (hi : P.info? elem = some i) (hs1 : i.size = 1)
    (hroom : sLen + s.size ≤ sCap) (hfit : o + sLen + s.size ≤ n) : ∃ w', (Builtin.append_ #[dT, sT] ty #[.slice (some ⟨g, o, none⟩) sLen sCap, .string s]).run P w = .ok (.slice (some ⟨g, o, none⟩) (sLen + s.size) sCap) w' ∧
      w'.rowIs g t n (putR f (o + sLen) (bytesN s)) ∧ w.grownBy w' (some g) := by
  obtain ⟨cur, h1, h2, h3⟩ := h
  have hr := run_append_part_string (P := P) w dT sT ty elem t i hu hsT hi hs1 g o sLen sCap cur h1 s hroom (by omega)
  refine ⟨_, hr, ⟨_, setRow_heap w g _ _ _ _ h1, ?_, fun i hi => ?_⟩, ⟨rfl, rfl, rfl, by simp, fun k _ hk => setRow_other _ _ _ _ (fun e => hk (by rw [e]))⟩⟩
  · simp [Lib.strCells_length]
    omega
  · have htl : (cur.toList.take (o + sLen)).length = o + sLen := by simp; omega
    have hbl := Lib.strCells_length s
    have hsz : s.data.toList.length = s.size := (Lib.size_eq s).symm
    rw [List.getElem?_toArray]
    unfold putR
    rw [bytesN_len]
    by_cases c1 : i < o + sLen
    · rw [if_neg (by omega), List.getElem?_append_left (by rw [List.length_append, htl]; omega), List.getElem?_append_left (by rw [htl]; exact c1), List.getElem?_take, if_pos c1]
      have := h3 i hi
      simpa using this
    · by_cases c2 : i < o + sLen + s.size
      · rw [if_pos ⟨by omega, c2⟩, List.getElem?_append_left (by rw [List.length_append, htl, hbl]; omega), List.getElem?_append_right (by rw [htl]; omega), htl]
        unfold Lib.strCells bytesN
        rw [List.getElem?_map, List.getElem?_eq_getElem (by omega)]
        simp [List.getD, List.getElem?_eq_getElem (show i - (o + sLen) < s.data.toList.length by omega)]
      · rw [if_neg (by omega), List.getElem?_append_right (by rw [List.length_append, htl, hbl]; omega), List.length_append, htl, hbl, List.getElem?_drop]
        have := h3 i hi
        rw [show o + sLen + s.size + (i - (o + sLen + s.size)) = i by omega]
        simpa using this
/-- .. at the operation, for the walk -/
theorem wpList_append_part {P : Program} {ops : Array Oper} {rest : List Oper} {o : Oper} {a : Act} {w : World} {Q : Exit → Act → World → Prop} (hgd : o.guard = none) (sl x : Operand) (t u : TypeId)
    (ho : o.op = .call { callee := .builtin .append, args := #[sl, x], argTypes := #[t, u] })
    (e : TypeId) (i : TypeInfo) (ht : P.underlying t = some (.slice e)) (hu : P.underlying u = some .string) (hi : P.info? e = some i) (hsize : i.size = 1)
    (g off k cap n : Nat) (t2 : TypeId) (f : Nat → Value) (hs : a.eval sl = .slice (some ⟨g, off, none⟩) k cap) (hr : w.rowIs g t2 n f) (s : ByteArray) (hx : a.eval x = .string s) (hroom : k + s.size ≤ cap) (hfit : off + k + s.size ≤ n)
    (h : ∀ w', w'.rowIs g t2 n (putR f (off + k) (bytesN s)) → w.grownBy w' (some g) → wpList P ops Q rest (a.put o.dst (.slice (some ⟨g, off, none⟩) (k + s.size) cap)) w') : wpList P ops Q (o :: rest) a w := by
  refine wpList_plain hgd fun K hK => ?_
  obtain ⟨w', hr, h2, h3⟩ := append_part (P := P) hr off k cap s t u o.type e i ht hu hi hsize hroom hfit
  unfold Oper.wp execOp
  simp only [ho, resolve, invoke, builtin, Sem.run_bind, Sem.run_pure, Result.andThen_ok, List.map_toArray, List.map_cons, List.map_nil, hs, hx, hr]
  exact hK _ _ (h w' h2 h3)
/-- what AppendInt gives: the slice, longer, over the same row -/
def AppEnd (g o k cap n : Nat) (t : TypeId) (f : Nat → Value) (bs : List Nat) (w : World) (e : Ending) (w' : World) : Prop :=
  e = .returned (.slice (some ⟨g, o, none⟩) (k + bs.length) cap) ∧ w'.rowIs g t n (putR f (o + k) bs) ∧ w.grownBy w' (some g)
theorem digs_lt (n : Nat) : ∀ x ∈ digs n, x < 256 := by
  have h0 : ∀ (m k : Nat), k < m → ∀ x ∈ digs0 k, x < 256 := by
    intro m
    induction m with
    | zero => intro k hk; omega
    | succ m ih =>
      intro k hk x hx
      rw [digs0] at hx
      split at hx
      · cases hx
      · rcases List.mem_append.1 hx with q | q
        · exact ih (k / 10) (by omega) x q
        · rw [List.mem_singleton] at q; omega
  intro x hx
  unfold digs at hx
  rcases List.mem_append.1 hx with q | q
  · exact h0 _ _ (Nat.lt_succ_self _) x q
  · rw [List.mem_singleton] at q; omega
theorem itoa_lt (z : Int) : ∀ x ∈ itoa z, x < 256 := by
  intro x hx
  unfold itoa at hx
  split at hx
  · rcases List.mem_cons.1 hx with q | q
    · omega
    · exact digs_lt _ x q
  · exact digs_lt _ x hx
theorem bytesN_numS' (l : List Nat) (h : ∀ x ∈ l, x < 256) : bytesN (numS l) = l := by
  unfold bytesN numS
  rw [strOfNums_data, List.map_map, List.map_map]
  conv => rhs; rw [← List.map_id l]
  refine List.map_congr_left fun x hx => ?_
  have := h x hx
  show (UInt8.ofNat ((x : Int)).toNat).toNat = x
  rw [Int.toNat_natCast, UInt8.toNat_ofNat']
  omega
theorem itoa_len {z : Int} (h0 : -9223372036854775808 ≤ z) (h1 : z ≤ 9223372036854775807) : (itoa z).length ≤ 21 := by
  unfold itoa
  split
  · rw [List.length_cons]
    have := digs_len (n := (-z).toNat) (by omega)
    omega
  · have := digs_len (n := z.toNat) (by omega)
    omega
theorem info8f : ∃ i, Tryz.prog.info? 5 = some i ∧ i.size = 1 := by
  have h := info8
  cases hq : Tryz.prog.info? 5 with
  | none => rw [hq] at h; cases h
  | some i => rw [hq] at h; exact ⟨i, rfl, by simpa using congrArg (fun o => o.map (·.2.1)) h⟩
set_option maxHeartbeats 2000000 in
set_option maxRecDepth 100000 in
theorem appInt_any (g o k cap n : Nat) (t : TypeId) (f : Nat → Value) (z : Int) (h0 : -9223372036854775808 ≤ z) (h1 : z ≤ 9223372036854775807) (w : World) (hr : w.rowIs g t n f) (hcap : k + 21 ≤ cap) (hfit : o + cap ≤ n) :
    Calls Tryz.prog 147 #[.slice (some ⟨g, o, none⟩) k cap, .int .i64 z, .int .i64 10] w (AppEnd g o k cap n t f (itoa z) w) := by
  have HR := Lib.hid hr
  obtain ⟨i8, hi8, hs8⟩ := info8f
  have HI8 := Lib.hid hi8
  have HS8 := Lib.hid hs8
  have HL := Lib.hid (itoa_len h0 h1)
  clear hr hi8 hs8
  go_enter Tryz.func147, Tryz.ntmps147
  go_wp2_with fail
  refine (fmtInt_any z h0 h1 w).mono ?_
  rintro e w1 ⟨rfl, hb⟩
  have HR1 := Lib.hid (HR.out.of_block (hb.block g HR.out.lt) : w1.rowIs g t n f)
  have HB := Lib.hid hb
  have hro : k + (numS (itoa z)).size ≤ cap := by rw [numS_size]; have := HL.out; omega
  have hfi : o + k + (numS (itoa z)).size ≤ n := by omega
  clear hb
  go_wp2_with (refine wpList_append_part rfl (.tmp 7) (.tmp 10) 73 9 rfl 5 i8 Tryz.underlying73 Tryz.underlying9 HI8.out HS8.out g o k cap n t f rfl HR1.out _ rfl hro hfi ?_; intro w2 hrow hgr; have HROW := Lib.hid hrow; have HGR := Lib.hid hgr; clear hrow hgr hro hfi)
  go_returns
  refine ⟨by rw [numS_size]; rfl, ?_, ?_⟩
  · have := HROW.out
    rwa [bytesN_numS' _ (itoa_lt z)] at this
  · exact ⟨HGR.out.os.trans HB.out.os, HGR.out.tape.trans HB.out.tape, HGR.out.output.trans HB.out.output, Nat.le_trans HB.out.size HGR.out.size, fun i hi hne => (HGR.out.block i (Nat.lt_of_lt_of_le hi HB.out.size) hne).trans (HB.out.block i hi)⟩
end Go.Proofs.YtgjmgneppecfgaaGreatDoor.Ma
namespace Go.Proofs.YtgjmgneppecfgaaGreatDoor.Ma
open Go.RowKit Go.Proofs.YtgjmgneppecfgaaGreatDoor.Va Go.Proofs.YtgjmgneppecfgaaGreatDoor.Ba
set_option linter.unusedVariables false
set_option linter.unusedSimpArgs false

/-- a row of digits, to be read -/
def Digs (w : World) (a : Option Addr) (d : List Nat) : Prop :=
  d = [] ∨ ∃ g, a = some ⟨g, 0, none⟩ ∧ g < w.heap.size ∧ ∀ i, i < d.length → w.cell? ⟨g, i, none⟩ = some (.int .u8 ((d.getD i 0 : Nat) : Int))
/-- a decimal, to be read -/
def Dec (w : World) (b : Nat) (d : List Nat) (dp : Int) : Prop :=
  ∃ (a : Option Addr) (cap : Nat), w.heap[b]? = some (.cells #[.slice a d.length cap, .int .i64 dp] 267 (0, 0)) ∧ Digs w a d
theorem Digs.below {w w' : World} {a : Option Addr} {d : List Nat} (h : Digs w a d) (hb : Below w.heap.size w w') : Digs w' a d := by
  rcases h with h | ⟨g, e, hg, hc⟩
  · exact .inl h
  · exact .inr ⟨g, e, Nat.lt_of_lt_of_le hg hb.size, fun i hi => (hb.cell (by exact hg)).trans (hc i hi)⟩
theorem Dec.below {w w' : World} {b : Nat} {d : List Nat} {dp : Int} (h : Dec w b d dp) (hb : Below w.heap.size w w') : Dec w' b d dp := by
  obtain ⟨a, cap, h1, h2⟩ := h
  exact ⟨a, cap, keep hb h1, h2.below hb⟩
theorem cells2 {w : World} {b : Nat} {a0 a1 : Value} {t : TypeId} (h : w.heap[b]? = some (.cells #[a0, a1] t (0, 0))) :
    (w.cell? ⟨b, 0, none⟩ = some a0 ∧ w.cell? ⟨b, 1, none⟩ = some a1) ∧ w.frozen? ⟨b, 0, none⟩ = false ∧ w.frozen? ⟨b, 1, none⟩ = false :=
  ⟨⟨cell_of h 0 rfl, cell_of h 1 rfl⟩, free_of h 0, free_of h 1⟩
def RetB (n : Nat) (w : World) (e : Ending) (w' : World) : Prop := e = .returned (.int .u8 (n : Int)) ∧ w = w'
set_option maxHeartbeats 1000000 in
theorem digit_any (b : Nat) (d : List Nat) (dp : Int) (i : Nat) (w : World) (h : Dec w b d dp) : Calls Tryz.prog 287 #[.pointer (some ⟨b, 0, none⟩), .int .i64 (i : Int)] w (RetB (d.getD i 0) w) := by
  obtain ⟨a, cap, h1, h2⟩ := h
  have c := cells2 h1
  have H2 := Lib.hid h2
  obtain ⟨n, hn⟩ : ∃ n, d.length = n := ⟨_, rfl⟩
  have HN := Lib.hid hn
  rw [hn] at c
  clear h1 h2 hn
  go_enter Tryz.func287, Tryz.ntmps287
  by_cases hi : i < n
  · obtain ⟨g, rfl, hg, hc⟩ : ∃ g, a = some ⟨g, 0, none⟩ ∧ g < w.heap.size ∧ ∀ i, i < d.length → w.cell? ⟨g, i, none⟩ = some (.int .u8 ((d.getD i 0 : Nat) : Int)) := by
      rcases H2.out with q | q
      · have := HN.out; rw [q] at this; simp at this; omega
      · exact q
    have hx := hc i (by rw [HN.out]; exact hi)
    obtain ⟨x, hx2⟩ : ∃ x, d.getD i 0 = x := ⟨_, rfl⟩
    rw [hx2] at hx ⊢
    clear hc hx2
    go_wp2_with fail
    go_returns
    exact ⟨rfl, rfl⟩
  · have hz : d.getD i 0 = 0 := by rw [List.getD, List.getElem?_eq_none (by rw [HN.out]; omega)]; rfl
    rw [hz]
    go_wp2_with fail
    go_returns
    exact ⟨rfl, rfl⟩
end Go.Proofs.YtgjmgneppecfgaaGreatDoor.Ma
