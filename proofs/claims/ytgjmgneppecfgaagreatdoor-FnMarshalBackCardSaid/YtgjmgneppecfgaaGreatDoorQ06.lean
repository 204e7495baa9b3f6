/-
  THE WALK of lightstrconv's FormatUint in base 10.
-/
import Derived.Test.YtgjmgneppecfgaaGreatDoorQ05
import Derived.Lib.AppendStr
import Derived.Room.AppendFits
import Derived.BigQuiet
import Derived.Laws.RangeString
import Derived.LoopTactic
import Derived.WalkSmall
set_option linter.unusedVariables false
set_option linter.unusedSimpArgs false
namespace Go.Proofs.YtgjmgneppecfgaaGreatDoor.Ma
open Go.RowKit Go.Proofs.YtgjmgneppecfgaaGreatDoor.Va Go.Proofs.YtgjmgneppecfgaaGreatDoor.Ba
set_option linter.unusedVariables false
set_option linter.unusedSimpArgs false

/-- the digits of a number above 0, none of 0 -/
def digs0 (n : Nat) : List Nat := if h : n = 0 then [] else digs0 (n / 10) ++ [48 + n % 10]
/-- a number in decimal -/
def digs (n : Nat) : List Nat := digs0 (n / 10) ++ [48 + n % 10]
theorem digs0_pos {n : Nat} (h : 0 < n) : digs0 n = digs n := by
  rw [digs0, dif_neg (by omega)]
  rfl
theorem digs0_zero : digs0 0 = [] := by rw [digs0, dif_pos rfl]
def LoopU (n : Nat) (g : Nat) (w : World) (mv iv : Value) (wr : World) : Prop :=
  ∃ (m i : Nat) (l : List Nat) (f : Nat → Value), mv = .int .u64 (m : Int) ∧ iv = .int .i64 (i : Int) ∧ i + l.length = 64 ∧ m ≤ n ∧ m * 10 ^ l.length ≤ n ∧ ((l = [] ∧ m = n) ∨ (0 < l.length ∧ digs n = digs0 m ++ l)) ∧ wr.rowIs g 116 64 f ∧ (∀ j, j < l.length → f (i + j) = .int .u8 ((l.getD j 0 : Nat) : Int)) ∧ Below w.heap.size w wr
theorem pow_small {k n m : Nat} (hn : n < 18446744073709551616) (hm : 0 < m) (h : m * 10 ^ k ≤ n) : k < 20 := by
  apply Nat.lt_of_not_le
  intro hk
  have h1 : 10 ^ 20 ≤ 10 ^ k := Nat.pow_le_pow_right (by omega) hk
  have h2 : 10 ^ k ≤ m * 10 ^ k := Nat.le_mul_of_pos_left _ hm
  omega
def alnum : ByteArray := ⟨#[48, 49, 50, 51, 52, 53, 54, 55, 56, 57, 97, 98, 99, 100, 101, 102, 103, 104, 105, 106, 107, 108, 109, 110, 111, 112, 113, 114, 115, 116, 117, 118, 119, 120, 121, 122]⟩
theorem alnum_at (d : Nat) (h : d < 10) (hd : d < alnum.size) : (((alnum[d]'hd).toNat : Nat) : Int) = ((48 + d : Nat) : Int) := by
  rcases (show d = 0 ∨ d = 1 ∨ d = 2 ∨ d = 3 ∨ d = 4 ∨ d = 5 ∨ d = 6 ∨ d = 7 ∨ d = 8 ∨ d = 9 by omega) with h | h | h | h | h | h | h | h | h | h <;> subst h <;> rfl
set_option maxHeartbeats 2000000 in
set_option maxRecDepth 100000 in
theorem fmtUint_any (n : Nat) (hn : n < 18446744073709551616) (w : World) : Calls Tryz.prog 210 #[.int .u64 (n : Int), .int .i64 10] w (StrEnd (numS (digs n)) w) := by
  go_enter Tryz.func210, Tryz.ntmps210
  go_upto_region 4 with fail
  generalize hW : World.alloc w _ = W
  have hW2 : World.alloc w (.cells (Array.replicate 64 (.int .u8 0)) 116) = W := hW
  have H0 : Hid (W.rowIs w.heap.size 116 64 (fun _ => .int .u8 0)) := Lib.hid (hW2 ▸ World.rowIs_alloc w (Array.replicate 64 (.int .u8 0)) 116 (fun _ => .int .u8 0) (fun i hi => by rw [Array.getElem?_replicate, if_pos (by simpa using hi)]))
  have B0 := Lib.hid (hW ▸ below_alloc w _ : Below w.heap.size w W)
  clear hW hW2
  go_wp2_with fail
  go_loopw [0, 6] (LoopU n w.heap.size w) (fun a b _ => if intOf b = 64 then n + 1 else (intOf a).toNat)
  case atStart => exact ⟨n, 64, [], _, rfl, rfl, rfl, Nat.le_refl _, by simp, .inl ⟨rfl, rfl⟩, H0.out, fun j hj => absurd hj (by simp), B0.out⟩
  case round =>
    obtain ⟨m, i, l, f, rfl, rfl, hil, hmn, hpow, hcase, hrow, hf, hb⟩ := hrel
    have HC := Lib.hid hcase
    have HR := Lib.hid hrow
    have HF := Lib.hid hf
    have HB := Lib.hid hb
    have HP := Lib.hid hpow
    have HIL := Lib.hid hil
    have hm64 : m < 18446744073709551616 := by omega
    have hi64 : i ≤ 64 := by omega
    have hne : (i = 64 ∧ m = n) ∨ (i < 64 ∧ m ≤ n) := by
      rcases hcase with ⟨h1, h2⟩ | ⟨h1, _⟩
      · subst h1; exact .inl ⟨by simpa using hil, h2⟩
      · exact .inr ⟨by omega, hmn⟩
    clear hcase hrow hf hb hpow hil
    by_cases hgo : i = 64 ∨ 0 < m
    · have hi1 : 1 ≤ i := by
        rcases hgo with q | q
        · omega
        · have := pow_small hn q HP.out
          have := HIL.out
          omega
      have R : Hid (∀ W', W' = wr.setCell ⟨w.heap.size, i - 1, none⟩ (.int .u8 ((48 + m % 10 : Nat) : Int)) → LoopU n w.heap.size w (.int .u64 ((m / 10 : Nat) : Int)) (.int .i64 ((i - 1 : Nat) : Int)) W') := Lib.hid fun W' hW' => by
        subst hW'
        refine ⟨m / 10, i - 1, (48 + m % 10) :: l, _, rfl, rfl, ?_, ?_, ?_, .inr ⟨by simp, ?_⟩, HR.out.set _ _, ?_, ?_⟩
        · have := HIL.out
          simp only [List.length_cons]
          omega
        · omega
        · rw [List.length_cons, Nat.pow_succ]
          have h1 : m / 10 * 10 ≤ m := Nat.div_mul_le_self m 10
          calc m / 10 * (10 ^ l.length * 10) = (m / 10 * 10) * 10 ^ l.length := by rw [Nat.mul_comm (10 ^ l.length) 10, ← Nat.mul_assoc]
            _ ≤ m * 10 ^ l.length := Nat.mul_le_mul_right _ h1
            _ ≤ n := HP.out
        · rcases HC.out with ⟨h1, h2⟩ | ⟨h1, h2⟩
          · subst h1; subst h2; rfl
          · have hm : 0 < m := by
              rcases hgo with q | q
              · have := HIL.out; omega
              · exact q
            rw [h2, digs0_pos hm, digs]
            simp
        · intro j hj
          cases j with
          | zero => simp
          | succ j =>
            rw [if_neg (by omega), show i - 1 + (j + 1) = i + j by omega, HF.out j (by simpa using hj)]
            simp
        · exact HB.out.setCell (Nat.le_refl _) _
      have o0 := HR.out.cell (i := i - 1) (by omega)
      have f0 := HR.out.frozen (i - 1)
      by_cases h64 : i = 64
      · subst h64
        have hmn2 : m = n := by
          rcases hne with ⟨_, q⟩ | ⟨q, _⟩
          · exact q
          · omega
        subst hmn2
        clear hne hgo
        go_wp2_with fail
        refine ⟨?_, ?_⟩
        · have := R.out _ rfl
          rw [← alnum_at (m % 10) (by omega) (by show m % 10 < 36; omega)] at this
          exact this
        · simp [intOf]; omega
      · have q : 0 < m := by omega
        have hq : (0 : Int) < (m : Int) := by omega
        have hi2 : ((i : Int) == 64) = false := by simp; omega
        clear hne hgo
        go_wp2_with fail
        refine ⟨?_, ?_⟩
        · have e : (i : Int) - 1 = ((i - 1 : Nat) : Int) := by omega
          have := R.out _ rfl
          rw [← alnum_at (m % 10) (by omega) (by show m % 10 < 36; omega), ← e] at this
          exact this
        · rw [intOf, intOf, intOf, intOf, if_neg (by omega), if_neg (by omega)]; omega
    · obtain ⟨h64, h0⟩ : ¬ i = 64 ∧ m = 0 := ⟨fun q => hgo (.inl q), by omega⟩
      subst h0
      have hi2 : ((i : Int) == 64) = false := by simp; omega
      have hal : (i : Int) ≤ ((Tryz.prog.arrayLen 116 : Nat) : Int) := by rw [show Tryz.prog.arrayLen 116 = 64 by kernel_rfl]; omega
      have h64' : ¬ 64 = i := by omega
      have hal2 : (i : Int) ≤ 64 := by omega
      have hal3 : (0 : Int) ≤ (i : Int) := by omega
      obtain ⟨h1, h2⟩ : 0 < l.length ∧ digs n = l := by
        rcases HC.out with ⟨q, _⟩ | ⟨q1, q2⟩
        · subst q; have := HIL.out; simp at this; omega
        · rw [digs0_zero] at q2; exact ⟨q1, q2⟩
      have HD := Lib.hid h2
      obtain ⟨k, hk⟩ : ∃ k, l.length = k := ⟨_, rfl⟩
      have HK := Lib.hid hk
      have hik : 64 - i = k := by have := HIL.out; omega
      have g := run_convert_bytes_arg (P := Tryz.prog) wr 73 5 Tryz.underlying73 Tryz.underlying5 w.heap.size i k k (l.map fun x : Nat => (x : Int)) (by rw [List.length_map]; exact hk)
        (fun j hj => by
          rw [HR.out.cell (by omega), HF.out j (by rw [HK.out]; exact hj)]
          simp [List.getD, List.getElem?_eq_getElem (show j < l.length by rw [HK.out]; exact hj)]) 9 Tryz.underlying9
      clear hgo hne h1 h2 hk
      go_wp2_with fail
      go_returns
      rw [HD.out]
      exact ⟨rfl, HB.out⟩
end Go.Proofs.YtgjmgneppecfgaaGreatDoor.Ma
/-
  THE WALK of lightstrconv's FormatInt in base 10.
-/
namespace Go.Proofs.YtgjmgneppecfgaaGreatDoor.Ma
open Go.RowKit Go.Proofs.YtgjmgneppecfgaaGreatDoor.Va Go.Proofs.YtgjmgneppecfgaaGreatDoor.Ba
set_option linter.unusedVariables false
set_option linter.unusedSimpArgs false

/-- a number in decimal, with its sign -/
def itoa (z : Int) : List Nat := if z < 0 then 45 :: digs (-z).toNat else digs z.toNat
theorem numS_cons (x : Nat) (l : List Nat) : (⟨#[UInt8.ofNat x]⟩ : ByteArray) ++ numS l = numS (x :: l) := by
  apply ByteArray.ext
  apply Array.ext'
  rw [ByteArray.data_append, Array.toList_append]
  rfl
theorem numS_append (a b : List Nat) : numS a ++ numS b = numS (a ++ b) := by
  apply ByteArray.ext
  apply Array.ext'
  rw [ByteArray.data_append, Array.toList_append]
  unfold numS
  rw [strOfNums_data, strOfNums_data, strOfNums_data, List.map_append, List.map_append]
theorem digs0_len : ∀ (k n : Nat), n < 10 ^ k → (digs0 n).length ≤ k
  | 0, n, h => by
    obtain rfl : n = 0 := by simpa using h
    rw [digs0_zero]
    exact Nat.le_refl _
  | k + 1, n, h => by
    rw [digs0]
    split
    · exact Nat.zero_le _
    · rw [List.length_append, List.length_singleton]
      have := digs0_len k (n / 10) (by rw [Nat.pow_succ] at h; omega)
      omega
theorem digs_len {n : Nat} (h : n < 18446744073709551616) : (digs n).length ≤ 20 := by
  unfold digs
  rw [List.length_append, List.length_singleton]
  have := digs0_len 19 (n / 10) (by have : 10 ^ 19 = 10000000000000000000 := by decide
                                    omega)
  omega
theorem numS_size (l : List Nat) : (numS l).size = l.length := by
  unfold numS
  rw [strOfNums_size, List.length_map]
theorem wrap_pos (z : Int) (h0 : 0 ≤ z) (h1 : z < 18446744073709551616) : IntKind.u64.wrap z = z := by
  rw [IntKind.wrap_u64]
  omega
theorem wrap_neg (z : Int) (h0 : z < 0) (h1 : -9223372036854775808 ≤ z) : IntKind.u64.wrap z = z + 18446744073709551616 := by
  rw [IntKind.wrap_u64]
  omega
set_option maxHeartbeats 2000000 in
set_option maxRecDepth 100000 in
theorem fmtInt_any (z : Int) (h0 : -9223372036854775808 ≤ z) (h1 : z ≤ 9223372036854775807) (w : World) : Calls Tryz.prog 180 #[.int .i64 z, .int .i64 10] w (StrEnd (numS (itoa z)) w) := by
  go_enter Tryz.func180, Tryz.ntmps180
  by_cases hz : z < 0
  · obtain ⟨n, hn⟩ : ∃ n : Nat, (n : Int) = -z := ⟨(-z).toNat, by omega⟩
    have hw1 := wrap_neg z hz h0
    have hw2 : IntKind.u64.wrap (-(z + 18446744073709551616)) = (n : Int) := by rw [IntKind.wrap_u64]; omega
    have HE := Lib.hid (fmtUint_any n (by omega) w)
    have HI : Hid (itoa z = 45 :: digs n) := Lib.hid (by unfold itoa; rw [if_pos hz, show (-z).toNat = n by omega])
    have HNB : Hid (n < 18446744073709551616) := Lib.hid (by omega)
    clear hn
    go_wp2_with fail
    refine HE.out.mono ?_
    rintro e w1 ⟨rfl, hb⟩
    have HB := Lib.hid hb
    clear hb
    have hsz : (numS (digs n)).size ≤ 20 := by rw [numS_size]; exact digs_len HNB.out
    have hsz2 : (⟨#[45]⟩ : ByteArray).size = 1 := rfl
    have hs : (⟨#[45]⟩ : ByteArray) ++ numS (digs n) = numS (itoa z) := by rw [HI.out, ← numS_cons]; rfl
    go_wp2_with fail
    go_returns
    exact ⟨rfl, HB.out⟩
  · obtain ⟨n, hn⟩ : ∃ n : Nat, (n : Int) = z := ⟨z.toNat, by omega⟩
    subst hn
    have hw1 := wrap_pos (n : Int) (by omega) (by omega)
    have HE := Lib.hid (fmtUint_any n (by omega) w)
    have HI : Hid (itoa (n : Int) = digs n) := Lib.hid (by unfold itoa; rw [if_neg hz]; rfl)
    go_wp2_with fail
    refine HE.out.mono ?_
    rintro e w1 ⟨rfl, hb⟩
    have HB := Lib.hid hb
    clear hb
    go_wp2_with fail
    go_returns
    exact ⟨by rw [HI.out]; rfl, HB.out⟩
end Go.Proofs.YtgjmgneppecfgaaGreatDoor.Ma
/-
  append(b[:k], s...) into a part of a row; AppendInt into it.
-/
namespace Go.Proofs.YtgjmgneppecfgaaGreatDoor.Ma
open Go.RowKit Go.Proofs.YtgjmgneppecfgaaGreatDoor.Va Go.Proofs.YtgjmgneppecfgaaGreatDoor.Ba
set_option linter.unusedVariables false
set_option linter.unusedSimpArgs false

/-- a row in which some places were written -/
def putR (f : Nat → Value) (q : Nat) (bs : List Nat) (j : Nat) : Value := if q ≤ j ∧ j < q + bs.length then .int .u8 ((bs.getD (j - q) 0 : Nat) : Int) else f j
theorem run_append_part_string {P : Program} (w : World) (t u ty e e2 : TypeId) (i : TypeInfo) (ht : P.underlying t = some (.slice e)) (hu : P.underlying u = some .string) (hi : P.info? e = some i) (hs1 : i.size = 1)
    (g o sLen sCap : Nat) (cur : Array Value) (hg : w.heap[g]? = some (.cells cur e2 (0, 0))) (s : ByteArray)
    (hroom : sLen + s.size ≤ sCap) (hfit : o + sLen + s.size ≤ cur.size) :
    (Builtin.append_ #[t, u] ty #[.slice (some ⟨g, o, none⟩) sLen sCap, .string s]).run P w =
      .ok (.slice (some ⟨g, o, none⟩) (sLen + s.size) sCap) (w.setRow g (cur.toList.take (o + sLen) ++ Lib.strCells s ++ cur.toList.drop (o + sLen + s.size)).toArray) := by
  have hf := Lib.run_firstCells_string (P := P) w 1 s
  have hst := run_storeCells_at P g (o + sLen) e2 (Lib.strCells s) 0 cur w hg (by simpa [Lib.strCells_length] using hfit) (Lib.strCells_oneCell s)
  simp only [Nat.add_zero, Lib.strCells_length] at hst
  simp [Builtin.append_, run_underlying ht, run_underlying hu, sizeOf, typeInfo, hi, hs1, Builtin.lenOf, hroom, hf, Addr.add_lit, hst]
/-- the row behind it -/
theorem append_part {P : Program} {w : World} {g n : Nat} {t : TypeId} {f : Nat → Value} (h : w.rowIs g t n f) (o sLen sCap : Nat) (s : ByteArray) (dT sT ty elem : TypeId) (i : TypeInfo) (hu : P.underlying dT = some (.slice elem)) (hsT : P.underlying sT = some .string) (hi : P.info? elem = some i) (hs1 : i.size = 1)
    (hroom : sLen + s.size ≤ sCap) (hfit : o + sLen + s.size ≤ n) : ∃ w', (Builtin.append_ #[dT, sT] ty #[.slice (some ⟨g, o, none⟩) sLen sCap, .string s]).run P w = .ok (.slice (some ⟨g, o, none⟩) (sLen + s.size) sCap) w' ∧
      w'.rowIs g t n (putR f (o + sLen) (bytesN s)) ∧ w.grownBy w' (some g) := by
  obtain ⟨cur, h1, h2, h3⟩ := h
  have hr := run_append_part_string (P := P) w dT sT ty elem t i hu hsT hi hs1 g o sLen sCap cur h1 s hroom (by omega)
  refine ⟨_, hr, ⟨_, setRow_heap w g _ _ _ _ h1, ?_, fun i hi => ?_⟩, ⟨rfl, rfl, rfl, by simp, fun k _ hk => setRow_other _ _ _ _ (fun e => hk (by rw [e]))⟩⟩
  · simp [Lib.strCells_length]
    omega
  · have htl : (cur.toList.take (o + sLen)).length = o + sLen := by simp; omega
    have hbl := Lib.strCells_length s
    have hsz : s.data.toList.length = s.size := (Lib.size_eq s).symm
    rw [List.getElem?_toArray]
    unfold putR
    rw [bytesN_len]
    by_cases c1 : i < o + sLen
    · rw [if_neg (by omega), List.getElem?_append_left (by rw [List.length_append, htl]; omega), List.getElem?_append_left (by rw [htl]; exact c1), List.getElem?_take, if_pos c1]
      have := h3 i hi
      simpa using this
    · by_cases c2 : i < o + sLen + s.size
      · rw [if_pos ⟨by omega, c2⟩, List.getElem?_append_left (by rw [List.length_append, htl, hbl]; omega), List.getElem?_append_right (by rw [htl]; omega), htl]
        unfold Lib.strCells bytesN
        rw [List.getElem?_map, List.getElem?_eq_getElem (by omega)]
        simp [List.getD, List.getElem?_eq_getElem (show i - (o + sLen) < s.data.toList.length by omega)]
      · rw [if_neg (by omega), List.getElem?_append_right (by rw [List.length_append, htl, hbl]; omega), List.length_append, htl, hbl, List.getElem?_drop]
        have := h3 i hi
        rw [show o + sLen + s.size + (i - (o + sLen + s.size)) = i by omega]
        simpa using this
/-- .. at the operation, for the walk -/
theorem wpList_append_part {P : Program} {ops : Array Oper} {rest : List Oper} {o : Oper} {a : Act} {w : World} {Q : Exit → Act → World → Prop} (hgd : o.guard = none) (sl x : Operand) (t u : TypeId)
    (ho : o.op = .call { callee := .builtin .append, args := #[sl, x], argTypes := #[t, u] })
    (e : TypeId) (i : TypeInfo) (ht : P.underlying t = some (.slice e)) (hu : P.underlying u = some .string) (hi : P.info? e = some i) (hsize : i.size = 1)
    (g off k cap n : Nat) (t2 : TypeId) (f : Nat → Value) (hs : a.eval sl = .slice (some ⟨g, off, none⟩) k cap) (hr : w.rowIs g t2 n f) (s : ByteArray) (hx : a.eval x = .string s) (hroom : k + s.size ≤ cap) (hfit : off + k + s.size ≤ n)
    (h : ∀ w', w'.rowIs g t2 n (putR f (off + k) (bytesN s)) → w.grownBy w' (some g) → wpList P ops Q rest (a.put o.dst (.slice (some ⟨g, off, none⟩) (k + s.size) cap)) w') : wpList P ops Q (o :: rest) a w := by
  refine wpList_plain hgd fun K hK => ?_
  obtain ⟨w', hr, h2, h3⟩ := append_part (P := P) hr off k cap s t u o.type e i ht hu hi hsize hroom hfit
  unfold Oper.wp execOp
  simp only [ho, resolve, invoke, builtin, Sem.run_bind, Sem.run_pure, Result.andThen_ok, List.map_toArray, List.map_cons, List.map_nil, hs, hx, hr]
  exact hK _ _ (h w' h2 h3)
/-- what AppendInt gives: the slice, longer, over the same row -/
def AppEnd (g o k cap n : Nat) (t : TypeId) (f : Nat → Value) (bs : List Nat) (w : World) (e : Ending) (w' : World) : Prop :=
  e = .returned (.slice (some ⟨g, o, none⟩) (k + bs.length) cap) ∧ w'.rowIs g t n (putR f (o + k) bs) ∧ w.grownBy w' (some g)
theorem digs_lt (n : Nat) : ∀ x ∈ digs n, x < 256 := by
  have h0 : ∀ (m k : Nat), k < m → ∀ x ∈ digs0 k, x < 256 := by
    intro m
    induction m with
    | zero => intro k hk; omega
    | succ m ih =>
      intro k hk x hx
      rw [digs0] at hx
      split at hx
      · cases hx
      · rcases List.mem_append.1 hx with q | q
        · exact ih (k / 10) (by omega) x q
        · rw [List.mem_singleton] at q; omega
  intro x hx
  unfold digs at hx
  rcases List.mem_append.1 hx with q | q
  · exact h0 _ _ (Nat.lt_succ_self _) x q
  · rw [List.mem_singleton] at q; omega
theorem itoa_lt (z : Int) : ∀ x ∈ itoa z, x < 256 := by
  intro x hx
  unfold itoa at hx
  split at hx
  · rcases List.mem_cons.1 hx with q | q
    · omega
    · exact digs_lt _ x q
  · exact digs_lt _ x hx
theorem bytesN_numS' (l : List Nat) (h : ∀ x ∈ l, x < 256) : bytesN (numS l) = l := by
  unfold bytesN numS
  rw [strOfNums_data, List.map_map, List.map_map]
  conv => rhs; rw [← List.map_id l]
  refine List.map_congr_left fun x hx => ?_
  have := h x hx
  show (UInt8.ofNat ((x : Int)).toNat).toNat = x
  rw [Int.toNat_natCast, UInt8.toNat_ofNat']
  omega
theorem itoa_len {z : Int} (h0 : -9223372036854775808 ≤ z) (h1 : z ≤ 9223372036854775807) : (itoa z).length ≤ 21 := by
  unfold itoa
  split
  · rw [List.length_cons]
    have := digs_len (n := (-z).toNat) (by omega)
    omega
  · have := digs_len (n := z.toNat) (by omega)
    omega
theorem info8f : ∃ i, Tryz.prog.info? 5 = some i ∧ i.size = 1 := by
  have h := info8
  cases hq : Tryz.prog.info? 5 with
  | none => rw [hq] at h; cases h
  | some i => rw [hq] at h; exact ⟨i, rfl, by simpa using congrArg (fun o => o.map (·.2.1)) h⟩
set_option maxHeartbeats 2000000 in
set_option maxRecDepth 100000 in
theorem appInt_any (g o k cap n : Nat) (t : TypeId) (f : Nat → Value) (z : Int) (h0 : -9223372036854775808 ≤ z) (h1 : z ≤ 9223372036854775807) (w : World) (hr : w.rowIs g t n f) (hcap : k + 21 ≤ cap) (hfit : o + cap ≤ n) :
    Calls Tryz.prog 147 #[.slice (some ⟨g, o, none⟩) k cap, .int .i64 z, .int .i64 10] w (AppEnd g o k cap n t f (itoa z) w) := by
  have HR := Lib.hid hr
  obtain ⟨i8, hi8, hs8⟩ := info8f
  have HI8 := Lib.hid hi8
  have HS8 := Lib.hid hs8
  have HL := Lib.hid (itoa_len h0 h1)
  clear hr hi8 hs8
  go_enter Tryz.func147, Tryz.ntmps147
  go_wp2_with fail
  refine (fmtInt_any z h0 h1 w).mono ?_
  rintro e w1 ⟨rfl, hb⟩
  have HR1 := Lib.hid (HR.out.of_block (hb.block g HR.out.lt) : w1.rowIs g t n f)
  have HB := Lib.hid hb
  have hro : k + (numS (itoa z)).size ≤ cap := by rw [numS_size]; have := HL.out; omega
  have hfi : o + k + (numS (itoa z)).size ≤ n := by omega
  clear hb
  go_wp2_with (refine wpList_append_part rfl (.tmp 7) (.tmp 10) 73 9 rfl 5 i8 Tryz.underlying73 Tryz.underlying9 HI8.out HS8.out g o k cap n t f rfl HR1.out _ rfl hro hfi ?_; intro w2 hrow hgr; have HROW := Lib.hid hrow; have HGR := Lib.hid hgr; clear hrow hgr hro hfi)
  go_returns
  refine ⟨by rw [numS_size]; rfl, ?_, ?_⟩
  · have := HROW.out
    rwa [bytesN_numS' _ (itoa_lt z)] at this
  · exact ⟨HGR.out.os.trans HB.out.os, HGR.out.tape.trans HB.out.tape, HGR.out.output.trans HB.out.output, Nat.le_trans HB.out.size HGR.out.size, fun i hi hne => (HGR.out.block i (Nat.lt_of_lt_of_le hi HB.out.size) hne).trans (HB.out.block i hi)⟩
end Go.Proofs.YtgjmgneppecfgaaGreatDoor.Ma
/-
  A decimal where it lies; THE WALKS of digit and cmp.
-/
namespace Go.Proofs.YtgjmgneppecfgaaGreatDoor.Ma
open Go.RowKit Go.Proofs.YtgjmgneppecfgaaGreatDoor.Va Go.Proofs.YtgjmgneppecfgaaGreatDoor.Ba
set_option linter.unusedVariables false
set_option linter.unusedSimpArgs false

/-- a row of digits, to be read -/
def Digs (w : World) (a : Option Addr) (d : List Nat) : Prop :=
  d = [] ∨ ∃ g, a = some ⟨g, 0, none⟩ ∧ g < w.heap.size ∧ ∀ i, i < d.length → w.cell? ⟨g, i, none⟩ = some (.int .u8 ((d.getD i 0 : Nat) : Int))
/-- a decimal, to be read -/
def Dec (w : World) (b : Nat) (d : List Nat) (dp : Int) : Prop :=
  ∃ (a : Option Addr) (cap : Nat), w.heap[b]? = some (.cells #[.slice a d.length cap, .int .i64 dp] 267 (0, 0)) ∧ Digs w a d
theorem Digs.below {w w' : World} {a : Option Addr} {d : List Nat} (h : Digs w a d) (hb : Below w.heap.size w w') : Digs w' a d := by
  rcases h with h | ⟨g, e, hg, hc⟩
  · exact .inl h
  · exact .inr ⟨g, e, Nat.lt_of_lt_of_le hg hb.size, fun i hi => (hb.cell (by exact hg)).trans (hc i hi)⟩
theorem Dec.below {w w' : World} {b : Nat} {d : List Nat} {dp : Int} (h : Dec w b d dp) (hb : Below w.heap.size w w') : Dec w' b d dp := by
  obtain ⟨a, cap, h1, h2⟩ := h
  exact ⟨a, cap, keep hb h1, h2.below hb⟩
theorem cells2 {w : World} {b : Nat} {a0 a1 : Value} {t : TypeId} (h : w.heap[b]? = some (.cells #[a0, a1] t (0, 0))) :
    (w.cell? ⟨b, 0, none⟩ = some a0 ∧ w.cell? ⟨b, 1, none⟩ = some a1) ∧ w.frozen? ⟨b, 0, none⟩ = false ∧ w.frozen? ⟨b, 1, none⟩ = false :=
  ⟨⟨cell_of h 0 rfl, cell_of h 1 rfl⟩, free_of h 0, free_of h 1⟩
def RetB (n : Nat) (w : World) (e : Ending) (w' : World) : Prop := e = .returned (.int .u8 (n : Int)) ∧ w = w'
set_option maxHeartbeats 1000000 in
theorem digit_any (b : Nat) (d : List Nat) (dp : Int) (i : Nat) (w : World) (h : Dec w b d dp) : Calls Tryz.prog 287 #[.pointer (some ⟨b, 0, none⟩), .int .i64 (i : Int)] w (RetB (d.getD i 0) w) := by
  obtain ⟨a, cap, h1, h2⟩ := h
  have c := cells2 h1
  have H2 := Lib.hid h2
  obtain ⟨n, hn⟩ : ∃ n, d.length = n := ⟨_, rfl⟩
  have HN := Lib.hid hn
  rw [hn] at c
  clear h1 h2 hn
  go_enter Tryz.func287, Tryz.ntmps287
  by_cases hi : i < n
  · obtain ⟨g, rfl, hg, hc⟩ : ∃ g, a = some ⟨g, 0, none⟩ ∧ g < w.heap.size ∧ ∀ i, i < d.length → w.cell? ⟨g, i, none⟩ = some (.int .u8 ((d.getD i 0 : Nat) : Int)) := by
      rcases H2.out with q | q
      · have := HN.out; rw [q] at this; simp at this; omega
      · exact q
    have hx := hc i (by rw [HN.out]; exact hi)
    obtain ⟨x, hx2⟩ : ∃ x, d.getD i 0 = x := ⟨_, rfl⟩
    rw [hx2] at hx ⊢
    clear hc hx2
    go_wp2_with fail
    go_returns
    exact ⟨rfl, rfl⟩
  · have hz : d.getD i 0 = 0 := by rw [List.getD, List.getElem?_eq_none (by rw [HN.out]; omega)]; rfl
    rw [hz]
    go_wp2_with fail
    go_returns
    exact ⟨rfl, rfl⟩
end Go.Proofs.YtgjmgneppecfgaaGreatDoor.Ma
/-
  THE WALK of zzIndexRune at an ASCII text, for '='.
-/
namespace Go.Proofs.YtgjmgneppecfgaaGreatDoor.Ba
open Go.RowKit Go.Proofs.YtgjmgneppecfgaaGreatDoor.Va
set_option linter.unusedVariables false
set_option linter.unusedSimpArgs false

theorem byte_at (s : ByteArray) (i : Nat) (h : i < s.size) : (s[i]'h).toNat = (bytesN s).getD i 0 := by
  have hl : i < s.data.toList.length := by rw [← Lib.size_eq]; exact h
  unfold bytesN
  simp [List.getD, List.getElem?_map, List.getElem?_eq_getElem hl]
  rfl
theorem getD_mem {l : List Nat} {i : Nat} (h : i < l.length) : l.getD i 0 ∈ l := by
  rw [List.getD, List.getElem?_eq_getElem h]
  exact List.getElem_mem h
/-- where the first '=' is -/
def IdxEnd (s : ByteArray) (w : World) (e : Ending) (w' : World) : Prop :=
  ∃ p, p ≤ s.size ∧ (∀ j, j < p → (bytesN s).getD j 0 ≠ 61) ∧ ((p = s.size ∧ e = .returned (.int .i64 (-1))) ∨ (p < s.size ∧ (bytesN s).getD p 0 = 61 ∧ e = .returned (.int .i64 (p : Int)))) ∧ Below w.heap.size w w'
def LoopI (s : ByteArray) (w wr : World) : Prop := ∃ i, i ≤ s.size ∧ wr = w.iter s i ∧ ∀ j, j < i → (bytesN s).getD j 0 ≠ 61
set_option maxHeartbeats 2000000 in
set_option maxRecDepth 100000 in
theorem idx_any (s : ByteArray) (hs : s.size ≤ 4294967296) (ha : ∀ x ∈ bytesN s, x < 128) (w : World) : Calls Tryz.prog 158 #[.string s, .int .i32 61] w (IdxEnd s w) := by
  have HA := Lib.hid ha
  clear ha
  go_enter Tryz.func158, Tryz.ntmps158
  go_wp2_with fail
  go_loopw [5] (fun _ wr => LoopI s w wr) (fun _ wr => s.size - wr.iterPos w.heap.size)
  case atStart => exact ⟨0, Nat.zero_le _, rfl, fun j hj => absurd hj (by omega)⟩
  case round =>
    obtain ⟨i, hi, rfl, hno⟩ := hrel
    have HNO := Lib.hid hno
    clear hno
    have hmu : (w.iter s i).iterPos w.heap.size = i := by simp [World.iterPos, World.iter_heap]
    by_cases hlt : i < s.size
    · have h128 : (bytesN s).getD i 0 < 128 := HA.out _ (getD_mem (by rw [bytesN_len]; exact hlt))
      have hb := byte_at s i hlt
      have hnx := fun ty => run_next_ascii (P := Tryz.prog) w s i ty hlt (by rw [hb]; exact h128)
      rw [hb] at hnx
      clear hb
      obtain ⟨c, hc⟩ : ∃ c, (bytesN s).getD i 0 = c := ⟨_, rfl⟩
      rw [hc] at hnx h128
      have HC := Lib.hid hc
      clear hc
      have hmu2 : (w.iter s (i + 1)).iterPos w.heap.size = i + 1 := by simp [World.iterPos, World.iter_heap]
      by_cases h61 : c = 61
      · subst h61
        go_wp2_with fail
        go_returns
        exact ⟨i, hi, HNO.out, .inr ⟨hlt, HC.out, rfl⟩, below_alloc w _⟩
      · have hc1 : ((c : Int) == 61) = false := by simp; omega
        have hc2 : ¬ (c : Int) = 61 := by omega
        go_wp2_with fail
        go_roundw
        case rel => exact ⟨i + 1, hlt, rfl, fun j hj => by
          by_cases e : j = i
          · subst e; rw [HC.out]; exact h61
          · exact HNO.out j (by omega)⟩
        case measure => rw [hmu, hmu2]; omega
    · have hnx := fun ty => run_next_end (P := Tryz.prog) w s i ty hlt
      go_wp2_with fail
      go_returns
      exact ⟨i, hi, HNO.out, .inl ⟨by omega, rfl⟩, below_alloc w _⟩
end Go.Proofs.YtgjmgneppecfgaaGreatDoor.Ba
/-
  THE WALK of decimal.cmp.
-/
namespace Go.Proofs.YtgjmgneppecfgaaGreatDoor.Ma
open Go.RowKit Go.Proofs.YtgjmgneppecfgaaGreatDoor.Va Go.Proofs.YtgjmgneppecfgaaGreatDoor.Ba
set_option linter.unusedVariables false
set_option linter.unusedSimpArgs false

/-- two rows of digits behind the point, one against the other -/
def cmpF (d e : List Nat) : Nat → Nat → Int
  | 0, _ => 0
  | m + 1, i => if d.length ≤ i ∧ e.length ≤ i then 0 else if d.getD i 0 ≠ e.getD i 0 then (d.getD i 0 : Int) - (e.getD i 0 : Int) else cmpF d e m (i + 1)
def cmpD (d : List Nat) (dp : Int) (e : List Nat) (ep : Int) : Int :=
  if d.length = 0 ∨ e.length = 0 then (d.length : Int) - (e.length : Int) else if dp ≠ ep then dp - ep else cmpF d e (d.length + e.length + 1) 0
theorem cmpF_end {d e : List Nat} {m i : Nat} (h1 : d.length ≤ i) (h2 : e.length ≤ i) : cmpF d e m i = 0 := by
  cases m with
  | zero => rfl
  | succ m => rw [cmpF, if_pos ⟨h1, h2⟩]
def RetZ (z : Int) (w : World) (e : Ending) (w' : World) : Prop := e = .returned (.int .i64 z) ∧ ∃ m, w' = w.drewN m
def LoopC (d e : List Nat) (z : Int) (w : World) (iv : Value) (wr : World) : Prop :=
  ∃ (i m : Nat), iv = .int .i64 (i : Int) ∧ (∃ k, wr = w.drewN k) ∧ i ≤ d.length + e.length ∧ d.length + e.length + 1 ≤ m + i ∧ z = cmpF d e m i
set_option maxHeartbeats 2000000 in
set_option maxRecDepth 100000 in
theorem cmp_any (b c : Nat) (d e : List Nat) (dp ep : Int) (hd : ∀ x ∈ d, x < 10) (he : ∀ x ∈ e, x < 10) (hdl : d.length ≤ 2147483647) (hel : e.length ≤ 2147483647) (hdp : -2147483648 ≤ dp ∧ dp ≤ 2147483647) (hep : -2147483648 ≤ ep ∧ ep ≤ 2147483647) (w : World) (h1 : Dec w b d dp) (h2 : Dec w c e ep) :
    Calls Tryz.prog 285 #[.pointer (some ⟨b, 0, none⟩), .pointer (some ⟨c, 0, none⟩)] w (RetZ (cmpD d dp e ep) w) := by
  have H1 := Lib.hid (fun (i : Nat) (k : Nat) => digit_any b d dp i (w.drewN k) h1)
  have H2 := Lib.hid (fun (i : Nat) (k : Nat) => digit_any c e ep i (w.drewN k) h2)
  obtain ⟨a, cap, g1, _⟩ := h1
  obtain ⟨a', cap', g2, _⟩ := h2
  have c1 := cells2 g1
  have c2 := cells2 g2
  obtain ⟨dp0, dp1⟩ := hdp
  obtain ⟨ep0, ep1⟩ := hep
  have HD := Lib.hid hd
  have HE := Lib.hid he
  have HZ : Hid (cmpD d dp e ep = if d.length = 0 ∨ e.length = 0 then (d.length : Int) - (e.length : Int) else if dp ≠ ep then dp - ep else cmpF d e (d.length + e.length + 1) 0) := Lib.hid rfl
  obtain ⟨z, hz⟩ : ∃ z, cmpD d dp e ep = z := ⟨_, rfl⟩
  rw [hz] at HZ ⊢
  obtain ⟨n, hn⟩ : ∃ n, d.length = n := ⟨_, rfl⟩
  obtain ⟨m, hm⟩ : ∃ m, e.length = m := ⟨_, rfl⟩
  have HN := Lib.hid hn
  have HM := Lib.hid hm
  rw [hn] at c1 hdl
  rw [hm] at c2 hel
  clear g1 g2 hz hn hm hd he
  go_enter Tryz.func285, Tryz.ntmps285
  by_cases hn0 : n = 0
  · subst hn0
    have hzz : z = -(m : Int) := by rw [HZ.out, if_pos (.inl HN.out), HN.out, HM.out]; omega
    subst hzz
    go_wp2_with fail
    go_quiet (fail)
    go_wp2_with fail
    go_returns
    exact ⟨rfl, _, rfl⟩
  have hn1 : ((n : Int) == 0) = false := by simp; omega
  by_cases hm0 : m = 0
  · subst hm0
    have hzz : z = (n : Int) := by rw [HZ.out, if_pos (.inr HM.out), HN.out, HM.out]; omega
    subst hzz
    go_wp2_with fail
    go_quiet (fail)
    go_wp2_with fail
    go_returns
    exact ⟨rfl, _, rfl⟩
  have hm1 : ((m : Int) == 0) = false := by simp; omega
  have hne : ¬ (d.length = 0 ∨ e.length = 0) := by rw [HN.out, HM.out]; omega
  have HNE := Lib.hid hne
  clear hne
  by_cases hpp : dp = ep
  · have hzz : z = cmpF d e (n + m + 1) 0 := by rw [HZ.out, if_neg HNE.out, if_neg (by simpa using hpp), HN.out, HM.out]
    have HZZ := Lib.hid hzz
    subst hpp
    clear hzz HZ
    go_wp2_with fail
    go_quiet (fail)
    go_wp2_with fail
    go_loopw [5] (LoopC d e z w) (fun a _ => n + m - (intOf a).toNat)
    case atStart => exact ⟨0, n + m + 1, rfl, ⟨_, rfl⟩, Nat.zero_le _, by rw [HN.out, HM.out]; omega, HZZ.out⟩
    case round =>
      obtain ⟨i, q, rfl, ⟨k, rfl⟩, hi, hq, hzq⟩ := hrel
      have HI := Lib.hid hi
      have HQ := Lib.hid hq
      have HZQ := Lib.hid hzq
      have hi2 : i ≤ n + m := by rw [HN.out, HM.out] at hi; exact hi
      clear hi hq hzq
      by_cases hend : n ≤ i ∧ m ≤ i
      · obtain ⟨he1, he2⟩ := hend
        have hz0 : z = 0 := by rw [HZQ.out, cmpF_end (by rw [HN.out]; exact he1) (by rw [HM.out]; exact he2)]
        subst hz0
        go_wp2_with fail
        go_returns
        exact ⟨rfl, _, rfl⟩
      · have hin : i < n + m := by omega
        obtain ⟨q', rfl⟩ : ∃ q', q = q' + 1 := ⟨q - 1, by have := HQ.out; rw [HN.out, HM.out] at this; omega⟩
        have HST : Hid (z = if d.getD i 0 ≠ e.getD i 0 then (d.getD i 0 : Int) - (e.getD i 0 : Int) else cmpF d e q' (i + 1)) := Lib.hid (by rw [HZQ.out, cmpF, if_neg (by rw [HN.out, HM.out]; exact hend)])
        have G1 := Lib.hid (fun k => H1.out i k)
        have G2 := Lib.hid (fun k => H2.out i k)
        obtain ⟨x, hx⟩ : ∃ x, d.getD i 0 = x := ⟨_, rfl⟩
        obtain ⟨y, hy⟩ : ∃ y, e.getD i 0 = y := ⟨_, rfl⟩
        have hx10 : x < 10 := by
          by_cases c : i < d.length
          · rw [← hx]; exact HD.out _ (getD_mem c)
          · rw [← hx, List.getD, List.getElem?_eq_none (by omega)]; decide
        have hy10 : y < 10 := by
          by_cases c : i < e.length
          · rw [← hy]; exact HE.out _ (getD_mem c)
          · rw [← hy, List.getD, List.getElem?_eq_none (by omega)]; decide
        rw [hx] at G1
        rw [hy] at G2
        rw [hx, hy] at HST
        clear hx hy
        have HNI : Hid (d.length + e.length + 1 ≤ q' + (i + 1) ∧ i + 1 ≤ d.length + e.length) := Lib.hid ⟨by have := HQ.out; omega, by rw [HN.out, HM.out]; omega⟩
        by_cases hxy : x = y
        · subst hxy
          have hz1 := HST.out
          rw [if_neg (by simp)] at hz1
          have HZ1 := Lib.hid hz1
          clear hz1
          by_cases hc : i < n
          · go_wp2_with fail
            refine (G1.out k).mono ?_
            rintro e1 w1 ⟨rfl, rfl⟩
            go_wp2_with fail
            refine (G2.out k).mono ?_
            rintro e1 w1 ⟨rfl, rfl⟩
            go_wp2_with fail
            go_roundw
            case rel => exact ⟨i + 1, q', rfl, ⟨k, rfl⟩, HNI.out.2, HNI.out.1, HZ1.out⟩
            case measure => simp [intOf]; omega
          · have hc2 : i < m := by omega
            go_wp2_with fail
            refine (G1.out k).mono ?_
            rintro e1 w1 ⟨rfl, rfl⟩
            go_wp2_with fail
            refine (G2.out k).mono ?_
            rintro e1 w1 ⟨rfl, rfl⟩
            go_wp2_with fail
            go_roundw
            case rel => exact ⟨i + 1, q', rfl, ⟨k, rfl⟩, HNI.out.2, HNI.out.1, HZ1.out⟩
            case measure => simp [intOf]; omega
        · have hxy2 : ((x : Int) == (y : Int)) = false := by simp; omega
          have hz1 := HST.out
          rw [if_pos hxy] at hz1
          subst hz1
          by_cases hc : i < n
          · go_wp2_with fail
            refine (G1.out k).mono ?_
            rintro e1 w1 ⟨rfl, rfl⟩
            go_wp2_with fail
            refine (G2.out k).mono ?_
            rintro e1 w1 ⟨rfl, rfl⟩
            go_wp2_with fail
            refine (G1.out k).mono ?_
            rintro e1 w1 ⟨rfl, rfl⟩
            go_wp2_with fail
            refine (G2.out k).mono ?_
            rintro e1 w1 ⟨rfl, rfl⟩
            go_wp2_with fail
            go_returns
            exact ⟨rfl, _, rfl⟩
          · have hc2 : i < m := by omega
            go_wp2_with fail
            refine (G1.out k).mono ?_
            rintro e1 w1 ⟨rfl, rfl⟩
            go_wp2_with fail
            refine (G2.out k).mono ?_
            rintro e1 w1 ⟨rfl, rfl⟩
            go_wp2_with fail
            refine (G1.out k).mono ?_
            rintro e1 w1 ⟨rfl, rfl⟩
            go_wp2_with fail
            refine (G2.out k).mono ?_
            rintro e1 w1 ⟨rfl, rfl⟩
            go_wp2_with fail
            go_returns
            exact ⟨rfl, _, rfl⟩
  · have hzz : z = dp - ep := by rw [HZ.out, if_neg HNE.out, if_pos hpp]
    have hpq : (dp == ep) = false := by simpa using hpp
    subst hzz
    go_wp2_with fail
    go_quiet (fail)
    go_wp2_with fail
    go_quiet (fail)
    go_wp2_with fail
    go_returns
    exact ⟨rfl, _, World.drewN_drewN _ _ _⟩
end Go.Proofs.YtgjmgneppecfgaaGreatDoor.Ma
/-
  A decimal that the call owns; THE WALK of trim.
-/
namespace Go.Proofs.YtgjmgneppecfgaaGreatDoor.Ma
open Go.RowKit Go.Proofs.YtgjmgneppecfgaaGreatDoor.Va Go.Proofs.YtgjmgneppecfgaaGreatDoor.Ba
set_option linter.unusedVariables false
set_option linter.unusedSimpArgs false

def cellsD (d : List Nat) : List Value := d.map fun x : Nat => .int .u8 (x : Int)
/-- a decimal, its row owned: blocks from base on -/
def IsDec (base b : Nat) (d : List Nat) (dp : Int) (w : World) : Prop :=
  ∃ v, w.heap[b]? = some (.cells #[v, .int .i64 dp] 267 (0, 0)) ∧ w.ownsRow base 5 1 v d.length (cellsD d) ∧ v.ownBlock ≠ some b
theorem owns_other {w w' : World} {base : Nat} {v : Value} {n : Nat} {xs : List Value} (h : w.ownsRow base 5 1 v n xs) (hb : ∀ g, v.ownBlock = some g → w'.heap[g]? = w.heap[g]?) : w'.ownsRow base 5 1 v n xs := by
  obtain ⟨h1, h2⟩ := h
  refine ⟨h1, ?_⟩
  rcases h2 with h2 | ⟨g, cap, cur, a, b, c, d⟩
  · exact .inl h2
  · subst a
    exact .inr ⟨g, cap, cur, rfl, b, (hb g rfl).trans c, d⟩
theorem owns_digs {w : World} {base : Nat} {v : Value} {d : List Nat} (h : w.ownsRow base 5 1 v d.length (cellsD d)) : ∃ (a : Option Addr) (cap : Nat), v = .slice a d.length cap ∧ d.length ≤ maxLen ∧ (d = [] ∨ ∃ g, a = some ⟨g, 0, none⟩ ∧ base ≤ g ∧ g < w.heap.size ∧ d.length ≤ cap ∧ cap ≤ maxLen ∧ ∀ i, i < d.length → w.cell? ⟨g, i, none⟩ = some (.int .u8 ((d.getD i 0 : Nat) : Int))) := by
  obtain ⟨h1, h2⟩ := h
  rcases h2 with ⟨rfl, h2⟩ | ⟨g, cap, cur, rfl, hb, hc, h3, h4, h5, h6⟩
  · exact ⟨none, 0, by rw [h2], by rw [h2]; exact Nat.zero_le _, .inl (List.eq_nil_of_length_eq_zero h2)⟩
  · refine ⟨_, cap, rfl, Nat.le_trans h3 h4, .inr ⟨g, rfl, hb, heap_lt hc, h3, h4, fun i hi => ?_⟩⟩
    refine cell_of hc i ?_
    have e : cur.toList[i]? = some (.int .u8 ((d.getD i 0 : Nat) : Int)) := by
      have : (cur.toList.take (d.length * 1))[i]? = some (.int .u8 ((d.getD i 0 : Nat) : Int)) := by
        rw [h6]
        unfold cellsD
        rw [List.getElem?_map, List.getElem?_eq_getElem hi]
        simp [List.getD, List.getElem?_eq_getElem hi]
      rwa [List.getElem?_take, if_pos (by omega)] at this
    simpa using e
theorem IsDec.dec {base b : Nat} {d : List Nat} {dp : Int} {w : World} (h : IsDec base b d dp w) : Dec w b d dp := by
  obtain ⟨v, h1, h2, _⟩ := h
  obtain ⟨a, cap, rfl, _, hd⟩ := owns_digs h2
  refine ⟨a, cap, h1, ?_⟩
  rcases hd with hd | ⟨g, e, _, hg, _, _, hc⟩
  · exact .inl hd
  · exact .inr ⟨g, e, hg, hc⟩
/-- without the zeros at its end -/
def stripZ : List Nat → List Nat
  | [] => []
  | x :: xs => if stripZ xs = [] ∧ x = 0 then [] else x :: stripZ xs
theorem stripZ_snoc (l : List Nat) : stripZ (l ++ [0]) = stripZ l := by
  induction l with
  | nil => rfl
  | cons x xs ih => rw [List.cons_append, stripZ, stripZ, ih]
theorem stripZ_end (l : List Nat) (y : Nat) (h : y ≠ 0) : stripZ (l ++ [y]) = l ++ [y] := by
  induction l with
  | nil => rw [List.nil_append, stripZ, if_neg (by simp [h]), stripZ]
  | cons x xs ih => rw [List.cons_append, stripZ, ih, if_neg (by simp)]
theorem gr_refl' (w : World) : w.grownBy w none := ⟨rfl, rfl, rfl, Nat.le_refl _, fun _ _ _ => rfl⟩
def lenV : Value → Nat
  | .slice _ n _ => n
  | _ => 0
def lenAt (w : World) (b : Nat) : Nat := lenV ((w.cell? ⟨b, 0, none⟩).getD undef)
theorem lenAt_of {w : World} {b n cap : Nat} {a : Option Addr} {dv : Value} {t : TypeId} {fz : Nat × Nat} (h : w.heap[b]? = some (.cells #[.slice a n cap, dv] t fz)) : lenAt w b = n := by
  unfold lenAt
  rw [cell_of h 0 rfl]
  rfl
theorem isDec_pop {base b : Nat} {l : List Nat} {y : Nat} {dp : Int} {w : World} (h : IsDec base b (l ++ [y]) dp w) : ∃ g cap, w.heap[b]? = some (.cells #[.slice (some ⟨g, 0, none⟩) (l.length + 1) cap, .int .i64 dp] 267 (0, 0)) ∧ l.length + 1 ≤ cap ∧ cap ≤ maxLen ∧ w.cell? ⟨g, l.length, none⟩ = some (.int .u8 (y : Int)) ∧
    ∀ W : World, W.heap = w.heap → IsDec base b l dp (W.setCell ⟨b, 0, none⟩ (.slice (some ⟨g, 0, none⟩) l.length cap)) := by
  obtain ⟨v, h1, h2, h3⟩ := h
  obtain ⟨a, cap, rfl, _, hd⟩ := owns_digs h2
  rcases hd with hd | ⟨g, rfl, hbg, hg, hcap, hmax, hc⟩
  · simp at hd
  · rw [List.length_append, List.length_singleton] at h1 h2 hcap
    refine ⟨g, cap, h1, hcap, hmax, ?_, fun W hW => ⟨.slice (some ⟨g, 0, none⟩) l.length cap, ?_, ?_, ?_⟩⟩
    · have := hc l.length (by simp)
      rw [this]
      simp [List.getD]
    · have := set_block (w := W) (b := b) (by rw [hW]; exact h1) 0 (.slice (some ⟨g, 0, none⟩) l.length cap)
      exact this
    · refine owns_other (w := w) ?_ (fun g' hg' => ?_)
      · refine ownsRow_pop (last := cellsD [y]) (by simp [cellsD]) ?_
        have e : cellsD (l ++ [y]) = cellsD l ++ cellsD [y] := by simp [cellsD]
        rw [← e]
        exact h2
      · have : g' = g := by simpa [Value.ownBlock] using hg'.symm
        subst this
        rw [set_other _ _ (by intro e; exact h3 (by simp [Value.ownBlock, e])), hW]
    · exact h3
end Go.Proofs.YtgjmgneppecfgaaGreatDoor.Ma
/-
  THE WALK of decimal.trim.
-/
namespace Go.Proofs.YtgjmgneppecfgaaGreatDoor.Ma
open Go.RowKit Go.Proofs.YtgjmgneppecfgaaGreatDoor.Va Go.Proofs.YtgjmgneppecfgaaGreatDoor.Ba
set_option linter.unusedVariables false
set_option linter.unusedSimpArgs false

def LoopT (base b : Nat) (d : List Nat) (dp : Int) (w wr : World) : Prop := ∃ d', IsDec base b d' dp wr ∧ stripZ d' = stripZ d ∧ w.grownBy wr (some b) ∧ d'.length ≤ d.length
/-- a decimal without zeros at its end; 0 has the place 0 -/
def trimP (d : List Nat) (dp : Int) : Int := if stripZ d = [] then 0 else dp
def TrimEnd (base b : Nat) (d : List Nat) (dp : Int) (w : World) (e : Ending) (w' : World) : Prop :=
  e = .returned (.pointer (some ⟨b, 0, none⟩)) ∧ IsDec base b (stripZ d) (trimP d dp) w' ∧ w.grownBy w' (some b)
theorem IsDec.setDp {base b : Nat} {d : List Nat} {dp dq : Int} {w W : World} (h : IsDec base b d dp w) (hW : W.heap = w.heap) : IsDec base b d dq (W.setCell ⟨b, 1, none⟩ (.int .i64 dq)) := by
  obtain ⟨v, h1, h2, h3⟩ := h
  refine ⟨v, ?_, ?_, h3⟩
  · have := set_block (w := W) (b := b) (by rw [hW]; exact h1) 1 (.int .i64 dq)
    exact this
  · refine owns_other h2 fun g hg => ?_
    rw [set_other _ _ (by intro e; exact h3 (by rw [hg, e])), hW]
theorem IsDec.same {base b : Nat} {d : List Nat} {dp : Int} {w W : World} (h : IsDec base b d dp w) (hW : W.heap = w.heap) : IsDec base b d dp W := by
  obtain ⟨v, h1, h2, h3⟩ := h
  exact ⟨v, by rw [hW]; exact h1, owns_other h2 fun g hg => by rw [hW], h3⟩
set_option maxHeartbeats 2000000 in
set_option maxRecDepth 100000 in
theorem trim_any (base b : Nat) (d : List Nat) (dp : Int) (hd : d.length ≤ 2147483647) (w : World) (h : IsDec base b d dp w) : Calls Tryz.prog 280 #[.pointer (some ⟨b, 0, none⟩)] w (TrimEnd base b d dp w) := by
  have H := Lib.hid h
  have HD := Lib.hid hd
  clear h hd
  go_enter Tryz.func280, Tryz.ntmps280
  go_wp2_with fail
  go_loopw [3] (fun _ wr => LoopT base b d dp w wr) (fun _ wr => lenAt wr b)
  case atStart => exact ⟨d, H.out, rfl, ⟨rfl, rfl, rfl, Nat.le_refl _, fun _ _ _ => rfl⟩, Nat.le_refl _⟩
  case round =>
    obtain ⟨d', hi, hst, hgr, hlen⟩ := hrel
    have HI := Lib.hid hi
    have HST := Lib.hid hst
    have HGR := Lib.hid hgr
    have HLN := Lib.hid hlen
    clear hi hst hgr hlen
    obtain hnil | ⟨l, y, hcon⟩ : d' = [] ∨ ∃ l y, d' = l ++ [y] := by
      rcases List.eq_nil_or_concat d' with q | ⟨l, y, q⟩
      · exact .inl q
      · exact .inr ⟨l, y, by rw [q, List.concat_eq_append]⟩
    · subst hnil
      obtain ⟨v, h1, h2, h3⟩ := HI.out
      obtain ⟨a, cap, rfl, _, _⟩ := owns_digs h2
      have c := cells2 h1
      have H1 := Lib.hid h1
      have H2 := Lib.hid h2
      have H3 := Lib.hid h3
      clear h1 h2 h3
      go_wp2_with fail
      go_quiet (fail)
      go_wp2_with fail
      have hs0 : stripZ d = [] := HST.out.symm
      refine bodyPost_ret (results_tmp rfl _ _ _) rfl ⟨rfl, ?_, gr_set (gr_drewN HGR.out _) _ _⟩
      unfold trimP
      rw [hs0, if_pos rfl]
      exact HI.out.setDp rfl
    · subst hcon
      obtain ⟨g, cap, h1, hcap, hmax, hcell, hpop⟩ := isDec_pop HI.out
      have HPOP := Lib.hid hpop
      obtain ⟨n, hn⟩ : ∃ n, l.length = n := ⟨_, rfl⟩
      have HN := Lib.hid hn
      rw [hn] at h1 hcap hcell HPOP
      have c := cells2 h1
      have H1 := Lib.hid h1
      unfold maxLen at hmax
      clear h1 hpop hn
      by_cases hy : y = 0
      · subst hy
        go_wp2_with fail
        go_quiet (fail)
        go_wp2_with fail
        go_region
        go_wp2_with fail
        have hp := HPOP.out (wr.drewN (nq + 1)) rfl
        have hs := HST.out
        rw [stripZ_snoc] at hs
        refine ⟨⟨l, hp, hs, gr_set (gr_drewN HGR.out _) _ _, by have := HLN.out; rw [List.length_append] at this; omega⟩, ?_⟩
        obtain ⟨a2, cap2, e2, _⟩ := hp.dec
        rw [lenAt_of e2, lenAt_of H1.out, HN.out]
        omega
      · have hy2 : ((y : Int) == 0) = false := by simp; omega
        go_wp2_with fail
        go_quiet (fail)
        go_wp2_with fail
        have hs1 : stripZ d = l ++ [y] := HST.out.symm.trans (stripZ_end l y hy)
        go_returns
        refine ⟨rfl, ?_, gr_drewN HGR.out _⟩
        unfold trimP
        rw [hs1, if_neg (by simp)]
        exact HI.out.same rfl
end Go.Proofs.YtgjmgneppecfgaaGreatDoor.Ma
