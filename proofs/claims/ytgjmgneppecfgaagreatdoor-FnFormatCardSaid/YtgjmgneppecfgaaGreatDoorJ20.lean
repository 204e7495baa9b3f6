/-
  FnFormat, texts FoS: lemmas for the law; the theorem stands in the last text.
-/
import Derived.Test.YtgjmgneppecfgaaGreatDoorJ19
namespace Go.Proofs.YtgjmgneppecfgaaGreatDoor.Fo
open Go.RowKit Go.Proofs.YtgjmgneppecfgaaGreatDoor.Va Go.Proofs.YtgjmgneppecfgaaGreatDoor.Ba Go.Proofs.YtgjmgneppecfgaaGreatDoor.Ma Go.Proofs.YtgjmgneppecfgaaGreatDoor.Pa
set_option linter.unusedVariables false
set_option linter.unusedSimpArgs false

/-- three bytes as a number -/
def xOf (R : List Nat) : Nat := (R.getD 0 0 * 256 + R.getD 1 0) * 256 + R.getD 2 0
/-- a sign of the four -/
def sgn (R : List Nat) (j d : Nat) : Nat := if min R.length 3 < j then 61 else lt (xOf R / d % 64)
def quad (R : List Nat) : List Nat := [sgn R 0 262144, sgn R 1 4096, sgn R 2 64, sgn R 3 1]
theorem encB_quad : ∀ R : List Nat, R ≠ [] → (∀ x ∈ R, x < 256) → encB R = quad R ++ encB (R.drop 3)
  | [], h, _ => absurd rfl h
  | [a], _, h => by
    have ha := h a (by simp)
    have e0 : sgn [a] 0 262144 = lt (a / 4) := by
      show (if min 1 3 < 0 then 61 else lt (((a * 256 + 0) * 256 + 0) / 262144 % 64)) = _
      rw [if_neg (by decide), show ((a * 256 + 0) * 256 + 0) / 262144 % 64 = a / 4 by omega]
    have e1 : sgn [a] 1 4096 = lt (a % 4 * 16) := by
      show (if min 1 3 < 1 then 61 else lt (((a * 256 + 0) * 256 + 0) / 4096 % 64)) = _
      rw [if_neg (by decide), show ((a * 256 + 0) * 256 + 0) / 4096 % 64 = a % 4 * 16 by omega]
    have e2 : sgn [a] 2 64 = 61 := rfl
    have e3 : sgn [a] 3 1 = 61 := rfl
    unfold quad
    rw [e0, e1, e2, e3]
    rfl
  | [a, b], _, h => by
    have ha := h a (by simp)
    have hb := h b (by simp)
    have e0 : sgn [a, b] 0 262144 = lt (a / 4) := by
      show (if min 2 3 < 0 then 61 else lt (((a * 256 + b) * 256 + 0) / 262144 % 64)) = _
      rw [if_neg (by decide), show ((a * 256 + b) * 256 + 0) / 262144 % 64 = a / 4 by omega]
    have e1 : sgn [a, b] 1 4096 = lt (a % 4 * 16 + b / 16) := by
      show (if min 2 3 < 1 then 61 else lt (((a * 256 + b) * 256 + 0) / 4096 % 64)) = _
      rw [if_neg (by decide), show ((a * 256 + b) * 256 + 0) / 4096 % 64 = a % 4 * 16 + b / 16 by omega]
    have e2 : sgn [a, b] 2 64 = lt (b % 16 * 4) := by
      show (if min 2 3 < 2 then 61 else lt (((a * 256 + b) * 256 + 0) / 64 % 64)) = _
      rw [if_neg (by decide), show ((a * 256 + b) * 256 + 0) / 64 % 64 = b % 16 * 4 by omega]
    have e3 : sgn [a, b] 3 1 = 61 := rfl
    unfold quad
    rw [e0, e1, e2, e3]
    rfl
  | a :: b :: c :: r, _, h => by
    have ha := h a (by simp)
    have hb := h b (by simp)
    have hc := h c (by simp)
    have hm : min (a :: b :: c :: r).length 3 = 3 := by simp only [List.length_cons]; omega
    have hx : xOf (a :: b :: c :: r) = (a * 256 + b) * 256 + c := rfl
    have e0 : sgn (a :: b :: c :: r) 0 262144 = lt (a / 4) := by
      unfold sgn
      rw [hm, if_neg (by decide), hx, show ((a * 256 + b) * 256 + c) / 262144 % 64 = a / 4 by omega]
    have e1 : sgn (a :: b :: c :: r) 1 4096 = lt (a % 4 * 16 + b / 16) := by
      unfold sgn
      rw [hm, if_neg (by decide), hx, show ((a * 256 + b) * 256 + c) / 4096 % 64 = a % 4 * 16 + b / 16 by omega]
    have e2 : sgn (a :: b :: c :: r) 2 64 = lt (b % 16 * 4 + c / 64) := by
      unfold sgn
      rw [hm, if_neg (by decide), hx, show ((a * 256 + b) * 256 + c) / 64 % 64 = b % 16 * 4 + c / 64 by omega]
    have e3 : sgn (a :: b :: c :: r) 3 1 = lt (c % 64) := by
      unfold sgn
      rw [hm, if_neg (by decide), hx, show ((a * 256 + b) * 256 + c) / 1 % 64 = c % 64 by omega]
    unfold quad
    rw [e0, e1, e2, e3, encB_cons]
    rfl
def letS : ByteArray := ⟨#[65, 66, 67, 68, 69, 70, 71, 72, 73, 74, 75, 76, 77, 78, 79, 80, 81, 82, 83, 84, 85, 86, 87, 88, 89, 90, 97, 98, 99, 100, 101, 102, 103, 104, 105, 106, 107, 108, 109, 110, 111, 112, 113, 114, 115, 116, 117, 118, 119, 120, 121, 122, 48, 49, 50, 51, 52, 53, 54, 55, 56, 57, 43, 47]⟩
theorem let_all : ∀ q : Fin 64, bytesN (letS.extract q (q + 1)) = [lt q] := by decide +kernel
theorem let_at (q : Nat) (h : q < 64) : bytesN (letS.extract q (q + 1)) = [lt q] := let_all ⟨q, h⟩
theorem and63i (n : Int) : bits .and .i64 n 63 = n % 64 := by
  have h127 : (BitVec.ofInt 64 63).toNat = 2 ^ 6 - 1 := by decide
  have key : (BitVec.ofInt 64 n &&& BitVec.ofInt 64 63).toNat = (n % ((2 ^ 64 : Nat) : Int)).toNat % 2 ^ 6 := by
    rw [BitVec.toNat_and, BitVec.toNat_ofInt, h127, Nat.and_two_pow_sub_one_eq_mod]
  show IntKind.i64.wrap ((BitVec.ofInt 64 n &&& BitVec.ofInt 64 63).toNat : Nat) = n % 64
  rw [key, IntKind.wrap_i64]
  omega
/-- the number of the first bytes -/
def pX (R : List Nat) : Nat → Nat
  | 0 => 0
  | j + 1 => pX R j * 256 + R.getD j 0
theorem pX_le (R : List Nat) (h : ∀ x ∈ R, x < 256) : pX R 0 = 0 ∧ pX R 1 < 256 ∧ pX R 2 < 65536 ∧ pX R 3 < 16777216 := by
  have g : ∀ i, R.getD i 0 < 256 := fun i => by
    rw [List.getD]
    cases e : R[i]? with
    | none => simp
    | some y => exact h y (List.mem_of_getElem? e)
  have g0 := g 0
  have g1 := g 1
  have g2 := g 2
  refine ⟨rfl, ?_, ?_, ?_⟩
  · show 0 * 256 + R.getD 0 0 < 256; omega
  · show (0 * 256 + R.getD 0 0) * 256 + R.getD 1 0 < 65536; omega
  · show ((0 * 256 + R.getD 0 0) * 256 + R.getD 1 0) * 256 + R.getD 2 0 < 16777216; omega
theorem pX_3 (R : List Nat) : pX R 3 = xOf R := by simp only [pX, xOf]; omega
theorem sgn_lt (R : List Nat) (j d : Nat) : sgn R j d < 128 := by
  unfold sgn
  split
  · decide
  · exact lt_lt _ (Nat.mod_lt _ (by decide))
theorem quad_lt (R : List Nat) : ∀ x ∈ quad R, x < 256 := by
  intro x hx
  unfold quad at hx
  simp only [List.mem_cons, List.not_mem_nil, or_false] at hx
  rcases hx with rfl | rfl | rfl | rfl
  · have := sgn_lt R 0 262144; omega
  · have := sgn_lt R 1 4096; omega
  · have := sgn_lt R 2 64; omega
  · have := sgn_lt R 3 1; omega
def strLen : Value → Nat
  | .string t => t.size
  | _ => 0
def PackEnd (s : ByteArray) (w : World) (e : Ending) (w' : World) : Prop := e = .returned (.string (numS (encB (bytesN s)))) ∧ w = w'
def LoopPo (L : List Nat) (w : World) (sv ov : Value) (wr : World) : Prop :=
  ∃ R D : List Nat, encB L = D ++ encB R ∧ sv = .string (numS R) ∧ ov = .string (numS D) ∧ (∀ x ∈ R, x < 256) ∧ (∀ x ∈ D, x < 256) ∧ D.length + (R.length + 2) / 3 * 4 ≤ 2 * L.length + 4 ∧ w = wr
def LoopPx (R : List Nat) (w : World) (xv iv : Value) (wr : World) : Prop :=
  ∃ j : Nat, xv = .int .i64 (pX R j : Int) ∧ iv = .int .i64 (j : Int) ∧ j ≤ 3 ∧ w = wr
def LoopPy (R D : List Nat) (w : World) (ov iv : Value) (wr : World) : Prop :=
  ∃ j : Nat, ov = .string (numS (D ++ (quad R).take j)) ∧ iv = .int .i64 (j : Int) ∧ j ≤ 4 ∧ w = wr
set_option maxHeartbeats 4000000 in
set_option maxRecDepth 100000 in
theorem packed_any (s : ByteArray) (hs : s.size ≤ 1073741824) (w : World) : Calls Tryz.prog 118 #[.string s] w (PackEnd s w) := by
  obtain ⟨L, hL⟩ : ∃ L, bytesN s = L := ⟨_, rfl⟩
  have hLl : L.length ≤ 1073741824 := by rw [← hL, bytesN_len]; exact hs
  have hL2 : ∀ x ∈ L, x < 256 := by rw [← hL]; exact bytesN_lt s
  have hsL : s = numS L := by rw [← hL, numS_bytesN]
  subst hsL
  have HLB := Lib.hid hL
  have HL2 := Lib.hid hL2
  clear hL hs hL2
  go_enter Tryz.func118, Tryz.ntmps118
  go_wp2_with fail
  go_loopw [0, 3] (LoopPo L w) (fun sv _ _ => strLen sv)
  case atStart => exact ⟨L, [], rfl, rfl, rfl, HL2.out, by simp, by simp; omega, rfl⟩
  case round =>
    obtain ⟨R, D, henc, rfl, rfl, hR, hD, hDl, rfl⟩ := hrel
    have HENC := Lib.hid henc
    have HR := Lib.hid hR
    have HD := Lib.hid hD
    obtain ⟨t, ht⟩ : ∃ t, numS R = t := ⟨_, rfl⟩
    obtain ⟨m, hm⟩ : ∃ m, R.length = m := ⟨_, rfl⟩
    have hts : t.size = m := by rw [← ht, numS_size, hm]
    have htb : bytesN t = R := by rw [← ht, bytesN_numS' R hR]
    rw [ht]
    have HT := Lib.hid ht
    have HTB := Lib.hid htb
    rw [hm] at hDl
    have HM := Lib.hid hm
    clear henc hR hD ht htb hm
    by_cases h0 : 0 < m
    · obtain ⟨n, hn⟩ : ∃ n, min m 3 = n := ⟨_, rfl⟩
      go_wp2_with fail
      go_loopw [5, 6] (LoopPx R w) (fun _ iv _ => 3 - (intOf iv).toNat)
      case atStart => exact ⟨0, rfl, rfl, by omega, rfl⟩
      case round =>
        obtain ⟨j, rfl, rfl, hj, rfl⟩ := hrel
        obtain ⟨p0, p1, p2, p3⟩ := pX_le R HR.out
        by_cases hj3 : j < 3
        · obtain ⟨X, hX⟩ : ∃ X, pX R j = X := ⟨_, rfl⟩
          have hXl : X ≤ 65535 := by
            rcases (show j = 0 ∨ j = 1 ∨ j = 2 by omega) with rfl | rfl | rfl <;> omega
          rw [hX]
          by_cases hjn : j < n
          · have hjt : j < t.size := by omega
            obtain ⟨y, hy⟩ : ∃ y, R.getD j 0 = y := ⟨_, rfl⟩
            have hby : (t[j]'hjt).toNat = y := by rw [Ba.byte_at t j hjt, HTB.out]; exact hy
            have hy256 : y < 256 := by rw [← hby]; exact (t[j]'hjt).toNat_lt
            have HNX : Hid (pX R (j + 1) = X * 256 + y) := Lib.hid (by rw [pX, hX, hy])
            clear hX hy
            go_wp2_with fail
            try go_simp
            exact ⟨⟨j + 1, by rw [HNX.out]; push_cast; rfl, by push_cast; rfl, by omega, rfl⟩, by simp [intOf] <;> omega⟩
          · have HNX : Hid (pX R (j + 1) = X * 256) := Lib.hid (by rw [pX, hX, List.getD, List.getElem?_eq_none (by rw [HM.out]; omega)]; rfl)
            clear hX
            go_wp2_with fail
            try go_simp
            exact ⟨⟨j + 1, by rw [HNX.out]; push_cast; rfl, by push_cast; rfl, by omega, rfl⟩, by simp [intOf] <;> omega⟩
        · obtain rfl : j = 3 := by omega
          rw [pX_3] at p3 ⊢
          obtain ⟨X, hX⟩ : ∃ X, xOf R = X := ⟨_, rfl⟩
          rw [hX] at p3 ⊢
          go_wp2_with fail
          go_loopw [3, 7] (LoopPy R D w) (fun _ iv _ => 4 - (intOf iv).toNat)
          case atStart => exact ⟨0, by rw [List.take_zero, List.append_nil], rfl, by omega, rfl⟩
          case round =>
            obtain ⟨k, rfl, rfl, hk, rfl⟩ := hrel
            by_cases hk4 : k < 4
            · rcases (show k = 0 ∨ k = 1 ∨ k = 2 ∨ k = 3 by omega) with rfl | rfl | rfl | rfl
              · (obtain ⟨Q, hQ⟩ : ∃ Q, sgn R 0 262144 = Q := ⟨_, rfl⟩
                 have hQl : Q < 128 := by rw [← hQ]; exact sgn_lt R 0 262144
                 have HNX : Hid (∀ u, u = numS [Q] → numS (D ++ (quad R).take 0) ++ u = numS (D ++ (quad R).take (0 + 1))) := Lib.hid (by
                   rintro u rfl
                   have e : (quad R).take (0 + 1) = (quad R).take 0 ++ [Q] := by rw [← hQ]; rfl
                   rw [e, ← List.append_assoc]
                   exact numS_app _ _ (fun y hy => by
                     rcases List.mem_append.1 hy with hy | hy
                     · exact HD.out y hy
                     · exact quad_lt R y (List.mem_of_mem_take hy)) (fun y hy => by simp at hy; omega))
                 have hol : (numS (D ++ (quad R).take 0)).size ≤ 2147483656 := by
                   rw [numS_size, List.length_append, List.length_take]
                   have : min 0 (quad R).length ≤ 4 := Nat.min_le_right _ _
                   omega
                 obtain ⟨o, ho⟩ : ∃ o, numS (D ++ (quad R).take 0) = o := ⟨_, rfl⟩
                 rw [ho] at HNX hol ⊢
                 clear ho
                 by_cases hnk : n < 0
                 · have hQ61 : Q = 61 := by rw [← hQ]; unfold sgn; rw [HM.out, hn]; exact if_pos hnk
                   have a1 : o.size + (⟨#[61]⟩ : ByteArray).size ≤ 140737488355328 := by show _ + 1 ≤ _; omega
                   go_wp2_with fail
                   all_goals try go_simp
                   all_goals exact ⟨⟨0 + 1, congrArg Value.string (HNX.out _ (by rw [hQ61]; rfl)), by push_cast; rfl, by omega, rfl⟩, by simp [intOf] <;> omega⟩
                 · obtain ⟨q, hq⟩ : ∃ q, X / 262144 % 64 = q := ⟨_, rfl⟩
                   have hq64 : q < 64 := by omega
                   have hQq : Q = lt q := by rw [← hQ, ← hq, ← hX]; unfold sgn; rw [HM.out, hn]; exact if_neg hnk
                   have s1 : bits .and .i64 ((X : Int) / 262144) 63 = (q : Int) := by rw [and63i]; omega
                   have s2 : (262144 : Nat) = 1 → bits .and .i64 (X : Int) 63 = (q : Int) := fun h => by rw [and63i]; omega
                   obtain ⟨x2, hx2⟩ : ∃ x2, letS.extract q (q + 1) = x2 := ⟨_, rfl⟩
                   have b2 : bytesN x2 = [lt q] := by rw [← hx2]; exact let_at q hq64
                   have z2 : x2.size = 1 := by rw [← bytesN_len, b2]; rfl
                   have HX2 : Hid (x2 = numS [Q]) := Lib.hid (bytes_inj (by rw [b2, hQq, bytesN_numS' _ (fun y hy => by have := lt_lt q hq64; simp at hy; omega)]))
                   have a2 : o.size + x2.size ≤ 140737488355328 := by omega
                   have g1 : (0 : Int) ≤ (q : Int) := by omega
                   have g2 : (q : Int) ≤ (q : Int) + 1 := by omega
                   have g3 : (q : Int) + 1 ≤ 64 := by omega
                   have g7 : ((q : Int) + 1).toNat = q + 1 := by omega
                   unfold letS at hx2
                   clear b2 z2 hQ
                   go_wp2_with fail
                   try go_simp
                   exact ⟨⟨0 + 1, congrArg Value.string (HNX.out _ HX2.out), by push_cast; rfl, by omega, rfl⟩, by simp [intOf] <;> omega⟩)
              · (obtain ⟨Q, hQ⟩ : ∃ Q, sgn R 1 4096 = Q := ⟨_, rfl⟩
                 have hQl : Q < 128 := by rw [← hQ]; exact sgn_lt R 1 4096
                 have HNX : Hid (∀ u, u = numS [Q] → numS (D ++ (quad R).take 1) ++ u = numS (D ++ (quad R).take (1 + 1))) := Lib.hid (by
                   rintro u rfl
                   have e : (quad R).take (1 + 1) = (quad R).take 1 ++ [Q] := by rw [← hQ]; rfl
                   rw [e, ← List.append_assoc]
                   exact numS_app _ _ (fun y hy => by
                     rcases List.mem_append.1 hy with hy | hy
                     · exact HD.out y hy
                     · exact quad_lt R y (List.mem_of_mem_take hy)) (fun y hy => by simp at hy; omega))
                 have hol : (numS (D ++ (quad R).take 1)).size ≤ 2147483656 := by
                   rw [numS_size, List.length_append, List.length_take]
                   have : min 1 (quad R).length ≤ 4 := Nat.min_le_right _ _
                   omega
                 obtain ⟨o, ho⟩ : ∃ o, numS (D ++ (quad R).take 1) = o := ⟨_, rfl⟩
                 rw [ho] at HNX hol ⊢
                 clear ho
                 by_cases hnk : n < 1
                 · have hQ61 : Q = 61 := by rw [← hQ]; unfold sgn; rw [HM.out, hn]; exact if_pos hnk
                   have a1 : o.size + (⟨#[61]⟩ : ByteArray).size ≤ 140737488355328 := by show _ + 1 ≤ _; omega
                   go_wp2_with fail
                   all_goals try go_simp
                   all_goals exact ⟨⟨1 + 1, congrArg Value.string (HNX.out _ (by rw [hQ61]; rfl)), by push_cast; rfl, by omega, rfl⟩, by simp [intOf] <;> omega⟩
                 · obtain ⟨q, hq⟩ : ∃ q, X / 4096 % 64 = q := ⟨_, rfl⟩
                   have hq64 : q < 64 := by omega
                   have hQq : Q = lt q := by rw [← hQ, ← hq, ← hX]; unfold sgn; rw [HM.out, hn]; exact if_neg hnk
                   have s1 : bits .and .i64 ((X : Int) / 4096) 63 = (q : Int) := by rw [and63i]; omega
                   have s2 : (4096 : Nat) = 1 → bits .and .i64 (X : Int) 63 = (q : Int) := fun h => by rw [and63i]; omega
                   obtain ⟨x2, hx2⟩ : ∃ x2, letS.extract q (q + 1) = x2 := ⟨_, rfl⟩
                   have b2 : bytesN x2 = [lt q] := by rw [← hx2]; exact let_at q hq64
                   have z2 : x2.size = 1 := by rw [← bytesN_len, b2]; rfl
                   have HX2 : Hid (x2 = numS [Q]) := Lib.hid (bytes_inj (by rw [b2, hQq, bytesN_numS' _ (fun y hy => by have := lt_lt q hq64; simp at hy; omega)]))
                   have a2 : o.size + x2.size ≤ 140737488355328 := by omega
                   have g1 : (0 : Int) ≤ (q : Int) := by omega
                   have g2 : (q : Int) ≤ (q : Int) + 1 := by omega
                   have g3 : (q : Int) + 1 ≤ 64 := by omega
                   have g7 : ((q : Int) + 1).toNat = q + 1 := by omega
                   unfold letS at hx2
                   clear b2 z2 hQ
                   go_wp2_with fail
                   try go_simp
                   exact ⟨⟨1 + 1, congrArg Value.string (HNX.out _ HX2.out), by push_cast; rfl, by omega, rfl⟩, by simp [intOf] <;> omega⟩)
              · (obtain ⟨Q, hQ⟩ : ∃ Q, sgn R 2 64 = Q := ⟨_, rfl⟩
                 have hQl : Q < 128 := by rw [← hQ]; exact sgn_lt R 2 64
                 have HNX : Hid (∀ u, u = numS [Q] → numS (D ++ (quad R).take 2) ++ u = numS (D ++ (quad R).take (2 + 1))) := Lib.hid (by
                   rintro u rfl
                   have e : (quad R).take (2 + 1) = (quad R).take 2 ++ [Q] := by rw [← hQ]; rfl
                   rw [e, ← List.append_assoc]
                   exact numS_app _ _ (fun y hy => by
                     rcases List.mem_append.1 hy with hy | hy
                     · exact HD.out y hy
                     · exact quad_lt R y (List.mem_of_mem_take hy)) (fun y hy => by simp at hy; omega))
                 have hol : (numS (D ++ (quad R).take 2)).size ≤ 2147483656 := by
                   rw [numS_size, List.length_append, List.length_take]
                   have : min 2 (quad R).length ≤ 4 := Nat.min_le_right _ _
                   omega
                 obtain ⟨o, ho⟩ : ∃ o, numS (D ++ (quad R).take 2) = o := ⟨_, rfl⟩
                 rw [ho] at HNX hol ⊢
                 clear ho
                 by_cases hnk : n < 2
                 · have hQ61 : Q = 61 := by rw [← hQ]; unfold sgn; rw [HM.out, hn]; exact if_pos hnk
                   have a1 : o.size + (⟨#[61]⟩ : ByteArray).size ≤ 140737488355328 := by show _ + 1 ≤ _; omega
                   go_wp2_with fail
                   all_goals try go_simp
                   all_goals exact ⟨⟨2 + 1, congrArg Value.string (HNX.out _ (by rw [hQ61]; rfl)), by push_cast; rfl, by omega, rfl⟩, by simp [intOf] <;> omega⟩
                 · obtain ⟨q, hq⟩ : ∃ q, X / 64 % 64 = q := ⟨_, rfl⟩
                   have hq64 : q < 64 := by omega
                   have hQq : Q = lt q := by rw [← hQ, ← hq, ← hX]; unfold sgn; rw [HM.out, hn]; exact if_neg hnk
                   have s1 : bits .and .i64 ((X : Int) / 64) 63 = (q : Int) := by rw [and63i]; omega
                   have s2 : (64 : Nat) = 1 → bits .and .i64 (X : Int) 63 = (q : Int) := fun h => by rw [and63i]; omega
                   obtain ⟨x2, hx2⟩ : ∃ x2, letS.extract q (q + 1) = x2 := ⟨_, rfl⟩
                   have b2 : bytesN x2 = [lt q] := by rw [← hx2]; exact let_at q hq64
                   have z2 : x2.size = 1 := by rw [← bytesN_len, b2]; rfl
                   have HX2 : Hid (x2 = numS [Q]) := Lib.hid (bytes_inj (by rw [b2, hQq, bytesN_numS' _ (fun y hy => by have := lt_lt q hq64; simp at hy; omega)]))
                   have a2 : o.size + x2.size ≤ 140737488355328 := by omega
                   have g1 : (0 : Int) ≤ (q : Int) := by omega
                   have g2 : (q : Int) ≤ (q : Int) + 1 := by omega
                   have g3 : (q : Int) + 1 ≤ 64 := by omega
                   have g7 : ((q : Int) + 1).toNat = q + 1 := by omega
                   unfold letS at hx2
                   clear b2 z2 hQ
                   go_wp2_with fail
                   try go_simp
                   exact ⟨⟨2 + 1, congrArg Value.string (HNX.out _ HX2.out), by push_cast; rfl, by omega, rfl⟩, by simp [intOf] <;> omega⟩)
              · (obtain ⟨Q, hQ⟩ : ∃ Q, sgn R 3 1 = Q := ⟨_, rfl⟩
                 have hQl : Q < 128 := by rw [← hQ]; exact sgn_lt R 3 1
                 have HNX : Hid (∀ u, u = numS [Q] → numS (D ++ (quad R).take 3) ++ u = numS (D ++ (quad R).take (3 + 1))) := Lib.hid (by
                   rintro u rfl
                   have e : (quad R).take (3 + 1) = (quad R).take 3 ++ [Q] := by rw [← hQ]; rfl
                   rw [e, ← List.append_assoc]
                   exact numS_app _ _ (fun y hy => by
                     rcases List.mem_append.1 hy with hy | hy
                     · exact HD.out y hy
                     · exact quad_lt R y (List.mem_of_mem_take hy)) (fun y hy => by simp at hy; omega))
                 have hol : (numS (D ++ (quad R).take 3)).size ≤ 2147483656 := by
                   rw [numS_size, List.length_append, List.length_take]
                   have : min 3 (quad R).length ≤ 4 := Nat.min_le_right _ _
                   omega
                 obtain ⟨o, ho⟩ : ∃ o, numS (D ++ (quad R).take 3) = o := ⟨_, rfl⟩
                 rw [ho] at HNX hol ⊢
                 clear ho
                 by_cases hnk : n < 3
                 · have hQ61 : Q = 61 := by rw [← hQ]; unfold sgn; rw [HM.out, hn]; exact if_pos hnk
                   have a1 : o.size + (⟨#[61]⟩ : ByteArray).size ≤ 140737488355328 := by show _ + 1 ≤ _; omega
                   go_wp2_with fail
                   all_goals try go_simp
                   all_goals exact ⟨⟨3 + 1, congrArg Value.string (HNX.out _ (by rw [hQ61]; rfl)), by push_cast; rfl, by omega, rfl⟩, by simp [intOf] <;> omega⟩
                 · obtain ⟨q, hq⟩ : ∃ q, X / 1 % 64 = q := ⟨_, rfl⟩
                   have hq64 : q < 64 := by omega
                   have hQq : Q = lt q := by rw [← hQ, ← hq, ← hX]; unfold sgn; rw [HM.out, hn]; exact if_neg hnk
                   have s1 : bits .and .i64 ((X : Int) / 1) 63 = (q : Int) := by rw [and63i]; omega
                   have s2 : (1 : Nat) = 1 → bits .and .i64 (X : Int) 63 = (q : Int) := fun h => by rw [and63i]; omega
                   obtain ⟨x2, hx2⟩ : ∃ x2, letS.extract q (q + 1) = x2 := ⟨_, rfl⟩
                   have b2 : bytesN x2 = [lt q] := by rw [← hx2]; exact let_at q hq64
                   have z2 : x2.size = 1 := by rw [← bytesN_len, b2]; rfl
                   have HX2 : Hid (x2 = numS [Q]) := Lib.hid (bytes_inj (by rw [b2, hQq, bytesN_numS' _ (fun y hy => by have := lt_lt q hq64; simp at hy; omega)]))
                   have a2 : o.size + x2.size ≤ 140737488355328 := by omega
                   have g1 : (0 : Int) ≤ (q : Int) := by omega
                   have g2 : (q : Int) ≤ (q : Int) + 1 := by omega
                   have g3 : (q : Int) + 1 ≤ 64 := by omega
                   have g7 : ((q : Int) + 1).toNat = q + 1 := by omega
                   unfold letS at hx2
                   clear b2 z2 hQ
                   go_wp2_with fail
                   try go_simp
                   exact ⟨⟨3 + 1, congrArg Value.string (HNX.out _ HX2.out), by push_cast; rfl, by omega, rfl⟩, by simp [intOf] <;> omega⟩)
            · obtain rfl : k = 4 := by omega
              have htk : (quad R).take 4 = quad R := rfl
              rw [htk]
              obtain ⟨t2, ht2⟩ : ∃ t2, t.extract n t.size = t2 := ⟨_, rfl⟩
              have hb2 : bytesN t2 = R.drop 3 := by
                rw [← ht2, Mb.bytesN_extract2, HTB.out, hts, ← HM.out, List.take_length]
                by_cases h3 : m ≤ 3
                · rw [List.drop_of_length_le (by have := HM.out; omega), List.drop_of_length_le (by have := HM.out; omega)]
                · rw [show n = 3 by omega]
              have HT2 : Hid (t2 = numS (R.drop 3)) := Lib.hid (bytes_inj (by rw [hb2, bytesN_numS' _ (fun y hy => HR.out y (List.mem_of_mem_drop hy))]))
              have hlt2 : t2.size < t.size := by
                have := congrArg List.length hb2
                rw [bytesN_len, List.length_drop, HM.out] at this
                omega
              have HLT := Lib.hid hlt2
              have g8 : (min (m : Int) 3).toNat = n := by omega
              clear hb2 hlt2
              rw [hts] at ht2
              go_wp2_with fail
              try go_simp
              refine ⟨⟨R.drop 3, D ++ quad R, ?_, congrArg Value.string HT2.out, rfl, fun x hx => HR.out x (List.mem_of_mem_drop hx), ?_, ?_, rfl⟩, by simp [strLen]; have := HLT.out; omega⟩
              · rw [HENC.out, encB_quad R (fun e => by have := HM.out; rw [e] at this; simp at this; omega) HR.out, List.append_assoc]
              · intro x hx
                rcases List.mem_append.1 hx with hx | hx
                · exact HD.out x hx
                · exact quad_lt R x hx
              · rw [List.length_drop, HM.out, List.length_append]; show D.length + 4 + _ ≤ _; omega
    · have hR0 : R = [] := List.length_eq_zero_iff.1 (by have := HM.out; omega)
      go_wp2_with fail
      go_returns
      refine ⟨?_, rfl⟩
      rw [HLB.out, HENC.out, hR0]
      exact congrArg (fun x => Ending.returned (.string (numS x))) (List.append_nil D).symm
end Go.Proofs.YtgjmgneppecfgaaGreatDoor.Fo
