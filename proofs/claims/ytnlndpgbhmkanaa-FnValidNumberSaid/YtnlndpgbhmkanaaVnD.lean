/-
  THE WALKS of the law's own helpers: digitsEnd, among, jsonNumber.
-/
import Derived.Test.YtnlndpgbhmkanaaVnA
import Derived.Test.YtnlndpgbhmkanaaVnQ
import Derived.Deep.DeepCutAuto
namespace Go.Proofs.Ytnlndpgbhmkanaa.Vn
open Go.RowKit

/-- an int, of which something is said, is returned; the world is as it was -/
def RetNat (P : Nat → Prop) (w : World) (e : Ending) (w' : World) : Prop := ∃ n : Nat, e = .returned (.int .i64 n) ∧ P n ∧ w = w'
def RetBool (P : Bool → Prop) (w : World) (e : Ending) (w' : World) : Prop := ∃ r : Bool, e = .returned (.bool r) ∧ P r ∧ w = w'
theorem retNat {P : Nat → Prop} {w : World} (n : Nat) (h : P n) : RetNat P w (.returned (.int .i64 n)) w := ⟨n, rfl, h, rfl⟩
theorem retBool {P : Bool → Prop} {w : World} (r : Bool) (h : P r) : RetBool P w (.returned (.bool r)) w := ⟨r, rfl, h, rfl⟩
def Any (_ : Bool) : Prop := True

set_option maxHeartbeats 1000000 in
theorem digitsEnd_any (s : ByteArray) (i : Int) (k : Nat) (hik : i = k) (hi : k ≤ s.size) (hs : s.size ≤ 2147483647) (w : World) :
    Calls Try.prog 13 #[.string s, .int .i64 i] w (RetNat (Digs s k) w) := by
  subst hik
  go_enter Try.func13, Try.ntmps13
  go_wp2
  go_loop [1] (fun j => ∃ n : Nat, j = .int .i64 n ∧ Digs s k n) (fun j => s.size - (intOf j).toNat)
  case atStart => exact ⟨k, rfl, Digs.refl s k hi⟩
  case round =>
    obtain ⟨n, rfl, hd⟩ := hrel
    have hn2 := hd.2.1
    by_cases hlt : n < s.size
    · by_cases h1 : 48 ≤ (s[n].toNat : Int) <;> by_cases h2 : (s[n].toNat : Int) ≤ 57
      · go_wp2
        go_round
        case rel => exact ⟨n + 1, by go_num, hd.snoc hlt (by unfold isNum cI; rw [decide_eq_true h1, decide_eq_true h2]; rfl)⟩
        case measure => simp [intOf]; omega
      all_goals
        go_wp2
        go_ret
        exact retNat n hd
    · go_wp2
      go_ret
      exact retNat n hd

set_option maxHeartbeats 1000000 in
theorem among_any (s : ByteArray) (c : Int) (hs : s.size ≤ 2147483647) (w : World) :
    Calls Try.prog 6 #[.string s, .int .u8 c] w (RetBool Any w) := by
  go_enter Try.func6, Try.ntmps6
  go_wp2
  go_loop [5] (fun j => ∃ n : Nat, j = .int .i64 n ∧ n ≤ s.size) (fun j => s.size - (intOf j).toNat)
  case atStart => exact ⟨0, rfl, Nat.zero_le _⟩
  case round =>
    obtain ⟨n, rfl, hd⟩ := hrel
    by_cases hlt : n < s.size
    · by_cases he : ((s[n].toNat : Int) == c) = true
      · go_wp2
        go_ret
        exact retBool _ trivial
      · have he' : ((s[n].toNat : Int) == c) = false := by simpa using he
        clear he
        go_wp2
        go_round
        case rel => exact ⟨n + 1, by go_num, by omega⟩
        case measure => simp [intOf]; omega
    · go_wp2
      go_ret
      exact retBool _ trivial

def JnOk (s : ByteArray) (r : Bool) : Prop := r = true → vn s.data.toList = true
/-- at a cut: a slot holds a number, a Bool, of which something is said; the world is as it was -/
def CN (P : Nat → Prop) (w : World) (v : Value) (wx : World) : Prop := ∃ n : Nat, v = .int .i64 n ∧ P n ∧ w = wx
def CB (P : Bool → Prop) (w : World) (v : Value) (wx : World) : Prop := ∃ x : Bool, v = .bool x ∧ P x ∧ w = wx
theorem cN {P : Nat → Prop} {w : World} (n : Nat) (h : P n) : CN P w (.int .i64 n) w := ⟨n, rfl, h, rfl⟩
theorem cB {P : Bool → Prop} {w : World} (x : Bool) (h : P x) : CB P w (.bool x) w := ⟨x, rfl, h, rfl⟩
def P1 (s : ByteArray) (x : Bool) : Prop := if x then R1 s 1 else R1 s 0
def P6 (k n : Nat) (x : Bool) : Prop := x = false → k < n
def P8 (s : ByteArray) (n : Nat) (x : Bool) : Prop := x = true → ∃ h : n < s.size, (cI s[n] == 46) = true
def P13 (s : ByteArray) (n : Nat) (x : Bool) : Prop := x = true → ∃ h : n < s.size, isE (cI s[n]) = true
def P15 (s : ByteArray) (n : Nat) (x : Bool) : Prop := if x then R3 s (n + 1) else R3 s n

theorem or_e : ∀ c : Fin 256, bits BinOp.or IntKind.u8 (c.val : Int) 32 = 101 → isE (c.val : Int) = true := by decide +kernel
theorem or_isE (c : UInt8) (h : (bits BinOp.or IntKind.u8 (c.toNat : Int) 32 == 101) = true) : isE (cI c) = true :=
  or_e ⟨c.toNat, c.toNat_lt⟩ (by simpa using h)

set_option maxHeartbeats 4000000 in
set_option maxRecDepth 100000 in
theorem jsonNumber_any (s : ByteArray) (hs : s.size ≤ 2147483647) (w : World) :
    Calls Try.prog 7 #[.string s] w (RetBool (JnOk s) w) := by
  go_enter Try.func7, Try.ntmps7
  go_upto_region 2 with fail
  go_cut [16] (CB (P1 s) w)
  case first =>
    by_cases h0 : 0 < s.size
    · by_cases h45 : ((s[0].toNat : Int) == 45) = true
      · go_wp2_with fail
        go_meet
        exact cB true (R1_minus s h0 _ rfl h45)
      · have h45' : ((s[0].toNat : Int) == 45) = false := by simpa using h45
        clear h45
        go_wp2_with fail
        go_meet
        exact cB false (R1_plain s h0 _ rfl h45')
    · go_wp2_with fail
      go_meet
      exact cB false (R1_none s (by omega))
  case rest =>
    obtain ⟨x, rfl, hT, rfl⟩ := hcut
    go_upto_if 16 with fail
    go_cut [3] (CN (R1 s) w)
    case first =>
      cases x
      · go_wp2_with fail
        go_meet
        exact cN 0 hT
      · go_wp2_with fail
        go_meet
        exact cN 1 hT
    case rest =>
      obtain ⟨k, rfl, hR1, rfl⟩ := hcut
      have hk := hR1.1
      clear hT
      go_upto_region 6 with (go_at_call 13; refine (digitsEnd_any s _ k rfl hk hs _).mono ?_; rintro e w' ⟨n, rfl, hd, rfl⟩)
      have hn := hd.2.1
      have hkn := hd.1
      go_cut [37] (CB (P6 k n) w)
      case first =>
        by_cases e : n = k
        · have e' : ((n : Int) == (k : Int)) = true := by simp [e]
          have E := Lib.hid e
          clear e
          go_wp2_with fail
          go_meet
          exact cB true (fun h => by cases h)
        · have e' : ((n : Int) == (k : Int)) = false := by simp; omega
          have hlt : k < n := by omega
          clear e
          by_cases h1 : k + 1 < n
          · have hks : k < s.size := by omega
            by_cases h48 : ((s[k].toNat : Int) == 48) = true
            · go_wp2_with fail
              go_meet
              exact cB _ (fun _ => hlt)
            · have h48' : ((s[k].toNat : Int) == 48) = false := by simpa using h48
              clear h48
              go_wp2_with fail
              go_meet
              exact cB _ (fun _ => hlt)
          · go_wp2_with fail
            go_meet
            exact cB _ (fun _ => hlt)
      case rest =>
        obtain ⟨x, rfl, hlt, rfl⟩ := hcut
        cases x
        · have hlt := hlt rfl
          go_upto_region 8 with fail
          go_cut [47] (CB (P8 s n) w)
          case first =>
            by_cases h0 : n < s.size
            · by_cases h46 : ((s[n].toNat : Int) == 46) = true
              · go_wp2_with fail
                go_meet
                exact cB true (fun _ => ⟨h0, h46⟩)
              · have h46' : ((s[n].toNat : Int) == 46) = false := by simpa using h46
                clear h46
                go_wp2_with fail
                go_meet
                exact cB false (fun h => by cases h)
            · go_wp2_with fail
              go_meet
              exact cB _ (fun h => by simp at h)
          case rest =>
            obtain ⟨x, rfl, hT, rfl⟩ := hcut
            go_upto_if 47 with fail
            go_cut [3] (CN (R2 s) w)
            case first =>
              cases x
              · go_wp2_with fail
                go_meet
                exact cN n (R2_int s k n hR1 hd hlt)
              · obtain ⟨h0, h46⟩ := hT rfl
                go_upto_region 10 with (go_at_call 13; refine (digitsEnd_any s _ (n + 1) (by omega) h0 hs _).mono ?_; rintro e w' ⟨m, rfl, hd2, rfl⟩)
                have hm := hd2.1
                have hm2 := hd2.2.1
                by_cases e : m = n + 1
                · have e' : ((m : Int) == (n : Int) + 1) = true := by simp [e]
                  clear e
                  go_wp2_with fail
                  go_ret
                  exact retBool false (fun h => by cases h)
                · have e' : ((m : Int) == (n : Int) + 1) = false := by simp; omega
                  clear e
                  go_wp2_with fail
                  go_meet
                  exact cN m (R2_frac s k n m hR1 hd hlt h0 _ rfl h46 hd2)
            case rest =>
              obtain ⟨n2, rfl, hR2, rfl⟩ := hcut
              have hn2 := hR2.1
              clear hT
              go_upto_region 13 with fail
              go_cut [67] (CB (P13 s n2) w)
              case first =>
                by_cases h0 : n2 < s.size
                · by_cases hE : (bits BinOp.or IntKind.u8 (s[n2].toNat : Int) 32 == 101) = true
                  · go_wp2_with fail
                    go_meet
                    exact cB _ (fun _ => ⟨h0, or_isE _ hE⟩)
                  · have hE' : (bits BinOp.or IntKind.u8 (s[n2].toNat : Int) 32 == 101) = false := by simpa using hE
                    clear hE
                    go_wp2_with fail
                    go_meet
                    exact cB _ (fun h => by cases h)
                · go_wp2_with fail
                  go_meet
                  exact cB _ (fun h => by simp at h)
              case rest =>
                obtain ⟨x, rfl, hT, rfl⟩ := hcut
                go_upto_if 67 with fail
                go_cut [3] (CN (R4 s) w)
                case first =>
                  cases x
                  · go_wp2_with fail
                    go_meet
                    exact cN n2 (R4_of2 s n2 hR2)
                  · obtain ⟨h0, hE⟩ := hT rfl
                    go_upto_region 15 with fail
                    go_cut [85] (CB (P15 s (n2 + 1)) w)
                    case first =>
                      by_cases h1 : n2 + 1 < s.size
                      · by_cases h43 : ((s[n2 + 1].toNat : Int) == 43) = true
                        · go_wp2_with fail
                          go_meet
                          exact cB true (R3_sign s n2 hR2 h0 hE h1 (by unfold isSign cI; simp [h43]))
                        · have h43' : ((s[n2 + 1].toNat : Int) == 43) = false := by simpa using h43
                          clear h43
                          by_cases h45 : ((s[n2 + 1].toNat : Int) == 45) = true
                          · go_wp2_with fail
                            go_meet
                            exact cB true (R3_sign s n2 hR2 h0 hE h1 (by unfold isSign cI; simp [h45]))
                          · have h45' : ((s[n2 + 1].toNat : Int) == 45) = false := by simpa using h45
                            clear h45
                            go_wp2_with fail
                            go_meet
                            exact cB false (R3_plain s n2 hR2 h0 hE h1 (by unfold isSign cI; rw [h43', h45']; rfl))
                      · go_wp2_with fail
                        go_meet
                        exact cB false (R3_end s n2 h0 (by omega))
                    case rest =>
                      obtain ⟨y, rfl, hY, rfl⟩ := hcut
                      go_upto_if 85 with fail
                      go_cut [3] (CN (R3 s) w)
                      case first =>
                        cases y
                        · go_wp2_with fail
                          go_meet
                          exact cN (n2 + 1) hY
                        · go_wp2_with fail
                          go_meet
                          exact cN (n2 + 1 + 1) hY
                      case rest =>
                        obtain ⟨n3, rfl, hR3, rfl⟩ := hcut
                        have hn3 := hR3.1
                        go_upto_region 18 with (go_at_call 13; refine (digitsEnd_any s _ n3 rfl hn3 hs _).mono ?_; rintro e w' ⟨m, rfl, hd3, rfl⟩)
                        have hm := hd3.1
                        have hm2 := hd3.2.1
                        by_cases e : m = n3
                        · have e' : ((m : Int) == (n3 : Int)) = true := by simp [e]
                          clear e
                          go_wp2_with fail
                          go_ret
                          exact retBool false (fun h => by cases h)
                        · have e' : ((m : Int) == (n3 : Int)) = false := by simp; omega
                          clear e
                          go_wp2_with fail
                          go_meet
                          exact cN m (R4_of3 s n3 m hR3 hd3 (by simp at e'; omega))
                case rest =>
                  obtain ⟨n4, rfl, hR4, rfl⟩ := hcut
                  go_wp2_with fail
                  go_ret
                  exact retBool _ (fun h => hR4.2 (by simp at h; omega))
        · go_wp2_with fail
          go_ret
          exact retBool false (fun h => by cases h)

end Go.Proofs.Ytnlndpgbhmkanaa.Vn
