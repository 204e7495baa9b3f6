/-
  THE WALK of the law itself: FnValidNumber returns true at every text.
-/
import Derived.Test.YtnlndpgbhmkanaaVnE
namespace Go.Proofs.Ytnlndpgbhmkanaa.Vn
open Go.RowKit

def LawEnd (w : World) (e : Ending) (w' : World) : Prop := e = .returned (.bool true) ∧ Below w.heap.size w w'

/-- a byte that no number has -/
def bad (c : Int) : Prop := isNum c = false ∧ isSign c = false ∧ isE c = false ∧ (c == 46) = false
def P10 (c : Int) (x : Bool) : Prop := x = true → bad c
def CBB (P : Bool → Prop) (w : World) (v : Value) (wx : World) : Prop := ∃ x : Bool, v = .bool x ∧ P x ∧ w = wx

theorem cBB {P : Bool → Prop} {w : World} (x : Bool) (h : P x) : CBB P w (.bool x) w := ⟨x, rfl, h, rfl⟩
def LoopR (s : ByteArray) (w1 : World) (j : Value) (wr : World) : Prop := ∃ n : Nat, j = .int .i64 n ∧ n ≤ s.size ∧ w1 = wr
theorem loopR {s : ByteArray} {w1 : World} (n : Nat) (i : Int) (hi : i = n) (h : n ≤ s.size) : LoopR s w1 (.int .i64 i) w1 := ⟨n, by rw [hi], h, rfl⟩
theorem mem_at (s : ByteArray) (n : Nat) (h : n < s.size) : s[n] ∈ s.data.toList := by
  have e : s[n] = s.data.toList[n]'(by simpa using h) := rfl
  rw [e]
  exact List.getElem_mem _
theorem or_101 : ∀ c : Fin 256, isE (c.val : Int) = true → bits BinOp.or IntKind.u8 (c.val : Int) 32 = 101 := by decide +kernel
theorem bad_of (c : UInt8) (h1 : ((c.toNat : Int) < 48) ∨ (57 < (c.toNat : Int))) (h46 : ((c.toNat : Int) != 46) = true) (h45 : ((c.toNat : Int) != 45) = true) (h43 : ((c.toNat : Int) != 43) = true)
    (hE : (bits BinOp.or IntKind.u8 (c.toNat : Int) 32 != 101) = true) : bad (cI c) := by
  refine ⟨?_, ?_, ?_, ?_⟩
  · unfold isNum cI; rcases h1 with h | h <;> simp <;> omega
  · unfold isSign cI; simp at h45 h43; simp [h45, h43]
  · cases h : isE (cI c)
    · rfl
    · have := or_101 ⟨c.toNat, c.toNat_lt⟩ h
      simp at hE
      exact absurd this hE
  · unfold cI; simpa using h46

set_option maxHeartbeats 4000000 in
set_option maxRecDepth 100000 in
theorem law_any (s : ByteArray) (w : World) : Calls Try.prog 3 #[.string s] w (LawEnd w) := by
  by_cases hz : 2147483647 < (s.size : Int)
  · go_enter Try.func3, Try.ntmps3
    go_wp2
    go_ret
    exact ⟨rfl, Below.refl _ _⟩
  by_cases hm : 4096 < (s.size : Int)
  · go_enter Try.func3, Try.ntmps3
    go_wp2
    go_ret
    exact ⟨rfl, Below.refl _ _⟩
  have hs : s.size ≤ 2147483647 := by omega
  go_enter Try.func3, Try.ntmps3
  go_wp2_with fail
  refine (valid_any s hs w).mono ?_
  rintro e w1 ⟨rfl, hb⟩
  obtain ⟨v, hv⟩ : ∃ v, Hid (vn s.data.toList = v) := ⟨_, Lib.hid rfl⟩
  rw [hv.out]
  go_wp2_with fail
  go_loopw [4] (LoopR s w1) (fun j _ => s.size - (intOf j).toNat)
  case atStart => exact loopR 0 _ rfl (Nat.zero_le _)
  case round =>
    obtain ⟨n, rfl, hd, rfl⟩ := hrel
    by_cases hlt : n < s.size
    · go_upto_region 10 with fail
      go_cut [55] (CBB (P10 (cI s[n])) w1)
      case first =>
        have hno : ∀ x : Bool, x = true → bad (cI s[n]) → P10 (cI s[n]) x := fun _ _ h _ => h
        by_cases h32 : 32 < (s[n].toNat : Int)
        · rcases (show ((s[n].toNat : Int) < 48 ∧ ¬ 57 < (s[n].toNat : Int)) ∨ (¬ (s[n].toNat : Int) < 48 ∧ ¬ 57 < (s[n].toNat : Int)) ∨ (¬ (s[n].toNat : Int) < 48 ∧ 57 < (s[n].toNat : Int)) by omega) with ⟨ha, hb'⟩ | ⟨ha, hb'⟩ | ⟨ha, hb'⟩
          · by_cases h46 : ((s[n].toNat : Int) != 46) = true
            · by_cases h45 : ((s[n].toNat : Int) != 45) = true
              · by_cases h43 : ((s[n].toNat : Int) != 43) = true
                · by_cases hE : (bits BinOp.or IntKind.u8 (s[n].toNat : Int) 32 != 101) = true
                  · have hbad := Lib.hid (bad_of s[n] (by omega) h46 h45 h43 hE)
                    go_wp2_with fail
                    refine (among_any _ _ (by decide) _).mono ?_
                    rintro e w' ⟨r, rfl, _, rfl⟩
                    go_wp2_with fail
                    go_meet
                    exact cBB _ (fun _ => hbad.out)
                  · have hE' : (bits BinOp.or IntKind.u8 (s[n].toNat : Int) 32 != 101) = false := by simpa using hE
                    clear hE
                    go_wp2_with fail
                    go_meet
                    exact cBB false (fun h => by cases h)
                · have h43' : ((s[n].toNat : Int) != 43) = false := by simpa using h43
                  clear h43
                  go_wp2_with fail
                  go_meet
                  exact cBB false (fun h => by cases h)
              · have h45' : ((s[n].toNat : Int) != 45) = false := by simpa using h45
                clear h45
                go_wp2_with fail
                go_meet
                exact cBB false (fun h => by cases h)
            · have h46' : ((s[n].toNat : Int) != 46) = false := by simpa using h46
              clear h46
              go_wp2_with fail
              go_meet
              exact cBB false (fun h => by cases h)
          · go_wp2_with fail
            go_meet
            exact cBB false (fun h => by cases h)
          · by_cases h46 : ((s[n].toNat : Int) != 46) = true
            · by_cases h45 : ((s[n].toNat : Int) != 45) = true
              · by_cases h43 : ((s[n].toNat : Int) != 43) = true
                · by_cases hE : (bits BinOp.or IntKind.u8 (s[n].toNat : Int) 32 != 101) = true
                  · have hbad := Lib.hid (bad_of s[n] (by omega) h46 h45 h43 hE)
                    go_wp2_with fail
                    refine (among_any _ _ (by decide) _).mono ?_
                    rintro e w' ⟨r, rfl, _, rfl⟩
                    go_wp2_with fail
                    go_meet
                    exact cBB _ (fun _ => hbad.out)
                  · have hE' : (bits BinOp.or IntKind.u8 (s[n].toNat : Int) 32 != 101) = false := by simpa using hE
                    clear hE
                    go_wp2_with fail
                    go_meet
                    exact cBB false (fun h => by cases h)
                · have h43' : ((s[n].toNat : Int) != 43) = false := by simpa using h43
                  clear h43
                  go_wp2_with fail
                  go_meet
                  exact cBB false (fun h => by cases h)
              · have h45' : ((s[n].toNat : Int) != 45) = false := by simpa using h45
                clear h45
                go_wp2_with fail
                go_meet
                exact cBB false (fun h => by cases h)
            · have h46' : ((s[n].toNat : Int) != 46) = false := by simpa using h46
              clear h46
              go_wp2_with fail
              go_meet
              exact cBB false (fun h => by cases h)
        · go_wp2_with fail
          go_meet
          exact cBB false (fun h => by cases h)
      case rest =>
        obtain ⟨x, rfl, hP, rfl⟩ := hcut
        cases x
        · go_wp2_with fail
          go_roundw
          case rel => exact loopR (n + 1) _ (by omega) (by omega)
          case measure => simp [intOf]; omega
        · obtain ⟨b1, b2, b3, b4⟩ := hP rfl
          have hvf : v = false := by rw [← hv.out]; exact vn_bad b1 b2 b3 b4 _ (mem_at s n hlt)
          subst hvf
          go_wp2_with fail
          go_ret
          exact ⟨rfl, hb⟩
    · by_cases he : s.size = 0
      · have he1 : s.toList = [] := by
          rw [ByteArray.toList_eq]
          exact drop_end s 0 (by omega)
        have hvf : v = false := by
          rw [← hv.out]; exact vn_empty s (by omega)
        subst hvf
        go_wp2_with fail
        go_ret
        exact ⟨rfl, hb⟩
      · have he2 : s.toList.isEmpty = false := by
          rw [ByteArray.toList_eq]
          cases h : s.data.toList
          · exact absurd (by simpa using congrArg List.length h) he
          · rfl
        have he1 : (!s.toList.isEmpty) = true := by rw [he2]; rfl
        cases v
        · go_wp2_with fail
          refine (jsonNumber_any s hs _).mono ?_
          rintro e w' ⟨r, rfl, hj, rfl⟩
          have hrf : r = false := by
            cases r
            · rfl
            · have := hj rfl
              rw [hv.out] at this
              cases this
          subst hrf
          go_wp2_with fail
          go_ret
          exact ⟨rfl, hb⟩
        · go_wp2_with fail
          go_ret
          exact ⟨rfl, hb⟩

end Go.Proofs.Ytnlndpgbhmkanaa.Vn
