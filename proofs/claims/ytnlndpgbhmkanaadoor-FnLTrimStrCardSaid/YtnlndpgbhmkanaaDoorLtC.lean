/-
  THE LAW for ltrimstr: its walk.
-/
import Derived.Test.YtnlndpgbhmkanaaDoorLtB
import Derived.Test.YtnlndpgbhmkanaaDoorShelf
namespace Go.Proofs.YtnlndpgbhmkanaaDoor.Lt
open Go.RowKit
set_option linter.unusedVariables false
set_option linter.unusedSimpArgs false

/-- utf8's two tables lie as their initialisers lay them -/
def Tabs (w : World) : Prop := Lib.Utf8Tabs (Tryd.laysValid_ren.g 3) (Tryd.laysValid_ren.g 4) w
theorem Tabs.below {w w' : World} (h : Tabs w) (hb : Below w.heap.size w w') : Tabs w' := Utf8Tabs_below h hb

def TwoEnd (w : World) (e : Ending) (w' : World) : Prop := ∃ r : Bool, e = .returned (.bool r) ∧ Below w.heap.size w w'

theorem valid_any (s : ByteArray) (hs : s.size ≤ 2147483647) (w : World) (hT : Tabs w) : Calls Tryd.prog 27 #[.string s] w fun e w' => e = .returned (.bool (Lib.validD s.data.toList)) ∧ Below w.heap.size w w' :=
  Tryd.utf8_ValidString s w (by omega) hT

set_option maxHeartbeats 400000 in
theorem two_any (s t : ByteArray) (hs : s.size ≤ 2147483647) (ht : t.size ≤ 2147483647) (w : World) (hT : Tabs w) : Calls Tryd.prog 11 #[.string s, .string t] w (TwoEnd w) := by
  have HT := Lib.hid hT
  clear hT
  by_cases h : (s.size : Int) + (t.size : Int) ≤ 4096
  · obtain ⟨v, hv⟩ : ∃ v, Hid (Lib.validD s.data.toList = v) := ⟨_, Lib.hid rfl⟩
    have c1 := valid_any s hs w HT.out
    rw [hv.out] at c1
    have C1 := Lib.hid c1
    clear c1
    cases v
    · go_enter Tryd.func11, Tryd.ntmps11
      go_wp2_with fail
      refine (C1.out).mono ?_
      rintro e w1 ⟨rfl, hb⟩
      have HB := Lib.hid hb
      clear hb
      go_wp2_with fail
      go_returns
      exact ⟨_, rfl, HB.out⟩
    · go_enter Tryd.func11, Tryd.ntmps11
      go_wp2_with fail
      refine (C1.out).mono ?_
      rintro e w1 ⟨rfl, hb⟩
      have HB := Lib.hid hb
      clear hb
      go_wp2_with fail
      refine (valid_any t ht w1 (HT.out.below HB.out)).mono ?_
      rintro e w2 ⟨rfl, hb⟩
      have HB2 := Lib.hid hb
      clear hb
      go_wp2_with fail
      go_returns
      exact ⟨_, rfl, HB.out.trans (HB2.out.mono HB.out.size)⟩
  · go_enter Tryd.func11, Tryd.ntmps11
    go_wp2
    go_returns
    exact ⟨_, rfl, Below.refl _ _⟩

def LawEnd (w : World) (e : Ending) (w' : World) : Prop := e = .returned (.bool true) ∧ Below w.heap.size w w'

set_option maxHeartbeats 1000000 in
theorem law_any (s t : ByteArray) (w : World) (hT : Tabs w) : Calls Tryd.prog 4 #[.string s, .string t] w (LawEnd w) := by
  have HT := Lib.hid hT
  clear hT
  by_cases h1 : 2147483647 < (s.size : Int)
  · go_enter Tryd.func4, Tryd.ntmps4
    go_wp2
    go_returns
    exact ⟨rfl, Below.refl _ _⟩
  by_cases h2 : 2147483647 < (t.size : Int)
  · go_enter Tryd.func4, Tryd.ntmps4
    go_wp2
    go_returns
    exact ⟨rfl, Below.refl _ _⟩
  have hs : s.size ≤ 2147483647 := by omega
  have ht : t.size ≤ 2147483647 := by omega
  go_enter Tryd.func4, Tryd.ntmps4
  go_wp2_with fail
  refine (two_any s t hs ht w HT.out).mono ?_
  rintro e w1 ⟨r, rfl, hb⟩
  have B1 := Lib.hid hb
  clear hb
  cases r
  · go_wp2_with fail
    go_returns
    exact ⟨rfl, B1.out⟩
  · go_wp2_with fail
    refine (str_any s _).mono ?_
    rintro e w2 ⟨rfl, hb⟩
    have B2 := Lib.hid (B1.out.trans (hb.mono B1.out.size))
    clear hb
    go_wp2_with fail
    refine (str_any t _).mono ?_
    rintro e w3 ⟨rfl, hb⟩
    have B3 := Lib.hid (B2.out.trans (hb.mono B2.out.size))
    clear hb
    go_wp2_with fail
    refine (ltrim_any s t hs ht _).mono ?_
    rintro e w4 ⟨rfl, hb⟩
    have B4 := Lib.hid (B3.out.trans (hb.mono B3.out.size))
    clear hb
    go_wp2_with fail
    refine (shortened_any s t hs ht _).mono ?_
    rintro e w5 ⟨rfl, rfl⟩
    go_wp2_with fail
    refine (str_any _ _).mono ?_
    rintro e w6 ⟨rfl, hb⟩
    have B6 := Lib.hid (B4.out.trans (hb.mono B4.out.size))
    clear hb
    go_wp2_with fail
    refine (says_same _ _).mono ?_
    rintro e w7 ⟨rfl, hb⟩
    have B7 := Lib.hid (B6.out.trans (hb.mono B6.out.size))
    clear hb
    go_wp2_with fail
    go_returns
    exact ⟨rfl, B7.out⟩

end Go.Proofs.YtnlndpgbhmkanaaDoor.Lt
