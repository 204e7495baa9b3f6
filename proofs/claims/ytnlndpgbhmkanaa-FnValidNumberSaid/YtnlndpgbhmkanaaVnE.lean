/-
  THE LAW: FnValidNumber's walk, out of the contracts.
-/
import Derived.Test.YtnlndpgbhmkanaaVnC
import Derived.Test.YtnlndpgbhmkanaaVnD
namespace Go.Proofs.Ytnlndpgbhmkanaa.Vn
open Go.RowKit

theorem validNumber_any (b : Nat) (s : ByteArray) (hs : s.size ≤ 2147483647) (w : World) (hl : LexAt b s 0 w) :
    Calls Try.prog 24 #[.pointer (some ⟨b, 0, none⟩)] w (VnEnd b s w) := by
  by_cases h0 : 0 < s.size
  · obtain ⟨c, hc⟩ : ∃ c, Hid (cI s[0] = c) := ⟨_, Lib.hid rfl⟩
    have key : ∀ (c : Int), ((c == 43) = false ∧ (c == 45) = false ∧ Hid (isSign c = false)) ∨ ((c == 43) = true ∧ Hid (isSign c = true)) ∨ ((c == 43) = false ∧ (c == 45) = true ∧ Hid (isSign c = true)) := by
      intro c
      unfold isSign
      cases c == 43 <;> cases c == 45 <;> simp [Hid]
    have k46 : ∀ c : Int, (c == 46) = true ∨ (c == 46) = false := fun c => by cases c == 46 <;> simp
    have kn : ∀ c : Int, isNum c = true ∨ isNum c = false := fun c => by cases isNum c <;> simp
    rcases key c with ⟨h43, h45, hsg⟩ | ⟨h43, hsg⟩ | ⟨h43, h45, hsg⟩
    · rcases k46 c with h46 | h46
      · by_cases h1 : 1 < s.size
        · obtain ⟨d, hd⟩ : ∃ d, Hid (cI s[1] = d) := ⟨_, Lib.hid rfl⟩
          rcases kn d with hn | hn
          · exact vn0_dotnum b s hs w hl c h0 hc hsg h43 h45 h46 d h1 hd hn
          · exact vn0_dotnot b s hs w hl c h0 hc hsg h43 h45 h46 d h1 hd hn
        · exact vn0_dotend b s hs w hl c h0 hc hsg h43 h45 h46 (by omega)
      · rcases kn c with hn | hn
        · exact vn0_num b s hs w hl c h0 hc hsg h43 h45 h46 hn
        · exact vn0_not b s hs w hl c h0 hc hsg h43 h45 h46 hn
    · by_cases h1 : 1 < s.size
      · obtain ⟨d, hd⟩ : ∃ d, Hid (cI s[1] = d) := ⟨_, Lib.hid rfl⟩
        rcases k46 d with h46 | h46
        · by_cases h2 : 2 < s.size
          · obtain ⟨f, hf⟩ : ∃ f, Hid (cI s[2] = f) := ⟨_, Lib.hid rfl⟩
            rcases kn f with hn | hn
            · exact vn1P_dotnum b s hs w hl c h0 hc h43 hsg d h1 hd h46 f h2 hf hn
            · exact vn1P_dotnot b s hs w hl c h0 hc h43 hsg d h1 hd h46 f h2 hf hn
          · exact vn1P_dotend b s hs w hl c h0 hc h43 hsg d h1 hd h46 (by omega)
        · rcases kn d with hn | hn
          · exact vn1P_num b s hs w hl c h0 hc h43 hsg d h1 hd h46 hn
          · exact vn1P_not b s hs w hl c h0 hc h43 hsg d h1 hd h46 hn
      · exact vn1P_end b s hs w hl c h0 hc h43 hsg (by omega)
    · by_cases h1 : 1 < s.size
      · obtain ⟨d, hd⟩ : ∃ d, Hid (cI s[1] = d) := ⟨_, Lib.hid rfl⟩
        rcases k46 d with h46 | h46
        · by_cases h2 : 2 < s.size
          · obtain ⟨f, hf⟩ : ∃ f, Hid (cI s[2] = f) := ⟨_, Lib.hid rfl⟩
            rcases kn f with hn | hn
            · exact vn1M_dotnum b s hs w hl c h0 hc h43 h45 hsg d h1 hd h46 f h2 hf hn
            · exact vn1M_dotnot b s hs w hl c h0 hc h43 h45 hsg d h1 hd h46 f h2 hf hn
          · exact vn1M_dotend b s hs w hl c h0 hc h43 h45 hsg d h1 hd h46 (by omega)
        · rcases kn d with hn | hn
          · exact vn1M_num b s hs w hl c h0 hc h43 h45 hsg d h1 hd h46 hn
          · exact vn1M_not b s hs w hl c h0 hc h43 h45 hsg d h1 hd h46 hn
      · exact vn1M_end b s hs w hl c h0 hc h43 h45 hsg (by omega)
  · exact vn0_end b s hs w hl (by omega)

/-- tonumber's check of a text: the plain function -/
def VnRet (s : ByteArray) (w : World) (e : Ending) (w' : World) : Prop := e = .returned (.bool (vn s.data.toList)) ∧ Below w.heap.size w w'

set_option maxHeartbeats 1000000 in
theorem zzValid_any (s : ByteArray) (hs : s.size ≤ 2147483647) (w : World) : Calls Try.prog 12 #[.string s] w (VnRet s w) := by
  go_enter Try.func12, Try.ntmps12
  go_wp2_with fail
  refine (newLexer_any s w).mono ?_
  rintro e w1 ⟨rfl, hl, hb⟩
  go_wp2_with fail
  refine (validNumber_any _ s hs w1 hl).mono ?_
  rintro e w2 ⟨rfl, hb2⟩
  go_wp2_with fail
  go_ret
  exact ⟨rfl, hb.trans hb2⟩

theorem valid_any (s : ByteArray) (hs : s.size ≤ 2147483647) (w : World) : Calls Try.prog 5 #[.string s] w (VnRet s w) := by
  go_enter Try.func5, Try.ntmps5
  go_wp2_with fail
  refine (zzValid_any s hs w).mono ?_
  rintro e w1 ⟨rfl, hb⟩
  go_wp2_with fail
  go_ret
  exact ⟨rfl, hb⟩

end Go.Proofs.Ytnlndpgbhmkanaa.Vn
