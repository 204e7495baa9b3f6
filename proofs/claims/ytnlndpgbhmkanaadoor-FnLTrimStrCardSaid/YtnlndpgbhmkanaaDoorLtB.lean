/-
  THE WALKS for ltrimstr: a string is the same as itself.
-/
import Derived.Test.YtnlndpgbhmkanaaDoorLtA
namespace Go.Proofs.YtnlndpgbhmkanaaDoor.Lt
open Go.RowKit
set_option linter.unusedVariables false
set_option linter.unusedSimpArgs false

theorem less_self (l : List UInt8) : Op.bytesLess l l = false := by
  induction l with
  | nil => rfl
  | cons a t ih => simp [Op.bytesLess, ih]

theorem texts_same (s : ByteArray) (w : World) : Calls Tryd.prog 55 #[.string s, .string s] w fun e w' => e = .returned (.int .i64 0) ∧ w = w' := by
  have h := less_self s.toList
  go_enter Tryd.func55, Tryd.ntmps55
  go_wp2
  go_returns
  exact ⟨rfl, rfl⟩

set_option maxHeartbeats 400000 in
set_option maxRecDepth 100000 in
theorem cmp_same (s : ByteArray) (w : World) : Calls Tryd.prog 42 #[txt s, txt s] w (Ret (.int .i64 0) w) := by
  unfold txt
  go_enter Tryd.func42, Tryd.ntmps42
  go_wp2_with fail
  refine (texts_same s _).mono ?_
  rintro e w' ⟨rfl, rfl⟩
  go_wp2_with fail
  go_returns
  exact ⟨rfl, by go_grown⟩

set_option maxHeartbeats 400000 in
theorem same_same (s : ByteArray) (w : World) : Calls Tryd.prog 28 #[txt s, txt s] w (Ret (.bool true) w) := by
  have U := Lib.hid (show txt s = .agg #[.int .i64 4, .int .i64 0, .string s, .slice none 0 0, .slice none 0 0, .slice none 0 0] from rfl)
  rw [U.out]
  go_enter Tryd.func28, Tryd.ntmps28
  go_wp2_with fail
  rw [← U.out]
  refine (cmp_same s _).mono ?_
  rintro e w1 ⟨rfl, hb⟩
  have HB := Lib.hid hb
  clear hb
  go_wp2_with fail
  go_returns
  exact ⟨rfl, (show Below w.heap.size w _ by go_grown).trans (HB.out.mono (by simp; omega))⟩

set_option maxHeartbeats 400000 in
theorem says_same (s : ByteArray) (w : World) : Calls Tryd.prog 12 #[resTxt s, txt s] w (Ret (.bool true) w) := by
  have U := Lib.hid (show txt s = .agg #[.int .i64 4, .int .i64 0, .string s, .slice none 0 0, .slice none 0 0, .slice none 0 0] from rfl)
  rw [U.out]
  unfold resTxt
  go_enter Tryd.func12, Tryd.ntmps12
  go_wp2_with fail
  rw [← U.out]
  refine (same_same s _).mono ?_
  rintro e w1 ⟨rfl, hb⟩
  have HB := Lib.hid hb
  clear hb
  go_wp2_with fail
  go_returns
  exact ⟨rfl, (show Below w.heap.size w _ by go_grown).trans (HB.out.mono (by simp; omega))⟩

end Go.Proofs.YtnlndpgbhmkanaaDoor.Lt
