/-
  BASE64, as plain data: letters and their numbers.
-/
import Derived.Test.YtnlndpgbhmkanaaGreatDoorVaV
import Derived.Deep.OwnRows
import Derived.Lib.LazyBuf
import Derived.Lib.BufferWrite
import Derived.Lib.SlBuf
import Derived.Laws.BytesArg
import Derived.Laws.IdiomStrings
import Derived.Laws.BitsAllLaws
namespace Go.Proofs.YtnlndpgbhmkanaaGreatDoor.Ba
open Go.RowKit
set_option linter.unusedVariables false
set_option linter.unusedSimpArgs false

/-- the letters -/
def abc : ByteArray := ⟨#[65, 66, 67, 68, 69, 70, 71, 72, 73, 74, 75, 76, 77, 78, 79, 80, 81, 82, 83, 84, 85, 86, 87, 88, 89, 90, 97, 98, 99, 100, 101, 102, 103, 104, 105, 106, 107, 108, 109, 110, 111, 112, 113, 114, 115, 116, 117, 118, 119, 120, 121, 122, 48, 49, 50, 51, 52, 53, 54, 55, 56, 57, 43, 47]⟩
/-- the letter of a number -/
def lt (i : Nat) : Nat := if i < 26 then 65 + i else if i < 52 then 71 + i else if i < 62 then i - 4 else if i = 62 then 43 else 47
/-- the number of a letter, 255 of what is none -/
def dc (c : Nat) : Nat := if 65 ≤ c ∧ c ≤ 90 then c - 65 else if 97 ≤ c ∧ c ≤ 122 then c - 71 else if 48 ≤ c ∧ c ≤ 57 then c + 4 else if c = 43 then 62 else if c = 47 then 63 else 255
theorem dc_lt {i : Nat} (h : i < 64) : dc (lt i) = i := by
  unfold lt dc
  repeat' (first | split | omega)
theorem lt_lt (i : Nat) (h : i < 64) : lt i < 128 := by
  unfold lt
  repeat' (first | split | omega)
theorem dc_le (c : Nat) : dc c < 64 ∨ dc c = 255 := by
  unfold dc
  repeat' (first | split | omega)
theorem lt_dc {c : Nat} (h : dc c < 64) : lt (dc c) = c := by
  have h5 : dc c ≠ 255 := by omega
  clear h
  unfold dc at h5 ⊢
  unfold lt
  repeat' (first | split | omega)
  all_goals (exfalso; apply h5; simp_all)
theorem abc_at : ∀ i : Fin 64, (abc.data[i.val]!).toNat = lt i.val := by decide
theorem abc_size : abc.size = 64 := by decide
theorem abc_get (i : Nat) (h : i < 64) : (abc[i]'(by rw [abc_size]; exact h)).toNat = lt i := by
  have := abc_at ⟨i, h⟩
  rw [← this]
  have hs : i < abc.data.size := by rw [show abc.data.size = 64 from abc_size]; exact h
  rw [getElem!_pos abc.data i hs]
  rfl
end Go.Proofs.YtnlndpgbhmkanaaGreatDoor.Ba
