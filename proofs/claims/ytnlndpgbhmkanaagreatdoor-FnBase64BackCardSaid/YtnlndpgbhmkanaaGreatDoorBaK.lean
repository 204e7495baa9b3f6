/-
  THE WALK of zzIndexRune at an ASCII text, for '='.
-/
import Derived.Test.YtnlndpgbhmkanaaGreatDoorBaE
import Derived.Laws.RangeString
import Derived.LoopTactic
namespace Go.Proofs.YtnlndpgbhmkanaaGreatDoor.Ba
open Go.RowKit Go.Proofs.YtnlndpgbhmkanaaGreatDoor.Va
set_option linter.unusedVariables false
set_option linter.unusedSimpArgs false

theorem byte_at (s : ByteArray) (i : Nat) (h : i < s.size) : (s[i]'h).toNat = (bytesN s).getD i 0 := by
  have hl : i < s.data.toList.length := by rw [← Lib.size_eq]; exact h
  unfold bytesN
  simp [List.getD, List.getElem?_map, List.getElem?_eq_getElem hl]
  rfl
theorem getD_mem {l : List Nat} {i : Nat} (h : i < l.length) : l.getD i 0 ∈ l := by
  rw [List.getD, List.getElem?_eq_getElem h]
  exact List.getElem_mem h
/-- where the first '=' is -/
def IdxEnd (s : ByteArray) (w : World) (e : Ending) (w' : World) : Prop :=
  ∃ p, p ≤ s.size ∧ (∀ j, j < p → (bytesN s).getD j 0 ≠ 61) ∧ ((p = s.size ∧ e = .returned (.int .i64 (-1))) ∨ (p < s.size ∧ (bytesN s).getD p 0 = 61 ∧ e = .returned (.int .i64 (p : Int)))) ∧ Below w.heap.size w w'
def LoopI (s : ByteArray) (w wr : World) : Prop := ∃ i, i ≤ s.size ∧ wr = w.iter s i ∧ ∀ j, j < i → (bytesN s).getD j 0 ≠ 61
set_option maxHeartbeats 2000000 in
set_option maxRecDepth 100000 in
theorem idx_any (s : ByteArray) (hs : s.size ≤ 4294967296) (ha : ∀ x ∈ bytesN s, x < 128) (w : World) : Calls Tryz.prog 158 #[.string s, .int .i32 61] w (IdxEnd s w) := by
  have HA := Lib.hid ha
  clear ha
  go_enter Tryz.func158, Tryz.ntmps158
  go_wp2_with fail
  go_loopw [5] (fun _ wr => LoopI s w wr) (fun _ wr => s.size - wr.iterPos w.heap.size)
  case atStart => exact ⟨0, Nat.zero_le _, rfl, fun j hj => absurd hj (by omega)⟩
  case round =>
    obtain ⟨i, hi, rfl, hno⟩ := hrel
    have HNO := Lib.hid hno
    clear hno
    have hmu : (w.iter s i).iterPos w.heap.size = i := by simp [World.iterPos, World.iter_heap]
    by_cases hlt : i < s.size
    · have h128 : (bytesN s).getD i 0 < 128 := HA.out _ (getD_mem (by rw [bytesN_len]; exact hlt))
      have hb := byte_at s i hlt
      have hnx := fun ty => run_next_ascii (P := Tryz.prog) w s i ty hlt (by rw [hb]; exact h128)
      rw [hb] at hnx
      clear hb
      obtain ⟨c, hc⟩ : ∃ c, (bytesN s).getD i 0 = c := ⟨_, rfl⟩
      rw [hc] at hnx h128
      have HC := Lib.hid hc
      clear hc
      have hmu2 : (w.iter s (i + 1)).iterPos w.heap.size = i + 1 := by simp [World.iterPos, World.iter_heap]
      by_cases h61 : c = 61
      · subst h61
        go_wp2_with fail
        go_returns
        exact ⟨i, hi, HNO.out, .inr ⟨hlt, HC.out, rfl⟩, below_alloc w _⟩
      · have hc1 : ((c : Int) == 61) = false := by simp; omega
        have hc2 : ¬ (c : Int) = 61 := by omega
        go_wp2_with fail
        go_roundw
        case rel => exact ⟨i + 1, hlt, rfl, fun j hj => by
          by_cases e : j = i
          · subst e; rw [HC.out]; exact h61
          · exact HNO.out j (by omega)⟩
        case measure => rw [hmu, hmu2]; omega
    · have hnx := fun ty => run_next_end (P := Tryz.prog) w s i ty hlt
      go_wp2_with fail
      go_returns
      exact ⟨i, hi, HNO.out, .inl ⟨by omega, rfl⟩, below_alloc w _⟩
end Go.Proofs.YtnlndpgbhmkanaaGreatDoor.Ba
