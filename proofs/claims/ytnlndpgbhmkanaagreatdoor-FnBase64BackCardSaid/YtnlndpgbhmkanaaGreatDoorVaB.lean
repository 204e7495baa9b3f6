/-
  THE WALK of toGo at a value that is neither list nor map.
-/
import Derived.Test.YtnlndpgbhmkanaaGreatDoorVaA
import Derived.Test.YtnlndpgbhmkanaaGreatDoorTa
import Derived.WalkKit
import Derived.WalkSpells
import Derived.WalkLawsBesides
import Derived.Deep.QuietTactic
import Derived.BigQuiet
import Derived.Handy
import Derived.Lib.Hide
import Derived.Deep.DeepCutAuto
import Derived.Laws.Cover2
import Derived.IntWalk
namespace Go.Proofs.YtnlndpgbhmkanaaGreatDoor.Va
open Go.RowKit
set_option linter.unusedVariables false
set_option linter.unusedSimpArgs false

/-- what toGo returns -/
def ToGo (x : V) (w : World) (e : Ending) (w' : World) : Prop :=
  ∃ g, e = .returned (.tuple #[g, .bool true]) ∧ GV w' (fun r => w.heap.size ≤ r) x g ∧ Below w.heap.size w w'

section
variable (h : Int) (t : ByteArray) (ls : List V) (ks : List ByteArray) (vs : List V) (la ka va : Option Addr) (n1 lc n2 kc n3 vc : Nat) (w : World)

set_option maxHeartbeats 400000 in
theorem toGo_0 : Calls Tryz.prog 43 #[.agg #[.int .i64 0, .int .i64 h, .string t, .slice la n1 lc, .slice ka n2 kc, .slice va n3 vc]] w (ToGo (.mk 0 h t ls ks vs) w) := by
  go_enter Tryz.func43, Tryz.ntmps43
  go_wp2
  go_returns
  exact ⟨_, rfl, by rw [GV]; exact .inl ⟨rfl, rfl⟩, by go_grown⟩
set_option maxHeartbeats 400000 in
theorem toGo_1 : Calls Tryz.prog 43 #[.agg #[.int .i64 1, .int .i64 h, .string t, .slice la n1 lc, .slice ka n2 kc, .slice va n3 vc]] w (ToGo (.mk 1 h t ls ks vs) w) := by
  go_enter Tryz.func43, Tryz.ntmps43
  go_wp2
  go_returns
  exact ⟨_, rfl, by rw [GV]; exact .inr (.inl ⟨rfl, rfl⟩), by go_grown⟩
set_option maxHeartbeats 400000 in
theorem toGo_2 : Calls Tryz.prog 43 #[.agg #[.int .i64 2, .int .i64 h, .string t, .slice la n1 lc, .slice ka n2 kc, .slice va n3 vc]] w (ToGo (.mk 2 h t ls ks vs) w) := by
  go_enter Tryz.func43, Tryz.ntmps43
  go_wp2
  go_returns
  exact ⟨_, rfl, by rw [GV]; exact .inr (.inr (.inl ⟨rfl, rfl⟩)), by go_grown⟩
set_option maxHeartbeats 400000 in
theorem toGo_4 : Calls Tryz.prog 43 #[.agg #[.int .i64 4, .int .i64 h, .string t, .slice la n1 lc, .slice ka n2 kc, .slice va n3 vc]] w (ToGo (.mk 4 h t ls ks vs) w) := by
  go_enter Tryz.func43, Tryz.ntmps43
  go_wp2
  go_returns
  exact ⟨_, rfl, by rw [GV]; exact .inr (.inr (.inr (.inr (.inl ⟨rfl, rfl⟩)))), by go_grown⟩

theorem tmod_even {h : Int} (he : h % 2 = 0) : h.tmod 2 = 0 := Int.tmod_eq_zero_of_dvd (Int.dvd_of_emod_eq_zero he)
theorem tmod_odd {h : Int} (he : h % 2 ≠ 0) : h.tmod 2 ≠ 0 := fun e => he (Int.emod_eq_zero_of_dvd (Int.dvd_of_tmod_eq_zero e))

set_option maxHeartbeats 400000 in
theorem toGo_3e (hlo : -18014398509481984 ≤ h) (hhi : h ≤ 18014398509481984) (he : h % 2 = 0) : Calls Tryz.prog 43 #[.agg #[.int .i64 3, .int .i64 h, .string t, .slice la n1 lc, .slice ka n2 kc, .slice va n3 vc]] w (ToGo (.mk 3 h t ls ks vs) w) := by
  have e1 := tmod_even he
  have e2 : h.tdiv 2 = h / 2 := Int.tdiv_eq_ediv_of_dvd (Int.dvd_of_emod_eq_zero he)
  have HE := Lib.hid he
  clear he
  have hw : wrap64 (h / 2) = h / 2 := by unfold wrap64; omega
  go_enter Tryz.func43, Tryz.ntmps43
  go_wp2
  go_returns
  refine ⟨_, rfl, ?_, by go_grown⟩
  rw [GV]
  exact .inr (.inr (.inr (.inl ⟨rfl, by rw [gnum, if_pos HE.out]; rfl⟩)))

set_option maxHeartbeats 400000 in
theorem toGo_3o (hlo : -9007199254740992 < h) (hhi : h < 9007199254740992) (he : h % 2 ≠ 0) : Calls Tryz.prog 43 #[.agg #[.int .i64 3, .int .i64 h, .string t, .slice la n1 lc, .slice ka n2 kc, .slice va n3 vc]] w (ToGo (.mk 3 h t ls ks vs) w) := by
  have e1 : (h.tmod 2 == 0) = false := by simpa using tmod_odd he
  obtain ⟨s, M, k, H⟩ := half_of h (by omega) (by unfold B; omega)
  have hq : ∀ w : World, (binOp .quo 65 (.float .f64 (floatOfInt .f64 h)) (.float .f64 4611686018427387904)).run Tryz.prog w = .ok (.float .f64 (fl h)) w := fun w => run_float_arith w .quo 65 .f64 _ _ _ (div_two H)
  have HE := Lib.hid he
  clear he H
  go_enter Tryz.func43, Tryz.ntmps43
  go_wp2
  go_returns
  refine ⟨_, rfl, ?_, by go_grown⟩
  rw [GV]
  exact .inr (.inr (.inr (.inl ⟨rfl, by rw [gnum, if_neg HE.out]; rfl⟩)))
end

end Go.Proofs.YtnlndpgbhmkanaaGreatDoor.Va
