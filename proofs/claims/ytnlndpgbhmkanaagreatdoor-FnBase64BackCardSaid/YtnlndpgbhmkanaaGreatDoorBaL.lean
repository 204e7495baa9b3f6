/-
  THE WALK of DecodeString, without padding.
-/
import Derived.Test.YtnlndpgbhmkanaaGreatDoorBaJ
import Derived.Test.YtnlndpgbhmkanaaGreatDoorBaE
namespace Go.Proofs.YtnlndpgbhmkanaaGreatDoor.Ba
open Go.RowKit Go.Proofs.YtnlndpgbhmkanaaGreatDoor.Va
set_option linter.unusedVariables false
set_option linter.unusedSimpArgs false

def Done0 (w : World) (e : Ending) (w' : World) : Prop := e = .returned (.tuple #[.int .i64 0, .nilIface]) ∧ w = w'
set_option maxRecDepth 100000 in
theorem dec_none (p d : Value) (a : Option Addr) (c : Nat) (w : World) : Calls Tryz.prog 191 #[p, d, .slice a 0 c] w (Done0 w) := by
  go_enter Tryz.func191, Tryz.ntmps191
  go_wp2_with fail
  go_returns
  exact ⟨rfl, rfl⟩

def DecSEnd (l : List Nat) (w : World) (e : Ending) (w' : World) : Prop :=
  ∃ (out : List Nat) (ok : Bool) (ev : Value) (b cap : Nat), runD l (l.length + 1) 0 [] = (out, ok) ∧ out.length ≤ cap ∧ out.length ≤ 4294967296 ∧ e = .returned (.tuple #[.slice (some ⟨b, 0, none⟩) out.length cap, ev]) ∧ ((ok = true ∧ ev = .nilIface) ∨ (ok = false ∧ ∃ v, ev = .iface 285 v)) ∧
    (∀ j, j < out.length → w'.cell? ⟨b, j, none⟩ = some (.int .u8 ((out.getD j 0 : Nat) : Int))) ∧ Below w.heap.size w w'

set_option maxHeartbeats 1000000 in
set_option maxRecDepth 100000 in
theorem decS_any (be : Nat) (s : ByteArray) (hs : s.size ≤ 2147483647) (w : World) (he : w.rowIs be 197 322 (encF 64 (-1))) :
    Calls Tryz.prog 160 #[.pointer (some ⟨be, 0, none⟩), .string s] w (DecSEnd (bytesN s) w) := by
  obtain ⟨n, hn⟩ : ∃ n, s.size = n := ⟨_, rfl⟩
  have hmk := run_make_row' (P := Tryz.prog) 73 5 (.int .u8 0) 1 Tryz.underlying73 info8 rfl .i64 .i64 (n / 4 * 3 + n % 4 * 6 / 8) (by omega) (by omega)
  have HMK := Lib.hid hmk
  have HEN := Lib.hid (decLen_any be n w he (by omega))
  have HE := Lib.hid he
  have HSZ := Lib.hid hn
  clear hmk he
  obtain ⟨N, hN⟩ : ∃ N, n / 4 * 3 + n % 4 * 6 / 8 = N := ⟨_, rfl⟩
  rw [hN] at HMK HEN
  have HNV := Lib.hid hN
  have hN2 : N ≤ 4294967295 := by omega
  clear hN
  rw [hn] at hs
  go_enter Tryz.func160, Tryz.ntmps160
  go_wp2_with fail
  refine HEN.out.mono ?_
  rintro e w1 ⟨rfl, rfl⟩
  have hmk := HMK.out
  go_upto_region 2 with fail
  clear hmk
  generalize hW : World.alloc w _ = W
  have HD : Hid (W.rowIs w.heap.size 5 N (fun _ => .int .u8 0)) := Lib.hid (hW ▸ World.rowIs_made w (.int .u8 0) N 5)
  have BW := Lib.hid (hW ▸ below_alloc w _ : Below w.heap.size w W)
  have hWs : W.heap.size = w.heap.size + 1 := by rw [← hW, World.size_alloc]
  have HWS := Lib.hid hWs
  clear hW hWs HMK HEN hn
  have hcv := Lib.run_convert_string_bytes (P := Tryz.prog) W 9 73 5 s Tryz.underlying9 Tryz.underlying73 Tryz.underlying5
  obtain ⟨cap, hcap⟩ : ∃ cap, grownCap W s.size 0 5 = cap := ⟨_, rfl⟩
  have hge := grownCap_ge W s.size 0 5
  have hle := grownCap_le_maxLen W s.size 0 5 (by unfold maxLen; have := HSZ.out; omega)
  rw [hcap] at hcv hge hle
  unfold maxLen at hle
  rw [HSZ.out] at hcv hge
  clear hcap
  have BW2 := Lib.hid (BW.out.trans ((below_bytes W 5 s).mono (BW.out.size)) : Below w.heap.size w (Lib.bytesWorld W 5 s))
  by_cases h0 : n = 0
  · subst h0
    obtain rfl : N = 0 := by have := HNV.out; omega
    have hl : bytesN s = [] := List.eq_nil_of_length_eq_zero (by rw [bytesN_len]; exact HSZ.out)
    have HL := Lib.hid hl
    clear hl
    go_wp2_with fail
    clear hcv
    refine (dec_none _ _ _ _ _).mono ?_
    rintro e w2 ⟨rfl, rfl⟩
    go_wp2_with fail
    go_returns
    rw [HL.out]
    exact ⟨[], true, _, w.heap.size, 0, rfl, Nat.le_refl _, by decide, rfl, .inl ⟨rfl, rfl⟩, fun j hj => absurd hj (by simp), BW2.out⟩
  · go_wp2_with fail
    clear hcv
    refine (dec_any be W.heap.size w.heap.size 0 n N cap (bytesN s) ((bytesN_len s).trans HSZ.out) (bytesN_lt s) hs (by omega) hge hle HNV.out.symm _ (HE.out.of_block (BW2.out.block be HE.out.lt)) (fun i hi => by rw [Nat.zero_add, Lib.bytesWorld_cell W 5 s i (by rw [HSZ.out]; exact hi), bytesN_at s i (by rw [HSZ.out]; exact hi)]) (HD.out.of_block (Lib.bytesWorld_at_old _ _ _ _ (by rw [HWS.out]; omega))) (by have := HE.out.lt; omega) (by rw [HWS.out]; omega) (by rw [Lib.bytesWorld_size]; omega)).mono ?_
    rintro e w2 ⟨out, ok, ev, hrun, hfit, rfl, hev, hrow, hgr⟩
    have HRUN := Lib.hid hrun
    have HEV := Lib.hid hev
    have HROW := Lib.hid hrow
    have B2 : Hid (Below w.heap.size w w2) := Lib.hid (BW2.out.grown hgr BW2.out.size (fun k e => by obtain rfl := Option.some.inj e; exact Nat.le_refl _))
    obtain ⟨m, hm⟩ : ∃ m, out.length = m := ⟨_, rfl⟩
    have HM := Lib.hid hm
    rw [hm] at hfit ⊢
    clear hrun hev hrow hgr hm
    go_wp2_with fail
    go_returns
    obtain ⟨g, hrow, hg⟩ := HROW.out
    refine ⟨out, ok, ev, w.heap.size, N, ?_, by rw [HM.out]; exact hfit, by rw [HM.out]; omega, by rw [HM.out]; rfl, HEV.out, fun j hj => ?_, B2.out⟩
    · rw [show (bytesN s).length = n from (bytesN_len s).trans HSZ.out]
      exact HRUN.out
    · rw [hrow.cell (by rw [HM.out] at hj; omega), hg j hj]
end Go.Proofs.YtnlndpgbhmkanaaGreatDoor.Ba
