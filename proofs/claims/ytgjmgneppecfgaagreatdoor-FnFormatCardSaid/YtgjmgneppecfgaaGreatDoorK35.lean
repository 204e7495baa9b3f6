/-
  FnFormat, texts BaL BaM McU VaX: lemmas for the law; the theorem stands in the last text.
-/
import Derived.Laws.RangeAny
import Derived.Test.YtgjmgneppecfgaaGreatDoorK02
import Derived.Test.YtgjmgneppecfgaaGreatDoorK04
import Derived.Test.YtgjmgneppecfgaaGreatDoorK07
import Derived.Test.YtgjmgneppecfgaaGreatDoorK26
import Derived.Test.YtgjmgneppecfgaaGreatDoorK34
namespace Go.Proofs.YtgjmgneppecfgaaGreatDoor.Ba
open Go.RowKit Go.Proofs.YtgjmgneppecfgaaGreatDoor.Va
set_option linter.unusedVariables false
set_option linter.unusedSimpArgs false

def Done0 (w : World) (e : Ending) (w' : World) : Prop := e = .returned (.tuple #[.int .i64 0, .nilIface]) ∧ w = w'
set_option maxRecDepth 100000 in
theorem dec_none (p d : Value) (a : Option Addr) (c : Nat) (w : World) : Calls Tryz.prog 191 #[p, d, .slice a 0 c] w (Done0 w) := by
  go_enter Tryz.func191, Tryz.ntmps191
  go_wp2_with fail
  go_returns
  exact ⟨rfl, rfl⟩

def DecSEnd (l : List Nat) (w : World) (e : Ending) (w' : World) : Prop :=
  ∃ (out : List Nat) (ok : Bool) (ev : Value) (b cap : Nat), runD l (l.length + 1) 0 [] = (out, ok) ∧ out.length ≤ cap ∧ out.length ≤ 4294967296 ∧ e = .returned (.tuple #[.slice (some ⟨b, 0, none⟩) out.length cap, ev]) ∧ ((ok = true ∧ ev = .nilIface) ∨ (ok = false ∧ ∃ v, ev = .iface 285 v)) ∧
    (∀ j, j < out.length → w'.cell? ⟨b, j, none⟩ = some (.int .u8 ((out.getD j 0 : Nat) : Int))) ∧ Below w.heap.size w w'

set_option maxHeartbeats 1000000 in
set_option maxRecDepth 100000 in
theorem decS_any (be : Nat) (s : ByteArray) (hs : s.size ≤ 2147483647) (w : World) (he : w.rowIs be 197 322 (encF 64 (-1))) :
    Calls Tryz.prog 160 #[.pointer (some ⟨be, 0, none⟩), .string s] w (DecSEnd (bytesN s) w) := by
  obtain ⟨n, hn⟩ : ∃ n, s.size = n := ⟨_, rfl⟩
  have hmk := run_make_row' (P := Tryz.prog) 73 5 (.int .u8 0) 1 Tryz.underlying73 info8 rfl .i64 .i64 (n / 4 * 3 + n % 4 * 6 / 8) (by omega) (by omega)
  have HMK := Lib.hid hmk
  have HEN := Lib.hid (decLen_any be n w he (by omega))
  have HE := Lib.hid he
  have HSZ := Lib.hid hn
  clear hmk he
  obtain ⟨N, hN⟩ : ∃ N, n / 4 * 3 + n % 4 * 6 / 8 = N := ⟨_, rfl⟩
  rw [hN] at HMK HEN
  have HNV := Lib.hid hN
  have hN2 : N ≤ 4294967295 := by omega
  clear hN
  rw [hn] at hs
  go_enter Tryz.func160, Tryz.ntmps160
  go_wp2_with fail
  refine HEN.out.mono ?_
  rintro e w1 ⟨rfl, rfl⟩
  have hmk := HMK.out
  go_upto_region 2 with fail
  clear hmk
  generalize hW : World.alloc w _ = W
  have HD : Hid (W.rowIs w.heap.size 5 N (fun _ => .int .u8 0)) := Lib.hid (hW ▸ World.rowIs_made w (.int .u8 0) N 5)
  have BW := Lib.hid (hW ▸ below_alloc w _ : Below w.heap.size w W)
  have hWs : W.heap.size = w.heap.size + 1 := by rw [← hW, World.size_alloc]
  have HWS := Lib.hid hWs
  clear hW hWs HMK HEN hn
  have hcv := Lib.run_convert_string_bytes (P := Tryz.prog) W 9 73 5 s Tryz.underlying9 Tryz.underlying73 Tryz.underlying5
  obtain ⟨cap, hcap⟩ : ∃ cap, grownCap W s.size 0 5 = cap := ⟨_, rfl⟩
  have hge := grownCap_ge W s.size 0 5
  have hle := grownCap_le_maxLen W s.size 0 5 (by unfold maxLen; have := HSZ.out; omega)
  rw [hcap] at hcv hge hle
  unfold maxLen at hle
  rw [HSZ.out] at hcv hge
  clear hcap
  have BW2 := Lib.hid (BW.out.trans ((below_bytes W 5 s).mono (BW.out.size)) : Below w.heap.size w (Lib.bytesWorld W 5 s))
  by_cases h0 : n = 0
  · subst h0
    obtain rfl : N = 0 := by have := HNV.out; omega
    have hl : bytesN s = [] := List.eq_nil_of_length_eq_zero (by rw [bytesN_len]; exact HSZ.out)
    have HL := Lib.hid hl
    clear hl
    go_wp2_with fail
    clear hcv
    refine (dec_none _ _ _ _ _).mono ?_
    rintro e w2 ⟨rfl, rfl⟩
    go_wp2_with fail
    go_returns
    rw [HL.out]
    exact ⟨[], true, _, w.heap.size, 0, rfl, Nat.le_refl _, by decide, rfl, .inl ⟨rfl, rfl⟩, fun j hj => absurd hj (by simp), BW2.out⟩
  · go_wp2_with fail
    clear hcv
    refine (dec_any be W.heap.size w.heap.size 0 n N cap (bytesN s) ((bytesN_len s).trans HSZ.out) (bytesN_lt s) hs (by omega) hge hle HNV.out.symm _ (HE.out.of_block (BW2.out.block be HE.out.lt)) (fun i hi => by rw [Nat.zero_add, Lib.bytesWorld_cell W 5 s i (by rw [HSZ.out]; exact hi), bytesN_at s i (by rw [HSZ.out]; exact hi)]) (HD.out.of_block (Lib.bytesWorld_at_old _ _ _ _ (by rw [HWS.out]; omega))) (by have := HE.out.lt; omega) (by rw [HWS.out]; omega) (by rw [Lib.bytesWorld_size]; omega)).mono ?_
    rintro e w2 ⟨out, ok, ev, hrun, hfit, rfl, hev, hrow, hgr⟩
    have HRUN := Lib.hid hrun
    have HEV := Lib.hid hev
    have HROW := Lib.hid hrow
    have B2 : Hid (Below w.heap.size w w2) := Lib.hid (BW2.out.grown hgr BW2.out.size (fun k e => by obtain rfl := Option.some.inj e; exact Nat.le_refl _))
    obtain ⟨m, hm⟩ : ∃ m, out.length = m := ⟨_, rfl⟩
    have HM := Lib.hid hm
    rw [hm] at hfit ⊢
    clear hrun hev hrow hgr hm
    go_wp2_with fail
    go_returns
    obtain ⟨g, hrow, hg⟩ := HROW.out
    refine ⟨out, ok, ev, w.heap.size, N, ?_, by rw [HM.out]; exact hfit, by rw [HM.out]; omega, by rw [HM.out]; rfl, HEV.out, fun j hj => ?_, B2.out⟩
    · rw [show (bytesN s).length = n from (bytesN_len s).trans HSZ.out]
      exact HRUN.out
    · rw [hrow.cell (by rw [HM.out] at hj; omega), hg j hj]
end Go.Proofs.YtgjmgneppecfgaaGreatDoor.Ba
namespace Go.Proofs.YtgjmgneppecfgaaGreatDoor.Ba
open Go.RowKit Go.Proofs.YtgjmgneppecfgaaGreatDoor.Va
set_option linter.unusedVariables false
set_option linter.unusedSimpArgs false

theorem bytesN_extract (s : ByteArray) (p : Nat) : bytesN (s.extract 0 p) = (bytesN s).take p := by
  unfold bytesN
  rw [ByteArray.data_extract, Array.toList_extract, List.map_take]
  simp [List.extract]
end Go.Proofs.YtgjmgneppecfgaaGreatDoor.Ba
namespace Go.Proofs.YtgjmgneppecfgaaGreatDoor.Mc
open Go.RowKit Go.Proofs.YtgjmgneppecfgaaGreatDoor.Va Go.Proofs.YtgjmgneppecfgaaGreatDoor.Ba Go.Proofs.YtgjmgneppecfgaaGreatDoor.Ma Go.Proofs.YtgjmgneppecfgaaGreatDoor.Fo
set_option linter.unusedVariables false
set_option linter.unusedSimpArgs false

set_option maxHeartbeats 1000000 in
set_option maxRecDepth 100000 in
theorem toB64_v (s : ByteArray) (hs : s.size ≤ 2147483647) (g : Value) (w : World) (HJ : Hid (Calls Tryz.prog 155 #[g] w (IStr s w))) : Calls Tryz.prog 103 #[g] w (IStr (numS (encB (bytesN s))) w) := by
  go_enter Tryz.func103, Tryz.ntmps103
  go_wp2_with fail
  refine HJ.out.mono ?_
  rintro e w1 ⟨rfl, hb1⟩
  have B1 := Lib.hid hb1
  clear hb1
  go_wp2_with fail
  refine (new_any w1).mono ?_
  rintro e w2 ⟨rfl, hb2, hr2⟩
  have B2 := Lib.hid (B1.out.trans (hb2.mono B1.out.size))
  have HR := Lib.hid hr2
  have HW1 := Lib.hid hr2.lt
  clear hb2 hr2
  have hcv := Lib.run_convert_string_bytes (P := Tryz.prog) w2 9 73 5 s Tryz.underlying9 Tryz.underlying73 Tryz.underlying5
  obtain ⟨cap, hcap⟩ : ∃ cap, grownCap w2 s.size 0 5 = cap := ⟨_, rfl⟩
  have hge := grownCap_ge w2 s.size 0 5
  have hle := grownCap_le_maxLen w2 s.size 0 5 (by unfold maxLen; omega)
  rw [hcap] at hcv hge hle
  unfold maxLen at hle
  clear hcap
  go_wp2_with fail
  clear hcv
  refine (encS_any w1.heap.size w2.heap.size 0 s.size cap (bytesN s) (bytesN_len s) (bytesN_lt s) hs hge hle _ (HR.out.of_block (Lib.bytesWorld_at_old _ _ _ _ HW1.out)) (fun i hi => ?_) (by rw [Lib.bytesWorld_size]; omega)).mono ?_
  · rw [Nat.zero_add, Lib.bytesWorld_cell w2 5 s i hi, bytesN_at s i hi]
  rintro e w3 ⟨rfl, hb3⟩
  have B3 := Lib.hid (B2.out.trans (((below_bytes w2 5 s).trans (hb3.mono (below_bytes w2 5 s).size)).mono B2.out.size))
  clear hb3
  go_wp2_with fail
  go_returns
  exact ⟨rfl, B3.out⟩
def Asc (s : ByteArray) : Prop := ∀ x ∈ bytesN s, x < 128
/-- where the first '=' is, at an ASCII text; a place, at any -/
def IdxEnd2 (s : ByteArray) (w : World) (e : Ending) (w' : World) : Prop :=
  ∃ p, p ≤ s.size ∧ (Asc s → ∀ j, j < p → (bytesN s).getD j 0 ≠ 61) ∧ ((p = s.size ∧ e = .returned (.int .i64 (-1))) ∨ (p < s.size ∧ (Asc s → (bytesN s).getD p 0 = 61) ∧ e = .returned (.int .i64 (p : Int)))) ∧ Below w.heap.size w w'
theorem run_next_dec {P : Program} (w : World) (s : ByteArray) (pos : Nat) (ty : TypeId) (h : pos < s.size) :
    (Instr.next (.pointer (some ⟨w.heap.size, 0, none⟩)) true ty).run P (w.iter s pos) =
      .ok (.tuple #[.bool true, .int .i64 pos, .int .i32 ((Utf8.decode s pos).1 : Nat)]) (w.iter s (pos + (Utf8.decode s pos).2)) := by
  simp only [Instr.next, getObj, setObj, Sem.run_bind, Sem.run, World.iter_heap, Result.andThen, h, if_true, World.iter_set]
  simp [goInt, Sem.run, World.iter_heap, World.iter_set]
def LoopIw (s : ByteArray) (w wr : World) : Prop := ∃ i, wr = w.iter s i
set_option maxHeartbeats 2000000 in
set_option maxRecDepth 100000 in
theorem idx_weak (s : ByteArray) (hs : s.size ≤ 4294967296) (w : World) : Calls Tryz.prog 158 #[.string s, .int .i32 61] w (fun e w' => (e = .returned (.int .i64 (-1)) ∨ ∃ p : Nat, p < s.size ∧ e = .returned (.int .i64 (p : Int))) ∧ Below w.heap.size w w') := by
  go_enter Tryz.func158, Tryz.ntmps158
  go_wp2_with fail
  go_loopw [5] (fun _ wr => LoopIw s w wr) (fun _ wr => s.size - wr.iterPos w.heap.size)
  case atStart => exact ⟨0, rfl⟩
  case round =>
    obtain ⟨i, rfl⟩ := hrel
    have hmu : (w.iter s i).iterPos w.heap.size = i := by simp [World.iterPos, World.iter_heap]
    by_cases hlt : i < s.size
    · have hnx := fun ty => run_next_dec (P := Tryz.prog) w s i ty hlt
      have hk := Lib.width_pos s i
      have hr := decode_le s i
      obtain ⟨k, hke⟩ : ∃ k, (Utf8.decode s i).2 = k := ⟨_, rfl⟩
      obtain ⟨r, hre⟩ : ∃ r, (Utf8.decode s i).1 = r := ⟨_, rfl⟩
      rw [hke, hre] at hnx
      rw [hke] at hk
      rw [hre] at hr
      have hmu2 : (w.iter s (i + k)).iterPos w.heap.size = i + k := by simp [World.iterPos, World.iter_heap]
      clear hke hre
      by_cases h61 : r = 61
      · subst h61
        go_wp2_with fail
        go_returns
        exact ⟨.inr ⟨i, hlt, rfl⟩, below_alloc w _⟩
      · have hc1 : ((r : Int) == 61) = false := by simp; omega
        have hc2 : ¬ (r : Int) = 61 := by omega
        go_wp2_with fail
        go_roundw
        case rel => exact ⟨i + k, rfl⟩
        case measure => rw [hmu, hmu2]; omega
    · have hnx := fun ty => run_next_end (P := Tryz.prog) w s i ty hlt
      go_wp2_with fail
      go_returns
      exact ⟨.inl rfl, below_alloc w _⟩
theorem idx2_any (s : ByteArray) (hs : s.size ≤ 4294967296) (w : World) : Calls Tryz.prog 158 #[.string s, .int .i32 61] w (IdxEnd2 s w) := by
  by_cases hA : Asc s
  · refine (idx_any s hs hA w).mono ?_
    rintro e w' ⟨p, h1, h2, h3, h4⟩
    refine ⟨p, h1, fun _ => h2, ?_, h4⟩
    rcases h3 with h | ⟨h5, h6, h7⟩
    · exact .inl h
    · exact .inr ⟨h5, fun _ => h6, h7⟩
  · refine (idx_weak s hs w).mono ?_
    rintro e w' ⟨h | ⟨p, hp, h⟩, hb⟩
    · exact ⟨s.size, Nat.le_refl _, fun h => absurd h hA, .inl ⟨rfl, h⟩, hb⟩
    · exact ⟨p, Nat.le_of_lt hp, fun h => absurd h hA, .inr ⟨hp, fun h => absurd h hA, h⟩, hb⟩

def From64A (s : ByteArray) (w : World) (e : Ending) (w' : World) : Prop :=
  ∃ (p : Nat) (out : List Nat) (ok : Bool), p ≤ s.size ∧ (Asc s → ∀ j, j < p → (bytesN s).getD j 0 ≠ 61) ∧ (Asc s → p = s.size ∨ (p < s.size ∧ (bytesN s).getD p 0 = 61)) ∧ runD ((bytesN s).take p) (((bytesN s).take p).length + 1) 0 [] = (out, ok) ∧
    ((ok = true ∧ e = .returned (.iface 9 (.string (numS out)))) ∨ (ok = false ∧ ∃ a, e = .returned (.iface 170 (.pointer (some a))))) ∧ Below w.heap.size w w'
set_option maxHeartbeats 2000000 in
set_option maxRecDepth 100000 in
theorem fromB64_v (s : ByteArray) (hs : s.size ≤ 2147483647) (g : Value) (hsh : g = .nilIface ∨ ∃ tv xv, g = .iface tv xv) (w : World) (HJ : Hid (Calls Tryz.prog 155 #[g] w (IStr s w))) : Calls Tryz.prog 104 #[g] w (From64A s w) := by
  have HIDX := Lib.hid (fun w1 => idx2_any s (by omega) w1)
  obtain ⟨n, hn⟩ : ∃ n, s.size = n := ⟨_, rfl⟩
  have HSZ := Lib.hid hn
  rw [hn] at hs
  go_enter Tryz.func104, Tryz.ntmps104
  go_wp2_with fail
  refine HJ.out.mono ?_
  rintro e w1 ⟨rfl, hb1⟩
  have B1 := Lib.hid hb1
  clear hb1
  go_wp2_with fail
  refine (HIDX.out w1).mono ?_
  rintro e w2 ⟨p, hps, hno, hres, hb2⟩
  have B2 := Lib.hid (B1.out.trans (hb2.mono B1.out.size))
  have HNO := Lib.hid hno
  have hL : ∃ t : ByteArray, t = s.extract 0 p := ⟨_, rfl⟩
  obtain ⟨t, ht⟩ := hL
  have HT := Lib.hid ht
  have HTB : Hid (bytesN t = (bytesN s).take p) := Lib.hid (by rw [ht, bytesN_extract])
  have hts : t.size ≤ n := by
    have := congrArg List.length HTB.out
    rw [bytesN_len, List.length_take, bytesN_len, hn] at this
    omega
  have hfull : p = n → t = s := fun e => by
    rw [ht, e, ← hn]
    exact ByteArray.extract_zero_size
  have HFULL := Lib.hid hfull
  rw [hn] at hps hres
  clear hno hb2 ht hfull HIDX
  have HTS := Lib.hid hts
  have HPR : Hid (Asc s → p = s.size ∨ (p < s.size ∧ (bytesN s).getD p 0 = 61)) := Lib.hid (fun hA => by
    rcases hres with ⟨h, _⟩ | ⟨h1, h2, _⟩
    · exact .inl (by rw [hn]; exact h)
    · exact .inr ⟨by rw [hn]; exact h1, h2 hA⟩)
  have HPS := Lib.hid hps
  clear hts
  rcases hres with ⟨hpe, rfl⟩ | ⟨hlt, heq, rfl⟩
  · have hst : t = s := HFULL.out hpe
    subst hst
    clear hpe hn
    go_wp2_with fail
    refine (new_any w2).mono ?_
    rintro e w3 ⟨rfl, hb3, hr3⟩
    have B3 := Lib.hid (B2.out.trans (hb3.mono B2.out.size))
    have HR := Lib.hid hr3
    clear hb3 hr3
    go_wp2_with (refine wpList_load_part rfl 197 (.tmp 23) rfl w2.heap.size 0 322 322 rfl 197 (encF 64 61) HR.out (by decide) _ Tryz.underlying197 rfl (by kernel_rfl) ?_; intro cs hcs hcz; have HCS := Lib.hid hcs; have HCZ := Lib.hid hcz; clear hcs hcz)
    refine (pad_any cs HCZ.out (fun i hi => by rw [HCS.out i hi, Nat.zero_add]) w3).mono ?_
    rintro e w4 ⟨b, rfl, _, hb4, hr4⟩
    have B4 := Lib.hid (B3.out.trans (hb4.mono B3.out.size))
    have HR4 := Lib.hid hr4
    clear hb4 hr4 HCS HCZ
    go_wp2_with fail
    refine (decS_any b t (by have := HTS.out; omega) w4 HR4.out).mono ?_
    rintro e w5 ⟨out, ok, ev, bb, cap, hrun, hcap, hbig, rfl, hev, hcell, hb5⟩
    have B5 := Lib.hid (B4.out.trans (hb5.mono B4.out.size))
    have HRUN := Lib.hid hrun
    have HCELL := Lib.hid hcell
    clear hb5 hrun hcell
    rcases hev with ⟨rfl, rfl⟩ | ⟨rfl, v, rfl⟩
    · obtain ⟨m, hm⟩ : ∃ m, out.length = m := ⟨_, rfl⟩
      have HM := Lib.hid hm
      have g := run_convert_bytes_arg (P := Tryz.prog) w5 73 5 Tryz.underlying73 Tryz.underlying5 bb 0 m cap (out.map fun x : Nat => (x : Int)) (by rw [List.length_map]; exact hm)
        (fun i hi => by
          rw [Nat.zero_add, HCELL.out i (by rw [HM.out]; exact hi)]
          simp [List.getD, List.getElem?_eq_getElem (show i < out.length by rw [HM.out]; exact hi)]) 9 Tryz.underlying9
      rw [hm] at hcap hbig ⊢
      clear hm
      go_wp2_with fail
      go_returns
      exact ⟨p, out, true, by rw [HSZ.out]; exact HPS.out, HNO.out, HPR.out, by rw [← HTB.out]; exact HRUN.out, .inl ⟨rfl, rfl⟩, B5.out⟩
    · rcases hsh with rfl | ⟨tv, xv, rfl⟩
      all_goals
        go_wp2_with fail
        go_returns
        exact ⟨p, out, false, by rw [HSZ.out]; exact HPS.out, HNO.out, HPR.out, by rw [← HTB.out]; exact HRUN.out, .inr ⟨rfl, _, rfl⟩, (by first | exact B5.out | exact B5.out.trans ((below_alloc _ _).mono B5.out.size))⟩
  · clear heq
    have hex : s.extract 0 p = t := HT.out.symm
    go_wp2_with fail
    refine (new_any w2).mono ?_
    rintro e w3 ⟨rfl, hb3, hr3⟩
    have B3 := Lib.hid (B2.out.trans (hb3.mono B2.out.size))
    have HR := Lib.hid hr3
    clear hb3 hr3
    go_wp2_with (refine wpList_load_part rfl 197 (.tmp 23) rfl w2.heap.size 0 322 322 rfl 197 (encF 64 61) HR.out (by decide) _ Tryz.underlying197 rfl (by kernel_rfl) ?_; intro cs hcs hcz; have HCS := Lib.hid hcs; have HCZ := Lib.hid hcz; clear hcs hcz)
    refine (pad_any cs HCZ.out (fun i hi => by rw [HCS.out i hi, Nat.zero_add]) w3).mono ?_
    rintro e w4 ⟨b, rfl, _, hb4, hr4⟩
    have B4 := Lib.hid (B3.out.trans (hb4.mono B3.out.size))
    have HR4 := Lib.hid hr4
    clear hb4 hr4 HCS HCZ
    go_wp2_with fail
    refine (decS_any b t (by have := HTS.out; omega) w4 HR4.out).mono ?_
    rintro e w5 ⟨out, ok, ev, bb, cap, hrun, hcap, hbig, rfl, hev, hcell, hb5⟩
    have B5 := Lib.hid (B4.out.trans (hb5.mono B4.out.size))
    have HRUN := Lib.hid hrun
    have HCELL := Lib.hid hcell
    clear hb5 hrun hcell
    rcases hev with ⟨rfl, rfl⟩ | ⟨rfl, v, rfl⟩
    · obtain ⟨m, hm⟩ : ∃ m, out.length = m := ⟨_, rfl⟩
      have HM := Lib.hid hm
      have g := run_convert_bytes_arg (P := Tryz.prog) w5 73 5 Tryz.underlying73 Tryz.underlying5 bb 0 m cap (out.map fun x : Nat => (x : Int)) (by rw [List.length_map]; exact hm)
        (fun i hi => by
          rw [Nat.zero_add, HCELL.out i (by rw [HM.out]; exact hi)]
          simp [List.getD, List.getElem?_eq_getElem (show i < out.length by rw [HM.out]; exact hi)]) 9 Tryz.underlying9
      rw [hm] at hcap hbig ⊢
      clear hm
      go_wp2_with fail
      go_returns
      exact ⟨p, out, true, by rw [HSZ.out]; exact HPS.out, HNO.out, HPR.out, by rw [← HTB.out]; exact HRUN.out, .inl ⟨rfl, rfl⟩, B5.out⟩
    · rcases hsh with rfl | ⟨tv, xv, rfl⟩
      all_goals
        go_wp2_with fail
        go_returns
        exact ⟨p, out, false, by rw [HSZ.out]; exact HPS.out, HNO.out, HPR.out, by rw [← HTB.out]; exact HRUN.out, .inr ⟨rfl, _, rfl⟩, (by first | exact B5.out | exact B5.out.trans ((below_alloc _ _).mono B5.out.size))⟩
end Go.Proofs.YtgjmgneppecfgaaGreatDoor.Mc
namespace Go.Proofs.YtgjmgneppecfgaaGreatDoor.Va
open Go.RowKit
set_option linter.unusedVariables false
set_option linter.unusedSimpArgs false

section
variable (t0 n0 : Int) (tx : ByteArray) (la ka va : Option Addr) (l1 l2 l3 lc kc vc : Nat) (t0' n0' : Int) (tx' : ByteArray) (la' ka' va' : Option Addr) (l1' l2' l3' lc' kc' vc' : Nat) (w : World)

set_option maxHeartbeats 1000000 in
/-- an answer that is a value, and that one -/
theorem told_fine (x : V) (H : CW x) (S : Nat → Prop) (h1 : RV w S x (.agg #[.int .i64 t0, .int .i64 n0, .string tx, .slice la l1 lc, .slice ka l2 kc, .slice va l3 vc])) (h2 : RV w S x (.agg #[.int .i64 t0', .int .i64 n0', .string tx', .slice la' l1' lc', .slice ka' l2' kc', .slice va' l3' vc'])) (hS : ∀ b, S b → b < w.heap.size) :
    Calls Tryz.prog 11 #[.agg #[.int .i64 t0, .int .i64 n0, .string tx, .slice la l1 lc, .slice ka l2 kc, .slice va l3 vc, .int .i64 0], .agg #[.int .i64 t0', .int .i64 n0', .string tx', .slice la' l1' lc', .slice ka' l2' kc', .slice va' l3' vc'], .int .i64 0] w (Ret (.bool true) w) := by
  have HH := Lib.hid H
  have HS := Lib.hid hS
  have H1 := Lib.hid h1
  have H2 := Lib.hid h2
  clear H hS h1 h2
  go_enter Tryz.func11, Tryz.ntmps11
  go_wp2_with fail
  generalize hW : World.alloc (World.alloc w _) _ = W
  have hb : Below w.heap.size w W := hW ▸ (by go_grown)
  clear hW
  refine (same_any x HH.out _ _ S W (RV.mono (Same.of_below hb HS.out) (fun _ h => h) _ _ H1.out) (RV.mono (Same.of_below hb HS.out) (fun _ h => h) _ _ H2.out) (fun b h => Nat.lt_of_lt_of_le (HS.out b h) hb.size)).mono ?_
  rintro e w' ⟨rfl, hb2⟩
  have HB := Lib.hid (hb.trans (hb2.mono hb.size))
  clear hb hb2
  go_wp2_with fail
  go_returns
  exact ⟨rfl, HB.out⟩

set_option maxHeartbeats 1000000 in
/-- an error, where one is asked for -/
theorem told_error : Calls Tryz.prog 11 #[.agg #[.int .i64 t0, .int .i64 n0, .string tx, .slice la l1 lc, .slice ka l2 kc, .slice va l3 vc, .int .i64 1], .agg #[.int .i64 t0', .int .i64 n0', .string tx', .slice la' l1' lc', .slice ka' l2' kc', .slice va' l3' vc'], .int .i64 1] w (Ret (.bool true) w) := by
  go_enter Tryz.func11, Tryz.ntmps11
  go_wp2_with fail
  go_returns
  exact ⟨rfl, by go_grown⟩

set_option maxHeartbeats 1000000 in
/-- what is not said -/
theorem told_silent (r : Int) : Calls Tryz.prog 11 #[.agg #[.int .i64 t0, .int .i64 n0, .string tx, .slice la l1 lc, .slice ka l2 kc, .slice va l3 vc, .int .i64 r], .agg #[.int .i64 t0', .int .i64 n0', .string tx', .slice la' l1' lc', .slice ka' l2' kc', .slice va' l3' vc'], .int .i64 2] w (Ret (.bool true) w) := by
  go_enter Tryz.func11, Tryz.ntmps11
  go_wp2_with fail
  go_returns
  exact ⟨rfl, by go_grown⟩

end

def LoopZ (n : Nat) (w : World) (i : Value) (wr : World) : Prop := ∃ k : Nat, i = .int .i64 k ∧ k ≤ n ∧ w = wr
def Bit (w : World) (e : Ending) (w' : World) : Prop := ∃ r : Bool, e = .returned (.bool r) ∧ w = w'
def BitB (w : World) (e : Ending) (w' : World) : Prop := ∃ r : Bool, e = .returned (.bool r) ∧ Below w.heap.size w w'

set_option maxHeartbeats 1000000 in
theorem zzFits2_any (l : List ByteArray) (n : Nat) (hn : l.length = n) (hq : n ≤ 140737488355328) (a : Option Addr) (c : Nat) (S : Nat → Prop) (w : World) (h : RK w S l a) : Calls Tryz.prog 41 #[.slice a n c] w (Bit w) := by
  have HN := Lib.hid hn
  have HR := Lib.hid h
  clear hn h
  go_enter Tryz.func41, Tryz.ntmps41
  by_cases hbig : (2147483647 : Int) < n
  · go_wp2_with fail
    go_returns
    exact ⟨_, rfl, rfl⟩
  go_wp2_with fail
  go_loopw [10] (LoopZ n w) (fun i _ => n - (intOf i).toNat)
  case atStart => exact ⟨0, rfl, Nat.zero_le _, rfl⟩
  case round =>
    obtain ⟨k, rfl, hk, rfl⟩ := hrel
    by_cases hlt : k < n
    · obtain ⟨b, o, rfl⟩ := HR.out.addr (by rw [HN.out]; omega)
      obtain ⟨_, hc⟩ := RK.at l b o HR.out k (by rw [HN.out]; exact hlt)
      obtain ⟨s, hs⟩ : ∃ s, Hid (l[k]'(by rw [HN.out]; exact hlt) = s) := ⟨_, Lib.hid rfl⟩
      rw [hs.out] at hc
      by_cases hsz : (2147483647 : Int) < s.size
      · go_wp2_with fail
        go_returns
        exact ⟨_, rfl, rfl⟩
      · go_wp2_with fail
        go_roundw
        case rel => exact ⟨k + 1, rfl, hlt, rfl⟩
        case measure => simp [intOf]; omega
    · obtain rfl : k = n := by omega
      go_wp2_with fail
      go_returns
      exact ⟨_, rfl, rfl⟩

set_option maxHeartbeats 1000000 in
theorem zzFits1_any (k h : Int) (t : ByteArray) (la ka va : Option Addr) (n1 lc n2 kc n3 vc : Nat) (ks : List ByteArray) (hn : ks.length = n2) (hq : n2 ≤ 140737488355328) (S : Nat → Prop) (w : World) (hk : RK w S ks ka) (hS : ∀ b, S b → b < w.heap.size) :
    Calls Tryz.prog 13 #[.agg #[.int .i64 k, .int .i64 h, .string t, .slice la n1 lc, .slice ka n2 kc, .slice va n3 vc]] w (BitB w) := by
  have HS := Lib.hid hS
  have HK := Lib.hid hk
  have HN := Lib.hid hn
  clear hS hk hn
  by_cases h1 : (2147483647 : Int) < t.size
  · go_enter Tryz.func13, Tryz.ntmps13
    go_wp2_with fail
    go_returns
    exact ⟨_, rfl, by go_grown⟩
  by_cases h2 : (2147483647 : Int) < n1
  · go_enter Tryz.func13, Tryz.ntmps13
    go_wp2_with fail
    go_returns
    exact ⟨_, rfl, by go_grown⟩
  go_enter Tryz.func13, Tryz.ntmps13
  go_wp2_with fail
  refine (zzFits2_any ks n2 HN.out hq ka _ S _ (RK.mono (Same.of_below (below_alloc w _) HS.out) (fun _ h => h) _ _ HK.out)).mono ?_
  rintro e w' ⟨r, rfl, rfl⟩
  cases r
  · go_wp2_with fail
    go_returns
    exact ⟨_, rfl, by go_grown⟩
  · by_cases h3 : (2147483647 : Int) < n3
    · go_wp2_with fail
      go_returns
      exact ⟨_, rfl, by go_grown⟩
    · go_wp2_with fail
      go_returns
      exact ⟨_, rfl, by go_grown⟩

end Go.Proofs.YtgjmgneppecfgaaGreatDoor.Va
