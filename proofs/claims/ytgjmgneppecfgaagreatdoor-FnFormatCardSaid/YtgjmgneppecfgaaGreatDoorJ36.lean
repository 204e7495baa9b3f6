/-
  FnFormat, texts McW McU VaX VaW: lemmas for the law; the theorem stands in the last text.
-/
import Derived.Laws.RangeAny
import Derived.ChangeArms
import Derived.SizedLaws
import Derived.DataReads
import Derived.Handed
import Derived.Test.YtgjmgneppecfgaaGreatDoorJ02
import Derived.Test.YtgjmgneppecfgaaGreatDoorJ07
import Derived.Test.YtgjmgneppecfgaaGreatDoorJ16
import Derived.Test.YtgjmgneppecfgaaGreatDoorJ17
import Derived.Test.YtgjmgneppecfgaaGreatDoorJ30
import Derived.Test.YtgjmgneppecfgaaGreatDoorJ34
import Derived.Test.YtgjmgneppecfgaaGreatDoorJ35
namespace Go.Proofs.YtgjmgneppecfgaaGreatDoor.Mc
open Go.RowKit Go.Proofs.YtgjmgneppecfgaaGreatDoor.Va Go.Proofs.YtgjmgneppecfgaaGreatDoor.Ba Go.Proofs.YtgjmgneppecfgaaGreatDoor.Ma Go.Proofs.YtgjmgneppecfgaaGreatDoor.Pa Go.Proofs.YtgjmgneppecfgaaGreatDoor.Fo
set_option linter.unusedVariables false
set_option linter.unusedSimpArgs false

set_option maxHeartbeats 1000000 in
theorem qunescape_any (s : ByteArray) (hs : s.size ≤ 1073741824) (w : World) (hT : UrlTab w) : Calls Tryz.prog 197 #[.string s] w (UnEnd w) := by
  have H := Lib.hid (unescape_any s hs w hT)
  clear hT
  go_enter Tryz.func197, Tryz.ntmps197
  go_wp2_with fail
  refine H.out.mono ?_
  rintro e w1 ⟨⟨t, ev, rfl, hev⟩, hb⟩
  go_wp2_with fail
  go_returns
  exact ⟨⟨_, _, rfl, hev⟩, hb⟩
/-- a text or an error -/
def StrErr (w : World) (e : Ending) (w' : World) : Prop :=
  ((∃ t, e = .returned (.iface 9 (.string t))) ∨ ∃ a, e = .returned (.iface 170 (.pointer (some a)))) ∧ Below w.heap.size w w'
set_option maxHeartbeats 1000000 in
theorem toURId_any (x : V) (hg : Va.Good x) (hsz : x.size ≤ 400) (g : Value) (S : Nat → Prop) (w : World) (hgv : GV w S x g) (hS : ∀ b, S b → b < w.heap.size) (hT : Tabs w) (hU : UrlTab w) : Calls Tryz.prog 164 #[g] w (StrErr w) := by
  have HJ := Lib.hid (toString_any x hg hsz g S w hgv hS hT)
  have hln := strX_len x hg hsz
  have hlt := strX_lt x
  have hb := bytesN_numS' (strX x) hlt
  have HU := Lib.hid hU
  have hsh := Mb.gv_shape hgv
  clear hg hgv hS hT hU
  obtain ⟨t, ht⟩ : ∃ t, numS (strX x) = t := ⟨_, rfl⟩
  have hts : t.size ≤ 26214400 := by rw [← ht, numS_size]; exact hln
  rw [ht] at HJ hb
  have hro := (repl_ok (P := [(43, [37, 50, 66])]) (by decide) (bytesN t) (bytesN_lt t)).1
  rw [bytesN_len] at hro
  obtain ⟨u, hu⟩ : ∃ u, numS (repl [(43, [37, 50, 66])] (bytesN t)) = u := ⟨_, rfl⟩
  have hus : u.size ≤ 1073741824 := by rw [← hu, numS_size]; omega
  have HR := Lib.hid (fun w1 => zzReplaceAll_any t (by omega) 43 (by decide) [37, 50, 66] ⟨by decide, by decide⟩ w1)
  rw [show ReplAEnd [(43, [37, 50, 66])] t = fun w e w' => e = .returned (.string u) ∧ Below w.heap.size w w' by unfold ReplAEnd; rw [hu]] at HR
  have HQ := Lib.hid (qunescape_any u hus)
  clear ht hb hln hlt hu hro
  rcases hsh with rfl | ⟨tv, xv, rfl⟩
  all_goals
    go_enter Tryz.func164, Tryz.ntmps164
    go_wp2_with fail
    refine HJ.out.mono ?_
    rintro e w1 ⟨rfl, hb1⟩
    have B1 := Lib.hid hb1
    have HU1 := Lib.hid (HU.out.below hb1)
    clear hb1 HJ
    go_wp2_with fail
    refine (HR.out w1).mono ?_
    rintro e w2 ⟨rfl, hb2⟩
    have B2 := Lib.hid (B1.out.trans (hb2.mono B1.out.size))
    have HQ2 := Lib.hid (HQ.out w2 (HU1.out.below hb2))
    clear hb2
    go_wp2_with fail
    refine HQ2.out.mono ?_
    rintro e w3 ⟨⟨z, ev, rfl, hev⟩, hb3⟩
    have B3 := Lib.hid (B2.out.trans (hb3.mono B2.out.size))
    clear hb3
    rcases hev with rfl | ⟨te, xe, rfl⟩
    · go_wp2_with fail
      go_returns
      exact ⟨.inl ⟨_, rfl⟩, B3.out⟩
    · go_wp2_with fail
      go_returns
      exact ⟨.inr ⟨_, rfl⟩, B3.out.trans ((below_alloc w3 _).mono B3.out.size)⟩
end Go.Proofs.YtgjmgneppecfgaaGreatDoor.Mc
namespace Go.Proofs.YtgjmgneppecfgaaGreatDoor.Mc
open Go.RowKit Go.Proofs.YtgjmgneppecfgaaGreatDoor.Va Go.Proofs.YtgjmgneppecfgaaGreatDoor.Ba Go.Proofs.YtgjmgneppecfgaaGreatDoor.Ma Go.Proofs.YtgjmgneppecfgaaGreatDoor.Fo
set_option linter.unusedVariables false
set_option linter.unusedSimpArgs false

set_option maxHeartbeats 1000000 in
set_option maxRecDepth 100000 in
theorem toB64_v (s : ByteArray) (hs : s.size ≤ 2147483647) (g : Value) (w : World) (HJ : Hid (Calls Tryz.prog 155 #[g] w (IStr s w))) : Calls Tryz.prog 103 #[g] w (IStr (numS (encB (bytesN s))) w) := by
  go_enter Tryz.func103, Tryz.ntmps103
  go_wp2_with fail
  refine HJ.out.mono ?_
  rintro e w1 ⟨rfl, hb1⟩
  have B1 := Lib.hid hb1
  clear hb1
  go_wp2_with fail
  refine (new_any w1).mono ?_
  rintro e w2 ⟨rfl, hb2, hr2⟩
  have B2 := Lib.hid (B1.out.trans (hb2.mono B1.out.size))
  have HR := Lib.hid hr2
  have HW1 := Lib.hid hr2.lt
  clear hb2 hr2
  have hcv := Lib.run_convert_string_bytes (P := Tryz.prog) w2 9 73 5 s Tryz.underlying9 Tryz.underlying73 Tryz.underlying5
  obtain ⟨cap, hcap⟩ : ∃ cap, grownCap w2 s.size 0 5 = cap := ⟨_, rfl⟩
  have hge := grownCap_ge w2 s.size 0 5
  have hle := grownCap_le_maxLen w2 s.size 0 5 (by unfold maxLen; omega)
  rw [hcap] at hcv hge hle
  unfold maxLen at hle
  clear hcap
  go_wp2_with fail
  clear hcv
  refine (encS_any w1.heap.size w2.heap.size 0 s.size cap (bytesN s) (bytesN_len s) (bytesN_lt s) hs hge hle _ (HR.out.of_block (Lib.bytesWorld_at_old _ _ _ _ HW1.out)) (fun i hi => ?_) (by rw [Lib.bytesWorld_size]; omega)).mono ?_
  · rw [Nat.zero_add, Lib.bytesWorld_cell w2 5 s i hi, bytesN_at s i hi]
  rintro e w3 ⟨rfl, hb3⟩
  have B3 := Lib.hid (B2.out.trans (((below_bytes w2 5 s).trans (hb3.mono (below_bytes w2 5 s).size)).mono B2.out.size))
  clear hb3
  go_wp2_with fail
  go_returns
  exact ⟨rfl, B3.out⟩
def Asc (s : ByteArray) : Prop := ∀ x ∈ bytesN s, x < 128
/-- where the first '=' is, at an ASCII text; a place, at any -/
def IdxEnd2 (s : ByteArray) (w : World) (e : Ending) (w' : World) : Prop :=
  ∃ p, p ≤ s.size ∧ (Asc s → ∀ j, j < p → (bytesN s).getD j 0 ≠ 61) ∧ ((p = s.size ∧ e = .returned (.int .i64 (-1))) ∨ (p < s.size ∧ (Asc s → (bytesN s).getD p 0 = 61) ∧ e = .returned (.int .i64 (p : Int)))) ∧ Below w.heap.size w w'
theorem run_next_dec {P : Program} (w : World) (s : ByteArray) (pos : Nat) (ty : TypeId) (h : pos < s.size) :
    (Instr.next (.pointer (some ⟨w.heap.size, 0, none⟩)) true ty).run P (w.iter s pos) =
      .ok (.tuple #[.bool true, .int .i64 pos, .int .i32 ((Utf8.decode s pos).1 : Nat)]) (w.iter s (pos + (Utf8.decode s pos).2)) := by
  simp only [Instr.next, getObj, setObj, Sem.run_bind, Sem.run, World.iter_heap, Result.andThen, h, if_true, World.iter_set]
  simp [goInt, Sem.run, World.iter_heap, World.iter_set]
def LoopIw (s : ByteArray) (w wr : World) : Prop := ∃ i, wr = w.iter s i
set_option maxHeartbeats 2000000 in
set_option maxRecDepth 100000 in
theorem idx_weak (s : ByteArray) (hs : s.size ≤ 4294967296) (w : World) : Calls Tryz.prog 158 #[.string s, .int .i32 61] w (fun e w' => (e = .returned (.int .i64 (-1)) ∨ ∃ p : Nat, p < s.size ∧ e = .returned (.int .i64 (p : Int))) ∧ Below w.heap.size w w') := by
  go_enter Tryz.func158, Tryz.ntmps158
  go_wp2_with fail
  go_loopw [5] (fun _ wr => LoopIw s w wr) (fun _ wr => s.size - wr.iterPos w.heap.size)
  case atStart => exact ⟨0, rfl⟩
  case round =>
    obtain ⟨i, rfl⟩ := hrel
    have hmu : (w.iter s i).iterPos w.heap.size = i := by simp [World.iterPos, World.iter_heap]
    by_cases hlt : i < s.size
    · have hnx := fun ty => run_next_dec (P := Tryz.prog) w s i ty hlt
      have hk := Lib.width_pos s i
      have hr := decode_le s i
      obtain ⟨k, hke⟩ : ∃ k, (Utf8.decode s i).2 = k := ⟨_, rfl⟩
      obtain ⟨r, hre⟩ : ∃ r, (Utf8.decode s i).1 = r := ⟨_, rfl⟩
      rw [hke, hre] at hnx
      rw [hke] at hk
      rw [hre] at hr
      have hmu2 : (w.iter s (i + k)).iterPos w.heap.size = i + k := by simp [World.iterPos, World.iter_heap]
      clear hke hre
      by_cases h61 : r = 61
      · subst h61
        go_wp2_with fail
        go_returns
        exact ⟨.inr ⟨i, hlt, rfl⟩, below_alloc w _⟩
      · have hc1 : ((r : Int) == 61) = false := by simp; omega
        have hc2 : ¬ (r : Int) = 61 := by omega
        go_wp2_with fail
        go_roundw
        case rel => exact ⟨i + k, rfl⟩
        case measure => rw [hmu, hmu2]; omega
    · have hnx := fun ty => run_next_end (P := Tryz.prog) w s i ty hlt
      go_wp2_with fail
      go_returns
      exact ⟨.inl rfl, below_alloc w _⟩
theorem idx2_any (s : ByteArray) (hs : s.size ≤ 4294967296) (w : World) : Calls Tryz.prog 158 #[.string s, .int .i32 61] w (IdxEnd2 s w) := by
  by_cases hA : Asc s
  · refine (idx_any s hs hA w).mono ?_
    rintro e w' ⟨p, h1, h2, h3, h4⟩
    refine ⟨p, h1, fun _ => h2, ?_, h4⟩
    rcases h3 with h | ⟨h5, h6, h7⟩
    · exact .inl h
    · exact .inr ⟨h5, fun _ => h6, h7⟩
  · refine (idx_weak s hs w).mono ?_
    rintro e w' ⟨h | ⟨p, hp, h⟩, hb⟩
    · exact ⟨s.size, Nat.le_refl _, fun h => absurd h hA, .inl ⟨rfl, h⟩, hb⟩
    · exact ⟨p, Nat.le_of_lt hp, fun h => absurd h hA, .inr ⟨hp, fun h => absurd h hA, h⟩, hb⟩

def From64A (s : ByteArray) (w : World) (e : Ending) (w' : World) : Prop :=
  ∃ (p : Nat) (out : List Nat) (ok : Bool), p ≤ s.size ∧ (Asc s → ∀ j, j < p → (bytesN s).getD j 0 ≠ 61) ∧ (Asc s → p = s.size ∨ (p < s.size ∧ (bytesN s).getD p 0 = 61)) ∧ runD ((bytesN s).take p) (((bytesN s).take p).length + 1) 0 [] = (out, ok) ∧
    ((ok = true ∧ e = .returned (.iface 9 (.string (numS out)))) ∨ (ok = false ∧ ∃ a, e = .returned (.iface 170 (.pointer (some a))))) ∧ Below w.heap.size w w'
set_option maxHeartbeats 2000000 in
set_option maxRecDepth 100000 in
theorem fromB64_v (s : ByteArray) (hs : s.size ≤ 2147483647) (g : Value) (hsh : g = .nilIface ∨ ∃ tv xv, g = .iface tv xv) (w : World) (HJ : Hid (Calls Tryz.prog 155 #[g] w (IStr s w))) : Calls Tryz.prog 104 #[g] w (From64A s w) := by
  have HIDX := Lib.hid (fun w1 => idx2_any s (by omega) w1)
  obtain ⟨n, hn⟩ : ∃ n, s.size = n := ⟨_, rfl⟩
  have HSZ := Lib.hid hn
  rw [hn] at hs
  go_enter Tryz.func104, Tryz.ntmps104
  go_wp2_with fail
  refine HJ.out.mono ?_
  rintro e w1 ⟨rfl, hb1⟩
  have B1 := Lib.hid hb1
  clear hb1
  go_wp2_with fail
  refine (HIDX.out w1).mono ?_
  rintro e w2 ⟨p, hps, hno, hres, hb2⟩
  have B2 := Lib.hid (B1.out.trans (hb2.mono B1.out.size))
  have HNO := Lib.hid hno
  have hL : ∃ t : ByteArray, t = s.extract 0 p := ⟨_, rfl⟩
  obtain ⟨t, ht⟩ := hL
  have HT := Lib.hid ht
  have HTB : Hid (bytesN t = (bytesN s).take p) := Lib.hid (by rw [ht, bytesN_extract])
  have hts : t.size ≤ n := by
    have := congrArg List.length HTB.out
    rw [bytesN_len, List.length_take, bytesN_len, hn] at this
    omega
  have hfull : p = n → t = s := fun e => by
    rw [ht, e, ← hn]
    exact ByteArray.extract_zero_size
  have HFULL := Lib.hid hfull
  rw [hn] at hps hres
  clear hno hb2 ht hfull HIDX
  have HTS := Lib.hid hts
  have HPR : Hid (Asc s → p = s.size ∨ (p < s.size ∧ (bytesN s).getD p 0 = 61)) := Lib.hid (fun hA => by
    rcases hres with ⟨h, _⟩ | ⟨h1, h2, _⟩
    · exact .inl (by rw [hn]; exact h)
    · exact .inr ⟨by rw [hn]; exact h1, h2 hA⟩)
  have HPS := Lib.hid hps
  clear hts
  rcases hres with ⟨hpe, rfl⟩ | ⟨hlt, heq, rfl⟩
  · have hst : t = s := HFULL.out hpe
    subst hst
    clear hpe hn
    go_wp2_with fail
    refine (new_any w2).mono ?_
    rintro e w3 ⟨rfl, hb3, hr3⟩
    have B3 := Lib.hid (B2.out.trans (hb3.mono B2.out.size))
    have HR := Lib.hid hr3
    clear hb3 hr3
    go_wp2_with (refine wpList_load_part rfl 197 (.tmp 23) rfl w2.heap.size 0 322 322 rfl 197 (encF 64 61) HR.out (by decide) _ Tryz.underlying197 rfl (by kernel_rfl) ?_; intro cs hcs hcz; have HCS := Lib.hid hcs; have HCZ := Lib.hid hcz; clear hcs hcz)
    refine (pad_any cs HCZ.out (fun i hi => by rw [HCS.out i hi, Nat.zero_add]) w3).mono ?_
    rintro e w4 ⟨b, rfl, _, hb4, hr4⟩
    have B4 := Lib.hid (B3.out.trans (hb4.mono B3.out.size))
    have HR4 := Lib.hid hr4
    clear hb4 hr4 HCS HCZ
    go_wp2_with fail
    refine (decS_any b t (by have := HTS.out; omega) w4 HR4.out).mono ?_
    rintro e w5 ⟨out, ok, ev, bb, cap, hrun, hcap, hbig, rfl, hev, hcell, hb5⟩
    have B5 := Lib.hid (B4.out.trans (hb5.mono B4.out.size))
    have HRUN := Lib.hid hrun
    have HCELL := Lib.hid hcell
    clear hb5 hrun hcell
    rcases hev with ⟨rfl, rfl⟩ | ⟨rfl, v, rfl⟩
    · obtain ⟨m, hm⟩ : ∃ m, out.length = m := ⟨_, rfl⟩
      have HM := Lib.hid hm
      have g := run_convert_bytes_arg (P := Tryz.prog) w5 73 5 Tryz.underlying73 Tryz.underlying5 bb 0 m cap (out.map fun x : Nat => (x : Int)) (by rw [List.length_map]; exact hm)
        (fun i hi => by
          rw [Nat.zero_add, HCELL.out i (by rw [HM.out]; exact hi)]
          simp [List.getD, List.getElem?_eq_getElem (show i < out.length by rw [HM.out]; exact hi)]) 9 Tryz.underlying9
      rw [hm] at hcap hbig ⊢
      clear hm
      go_wp2_with fail
      go_returns
      exact ⟨p, out, true, by rw [HSZ.out]; exact HPS.out, HNO.out, HPR.out, by rw [← HTB.out]; exact HRUN.out, .inl ⟨rfl, rfl⟩, B5.out⟩
    · rcases hsh with rfl | ⟨tv, xv, rfl⟩
      all_goals
        go_wp2_with fail
        go_returns
        exact ⟨p, out, false, by rw [HSZ.out]; exact HPS.out, HNO.out, HPR.out, by rw [← HTB.out]; exact HRUN.out, .inr ⟨rfl, _, rfl⟩, (by first | exact B5.out | exact B5.out.trans ((below_alloc _ _).mono B5.out.size))⟩
  · clear heq
    have hex : s.extract 0 p = t := HT.out.symm
    go_wp2_with fail
    refine (new_any w2).mono ?_
    rintro e w3 ⟨rfl, hb3, hr3⟩
    have B3 := Lib.hid (B2.out.trans (hb3.mono B2.out.size))
    have HR := Lib.hid hr3
    clear hb3 hr3
    go_wp2_with (refine wpList_load_part rfl 197 (.tmp 23) rfl w2.heap.size 0 322 322 rfl 197 (encF 64 61) HR.out (by decide) _ Tryz.underlying197 rfl (by kernel_rfl) ?_; intro cs hcs hcz; have HCS := Lib.hid hcs; have HCZ := Lib.hid hcz; clear hcs hcz)
    refine (pad_any cs HCZ.out (fun i hi => by rw [HCS.out i hi, Nat.zero_add]) w3).mono ?_
    rintro e w4 ⟨b, rfl, _, hb4, hr4⟩
    have B4 := Lib.hid (B3.out.trans (hb4.mono B3.out.size))
    have HR4 := Lib.hid hr4
    clear hb4 hr4 HCS HCZ
    go_wp2_with fail
    refine (decS_any b t (by have := HTS.out; omega) w4 HR4.out).mono ?_
    rintro e w5 ⟨out, ok, ev, bb, cap, hrun, hcap, hbig, rfl, hev, hcell, hb5⟩
    have B5 := Lib.hid (B4.out.trans (hb5.mono B4.out.size))
    have HRUN := Lib.hid hrun
    have HCELL := Lib.hid hcell
    clear hb5 hrun hcell
    rcases hev with ⟨rfl, rfl⟩ | ⟨rfl, v, rfl⟩
    · obtain ⟨m, hm⟩ : ∃ m, out.length = m := ⟨_, rfl⟩
      have HM := Lib.hid hm
      have g := run_convert_bytes_arg (P := Tryz.prog) w5 73 5 Tryz.underlying73 Tryz.underlying5 bb 0 m cap (out.map fun x : Nat => (x : Int)) (by rw [List.length_map]; exact hm)
        (fun i hi => by
          rw [Nat.zero_add, HCELL.out i (by rw [HM.out]; exact hi)]
          simp [List.getD, List.getElem?_eq_getElem (show i < out.length by rw [HM.out]; exact hi)]) 9 Tryz.underlying9
      rw [hm] at hcap hbig ⊢
      clear hm
      go_wp2_with fail
      go_returns
      exact ⟨p, out, true, by rw [HSZ.out]; exact HPS.out, HNO.out, HPR.out, by rw [← HTB.out]; exact HRUN.out, .inl ⟨rfl, rfl⟩, B5.out⟩
    · rcases hsh with rfl | ⟨tv, xv, rfl⟩
      all_goals
        go_wp2_with fail
        go_returns
        exact ⟨p, out, false, by rw [HSZ.out]; exact HPS.out, HNO.out, HPR.out, by rw [← HTB.out]; exact HRUN.out, .inr ⟨rfl, _, rfl⟩, (by first | exact B5.out | exact B5.out.trans ((below_alloc _ _).mono B5.out.size))⟩
end Go.Proofs.YtgjmgneppecfgaaGreatDoor.Mc
namespace Go.Proofs.YtgjmgneppecfgaaGreatDoor.Va
open Go.RowKit
set_option linter.unusedVariables false
set_option linter.unusedSimpArgs false

section
variable (t0 n0 : Int) (tx : ByteArray) (la ka va : Option Addr) (l1 l2 l3 lc kc vc : Nat) (t0' n0' : Int) (tx' : ByteArray) (la' ka' va' : Option Addr) (l1' l2' l3' lc' kc' vc' : Nat) (w : World)

set_option maxHeartbeats 1000000 in
/-- an answer that is a value, and that one -/
theorem told_fine (x : V) (H : CW x) (S : Nat → Prop) (h1 : RV w S x (.agg #[.int .i64 t0, .int .i64 n0, .string tx, .slice la l1 lc, .slice ka l2 kc, .slice va l3 vc])) (h2 : RV w S x (.agg #[.int .i64 t0', .int .i64 n0', .string tx', .slice la' l1' lc', .slice ka' l2' kc', .slice va' l3' vc'])) (hS : ∀ b, S b → b < w.heap.size) :
    Calls Tryz.prog 11 #[.agg #[.int .i64 t0, .int .i64 n0, .string tx, .slice la l1 lc, .slice ka l2 kc, .slice va l3 vc, .int .i64 0], .agg #[.int .i64 t0', .int .i64 n0', .string tx', .slice la' l1' lc', .slice ka' l2' kc', .slice va' l3' vc'], .int .i64 0] w (Ret (.bool true) w) := by
  have HH := Lib.hid H
  have HS := Lib.hid hS
  have H1 := Lib.hid h1
  have H2 := Lib.hid h2
  clear H hS h1 h2
  go_enter Tryz.func11, Tryz.ntmps11
  go_wp2_with fail
  generalize hW : World.alloc (World.alloc w _) _ = W
  have hb : Below w.heap.size w W := hW ▸ (by go_grown)
  clear hW
  refine (same_any x HH.out _ _ S W (RV.mono (Same.of_below hb HS.out) (fun _ h => h) _ _ H1.out) (RV.mono (Same.of_below hb HS.out) (fun _ h => h) _ _ H2.out) (fun b h => Nat.lt_of_lt_of_le (HS.out b h) hb.size)).mono ?_
  rintro e w' ⟨rfl, hb2⟩
  have HB := Lib.hid (hb.trans (hb2.mono hb.size))
  clear hb hb2
  go_wp2_with fail
  go_returns
  exact ⟨rfl, HB.out⟩

set_option maxHeartbeats 1000000 in
/-- an error, where one is asked for -/
theorem told_error : Calls Tryz.prog 11 #[.agg #[.int .i64 t0, .int .i64 n0, .string tx, .slice la l1 lc, .slice ka l2 kc, .slice va l3 vc, .int .i64 1], .agg #[.int .i64 t0', .int .i64 n0', .string tx', .slice la' l1' lc', .slice ka' l2' kc', .slice va' l3' vc'], .int .i64 1] w (Ret (.bool true) w) := by
  go_enter Tryz.func11, Tryz.ntmps11
  go_wp2_with fail
  go_returns
  exact ⟨rfl, by go_grown⟩

set_option maxHeartbeats 1000000 in
/-- what is not said -/
theorem told_silent (r : Int) : Calls Tryz.prog 11 #[.agg #[.int .i64 t0, .int .i64 n0, .string tx, .slice la l1 lc, .slice ka l2 kc, .slice va l3 vc, .int .i64 r], .agg #[.int .i64 t0', .int .i64 n0', .string tx', .slice la' l1' lc', .slice ka' l2' kc', .slice va' l3' vc'], .int .i64 2] w (Ret (.bool true) w) := by
  go_enter Tryz.func11, Tryz.ntmps11
  go_wp2_with fail
  go_returns
  exact ⟨rfl, by go_grown⟩

end

def LoopZ (n : Nat) (w : World) (i : Value) (wr : World) : Prop := ∃ k : Nat, i = .int .i64 k ∧ k ≤ n ∧ w = wr
def Bit (w : World) (e : Ending) (w' : World) : Prop := ∃ r : Bool, e = .returned (.bool r) ∧ w = w'
def BitB (w : World) (e : Ending) (w' : World) : Prop := ∃ r : Bool, e = .returned (.bool r) ∧ Below w.heap.size w w'

set_option maxHeartbeats 1000000 in
theorem zzFits2_any (l : List ByteArray) (n : Nat) (hn : l.length = n) (hq : n ≤ 140737488355328) (a : Option Addr) (c : Nat) (S : Nat → Prop) (w : World) (h : RK w S l a) : Calls Tryz.prog 41 #[.slice a n c] w (Bit w) := by
  have HN := Lib.hid hn
  have HR := Lib.hid h
  clear hn h
  go_enter Tryz.func41, Tryz.ntmps41
  by_cases hbig : (2147483647 : Int) < n
  · go_wp2_with fail
    go_returns
    exact ⟨_, rfl, rfl⟩
  go_wp2_with fail
  go_loopw [10] (LoopZ n w) (fun i _ => n - (intOf i).toNat)
  case atStart => exact ⟨0, rfl, Nat.zero_le _, rfl⟩
  case round =>
    obtain ⟨k, rfl, hk, rfl⟩ := hrel
    by_cases hlt : k < n
    · obtain ⟨b, o, rfl⟩ := HR.out.addr (by rw [HN.out]; omega)
      obtain ⟨_, hc⟩ := RK.at l b o HR.out k (by rw [HN.out]; exact hlt)
      obtain ⟨s, hs⟩ : ∃ s, Hid (l[k]'(by rw [HN.out]; exact hlt) = s) := ⟨_, Lib.hid rfl⟩
      rw [hs.out] at hc
      by_cases hsz : (2147483647 : Int) < s.size
      · go_wp2_with fail
        go_returns
        exact ⟨_, rfl, rfl⟩
      · go_wp2_with fail
        go_roundw
        case rel => exact ⟨k + 1, rfl, hlt, rfl⟩
        case measure => simp [intOf]; omega
    · obtain rfl : k = n := by omega
      go_wp2_with fail
      go_returns
      exact ⟨_, rfl, rfl⟩

set_option maxHeartbeats 1000000 in
theorem zzFits1_any (k h : Int) (t : ByteArray) (la ka va : Option Addr) (n1 lc n2 kc n3 vc : Nat) (ks : List ByteArray) (hn : ks.length = n2) (hq : n2 ≤ 140737488355328) (S : Nat → Prop) (w : World) (hk : RK w S ks ka) (hS : ∀ b, S b → b < w.heap.size) :
    Calls Tryz.prog 13 #[.agg #[.int .i64 k, .int .i64 h, .string t, .slice la n1 lc, .slice ka n2 kc, .slice va n3 vc]] w (BitB w) := by
  have HS := Lib.hid hS
  have HK := Lib.hid hk
  have HN := Lib.hid hn
  clear hS hk hn
  by_cases h1 : (2147483647 : Int) < t.size
  · go_enter Tryz.func13, Tryz.ntmps13
    go_wp2_with fail
    go_returns
    exact ⟨_, rfl, by go_grown⟩
  by_cases h2 : (2147483647 : Int) < n1
  · go_enter Tryz.func13, Tryz.ntmps13
    go_wp2_with fail
    go_returns
    exact ⟨_, rfl, by go_grown⟩
  go_enter Tryz.func13, Tryz.ntmps13
  go_wp2_with fail
  refine (zzFits2_any ks n2 HN.out hq ka _ S _ (RK.mono (Same.of_below (below_alloc w _) HS.out) (fun _ h => h) _ _ HK.out)).mono ?_
  rintro e w' ⟨r, rfl, rfl⟩
  cases r
  · go_wp2_with fail
    go_returns
    exact ⟨_, rfl, by go_grown⟩
  · by_cases h3 : (2147483647 : Int) < n3
    · go_wp2_with fail
      go_returns
      exact ⟨_, rfl, by go_grown⟩
    · go_wp2_with fail
      go_returns
      exact ⟨_, rfl, by go_grown⟩

end Go.Proofs.YtgjmgneppecfgaaGreatDoor.Va
namespace Go.Proofs.YtgjmgneppecfgaaGreatDoor.Va
open Go.RowKit
set_option linter.unusedVariables false
set_option linter.unusedSimpArgs false

/-- the blocks that are there -/
def All (w : World) (b : Nat) : Prop := b < w.heap.size
theorem reach_Q : reachBytes ≤ Q := by decide

section
variable {H : Type} {enc : TypeId × Value → H} {P : Program} {W : World} {spare : Nat → Bool} {held : Bool}

theorem weightsAll_mem {e : TypeId} : ∀ {l : List (DataW H)} {d : DataW H}, d ∈ l → ∀ n ∈ d.weights P e, n ∈ DataW.weightsAll P e l
  | y :: ys, d, h, n, hn => by
    rw [DataW.weightsAll]
    rcases List.mem_cons.1 h with rfl | h
    · exact List.mem_append_left _ hn
    · exact List.mem_append_right _ (weightsAll_mem h n hn)

/-- a slice that is read -/
theorem open_list {t e : TypeId} {n : Nat} {cs : List Value} {x : DataW H × List MemPlace} (ht : P.underlying t = some (.slice e)) (h : DataW.trod enc P W 0 spare held n t cs = some x) (hs : ∀ k ∈ x.1.weights P t, k ≤ reachBytes) :
    cs = [.slice none 0 0] ∨ ∃ (a : Addr) (len cap m : Nat), n = m + 1 ∧ cs = [.slice (some a) len cap] ∧ len * P.bytesOf e ≤ reachBytes ∧
      ∀ i, i < len → ∃ (cs' : List Value) (y : DataW H × List MemPlace), W.cells? 0 (a.add (i * P.cellsOf e)) (P.cellsOf e) = some cs' ∧ DataW.trod enc P W 0 spare held m e cs' = some y ∧ ∀ k ∈ y.1.weights P e, k ≤ reachBytes := by
  rcases DataW.trod_slice ht h with ⟨rfl, rfl⟩ | ⟨a, len, cap, elems, rest, m, rfl, rfl, rfl, _, _, _, hlen, hel, _, _⟩
  · exact .inl rfl
  · refine .inr ⟨a, len, cap, m, rfl, rfl, ?_, fun i hi => ?_⟩
    · have := hs ((elems.length + rest.length) * P.bytesOf e) (by simp [DataW.weights, ht])
      exact Nat.le_trans (Nat.mul_le_mul_right _ (by omega)) this
    · have h1 := hel i hi
      rw [List.getElem?_eq_getElem (by omega), Option.bind_eq_some_iff] at h1
      obtain ⟨cs', h2, h3⟩ := h1
      refine ⟨cs', _, h2, h3, fun k hk => hs k ?_⟩
      simp only [DataW.weights, ht]
      exact List.mem_cons_of_mem _ (List.mem_append_left _ (weightsAll_mem (List.mem_map.2 ⟨_, List.getElem_mem (by omega), rfl⟩) k hk))
end

theorem choose_all {α : Type} {p : Nat → α → Prop} {n : Nat} (h : ∀ i, i < n → ∃ v, p i v) : ∃ l : List α, l.length = n ∧ ∀ i (hi : i < l.length), p i l[i] := by
  induction n with
  | zero => exact ⟨[], rfl, fun i hi => by simp at hi⟩
  | succ n ih =>
    obtain ⟨l, hl, hp⟩ := ih fun i hi => h i (by omega)
    obtain ⟨v, hv⟩ := h n (by omega)
    refine ⟨l ++ [v], by simp [hl], fun i hi => ?_⟩
    simp only [List.length_append, List.length_cons, List.length_nil] at hi
    by_cases hin : i < l.length
    · rw [List.getElem_append_left hin]; exact hp i hin
    · obtain rfl : i = n := by omega
      rw [List.getElem_append_right (by omega)]
      simpa using hv
theorem WfL.of {l : List V} (h : ∀ x ∈ l, Wf x) : WfL l := by
  induction l with
  | nil => rw [WfL]; trivial
  | cons y ys ih => rw [WfL]; exact ⟨h y (by simp), ih fun x hx => h x (by simp [hx])⟩
theorem spot_of {w : World} {a : Addr} {v : Value} (h : w.cell? (a.add 0) = some v) : a = ⟨a.block, a.off, none⟩ := by
  obtain ⟨b, o, s⟩ := a
  cases s with
  | none => rfl
  | some s =>
    exfalso
    rw [show (⟨b, o, some s⟩ : Addr).add 0 = ⟨b, o, some s⟩ by simp [Addr.add]] at h
    simp only [World.cell?] at h
    split at h <;> simp at h
theorem add_none (b o i : Nat) : (⟨b, o, none⟩ : Addr).add i = ⟨b, o + i, none⟩ := by
  unfold Addr.add; split <;> simp_all
theorem add_two (a : Addr) (i j : Nat) : a.add (i + j) = (a.add i).add j := by
  unfold Addr.add
  by_cases hi : i = 0
  · subst hi; simp
  · by_cases hj : j = 0
    · subst hj; simp
    · simp [hi, hj, Nat.add_assoc]

section
variable {H : Type} {enc : TypeId × Value → H} {W : World} {spare : Nat → Bool} {held : Bool}

theorem open_strs {n : Nat} {cs : List Value} {x : DataW H × List MemPlace} (h : DataW.trod enc Tryz.prog W 0 spare held n 25 cs = some x) (hs : ∀ k ∈ x.1.weights Tryz.prog 25, k ≤ reachBytes) :
    ∃ (l : List ByteArray) (a : Option Addr) (c : Nat), cs = [.slice a l.length c] ∧ l.length ≤ Q ∧ (∀ s ∈ l, s.size ≤ Q) ∧ RK W (All W) l a := by
  rcases open_list Tryz.underlying25 h hs with rfl | ⟨a, len, cap, m, rfl, rfl, hlen, hel⟩
  · exact ⟨[], none, 0, rfl, by simp, by simp, trivial⟩
  · have hb : Tryz.prog.bytesOf 9 = 16 := by kernel_rfl
    have hc : Tryz.prog.cellsOf 9 = 1 := by kernel_rfl
    rw [hb] at hlen
    simp only [hc, Nat.mul_one] at hel
    obtain ⟨l, hl, hp⟩ := choose_all (p := fun i (s : ByteArray) => s.size ≤ Q ∧ W.cell? (a.add i) = some (.string s)) fun i hi => by
      obtain ⟨cs', y, h1, h2, h3⟩ := hel i hi
      obtain ⟨s, rfl, rfl, _⟩ := DataW.trod_string Tryz.underlying9 h2
      refine ⟨s, ?_, ?_⟩
      · have := h3 s.data.toList.length (by simp [DataW.weights])
        have hr := reach_Q
        simp at this
        exact Nat.le_trans this hr
      · have := (World.cells?_some h1).2.2 0 (by omega)
        simpa [Addr.add] using this
    subst hl
    refine ⟨l, some a, cap, rfl, ?_, fun s hs => ?_, ?_⟩
    · have hr := reach_Q
      omega
    · obtain ⟨i, hi, rfl⟩ := List.getElem_of_mem hs
      exact (hp i hi).1
    · cases l with
      | nil => trivial
      | cons y ys =>
        have e := spot_of (hp 0 (by simp)).2
        rw [e]
        refine RK.of _ _ _ (fun _ => ?_) fun i hi => ?_
        · have := (hp 0 (by simp)).2
          rw [e, add_none] at this
          exact cell_lt this
        · have := (hp i hi).2
          rw [e, add_none] at this
          exact this

def Opened (W : World) (cs : List Value) : Prop := ∃ (v : V) (c0 c1 c2 c3 c4 c5 : Value), cs = [c0, c1, c2, c3, c4, c5] ∧ Wf v ∧ RV W (All W) v (.agg #[c0, c1, c2, c3, c4, c5])

theorem open_values_of {n : Nat} (IH : ∀ m, m < n → ∀ (cs : List Value) (x : DataW H × List MemPlace), DataW.trod enc Tryz.prog W 0 spare held m 27 cs = some x → (∀ k ∈ x.1.weights Tryz.prog 27, k ≤ reachBytes) → Opened W cs)
    {cs : List Value} {x : DataW H × List MemPlace} (h : DataW.trod enc Tryz.prog W 0 spare held n 22 cs = some x) (hs : ∀ k ∈ x.1.weights Tryz.prog 22, k ≤ reachBytes) :
    ∃ (l : List V) (a : Option Addr) (c : Nat), cs = [.slice a l.length c] ∧ l.length ≤ Q ∧ WfL l ∧ RL W (All W) l a := by
  rcases open_list Tryz.underlying22 h hs with rfl | ⟨a, len, cap, m, rfl, rfl, hlen, hel⟩
  · exact ⟨[], none, 0, rfl, by simp, by rw [WfL]; trivial, by rw [RL]; trivial⟩
  · have hb : 1 ≤ Tryz.prog.bytesOf 27 := by rw [show Tryz.prog.bytesOf 27 = 104 by kernel_rfl]; decide
    have hc : Tryz.prog.cellsOf 27 = 6 := by kernel_rfl
    have hlen' : len ≤ reachBytes := Nat.le_trans (Nat.le_mul_of_pos_right _ hb) hlen
    simp only [hc] at hel
    obtain ⟨l, hl, hp⟩ := choose_all (p := fun i (v : V) => Wf v ∧ ∃ c0 c1 c2 c3 c4 c5, (∀ j (hj : j < 6), W.cell? (a.add (i * 6 + j)) = [c0, c1, c2, c3, c4, c5][j]?) ∧ RV W (All W) v (.agg #[c0, c1, c2, c3, c4, c5])) fun i hi => by
      obtain ⟨cs', y, h1, h2, h3⟩ := hel i hi
      obtain ⟨v, c0, c1, c2, c3, c4, c5, rfl, hw, hr⟩ := IH m (by omega) _ _ h2 h3
      refine ⟨v, hw, c0, c1, c2, c3, c4, c5, fun j hj => ?_, hr⟩
      rw [← (World.cells?_some h1).2.2 j hj, add_two]
    subst hl
    refine ⟨l, some a, cap, rfl, Nat.le_trans hlen' reach_Q, WfL.of fun v hv => ?_, ?_⟩
    · obtain ⟨i, hi, rfl⟩ := List.getElem_of_mem hv
      exact (hp i hi).1
    · cases l with
      | nil => rw [RL]; trivial
      | cons y ys =>
        obtain ⟨_, c0, c1, c2, c3, c4, c5, h6, _⟩ := hp 0 (by simp)
        have h0 := h6 0 (by omega)
        simp only [List.getElem?_cons_zero, Nat.zero_mul, Nat.add_zero] at h0
        have e := spot_of h0
        rw [e]
        refine RL.of _ _ _ (fun _ => ?_) fun i hi => ?_
        · rw [e, add_none] at h0
          exact cell_lt h0
        · obtain ⟨_, d0, d1, d2, d3, d4, d5, k6, kr⟩ := hp i hi
          rw [e] at k6
          simp only [add_none, ← Nat.add_assoc] at k6
          exact ⟨d0, d1, d2, d3, d4, d5, ⟨k6 0 (by omega), k6 1 (by omega), k6 2 (by omega), k6 3 (by omega), k6 4 (by omega), k6 5 (by omega)⟩, kr⟩

set_option maxRecDepth 100000 in
theorem open_value : ∀ (n : Nat) (cs : List Value) (x : DataW H × List MemPlace), DataW.trod enc Tryz.prog W 0 spare held n 27 cs = some x → (∀ k ∈ x.1.weights Tryz.prog 27, k ≤ reachBytes) → Opened W cs := by
  intro n
  induction n using Nat.strongRecOn with
  | _ n IH =>
    intro cs x h hs
    obtain ⟨xs, m, rfl, rfl, hcl, hxl, hf⟩ := DataW.trod_struct Tryz.underlying27 h
    have hc : Tryz.prog.cellsOf 27 = 6 := by kernel_rfl
    rw [hc] at hcl
    match cs, hcl with
    | [c0, c1, c2, c3, c4, c5], _ =>
      match xs, hxl with
      | [y0, y1, y2, y3, y4, y5], _ =>
        have k0 : Tryz.prog.cellsOf 24 = 1 := by kernel_rfl
        have k1 : Tryz.prog.cellsOf 3 = 1 := by kernel_rfl
        have k2 : Tryz.prog.cellsOf 9 = 1 := by kernel_rfl
        have k3 : Tryz.prog.cellsOf 22 = 1 := by kernel_rfl
        have k4 : Tryz.prog.cellsOf 25 = 1 := by kernel_rfl
        have f0 : DataW.trod enc Tryz.prog W 0 spare held m 24 [c0] = some y0 := by
          have q : DataW.trod enc Tryz.prog W 0 spare held m 24 (([c0, c1, c2, c3, c4, c5].drop 0).take (Tryz.prog.cellsOf 24)) = [y0, y1, y2, y3, y4, y5][0]? := hf 0 _ rfl
          rw [k0] at q
          exact q
        have f1 : DataW.trod enc Tryz.prog W 0 spare held m 3 [c1] = some y1 := by
          have q : DataW.trod enc Tryz.prog W 0 spare held m 3 (([c0, c1, c2, c3, c4, c5].drop 1).take (Tryz.prog.cellsOf 3)) = [y0, y1, y2, y3, y4, y5][1]? := hf 1 _ rfl
          rw [k1] at q
          exact q
        have f2 : DataW.trod enc Tryz.prog W 0 spare held m 9 [c2] = some y2 := by
          have q : DataW.trod enc Tryz.prog W 0 spare held m 9 (([c0, c1, c2, c3, c4, c5].drop 2).take (Tryz.prog.cellsOf 9)) = [y0, y1, y2, y3, y4, y5][2]? := hf 2 _ rfl
          rw [k2] at q
          exact q
        have f3 : DataW.trod enc Tryz.prog W 0 spare held m 22 [c3] = some y3 := by
          have q : DataW.trod enc Tryz.prog W 0 spare held m 22 (([c0, c1, c2, c3, c4, c5].drop 3).take (Tryz.prog.cellsOf 22)) = [y0, y1, y2, y3, y4, y5][3]? := hf 3 _ rfl
          rw [k3] at q
          exact q
        have f4 : DataW.trod enc Tryz.prog W 0 spare held m 25 [c4] = some y4 := by
          have q : DataW.trod enc Tryz.prog W 0 spare held m 25 (([c0, c1, c2, c3, c4, c5].drop 4).take (Tryz.prog.cellsOf 25)) = [y0, y1, y2, y3, y4, y5][4]? := hf 4 _ rfl
          rw [k4] at q
          exact q
        have f5 : DataW.trod enc Tryz.prog W 0 spare held m 22 [c5] = some y5 := by
          have q : DataW.trod enc Tryz.prog W 0 spare held m 22 (([c0, c1, c2, c3, c4, c5].drop 5).take (Tryz.prog.cellsOf 22)) = [y0, y1, y2, y3, y4, y5][5]? := hf 5 _ rfl
          rw [k3] at q
          exact q
        have w : ∀ (j : Nat) (t : TypeId) (y : DataW H × List MemPlace), [24, 3, 9, 22, 25, 22][j]? = some t → [y0, y1, y2, y3, y4, y5][j]? = some y → ∀ k ∈ y.1.weights Tryz.prog t, k ≤ reachBytes := by
          intro j t y ht hy k hk
          refine hs k ?_
          simp only [DataW.weights, Tryz.underlying27]
          exact DataW.weights_mem_each (j := j) (by simpa using ht) (by rw [List.getElem?_map, hy]; rfl) k hk
        obtain ⟨kk, e0, _, _⟩ := DataW.trod_int Tryz.underlying24 f0
        obtain ⟨hh, e1, _, _⟩ := DataW.trod_int Tryz.underlying3 f1
        obtain ⟨s, e2, ey2, _⟩ := DataW.trod_string Tryz.underlying9 f2
        obtain ⟨ls, la, lc, e3, l1, l2, l3⟩ := open_values_of (fun q hq => IH q (by omega)) f3 (w 3 _ _ rfl rfl)
        obtain ⟨ks, ka, kc, e4, q1, q2, q3⟩ := open_strs f4 (w 4 _ _ rfl rfl)
        obtain ⟨vs, va, vc, e5, v1, v2, v3⟩ := open_values_of (fun q hq => IH q (by omega)) f5 (w 5 _ _ rfl rfl)
        simp only [List.cons.injEq, and_true] at e0 e1 e2 e3 e4 e5
        subst e0; subst e1; subst e2; subst e3; subst e4; subst e5
        have hsz : s.size ≤ Q := by
          have := w 2 _ _ rfl rfl s.data.toList.length (by rw [ey2]; simp [DataW.weights])
          simp at this
          exact Nat.le_trans this reach_Q
        refine ⟨.mk kk hh s ls ks vs, _, _, _, _, _, _, rfl, ?_, ?_⟩
        · rw [Wf]; exact ⟨hsz, l1, q1, v1, q2, l2, v2⟩
        · rw [RV]; exact ⟨la, lc, ka, kc, va, vc, rfl, l3, q3, v3⟩

theorem open_values {n : Nat} {cs : List Value} {x : DataW H × List MemPlace} (h : DataW.trod enc Tryz.prog W 0 spare held n 22 cs = some x) (hs : ∀ k ∈ x.1.weights Tryz.prog 22, k ≤ reachBytes) :
    ∃ (l : List V) (a : Option Addr) (c : Nat), cs = [.slice a l.length c] ∧ l.length ≤ Q ∧ WfL l ∧ RL W (All W) l a :=
  open_values_of (fun m _ => open_value m) h hs
end

end Go.Proofs.YtgjmgneppecfgaaGreatDoor.Va
