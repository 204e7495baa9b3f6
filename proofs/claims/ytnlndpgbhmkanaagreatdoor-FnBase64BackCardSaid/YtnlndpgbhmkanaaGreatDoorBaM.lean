/-
  THE WALK of @base64d at an ASCII text.
-/
import Derived.Test.YtnlndpgbhmkanaaGreatDoorBaK
import Derived.Test.YtnlndpgbhmkanaaGreatDoorBaL
namespace Go.Proofs.YtnlndpgbhmkanaaGreatDoor.Ba
open Go.RowKit Go.Proofs.YtnlndpgbhmkanaaGreatDoor.Va
set_option linter.unusedVariables false
set_option linter.unusedSimpArgs false

theorem bytesN_extract (s : ByteArray) (p : Nat) : bytesN (s.extract 0 p) = (bytesN s).take p := by
  unfold bytesN
  rw [ByteArray.data_extract, Array.toList_extract, List.map_take]
  simp [List.extract]
/-- what stands before the first '=' -/
def From64 (s : ByteArray) (w : World) (e : Ending) (w' : World) : Prop :=
  ∃ (p : Nat) (out : List Nat) (ok : Bool), p ≤ s.size ∧ (∀ j, j < p → (bytesN s).getD j 0 ≠ 61) ∧ (p = s.size ∨ (p < s.size ∧ (bytesN s).getD p 0 = 61)) ∧ runD ((bytesN s).take p) (((bytesN s).take p).length + 1) 0 [] = (out, ok) ∧
    ((ok = true ∧ e = .returned (.iface 9 (.string (numS out)))) ∨ (ok = false ∧ ∃ a, e = .returned (.iface 170 (.pointer (some a))))) ∧ Below w.heap.size w w'

set_option maxHeartbeats 2000000 in
set_option maxRecDepth 100000 in
theorem fromB64_any (s : ByteArray) (hs : s.size ≤ 2147483647) (ha : ∀ x ∈ bytesN s, x < 128) (w : World) : Calls Tryz.prog 104 #[.iface 9 (.string s)] w (From64 s w) := by
  have HIDX := Lib.hid (fun w1 => idx_any s (by omega) ha w1)
  obtain ⟨n, hn⟩ : ∃ n, s.size = n := ⟨_, rfl⟩
  have HSZ := Lib.hid hn
  rw [hn] at hs
  clear ha
  go_enter Tryz.func104, Tryz.ntmps104
  go_wp2_with fail
  refine (toStr_str s w).mono ?_
  rintro e w1 ⟨rfl, hb1⟩
  have B1 := Lib.hid hb1
  clear hb1
  go_wp2_with fail
  refine (HIDX.out w1).mono ?_
  rintro e w2 ⟨p, hps, hno, hres, hb2⟩
  have B2 := Lib.hid (B1.out.trans (hb2.mono B1.out.size))
  have HNO := Lib.hid hno
  have hL : ∃ t : ByteArray, t = s.extract 0 p := ⟨_, rfl⟩
  obtain ⟨t, ht⟩ := hL
  have HT := Lib.hid ht
  have HTB : Hid (bytesN t = (bytesN s).take p) := Lib.hid (by rw [ht, bytesN_extract])
  have hts : t.size ≤ n := by
    have := congrArg List.length HTB.out
    rw [bytesN_len, List.length_take, bytesN_len, hn] at this
    omega
  have hfull : p = n → t = s := fun e => by
    rw [ht, e, ← hn]
    exact ByteArray.extract_zero_size
  have HFULL := Lib.hid hfull
  rw [hn] at hps hres
  clear hno hb2 ht hfull HIDX
  have HTS := Lib.hid hts
  have HPR : Hid (p = s.size ∨ (p < s.size ∧ (bytesN s).getD p 0 = 61)) := Lib.hid (by
    rcases hres with ⟨h, _⟩ | ⟨h1, h2, _⟩
    · exact .inl (by rw [hn]; exact h)
    · exact .inr ⟨by rw [hn]; exact h1, h2⟩)
  have HPS := Lib.hid hps
  clear hts
  rcases hres with ⟨hpe, rfl⟩ | ⟨hlt, heq, rfl⟩
  · have hst : t = s := HFULL.out hpe
    subst hst
    clear hpe hn
    go_wp2_with fail
    refine (new_any w2).mono ?_
    rintro e w3 ⟨rfl, hb3, hr3⟩
    have B3 := Lib.hid (B2.out.trans (hb3.mono B2.out.size))
    have HR := Lib.hid hr3
    clear hb3 hr3
    go_wp2_with (refine wpList_load_part rfl 197 (.tmp 23) rfl w2.heap.size 0 322 322 rfl 197 (encF 64 61) HR.out (by decide) _ Tryz.underlying197 rfl (by kernel_rfl) ?_; intro cs hcs hcz; have HCS := Lib.hid hcs; have HCZ := Lib.hid hcz; clear hcs hcz)
    refine (pad_any cs HCZ.out (fun i hi => by rw [HCS.out i hi, Nat.zero_add]) w3).mono ?_
    rintro e w4 ⟨b, rfl, _, hb4, hr4⟩
    have B4 := Lib.hid (B3.out.trans (hb4.mono B3.out.size))
    have HR4 := Lib.hid hr4
    clear hb4 hr4 HCS HCZ
    go_wp2_with fail
    refine (decS_any b t (by have := HTS.out; omega) w4 HR4.out).mono ?_
    rintro e w5 ⟨out, ok, ev, bb, cap, hrun, hcap, hbig, rfl, hev, hcell, hb5⟩
    have B5 := Lib.hid (B4.out.trans (hb5.mono B4.out.size))
    have HRUN := Lib.hid hrun
    have HCELL := Lib.hid hcell
    clear hb5 hrun hcell
    rcases hev with ⟨rfl, rfl⟩ | ⟨rfl, v, rfl⟩
    · obtain ⟨m, hm⟩ : ∃ m, out.length = m := ⟨_, rfl⟩
      have HM := Lib.hid hm
      have g := run_convert_bytes_arg (P := Tryz.prog) w5 73 5 Tryz.underlying73 Tryz.underlying5 bb 0 m cap (out.map fun x : Nat => (x : Int)) (by rw [List.length_map]; exact hm)
        (fun i hi => by
          rw [Nat.zero_add, HCELL.out i (by rw [HM.out]; exact hi)]
          simp [List.getD, List.getElem?_eq_getElem (show i < out.length by rw [HM.out]; exact hi)]) 9 Tryz.underlying9
      rw [hm] at hcap hbig ⊢
      clear hm
      go_wp2_with fail
      go_returns
      exact ⟨p, out, true, by rw [HSZ.out]; exact HPS.out, HNO.out, HPR.out, by rw [← HTB.out]; exact HRUN.out, .inl ⟨rfl, rfl⟩, B5.out⟩
    · go_wp2_with fail
      go_returns
      exact ⟨p, out, false, by rw [HSZ.out]; exact HPS.out, HNO.out, HPR.out, by rw [← HTB.out]; exact HRUN.out, .inr ⟨rfl, _, rfl⟩, (by first | exact B5.out | exact B5.out.trans ((below_alloc _ _).mono B5.out.size))⟩
  · clear heq
    have hex : s.extract 0 p = t := HT.out.symm
    go_wp2_with fail
    refine (new_any w2).mono ?_
    rintro e w3 ⟨rfl, hb3, hr3⟩
    have B3 := Lib.hid (B2.out.trans (hb3.mono B2.out.size))
    have HR := Lib.hid hr3
    clear hb3 hr3
    go_wp2_with (refine wpList_load_part rfl 197 (.tmp 23) rfl w2.heap.size 0 322 322 rfl 197 (encF 64 61) HR.out (by decide) _ Tryz.underlying197 rfl (by kernel_rfl) ?_; intro cs hcs hcz; have HCS := Lib.hid hcs; have HCZ := Lib.hid hcz; clear hcs hcz)
    refine (pad_any cs HCZ.out (fun i hi => by rw [HCS.out i hi, Nat.zero_add]) w3).mono ?_
    rintro e w4 ⟨b, rfl, _, hb4, hr4⟩
    have B4 := Lib.hid (B3.out.trans (hb4.mono B3.out.size))
    have HR4 := Lib.hid hr4
    clear hb4 hr4 HCS HCZ
    go_wp2_with fail
    refine (decS_any b t (by have := HTS.out; omega) w4 HR4.out).mono ?_
    rintro e w5 ⟨out, ok, ev, bb, cap, hrun, hcap, hbig, rfl, hev, hcell, hb5⟩
    have B5 := Lib.hid (B4.out.trans (hb5.mono B4.out.size))
    have HRUN := Lib.hid hrun
    have HCELL := Lib.hid hcell
    clear hb5 hrun hcell
    rcases hev with ⟨rfl, rfl⟩ | ⟨rfl, v, rfl⟩
    · obtain ⟨m, hm⟩ : ∃ m, out.length = m := ⟨_, rfl⟩
      have HM := Lib.hid hm
      have g := run_convert_bytes_arg (P := Tryz.prog) w5 73 5 Tryz.underlying73 Tryz.underlying5 bb 0 m cap (out.map fun x : Nat => (x : Int)) (by rw [List.length_map]; exact hm)
        (fun i hi => by
          rw [Nat.zero_add, HCELL.out i (by rw [HM.out]; exact hi)]
          simp [List.getD, List.getElem?_eq_getElem (show i < out.length by rw [HM.out]; exact hi)]) 9 Tryz.underlying9
      rw [hm] at hcap hbig ⊢
      clear hm
      go_wp2_with fail
      go_returns
      exact ⟨p, out, true, by rw [HSZ.out]; exact HPS.out, HNO.out, HPR.out, by rw [← HTB.out]; exact HRUN.out, .inl ⟨rfl, rfl⟩, B5.out⟩
    · go_wp2_with fail
      go_returns
      exact ⟨p, out, false, by rw [HSZ.out]; exact HPS.out, HNO.out, HPR.out, by rw [← HTB.out]; exact HRUN.out, .inr ⟨rfl, _, rfl⟩, (by first | exact B5.out | exact B5.out.trans ((below_alloc _ _).mono B5.out.size))⟩
end Go.Proofs.YtnlndpgbhmkanaaGreatDoor.Ba
