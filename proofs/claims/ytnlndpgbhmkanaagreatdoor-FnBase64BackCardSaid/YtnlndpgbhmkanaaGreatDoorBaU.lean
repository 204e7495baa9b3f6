/-
  FnBase64Back: the law's walk.
-/
import Derived.Test.YtnlndpgbhmkanaaGreatDoorBaM
import Derived.Test.YtnlndpgbhmkanaaGreatDoorBaR
import Derived.Test.YtnlndpgbhmkanaaGreatDoorBaS
namespace Go.Proofs.YtnlndpgbhmkanaaGreatDoor.Ba
open Go.RowKit Go.Proofs.YtnlndpgbhmkanaaGreatDoor.Va
set_option linter.unusedVariables false
set_option linter.unusedSimpArgs false

def LawEnd (w : World) (e : Ending) (w' : World) : Prop := e = .returned (.bool true) ∧ Below w.heap.size w w'
/-- what was written is read back -/
theorem back_any (s : ByteArray) (hs : s.size ≤ 4096) (w : World) : Calls Tryz.prog 104 #[.iface 9 (.string (numS (encB (bytesN s))))] w (IfStr s w) := by
  have h256 := bytesN_lt s
  have hlt := encB_lt _ h256
  have hb : bytesN (numS (encB (bytesN s))) = encB (bytesN s) := bytesN_numS _ fun x hx => by have := hlt x hx; omega
  have hsz : (numS (encB (bytesN s))).size = (encB (bytesN s)).length := by rw [← bytesN_len, hb]
  have hle : (numS (encB (bytesN s))).size ≤ 2147483647 := by rw [hsz, encB_len, bytesN_len]; omega
  refine (fromB64_any _ hle (by rw [hb]; exact hlt) w).mono ?_
  rintro e w' ⟨p, out, ok, hp, h1, h2, hr, he, hbl⟩
  rw [hb] at h1 h2 hr
  rw [hsz] at hp h2
  obtain ⟨rfl, rfl⟩ := back _ h256 p out ok hp h1 h2 hr
  rcases he with ⟨_, rfl⟩ | ⟨q, _⟩
  · exact ⟨by rw [numS_bytesN], hbl⟩
  · cases q

set_option maxHeartbeats 4000000 in
set_option maxRecDepth 100000 in
theorem base64_law (s : ByteArray) (hs0 : s.size ≤ 9223372036854775807) (w : World) (hT : Tabs w) : Calls Tryz.prog 5 #[.string s] w (LawEnd w) := by
  obtain ⟨n, hn⟩ : ∃ n, s.size = n := ⟨_, rfl⟩
  have HSZ := Lib.hid hn
  obtain ⟨vd, hv⟩ : ∃ v, Hid (Lib.validD s.data.toList = v) := ⟨_, Lib.hid rfl⟩
  have HVC : Hid (Calls Tryz.prog 18 #[.string s] w fun e w' => e = .returned (.bool vd) ∧ Below w.heap.size w w') := Lib.hid (by
    have := Tryz.utf8_ValidString s w hs0 hT
    rwa [hv.out] at this)
  rw [hn] at hs0
  clear hT
  go_enter Tryz.func5, Tryz.ntmps5
  by_cases hbig : 2147483647 < n
  · go_wp2_with fail
    go_returns
    exact ⟨rfl, Below.refl _ _⟩
  by_cases hb2 : 4096 < n
  · go_wp2_with fail
    go_returns
    exact ⟨rfl, Below.refl _ _⟩
  go_wp2_with fail
  refine HVC.out.mono ?_
  rintro e w1 ⟨rfl, hb1⟩
  have B1 := Lib.hid hb1
  clear hb1 HVC
  cases vd
  · go_wp2_with fail
    go_returns
    exact ⟨rfl, B1.out⟩
  have HCW := Lib.hid (cmp_good 1 (strV s) (by unfold strV; rw [V.size, sizeL]; omega) (by omega) (good_str s (by omega) hv.out))
  have H1 := Lib.hid (fun w2 => fmtB64_any s _ (fun w1 => toB64_any s (by omega) w1) w2)
  have H2 := Lib.hid (fun w2 => fmtB64D_any _ s (fun w1 => back_any s (by omega) w1) w2)
  obtain ⟨t, ht⟩ : ∃ t, numS (encB (bytesN s)) = t := ⟨_, rfl⟩
  rw [ht] at H1 H2
  clear ht hn hv
  go_wp2_with fail
  refine (mkStr_any s w1).mono ?_
  rintro e w2 ⟨rfl, hb2'⟩
  unfold flat
  have B2 := Lib.hid (B1.out.trans (hb2'.mono B1.out.size))
  clear hb2'
  go_wp2_with fail
  refine (H1.out w2).mono ?_
  rintro e w3 ⟨c0, c1, c2, c3, c4, c5, rfl, hv3, hb3⟩
  obtain ⟨la, lc, ka, kc, va, vc, e3⟩ := rv_str_inv hv3
  simp only [Value.agg.injEq, Array.mk.injEq, List.cons.injEq, and_true] at e3
  obtain ⟨rfl, rfl, rfl, rfl, rfl, rfl⟩ := e3
  have B3 := Lib.hid (B2.out.trans (hb3.mono B2.out.size))
  clear hv3 hb3
  go_wp2_with fail
  refine (text_any t la ka va lc kc vc w3).mono ?_
  rintro e w4 ⟨rfl, hb4⟩
  have B4 := Lib.hid (B3.out.trans (hb4.mono B3.out.size))
  clear hb4
  go_wp2_with fail
  refine (mkStr_any t w4).mono ?_
  rintro e w5 ⟨rfl, hb5⟩
  unfold flat
  have B5 := Lib.hid (B4.out.trans (hb5.mono B4.out.size))
  clear hb5
  go_wp2_with fail
  refine (H2.out w5).mono ?_
  rintro e w6 ⟨c0, c1, c2, c3, c4, c5, rfl, hv6, hb6⟩
  obtain ⟨la', lc', ka', kc', va', vc', e6⟩ := rv_str_inv hv6
  simp only [Value.agg.injEq, Array.mk.injEq, List.cons.injEq, and_true] at e6
  obtain ⟨rfl, rfl, rfl, rfl, rfl, rfl⟩ := e6
  have B6 := Lib.hid (B5.out.trans (hb6.mono B5.out.size))
  clear hv6 hb6
  go_wp2_with fail
  refine (mkStr_any s w6).mono ?_
  rintro e w7 ⟨rfl, hb7⟩
  unfold flat
  have B7 := Lib.hid (B6.out.trans (hb7.mono B6.out.size))
  clear hb7
  go_wp2_with fail
  refine (given_fine 4 0 s la' ka' va' 0 0 0 lc' kc' vc' 4 0 s none none none 0 0 0 0 0 0 w7 (strV s) HCW.out (fun _ => False) (rv_str _ _ _ _ _ _ _ _ _) (rv_str _ _ _ _ _ _ _ _ _) (fun b h => h.elim)).mono ?_
  rintro e w8 ⟨rfl, hb8⟩
  have B8 := Lib.hid (B7.out.trans (hb8.mono B7.out.size))
  clear hb8
  go_wp2_with fail
  go_returns
  exact ⟨rfl, B8.out⟩
end Go.Proofs.YtnlndpgbhmkanaaGreatDoor.Ba
