/-
  THE WALK of the lexer's scanNumber: a round of its loop for each state and each kind of byte.
-/
import Derived.Test.YtnlndpgbhmkanaaVnA
namespace Go.Proofs.Ytnlndpgbhmkanaa.Vn
open Go.RowKit

set_option maxHeartbeats 4000000 in
set_option maxRecDepth 100000 in
theorem scan_any (b : Nat) (s : ByteArray) (k0 : Nat) (st0 : Int) (hk0 : k0 ≤ s.size) (hs : s.size ≤ 2147483647) (hst : 0 ≤ st0 ∧ st0 ≤ 1) (w : World) (hl : LexAt b s k0 w) :
    Calls Try.prog 30 #[.pointer (some ⟨b, 0, none⟩), .int .i64 st0] w (ScanEnd b s w (acc st0 (s.data.toList.drop k0))) := by
  obtain ⟨A, hA0⟩ : ∃ A, acc st0 (s.data.toList.drop k0) = A := ⟨_, rfl⟩
  rw [hA0]
  have HA0 := Lib.hid hA0
  clear hA0
  go_enter Try.func30, Try.ntmps30
  go_wp2
  go_loopw [1] (fun st wr => Scan b s w A st wr) (fun _ wr => s.size - offOf b wr)
  case atStart => exact ⟨k0, st0, hk0, hst.1, by omega, by omega, rfl, hl, Below.refl _ _, HA0.out⟩
  case round =>
    clear hl
    obtain ⟨k, t, hk, ht0, ht3, ht2, rfl, hl, hb, hacc⟩ := hrel
    have HA := Lib.hid hacc
    clear hacc
    have hl0 := hl.offOf
    have HL0 := Lib.hid hl0
    clear hl0
    have hc0 := hl.src
    have hc1 := hl.off
    have hcf := hl.free
    have ht : t = 0 ∨ t = 1 ∨ t = 2 ∨ t = 3 := by omega
    by_cases hkl : k < s.size
    · have hdr := Lib.hid (drop_cons s k hkl)
      obtain ⟨c, hc⟩ : ∃ c, Hid (cI s[k] = c) := ⟨_, Lib.hid rfl⟩
      rcases ht with rfl | rfl | rfl | rfl
      · by_cases hn : isNum c = true
        · go_wp2_with fail
          refine (peek_at b s k c hkl hc hs _ (by go_cell) (by go_cell)).mono ?_
          rintro e w' ⟨rfl, ⟨nd, rfl⟩⟩
          go_wp2_with fail
          refine (isNumber_any c _).mono ?_
          rintro e w' ⟨rfl, rfl⟩
          go_wp2
          go_roundw
          case rel => exact scan_of (k + 1) 0 (by omega) (by omega) (by omega) (by omega) ((hl.drewN _).setK _ (k + 1) (by omega)) ((below_drewN' hb _).setCell (Nat.le_refl _) _) (by have h := HA.out; rw [hdr.out] at h; simpa [acc, acc0, hc.out, hn] using h)
          case measure => (rw [HL0.out, (((hl.drewN _).setK _ (k + 1) (by omega))).offOf]; omega)
        · have hn' : isNum c = false := by simpa using hn
          clear hn
          have hn := hn'
          clear hn'
          by_cases h46 : (c == 46) = true
          · go_wp2_with fail
            refine (peek_at b s k c hkl hc hs _ (by go_cell) (by go_cell)).mono ?_
            rintro e w' ⟨rfl, ⟨nd, rfl⟩⟩
            go_wp2_with fail
            refine (isNumber_any c _).mono ?_
            rintro e w' ⟨rfl, rfl⟩
            go_wp2
            go_roundw
            case rel => exact scan_of (k + 1) 1 (by omega) (by omega) (by omega) (by omega) ((hl.drewN _).setK _ (k + 1) (by omega)) ((below_drewN' hb _).setCell (Nat.le_refl _) _) (by have h := HA.out; rw [hdr.out] at h; simpa [acc, acc0, hc.out, hn, h46] using h)
            case measure => (rw [HL0.out, (((hl.drewN _).setK _ (k + 1) (by omega))).offOf]; omega)
          · have h46' : (c == 46) = false := by simpa using h46
            clear h46
            have h46 := h46'
            clear h46'
            by_cases hE : isE c = true
            · have he : (c == 101) = true ∨ ((c == 101) = false ∧ (c == 69) = true) := by
                unfold isE at hE; revert hE; cases (c == 101) <;> simp
              have HE := Lib.hid hE
              clear hE
              by_cases hk1 : k + 1 < s.size
              · have hdr1 := Lib.hid (drop_cons s (k + 1) hk1)
                obtain ⟨d, hd⟩ : ∃ d, Hid (cI s[k + 1] = d) := ⟨_, Lib.hid rfl⟩
                rcases (show ((d == 45) = true) ∨ ((d == 45) = false ∧ (d == 43) = true) ∨ ((d == 45) = false ∧ (d == 43) = false) by cases (d == 45) <;> cases (d == 43) <;> simp) with hs1 | ⟨hs1, hs2⟩ | ⟨hs1, hs2⟩
                · have hsg : isSign d = true := by unfold isSign; simp [hs1]
                  have hsg' := Lib.hid hsg
                  clear hsg
                  have hsg := hsg'
                  clear hsg'
                  rcases he with he | ⟨he1, he2⟩
                  · go_wp2_with fail
                    refine (peek_at b s k c hkl hc hs _ (by go_cell) (by go_cell)).mono ?_
                    rintro e w' ⟨rfl, ⟨nd, rfl⟩⟩
                    go_wp2_with fail
                    refine (isNumber_any c _).mono ?_
                    rintro e w' ⟨rfl, rfl⟩
                    go_wp2_with fail
                    refine (peek_at b s (k + 1) d hk1 hd hs _ (by go_cell) (by go_cell)).mono ?_
                    rintro e w' ⟨rfl, ⟨nd, rfl⟩⟩
                    go_wp2
                    go_roundw
                    case rel => exact scan_of (k + 2) 2 (by omega) (by omega) (by omega) (by omega) ((((hl.drewN _).setK _ (k + 1) (by omega)).drewN _).setK _ (k + 2) (by omega)) ((below_drewN' ((below_drewN' hb _).setCell (Nat.le_refl _) _) _).setCell (Nat.le_refl _) _) (by have h := HA.out; rw [hdr.out, hdr1.out] at h; simpa [acc, acc0, hc.out, hn, h46, HE.out, dropSign, hd.out, hsg.out] using h)
                    case measure => (rw [HL0.out, (((((hl.drewN _).setK _ (k + 1) (by omega)).drewN _).setK _ (k + 2) (by omega))).offOf]; omega)
                  · go_wp2_with fail
                    refine (peek_at b s k c hkl hc hs _ (by go_cell) (by go_cell)).mono ?_
                    rintro e w' ⟨rfl, ⟨nd, rfl⟩⟩
                    go_wp2_with fail
                    refine (isNumber_any c _).mono ?_
                    rintro e w' ⟨rfl, rfl⟩
                    go_wp2_with fail
                    refine (peek_at b s (k + 1) d hk1 hd hs _ (by go_cell) (by go_cell)).mono ?_
                    rintro e w' ⟨rfl, ⟨nd, rfl⟩⟩
                    go_wp2
                    go_roundw
                    case rel => exact scan_of (k + 2) 2 (by omega) (by omega) (by omega) (by omega) ((((hl.drewN _).setK _ (k + 1) (by omega)).drewN _).setK _ (k + 2) (by omega)) ((below_drewN' ((below_drewN' hb _).setCell (Nat.le_refl _) _) _).setCell (Nat.le_refl _) _) (by have h := HA.out; rw [hdr.out, hdr1.out] at h; simpa [acc, acc0, hc.out, hn, h46, HE.out, dropSign, hd.out, hsg.out] using h)
                    case measure => (rw [HL0.out, (((((hl.drewN _).setK _ (k + 1) (by omega)).drewN _).setK _ (k + 2) (by omega))).offOf]; omega)
                · have hsg : isSign d = true := by unfold isSign; simp [hs1, hs2]
                  have hsg' := Lib.hid hsg
                  clear hsg
                  have hsg := hsg'
                  clear hsg'
                  rcases he with he | ⟨he1, he2⟩
                  · go_wp2_with fail
                    refine (peek_at b s k c hkl hc hs _ (by go_cell) (by go_cell)).mono ?_
                    rintro e w' ⟨rfl, ⟨nd, rfl⟩⟩
                    go_wp2_with fail
                    refine (isNumber_any c _).mono ?_
                    rintro e w' ⟨rfl, rfl⟩
                    go_wp2_with fail
                    refine (peek_at b s (k + 1) d hk1 hd hs _ (by go_cell) (by go_cell)).mono ?_
                    rintro e w' ⟨rfl, ⟨nd, rfl⟩⟩
                    go_wp2
                    go_roundw
                    case rel => exact scan_of (k + 2) 2 (by omega) (by omega) (by omega) (by omega) ((((hl.drewN _).setK _ (k + 1) (by omega)).drewN _).setK _ (k + 2) (by omega)) ((below_drewN' ((below_drewN' hb _).setCell (Nat.le_refl _) _) _).setCell (Nat.le_refl _) _) (by have h := HA.out; rw [hdr.out, hdr1.out] at h; simpa [acc, acc0, hc.out, hn, h46, HE.out, dropSign, hd.out, hsg.out] using h)
                    case measure => (rw [HL0.out, (((((hl.drewN _).setK _ (k + 1) (by omega)).drewN _).setK _ (k + 2) (by omega))).offOf]; omega)
                  · go_wp2_with fail
                    refine (peek_at b s k c hkl hc hs _ (by go_cell) (by go_cell)).mono ?_
                    rintro e w' ⟨rfl, ⟨nd, rfl⟩⟩
                    go_wp2_with fail
                    refine (isNumber_any c _).mono ?_
                    rintro e w' ⟨rfl, rfl⟩
                    go_wp2_with fail
                    refine (peek_at b s (k + 1) d hk1 hd hs _ (by go_cell) (by go_cell)).mono ?_
                    rintro e w' ⟨rfl, ⟨nd, rfl⟩⟩
                    go_wp2
                    go_roundw
                    case rel => exact scan_of (k + 2) 2 (by omega) (by omega) (by omega) (by omega) ((((hl.drewN _).setK _ (k + 1) (by omega)).drewN _).setK _ (k + 2) (by omega)) ((below_drewN' ((below_drewN' hb _).setCell (Nat.le_refl _) _) _).setCell (Nat.le_refl _) _) (by have h := HA.out; rw [hdr.out, hdr1.out] at h; simpa [acc, acc0, hc.out, hn, h46, HE.out, dropSign, hd.out, hsg.out] using h)
                    case measure => (rw [HL0.out, (((((hl.drewN _).setK _ (k + 1) (by omega)).drewN _).setK _ (k + 2) (by omega))).offOf]; omega)
                · have hsg : isSign d = false := by unfold isSign; simp [hs1, hs2]
                  have hsg' := Lib.hid hsg
                  clear hsg
                  have hsg := hsg'
                  clear hsg'
                  rcases he with he | ⟨he1, he2⟩
                  · go_wp2_with fail
                    refine (peek_at b s k c hkl hc hs _ (by go_cell) (by go_cell)).mono ?_
                    rintro e w' ⟨rfl, ⟨nd, rfl⟩⟩
                    go_wp2_with fail
                    refine (isNumber_any c _).mono ?_
                    rintro e w' ⟨rfl, rfl⟩
                    go_wp2_with fail
                    refine (peek_at b s (k + 1) d hk1 hd hs _ (by go_cell) (by go_cell)).mono ?_
                    rintro e w' ⟨rfl, ⟨nd, rfl⟩⟩
                    go_wp2
                    go_roundw
                    case rel => exact scan_of (k + 1) 2 (by omega) (by omega) (by omega) (by omega) (((hl.drewN _).setK _ (k + 1) (by omega)).drewN _) (below_drewN' ((below_drewN' hb _).setCell (Nat.le_refl _) _) _) (by have h := HA.out; rw [hdr.out, hdr1.out] at h; rw [hdr1.out]; simpa [acc, acc0, hc.out, hn, h46, HE.out, dropSign, hd.out, hsg.out] using h)
                    case measure => (rw [HL0.out, ((((hl.drewN _).setK _ (k + 1) (by omega)).drewN _)).offOf]; omega)
                  · go_wp2_with fail
                    refine (peek_at b s k c hkl hc hs _ (by go_cell) (by go_cell)).mono ?_
                    rintro e w' ⟨rfl, ⟨nd, rfl⟩⟩
                    go_wp2_with fail
                    refine (isNumber_any c _).mono ?_
                    rintro e w' ⟨rfl, rfl⟩
                    go_wp2_with fail
                    refine (peek_at b s (k + 1) d hk1 hd hs _ (by go_cell) (by go_cell)).mono ?_
                    rintro e w' ⟨rfl, ⟨nd, rfl⟩⟩
                    go_wp2
                    go_roundw
                    case rel => exact scan_of (k + 1) 2 (by omega) (by omega) (by omega) (by omega) (((hl.drewN _).setK _ (k + 1) (by omega)).drewN _) (below_drewN' ((below_drewN' hb _).setCell (Nat.le_refl _) _) _) (by have h := HA.out; rw [hdr.out, hdr1.out] at h; rw [hdr1.out]; simpa [acc, acc0, hc.out, hn, h46, HE.out, dropSign, hd.out, hsg.out] using h)
                    case measure => (rw [HL0.out, ((((hl.drewN _).setK _ (k + 1) (by omega)).drewN _)).offOf]; omega)
              · rcases he with he | ⟨he1, he2⟩
                · go_wp2_with fail
                  refine (peek_at b s k c hkl hc hs _ (by go_cell) (by go_cell)).mono ?_
                  rintro e w' ⟨rfl, ⟨nd, rfl⟩⟩
                  go_wp2_with fail
                  refine (isNumber_any c _).mono ?_
                  rintro e w' ⟨rfl, rfl⟩
                  go_wp2_with fail
                  refine (peek_end b s (k + 1) (by omega) (by omega) _ (by go_cell) (by go_cell)).mono ?_
                  rintro e w' ⟨rfl, ⟨nd, rfl⟩⟩
                  go_wp2
                  go_roundw
                  case rel => exact scan_of (k + 1) 2 (by omega) (by omega) (by omega) (by omega) (((hl.drewN _).setK _ (k + 1) (by omega)).drewN _) (below_drewN' ((below_drewN' hb _).setCell (Nat.le_refl _) _) _) (by have h := HA.out; rw [hdr.out, drop_end s (k + 1) (by omega)] at h; rw [drop_end s (k + 1) (by omega)]; simpa [acc, acc0, hc.out, hn, h46, HE.out, dropSign] using h)
                  case measure => (rw [HL0.out, ((((hl.drewN _).setK _ (k + 1) (by omega)).drewN _)).offOf]; omega)
                · go_wp2_with fail
                  refine (peek_at b s k c hkl hc hs _ (by go_cell) (by go_cell)).mono ?_
                  rintro e w' ⟨rfl, ⟨nd, rfl⟩⟩
                  go_wp2_with fail
                  refine (isNumber_any c _).mono ?_
                  rintro e w' ⟨rfl, rfl⟩
                  go_wp2_with fail
                  refine (peek_end b s (k + 1) (by omega) (by omega) _ (by go_cell) (by go_cell)).mono ?_
                  rintro e w' ⟨rfl, ⟨nd, rfl⟩⟩
                  go_wp2
                  go_roundw
                  case rel => exact scan_of (k + 1) 2 (by omega) (by omega) (by omega) (by omega) (((hl.drewN _).setK _ (k + 1) (by omega)).drewN _) (below_drewN' ((below_drewN' hb _).setCell (Nat.le_refl _) _) _) (by have h := HA.out; rw [hdr.out, drop_end s (k + 1) (by omega)] at h; rw [drop_end s (k + 1) (by omega)]; simpa [acc, acc0, hc.out, hn, h46, HE.out, dropSign] using h)
                  case measure => (rw [HL0.out, ((((hl.drewN _).setK _ (k + 1) (by omega)).drewN _)).offOf]; omega)
            · have hE' : isE c = false := by simpa using hE
              clear hE
              obtain ⟨he1, he2⟩ : (c == 101) = false ∧ (c == 69) = false := by unfold isE at hE'; revert hE'; cases (c == 101) <;> simp
              have HE := Lib.hid hE'
              clear hE'
              by_cases hi : isId c = true
              · go_wp2_with fail
                refine (peek_at b s k c hkl hc hs _ (by go_cell) (by go_cell)).mono ?_
                rintro e w' ⟨rfl, ⟨nd, rfl⟩⟩
                go_wp2_with fail
                refine (isNumber_any c _).mono ?_
                rintro e w' ⟨rfl, rfl⟩
                go_wp2_with fail
                refine (isIdent_any c _).mono ?_
                rintro e w' ⟨rfl, rfl⟩
                go_wp2
                go_ret
                exact scanEnd_of (k + 1) _ ((hl.drewN _).setK _ (k + 1) (by omega)) ((below_drewN' hb _).setCell (Nat.le_refl _) _) (by have h := HA.out; rw [hdr.out] at h; rw [← h]; simp [acc, acc0, hc.out, hn, h46, HE.out]; omega)
              · have hi' : isId c = false := by simpa using hi
                clear hi
                go_wp2_with fail
                refine (peek_at b s k c hkl hc hs _ (by go_cell) (by go_cell)).mono ?_
                rintro e w' ⟨rfl, ⟨nd, rfl⟩⟩
                go_wp2_with fail
                refine (isNumber_any c _).mono ?_
                rintro e w' ⟨rfl, rfl⟩
                go_wp2_with fail
                refine (isIdent_any c _).mono ?_
                rintro e w' ⟨rfl, rfl⟩
                go_wp2
                go_ret
                exact scanEnd_of (k) _ (hl.drewN _) (below_drewN' hb _) (by have h := HA.out; rw [hdr.out] at h; rw [← h]; simp [acc, acc0, hc.out, hn, h46, HE.out]; omega)
      · by_cases hn : isNum c = true
        · go_wp2_with fail
          refine (peek_at b s k c hkl hc hs _ (by go_cell) (by go_cell)).mono ?_
          rintro e w' ⟨rfl, ⟨nd, rfl⟩⟩
          go_wp2_with fail
          refine (isNumber_any c _).mono ?_
          rintro e w' ⟨rfl, rfl⟩
          go_wp2
          go_roundw
          case rel => exact scan_of (k + 1) 1 (by omega) (by omega) (by omega) (by omega) ((hl.drewN _).setK _ (k + 1) (by omega)) ((below_drewN' hb _).setCell (Nat.le_refl _) _) (by have h := HA.out; rw [hdr.out] at h; simpa [acc, acc1, hc.out, hn] using h)
          case measure => (rw [HL0.out, (((hl.drewN _).setK _ (k + 1) (by omega))).offOf]; omega)
        · have hn' : isNum c = false := by simpa using hn
          clear hn
          have hn := hn'
          clear hn'
          by_cases h46 : (c == 46) = true
          · have hne : isE c = false := by (unfold isE; have h := h46; simp at h; simp [h])
            go_wp2_with fail
            refine (peek_at b s k c hkl hc hs _ (by go_cell) (by go_cell)).mono ?_
            rintro e w' ⟨rfl, ⟨nd, rfl⟩⟩
            go_wp2_with fail
            refine (isNumber_any c _).mono ?_
            rintro e w' ⟨rfl, rfl⟩
            go_wp2
            go_ret
            exact scanEnd_of (k + 1) _ ((hl.drewN _).setK _ (k + 1) (by omega)) ((below_drewN' hb _).setCell (Nat.le_refl _) _) (by have h := HA.out; rw [hdr.out] at h; rw [← h]; simp [acc, acc1, hc.out, hn, hne]; omega)
          · have h46' : (c == 46) = false := by simpa using h46
            clear h46
            have h46 := h46'
            clear h46'
            by_cases hE : isE c = true
            · have he : (c == 101) = true ∨ ((c == 101) = false ∧ (c == 69) = true) := by
                unfold isE at hE; revert hE; cases (c == 101) <;> simp
              have HE := Lib.hid hE
              clear hE
              by_cases hk1 : k + 1 < s.size
              · have hdr1 := Lib.hid (drop_cons s (k + 1) hk1)
                obtain ⟨d, hd⟩ : ∃ d, Hid (cI s[k + 1] = d) := ⟨_, Lib.hid rfl⟩
                rcases (show ((d == 45) = true) ∨ ((d == 45) = false ∧ (d == 43) = true) ∨ ((d == 45) = false ∧ (d == 43) = false) by cases (d == 45) <;> cases (d == 43) <;> simp) with hs1 | ⟨hs1, hs2⟩ | ⟨hs1, hs2⟩
                · have hsg : isSign d = true := by unfold isSign; simp [hs1]
                  have hsg' := Lib.hid hsg
                  clear hsg
                  have hsg := hsg'
                  clear hsg'
                  rcases he with he | ⟨he1, he2⟩
                  · go_wp2_with fail
                    refine (peek_at b s k c hkl hc hs _ (by go_cell) (by go_cell)).mono ?_
                    rintro e w' ⟨rfl, ⟨nd, rfl⟩⟩
                    go_wp2_with fail
                    refine (isNumber_any c _).mono ?_
                    rintro e w' ⟨rfl, rfl⟩
                    go_wp2_with fail
                    refine (peek_at b s (k + 1) d hk1 hd hs _ (by go_cell) (by go_cell)).mono ?_
                    rintro e w' ⟨rfl, ⟨nd, rfl⟩⟩
                    go_wp2
                    go_roundw
                    case rel => exact scan_of (k + 2) 2 (by omega) (by omega) (by omega) (by omega) ((((hl.drewN _).setK _ (k + 1) (by omega)).drewN _).setK _ (k + 2) (by omega)) ((below_drewN' ((below_drewN' hb _).setCell (Nat.le_refl _) _) _).setCell (Nat.le_refl _) _) (by have h := HA.out; rw [hdr.out, hdr1.out] at h; simpa [acc, acc1, hc.out, hn, h46, HE.out, dropSign, hd.out, hsg.out] using h)
                    case measure => (rw [HL0.out, (((((hl.drewN _).setK _ (k + 1) (by omega)).drewN _).setK _ (k + 2) (by omega))).offOf]; omega)
                  · go_wp2_with fail
                    refine (peek_at b s k c hkl hc hs _ (by go_cell) (by go_cell)).mono ?_
                    rintro e w' ⟨rfl, ⟨nd, rfl⟩⟩
                    go_wp2_with fail
                    refine (isNumber_any c _).mono ?_
                    rintro e w' ⟨rfl, rfl⟩
                    go_wp2_with fail
                    refine (peek_at b s (k + 1) d hk1 hd hs _ (by go_cell) (by go_cell)).mono ?_
                    rintro e w' ⟨rfl, ⟨nd, rfl⟩⟩
                    go_wp2
                    go_roundw
                    case rel => exact scan_of (k + 2) 2 (by omega) (by omega) (by omega) (by omega) ((((hl.drewN _).setK _ (k + 1) (by omega)).drewN _).setK _ (k + 2) (by omega)) ((below_drewN' ((below_drewN' hb _).setCell (Nat.le_refl _) _) _).setCell (Nat.le_refl _) _) (by have h := HA.out; rw [hdr.out, hdr1.out] at h; simpa [acc, acc1, hc.out, hn, h46, HE.out, dropSign, hd.out, hsg.out] using h)
                    case measure => (rw [HL0.out, (((((hl.drewN _).setK _ (k + 1) (by omega)).drewN _).setK _ (k + 2) (by omega))).offOf]; omega)
                · have hsg : isSign d = true := by unfold isSign; simp [hs1, hs2]
                  have hsg' := Lib.hid hsg
                  clear hsg
                  have hsg := hsg'
                  clear hsg'
                  rcases he with he | ⟨he1, he2⟩
                  · go_wp2_with fail
                    refine (peek_at b s k c hkl hc hs _ (by go_cell) (by go_cell)).mono ?_
                    rintro e w' ⟨rfl, ⟨nd, rfl⟩⟩
                    go_wp2_with fail
                    refine (isNumber_any c _).mono ?_
                    rintro e w' ⟨rfl, rfl⟩
                    go_wp2_with fail
                    refine (peek_at b s (k + 1) d hk1 hd hs _ (by go_cell) (by go_cell)).mono ?_
                    rintro e w' ⟨rfl, ⟨nd, rfl⟩⟩
                    go_wp2
                    go_roundw
                    case rel => exact scan_of (k + 2) 2 (by omega) (by omega) (by omega) (by omega) ((((hl.drewN _).setK _ (k + 1) (by omega)).drewN _).setK _ (k + 2) (by omega)) ((below_drewN' ((below_drewN' hb _).setCell (Nat.le_refl _) _) _).setCell (Nat.le_refl _) _) (by have h := HA.out; rw [hdr.out, hdr1.out] at h; simpa [acc, acc1, hc.out, hn, h46, HE.out, dropSign, hd.out, hsg.out] using h)
                    case measure => (rw [HL0.out, (((((hl.drewN _).setK _ (k + 1) (by omega)).drewN _).setK _ (k + 2) (by omega))).offOf]; omega)
                  · go_wp2_with fail
                    refine (peek_at b s k c hkl hc hs _ (by go_cell) (by go_cell)).mono ?_
                    rintro e w' ⟨rfl, ⟨nd, rfl⟩⟩
                    go_wp2_with fail
                    refine (isNumber_any c _).mono ?_
                    rintro e w' ⟨rfl, rfl⟩
                    go_wp2_with fail
                    refine (peek_at b s (k + 1) d hk1 hd hs _ (by go_cell) (by go_cell)).mono ?_
                    rintro e w' ⟨rfl, ⟨nd, rfl⟩⟩
                    go_wp2
                    go_roundw
                    case rel => exact scan_of (k + 2) 2 (by omega) (by omega) (by omega) (by omega) ((((hl.drewN _).setK _ (k + 1) (by omega)).drewN _).setK _ (k + 2) (by omega)) ((below_drewN' ((below_drewN' hb _).setCell (Nat.le_refl _) _) _).setCell (Nat.le_refl _) _) (by have h := HA.out; rw [hdr.out, hdr1.out] at h; simpa [acc, acc1, hc.out, hn, h46, HE.out, dropSign, hd.out, hsg.out] using h)
                    case measure => (rw [HL0.out, (((((hl.drewN _).setK _ (k + 1) (by omega)).drewN _).setK _ (k + 2) (by omega))).offOf]; omega)
                · have hsg : isSign d = false := by unfold isSign; simp [hs1, hs2]
                  have hsg' := Lib.hid hsg
                  clear hsg
                  have hsg := hsg'
                  clear hsg'
                  rcases he with he | ⟨he1, he2⟩
                  · go_wp2_with fail
                    refine (peek_at b s k c hkl hc hs _ (by go_cell) (by go_cell)).mono ?_
                    rintro e w' ⟨rfl, ⟨nd, rfl⟩⟩
                    go_wp2_with fail
                    refine (isNumber_any c _).mono ?_
                    rintro e w' ⟨rfl, rfl⟩
                    go_wp2_with fail
                    refine (peek_at b s (k + 1) d hk1 hd hs _ (by go_cell) (by go_cell)).mono ?_
                    rintro e w' ⟨rfl, ⟨nd, rfl⟩⟩
                    go_wp2
                    go_roundw
                    case rel => exact scan_of (k + 1) 2 (by omega) (by omega) (by omega) (by omega) (((hl.drewN _).setK _ (k + 1) (by omega)).drewN _) (below_drewN' ((below_drewN' hb _).setCell (Nat.le_refl _) _) _) (by have h := HA.out; rw [hdr.out, hdr1.out] at h; rw [hdr1.out]; simpa [acc, acc1, hc.out, hn, h46, HE.out, dropSign, hd.out, hsg.out] using h)
                    case measure => (rw [HL0.out, ((((hl.drewN _).setK _ (k + 1) (by omega)).drewN _)).offOf]; omega)
                  · go_wp2_with fail
                    refine (peek_at b s k c hkl hc hs _ (by go_cell) (by go_cell)).mono ?_
                    rintro e w' ⟨rfl, ⟨nd, rfl⟩⟩
                    go_wp2_with fail
                    refine (isNumber_any c _).mono ?_
                    rintro e w' ⟨rfl, rfl⟩
                    go_wp2_with fail
                    refine (peek_at b s (k + 1) d hk1 hd hs _ (by go_cell) (by go_cell)).mono ?_
                    rintro e w' ⟨rfl, ⟨nd, rfl⟩⟩
                    go_wp2
                    go_roundw
                    case rel => exact scan_of (k + 1) 2 (by omega) (by omega) (by omega) (by omega) (((hl.drewN _).setK _ (k + 1) (by omega)).drewN _) (below_drewN' ((below_drewN' hb _).setCell (Nat.le_refl _) _) _) (by have h := HA.out; rw [hdr.out, hdr1.out] at h; rw [hdr1.out]; simpa [acc, acc1, hc.out, hn, h46, HE.out, dropSign, hd.out, hsg.out] using h)
                    case measure => (rw [HL0.out, ((((hl.drewN _).setK _ (k + 1) (by omega)).drewN _)).offOf]; omega)
              · rcases he with he | ⟨he1, he2⟩
                · go_wp2_with fail
                  refine (peek_at b s k c hkl hc hs _ (by go_cell) (by go_cell)).mono ?_
                  rintro e w' ⟨rfl, ⟨nd, rfl⟩⟩
                  go_wp2_with fail
                  refine (isNumber_any c _).mono ?_
                  rintro e w' ⟨rfl, rfl⟩
                  go_wp2_with fail
                  refine (peek_end b s (k + 1) (by omega) (by omega) _ (by go_cell) (by go_cell)).mono ?_
                  rintro e w' ⟨rfl, ⟨nd, rfl⟩⟩
                  go_wp2
                  go_roundw
                  case rel => exact scan_of (k + 1) 2 (by omega) (by omega) (by omega) (by omega) (((hl.drewN _).setK _ (k + 1) (by omega)).drewN _) (below_drewN' ((below_drewN' hb _).setCell (Nat.le_refl _) _) _) (by have h := HA.out; rw [hdr.out, drop_end s (k + 1) (by omega)] at h; rw [drop_end s (k + 1) (by omega)]; simpa [acc, acc1, hc.out, hn, h46, HE.out, dropSign] using h)
                  case measure => (rw [HL0.out, ((((hl.drewN _).setK _ (k + 1) (by omega)).drewN _)).offOf]; omega)
                · go_wp2_with fail
                  refine (peek_at b s k c hkl hc hs _ (by go_cell) (by go_cell)).mono ?_
                  rintro e w' ⟨rfl, ⟨nd, rfl⟩⟩
                  go_wp2_with fail
                  refine (isNumber_any c _).mono ?_
                  rintro e w' ⟨rfl, rfl⟩
                  go_wp2_with fail
                  refine (peek_end b s (k + 1) (by omega) (by omega) _ (by go_cell) (by go_cell)).mono ?_
                  rintro e w' ⟨rfl, ⟨nd, rfl⟩⟩
                  go_wp2
                  go_roundw
                  case rel => exact scan_of (k + 1) 2 (by omega) (by omega) (by omega) (by omega) (((hl.drewN _).setK _ (k + 1) (by omega)).drewN _) (below_drewN' ((below_drewN' hb _).setCell (Nat.le_refl _) _) _) (by have h := HA.out; rw [hdr.out, drop_end s (k + 1) (by omega)] at h; rw [drop_end s (k + 1) (by omega)]; simpa [acc, acc1, hc.out, hn, h46, HE.out, dropSign] using h)
                  case measure => (rw [HL0.out, ((((hl.drewN _).setK _ (k + 1) (by omega)).drewN _)).offOf]; omega)
            · have hE' : isE c = false := by simpa using hE
              clear hE
              obtain ⟨he1, he2⟩ : (c == 101) = false ∧ (c == 69) = false := by unfold isE at hE'; revert hE'; cases (c == 101) <;> simp
              have HE := Lib.hid hE'
              clear hE'
              by_cases hi : isId c = true
              · go_wp2_with fail
                refine (peek_at b s k c hkl hc hs _ (by go_cell) (by go_cell)).mono ?_
                rintro e w' ⟨rfl, ⟨nd, rfl⟩⟩
                go_wp2_with fail
                refine (isNumber_any c _).mono ?_
                rintro e w' ⟨rfl, rfl⟩
                go_wp2_with fail
                refine (isIdent_any c _).mono ?_
                rintro e w' ⟨rfl, rfl⟩
                go_wp2
                go_ret
                exact scanEnd_of (k + 1) _ ((hl.drewN _).setK _ (k + 1) (by omega)) ((below_drewN' hb _).setCell (Nat.le_refl _) _) (by have h := HA.out; rw [hdr.out] at h; rw [← h]; simp [acc, acc1, hc.out, hn, h46, HE.out]; omega)
              · have hi' : isId c = false := by simpa using hi
                clear hi
                go_wp2_with fail
                refine (peek_at b s k c hkl hc hs _ (by go_cell) (by go_cell)).mono ?_
                rintro e w' ⟨rfl, ⟨nd, rfl⟩⟩
                go_wp2_with fail
                refine (isNumber_any c _).mono ?_
                rintro e w' ⟨rfl, rfl⟩
                go_wp2_with fail
                refine (isIdent_any c _).mono ?_
                rintro e w' ⟨rfl, rfl⟩
                go_wp2
                go_ret
                exact scanEnd_of (k) _ (hl.drewN _) (below_drewN' hb _) (by have h := HA.out; rw [hdr.out] at h; rw [← h]; simp [acc, acc1, hc.out, hn, h46, HE.out]; omega)
      · by_cases hn : isNum c = true
        · go_wp2_with fail
          refine (peek_at b s k c hkl hc hs _ (by go_cell) (by go_cell)).mono ?_
          rintro e w' ⟨rfl, ⟨nd, rfl⟩⟩
          go_wp2_with fail
          refine (isNumber_any c _).mono ?_
          rintro e w' ⟨rfl, rfl⟩
          go_wp2
          go_roundw
          case rel => exact scan_of (k + 1) 3 (by omega) (by omega) (by omega) (by omega) ((hl.drewN _).setK _ (k + 1) (by omega)) ((below_drewN' hb _).setCell (Nat.le_refl _) _) (by have h := HA.out; rw [hdr.out] at h; simpa [acc, acc2, hc.out, hn] using h)
          case measure => (rw [HL0.out, (((hl.drewN _).setK _ (k + 1) (by omega))).offOf]; omega)
        · have hn' : isNum c = false := by simpa using hn
          clear hn
          by_cases hi : isId c = true
          · go_wp2_with fail
            refine (peek_at b s k c hkl hc hs _ (by go_cell) (by go_cell)).mono ?_
            rintro e w' ⟨rfl, ⟨nd, rfl⟩⟩
            go_wp2_with fail
            refine (isNumber_any c _).mono ?_
            rintro e w' ⟨rfl, rfl⟩
            go_wp2_with fail
            refine (isIdent_any c _).mono ?_
            rintro e w' ⟨rfl, rfl⟩
            go_wp2
            go_ret
            exact scanEnd_of (k + 1) _ ((hl.drewN _).setK _ (k + 1) (by omega)) ((below_drewN' hb _).setCell (Nat.le_refl _) _) (by have h := HA.out; rw [hdr.out] at h; rw [← h]; simp [acc, acc2, hc.out, hn']; omega)
          · have hi' : isId c = false := by simpa using hi
            clear hi
            go_wp2_with fail
            refine (peek_at b s k c hkl hc hs _ (by go_cell) (by go_cell)).mono ?_
            rintro e w' ⟨rfl, ⟨nd, rfl⟩⟩
            go_wp2_with fail
            refine (isNumber_any c _).mono ?_
            rintro e w' ⟨rfl, rfl⟩
            go_wp2_with fail
            refine (isIdent_any c _).mono ?_
            rintro e w' ⟨rfl, rfl⟩
            go_wp2
            go_ret
            exact scanEnd_of (k) _ (hl.drewN _) (below_drewN' hb _) (by have h := HA.out; rw [hdr.out] at h; rw [← h]; simp [acc, acc2, hc.out, hn']; omega)
      · by_cases hn : isNum c = true
        · go_wp2_with fail
          refine (peek_at b s k c hkl hc hs _ (by go_cell) (by go_cell)).mono ?_
          rintro e w' ⟨rfl, ⟨nd, rfl⟩⟩
          go_wp2_with fail
          refine (isNumber_any c _).mono ?_
          rintro e w' ⟨rfl, rfl⟩
          go_wp2
          go_roundw
          case rel => exact scan_of (k + 1) 3 (by omega) (by omega) (by omega) (by omega) ((hl.drewN _).setK _ (k + 1) (by omega)) ((below_drewN' hb _).setCell (Nat.le_refl _) _) (by have h := HA.out; rw [hdr.out] at h; simpa [acc, acc3, hc.out, hn] using h)
          case measure => (rw [HL0.out, (((hl.drewN _).setK _ (k + 1) (by omega))).offOf]; omega)
        · have hn' : isNum c = false := by simpa using hn
          clear hn
          by_cases hi : isId c = true
          · go_wp2_with fail
            refine (peek_at b s k c hkl hc hs _ (by go_cell) (by go_cell)).mono ?_
            rintro e w' ⟨rfl, ⟨nd, rfl⟩⟩
            go_wp2_with fail
            refine (isNumber_any c _).mono ?_
            rintro e w' ⟨rfl, rfl⟩
            go_wp2_with fail
            refine (isIdent_any c _).mono ?_
            rintro e w' ⟨rfl, rfl⟩
            go_wp2
            go_ret
            exact scanEnd_of (k + 1) _ ((hl.drewN _).setK _ (k + 1) (by omega)) ((below_drewN' hb _).setCell (Nat.le_refl _) _) (by have h := HA.out; rw [hdr.out] at h; rw [← h]; simp [acc, acc3, hc.out, hn']; omega)
          · have hi' : isId c = false := by simpa using hi
            clear hi
            go_wp2_with fail
            refine (peek_at b s k c hkl hc hs _ (by go_cell) (by go_cell)).mono ?_
            rintro e w' ⟨rfl, ⟨nd, rfl⟩⟩
            go_wp2_with fail
            refine (isNumber_any c _).mono ?_
            rintro e w' ⟨rfl, rfl⟩
            go_wp2_with fail
            refine (isIdent_any c _).mono ?_
            rintro e w' ⟨rfl, rfl⟩
            go_wp2
            go_ret
            exact scanEnd_of (k) _ (hl.drewN _) (below_drewN' hb _) (by have h := HA.out; rw [hdr.out] at h; rw [← h]; simp [acc, acc3, hc.out, hn']; omega)
    · have hz : isNum 0 = false := rfl
      have hz' : isId 0 = false := rfl
      have hde := Lib.hid (drop_end s k (by omega))
      rcases ht with rfl | rfl | rfl | rfl
      · go_wp2_with fail
        refine (peek_end b s k (by omega) (by omega) _ (by go_cell) (by go_cell)).mono ?_
        rintro e w' ⟨rfl, ⟨nd, rfl⟩⟩
        go_wp2_with fail
        refine (isNumber_any 0 _).mono ?_
        rintro e w' ⟨rfl, rfl⟩
        go_wp2_with fail
        refine (isIdent_any 0 _).mono ?_
        rintro e w' ⟨rfl, rfl⟩
        go_wp2
        go_ret
        exact scanEnd_of (k) _ (hl.drewN _) (below_drewN' hb _) (by have h := HA.out; rw [hde.out] at h; rw [← h]; simp [acc, acc0]; omega)
      · go_wp2_with fail
        refine (peek_end b s k (by omega) (by omega) _ (by go_cell) (by go_cell)).mono ?_
        rintro e w' ⟨rfl, ⟨nd, rfl⟩⟩
        go_wp2_with fail
        refine (isNumber_any 0 _).mono ?_
        rintro e w' ⟨rfl, rfl⟩
        go_wp2_with fail
        refine (isIdent_any 0 _).mono ?_
        rintro e w' ⟨rfl, rfl⟩
        go_wp2
        go_ret
        exact scanEnd_of (k) _ (hl.drewN _) (below_drewN' hb _) (by have h := HA.out; rw [hde.out] at h; rw [← h]; simp [acc, acc1]; omega)
      · have h2k := ht2 rfl
        go_wp2_with fail
        refine (peek_end b s k (by omega) (by omega) _ (by go_cell) (by go_cell)).mono ?_
        rintro e w' ⟨rfl, ⟨nd, rfl⟩⟩
        go_wp2_with fail
        refine (isNumber_any 0 _).mono ?_
        rintro e w' ⟨rfl, rfl⟩
        go_wp2_with fail
        refine (isIdent_any 0 _).mono ?_
        rintro e w' ⟨rfl, rfl⟩
        go_wp2
        go_ret
        exact scanEnd_of (k) _ (hl.drewN _) (below_drewN' hb _) (by have h := HA.out; rw [hde.out] at h; rw [← h]; simp [acc, acc2]; omega)
      · go_wp2_with fail
        refine (peek_end b s k (by omega) (by omega) _ (by go_cell) (by go_cell)).mono ?_
        rintro e w' ⟨rfl, ⟨nd, rfl⟩⟩
        go_wp2_with fail
        refine (isNumber_any 0 _).mono ?_
        rintro e w' ⟨rfl, rfl⟩
        go_wp2_with fail
        refine (isIdent_any 0 _).mono ?_
        rintro e w' ⟨rfl, rfl⟩
        go_wp2
        go_ret
        exact scanEnd_of (k) _ (hl.drewN _) (below_drewN' hb _) (by have h := HA.out; rw [hde.out] at h; rw [← h]; simp [acc, acc3]; omega)

end Go.Proofs.Ytnlndpgbhmkanaa.Vn
