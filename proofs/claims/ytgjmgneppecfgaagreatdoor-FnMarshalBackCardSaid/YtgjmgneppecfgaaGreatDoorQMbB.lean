/-
  THE WALK of encodeString.
-/
import Derived.Test.YtgjmgneppecfgaaGreatDoorQ15
import Derived.Test.YtgjmgneppecfgaaGreatDoorQ09
import Derived.Deep.DeepCutAuto
set_option linter.unusedVariables false
set_option linter.unusedSimpArgs false
namespace Go.Proofs.YtgjmgneppecfgaaGreatDoor.Mb
open Go.RowKit Go.Proofs.YtgjmgneppecfgaaGreatDoor.Va Go.Proofs.YtgjmgneppecfgaaGreatDoor.Ba Go.Proofs.YtgjmgneppecfgaaGreatDoor.Ma
set_option linter.unusedVariables false
set_option linter.unusedSimpArgs false

def LoopE (B b E : Nat) (bs : List Nat) (s : ByteArray) (w : World) (sv iv : Value) (wr : World) : Prop :=
  ∃ st i : Nat, sv = .int .i64 (st : Int) ∧ iv = .int .i64 (i : Int) ∧ st ≤ i ∧ i ≤ s.size ∧ (∀ j, st ≤ j → j < i → plainB ((bytesN s).getD j 0) = true) ∧ Val (s.data.toList.drop i) ∧ Wrote B b E (bs ++ 34 :: escL ((bytesN s).take st)) w wr
def hexTab : ByteArray := ⟨#[48, 49, 50, 51, 52, 53, 54, 55, 56, 57, 97, 98, 99, 100, 101, 102]⟩
theorem hex_at (d : Nat) (h : d < 16) (hd : d < hexTab.size) : (hexTab[d]'hd).toNat = hexd d := by
  rcases (show d = 0 ∨ d = 1 ∨ d = 2 ∨ d = 3 ∨ d = 4 ∨ d = 5 ∨ d = 6 ∨ d = 7 ∨ d = 8 ∨ d = 9 ∨ d = 10 ∨ d = 11 ∨ d = 12 ∨ d = 13 ∨ d = 14 ∨ d = 15 by omega) with h | h | h | h | h | h | h | h | h | h | h | h | h | h | h | h <;> subst h <;> rfl
set_option maxHeartbeats 4000000 in
set_option maxRecDepth 100000 in
theorem encString_any (B b E : Nat) (bs : List Nat) (s : ByteArray) (w : World) (h : St B b E bs w) (hB : B ≤ w.heap.size) (hs : s.size ≤ 2147483647) (hlim : bs.length + (6 * s.size + 2) ≤ 140737488355328) (hv : Lib.validD s.data.toList = true)
    (hT : ∀ w', Below B w w' → Lib.Utf8Tabs (Tryz.lays197_ren.g 3) (Tryz.lays197_ren.g 4) w') :
    Calls Tryz.prog 151 #[.pointer (some ⟨E, 0, none⟩), .string s] w (EncEnd B b E (bs ++ Ma.encStr (bytesN s)) w) := by
  have HT := Lib.hid hT
  have HV := Lib.hid (val_of hv)
  have c0 := h.cell
  have H := Lib.hid h
  clear h hT hv
  go_enter Tryz.func151, Tryz.ntmps151
  go_wp2_with fail
  refine (writeByte_any B b E 34 bs w H.out hB (by omega)).mono ?_
  rintro e w1 ⟨rfl, h1⟩
  have W1 : Hid (Wrote B b E (bs ++ 34 :: escL ((bytesN s).take 0)) w w1) := Lib.hid h1
  clear h1
  go_wp2_with fail
  go_loopw [4, 5] (LoopE B b E bs s w) (fun _ iv _ => s.size - (intOf iv).toNat)
  case atStart => exact ⟨0, 0, rfl, rfl, Nat.le_refl _, Nat.zero_le _, fun j _ hj => by omega, HV.out, W1.out⟩
  case round =>
    obtain ⟨st, i, rfl, rfl, hst, hi, hpl, hval, hw⟩ := hrel
    have HPL := Lib.hid hpl
    have HVL := Lib.hid hval
    have HW := Lib.hid hw
    have c1 := hw.1.cell
    have hz1 := hw.2.1.size
    clear hpl hval hw c0
    by_cases hlt : i < s.size
    · obtain ⟨x, hx⟩ : ∃ x, (s[i]'hlt).toNat = x := ⟨_, rfl⟩
      have HX : Hid ((bytesN s).getD i 0 = x) := Lib.hid (by rw [← Ba.byte_at s i hlt, hx])
      by_cases h128 : x < 128
      · have hval1 := val_one s i hlt HVL.out (by rw [HX.out]; exact h128)
        by_cases hp : plainB x = true
        · have HP := Lib.hid hp
          have hp2 : 32 ≤ x ∧ x ≤ 126 ∧ x ≠ 34 ∧ x ≠ 92 := by unfold plainB at hp; simp at hp; omega
          obtain ⟨p1, p2, p3, p4⟩ := hp2
          have q3 : ((x : Int) != 34) = true := by simp; omega
          have q4 : ((x : Int) != 92) = true := by simp; omega
          have HVL1 := Lib.hid hval1
          clear hp hval1 p3 p4
          go_wp2_with fail
          go_roundw
          case rel =>
            refine ⟨st, i + 1, rfl, by push_cast; rfl, by omega, hlt, fun j h1 h2 => ?_, HVL1.out, HW.out⟩
            by_cases hj : j = i
            · rw [hj, HX.out]; exact HP.out
            · exact HPL.out j h1 (by omega)
          case measure => simp [intOf]; omega
        · have HVL1 := Lib.hid hval1
          have hnp : ¬ (32 ≤ x ∧ x ≤ 126 ∧ x ≠ 34 ∧ x ≠ 92) := fun q => hp (by unfold plainB; simp; omega)
          have HNP := Lib.hid hnp
          have HP := Lib.hid hp
          clear hp hval1 hnp
          have hcl := esc_len s i (by omega)
          have HCL : Hid ((bs ++ 34 :: escL ((bytesN s).take i)).length ≤ bs.length + 1 + 6 * i) := Lib.hid (by rw [List.length_append, List.length_cons]; omega)
          have HMID : Hid (bs ++ 34 :: escL ((bytesN s).take i) = (bs ++ 34 :: escL ((bytesN s).take st)) ++ bytesN (s.extract st i)) := Lib.hid (by rw [esc_mid s st i hst hi HPL.out, List.append_assoc, List.cons_append])
          have hcl2 := esc_len s st (by omega)
          have HCS : Hid ((bs ++ 34 :: escL ((bytesN s).take st)).length ≤ bs.length + 1 + 6 * st) := Lib.hid (by rw [List.length_append, List.length_cons]; omega)
          have HEL := Lib.hid (extract_size s st i hi)
          clear hcl hcl2
          go_upto_region 6 with fail
          go_cut [36] (fun s36 wx => s36 = .bool false ∧ wr = wx)
          case first =>
            rcases (show x = 34 ∨ x = 92 ∨ x < 32 ∨ 126 < x by have := HNP.out; omega) with h | h | h | h
            · subst h
              go_wp2_with fail
              go_meet
              exact ⟨rfl, rfl⟩
            · subst h
              go_wp2_with fail
              go_meet
              exact ⟨rfl, rfl⟩
            · go_wp2_with fail
              go_meet
              exact ⟨rfl, rfl⟩
            · have q8 : ((x : Int) != 34) = true := by simp; omega
              have q9 : ((x : Int) != 92) = true := by simp; omega
              go_wp2_with fail
              go_meet
              exact ⟨rfl, rfl⟩
          obtain ⟨rfl, rfl⟩ := hcut
          (go_upto_if 41 with fail
           go_cut [] (fun wx => Wrote B b E (bs ++ 34 :: escL ((bytesN s).take i)) w wx)
           case first =>
             by_cases hq : st < i
             · go_wp2_with fail
               (have HC : Hid (∀ W : World, Below wr.heap.size wr W → W.cell? ⟨E, 0, none⟩ = some (.iface 114 (.pointer (some ⟨b, 0, none⟩)))) := Lib.hid (fun W hW => (hW.cell (p := ⟨E, 0, none⟩) (cell_lt c1)).trans c1)
                refine wp_region_D (Below wr.heap.size wr) [10] (by kernel_rfl) ?_
                generalize hWd : World.drew wr = W3
                have hS3 : Below wr.heap.size wr W3 := hWd ▸ (Below.refl _ _).drew
                clear hWd
                (refine wpAnyD_take (i := 0) (v := ?_) [1, 2, 3, 8, 9, 10] [10] rfl (by kernel_rfl) (by kernel_rfl) (by kernel_rfl) (fun _ _ _ h => h) (by kernel_rfl) (by kernel_rfl) (by kernel_rfl) (Or.inl ⟨?_, ?_⟩) hS3 ?_
                 rotate_left
                 focus rfl
                 focus (intro w' hw'; have hw1 := HC.out w' hw'; clear hw'; go_simp; with_reducible rfl)
                 try go_simp)
                (refine wpAnyD_take (i := 1) (v := ?_) [2, 3, 8, 9, 10] [10] rfl (by kernel_rfl) (by kernel_rfl) (by kernel_rfl) (fun _ _ _ h => h) (by kernel_rfl) (by kernel_rfl) (by kernel_rfl) (Or.inl ⟨?_, ?_⟩) hS3 ?_
                 rotate_left
                 focus rfl
                 focus (intro w' hw'; have hw1 := HC.out w' hw'; clear hw'; go_simp; with_reducible rfl)
                 try go_simp)
                (refine wpAnyD_take (i := 2) (v := ?_) [3, 8, 9, 10] [10] rfl (by kernel_rfl) (by kernel_rfl) (by kernel_rfl) (fun _ _ _ h => h) (by kernel_rfl) (by kernel_rfl) (by kernel_rfl) (Or.inl ⟨?_, ?_⟩) hS3 ?_
                 rotate_left
                 focus rfl
                 focus (intro w' hw'; have hw1 := HC.out w' hw'; clear hw'; go_simp; with_reducible rfl)
                 try go_simp)
                (refine wpAnyD_take (i := 3) (v := ?_) [8, 9, 10] [10] rfl (by kernel_rfl) (by kernel_rfl) (by kernel_rfl) (fun _ _ _ h => h) (by kernel_rfl) (by kernel_rfl) (by kernel_rfl) (Or.inl ⟨?_, ?_⟩) hS3 ?_
                 rotate_left
                 focus rfl
                 focus (intro w' hw'; have hw1 := HC.out w' hw'; clear hw'; go_simp; with_reducible rfl)
                 try go_simp)
                (refine wpAnyD_take (i := 4) (v := ?_) [7, 10] [10] rfl (by kernel_rfl) (by kernel_rfl) (by kernel_rfl) (fun _ _ _ h => h) (by kernel_rfl) (by kernel_rfl) (by kernel_rfl) (Or.inl ⟨?_, ?_⟩) hS3 ?_
                 rotate_left
                 focus rfl
                 focus (intro w' hw'; have hw1 := HC.out w' hw'; clear hw'; go_simp; with_reducible rfl)
                 try go_simp)
                (refine wpAnyD_take (i := 5) (v := ?_) [7, 10] [10] rfl (by kernel_rfl) (by kernel_rfl) (by kernel_rfl) (fun _ _ _ h => h) (by kernel_rfl) (by kernel_rfl) (by kernel_rfl) (Or.inl ⟨?_, ?_⟩) hS3 ?_
                 rotate_left
                 focus rfl
                 focus (intro w' hw'; have hw1 := HC.out w' hw'; clear hw'; go_simp; with_reducible rfl)
                 try go_simp)
                (refine wpAnyD_take (i := 6) (v := ?_) [7, 10] [10] rfl (by kernel_rfl) (by kernel_rfl) (by kernel_rfl) (fun _ _ _ h => h) (by kernel_rfl) (by kernel_rfl) (by kernel_rfl) (Or.inl ⟨?_, ?_⟩) hS3 ?_
                 rotate_left
                 focus rfl
                 focus (intro w' hw'; have hw1 := HC.out w' hw'; clear hw'; go_simp; with_reducible rfl)
                 try go_simp)
                (refine wpAnyD_take (i := 7) (v := ?_) [10] [10] rfl (by kernel_rfl) (by kernel_rfl) (by kernel_rfl) (fun _ _ _ h => h) (by kernel_rfl) (by kernel_rfl) (by kernel_rfl) (Or.inl ⟨?_, ?_⟩) hS3 ?_
                 rotate_left
                 focus rfl
                 focus (intro w' hw'; have hw1 := HC.out w' hw'; clear hw'; go_simp; with_reducible rfl)
                 try go_simp)
                (refine wpAnyD_take (i := 8) (v := ?_) [9, 10] [10] rfl (by kernel_rfl) (by kernel_rfl) (by kernel_rfl) (fun _ _ _ h => h) (by kernel_rfl) (by kernel_rfl) (by kernel_rfl) (Or.inl ⟨?_, ?_⟩) hS3 ?_
                 rotate_left
                 focus rfl
                 focus (intro w' hw'; have hw1 := HC.out w' hw'; clear hw'; go_simp; with_reducible rfl)
                 try go_simp)
                (refine wpAnyD_take (i := 9) (v := ?_) [10] [10] rfl (by kernel_rfl) (by kernel_rfl) (by kernel_rfl) (fun _ _ _ h => h) (by kernel_rfl) (by kernel_rfl) (by kernel_rfl) (Or.inl ⟨?_, ?_⟩) hS3 ?_
                 rotate_left
                 focus rfl
                 focus (intro w' hw'; have hw1 := HC.out w' hw'; clear hw'; go_simp; with_reducible rfl)
                 try go_simp)
                have W3' := Lib.hid (HW.out.quiet (Nat.le_trans hB hz1) hS3)
                clear hS3
                refine wpAnyD_ready (rs := [10]) (by kernel_rfl) (by simp) ?_
                refine AllReadyD.cons rfl (fun K hK => ?_) AllReadyD.nil
                go_simp
                refine (writeString_any B b E _ (s.extract st i) W3 W3'.out.1 (by have := W3'.out.2.1.size; omega) (by have := HCS.out; have := HEL.out; omega)).mono ?_
                rintro e W4 ⟨rfl, h4⟩
                refine hK.out _ _ (fun h => absurd h (by decide)) ?_
                clear hK K
                try go_simp
                refine wpAnyD_done (by kernel_rfl) ?_ _
                have WM : Hid (Wrote B b E (bs ++ 34 :: escL ((bytesN s).take i)) w W4) := Lib.hid (by rw [HMID.out]; exact W3'.out.trans h4)
                have hz4 := WM.out.2.1.size
                have c4 := WM.out.1.cell
                clear h4)
               go_wp2_with fail
               go_meet
               exact WM.out
             · obtain rfl : i = st := by omega
               go_wp2_with fail
               go_meet
               exact HW.out
           obtain ⟨W4, hW4⟩ : ∃ W4, W4 = wc := ⟨_, rfl⟩
           subst hW4
           have WM := Lib.hid hcut
           have hz4 := WM.out.2.1.size
           have c4 := WM.out.1.cell
           clear hcut c1)
          by_cases h34 : x = 34
          · subst h34
            (go_wp2_with fail
             refine (writeString_any B b E _ ⟨#[92, 34]⟩ W4 WM.out.1 (by omega) (by have := HCL.out; show _ + 2 ≤ _; omega)).mono ?_
             rintro e W5 ⟨rfl, h5⟩
             have W5' := Lib.hid (WM.out.trans h5)
             clear h5
             go_wp2_with fail
             go_roundw
             case rel => exact ⟨i + 1, i + 1, by push_cast; rfl, by push_cast; rfl, Nat.le_refl _, hlt, fun j h1 h2 => by omega, HVL1.out, by rw [esc_next s i _ hlt HX.out, ← List.cons_append, ← List.append_assoc]; exact W5'.out⟩
             case measure => simp [intOf]; omega)
          by_cases h92 : x = 92
          · subst h92
            (go_wp2_with fail
             refine (writeString_any B b E _ ⟨#[92, 92]⟩ W4 WM.out.1 (by omega) (by have := HCL.out; show _ + 2 ≤ _; omega)).mono ?_
             rintro e W5 ⟨rfl, h5⟩
             have W5' := Lib.hid (WM.out.trans h5)
             clear h5
             go_wp2_with fail
             go_roundw
             case rel => exact ⟨i + 1, i + 1, by push_cast; rfl, by push_cast; rfl, Nat.le_refl _, hlt, fun j h1 h2 => by omega, HVL1.out, by rw [esc_next s i _ hlt HX.out, ← List.cons_append, ← List.append_assoc]; exact W5'.out⟩
             case measure => simp [intOf]; omega)
          by_cases h8 : x = 8
          · subst h8
            (go_wp2_with fail
             refine (writeString_any B b E _ ⟨#[92, 98]⟩ W4 WM.out.1 (by omega) (by have := HCL.out; show _ + 2 ≤ _; omega)).mono ?_
             rintro e W5 ⟨rfl, h5⟩
             have W5' := Lib.hid (WM.out.trans h5)
             clear h5
             go_wp2_with fail
             go_roundw
             case rel => exact ⟨i + 1, i + 1, by push_cast; rfl, by push_cast; rfl, Nat.le_refl _, hlt, fun j h1 h2 => by omega, HVL1.out, by rw [esc_next s i _ hlt HX.out, ← List.cons_append, ← List.append_assoc]; exact W5'.out⟩
             case measure => simp [intOf]; omega)
          by_cases h12 : x = 12
          · subst h12
            (go_wp2_with fail
             refine (writeString_any B b E _ ⟨#[92, 102]⟩ W4 WM.out.1 (by omega) (by have := HCL.out; show _ + 2 ≤ _; omega)).mono ?_
             rintro e W5 ⟨rfl, h5⟩
             have W5' := Lib.hid (WM.out.trans h5)
             clear h5
             go_wp2_with fail
             go_roundw
             case rel => exact ⟨i + 1, i + 1, by push_cast; rfl, by push_cast; rfl, Nat.le_refl _, hlt, fun j h1 h2 => by omega, HVL1.out, by rw [esc_next s i _ hlt HX.out, ← List.cons_append, ← List.append_assoc]; exact W5'.out⟩
             case measure => simp [intOf]; omega)
          by_cases h10 : x = 10
          · subst h10
            (go_wp2_with fail
             refine (writeString_any B b E _ ⟨#[92, 110]⟩ W4 WM.out.1 (by omega) (by have := HCL.out; show _ + 2 ≤ _; omega)).mono ?_
             rintro e W5 ⟨rfl, h5⟩
             have W5' := Lib.hid (WM.out.trans h5)
             clear h5
             go_wp2_with fail
             go_roundw
             case rel => exact ⟨i + 1, i + 1, by push_cast; rfl, by push_cast; rfl, Nat.le_refl _, hlt, fun j h1 h2 => by omega, HVL1.out, by rw [esc_next s i _ hlt HX.out, ← List.cons_append, ← List.append_assoc]; exact W5'.out⟩
             case measure => simp [intOf]; omega)
          by_cases h13 : x = 13
          · subst h13
            (go_wp2_with fail
             refine (writeString_any B b E _ ⟨#[92, 114]⟩ W4 WM.out.1 (by omega) (by have := HCL.out; show _ + 2 ≤ _; omega)).mono ?_
             rintro e W5 ⟨rfl, h5⟩
             have W5' := Lib.hid (WM.out.trans h5)
             clear h5
             go_wp2_with fail
             go_roundw
             case rel => exact ⟨i + 1, i + 1, by push_cast; rfl, by push_cast; rfl, Nat.le_refl _, hlt, fun j h1 h2 => by omega, HVL1.out, by rw [esc_next s i _ hlt HX.out, ← List.cons_append, ← List.append_assoc]; exact W5'.out⟩
             case measure => simp [intOf]; omega)
          by_cases h9 : x = 9
          · subst h9
            (go_wp2_with fail
             refine (writeString_any B b E _ ⟨#[92, 116]⟩ W4 WM.out.1 (by omega) (by have := HCL.out; show _ + 2 ≤ _; omega)).mono ?_
             rintro e W5 ⟨rfl, h5⟩
             have W5' := Lib.hid (WM.out.trans h5)
             clear h5
             go_wp2_with fail
             go_roundw
             case rel => exact ⟨i + 1, i + 1, by push_cast; rfl, by push_cast; rfl, Nat.le_refl _, hlt, fun j h1 h2 => by omega, HVL1.out, by rw [esc_next s i _ hlt HX.out, ← List.cons_append, ← List.append_assoc]; exact W5'.out⟩
             case measure => simp [intOf]; omega)
          have q1 : ((x : Int) == 34) = false := by simp; omega
          have q2 : ((x : Int) == 92) = false := by simp; omega
          have q3 : ((x : Int) == 8) = false := by simp; omega
          have q4 : ((x : Int) == 12) = false := by simp; omega
          have q5 : ((x : Int) == 10) = false := by simp; omega
          have q6 : ((x : Int) == 13) = false := by simp; omega
          have q7 : ((x : Int) == 9) = false := by simp; omega
          have HEB : Hid (escB x = [92, 117, 48, 48, hexd (x / 16), hexd (x % 16)]) := Lib.hid (by unfold escB; rw [if_neg HP.out, if_neg h34, if_neg h92, if_neg h8, if_neg h12, if_neg h10, if_neg h13, if_neg h9])
          clear HNP HP h34 h92 h8 h12 h10 h13 h9
          go_wp2_with fail
          refine (writeString_any B b E _ ⟨#[92, 117, 48, 48]⟩ W4 WM.out.1 (by omega) (by have := HCL.out; show _ + 4 ≤ _; omega)).mono ?_
          rintro e W5 ⟨rfl, h5⟩
          have W5' := Lib.hid (WM.out.trans h5)
          clear h5
          have hz5 := W5'.out.2.1.size
          have c5 := W5'.out.1.cell
          have HC : Hid (∀ W : World, Below W5.heap.size W5 W → W.cell? ⟨E, 0, none⟩ = some (.iface 114 (.pointer (some ⟨b, 0, none⟩)))) := Lib.hid (fun W hW => (hW.cell (p := ⟨E, 0, none⟩) (cell_lt c5)).trans c5)
          obtain ⟨y, hy⟩ : ∃ y, x / 16 = y := ⟨_, rfl⟩
          obtain ⟨z, hz⟩ : ∃ z, x % 16 = z := ⟨_, rfl⟩
          have hyi : (x : Int) / 16 = (y : Int) := by omega
          have hzi : bits .and .u8 (x : Int) 15 = (z : Int) := by have e := u8_and_nat x 15 (by omega) (by decide); rw [nat_mask4, hz] at e; exact e
          have hy8 : y < 8 := by omega
          have hz16 : z < 16 := by omega
          have hyI : (y : Int) < 16 := by omega
          have hzI : (z : Int) < 16 := by omega
          rw [hy, hz] at HEB
          clear hy hz
          go_wp2_with fail
          refine wp_region_D (Below W5.heap.size W5) [9] (by kernel_rfl) ?_
          generalize hWd : World.drew W5 = W6
          have hS3 : Below W5.heap.size W5 W6 := hWd ▸ (Below.refl _ _).drew
          clear hWd
          (refine wpAnyD_take (i := 0) (v := ?_) [1, 2, 3, 7, 8, 9] [9] rfl (by kernel_rfl) (by kernel_rfl) (by kernel_rfl) (fun _ _ _ h => h) (by kernel_rfl) (by kernel_rfl) (by kernel_rfl) (Or.inl ⟨?_, ?_⟩) hS3 ?_
           rotate_left
           focus rfl
           focus (intro w' hw'; have hw1 := HC.out w' hw'; clear hw'; go_simp; with_reducible rfl)
           try go_simp)
          (refine wpAnyD_take (i := 1) (v := ?_) [2, 3, 7, 8, 9] [9] rfl (by kernel_rfl) (by kernel_rfl) (by kernel_rfl) (fun _ _ _ h => h) (by kernel_rfl) (by kernel_rfl) (by kernel_rfl) (Or.inl ⟨?_, ?_⟩) hS3 ?_
           rotate_left
           focus rfl
           focus (intro w' hw'; have hw1 := HC.out w' hw'; clear hw'; go_simp; with_reducible rfl)
           try go_simp)
          (refine wpAnyD_take (i := 2) (v := ?_) [3, 7, 8, 9] [9] rfl (by kernel_rfl) (by kernel_rfl) (by kernel_rfl) (fun _ _ _ h => h) (by kernel_rfl) (by kernel_rfl) (by kernel_rfl) (Or.inl ⟨?_, ?_⟩) hS3 ?_
           rotate_left
           focus rfl
           focus (intro w' hw'; have hw1 := HC.out w' hw'; clear hw'; go_simp; with_reducible rfl)
           try go_simp)
          (refine wpAnyD_take (i := 3) (v := ?_) [7, 8, 9] [9] rfl (by kernel_rfl) (by kernel_rfl) (by kernel_rfl) (fun _ _ _ h => h) (by kernel_rfl) (by kernel_rfl) (by kernel_rfl) (Or.inl ⟨?_, ?_⟩) hS3 ?_
           rotate_left
           focus rfl
           focus (intro w' hw'; have hw1 := HC.out w' hw'; clear hw'; go_simp; with_reducible rfl)
           try go_simp)
          (refine wpAnyD_take (i := 4) (v := ?_) [5, 6, 9] [9] rfl (by kernel_rfl) (by kernel_rfl) (by kernel_rfl) (fun _ _ _ h => h) (by kernel_rfl) (by kernel_rfl) (by kernel_rfl) (Or.inl ⟨?_, ?_⟩) hS3 ?_
           rotate_left
           focus rfl
           focus (intro w' hw'; have hw1 := HC.out w' hw'; clear hw'; go_simp; with_reducible rfl)
           try go_simp)
          (refine wpAnyD_take (i := 5) (v := ?_) [6, 9] [9] rfl (by kernel_rfl) (by kernel_rfl) (by kernel_rfl) (fun _ _ _ h => h) (by kernel_rfl) (by kernel_rfl) (by kernel_rfl) (Or.inl ⟨?_, ?_⟩) hS3 ?_
           rotate_left
           focus rfl
           focus (intro w' hw'; have hw1 := HC.out w' hw'; clear hw'; go_simp; with_reducible rfl)
           try go_simp)
          (refine wpAnyD_take (i := 6) (v := ?_) [9] [9] rfl (by kernel_rfl) (by kernel_rfl) (by kernel_rfl) (fun _ _ _ h => h) (by kernel_rfl) (by kernel_rfl) (by kernel_rfl) (Or.inl ⟨?_, ?_⟩) hS3 ?_
           rotate_left
           focus rfl
           focus (intro w' hw'; have hw1 := HC.out w' hw'; clear hw'; go_simp; with_reducible rfl)
           try go_simp)
          (refine wpAnyD_take (i := 7) (v := ?_) [8, 9] [9] rfl (by kernel_rfl) (by kernel_rfl) (by kernel_rfl) (fun _ _ _ h => h) (by kernel_rfl) (by kernel_rfl) (by kernel_rfl) (Or.inl ⟨?_, ?_⟩) hS3 ?_
           rotate_left
           focus rfl
           focus (intro w' hw'; have hw1 := HC.out w' hw'; clear hw'; go_simp; with_reducible rfl)
           try go_simp)
          (refine wpAnyD_take (i := 8) (v := ?_) [9] [9] rfl (by kernel_rfl) (by kernel_rfl) (by kernel_rfl) (fun _ _ _ h => h) (by kernel_rfl) (by kernel_rfl) (by kernel_rfl) (Or.inl ⟨?_, ?_⟩) hS3 ?_
           rotate_left
           focus rfl
           focus (intro w' hw'; have hw1 := HC.out w' hw'; clear hw'; go_simp; with_reducible rfl)
           try go_simp)
          have W6' := Lib.hid (W5'.out.quiet (Nat.le_trans hB hz5) hS3)
          clear hS3
          refine wpAnyD_ready (rs := [9]) (by kernel_rfl) (by simp) ?_
          refine AllReadyD.cons rfl (fun K hK => ?_) AllReadyD.nil
          go_simp
          refine (writeByte_any B b E _ _ W6 W6'.out.1 (by have := W6'.out.2.1.size; omega) (by have := HCL.out; rw [List.length_append]; show _ + 4 + 1 ≤ _; omega)).mono ?_
          rintro e W7 ⟨rfl, h7⟩
          refine hK.out _ _ (fun h => absurd h (by decide)) ?_
          clear hK K
          try go_simp
          refine wpAnyD_done (by kernel_rfl) ?_ _
          have W7' := Lib.hid (W6'.out.trans h7)
          have hz7 := W7'.out.2.1.size
          have c7 := W7'.out.1.cell
          clear h7 HC
          have HC : Hid (∀ W : World, Below W7.heap.size W7 W → W.cell? ⟨E, 0, none⟩ = some (.iface 114 (.pointer (some ⟨b, 0, none⟩)))) := Lib.hid (fun W hW => (hW.cell (p := ⟨E, 0, none⟩) (cell_lt c7)).trans c7)
          go_wp2_with fail
          refine wp_region_D (Below W7.heap.size W7) [9] (by kernel_rfl) ?_
          generalize hWd : World.drew W7 = W8
          have hS3 : Below W7.heap.size W7 W8 := hWd ▸ (Below.refl _ _).drew
          clear hWd
          (refine wpAnyD_take (i := 0) (v := ?_) [1, 2, 3, 7, 8, 9] [9] rfl (by kernel_rfl) (by kernel_rfl) (by kernel_rfl) (fun _ _ _ h => h) (by kernel_rfl) (by kernel_rfl) (by kernel_rfl) (Or.inl ⟨?_, ?_⟩) hS3 ?_
           rotate_left
           focus rfl
           focus (intro w' hw'; have hw1 := HC.out w' hw'; clear hw'; go_simp; with_reducible rfl)
           try go_simp)
          (refine wpAnyD_take (i := 1) (v := ?_) [2, 3, 7, 8, 9] [9] rfl (by kernel_rfl) (by kernel_rfl) (by kernel_rfl) (fun _ _ _ h => h) (by kernel_rfl) (by kernel_rfl) (by kernel_rfl) (Or.inl ⟨?_, ?_⟩) hS3 ?_
           rotate_left
           focus rfl
           focus (intro w' hw'; have hw1 := HC.out w' hw'; clear hw'; go_simp; with_reducible rfl)
           try go_simp)
          (refine wpAnyD_take (i := 2) (v := ?_) [3, 7, 8, 9] [9] rfl (by kernel_rfl) (by kernel_rfl) (by kernel_rfl) (fun _ _ _ h => h) (by kernel_rfl) (by kernel_rfl) (by kernel_rfl) (Or.inl ⟨?_, ?_⟩) hS3 ?_
           rotate_left
           focus rfl
           focus (intro w' hw'; have hw1 := HC.out w' hw'; clear hw'; go_simp; with_reducible rfl)
           try go_simp)
          (refine wpAnyD_take (i := 3) (v := ?_) [7, 8, 9] [9] rfl (by kernel_rfl) (by kernel_rfl) (by kernel_rfl) (fun _ _ _ h => h) (by kernel_rfl) (by kernel_rfl) (by kernel_rfl) (Or.inl ⟨?_, ?_⟩) hS3 ?_
           rotate_left
           focus rfl
           focus (intro w' hw'; have hw1 := HC.out w' hw'; clear hw'; go_simp; with_reducible rfl)
           try go_simp)
          (refine wpAnyD_take (i := 4) (v := ?_) [5, 6, 9] [9] rfl (by kernel_rfl) (by kernel_rfl) (by kernel_rfl) (fun _ _ _ h => h) (by kernel_rfl) (by kernel_rfl) (by kernel_rfl) (Or.inl ⟨?_, ?_⟩) hS3 ?_
           rotate_left
           focus rfl
           focus (intro w' hw'; have hw1 := HC.out w' hw'; clear hw'; go_simp; with_reducible rfl)
           try go_simp)
          (refine wpAnyD_take (i := 5) (v := ?_) [6, 9] [9] rfl (by kernel_rfl) (by kernel_rfl) (by kernel_rfl) (fun _ _ _ h => h) (by kernel_rfl) (by kernel_rfl) (by kernel_rfl) (Or.inl ⟨?_, ?_⟩) hS3 ?_
           rotate_left
           focus rfl
           focus (intro w' hw'; have hw1 := HC.out w' hw'; clear hw'; go_simp; with_reducible rfl)
           try go_simp)
          (refine wpAnyD_take (i := 6) (v := ?_) [9] [9] rfl (by kernel_rfl) (by kernel_rfl) (by kernel_rfl) (fun _ _ _ h => h) (by kernel_rfl) (by kernel_rfl) (by kernel_rfl) (Or.inl ⟨?_, ?_⟩) hS3 ?_
           rotate_left
           focus rfl
           focus (intro w' hw'; have hw1 := HC.out w' hw'; clear hw'; go_simp; with_reducible rfl)
           try go_simp)
          (refine wpAnyD_take (i := 7) (v := ?_) [8, 9] [9] rfl (by kernel_rfl) (by kernel_rfl) (by kernel_rfl) (fun _ _ _ h => h) (by kernel_rfl) (by kernel_rfl) (by kernel_rfl) (Or.inl ⟨?_, ?_⟩) hS3 ?_
           rotate_left
           focus rfl
           focus (intro w' hw'; have hw1 := HC.out w' hw'; clear hw'; go_simp; with_reducible rfl)
           try go_simp)
          (refine wpAnyD_take (i := 8) (v := ?_) [9] [9] rfl (by kernel_rfl) (by kernel_rfl) (by kernel_rfl) (fun _ _ _ h => h) (by kernel_rfl) (by kernel_rfl) (by kernel_rfl) (Or.inl ⟨?_, ?_⟩) hS3 ?_
           rotate_left
           focus rfl
           focus (intro w' hw'; have hw1 := HC.out w' hw'; clear hw'; go_simp; with_reducible rfl)
           try go_simp)
          have W8' := Lib.hid (W7'.out.quiet (Nat.le_trans hB hz7) hS3)
          clear hS3
          refine wpAnyD_ready (rs := [9]) (by kernel_rfl) (by simp) ?_
          refine AllReadyD.cons rfl (fun K hK => ?_) AllReadyD.nil
          go_simp
          refine (writeByte_any B b E _ _ W8 W8'.out.1 (by have := W8'.out.2.1.size; omega) (by have := HCL.out; rw [List.length_append, List.length_append]; show _ + 4 + 1 + 1 ≤ _; omega)).mono ?_
          rintro e W9 ⟨rfl, h9⟩
          refine hK.out _ _ (fun h => absurd h (by decide)) ?_
          clear hK K
          try go_simp
          refine wpAnyD_done (by kernel_rfl) ?_ _
          have W9' := Lib.hid (W8'.out.trans h9)
          clear h9
          have HY : Hid (∀ q : y < hexTab.size, (hexTab[y]'q).toNat = hexd y) := Lib.hid (fun q => hex_at y (by omega) q)
          have HZ : Hid (∀ q : z < hexTab.size, (hexTab[z]'q).toNat = hexd z) := Lib.hid (fun q => hex_at z (by omega) q)
          go_wp2_with fail
          go_roundw
          case rel =>
            refine ⟨i + 1, i + 1, by push_cast; rfl, by push_cast; rfl, Nat.le_refl _, hlt, fun j h1 h2 => by omega, HVL1.out, ?_⟩
            have q := W9'.out
            rw [esc_next s i _ hlt HX.out, HEB.out, ← HY.out (by show y < 16; omega), ← HZ.out (by show z < 16; omega), ← List.cons_append, ← List.append_assoc]
            rw [List.append_assoc, List.append_assoc] at q
            exact q
          case measure => simp [intOf]; omega
      · obtain ⟨d1, d2, d3, _, d5⟩ := dec_step s i hlt HVL.out
        obtain ⟨d6, d7⟩ := d5 (by rw [HX.out]; omega)
        have hdec := fun (w' : World) (hb : Below B w w') => Any.utf8_DecodeRuneInString Tryz.lays197 (s.extract i s.size) w' (HT.out w' hb)
        obtain ⟨r, hr⟩ : ∃ r, (Lib.decodeGo (s.extract i s.size)).1 = r := ⟨_, rfl⟩
        obtain ⟨k, hk⟩ : ∃ k, (Lib.decodeGo (s.extract i s.size)).2 = k := ⟨_, rfl⟩
        rw [hr, hk] at hdec
        rw [hk] at d1 d2 d3 d6 d7
        have HDEC := Lib.hid hdec
        have HD3 := Lib.hid d3
        have HD7 := Lib.hid d7
        have q1 : ((k : Int) == 1) = false := by simp; omega
        clear hdec hr hk d3 d7 d5
        go_wp2_with fail
        refine (HDEC.out wr HW.out.2.1).mono ?_
        rintro e w2 ⟨rfl, b2⟩
        have W2 := Lib.hid (HW.out.quiet (Nat.le_trans hB hz1) b2)
        clear b2
        go_wp2_with fail
        all_goals
          go_roundw
          case rel =>
            refine ⟨st, i + k, rfl, by push_cast; rfl, by omega, d2, fun j h1 h2 => ?_, HD3.out, W2.out⟩
            by_cases hj : j < i
            · exact HPL.out j h1 hj
            · have := HD7.out j (by omega) h2
              unfold plainB
              simp only [Bool.or_eq_true, decide_eq_true_eq]
              exact .inr this
          case measure => simp [intOf]; omega
    · obtain rfl : i = s.size := by omega
      have HW2 : Hid (∀ cs w', cs = escL ((bytesN s).take st) ++ bytesN (s.extract st s.size) → Wrote B b E ((bs ++ 34 :: cs) ++ [34]) w w' → Wrote B b E (bs ++ Ma.encStr (bytesN s)) w w') := Lib.hid (fun cs w' e q => by
        rw [← esc_mid s st s.size hst (Nat.le_refl _) HPL.out, take_all] at e
        rw [e, List.append_assoc, List.cons_append] at q
        exact q)
      have hcl := esc_len s st hst
      have hel := extract_size s st s.size (Nat.le_refl _)
      have hlim1 : (bs ++ 34 :: escL ((bytesN s).take st)).length ≤ bs.length + 1 + 6 * st := by rw [List.length_append, List.length_cons]; omega
      have hlim2 : (bs ++ 34 :: escL ((bytesN s).take st) ++ bytesN (s.extract st s.size)).length ≤ bs.length + 1 + 6 * s.size := by rw [List.length_append, bytesN_len]; omega
      have HEL := Lib.hid hel
      have HCL := Lib.hid hlim1
      have HCL2 := Lib.hid hlim2
      clear hel hcl hlim1 hlim2
      by_cases hq : st < s.size
      · have HC : Hid (∀ W : World, Below wr.heap.size wr W → W.cell? ⟨E, 0, none⟩ = some (.iface 114 (.pointer (some ⟨b, 0, none⟩)))) := Lib.hid (fun W hW => (hW.cell (p := ⟨E, 0, none⟩) (cell_lt c1)).trans c1)
        go_wp2_with fail
        refine wp_region_D (Below wr.heap.size wr) [9] (by kernel_rfl) ?_
        generalize hWd : World.drew wr = W3
        have hS3 : Below wr.heap.size wr W3 := hWd ▸ (Below.refl _ _).drew
        clear hWd
        (refine wpAnyD_take (i := 0) (v := ?_) [1, 2, 3, 7, 8, 9] [9] rfl (by kernel_rfl) (by kernel_rfl) (by kernel_rfl) (fun _ _ _ h => h) (by kernel_rfl) (by kernel_rfl) (by kernel_rfl) (Or.inl ⟨?_, ?_⟩) hS3 ?_
         rotate_left
         focus rfl
         focus (intro w' hw'; have hw1 := HC.out w' hw'; clear hw'; go_simp; with_reducible rfl)
         try go_simp)
        (refine wpAnyD_take (i := 1) (v := ?_) [2, 3, 7, 8, 9] [9] rfl (by kernel_rfl) (by kernel_rfl) (by kernel_rfl) (fun _ _ _ h => h) (by kernel_rfl) (by kernel_rfl) (by kernel_rfl) (Or.inl ⟨?_, ?_⟩) hS3 ?_
         rotate_left
         focus rfl
         focus (intro w' hw'; have hw1 := HC.out w' hw'; clear hw'; go_simp; with_reducible rfl)
         try go_simp)
        (refine wpAnyD_take (i := 2) (v := ?_) [3, 7, 8, 9] [9] rfl (by kernel_rfl) (by kernel_rfl) (by kernel_rfl) (fun _ _ _ h => h) (by kernel_rfl) (by kernel_rfl) (by kernel_rfl) (Or.inl ⟨?_, ?_⟩) hS3 ?_
         rotate_left
         focus rfl
         focus (intro w' hw'; have hw1 := HC.out w' hw'; clear hw'; go_simp; with_reducible rfl)
         try go_simp)
        (refine wpAnyD_take (i := 3) (v := ?_) [7, 8, 9] [9] rfl (by kernel_rfl) (by kernel_rfl) (by kernel_rfl) (fun _ _ _ h => h) (by kernel_rfl) (by kernel_rfl) (by kernel_rfl) (Or.inl ⟨?_, ?_⟩) hS3 ?_
         rotate_left
         focus rfl
         focus (intro w' hw'; have hw1 := HC.out w' hw'; clear hw'; go_simp; with_reducible rfl)
         try go_simp)
        (refine wpAnyD_take (i := 4) (v := ?_) [6, 9] [9] rfl (by kernel_rfl) (by kernel_rfl) (by kernel_rfl) (fun _ _ _ h => h) (by kernel_rfl) (by kernel_rfl) (by kernel_rfl) (Or.inl ⟨?_, ?_⟩) hS3 ?_
         rotate_left
         focus rfl
         focus (intro w' hw'; have hw1 := HC.out w' hw'; clear hw'; go_simp; with_reducible rfl)
         try go_simp)
        (refine wpAnyD_take (i := 5) (v := ?_) [6, 9] [9] rfl (by kernel_rfl) (by kernel_rfl) (by kernel_rfl) (fun _ _ _ h => h) (by kernel_rfl) (by kernel_rfl) (by kernel_rfl) (Or.inl ⟨?_, ?_⟩) hS3 ?_
         rotate_left
         focus rfl
         focus (intro w' hw'; have hw1 := HC.out w' hw'; clear hw'; go_simp; with_reducible rfl)
         try go_simp)
        (refine wpAnyD_take (i := 6) (v := ?_) [9] [9] rfl (by kernel_rfl) (by kernel_rfl) (by kernel_rfl) (fun _ _ _ h => h) (by kernel_rfl) (by kernel_rfl) (by kernel_rfl) (Or.inl ⟨?_, ?_⟩) hS3 ?_
         rotate_left
         focus rfl
         focus (intro w' hw'; have hw1 := HC.out w' hw'; clear hw'; go_simp; with_reducible rfl)
         try go_simp)
        (refine wpAnyD_take (i := 7) (v := ?_) [8, 9] [9] rfl (by kernel_rfl) (by kernel_rfl) (by kernel_rfl) (fun _ _ _ h => h) (by kernel_rfl) (by kernel_rfl) (by kernel_rfl) (Or.inl ⟨?_, ?_⟩) hS3 ?_
         rotate_left
         focus rfl
         focus (intro w' hw'; have hw1 := HC.out w' hw'; clear hw'; go_simp; with_reducible rfl)
         try go_simp)
        (refine wpAnyD_take (i := 8) (v := ?_) [9] [9] rfl (by kernel_rfl) (by kernel_rfl) (by kernel_rfl) (fun _ _ _ h => h) (by kernel_rfl) (by kernel_rfl) (by kernel_rfl) (Or.inl ⟨?_, ?_⟩) hS3 ?_
         rotate_left
         focus rfl
         focus (intro w' hw'; have hw1 := HC.out w' hw'; clear hw'; go_simp; with_reducible rfl)
         try go_simp)
        have W3' := Lib.hid (HW.out.quiet (Nat.le_trans hB hz1) hS3)
        clear hS3
        refine wpAnyD_ready (rs := [9]) (by kernel_rfl) (by simp) ?_
        refine AllReadyD.cons rfl (fun K hK => ?_) AllReadyD.nil
        go_simp
        refine (writeString_any B b E _ (s.extract st s.size) W3 W3'.out.1 (by have := W3'.out.2.1.size; omega) (by have := HCL.out; have := HEL.out; omega)).mono ?_
        rintro e W4 ⟨rfl, h4⟩
        refine hK.out _ _ (fun h => absurd h (by decide)) ?_
        clear hK K
        try go_simp
        refine wpAnyD_done (by kernel_rfl) ?_ _
        have W4' := Lib.hid (W3'.out.trans h4)
        have hz4 := W4'.out.2.1.size
        have c4 := W4'.out.1.cell
        clear h4
        go_wp2_with fail
        refine (writeByte_any B b E 34 _ W4 W4'.out.1 (by omega) (by have := HCL2.out; omega)).mono ?_
        rintro e W5 ⟨rfl, h5⟩
        have W5' := Lib.hid (W4'.out.trans h5)
        clear h5
        go_wp2_with fail
        go_returns
        exact ⟨rfl, HW2.out _ _ rfl (by have := W5'.out; rw [List.append_assoc bs, List.cons_append] at this; exact this)⟩
      · go_wp2_with fail
        refine (writeByte_any B b E 34 _ wr HW.out.1 (by omega) (by have := HCL.out; omega)).mono ?_
        rintro e W5 ⟨rfl, h5⟩
        have W5' := Lib.hid (HW.out.trans h5)
        clear h5
        go_wp2_with fail
        go_returns
        refine ⟨rfl, HW2.out _ _ ?_ W5'.out⟩
        have : bytesN (s.extract st s.size) = [] := List.eq_nil_of_length_eq_zero (by rw [bytesN_len, HEL.out]; omega)
        rw [this, List.append_nil]
end Go.Proofs.YtgjmgneppecfgaaGreatDoor.Mb
