/-
  THE WALK of form: of a number's text.
-/
import Derived.Test.YtgjmgneppecfgaaGreatDoorQ09
import Derived.Test.YtgjmgneppecfgaaGreatDoorQ07
set_option linter.unusedVariables false
set_option linter.unusedSimpArgs false
namespace Go.Proofs.YtgjmgneppecfgaaGreatDoor.Pa
open Go.RowKit Go.Proofs.YtgjmgneppecfgaaGreatDoor.Va Go.Proofs.YtgjmgneppecfgaaGreatDoor.Ba Go.Proofs.YtgjmgneppecfgaaGreatDoor.Ma
set_option linter.unusedVariables false
set_option linter.unusedSimpArgs false

/-- the number of digits -/
def valN (l : List Nat) : Nat := l.foldl (fun n x => 10 * n + (x - 48)) 0
theorem valN_push (l : List Nat) (x : Nat) : valN (l ++ [x]) = 10 * valN l + (x - 48) := by unfold valN; rw [List.foldl_append]; rfl
theorem valN_digs0 : ∀ n, valN (digs0 n) = n := by
  intro n
  induction n using Nat.strongRecOn with
  | ind n ih =>
    rw [digs0]
    split
    · rename_i h; rw [h]; rfl
    · rw [valN_push, ih (n / 10) (by omega)]
      omega
theorem valN_digs (n : Nat) : valN (digs n) = n := by
  unfold digs
  rw [valN_push, valN_digs0]
  omega
theorem fold_lt : ∀ (l : List Nat) (a : Nat), (∀ x ∈ l, 48 ≤ x ∧ x < 58) → l.foldl (fun n x => 10 * n + (x - 48)) a < (a + 1) * 10 ^ l.length
  | [], a, _ => by simp
  | x :: l, a, h => by
    have h1 := fold_lt l (10 * a + (x - 48)) (fun y hy => h y (List.mem_cons_of_mem _ hy))
    have h2 := h x List.mem_cons_self
    rw [List.foldl_cons, List.length_cons, Nat.pow_succ]
    refine Nat.lt_of_lt_of_le h1 ?_
    rw [← Nat.mul_assoc, Nat.mul_right_comm]
    exact Nat.mul_le_mul_right _ (by omega)
theorem valN_lt (l : List Nat) (h : ∀ x ∈ l, 48 ≤ x ∧ x < 58) : valN l < 10 ^ l.length := by
  have := fold_lt l 0 h
  rw [Nat.zero_add, Nat.one_mul] at this
  exact this
theorem valN_take (l : List Nat) (i : Nat) (hi : i < l.length) : valN (l.take (i + 1)) = 10 * valN (l.take i) + (l[i] - 48) := by
  rw [List.take_succ_eq_append_getElem hi, valN_push]
theorem valN_small (l : List Nat) (i : Nat) (h : ∀ x ∈ l, 48 ≤ x ∧ x < 58) (hi : i ≤ 15) : valN (l.take i) < 1000000000000000 := by
  have h1 := valN_lt (l.take i) (fun x hx => h x (List.mem_of_mem_take hx))
  have h2 : 10 ^ (l.take i).length ≤ 10 ^ 15 := Nat.pow_le_pow_right (by omega) (by rw [List.length_take]; omega)
  omega
theorem digs_pos (n : Nat) : 0 < (digs n).length := by unfold digs; simp
/-- the half behind the digits -/
def halfT (h : Int) : List Nat := if h % 2 = 0 then [] else [46, 53]
theorem lit_half : (ByteArray.toList ⟨#[46, 53]⟩) = [46, 53] := by rw [ByteArray.toList_eq]
def FormEnd (h : Int) (w : World) (e : Ending) (w' : World) : Prop := ∃ (x : Int) (ok : Bool), e = .returned (.tuple #[.int .i64 x, .bool ok]) ∧ w = w' ∧ (ok = true → x = h)
def LoopN (D : List Nat) (w : World) (nv iv : Value) (wr : World) : Prop := ∃ i : Nat, nv = .int .i64 (valN (D.take i) : Int) ∧ iv = .int .i64 (i : Int) ∧ i ≤ D.length ∧ i ≤ 15 ∧ w = wr
set_option maxHeartbeats 4000000 in
set_option maxRecDepth 100000 in
theorem form_any (h : Int) (hlo : -18014398509481984 ≤ h) (hhi : h ≤ 18014398509481984) (s : ByteArray) (hb : bytesN s = numJ h) (w : World) : Calls Tryz.prog 98 #[.string s] w (FormEnd h w) := by
  obtain ⟨D, hD⟩ : ∃ D, digs (h.natAbs / 2) = D := ⟨_, rfl⟩
  have HDR : Hid (∀ x ∈ D, 48 ≤ x ∧ x < 58) := Lib.hid (by rw [← hD]; exact digs_range _)
  have HDL : Hid (D.length ≤ 20) := Lib.hid (by rw [← hD]; exact digs_len (by omega))
  have HDP : Hid (0 < D.length) := Lib.hid (by rw [← hD]; exact digs_pos _)
  have HDV : Hid (valN D = h.natAbs / 2) := Lib.hid (by rw [← hD]; exact valN_digs _)
  have hb2 : bytesN s = (if h < 0 then [45] else []) ++ (D ++ halfT h) := by rw [hb]; unfold numJ halfT; rw [hD]
  clear hb hD
  by_cases hn : h < 0
  · rw [if_pos hn] at hb2
    have hsz : s.size = 1 + (D.length + (halfT h).length) := by rw [← bytesN_len, hb2]; simp; omega
    have h0 : 0 < s.size := by omega
    have hx : (s[0]'h0).toNat = 45 := by rw [Ba.byte_at s 0 h0, hb2]; rfl
    obtain ⟨u, hu⟩ : ∃ u, s.extract 1 s.size = u := ⟨_, rfl⟩
    have HB : Hid (bytesN u = D ++ halfT h) := Lib.hid (by rw [← hu, Mb.bytesN_extract2, hb2, List.take_of_length_le (by rw [← hb2, bytesN_len]; omega)]; rfl)
    have HU : Hid (u.size = D.length + (halfT h).length) := Lib.hid (by rw [← bytesN_len, HB.out, List.length_append])
    have HSZ := Lib.hid hsz
    have h1 : 1 ≤ s.size := h0
    clear hb2 hsz
    go_enter Tryz.func98, Tryz.ntmps98
    go_wp2_with fail
    (go_loopw [5, 6] (LoopN D w) (fun _ iv _ => 20 - (intOf iv).toNat)
     case atStart => exact ⟨0, rfl, rfl, Nat.zero_le _, by omega, rfl⟩
     case round =>
       obtain ⟨i, rfl, rfl, hi, hi15, rfl⟩ := hrel
       have hsm := valN_small D i HDR.out hi15
       by_cases hlt : i < D.length
       · by_cases h15 : i < 15
         · have hiu : i < u.size := by have := HU.out; omega
           obtain ⟨x, hx⟩ : ∃ x, (u[i]'hiu).toNat = x := ⟨_, rfl⟩
           have hxd : D[i] = x := by rw [← hx, Ba.byte_at u i hiu, HB.out, List.getD, List.getElem?_append_left hlt, List.getElem?_eq_getElem hlt]; rfl
           have hxr := HDR.out x (by rw [← hxd]; exact List.getElem_mem hlt)
           obtain ⟨hx1, hx2⟩ := hxr
           have hnx := valN_take D i hlt
           rw [hxd] at hnx
           obtain ⟨N, hN⟩ : ∃ N, valN (D.take i) = N := ⟨_, rfl⟩
           rw [hN] at hnx hsm ⊢
           clear hxd hN
           have HNX := Lib.hid hnx
           clear hnx
           go_wp2_with fail
           go_roundw
           case rel => exact ⟨i + 1, by rw [HNX.out]; push_cast; congr 1; omega, by push_cast; rfl, hlt, h15, rfl⟩
           case measure => simp [intOf]; omega
         · obtain rfl : i = 15 := by omega
           have hu0 : 0 < u.size := by have := HU.out; omega
           have hu15 : 15 < u.size := by have := HU.out; omega
           obtain ⟨z, hz⟩ : ∃ z, (u[0]'hu0).toNat = z := ⟨_, rfl⟩
           have hcmp : ((u.extract 15 u.size).toList == [46, 53]) = false := lit_half ▸ beq_no (b := ⟨#[46, 53]⟩) (fun e => by
             have e2 := congrArg bytesN e
             rw [Mb.bytesN_extract2, List.take_of_length_le (by rw [bytesN_len]; exact Nat.le_refl _), HB.out, List.drop_append_of_le_length (by omega)] at e2
             have h15 := HDR.out (D[15]) (List.getElem_mem hlt)
             rw [List.drop_eq_getElem_cons hlt] at e2
             have e3 : D[15] = 46 := by have := congrArg (fun l => l.getD 0 0) e2; exact this
             omega)
           have hne : ((15 : Int) == (u.size : Int)) = false := by simp; omega
           obtain ⟨N, hN⟩ : ∃ N, valN (D.take 15) = N := ⟨_, rfl⟩
           rw [hN] at hsm ⊢
           clear hN
           by_cases hz48 : z = 48
           · subst hz48
             go_wp2_with fail
             go_returns
             exact ⟨0, false, rfl, rfl, fun q => by cases q⟩
           · have qz : ((z : Int) == 48) = false := by simp; omega
             go_wp2_with fail
             go_returns
             exact ⟨_, _, rfl, rfl, fun q => by cases q⟩
       · obtain rfl : i = D.length := by omega
         have hu0 : 0 < u.size := by have := HU.out; have := HDP.out; omega
         obtain ⟨z, hz⟩ : ∃ z, (u[0]'hu0).toNat = z := ⟨_, rfl⟩
         have htk : D.take D.length = D := List.take_of_length_le (Nat.le_refl _)
         rw [htk] at hsm ⊢
         have hNv := HDV.out
         have hex : bytesN (u.extract D.length u.size) = halfT h := by
           rw [Mb.bytesN_extract2, List.take_of_length_le (by rw [bytesN_len]; exact Nat.le_refl _), HB.out, List.drop_append_of_le_length (Nat.le_refl _), List.drop_length, List.nil_append]
         obtain ⟨N, hN⟩ : ∃ N, valN D = N := ⟨_, rfl⟩
         obtain ⟨i, hi2⟩ : ∃ i, D.length = i := ⟨_, rfl⟩
         have hi0 : 0 < i := by rw [← hi2]; exact HDP.out
         rw [hN] at hsm hNv ⊢
         rw [hi2] at hex ⊢
         have hus := HU.out
         rw [hi2] at hi15 hlt hus hi
         have HNV := Lib.hid hNv
         clear hN htk hNv
         rcases (show h % 2 = 0 ∨ h % 2 = 1 by omega) with he | he
         · have hh : halfT h = [] := by unfold halfT; rw [if_pos he]
           rw [hh] at hex hus
           have hcmp : ((u.extract i u.size).toList == [46, 53]) = false := lit_half ▸ beq_no (b := ⟨#[46, 53]⟩) (fun e => by rw [e] at hex; cases hex)
           have hus2 : u.size = i := hus
           clear hex hh hus
           by_cases hz48 : z = 48
           · subst hz48
             by_cases h1i : 1 < i
             · go_wp2_with fail
               all_goals (go_returns; exact ⟨_, _, rfl, rfl, fun q => (by cases q)⟩)
             · go_wp2_with fail
               all_goals (go_returns; exact ⟨_, _, rfl, rfl, fun q => (by first | (cases q; done) | (have := HNV.out; omega) | (exfalso; simp at q; omega) | (exfalso; simp at q; done))⟩)
           · have qz : ((z : Int) == 48) = false := by simp; omega
             go_wp2_with fail
             all_goals (go_returns; exact ⟨_, _, rfl, rfl, fun q => (by first | (cases q; done) | (have := HNV.out; omega) | (exfalso; simp at q; omega) | (exfalso; simp at q; done))⟩)
         · have hh : halfT h = [46, 53] := by unfold halfT; rw [if_neg (by omega)]
           rw [hh] at hex hus
           have hiu : i < u.size := by rw [hus]; simp
           have hxi : (u[i]'hiu).toNat = 46 := by
             rw [Ba.byte_at u i hiu, HB.out, hh, List.getD, List.getElem?_append_right (by omega), hi2, Nat.sub_self]; rfl
           have hcmp : (u.extract i u.size).toList = [46, 53] := (congrArg ByteArray.toList (bytes_inj (b := ⟨#[46, 53]⟩) (hex.trans rfl))).trans lit_half
           have hus2 : u.size = i + 2 := hus
           clear hex hh hus
           by_cases hz48 : z = 48
           · subst hz48
             by_cases h1i : 1 < i
             · go_wp2_with fail
               all_goals (go_returns; exact ⟨_, _, rfl, rfl, fun q => (by cases q)⟩)
             · go_wp2_with fail
               all_goals (go_returns; exact ⟨_, _, rfl, rfl, fun q => (by first | (cases q; done) | (have := HNV.out; omega) | (exfalso; simp at q; omega) | (exfalso; simp at q; done))⟩)
           · have qz : ((z : Int) == 48) = false := by simp; omega
             go_wp2_with fail
             all_goals (go_returns; exact ⟨_, _, rfl, rfl, fun q => (by first | (cases q; done) | (have := HNV.out; omega) | (exfalso; simp at q; omega) | (exfalso; simp at q; done))⟩)
     skip)
  · rw [if_neg hn, List.nil_append] at hb2
    have HB : Hid (bytesN s = D ++ halfT h) := Lib.hid hb2
    have hsz : s.size = D.length + (halfT h).length := by rw [← bytesN_len, hb2, List.length_append]
    have HU := Lib.hid hsz
    have h0 : 0 < s.size := by have := HDP.out; omega
    obtain ⟨z, hz⟩ : ∃ z, (s[0]'h0).toNat = z := ⟨_, rfl⟩
    have hz2 : ((z : Int) == 45) = false := by
      have e : D[0]'HDP.out = z := by rw [← hz, Ba.byte_at s 0 h0, hb2, List.getD, List.getElem?_append_left HDP.out, List.getElem?_eq_getElem HDP.out]; rfl
      have := (HDR.out _ (List.getElem_mem HDP.out)).1
      rw [e] at this
      simp; omega
    have hlen : s.size ≤ 140737488355328 := by
      have h1 : D.length ≤ 20 := HDL.out
      have h2 : (halfT h).length ≤ 2 := by unfold halfT; split <;> simp
      omega
    obtain ⟨u, hu⟩ : ∃ u, s = u := ⟨_, rfl⟩
    subst hu
    clear hb2 hsz
    go_enter Tryz.func98, Tryz.ntmps98
    go_wp2_with fail
    clear hz hz2
    (go_loopw [5, 6] (LoopN D w) (fun _ iv _ => 20 - (intOf iv).toNat)
     case atStart => exact ⟨0, rfl, rfl, Nat.zero_le _, by omega, rfl⟩
     case round =>
       obtain ⟨i, rfl, rfl, hi, hi15, rfl⟩ := hrel
       have hsm := valN_small D i HDR.out hi15
       by_cases hlt : i < D.length
       · by_cases h15 : i < 15
         · have hiu : i < s.size := by have := HU.out; omega
           obtain ⟨x, hx⟩ : ∃ x, (s[i]'hiu).toNat = x := ⟨_, rfl⟩
           have hxd : D[i] = x := by rw [← hx, Ba.byte_at s i hiu, HB.out, List.getD, List.getElem?_append_left hlt, List.getElem?_eq_getElem hlt]; rfl
           have hxr := HDR.out x (by rw [← hxd]; exact List.getElem_mem hlt)
           obtain ⟨hx1, hx2⟩ := hxr
           have hnx := valN_take D i hlt
           rw [hxd] at hnx
           obtain ⟨N, hN⟩ : ∃ N, valN (D.take i) = N := ⟨_, rfl⟩
           rw [hN] at hnx hsm ⊢
           clear hxd hN
           have HNX := Lib.hid hnx
           clear hnx
           go_wp2_with fail
           go_roundw
           case rel => exact ⟨i + 1, by rw [HNX.out]; push_cast; congr 1; omega, by push_cast; rfl, hlt, h15, rfl⟩
           case measure => simp [intOf]; omega
         · obtain rfl : i = 15 := by omega
           have hu0 : 0 < s.size := by have := HU.out; omega
           have hu15 : 15 < s.size := by have := HU.out; omega
           obtain ⟨z, hz⟩ : ∃ z, (s[0]'hu0).toNat = z := ⟨_, rfl⟩
           have hcmp : ((s.extract 15 s.size).toList == [46, 53]) = false := lit_half ▸ beq_no (b := ⟨#[46, 53]⟩) (fun e => by
             have e2 := congrArg bytesN e
             rw [Mb.bytesN_extract2, List.take_of_length_le (by rw [bytesN_len]; exact Nat.le_refl _), HB.out, List.drop_append_of_le_length (by omega)] at e2
             have h15 := HDR.out (D[15]) (List.getElem_mem hlt)
             rw [List.drop_eq_getElem_cons hlt] at e2
             have e3 : D[15] = 46 := by have := congrArg (fun l => l.getD 0 0) e2; exact this
             omega)
           have hne : ((15 : Int) == (s.size : Int)) = false := by simp; omega
           obtain ⟨N, hN⟩ : ∃ N, valN (D.take 15) = N := ⟨_, rfl⟩
           rw [hN] at hsm ⊢
           clear hN
           by_cases hz48 : z = 48
           · subst hz48
             go_wp2_with fail
             go_returns
             exact ⟨0, false, rfl, rfl, fun q => by cases q⟩
           · have qz : ((z : Int) == 48) = false := by simp; omega
             go_wp2_with fail
             go_returns
             exact ⟨_, _, rfl, rfl, fun q => by cases q⟩
       · obtain rfl : i = D.length := by omega
         have hu0 : 0 < s.size := by have := HU.out; have := HDP.out; omega
         obtain ⟨z, hz⟩ : ∃ z, (s[0]'hu0).toNat = z := ⟨_, rfl⟩
         have htk : D.take D.length = D := List.take_of_length_le (Nat.le_refl _)
         rw [htk] at hsm ⊢
         have hNv := HDV.out
         have hex : bytesN (s.extract D.length s.size) = halfT h := by
           rw [Mb.bytesN_extract2, List.take_of_length_le (by rw [bytesN_len]; exact Nat.le_refl _), HB.out, List.drop_append_of_le_length (Nat.le_refl _), List.drop_length, List.nil_append]
         obtain ⟨N, hN⟩ : ∃ N, valN D = N := ⟨_, rfl⟩
         obtain ⟨i, hi2⟩ : ∃ i, D.length = i := ⟨_, rfl⟩
         have hi0 : 0 < i := by rw [← hi2]; exact HDP.out
         rw [hN] at hsm hNv ⊢
         rw [hi2] at hex ⊢
         have hus := HU.out
         rw [hi2] at hi15 hlt hus hi
         have HNV := Lib.hid hNv
         clear hN htk hNv
         rcases (show h % 2 = 0 ∨ h % 2 = 1 by omega) with he | he
         · have hh : halfT h = [] := by unfold halfT; rw [if_pos he]
           rw [hh] at hex hus
           have hcmp : ((s.extract i s.size).toList == [46, 53]) = false := lit_half ▸ beq_no (b := ⟨#[46, 53]⟩) (fun e => by rw [e] at hex; cases hex)
           have hus2 : s.size = i := hus
           clear hex hh hus
           by_cases hz48 : z = 48
           · subst hz48
             by_cases h1i : 1 < i
             · go_wp2_with fail
               all_goals (go_returns; exact ⟨_, _, rfl, rfl, fun q => (by cases q)⟩)
             · go_wp2_with fail
               all_goals (go_returns; exact ⟨_, _, rfl, rfl, fun q => (by first | (cases q; done) | (have := HNV.out; omega) | (exfalso; simp at q; omega) | (exfalso; simp at q; done))⟩)
           · have qz : ((z : Int) == 48) = false := by simp; omega
             go_wp2_with fail
             all_goals (go_returns; exact ⟨_, _, rfl, rfl, fun q => (by first | (cases q; done) | (have := HNV.out; omega) | (exfalso; simp at q; omega) | (exfalso; simp at q; done))⟩)
         · have hh : halfT h = [46, 53] := by unfold halfT; rw [if_neg (by omega)]
           rw [hh] at hex hus
           have hiu : i < s.size := by rw [hus]; simp
           have hxi : (s[i]'hiu).toNat = 46 := by
             rw [Ba.byte_at s i hiu, HB.out, hh, List.getD, List.getElem?_append_right (by omega), hi2, Nat.sub_self]; rfl
           have hcmp : (s.extract i s.size).toList = [46, 53] := (congrArg ByteArray.toList (bytes_inj (b := ⟨#[46, 53]⟩) (hex.trans rfl))).trans lit_half
           have hus2 : s.size = i + 2 := hus
           clear hex hh hus
           by_cases hz48 : z = 48
           · subst hz48
             by_cases h1i : 1 < i
             · go_wp2_with fail
               all_goals (go_returns; exact ⟨_, _, rfl, rfl, fun q => (by cases q)⟩)
             · go_wp2_with fail
               all_goals (go_returns; exact ⟨_, _, rfl, rfl, fun q => (by first | (cases q; done) | (have := HNV.out; omega) | (exfalso; simp at q; omega) | (exfalso; simp at q; done))⟩)
           · have qz : ((z : Int) == 48) = false := by simp; omega
             go_wp2_with fail
             all_goals (go_returns; exact ⟨_, _, rfl, rfl, fun q => (by first | (cases q; done) | (have := HNV.out; omega) | (exfalso; simp at q; omega) | (exfalso; simp at q; done))⟩)
     skip)
end Go.Proofs.YtgjmgneppecfgaaGreatDoor.Pa
