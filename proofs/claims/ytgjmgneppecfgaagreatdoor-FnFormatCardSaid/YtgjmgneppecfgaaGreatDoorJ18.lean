/-
  FnFormat, texts PaB PaE FoB FoC: lemmas for the law; the theorem stands in the last text.
-/
import Derived.Deep.QuietTactic
import Derived.BigQuiet
import Derived.IntWalk
import Derived.Test.YtgjmgneppecfgaaGreatDoorJ13
import Derived.Test.YtgjmgneppecfgaaGreatDoorJ15
import Derived.Test.YtgjmgneppecfgaaGreatDoorJ16
import Derived.Test.YtgjmgneppecfgaaGreatDoorJ17
namespace Go.Proofs.YtgjmgneppecfgaaGreatDoor.Pa
open Go.RowKit Go.Proofs.YtgjmgneppecfgaaGreatDoor.Va Go.Proofs.YtgjmgneppecfgaaGreatDoor.Ba Go.Proofs.YtgjmgneppecfgaaGreatDoor.Ma
set_option linter.unusedVariables false
set_option linter.unusedSimpArgs false

theorem toList_inj {a b : ByteArray} (h : a.toList = b.toList) : a = b := by
  rw [ByteArray.toList_eq, ByteArray.toList_eq] at h
  apply ByteArray.ext
  exact Array.toList_inj.1 h
theorem bytes_inj {a b : ByteArray} (h : bytesN a = bytesN b) : a = b := by
  unfold bytesN at h
  apply ByteArray.ext
  refine Array.toList_inj.1 ?_
  exact List.map_inj_right (fun x y e => UInt8.toNat_inj.1 e) |>.1 h
theorem beq_no {a b : ByteArray} (h : a ≠ b) : (a.toList == b.toList) = false := by
  rw [beq_eq_false_iff_ne]
  exact fun e => h (toList_inj e)
theorem beq_yes {a b : ByteArray} (h : a = b) : (a.toList == b.toList) = true := by
  rw [h, beq_iff_eq]
def FindEnd (tab part : ByteArray) (w : World) (e : Ending) (w' : World) : Prop :=
  ∃ r : Int, e = .returned (.int .i64 r) ∧ w = w' ∧ ((r = -1 ∧ ∀ j, j < tab.size → tab.extract j (j + 1) ≠ part) ∨ ∃ j : Nat, r = (j : Int) ∧ j < tab.size ∧ tab.extract j (j + 1) = part)
def LoopF (tab part : ByteArray) (w : World) (iv : Value) (wr : World) : Prop :=
  ∃ i : Nat, iv = .int .i64 (i : Int) ∧ i ≤ tab.size ∧ (∀ j, j < i → tab.extract j (j + 1) ≠ part) ∧ w = wr
set_option maxHeartbeats 2000000 in
theorem find_one (tab part : ByteArray) (hp : part.size = 1) (ht : tab.size ≤ 140737488355328) (w : World) : Calls Tryz.prog 137 #[.string tab, .string part, .int .i64 0] w (FindEnd tab part w) := by
  go_enter Tryz.func137, Tryz.ntmps137
  go_wp2_with fail
  go_loopw [7] (LoopF tab part w) (fun iv _ => tab.size - (intOf iv).toNat)
  case atStart => exact ⟨0, rfl, Nat.zero_le _, fun j hj => by omega, rfl⟩
  case round =>
    obtain ⟨i, rfl, hi, hno, rfl⟩ := hrel
    have HNO := Lib.hid hno
    clear hno
    by_cases hlt : i < tab.size
    · by_cases heq : tab.extract i (i + 1) = part
      · have hq := beq_yes heq
        go_wp2_with fail
        go_returns
        exact ⟨i, rfl, rfl, .inr ⟨i, rfl, hlt, heq⟩⟩
      · have hq := beq_no heq
        go_wp2_with fail
        go_roundw
        case rel =>
          refine ⟨i + 1, by push_cast; rfl, by omega, fun j hj => ?_, rfl⟩
          by_cases hji : j = i
          · rw [hji]; exact heq
          · exact HNO.out j (by omega)
        case measure => simp [intOf]; omega
    · go_wp2_with fail
      go_returns
      exact ⟨-1, rfl, rfl, .inl ⟨rfl, fun j hj => HNO.out j (by omega)⟩⟩
theorem runes_shape (s : ByteArray) : ∀ (bound i : Nat) (acc : Array Value), (∃ zs : List Int, acc.toList = zs.map (Value.int .i32)) → ∃ zs : List Int, (Conv.runesFrom s bound i acc).toList = zs.map (Value.int .i32)
  | 0, _, acc, h => by unfold Conv.runesFrom; exact h
  | bound + 1, i, acc, h => by
    unfold Conv.runesFrom
    split
    · refine runes_shape s bound _ _ ?_
      obtain ⟨zs, hz⟩ := h
      exact ⟨zs ++ [Int.ofNat (Utf8.decode s i).1], by rw [Array.toList_push, hz, List.map_append]; rfl⟩
    · exact h
def CleanEnd (w : World) (e : Ending) (w' : World) : Prop := ∃ b : Bool, e = .returned (.bool b) ∧ Below w.heap.size w w'
set_option maxHeartbeats 2000000 in
theorem clean_any (s : ByteArray) (hs : s.size ≤ 70368744177664) (w : World) : Calls Tryz.prog 47 #[.string s] w (CleanEnd w) := by
  have h1 := run_runes_of_string (P := Tryz.prog) w 9 124 21 s Tryz.underlying9 Tryz.underlying124 Tryz.underlying21 (by have := size_runesFrom s s.size 0 #[]; simp at this; omega)
  obtain ⟨zs, hz⟩ := runes_shape s s.size 0 #[] ⟨[], rfl⟩
  have hzl : (Conv.runesFrom s s.size 0 #[]).size = zs.length := by rw [← Array.length_toList, hz, List.length_map]
  obtain ⟨R, hR⟩ : ∃ R, Conv.runesFrom s s.size 0 #[] = R := ⟨_, rfl⟩
  rw [hR] at h1 hz hzl
  obtain ⟨c, hc⟩ : ∃ c, grownCap w R.size 0 21 = c := ⟨_, rfl⟩
  rw [hc] at h1
  obtain ⟨W, hW⟩ : ∃ W, w.drew.alloc (.cells (R ++ Array.replicate (c - R.size) (.int .i32 0)) 21) = W := ⟨_, rfl⟩
  have B1 : Below w.heap.size w W := hW ▸ ((Below.refl _ w).drew.alloc (Nat.le_refl _) _)
  have h2 := run_convert_runes (P := Tryz.prog) W 124 9 21 ⟨w.heap.size, 0, none⟩ R.size c zs (by omega) Tryz.underlying124 Tryz.underlying21 Tryz.underlying9 (fun j hj => by
    have hb : W.heap[w.heap.size]? = some (.cells (R ++ Array.replicate (c - R.size) (.int .i32 0)) 21 (0, 0)) := hW ▸ block_new w.drew _ _
    have e : (⟨w.heap.size, 0, none⟩ : Addr).add j = ⟨w.heap.size, j, none⟩ := by rw [Lib.addr_add, Nat.zero_add]
    rw [e]
    refine cell_of hb j ?_
    rw [Array.getElem?_append_left (by omega), ← Array.getElem?_toList, hz, List.getElem?_map, List.getElem?_eq_getElem hj]
    simp [List.getD, List.getElem?_eq_getElem hj])
  rw [hW] at h1
  obtain ⟨o, ho⟩ : ∃ o, runesBytes (zs.take R.size) = o := ⟨_, rfl⟩
  rw [ho] at h2
  obtain ⟨m, hm⟩ : ∃ m, R.size = m := ⟨_, rfl⟩
  rw [hm] at h1 h2
  clear hz hzl hR hc hW ho hm
  obtain ⟨b, hb⟩ : ∃ b, (o.toList == s.toList) = b := ⟨_, rfl⟩
  go_enter Tryz.func47, Tryz.ntmps47
  go_wp2_with fail
  go_returns
  exact ⟨b, rfl, B1⟩
end Go.Proofs.YtgjmgneppecfgaaGreatDoor.Pa
namespace Go.Proofs.YtgjmgneppecfgaaGreatDoor.Pa
open Go.RowKit Go.Proofs.YtgjmgneppecfgaaGreatDoor.Va Go.Proofs.YtgjmgneppecfgaaGreatDoor.Ba Go.Proofs.YtgjmgneppecfgaaGreatDoor.Ma
set_option linter.unusedVariables false
set_option linter.unusedSimpArgs false

theorem escL_append (a b : List Nat) : escL (a ++ b) = escL a ++ escL b := by unfold escL; rw [List.flatMap_append]
theorem escL_cons (c : Nat) (l : List Nat) : escL (c :: l) = escB c ++ escL l := by unfold escL; rw [List.flatMap_cons]
/-- where the reader stands behind i bytes -/
def posT (A : Nat) (T : List Nat) (i : Nat) : Nat := A + 1 + (escL (T.take i)).length
theorem at_i {B T R : List Nat} {A : Nat} (h : B.drop A = Ma.encStr T ++ R) (i : Nat) : B.drop (posT A T i) = escL (T.drop i) ++ 34 :: R := by
  unfold posT
  have e : escL T = escL (T.take i) ++ escL (T.drop i) := by rw [← escL_append, List.take_append_drop]
  have h2 : B.drop (A + 1) = escL (T.take i) ++ (escL (T.drop i) ++ 34 :: R) := by
    rw [← List.drop_drop, h]
    unfold Ma.encStr
    rw [List.cons_append, List.drop_succ_cons, List.drop_zero, e]
    simp
  rw [← List.drop_drop, h2, List.drop_left]
theorem at_next {B T R : List Nat} {A : Nat} (h : B.drop A = Ma.encStr T ++ R) (i : Nat) (hi : i < T.length) : B.drop (posT A T i) = escB T[i] ++ (escL (T.drop (i + 1)) ++ 34 :: R) ∧ posT A T (i + 1) = posT A T i + (escB T[i]).length := by
  constructor
  · rw [at_i h, List.drop_eq_getElem_cons hi, escL_cons, List.append_assoc]
  · unfold posT
    rw [List.take_succ_eq_append_getElem hi, escL_append, escL_cons, List.length_append]
    simp [escL]
    omega
end Go.Proofs.YtgjmgneppecfgaaGreatDoor.Pa
namespace Go.Proofs.YtgjmgneppecfgaaGreatDoor.Fo
open Go.RowKit Go.Proofs.YtgjmgneppecfgaaGreatDoor.Va Go.Proofs.YtgjmgneppecfgaaGreatDoor.Ba Go.Proofs.YtgjmgneppecfgaaGreatDoor.Ma Go.Proofs.YtgjmgneppecfgaaGreatDoor.Pa
set_option linter.unusedVariables false
set_option linter.unusedSimpArgs false

theorem bytesN_app' (a b : ByteArray) : bytesN (a ++ b) = bytesN a ++ bytesN b := by
  unfold bytesN
  rw [← List.map_append]
  congr 1
theorem app_num (s : ByteArray) (l : List Nat) (hl : ∀ x ∈ l, x < 256) {t : ByteArray} (ht : bytesN t = l) (k : List Nat) (hs : s = numS k) (hk : ∀ x ∈ k, x < 256) : s ++ t = numS (k ++ l) := by
  apply bytes_inj
  rw [bytesN_app', hs, bytesN_numS' k hk, ht, bytesN_numS' (k ++ l) (fun x hx => by rcases List.mem_append.1 hx with h | h; exact hk x h; exact hl x h)]
def FigEnd (B : Nat) (h : Int) (w : World) (e : Ending) (w' : World) : Prop := ∃ (s : ByteArray) (how : Int), e = .returned (.tuple #[.string s, .int .i64 how]) ∧ w = w' ∧ s.size ≤ B ∧ (how = 2 ∨ (how = 0 ∧ s = numS (numJ h)))
set_option maxHeartbeats 2000000 in
theorem figures_pos (n : Nat) (hn : n ≤ 18014398509481984) (w : World) : Calls Tryz.prog 122 #[.int .i64 (n : Int)] w (FigEnd 50 (n : Int) w) := by
  have e1 : ((n : Int)).natAbs = n := by omega
  have HJ : Hid (numJ (n : Int) = digs (n / 2) ++ (if n % 2 = 0 then [] else [46, 53])) := Lib.hid (by
    unfold numJ
    rw [if_neg (by omega), List.nil_append, e1]
    congr 1
    by_cases c : n % 2 = 0
    · rw [if_pos c, if_pos (by omega)]
    · rw [if_neg c, if_neg (by omega)])
  have HDL : Hid ((numS (digs (n / 2))).size ≤ 20) := Lib.hid (by rw [numS_size]; exact digs_len (by omega))
  clear e1
  by_cases hbig : n / 2 > 1000000000000000
  · have hb' : (1000000000000000 : Int) < (n : Int) / 2 := by omega
    go_enter Tryz.func122, Tryz.ntmps122
    go_wp2_with fail
    go_returns
    exact ⟨⟨#[]⟩, 2, rfl, rfl, by decide, .inl rfl⟩
  · have hb' : ¬ (1000000000000000 : Int) < (n : Int) / 2 := by omega
    have HD : Hid (∀ W, Calls Tryz.prog 170 #[.int .i64 ((n : Int) / 2)] W (RetS (numS (digs (n / 2))) W)) := Lib.hid (fun W => digits_any (n / 2) (by omega) W)
    obtain ⟨ds, hds⟩ : ∃ ds, numS (digs (n / 2)) = ds := ⟨_, rfl⟩
    have HDS := Lib.hid hds
    rw [hds] at HDL HD
    have hsz := HDL.out
    clear hds hbig
    by_cases hev : n % 2 = 0
    · have he : (n : Int) % 2 = 0 := by omega
      have HE := Lib.hid hev
      clear hev
      go_enter Tryz.func122, Tryz.ntmps122
      go_wp2_with fail
      refine (HD.out w).mono ?_
      rintro e w1 ⟨rfl, rfl⟩
      go_wp2_with fail
      go_returns
      exact ⟨ds, 0, rfl, rfl, by omega, .inr ⟨rfl, by rw [HJ.out, if_pos HE.out, List.append_nil, HDS.out]⟩⟩
    · have he : (n : Int) % 2 = 1 := by omega
      have HE := Lib.hid hev
      have hadd : ds.size + (⟨#[46, 53]⟩ : ByteArray).size ≤ 140737488355328 := by show ds.size + 2 ≤ _; omega
      clear hev
      go_enter Tryz.func122, Tryz.ntmps122
      go_wp2_with fail
      refine (HD.out w).mono ?_
      rintro e w1 ⟨rfl, rfl⟩
      go_wp2_with fail
      go_returns
      refine ⟨ds ++ ⟨#[46, 53]⟩, 0, rfl, rfl, by rw [ByteArray.size_append]; show ds.size + 2 ≤ _; omega, .inr ⟨rfl, ?_⟩⟩
      rw [HJ.out, if_neg HE.out]
      exact app_num ds [46, 53] (by decide) rfl _ HDS.out.symm (fun x hx => by have := digs_range _ x hx; omega)
set_option maxHeartbeats 2000000 in
theorem figures_any (h : Int) (hlo : -18014398509481984 ≤ h) (hhi : h ≤ 18014398509481984) (w : World) : Calls Tryz.prog 122 #[.int .i64 h] w (FigEnd 100 h w) := by
  by_cases hn : h < 0
  · obtain ⟨m, hm⟩ : ∃ m : Nat, -h = (m : Int) := ⟨h.natAbs, by omega⟩
    have HF := Lib.hid (fun W => figures_pos m (by omega) W)
    have HJ : Hid (numJ h = 45 :: numJ (m : Int)) := Lib.hid (by
      unfold numJ
      have a1 : ¬ (m : Int) < 0 := by omega
      rw [if_pos hn, if_neg a1, List.nil_append, show ((m : Int)).natAbs = h.natAbs by omega]
      by_cases c : h % 2 = 0
      · have c2 : (m : Int) % 2 = 0 := by omega
        rw [if_pos c, if_pos c2]; rfl
      · have c2 : ¬ (m : Int) % 2 = 0 := by omega
        rw [if_neg c, if_neg c2]; rfl)
    have h1 : ¬ h < -1152921504606846976 := by omega
    have h2 : ¬ 1152921504606846976 < h := by omega
    go_enter Tryz.func122, Tryz.ntmps122
    go_wp2_with fail
    refine (HF.out w).mono ?_
    rintro e w1 ⟨s, how, rfl, rfl, hs, hhow⟩
    have hadd : (⟨#[45]⟩ : ByteArray).size + s.size ≤ 140737488355328 := by show 1 + s.size ≤ _; omega
    have HH := Lib.hid hhow
    clear hhow
    go_wp2_with fail
    go_returns
    have hlt : ∀ x ∈ numJ (m : Int), x < 256 := fun x hx => by
      unfold numJ at hx
      rcases List.mem_append.1 hx with hx | hx
      · split at hx <;> simp at hx; omega
      · rcases List.mem_append.1 hx with hx | hx
        · have := digs_range _ x hx; omega
        · split at hx
          · cases hx
          · simp at hx; omega
    refine ⟨⟨#[45]⟩ ++ s, how, rfl, rfl, ?_, ?_⟩
    · rw [ByteArray.size_append]
      show 1 + s.size ≤ _
      omega
    · rcases HH.out with e | ⟨e, e2⟩
      · exact .inl e
      · refine .inr ⟨e, ?_⟩
        rw [HJ.out]
        exact app_num ⟨#[45]⟩ (numJ (m : Int)) hlt (by rw [e2]; exact bytesN_numS' _ hlt) [45] rfl (by decide)
  · obtain ⟨m, rfl⟩ : ∃ m : Nat, h = (m : Int) := ⟨h.natAbs, by omega⟩
    refine (figures_pos m (by omega) w).mono ?_
    rintro e w1 ⟨s, how, h1, h2, h3, h4⟩
    exact ⟨s, how, h1, h2, by omega, h4⟩
/-- what quoted leaves -/
def QuotEnd (t : ByteArray) (w : World) (e : Ending) (w' : World) : Prop := ∃ (s : ByteArray) (how : Int), e = .returned (.tuple #[.string s, .int .i64 how]) ∧ (∃ n, w' = w.drewN n) ∧ s.size ≤ 6 * t.size + 2 ∧ (how = 2 ∨ (how = 0 ∧ s = numS (Ma.encStr (bytesN t))))
def LoopQ (t : ByteArray) (w : World) (ov iv : Value) (wr : World) : Prop := ∃ (i : Nat) (o : ByteArray), ov = .string o ∧ iv = .int .i64 (i : Int) ∧ i ≤ t.size ∧ o = numS (34 :: escL ((bytesN t).take i)) ∧ o.size ≤ 6 * i + 1 ∧ ∃ n, wr = w.drewN n
theorem quot_next {t : ByteArray} {i c : Nat} (hi : i < t.size) (hc : (bytesN t)[i]'(by rw [bytesN_len]; exact hi) = c) {o p : ByteArray} (ho : o = numS (34 :: escL ((bytesN t).take i))) (hp : bytesN p = escB c) : o ++ p = numS (34 :: escL ((bytesN t).take (i + 1))) := by
  have h256 := bytesN_lt t
  have hc256 : c < 256 := by rw [← hc]; exact h256 _ (List.getElem_mem _)
  have h1 : ∀ x ∈ escL ((bytesN t).take i), x < 256 := escL_lt (fun x hx => h256 x (List.mem_of_mem_take hx))
  have e : escL ((bytesN t).take (i + 1)) = escL ((bytesN t).take i) ++ escB c := by
    rw [List.take_succ_eq_append_getElem (by rw [bytesN_len]; exact hi), escL_append, escL_cons, hc]
    simp [escL]
  rw [e, ← List.cons_append]
  exact app_num o (escB c) (escB_lt hc256) hp _ ho (fun x hx => by
    rcases List.mem_cons.1 hx with rfl | hx
    · omega
    · exact h1 x hx)
theorem escB_of (c : Nat) : (c = 34 ∧ escB c = [92, 34]) ∨ (c = 92 ∧ escB c = [92, 92]) ∨ (c = 10 ∧ escB c = [92, 110]) ∨ (c = 9 ∧ escB c = [92, 116]) ∨ (c = 13 ∧ escB c = [92, 114]) ∨ (c = 8 ∧ escB c = [92, 98]) ∨ (c = 12 ∧ escB c = [92, 102]) ∨
    (c < 32 ∧ c ≠ 10 ∧ c ≠ 9 ∧ c ≠ 13 ∧ c ≠ 8 ∧ c ≠ 12 ∧ escB c = [92, 117, 48, 48, hexd (c / 16), hexd (c % 16)]) ∨ c = 127 ∨ (32 ≤ c ∧ c ≠ 34 ∧ c ≠ 92 ∧ c ≠ 127 ∧ escB c = [c]) := by
  have hpl : plainB c = true ↔ ((32 ≤ c ∧ c ≤ 126 ∧ c ≠ 34 ∧ c ≠ 92) ∨ 128 ≤ c) := by
    unfold plainB
    simp
    omega
  unfold escB
  by_cases h1 : c = 34
  · subst h1; exact .inl ⟨rfl, rfl⟩
  by_cases h2 : c = 92
  · subst h2; exact .inr (.inl ⟨rfl, rfl⟩)
  by_cases h3 : c = 10
  · subst h3; exact .inr (.inr (.inl ⟨rfl, rfl⟩))
  by_cases h4 : c = 9
  · subst h4; exact .inr (.inr (.inr (.inl ⟨rfl, rfl⟩)))
  by_cases h5 : c = 13
  · subst h5; exact .inr (.inr (.inr (.inr (.inl ⟨rfl, rfl⟩))))
  by_cases h6 : c = 8
  · subst h6; exact .inr (.inr (.inr (.inr (.inr (.inl ⟨rfl, rfl⟩)))))
  by_cases h7 : c = 12
  · subst h7; exact .inr (.inr (.inr (.inr (.inr (.inr (.inl ⟨rfl, rfl⟩))))))
  by_cases h8 : c = 127
  · exact .inr (.inr (.inr (.inr (.inr (.inr (.inr (.inr (.inl h8))))))))
  by_cases h9 : c < 32
  · refine .inr (.inr (.inr (.inr (.inr (.inr (.inr (.inl ⟨h9, h3, h4, h5, h6, h7, ?_⟩)))))))
    have hnp : ¬ plainB c = true := by rw [hpl]; omega
    rw [if_neg hnp, if_neg h1, if_neg h2, if_neg h6, if_neg h7, if_neg h3, if_neg h5, if_neg h4]
  · refine .inr (.inr (.inr (.inr (.inr (.inr (.inr (.inr (.inr ⟨by omega, h1, h2, h8, ?_⟩))))))))
    have hp : plainB c = true := by rw [hpl]; omega
    rw [if_pos hp]
end Go.Proofs.YtgjmgneppecfgaaGreatDoor.Fo
namespace Go.Proofs.YtgjmgneppecfgaaGreatDoor.Fo
open Go.RowKit Go.Proofs.YtgjmgneppecfgaaGreatDoor.Va Go.Proofs.YtgjmgneppecfgaaGreatDoor.Ba Go.Proofs.YtgjmgneppecfgaaGreatDoor.Ma Go.Proofs.YtgjmgneppecfgaaGreatDoor.Pa
set_option linter.unusedVariables false
set_option linter.unusedSimpArgs false

def hexS : ByteArray := ⟨#[48, 49, 50, 51, 52, 53, 54, 55, 56, 57, 97, 98, 99, 100, 101, 102]⟩
theorem hex_at (q : Nat) (h : q < 16) : bytesN (hexS.extract q (q + 1)) = [hexd q] := by
  rw [Mb.bytesN_extract2]
  rcases (show q = 0 ∨ q = 1 ∨ q = 2 ∨ q = 3 ∨ q = 4 ∨ q = 5 ∨ q = 6 ∨ q = 7 ∨ q = 8 ∨ q = 9 ∨ q = 10 ∨ q = 11 ∨ q = 12 ∨ q = 13 ∨ q = 14 ∨ q = 15 by omega) with rfl | rfl | rfl | rfl | rfl | rfl | rfl | rfl | rfl | rfl | rfl | rfl | rfl | rfl | rfl | rfl <;> rfl
set_option maxHeartbeats 4000000 in
set_option maxRecDepth 100000 in
theorem quoted_any (t : ByteArray) (ht : t.size ≤ 2147483647) (w : World) : Calls Tryz.prog 123 #[.string t] w (QuotEnd t w) := by
  go_enter Tryz.func123, Tryz.ntmps123
  go_wp2_with fail
  go_loopw [4, 5] (LoopQ t w) (fun _ iv _ => t.size - (intOf iv).toNat)
  case atStart => exact ⟨0, ⟨#[34]⟩, rfl, rfl, Nat.zero_le _, rfl, by decide, 0, rfl⟩
  case round =>
    obtain ⟨i, o, rfl, rfl, hi, ho, hosz, n0, rfl⟩ := hrel
    have HO := Lib.hid ho
    have HSZ := Lib.hid hosz
    clear ho
    by_cases hlt : i < t.size
    · obtain ⟨c, hc⟩ : ∃ c, (bytesN t)[i]'(by rw [bytesN_len]; exact hlt) = c := ⟨_, rfl⟩
      have HC := Lib.hid hc
      have hbc : (t[i]'hlt).toNat = c := by rw [Ba.byte_at t i hlt, ← hc, List.getD, List.getElem?_eq_getElem (by rw [bytesN_len]; exact hlt)]; rfl
      have hc256 : c < 256 := by rw [← hc]; exact bytesN_lt t _ (List.getElem_mem _)
      clear hc
      rcases escB_of c with ⟨rfl, he⟩ | ⟨rfl, he⟩ | ⟨rfl, he⟩ | ⟨rfl, he⟩ | ⟨rfl, he⟩ | ⟨rfl, he⟩ | ⟨rfl, he⟩ | ⟨h32, h10, h9, h13, h8, h12, he⟩ | rfl | ⟨h32, h34, h92, h127, he⟩
      · have HE := Lib.hid he
        have henc : Utf8.encode 34 = numS [34] := encode_small 34 (by omega)
        have a1 : (⟨#[92]⟩ : ByteArray).size + (numS [34]).size ≤ 140737488355328 := by decide
        have a2 : o.size + ((⟨#[92]⟩ : ByteArray) ++ numS [34]).size ≤ 140737488355328 := by rw [ByteArray.size_append]; show o.size + 2 ≤ _; omega
        clear he
        go_wp2_with fail
        (go_roundw
         case rel => exact ⟨i + 1, o ++ ((⟨#[92]⟩ : ByteArray) ++ numS [34]), rfl, by push_cast; rfl, hlt, quot_next hlt HC.out HO.out (by rw [HE.out]; rfl), by rw [ByteArray.size_append]; have := HSZ.out; show o.size + 2 ≤ _; omega, _, rfl⟩
         case measure => simp [intOf]; omega)
      · have HE := Lib.hid he
        have henc : Utf8.encode 92 = numS [92] := encode_small 92 (by omega)
        have a1 : (⟨#[92]⟩ : ByteArray).size + (numS [92]).size ≤ 140737488355328 := by decide
        have a2 : o.size + ((⟨#[92]⟩ : ByteArray) ++ numS [92]).size ≤ 140737488355328 := by rw [ByteArray.size_append]; show o.size + 2 ≤ _; omega
        clear he
        go_wp2_with fail
        (go_roundw
         case rel => exact ⟨i + 1, o ++ ((⟨#[92]⟩ : ByteArray) ++ numS [92]), rfl, by push_cast; rfl, hlt, quot_next hlt HC.out HO.out (by rw [HE.out]; rfl), by rw [ByteArray.size_append]; have := HSZ.out; show o.size + 2 ≤ _; omega, _, rfl⟩
         case measure => simp [intOf]; omega)
      · have HE := Lib.hid he
        have a2 : o.size + (⟨#[92, 110]⟩ : ByteArray).size ≤ 140737488355328 := by show o.size + 2 ≤ _; omega
        clear he
        go_wp2_with fail
        (go_roundw
         case rel => exact ⟨i + 1, o ++ (⟨#[92, 110]⟩ : ByteArray), rfl, by push_cast; rfl, hlt, quot_next hlt HC.out HO.out (by rw [HE.out]; rfl), by rw [ByteArray.size_append]; have := HSZ.out; show o.size + 2 ≤ _; omega, _, rfl⟩
         case measure => simp [intOf]; omega)
      · have HE := Lib.hid he
        have a2 : o.size + (⟨#[92, 116]⟩ : ByteArray).size ≤ 140737488355328 := by show o.size + 2 ≤ _; omega
        clear he
        go_wp2_with fail
        (go_roundw
         case rel => exact ⟨i + 1, o ++ (⟨#[92, 116]⟩ : ByteArray), rfl, by push_cast; rfl, hlt, quot_next hlt HC.out HO.out (by rw [HE.out]; rfl), by rw [ByteArray.size_append]; have := HSZ.out; show o.size + 2 ≤ _; omega, _, rfl⟩
         case measure => simp [intOf]; omega)
      · have HE := Lib.hid he
        have a2 : o.size + (⟨#[92, 114]⟩ : ByteArray).size ≤ 140737488355328 := by show o.size + 2 ≤ _; omega
        clear he
        go_wp2_with fail
        (go_roundw
         case rel => exact ⟨i + 1, o ++ (⟨#[92, 114]⟩ : ByteArray), rfl, by push_cast; rfl, hlt, quot_next hlt HC.out HO.out (by rw [HE.out]; rfl), by rw [ByteArray.size_append]; have := HSZ.out; show o.size + 2 ≤ _; omega, _, rfl⟩
         case measure => simp [intOf]; omega)
      · have HE := Lib.hid he
        have a2 : o.size + (⟨#[92, 98]⟩ : ByteArray).size ≤ 140737488355328 := by show o.size + 2 ≤ _; omega
        clear he
        go_wp2_with fail
        (go_roundw
         case rel => exact ⟨i + 1, o ++ (⟨#[92, 98]⟩ : ByteArray), rfl, by push_cast; rfl, hlt, quot_next hlt HC.out HO.out (by rw [HE.out]; rfl), by rw [ByteArray.size_append]; have := HSZ.out; show o.size + 2 ≤ _; omega, _, rfl⟩
         case measure => simp [intOf]; omega)
      · have HE := Lib.hid he
        have a2 : o.size + (⟨#[92, 102]⟩ : ByteArray).size ≤ 140737488355328 := by show o.size + 2 ≤ _; omega
        clear he
        go_wp2_with fail
        (go_roundw
         case rel => exact ⟨i + 1, o ++ (⟨#[92, 102]⟩ : ByteArray), rfl, by push_cast; rfl, hlt, quot_next hlt HC.out HO.out (by rw [HE.out]; rfl), by rw [ByteArray.size_append]; have := HSZ.out; show o.size + 2 ≤ _; omega, _, rfl⟩
         case measure => simp [intOf]; omega)
      · have HE := Lib.hid he
        obtain ⟨q, hq⟩ : ∃ q, c / 16 = q := ⟨_, rfl⟩
        obtain ⟨r, hr⟩ : ∃ r, c % 16 = r := ⟨_, rfl⟩
        have hq16 : q < 16 := by omega
        have hr16 : r < 16 := by omega
        have d1 : (c : Int) / 16 = (q : Int) := by omega
        have d2 : (c : Int) % 16 = (r : Int) := by omega
        have d3 : (c : Int).tdiv 16 = (q : Int) := by rw [Int.tdiv_eq_ediv_of_nonneg (by omega)]; omega
        have d4 : (c : Int).tmod 16 = (r : Int) := by rw [Int.tmod_eq_emod_of_nonneg (by omega)]; omega
        have d5 : IntKind.u8.wrap ((q : Int) + 1) = (q : Int) + 1 := IntWalk.u8_in _ (by omega)
        have d6 : IntKind.u8.wrap ((r : Int) + 1) = (r : Int) + 1 := IntWalk.u8_in _ (by omega)
        obtain ⟨x1, hx1⟩ : ∃ x1, hexS.extract q (q + 1) = x1 := ⟨_, rfl⟩
        obtain ⟨x2, hx2⟩ : ∃ x2, hexS.extract r (r + 1) = x2 := ⟨_, rfl⟩
        have b1 : bytesN x1 = [hexd q] := by rw [← hx1]; exact hex_at q hq16
        have b2 : bytesN x2 = [hexd r] := by rw [← hx2]; exact hex_at r hr16
        have s1 : x1.size = 1 := by rw [← bytesN_len, b1]; rfl
        have s2 : x2.size = 1 := by rw [← bytesN_len, b2]; rfl
        have a1 : (⟨#[92, 117, 48, 48]⟩ : ByteArray).size + x1.size ≤ 140737488355328 := by show 4 + x1.size ≤ _; omega
        have z1 : ((⟨#[92, 117, 48, 48]⟩ : ByteArray) ++ x1).size = 5 := by rw [ByteArray.size_append, s1]; rfl
        have a2 : ((⟨#[92, 117, 48, 48]⟩ : ByteArray) ++ x1).size + x2.size ≤ 140737488355328 := by rw [z1, s2]; omega
        have z2 : (((⟨#[92, 117, 48, 48]⟩ : ByteArray) ++ x1) ++ x2).size = 6 := by rw [ByteArray.size_append, z1, s2]
        have a3 : o.size + (((⟨#[92, 117, 48, 48]⟩ : ByteArray) ++ x1) ++ x2).size ≤ 140737488355328 := by rw [z2]; omega
        have HP : Hid (bytesN (((⟨#[92, 117, 48, 48]⟩ : ByteArray) ++ x1) ++ x2) = escB c) := Lib.hid (by rw [bytesN_app', bytesN_app', b1, b2, he, hq, hr]; rfl)
        have Z2 := Lib.hid z2
        have e34 : ((c : Int) == 34) = false := by simp; omega
        have e92 : ((c : Int) == 92) = false := by simp; omega
        have e10 : ((c : Int) == 10) = false := by simp; omega
        have e9 : ((c : Int) == 9) = false := by simp; omega
        have e13 : ((c : Int) == 13) = false := by simp; omega
        have e8 : ((c : Int) == 8) = false := by simp; omega
        have e12 : ((c : Int) == 12) = false := by simp; omega
        have l32 : (c : Int) < 32 := by omega
        have g1 : (0 : Int) ≤ (q : Int) := by omega
        have g2 : (q : Int) ≤ (q : Int) + 1 := by omega
        have g3 : (q : Int) + 1 ≤ 16 := by omega
        have g4 : (0 : Int) ≤ (r : Int) := by omega
        have g5 : (r : Int) ≤ (r : Int) + 1 := by omega
        have g6 : (r : Int) + 1 ≤ 16 := by omega
        have g7 : ((q : Int) + 1).toNat = q + 1 := by omega
        have g8 : ((r : Int) + 1).toNat = r + 1 := by omega
        unfold hexS at hx1 hx2
        clear he hq hr b1 b2 s1 s2 z1 z2 h10 h9 h13 h8 h12
        go_wp2_with fail
        go_quiet (fail)
        go_wp2_with fail
        go_roundw
        case rel => exact ⟨i + 1, o ++ (((⟨#[92, 117, 48, 48]⟩ : ByteArray) ++ x1) ++ x2), rfl, by push_cast; rfl, hlt, quot_next hlt HC.out HO.out HP.out, by rw [ByteArray.size_append, Z2.out]; have := HSZ.out; omega, _, rfl⟩
        case measure => simp [intOf]; omega
      · go_wp2_with fail
        go_returns
        exact ⟨⟨#[]⟩, 2, rfl, ⟨_, rfl⟩, by show 0 ≤ _; omega, .inl rfl⟩
      · have HE := Lib.hid he
        obtain ⟨x1, hx1⟩ : ∃ x1, t.extract i (i + 1) = x1 := ⟨_, rfl⟩
        have b1 : bytesN x1 = [c] := by
          rw [← hx1, Mb.bytesN_extract2, List.drop_take, show i + 1 - i = 1 by omega, List.drop_eq_getElem_cons (by rw [bytesN_len]; exact hlt), HC.out]
          rfl
        have s1 : x1.size = 1 := by rw [← bytesN_len, b1]; rfl
        have a1 : o.size + x1.size ≤ 140737488355328 := by omega
        have HP : Hid (bytesN x1 = escB c) := Lib.hid (by rw [b1, he])
        have S1 := Lib.hid s1
        have e34 : ((c : Int) == 34) = false := by simp; omega
        have e92 : ((c : Int) == 92) = false := by simp; omega
        have e10 : ((c : Int) == 10) = false := by simp; omega
        have e9 : ((c : Int) == 9) = false := by simp; omega
        have e13 : ((c : Int) == 13) = false := by simp; omega
        have e8 : ((c : Int) == 8) = false := by simp; omega
        have e12 : ((c : Int) == 12) = false := by simp; omega
        have e127 : ((c : Int) == 127) = false := by simp; omega
        have l32 : ¬ (c : Int) < 32 := by omega
        clear he b1 s1
        go_wp2_with fail
        go_roundw
        case rel => exact ⟨i + 1, o ++ x1, rfl, by push_cast; rfl, hlt, quot_next hlt HC.out HO.out HP.out, by rw [ByteArray.size_append, S1.out]; have := HSZ.out; omega, _, rfl⟩
        case measure => simp [intOf]; omega
    · obtain rfl : i = t.size := by omega
      have a2 : o.size + (⟨#[34]⟩ : ByteArray).size ≤ 140737488355328 := by show o.size + 1 ≤ _; omega
      go_wp2_with fail
      go_returns
      refine ⟨o ++ ⟨#[34]⟩, 0, rfl, ⟨_, rfl⟩, by rw [ByteArray.size_append]; show o.size + 1 ≤ _; omega, .inr ⟨rfl, ?_⟩⟩
      have h256 := bytesN_lt t
      have e : (bytesN t).take t.size = bytesN t := List.take_of_length_le (by rw [bytesN_len]; exact Nat.le_refl _)
      have := app_num o [34] (by decide) (t := ⟨#[34]⟩) rfl _ HO.out (fun x hx => by
        rcases List.mem_cons.1 hx with rfl | hx
        · omega
        · exact escL_lt (fun y hy => h256 y (List.mem_of_mem_take hy)) x hx)
      rw [this, e]
      rfl
end Go.Proofs.YtgjmgneppecfgaaGreatDoor.Fo
