/-
  THE WALKS of the parser's small parts: next, skip, take.
-/
import Derived.Test.YtgjmgneppecfgaaGreatDoorQVaL
import Derived.Test.YtgjmgneppecfgaaGreatDoorQ08
import Derived.Deep.QuietTactic
import Derived.Shelf.Unicode.DecodeAny
import Derived.Lib.ValidU
set_option linter.unusedVariables false
set_option linter.unusedSimpArgs false
namespace Go.Proofs.YtgjmgneppecfgaaGreatDoor.Pa
open Go.RowKit Go.Proofs.YtgjmgneppecfgaaGreatDoor.Va Go.Proofs.YtgjmgneppecfgaaGreatDoor.Ba Go.Proofs.YtgjmgneppecfgaaGreatDoor.Ma
set_option linter.unusedVariables false
set_option linter.unusedSimpArgs false

/-- the parser, in memory -/
def PB (L : Nat) (s : ByteArray) (A : Nat) (bad : Bool) (w : World) : Prop := w.heap[L]? = some (.cells #[.string s, .int .i64 (A : Int), .bool bad] 80 (0, 0))
theorem PB.cells {L : Nat} {s : ByteArray} {A : Nat} {bad : Bool} {w : World} (h : PB L s A bad w) :
    (w.cell? ⟨L, 0, none⟩ = some (.string s) ∧ w.cell? ⟨L, 1, none⟩ = some (.int .i64 (A : Int)) ∧ w.cell? ⟨L, 2, none⟩ = some (.bool bad)) ∧ w.frozen? ⟨L, 0, none⟩ = false ∧ w.frozen? ⟨L, 1, none⟩ = false ∧ w.frozen? ⟨L, 2, none⟩ = false := cells3 h
theorem PB.lt {L : Nat} {s : ByteArray} {A : Nat} {bad : Bool} {w : World} (h : PB L s A bad w) : L < w.heap.size := heap_lt h
theorem PB.set1 {L : Nat} {s : ByteArray} {A : Nat} {bad : Bool} {w : World} (h : PB L s A bad w) (q : Nat) : PB L s q bad (w.setCell ⟨L, 1, none⟩ (.int .i64 (q : Int))) := set_block h 1 _
theorem PB.set2 {L : Nat} {s : ByteArray} {A : Nat} {bad : Bool} {w : World} (h : PB L s A bad w) (q : Bool) : PB L s A q (w.setCell ⟨L, 2, none⟩ (.bool q)) := set_block h 2 _
theorem PB.drewN {L : Nat} {s : ByteArray} {A : Nat} {bad : Bool} {w : World} (h : PB L s A bad w) (n : Nat) : PB L s A bad (w.drewN n) := h
/-- the byte at a place, 0 behind the end -/
def byt (s : ByteArray) (A : Nat) : Nat := (bytesN s).getD A 0
def RetQ (v : Value) (w : World) (e : Ending) (w' : World) : Prop := e = .returned v ∧ ∃ n, w' = w.drewN n
set_option maxHeartbeats 1000000 in
theorem pnext_any {L : Nat} {s : ByteArray} {A : Nat} {bad : Bool} {w : World} (h : PB L s A bad w) : Calls Tryz.prog 94 #[.pointer (some ⟨L, 0, none⟩)] w (RetQ (.int .u8 (byt s A : Int)) w) := by
  have c := h.cells
  clear h
  by_cases hA : A < s.size
  · obtain ⟨x, hx⟩ : ∃ x, (s[A]'hA).toNat = x := ⟨_, rfl⟩
    have HX : Hid (byt s A = x) := Lib.hid (by unfold byt; rw [← Ba.byte_at s A hA, hx])
    rw [HX.out]
    go_enter Tryz.func94, Tryz.ntmps94
    go_wp2_with fail
    go_quiet (fail)
    go_wp2_with fail
    obtain ⟨n1, hn1⟩ : ∃ n1, nq = n1 := ⟨_, rfl⟩
    rw [hn1]
    go_quiet (fail)
    go_wp2_with fail
    go_returns
    exact ⟨rfl, _, World.drewN_drewN _ _ _⟩
  · have HX : Hid (byt s A = 0) := Lib.hid (by unfold byt; rw [List.getD, List.getElem?_eq_none (by rw [bytesN_len]; omega)]; rfl)
    rw [HX.out]
    go_enter Tryz.func94, Tryz.ntmps94
    go_wp2_with fail
    go_quiet (fail)
    go_wp2_with fail
    go_returns
    exact ⟨rfl, nq, rfl⟩
/-- a blank -/
def blank (c : Nat) : Bool := c == 32 || c == 9 || c == 10 || c == 13
def Skipped (L : Nat) (s : ByteArray) (A : Nat) (bad : Bool) (w : World) (e : Ending) (w' : World) : Prop :=
  e = .returned (.tuple #[]) ∧ ∃ A' : Nat, A ≤ A' ∧ (A' ≤ s.size ∨ A' = A) ∧ (blank (byt s A) = false → A' = A) ∧ PB L s A' bad w' ∧ w.grownBy w' (some L)
theorem gr_ds {w : World} (n L j : Nat) (v : Value) : w.grownBy ((w.drewN n).setCell ⟨L, j, none⟩ v) (some L) := gr_trans (b := w.drewN n) ⟨rfl, rfl, rfl, Nat.le_refl _, fun _ _ _ => rfl⟩ (Va.gr_set (w.drewN n) L j v)
def LoopS (L : Nat) (s : ByteArray) (A : Nat) (bad : Bool) (w : World) (gh : Nat) (wr : World) : Prop :=
  ∃ A' : Nat, gh = s.size + 2 - A' ∧ A ≤ A' ∧ (A' ≤ s.size ∨ A' = A) ∧ (blank (byt s A) = false → A' = A) ∧ PB L s A' bad wr ∧ w.grownBy wr (some L)
theorem byt_lt {s : ByteArray} {A : Nat} (h : byt s A ≠ 0) : A < s.size := by
  apply Decidable.byContradiction
  intro q
  refine h ?_
  unfold byt
  rw [List.getD, List.getElem?_eq_none (by rw [bytesN_len]; omega)]
  rfl
set_option maxHeartbeats 2000000 in
theorem pskip_any {L : Nat} {s : ByteArray} {A : Nat} {bad : Bool} {w : World} (h : PB L s A bad w) (hs : s.size ≤ 140737488355328) (hA : A ≤ s.size + 1) : Calls Tryz.prog 46 #[.pointer (some ⟨L, 0, none⟩)] w (Skipped L s A bad w) := by
  have H := Lib.hid h
  clear h
  go_enter Tryz.func46, Tryz.ntmps46
  go_wp2_with fail
  go_loopg [] (s.size + 2 - A) (fun gh wr => LoopS L s A bad w gh wr)
  case atStart => exact ⟨A, rfl, Nat.le_refl _, .inr rfl, fun _ => rfl, H.out, gr_refl _ _⟩
  case round =>
    obtain ⟨A', rfl, h1, h2, h3, h4, h5⟩ := hrel
    have HP := Lib.hid h4
    have HG := Lib.hid h5
    have HK := Lib.hid h3
    clear h4 h5 h3
    obtain ⟨c, hc⟩ : ∃ c, byt s A' = c := ⟨_, rfl⟩
    have HC := Lib.hid hc
    have HN : Hid (∀ W, PB L s A' bad W → Calls Tryz.prog 94 #[.pointer (some ⟨L, 0, none⟩)] W (RetQ (.int .u8 (c : Int)) W)) := Lib.hid (fun W hW => by rw [← hc]; exact pnext_any hW)
    clear hc
    by_cases c32 : c = 32
    · subst c32
      (go_wp2_with fail
       refine Calls.mono (HN.out _ ?_) ?_
       focus exact HP.out
       rintro e _ ⟨rfl, _, rfl⟩
       skip)
      (have hlt : A' < s.size := byt_lt (by rw [HC.out]; omega)
       have c1 := HP.out.cells
       go_wp2_with fail
       go_roundg (s.size + 2 - (A' + 1))
       case rel => exact ⟨A' + 1, rfl, by omega, .inl (by omega), fun q => (by have := HK.out q; subst this; rw [HC.out] at q; exact absurd q (by decide)), (HP.out.set1 (A' + 1) : _), gr_trans HG.out (gr_ds _ _ _ _)⟩
       case measure => simp; omega)
    have q32 : ((c : Int) == 32) = false := by simp; omega
    by_cases c9 : c = 9
    · subst c9
      (go_wp2_with fail
       refine Calls.mono (HN.out _ ?_) ?_
       focus exact HP.out
       rintro e _ ⟨rfl, _, rfl⟩
       skip)
      (go_wp2_with fail
       refine Calls.mono (HN.out _ ?_) ?_
       focus exact HP.out
       rintro e _ ⟨rfl, _, rfl⟩
       skip)
      (have hlt : A' < s.size := byt_lt (by rw [HC.out]; omega)
       have c1 := HP.out.cells
       go_wp2_with fail
       go_roundg (s.size + 2 - (A' + 1))
       case rel => exact ⟨A' + 1, rfl, by omega, .inl (by omega), fun q => (by have := HK.out q; subst this; rw [HC.out] at q; exact absurd q (by decide)), (HP.out.set1 (A' + 1) : _), gr_trans HG.out (gr_ds _ _ _ _)⟩
       case measure => simp; omega)
    have q9 : ((c : Int) == 9) = false := by simp; omega
    by_cases c10 : c = 10
    · subst c10
      (go_wp2_with fail
       refine Calls.mono (HN.out _ ?_) ?_
       focus exact HP.out
       rintro e _ ⟨rfl, _, rfl⟩
       skip)
      (go_wp2_with fail
       refine Calls.mono (HN.out _ ?_) ?_
       focus exact HP.out
       rintro e _ ⟨rfl, _, rfl⟩
       skip)
      (go_wp2_with fail
       refine Calls.mono (HN.out _ ?_) ?_
       focus exact HP.out
       rintro e _ ⟨rfl, _, rfl⟩
       skip)
      (have hlt : A' < s.size := byt_lt (by rw [HC.out]; omega)
       have c1 := HP.out.cells
       go_wp2_with fail
       go_roundg (s.size + 2 - (A' + 1))
       case rel => exact ⟨A' + 1, rfl, by omega, .inl (by omega), fun q => (by have := HK.out q; subst this; rw [HC.out] at q; exact absurd q (by decide)), (HP.out.set1 (A' + 1) : _), gr_trans HG.out (gr_ds _ _ _ _)⟩
       case measure => simp; omega)
    have q10 : ((c : Int) == 10) = false := by simp; omega
    by_cases c13 : c = 13
    · subst c13
      (go_wp2_with fail
       refine Calls.mono (HN.out _ ?_) ?_
       focus exact HP.out
       rintro e _ ⟨rfl, _, rfl⟩
       skip)
      (go_wp2_with fail
       refine Calls.mono (HN.out _ ?_) ?_
       focus exact HP.out
       rintro e _ ⟨rfl, _, rfl⟩
       skip)
      (go_wp2_with fail
       refine Calls.mono (HN.out _ ?_) ?_
       focus exact HP.out
       rintro e _ ⟨rfl, _, rfl⟩
       skip)
      (go_wp2_with fail
       refine Calls.mono (HN.out _ ?_) ?_
       focus exact HP.out
       rintro e _ ⟨rfl, _, rfl⟩
       skip)
      (have hlt : A' < s.size := byt_lt (by rw [HC.out]; omega)
       have c1 := HP.out.cells
       go_wp2_with fail
       go_roundg (s.size + 2 - (A' + 1))
       case rel => exact ⟨A' + 1, rfl, by omega, .inl (by omega), fun q => (by have := HK.out q; subst this; rw [HC.out] at q; exact absurd q (by decide)), (HP.out.set1 (A' + 1) : _), gr_trans HG.out (gr_ds _ _ _ _)⟩
       case measure => simp; omega)
    have q13 : ((c : Int) == 13) = false := by simp; omega
    (go_wp2_with fail
     refine Calls.mono (HN.out _ ?_) ?_
     focus exact HP.out
     rintro e _ ⟨rfl, _, rfl⟩
     skip)
    (go_wp2_with fail
     refine Calls.mono (HN.out _ ?_) ?_
     focus exact HP.out
     rintro e _ ⟨rfl, _, rfl⟩
     skip)
    (go_wp2_with fail
     refine Calls.mono (HN.out _ ?_) ?_
     focus exact HP.out
     rintro e _ ⟨rfl, _, rfl⟩
     skip)
    (go_wp2_with fail
     refine Calls.mono (HN.out _ ?_) ?_
     focus exact HP.out
     rintro e _ ⟨rfl, _, rfl⟩
     skip)
    go_wp2_with fail
    go_returns
    exact ⟨rfl, A', h1, h2, HK.out, HP.out, gr_trans HG.out ⟨rfl, rfl, rfl, Nat.le_refl _, fun _ _ _ => rfl⟩⟩
/-- what take leaves -/
def Took (L : Nat) (s : ByteArray) (A : Nat) (bad : Bool) (c : Nat) (w : World) (e : Ending) (w' : World) : Prop :=
  e = .returned (.tuple #[]) ∧ ∃ (A' : Nat) (bad' : Bool), A ≤ A' ∧ (A' ≤ s.size ∨ A' = A) ∧ (bad' = false → bad = false) ∧ (blank (byt s A) = false → bad' = false → byt s A = c ∧ A' = A + 1) ∧ (byt s A = c → blank c = false → bad' = bad) ∧ PB L s A' bad' w' ∧ w.grownBy w' (some L)
set_option maxHeartbeats 2000000 in
theorem ptake_any {L : Nat} {s : ByteArray} {A : Nat} {bad : Bool} (c : Nat) (hc0 : 0 < c) {w : World} (h : PB L s A bad w) (hs : s.size ≤ 140737488355328) (hA : A ≤ s.size + 1) : Calls Tryz.prog 154 #[.pointer (some ⟨L, 0, none⟩), .int .u8 (c : Int)] w (Took L s A bad c w) := by
  have H := Lib.hid h
  clear h
  go_enter Tryz.func154, Tryz.ntmps154
  go_wp2_with fail
  refine (pskip_any H.out hs hA).mono ?_
  rintro e w1 ⟨rfl, A', h1, h2, h3, h4, h5⟩
  have HP := Lib.hid h4
  have HG := Lib.hid h5
  have HK := Lib.hid h3
  clear h4 h5 h3
  obtain ⟨d, hd⟩ : ∃ d, byt s A' = d := ⟨_, rfl⟩
  have HC := Lib.hid hd
  have HN : Hid (∀ W, PB L s A' bad W → Calls Tryz.prog 94 #[.pointer (some ⟨L, 0, none⟩)] W (RetQ (.int .u8 (d : Int)) W)) := Lib.hid (fun W hW => by rw [← hd]; exact pnext_any hW)
  clear hd
  by_cases hcd : d = c
  · subst hcd
    have hlt : A' < s.size := byt_lt (by rw [HC.out]; omega)
    (go_wp2_with fail
     refine Calls.mono (HN.out _ ?_) ?_
     focus exact HP.out
     rintro e _ ⟨rfl, _, rfl⟩
     skip)
    have c1 := HP.out.cells
    go_wp2_with fail
    go_returns
    exact ⟨rfl, A' + 1, bad, by omega, .inl (by omega), fun q => q, fun q _ => (by have := HK.out q; subst this; exact ⟨HC.out, rfl⟩), fun _ _ => rfl, (HP.out.set1 (A' + 1) : _), gr_trans HG.out (gr_ds _ _ _ _)⟩
  · have q1 : ((d : Int) != (c : Int)) = true := by simp; omega
    (go_wp2_with fail
     refine Calls.mono (HN.out _ ?_) ?_
     focus exact HP.out
     rintro e _ ⟨rfl, _, rfl⟩
     skip)
    have c1 := HP.out.cells
    go_wp2_with fail
    go_returns
    exact ⟨rfl, A', true, h1, h2, fun q => (by cases q), fun _ q => (by cases q), fun q1 q2 => (by have := HK.out (by rw [q1]; exact q2); subst this; exact absurd (HC.out.symm.trans q1) hcd), (HP.out.set2 true : _), gr_trans HG.out (gr_ds _ _ _ _)⟩
end Go.Proofs.YtgjmgneppecfgaaGreatDoor.Pa
/-
  THE WALKS of find (for one byte), Bool and clean.
-/
namespace Go.Proofs.YtgjmgneppecfgaaGreatDoor.Pa
open Go.RowKit Go.Proofs.YtgjmgneppecfgaaGreatDoor.Va Go.Proofs.YtgjmgneppecfgaaGreatDoor.Ba Go.Proofs.YtgjmgneppecfgaaGreatDoor.Ma
set_option linter.unusedVariables false
set_option linter.unusedSimpArgs false

theorem toList_inj {a b : ByteArray} (h : a.toList = b.toList) : a = b := by
  rw [ByteArray.toList_eq, ByteArray.toList_eq] at h
  apply ByteArray.ext
  exact Array.toList_inj.1 h
theorem bytes_inj {a b : ByteArray} (h : bytesN a = bytesN b) : a = b := by
  unfold bytesN at h
  apply ByteArray.ext
  refine Array.toList_inj.1 ?_
  exact List.map_inj_right (fun x y e => UInt8.toNat_inj.1 e) |>.1 h
theorem beq_no {a b : ByteArray} (h : a ≠ b) : (a.toList == b.toList) = false := by
  rw [beq_eq_false_iff_ne]
  exact fun e => h (toList_inj e)
theorem beq_yes {a b : ByteArray} (h : a = b) : (a.toList == b.toList) = true := by
  rw [h, beq_iff_eq]
def FindEnd (tab part : ByteArray) (w : World) (e : Ending) (w' : World) : Prop :=
  ∃ r : Int, e = .returned (.int .i64 r) ∧ w = w' ∧ ((r = -1 ∧ ∀ j, j < tab.size → tab.extract j (j + 1) ≠ part) ∨ ∃ j : Nat, r = (j : Int) ∧ j < tab.size ∧ tab.extract j (j + 1) = part)
def LoopF (tab part : ByteArray) (w : World) (iv : Value) (wr : World) : Prop :=
  ∃ i : Nat, iv = .int .i64 (i : Int) ∧ i ≤ tab.size ∧ (∀ j, j < i → tab.extract j (j + 1) ≠ part) ∧ w = wr
set_option maxHeartbeats 2000000 in
theorem find_one (tab part : ByteArray) (hp : part.size = 1) (ht : tab.size ≤ 140737488355328) (w : World) : Calls Tryz.prog 137 #[.string tab, .string part, .int .i64 0] w (FindEnd tab part w) := by
  go_enter Tryz.func137, Tryz.ntmps137
  go_wp2_with fail
  go_loopw [7] (LoopF tab part w) (fun iv _ => tab.size - (intOf iv).toNat)
  case atStart => exact ⟨0, rfl, Nat.zero_le _, fun j hj => by omega, rfl⟩
  case round =>
    obtain ⟨i, rfl, hi, hno, rfl⟩ := hrel
    have HNO := Lib.hid hno
    clear hno
    by_cases hlt : i < tab.size
    · by_cases heq : tab.extract i (i + 1) = part
      · have hq := beq_yes heq
        go_wp2_with fail
        go_returns
        exact ⟨i, rfl, rfl, .inr ⟨i, rfl, hlt, heq⟩⟩
      · have hq := beq_no heq
        go_wp2_with fail
        go_roundw
        case rel =>
          refine ⟨i + 1, by push_cast; rfl, by omega, fun j hj => ?_, rfl⟩
          by_cases hji : j = i
          · rw [hji]; exact heq
          · exact HNO.out j (by omega)
        case measure => simp [intOf]; omega
    · go_wp2_with fail
      go_returns
      exact ⟨-1, rfl, rfl, .inl ⟨rfl, fun j hj => HNO.out j (by omega)⟩⟩
theorem runes_shape (s : ByteArray) : ∀ (bound i : Nat) (acc : Array Value), (∃ zs : List Int, acc.toList = zs.map (Value.int .i32)) → ∃ zs : List Int, (Conv.runesFrom s bound i acc).toList = zs.map (Value.int .i32)
  | 0, _, acc, h => by unfold Conv.runesFrom; exact h
  | bound + 1, i, acc, h => by
    unfold Conv.runesFrom
    split
    · refine runes_shape s bound _ _ ?_
      obtain ⟨zs, hz⟩ := h
      exact ⟨zs ++ [Int.ofNat (Utf8.decode s i).1], by rw [Array.toList_push, hz, List.map_append]; rfl⟩
    · exact h
def CleanEnd (w : World) (e : Ending) (w' : World) : Prop := ∃ b : Bool, e = .returned (.bool b) ∧ Below w.heap.size w w'
set_option maxHeartbeats 2000000 in
theorem clean_any (s : ByteArray) (hs : s.size ≤ 70368744177664) (w : World) : Calls Tryz.prog 47 #[.string s] w (CleanEnd w) := by
  have h1 := run_runes_of_string (P := Tryz.prog) w 9 124 21 s Tryz.underlying9 Tryz.underlying124 Tryz.underlying21 (by have := size_runesFrom s s.size 0 #[]; simp at this; omega)
  obtain ⟨zs, hz⟩ := runes_shape s s.size 0 #[] ⟨[], rfl⟩
  have hzl : (Conv.runesFrom s s.size 0 #[]).size = zs.length := by rw [← Array.length_toList, hz, List.length_map]
  obtain ⟨R, hR⟩ : ∃ R, Conv.runesFrom s s.size 0 #[] = R := ⟨_, rfl⟩
  rw [hR] at h1 hz hzl
  obtain ⟨c, hc⟩ : ∃ c, grownCap w R.size 0 21 = c := ⟨_, rfl⟩
  rw [hc] at h1
  obtain ⟨W, hW⟩ : ∃ W, w.drew.alloc (.cells (R ++ Array.replicate (c - R.size) (.int .i32 0)) 21) = W := ⟨_, rfl⟩
  have B1 : Below w.heap.size w W := hW ▸ ((Below.refl _ w).drew.alloc (Nat.le_refl _) _)
  have h2 := run_convert_runes (P := Tryz.prog) W 124 9 21 ⟨w.heap.size, 0, none⟩ R.size c zs (by omega) Tryz.underlying124 Tryz.underlying21 Tryz.underlying9 (fun j hj => by
    have hb : W.heap[w.heap.size]? = some (.cells (R ++ Array.replicate (c - R.size) (.int .i32 0)) 21 (0, 0)) := hW ▸ block_new w.drew _ _
    have e : (⟨w.heap.size, 0, none⟩ : Addr).add j = ⟨w.heap.size, j, none⟩ := by rw [Lib.addr_add, Nat.zero_add]
    rw [e]
    refine cell_of hb j ?_
    rw [Array.getElem?_append_left (by omega), ← Array.getElem?_toList, hz, List.getElem?_map, List.getElem?_eq_getElem hj]
    simp [List.getD, List.getElem?_eq_getElem hj])
  rw [hW] at h1
  obtain ⟨o, ho⟩ : ∃ o, runesBytes (zs.take R.size) = o := ⟨_, rfl⟩
  rw [ho] at h2
  obtain ⟨m, hm⟩ : ∃ m, R.size = m := ⟨_, rfl⟩
  rw [hm] at h1 h2
  clear hz hzl hR hc hW ho hm
  obtain ⟨b, hb⟩ : ∃ b, (o.toList == s.toList) = b := ⟨_, rfl⟩
  go_enter Tryz.func47, Tryz.ntmps47
  go_wp2_with fail
  go_returns
  exact ⟨b, rfl, B1⟩
def boolV (b : Bool) : V := .mk (if b then 2 else 1) 0 ⟨#[]⟩ [] [] []
end Go.Proofs.YtgjmgneppecfgaaGreatDoor.Pa
/-
  Plain: a text of well-formed UTF-8, character by character.
-/
namespace Go.Proofs.YtgjmgneppecfgaaGreatDoor.Mb
open Go.RowKit Go.Proofs.YtgjmgneppecfgaaGreatDoor.Va Go.Proofs.YtgjmgneppecfgaaGreatDoor.Ba Go.Proofs.YtgjmgneppecfgaaGreatDoor.Ma
set_option linter.unusedVariables false
set_option linter.unusedSimpArgs false

/-- well-formed from here on -/
def Val (l : List UInt8) : Prop := ∃ n, l.length ≤ n ∧ Lib.validGoD n l = true
theorem val_of {l : List UInt8} (h : Lib.validD l = true) : Val l := ⟨l.length, Nat.le_refl _, h⟩
theorem get_list (l : List UInt8) (k : Nat) : (⟨l.toArray⟩ : ByteArray).get! k = l.getD k 0 := by
  unfold ByteArray.get!
  simp [getElem!_def, List.getD]
  rfl
theorem extract_drop (s : ByteArray) (i : Nat) : s.extract i s.size = ⟨(s.data.toList.drop i).toArray⟩ := by
  apply ByteArray.ext
  rw [ByteArray.data_extract]
  apply Array.ext'
  rw [Array.toList_extract]
  show (s.data.toList.drop i).take (s.size - i) = s.data.toList.drop i
  exact List.take_of_length_le (by rw [List.length_drop]; exact Nat.le_refl _)
theorem decodeN_spec (n b0 b1 b2 b3 : Nat) (h0 : 128 ≤ b0) : Lib.decodeN n b0 b1 b2 b3 = (65533, 1) ∨ ((Lib.decodeN n b0 b1 b2 b3).2 = 2 ∧ 1 < n ∧ b1 / 64 = 2) ∨ ((Lib.decodeN n b0 b1 b2 b3).2 = 3 ∧ 2 < n ∧ b1 / 64 = 2 ∧ b2 / 64 = 2) ∨
    ((Lib.decodeN n b0 b1 b2 b3).2 = 4 ∧ 3 < n ∧ b1 / 64 = 2 ∧ b2 / 64 = 2 ∧ b3 / 64 = 2) := by
  unfold Lib.decodeN
  rw [if_neg (by omega)]
  repeat' split
  all_goals simp_all
theorem bytesN_drop (s : ByteArray) (i k : Nat) : ((s.data.toList.drop i).getD k 0).toNat = (bytesN s).getD (i + k) 0 := by
  unfold bytesN
  rw [List.getD, List.getD, List.getElem?_drop, List.getElem?_map]
  cases s.data.toList[i + k]? <;> rfl
/-- one character -/
theorem dec_step (s : ByteArray) (i : Nat) (hi : i < s.size) (hv : Val (s.data.toList.drop i)) :
    1 ≤ (Lib.decodeGo (s.extract i s.size)).2 ∧ i + (Lib.decodeGo (s.extract i s.size)).2 ≤ s.size ∧ Val (s.data.toList.drop (i + (Lib.decodeGo (s.extract i s.size)).2)) ∧
      ((bytesN s).getD i 0 < 128 → (Lib.decodeGo (s.extract i s.size)).2 = 1) ∧
      (128 ≤ (bytesN s).getD i 0 → 2 ≤ (Lib.decodeGo (s.extract i s.size)).2 ∧ ∀ j, i ≤ j → j < i + (Lib.decodeGo (s.extract i s.size)).2 → 128 ≤ (bytesN s).getD j 0) := by
  have hlen : s.data.toList.length = s.size := rfl
  have hd : Lib.decodeGo (s.extract i s.size) = Lib.decodeL (s.data.toList.drop i) := by
    unfold Lib.decodeGo Lib.decodeL
    rw [extract_drop, if_neg]
    show ¬ (s.data.toList.drop i).toArray.size = 0
    simp
    omega
  have hN : Lib.decodeL (s.data.toList.drop i) = Lib.decodeN (s.size - i) ((bytesN s).getD i 0) ((bytesN s).getD (i + 1) 0) ((bytesN s).getD (i + 2) 0) ((bytesN s).getD (i + 3) 0) := by
    unfold Lib.decodeL
    rw [Lib.decode_at, get_list, get_list, get_list, get_list, bytesN_drop, bytesN_drop, bytesN_drop, bytesN_drop]
    congr 1
    show (s.data.toList.drop i).toArray.size - 0 = s.size - i
    simp
  rw [hd]
  obtain ⟨n, hn, hv⟩ := hv
  rw [List.length_drop] at hn
  obtain ⟨m, rfl⟩ : ∃ m, n = m + 1 := ⟨n - 1, by omega⟩
  rw [Lib.validGoD] at hv
  have hne : s.data.toList.drop i ≠ [] := fun e => by have := congrArg List.length e; rw [List.length_drop] at this; simp at this; omega
  rw [if_neg hne] at hv
  split at hv
  · cases hv
  rename_i hgood
  rw [List.drop_drop] at hv
  rw [hN] at hv hgood ⊢
  by_cases h0 : (bytesN s).getD i 0 < 128
  · have e : Lib.decodeN (s.size - i) ((bytesN s).getD i 0) ((bytesN s).getD (i + 1) 0) ((bytesN s).getD (i + 2) 0) ((bytesN s).getD (i + 3) 0) = ((bytesN s).getD i 0, 1) := by
      unfold Lib.decodeN; rw [if_pos h0]
    rw [e] at hv ⊢
    refine ⟨Nat.le_refl _, hi, ⟨m, ?_, hv⟩, fun _ => rfl, fun q => by omega⟩
    rw [List.length_drop]
    show _ - (i + 1) ≤ _
    omega
  · rcases decodeN_spec (s.size - i) _ ((bytesN s).getD (i + 1) 0) ((bytesN s).getD (i + 2) 0) ((bytesN s).getD (i + 3) 0) (show 128 ≤ (bytesN s).getD i 0 by omega) with e | ⟨e, q1, q2⟩ | ⟨e, q1, q2, q3⟩ | ⟨e, q1, q2, q3, q4⟩
    · exact absurd ⟨by rw [e], by rw [e]⟩ hgood
    all_goals
      rw [e] at hv ⊢
      refine ⟨by decide, by omega, ⟨m, by rw [List.length_drop]; omega, hv⟩, fun q => by omega, fun _ => ⟨by decide, fun j h1 h2 => ?_⟩⟩
      rcases (show j = i ∨ j = i + 1 ∨ j = i + 2 ∨ j = i + 3 by omega) with rfl | rfl | rfl | rfl
      all_goals omega
theorem val_one (s : ByteArray) (i : Nat) (hi : i < s.size) (hv : Val (s.data.toList.drop i)) (h : (bytesN s).getD i 0 < 128) : Val (s.data.toList.drop (i + 1)) := by
  obtain ⟨_, _, h1, h2, _⟩ := dec_step s i hi hv
  rwa [h2 h] at h1
/-- bytes that stand for themselves -/
theorem escL_plain : ∀ (l : List Nat), (∀ x ∈ l, plainB x = true) → escL l = l
  | [], _ => rfl
  | x :: xs, h => by
    have h1 := h x List.mem_cons_self
    have h2 := escL_plain xs (fun y hy => h y (List.mem_cons_of_mem _ hy))
    unfold escL at *
    rw [List.flatMap_cons, h2]
    unfold escB
    rw [if_pos h1]
    rfl
theorem escL_app (a b : List Nat) : escL (a ++ b) = escL a ++ escL b := by unfold escL; rw [List.flatMap_append]
theorem bytesN_extract2 (s : ByteArray) (a b : Nat) : bytesN (s.extract a b) = ((bytesN s).take b).drop a := by
  unfold bytesN
  rw [ByteArray.data_extract, Array.toList_extract]
  simp [List.extract, List.map_drop, List.map_take, List.drop_take]
/-- a part that stands for itself -/
theorem escL_part {l : List Nat} {a b : Nat} (hab : a ≤ b) (hb : b ≤ l.length) (h : ∀ j, a ≤ j → j < b → plainB (l.getD j 0) = true) : escL (l.take b) = escL (l.take a) ++ (l.take b).drop a := by
  have e : l.take b = l.take a ++ (l.take b).drop a := by
    have := List.take_append_drop a (l.take b)
    rw [List.take_take, Nat.min_eq_left hab] at this
    exact this.symm
  conv => lhs; rw [e, escL_app]
  rw [escL_plain ((l.take b).drop a)]
  intro x hx
  obtain ⟨j, hj, rfl⟩ := List.getElem_of_mem hx
  rw [List.length_drop, List.length_take] at hj
  have := h (a + j) (by omega) (by omega)
  rw [List.getD, List.getElem?_eq_getElem (by omega)] at this
  simpa using this
theorem esc_mid (s : ByteArray) (st i : Nat) (hst : st ≤ i) (hi : i ≤ s.size) (h : ∀ j, st ≤ j → j < i → plainB ((bytesN s).getD j 0) = true) : escL ((bytesN s).take i) = escL ((bytesN s).take st) ++ bytesN (s.extract st i) := by
  rw [escL_part hst (by rw [bytesN_len]; exact hi) h, bytesN_extract2]
theorem take_all (s : ByteArray) : (bytesN s).take s.size = bytesN s := List.take_of_length_le (by rw [bytesN_len]; exact Nat.le_refl _)
theorem esc_len (s : ByteArray) (i : Nat) (hi : i ≤ s.size) : (escL ((bytesN s).take i)).length ≤ 6 * i := by
  have := escL_len ((bytesN s).take i)
  rw [List.length_take, bytesN_len] at this
  omega
theorem esc_next (s : ByteArray) (i x : Nat) (hi : i < s.size) (hx : (bytesN s).getD i 0 = x) : escL ((bytesN s).take (i + 1)) = escL ((bytesN s).take i) ++ escB x := by
  rw [List.take_succ_eq_append_getElem (by rw [bytesN_len]; exact hi), escL_app]
  congr 1
  have e : (bytesN s)[i]'(by rw [bytesN_len]; exact hi) = x := by
    rw [← hx, List.getD, List.getElem?_eq_getElem (by rw [bytesN_len]; exact hi)]
    rfl
  rw [e]
  unfold escL
  simp
theorem extract_size (s : ByteArray) (a b : Nat) (hb : b ≤ s.size) : (s.extract a b).size = b - a := by
  have := bytesN_len (s.extract a b)
  rw [bytesN_extract2, List.length_drop, List.length_take, bytesN_len] at this
  omega
end Go.Proofs.YtgjmgneppecfgaaGreatDoor.Mb
/-
  Plain: a quoted text, read byte by byte; find in the table of escapes.
-/
namespace Go.Proofs.YtgjmgneppecfgaaGreatDoor.Pa
open Go.RowKit Go.Proofs.YtgjmgneppecfgaaGreatDoor.Va Go.Proofs.YtgjmgneppecfgaaGreatDoor.Ba Go.Proofs.YtgjmgneppecfgaaGreatDoor.Ma
set_option linter.unusedVariables false
set_option linter.unusedSimpArgs false

def tab8 : ByteArray := ⟨#[34, 92, 47, 98, 102, 110, 114, 116]⟩
def out8 : ByteArray := ⟨#[34, 92, 47, 8, 12, 10, 13, 9]⟩
def idx8 (k : Nat) : Int := if k = 34 then 0 else if k = 92 then 1 else if k = 47 then 2 else if k = 98 then 3 else if k = 102 then 4 else if k = 110 then 5 else if k = 114 then 6 else if k = 116 then 7 else -1
theorem tab8_at (j : Nat) (hj : j < 8) : bytesN (tab8.extract j (j + 1)) = [[34, 92, 47, 98, 102, 110, 114, 116].getD j 0] := by
  rcases (show j = 0 ∨ j = 1 ∨ j = 2 ∨ j = 3 ∨ j = 4 ∨ j = 5 ∨ j = 6 ∨ j = 7 by omega) with rfl | rfl | rfl | rfl | rfl | rfl | rfl | rfl <;> (rw [Mb.bytesN_extract2]; rfl)
theorem find_tab (x : ByteArray) (k : Nat) (hx : bytesN x = [k]) (w : World) : Calls Tryz.prog 137 #[.string tab8, .string x, .int .i64 0] w fun e w' => e = .returned (.int .i64 (idx8 k)) ∧ w' = w := by
  have hs : x.size = 1 := by rw [← bytesN_len, hx]; rfl
  refine (find_one tab8 x hs (by decide) w).mono ?_
  rintro e w' ⟨r, rfl, rfl, h⟩
  refine ⟨?_, rfl⟩
  congr 2
  rcases h with ⟨rfl, hno⟩ | ⟨j, rfl, hj, he⟩
  · have q : ∀ j, j < 8 → [34, 92, 47, 98, 102, 110, 114, 116].getD j 0 ≠ k := fun j hj e => hno j hj (bytes_inj (by rw [tab8_at j hj, e, hx]))
    have q0 := q 0 (by omega)
    have q1 := q 1 (by omega)
    have q2 := q 2 (by omega)
    have q3 := q 3 (by omega)
    have q4 := q 4 (by omega)
    have q5 := q 5 (by omega)
    have q6 := q 6 (by omega)
    have q7 := q 7 (by omega)
    simp at q0 q1 q2 q3 q4 q5 q6 q7
    unfold idx8
    rw [if_neg (by omega), if_neg (by omega), if_neg (by omega), if_neg (by omega), if_neg (by omega), if_neg (by omega), if_neg (by omega), if_neg (by omega)]
  · have hj8 : j < 8 := hj
    have e := congrArg bytesN he
    rw [tab8_at j hj8, hx] at e
    simp only [List.cons.injEq, and_true] at e
    subst e
    rcases (show j = 0 ∨ j = 1 ∨ j = 2 ∨ j = 3 ∨ j = 4 ∨ j = 5 ∨ j = 6 ∨ j = 7 by omega) with rfl | rfl | rfl | rfl | rfl | rfl | rfl | rfl <;> rfl
theorem escL_append (a b : List Nat) : escL (a ++ b) = escL a ++ escL b := by unfold escL; rw [List.flatMap_append]
theorem escL_cons (c : Nat) (l : List Nat) : escL (c :: l) = escB c ++ escL l := by unfold escL; rw [List.flatMap_cons]
/-- where the reader stands behind i bytes -/
def posT (A : Nat) (T : List Nat) (i : Nat) : Nat := A + 1 + (escL (T.take i)).length
theorem at_i {B T R : List Nat} {A : Nat} (h : B.drop A = Ma.encStr T ++ R) (i : Nat) : B.drop (posT A T i) = escL (T.drop i) ++ 34 :: R := by
  unfold posT
  have e : escL T = escL (T.take i) ++ escL (T.drop i) := by rw [← escL_append, List.take_append_drop]
  have h2 : B.drop (A + 1) = escL (T.take i) ++ (escL (T.drop i) ++ 34 :: R) := by
    rw [← List.drop_drop, h]
    unfold Ma.encStr
    rw [List.cons_append, List.drop_succ_cons, List.drop_zero, e]
    simp
  rw [← List.drop_drop, h2, List.drop_left]
theorem at_next {B T R : List Nat} {A : Nat} (h : B.drop A = Ma.encStr T ++ R) (i : Nat) (hi : i < T.length) : B.drop (posT A T i) = escB T[i] ++ (escL (T.drop (i + 1)) ++ 34 :: R) ∧ posT A T (i + 1) = posT A T i + (escB T[i]).length := by
  constructor
  · rw [at_i h, List.drop_eq_getElem_cons hi, escL_cons, List.append_assoc]
  · unfold posT
    rw [List.take_succ_eq_append_getElem hi, escL_append, escL_cons, List.length_append]
    simp [escL]
    omega
theorem byt_drop (s : ByteArray) (A j : Nat) : byt s (A + j) = ((bytesN s).drop A).getD j 0 := by
  unfold byt
  rw [List.getD, List.getD, List.getElem?_drop]
theorem drop_size {s : ByteArray} {A : Nat} {l : List Nat} (h : (bytesN s).drop A = l) (hl : 0 < l.length) : s.size = A + l.length := by
  have := congrArg List.length h
  rw [List.length_drop, bytesN_len] at this
  omega
/-- the two bytes of an escape -/
def escK (c : Nat) : Nat := if c = 34 then 34 else if c = 92 then 92 else if c = 8 then 98 else if c = 12 then 102 else if c = 10 then 110 else if c = 13 then 114 else if c = 9 then 116 else 117
theorem escB_cases (c : Nat) : (plainB c = true ∧ escB c = [c] ∧ c ≠ 34 ∧ c ≠ 92 ∧ 32 ≤ c ∧ c ≠ 127) ∨ (plainB c = false ∧ ∃ l, escB c = 92 :: escK c :: l ∧ ((idx8 (escK c) = -1) ∨ (l = [] ∧ ∃ j : Nat, idx8 (escK c) = (j : Int) ∧ j < 8 ∧ bytesN (out8.extract j (j + 1)) = [c]))) := by
  by_cases hp : plainB c = true
  · refine .inl ⟨hp, ?_, ?_⟩
    · unfold escB; rw [if_pos hp]
    · unfold plainB at hp
      simp at hp
      omega
  · refine .inr ⟨by simpa using hp, ?_⟩
    unfold escB escK
    rw [if_neg hp]
    by_cases c34 : c = 34
    · subst c34; exact ⟨[], rfl, .inr ⟨rfl, 0, rfl, by omega, by rw [Mb.bytesN_extract2]; rfl⟩⟩
    by_cases c92 : c = 92
    · subst c92; exact ⟨[], rfl, .inr ⟨rfl, 1, rfl, by omega, by rw [Mb.bytesN_extract2]; rfl⟩⟩
    by_cases c8 : c = 8
    · subst c8; exact ⟨[], rfl, .inr ⟨rfl, 3, rfl, by omega, by rw [Mb.bytesN_extract2]; rfl⟩⟩
    by_cases c12 : c = 12
    · subst c12; exact ⟨[], rfl, .inr ⟨rfl, 4, rfl, by omega, by rw [Mb.bytesN_extract2]; rfl⟩⟩
    by_cases c10 : c = 10
    · subst c10; exact ⟨[], rfl, .inr ⟨rfl, 5, rfl, by omega, by rw [Mb.bytesN_extract2]; rfl⟩⟩
    by_cases c13 : c = 13
    · subst c13; exact ⟨[], rfl, .inr ⟨rfl, 6, rfl, by omega, by rw [Mb.bytesN_extract2]; rfl⟩⟩
    by_cases c9 : c = 9
    · subst c9; exact ⟨[], rfl, .inr ⟨rfl, 7, rfl, by omega, by rw [Mb.bytesN_extract2]; rfl⟩⟩
    rw [if_neg c34, if_neg c92, if_neg c8, if_neg c12, if_neg c10, if_neg c13, if_neg c9]
    rw [if_neg c34, if_neg c92, if_neg c8, if_neg c12, if_neg c10, if_neg c13, if_neg c9]
    exact ⟨_, rfl, .inl rfl⟩
end Go.Proofs.YtgjmgneppecfgaaGreatDoor.Pa
