/-
  FnFormat, texts McQ FoK FoL McR: lemmas for the law; the theorem stands in the last text.
-/
import Derived.Lib.LazyBuf
import Derived.Test.YtgjmgneppecfgaaGreatDoorJ03
import Derived.Test.YtgjmgneppecfgaaGreatDoorJ19
import Derived.Test.YtgjmgneppecfgaaGreatDoorJ21
namespace Go.Proofs.YtgjmgneppecfgaaGreatDoor.Mc
open Go.RowKit Go.Proofs.YtgjmgneppecfgaaGreatDoor.Va Go.Proofs.YtgjmgneppecfgaaGreatDoor.Ba Go.Proofs.YtgjmgneppecfgaaGreatDoor.Ma Go.Proofs.YtgjmgneppecfgaaGreatDoor.Pa Go.Proofs.YtgjmgneppecfgaaGreatDoor.Fo
set_option linter.unusedVariables false
set_option linter.unusedSimpArgs false

/-- where the first such byte is -/
def IdxZ (L : List Nat) (c : Nat) (w : World) (e : Ending) (w' : World) : Prop :=
  ∃ p, p ≤ L.length ∧ (∀ j, j < p → L.getD j 0 ≠ c) ∧ ((p = L.length ∧ e = .returned (.int .i64 (-1))) ∨ (p < L.length ∧ L.getD p 0 = c ∧ e = .returned (.int .i64 (p : Int)))) ∧ w = w'
theorem one_at (s : ByteArray) (i c : Nat) (hi : i < s.size) (hc : c < 256) : (s.extract i (i + 1) = numS [c]) ↔ (bytesN s).getD i 0 = c := by
  have hi' : i < (bytesN s).length := by rw [bytesN_len]; exact hi
  have e1 : bytesN (s.extract i (i + 1)) = [(bytesN s).getD i 0] := by
    rw [Mb.bytesN_extract2, List.drop_take, show i + 1 - i = 1 by omega, List.drop_eq_getElem_cons hi', List.getD, List.getElem?_eq_getElem hi']
    rfl
  constructor
  · intro h
    rw [h, bytesN_numS' [c] (fun y hy => by simp at hy; omega)] at e1
    simp only [List.cons.injEq, and_true] at e1
    exact e1.symm
  · intro h
    exact bytes_inj (by rw [e1, h, bytesN_numS' [c] (fun y hy => by simp at hy; omega)])
def LoopZ (s : ByteArray) (c : Nat) (w : World) (iv : Value) (wr : World) : Prop :=
  ∃ i : Nat, iv = .int .i64 (i : Int) ∧ i ≤ s.size ∧ (∀ j, j < i → (bytesN s).getD j 0 ≠ c) ∧ w = wr
set_option maxHeartbeats 2000000 in
theorem zzIndex_any (s : ByteArray) (c : Nat) (hc : c < 256) (hs : s.size ≤ 140737488355328) (w : World) : Calls Tryz.prog 228 #[.string s, .string (numS [c])] w (IdxZ (bytesN s) c w) := by
  obtain ⟨part, hpart⟩ : ∃ part, numS [c] = part := ⟨_, rfl⟩
  have hp : part.size = 1 := by rw [← hpart, numS_size]; rfl
  have HONE : Hid (∀ i, i < s.size → ((s.extract i (i + 1) = part) ↔ (bytesN s).getD i 0 = c)) := Lib.hid (fun i hi => by rw [← hpart]; exact one_at s i c hi hc)
  rw [hpart]
  clear hpart
  go_enter Tryz.func228, Tryz.ntmps228
  go_wp2_with fail
  go_loopw [5] (LoopZ s c w) (fun iv _ => s.size - (intOf iv).toNat)
  case atStart => exact ⟨0, rfl, Nat.zero_le _, fun j hj => by omega, rfl⟩
  case round =>
    obtain ⟨i, rfl, hi, hno, rfl⟩ := hrel
    have HNO := Lib.hid hno
    clear hno
    by_cases hlt : i < s.size
    · by_cases heq : s.extract i (i + 1) = part
      · have hq := beq_yes heq
        go_wp2_with fail
        go_returns
        exact ⟨i, by rw [bytesN_len]; exact hi, HNO.out, .inr ⟨by rw [bytesN_len]; exact hlt, (HONE.out i hlt).1 heq, rfl⟩, rfl⟩
      · have hq := beq_no heq
        go_wp2_with fail
        go_roundw
        case rel =>
          refine ⟨i + 1, by push_cast; rfl, by omega, fun j hj => ?_, rfl⟩
          by_cases hji : j = i
          · rw [hji]; exact fun h => heq ((HONE.out i hlt).2 h)
          · exact HNO.out j (by omega)
        case measure => simp [intOf]; omega
    · obtain rfl : i = s.size := by omega
      go_wp2_with fail
      go_returns
      exact ⟨s.size, by rw [bytesN_len]; exact Nat.le_refl _, HNO.out, .inl ⟨by rw [bytesN_len], rfl⟩, rfl⟩
theorem repl_none (c : Nat) (new : List Nat) : ∀ R : List Nat, (∀ j, j < R.length → R.getD j 0 ≠ c) → repl [(c, new)] R = R
  | [], _ => rfl
  | x :: xs, h => by
    have h0 : x ≠ c := h 0 (by simp)
    have ih := repl_none c new xs (fun j hj => h (j + 1) (by simpa using hj))
    unfold repl at ih ⊢
    rw [List.flatMap_cons, ih]
    show (if c = x then new else [x]) ++ xs = _
    rw [if_neg (fun e => h0 e.symm)]
    rfl
theorem repl_at (c : Nat) (new : List Nat) : ∀ (R : List Nat) (p : Nat), p < R.length → (∀ j, j < p → R.getD j 0 ≠ c) → R.getD p 0 = c → repl [(c, new)] R = R.take p ++ new ++ repl [(c, new)] (R.drop (p + 1))
  | [], p, hp, _, _ => by simp at hp
  | x :: xs, 0, _, _, h => by
    have hx : x = c := h
    subst hx
    unfold repl
    rw [List.flatMap_cons]
    show (if x = x then new else [x]) ++ _ = [] ++ new ++ _
    rw [if_pos rfl]
    rfl
  | x :: xs, p + 1, hp, hno, h => by
    have h0 : x ≠ c := hno 0 (by omega)
    have ih := repl_at c new xs p (by simpa using hp) (fun j hj => hno (j + 1) (by omega)) h
    have e : repl [(c, new)] (x :: xs) = (if c = x then new else [x]) ++ repl [(c, new)] xs := by unfold repl; rw [List.flatMap_cons]; rfl
    rw [e, if_neg (fun e => h0 e.symm), ih]
    rfl
def strLenZ : Value → Nat
  | .string t => t.size
  | _ => 0
def LoopZA (L : List Nat) (c : Nat) (new : List Nat) (w : World) (sv ov : Value) (wr : World) : Prop :=
  ∃ D R : List Nat, repl [(c, new)] L = D ++ repl [(c, new)] R ∧ sv = .string (numS R) ∧ (∀ x ∈ R, x < 256) ∧ D.length + 8 * R.length ≤ 8 * L.length ∧ wr.ownsRow w.heap.size 5 1 ov D.length (cellsD D) ∧ Below w.heap.size w wr
def ReplAEnd (P : List (Nat × List Nat)) (s : ByteArray) (w : World) (e : Ending) (w' : World) : Prop := e = .returned (.string (numS (repl P (bytesN s)))) ∧ Below w.heap.size w w'
set_option maxHeartbeats 4000000 in
set_option maxRecDepth 100000 in
theorem zzReplaceAll_any (s : ByteArray) (hs : s.size ≤ 1073741824) (c : Nat) (hc : c < 256) (new : List Nat) (hnew : new.length ≤ 8 ∧ ∀ x ∈ new, x < 256) (w : World) :
    Calls Tryz.prog 195 #[.string s, .string (numS [c]), .string (numS new)] w (ReplAEnd [(c, new)] s w) := by
  obtain ⟨i8, hi, hz0, hz1, hz2⟩ := info_parts info8
  have HI := Lib.hid (And.intro hi (And.intro hz0 (And.intro hz1 hz2)))
  obtain ⟨L, hL⟩ : ∃ L, bytesN s = L := ⟨_, rfl⟩
  have hLl : L.length ≤ 1073741824 := by rw [← hL, bytesN_len]; exact hs
  have hL2 : ∀ x ∈ L, x < 256 := by rw [← hL]; exact bytesN_lt s
  have hsL : s = numS L := by rw [← hL, numS_bytesN]
  have HZI := Lib.hid (fun (t : ByteArray) (ht : t.size ≤ 140737488355328) (w1 : World) => zzIndex_any t c hc ht w1)
  obtain ⟨part, hpart⟩ : ∃ part, numS [c] = part := ⟨_, rfl⟩
  have hp : part.size = 1 := by rw [← hpart, numS_size]; rfl
  obtain ⟨nw, hnw⟩ : ∃ nw, numS new = nw := ⟨_, rfl⟩
  have hnws : nw.size = new.length := by rw [← hnw, numS_size]
  have HNB : Hid (bytesN nw = new) := Lib.hid (by rw [← hnw, bytesN_numS' new hnew.2])
  have HLB := Lib.hid hL
  have HL2 := Lib.hid hL2
  have HNW := Lib.hid hnew
  have HSL := Lib.hid hsL
  have hn8 := hnew.1
  rw [hpart] at HZI
  rw [hpart, hnw]
  clear hpart hnw hL hL2 hi hz0 hz1 hz2 hsL hnew
  go_enter Tryz.func195, Tryz.ntmps195
  go_wp2_with fail
  go_loopw [0, 7] (LoopZA L c new w) (fun sv _ _ => strLenZ sv)
  case atStart => exact ⟨[], L, rfl, by rw [HSL.out], HL2.out, by simp, World.ownsRow_nil _ _ _ _, Below.refl _ _⟩
  case round =>
    obtain ⟨D, R, hrep, rfl, hR, hle, hown, hb⟩ := hrel
    have HREP := Lib.hid hrep
    have HR := Lib.hid hR
    have HOWN := Lib.hid hown
    have HB := Lib.hid hb
    obtain ⟨w1, hw1⟩ : ∃ w1 : World, w1 = wr := ⟨wr, rfl⟩
    subst hw1
    obtain ⟨t, ht⟩ : ∃ t, numS R = t := ⟨_, rfl⟩
    obtain ⟨m, hm⟩ : ∃ m, R.length = m := ⟨_, rfl⟩
    have hts : t.size = m := by rw [← ht, numS_size, hm]
    have htb : bytesN t = R := by rw [← ht, bytesN_numS' R hR]
    rw [ht]
    rw [hm] at hle
    have HT := Lib.hid ht
    have HTB := Lib.hid htb
    have HM := Lib.hid hm
    clear hrep hR hown hb ht htb hm
    go_wp2_with fail
    refine (HZI.out t (by omega) w1).mono ?_
    rintro e w2 ⟨p, hple, hno, hres, rfl⟩
    rw [HTB.out] at hple hno hres
    have HNO := Lib.hid hno
    clear hno
    rcases hres with ⟨hp1, rfl⟩ | ⟨hp1, hpc, rfl⟩
    · have HDN : Hid (repl [(c, new)] R = R) := Lib.hid (repl_none c new R (fun j hj => HNO.out j (by omega)))
      have hle2 : D.length + m ≤ 8589934592 := by omega
      go_wp2_with (at_builtin; refine stop_here ?_)
      refine Lib.hid ?_
      refine Lib.wpList_append_own_string _ rfl _ _ 73 9 rfl w.heap.size 5 i8 Tryz.underlying73 Tryz.underlying9 HI.out.1 HI.out.2.1 HI.out.2.2.1 HI.out.2.2.2 _ _ (cellsD D) rfl HOWN.out t rfl ?_ ?_ HB.out.size ?_
      · unfold maxLen; omega
      · omega
      intro v' w3 hap hgr _
      have hown3 : w3.ownsRow w.heap.size 5 1 v' (D ++ R).length (cellsD (D ++ R)) := by
        have h1 := hap
        rw [strCells_eq, HTB.out, hts, ← HM.out] at h1
        rw [cellsD_app, List.length_append]
        exact h1
      have hcv := owns_string hown3
      have HBB := Lib.hid (Below.grown HB.out hgr HB.out.size (fun k hk => (HOWN.out.lt k hk).1))
      clear hap hgr hown3
      have HEND : Hid (D ++ R = repl [(c, new)] L) := Lib.hid (by rw [HREP.out, HDN.out])
      rw [HEND.out] at hcv
      go_wp2_with fail
      go_returns
      refine ⟨?_, HBB.out⟩
      rw [HLB.out]
      rfl
    · have HDN := Lib.hid (repl_at c new R p hp1 HNO.out hpc)
      rw [HM.out] at hple hp1
      obtain ⟨t1, ht1⟩ : ∃ t1, t.extract 0 p = t1 := ⟨_, rfl⟩
      have htb1 : bytesN t1 = R.take p := by rw [← ht1, Mb.bytesN_extract2, HTB.out, List.drop_zero]
      have hts1 : t1.size = p := by rw [← bytesN_len, htb1, List.length_take, HM.out]; omega
      obtain ⟨t2, ht2⟩ : ∃ t2, t.extract (p + 1) m = t2 := ⟨_, rfl⟩
      have htb2 : bytesN t2 = R.drop (p + 1) := by rw [← ht2, Mb.bytesN_extract2, HTB.out, ← HM.out, List.take_length]
      have hts2 : t2.size + (p + 1) = m := by rw [← bytesN_len, htb2, List.length_drop, HM.out]; omega
      have HTB1 := Lib.hid htb1
      have HT2 : Hid (t2 = numS (R.drop (p + 1))) := Lib.hid (bytes_inj (by rw [htb2, bytesN_numS' _ (fun y hy => HR.out y (List.mem_of_mem_drop hy))]))
      clear htb1 htb2
      go_wp2_with (at_builtin; refine stop_here ?_)
      refine Lib.hid ?_
      refine Lib.wpList_append_own_string _ rfl _ _ 73 9 rfl w.heap.size 5 i8 Tryz.underlying73 Tryz.underlying9 HI.out.1 HI.out.2.1 HI.out.2.2.1 HI.out.2.2.2 _ _ (cellsD D) rfl HOWN.out t1 rfl ?_ ?_ HB.out.size ?_
      · unfold maxLen; omega
      · omega
      intro v' w3 hap hgr _
      have hown3 : w3.ownsRow w.heap.size 5 1 v' (D ++ R.take p).length (cellsD (D ++ R.take p)) := by
        have h1 := hap
        rw [strCells_eq, HTB1.out, hts1] at h1
        rw [cellsD_app, List.length_append, List.length_take, Nat.min_eq_left (by rw [HM.out]; exact hple)]
        exact h1
      have HOWN3 := Lib.hid hown3
      have HBB := Lib.hid (Below.grown HB.out hgr HB.out.size (fun k hk => (HOWN.out.lt k hk).1))
      have hdl : (D ++ R.take p).length = D.length + p := by rw [List.length_append, List.length_take, Nat.min_eq_left (by rw [HM.out]; exact hple)]
      clear hap hgr hown3
      go_wp2_with (at_builtin; refine stop_here ?_)
      refine Lib.hid ?_
      refine Lib.wpList_append_own_string _ rfl _ _ 73 9 rfl w.heap.size 5 i8 Tryz.underlying73 Tryz.underlying9 HI.out.1 HI.out.2.1 HI.out.2.2.1 HI.out.2.2.2 _ _ (cellsD (D ++ R.take p)) rfl HOWN3.out nw rfl ?_ ?_ HBB.out.size ?_
      · unfold maxLen; omega
      · omega
      intro v4 w4 hap hgr _
      have hown4 : w4.ownsRow w.heap.size 5 1 v4 (D ++ R.take p ++ new).length (cellsD (D ++ R.take p ++ new)) := by
        have h1 := hap
        rw [strCells_eq, HNB.out, hnws] at h1
        rw [cellsD_app, List.length_append]
        exact h1
      have HOWN4 := Lib.hid hown4
      have HBC := Lib.hid (Below.grown HBB.out hgr HBB.out.size (fun k hk => (HOWN3.out.lt k hk).1))
      clear hap hgr hown4
      go_wp2_with fail
      try go_simp
      refine ⟨⟨D ++ R.take p ++ new, R.drop (p + 1), ?_, congrArg Value.string HT2.out, fun x hx => HR.out x (List.mem_of_mem_drop hx), ?_, HOWN4.out, HBC.out⟩, by simp [strLenZ] <;> omega⟩
      · rw [HREP.out, HDN.out]; simp only [List.append_assoc]
      · rw [List.length_append, hdl, List.length_drop, HM.out]
        have := HNW.out.1
        omega
end Go.Proofs.YtgjmgneppecfgaaGreatDoor.Mc
namespace Go.Proofs.YtgjmgneppecfgaaGreatDoor.Fo
open Go.RowKit Go.Proofs.YtgjmgneppecfgaaGreatDoor.Va Go.Proofs.YtgjmgneppecfgaaGreatDoor.Ba Go.Proofs.YtgjmgneppecfgaaGreatDoor.Ma Go.Proofs.YtgjmgneppecfgaaGreatDoor.Pa
set_option linter.unusedVariables false
set_option linter.unusedSimpArgs false

/-- a byte that stands for itself in a URI -/
def freeB (c : Nat) : Bool := (decide (97 ≤ c) && decide (c ≤ 122)) || (decide (65 ≤ c) && decide (c ≤ 90)) || (decide (48 ≤ c) && decide (c ≤ 57)) || c == 45 || c == 95 || c == 46 || c == 126
def FreeEnd (c : Nat) (w : World) (e : Ending) (w' : World) : Prop := e = .returned (.bool (freeB c)) ∧ w = w'
set_option maxHeartbeats 4000000 in
theorem free_any (c : Nat) (hc : c < 256) (w : World) : Calls Tryz.prog 169 #[.int .u8 (c : Int)] w (FreeEnd c w) := by
  go_enter Tryz.func169, Tryz.ntmps169
  go_wp2_with fail
  all_goals (
    go_returns
    refine ⟨congrArg (fun b => Ending.returned (.bool b)) ?_, rfl⟩
    unfold freeB
    rw [Bool.eq_iff_iff]
    simp
    omega)
end Go.Proofs.YtgjmgneppecfgaaGreatDoor.Fo
namespace Go.Proofs.YtgjmgneppecfgaaGreatDoor.Fo
open Go.RowKit Go.Proofs.YtgjmgneppecfgaaGreatDoor.Va Go.Proofs.YtgjmgneppecfgaaGreatDoor.Ba Go.Proofs.YtgjmgneppecfgaaGreatDoor.Ma Go.Proofs.YtgjmgneppecfgaaGreatDoor.Pa
set_option linter.unusedVariables false
set_option linter.unusedSimpArgs false

def hexu (n : Nat) : Nat := if n < 10 then 48 + n else 55 + n
def hexSU : ByteArray := ⟨#[48, 49, 50, 51, 52, 53, 54, 55, 56, 57, 65, 66, 67, 68, 69, 70]⟩
theorem hexu_at (q : Nat) (h : q < 16) : bytesN (hexSU.extract q (q + 1)) = [hexu q] := by
  rw [Mb.bytesN_extract2]
  rcases (show q = 0 ∨ q = 1 ∨ q = 2 ∨ q = 3 ∨ q = 4 ∨ q = 5 ∨ q = 6 ∨ q = 7 ∨ q = 8 ∨ q = 9 ∨ q = 10 ∨ q = 11 ∨ q = 12 ∨ q = 13 ∨ q = 14 ∨ q = 15 by omega) with rfl | rfl | rfl | rfl | rfl | rfl | rfl | rfl | rfl | rfl | rfl | rfl | rfl | rfl | rfl | rfl <;> rfl
theorem hexu_lt (q : Nat) (h : q < 16) : hexu q < 256 := by unfold hexu; split <;> omega
/-- what a byte becomes in a URI -/
def escU (c : Nat) : List Nat := if freeB c then [c] else [37, hexu (c / 16), hexu (c % 16)]
def uriL (l : List Nat) : List Nat := l.flatMap escU
theorem escU_ok (c : Nat) (hc : c < 256) : (escU c).length ≤ 3 ∧ ∀ x ∈ escU c, x < 256 := by
  unfold escU
  split
  · exact ⟨by simp, fun x hx => by simp at hx; omega⟩
  · have h1 := hexu_lt (c / 16) (by omega)
    have h2 := hexu_lt (c % 16) (by omega)
    exact ⟨by simp, fun x hx => by simp at hx; rcases hx with rfl | rfl | rfl <;> omega⟩
theorem uriL_snoc (l : List Nat) (c : Nat) : uriL (l ++ [c]) = uriL l ++ escU c := by
  unfold uriL
  rw [List.flatMap_append]
  simp
theorem uriL_ok (l : List Nat) (hl : ∀ x ∈ l, x < 256) : (uriL l).length ≤ 3 * l.length ∧ ∀ x ∈ uriL l, x < 256 := by
  induction l with
  | nil => exact ⟨by simp [uriL], fun x hx => by simp [uriL] at hx⟩
  | cons a l ih =>
    have h1 := escU_ok a (hl a List.mem_cons_self)
    have h2 := ih (fun x hx => hl x (List.mem_cons_of_mem _ hx))
    have e : uriL (a :: l) = escU a ++ uriL l := by unfold uriL; rw [List.flatMap_cons]
    rw [e]
    refine ⟨by rw [List.length_append, List.length_cons]; omega, fun x hx => ?_⟩
    rcases List.mem_append.1 hx with hx | hx
    · exact h1.2 x hx
    · exact h2.2 x hx
def UriEnd (s : ByteArray) (w : World) (e : Ending) (w' : World) : Prop := e = .returned (.string (numS (uriL (bytesN s)))) ∧ Below w.heap.size w w'
def LoopU (s : ByteArray) (w : World) (ov iv : Value) (wr : World) : Prop :=
  ∃ i : Nat, ov = .string (numS (uriL ((bytesN s).take i))) ∧ iv = .int .i64 (i : Int) ∧ i ≤ s.size ∧ Below w.heap.size w wr
def LoopUk (o : ByteArray) (D : List Nat) (W : World) (ov kv : Value) (wr : World) : Prop :=
  ∃ j : Nat, ov = .string (o ++ numS (D.take j)) ∧ kv = .int .i64 (j : Int) ∧ j ≤ 2 ∧ W = wr
set_option maxHeartbeats 4000000 in
set_option maxRecDepth 100000 in
theorem escaped_any (s : ByteArray) (hs : s.size ≤ 1073741824) (w : World) : Calls Tryz.prog 117 #[.string s] w (UriEnd s w) := by
  go_enter Tryz.func117, Tryz.ntmps117
  go_wp2_with fail
  go_loopw [3, 4] (LoopU s w) (fun _ iv _ => s.size - (intOf iv).toNat)
  case atStart => exact ⟨0, rfl, rfl, Nat.zero_le _, Below.refl _ _⟩
  case round =>
    obtain ⟨i, rfl, rfl, hi, hb⟩ := hrel
    have HB := Lib.hid hb
    clear hb
    by_cases hlt : i < s.size
    · obtain ⟨x, hx⟩ : ∃ x, (bytesN s)[i]'(by rw [bytesN_len]; exact hlt) = x := ⟨_, rfl⟩
      have hbx : (s[i]'hlt).toNat = x := by rw [Ba.byte_at s i hlt, ← hx, List.getD, List.getElem?_eq_getElem (by rw [bytesN_len]; exact hlt)]; rfl
      have hx256 : x < 256 := by rw [← hx]; exact bytesN_lt s _ (List.getElem_mem _)
      obtain ⟨x1, hx1⟩ : ∃ x1, s.extract i (i + 1) = x1 := ⟨_, rfl⟩
      have b1 : x1 = numS [x] := by
        apply bytes_inj
        rw [← hx1, Mb.bytesN_extract2, List.drop_take, show i + 1 - i = 1 by omega, List.drop_eq_getElem_cons (by rw [bytesN_len]; exact hlt), hx, bytesN_numS' [x] (fun y hy => by simp at hy; omega)]
        rfl
      have HB1 := Lib.hid b1
      have htk : (bytesN s).take (i + 1) = (bytesN s).take i ++ [x] := by rw [List.take_succ_eq_append_getElem (by rw [bytesN_len]; exact hlt), hx]
      have hro := uriL_ok ((bytesN s).take i) (fun y hy => bytesN_lt s y (List.mem_of_mem_take hy))
      have hso := escU_ok x hx256
      have HNX : Hid (numS (uriL ((bytesN s).take i)) ++ numS (escU x) = numS (uriL ((bytesN s).take (i + 1)))) := Lib.hid (by rw [htk, uriL_snoc]; exact numS_app _ _ hro.2 hso.2)
      have hlen : (numS (uriL ((bytesN s).take i))).size ≤ 3221225472 := by
        have h1 := hro.1
        rw [List.length_take, bytesN_len] at h1
        rw [numS_size]
        omega
      have z1 : x1.size = 1 := by rw [b1, numS_size]; rfl
      clear hx b1 htk hro hso
      go_wp2_with fail
      refine (free_any x hx256 wr).mono ?_
      rintro e w1 ⟨rfl, rfl⟩
      cases hf : freeB x with
      | true =>
        have HE : Hid (escU x = [x]) := Lib.hid (by unfold escU; rw [hf]; rfl)
        have a1 : (numS (uriL ((bytesN s).take i))).size + x1.size ≤ 140737488355328 := by omega
        go_wp2_with fail
        go_roundw
        case rel => exact ⟨i + 1, by have h := HNX.out; rw [HE.out, ← HB1.out] at h; rw [h], by push_cast; rfl, hlt, HB.out⟩
        case measure => simp [intOf]; omega
      | false =>
        have HE : Hid (escU x = [37, hexu (x / 16), hexu (x % 16)]) := Lib.hid (by unfold escU; rw [hf]; rfl)
        obtain ⟨q, hq⟩ : ∃ q, x / 16 = q := ⟨_, rfl⟩
        obtain ⟨r, hr⟩ : ∃ r, x % 16 = r := ⟨_, rfl⟩
        have hq16 : q < 16 := by omega
        have hr16 : r < 16 := by omega
        have d1 : (x : Int) / 16 = (q : Int) := by omega
        have d2 : (x : Int) % 16 = (r : Int) := by omega
        have d3 : (x : Int).tdiv 16 = (q : Int) := by rw [Int.tdiv_eq_ediv_of_nonneg (by omega)]; omega
        have d4 : (x : Int).tmod 16 = (r : Int) := by rw [Int.tmod_eq_emod_of_nonneg (by omega)]; omega
        have a1 : (numS (uriL ((bytesN s).take i))).size + (⟨#[37]⟩ : ByteArray).size ≤ 140737488355328 := by show _ + 1 ≤ _; omega
        go_wp2_with fail
        go_region
        generalize hW : World.drew _ = W
        have HBW := Lib.hid (hW ▸ (HB.out.trans ((below_alloc wr _).mono HB.out.size)).drew : Below w.heap.size w W)
        have hc0 : W.cell? ⟨wr.heap.size, 0, none⟩ = some (.int .u8 (q : Int)) := hW ▸ (cells2 (block_new wr #[.int .u8 (q : Int), .int .u8 (r : Int)] 5)).1.1
        have hc1 : W.cell? ⟨wr.heap.size, 1, none⟩ = some (.int .u8 (r : Int)) := hW ▸ (cells2 (block_new wr #[.int .u8 (q : Int), .int .u8 (r : Int)] 5)).1.2
        clear hW
        obtain ⟨o, ho⟩ : ∃ o, numS (uriL ((bytesN s).take i)) ++ (⟨#[37]⟩ : ByteArray) = o := ⟨_, rfl⟩
        have HO := Lib.hid ho
        have hosz : o.size ≤ 3221225473 := by rw [← ho, ByteArray.size_append]; show _ + 1 ≤ _; omega
        try rw [ho]
        clear ho
        go_wp2_with fail
        go_loopw [3, 36] (LoopUk o [hexu q, hexu r] W) (fun _ kv _ => 2 - (intOf kv).toNat)
        case atStart => exact ⟨0, congrArg Value.string (bytes_inj (by rw [bytesN_app']; exact (List.append_nil _).symm)), rfl, by omega, rfl⟩
        case round =>
          obtain ⟨j, rfl, rfl, hj, rfl⟩ := hrel
          by_cases hj2 : j < 2
          · obtain ⟨d, hd, hcd, hd16⟩ : ∃ d, [q, r][j]? = some d ∧ W.cell? ⟨wr.heap.size, j, none⟩ = some (.int .u8 (d : Int)) ∧ d < 16 := by
              rcases (show j = 0 ∨ j = 1 by omega) with rfl | rfl
              · exact ⟨q, rfl, hc0, hq16⟩
              · exact ⟨r, rfl, hc1, hr16⟩
            clear hc0 hc1
            obtain ⟨x2, hx2⟩ : ∃ x2, hexSU.extract d (d + 1) = x2 := ⟨_, rfl⟩
            have b2 : bytesN x2 = [hexu d] := by rw [← hx2]; exact hexu_at d hd16
            have s2 : x2.size = 1 := by rw [← bytesN_len, b2]; rfl
            have hjl : (numS ([hexu q, hexu r].take j)).size ≤ 2 := by
              rw [numS_size, List.length_take]
              show min j 2 ≤ 2
              omega
            have a2 : (o ++ numS ([hexu q, hexu r].take j)).size + x2.size ≤ 140737488355328 := by rw [ByteArray.size_append]; omega
            have HN2 : Hid ((o ++ numS ([hexu q, hexu r].take j)) ++ x2 = o ++ numS ([hexu q, hexu r].take (j + 1))) := Lib.hid (by
              have hd2 : [hexu q, hexu r][j]? = some (hexu d) := by
                have h : ([q, r].map hexu)[j]? = some (hexu d) := by rw [List.getElem?_map, hd]; rfl
                exact h
              rw [List.take_add_one, hd2]
              have e2 : x2 = numS [hexu d] := bytes_inj (by rw [b2, bytesN_numS' _ (fun y hy => by simp at hy; rw [hy]; exact hexu_lt d hd16)])
              have hall : ∀ y ∈ [hexu q, hexu r].take j, y < 256 := fun y hy => by
                have h := List.mem_of_mem_take hy
                simp at h
                rcases h with rfl | rfl
                · exact hexu_lt _ hq16
                · exact hexu_lt _ hr16
              rw [e2, ByteArray.append_assoc, numS_app _ _ hall (fun y hy => by simp at hy; rw [hy]; exact hexu_lt d hd16)]
              rfl)
            have d5 : IntKind.u8.wrap ((d : Int) + 1) = (d : Int) + 1 := IntWalk.u8_in _ (by omega)
            have g1 : (0 : Int) ≤ (d : Int) := by omega
            have g2 : (d : Int) ≤ (d : Int) + 1 := by omega
            have g3 : (d : Int) + 1 ≤ 16 := by omega
            have g7 : ((d : Int) + 1).toNat = d + 1 := by omega
            unfold hexSU at hx2
            clear b2 s2 hjl hd d1 d2 d3 d4
            go_wp2_with fail
            try go_simp
            exact ⟨⟨j + 1, by rw [HN2.out], by push_cast; rfl, hj2, rfl⟩, by simp [intOf]; omega⟩
          · obtain rfl : j = 2 := by omega
            have HN3 : Hid (o ++ numS ([hexu q, hexu r].take 2) = numS (uriL ((bytesN s).take (i + 1)))) := Lib.hid (by
              have h := HNX.out
              rw [HE.out, hq, hr] at h
              rw [← h, ← HO.out, ByteArray.append_assoc]
              have hall : ∀ y ∈ [hexu q, hexu r], y < 256 := fun y hy => by
                simp at hy
                rcases hy with rfl | rfl
                · exact hexu_lt _ hq16
                · exact hexu_lt _ hr16
              exact congrArg _ (numS_app [37] [hexu q, hexu r] (by simp) hall))
            go_wp2_with fail
            try go_simp
            exact ⟨⟨i + 1, congrArg Value.string HN3.out, by push_cast; rfl, hlt, HBW.out⟩, by simp [intOf]; omega⟩
    · obtain rfl : i = s.size := by omega
      rw [List.take_of_length_le (by rw [bytesN_len]; exact Nat.le_refl _)]
      go_wp2_with fail
      go_returns
      exact ⟨rfl, HB.out⟩
end Go.Proofs.YtgjmgneppecfgaaGreatDoor.Fo
namespace Go.Proofs.YtgjmgneppecfgaaGreatDoor.Mc
open Go.RowKit Go.Proofs.YtgjmgneppecfgaaGreatDoor.Va Go.Proofs.YtgjmgneppecfgaaGreatDoor.Ba Go.Proofs.YtgjmgneppecfgaaGreatDoor.Ma Go.Proofs.YtgjmgneppecfgaaGreatDoor.Pa Go.Proofs.YtgjmgneppecfgaaGreatDoor.Fo
set_option linter.unusedVariables false
set_option linter.unusedSimpArgs false

/-- net/url's table -/
def urlL : List Nat := [0, 0, 0, 0, 0, 0, 0, 0, 0, 0, 0, 0, 0, 0, 0, 0, 0, 0, 0, 0, 0, 0, 0, 0, 0, 0, 0, 0, 0, 0, 0, 0, 0, 76, 12, 0, 95, 0, 95, 12, 76, 76, 76, 95, 93, 127, 127, 65, 255, 255, 255, 255, 255, 255, 255, 255, 255, 255, 79, 93, 12, 95, 12, 64, 67, 255, 255, 255, 255, 255, 255, 127, 127, 127, 127, 127, 127, 127, 127, 127, 127, 127, 127, 127, 127, 127, 127, 127, 127, 127, 127, 12, 0, 12, 0, 127, 0, 255, 255, 255, 255, 255, 255, 127, 127, 127, 127, 127, 127, 127, 127, 127, 127, 127, 127, 127, 127, 127, 127, 127, 127, 127, 127, 0, 0, 0, 127, 0, 0, 0, 0, 0, 0, 0, 0, 0, 0, 0, 0, 0, 0, 0, 0, 0, 0, 0, 0, 0, 0, 0, 0, 0, 0, 0, 0, 0, 0, 0, 0, 0, 0, 0, 0, 0, 0, 0, 0, 0, 0, 0, 0, 0, 0, 0, 0, 0, 0, 0, 0, 0, 0, 0, 0, 0, 0, 0, 0, 0, 0, 0, 0, 0, 0, 0, 0, 0, 0, 0, 0, 0, 0, 0, 0, 0, 0, 0, 0, 0, 0, 0, 0, 0, 0, 0, 0, 0, 0, 0, 0, 0, 0, 0, 0, 0, 0, 0, 0, 0, 0, 0, 0, 0, 0, 0, 0, 0, 0, 0, 0, 0, 0, 0, 0, 0, 0, 0, 0, 0, 0, 0, 0, 0, 0, 0, 0, 0]
def UrlTab (w : World) : Prop := 3 < w.heap.size ∧ ∀ c, c < 256 → w.cell? ⟨3, c, none⟩ = some (.int .u8 ((urlL.getD c 0 : Nat) : Int))
theorem UrlTab.below {w w' : World} (h : UrlTab w) (hb : Below w.heap.size w w') : UrlTab w' :=
  ⟨Nat.lt_of_lt_of_le h.1 hb.size, fun c hc => (hb.cell (p := ⟨3, c, none⟩) h.1).trans (h.2 c hc)⟩
theorem url_all : ∀ c : Fin 256, bits .and .u8 ((urlL.getD c 0 : Nat) : Int) 32 = (if freeB c then 32 else 0) := by decide +kernel
theorem url_bit (c : Nat) (hc : c < 256) : bits .and .u8 ((urlL.getD c 0 : Nat) : Int) 32 = (if freeB c then 32 else 0) := url_all ⟨c, hc⟩
def ShouldEnd (c : Nat) (w : World) (e : Ending) (w' : World) : Prop := e = .returned (.bool (!freeB c)) ∧ w = w'
set_option maxHeartbeats 2000000 in
theorem should_any (c : Nat) (hc : c < 256) (w : World) (hT : UrlTab w) : Calls Tryz.prog 265 #[.int .u8 (c : Int), .int .u8 32] w (ShouldEnd c w) := by
  have h0 := hT.2 c hc
  have h1 := url_bit c hc
  obtain ⟨t, ht⟩ : ∃ t, urlL.getD c 0 = t := ⟨_, rfl⟩
  rw [ht] at h0 h1
  clear hT ht
  cases hf : freeB c with
  | true =>
    rw [hf] at h1
    have h2 : bits .and .u8 (t : Int) 32 = 32 := h1
    clear h1
    go_enter Tryz.func265, Tryz.ntmps265
    go_wp2_with fail
    go_returns
    exact ⟨by rw [hf]; rfl, rfl⟩
  | false =>
    rw [hf] at h1
    have h2 : bits .and .u8 (t : Int) 32 = 0 := h1
    clear h1
    go_enter Tryz.func265, Tryz.ntmps265
    go_wp2_with fail
    go_returns
    exact ⟨by rw [hf]; rfl, rfl⟩
/-- what a byte becomes in a query -/
def escQ (c : Nat) : List Nat := if freeB c then [c] else if c = 32 then [43] else [37, hexu (c / 16), hexu (c % 16)]
def queryL (l : List Nat) : List Nat := l.flatMap escQ
def cntS (l : List Nat) : Nat := l.countP fun c => !freeB c && c == 32
def cntH (l : List Nat) : Nat := l.countP fun c => !freeB c && !(c == 32)
theorem queryL_snoc (l : List Nat) (c : Nat) : queryL (l ++ [c]) = queryL l ++ escQ c := by
  unfold queryL
  rw [List.flatMap_append]
  simp
theorem queryL_len (l : List Nat) : (queryL l).length = l.length + 2 * cntH l := by
  induction l with
  | nil => rfl
  | cons a l ih =>
    have e : queryL (a :: l) = escQ a ++ queryL l := by unfold queryL; rw [List.flatMap_cons]
    have h : cntH (a :: l) = cntH l + (if (!freeB a && !(a == 32)) = true then 1 else 0) := by unfold cntH; rw [List.countP_cons]
    rw [e, List.length_append, ih, h, List.length_cons]
    unfold escQ
    cases freeB a with
    | true => simp; omega
    | false =>
      by_cases h32 : a = 32
      · simp [h32]; omega
      · simp [h32]; omega
theorem queryL_same (l : List Nat) (h1 : cntS l = 0) (h2 : cntH l = 0) : queryL l = l := by
  induction l with
  | nil => rfl
  | cons a l ih =>
    have e : queryL (a :: l) = escQ a ++ queryL l := by unfold queryL; rw [List.flatMap_cons]
    have g1 : cntS (a :: l) = cntS l + (if (!freeB a && a == 32) = true then 1 else 0) := by unfold cntS; rw [List.countP_cons]
    have g2 : cntH (a :: l) = cntH l + (if (!freeB a && !(a == 32)) = true then 1 else 0) := by unfold cntH; rw [List.countP_cons]
    rw [g1] at h1
    rw [g2] at h2
    rw [e, ih (by omega) (by omega)]
    unfold escQ
    cases hf : freeB a with
    | true => rfl
    | false =>
      rw [hf] at h1 h2
      by_cases h32 : a = 32
      · simp [h32] at h1
      · simp [h32] at h2
/-- without a byte to be written as %XX -/
def spB (c : Nat) : Nat := if c = 32 then 43 else c
theorem queryL_sp (l : List Nat) (h2 : cntH l = 0) : queryL l = l.map spB := by
  induction l with
  | nil => rfl
  | cons a l ih =>
    have e : queryL (a :: l) = escQ a ++ queryL l := by unfold queryL; rw [List.flatMap_cons]
    have g2 : cntH (a :: l) = cntH l + (if (!freeB a && !(a == 32)) = true then 1 else 0) := by unfold cntH; rw [List.countP_cons]
    rw [g2] at h2
    rw [e, ih (by omega), List.map_cons]
    unfold escQ
    cases hf : freeB a with
    | true =>
      have h3 : a ≠ 32 := by
        intro h
        rw [h] at hf
        exact absurd hf (by decide)
      have hs : spB a = a := by unfold spB; rw [if_neg h3]
      rw [if_pos rfl, hs]
      rfl
    | false =>
      rw [hf] at h2
      by_cases h32 : a = 32
      · have hs : spB a = 43 := by unfold spB; rw [if_pos h32]
        rw [if_neg (by decide), if_pos h32, hs]
        rfl
      · simp [h32] at h2
theorem escQ_ok (c : Nat) (hc : c < 256) : ∀ x ∈ escQ c, x < 256 := by
  unfold escQ
  intro x hx
  split at hx
  · simp at hx; omega
  · split at hx
    · simp at hx; omega
    · have h1 := hexu_lt (c / 16) (by omega)
      have h2 := hexu_lt (c % 16) (by omega)
      simp at hx
      rcases hx with rfl | rfl | rfl <;> omega
theorem queryL_lt (l : List Nat) (h : ∀ x ∈ l, x < 256) : ∀ x ∈ queryL l, x < 256 := by
  intro x hx
  unfold queryL at hx
  obtain ⟨a, ha, hx⟩ := List.mem_flatMap.1 hx
  exact escQ_ok a (h a ha) x hx
/-- blanks as %20: the URI's form -/
theorem repl_app (P : List (Nat × List Nat)) (a b : List Nat) : repl P (a ++ b) = repl P a ++ repl P b := by unfold repl; rw [List.flatMap_append]
theorem esc_all : ∀ c : Fin 256, repl [(43, [37, 50, 48])] (escQ c) = escU c := by decide +kernel
theorem repl_query (l : List Nat) (h : ∀ x ∈ l, x < 256) : repl [(43, [37, 50, 48])] (queryL l) = uriL l := by
  induction l with
  | nil => rfl
  | cons a l ih =>
    have e : queryL (a :: l) = escQ a ++ queryL l := by unfold queryL; rw [List.flatMap_cons]
    have e2 : uriL (a :: l) = escU a ++ uriL l := by unfold uriL; rw [List.flatMap_cons]
    rw [e, e2, repl_app, ih (fun x hx => h x (List.mem_cons_of_mem _ hx))]
    congr 1
    exact esc_all ⟨a, h a List.mem_cons_self⟩
end Go.Proofs.YtgjmgneppecfgaaGreatDoor.Mc
