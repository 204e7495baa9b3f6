/-
  FnFormat, texts BaK BaQ BaF: lemmas for the law; the theorem stands in the last text.
-/
import Derived.Laws.RangeString
import Derived.LoopTactic
import Derived.Deep.LoopGhost
import Derived.Test.YtgjmgneppecfgaaGreatDoorJ03
namespace Go.Proofs.YtgjmgneppecfgaaGreatDoor.Ba
open Go.RowKit Go.Proofs.YtgjmgneppecfgaaGreatDoor.Va
set_option linter.unusedVariables false
set_option linter.unusedSimpArgs false

theorem byte_at (s : ByteArray) (i : Nat) (h : i < s.size) : (s[i]'h).toNat = (bytesN s).getD i 0 := by
  have hl : i < s.data.toList.length := by rw [← Lib.size_eq]; exact h
  unfold bytesN
  simp [List.getD, List.getElem?_map, List.getElem?_eq_getElem hl]
  rfl
theorem getD_mem {l : List Nat} {i : Nat} (h : i < l.length) : l.getD i 0 ∈ l := by
  rw [List.getD, List.getElem?_eq_getElem h]
  exact List.getElem_mem h
/-- where the first '=' is -/
def IdxEnd (s : ByteArray) (w : World) (e : Ending) (w' : World) : Prop :=
  ∃ p, p ≤ s.size ∧ (∀ j, j < p → (bytesN s).getD j 0 ≠ 61) ∧ ((p = s.size ∧ e = .returned (.int .i64 (-1))) ∨ (p < s.size ∧ (bytesN s).getD p 0 = 61 ∧ e = .returned (.int .i64 (p : Int)))) ∧ Below w.heap.size w w'
def LoopI (s : ByteArray) (w wr : World) : Prop := ∃ i, i ≤ s.size ∧ wr = w.iter s i ∧ ∀ j, j < i → (bytesN s).getD j 0 ≠ 61
set_option maxHeartbeats 2000000 in
set_option maxRecDepth 100000 in
theorem idx_any (s : ByteArray) (hs : s.size ≤ 4294967296) (ha : ∀ x ∈ bytesN s, x < 128) (w : World) : Calls Tryz.prog 158 #[.string s, .int .i32 61] w (IdxEnd s w) := by
  have HA := Lib.hid ha
  clear ha
  go_enter Tryz.func158, Tryz.ntmps158
  go_wp2_with fail
  go_loopw [5] (fun _ wr => LoopI s w wr) (fun _ wr => s.size - wr.iterPos w.heap.size)
  case atStart => exact ⟨0, Nat.zero_le _, rfl, fun j hj => absurd hj (by omega)⟩
  case round =>
    obtain ⟨i, hi, rfl, hno⟩ := hrel
    have HNO := Lib.hid hno
    clear hno
    have hmu : (w.iter s i).iterPos w.heap.size = i := by simp [World.iterPos, World.iter_heap]
    by_cases hlt : i < s.size
    · have h128 : (bytesN s).getD i 0 < 128 := HA.out _ (getD_mem (by rw [bytesN_len]; exact hlt))
      have hb := byte_at s i hlt
      have hnx := fun ty => run_next_ascii (P := Tryz.prog) w s i ty hlt (by rw [hb]; exact h128)
      rw [hb] at hnx
      clear hb
      obtain ⟨c, hc⟩ : ∃ c, (bytesN s).getD i 0 = c := ⟨_, rfl⟩
      rw [hc] at hnx h128
      have HC := Lib.hid hc
      clear hc
      have hmu2 : (w.iter s (i + 1)).iterPos w.heap.size = i + 1 := by simp [World.iterPos, World.iter_heap]
      by_cases h61 : c = 61
      · subst h61
        go_wp2_with fail
        go_returns
        exact ⟨i, hi, HNO.out, .inr ⟨hlt, HC.out, rfl⟩, below_alloc w _⟩
      · have hc1 : ((c : Int) == 61) = false := by simp; omega
        have hc2 : ¬ (c : Int) = 61 := by omega
        go_wp2_with fail
        go_roundw
        case rel => exact ⟨i + 1, hlt, rfl, fun j hj => by
          by_cases e : j = i
          · subst e; rw [HC.out]; exact h61
          · exact HNO.out j (by omega)⟩
        case measure => rw [hmu, hmu2]; omega
    · have hnx := fun ty => run_next_end (P := Tryz.prog) w s i ty hlt
      go_wp2_with fail
      go_returns
      exact ⟨i, hi, HNO.out, .inl ⟨by omega, rfl⟩, below_alloc w _⟩
end Go.Proofs.YtgjmgneppecfgaaGreatDoor.Ba
namespace Go.Proofs.YtgjmgneppecfgaaGreatDoor.Ba
set_option linter.unusedVariables false
set_option linter.unusedSimpArgs false

inductive QR where
  | done (si : Nat) (ds : List Nat)
  | nothing (si : Nat)
  | bad (si : Nat)
/-- up to four numbers are read, from a place on -/
def quant (l : List Nat) : Nat → Nat → List Nat → QR
  | 0, si, _ => .bad si
  | f + 1, si, ds => if ds.length = 4 then .done si ds else match l[si]? with
    | none => if ds.length = 0 then .nothing si else if ds.length = 1 then .bad si else .done si ds
    | some c => if dc c < 64 then quant l f (si + 1) (ds ++ [dc c]) else if c = 10 ∨ c = 13 then quant l f (si + 1) ds else .bad (si + 1)
/-- all of them -/
def runD (l : List Nat) : Nat → Nat → List Nat → List Nat × Bool
  | 0, _, out => (out, false)
  | f + 1, si, out => if l.length ≤ si then (out, true) else match quant l (l.length + 2 - si) si [] with
    | .done si' ds => runD l f si' (out ++ decD ds)
    | .nothing si' => runD l f si' out
    | .bad _ => (out, false)

theorem quant_four {l : List Nat} {f si : Nat} {ds : List Nat} (h : ds.length = 4) : quant l (f + 1) si ds = .done si ds := by
  unfold quant
  rw [if_pos h]
theorem quant_letter {l : List Nat} {f si c : Nat} {ds : List Nat} (h : ds.length ≠ 4) (hc : l[si]? = some c) (hd : dc c < 64) : quant l (f + 1) si ds = quant l f (si + 1) (ds ++ [dc c]) := by
  conv => lhs; unfold quant
  rw [if_neg h, hc]
  simp only [if_pos hd]
theorem quant_line {l : List Nat} {f si c : Nat} {ds : List Nat} (h : ds.length ≠ 4) (hc : l[si]? = some c) (hd : ¬ dc c < 64) (hn : c = 10 ∨ c = 13) : quant l (f + 1) si ds = quant l f (si + 1) ds := by
  conv => lhs; unfold quant
  rw [if_neg h, hc]
  simp only [if_neg hd, if_pos hn]
theorem quant_bad {l : List Nat} {f si c : Nat} {ds : List Nat} (h : ds.length ≠ 4) (hc : l[si]? = some c) (hd : ¬ dc c < 64) (hn : ¬ (c = 10 ∨ c = 13)) : quant l (f + 1) si ds = .bad (si + 1) := by
  unfold quant
  rw [if_neg h, hc]
  simp only [if_neg hd, if_neg hn]
theorem quant_end {l : List Nat} {f si : Nat} {ds : List Nat} (h : ds.length ≠ 4) (hc : l.length ≤ si) : quant l (f + 1) si ds = if ds.length = 0 then .nothing si else if ds.length = 1 then .bad si else .done si ds := by
  unfold quant
  rw [if_neg h, List.getElem?_eq_none hc]
/-- what comes of a quantum lies within bounds -/
def QOk (l : List Nat) (si : Nat) (ds : List Nat) : QR → Prop
  | .done si' ds' => si + (ds'.length - ds.length) ≤ si' ∧ si' ≤ l.length ∧ ds.length ≤ ds'.length ∧ 2 ≤ ds'.length ∧ ds'.length ≤ 4 ∧ ∀ d ∈ ds', d < 64
  | .nothing si' => si ≤ si' ∧ si' = l.length ∧ ds = []
  | .bad si' => si ≤ si' ∧ si' ≤ l.length
theorem quant_ok (l : List Nat) : ∀ (f si : Nat) (ds : List Nat), si ≤ l.length → ds.length ≤ 4 → (∀ d ∈ ds, d < 64) → QOk l si ds (quant l f si ds)
  | 0, si, ds, h, _, _ => ⟨Nat.le_refl _, h⟩
  | f + 1, si, ds, h, h4, h64 => by
    by_cases e4 : ds.length = 4
    · rw [quant_four e4]
      exact ⟨by omega, h, Nat.le_refl _, by omega, h4, h64⟩
    · rcases Nat.lt_or_ge si l.length with hlt | hge
      · have hc := List.getElem?_eq_getElem hlt
        generalize l[si] = c at hc
        by_cases hd : dc c < 64
        · rw [quant_letter e4 hc hd]
          have := quant_ok l f (si + 1) (ds ++ [dc c]) hlt (by simp; omega) (fun d hm => by
            rcases List.mem_append.1 hm with q | q
            · exact h64 d q
            · simp at q; rw [q]; exact hd)
          cases e : quant l f (si + 1) (ds ++ [dc c]) with
          | done si' ds' =>
            rw [e] at this
            obtain ⟨a1, a2, a3, a4, a5, a6⟩ := this
            simp only [List.length_append, List.length_cons, List.length_nil] at a1 a3
            exact ⟨by omega, a2, by omega, a4, a5, a6⟩
          | nothing si' =>
            rw [e] at this
            exact absurd this.2.2 (by simp)
          | bad si' =>
            rw [e] at this
            exact ⟨by have := this.1; omega, this.2⟩
        · by_cases hn : c = 10 ∨ c = 13
          · rw [quant_line e4 hc hd hn]
            have := quant_ok l f (si + 1) ds hlt h4 h64
            cases e : quant l f (si + 1) ds with
            | done si' ds' =>
              rw [e] at this
              obtain ⟨a1, a2, a3, a4, a5, a6⟩ := this
              exact ⟨by omega, a2, a3, a4, a5, a6⟩
            | nothing si' =>
              rw [e] at this
              exact ⟨by have := this.1; omega, this.2⟩
            | bad si' =>
              rw [e] at this
              exact ⟨by have := this.1; omega, this.2⟩
          · rw [quant_bad e4 hc hd hn]
            exact ⟨Nat.le_succ _, hlt⟩
      · rw [quant_end e4 hge]
        have hsi : si = l.length := by omega
        by_cases h0 : ds.length = 0
        · rw [if_pos h0]
          exact ⟨Nat.le_refl _, hsi, List.eq_nil_of_length_eq_zero h0⟩
        · rw [if_neg h0]
          by_cases h1 : ds.length = 1
          · rw [if_pos h1]
            exact ⟨Nat.le_refl _, h⟩
          · rw [if_neg h1]
            exact ⟨by omega, h, Nat.le_refl _, by omega, h4, h64⟩
theorem quant_4 {l : List Nat} {f si a b c d : Nat} (ha : l[si]? = some a) (hb : l[si + 1]? = some b) (hc : l[si + 2]? = some c) (hd : l[si + 3]? = some d) (h0 : dc a < 64) (h1 : dc b < 64) (h2 : dc c < 64) (h3 : dc d < 64) (hf : 5 ≤ f) :
    quant l f si [] = .done (si + 4) [dc a, dc b, dc c, dc d] := by
  obtain ⟨g, rfl⟩ : ∃ g, f = g + 5 := ⟨f - 5, by omega⟩
  rw [quant_letter (by simp) ha h0, quant_letter (by simp) hb h1, quant_letter (by simp) hc h2, quant_letter (by simp) hd h3, quant_four (by simp)]
  rfl
theorem quant_2 {l : List Nat} {f si a b : Nat} (ha : l[si]? = some a) (hb : l[si + 1]? = some b) (hl : l.length = si + 2) (h0 : dc a < 64) (h1 : dc b < 64) (hf : 3 ≤ f) :
    quant l f si [] = .done (si + 2) [dc a, dc b] := by
  obtain ⟨g, rfl⟩ : ∃ g, f = g + 3 := ⟨f - 3, by omega⟩
  rw [quant_letter (by simp) ha h0, quant_letter (by simp) hb h1, quant_end (by simp) (by omega)]
  rfl
theorem quant_3 {l : List Nat} {f si a b c : Nat} (ha : l[si]? = some a) (hb : l[si + 1]? = some b) (hc : l[si + 2]? = some c) (hl : l.length = si + 3) (h0 : dc a < 64) (h1 : dc b < 64) (h2 : dc c < 64) (hf : 4 ≤ f) :
    quant l f si [] = .done (si + 3) [dc a, dc b, dc c] := by
  obtain ⟨g, rfl⟩ : ∃ g, f = g + 4 := ⟨f - 4, by omega⟩
  rw [quant_letter (by simp) ha h0, quant_letter (by simp) hb h1, quant_letter (by simp) hc h2, quant_end (by simp) (by omega)]
  rfl
theorem runD_step {l : List Nat} {f si si' : Nat} {out ds : List Nat} (h : si < l.length) (hq : quant l (l.length + 2 - si) si [] = .done si' ds) : runD l (f + 1) si out = runD l f si' (out ++ decD ds) := by
  conv => lhs; unfold runD
  rw [if_neg (by omega), hq]
theorem runD_end {l : List Nat} {f si : Nat} {out : List Nat} (h : l.length ≤ si) : runD l (f + 1) si out = (out, true) := by
  unfold runD
  rw [if_pos h]
/-- letters alone: all of them are decoded -/
theorem runD_letters {l : List Nat} (hl : ∀ c ∈ l, dc c < 64) : ∀ (m si F : Nat) (out : List Nat), l.length - si = m → si ≤ l.length → m % 4 ≠ 1 → l.length + 1 ≤ si + F → runD l F si out = (out ++ decD ((l.drop si).map dc), true) := by
  intro m
  induction m using Nat.strongRecOn with
  | _ m ih =>
    intro si F out hm hsi h4 hF
    obtain ⟨f, rfl⟩ : ∃ f, F = f + 1 := ⟨F - 1, by omega⟩
    have hget : ∀ i, i < l.length → ∃ c, l[i]? = some c ∧ dc c < 64 := fun i hi => ⟨l[i], List.getElem?_eq_getElem hi, hl _ (List.getElem_mem hi)⟩
    by_cases h0 : m = 0
    · rw [runD_end (by omega), List.drop_of_length_le (by omega)]
      simp [decD]
    · obtain ⟨a, ha, ha6⟩ := hget si (by omega)
      obtain ⟨b, hb, hb6⟩ := hget (si + 1) (by omega)
      have e0 : l.drop si = a :: l.drop (si + 1) := by rw [List.drop_eq_getElem_cons (by omega)]; congr 1; exact Option.some.inj ((List.getElem?_eq_getElem (by omega)).symm.trans ha)
      have e1 : l.drop (si + 1) = b :: l.drop (si + 2) := by rw [List.drop_eq_getElem_cons (by omega)]; congr 1; exact Option.some.inj ((List.getElem?_eq_getElem (by omega)).symm.trans hb)
      by_cases h2 : m = 2
      · rw [runD_step (by omega) (quant_2 ha hb (by omega) ha6 hb6 (by omega))]
        obtain ⟨g, rfl⟩ : ∃ g, f = g + 1 := ⟨f - 1, by omega⟩
        rw [runD_end (by omega), e0, e1, List.drop_of_length_le (by omega)]
        rfl
      · obtain ⟨c, hc, hc6⟩ := hget (si + 2) (by omega)
        have e2 : l.drop (si + 2) = c :: l.drop (si + 3) := by rw [List.drop_eq_getElem_cons (by omega)]; congr 1; exact Option.some.inj ((List.getElem?_eq_getElem (by omega)).symm.trans hc)
        by_cases h3 : m = 3
        · rw [runD_step (by omega) (quant_3 ha hb hc (by omega) ha6 hb6 hc6 (by omega))]
          obtain ⟨g, rfl⟩ : ∃ g, f = g + 1 := ⟨f - 1, by omega⟩
          rw [runD_end (by omega), e0, e1, e2, List.drop_of_length_le (by omega)]
          rfl
        · obtain ⟨d, hd, hd6⟩ := hget (si + 3) (by omega)
          have e3 : l.drop (si + 3) = d :: l.drop (si + 4) := by rw [List.drop_eq_getElem_cons (by omega)]; congr 1; exact Option.some.inj ((List.getElem?_eq_getElem (by omega)).symm.trans hd)
          rw [runD_step (by omega) (quant_4 ha hb hc hd ha6 hb6 hc6 hd6 (by omega)), ih (m - 4) (by omega) (si + 4) f _ (by omega) (by omega) (by omega) (by omega), e0, e1, e2, e3]
          simp [decD, List.append_assoc]
end Go.Proofs.YtgjmgneppecfgaaGreatDoor.Ba
namespace Go.Proofs.YtgjmgneppecfgaaGreatDoor.Ba
open Go.RowKit Go.Proofs.YtgjmgneppecfgaaGreatDoor.Va
set_option linter.unusedVariables false
set_option linter.unusedSimpArgs false

def putF (f : Nat → Value) (q : Nat) (bs : List Nat) (j : Nat) : Value := if q ≤ j ∧ j < q + bs.length then .int .u8 ((bs.getD (j - q) 0 : Nat) : Int) else f j
def QEnd (l : List Nat) (n si db q N : Nat) (f : Nat → Value) (w : World) (e : Ending) (w' : World) : Prop :=
  w.grownBy w' (some db) ∧ ∃ r, quant l (n + 2 - si) si [] = r ∧ match r with
    | .done si' ds => e = .returned (.tuple #[.int .i64 (si' : Int), .int .i64 ((ds.length - 1 : Nat) : Int), .nilIface]) ∧ w'.rowIs db 5 N (putF f q (decD ds))
    | .nothing si' => e = .returned (.tuple #[.int .i64 (si' : Int), .int .i64 0, .nilIface]) ∧ w'.rowIs db 5 N f
    | .bad si' => ∃ v, e = .returned (.tuple #[.int .i64 (si' : Int), .int .i64 0, .iface 285 v]) ∧ w'.rowIs db 5 N f
def bufF (ds : List Nat) (i : Nat) : Value := .int .u8 ((ds.getD i 0 : Nat) : Int)
theorem bufF_snoc (ds : List Nat) (d i : Nat) : (if i = ds.length then .int .u8 (d : Int) else bufF ds i) = bufF (ds ++ [d]) i := by
  unfold bufF
  by_cases e : i = ds.length
  · rw [if_pos e, e, List.getD, List.getElem?_append_right (Nat.le_refl _), Nat.sub_self]
    rfl
  · rw [if_neg e]
    rcases Nat.lt_or_ge i ds.length with h | h
    · rw [List.getD, List.getD, List.getElem?_append_left h]
    · rw [List.getD, List.getD, List.getElem?_eq_none h, List.getElem?_eq_none (by simp; omega)]
def LoopQ (l : List Nat) (n si : Nat) (w : World) (gh : Nat) (sv ev lv jv : Value) (wr : World) : Prop :=
  ∃ (s : Nat) (ds : List Nat), ev = .nilIface ∧ lv = .int .i64 4 ∧ sv = .int .i64 (s : Int) ∧ jv = .int .i64 ((ds.length : Nat) : Int) ∧ ds.length ≤ 4 ∧ (∀ d ∈ ds, d < 64) ∧ s ≤ n ∧ n + 2 ≤ s + gh ∧ quant l (n + 2 - si) si [] = quant l gh s ds ∧ wr.rowIs w.heap.size 284 4 (bufF ds) ∧ Below w.heap.size w wr
theorem LoopQ.next {l : List Nat} {n si s gh : Nat} {ds' : List Nat} {w w' : World} (hs : s < n) (hg : n + 2 ≤ s + (gh + 1)) (hl : ds'.length ≤ 4) (h64 : ∀ d ∈ ds', d < 64) (hq : quant l (n + 2 - si) si [] = quant l gh (s + 1) ds')
    (hr : w'.rowIs w.heap.size 284 4 (bufF ds')) (hb : Below w.heap.size w w') : LoopQ l n si w gh (.int .i64 ((s : Int) + 1)) .nilIface (.int .i64 4) (.int .i64 ((ds'.length : Nat) : Int)) w' :=
  ⟨s + 1, ds', rfl, rfl, rfl, rfl, hl, h64, hs, by omega, hq, hr, hb⟩

theorem gr_below {w w' : World} (h : Below w.heap.size w w') (row : Option Nat) : w.grownBy w' row := ⟨h.os, h.tape, h.output, h.size, fun k hk _ => h.block k hk⟩
theorem gr_new {w w' : World} {row : Option Nat} {g : Nat} (h : w.grownBy w' row) (hg : w.heap.size ≤ g) (j : Nat) (v : Value) : w.grownBy (w'.setCell ⟨g, j, none⟩ v) row :=
  ⟨h.os, h.tape, h.output, by simpa using h.size, fun k hk hne => (heap_setCell_other _ _ k _ (by show k ≠ g; omega)).trans (h.block k hk hne)⟩
theorem putF_1 (f : Nat → Value) (q j x0 : Nat) : (if j = q then .int .u8 (x0 : Int) else f j) = putF f q [x0] j := by
  unfold putF
  by_cases c0 : j = q
  · rw [if_pos c0, if_pos (by simp; omega), c0, Nat.sub_self]; rfl
  · rw [if_neg c0, if_neg (by simp; omega)]
theorem putF_2 (f : Nat → Value) (q j x0 x1 : Nat) : (if j = q then .int .u8 (x0 : Int) else if j = q + 1 then .int .u8 (x1 : Int) else f j) = putF f q [x0, x1] j := by
  unfold putF
  by_cases c0 : j = q
  · rw [if_pos c0, if_pos (by simp; omega), c0, Nat.sub_self]; rfl
  · rw [if_neg c0]
    by_cases c1 : j = q + 1
    · rw [if_pos c1, if_pos (by simp; omega), c1, show q + 1 - q = 1 by omega]; rfl
    · rw [if_neg c1, if_neg (by simp; omega)]
theorem putF_3 (f : Nat → Value) (q j x0 x1 x2 : Nat) : (if j = q then .int .u8 (x0 : Int) else if j = q + 1 then .int .u8 (x1 : Int) else if j = q + 2 then .int .u8 (x2 : Int) else f j) = putF f q [x0, x1, x2] j := by
  unfold putF
  by_cases c0 : j = q
  · rw [if_pos c0, if_pos (by simp; omega), c0, Nat.sub_self]; rfl
  · rw [if_neg c0]
    by_cases c1 : j = q + 1
    · rw [if_pos c1, if_pos (by simp; omega), c1, show q + 1 - q = 1 by omega]; rfl
    · rw [if_neg c1]
      by_cases c2 : j = q + 2
      · rw [if_pos c2, if_pos (by simp; omega), c2, show q + 2 - q = 2 by omega]; rfl
      · rw [if_neg c2, if_neg (by simp; omega)]
section
variable {l : List Nat} {n si s db q N : Nat} {f : Nat → Value} {w w' : World}
theorem QEnd.bad (h : quant l (n + 2 - si) si [] = .bad s) (hb : Below w.heap.size w w') (hd : w.rowIs db 5 N f) (v : Value) : QEnd l n si db q N f w (.returned (.tuple #[.int .i64 (s : Int), .int .i64 0, .iface 285 v])) w' :=
  ⟨gr_below hb _, _, h, v, rfl, hd.of_block (hb.block db hd.lt)⟩
theorem QEnd.nothing (h : quant l (n + 2 - si) si [] = .nothing s) (hb : Below w.heap.size w w') (hd : w.rowIs db 5 N f) : QEnd l n si db q N f w (.returned (.tuple #[.int .i64 (s : Int), .int .i64 0, .nilIface])) w' :=
  ⟨gr_below hb _, _, h, rfl, hd.of_block (hb.block db hd.lt)⟩
theorem QEnd.done {ds : List Nat} {m : Nat} (h : quant l (n + 2 - si) si [] = .done s ds) (hm : ds.length = m + 1) (hg : w.grownBy w' (some db)) (hd : w'.rowIs db 5 N (putF f q (decD ds))) : QEnd l n si db q N f w (.returned (.tuple #[.int .i64 (s : Int), .int .i64 (m : Int), .nilIface])) w' :=
  ⟨hg, _, h, by rw [hm]; rfl, hd⟩
end
theorem val4 {a b c d : Nat} (ha : a < 64) (hb : b < 64) (hc : c < 64) (hd : d < 64) : bits .or .u64 (bits .or .u64 (bits .or .u64 ((a : Int) * 262144) ((b : Int) * 4096)) ((c : Int) * 64)) (d : Int) = ((a * 262144 + b * 4096 + c * 64 + d : Nat) : Int) := by
  have o1 : a * 262144 ||| b * 4096 = a * 262144 + b * 4096 := or_add a (b * 4096) 18 (by omega)
  have o2 : (a * 262144 + b * 4096) ||| c * 64 = a * 262144 + b * 4096 + c * 64 := by
    have h := or_add (a * 64 + b) (c * 64) 12 (by omega)
    have e : (a * 64 + b) * 2 ^ 12 = a * 262144 + b * 4096 := by omega
    rwa [e] at h
  have o3 : (a * 262144 + b * 4096 + c * 64) ||| d = a * 262144 + b * 4096 + c * 64 + d := by
    have h := or_add (a * 4096 + b * 64 + c) d 6 (by omega)
    have e : (a * 4096 + b * 64 + c) * 2 ^ 6 = a * 262144 + b * 4096 + c * 64 := by omega
    rwa [e] at h
  have h1 := u64_or_nat (a * 262144) (b * 4096) (by omega) (by omega)
  have h2 := u64_or_nat (a * 262144 + b * 4096) (c * 64) (by omega) (by omega)
  have h3 := u64_or_nat (a * 262144 + b * 4096 + c * 64) d (by omega) (by omega)
  rw [o1] at h1
  rw [o2] at h2
  rw [o3] at h3
  have ea : (a : Int) * 262144 = ((a * 262144 : Nat) : Int) := by omega
  have eb : (b : Int) * 4096 = ((b * 4096 : Nat) : Int) := by omega
  have ec : (c : Int) * 64 = ((c * 64 : Nat) : Int) := by omega
  rw [ea, eb, ec, h1, h2, h3]

set_option maxHeartbeats 8000000 in
set_option maxRecDepth 100000 in
theorem quant_any (be sb db so q M Mc N n sc si : Nat) (f : Nat → Value) (l : List Nat) (hl : l.length = n) (h256 : ∀ x ∈ l, x < 256) (hn : n ≤ 2147483647) (hsi : si ≤ n) (hqM : q + M ≤ N) (hMc : M ≤ Mc) (hMc2 : Mc ≤ 9223372036854775807) (w : World)
    (hfit : ∀ si' ds', quant l (n + 2 - si) si [] = .done si' ds' → ds'.length ≤ M + 1)
    (he : w.rowIs be 197 322 (encF 64 (-1))) (hs : ∀ i, i < n → w.cell? ⟨sb, so + i, none⟩ = some (.int .u8 ((l.getD i 0 : Nat) : Int))) (hd : w.rowIs db 5 N f) (hbe : be ≠ db) (hbs : sb ≠ db) (hslt : sb < w.heap.size) :
    Calls Tryz.prog 224 #[.pointer (some ⟨be, 0, none⟩), .slice (some ⟨db, q, none⟩) M Mc, .slice (some ⟨sb, so, none⟩) n sc, .int .i64 (si : Int)] w (QEnd l n si db q N f w) := by
  have HFIT := Lib.hid hfit
  have HE := Lib.hid he
  have HSR := Lib.hid hs
  have HD := Lib.hid hd
  have HLL := Lib.hid hl
  have H256 := Lib.hid h256
  have HBE := Lib.hid hbe
  have HBS := Lib.hid hbs
  clear hfit he hs hd hl h256 hbe hbs
  go_enter Tryz.func224, Tryz.ntmps224
  go_upto_region 2 with fail
  generalize hW : World.alloc w _ = W
  have H0 : Hid (W.rowIs w.heap.size 284 4 (bufF [])) := Lib.hid (hW ▸ World.rowIs_alloc w _ 284 (bufF []) (fun i hi => by
    match i, hi with
    | 0, _ => rfl
    | 1, _ => rfl
    | 2, _ => rfl
    | 3, _ => rfl))
  have B0 := Lib.hid (hW ▸ below_alloc w _ : Below w.heap.size w W)
  clear hW
  have HEW : Hid (W.rowIs be 197 322 (encF 64 (-1))) := Lib.hid (HE.out.of_block (B0.out.block be HE.out.lt))
  go_wp2_with (refine wpList_load_part rfl 83 (.tmp 19) rfl be 64 256 322 rfl 197 (encF 64 (-1)) HEW.out (by decide) _ Tryz.underlying83 rfl (by kernel_rfl) ?_; intro cs hcs hcz; clear hcs hcz)
  clear HEW
  go_loopg [3, 10, 12, 13] (n + 2 - si) (fun gh sv ev lv jv wr => LoopQ l n si w gh sv ev lv jv wr)
  case atStart => exact ⟨si, [], rfl, rfl, rfl, rfl, by simp, by simp, hsi, by omega, rfl, H0.out, B0.out⟩
  case round =>
    clear H0 B0
    obtain ⟨s, ds, rfl, rfl, rfl, rfl, h4, h64, hsn, hg, hq, hrow, hb⟩ := hrel
    have H64 := Lib.hid h64
    have HQ := Lib.hid hq
    have HR := Lib.hid hrow
    have HB := Lib.hid hb
    clear h64 hq hrow hb
    obtain ⟨j, hj⟩ : ∃ j, ds.length = j := ⟨_, rfl⟩
    rw [hj] at h4 ⊢
    have HJ := Lib.hid hj
    clear hj
    cases gk with
    | zero => omega
    | succ gh =>
      by_cases e4 : j = 4
      · subst e4
        have HQ2 := Lib.hid (HQ.out.trans (quant_four (f := gh) (by rw [HJ.out])))
        have hM := HFIT.out _ _ HQ2.out
        rw [HJ.out] at hM
        obtain ⟨a, b, c, d, rfl⟩ : ∃ a b c d, ds = [a, b, c, d] := by
          have := HJ.out
          match ds, this with
          | [a, b, c, d], _ => exact ⟨a, b, c, d, rfl⟩
        have ha := H64.out a (by simp)
        have hb := H64.out b (by simp)
        have hc := H64.out c (by simp)
        have hd := H64.out d (by simp)
        have g0 : wr.cell? ⟨w.heap.size, 0, none⟩ = some (.int .u8 (a : Int)) := HR.out.cell (i := 0) (by decide)
        have g1 : wr.cell? ⟨w.heap.size, 1, none⟩ = some (.int .u8 (b : Int)) := HR.out.cell (i := 1) (by decide)
        have g2 : wr.cell? ⟨w.heap.size, 2, none⟩ = some (.int .u8 (c : Int)) := HR.out.cell (i := 2) (by decide)
        have g3 : wr.cell? ⟨w.heap.size, 3, none⟩ = some (.int .u8 (d : Int)) := HR.out.cell (i := 3) (by decide)
        have p0 := HR.out.frozen 0
        have p1 := HR.out.frozen 1
        have p2 := HR.out.frozen 2
        have HDW := Lib.hid (HD.out.of_block (HB.out.block db HD.out.lt))
        obtain ⟨y0, hy0⟩ : ∃ y, f (q) = y := ⟨_, rfl⟩
        have o0 := HDW.out.cell (i := q) (by omega)
        rw [hy0] at o0
        have f0 := HDW.out.frozen (q)
        obtain ⟨y1, hy1⟩ : ∃ y, f (q + 1) = y := ⟨_, rfl⟩
        have o1 := HDW.out.cell (i := q + 1) (by omega)
        rw [hy1] at o1
        have f1 := HDW.out.frozen (q + 1)
        obtain ⟨y2, hy2⟩ : ∃ y, f (q + 2) = y := ⟨_, rfl⟩
        have o2 := HDW.out.cell (i := q + 2) (by omega)
        rw [hy2] at o2
        have f2 := HDW.out.frozen (q + 2)
        have hst := (HE.out.of_block (HB.out.block be HE.out.lt)).cell (i := 321) (by decide)
        rw [show encF 64 (-1) 321 = .bool false by rfl] at hst
        have hdD : db ≠ w.heap.size := by have := HD.out.lt; omega
        have hDd := Ne.symm hdD
        have hbD : be ≠ w.heap.size := by have := HE.out.lt; omega
        have hDb := Ne.symm hbD
        have hbe := HBE.out
        have hbe2 := Ne.symm hbe
        have hV := val4 ha hb hc hd
        obtain ⟨V, hVe⟩ : ∃ V, a * 262144 + b * 4096 + c * 64 + d = V := ⟨_, rfl⟩
        have hVl : V < 16777216 := by omega
        rw [hVe] at hV
        have HX0 : Hid ((V : Int) / 65536 = ((a * 4 + b / 16 : Nat) : Int)) := Lib.hid (by omega)
        have HX1 : Hid ((V : Int) / 256 % 256 = ((b % 16 * 16 + c / 4 : Nat) : Int)) := Lib.hid (by omega)
        have HX2 : Hid ((V : Int) % 256 = ((c % 4 * 64 + d : Nat) : Int)) := Lib.hid (by omega)
        clear hy0 hy1 hy2 hVe
        go_wp2_with fail
        go_returns
        refine QEnd.done (m := 3) HQ2.out rfl (gr_set (gr_new (gr_set (gr_new (gr_set (gr_new (gr_new (gr_new (gr_below HB.out _) (Nat.le_refl _) _ _) (Nat.le_refl _) _ _) (Nat.le_refl _) _ _) _ _) (Nat.le_refl _) _ _) _ _) (Nat.le_refl _) _ _) _ _) (((((((((HDW.out.setOther hdD _).setOther hdD _).setOther hdD _).set (q + 2) _).setOther hdD _).set (q + 1) _).setOther hdD _).set q _).congr fun j _ => ?_)
        rw [HX0.out, HX1.out, HX2.out]
        exact putF_3 _ _ _ _ _ _
      · have hj4 : j < 4 := by omega
        have hbe := HBE.out
        by_cases hlt : s < n
        · obtain ⟨c, hc⟩ : ∃ c, l.getD s 0 = c := ⟨_, rfl⟩
          have hlc : l[s]? = some c := by rw [← hc, List.getD, List.getElem?_eq_getElem (by rw [HLL.out]; exact hlt)]; rfl
          have HLC := Lib.hid hlc
          have hc256 := H256.out c (List.mem_of_getElem? hlc)
          have hcell : wr.cell? ⟨sb, so + s, none⟩ = some (.int .u8 (c : Int)) := by
            rw [← hc, ← HSR.out s hlt]; exact HB.out.cell (by exact hslt)
          have hdm : wr.cell? ⟨be, 64 + c, none⟩ = some (.int .u8 ((dc c : Nat) : Int)) := by
            have h1 := (HE.out.of_block (HB.out.block be HE.out.lt)).cell (i := 64 + c) (by omega)
            rw [h1]
            unfold encF
            rw [if_neg (by omega), if_pos (by omega), show 64 + c - 64 = c by omega]
            rcases dc_le c with q | q
            · rw [if_pos q]
            · rw [q]; rfl
          have HNE := Lib.hid (show ds.length ≠ 4 by rw [HJ.out]; exact e4)
          clear hc hlc
          by_cases hd : dc c < 64
          · have h1 := HR.out.cell (i := j) hj4
            have h2 := HR.out.frozen j
            have HQ2 := Lib.hid (HQ.out.trans (quant_letter HNE.out HLC.out hd))
            have HD6 := Lib.hid hd
            obtain ⟨d, hde⟩ : ∃ d, dc c = d := ⟨_, rfl⟩
            rw [hde] at hdm hd HQ2 HD6
            have R : Hid (LoopQ l n si w gh (.int .i64 ((s : Int) + 1)) .nilIface (.int .i64 4) (.int .i64 ((j : Int) + 1)) (wr.setCell ⟨w.heap.size, j, none⟩ (.int .u8 (d : Int)))) := Lib.hid (by
              have := LoopQ.next (gh := gh) (ds' := ds ++ [d]) (w := w) (w' := wr.setCell ⟨w.heap.size, j, none⟩ (.int .u8 (d : Int))) hlt hg (by rw [List.length_append, HJ.out]; exact hj4) (fun x hx => by
                rcases List.mem_append.1 hx with q | q
                · exact H64.out x q
                · simp at q; rw [q]; exact HD6.out) HQ2.out ((HR.out.set j _).congr fun i _ => by rw [← bufF_snoc, HJ.out]) (HB.out.setCell (by exact Nat.le_refl _) _)
              rw [List.length_append, HJ.out] at this
              exact this)
            have hd255 : ((d : Int) != 255) = true := by simp; omega
            clear hde
            go_wp2_with fail
            go_roundg gh
            case rel => exact R.out
            case measure => omega
          · have hd255 : dc c = 255 := by rcases dc_le c with q | q <;> omega
            rw [hd255] at hdm
            have hp := (HE.out.of_block (HB.out.block be HE.out.lt)).cell (i := 320) (by decide)
            rw [show encF 64 (-1) 320 = .int .i32 (-1) by rfl] at hp
            have HDN := Lib.hid hd
            clear hd hd255
            by_cases hnl : c = 10 ∨ c = 13
            · have HQ2 := Lib.hid (HQ.out.trans (quant_line HNE.out HLC.out HDN.out hnl))
              have R : Hid (LoopQ l n si w gh (.int .i64 ((s : Int) + 1)) .nilIface (.int .i64 4) (.int .i64 (j : Int)) wr) := Lib.hid (by
                have := LoopQ.next (gh := gh) (ds' := ds) (w := w) (w' := wr) hlt hg (by rw [HJ.out]; omega) H64.out HQ2.out HR.out HB.out
                rw [HJ.out] at this
                exact this)
              rcases hnl with rfl | rfl
              all_goals
                go_wp2_with fail
                go_roundg gh
                case rel => exact R.out
                case measure => omega
            · have HQ2 := Lib.hid (HQ.out.trans (quant_bad HNE.out HLC.out HDN.out hnl))
              have h10 : ((c : Int) == 10) = false := by simp; omega
              have h13 : ((c : Int) == 13) = false := by simp; omega
              have hm1 : ((c : Int) != -1) = true := by simp <;> omega
              clear hnl
              go_wp2_with fail
              go_returns
              exact QEnd.bad HQ2.out HB.out HD.out _
        · obtain rfl : s = n := by omega
          have HQ2 := Lib.hid (HQ.out.trans (quant_end (f := gh) (by rw [HJ.out]; exact e4) (by rw [HLL.out]; exact Nat.le_refl _)))
          rw [HJ.out] at HQ2
          have hp := (HE.out.of_block (HB.out.block be HE.out.lt)).cell (i := 320) (by decide)
          rw [show encF 64 (-1) 320 = .int .i32 (-1) by rfl] at hp
          by_cases h0 : j = 0
          · subst h0
            rw [if_pos rfl] at HQ2
            go_wp2_with fail
            go_returns
            exact QEnd.nothing HQ2.out HB.out HD.out
          by_cases h1 : j = 1
          · subst h1
            rw [if_neg (by decide), if_pos rfl] at HQ2
            go_wp2_with fail
            go_returns
            exact QEnd.bad HQ2.out HB.out HD.out _
          rw [if_neg h0, if_neg h1] at HQ2
          have hM := HFIT.out _ _ HQ2.out
          rw [HJ.out] at hM
          by_cases h2 : j = 2
          · subst h2
            clear h0 h1 e4
            obtain ⟨a, b, rfl⟩ : ∃ a b, ds = [a, b] := by
              have := HJ.out
              match ds, this with
              | [a, b], _ => exact ⟨a, b, rfl⟩
            have ha := H64.out a (by simp)
            have hb := H64.out b (by simp)
            have g0 : wr.cell? ⟨w.heap.size, 0, none⟩ = some (.int .u8 (a : Int)) := HR.out.cell (i := 0) (by decide)
            have g1 : wr.cell? ⟨w.heap.size, 1, none⟩ = some (.int .u8 (b : Int)) := HR.out.cell (i := 1) (by decide)
            have g2 : wr.cell? ⟨w.heap.size, 2, none⟩ = some (.int .u8 0) := HR.out.cell (i := 2) (by decide)
            have g3 : wr.cell? ⟨w.heap.size, 3, none⟩ = some (.int .u8 0) := HR.out.cell (i := 3) (by decide)
            have p0 := HR.out.frozen 0
            have p1 := HR.out.frozen 1
            have p2 := HR.out.frozen 2
            have HDW := Lib.hid (HD.out.of_block (HB.out.block db HD.out.lt))
            obtain ⟨y0, hy0⟩ : ∃ y, f (q) = y := ⟨_, rfl⟩
            have o0 := HDW.out.cell (i := q) (by omega)
            rw [hy0] at o0
            have f0 := HDW.out.frozen (q)
            have hst := (HE.out.of_block (HB.out.block be HE.out.lt)).cell (i := 321) (by decide)
            rw [show encF 64 (-1) 321 = .bool false by rfl] at hst
            have hdD : db ≠ w.heap.size := by have := HD.out.lt; omega
            have hDd := Ne.symm hdD
            have hbD : be ≠ w.heap.size := by have := HE.out.lt; omega
            have hDb := Ne.symm hbD
            have hbe2 := Ne.symm hbe
            have hV := val4 ha hb (show 0 < 64 by decide) (show 0 < 64 by decide)
            rw [show ((0 : Nat) : Int) = 0 from rfl, Int.zero_mul, Nat.zero_mul, Nat.add_zero] at hV
            obtain ⟨V, hVe⟩ : ∃ V, a * 262144 + b * 4096 = V := ⟨_, rfl⟩
            have hVl : V < 16777216 := by omega
            rw [hVe] at hV
            have HX0 : Hid ((V : Int) / 65536 = ((a * 4 + b / 16 : Nat) : Int)) := Lib.hid (by omega)
            clear hy0 hVe
            go_wp2_with fail
            go_returns
            refine QEnd.done (m := 1) HQ2.out rfl (gr_set (gr_new (gr_new (gr_new (gr_below HB.out _) (Nat.le_refl _) _ _) (Nat.le_refl _) _ _) (Nat.le_refl _) _ _) _ _) (((((HDW.out.setOther hdD _).setOther hdD _).setOther hdD _).set q _).congr fun j _ => ?_)
            rw [HX0.out]
            exact putF_1 _ _ _ _
          · obtain rfl : j = 3 := by omega
            clear h0 h1 h2 e4
            obtain ⟨a, b, c, rfl⟩ : ∃ a b c, ds = [a, b, c] := by
              have := HJ.out
              match ds, this with
              | [a, b, c], _ => exact ⟨a, b, c, rfl⟩
            have ha := H64.out a (by simp)
            have hb := H64.out b (by simp)
            have hc := H64.out c (by simp)
            have g0 : wr.cell? ⟨w.heap.size, 0, none⟩ = some (.int .u8 (a : Int)) := HR.out.cell (i := 0) (by decide)
            have g1 : wr.cell? ⟨w.heap.size, 1, none⟩ = some (.int .u8 (b : Int)) := HR.out.cell (i := 1) (by decide)
            have g2 : wr.cell? ⟨w.heap.size, 2, none⟩ = some (.int .u8 (c : Int)) := HR.out.cell (i := 2) (by decide)
            have g3 : wr.cell? ⟨w.heap.size, 3, none⟩ = some (.int .u8 0) := HR.out.cell (i := 3) (by decide)
            have p0 := HR.out.frozen 0
            have p1 := HR.out.frozen 1
            have p2 := HR.out.frozen 2
            have HDW := Lib.hid (HD.out.of_block (HB.out.block db HD.out.lt))
            obtain ⟨y0, hy0⟩ : ∃ y, f (q) = y := ⟨_, rfl⟩
            have o0 := HDW.out.cell (i := q) (by omega)
            rw [hy0] at o0
            have f0 := HDW.out.frozen (q)
            obtain ⟨y1, hy1⟩ : ∃ y, f (q + 1) = y := ⟨_, rfl⟩
            have o1 := HDW.out.cell (i := q + 1) (by omega)
            rw [hy1] at o1
            have f1 := HDW.out.frozen (q + 1)
            have hst := (HE.out.of_block (HB.out.block be HE.out.lt)).cell (i := 321) (by decide)
            rw [show encF 64 (-1) 321 = .bool false by rfl] at hst
            have hdD : db ≠ w.heap.size := by have := HD.out.lt; omega
            have hDd := Ne.symm hdD
            have hbD : be ≠ w.heap.size := by have := HE.out.lt; omega
            have hDb := Ne.symm hbD
            have hbe2 := Ne.symm hbe
            have hV := val4 ha hb hc (show 0 < 64 by decide)
            rw [show ((0 : Nat) : Int) = 0 from rfl, Nat.add_zero] at hV
            obtain ⟨V, hVe⟩ : ∃ V, a * 262144 + b * 4096 + c * 64 = V := ⟨_, rfl⟩
            have hVl : V < 16777216 := by omega
            rw [hVe] at hV
            have HX0 : Hid ((V : Int) / 65536 = ((a * 4 + b / 16 : Nat) : Int)) := Lib.hid (by omega)
            have HX1 : Hid ((V : Int) / 256 % 256 = ((b % 16 * 16 + c / 4 : Nat) : Int)) := Lib.hid (by omega)
            clear hy0 hy1 hVe
            go_wp2_with fail
            go_returns
            refine QEnd.done (m := 2) HQ2.out rfl (gr_set (gr_new (gr_set (gr_new (gr_new (gr_new (gr_below HB.out _) (Nat.le_refl _) _ _) (Nat.le_refl _) _ _) (Nat.le_refl _) _ _) _ _) (Nat.le_refl _) _ _) _ _) (((((((HDW.out.setOther hdD _).setOther hdD _).setOther hdD _).set (q + 1) _).setOther hdD _).set q _).congr fun j _ => ?_)
            rw [HX0.out, HX1.out]
            exact putF_2 _ _ _ _ _
end Go.Proofs.YtgjmgneppecfgaaGreatDoor.Ba
