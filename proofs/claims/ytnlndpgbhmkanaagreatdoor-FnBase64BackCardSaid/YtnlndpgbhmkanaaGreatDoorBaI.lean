/-
  THE WALK of base64's Decode, without padding.
-/
import Derived.Test.YtnlndpgbhmkanaaGreatDoorBaH
namespace Go.Proofs.YtnlndpgbhmkanaaGreatDoor.Ba
open Go.RowKit Go.Proofs.YtnlndpgbhmkanaaGreatDoor.Va
set_option linter.unusedVariables false
set_option linter.unusedSimpArgs false

/-- what has been decoded so far: from place s on it goes on -/
structure DS (l : List Nat) (n N db : Nat) (w : World) (s : Nat) (out : List Nat) (wr : World) : Prop where
  le : s ≤ n
  few : 4 * out.length ≤ 3 * s
  run : ∃ F, n + 1 ≤ s + F ∧ runD l (n + 1) 0 [] = runD l F s out
  row : ∃ g, wr.rowIs db 5 N g ∧ ∀ j, j < out.length → g j = .int .u8 ((out.getD j 0 : Nat) : Int)
  grown : w.grownBy wr (some db)
def DecEnd (l : List Nat) (n N db : Nat) (w : World) (e : Ending) (w' : World) : Prop :=
  ∃ (out : List Nat) (ok : Bool) (ev : Value), runD l (n + 1) 0 [] = (out, ok) ∧ out.length ≤ N ∧ e = .returned (.tuple #[.int .i64 ((out.length : Nat) : Int), ev]) ∧ ((ok = true ∧ ev = .nilIface) ∨ (ok = false ∧ ∃ v, ev = .iface 285 v)) ∧
    (∃ g, w'.rowIs db 5 N g ∧ ∀ j, j < out.length → g j = .int .u8 ((out.getD j 0 : Nat) : Int)) ∧ w.grownBy w' (some db)
def LoopD (l : List Nat) (n N db : Nat) (w : World) (nv ev sv : Value) (wr : World) : Prop :=
  ∃ (s : Nat) (out : List Nat), nv = .int .i64 ((out.length : Nat) : Int) ∧ ev = .nilIface ∧ sv = .int .i64 (s : Int) ∧ DS l n N db w s out wr
theorem gr_trans {a b c : World} {row : Option Nat} (h : a.grownBy b row) (k : b.grownBy c row) : a.grownBy c row :=
  ⟨k.os.trans h.os, k.tape.trans h.tape, k.output.trans h.output, Nat.le_trans h.size k.size, fun i hi hne => (k.block i (Nat.lt_of_lt_of_le hi h.size) hne).trans (h.block i hi hne)⟩
section
variable {l : List Nat} {n N db s : Nat} {out : List Nat} {w wr w' : World}
theorem DS.room (h : DS l n N db w s out wr) (hN : N = n / 4 * 3 + n % 4 * 6 / 8) : out.length ≤ N := by
  have h1 := h.few
  have h2 := h.le
  omega
/-- enough room for what a quantum gives -/
theorem DS.fit (h : DS l n N db w s out wr) (hl : l.length = n) (hN : N = n / 4 * 3 + n % 4 * 6 / 8) : ∀ s' ds', quant l (n + 2 - s) s [] = .done s' ds' → ds'.length ≤ N - out.length + 1 := by
  intro s' ds' hq
  have := quant_ok l (n + 2 - s) s [] (by rw [hl]; exact h.le) (by simp) (by simp)
  rw [hq] at this
  obtain ⟨a1, a2, _, a4, a5, _⟩ := this
  have h1 := h.few
  have h2 := h.le
  simp at a1
  omega
theorem DS.step (h : DS l n N db w s out wr) (hl : l.length = n) (hs : s < n) {s' : Nat} {ds : List Nat} (hq : quant l (n + 2 - s) s [] = .done s' ds) : (∃ F, n + 1 ≤ s' + F ∧ runD l (n + 1) 0 [] = runD l F s' (out ++ decD ds)) ∧ s + ds.length ≤ s' ∧ s' ≤ n ∧ 2 ≤ ds.length ∧ ds.length ≤ 4 := by
  have := quant_ok l (n + 2 - s) s [] (by rw [hl]; exact h.le) (by simp) (by simp)
  rw [hq] at this
  obtain ⟨a1, a2, _, a4, a5, _⟩ := this
  simp at a1
  obtain ⟨F, hF, hr⟩ := h.run
  obtain ⟨f, rfl⟩ : ∃ f, F = f + 1 := ⟨F - 1, by omega⟩
  refine ⟨⟨f, by omega, ?_⟩, a1, by omega, a4, a5⟩
  rw [hr, runD_step (by omega) (by rw [hl]; exact hq)]
theorem decD_len {ds : List Nat} (h : 2 ≤ ds.length) (h4 : ds.length ≤ 4) : (decD ds).length = ds.length - 1 := by
  match ds, h, h4 with
  | [a, b], _, _ => rfl
  | [a, b, c], _, _ => rfl
  | [a, b, c, d], _, _ => rfl
theorem out_more {g : Nat → Value} {out bs : List Nat} (h : ∀ j, j < out.length → g j = .int .u8 ((out.getD j 0 : Nat) : Int)) : ∀ j, j < (out ++ bs).length → putF g out.length bs j = .int .u8 (((out ++ bs).getD j 0 : Nat) : Int) := by
  intro j hj
  rw [List.length_append] at hj
  unfold putF
  by_cases c : j < out.length
  · rw [if_neg (by omega), h j c, List.getD, List.getD, List.getElem?_append_left c]
  · rw [if_pos (by omega), List.getD, List.getD, List.getElem?_append_right (by omega)]
/-- a quantum was decoded -/
theorem DS.done (h : DS l n N db w s out wr) (hl : l.length = n) (hs : s < n) {s' : Nat} {ds : List Nat} (hq : quant l (n + 2 - s) s [] = .done s' ds) {g : Nat → Value} (hrow : w'.rowIs db 5 N (putF g out.length (decD ds)))
    (hg : ∀ j, j < out.length → g j = .int .u8 ((out.getD j 0 : Nat) : Int)) (hgr : wr.grownBy w' (some db)) : DS l n N db w s' (out ++ decD ds) w' := by
  obtain ⟨hr, a1, a2, a3, a4⟩ := h.step hl hs hq
  have hf := h.few
  exact ⟨a2, by rw [List.length_append, decD_len a3 a4]; omega, hr, ⟨_, hrow, out_more hg⟩, gr_trans h.grown hgr⟩
theorem DS.nothing (h : DS l n N db w s out wr) (hl : l.length = n) (hs : s < n) {s' : Nat} (hq : quant l (n + 2 - s) s [] = .nothing s') {g : Nat → Value} (hrow : w'.rowIs db 5 N g)
    (hg : ∀ j, j < out.length → g j = .int .u8 ((out.getD j 0 : Nat) : Int)) (hgr : wr.grownBy w' (some db)) : DS l n N db w s' out w' := by
  have := quant_ok l (n + 2 - s) s [] (by rw [hl]; exact h.le) (by simp) (by simp)
  rw [hq] at this
  obtain ⟨a1, a2, _⟩ := this
  obtain ⟨F, hF, hr⟩ := h.run
  obtain ⟨f, rfl⟩ : ∃ f, F = f + 1 := ⟨F - 1, by omega⟩
  have hf := h.few
  refine ⟨by omega, by omega, ⟨f, by omega, ?_⟩, ⟨g, hrow, hg⟩, gr_trans h.grown hgr⟩
  rw [hr]
  conv => lhs; unfold runD
  rw [if_neg (by omega), hl, hq]
theorem DS.bad (h : DS l n N db w s out wr) (hl : l.length = n) (hs : s < n) {s' : Nat} (hq : quant l (n + 2 - s) s [] = .bad s') : runD l (n + 1) 0 [] = (out, false) := by
  obtain ⟨F, hF, hr⟩ := h.run
  obtain ⟨f, rfl⟩ : ∃ f, F = f + 1 := ⟨F - 1, by omega⟩
  rw [hr]
  unfold runD
  rw [if_neg (by omega), hl, hq]
theorem DS.end (h : DS l n N db w s out wr) (hl : l.length = n) (hs : n ≤ s) : runD l (n + 1) 0 [] = (out, true) := by
  obtain ⟨F, hF, hr⟩ := h.run
  have := h.le
  obtain ⟨f, rfl⟩ : ∃ f, F = f + 1 := ⟨F - 1, by omega⟩
  rw [hr, runD_end (by omega)]
/-- four letters -/
theorem DS.four (h : DS l n N db w s out wr) (hl : l.length = n) {a b c d : Nat} (ha : l[s]? = some a) (hb : l[s + 1]? = some b) (hc : l[s + 2]? = some c) (hd : l[s + 3]? = some d) (h0 : dc a < 64) (h1 : dc b < 64) (h2 : dc c < 64) (h3 : dc d < 64) :
    (∃ F, n + 1 ≤ s + 4 + F ∧ runD l (n + 1) 0 [] = runD l F (s + 4) (out ++ decD [dc a, dc b, dc c, dc d])) ∧ s + 4 ≤ n := by
  have hs : s + 3 < l.length := (List.getElem?_eq_some_iff.1 hd).1
  obtain ⟨hr, _, a2, _⟩ := h.step hl (by omega) (quant_4 ha hb hc hd h0 h1 h2 h3 (by omega))
  exact ⟨hr, a2⟩
theorem run_four (h : ∃ F, n + 1 ≤ s + F ∧ runD l (n + 1) 0 [] = runD l F s out) (hl : l.length = n) {a b c d : Nat} (ha : l[s]? = some a) (hb : l[s + 1]? = some b) (hc : l[s + 2]? = some c) (hd : l[s + 3]? = some d) (h0 : dc a < 64) (h1 : dc b < 64) (h2 : dc c < 64) (h3 : dc d < 64) :
    ∃ F, n + 1 ≤ s + 4 + F ∧ runD l (n + 1) 0 [] = runD l F (s + 4) (out ++ decD [dc a, dc b, dc c, dc d]) := by
  have hs : s + 3 < l.length := (List.getElem?_eq_some_iff.1 hd).1
  obtain ⟨F, hF, hr⟩ := h
  obtain ⟨f, rfl⟩ : ∃ f, F = f + 1 := ⟨F - 1, by omega⟩
  exact ⟨f, by omega, by rw [hr, runD_step (by omega) (quant_4 ha hb hc hd h0 h1 h2 h3 (by omega))]⟩
/-- the row as far as it counts -/
theorem out_put {g : Nat → Value} {out bs cs : List Nat} (h : ∀ j, j < out.length → g j = .int .u8 ((out.getD j 0 : Nat) : Int)) : ∀ j, j < (out ++ bs).length → putF g out.length (bs ++ cs) j = .int .u8 (((out ++ bs).getD j 0 : Nat) : Int) := by
  intro j hj
  have := out_more (bs := bs ++ cs) h j (by simp only [List.length_append] at hj ⊢; omega)
  rw [this, ← List.append_assoc, List.getD, List.getD, List.getElem?_append_left hj]
end
theorem DS.start (l : List Nat) (n N db : Nat) (w : World) (g : Nat → Value) (h : w.rowIs db 5 N g) : DS l n N db w 0 [] w :=
  ⟨Nat.zero_le _, by simp, ⟨n + 1, by omega, rfl⟩, ⟨g, h, fun j hj => absurd hj (by simp)⟩, gr_refl w _⟩
end Go.Proofs.YtnlndpgbhmkanaaGreatDoor.Ba
