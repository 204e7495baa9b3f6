/-
  MAPS: a new key is put into a map whose keys are texts; texts in their order.
-/
import Derived.Test.YtnlndpgbhmkanaaGreatDoorVaC
import Derived.Maps.Own
namespace Go.Proofs.YtnlndpgbhmkanaaGreatDoor.Va
open Go.RowKit
open Go.MapKept (Stamped IsKey)
set_option linter.unusedVariables false
set_option linter.unusedSimpArgs false

theorem bytesLess_trans : ∀ (a b c : List UInt8), Op.bytesLess a b = true → Op.bytesLess b c = true → Op.bytesLess a c = true
  | [], [], _, h, _ => by simp [Op.bytesLess] at h
  | [], _ :: _, [], _, h => by simp [Op.bytesLess] at h
  | [], _ :: _, _ :: _, _, _ => by simp [Op.bytesLess]
  | _ :: _, [], _, h, _ => by simp [Op.bytesLess] at h
  | _ :: _, _ :: _, [], _, h => by simp [Op.bytesLess] at h
  | x :: a, y :: b, z :: c, h, k => by
    have ih := bytesLess_trans a b c
    simp only [Op.bytesLess] at h k ⊢
    by_cases h1 : x < y
    · by_cases h2 : y < z
      · have : x < z := UInt8.lt_trans h1 h2
        simp [this]
      · by_cases h3 : y = z
        · subst h3; simp [h1]
        · simp [h2, h3] at k
    · by_cases h3 : x = y
      · subst h3
        by_cases h2 : x < z
        · simp [h2]
        · by_cases h4 : x = z
          · subst h4
            simp [h1] at h k ⊢
            exact ih h k
          · simp [h2, h4] at k
      · simp [h1, h3] at h
theorem bytesLess_self (l : List UInt8) : Op.bytesLess l l = false := by
  induction l with
  | nil => rfl
  | cons a t ih => simp [Op.bytesLess, ih]
theorem bytesLess_not : ∀ (a b : List UInt8), Op.bytesLess a b = true → Op.bytesLess b a = false := fun a b h => by
  cases e : Op.bytesLess b a with
  | false => rfl
  | true => have := bytesLess_trans a b a h e; rw [bytesLess_self] at this; cases this

theorem Rising.tail {a : ByteArray} {l : List ByteArray} (h : Rising (a :: l)) : Rising l := by
  cases l with
  | nil => trivial
  | cons b r => exact h.2
theorem Rising.head {a : ByteArray} : ∀ {l : List ByteArray}, Rising (a :: l) → ∀ x ∈ l, Op.bytesLess a.data.toList x.data.toList = true
  | [], _, x, hx => by cases hx
  | b :: r, h, x, hx => by
    have h' := h
    rcases List.mem_cons.1 hx with rfl | hx
    · exact h'.1
    · exact bytesLess_trans _ _ _ h'.1 (Rising.head (l := r) h'.2 x hx)
theorem Rising.less : ∀ {l : List ByteArray}, Rising l → ∀ i j (hj : j < l.length) (hij : i < j), Op.bytesLess (l[i]'(Nat.lt_trans hij hj)).data.toList l[j].data.toList = true
  | [], _, i, j, hj, _ => by simp at hj
  | a :: l, h, 0, j + 1, hj, _ => h.head _ (List.getElem_mem (by simpa using hj))
  | a :: l, h, i + 1, j + 1, hj, hij => Rising.less h.tail i j (by simpa using hj) (by omega)
theorem Rising.apart {l : List ByteArray} (h : Rising l) {i j : Nat} (hj : j < l.length) (hij : i < j) : l[i]'(Nat.lt_trans hij hj) ≠ l[j] := fun e => by
  have := h.less i j hj hij
  rw [e, bytesLess_self] at this
  cases this

/-- a new key is put behind the others -/
theorem run_put {P : Program} {w : World} {mty kt et : TypeId} {r clock : Nat} {es : Array MapEntry} {s : ByteArray} {val : Value} (hm : P.underlying mty = some (.map kt et)) (hk : P.underlying kt = some .string)
    (hb : w.heap[r]? = some (.map es clock)) (hst : Stamped es clock) (hs : ∀ x ∈ es.toList, IsKey .string x.key) (hne : ∀ x ∈ es.toList, x.key ≠ .string s) :
    ∃ w', (Instr.mapUpdate mty (.map (some r)) (.string s) val).run P w = .ok () w' ∧ w'.heap[r]? = some (.map (es.push { key := .string s, val := val, born := clock }) (clock + 1)) ∧ Stamped (es.push { key := .string s, val := val, born := clock }) (clock + 1) ∧ w.grownBy w' (some r) := by
  have hkey : IsKey .string (.string s) := trivial
  rcases MapKept.findNow_spec hkey es.toList 0 hs with ⟨h1, _⟩ | ⟨j, e, _, h2, h3⟩
  · refine ⟨{ w with heap := w.heap.setIfInBounds r (.map (es.push { key := .string s, val := val, born := clock }) (clock + 1)) }, ?_, (MapKept.heap_set hb).1, MapKept.stamped_push hst hne, ⟨rfl, rfl, rfl, by simp, fun i _ hi => (MapKept.heap_set hb).2 i (fun e => hi (by rw [e]))⟩⟩
    simp [Instr.mapUpdate, run_underlying hm, MapKept.run_getObj_map hb, MapKept.run_checkKey hk hkey, MapKept.run_findKey hk h1, MapKept.run_setObj_map _ hb, Result.andThen]
  · exact absurd h3 (hne e (List.mem_of_getElem? h2))

/-- the map under construction: the first k entries are there -/
def MadeM (ks : List ByteArray) (vs : List V) (g k : Nat) (wr : World) : Prop :=
  ∃ (es : Array MapEntry) (clock : Nat), wr.heap[g]? = some (.map es clock) ∧ Stamped es clock ∧ es.size = k ∧ ∀ i (hi : i < k) (h1 : i < ks.length) (h2 : i < vs.length), ∃ e, es[i]? = some e ∧ e.key = .string ks[i] ∧ GV wr (fun r => g < r) vs[i] e.val

theorem MadeM.keep {ks : List ByteArray} {vs : List V} {g k : Nat} {w w' : World} (h : MadeM ks vs g k w) (hb : Below w.heap.size w w') : MadeM ks vs g k w' := by
  obtain ⟨es, cl, h1, h2, h3, h4⟩ := h
  refine ⟨es, cl, Va.keep hb h1, h2, h3, fun i hi h1 h2 => ?_⟩
  obtain ⟨e, he, hk, hg⟩ := h4 i hi h1 h2
  exact ⟨e, he, hk, GV.mono (S := fun r => g < r ∧ r < w.heap.size) (Same.of_below hb fun b h => h.2) (fun b h => h.1) _ _ (GV.lt _ _ hg)⟩
theorem MadeM.lt {ks : List ByteArray} {vs : List V} {g k : Nat} {w : World} (h : MadeM ks vs g k w) : g < w.heap.size := by
  obtain ⟨es, cl, h1, _⟩ := h
  exact heap_lt h1
theorem entries_mem {es : Array MapEntry} {x : MapEntry} (hx : x ∈ es.toList) : ∃ i, i < es.size ∧ es[i]? = some x := by
  obtain ⟨i, hi, e⟩ := List.mem_iff_getElem.1 hx
  exact ⟨i, by simpa using hi, by rw [← Array.getElem?_toList, List.getElem?_eq_getElem hi, e]⟩
theorem MadeM.put {P : Program} {ks : List ByteArray} {vs : List V} {g k : Nat} {w : World} {mty kt et : TypeId} (h : MadeM ks vs g k w) (hm : P.underlying mty = some (.map kt et)) (hk : P.underlying kt = some .string)
    (hr : Rising ks) (h1 : k < ks.length) (h2 : k < vs.length) {x : Value} (hg : GV w (fun r => g < r) vs[k] x) :
    ∃ w', (Instr.mapUpdate mty (.map (some g)) (.string ks[k]) x).run P w = .ok () w' ∧ MadeM ks vs g (k + 1) w' ∧ w.grownBy w' (some g) := by
  obtain ⟨es, cl, e1, e2, e3, e4⟩ := h
  have hkeys : ∀ y ∈ es.toList, ∃ i, ∃ (hi : i < k), y.key = .string (ks[i]'(Nat.lt_trans hi h1)) := by
    intro y hy
    obtain ⟨i, hi, hyi⟩ := entries_mem hy
    obtain ⟨e, he, hke, _⟩ := e4 i (by omega) (by omega) (by omega)
    rw [he] at hyi; cases hyi
    exact ⟨i, by omega, hke⟩
  obtain ⟨w', hrun, hb, hst, hgr⟩ := run_put (P := P) (mty := mty) (val := x) (s := ks[k]) hm hk e1 e2 (fun y hy => by obtain ⟨i, hi, e⟩ := hkeys y hy; rw [e]; trivial)
    (fun y hy => by obtain ⟨i, hi, e⟩ := hkeys y hy; rw [e]; intro h; exact hr.apart h1 hi (by simpa using h))
  have hs : Same (fun r => g < r ∧ r < w.heap.size) w w' := fun b hb => hgr.block b hb.2 (by simp; omega)
  refine ⟨w', hrun, ⟨_, _, hb, hst, by simp [e3], fun i hi i1 i2 => ?_⟩, hgr⟩
  by_cases c : i = k
  · subst c
    exact ⟨{ key := .string (ks[i]'h1), val := x, born := cl }, by simp [← e3], rfl, GV.mono (S := fun r => g < r ∧ r < w.heap.size) hs (fun _ h => h.1) vs[i] x (GV.lt _ _ hg)⟩
  · obtain ⟨e, he, hke, hx⟩ := e4 i (by omega) i1 i2
    exact ⟨e, by rw [Array.getElem?_push_lt (by omega), ← he, Array.getElem?_eq_getElem], hke, GV.mono hs (fun _ h => h.1) _ _ (GV.lt _ _ hx)⟩
theorem GM.of {w : World} {S : Nat → Prop} : ∀ (vs : List V) (ks : List ByteArray) (es : List MapEntry), ks.length = vs.length → es.length = vs.length → (∀ i (h1 : i < ks.length) (h2 : i < vs.length), ∃ e, es[i]? = some e ∧ e.key = .string ks[i] ∧ GV w S vs[i] e.val) → GM w S vs ks es
  | [], ks, es, h1, h2, _ => by rw [GM]; exact ⟨List.length_eq_zero_iff.1 h1, List.length_eq_zero_iff.1 h2⟩
  | x :: xs, [], es, h1, h2, _ => by simp at h1
  | x :: xs, k :: ks, [], h1, h2, _ => by simp at h2
  | x :: xs, k :: ks, e :: es, h1, h2, h => by
    rw [GM]
    obtain ⟨e', he', hk, hx⟩ := h 0 (by simp) (by simp)
    simp only [List.getElem?_cons_zero, Option.some.injEq] at he'
    subst he'
    exact ⟨k, ks, e, es, rfl, rfl, hk, hx, GM.of xs ks es (by simpa using h1) (by simpa using h2) fun i i1 i2 => by
      have := h (i + 1) (by simpa using i1) (by simpa using i2)
      simp only [List.getElem?_cons_succ, List.getElem_cons_succ] at this
      exact this⟩
theorem MadeM.done {ks : List ByteArray} {vs : List V} {g : Nat} {w : World} (h : MadeM ks vs g ks.length w) (hl : ks.length = vs.length) : ∃ (es : Array MapEntry) (clock : Nat), w.heap[g]? = some (.map es clock) ∧ Stamped es clock ∧ GM w (fun r => g ≤ r) vs ks es.toList := by
  obtain ⟨es, cl, h1, h2, h3, h4⟩ := h
  refine ⟨es, cl, h1, h2, GM.of _ _ _ hl (by simp; omega) fun i i1 i2 => ?_⟩
  obtain ⟨e, he, hk, hx⟩ := h4 i i1 i1 i2
  exact ⟨e, by simpa using he, hk, GV.mono (fun _ _ => rfl) (fun b hb => Nat.le_of_lt hb) _ _ hx⟩

end Go.Proofs.YtnlndpgbhmkanaaGreatDoor.Va
