/-
  THE KEYS OF A MAP, SORTED: slices.Sorted(maps.Keys(m)) where the map has rising keys; a lookup.
-/
import Derived.Test.YtnlndpgbhmkanaaGreatDoorVaO
import Derived.Test.YtnlndpgbhmkanaaGreatDoorIter
import Derived.StringKeys
namespace Go.Proofs.YtnlndpgbhmkanaaGreatDoor.Va
open Go.RowKit
open Go.MapKept (Stamped IsKey)
open Go.WideElems (Fit rd rg rd_mk rg_of)
open Go.Proofs (encStr)
set_option linter.unusedVariables false
set_option linter.unusedSimpArgs false

theorem less_lt : ∀ (x y : List UInt8), Op.bytesLess x y = true → x < y
  | _, [], h => by simp [Op.bytesLess] at h
  | [], _ :: _, _ => by simp
  | a :: x, b :: y, h => by
    simp only [Op.bytesLess, Bool.or_eq_true, Bool.and_eq_true, decide_eq_true_eq, beq_iff_eq] at h
    rw [List.cons_lt_cons_iff]
    rcases h with h | ⟨h1, h2⟩
    · exact .inl h
    · exact .inr ⟨h1, less_lt x y h2⟩

theorem GM.lens {w : World} {S : Nat → Prop} : ∀ (vs : List V) (ks : List ByteArray) (es : List MapEntry), GM w S vs ks es → ks.length = vs.length ∧ es.length = vs.length ∧ es.map (·.key) = ks.map .string
  | [], ks, es, h => by rw [GM] at h; obtain ⟨rfl, rfl⟩ := h; exact ⟨rfl, rfl, rfl⟩
  | x :: xs, ks, es, h => by
    rw [GM] at h
    obtain ⟨k, ks', e, es', rfl, rfl, hk, hx, hr⟩ := h
    obtain ⟨h1, h2, h3⟩ := GM.lens xs ks' es' hr
    exact ⟨by simp [h1], by simp [h2], by simp [hk, h3]⟩
theorem GM.at {w : World} {S : Nat → Prop} : ∀ (vs : List V) (ks : List ByteArray) (es : List MapEntry), GM w S vs ks es → ∀ i (h1 : i < ks.length) (h2 : i < vs.length), ∃ e, es[i]? = some e ∧ e.key = .string ks[i] ∧ GV w S vs[i] e.val
  | [], ks, es, h, i, h1, h2 => by simp at h2
  | x :: xs, ks, es, h, i, h1, h2 => by
    rw [GM] at h
    obtain ⟨k, ks', e, es', rfl, rfl, hk, hx, hr⟩ := h
    cases i with
    | zero => exact ⟨e, rfl, hk, hx⟩
    | succ i =>
      obtain ⟨e', he, hk', hx'⟩ := GM.at xs ks' es' hr i (by simpa using h1) (by simpa using h2)
      exact ⟨e', by simpa using he, hk', hx'⟩

/-- each value reads as nothing -/
def R0 : Value → Option (DataW Unit × List MemPlace) := fun _ => some (.nil, [])

theorem owns_map {w : World} {r cl : Nat} {es : Array MapEntry} {ks : List ByteArray} (hb : w.heap[r]? = some (.map es cl)) (hst : Stamped es cl) (hkeys : es.toList.map (·.key) = ks.map .string) (hkb : ∀ k ∈ ks, k.size ≤ maxLen) (hn : es.size ≤ maxLen) :
    ∃ D0 : DataW Unit, w.ownsMap Tryz.prog 9 R0 r es.size D0 ∧ Maps.size D0 = es.size ∧ (strKeys D0).Perm (ks.map (·.data.toList)) := by
  have hmem : ∀ x ∈ es.toList, ∃ s : ByteArray, x.key = .string s ∧ s.size ≤ maxLen := by
    intro x hx
    have : x.key ∈ es.toList.map (·.key) := List.mem_map.2 ⟨x, hx, rfl⟩
    rw [hkeys] at this
    obtain ⟨s, hs, e⟩ := List.mem_map.1 this
    exact ⟨s, e.symm, hkb s hs⟩
  have hrd : ∀ x ∈ es.toList, ∃ s : ByteArray, x.key = .string s ∧ rd Tryz.prog 9 R0 x = some (.string s.data.toList, .nil) := by
    intro x hx
    obtain ⟨s, hs, hsz⟩ := hmem x hx
    refine ⟨s, hs, ?_⟩
    cases x with
    | mk key val born =>
      simp only at hs
      subst hs
      exact rd_mk (WideMaps.keyOf_string_mk Tryz.underlying9 hsz) (yv := (.nil, [])) rfl
  refine ⟨_, ⟨es, cl, hb, ⟨hn, hst, fun x hx => by obtain ⟨s, _, h⟩ := hrd x hx; exact ⟨_, h⟩⟩, Nat.le_refl _, rfl⟩, ?_, ?_⟩
  · rw [Maps.size_eq, DataW.length_sorted]; simp
  · show ((((es.toList.map (rg Tryz.prog 9 R0)).foldr DataW.insert []).map fun p => strOf p.1)).Perm _
    refine ((WideShapes.sorted_perm _).map _).trans ?_
    have e1 : (es.toList.map (rg Tryz.prog 9 R0)).map (fun p => strOf p.1) = es.toList.map (fun x => match x.key with | .string s => s.data.toList | _ => []) := by
      rw [List.map_map]
      refine List.map_congr_left fun x hx => ?_
      obtain ⟨s, hs, h⟩ := hrd x hx
      simp only [Function.comp, rg_of h, strOf, hs]
    have e2 : es.toList.map (fun x => match x.key with | .string s => s.data.toList | _ => ([] : List UInt8)) = ks.map (·.data.toList) := by
      have := congrArg (List.map fun v => match v with | Value.string s => s.data.toList | _ => ([] : List UInt8)) hkeys
      rw [List.map_map, List.map_map] at this
      exact this
    rw [e1, e2]

theorem sorted_rising : ∀ {ks : List ByteArray}, Rising ks → (ks.map (·.data.toList)).Pairwise (fun x y => leB x y = true)
  | [], _ => by simp
  | a :: l, h => by
    rw [List.map_cons, List.pairwise_cons]
    refine ⟨fun y hy => ?_, sorted_rising h.tail⟩
    obtain ⟨b, hb, rfl⟩ := List.mem_map.1 hy
    have := less_lt _ _ (h.head b hb)
    simp only [leB, decide_eq_true_eq]
    exact List.le_of_lt this
theorem sorted_eq {ks : List ByteArray} (hr : Rising ks) {ss : List (List UInt8)} (h : ss.Perm (ks.map (·.data.toList))) : ss.mergeSort leB = ks.map (·.data.toList) := by
  rw [mergeSort_of_perm h]
  exact List.mergeSort_of_pairwise (sorted_rising hr)

theorem keys_any (r : Nat) (W : World) : Calls Tryz.prog 179 #[.map (some r)] W fun e w' => e = .returned (.func (.func 209) #[] #[.pointer (some ⟨W.heap.size, 0, none⟩)]) ∧ w' = W.alloc (.cells #[.map (some r)] 106) :=
  callsIn_wide.1 (Tryz.maps_Keys_179 (some r) W)

/-- what slices.Sorted returns -/
def SortedKeys (ks : List ByteArray) (W : World) (e : Ending) (w' : World) : Prop :=
  ∃ sa sc, e = .returned (.slice sa ks.length sc) ∧ w'.ownsRow (W.heap.size + 1) 9 1 (.slice sa ks.length sc) ks.length (ks.map .string) ∧ Below W.heap.size W w'
theorem ownsRow_slice {w : World} {base : Nat} {e : TypeId} {size : Nat} {v : Value} {n : Nat} {xs : List Value} (h : w.ownsRow base e size v n xs) : ∃ a c, v = .slice a n c := by
  rcases h.2 with ⟨rfl, rfl⟩ | ⟨g, cap, cur, rfl, _⟩
  · exact ⟨_, _, rfl⟩
  · exact ⟨_, _, rfl⟩
theorem sorted_any {W : World} {r cl : Nat} {es : Array MapEntry} {ks : List ByteArray} (hb : W.heap[r]? = some (.map es cl)) (hst : Stamped es cl) (hkeys : es.toList.map (·.key) = ks.map .string) (hkb : ∀ k ∈ ks, k.size ≤ maxLen) (hn : ks.length ≤ 2147483647) (hr : Rising ks) :
    Calls Tryz.prog 178 #[.func (.func 209) #[] #[.pointer (some ⟨W.heap.size, 0, none⟩)]] (W.alloc (.cells #[.map (some r)] 106)) (SortedKeys ks W) := by
  have hlen : es.size = ks.length := by have := congrArg List.length hkeys; simpa using this
  have hmax : es.size ≤ maxLen := by unfold maxLen; omega
  obtain ⟨D0, hown, hsz, hperm⟩ := owns_map hb hst hkeys hkb hmax
  refine (callsIn_wide.1 (Tryz.slices_Sorted_keys_178_179 r es.size D0 R0 W hown (by omega) (by omega))).mono ?_
  rintro e w' ⟨v, ss, rfl, hS, hrow, hnil, hbw⟩
  have hp := hS.trans hperm
  have hl : ss.length = ks.length := by have := hp.length_eq; simpa using this
  have hse : ss.mergeSort (fun x y => decide (x ≤ y)) = ks.map (·.data.toList) := sorted_eq hr hp
  rw [hse, hl, World.size_alloc] at hrow
  have he : (ks.map (·.data.toList)).map encStr = ks.map .string := by
    rw [List.map_map]
    exact List.map_congr_left fun k _ => rfl
  rw [he] at hrow
  obtain ⟨a, c, rfl⟩ := ownsRow_slice hrow
  exact ⟨a, c, rfl, hrow, (below_alloc W _).trans (hbw.mono (by simp))⟩

/-- a lookup that hits -/
theorem run_look {P : Program} {w : World} {mty kt et : TypeId} {r clock : Nat} {es : Array MapEntry} {s : ByteArray} {e : MapEntry} {i : Nat} (hm : P.underlying mty = some (.map kt et)) (hk : P.underlying kt = some .string)
    (hb : w.heap[r]? = some (.map es clock)) (hst : Stamped es clock) (hs : ∀ x ∈ es.toList, IsKey .string x.key) (hi : es.toList[i]? = some e) (he : e.key = .string s) :
    (Instr.lookup mty (.map (some r)) (.string s) false).run P w = .ok e.val w := by
  have hkey : IsKey .string (.string s) := trivial
  rcases MapKept.findNow_spec hkey es.toList 0 hs with ⟨_, h2⟩ | ⟨j, e', h1, h2, h3⟩
  · exact absurd he (h2 e (List.mem_of_getElem? hi))
  · have : e' = e := by
      have hnd := hst.2.2
      obtain ⟨hi', hie⟩ := List.getElem?_eq_some_iff.1 hi
      obtain ⟨hj', hje⟩ := List.getElem?_eq_some_iff.1 h2
      have : i = j := (List.getElem_inj (xs := es.toList.map (·.key)) (i := i) (j := j) (h₀ := by simpa using hi') (h₁ := by simpa using hj') hnd).1 (by simp only [List.getElem_map, hie, hje, he, h3])
      subst this
      rw [← hie, ← hje]
    subst this
    simp [Instr.lookup, run_underlying hm, MapKept.run_getObj_map hb, MapKept.run_checkKey hk hkey, MapKept.run_findKey hk h1, Result.andThen]

end Go.Proofs.YtnlndpgbhmkanaaGreatDoor.Va
