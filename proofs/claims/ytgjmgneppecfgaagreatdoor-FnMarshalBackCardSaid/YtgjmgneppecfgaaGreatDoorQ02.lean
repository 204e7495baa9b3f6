/-
  DERIVED. MADE BY PROGRAM (lay-iter.mjs) off ytnlndpgbhmkanaagreatdoor.cut.gsa: THE SHELF's CONTRACTS ON 'slices.Sorted(maps.Keys(m))' LAID AT THIS DUMP: 1 map type. NO WALK OF THE LIBRARY's TEXT: each is one application of a contract over any P and ρ (Derived/Shelf/SlIter/, Derived/Shelf/SortM/).
-/
import Derived.Shelf.SlIter.Nil
import Derived.Shelf.SortM.Plain
import Derived.Shelf.SortM.SortNone
import Derived.Ground.GgzProg
import Derived.Ground.SlgmProg
import Derived.Test.YtgjmgneppecfgaaGreatDoorProg
import Derived.Test.YtgjmgneppecfgaaGreatDoorQ01
import Derived.StringKeys
set_option linter.unusedVariables false
set_option linter.unusedSimpArgs false
namespace Go.Proofs
open Go.RowKit Go.Maps Go.Sort Go.Shelf

-- maps.Keys[map[string]any,string,any] (function 179; its iterator 209) · slices.Sorted[string] (178) · slices.Sort[[]string,string] (208) · the map's type 106, the keys' 9
def Tryz.keys179_ren : Go.Shelf.Ren := ⟨fun | 7 => 179 | 10 => 209 | n => n, fun | 23 => 106 | 26 => 9 | 3 => 20 | 28 => 184 | 0 => 0 | 27 => 183 | 33 => 43 | 4 => 4 | n => n, fun | n => n⟩
theorem Tryz.keys179 : Go.Proofs.SlLaysZ.n7 Tryz.prog Tryz.keys179_ren := {
  mixed := by kernel_rfl
  f7 := ⟨Tryz.f179.name, by decide, Tryz.func179.trans (congrArg some (by kernel_rfl))⟩
  f10 := ⟨Tryz.f209.name, by decide, Tryz.func209.trans (congrArg some (by kernel_rfl))⟩
  t0 := Tryz.underlying0
  a0 := Tryz.isAgg0
  z0 := Tryz.sizeOf0
  v0 := Tryz.zeroValue0
  t4 := Tryz.underlying4
  a4 := Tryz.isAgg4
  z4 := Tryz.sizeOf4
  v4 := Tryz.zeroValue4
  t23 := Tryz.underlying106
  a23 := Tryz.isAgg106
  z23 := Tryz.sizeOf106
  v23 := Tryz.zeroValue106
  t26 := Tryz.underlying9
  a26 := Tryz.isAgg9
  z26 := Tryz.sizeOf9
  v26 := Tryz.zeroValue9
  t27 := Tryz.underlying183
  a27 := Tryz.isAgg183
  z27 := Tryz.sizeOf183
  v27 := Tryz.zeroValue183
  t28 := Tryz.underlying184
  a28 := Tryz.isAgg184
  z28 := Tryz.sizeOf184
  v28 := Tryz.zeroValue184
  t33 := Tryz.underlying43
  a33 := Tryz.isAgg43
  z33 := Tryz.sizeOf43
  v33 := Tryz.zeroValue43 }
def Tryz.sorted178_ren : Go.Shelf.Ren := ⟨fun | 6 => 178 | 8 => 207 | 9 => 208 | 11 => 234 | 13 => 219 | 12 => 235 | 23 => 255 | 24 => 256 | 14 => 271 | 15 => 272 | 16 => 273 | 17 => 274 | 18 => 275 | 19 => 276 | 20 => 277 | 21 => 278 | 22 => 279 | 25 => 296 | 26 => 297 | 27 => 298 | 28 => 299 | 29 => 300 | 30 => 301 | 31 => 305 | n => n, fun | 26 => 9 | 28 => 184 | 24 => 25 | 0 => 0 | 3 => 3 | 37 => 87 | 48 => 237 | 50 => 129 | 4 => 4 | 40 => 293 | 39 => 292 | 45 => 94 | 5 => 5 | 9 => 9 | 51 => 310 | 55 => 307 | 57 => 318 | 58 => 314 | 33 => 43 | n => n, fun | n => n⟩
theorem Tryz.sorted178 : Go.Proofs.SlLaysZ.n6 Tryz.prog Tryz.sorted178_ren := {
  mixed := by kernel_rfl
  f6 := ⟨Tryz.f178.name, by decide, Tryz.func178.trans (congrArg some (by kernel_rfl))⟩
  f8 := ⟨Tryz.f207.name, by decide, Tryz.func207.trans (congrArg some (by kernel_rfl))⟩
  f11 := ⟨Tryz.f234.name, by decide, Tryz.func234.trans (congrArg some (by kernel_rfl))⟩
  t0 := Tryz.underlying0
  a0 := Tryz.isAgg0
  z0 := Tryz.sizeOf0
  v0 := Tryz.zeroValue0
  t24 := Tryz.underlying25
  a24 := Tryz.isAgg25
  z24 := Tryz.sizeOf25
  v24 := Tryz.zeroValue25
  t26 := Tryz.underlying9
  a26 := Tryz.isAgg9
  z26 := Tryz.sizeOf9
  v26 := Tryz.zeroValue9
  t28 := Tryz.underlying184
  a28 := Tryz.isAgg184
  z28 := Tryz.sizeOf184
  v28 := Tryz.zeroValue184
  i26 := by kernel_rfl }
def Tryz.sort208_ren : Go.Shelf.Ren := ⟨fun | 6 => 208 | 8 => 219 | 9 => 235 | 19 => 255 | 20 => 256 | 21 => 271 | 22 => 272 | 23 => 273 | 24 => 274 | 25 => 275 | 26 => 276 | 27 => 277 | 28 => 278 | 29 => 279 | 36 => 296 | 31 => 297 | 32 => 298 | 37 => 299 | 38 => 300 | 39 => 301 | 41 => 305 | n => n, fun | 27 => 25 | 29 => 9 | 3 => 3 | 32 => 87 | 26 => 25 | 0 => 0 | 44 => 237 | 46 => 129 | 4 => 4 | 36 => 293 | 35 => 292 | 41 => 94 | 5 => 5 | 9 => 9 | 53 => 310 | 57 => 307 | 63 => 318 | 64 => 314 | n => n, fun | n => n⟩
theorem Tryz.sort208 : Go.Proofs.SlLaysM.n6 Tryz.prog Tryz.sort208_ren := {
  mixed := by kernel_rfl
  f6 := ⟨Tryz.f208.name, by decide, Tryz.func208.trans (congrArg some (by kernel_rfl))⟩
  f8 := Tryz.func219.trans (congrArg some (by kernel_rfl))
  f9 := ⟨Tryz.f235.name, by decide, Tryz.func235.trans (congrArg some (by kernel_rfl))⟩
  f19 := Tryz.func255.trans (congrArg some (by kernel_rfl))
  f20 := Tryz.func256.trans (congrArg some (by kernel_rfl))
  f21 := ⟨Tryz.f271.name, by decide, Tryz.func271.trans (congrArg some (by kernel_rfl))⟩
  f22 := ⟨Tryz.f272.name, by decide, Tryz.func272.trans (congrArg some (by kernel_rfl))⟩
  f23 := ⟨Tryz.f273.name, by decide, Tryz.func273.trans (congrArg some (by kernel_rfl))⟩
  f24 := ⟨Tryz.f274.name, by decide, Tryz.func274.trans (congrArg some (by kernel_rfl))⟩
  f25 := ⟨Tryz.f275.name, by decide, Tryz.func275.trans (congrArg some (by kernel_rfl))⟩
  f26 := ⟨Tryz.f276.name, by decide, Tryz.func276.trans (congrArg some (by kernel_rfl))⟩
  f27 := ⟨Tryz.f277.name, by decide, Tryz.func277.trans (congrArg some (by kernel_rfl))⟩
  f28 := ⟨Tryz.f278.name, by decide, Tryz.func278.trans (congrArg some (by kernel_rfl))⟩
  f29 := ⟨Tryz.f279.name, by decide, Tryz.func279.trans (congrArg some (by kernel_rfl))⟩
  f31 := Tryz.func297.trans (congrArg some (by kernel_rfl))
  f32 := Tryz.func298.trans (congrArg some (by kernel_rfl))
  f36 := ⟨Tryz.f296.name, by decide, Tryz.func296.trans (congrArg some (by kernel_rfl))⟩
  f37 := ⟨Tryz.f299.name, by decide, Tryz.func299.trans (congrArg some (by kernel_rfl))⟩
  f38 := ⟨Tryz.f300.name, by decide, Tryz.func300.trans (congrArg some (by kernel_rfl))⟩
  f39 := ⟨Tryz.f301.name, by decide, Tryz.func301.trans (congrArg some (by kernel_rfl))⟩
  f41 := ⟨Tryz.f305.name, by decide, Tryz.func305.trans (congrArg some (by kernel_rfl))⟩
  t0 := Tryz.underlying0
  a0 := Tryz.isAgg0
  z0 := Tryz.sizeOf0
  v0 := Tryz.zeroValue0
  t3 := Tryz.underlying3
  a3 := Tryz.isAgg3
  z3 := Tryz.sizeOf3
  v3 := Tryz.zeroValue3
  t4 := Tryz.underlying4
  a4 := Tryz.isAgg4
  z4 := Tryz.sizeOf4
  v4 := Tryz.zeroValue4
  t5 := Tryz.underlying5
  a5 := Tryz.isAgg5
  z5 := Tryz.sizeOf5
  v5 := Tryz.zeroValue5
  t9 := Tryz.underlying9
  a9 := Tryz.isAgg9
  z9 := Tryz.sizeOf9
  v9 := Tryz.zeroValue9
  t26 := Tryz.underlying25
  a26 := Tryz.isAgg25
  z26 := Tryz.sizeOf25
  v26 := Tryz.zeroValue25
  t27 := Tryz.underlying25
  a27 := Tryz.isAgg25
  z27 := Tryz.sizeOf25
  v27 := Tryz.zeroValue25
  t29 := Tryz.underlying9
  a29 := Tryz.isAgg9
  z29 := Tryz.sizeOf9
  v29 := Tryz.zeroValue9
  t32 := Tryz.underlying87
  a32 := Tryz.isAgg87
  z32 := Tryz.sizeOf87
  v32 := Tryz.zeroValue87
  t35 := Tryz.underlying292
  a35 := Tryz.isAgg292
  z35 := Tryz.sizeOf292
  v35 := Tryz.zeroValue292
  t36 := Tryz.underlying293
  a36 := Tryz.isAgg293
  z36 := Tryz.sizeOf293
  v36 := Tryz.zeroValue293
  t41 := Tryz.underlying94
  a41 := Tryz.isAgg94
  z41 := Tryz.sizeOf94
  v41 := Tryz.zeroValue94
  t44 := Tryz.underlying237
  a44 := Tryz.isAgg237
  z44 := Tryz.sizeOf237
  v44 := Tryz.zeroValue237
  t46 := Tryz.underlying129
  a46 := Tryz.isAgg129
  z46 := Tryz.sizeOf129
  v46 := Tryz.zeroValue129
  t53 := Tryz.underlying310
  a53 := Tryz.isAgg310
  z53 := Tryz.sizeOf310
  v53 := Tryz.zeroValue310
  t57 := Tryz.underlying307
  a57 := Tryz.isAgg307
  z57 := Tryz.sizeOf307
  v57 := Tryz.zeroValue307
  t63 := Tryz.underlying318
  a63 := Tryz.isAgg318
  z63 := Tryz.sizeOf318
  v63 := Tryz.zeroValue318
  t64 := Tryz.underlying314
  a64 := Tryz.isAgg314
  z64 := Tryz.sizeOf314
  v64 := Tryz.zeroValue314 }

/-- slices.Sort's two contracts at this dump, at the fence that asks nothing. -/
theorem Tryz.sorts178 (m : Nat) : AnyZ.SortsIn Tryz.prog Tryz.sorted178_ren Fence.wide m :=
  ⟨fun blk off cap ss W hH hblk hsz => callsIn_wide.2 (AnyM.slices_Sort_string Tryz.sort208 blk off cap ss W hH hblk hsz),
   fun p cap W => callsIn_wide.2 (AnyM.slices_Sort_string_none Tryz.sort208 p cap W)⟩

/-- **maps.Keys[map[string]any,string,any], at whatever map, the nil one too:** a function value over ONE NEW BLOCK, which holds the map. -/
theorem Tryz.maps_Keys_179 (mb : Option Nat) (W : World) : CallsIn Fence.wide 5 Tryz.prog 179 #[.map mb] W fun e w' => e = .returned (.func (.func 209) #[] #[.pointer (some ⟨W.heap.size, 0, none⟩)]) ∧ w' = W.alloc (.cells #[.map mb] 106) :=
  AnyZ.keys_in Tryz.keys179 Fence.wide 5 trivial rfl mb W

set_option maxHeartbeats 1000000 in
/-- **slices.Sorted[string] AT WHAT maps.Keys[map[string]any,string,any] HANDED BACK FOR A MAP THAT IS NOT nil** ('w': the world AHEAD of maps.Keys' call): A NEW SLICE THAT HOLDS THE MAP's KEYS, SORTED; nil just where it has none; nothing that lay before has turned. -/
theorem Tryz.slices_Sorted_keys_178_179 {H : Type} (b nn : Nat) (D0 : DataW H) (R : Value → Option (DataW H × List MemPlace)) (w : World) (hown : w.ownsMap Tryz.prog 9 R b nn D0) (hmax : Maps.size D0 ≤ maxLen) (hbytes : Maps.size D0 * 16 ≤ 140737488355328) :
    CallsIn Fence.wide 5 Tryz.prog 178 #[.func (.func 209) #[] #[.pointer (some ⟨w.heap.size, 0, none⟩)]] (w.alloc (.cells #[.map (some b)] 106)) fun e w' => ∃ (v : Value) (ss : List (List UInt8)), e = .returned v ∧ ss.Perm (strKeys D0) ∧
      w'.ownsRow (w.alloc (.cells #[.map (some b)] 106)).heap.size 9 1 v ss.length ((ss.mergeSort (fun x y => decide (x ≤ y))).map encStr) ∧ (v = .slice none 0 0 ↔ ss = []) ∧ Below (w.alloc (.cells #[.map (some b)] 106)).heap.size (w.alloc (.cells #[.map (some b)] 106)) w' := by
  have hbl := hown.lt
  have hseq : SeqGives Fence.wide 2 Tryz.prog 209 #[.pointer (some ⟨w.heap.size, 0, none⟩)] encStr (fun ss => ss.Perm (strKeys D0)) (Maps.size D0) (w.alloc (.cells #[.map (some b)] 106)) :=
    AnyZ.keys_gives (ρ := Tryz.keys179_ren) { Tryz.keys179 with } Fence.wide _ trivial rfl (by omega) w.heap.size b nn D0 _ (by simp) (by simp) (by
      obtain ⟨es, clock, hb, Ft, hs, hD⟩ := hown
      exact ⟨es, clock, (Below.heap_alloc _ _ b hbl).trans hb, Ft, hs, hD⟩)
  exact AnyZ.sorted_in Tryz.sorted178 Fence.wide 5 trivial trivial trivial trivial rfl (by omega) (Tryz.sorts178 _) (enters_of Tryz.func208 (by kernel_rfl) rfl) 209 #[.pointer (some ⟨w.heap.size, 0, none⟩)] trivial (enters_of Tryz.func209 (by kernel_rfl) rfl) _ _ hmax hbytes _ hseq

set_option maxHeartbeats 1000000 in
/-- **.. AND FOR THE nil MAP: nil.** -/
theorem Tryz.slices_Sorted_keys_nil_178_179 (w : World) :
    CallsIn Fence.wide 5 Tryz.prog 178 #[.func (.func 209) #[] #[.pointer (some ⟨w.heap.size, 0, none⟩)]] (w.alloc (.cells #[.map none] 106)) fun e w' => ∃ (v : Value) (ss : List (List UInt8)), e = .returned v ∧ ss = [] ∧
      w'.ownsRow (w.alloc (.cells #[.map none] 106)).heap.size 9 1 v ss.length ((ss.mergeSort (fun x y => decide (x ≤ y))).map encStr) ∧ (v = .slice none 0 0 ↔ ss = []) ∧ Below (w.alloc (.cells #[.map none] 106)).heap.size (w.alloc (.cells #[.map none] 106)) w' := by
  have hseq : SeqGives Fence.wide 2 Tryz.prog 209 #[.pointer (some ⟨w.heap.size, 0, none⟩)] encStr (fun ss : List (List UInt8) => ss = []) 0 (w.alloc (.cells #[.map none] 106)) :=
    AnyZ.keys_gives_nil (ρ := Tryz.keys179_ren) { Tryz.keys179 with } Fence.wide _ trivial rfl w.heap.size _ (by simp) (by simp)
  exact AnyZ.sorted_in Tryz.sorted178 Fence.wide 5 trivial trivial trivial trivial rfl (by omega) (Tryz.sorts178 _) (enters_of Tryz.func208 (by kernel_rfl) rfl) 209 #[.pointer (some ⟨w.heap.size, 0, none⟩)] trivial (enters_of Tryz.func209 (by kernel_rfl) rfl) _ 0 (Nat.zero_le _) (by omega) _ hseq

-- THE CALLER's WALK over 'slices.Sorted(maps.Keys(m))' (inside '(callsIn_wide (n := 6)).1'; 'have hfK : Fence.wide.fn 179 := trivial', 'have hfS : Fence.wide.fn 178 := trivial' ahead): THE TWO ARMS TO PASTE:
--   gi_wp2_with (first
--     | (gi_at_call 179; refine (Tryz.maps_Keys_179 _ _).mono ?_; rintro e w' ⟨rfl, rfl⟩)
--     | (gi_at_call 178; refine (Tryz.slices_Sorted_keys_178_179 b nn D0 R w hown hmax hbytes).mono ?_; rintro e w' ⟨v, ss, rfl, hS, hrow, hnil, hb⟩))


end Go.Proofs
/-
  THE KEYS OF A MAP, SORTED: slices.Sorted(maps.Keys(m)) where the map has rising keys; a lookup.
-/
namespace Go.Proofs.YtgjmgneppecfgaaGreatDoor.Va
open Go.RowKit
open Go.MapKept (Stamped IsKey)
open Go.WideElems (Fit rd rg rd_mk rg_of)
open Go.Proofs (encStr)
set_option linter.unusedVariables false
set_option linter.unusedSimpArgs false

theorem less_lt : ∀ (x y : List UInt8), Op.bytesLess x y = true → x < y
  | _, [], h => by simp [Op.bytesLess] at h
  | [], _ :: _, _ => by simp
  | a :: x, b :: y, h => by
    simp only [Op.bytesLess, Bool.or_eq_true, Bool.and_eq_true, decide_eq_true_eq, beq_iff_eq] at h
    rw [List.cons_lt_cons_iff]
    rcases h with h | ⟨h1, h2⟩
    · exact .inl h
    · exact .inr ⟨h1, less_lt x y h2⟩

theorem GM.lens {w : World} {S : Nat → Prop} : ∀ (vs : List V) (ks : List ByteArray) (es : List MapEntry), GM w S vs ks es → ks.length = vs.length ∧ es.length = vs.length ∧ es.map (·.key) = ks.map .string
  | [], ks, es, h => by rw [GM] at h; obtain ⟨rfl, rfl⟩ := h; exact ⟨rfl, rfl, rfl⟩
  | x :: xs, ks, es, h => by
    rw [GM] at h
    obtain ⟨k, ks', e, es', rfl, rfl, hk, hx, hr⟩ := h
    obtain ⟨h1, h2, h3⟩ := GM.lens xs ks' es' hr
    exact ⟨by simp [h1], by simp [h2], by simp [hk, h3]⟩
theorem GM.at {w : World} {S : Nat → Prop} : ∀ (vs : List V) (ks : List ByteArray) (es : List MapEntry), GM w S vs ks es → ∀ i (h1 : i < ks.length) (h2 : i < vs.length), ∃ e, es[i]? = some e ∧ e.key = .string ks[i] ∧ GV w S vs[i] e.val
  | [], ks, es, h, i, h1, h2 => by simp at h2
  | x :: xs, ks, es, h, i, h1, h2 => by
    rw [GM] at h
    obtain ⟨k, ks', e, es', rfl, rfl, hk, hx, hr⟩ := h
    cases i with
    | zero => exact ⟨e, rfl, hk, hx⟩
    | succ i =>
      obtain ⟨e', he, hk', hx'⟩ := GM.at xs ks' es' hr i (by simpa using h1) (by simpa using h2)
      exact ⟨e', by simpa using he, hk', hx'⟩

/-- each value reads as nothing -/
def R0 : Value → Option (DataW Unit × List MemPlace) := fun _ => some (.nil, [])

theorem owns_map {w : World} {r cl : Nat} {es : Array MapEntry} {ks : List ByteArray} (hb : w.heap[r]? = some (.map es cl)) (hst : Stamped es cl) (hkeys : es.toList.map (·.key) = ks.map .string) (hkb : ∀ k ∈ ks, k.size ≤ maxLen) (hn : es.size ≤ maxLen) :
    ∃ D0 : DataW Unit, w.ownsMap Tryz.prog 9 R0 r es.size D0 ∧ Maps.size D0 = es.size ∧ (strKeys D0).Perm (ks.map (·.data.toList)) := by
  have hmem : ∀ x ∈ es.toList, ∃ s : ByteArray, x.key = .string s ∧ s.size ≤ maxLen := by
    intro x hx
    have : x.key ∈ es.toList.map (·.key) := List.mem_map.2 ⟨x, hx, rfl⟩
    rw [hkeys] at this
    obtain ⟨s, hs, e⟩ := List.mem_map.1 this
    exact ⟨s, e.symm, hkb s hs⟩
  have hrd : ∀ x ∈ es.toList, ∃ s : ByteArray, x.key = .string s ∧ rd Tryz.prog 9 R0 x = some (.string s.data.toList, .nil) := by
    intro x hx
    obtain ⟨s, hs, hsz⟩ := hmem x hx
    refine ⟨s, hs, ?_⟩
    cases x with
    | mk key val born =>
      simp only at hs
      subst hs
      exact rd_mk (WideMaps.keyOf_string_mk Tryz.underlying9 hsz) (yv := (.nil, [])) rfl
  refine ⟨_, ⟨es, cl, hb, ⟨hn, hst, fun x hx => by obtain ⟨s, _, h⟩ := hrd x hx; exact ⟨_, h⟩⟩, Nat.le_refl _, rfl⟩, ?_, ?_⟩
  · rw [Maps.size_eq, DataW.length_sorted]; simp
  · show ((((es.toList.map (rg Tryz.prog 9 R0)).foldr DataW.insert []).map fun p => strOf p.1)).Perm _
    refine ((WideShapes.sorted_perm _).map _).trans ?_
    have e1 : (es.toList.map (rg Tryz.prog 9 R0)).map (fun p => strOf p.1) = es.toList.map (fun x => match x.key with | .string s => s.data.toList | _ => []) := by
      rw [List.map_map]
      refine List.map_congr_left fun x hx => ?_
      obtain ⟨s, hs, h⟩ := hrd x hx
      simp only [Function.comp, rg_of h, strOf, hs]
    have e2 : es.toList.map (fun x => match x.key with | .string s => s.data.toList | _ => ([] : List UInt8)) = ks.map (·.data.toList) := by
      have := congrArg (List.map fun v => match v with | Value.string s => s.data.toList | _ => ([] : List UInt8)) hkeys
      rw [List.map_map, List.map_map] at this
      exact this
    rw [e1, e2]

theorem sorted_rising : ∀ {ks : List ByteArray}, Rising ks → (ks.map (·.data.toList)).Pairwise (fun x y => leB x y = true)
  | [], _ => by simp
  | a :: l, h => by
    rw [List.map_cons, List.pairwise_cons]
    refine ⟨fun y hy => ?_, sorted_rising h.tail⟩
    obtain ⟨b, hb, rfl⟩ := List.mem_map.1 hy
    have := less_lt _ _ (h.head b hb)
    simp only [leB, decide_eq_true_eq]
    exact List.le_of_lt this
theorem sorted_eq {ks : List ByteArray} (hr : Rising ks) {ss : List (List UInt8)} (h : ss.Perm (ks.map (·.data.toList))) : ss.mergeSort leB = ks.map (·.data.toList) := by
  rw [mergeSort_of_perm h]
  exact List.mergeSort_of_pairwise (sorted_rising hr)

theorem keys_any (r : Nat) (W : World) : Calls Tryz.prog 179 #[.map (some r)] W fun e w' => e = .returned (.func (.func 209) #[] #[.pointer (some ⟨W.heap.size, 0, none⟩)]) ∧ w' = W.alloc (.cells #[.map (some r)] 106) :=
  callsIn_wide.1 (Tryz.maps_Keys_179 (some r) W)

/-- what slices.Sorted returns -/
def SortedKeys (ks : List ByteArray) (W : World) (e : Ending) (w' : World) : Prop :=
  ∃ sa sc, e = .returned (.slice sa ks.length sc) ∧ w'.ownsRow (W.heap.size + 1) 9 1 (.slice sa ks.length sc) ks.length (ks.map .string) ∧ Below W.heap.size W w'
theorem ownsRow_slice {w : World} {base : Nat} {e : TypeId} {size : Nat} {v : Value} {n : Nat} {xs : List Value} (h : w.ownsRow base e size v n xs) : ∃ a c, v = .slice a n c := by
  rcases h.2 with ⟨rfl, rfl⟩ | ⟨g, cap, cur, rfl, _⟩
  · exact ⟨_, _, rfl⟩
  · exact ⟨_, _, rfl⟩
theorem sorted_any {W : World} {r cl : Nat} {es : Array MapEntry} {ks : List ByteArray} (hb : W.heap[r]? = some (.map es cl)) (hst : Stamped es cl) (hkeys : es.toList.map (·.key) = ks.map .string) (hkb : ∀ k ∈ ks, k.size ≤ maxLen) (hn : ks.length ≤ 2147483647) (hr : Rising ks) :
    Calls Tryz.prog 178 #[.func (.func 209) #[] #[.pointer (some ⟨W.heap.size, 0, none⟩)]] (W.alloc (.cells #[.map (some r)] 106)) (SortedKeys ks W) := by
  have hlen : es.size = ks.length := by have := congrArg List.length hkeys; simpa using this
  have hmax : es.size ≤ maxLen := by unfold maxLen; omega
  obtain ⟨D0, hown, hsz, hperm⟩ := owns_map hb hst hkeys hkb hmax
  refine (callsIn_wide.1 (Tryz.slices_Sorted_keys_178_179 r es.size D0 R0 W hown (by omega) (by omega))).mono ?_
  rintro e w' ⟨v, ss, rfl, hS, hrow, hnil, hbw⟩
  have hp := hS.trans hperm
  have hl : ss.length = ks.length := by have := hp.length_eq; simpa using this
  have hse : ss.mergeSort (fun x y => decide (x ≤ y)) = ks.map (·.data.toList) := sorted_eq hr hp
  rw [hse, hl, World.size_alloc] at hrow
  have he : (ks.map (·.data.toList)).map encStr = ks.map .string := by
    rw [List.map_map]
    exact List.map_congr_left fun k _ => rfl
  rw [he] at hrow
  obtain ⟨a, c, rfl⟩ := ownsRow_slice hrow
  exact ⟨a, c, rfl, hrow, (below_alloc W _).trans (hbw.mono (by simp))⟩

/-- a lookup that hits -/
theorem run_look {P : Program} {w : World} {mty kt et : TypeId} {r clock : Nat} {es : Array MapEntry} {s : ByteArray} {e : MapEntry} {i : Nat} (hm : P.underlying mty = some (.map kt et)) (hk : P.underlying kt = some .string)
    (hb : w.heap[r]? = some (.map es clock)) (hst : Stamped es clock) (hs : ∀ x ∈ es.toList, IsKey .string x.key) (hi : es.toList[i]? = some e) (he : e.key = .string s) :
    (Instr.lookup mty (.map (some r)) (.string s) false).run P w = .ok e.val w := by
  have hkey : IsKey .string (.string s) := trivial
  rcases MapKept.findNow_spec hkey es.toList 0 hs with ⟨_, h2⟩ | ⟨j, e', h1, h2, h3⟩
  · exact absurd he (h2 e (List.mem_of_getElem? hi))
  · have : e' = e := by
      have hnd := hst.2.2
      obtain ⟨hi', hie⟩ := List.getElem?_eq_some_iff.1 hi
      obtain ⟨hj', hje⟩ := List.getElem?_eq_some_iff.1 h2
      have : i = j := (List.getElem_inj (xs := es.toList.map (·.key)) (i := i) (j := j) (h₀ := by simpa using hi') (h₁ := by simpa using hj') hnd).1 (by simp only [List.getElem_map, hie, hje, he, h3])
      subst this
      rw [← hie, ← hje]
    subst this
    simp [Instr.lookup, run_underlying hm, MapKept.run_getObj_map hb, MapKept.run_checkKey hk hkey, MapKept.run_findKey hk h1, Result.andThen]

end Go.Proofs.YtgjmgneppecfgaaGreatDoor.Va
/-
  TWO ROWS THAT GROW TOGETHER: keys and values.
-/
namespace Go.Proofs.YtgjmgneppecfgaaGreatDoor.Va
open Go.RowKit
set_option linter.unusedVariables false
set_option linter.unusedSimpArgs false

/-- the values' part: each of the first k values is read out of the cells cs, in blocks that are neither row's -/
def Kids (base : Nat) (vs : List V) (k : Nat) (kv vv : Value) (cs : List Value) (w : World) : Prop :=
  ∀ i (hi : i < k) (hl : i < vs.length), ∃ c0 c1 c2 c3 c4 c5, SixAt cs (i * 6) c0 c1 c2 c3 c4 c5 ∧ RV w (fun r => base ≤ r ∧ some r ≠ kv.ownBlock ∧ some r ≠ vv.ownBlock) vs[i] (.agg #[c0, c1, c2, c3, c4, c5])
structure MRows (base : Nat) (ks : List ByteArray) (vs : List V) (k : Nat) (kv vv : Value) (cs : List Value) (w : World) : Prop where
  keys : w.ownsRow base 9 1 kv k ((ks.take k).map .string)
  vals : w.ownsRow base 27 6 vv k cs
  apart : ∀ b, kv.ownBlock = some b → vv.ownBlock ≠ some b
  kids : Kids base vs k kv vv cs w
theorem MRows.nil (base : Nat) (ks : List ByteArray) (vs : List V) (w : World) : MRows base ks vs 0 (.slice none 0 0) (.slice none 0 0) [] w :=
  ⟨by simpa using World.ownsRow_nil w base 9 1, World.ownsRow_nil _ _ _ _, (fun b h => by cases h), fun i hi => absurd hi (by omega)⟩
theorem MRows.same {base : Nat} {ks : List ByteArray} {vs : List V} {k : Nat} {kv vv : Value} {cs : List Value} {w w' : World} (h : MRows base ks vs k kv vv cs w) (hs : ∀ b, base ≤ b → b < w.heap.size → w'.heap[b]? = w.heap[b]?) : MRows base ks vs k kv vv cs w' := by
  refine ⟨ownsRow_same h.keys fun b hb => ?_, ownsRow_same h.vals fun b hb => ?_, h.apart, fun i hi hl => ?_⟩
  · have := h.keys.lt b hb.symm; exact hs b this.1 this.2
  · have := h.vals.lt b hb.symm; exact hs b this.1 this.2
  · obtain ⟨c0, c1, c2, c3, c4, c5, h6, hx⟩ := h.kids i hi hl
    exact ⟨c0, c1, c2, c3, c4, c5, h6, RV.mono (S := fun r => (base ≤ r ∧ some r ≠ kv.ownBlock ∧ some r ≠ vv.ownBlock) ∧ r < w.heap.size) (fun b hb => hs b hb.1.1 hb.2) (fun b hb => hb.1) _ _ (RV.lt _ _ hx)⟩
theorem MRows.keep {base : Nat} {ks : List ByteArray} {vs : List V} {k : Nat} {kv vv : Value} {cs : List Value} {w w' : World} (h : MRows base ks vs k kv vv cs w) (hb : Below w.heap.size w w') : MRows base ks vs k kv vv cs w' := h.same fun b _ hlt => hb.block b hlt

/-- the append of the key, then that of the value -/
theorem MRows.next {base : Nat} {ks : List ByteArray} {vs : List V} {k : Nat} {kv vv kv' vv' : Value} {cs : List Value} {wr wa wb wc wd : World} (h : MRows base ks vs k kv vv cs wr) (hk : k < ks.length) (hv : k < vs.length) (hbase : base ≤ wr.heap.size)
    {c0 c1 c2 c3 c4 c5 : Value} (hB : Below wr.heap.size wr wa) (hx : RV wa (fun r => wr.heap.size ≤ r) vs[k] (.agg #[c0, c1, c2, c3, c4, c5]))
    (ha : Appended wa base 9 1 kv k ((ks.take k).map .string ++ [.string ks[k]]) kv' wb) (hBc : Below wb.heap.size wb wc)
    (hd : Appended wc base 27 6 vv k (cs ++ [c0, c1, c2, c3, c4, c5]) vv' wd) : MRows base ks vs (k + 1) kv' vv' (cs ++ [c0, c1, c2, c3, c4, c5]) wd ∧ Below base wr wd := by
  have klt := h.keys.lt
  have vlt := h.vals.lt
  have s1 := hB.size
  have s2 := ha.grown.size
  have s3 := hBc.size
  have kne : ∀ b, kv.ownBlock = some b → kv.ownBlock ≠ vv.ownBlock := fun b hb e => h.apart b hb (e ▸ hb)
  -- the blocks of the rows, told apart
  have kb' : ∀ b, kv'.ownBlock = some b → (kv.ownBlock = some b ∨ b = wa.heap.size) := fun b hb => by
    rcases ha.wher with e | e
    · left; rw [← e]; exact hb
    · right; rw [e] at hb; cases hb; rfl
  have vb' : ∀ b, vv'.ownBlock = some b → (vv.ownBlock = some b ∨ b = wc.heap.size) := fun b hb => by
    rcases hd.wher with e | e
    · left; rw [← e]; exact hb
    · right; rw [e] at hb; cases hb; rfl
  have hkblt : ∀ b, kv'.ownBlock = some b → b < wb.heap.size := fun b hb => (ha.owns.lt b hb).2
  have apart' : ∀ b, kv'.ownBlock = some b → vv'.ownBlock ≠ some b := by
    intro b hb hvb
    have hbl := hkblt b hb
    rcases vb' b hvb with e | e
    · rcases kb' b hb with f | f
      · exact h.apart b f e
      · have := vlt b e; omega
    · omega
  have hS1 : Same (fun r => r < wa.heap.size ∧ some r ≠ kv.ownBlock) wa wb := fun b hb => ha.grown.block b hb.1 hb.2
  have hS2 : Same (fun r => r < wb.heap.size) wb wc := fun b hb => hBc.block b hb
  have hS3 : Same (fun r => r < wc.heap.size ∧ some r ≠ vv.ownBlock) wc wd := fun b hb => hd.grown.block b hb.1 hb.2
  have out : ∀ r, r < wa.heap.size → some r ≠ kv.ownBlock → some r ≠ vv.ownBlock → (some r ≠ kv'.ownBlock ∧ some r ≠ vv'.ownBlock) := by
    intro r h1 h2 h3
    refine ⟨fun e => ?_, fun e => ?_⟩
    · rcases kb' r e.symm with f | f
      · exact h2 f.symm
      · omega
    · rcases vb' r e.symm with f | f
      · exact h3 f.symm
      · omega
  have move : ∀ x v, RV wa (fun r => r < wa.heap.size ∧ base ≤ r ∧ some r ≠ kv.ownBlock ∧ some r ≠ vv.ownBlock) x v → RV wd (fun r => base ≤ r ∧ some r ≠ kv'.ownBlock ∧ some r ≠ vv'.ownBlock) x v := by
    intro x v hxv
    have e1 := RV.mono (w' := wb) (T := fun r => r < wa.heap.size ∧ base ≤ r ∧ some r ≠ kv.ownBlock ∧ some r ≠ vv.ownBlock) (fun b hb => hS1 b ⟨hb.1, hb.2.2.1⟩) (fun _ h => h) _ _ hxv
    have e2 := RV.mono (w' := wc) (T := fun r => r < wa.heap.size ∧ base ≤ r ∧ some r ≠ kv.ownBlock ∧ some r ≠ vv.ownBlock) (fun b hb => hS2 b (by have := hb.1; omega)) (fun _ h => h) _ _ e1
    exact RV.mono (fun b hb => hS3 b ⟨by have := hb.1; omega, hb.2.2.2⟩) (fun b hb => ⟨hb.2.1, out b hb.1 hb.2.2.1 hb.2.2.2⟩) _ _ e2
  refine ⟨⟨?_, hd.owns, apart', fun i hi hl => ?_⟩, ?_⟩
  · have e0 : (ks.take (k + 1)).map Value.string = (ks.take k).map .string ++ [.string ks[k]] := by rw [List.take_succ_eq_append_getElem hk, List.map_append]; rfl
    rw [e0]
    refine ownsRow_same ha.owns fun b hb => ?_
    have hbl := hkblt b hb.symm
    refine (hS3 b ⟨by omega, fun e => ?_⟩).trans (hS2 b hbl)
    rcases kb' b hb.symm with f | f
    · exact h.apart b f e.symm
    · have := vlt b e.symm; omega
  · by_cases c : i = k
    · subst c
      refine ⟨c0, c1, c2, c3, c4, c5, SixAt.new h.vals.1 .., move _ _ (RV.mono (S := fun r => wr.heap.size ≤ r ∧ r < wa.heap.size) (fun _ _ => rfl) (fun b hb => ⟨hb.2, by omega, fun e => by have := klt b e.symm; omega, fun e => by have := vlt b e.symm; omega⟩) _ _ (RV.lt _ _ hx))⟩
    · obtain ⟨d0, d1, d2, d3, d4, d5, h6, hx'⟩ := h.kids i (by omega) hl
      refine ⟨d0, d1, d2, d3, d4, d5, h6.old, move _ _ ?_⟩
      exact RV.mono (S := fun r => (base ≤ r ∧ some r ≠ kv.ownBlock ∧ some r ≠ vv.ownBlock) ∧ r < wr.heap.size) (fun b hb => hB.block b hb.2) (fun b hb => ⟨by omega, hb.1.1, hb.1.2.1, hb.1.2.2⟩) _ _ (RV.lt _ _ hx')
  · have b1 : Below base wr wa := hB.mono hbase
    have b2 : Below base wr wb := Below.grown b1 ha.grown (by omega) (fun j hj => (klt j hj).1)
    have b3 : Below base wr wc := b2.trans (hBc.mono (by omega))
    exact Below.grown b3 hd.grown (by omega) (fun j hj => (vlt j hj).1)

/-- a row of texts, read in memory -/
theorem RK.of {w : World} {S : Nat → Prop} : ∀ (l : List ByteArray) (b o : Nat), (0 < l.length → S b) → (∀ i (hi : i < l.length), w.cell? ⟨b, o + i, none⟩ = some (.string l[i])) → RK w S l (some ⟨b, o, none⟩)
  | [], b, o, _, _ => trivial
  | x :: xs, b, o, hS, h => ⟨b, o, rfl, hS (by simp), h 0 (by simp), RK.of xs b (o + 1) (fun _ => hS (by simp)) fun i hi => by
      have := h (i + 1) (by simpa using hi)
      rw [show o + 1 + i = o + (i + 1) by omega]
      exact this⟩
theorem ownsRow_cell {w : World} {base : Nat} {e : TypeId} {size g n c : Nat} {xs : List Value} (h : w.ownsRow base e size (.slice (some ⟨g, 0, none⟩) n c) n xs) (j : Nat) {v : Value} (hj : xs[j]? = some v) : w.cell? ⟨g, j, none⟩ = some v ∧ w.frozen? ⟨g, j, none⟩ = false := by
  rcases h.2 with ⟨h0, _⟩ | ⟨g', cap, cur, e, _, hg, _, _, _, htake⟩
  · cases h0
  · cases e
    refine ⟨cell_of hg j ?_, free_of hg j⟩
    rw [← htake, List.getElem?_take] at hj
    split at hj
    · simpa using hj
    · cases hj
theorem MRows.done {base : Nat} {ks : List ByteArray} {vs : List V} {kv vv : Value} {cs : List Value} {w : World} (h : MRows base ks vs ks.length kv vv cs w) (hl : ks.length = vs.length) :
    ∃ ka kc va vc, kv = .slice ka ks.length kc ∧ vv = .slice va vs.length vc ∧ RK w (fun r => base ≤ r) ks ka ∧ RL w (fun r => base ≤ r) vs va := by
  obtain ⟨va, vc, hve, hvl⟩ := Rows.done (base := base) (l := vs) (ov := vv) (w := w) ⟨cs, hl ▸ h.vals, fun i hi hl' => by
    obtain ⟨c0, c1, c2, c3, c4, c5, h6, hx⟩ := h.kids i (by omega) hl'
    exact ⟨c0, c1, c2, c3, c4, c5, h6, RV.mono (fun _ _ => rfl) (fun b hb => ⟨hb.1, hb.2.2⟩) _ _ hx⟩⟩
  have hk := h.keys
  rw [List.take_length] at hk
  obtain ⟨ka, kc, rfl⟩ := ownsRow_slice hk
  refine ⟨ka, kc, va, vc, rfl, hve, ?_, hvl⟩
  cases ka with
  | none =>
    rcases hk.2 with ⟨_, h0⟩ | ⟨g, cap, cur, e, _⟩
    · have : ks = [] := List.length_eq_zero_iff.1 h0
      subst this; trivial
    · cases e
  | some a =>
    rcases hk.2 with ⟨e, _⟩ | ⟨g, cap, cur, e, hb, _⟩
    · cases e
    · cases e
      refine RK.of ks g 0 (fun _ => hb) fun i hi => ?_
      rw [Nat.zero_add]
      exact (ownsRow_cell hk i (by simp [hi])).1

end Go.Proofs.YtgjmgneppecfgaaGreatDoor.Va
