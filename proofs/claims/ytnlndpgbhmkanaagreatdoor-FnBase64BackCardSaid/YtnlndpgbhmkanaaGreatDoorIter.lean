/-
  DERIVED. MADE BY PROGRAM (lay-iter.mjs) off ytnlndpgbhmkanaagreatdoor.cut.gsa: THE SHELF's CONTRACTS ON 'slices.Sorted(maps.Keys(m))' LAID AT THIS DUMP: 1 map type. NO WALK OF THE LIBRARY's TEXT: each is one application of a contract over any P and ρ (Derived/Shelf/SlIter/, Derived/Shelf/SortM/).
-/
import Derived.Shelf.SlIter.Nil
import Derived.Shelf.SortM.Plain
import Derived.Shelf.SortM.SortNone
import Derived.Ground.GgzProg
import Derived.Ground.SlgmProg
import Derived.Test.YtnlndpgbhmkanaaGreatDoorProg
namespace Go.Proofs
open Go.RowKit Go.Maps Go.Sort Go.Shelf

-- maps.Keys[map[string]any,string,any] (function 179; its iterator 209) · slices.Sorted[string] (178) · slices.Sort[[]string,string] (208) · the map's type 106, the keys' 9
def Tryz.keys179_ren : Go.Shelf.Ren := ⟨fun | 7 => 179 | 10 => 209 | n => n, fun | 23 => 106 | 26 => 9 | 3 => 20 | 28 => 184 | 0 => 0 | 27 => 183 | 33 => 43 | 4 => 4 | n => n, fun | n => n⟩
theorem Tryz.keys179 : Go.Proofs.SlLaysZ.n7 Tryz.prog Tryz.keys179_ren := {
  mixed := by kernel_rfl
  f7 := ⟨Tryz.f179.name, by decide, Tryz.func179.trans (congrArg some (by kernel_rfl))⟩
  f10 := ⟨Tryz.f209.name, by decide, Tryz.func209.trans (congrArg some (by kernel_rfl))⟩
  t0 := Tryz.underlying0
  a0 := Tryz.isAgg0
  z0 := Tryz.sizeOf0
  v0 := Tryz.zeroValue0
  t4 := Tryz.underlying4
  a4 := Tryz.isAgg4
  z4 := Tryz.sizeOf4
  v4 := Tryz.zeroValue4
  t23 := Tryz.underlying106
  a23 := Tryz.isAgg106
  z23 := Tryz.sizeOf106
  v23 := Tryz.zeroValue106
  t26 := Tryz.underlying9
  a26 := Tryz.isAgg9
  z26 := Tryz.sizeOf9
  v26 := Tryz.zeroValue9
  t27 := Tryz.underlying183
  a27 := Tryz.isAgg183
  z27 := Tryz.sizeOf183
  v27 := Tryz.zeroValue183
  t28 := Tryz.underlying184
  a28 := Tryz.isAgg184
  z28 := Tryz.sizeOf184
  v28 := Tryz.zeroValue184
  t33 := Tryz.underlying43
  a33 := Tryz.isAgg43
  z33 := Tryz.sizeOf43
  v33 := Tryz.zeroValue43 }
def Tryz.sorted178_ren : Go.Shelf.Ren := ⟨fun | 6 => 178 | 8 => 207 | 9 => 208 | 11 => 234 | 13 => 219 | 12 => 235 | 23 => 255 | 24 => 256 | 14 => 271 | 15 => 272 | 16 => 273 | 17 => 274 | 18 => 275 | 19 => 276 | 20 => 277 | 21 => 278 | 22 => 279 | 25 => 296 | 26 => 297 | 27 => 298 | 28 => 299 | 29 => 300 | 30 => 301 | 31 => 305 | n => n, fun | 26 => 9 | 28 => 184 | 24 => 25 | 0 => 0 | 3 => 3 | 37 => 87 | 48 => 237 | 50 => 129 | 4 => 4 | 40 => 293 | 39 => 292 | 45 => 94 | 5 => 5 | 9 => 9 | 51 => 310 | 55 => 307 | 57 => 318 | 58 => 314 | 33 => 43 | n => n, fun | n => n⟩
theorem Tryz.sorted178 : Go.Proofs.SlLaysZ.n6 Tryz.prog Tryz.sorted178_ren := {
  mixed := by kernel_rfl
  f6 := ⟨Tryz.f178.name, by decide, Tryz.func178.trans (congrArg some (by kernel_rfl))⟩
  f8 := ⟨Tryz.f207.name, by decide, Tryz.func207.trans (congrArg some (by kernel_rfl))⟩
  f11 := ⟨Tryz.f234.name, by decide, Tryz.func234.trans (congrArg some (by kernel_rfl))⟩
  t0 := Tryz.underlying0
  a0 := Tryz.isAgg0
  z0 := Tryz.sizeOf0
  v0 := Tryz.zeroValue0
  t24 := Tryz.underlying25
  a24 := Tryz.isAgg25
  z24 := Tryz.sizeOf25
  v24 := Tryz.zeroValue25
  t26 := Tryz.underlying9
  a26 := Tryz.isAgg9
  z26 := Tryz.sizeOf9
  v26 := Tryz.zeroValue9
  t28 := Tryz.underlying184
  a28 := Tryz.isAgg184
  z28 := Tryz.sizeOf184
  v28 := Tryz.zeroValue184
  i26 := by kernel_rfl }
def Tryz.sort208_ren : Go.Shelf.Ren := ⟨fun | 6 => 208 | 8 => 219 | 9 => 235 | 19 => 255 | 20 => 256 | 21 => 271 | 22 => 272 | 23 => 273 | 24 => 274 | 25 => 275 | 26 => 276 | 27 => 277 | 28 => 278 | 29 => 279 | 36 => 296 | 31 => 297 | 32 => 298 | 37 => 299 | 38 => 300 | 39 => 301 | 41 => 305 | n => n, fun | 27 => 25 | 29 => 9 | 3 => 3 | 32 => 87 | 26 => 25 | 0 => 0 | 44 => 237 | 46 => 129 | 4 => 4 | 36 => 293 | 35 => 292 | 41 => 94 | 5 => 5 | 9 => 9 | 53 => 310 | 57 => 307 | 63 => 318 | 64 => 314 | n => n, fun | n => n⟩
theorem Tryz.sort208 : Go.Proofs.SlLaysM.n6 Tryz.prog Tryz.sort208_ren := {
  mixed := by kernel_rfl
  f6 := ⟨Tryz.f208.name, by decide, Tryz.func208.trans (congrArg some (by kernel_rfl))⟩
  f8 := Tryz.func219.trans (congrArg some (by kernel_rfl))
  f9 := ⟨Tryz.f235.name, by decide, Tryz.func235.trans (congrArg some (by kernel_rfl))⟩
  f19 := Tryz.func255.trans (congrArg some (by kernel_rfl))
  f20 := Tryz.func256.trans (congrArg some (by kernel_rfl))
  f21 := ⟨Tryz.f271.name, by decide, Tryz.func271.trans (congrArg some (by kernel_rfl))⟩
  f22 := ⟨Tryz.f272.name, by decide, Tryz.func272.trans (congrArg some (by kernel_rfl))⟩
  f23 := ⟨Tryz.f273.name, by decide, Tryz.func273.trans (congrArg some (by kernel_rfl))⟩
  f24 := ⟨Tryz.f274.name, by decide, Tryz.func274.trans (congrArg some (by kernel_rfl))⟩
  f25 := ⟨Tryz.f275.name, by decide, Tryz.func275.trans (congrArg some (by kernel_rfl))⟩
  f26 := ⟨Tryz.f276.name, by decide, Tryz.func276.trans (congrArg some (by kernel_rfl))⟩
  f27 := ⟨Tryz.f277.name, by decide, Tryz.func277.trans (congrArg some (by kernel_rfl))⟩
  f28 := ⟨Tryz.f278.name, by decide, Tryz.func278.trans (congrArg some (by kernel_rfl))⟩
  f29 := ⟨Tryz.f279.name, by decide, Tryz.func279.trans (congrArg some (by kernel_rfl))⟩
  f31 := Tryz.func297.trans (congrArg some (by kernel_rfl))
  f32 := Tryz.func298.trans (congrArg some (by kernel_rfl))
  f36 := ⟨Tryz.f296.name, by decide, Tryz.func296.trans (congrArg some (by kernel_rfl))⟩
  f37 := ⟨Tryz.f299.name, by decide, Tryz.func299.trans (congrArg some (by kernel_rfl))⟩
  f38 := ⟨Tryz.f300.name, by decide, Tryz.func300.trans (congrArg some (by kernel_rfl))⟩
  f39 := ⟨Tryz.f301.name, by decide, Tryz.func301.trans (congrArg some (by kernel_rfl))⟩
  f41 := ⟨Tryz.f305.name, by decide, Tryz.func305.trans (congrArg some (by kernel_rfl))⟩
  t0 := Tryz.underlying0
  a0 := Tryz.isAgg0
  z0 := Tryz.sizeOf0
  v0 := Tryz.zeroValue0
  t3 := Tryz.underlying3
  a3 := Tryz.isAgg3
  z3 := Tryz.sizeOf3
  v3 := Tryz.zeroValue3
  t4 := Tryz.underlying4
  a4 := Tryz.isAgg4
  z4 := Tryz.sizeOf4
  v4 := Tryz.zeroValue4
  t5 := Tryz.underlying5
  a5 := Tryz.isAgg5
  z5 := Tryz.sizeOf5
  v5 := Tryz.zeroValue5
  t9 := Tryz.underlying9
  a9 := Tryz.isAgg9
  z9 := Tryz.sizeOf9
  v9 := Tryz.zeroValue9
  t26 := Tryz.underlying25
  a26 := Tryz.isAgg25
  z26 := Tryz.sizeOf25
  v26 := Tryz.zeroValue25
  t27 := Tryz.underlying25
  a27 := Tryz.isAgg25
  z27 := Tryz.sizeOf25
  v27 := Tryz.zeroValue25
  t29 := Tryz.underlying9
  a29 := Tryz.isAgg9
  z29 := Tryz.sizeOf9
  v29 := Tryz.zeroValue9
  t32 := Tryz.underlying87
  a32 := Tryz.isAgg87
  z32 := Tryz.sizeOf87
  v32 := Tryz.zeroValue87
  t35 := Tryz.underlying292
  a35 := Tryz.isAgg292
  z35 := Tryz.sizeOf292
  v35 := Tryz.zeroValue292
  t36 := Tryz.underlying293
  a36 := Tryz.isAgg293
  z36 := Tryz.sizeOf293
  v36 := Tryz.zeroValue293
  t41 := Tryz.underlying94
  a41 := Tryz.isAgg94
  z41 := Tryz.sizeOf94
  v41 := Tryz.zeroValue94
  t44 := Tryz.underlying237
  a44 := Tryz.isAgg237
  z44 := Tryz.sizeOf237
  v44 := Tryz.zeroValue237
  t46 := Tryz.underlying129
  a46 := Tryz.isAgg129
  z46 := Tryz.sizeOf129
  v46 := Tryz.zeroValue129
  t53 := Tryz.underlying310
  a53 := Tryz.isAgg310
  z53 := Tryz.sizeOf310
  v53 := Tryz.zeroValue310
  t57 := Tryz.underlying307
  a57 := Tryz.isAgg307
  z57 := Tryz.sizeOf307
  v57 := Tryz.zeroValue307
  t63 := Tryz.underlying318
  a63 := Tryz.isAgg318
  z63 := Tryz.sizeOf318
  v63 := Tryz.zeroValue318
  t64 := Tryz.underlying314
  a64 := Tryz.isAgg314
  z64 := Tryz.sizeOf314
  v64 := Tryz.zeroValue314 }

/-- slices.Sort's two contracts at this dump, at the fence that asks nothing. -/
theorem Tryz.sorts178 (m : Nat) : AnyZ.SortsIn Tryz.prog Tryz.sorted178_ren Fence.wide m :=
  ⟨fun blk off cap ss W hH hblk hsz => callsIn_wide.2 (AnyM.slices_Sort_string Tryz.sort208 blk off cap ss W hH hblk hsz),
   fun p cap W => callsIn_wide.2 (AnyM.slices_Sort_string_none Tryz.sort208 p cap W)⟩

/-- **maps.Keys[map[string]any,string,any], at whatever map, the nil one too:** a function value over ONE NEW BLOCK, which holds the map. -/
theorem Tryz.maps_Keys_179 (mb : Option Nat) (W : World) : CallsIn Fence.wide 5 Tryz.prog 179 #[.map mb] W fun e w' => e = .returned (.func (.func 209) #[] #[.pointer (some ⟨W.heap.size, 0, none⟩)]) ∧ w' = W.alloc (.cells #[.map mb] 106) :=
  AnyZ.keys_in Tryz.keys179 Fence.wide 5 trivial rfl mb W

set_option maxHeartbeats 1000000 in
/-- **slices.Sorted[string] AT WHAT maps.Keys[map[string]any,string,any] HANDED BACK FOR A MAP THAT IS NOT nil** ('w': the world AHEAD of maps.Keys' call): A NEW SLICE THAT HOLDS THE MAP's KEYS, SORTED; nil just where it has none; nothing that lay before has turned. -/
theorem Tryz.slices_Sorted_keys_178_179 {H : Type} (b nn : Nat) (D0 : DataW H) (R : Value → Option (DataW H × List MemPlace)) (w : World) (hown : w.ownsMap Tryz.prog 9 R b nn D0) (hmax : Maps.size D0 ≤ maxLen) (hbytes : Maps.size D0 * 16 ≤ 140737488355328) :
    CallsIn Fence.wide 5 Tryz.prog 178 #[.func (.func 209) #[] #[.pointer (some ⟨w.heap.size, 0, none⟩)]] (w.alloc (.cells #[.map (some b)] 106)) fun e w' => ∃ (v : Value) (ss : List (List UInt8)), e = .returned v ∧ ss.Perm (strKeys D0) ∧
      w'.ownsRow (w.alloc (.cells #[.map (some b)] 106)).heap.size 9 1 v ss.length ((ss.mergeSort (fun x y => decide (x ≤ y))).map encStr) ∧ (v = .slice none 0 0 ↔ ss = []) ∧ Below (w.alloc (.cells #[.map (some b)] 106)).heap.size (w.alloc (.cells #[.map (some b)] 106)) w' := by
  have hbl := hown.lt
  have hseq : SeqGives Fence.wide 2 Tryz.prog 209 #[.pointer (some ⟨w.heap.size, 0, none⟩)] encStr (fun ss => ss.Perm (strKeys D0)) (Maps.size D0) (w.alloc (.cells #[.map (some b)] 106)) :=
    AnyZ.keys_gives (ρ := Tryz.keys179_ren) { Tryz.keys179 with } Fence.wide _ trivial rfl (by omega) w.heap.size b nn D0 _ (by simp) (by simp) (by
      obtain ⟨es, clock, hb, Ft, hs, hD⟩ := hown
      exact ⟨es, clock, (Below.heap_alloc _ _ b hbl).trans hb, Ft, hs, hD⟩)
  exact AnyZ.sorted_in Tryz.sorted178 Fence.wide 5 trivial trivial trivial trivial rfl (by omega) (Tryz.sorts178 _) (enters_of Tryz.func208 (by kernel_rfl) rfl) 209 #[.pointer (some ⟨w.heap.size, 0, none⟩)] trivial (enters_of Tryz.func209 (by kernel_rfl) rfl) _ _ hmax hbytes _ hseq

set_option maxHeartbeats 1000000 in
/-- **.. AND FOR THE nil MAP: nil.** -/
theorem Tryz.slices_Sorted_keys_nil_178_179 (w : World) :
    CallsIn Fence.wide 5 Tryz.prog 178 #[.func (.func 209) #[] #[.pointer (some ⟨w.heap.size, 0, none⟩)]] (w.alloc (.cells #[.map none] 106)) fun e w' => ∃ (v : Value) (ss : List (List UInt8)), e = .returned v ∧ ss = [] ∧
      w'.ownsRow (w.alloc (.cells #[.map none] 106)).heap.size 9 1 v ss.length ((ss.mergeSort (fun x y => decide (x ≤ y))).map encStr) ∧ (v = .slice none 0 0 ↔ ss = []) ∧ Below (w.alloc (.cells #[.map none] 106)).heap.size (w.alloc (.cells #[.map none] 106)) w' := by
  have hseq : SeqGives Fence.wide 2 Tryz.prog 209 #[.pointer (some ⟨w.heap.size, 0, none⟩)] encStr (fun ss : List (List UInt8) => ss = []) 0 (w.alloc (.cells #[.map none] 106)) :=
    AnyZ.keys_gives_nil (ρ := Tryz.keys179_ren) { Tryz.keys179 with } Fence.wide _ trivial rfl w.heap.size _ (by simp) (by simp)
  exact AnyZ.sorted_in Tryz.sorted178 Fence.wide 5 trivial trivial trivial trivial rfl (by omega) (Tryz.sorts178 _) (enters_of Tryz.func208 (by kernel_rfl) rfl) 209 #[.pointer (some ⟨w.heap.size, 0, none⟩)] trivial (enters_of Tryz.func209 (by kernel_rfl) rfl) _ 0 (Nat.zero_le _) (by omega) _ hseq

-- THE CALLER's WALK over 'slices.Sorted(maps.Keys(m))' (inside '(callsIn_wide (n := 6)).1'; 'have hfK : Fence.wide.fn 179 := trivial', 'have hfS : Fence.wide.fn 178 := trivial' ahead): THE TWO ARMS TO PASTE:
--   gi_wp2_with (first
--     | (gi_at_call 179; refine (Tryz.maps_Keys_179 _ _).mono ?_; rintro e w' ⟨rfl, rfl⟩)
--     | (gi_at_call 178; refine (Tryz.slices_Sorted_keys_178_179 b nn D0 R w hown hmax hbytes).mono ?_; rintro e w' ⟨v, ss, rfl, hS, hrow, hnil, hb⟩))


end Go.Proofs
