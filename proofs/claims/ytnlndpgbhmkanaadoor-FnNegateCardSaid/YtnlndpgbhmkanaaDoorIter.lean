/-
  DERIVED. MADE BY PROGRAM (lay-iter.mjs) off ytnlndpgbhmkanaadoor.cut.gsa: THE SHELF's CONTRACTS ON 'slices.Sorted(maps.Keys(m))' LAID AT THIS DUMP: 1 map type. NO WALK OF THE LIBRARY's TEXT: each is one application of a contract over any P and ρ (Derived/Shelf/SlIter/, Derived/Shelf/SortM/).
-/
import Derived.Shelf.SlIter.Nil
import Derived.Shelf.SortM.Plain
import Derived.Shelf.SortM.SortNone
import Derived.Ground.GgzProg
import Derived.Ground.SlgmProg
import Derived.Test.YtnlndpgbhmkanaaDoorProg
namespace Go.Proofs
open Go.RowKit Go.Maps Go.Sort Go.Shelf

-- maps.Keys[map[string]any,string,any] (function 65; its iterator 73) · slices.Sorted[string] (64) · slices.Sort[[]string,string] (72) · the map's type 79, the keys' 9
def Tryd.keys65_ren : Go.Shelf.Ren := ⟨fun | 7 => 65 | 10 => 73 | n => n, fun | 23 => 79 | 26 => 9 | 3 => 20 | 28 => 116 | 0 => 0 | 27 => 115 | 33 => 54 | 4 => 4 | n => n, fun | n => n⟩
theorem Tryd.keys65 : Go.Proofs.SlLaysZ.n7 Tryd.prog Tryd.keys65_ren := {
  mixed := by kernel_rfl
  f7 := ⟨Tryd.f65.name, by decide, Tryd.func65.trans (congrArg some (by kernel_rfl))⟩
  f10 := ⟨Tryd.f73.name, by decide, Tryd.func73.trans (congrArg some (by kernel_rfl))⟩
  t0 := Tryd.underlying0
  a0 := Tryd.isAgg0
  z0 := Tryd.sizeOf0
  v0 := Tryd.zeroValue0
  t4 := Tryd.underlying4
  a4 := Tryd.isAgg4
  z4 := Tryd.sizeOf4
  v4 := Tryd.zeroValue4
  t23 := Tryd.underlying79
  a23 := Tryd.isAgg79
  z23 := Tryd.sizeOf79
  v23 := Tryd.zeroValue79
  t26 := Tryd.underlying9
  a26 := Tryd.isAgg9
  z26 := Tryd.sizeOf9
  v26 := Tryd.zeroValue9
  t27 := Tryd.underlying115
  a27 := Tryd.isAgg115
  z27 := Tryd.sizeOf115
  v27 := Tryd.zeroValue115
  t28 := Tryd.underlying116
  a28 := Tryd.isAgg116
  z28 := Tryd.sizeOf116
  v28 := Tryd.zeroValue116
  t33 := Tryd.underlying54
  a33 := Tryd.isAgg54
  z33 := Tryd.sizeOf54
  v33 := Tryd.zeroValue54 }
def Tryd.sorted64_ren : Go.Shelf.Ren := ⟨fun | 6 => 64 | 8 => 71 | 9 => 72 | 11 => 79 | 13 => 81 | 12 => 80 | 23 => 92 | 24 => 93 | 14 => 83 | 15 => 84 | 16 => 85 | 17 => 86 | 18 => 87 | 19 => 88 | 20 => 89 | 21 => 90 | 22 => 91 | 25 => 95 | 26 => 96 | 27 => 97 | 28 => 98 | 29 => 99 | 30 => 100 | 31 => 101 | n => n, fun | 26 => 9 | 28 => 116 | 24 => 24 | 0 => 0 | 3 => 3 | 37 => 77 | 48 => 136 | 50 => 88 | 4 => 4 | 40 => 129 | 39 => 128 | 45 => 133 | 5 => 5 | 9 => 9 | 51 => 139 | 55 => 143 | 57 => 145 | 58 => 146 | 33 => 54 | n => n, fun | n => n⟩
theorem Tryd.sorted64 : Go.Proofs.SlLaysZ.n6 Tryd.prog Tryd.sorted64_ren := {
  mixed := by kernel_rfl
  f6 := ⟨Tryd.f64.name, by decide, Tryd.func64.trans (congrArg some (by kernel_rfl))⟩
  f8 := ⟨Tryd.f71.name, by decide, Tryd.func71.trans (congrArg some (by kernel_rfl))⟩
  f11 := ⟨Tryd.f79.name, by decide, Tryd.func79.trans (congrArg some (by kernel_rfl))⟩
  t0 := Tryd.underlying0
  a0 := Tryd.isAgg0
  z0 := Tryd.sizeOf0
  v0 := Tryd.zeroValue0
  t24 := Tryd.underlying24
  a24 := Tryd.isAgg24
  z24 := Tryd.sizeOf24
  v24 := Tryd.zeroValue24
  t26 := Tryd.underlying9
  a26 := Tryd.isAgg9
  z26 := Tryd.sizeOf9
  v26 := Tryd.zeroValue9
  t28 := Tryd.underlying116
  a28 := Tryd.isAgg116
  z28 := Tryd.sizeOf116
  v28 := Tryd.zeroValue116
  i26 := by kernel_rfl }
def Tryd.sort72_ren : Go.Shelf.Ren := ⟨fun | 6 => 72 | 8 => 81 | 9 => 80 | 19 => 92 | 20 => 93 | 21 => 83 | 22 => 84 | 23 => 85 | 24 => 86 | 25 => 87 | 26 => 88 | 27 => 89 | 28 => 90 | 29 => 91 | 36 => 95 | 31 => 96 | 32 => 97 | 37 => 98 | 38 => 99 | 39 => 100 | 41 => 101 | n => n, fun | 27 => 24 | 29 => 9 | 3 => 3 | 32 => 77 | 26 => 24 | 0 => 0 | 44 => 136 | 46 => 88 | 4 => 4 | 36 => 129 | 35 => 128 | 41 => 133 | 5 => 5 | 9 => 9 | 53 => 139 | 57 => 143 | 63 => 145 | 64 => 146 | n => n, fun | n => n⟩
theorem Tryd.sort72 : Go.Proofs.SlLaysM.n6 Tryd.prog Tryd.sort72_ren := {
  mixed := by kernel_rfl
  f6 := ⟨Tryd.f72.name, by decide, Tryd.func72.trans (congrArg some (by kernel_rfl))⟩
  f8 := Tryd.func81.trans (congrArg some (by kernel_rfl))
  f9 := ⟨Tryd.f80.name, by decide, Tryd.func80.trans (congrArg some (by kernel_rfl))⟩
  f19 := Tryd.func92.trans (congrArg some (by kernel_rfl))
  f20 := Tryd.func93.trans (congrArg some (by kernel_rfl))
  f21 := ⟨Tryd.f83.name, by decide, Tryd.func83.trans (congrArg some (by kernel_rfl))⟩
  f22 := ⟨Tryd.f84.name, by decide, Tryd.func84.trans (congrArg some (by kernel_rfl))⟩
  f23 := ⟨Tryd.f85.name, by decide, Tryd.func85.trans (congrArg some (by kernel_rfl))⟩
  f24 := ⟨Tryd.f86.name, by decide, Tryd.func86.trans (congrArg some (by kernel_rfl))⟩
  f25 := ⟨Tryd.f87.name, by decide, Tryd.func87.trans (congrArg some (by kernel_rfl))⟩
  f26 := ⟨Tryd.f88.name, by decide, Tryd.func88.trans (congrArg some (by kernel_rfl))⟩
  f27 := ⟨Tryd.f89.name, by decide, Tryd.func89.trans (congrArg some (by kernel_rfl))⟩
  f28 := ⟨Tryd.f90.name, by decide, Tryd.func90.trans (congrArg some (by kernel_rfl))⟩
  f29 := ⟨Tryd.f91.name, by decide, Tryd.func91.trans (congrArg some (by kernel_rfl))⟩
  f31 := Tryd.func96.trans (congrArg some (by kernel_rfl))
  f32 := Tryd.func97.trans (congrArg some (by kernel_rfl))
  f36 := ⟨Tryd.f95.name, by decide, Tryd.func95.trans (congrArg some (by kernel_rfl))⟩
  f37 := ⟨Tryd.f98.name, by decide, Tryd.func98.trans (congrArg some (by kernel_rfl))⟩
  f38 := ⟨Tryd.f99.name, by decide, Tryd.func99.trans (congrArg some (by kernel_rfl))⟩
  f39 := ⟨Tryd.f100.name, by decide, Tryd.func100.trans (congrArg some (by kernel_rfl))⟩
  f41 := ⟨Tryd.f101.name, by decide, Tryd.func101.trans (congrArg some (by kernel_rfl))⟩
  t0 := Tryd.underlying0
  a0 := Tryd.isAgg0
  z0 := Tryd.sizeOf0
  v0 := Tryd.zeroValue0
  t3 := Tryd.underlying3
  a3 := Tryd.isAgg3
  z3 := Tryd.sizeOf3
  v3 := Tryd.zeroValue3
  t4 := Tryd.underlying4
  a4 := Tryd.isAgg4
  z4 := Tryd.sizeOf4
  v4 := Tryd.zeroValue4
  t5 := Tryd.underlying5
  a5 := Tryd.isAgg5
  z5 := Tryd.sizeOf5
  v5 := Tryd.zeroValue5
  t9 := Tryd.underlying9
  a9 := Tryd.isAgg9
  z9 := Tryd.sizeOf9
  v9 := Tryd.zeroValue9
  t26 := Tryd.underlying24
  a26 := Tryd.isAgg24
  z26 := Tryd.sizeOf24
  v26 := Tryd.zeroValue24
  t27 := Tryd.underlying24
  a27 := Tryd.isAgg24
  z27 := Tryd.sizeOf24
  v27 := Tryd.zeroValue24
  t29 := Tryd.underlying9
  a29 := Tryd.isAgg9
  z29 := Tryd.sizeOf9
  v29 := Tryd.zeroValue9
  t32 := Tryd.underlying77
  a32 := Tryd.isAgg77
  z32 := Tryd.sizeOf77
  v32 := Tryd.zeroValue77
  t35 := Tryd.underlying128
  a35 := Tryd.isAgg128
  z35 := Tryd.sizeOf128
  v35 := Tryd.zeroValue128
  t36 := Tryd.underlying129
  a36 := Tryd.isAgg129
  z36 := Tryd.sizeOf129
  v36 := Tryd.zeroValue129
  t41 := Tryd.underlying133
  a41 := Tryd.isAgg133
  z41 := Tryd.sizeOf133
  v41 := Tryd.zeroValue133
  t44 := Tryd.underlying136
  a44 := Tryd.isAgg136
  z44 := Tryd.sizeOf136
  v44 := Tryd.zeroValue136
  t46 := Tryd.underlying88
  a46 := Tryd.isAgg88
  z46 := Tryd.sizeOf88
  v46 := Tryd.zeroValue88
  t53 := Tryd.underlying139
  a53 := Tryd.isAgg139
  z53 := Tryd.sizeOf139
  v53 := Tryd.zeroValue139
  t57 := Tryd.underlying143
  a57 := Tryd.isAgg143
  z57 := Tryd.sizeOf143
  v57 := Tryd.zeroValue143
  t63 := Tryd.underlying145
  a63 := Tryd.isAgg145
  z63 := Tryd.sizeOf145
  v63 := Tryd.zeroValue145
  t64 := Tryd.underlying146
  a64 := Tryd.isAgg146
  z64 := Tryd.sizeOf146
  v64 := Tryd.zeroValue146 }

/-- slices.Sort's two contracts at this dump, at the fence that asks nothing. -/
theorem Tryd.sorts64 (m : Nat) : AnyZ.SortsIn Tryd.prog Tryd.sorted64_ren Fence.wide m :=
  ⟨fun blk off cap ss W hH hblk hsz => callsIn_wide.2 (AnyM.slices_Sort_string Tryd.sort72 blk off cap ss W hH hblk hsz),
   fun p cap W => callsIn_wide.2 (AnyM.slices_Sort_string_none Tryd.sort72 p cap W)⟩

/-- **maps.Keys[map[string]any,string,any], at whatever map, the nil one too:** a function value over ONE NEW BLOCK, which holds the map. -/
theorem Tryd.maps_Keys_65 (mb : Option Nat) (W : World) : CallsIn Fence.wide 5 Tryd.prog 65 #[.map mb] W fun e w' => e = .returned (.func (.func 73) #[] #[.pointer (some ⟨W.heap.size, 0, none⟩)]) ∧ w' = W.alloc (.cells #[.map mb] 79) :=
  AnyZ.keys_in Tryd.keys65 Fence.wide 5 trivial rfl mb W

set_option maxHeartbeats 1000000 in
/-- **slices.Sorted[string] AT WHAT maps.Keys[map[string]any,string,any] HANDED BACK FOR A MAP THAT IS NOT nil** ('w': the world AHEAD of maps.Keys' call): A NEW SLICE THAT HOLDS THE MAP's KEYS, SORTED; nil just where it has none; nothing that lay before has turned. -/
theorem Tryd.slices_Sorted_keys_64_65 {H : Type} (b nn : Nat) (D0 : DataW H) (R : Value → Option (DataW H × List MemPlace)) (w : World) (hown : w.ownsMap Tryd.prog 9 R b nn D0) (hmax : Maps.size D0 ≤ maxLen) (hbytes : Maps.size D0 * 16 ≤ 140737488355328) :
    CallsIn Fence.wide 5 Tryd.prog 64 #[.func (.func 73) #[] #[.pointer (some ⟨w.heap.size, 0, none⟩)]] (w.alloc (.cells #[.map (some b)] 79)) fun e w' => ∃ (v : Value) (ss : List (List UInt8)), e = .returned v ∧ ss.Perm (strKeys D0) ∧
      w'.ownsRow (w.alloc (.cells #[.map (some b)] 79)).heap.size 9 1 v ss.length ((ss.mergeSort (fun x y => decide (x ≤ y))).map encStr) ∧ (v = .slice none 0 0 ↔ ss = []) ∧ Below (w.alloc (.cells #[.map (some b)] 79)).heap.size (w.alloc (.cells #[.map (some b)] 79)) w' := by
  have hbl := hown.lt
  have hseq : SeqGives Fence.wide 2 Tryd.prog 73 #[.pointer (some ⟨w.heap.size, 0, none⟩)] encStr (fun ss => ss.Perm (strKeys D0)) (Maps.size D0) (w.alloc (.cells #[.map (some b)] 79)) :=
    AnyZ.keys_gives (ρ := Tryd.keys65_ren) { Tryd.keys65 with } Fence.wide _ trivial rfl (by omega) w.heap.size b nn D0 _ (by simp) (by simp) (by
      obtain ⟨es, clock, hb, Ft, hs, hD⟩ := hown
      exact ⟨es, clock, (Below.heap_alloc _ _ b hbl).trans hb, Ft, hs, hD⟩)
  exact AnyZ.sorted_in Tryd.sorted64 Fence.wide 5 trivial trivial trivial trivial rfl (by omega) (Tryd.sorts64 _) (enters_of Tryd.func72 (by kernel_rfl) rfl) 73 #[.pointer (some ⟨w.heap.size, 0, none⟩)] trivial (enters_of Tryd.func73 (by kernel_rfl) rfl) _ _ hmax hbytes _ hseq

set_option maxHeartbeats 1000000 in
/-- **.. AND FOR THE nil MAP: nil.** -/
theorem Tryd.slices_Sorted_keys_nil_64_65 (w : World) :
    CallsIn Fence.wide 5 Tryd.prog 64 #[.func (.func 73) #[] #[.pointer (some ⟨w.heap.size, 0, none⟩)]] (w.alloc (.cells #[.map none] 79)) fun e w' => ∃ (v : Value) (ss : List (List UInt8)), e = .returned v ∧ ss = [] ∧
      w'.ownsRow (w.alloc (.cells #[.map none] 79)).heap.size 9 1 v ss.length ((ss.mergeSort (fun x y => decide (x ≤ y))).map encStr) ∧ (v = .slice none 0 0 ↔ ss = []) ∧ Below (w.alloc (.cells #[.map none] 79)).heap.size (w.alloc (.cells #[.map none] 79)) w' := by
  have hseq : SeqGives Fence.wide 2 Tryd.prog 73 #[.pointer (some ⟨w.heap.size, 0, none⟩)] encStr (fun ss : List (List UInt8) => ss = []) 0 (w.alloc (.cells #[.map none] 79)) :=
    AnyZ.keys_gives_nil (ρ := Tryd.keys65_ren) { Tryd.keys65 with } Fence.wide _ trivial rfl w.heap.size _ (by simp) (by simp)
  exact AnyZ.sorted_in Tryd.sorted64 Fence.wide 5 trivial trivial trivial trivial rfl (by omega) (Tryd.sorts64 _) (enters_of Tryd.func72 (by kernel_rfl) rfl) 73 #[.pointer (some ⟨w.heap.size, 0, none⟩)] trivial (enters_of Tryd.func73 (by kernel_rfl) rfl) _ 0 (Nat.zero_le _) (by omega) _ hseq

-- THE CALLER's WALK over 'slices.Sorted(maps.Keys(m))' (inside '(callsIn_wide (n := 6)).1'; 'have hfK : Fence.wide.fn 65 := trivial', 'have hfS : Fence.wide.fn 64 := trivial' ahead): THE TWO ARMS TO PASTE:
--   gi_wp2_with (first
--     | (gi_at_call 65; refine (Tryd.maps_Keys_65 _ _).mono ?_; rintro e w' ⟨rfl, rfl⟩)
--     | (gi_at_call 64; refine (Tryd.slices_Sorted_keys_64_65 b nn D0 R w hown hmax hbytes).mono ?_; rintro e w' ⟨v, ss, rfl, hS, hrow, hnil, hb⟩))


end Go.Proofs
