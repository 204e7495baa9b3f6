/-
  DERIVED: THE SHELF's CONTRACTS AT THIS DUMP, IN PLAIN WORDS (tools/lay-plain.mjs out of 'YtgjmgneppecfgaaGreatDoorIlay.lean', which tools/lay-shelf.mjs wrote): THE SAME DECLARATIONS UNDER THE SAME NAMES: 'import', 'namespace', 'open', 'def', 'theorem' AND NOTHING ELSE: no command of the shelf's: FOR A HAND-IN. Each laying: the table of numbers ('.._ren') and one theorem, a field a fact of the dump's own or the kernel's comparison; each contract: ONE APPLICATION.
-/
import Derived.Shelf.Bytes.WriteAny
import Derived.Shelf.Bytes.BufferK
import Derived.Shelf.Bytes.Bytes
import Derived.Shelf.Unicode.DecodeAny
import Derived.Shelf.SlSortFuncK.WholeK
import Derived.Test.YtgjmgneppecfgaaGreatDoorProg
import Derived.Test.YtgjmgneppecfgaaGreatDoorQ14
import Derived.Test.YtgjmgneppecfgaaGreatDoorQ01
import Derived.Test.YtgjmgneppecfgaaGreatDoorQ00
import Derived.Shelf.GgSortFunc.Tiny
import Derived.Deep.QuietTactic
import Derived.Maps.RangeRun
import Derived.Test.YtgjmgneppecfgaaGreatDoorQ02
set_option linter.unusedVariables false
set_option linter.unusedSimpArgs false
namespace Go.Proofs
open Go.Shelf
def Tryz.laysM179_ren : Go.Shelf.Ren := ⟨fun | 179 => 324 | 251 => 326 | 252 => 327 | 181 => 328 | 184 => 321 | 290 => 329 | 324 => 330 | n => n, fun | 130 => 114 | 5 => 5 | 75 => 75 | 0 => 0 | 93 => 112 | 91 => 110 | 3 => 3 | 131 => 94 | 4 => 4 | 37 => 73 | 20 => 20 | 80 => 122 | 9 => 9 | n => n, fun | 14 => 5 | n => n⟩
theorem Tryz.laysM179 : Go.Proofs.LaysM.n179 Tryz.prog Tryz.laysM179_ren := {
  mixed := by kernel_rfl
  f179 := Tryz.func324.trans (congrArg some (by kernel_rfl))
  f181 := Tryz.func328.trans (congrArg some (by kernel_rfl))
  f184 := Tryz.func321.trans (congrArg some (by kernel_rfl))
  f251 := Tryz.func326.trans (congrArg some (by kernel_rfl))
  f252 := Tryz.func327.trans (congrArg some (by kernel_rfl))
  f290 := Tryz.func329.trans (congrArg some (by kernel_rfl))
  f324 := Tryz.func330.trans (congrArg some (by kernel_rfl))
  t0 := Tryz.underlying0
  a0 := Tryz.isAgg0
  z0 := Tryz.sizeOf0
  v0 := Tryz.zeroValue0
  t3 := Tryz.underlying3
  a3 := Tryz.isAgg3
  z3 := Tryz.sizeOf3
  v3 := Tryz.zeroValue3
  t4 := Tryz.underlying4
  a4 := Tryz.isAgg4
  z4 := Tryz.sizeOf4
  v4 := Tryz.zeroValue4
  t5 := Tryz.underlying5
  a5 := Tryz.isAgg5
  z5 := Tryz.sizeOf5
  v5 := Tryz.zeroValue5
  t20 := Tryz.underlying20
  a20 := Tryz.isAgg20
  z20 := Tryz.sizeOf20
  v20 := Tryz.zeroValue20
  t37 := Tryz.underlying73
  a37 := Tryz.isAgg73
  z37 := Tryz.sizeOf73
  v37 := Tryz.zeroValue73
  t75 := Tryz.underlying75
  a75 := Tryz.isAgg75
  z75 := Tryz.sizeOf75
  v75 := Tryz.zeroValue75
  t91 := Tryz.underlying110
  a91 := Tryz.isAgg110
  z91 := Tryz.sizeOf110
  v91 := Tryz.zeroValue110
  t93 := Tryz.underlying112
  a93 := Tryz.isAgg112
  z93 := Tryz.sizeOf112
  v93 := Tryz.zeroValue112
  t130 := Tryz.underlying114
  a130 := Tryz.isAgg114
  z130 := Tryz.sizeOf114
  v130 := Tryz.zeroValue114
  t131 := Tryz.underlying94
  a131 := Tryz.isAgg94
  z131 := Tryz.sizeOf94
  v131 := Tryz.zeroValue94
  g14 := by kernel_rfl
  t9 := Tryz.underlying9
  a9 := Tryz.isAgg9
  z9 := Tryz.sizeOf9
  v9 := Tryz.zeroValue9
  t80 := Tryz.underlying122
  a80 := Tryz.isAgg122
  z80 := Tryz.sizeOf122
  v80 := Tryz.zeroValue122
  i0 := by kernel_rfl
  i3 := by kernel_rfl
  i4 := by kernel_rfl
  i5 := by kernel_rfl
  i9 := by kernel_rfl
  i20 := by kernel_rfl
  i37 := by kernel_rfl
  i75 := by kernel_rfl
  i80 := by kernel_rfl
  i91 := by kernel_rfl
  i93 := by kernel_rfl
  i130 := by kernel_rfl
  i131 := by kernel_rfl
  m14 := by kernel_rfl }
def Tryz.laysM178_ren : Go.Shelf.Ren := ⟨fun | 178 => 325 | 251 => 326 | 252 => 327 | 181 => 328 | 184 => 321 | 290 => 329 | 324 => 330 | n => n, fun | 130 => 114 | 9 => 9 | 3 => 3 | 75 => 75 | 0 => 0 | 93 => 112 | 91 => 110 | 131 => 94 | 4 => 4 | 37 => 73 | 20 => 20 | 80 => 122 | 5 => 5 | n => n, fun | 14 => 5 | n => n⟩
theorem Tryz.laysM178 : Go.Proofs.LaysM.n178 Tryz.prog Tryz.laysM178_ren := {
  mixed := by kernel_rfl
  f178 := Tryz.func325.trans (congrArg some (by kernel_rfl))
  f181 := Tryz.func328.trans (congrArg some (by kernel_rfl))
  f184 := Tryz.func321.trans (congrArg some (by kernel_rfl))
  f251 := Tryz.func326.trans (congrArg some (by kernel_rfl))
  f252 := Tryz.func327.trans (congrArg some (by kernel_rfl))
  f290 := Tryz.func329.trans (congrArg some (by kernel_rfl))
  f324 := Tryz.func330.trans (congrArg some (by kernel_rfl))
  t0 := Tryz.underlying0
  a0 := Tryz.isAgg0
  z0 := Tryz.sizeOf0
  v0 := Tryz.zeroValue0
  t3 := Tryz.underlying3
  a3 := Tryz.isAgg3
  z3 := Tryz.sizeOf3
  v3 := Tryz.zeroValue3
  t4 := Tryz.underlying4
  a4 := Tryz.isAgg4
  z4 := Tryz.sizeOf4
  v4 := Tryz.zeroValue4
  t9 := Tryz.underlying9
  a9 := Tryz.isAgg9
  z9 := Tryz.sizeOf9
  v9 := Tryz.zeroValue9
  t20 := Tryz.underlying20
  a20 := Tryz.isAgg20
  z20 := Tryz.sizeOf20
  v20 := Tryz.zeroValue20
  t37 := Tryz.underlying73
  a37 := Tryz.isAgg73
  z37 := Tryz.sizeOf73
  v37 := Tryz.zeroValue73
  t75 := Tryz.underlying75
  a75 := Tryz.isAgg75
  z75 := Tryz.sizeOf75
  v75 := Tryz.zeroValue75
  t91 := Tryz.underlying110
  a91 := Tryz.isAgg110
  z91 := Tryz.sizeOf110
  v91 := Tryz.zeroValue110
  t93 := Tryz.underlying112
  a93 := Tryz.isAgg112
  z93 := Tryz.sizeOf112
  v93 := Tryz.zeroValue112
  t130 := Tryz.underlying114
  a130 := Tryz.isAgg114
  z130 := Tryz.sizeOf114
  v130 := Tryz.zeroValue114
  t131 := Tryz.underlying94
  a131 := Tryz.isAgg94
  z131 := Tryz.sizeOf94
  v131 := Tryz.zeroValue94
  g14 := by kernel_rfl
  t5 := Tryz.underlying5
  a5 := Tryz.isAgg5
  z5 := Tryz.sizeOf5
  v5 := Tryz.zeroValue5
  t80 := Tryz.underlying122
  a80 := Tryz.isAgg122
  z80 := Tryz.sizeOf122
  v80 := Tryz.zeroValue122
  i0 := by kernel_rfl
  i3 := by kernel_rfl
  i4 := by kernel_rfl
  i5 := by kernel_rfl
  i9 := by kernel_rfl
  i20 := by kernel_rfl
  i37 := by kernel_rfl
  i75 := by kernel_rfl
  i80 := by kernel_rfl
  i91 := by kernel_rfl
  i93 := by kernel_rfl
  i130 := by kernel_rfl
  i131 := by kernel_rfl
  m14 := by kernel_rfl }
def Tryz.laysM180_ren : Go.Shelf.Ren := ⟨fun | 180 => 323 | 251 => 326 | 252 => 327 | 181 => 328 | 184 => 321 | 290 => 329 | 324 => 330 | n => n, fun | 130 => 114 | 37 => 73 | 3 => 3 | 75 => 75 | 0 => 0 | 93 => 112 | 91 => 110 | 131 => 94 | 4 => 4 | 20 => 20 | 5 => 5 | 80 => 122 | 9 => 9 | n => n, fun | 14 => 5 | n => n⟩
theorem Tryz.laysM180 : Go.Proofs.LaysM.n180 Tryz.prog Tryz.laysM180_ren := {
  mixed := by kernel_rfl
  f180 := Tryz.func323.trans (congrArg some (by kernel_rfl))
  f181 := Tryz.func328.trans (congrArg some (by kernel_rfl))
  f184 := Tryz.func321.trans (congrArg some (by kernel_rfl))
  f251 := Tryz.func326.trans (congrArg some (by kernel_rfl))
  f252 := Tryz.func327.trans (congrArg some (by kernel_rfl))
  f290 := Tryz.func329.trans (congrArg some (by kernel_rfl))
  f324 := Tryz.func330.trans (congrArg some (by kernel_rfl))
  t0 := Tryz.underlying0
  a0 := Tryz.isAgg0
  z0 := Tryz.sizeOf0
  v0 := Tryz.zeroValue0
  t3 := Tryz.underlying3
  a3 := Tryz.isAgg3
  z3 := Tryz.sizeOf3
  v3 := Tryz.zeroValue3
  t4 := Tryz.underlying4
  a4 := Tryz.isAgg4
  z4 := Tryz.sizeOf4
  v4 := Tryz.zeroValue4
  t20 := Tryz.underlying20
  a20 := Tryz.isAgg20
  z20 := Tryz.sizeOf20
  v20 := Tryz.zeroValue20
  t37 := Tryz.underlying73
  a37 := Tryz.isAgg73
  z37 := Tryz.sizeOf73
  v37 := Tryz.zeroValue73
  t75 := Tryz.underlying75
  a75 := Tryz.isAgg75
  z75 := Tryz.sizeOf75
  v75 := Tryz.zeroValue75
  t91 := Tryz.underlying110
  a91 := Tryz.isAgg110
  z91 := Tryz.sizeOf110
  v91 := Tryz.zeroValue110
  t93 := Tryz.underlying112
  a93 := Tryz.isAgg112
  z93 := Tryz.sizeOf112
  v93 := Tryz.zeroValue112
  t130 := Tryz.underlying114
  a130 := Tryz.isAgg114
  z130 := Tryz.sizeOf114
  v130 := Tryz.zeroValue114
  t131 := Tryz.underlying94
  a131 := Tryz.isAgg94
  z131 := Tryz.sizeOf94
  v131 := Tryz.zeroValue94
  g14 := by kernel_rfl
  t5 := Tryz.underlying5
  a5 := Tryz.isAgg5
  z5 := Tryz.sizeOf5
  v5 := Tryz.zeroValue5
  t9 := Tryz.underlying9
  a9 := Tryz.isAgg9
  z9 := Tryz.sizeOf9
  v9 := Tryz.zeroValue9
  t80 := Tryz.underlying122
  a80 := Tryz.isAgg122
  z80 := Tryz.sizeOf122
  v80 := Tryz.zeroValue122
  i0 := by kernel_rfl
  i3 := by kernel_rfl
  i4 := by kernel_rfl
  i5 := by kernel_rfl
  i9 := by kernel_rfl
  i20 := by kernel_rfl
  i37 := by kernel_rfl
  i75 := by kernel_rfl
  i80 := by kernel_rfl
  i91 := by kernel_rfl
  i93 := by kernel_rfl
  i130 := by kernel_rfl
  i131 := by kernel_rfl
  m14 := by kernel_rfl }
def Tryz.laysM183_ren : Go.Shelf.Ren := ⟨fun | 183 => 93 | n => n, fun | 130 => 114 | 37 => 73 | 0 => 0 | 93 => 112 | 3 => 3 | 5 => 5 | 91 => 110 | n => n, fun | n => n⟩
theorem Tryz.laysM183 : Go.Proofs.LaysM.n183 Tryz.prog Tryz.laysM183_ren := {
  mixed := by kernel_rfl
  f183 := Tryz.func93.trans (congrArg some (by kernel_rfl))
  t0 := Tryz.underlying0
  a0 := Tryz.isAgg0
  z0 := Tryz.sizeOf0
  v0 := Tryz.zeroValue0
  t3 := Tryz.underlying3
  a3 := Tryz.isAgg3
  z3 := Tryz.sizeOf3
  v3 := Tryz.zeroValue3
  t37 := Tryz.underlying73
  a37 := Tryz.isAgg73
  z37 := Tryz.sizeOf73
  v37 := Tryz.zeroValue73
  t93 := Tryz.underlying112
  a93 := Tryz.isAgg112
  z93 := Tryz.sizeOf112
  v93 := Tryz.zeroValue112
  t130 := Tryz.underlying114
  a130 := Tryz.isAgg114
  z130 := Tryz.sizeOf114
  v130 := Tryz.zeroValue114
  t5 := Tryz.underlying5
  a5 := Tryz.isAgg5
  z5 := Tryz.sizeOf5
  v5 := Tryz.zeroValue5
  t91 := Tryz.underlying110
  a91 := Tryz.isAgg110
  z91 := Tryz.sizeOf110
  v91 := Tryz.zeroValue110
  i0 := by kernel_rfl
  i3 := by kernel_rfl
  i5 := by kernel_rfl
  i37 := by kernel_rfl
  i91 := by kernel_rfl
  i93 := by kernel_rfl
  i130 := by kernel_rfl }
def Tryz.lays197_ren : Go.Shelf.Ren := ⟨fun | 197 => 185 | 260 => 215 | n => n, fun | 9 => 9 | 21 => 21 | 3 => 3 | 4 => 4 | 5 => 5 | 105 => 190 | 119 => 83 | 0 => 0 | 46 => 87 | 139 => 86 | 138 => 85 | n => n, fun | 3 => 0 | 4 => 1 | n => n⟩
theorem Tryz.lays197 : Go.Proofs.Lays.n197 Tryz.prog Tryz.lays197_ren := {
  mixed := by kernel_rfl
  f197 := Tryz.func185.trans (congrArg some (by kernel_rfl))
  f260 := Tryz.func215.trans (congrArg some (by kernel_rfl))
  t0 := Tryz.underlying0
  a0 := Tryz.isAgg0
  z0 := Tryz.sizeOf0
  v0 := Tryz.zeroValue0
  t3 := Tryz.underlying3
  a3 := Tryz.isAgg3
  z3 := Tryz.sizeOf3
  v3 := Tryz.zeroValue3
  t4 := Tryz.underlying4
  a4 := Tryz.isAgg4
  z4 := Tryz.sizeOf4
  v4 := Tryz.zeroValue4
  t5 := Tryz.underlying5
  a5 := Tryz.isAgg5
  z5 := Tryz.sizeOf5
  v5 := Tryz.zeroValue5
  t9 := Tryz.underlying9
  a9 := Tryz.isAgg9
  z9 := Tryz.sizeOf9
  v9 := Tryz.zeroValue9
  t21 := Tryz.underlying21
  a21 := Tryz.isAgg21
  z21 := Tryz.sizeOf21
  v21 := Tryz.zeroValue21
  t46 := Tryz.underlying87
  a46 := Tryz.isAgg87
  z46 := Tryz.sizeOf87
  v46 := Tryz.zeroValue87
  t105 := Tryz.underlying190
  a105 := Tryz.isAgg190
  z105 := Tryz.sizeOf190
  v105 := Tryz.zeroValue190
  t119 := Tryz.underlying83
  a119 := Tryz.isAgg83
  z119 := Tryz.sizeOf83
  t138 := Tryz.underlying85
  a138 := Tryz.isAgg85
  z138 := Tryz.sizeOf85
  v138 := Tryz.zeroValue85
  t139 := Tryz.underlying86
  a139 := Tryz.isAgg86
  z139 := Tryz.sizeOf86
  v139 := Tryz.zeroValue86
  g3 := by kernel_rfl
  g4 := by kernel_rfl }
def Tryz.laysGg6_ren : Go.Shelf.Ren := ⟨fun | 6 => 186 | 10 => 216 | 11 => 217 | 12 => 218 | 13 => 219 | 14 => 220 | 24 => 255 | 25 => 256 | 26 => 257 | 27 => 258 | 28 => 259 | 29 => 260 | 30 => 261 | 31 => 262 | 32 => 263 | 33 => 264 | 34 => 289 | 35 => 290 | 36 => 291 | 37 => 292 | 38 => 293 | 39 => 302 | n => n, fun | 20 => 20 | 26 => 148 | 35 => 222 | 0 => 0 | 37 => 224 | 3 => 3 | 41 => 87 | 44 => 230 | 49 => 237 | 51 => 129 | 4 => 4 | 54 => 279 | 53 => 278 | 58 => 94 | 5 => 5 | 9 => 9 | 60 => 303 | 64 => 307 | 66 => 313 | 67 => 314 | 17 => 17 | 32 => 219 | 33 => 220 | 82 => 331 | 12 => 12 | 75 => 325 | 76 => 326 | 77 => 327 | 78 => 286 | 79 => 328 | 80 => 329 | n => n, fun | n => n⟩
theorem Tryz.laysGg6 : Go.Proofs.LaysGg.n6 Tryz.prog Tryz.laysGg6_ren := {
  mixed := by kernel_rfl
  f6 := Tryz.func186.trans (congrArg some (by kernel_rfl))
  f10 := Tryz.func216.trans (congrArg some (by kernel_rfl))
  f11 := Tryz.func217.trans (congrArg some (by kernel_rfl))
  f12 := Tryz.func218.trans (congrArg some (by kernel_rfl))
  f13 := Tryz.func219.trans (congrArg some (by kernel_rfl))
  f14 := Tryz.func220.trans (congrArg some (by kernel_rfl))
  f24 := Tryz.func255.trans (congrArg some (by kernel_rfl))
  f25 := Tryz.func256.trans (congrArg some (by kernel_rfl))
  f26 := Tryz.func257.trans (congrArg some (by kernel_rfl))
  f27 := Tryz.func258.trans (congrArg some (by kernel_rfl))
  f28 := Tryz.func259.trans (congrArg some (by kernel_rfl))
  f29 := Tryz.func260.trans (congrArg some (by kernel_rfl))
  f30 := Tryz.func261.trans (congrArg some (by kernel_rfl))
  f31 := Tryz.func262.trans (congrArg some (by kernel_rfl))
  f32 := Tryz.func263.trans (congrArg some (by kernel_rfl))
  f33 := Tryz.func264.trans (congrArg some (by kernel_rfl))
  f34 := Tryz.func289.trans (congrArg some (by kernel_rfl))
  f35 := Tryz.func290.trans (congrArg some (by kernel_rfl))
  f36 := Tryz.func291.trans (congrArg some (by kernel_rfl))
  f37 := Tryz.func292.trans (congrArg some (by kernel_rfl))
  f38 := Tryz.func293.trans (congrArg some (by kernel_rfl))
  f39 := Tryz.func302.trans (congrArg some (by kernel_rfl))
  t0 := Tryz.underlying0
  a0 := Tryz.isAgg0
  z0 := Tryz.sizeOf0
  v0 := Tryz.zeroValue0
  i0 := by kernel_rfl
  t3 := Tryz.underlying3
  a3 := Tryz.isAgg3
  z3 := Tryz.sizeOf3
  v3 := Tryz.zeroValue3
  i3 := by kernel_rfl
  t4 := Tryz.underlying4
  a4 := Tryz.isAgg4
  z4 := Tryz.sizeOf4
  v4 := Tryz.zeroValue4
  i4 := by kernel_rfl
  t5 := Tryz.underlying5
  a5 := Tryz.isAgg5
  z5 := Tryz.sizeOf5
  v5 := Tryz.zeroValue5
  i5 := by kernel_rfl
  t9 := Tryz.underlying9
  a9 := Tryz.isAgg9
  z9 := Tryz.sizeOf9
  v9 := Tryz.zeroValue9
  i9 := by kernel_rfl
  t12 := Tryz.underlying12
  a12 := Tryz.isAgg12
  z12 := Tryz.sizeOf12
  v12 := Tryz.zeroValue12
  i12 := by kernel_rfl
  t17 := Tryz.underlying17
  a17 := Tryz.isAgg17
  z17 := Tryz.sizeOf17
  v17 := Tryz.zeroValue17
  i17 := by kernel_rfl
  t20 := Tryz.underlying20
  a20 := Tryz.isAgg20
  z20 := Tryz.sizeOf20
  v20 := Tryz.zeroValue20
  i20 := by kernel_rfl
  t26 := Tryz.underlying148
  a26 := Tryz.isAgg148
  z26 := Tryz.sizeOf148
  v26 := Tryz.zeroValue148
  i26 := by kernel_rfl
  t32 := Tryz.underlying219
  a32 := Tryz.isAgg219
  z32 := Tryz.sizeOf219
  v32 := Tryz.zeroValue219
  i32 := by kernel_rfl
  t33 := Tryz.underlying220
  a33 := Tryz.isAgg220
  z33 := Tryz.sizeOf220
  v33 := Tryz.zeroValue220
  i33 := by kernel_rfl
  t35 := Tryz.underlying222
  a35 := Tryz.isAgg222
  z35 := Tryz.sizeOf222
  v35 := Tryz.zeroValue222
  i35 := by kernel_rfl
  t37 := Tryz.underlying224
  a37 := Tryz.isAgg224
  z37 := Tryz.sizeOf224
  v37 := Tryz.zeroValue224
  i37 := by kernel_rfl
  t41 := Tryz.underlying87
  a41 := Tryz.isAgg87
  z41 := Tryz.sizeOf87
  v41 := Tryz.zeroValue87
  i41 := by kernel_rfl
  t44 := Tryz.underlying230
  a44 := Tryz.isAgg230
  z44 := Tryz.sizeOf230
  v44 := Tryz.zeroValue230
  i44 := by kernel_rfl
  t49 := Tryz.underlying237
  a49 := Tryz.isAgg237
  z49 := Tryz.sizeOf237
  v49 := Tryz.zeroValue237
  i49 := by kernel_rfl
  t51 := Tryz.underlying129
  a51 := Tryz.isAgg129
  z51 := Tryz.sizeOf129
  v51 := Tryz.zeroValue129
  i51 := by kernel_rfl
  t53 := Tryz.underlying278
  a53 := Tryz.isAgg278
  z53 := Tryz.sizeOf278
  v53 := Tryz.zeroValue278
  i53 := by kernel_rfl
  t54 := Tryz.underlying279
  a54 := Tryz.isAgg279
  z54 := Tryz.sizeOf279
  v54 := Tryz.zeroValue279
  i54 := by kernel_rfl
  t58 := Tryz.underlying94
  a58 := Tryz.isAgg94
  z58 := Tryz.sizeOf94
  v58 := Tryz.zeroValue94
  i58 := by kernel_rfl
  t60 := Tryz.underlying303
  a60 := Tryz.isAgg303
  z60 := Tryz.sizeOf303
  v60 := Tryz.zeroValue303
  i60 := by kernel_rfl
  t64 := Tryz.underlying307
  a64 := Tryz.isAgg307
  z64 := Tryz.sizeOf307
  v64 := Tryz.zeroValue307
  i64 := by kernel_rfl
  t66 := Tryz.underlying313
  a66 := Tryz.isAgg313
  z66 := Tryz.sizeOf313
  v66 := Tryz.zeroValue313
  i66 := by kernel_rfl
  t67 := Tryz.underlying314
  a67 := Tryz.isAgg314
  z67 := Tryz.sizeOf314
  v67 := Tryz.zeroValue314
  i67 := by kernel_rfl
  t75 := Tryz.underlying325
  a75 := Tryz.isAgg325
  z75 := Tryz.sizeOf325
  v75 := Tryz.zeroValue325
  i75 := by kernel_rfl
  t76 := Tryz.underlying326
  a76 := Tryz.isAgg326
  z76 := Tryz.sizeOf326
  v76 := Tryz.zeroValue326
  i76 := by kernel_rfl
  t77 := Tryz.underlying327
  a77 := Tryz.isAgg327
  z77 := Tryz.sizeOf327
  v77 := Tryz.zeroValue327
  i77 := by kernel_rfl
  t78 := Tryz.underlying286
  a78 := Tryz.isAgg286
  z78 := Tryz.sizeOf286
  v78 := Tryz.zeroValue286
  i78 := by kernel_rfl
  t79 := Tryz.underlying328
  a79 := Tryz.isAgg328
  z79 := Tryz.sizeOf328
  v79 := Tryz.zeroValue328
  i79 := by kernel_rfl
  t80 := Tryz.underlying329
  a80 := Tryz.isAgg329
  z80 := Tryz.sizeOf329
  v80 := Tryz.zeroValue329
  i80 := by kernel_rfl
  t82 := Tryz.underlying331
  a82 := Tryz.isAgg331
  z82 := Tryz.sizeOf331
  v82 := Tryz.zeroValue331
  i82 := by kernel_rfl }
end Go.Proofs
/-
  The encoder over a bytes.Buffer: what is carried from call to call; the writers.
-/
namespace Go.Proofs.YtgjmgneppecfgaaGreatDoor.Mb
open Go.RowKit Go.Proofs.YtgjmgneppecfgaaGreatDoor.Va Go.Proofs.YtgjmgneppecfgaaGreatDoor.Ba Go.Proofs.YtgjmgneppecfgaaGreatDoor.Ma
set_option linter.unusedVariables false
set_option linter.unusedSimpArgs false

@[go_sem] theorem method_ws (b : Nat) (w : World) : (method 447 114 (.pointer (some ⟨b, 0, none⟩)) "WriteString").run Tryz.prog w = .ok (325, .pointer (some ⟨b, 0, none⟩)) w := by kernel_rfl
@[go_sem] theorem method_wb (b : Nat) (w : World) : (method 447 114 (.pointer (some ⟨b, 0, none⟩)) "WriteByte").run Tryz.prog w = .ok (324, .pointer (some ⟨b, 0, none⟩)) w := by kernel_rfl
@[go_sem] theorem method_w (b : Nat) (w : World) : (method 447 114 (.pointer (some ⟨b, 0, none⟩)) "Write").run Tryz.prog w = .ok (323, .pointer (some ⟨b, 0, none⟩)) w := by kernel_rfl
/-- the writer as an interface value -/
def wv (b : Nat) : Value := .iface 114 (.pointer (some ⟨b, 0, none⟩))
/-- the buffer at b holds bs; the encoder at E writes into it -/
structure St (B b E : Nat) (bs : List Nat) (w : World) : Prop where
  buf : Lib.IsBuffer 112 5 B b (cellsD bs) w
  enc : ∃ f : Nat → Value, f 0 = wv b ∧ w.rowIs E 118 65 f
  lt : b < E
/-- blocks that are neither the buffer's nor the encoder's nor rows of bytes stand -/
def KeepE (b E : Nat) (w w' : World) : Prop := ∀ k o, w.heap[k]? = some o → k ≠ b → k ≠ E → (∀ c fz, o ≠ .cells c 5 fz) → w'.heap[k]? = some o
theorem KeepE.refl (b E : Nat) (w : World) : KeepE b E w w := fun _ _ h _ _ _ => h
theorem KeepE.trans {b E : Nat} {a c d : World} (h : KeepE b E a c) (k : KeepE b E c d) : KeepE b E a d := fun i o hi h1 h2 ho => k i o (h i o hi h1 h2 ho) h1 h2 ho
theorem KeepE.of_others {b E : Nat} {w w' : World} (h : Lib.OthersKept 5 (some b) w w') : KeepE b E w w' := fun k o hk h1 _ ho => h k o hk (fun e => h1 (Option.some.inj e)) ho
theorem St.E_kept {B b E : Nat} {bs : List Nat} {w w' : World} (h : St B b E bs w) (hk : Lib.OthersKept 5 (some b) w w') : ∃ f : Nat → Value, f 0 = wv b ∧ w'.rowIs E 118 65 f := by
  obtain ⟨f, h0, hr⟩ := h.enc
  refine ⟨f, h0, hr.of_block ?_⟩
  obtain ⟨cs, h1, h2⟩ := hr
  rw [h1]
  exact hk E _ h1 (fun e => by have := Option.some.inj e; have := h.lt; omega) (fun c fz e => by cases e)
theorem byteCells_eq (s : ByteArray) : Lib.byteCells s.data.toList = cellsD (bytesN s) := by
  unfold Lib.byteCells cellsD bytesN
  rw [List.map_map]
  rfl
theorem cellsD_one (bs : List Nat) : ∀ v ∈ cellsD bs, v.oneCell' = true := by
  intro v hv
  unfold cellsD at hv
  obtain ⟨x, _, rfl⟩ := List.mem_map.1 hv
  rfl
theorem cellsD_app (a c : List Nat) : cellsD (a ++ c) = cellsD a ++ cellsD c := List.map_append
theorem cellsD_len (a : List Nat) : (cellsD a).length = a.length := by unfold cellsD; rw [List.length_map]
/-- what a writer leaves -/
def Wrote (B b E : Nat) (bs : List Nat) (w w' : World) : Prop := St B b E bs w' ∧ Below B w w' ∧ KeepE b E w w'
def WroteS (n : Int) (B b E : Nat) (bs : List Nat) (w : World) (e : Ending) (w' : World) : Prop := e = .returned (.tuple #[.int .i64 n, .nilIface]) ∧ Wrote B b E bs w w'
def WroteB (B b E : Nat) (bs : List Nat) (w : World) (e : Ending) (w' : World) : Prop := e = .returned .nilIface ∧ Wrote B b E bs w w'
theorem writeByte_any (B b E c : Nat) (bs : List Nat) (w : World) (h : St B b E bs w) (hB : B ≤ w.heap.size) (hlim : bs.length + 1 ≤ 140737488355328) :
    Calls Tryz.prog 324 #[.pointer (some ⟨b, 0, none⟩), .int .u8 (c : Int)] w (WroteB B b E (bs ++ [c]) w) := by
  refine (Any.Buffer_WriteByte_k Tryz.laysM179 B b (cellsD bs) (c : Int) w h.buf hB (cellsD_one bs) (by rw [cellsD_len]; exact hlim)).mono ?_
  rintro e w' ⟨h1, h2, h3, h4⟩
  exact ⟨h1, ⟨by rw [cellsD_app]; exact h2, h.E_kept h4, h.lt⟩, h3, .of_others h4⟩
theorem writeString_any (B b E : Nat) (bs : List Nat) (s : ByteArray) (w : World) (h : St B b E bs w) (hB : B ≤ w.heap.size) (hlim : bs.length + s.size ≤ 140737488355328) :
    Calls Tryz.prog 325 #[.pointer (some ⟨b, 0, none⟩), .string s] w (WroteS (s.size : Int) B b E (bs ++ bytesN s) w) := by
  refine (Any.Buffer_WriteString_k Tryz.laysM178 B b (cellsD bs) s w h.buf hB (cellsD_one bs) (by rw [cellsD_len]; exact hlim)).mono ?_
  rintro e w' ⟨h1, h2, h3, h4⟩
  exact ⟨h1, ⟨by rw [cellsD_app, ← byteCells_eq]; exact h2, h.E_kept h4, h.lt⟩, h3, .of_others h4⟩
theorem write_any (B b E g o n c : Nat) (bs cs : List Nat) (w : World) (h : St B b E bs w) (hB : B ≤ w.heap.size) (hg : g ≠ b) (hn : cs.length = n) (hc : ∀ j, j < n → w.cell? ⟨g, o + j, none⟩ = some (.int .u8 ((cs.getD j 0 : Nat) : Int))) (hlim : bs.length + n ≤ 140737488355328) :
    Calls Tryz.prog 323 #[.pointer (some ⟨b, 0, none⟩), .slice (some ⟨g, o, none⟩) n c] w (WroteS (n : Int) B b E (bs ++ cs) w) := by
  refine (Any.Buffer_Write_any Tryz.laysM180 B b (cellsD bs) (cellsD cs) ⟨g, o, none⟩ n c w h.buf hB (cellsD_one bs) (by rw [cellsD_len]; exact hn) hg (fun j v hj => ?_) (cellsD_one cs) (by rw [cellsD_len]; exact hlim)).mono ?_
  · have hjn : j < cs.length := by
      have := (List.getElem?_eq_some_iff.1 hj).1
      rwa [cellsD_len] at this
    have e : v = .int .u8 ((cs.getD j 0 : Nat) : Int) := by
      unfold cellsD at hj
      rw [List.getElem?_map, List.getElem?_eq_getElem hjn] at hj
      rw [List.getD, List.getElem?_eq_getElem hjn]
      simpa using hj.symm
    rw [e, ← hc j (by omega)]
    have : (⟨g, o, none⟩ : Addr).add j = ⟨g, o + j, none⟩ := by unfold Addr.add; split <;> simp_all
    rw [this]
  · rintro e w' ⟨h1, h2, h3, h4⟩
    exact ⟨h1, ⟨by rw [cellsD_app]; exact h2, h.E_kept h4, h.lt⟩, h3, .of_others h4⟩
end Go.Proofs.YtgjmgneppecfgaaGreatDoor.Mb
/-
  The encoder: what each of its functions leaves.
-/
namespace Go.Proofs.YtgjmgneppecfgaaGreatDoor.Mb
open Go.RowKit Go.Proofs.YtgjmgneppecfgaaGreatDoor.Va Go.Proofs.YtgjmgneppecfgaaGreatDoor.Ba Go.Proofs.YtgjmgneppecfgaaGreatDoor.Ma
set_option linter.unusedVariables false
set_option linter.unusedSimpArgs false

theorem St.cell {B b E : Nat} {bs : List Nat} {w : World} (h : St B b E bs w) : w.cell? ⟨E, 0, none⟩ = some (.iface 114 (.pointer (some ⟨b, 0, none⟩))) := by
  obtain ⟨f, h0, hr⟩ := h.enc
  rw [hr.cell (by decide), h0]
  rfl
theorem Wrote.refl {B b E : Nat} {bs : List Nat} {w : World} (h : St B b E bs w) : Wrote B b E bs w w := ⟨h, Below.refl _ _, .refl _ _ _⟩
theorem Wrote.trans {B b E : Nat} {bs cs : List Nat} {w w' w'' : World} (h : Wrote B b E bs w w') (k : Wrote B b E cs w' w'') : Wrote B b E cs w w'' := ⟨k.1, h.2.1.trans k.2.1, h.2.2.trans k.2.2⟩
theorem buf_old {T e : TypeId} {B b : Nat} {bs : List Value} {w w' : World} (h : Lib.IsBuffer T e B b bs w) (k : Below w.heap.size w w') : Lib.IsBuffer T e B b bs w' := by
  obtain ⟨h1, v, lr, h2, ⟨h3, h4⟩, h5⟩ := h
  refine ⟨h1, v, lr, keep k h2, ⟨h3, ?_⟩, h5⟩
  rcases h4 with h4 | ⟨g, cap, cur, a, b, c, d⟩
  · exact .inl h4
  · exact .inr ⟨g, cap, cur, a, b, keep k c, d⟩
theorem Wrote.quiet {B b E : Nat} {bs : List Nat} {w w' w'' : World} (h : Wrote B b E bs w w') (hB : B ≤ w'.heap.size) (k : Below w'.heap.size w' w'') : Wrote B b E bs w w'' := by
  obtain ⟨⟨h1, ⟨f, h0, hr⟩, h2⟩, h3, h4⟩ := h
  refine ⟨⟨buf_old h1 k, ⟨f, h0, hr.of_block (k.block E hr.lt)⟩, h2⟩, h3.trans (k.mono hB), fun i o a b c d => (k.block i ?_).trans (h4 i o a b c d)⟩
  exact heap_lt (h4 i o a b c d)
def EncEnd (B b E : Nat) (bs : List Nat) (w : World) (e : Ending) (w' : World) : Prop := e = .returned (.tuple #[]) ∧ Wrote B b E bs w w'
/-- the tables of utf8, in whatever world -/
def Tab (w : World) : Prop := Lib.Utf8Tabs (Tryz.lays197_ren.g 3) (Tryz.lays197_ren.g 4) w
/-- encode writes x's text -/
def EncW (x : V) : Prop := ∀ (B b E : Nat) (bs : List Nat) (w : World) (g : Value) (S : Nat → Prop), GV w S x g → (∀ k, S k → k < B) → St B b E bs w → B ≤ w.heap.size → bs.length + x.size * NodeLen ≤ 70368744177664 →
  (∀ w', Below B w w' → Tab w') → Calls Tryz.prog 92 #[.pointer (some ⟨E, 0, none⟩), g] w (EncEnd B b E (bs ++ encJ x) w)
end Go.Proofs.YtgjmgneppecfgaaGreatDoor.Mb
/-
  sort.Slice over the entries of an object, by their keys.
-/
namespace Go.Proofs.YtgjmgneppecfgaaGreatDoor.Mb
open Go.RowKit Go.Proofs.YtgjmgneppecfgaaGreatDoor.Va Go.Proofs.YtgjmgneppecfgaaGreatDoor.Ba Go.Proofs.YtgjmgneppecfgaaGreatDoor.Ma
set_option linter.unusedVariables false
set_option linter.unusedSimpArgs false

/-- a value of one cell -/
abbrev Cell1 : Type := {v : Value // v.oneCell' = true}
instance : Inhabited Cell1 := ⟨⟨.nilIface, rfl⟩⟩
/-- an entry -/
abbrev KV : Type := ByteArray × Cell1
def encKV (p : KV) : List Value := [.string p.1, p.2.1]
def ltKV (a b : KV) : Bool := Op.bytesLess a.1.data.toList b.1.data.toList
theorem bytesLess_tri : ∀ (a b : List UInt8), Op.bytesLess a b = true ∨ a = b ∨ Op.bytesLess b a = true
  | [], [] => .inr (.inl rfl)
  | [], _ :: _ => .inl rfl
  | _ :: _, [] => .inr (.inr rfl)
  | x :: a, y :: b => by
    simp only [Op.bytesLess, Bool.or_eq_true, Bool.and_eq_true, decide_eq_true_eq, beq_iff_eq, List.cons.injEq]
    rcases bytesLess_tri a b with h | h | h
    · rcases (show x < y ∨ x = y ∨ y < x by rcases Nat.lt_trichotomy x.toNat y.toNat with q | q | q; exact .inl q; exact .inr (.inl (UInt8.toNat_inj.1 q)); exact .inr (.inr q)) with q | q | q
      · exact .inl (.inl q)
      · exact .inl (.inr ⟨q, h⟩)
      · exact .inr (.inr (.inl q))
    · rcases (show x < y ∨ x = y ∨ y < x by rcases Nat.lt_trichotomy x.toNat y.toNat with q | q | q; exact .inl q; exact .inr (.inl (UInt8.toNat_inj.1 q)); exact .inr (.inr q)) with q | q | q
      · exact .inl (.inl q)
      · exact .inr (.inl ⟨q, h⟩)
      · exact .inr (.inr (.inl q))
    · rcases (show x < y ∨ x = y ∨ y < x by rcases Nat.lt_trichotomy x.toNat y.toNat with q | q | q; exact .inl q; exact .inr (.inl (UInt8.toNat_inj.1 q)); exact .inr (.inr q)) with q | q | q
      · exact .inl (.inl q)
      · exact .inr (.inr (.inr ⟨q.symm, h⟩))
      · exact .inr (.inr (.inl q))
theorem swo_kv : Sort.SWO ltKV where
  irrefl := fun x => bytesLess_self _
  trans := fun x y z h1 h2 => bytesLess_trans _ _ _ h1 h2
  ntrans := fun x y z h1 h2 => by
    unfold ltKV at *
    cases h : Op.bytesLess x.1.data.toList z.1.data.toList with
    | false => rfl
    | true =>
      exfalso
      rcases bytesLess_tri x.1.data.toList y.1.data.toList with q | q | q
      · rw [q] at h1; cases h1
      · rw [q] at h; rw [h] at h2; cases h2
      · have := bytesLess_trans _ _ _ q h
        rw [this] at h2; cases h2
noncomputable def svT : TypeInfo := (Tryz.prog.info? 192).get (by kernel_rfl)
noncomputable def svE : TypeInfo := (Tryz.prog.info? 194).get (by kernel_rfl)
theorem svK (n : Nat) (h2 : 2 ≤ n) : Lib.swapperK n svE 25 = 9 := by
  have a : svE.hasPointers = true := by kernel_rfl
  have b : svE.bytes = 32 := by kernel_rfl
  have c : (n == 0) = false := by simp; omega
  have d : (n == 1) = false := by simp; omega
  simp [Lib.swapperK, a, b, c, d]
set_option maxHeartbeats 2000000 in
theorem less_any (blk off c Bs size : Nat) (W : World) (G : Nat → ByteArray) (hs : W.cell? ⟨Bs, 0, none⟩ = some (.slice (some ⟨blk, off, none⟩) size c))
    (hc : ∀ t, t < size → W.cell? ⟨blk, off + t * 2, none⟩ = some (.string (G t))) (i j : Nat) (hi : i < size) (hj : j < size) (_hsz : size < 4611686018427387904) :
    Calls Tryz.prog 187 #[.int .i64 i, .int .i64 j, .pointer (some ⟨Bs, 0, none⟩)] W fun e w' => e = .returned (.bool (Op.bytesLess (G i).data.toList (G j).data.toList)) ∧ ∃ q, w' = W.drewN q := by
  have ci := hc i hi
  have cj := hc j hj
  clear hc
  go_enter Tryz.func187, Tryz.ntmps187
  go_wp2
  go_quiet (fail)
  go_wp2
  go_ret
  exact ⟨by rw [← ByteArray.toList_eq, ← ByteArray.toList_eq]; rfl, nq, rfl⟩
/-- what sort.Slice leaves -/
def Sorted (d : Array KV) (blk : Nat) (w : World) (e : Ending) (w' : World) : Prop :=
  e = .returned (.tuple #[]) ∧ ∃ d' : Array KV, d'.size = d.size ∧ d'.toList.Perm d.toList ∧ Sort.SortedIn ltKV 0 d.size d' ∧ Sort.HoldsK encKV 2 w' blk 0 d' ∧ w.grownBy w' (some blk) ∧ (∀ cs t fz, w.heap[blk]? = some (.cells cs t fz) → ∃ cs', w'.heap[blk]? = some (.cells cs' t fz))
theorem grow_heap (w : World) (os : Array Obj) {k : Nat} (hk : k < w.heap.size) : (Sort.grow w os).heap[k]? = w.heap[k]? := by
  unfold Sort.grow
  exact Array.getElem?_append_left hk
theorem grow_grown (w : World) (os : Array Obj) (r : Option Nat) : w.grownBy (Sort.grow w os) r := ⟨rfl, rfl, rfl, by unfold Sort.grow; simp, fun k hk _ => grow_heap w os hk⟩
theorem put_heap (w : World) (m blk : Nat) (d : Array KV) (k : Nat) (hk : k ≠ blk) : (Sort.putRowK encKV 2 (Sort.ahead w m) blk 0 d).heap[k]? = w.heap[k]? := by
  show (w.heap.modify blk _)[k]? = w.heap[k]?
  rw [Array.getElem?_modify, if_neg (Ne.symm hk)]
theorem put_size (w : World) (m blk : Nat) (d : Array KV) : (Sort.putRowK encKV 2 (Sort.ahead w m) blk 0 d).heap.size = w.heap.size := by
  show (w.heap.modify blk _).size = w.heap.size
  simp
theorem put_tag (w : World) (m blk : Nat) (d : Array KV) {cs : Array Value} {t : TypeId} {fz : Nat × Nat} (h : w.heap[blk]? = some (.cells cs t fz)) : ∃ cs', (Sort.putRowK encKV 2 (Sort.ahead w m) blk 0 d).heap[blk]? = some (.cells cs' t fz) := by
  refine ⟨Sort.putCells id 0 (Sort.flatK encKV 2 d) cs, ?_⟩
  show (w.heap.modify blk _)[blk]? = _
  rw [Array.getElem?_modify, if_pos rfl, h]
  rfl
set_option maxHeartbeats 1000000 in
theorem sort_any (blk c Bs : Nat) (d : Array KV) (hsz : d.size ≤ 2147483647) (w : World) (hH : Sort.HoldsK encKV 2 w blk 0 d) (hblk : blk < w.heap.size)
    (hBs : w.cell? ⟨Bs, 0, none⟩ = some (.slice (some ⟨blk, 0, none⟩) d.size c)) (hB1 : Bs < w.heap.size) (hB2 : Bs ≠ blk) :
    Calls Tryz.prog 186 #[.iface 192 (.slice (some ⟨blk, 0, none⟩) d.size c), .func (.func 187) #[] #[.pointer (some ⟨Bs, 0, none⟩)]] w (Sorted d blk w) := by
  by_cases h2 : 2 ≤ d.size
  · have hless : LessReadsK Tryz.prog 187 #[.pointer (some ⟨Bs, 0, none⟩)] encKV 2 ltKV blk 0 d.size w := by
      intro m os dk hs i j hi hj
      have e : sortWorldK encKV 2 w blk 0 m dk os = Sort.putRowK encKV 2 (Sort.grow (Sort.ahead w m) os) blk 0 dk := by
        unfold sortWorldK; rw [Sort.putRowK_grow _ _ (Sort.ahead w m) _ blk 0 _ hblk]
      have hHg : Sort.HoldsK encKV 2 (Sort.grow (Sort.ahead w m) os) blk 0 d := Sort.holdsK_grow _ _ _ _ blk 0 d hblk (Sort.holdsK_ahead _ _ _ _ _ _ _ hH)
      refine less_any blk 0 c Bs d.size _ (fun t => dk[t]!.1) ?_ (fun t ht => ?_) i j hi hj (by omega)
      · rw [e, Sort.cell?_putRowK_other _ _ _ blk 0 dk _ (by exact hB2), Sort.cell?_grow _ _ _ (by exact hB1)]; exact hBs
      · rw [e]; exact ((Sort.holdsK_putRowK _ _ _ blk 0 d dk hHg hs).cell (i := t) (c := 0) (by omega) (by omega)).1
    refine (Any.sort_Slice_cells_sorted Tryz.laysGg6 192 194 svT svE (by kernel_rfl) (by kernel_rfl) (by kernel_rfl) (by kernel_rfl) 25 (fun _ => by kernel_rfl) encKV 2 (fun _ => rfl) (by kernel_rfl) (fun _ => by kernel_rfl)
      (fun x v hv => by simp [encKV] at hv; rcases hv with rfl | rfl; rfl; exact x.2.2) ltKV swo_kv 187 _
      (enters_of Tryz.func187 (by kernel_rfl) rfl) blk 0 c d h2 (by omega) 254 (by rw [svK _ h2]; kernel_rfl) false
      (fun args W => run_callFunc_extern Tryz.func254 (by kernel_rfl) (by kernel_rfl) (by kernel_rfl) (e := Extern.ReflectliteSwapper.swap false) (by kernel_rfl) args W) w hless hH hblk).mono ?_
    rintro e w' ⟨rfl, d', n, os, ⟨p1, p2, p3⟩, hs, rfl⟩
    have hsz' : (Sort.putRowK encKV 2 (Sort.ahead w n) blk 0 d').heap.size = w.heap.size := put_size w n blk d'
    refine ⟨rfl, d', p1, ?_, hs, ?_, ?_, fun cs t fz h => ?_⟩
    · have e1 : d'.extract 0 d.size = d' := by rw [← p1]; simp
      have e2 : d.extract 0 d.size = d := by simp
      rw [e1, e2] at p3
      exact p3
    · exact Sort.holdsK_grow _ _ _ _ blk 0 d' (by rw [hsz']; exact hblk) (Sort.holdsK_putRowK _ _ _ blk 0 d d' (Sort.holdsK_ahead _ _ _ _ _ _ _ hH) p1)
    · refine ⟨rfl, rfl, rfl, ?_, fun k hk hne => ?_⟩
      · rw [show (Sort.grow (Sort.putRowK encKV 2 (Sort.ahead w n) blk 0 d') os).heap = (Sort.putRowK encKV 2 (Sort.ahead w n) blk 0 d').heap ++ os from rfl, Array.size_append, hsz']
        omega
      · rw [grow_heap _ _ (by rw [hsz']; exact hk), put_heap _ _ _ _ _ (fun e => hne (by rw [e]))]
    · obtain ⟨cs', h'⟩ := put_tag w n blk d' h
      exact ⟨cs', (grow_heap _ _ (by rw [hsz']; exact hblk)).trans h'⟩
  · have h1 : d.size ≤ 1 := by omega
    have hf : ∃ f, Tryz.prog.funcs.findIdx? (·.name == "internal/reflectlite" ++ ".Swapper$" ++ toString (Lib.swapperK d.size svE 25)) = some f := by
      rcases (show d.size = 0 ∨ d.size = 1 by omega) with q | q
      · exact ⟨246, by rw [q]; kernel_rfl⟩
      · exact ⟨247, by rw [q]; kernel_rfl⟩
    obtain ⟨f, hf⟩ := hf
    refine (Any.sort_Slice_tiny Tryz.laysGg6 192 194 svT svE (by kernel_rfl) (by kernel_rfl) (by kernel_rfl) (by kernel_rfl) 25 (fun _ => by kernel_rfl) (some ⟨blk, 0, none⟩) d.size c h1 f hf (.func 187) #[] #[.pointer (some ⟨Bs, 0, none⟩)] w).mono ?_
    rintro e w' ⟨rfl, os, rfl⟩
    refine ⟨rfl, d, rfl, List.Perm.refl _, fun i j _ hij hj => by omega, Sort.holdsK_grow _ _ _ _ blk 0 d hblk hH, grow_grown _ _ _, fun cs t fz h => ⟨cs, (grow_heap _ _ hblk).trans h⟩⟩
end Go.Proofs.YtgjmgneppecfgaaGreatDoor.Mb
/-
  The entries of an object: gone over in whatever order, put into a row.
-/
namespace Go.Proofs.YtgjmgneppecfgaaGreatDoor.Mb
open Go.RowKit Go.Proofs.YtgjmgneppecfgaaGreatDoor.Va Go.Proofs.YtgjmgneppecfgaaGreatDoor.Ba Go.Proofs.YtgjmgneppecfgaaGreatDoor.Ma
set_option linter.unusedVariables false
set_option linter.unusedSimpArgs false

theorem perm_nodup {l1 l2 : List Nat} (h1 : l1.Nodup) (h2 : l2.Nodup) (h : ∀ a, a ∈ l1 ↔ a ∈ l2) : l1.Perm l2 := by
  rw [List.perm_iff_count]
  intro a
  rw [List.Nodup.count h1, List.Nodup.count h2]
  simp [h a]
theorem nodup_len : ∀ (l1 l2 : List Nat), l1.Nodup → (∀ a ∈ l1, a ∈ l2) → l1.length ≤ l2.length
  | [], l2, _, _ => by simp
  | a :: l1, l2, h1, h => by
    obtain ⟨ha, hn⟩ := List.nodup_cons.1 h1
    have hm := h a List.mem_cons_self
    have := nodup_len l1 (l2.erase a) hn (fun b hb => by
      have hne : b ≠ a := fun e => ha (e ▸ hb)
      exact (List.mem_erase_of_ne hne).2 (h b (List.mem_cons_of_mem _ hb)))
    rw [List.length_erase_of_mem hm] at this
    have hp := List.length_pos_of_mem hm
    rw [List.length_cons]
    omega
/-- a map's loop under way: L has been gone over -/
def Ran (r it since clock : Nat) (es : Array MapEntry) (L : List MapEntry) (w : World) : Prop :=
  w.heap[r]? = some (.map es clock) ∧ (∃ c0, w.heap[it]? = some (.mapIter (some r) since (L.map (·.born)).toArray c0) ∧ since ≤ c0) ∧ (∀ x ∈ es.toList, x.born < since) ∧ since ≤ clock ∧ (L.map (·.born)).Nodup ∧ (∀ x ∈ L, x ∈ es.toList)
theorem Ran.keep {r it since clock : Nat} {es : Array MapEntry} {L : List MapEntry} {w w' : World} (h : Ran r it since clock es L w) (h1 : w'.heap[r]? = w.heap[r]?) (h2 : w'.heap[it]? = w.heap[it]?) : Ran r it since clock es L w' := by
  obtain ⟨a, ⟨c0, b, c⟩, d⟩ := h
  exact ⟨h1.trans a, ⟨c0, h2.trans b, c⟩, d⟩
theorem Ran.len {r it since clock : Nat} {es : Array MapEntry} {L : List MapEntry} {w : World} (h : Ran r it since clock es L w) : L.length ≤ es.size := by
  obtain ⟨_, _, _, _, d, e⟩ := h
  have := nodup_len (L.map (·.born)) (es.toList.map (·.born)) d (fun a ha => by
    obtain ⟨x, hx, rfl⟩ := List.mem_map.1 ha
    exact List.mem_map.2 ⟨x, e x hx, rfl⟩)
  simpa using this
section
variable {P : Program} {ops : Array Oper} {rest : List Oper} {o : Oper} {a : Act} {Q : Exit → Act → World → Prop}
theorem wpList_range_raw (w : World) (hg : o.guard = none) (m : Operand) (t : TypeId) (hop : o.op = Op.range t m) (k e : TypeId) (ht : P.underlying t = some (.map k e)) (r clock : Nat) (es : Array MapEntry)
    (hm : a.eval m = .map (some r)) (hr : w.heap[r]? = some (.map es clock)) (hst : MapKept.Stamped es clock)
    (hK : ∀ w', Ran r w.heap.size clock clock es [] w' → Go.RowKit.Below w.heap.size w w' → w'.heap.size = w.heap.size + 1 → wpList P ops Q rest (a.put o.dst (.pointer (some ⟨w.heap.size, 0, none⟩))) w') :
    wpList P ops Q (o :: rest) a w := by
  refine wpList_plain hg fun K' hK' => ?_
  have hrun := run_range_map (P := P) w t k e r es clock ht hr
  unfold Oper.wp
  simp [execOp, hop, hm, hrun, Result.andThen]
  refine hK' _ _ (hK _ ⟨block_past hr _, ⟨clock, heap_alloc_new w _, Nat.le_refl _⟩, ((MapKept.stamped_iff es clock).1 hst).1, Nat.le_refl _, by simp, by simp⟩ (below_alloc w _) (by simp))
theorem wpList_next_raw (w : World) (hg : o.guard = none) (it : Operand) (hop : o.op = Op.next it false) (r i since clock : Nat) (es : Array MapEntry) (L : List MapEntry) (hne : r ≠ i) (hst : MapKept.Stamped es clock)
    (hit : a.eval it = .pointer (some ⟨i, 0, none⟩)) (h : Ran r i since clock es L w)
    (hDone : (∀ x ∈ es.toList, x ∈ L) → wpList P ops Q rest (a.put o.dst (.tuple #[.bool false])) w)
    (hMore : ∀ (e : MapEntry) (w' : World), e ∈ es.toList → Ran r i since clock es (L ++ [e]) w' → w.grownBy w' (some i) →
      (Instr.entry (.pointer (some ⟨i, 0, none⟩))).run P w' = .ok (.tuple #[e.key, e.val]) w' → wpList P ops Q rest (a.put o.dst (.tuple #[.bool true, e.key, e.val])) w') :
    wpList P ops Q (o :: rest) a w := by
  refine wpList_plain hg fun K' hK' => ?_
  obtain ⟨h1, ⟨c0, h2, h3⟩, h4, h5, h6, h7⟩ := h
  have hborn := ((MapKept.stamped_iff es clock).1 hst).2.1
  have hinj : ∀ x ∈ es.toList, ∀ y ∈ es.toList, x.born = y.born → x = y := fun x hx y hy e => by
    obtain ⟨p, hp, rfl⟩ := List.getElem_of_mem hx
    obtain ⟨q, hq, rfl⟩ := List.getElem_of_mem hy
    have : p = q := (List.getElem_inj (xs := es.toList.map (·.born)) (i := p) (j := q) (h₀ := by simpa using hp) (h₁ := by simpa using hq) hborn).1 (by simpa using e)
    subst this
    rfl
  have hleft : ∀ x, x ∈ (leftOf es (L.map (·.born)).toArray).toList ↔ x ∈ es.toList ∧ x.born ∉ L.map (·.born) := fun x => by
    unfold leftOf
    simp
  unfold Oper.wp
  rcases run_next_at (P := P) w o.type i r since c0 (L.map (·.born)).toArray es clock h2 h1 h4 h3 with ⟨h0, hrun⟩ | ⟨e, he, w1, hw1, hrun⟩
  · simp [execOp, hop, hit, hrun, Result.andThen]
    refine hK' _ _ (hDone fun x hx => ?_)
    have hno : x ∉ (leftOf es (L.map (·.born)).toArray).toList := fun q => by
      have := List.length_pos_of_mem q
      simp at this
      omega
    have hb : x.born ∈ L.map (·.born) := Decidable.byContradiction fun q => hno ((hleft x).2 ⟨hx, q⟩)
    obtain ⟨y, hy, hyb⟩ := List.mem_map.1 hb
    rw [hinj x hx y (h7 y hy) hyb.symm]
    exact hy
  · obtain ⟨he1, he2⟩ := (hleft e).1 he
    have hr1 : w1.heap[i]? = some (.mapIter (some r) since (L.map (·.born)).toArray c0) := by rcases hw1 with rfl | rfl <;> exact h2
    have hb1 : w1.heap[r]? = some (.map es clock) := by rcases hw1 with rfl | rfl <;> exact h1
    obtain ⟨sn, hsn⟩ : ∃ sn, (L.map (·.born)).toArray.push e.born = sn := ⟨_, rfl⟩
    have hentry := fun (W : World) (q1 : W.heap[i]? = some (.mapIter (some r) since ((L.map (·.born)).toArray.push e.born) clock)) (q2 : W.heap[r]? = some (.map es clock)) => run_entry_at (P := P) W i r since _ es clock e q1 q2 he1 hborn
    rw [hsn] at hrun hentry
    have hsn2 : sn = ((L ++ [e]).map (·.born)).toArray := by rw [← hsn]; simp
    have hset := Go.MapKept.heap_set (o' := .mapIter (some r) since sn clock) hr1
    have hb' : (Go.ChangeMaps.setBlock w1 i (.mapIter (some r) since sn clock)).heap[r]? = some (.map es clock) := (hset.2 r hne).trans hb1
    simp [execOp, hop, hit, hrun, Result.andThen]
    refine hK' _ _ (hMore e _ he1 ⟨hb', ⟨clock, ?_, h5⟩, h4, h5, ?_, ?_⟩ ?_ (hentry _ hset.1 hb'))
    · rw [← hsn2]
      exact hset.1
    · rw [List.map_append, List.nodup_append]
      refine ⟨h6, by simp, fun a ha b hb => ?_⟩
      simp at hb
      subst hb
      exact fun e => he2 (e ▸ ha)
    · intro x hx
      rcases List.mem_append.1 hx with q | q
      · exact h7 x q
      · rw [List.mem_singleton] at q; subst q; exact he1
    · rcases hw1 with rfl | rfl <;> exact ⟨rfl, rfl, rfl, by simp [Go.ChangeMaps.setBlock], fun k _ hk => hset.2 k (fun e1 => hk (by rw [e1]))⟩
end
end Go.Proofs.YtgjmgneppecfgaaGreatDoor.Mb
/-
  THE WALK of encodeArray.
-/
namespace Go.Proofs.YtgjmgneppecfgaaGreatDoor.Mb
open Go.RowKit Go.Proofs.YtgjmgneppecfgaaGreatDoor.Va Go.Proofs.YtgjmgneppecfgaaGreatDoor.Ba Go.Proofs.YtgjmgneppecfgaaGreatDoor.Ma
set_option linter.unusedVariables false
set_option linter.unusedSimpArgs false

theorem sizeL_take : ∀ (l : List V) (i : Nat) (hi : i < l.length), sizeL (l.take i) + (l[i]).size ≤ sizeL l
  | [], i, hi => by simp at hi
  | x :: xs, 0, _ => by rw [List.take_zero, sizeL, sizeL]; simp
  | x :: xs, i + 1, hi => by
    have := sizeL_take xs i (by simpa using hi)
    rw [List.take_succ_cons, sizeL, sizeL]
    simp
    omega
theorem goodL_take : ∀ (l : List V) (i : Nat), GoodL l → GoodL (l.take i)
  | [], i, h => by rw [List.take_nil]; exact h
  | x :: xs, 0, h => by rw [List.take_zero, GoodL]; trivial
  | x :: xs, i + 1, h => by
    rw [GoodL] at h
    rw [List.take_succ_cons, GoodL]
    exact ⟨h.1, goodL_take xs i h.2⟩
theorem arr_len {l : List V} {i : Nat} (hg : GoodL l) (hi : i < l.length) : (encC (l.take i)).tail.length + (l[i]).size * NodeLen ≤ sizeL l * NodeLen := by
  have h1 := encC_len (l.take i) (goodL_take l i hg)
  have h2 := sizeL_take l i hi
  rw [List.length_tail]
  unfold NodeLen at *
  omega
def LoopArr (B b E : Nat) (bs : List Nat) (ls : List V) (w : World) (iv : Value) (wr : World) : Prop :=
  ∃ i : Nat, iv = .int .i64 (i : Int) ∧ i ≤ ls.length ∧ Wrote B b E (bs ++ 91 :: (encC (ls.take i)).tail) w wr
set_option maxHeartbeats 4000000 in
set_option maxRecDepth 100000 in
theorem encArray_any (ls : List V) (H : ∀ x ∈ ls, EncW x) (hg : GoodL ls) (n c : Nat) (hn : ls.length = n) (hmax : n ≤ 2147483647) (B b E : Nat) (bs : List Nat) (a : Option Addr) (S : Nat → Prop) (w : World) (hl : GL w S ls a) (hS : ∀ k, S k → k < B) (h : St B b E bs w) (hB : B ≤ w.heap.size)
    (hlim : bs.length + (1 + sizeL ls) * NodeLen ≤ 70368744177664) (hT : ∀ w', Below B w w' → Tab w') :
    Calls Tryz.prog 152 #[.pointer (some ⟨E, 0, none⟩), .slice a n c] w (EncEnd B b E (bs ++ 91 :: ((encC ls).tail ++ [93])) w) := by
  have HH := Lib.hid H
  have HG := Lib.hid hg
  have HN := Lib.hid hn
  have HGL := Lib.hid hl
  have HS := Lib.hid hS
  have HST := Lib.hid h
  have HT := Lib.hid hT
  have hlim2 : bs.length + 2 ≤ 140737488355328 := by unfold NodeLen at hlim; omega
  have HLM := Lib.hid hlim
  have c0 := h.cell
  clear H hg hn hl hS h hT hlim
  go_enter Tryz.func152, Tryz.ntmps152
  go_wp2_with fail
  refine (writeByte_any B b E 91 bs w HST.out hB (by omega)).mono ?_
  rintro e w1 ⟨rfl, h1⟩
  have W1 : Hid (Wrote B b E (bs ++ 91 :: (encC (ls.take 0)).tail) w w1) := Lib.hid (by rw [List.take_zero, encC]; exact h1)
  clear h1
  go_wp2_with fail
  go_loopw [13] (LoopArr B b E bs ls w) (fun iv _ => n - (intOf iv).toNat)
  case atStart => exact ⟨0, rfl, Nat.zero_le _, W1.out⟩
  case round =>
    obtain ⟨i, rfl, hi, hw⟩ := hrel
    rw [HN.out] at hi
    have HW := Lib.hid hw
    have c1 := hw.1.cell
    have hz1 := hw.2.1.size
    clear hw c0
    by_cases hlt : i < n
    · have hil : i < ls.length := by rw [HN.out]; exact hlt
      obtain ⟨ga, go, rfl⟩ := HGL.out.addr (by omega)
      obtain ⟨hs, g, hcell, hgv⟩ := GL.at ls ga go HGL.out i hil
      have hcx : wr.cell? ⟨ga, go + i, none⟩ = some g := (HW.out.2.1.cell (p := ⟨ga, go + i, none⟩) (HS.out _ hs)).trans hcell
      have hal := arr_len HG.out hil
      have hnx := encC_next hil
      have hmem : ls[i] ∈ ls := List.getElem_mem hil
      obtain ⟨x, hx⟩ : ∃ x, ls[i]'hil = x := ⟨_, rfl⟩
      rw [hx] at hgv hal hnx hmem
      have HGV := Lib.hid hgv
      have HMEM := Lib.hid hmem
      have hlm : bs.length + (1 + sizeL ls) * NodeLen ≤ 70368744177664 := HLM.out
      have HLB : Hid ((bs ++ 91 :: (encC (ls.take i)).tail).length + 1 ≤ 140737488355328) := Lib.hid (by rw [List.length_append, List.length_cons]; unfold NodeLen at *; omega)
      have HLC : Hid ((bs ++ 91 :: (encC (ls.take i)).tail).length + 1 + x.size * NodeLen ≤ 70368744177664) := Lib.hid (by rw [List.length_append, List.length_cons]; unfold NodeLen at *; omega)
      have HNX := Lib.hid hnx
      clear hs hcell hgv hil hal hlm hmem hnx hx
      rcases Nat.eq_zero_or_pos i with rfl | hi0
      · have hcx0 : wr.cell? ⟨ga, go, none⟩ = some g := hcx
        go_wp2_with fail
        refine (HH.out x HMEM.out B b E _ wr g S (GV.mono (Same.of_below HW.out.2.1 HS.out) (fun _ h => h) _ _ HGV.out) HS.out HW.out.1 (by omega) (by have := HLC.out; omega) (fun w' hw' => HT.out w' (HW.out.2.1.trans hw'))).mono ?_
        rintro e w2 ⟨rfl, h2⟩
        have W2 := Lib.hid (HW.out.trans h2)
        clear h2
        go_wp2_with fail
        go_roundw
        case rel => exact ⟨1, by rfl, by rw [HN.out]; exact hlt, by rw [HNX.out, if_neg (by omega), List.nil_append]; have := W2.out; rw [List.take_zero, encC] at this; exact (by simpa using this)⟩
        case measure => simp [intOf]; omega
      · go_wp2_with fail
        refine (writeByte_any B b E 44 _ wr HW.out.1 (by omega) HLB.out).mono ?_
        rintro e w2 ⟨rfl, h2⟩
        have W2 := Lib.hid (HW.out.trans h2)
        have hz2 := W2.out.2.1.size
        clear h2
        go_wp2_with fail
        refine (HH.out x HMEM.out B b E _ w2 g S (GV.mono (Same.of_below W2.out.2.1 HS.out) (fun _ h => h) _ _ HGV.out) HS.out W2.out.1 (by omega) (by rw [List.length_append]; exact HLC.out) (fun w' hw' => HT.out w' (W2.out.2.1.trans hw'))).mono ?_
        rintro e w3 ⟨rfl, h3⟩
        have W3 := Lib.hid (W2.out.trans h3)
        clear h3
        go_wp2_with fail
        go_roundw
        case rel => exact ⟨i + 1, by push_cast; rfl, by rw [HN.out]; exact hlt, by rw [HNX.out, if_pos hi0]; have := W3.out; simpa using this⟩
        case measure => simp [intOf]; omega
    · obtain rfl : i = n := by omega
      have htl : ls.take i = ls := List.take_of_length_le (by rw [HN.out]; exact Nat.le_refl _)
      rw [htl] at HW
      have hlm : bs.length + (1 + sizeL ls) * NodeLen ≤ 70368744177664 := HLM.out
      have hcl := encC_len ls HG.out
      have HLB : Hid ((bs ++ 91 :: (encC ls).tail).length + 1 ≤ 140737488355328) := Lib.hid (by rw [List.length_append, List.length_cons, List.length_tail]; unfold NodeLen at *; omega)
      clear htl hlm hcl
      go_wp2_with fail
      refine (writeByte_any B b E 93 _ wr HW.out.1 (by omega) HLB.out).mono ?_
      rintro e w2 ⟨rfl, h2⟩
      have W2 := Lib.hid (HW.out.trans h2)
      clear h2
      go_wp2_with fail
      go_returns
      exact ⟨rfl, by have := W2.out; simpa using this⟩
end Go.Proofs.YtgjmgneppecfgaaGreatDoor.Mb
/-
  The row of an object's entries; sorted it is the keys in their order.
-/
namespace Go.Proofs.YtgjmgneppecfgaaGreatDoor.Mb
open Go.RowKit Go.Proofs.YtgjmgneppecfgaaGreatDoor.Va Go.Proofs.YtgjmgneppecfgaaGreatDoor.Ba Go.Proofs.YtgjmgneppecfgaaGreatDoor.Ma
set_option linter.unusedVariables false
set_option linter.unusedSimpArgs false

/-- an entry as it is put into the row -/
def kvE (e : MapEntry) : KV := (match e.key with | .string s => s | _ => ⟨#[]⟩, if h : e.val.oneCell' = true then ⟨e.val, h⟩ else ⟨.nilIface, rfl⟩)
theorem gv_one {w : World} {S : Nat → Prop} {x : V} {g : Value} (h : GV w S x g) : g.oneCell' = true := by
  cases x with
  | mk k h' t ls ks vs =>
    rw [GV] at h
    rcases h with ⟨_, rfl⟩ | ⟨_, rfl⟩ | ⟨_, rfl⟩ | ⟨_, rfl⟩ | ⟨_, rfl⟩ | ⟨_, a, c, rfl, _⟩ | ⟨_, r, es, cl, rfl, _⟩
    · rfl
    · rfl
    · rfl
    · unfold gnum; split <;> rfl
    · rfl
    · rfl
    · rfl
theorem gm_kv {w : World} {S : Nat → Prop} {vs : List V} {ks : List ByteArray} {es : List MapEntry} (h : GM w S vs ks es) : (es.map kvE).map (·.1) = ks ∧ ∀ i (hi : i < (es.map kvE).length) (h2 : i < vs.length), GV w S vs[i] ((es.map kvE)[i]).2.1 := by
  obtain ⟨l1, l2, l3⟩ := GM.lens vs ks es h
  refine ⟨?_, fun i hi h2 => ?_⟩
  · rw [List.map_map]
    have := congrArg (List.map fun v => match v with | Value.string s => s | _ => (⟨#[]⟩ : ByteArray)) l3
    rw [List.map_map, List.map_map] at this
    refine Eq.trans (Eq.trans ?_ this) ?_
    · rfl
    · conv => rhs; rw [← List.map_id ks]
      rfl
  · obtain ⟨e, he, hk, hv⟩ := GM.at vs ks es h i (by omega) h2
    rw [List.getElem_map]
    have : es[i]'(by rw [List.length_map] at hi; exact hi) = e := by
      have := List.getElem?_eq_getElem (l := es) (i := i) (by rw [List.length_map] at hi; exact hi)
      rw [this] at he
      exact Option.some.inj he
    rw [this]
    unfold kvE
    rw [dif_pos (gv_one hv)]
    exact hv
/-- the row's cells -/
def KvRow (blk n : Nat) (L : List KV) (w : World) : Prop :=
  ∃ cs : Array Value, w.heap[blk]? = some (.cells cs 194 (0, 0)) ∧ cs.size = n * 2 ∧ L.length ≤ n ∧ ∀ j (hj : j < L.length), cs[j * 2]? = some (.string L[j].1) ∧ cs[j * 2 + 1]? = some L[j].2.1
theorem KvRow.same {blk n : Nat} {L : List KV} {w w' : World} (h : KvRow blk n L w) (hk : w'.heap[blk]? = w.heap[blk]?) : KvRow blk n L w' := by
  obtain ⟨cs, h1, h2⟩ := h
  exact ⟨cs, hk.trans h1, h2⟩
theorem KvRow.keep {blk n b E : Nat} {L : List KV} {w w' : World} (h : KvRow blk n L w) (hk : KeepE b E w w') (hb : blk ≠ b) (hE : blk ≠ E) : KvRow blk n L w' := by
  obtain ⟨cs, h1, h2⟩ := h
  exact ⟨cs, hk blk _ h1 hb hE (fun c fz e => by cases e), h2⟩
theorem KvRow.push {blk n : Nat} {L : List KV} {w : World} {x : KV} (h : KvRow blk n L w) (hn : L.length < n) : KvRow blk n (L ++ [x]) ((w.setCell ⟨blk, L.length * 2, none⟩ (.string x.1)).setCell ⟨blk, L.length * 2 + 1, none⟩ x.2.1) := by
  obtain ⟨cs, h1, h2, h3, h4⟩ := h
  have q1 := set_block h1 (L.length * 2) (.string x.1)
  have q2 := set_block q1 (L.length * 2 + 1) x.2.1
  refine ⟨_, q2, by simp [h2], by simp; omega, fun j hj => ?_⟩
  rw [List.length_append, List.length_singleton] at hj
  by_cases hjl : j < L.length
  · have e : (L ++ [x])[j]'(by simp; omega) = L[j] := List.getElem_append_left hjl
    rw [e, Array.getElem?_setIfInBounds, Array.getElem?_setIfInBounds, if_neg (by omega), if_neg (by omega), Array.getElem?_setIfInBounds, Array.getElem?_setIfInBounds, if_neg (by omega), if_neg (by omega)]
    exact h4 j hjl
  · obtain rfl : j = L.length := by omega
    have e : (L ++ [x])[L.length]'(by simp) = x := by simp
    rw [e, Array.getElem?_setIfInBounds, Array.getElem?_setIfInBounds, if_neg (by omega), if_pos rfl, if_pos (by omega), Array.getElem?_setIfInBounds, if_pos rfl, if_pos (by simp; omega)]
    exact ⟨rfl, rfl⟩
theorem KvRow.cell {blk n : Nat} {L : List KV} {w : World} (h : KvRow blk n L w) {j : Nat} (hj : j < L.length) : w.cell? ⟨blk, j * 2, none⟩ = some (.string L[j].1) ∧ w.cell? ⟨blk, j * 2 + 1, none⟩ = some L[j].2.1 := by
  obtain ⟨cs, h1, h2, h3, h4⟩ := h
  exact ⟨cell_of h1 _ (h4 j hj).1, cell_of h1 _ (h4 j hj).2⟩
theorem KvRow.slot {blk n : Nat} {L : List KV} {w : World} (h : KvRow blk n L w) {j : Nat} (hj : j < n) : (∃ v, w.cell? ⟨blk, j * 2, none⟩ = some v) ∧ (∃ v, w.cell? ⟨blk, j * 2 + 1, none⟩ = some v) ∧ w.frozen? ⟨blk, j * 2, none⟩ = false ∧ w.frozen? ⟨blk, j * 2 + 1, none⟩ = false := by
  obtain ⟨cs, h1, h2, h3, h4⟩ := h
  exact ⟨⟨_, cell_of h1 _ (Array.getElem?_eq_getElem (by omega))⟩, ⟨_, cell_of h1 _ (Array.getElem?_eq_getElem (by omega))⟩, free_of h1 _, free_of h1 _⟩
theorem KvRow.holds {blk n : Nat} {L : List KV} {w : World} (h : KvRow blk n L w) (hn : L.length = n) : Sort.HoldsK encKV 2 w blk 0 L.toArray := by
  intro t ht
  rw [Sort.size_flatK, List.size_toArray] at ht
  have hj : t / 2 < L.length := by omega
  obtain ⟨c1, c2⟩ := h.cell hj
  have hL : L.toArray[t / 2]! = L[t / 2] := by simp [hj]
  rw [Sort.get_flatK _ _ _ _ (by rw [List.size_toArray]; exact ht), hL, Nat.zero_add]
  obtain ⟨cs, h1, _⟩ := h
  refine ⟨?_, free_of h1 _⟩
  rcases Nat.mod_two_eq_zero_or_one t with q | q
  · rw [q]
    have e : t = t / 2 * 2 := by omega
    exact (congrArg (fun u => w.cell? ⟨blk, u, none⟩) e).trans c1
  · rw [q]
    have e : t = t / 2 * 2 + 1 := by omega
    exact (congrArg (fun u => w.cell? ⟨blk, u, none⟩) e).trans c2
/-- .. and back, behind the sort -/
theorem KvRow.of_holds {blk n : Nat} {d : Array KV} {w : World} {cs : Array Value} (hb : w.heap[blk]? = some (.cells cs 194 (0, 0))) (hs : Sort.HoldsK encKV 2 w blk 0 d) (i : Nat) (hi : i < d.toList.length) :
    w.cell? ⟨blk, i * 2, none⟩ = some (.string (d.toList[i]).1) ∧ w.cell? ⟨blk, i * 2 + 1, none⟩ = some (d.toList[i]).2.1 := by
  have hi' : i < d.size := hi
  have h0 := (hs.cell (i := i) (c := 0) hi' (by decide)).1
  have h1 := (hs.cell (i := i) (c := 1) hi' (by decide)).1
  have e : d[i]! = d.toList[i] := by rw [getElem!_pos d i hi']; rfl
  rw [e] at h0 h1
  rw [Nat.zero_add, Nat.add_zero] at h0
  rw [Nat.zero_add] at h1
  exact ⟨h0, h1⟩
/-- sorted by the keys, which are apart, the entries stand in their order -/
theorem sorted_is {T l : List KV} (hp : l.Perm T) (hs : ∀ i j (hi : i < j) (hj : j < l.length), ltKV l[j] (l[i]'(by omega)) = false) (hr : Rising (T.map (·.1))) : l = T := by
  have hT : ∀ i j (hi : i < j) (hj : j < T.length), ltKV (T[i]'(by omega)) T[j] = true := fun i j hi hj => by
    have := Rising.less hr i j (by simpa using hj) hi
    simpa [ltKV] using this
  refine List.Perm.eq_of_pairwise (le := fun a b => ltKV b a = false) ?_ ?_ ?_ hp
  · intro a b ha hb h1 h2
    obtain ⟨i, hi, rfl⟩ := List.getElem_of_mem (hp.mem_iff.1 ha)
    obtain ⟨j, hj, rfl⟩ := List.getElem_of_mem hb
    rcases Nat.lt_trichotomy i j with q | q | q
    · have := hT i j q hj
      rw [this] at h2
      cases h2
    · subst q; rfl
    · have := hT j i q hi
      rw [this] at h1
      cases h1
  · rw [List.pairwise_iff_getElem]
    intro i j hi hj hij
    exact hs i j hij hj
  · rw [List.pairwise_iff_getElem]
    intro i j hi hj hij
    have h1 := hT i j hij hj
    have := swo_kv.trans (T[i]) (T[j]) (T[i]) h1
    cases q : ltKV T[j] T[i] with
    | false => rfl
    | true => rw [swo_kv.irrefl] at this; exact (this q).symm
end Go.Proofs.YtgjmgneppecfgaaGreatDoor.Mb
