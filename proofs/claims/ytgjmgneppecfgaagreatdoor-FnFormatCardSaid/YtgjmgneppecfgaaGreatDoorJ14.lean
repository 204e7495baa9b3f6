/-
  FnFormat, texts MaW MaX BuS MbA MbE MbG MbH: lemmas for the law; the theorem stands in the last text.
-/
import Derived.Laws.BitsLemmas
import Derived.Shelf.Unicode.DecodeAny
import Derived.Shelf.SlSortFuncK.WholeK
import Derived.Test.YtgjmgneppecfgaaGreatDoorProg
import Derived.Shelf.GgSortFunc.Tiny
import Derived.Deep.QuietTactic
import Derived.Maps.RangeRun
import Derived.Test.YtgjmgneppecfgaaGreatDoorJ01
import Derived.Test.YtgjmgneppecfgaaGreatDoorJ02
import Derived.Test.YtgjmgneppecfgaaGreatDoorJ13
namespace Go.Proofs.YtgjmgneppecfgaaGreatDoor.Ma
open Go.RowKit Go.Proofs.YtgjmgneppecfgaaGreatDoor.Va Go.Proofs.YtgjmgneppecfgaaGreatDoor.Ba
set_option linter.unusedVariables false
set_option linter.unusedSimpArgs false

theorem below_drewN {B : Nat} {a w : World} (h : Below B a w) (q : Nat) : Below B a (w.drewN q) := h.trans ⟨rfl, rfl, rfl, Nat.le_refl _, fun _ _ => rfl⟩
theorem and2047 (n : Int) : bits .and .i64 n 2047 = n % 2048 := by
  have h127 : (BitVec.ofInt 64 2047).toNat = 2 ^ 11 - 1 := by decide
  have key : (BitVec.ofInt 64 n &&& BitVec.ofInt 64 2047).toNat = (n % ((2 ^ 64 : Nat) : Int)).toNat % 2 ^ 11 := by
    rw [BitVec.toNat_and, BitVec.toNat_ofInt, h127, Nat.and_two_pow_sub_one_eq_mod]
  show IntKind.i64.wrap ((BitVec.ofInt 64 n &&& BitVec.ofInt 64 2047).toNat : Nat) = n % 2048
  rw [key, IntKind.wrap_i64]
  omega
theorem or52 {m : Nat} (h : m < 4503599627370496) : bits .or .u64 (m : Int) 4503599627370496 = ((m + 4503599627370496 : Nat) : Int) := by
  have e := u64_or_nat m 4503599627370496 (by omega) (by decide)
  have h2 : m ||| 4503599627370496 = m + 4503599627370496 := by
    have := Nat.two_pow_add_eq_or_of_lt (i := 52) (b := m) (by simpa using h) 1
    simp only [Nat.mul_one] at this
    rw [Nat.or_comm, Nat.add_comm m]
    exact this.symm
  rw [h2] at e
  exact e
theorem and52 {x : Nat} (h : x < 18446744073709551616) : bits .and .u64 (x : Int) 4503599627370495 = ((x % 4503599627370496 : Nat) : Int) := by
  have e := u64_and_nat x 4503599627370495 h (by decide)
  have h2 : x &&& 4503599627370495 = x % 4503599627370496 := Nat.and_two_pow_sub_one_eq_mod x 52
  rw [h2] at e
  exact e
set_option maxHeartbeats 4000000 in
set_option maxRecDepth 100000 in
theorem fmtFloat_any {h : Int} {s : Bool} {M k : Nat} (H : Half h s M k) (ho : h % 2 ≠ 0) (hb : h.natAbs < 9007199254740992) (w : World) :
    Calls Tryz.prog 213 #[.float .f64 (fl h), .int .u8 102, .int .i64 (-1), .int .i64 64] w (StrEnd (numS (numJ h)) w) := by
  obtain ⟨hx, hk, lo, hi⟩ := wd_parts H
  have HS := Lib.hid H.hs
  have HM := Lib.hid H.hM
  have HOO := Lib.hid ho
  have HRES := Lib.hid (numJ_odd ho)
  clear H
  obtain ⟨x, hx0⟩ : ∃ x, fl h = x := ⟨_, rfl⟩
  rw [hx0] at hx ⊢
  clear hx0
  have hd := run_bits x
  obtain ⟨n, hn⟩ : ∃ n, h.natAbs = n := ⟨_, rfl⟩
  have HN := Lib.hid hn
  rw [hn] at hb HM HRES
  clear hn ho
  obtain ⟨E, hE⟩ : ∃ E, 1074 - k = E := ⟨_, rfl⟩
  obtain ⟨m, hm⟩ : ∃ m, M - 4503599627370496 = m := ⟨_, rfl⟩
  rw [hE, hm] at hx
  have hE1 : 1022 ≤ E := by omega
  have hE2 : E ≤ 1074 := by omega
  have hEk : E + k = 1074 := by omega
  have hmM : m + 4503599627370496 = M := by omega
  have HX := Lib.hid hx
  have hx63 : ((x : Int) / 9223372036854775808 != 0) = s := by
    cases s
    · have : (x : Int) / 9223372036854775808 = 0 := by simp at hx; omega
      rw [this]; rfl
    · have : (x : Int) / 9223372036854775808 = 1 := by simp at hx; omega
      rw [this]; rfl
  have hxs : x = (if s then 9223372036854775808 else 0) + E * 4503599627370496 + m := hx
  have hx64 : x < 18446744073709551616 := by rw [hxs]; cases s <;> simp <;> omega
  have hm52 : m < 4503599627370496 := by omega
  have hq0 : 0 ≤ (x : Int) / 4503599627370496 := by omega
  have hq1 : (x : Int) / 4503599627370496 < 4096 := by omega
  have hwx : wrap64 ((x : Int) / 4503599627370496) = (x : Int) / 4503599627370496 := by unfold wrap64; omega
  have hand : bits .and .i64 ((x : Int) / 4503599627370496) 2047 = (E : Int) := by
    rw [and2047]
    cases s
    · simp at hxs; omega
    · simp at hxs; omega
  have hand2 : bits .and .u64 (x : Int) 4503599627370495 = (m : Int) := by
    rw [and52 hx64]
    cases s
    · simp at hxs; omega
    · simp at hxs; omega
  have hor : bits .or .u64 (m : Int) 4503599627370496 = (M : Int) := by rw [or52 hm52, hmM]
  have he1 : ((E : Int) == 2047) = false := by simp; omega
  have he2 : ((E : Int) == 0) = false := by simp; omega
  have HEK := Lib.hid hEk
  have ho2 : n % 2 = 1 := by have := HOO.out; have := HN.out; omega
  have HO2 := Lib.hid ho2
  have HL5 := Lib.hid (dg_len (n := 5 * n) (by omega))
  obtain ⟨p, hp⟩ : ∃ p, (dg (5 * n)).length = p + 1 := ⟨_, (Nat.succ_pred_eq_of_pos (dg_len_pos _)).symm⟩
  have HP := Lib.hid hp
  obtain ⟨l, hl⟩ : ∃ l, p + 1 = l := ⟨_, rfl⟩
  have HLP := Lib.hid hl
  have hl20 : l ≤ 20 := by rw [← hl, ← hp]; exact HL5.out
  have hp20 : p < l := by omega
  have hsub : wrap64 ((l : Int) - (p : Int)) = 1 := by unfold wrap64; omega
  have hsub2 : IntKind.i64.wrap ((l : Int) - (p : Int)) = 1 := by rw [IntKind.wrap_i64]; omega
  clear hE hm hx hEk hmM hxs hx64 hm52 hq0 hq1 ho2 hp hl
  go_enter Tryz.func213, Tryz.ntmps213
  go_wp2_with fail
  refine (formOf_any w).mono ?_
  rintro e W1 ⟨rfl, b1⟩
  have B1 := Lib.hid b1
  have hz1 := b1.size
  clear b1
  cases s
  all_goals
    go_wp2_with fail
    go_quiet (fail)
    go_wp2_with fail
    generalize hW2 : World.drewN _ nq = W2
    have F2 : Hid (W2.heap[W1.heap.size]? = some (.cells #[.int .i64 52, .int .i64 11, .int .i64 (-1023)] 260 (0, 0))) := Lib.hid (by rw [← hW2]; exact block_new W1 _ _)
    have B2 : Hid (Below w.heap.size w W2) := Lib.hid (by rw [← hW2]; exact (B1.out.alloc hz1 _).trans ⟨rfl, rfl, rfl, Nat.le_refl _, fun _ _ => rfl⟩)
    have hz12 : W1.heap.size < W2.heap.size := heap_lt F2.out
    clear hW2
    refine (newDec_int _ M rfl (by omega) (by omega) _).mono ?_
    rintro e W3 ⟨rfl, h3, b3⟩
    have A3 := Lib.hid h3
    have F3 := Lib.hid (keep b3 F2.out)
    have hz3 := b3.size
    have B3 := Lib.hid (B2.out.trans (b3.mono B2.out.size))
    have c3 := cells3 F3.out
    have hz2 := B2.out.size
    clear h3 b3
    go_wp2_with fail
    refine (shift_can _ W2.heap.size M (k + 1) _ (by have := HEK.out; omega) (by omega) (by omega) (by omega) (by omega) W3 A3.out).mono ?_
    intro e W4 h4
    obtain ⟨a4, b4, z4⟩ := made_kept B3.out hz2 (Nat.le_refl _) h4
    obtain ⟨m1, m2⟩ := mant_can HO2.out (Nat.succ_pos k) HM.out
    have hd4 := h4.2.1
    rw [m1, m2] at hd4
    have F4 := Lib.hid ((h4.2.2.block W1.heap.size (by omega) (fun e => by have := Option.some.inj e; omega)).trans F3.out)
    have B4 := Lib.hid b4
    obtain ⟨rfl, _, _⟩ := h4
    have A4 := Lib.hid hd4
    have c4 := cells3 F4.out
    have hz4 := B4.out.size
    clear a4 b4 m1 m2 hd4 c3
    go_wp2_with fail
    refine (short_any _ W2.heap.size n (k + 1) M _ HO2.out hb (by omega) (by omega) HM.out lo hi (by have := HEK.out; omega) W4 A4.out).mono ?_
    rintro e W5 ⟨rfl, b5⟩
    have A5 := Lib.hid (A4.out.below b5)
    have B5 := Lib.hid (B4.out.trans (b5.mono hz4))
    obtain ⟨a, cap, h1, _⟩ := A5.out.dec
    rw [HP.out, Nat.add_sub_cancel, HLP.out] at h1
    have c5 := cells2 h1
    have hz5 := B5.out.size
    clear h1 b5 c4
    go_wp2_with fail
    go_quiet (fail)
    go_wp2_with fail
    have DC := A5.out.dec
    rw [HP.out, Nat.add_sub_cancel] at DC
    have HTX := Lib.hid (fun q => text_dec W2.heap.size p (dg (5 * n)) (by rw [HP.out]; omega) (dg_all _) (by have := HL5.out; omega) (W5.drewN q) DC.drewN)
    clear DC
    refine (HTX.out _).mono ?_
    rintro e W7 ⟨rfl, b7⟩
    have B7 : Hid (Below w.heap.size w W7) := Lib.hid ((below_drewN B5.out _).trans (b7.mono hz5))
    clear b7
    have hsz : (numS (textL (dg (5 * n)) p)).size ≤ 30 := by
      have q := numJ_len (h := h) (by have := HN.out; omega)
      rw [HRES.out, HP.out, Nat.add_sub_cancel, List.length_append] at q
      rw [numS_size]
      omega
    have hsz2 : (⟨#[45]⟩ : ByteArray).size = 1 := rfl
    have hsz3 : (⟨#[]⟩ : ByteArray).size = 0 := rfl
    rw [HP.out, Nat.add_sub_cancel] at HRES
    have hcat : (⟨#[45]⟩ : ByteArray) ++ numS (textL (dg (5 * n)) p) = numS (45 :: textL (dg (5 * n)) p) := numS_cons 45 _
    go_wp2_with fail
    go_returns
    refine ⟨?_, B7.out⟩
    rw [HRES.out]
    first
      | (rw [if_neg (by have := HS.out; simp at this; omega)]; exact congrArg (fun q => Ending.returned (.string q)) (numS_append [] _))
      | (rw [if_pos (by have := HS.out; simp at this; omega)]; rfl)
end Go.Proofs.YtgjmgneppecfgaaGreatDoor.Ma
namespace Go.Proofs.YtgjmgneppecfgaaGreatDoor.Ma
open Go.RowKit Go.Proofs.YtgjmgneppecfgaaGreatDoor.Va Go.Proofs.YtgjmgneppecfgaaGreatDoor.Ba
set_option linter.unusedVariables false
set_option linter.unusedSimpArgs false

theorem numJ_lt (h : Int) : ∀ x ∈ numJ h, x < 256 := by
  intro x hx
  unfold numJ at hx
  rcases List.mem_append.1 hx with q | q
  · split at q
    · rw [List.mem_singleton] at q; omega
    · cases q
  · rcases List.mem_append.1 q with r | r
    · exact digs_lt _ x r
    · split at r
      · cases r
      · simp at r; omega
set_option maxHeartbeats 2000000 in
set_option maxRecDepth 100000 in
theorem appFloat_any (g o k cap n : Nat) (t : TypeId) (f : Nat → Value) {h : Int} {s : Bool} {M kk : Nat} (H : Half h s M kk) (ho : h % 2 ≠ 0) (hb : h.natAbs < 9007199254740992) (w : World) (hr : w.rowIs g t n f) (hcap : k + 30 ≤ cap) (hfit : o + cap ≤ n) :
    Calls Tryz.prog 183 #[.slice (some ⟨g, o, none⟩) k cap, .float .f64 (fl h), .int .u8 102, .int .i64 (-1), .int .i64 64] w (AppEnd g o k cap n t f (numJ h) w) := by
  have HR := Lib.hid hr
  obtain ⟨i8, hi8, hs8⟩ := info8f
  have HI8 := Lib.hid hi8
  have HS8 := Lib.hid hs8
  have HL := Lib.hid (numJ_len (h := h) (by omega))
  have HC := Lib.hid (fun w => fmtFloat_any H ho hb w)
  clear hr hi8 hs8 H ho
  obtain ⟨x, hx⟩ : ∃ x, fl h = x := ⟨_, rfl⟩
  rw [hx] at HC ⊢
  clear hx
  go_enter Tryz.func183, Tryz.ntmps183
  go_wp2_with fail
  refine (HC.out w).mono ?_
  rintro e w1 ⟨rfl, hb⟩
  have HR1 := Lib.hid (HR.out.of_block (hb.block g HR.out.lt) : w1.rowIs g t n f)
  have HB := Lib.hid hb
  have hro : k + (numS (numJ h)).size ≤ cap := by rw [numS_size]; have := HL.out; omega
  have hfi : o + k + (numS (numJ h)).size ≤ n := by omega
  clear hb
  go_wp2_with (refine wpList_append_part rfl (.tmp 11) (.tmp 16) 73 9 rfl 5 i8 Tryz.underlying73 Tryz.underlying9 HI8.out HS8.out g o k cap n t f rfl HR1.out _ rfl hro hfi ?_; intro w2 hrow hgr; have HROW := Lib.hid hrow; have HGR := Lib.hid hgr; clear hrow hgr hro hfi)
  go_returns
  refine ⟨by rw [numS_size]; rfl, ?_, ?_⟩
  · have := HROW.out
    rwa [bytesN_numS' _ (numJ_lt h)] at this
  · exact ⟨HGR.out.os.trans HB.out.os, HGR.out.tape.trans HB.out.tape, HGR.out.output.trans HB.out.output, Nat.le_trans HB.out.size HGR.out.size, fun i hi hne => (HGR.out.block i (Nat.lt_of_lt_of_le hi HB.out.size) hne).trans (HB.out.block i hi)⟩
end Go.Proofs.YtgjmgneppecfgaaGreatDoor.Ma
namespace Go.Proofs
open Go.Shelf
def Tryz.lays197_ren : Go.Shelf.Ren := ⟨fun | 197 => 185 | 260 => 215 | n => n, fun | 9 => 9 | 21 => 21 | 3 => 3 | 4 => 4 | 5 => 5 | 105 => 190 | 119 => 83 | 0 => 0 | 46 => 87 | 139 => 86 | 138 => 85 | n => n, fun | 3 => 0 | 4 => 1 | n => n⟩
theorem Tryz.lays197 : Go.Proofs.Lays.n197 Tryz.prog Tryz.lays197_ren := {
  mixed := by kernel_rfl
  f197 := Tryz.func185.trans (congrArg some (by kernel_rfl))
  f260 := Tryz.func215.trans (congrArg some (by kernel_rfl))
  t0 := Tryz.underlying0
  a0 := Tryz.isAgg0
  z0 := Tryz.sizeOf0
  v0 := Tryz.zeroValue0
  t3 := Tryz.underlying3
  a3 := Tryz.isAgg3
  z3 := Tryz.sizeOf3
  v3 := Tryz.zeroValue3
  t4 := Tryz.underlying4
  a4 := Tryz.isAgg4
  z4 := Tryz.sizeOf4
  v4 := Tryz.zeroValue4
  t5 := Tryz.underlying5
  a5 := Tryz.isAgg5
  z5 := Tryz.sizeOf5
  v5 := Tryz.zeroValue5
  t9 := Tryz.underlying9
  a9 := Tryz.isAgg9
  z9 := Tryz.sizeOf9
  v9 := Tryz.zeroValue9
  t21 := Tryz.underlying21
  a21 := Tryz.isAgg21
  z21 := Tryz.sizeOf21
  v21 := Tryz.zeroValue21
  t46 := Tryz.underlying87
  a46 := Tryz.isAgg87
  z46 := Tryz.sizeOf87
  v46 := Tryz.zeroValue87
  t105 := Tryz.underlying190
  a105 := Tryz.isAgg190
  z105 := Tryz.sizeOf190
  v105 := Tryz.zeroValue190
  t119 := Tryz.underlying83
  a119 := Tryz.isAgg83
  z119 := Tryz.sizeOf83
  t138 := Tryz.underlying85
  a138 := Tryz.isAgg85
  z138 := Tryz.sizeOf85
  v138 := Tryz.zeroValue85
  t139 := Tryz.underlying86
  a139 := Tryz.isAgg86
  z139 := Tryz.sizeOf86
  v139 := Tryz.zeroValue86
  g3 := by kernel_rfl
  g4 := by kernel_rfl }
def Tryz.laysGg6_ren : Go.Shelf.Ren := ⟨fun | 6 => 186 | 10 => 216 | 11 => 217 | 12 => 218 | 13 => 219 | 14 => 220 | 24 => 255 | 25 => 256 | 26 => 257 | 27 => 258 | 28 => 259 | 29 => 260 | 30 => 261 | 31 => 262 | 32 => 263 | 33 => 264 | 34 => 289 | 35 => 290 | 36 => 291 | 37 => 292 | 38 => 293 | 39 => 302 | n => n, fun | 20 => 20 | 26 => 148 | 35 => 222 | 0 => 0 | 37 => 224 | 3 => 3 | 41 => 87 | 44 => 230 | 49 => 237 | 51 => 129 | 4 => 4 | 54 => 279 | 53 => 278 | 58 => 94 | 5 => 5 | 9 => 9 | 60 => 303 | 64 => 307 | 66 => 313 | 67 => 314 | 17 => 17 | 32 => 219 | 33 => 220 | 82 => 331 | 12 => 12 | 75 => 325 | 76 => 326 | 77 => 327 | 78 => 286 | 79 => 328 | 80 => 329 | n => n, fun | n => n⟩
theorem Tryz.laysGg6 : Go.Proofs.LaysGg.n6 Tryz.prog Tryz.laysGg6_ren := {
  mixed := by kernel_rfl
  f6 := Tryz.func186.trans (congrArg some (by kernel_rfl))
  f10 := Tryz.func216.trans (congrArg some (by kernel_rfl))
  f11 := Tryz.func217.trans (congrArg some (by kernel_rfl))
  f12 := Tryz.func218.trans (congrArg some (by kernel_rfl))
  f13 := Tryz.func219.trans (congrArg some (by kernel_rfl))
  f14 := Tryz.func220.trans (congrArg some (by kernel_rfl))
  f24 := Tryz.func255.trans (congrArg some (by kernel_rfl))
  f25 := Tryz.func256.trans (congrArg some (by kernel_rfl))
  f26 := Tryz.func257.trans (congrArg some (by kernel_rfl))
  f27 := Tryz.func258.trans (congrArg some (by kernel_rfl))
  f28 := Tryz.func259.trans (congrArg some (by kernel_rfl))
  f29 := Tryz.func260.trans (congrArg some (by kernel_rfl))
  f30 := Tryz.func261.trans (congrArg some (by kernel_rfl))
  f31 := Tryz.func262.trans (congrArg some (by kernel_rfl))
  f32 := Tryz.func263.trans (congrArg some (by kernel_rfl))
  f33 := Tryz.func264.trans (congrArg some (by kernel_rfl))
  f34 := Tryz.func289.trans (congrArg some (by kernel_rfl))
  f35 := Tryz.func290.trans (congrArg some (by kernel_rfl))
  f36 := Tryz.func291.trans (congrArg some (by kernel_rfl))
  f37 := Tryz.func292.trans (congrArg some (by kernel_rfl))
  f38 := Tryz.func293.trans (congrArg some (by kernel_rfl))
  f39 := Tryz.func302.trans (congrArg some (by kernel_rfl))
  t0 := Tryz.underlying0
  a0 := Tryz.isAgg0
  z0 := Tryz.sizeOf0
  v0 := Tryz.zeroValue0
  i0 := by kernel_rfl
  t3 := Tryz.underlying3
  a3 := Tryz.isAgg3
  z3 := Tryz.sizeOf3
  v3 := Tryz.zeroValue3
  i3 := by kernel_rfl
  t4 := Tryz.underlying4
  a4 := Tryz.isAgg4
  z4 := Tryz.sizeOf4
  v4 := Tryz.zeroValue4
  i4 := by kernel_rfl
  t5 := Tryz.underlying5
  a5 := Tryz.isAgg5
  z5 := Tryz.sizeOf5
  v5 := Tryz.zeroValue5
  i5 := by kernel_rfl
  t9 := Tryz.underlying9
  a9 := Tryz.isAgg9
  z9 := Tryz.sizeOf9
  v9 := Tryz.zeroValue9
  i9 := by kernel_rfl
  t12 := Tryz.underlying12
  a12 := Tryz.isAgg12
  z12 := Tryz.sizeOf12
  v12 := Tryz.zeroValue12
  i12 := by kernel_rfl
  t17 := Tryz.underlying17
  a17 := Tryz.isAgg17
  z17 := Tryz.sizeOf17
  v17 := Tryz.zeroValue17
  i17 := by kernel_rfl
  t20 := Tryz.underlying20
  a20 := Tryz.isAgg20
  z20 := Tryz.sizeOf20
  v20 := Tryz.zeroValue20
  i20 := by kernel_rfl
  t26 := Tryz.underlying148
  a26 := Tryz.isAgg148
  z26 := Tryz.sizeOf148
  v26 := Tryz.zeroValue148
  i26 := by kernel_rfl
  t32 := Tryz.underlying219
  a32 := Tryz.isAgg219
  z32 := Tryz.sizeOf219
  v32 := Tryz.zeroValue219
  i32 := by kernel_rfl
  t33 := Tryz.underlying220
  a33 := Tryz.isAgg220
  z33 := Tryz.sizeOf220
  v33 := Tryz.zeroValue220
  i33 := by kernel_rfl
  t35 := Tryz.underlying222
  a35 := Tryz.isAgg222
  z35 := Tryz.sizeOf222
  v35 := Tryz.zeroValue222
  i35 := by kernel_rfl
  t37 := Tryz.underlying224
  a37 := Tryz.isAgg224
  z37 := Tryz.sizeOf224
  v37 := Tryz.zeroValue224
  i37 := by kernel_rfl
  t41 := Tryz.underlying87
  a41 := Tryz.isAgg87
  z41 := Tryz.sizeOf87
  v41 := Tryz.zeroValue87
  i41 := by kernel_rfl
  t44 := Tryz.underlying230
  a44 := Tryz.isAgg230
  z44 := Tryz.sizeOf230
  v44 := Tryz.zeroValue230
  i44 := by kernel_rfl
  t49 := Tryz.underlying237
  a49 := Tryz.isAgg237
  z49 := Tryz.sizeOf237
  v49 := Tryz.zeroValue237
  i49 := by kernel_rfl
  t51 := Tryz.underlying129
  a51 := Tryz.isAgg129
  z51 := Tryz.sizeOf129
  v51 := Tryz.zeroValue129
  i51 := by kernel_rfl
  t53 := Tryz.underlying278
  a53 := Tryz.isAgg278
  z53 := Tryz.sizeOf278
  v53 := Tryz.zeroValue278
  i53 := by kernel_rfl
  t54 := Tryz.underlying279
  a54 := Tryz.isAgg279
  z54 := Tryz.sizeOf279
  v54 := Tryz.zeroValue279
  i54 := by kernel_rfl
  t58 := Tryz.underlying94
  a58 := Tryz.isAgg94
  z58 := Tryz.sizeOf94
  v58 := Tryz.zeroValue94
  i58 := by kernel_rfl
  t60 := Tryz.underlying303
  a60 := Tryz.isAgg303
  z60 := Tryz.sizeOf303
  v60 := Tryz.zeroValue303
  i60 := by kernel_rfl
  t64 := Tryz.underlying307
  a64 := Tryz.isAgg307
  z64 := Tryz.sizeOf307
  v64 := Tryz.zeroValue307
  i64 := by kernel_rfl
  t66 := Tryz.underlying313
  a66 := Tryz.isAgg313
  z66 := Tryz.sizeOf313
  v66 := Tryz.zeroValue313
  i66 := by kernel_rfl
  t67 := Tryz.underlying314
  a67 := Tryz.isAgg314
  z67 := Tryz.sizeOf314
  v67 := Tryz.zeroValue314
  i67 := by kernel_rfl
  t75 := Tryz.underlying325
  a75 := Tryz.isAgg325
  z75 := Tryz.sizeOf325
  v75 := Tryz.zeroValue325
  i75 := by kernel_rfl
  t76 := Tryz.underlying326
  a76 := Tryz.isAgg326
  z76 := Tryz.sizeOf326
  v76 := Tryz.zeroValue326
  i76 := by kernel_rfl
  t77 := Tryz.underlying327
  a77 := Tryz.isAgg327
  z77 := Tryz.sizeOf327
  v77 := Tryz.zeroValue327
  i77 := by kernel_rfl
  t78 := Tryz.underlying286
  a78 := Tryz.isAgg286
  z78 := Tryz.sizeOf286
  v78 := Tryz.zeroValue286
  i78 := by kernel_rfl
  t79 := Tryz.underlying328
  a79 := Tryz.isAgg328
  z79 := Tryz.sizeOf328
  v79 := Tryz.zeroValue328
  i79 := by kernel_rfl
  t80 := Tryz.underlying329
  a80 := Tryz.isAgg329
  z80 := Tryz.sizeOf329
  v80 := Tryz.zeroValue329
  i80 := by kernel_rfl
  t82 := Tryz.underlying331
  a82 := Tryz.isAgg331
  z82 := Tryz.sizeOf331
  v82 := Tryz.zeroValue331
  i82 := by kernel_rfl }
end Go.Proofs
namespace Go.Proofs.YtgjmgneppecfgaaGreatDoor.Mb
open Go.RowKit Go.Proofs.YtgjmgneppecfgaaGreatDoor.Va Go.Proofs.YtgjmgneppecfgaaGreatDoor.Ba Go.Proofs.YtgjmgneppecfgaaGreatDoor.Ma
set_option linter.unusedVariables false
set_option linter.unusedSimpArgs false

/-- blocks that are neither the buffer's nor the encoder's nor rows of bytes stand -/
def KeepE (b E : Nat) (w w' : World) : Prop := ∀ k o, w.heap[k]? = some o → k ≠ b → k ≠ E → (∀ c fz, o ≠ .cells c 5 fz) → w'.heap[k]? = some o
theorem KeepE.refl (b E : Nat) (w : World) : KeepE b E w w := fun _ _ h _ _ _ => h
theorem KeepE.trans {b E : Nat} {a c d : World} (h : KeepE b E a c) (k : KeepE b E c d) : KeepE b E a d := fun i o hi h1 h2 ho => k i o (h i o hi h1 h2 ho) h1 h2 ho
theorem byteCells_eq (s : ByteArray) : Lib.byteCells s.data.toList = cellsD (bytesN s) := by
  unfold Lib.byteCells cellsD bytesN
  rw [List.map_map]
  rfl
end Go.Proofs.YtgjmgneppecfgaaGreatDoor.Mb
namespace Go.Proofs.YtgjmgneppecfgaaGreatDoor.Mb
open Go.RowKit Go.Proofs.YtgjmgneppecfgaaGreatDoor.Va Go.Proofs.YtgjmgneppecfgaaGreatDoor.Ba Go.Proofs.YtgjmgneppecfgaaGreatDoor.Ma
set_option linter.unusedVariables false
set_option linter.unusedSimpArgs false

/-- the tables of utf8, in whatever world -/
def Tab (w : World) : Prop := Lib.Utf8Tabs (Tryz.lays197_ren.g 3) (Tryz.lays197_ren.g 4) w
end Go.Proofs.YtgjmgneppecfgaaGreatDoor.Mb
namespace Go.Proofs.YtgjmgneppecfgaaGreatDoor.Mb
open Go.RowKit Go.Proofs.YtgjmgneppecfgaaGreatDoor.Va Go.Proofs.YtgjmgneppecfgaaGreatDoor.Ba Go.Proofs.YtgjmgneppecfgaaGreatDoor.Ma
set_option linter.unusedVariables false
set_option linter.unusedSimpArgs false

/-- a value of one cell -/
abbrev Cell1 : Type := {v : Value // v.oneCell' = true}
instance : Inhabited Cell1 := ⟨⟨.nilIface, rfl⟩⟩
/-- an entry -/
abbrev KV : Type := ByteArray × Cell1
def encKV (p : KV) : List Value := [.string p.1, p.2.1]
def ltKV (a b : KV) : Bool := Op.bytesLess a.1.data.toList b.1.data.toList
theorem bytesLess_tri : ∀ (a b : List UInt8), Op.bytesLess a b = true ∨ a = b ∨ Op.bytesLess b a = true
  | [], [] => .inr (.inl rfl)
  | [], _ :: _ => .inl rfl
  | _ :: _, [] => .inr (.inr rfl)
  | x :: a, y :: b => by
    simp only [Op.bytesLess, Bool.or_eq_true, Bool.and_eq_true, decide_eq_true_eq, beq_iff_eq, List.cons.injEq]
    rcases bytesLess_tri a b with h | h | h
    · rcases (show x < y ∨ x = y ∨ y < x by rcases Nat.lt_trichotomy x.toNat y.toNat with q | q | q; exact .inl q; exact .inr (.inl (UInt8.toNat_inj.1 q)); exact .inr (.inr q)) with q | q | q
      · exact .inl (.inl q)
      · exact .inl (.inr ⟨q, h⟩)
      · exact .inr (.inr (.inl q))
    · rcases (show x < y ∨ x = y ∨ y < x by rcases Nat.lt_trichotomy x.toNat y.toNat with q | q | q; exact .inl q; exact .inr (.inl (UInt8.toNat_inj.1 q)); exact .inr (.inr q)) with q | q | q
      · exact .inl (.inl q)
      · exact .inr (.inl ⟨q, h⟩)
      · exact .inr (.inr (.inl q))
    · rcases (show x < y ∨ x = y ∨ y < x by rcases Nat.lt_trichotomy x.toNat y.toNat with q | q | q; exact .inl q; exact .inr (.inl (UInt8.toNat_inj.1 q)); exact .inr (.inr q)) with q | q | q
      · exact .inl (.inl q)
      · exact .inr (.inr (.inr ⟨q.symm, h⟩))
      · exact .inr (.inr (.inl q))
theorem swo_kv : Sort.SWO ltKV where
  irrefl := fun x => bytesLess_self _
  trans := fun x y z h1 h2 => bytesLess_trans _ _ _ h1 h2
  ntrans := fun x y z h1 h2 => by
    unfold ltKV at *
    cases h : Op.bytesLess x.1.data.toList z.1.data.toList with
    | false => rfl
    | true =>
      exfalso
      rcases bytesLess_tri x.1.data.toList y.1.data.toList with q | q | q
      · rw [q] at h1; cases h1
      · rw [q] at h; rw [h] at h2; cases h2
      · have := bytesLess_trans _ _ _ q h
        rw [this] at h2; cases h2
noncomputable def svT : TypeInfo := (Tryz.prog.info? 192).get (by kernel_rfl)
noncomputable def svE : TypeInfo := (Tryz.prog.info? 194).get (by kernel_rfl)
theorem svK (n : Nat) (h2 : 2 ≤ n) : Lib.swapperK n svE 25 = 9 := by
  have a : svE.hasPointers = true := by kernel_rfl
  have b : svE.bytes = 32 := by kernel_rfl
  have c : (n == 0) = false := by simp; omega
  have d : (n == 1) = false := by simp; omega
  simp [Lib.swapperK, a, b, c, d]
set_option maxHeartbeats 2000000 in
theorem less_any (blk off c Bs size : Nat) (W : World) (G : Nat → ByteArray) (hs : W.cell? ⟨Bs, 0, none⟩ = some (.slice (some ⟨blk, off, none⟩) size c))
    (hc : ∀ t, t < size → W.cell? ⟨blk, off + t * 2, none⟩ = some (.string (G t))) (i j : Nat) (hi : i < size) (hj : j < size) (_hsz : size < 4611686018427387904) :
    Calls Tryz.prog 187 #[.int .i64 i, .int .i64 j, .pointer (some ⟨Bs, 0, none⟩)] W fun e w' => e = .returned (.bool (Op.bytesLess (G i).data.toList (G j).data.toList)) ∧ ∃ q, w' = W.drewN q := by
  have ci := hc i hi
  have cj := hc j hj
  clear hc
  go_enter Tryz.func187, Tryz.ntmps187
  go_wp2
  go_quiet (fail)
  go_wp2
  go_ret
  exact ⟨by rw [← ByteArray.toList_eq, ← ByteArray.toList_eq]; rfl, nq, rfl⟩
/-- what sort.Slice leaves -/
def Sorted (d : Array KV) (blk : Nat) (w : World) (e : Ending) (w' : World) : Prop :=
  e = .returned (.tuple #[]) ∧ ∃ d' : Array KV, d'.size = d.size ∧ d'.toList.Perm d.toList ∧ Sort.SortedIn ltKV 0 d.size d' ∧ Sort.HoldsK encKV 2 w' blk 0 d' ∧ w.grownBy w' (some blk) ∧ (∀ cs t fz, w.heap[blk]? = some (.cells cs t fz) → ∃ cs', w'.heap[blk]? = some (.cells cs' t fz))
theorem grow_heap (w : World) (os : Array Obj) {k : Nat} (hk : k < w.heap.size) : (Sort.grow w os).heap[k]? = w.heap[k]? := by
  unfold Sort.grow
  exact Array.getElem?_append_left hk
theorem grow_grown (w : World) (os : Array Obj) (r : Option Nat) : w.grownBy (Sort.grow w os) r := ⟨rfl, rfl, rfl, by unfold Sort.grow; simp, fun k hk _ => grow_heap w os hk⟩
theorem put_heap (w : World) (m blk : Nat) (d : Array KV) (k : Nat) (hk : k ≠ blk) : (Sort.putRowK encKV 2 (Sort.ahead w m) blk 0 d).heap[k]? = w.heap[k]? := by
  show (w.heap.modify blk _)[k]? = w.heap[k]?
  rw [Array.getElem?_modify, if_neg (Ne.symm hk)]
theorem put_size (w : World) (m blk : Nat) (d : Array KV) : (Sort.putRowK encKV 2 (Sort.ahead w m) blk 0 d).heap.size = w.heap.size := by
  show (w.heap.modify blk _).size = w.heap.size
  simp
theorem put_tag (w : World) (m blk : Nat) (d : Array KV) {cs : Array Value} {t : TypeId} {fz : Nat × Nat} (h : w.heap[blk]? = some (.cells cs t fz)) : ∃ cs', (Sort.putRowK encKV 2 (Sort.ahead w m) blk 0 d).heap[blk]? = some (.cells cs' t fz) := by
  refine ⟨Sort.putCells id 0 (Sort.flatK encKV 2 d) cs, ?_⟩
  show (w.heap.modify blk _)[blk]? = _
  rw [Array.getElem?_modify, if_pos rfl, h]
  rfl
set_option maxHeartbeats 1000000 in
theorem sort_any (blk c Bs : Nat) (d : Array KV) (hsz : d.size ≤ 2147483647) (w : World) (hH : Sort.HoldsK encKV 2 w blk 0 d) (hblk : blk < w.heap.size)
    (hBs : w.cell? ⟨Bs, 0, none⟩ = some (.slice (some ⟨blk, 0, none⟩) d.size c)) (hB1 : Bs < w.heap.size) (hB2 : Bs ≠ blk) :
    Calls Tryz.prog 186 #[.iface 192 (.slice (some ⟨blk, 0, none⟩) d.size c), .func (.func 187) #[] #[.pointer (some ⟨Bs, 0, none⟩)]] w (Sorted d blk w) := by
  by_cases h2 : 2 ≤ d.size
  · have hless : LessReadsK Tryz.prog 187 #[.pointer (some ⟨Bs, 0, none⟩)] encKV 2 ltKV blk 0 d.size w := by
      intro m os dk hs i j hi hj
      have e : sortWorldK encKV 2 w blk 0 m dk os = Sort.putRowK encKV 2 (Sort.grow (Sort.ahead w m) os) blk 0 dk := by
        unfold sortWorldK; rw [Sort.putRowK_grow _ _ (Sort.ahead w m) _ blk 0 _ hblk]
      have hHg : Sort.HoldsK encKV 2 (Sort.grow (Sort.ahead w m) os) blk 0 d := Sort.holdsK_grow _ _ _ _ blk 0 d hblk (Sort.holdsK_ahead _ _ _ _ _ _ _ hH)
      refine less_any blk 0 c Bs d.size _ (fun t => dk[t]!.1) ?_ (fun t ht => ?_) i j hi hj (by omega)
      · rw [e, Sort.cell?_putRowK_other _ _ _ blk 0 dk _ (by exact hB2), Sort.cell?_grow _ _ _ (by exact hB1)]; exact hBs
      · rw [e]; exact ((Sort.holdsK_putRowK _ _ _ blk 0 d dk hHg hs).cell (i := t) (c := 0) (by omega) (by omega)).1
    refine (Any.sort_Slice_cells_sorted Tryz.laysGg6 192 194 svT svE (by kernel_rfl) (by kernel_rfl) (by kernel_rfl) (by kernel_rfl) 25 (fun _ => by kernel_rfl) encKV 2 (fun _ => rfl) (by kernel_rfl) (fun _ => by kernel_rfl)
      (fun x v hv => by simp [encKV] at hv; rcases hv with rfl | rfl; rfl; exact x.2.2) ltKV swo_kv 187 _
      (enters_of Tryz.func187 (by kernel_rfl) rfl) blk 0 c d h2 (by omega) 254 (by rw [svK _ h2]; kernel_rfl) false
      (fun args W => run_callFunc_extern Tryz.func254 (by kernel_rfl) (by kernel_rfl) (by kernel_rfl) (e := Extern.ReflectliteSwapper.swap false) (by kernel_rfl) args W) w hless hH hblk).mono ?_
    rintro e w' ⟨rfl, d', n, os, ⟨p1, p2, p3⟩, hs, rfl⟩
    have hsz' : (Sort.putRowK encKV 2 (Sort.ahead w n) blk 0 d').heap.size = w.heap.size := put_size w n blk d'
    refine ⟨rfl, d', p1, ?_, hs, ?_, ?_, fun cs t fz h => ?_⟩
    · have e1 : d'.extract 0 d.size = d' := by rw [← p1]; simp
      have e2 : d.extract 0 d.size = d := by simp
      rw [e1, e2] at p3
      exact p3
    · exact Sort.holdsK_grow _ _ _ _ blk 0 d' (by rw [hsz']; exact hblk) (Sort.holdsK_putRowK _ _ _ blk 0 d d' (Sort.holdsK_ahead _ _ _ _ _ _ _ hH) p1)
    · refine ⟨rfl, rfl, rfl, ?_, fun k hk hne => ?_⟩
      · rw [show (Sort.grow (Sort.putRowK encKV 2 (Sort.ahead w n) blk 0 d') os).heap = (Sort.putRowK encKV 2 (Sort.ahead w n) blk 0 d').heap ++ os from rfl, Array.size_append, hsz']
        omega
      · rw [grow_heap _ _ (by rw [hsz']; exact hk), put_heap _ _ _ _ _ (fun e => hne (by rw [e]))]
    · obtain ⟨cs', h'⟩ := put_tag w n blk d' h
      exact ⟨cs', (grow_heap _ _ (by rw [hsz']; exact hblk)).trans h'⟩
  · have h1 : d.size ≤ 1 := by omega
    have hf : ∃ f, Tryz.prog.funcs.findIdx? (·.name == "internal/reflectlite" ++ ".Swapper$" ++ toString (Lib.swapperK d.size svE 25)) = some f := by
      rcases (show d.size = 0 ∨ d.size = 1 by omega) with q | q
      · exact ⟨246, by rw [q]; kernel_rfl⟩
      · exact ⟨247, by rw [q]; kernel_rfl⟩
    obtain ⟨f, hf⟩ := hf
    refine (Any.sort_Slice_tiny Tryz.laysGg6 192 194 svT svE (by kernel_rfl) (by kernel_rfl) (by kernel_rfl) (by kernel_rfl) 25 (fun _ => by kernel_rfl) (some ⟨blk, 0, none⟩) d.size c h1 f hf (.func 187) #[] #[.pointer (some ⟨Bs, 0, none⟩)] w).mono ?_
    rintro e w' ⟨rfl, os, rfl⟩
    refine ⟨rfl, d, rfl, List.Perm.refl _, fun i j _ hij hj => by omega, Sort.holdsK_grow _ _ _ _ blk 0 d hblk hH, grow_grown _ _ _, fun cs t fz h => ⟨cs, (grow_heap _ _ hblk).trans h⟩⟩
end Go.Proofs.YtgjmgneppecfgaaGreatDoor.Mb
namespace Go.Proofs.YtgjmgneppecfgaaGreatDoor.Mb
open Go.RowKit Go.Proofs.YtgjmgneppecfgaaGreatDoor.Va Go.Proofs.YtgjmgneppecfgaaGreatDoor.Ba Go.Proofs.YtgjmgneppecfgaaGreatDoor.Ma
set_option linter.unusedVariables false
set_option linter.unusedSimpArgs false

theorem nodup_len : ∀ (l1 l2 : List Nat), l1.Nodup → (∀ a ∈ l1, a ∈ l2) → l1.length ≤ l2.length
  | [], l2, _, _ => by simp
  | a :: l1, l2, h1, h => by
    obtain ⟨ha, hn⟩ := List.nodup_cons.1 h1
    have hm := h a List.mem_cons_self
    have := nodup_len l1 (l2.erase a) hn (fun b hb => by
      have hne : b ≠ a := fun e => ha (e ▸ hb)
      exact (List.mem_erase_of_ne hne).2 (h b (List.mem_cons_of_mem _ hb)))
    rw [List.length_erase_of_mem hm] at this
    have hp := List.length_pos_of_mem hm
    rw [List.length_cons]
    omega
/-- a map's loop under way: L has been gone over -/
def Ran (r it since clock : Nat) (es : Array MapEntry) (L : List MapEntry) (w : World) : Prop :=
  w.heap[r]? = some (.map es clock) ∧ (∃ c0, w.heap[it]? = some (.mapIter (some r) since (L.map (·.born)).toArray c0) ∧ since ≤ c0) ∧ (∀ x ∈ es.toList, x.born < since) ∧ since ≤ clock ∧ (L.map (·.born)).Nodup ∧ (∀ x ∈ L, x ∈ es.toList)
theorem Ran.keep {r it since clock : Nat} {es : Array MapEntry} {L : List MapEntry} {w w' : World} (h : Ran r it since clock es L w) (h1 : w'.heap[r]? = w.heap[r]?) (h2 : w'.heap[it]? = w.heap[it]?) : Ran r it since clock es L w' := by
  obtain ⟨a, ⟨c0, b, c⟩, d⟩ := h
  exact ⟨h1.trans a, ⟨c0, h2.trans b, c⟩, d⟩
theorem Ran.len {r it since clock : Nat} {es : Array MapEntry} {L : List MapEntry} {w : World} (h : Ran r it since clock es L w) : L.length ≤ es.size := by
  obtain ⟨_, _, _, _, d, e⟩ := h
  have := nodup_len (L.map (·.born)) (es.toList.map (·.born)) d (fun a ha => by
    obtain ⟨x, hx, rfl⟩ := List.mem_map.1 ha
    exact List.mem_map.2 ⟨x, e x hx, rfl⟩)
  simpa using this
section
variable {P : Program} {ops : Array Oper} {rest : List Oper} {o : Oper} {a : Act} {Q : Exit → Act → World → Prop}
theorem wpList_range_raw (w : World) (hg : o.guard = none) (m : Operand) (t : TypeId) (hop : o.op = Op.range t m) (k e : TypeId) (ht : P.underlying t = some (.map k e)) (r clock : Nat) (es : Array MapEntry)
    (hm : a.eval m = .map (some r)) (hr : w.heap[r]? = some (.map es clock)) (hst : MapKept.Stamped es clock)
    (hK : ∀ w', Ran r w.heap.size clock clock es [] w' → Go.RowKit.Below w.heap.size w w' → w'.heap.size = w.heap.size + 1 → wpList P ops Q rest (a.put o.dst (.pointer (some ⟨w.heap.size, 0, none⟩))) w') :
    wpList P ops Q (o :: rest) a w := by
  refine wpList_plain hg fun K' hK' => ?_
  have hrun := run_range_map (P := P) w t k e r es clock ht hr
  unfold Oper.wp
  simp [execOp, hop, hm, hrun, Result.andThen]
  refine hK' _ _ (hK _ ⟨block_past hr _, ⟨clock, heap_alloc_new w _, Nat.le_refl _⟩, ((MapKept.stamped_iff es clock).1 hst).1, Nat.le_refl _, by simp, by simp⟩ (below_alloc w _) (by simp))
theorem wpList_next_raw (w : World) (hg : o.guard = none) (it : Operand) (hop : o.op = Op.next it false) (r i since clock : Nat) (es : Array MapEntry) (L : List MapEntry) (hne : r ≠ i) (hst : MapKept.Stamped es clock)
    (hit : a.eval it = .pointer (some ⟨i, 0, none⟩)) (h : Ran r i since clock es L w)
    (hDone : (∀ x ∈ es.toList, x ∈ L) → wpList P ops Q rest (a.put o.dst (.tuple #[.bool false])) w)
    (hMore : ∀ (e : MapEntry) (w' : World), e ∈ es.toList → Ran r i since clock es (L ++ [e]) w' → w.grownBy w' (some i) →
      (Instr.entry (.pointer (some ⟨i, 0, none⟩))).run P w' = .ok (.tuple #[e.key, e.val]) w' → wpList P ops Q rest (a.put o.dst (.tuple #[.bool true, e.key, e.val])) w') :
    wpList P ops Q (o :: rest) a w := by
  refine wpList_plain hg fun K' hK' => ?_
  obtain ⟨h1, ⟨c0, h2, h3⟩, h4, h5, h6, h7⟩ := h
  have hborn := ((MapKept.stamped_iff es clock).1 hst).2.1
  have hinj : ∀ x ∈ es.toList, ∀ y ∈ es.toList, x.born = y.born → x = y := fun x hx y hy e => by
    obtain ⟨p, hp, rfl⟩ := List.getElem_of_mem hx
    obtain ⟨q, hq, rfl⟩ := List.getElem_of_mem hy
    have : p = q := (List.getElem_inj (xs := es.toList.map (·.born)) (i := p) (j := q) (h₀ := by simpa using hp) (h₁ := by simpa using hq) hborn).1 (by simpa using e)
    subst this
    rfl
  have hleft : ∀ x, x ∈ (leftOf es (L.map (·.born)).toArray).toList ↔ x ∈ es.toList ∧ x.born ∉ L.map (·.born) := fun x => by
    unfold leftOf
    simp
  unfold Oper.wp
  rcases run_next_at (P := P) w o.type i r since c0 (L.map (·.born)).toArray es clock h2 h1 h4 h3 with ⟨h0, hrun⟩ | ⟨e, he, w1, hw1, hrun⟩
  · simp [execOp, hop, hit, hrun, Result.andThen]
    refine hK' _ _ (hDone fun x hx => ?_)
    have hno : x ∉ (leftOf es (L.map (·.born)).toArray).toList := fun q => by
      have := List.length_pos_of_mem q
      simp at this
      omega
    have hb : x.born ∈ L.map (·.born) := Decidable.byContradiction fun q => hno ((hleft x).2 ⟨hx, q⟩)
    obtain ⟨y, hy, hyb⟩ := List.mem_map.1 hb
    rw [hinj x hx y (h7 y hy) hyb.symm]
    exact hy
  · obtain ⟨he1, he2⟩ := (hleft e).1 he
    have hr1 : w1.heap[i]? = some (.mapIter (some r) since (L.map (·.born)).toArray c0) := by rcases hw1 with rfl | rfl <;> exact h2
    have hb1 : w1.heap[r]? = some (.map es clock) := by rcases hw1 with rfl | rfl <;> exact h1
    obtain ⟨sn, hsn⟩ : ∃ sn, (L.map (·.born)).toArray.push e.born = sn := ⟨_, rfl⟩
    have hentry := fun (W : World) (q1 : W.heap[i]? = some (.mapIter (some r) since ((L.map (·.born)).toArray.push e.born) clock)) (q2 : W.heap[r]? = some (.map es clock)) => run_entry_at (P := P) W i r since _ es clock e q1 q2 he1 hborn
    rw [hsn] at hrun hentry
    have hsn2 : sn = ((L ++ [e]).map (·.born)).toArray := by rw [← hsn]; simp
    have hset := Go.MapKept.heap_set (o' := .mapIter (some r) since sn clock) hr1
    have hb' : (Go.ChangeMaps.setBlock w1 i (.mapIter (some r) since sn clock)).heap[r]? = some (.map es clock) := (hset.2 r hne).trans hb1
    simp [execOp, hop, hit, hrun, Result.andThen]
    refine hK' _ _ (hMore e _ he1 ⟨hb', ⟨clock, ?_, h5⟩, h4, h5, ?_, ?_⟩ ?_ (hentry _ hset.1 hb'))
    · rw [← hsn2]
      exact hset.1
    · rw [List.map_append, List.nodup_append]
      refine ⟨h6, by simp, fun a ha b hb => ?_⟩
      simp at hb
      subst hb
      exact fun e => he2 (e ▸ ha)
    · intro x hx
      rcases List.mem_append.1 hx with q | q
      · exact h7 x q
      · rw [List.mem_singleton] at q; subst q; exact he1
    · rcases hw1 with rfl | rfl <;> exact ⟨rfl, rfl, rfl, by simp [Go.ChangeMaps.setBlock], fun k _ hk => hset.2 k (fun e1 => hk (by rw [e1]))⟩
end
end Go.Proofs.YtgjmgneppecfgaaGreatDoor.Mb
