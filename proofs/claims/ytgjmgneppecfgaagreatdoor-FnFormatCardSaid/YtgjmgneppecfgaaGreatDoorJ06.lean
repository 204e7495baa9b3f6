/-
  FnFormat, texts BaJ: lemmas for the law; the theorem stands in the last text.
-/
import Derived.BigQuiet
import Derived.Test.YtgjmgneppecfgaaGreatDoorJ05
namespace Go.Proofs.YtgjmgneppecfgaaGreatDoor.Ba
open Go.RowKit Go.Proofs.YtgjmgneppecfgaaGreatDoor.Va
set_option linter.unusedVariables false
set_option linter.unusedSimpArgs false

/-- a byte of the text, where it lies, and its number in the encoding -/
def CharAt (l : List Nat) (be sb so s : Nat) (wr : World) (i : Nat) : Prop := ∃ c, l[s + i]? = some c ∧ wr.cell? ⟨sb, so + s + i, none⟩ = some (.int .u8 (c : Int)) ∧ wr.cell? ⟨be, 64 + c, none⟩ = some (.int .u8 ((dc c : Nat) : Int)) ∧ Dg (dc c) ∧ c < 256
theorem char_at {l : List Nat} {n be sb so s : Nat} {wr : World} (hl : l.length = n) (h256 : ∀ x ∈ l, x < 256) (he : wr.rowIs be 197 322 (encF 64 (-1))) (hs : ∀ i, i < n → wr.cell? ⟨sb, so + i, none⟩ = some (.int .u8 ((l.getD i 0 : Nat) : Int))) {i : Nat} (hi : s + i < n) : CharAt l be sb so s wr i := by
  have hlc := List.getElem?_eq_getElem (show s + i < l.length by omega)
  generalize l[s + i] = c at hlc
  have hc := h256 c (List.mem_of_getElem? hlc)
  refine ⟨c, hlc, ?_, ?_, ?_⟩
  · rw [Nat.add_assoc, hs (s + i) hi, List.getD, hlc]
    rfl
  · rw [he.cell (i := 64 + c) (by omega)]
    unfold encF
    rw [if_neg (by omega), if_pos (by omega), show 64 + c - 64 = c by omega]
    rcases dc_le c with q | q
    · rw [if_pos q]
    · rw [q]; rfl
  · refine ⟨?_, hc⟩
    rcases dc_le c with q | q
    · exact .inl q
    · exact .inr q
theorem three (a b c d : Nat) (ha : a < 64) (hb : b < 64) (hc : c < 64) (hd : d < 64) : (a * 262144 + b * 4096 + c * 64 + d) / 65536 = a * 4 + b / 16 ∧ (a * 262144 + b * 4096 + c * 64 + d) / 256 % 256 = b % 16 * 16 + c / 4 ∧ (a * 262144 + b * 4096 + c * 64 + d) % 256 = c % 4 * 64 + d := by omega
theorem eight_hi (A B : Nat) (hA : A < 16777216) (hB : B < 16777216) : ((A * 16777216 + B) * 65536) / 72057594037927936 = A / 65536 ∧ ((A * 16777216 + B) * 65536) / 281474976710656 % 256 = A / 256 % 256 ∧ ((A * 16777216 + B) * 65536) / 1099511627776 % 256 = A % 256 := by omega
theorem eight_lo (A B : Nat) (hA : A < 16777216) (hB : B < 16777216) : ((A * 16777216 + B) * 65536) / 4294967296 % 256 = B / 65536 ∧ ((A * 16777216 + B) * 65536) / 16777216 % 256 = B / 256 % 256 ∧ ((A * 16777216 + B) * 65536) / 65536 % 256 = B % 256 := by omega
theorem eight_no (A B : Nat) : ((A * 16777216 + B) * 65536) / 256 % 256 = 0 ∧ ((A * 16777216 + B) * 65536) % 256 = 0 := by omega
theorem lt24 (a b c d : Nat) (ha : a < 64) (hb : b < 64) (hc : c < 64) (hd : d < 64) : a * 262144 + b * 4096 + c * 64 + d < 16777216 := by omega
theorem val8 (a b c d a' b' c' d' : Nat) : a * 288230376151711744 + b * 4503599627370496 + c * 70368744177664 + d * 1099511627776 + a' * 17179869184 + b' * 268435456 + c' * 4194304 + d' * 65536 = ((a * 262144 + b * 4096 + c * 64 + d) * 16777216 + (a' * 262144 + b' * 4096 + c' * 64 + d')) * 65536 := by
  simp only [Nat.add_mul, Nat.mul_assoc, ← Nat.add_assoc]
theorem list8 (a b c d a' b' c' d' : Nat) (ha : a < 64) (hb : b < 64) (hc : c < 64) (hd : d < 64) (ha' : a' < 64) (hb' : b' < 64) (hc' : c' < 64) (hd' : d' < 64) (V : Nat) (hV : a * 288230376151711744 + b * 4503599627370496 + c * 70368744177664 + d * 1099511627776 + a' * 17179869184 + b' * 268435456 + c' * 4194304 + d' * 65536 = V) :
    [V / 72057594037927936, V / 281474976710656 % 256, V / 1099511627776 % 256, V / 4294967296 % 256, V / 16777216 % 256, V / 65536 % 256, V / 256 % 256, V % 256] = (decD [a, b, c, d] ++ decD [a', b', c', d']) ++ [0, 0] := by
  have hV2 := hV.symm.trans (val8 a b c d a' b' c' d')
  have hA := lt24 a b c d ha hb hc hd
  have hB := lt24 a' b' c' d' ha' hb' hc' hd'
  clear hV
  obtain ⟨e0, e1, e2⟩ := eight_hi _ _ hA hB
  obtain ⟨e3, e4, e5⟩ := eight_lo _ _ hA hB
  obtain ⟨e6, e7⟩ := eight_no (a * 262144 + b * 4096 + c * 64 + d) (a' * 262144 + b' * 4096 + c' * 64 + d')
  obtain ⟨f0, f1, f2⟩ := three a b c d ha hb hc hd
  obtain ⟨f3, f4, f5⟩ := three a' b' c' d' ha' hb' hc' hd'
  rw [f0] at e0
  rw [f1] at e1
  rw [f2] at e2
  rw [f3] at e3
  rw [f4] at e4
  rw [f5] at e5
  rw [← hV2] at e0 e1 e2 e3 e4 e5 e6 e7
  rw [e0, e1, e2, e3, e4, e5, e6, e7]
  rfl
theorem list4 (a b c d : Nat) (ha : a < 64) (hb : b < 64) (hc : c < 64) (hd : d < 64) (V : Nat) (hV : (a * 262144 + b * 4096 + c * 64 + d) * 256 = V) : [V / 16777216, V / 65536 % 256, V / 256 % 256, V % 256] = decD [a, b, c, d] ++ [0] := by
  have e0 : V / 16777216 = a * 4 + b / 16 := by omega
  have e1 : V / 65536 % 256 = b % 16 * 16 + c / 4 := by omega
  have e2 : V / 256 % 256 = c % 4 * 64 + d := by omega
  have e3 : V % 256 = 0 := by omega
  rw [e0, e1, e2, e3]
  rfl
theorem dg_lt {a : Nat} (h : Dg a) (q : ¬ a = 255) : a < 64 := by
  rcases h with h | h
  · exact h
  · exact absurd h q
theorem DS.more {l : List Nat} {n N db s : Nat} {out bs cs : List Nat} {w wr w' : World} {k t : Nat} (h : DS l n N db w s out wr) (hb : s + t ≤ n) (hk : bs.length = k) (h43 : 4 * k ≤ 3 * t) (hrun : ∃ F, n + 1 ≤ s + t + F ∧ runD l (n + 1) 0 [] = runD l F (s + t) (out ++ bs))
    {g : Nat → Value} (hrow : w'.rowIs db 5 N (putF g out.length (bs ++ cs))) (hg : ∀ j, j < out.length → g j = .int .u8 ((out.getD j 0 : Nat) : Int)) (hgr : wr.grownBy w' (some db)) :
    LoopD l n N db w (.int .i64 ((out.length : Int) + (k : Int))) .nilIface (.int .i64 ((s : Int) + (t : Int))) w' := by
  have hf := h.few
  refine ⟨s + t, out ++ bs, ?_, rfl, rfl, hb, ?_, hrun, ⟨_, hrow, out_put hg⟩, gr_trans h.grown hgr⟩
  · rw [List.length_append, hk]; rfl
  · rw [List.length_append, hk]; omega

set_option maxHeartbeats 16000000 in
set_option maxRecDepth 100000 in
theorem dec_any (be sb db so n N sc : Nat) (l : List Nat) (hl : l.length = n) (h256 : ∀ x ∈ l, x < 256) (hn : n ≤ 2147483647) (h1 : 1 ≤ n) (hsc : n ≤ sc) (hsc2 : sc ≤ 9223372036854775807) (hN : N = n / 4 * 3 + n % 4 * 6 / 8) (w : World)
    (he : w.rowIs be 197 322 (encF 64 (-1))) (hs : ∀ i, i < n → w.cell? ⟨sb, so + i, none⟩ = some (.int .u8 ((l.getD i 0 : Nat) : Int))) (hd : w.rowIs db 5 N (fun _ => .int .u8 0)) (hbe : be ≠ db) (hbs : sb ≠ db) (hslt : sb < w.heap.size) :
    Calls Tryz.prog 191 #[.pointer (some ⟨be, 0, none⟩), .slice (some ⟨db, 0, none⟩) N N, .slice (some ⟨sb, so, none⟩) n sc] w (DecEnd l n N db w) := by
  have HE := Lib.hid he
  have HSR := Lib.hid hs
  have HD := Lib.hid hd
  have HLL := Lib.hid hl
  have H256 := Lib.hid h256
  have HNN := Lib.hid hN
  have HBE := Lib.hid hbe
  have HBS := Lib.hid hbs
  have hn0 : ((n : Int) == 0) = false := by simp; omega
  have hN1 : N ≤ 1610612736 := by omega
  clear he hs hd hl h256 hN hbe hbs
  go_enter Tryz.func191, Tryz.ntmps191
  go_wp2_with (refine wpList_load_part rfl 83 (.tmp 23) rfl be 64 256 322 rfl 197 (encF 64 (-1)) HE.out (by decide) _ Tryz.underlying83 rfl (by kernel_rfl) ?_; intro cs hcs hcz; clear hcs hcz)
  go_loopw [6, 7, 8] (LoopD l n N db w) (fun _ _ i _ => n - (intOf i).toNat)
  case atStart => exact ⟨0, [], rfl, rfl, rfl, DS.start l n N db w _ HD.out⟩
  case round =>
    obtain ⟨s, out, rfl, rfl, rfl, hds⟩ := hrel
    have HS := Lib.hid hds
    obtain ⟨g, hrow, hg⟩ := hds.row
    have HROW := Lib.hid hrow
    have HG := Lib.hid hg
    have hsle := hds.le
    have hroom := hds.room HNN.out
    have hgrow := hds.grown
    have HEW : Hid (wr.rowIs be 197 322 (encF 64 (-1))) := Lib.hid (HE.out.of_block (hgrow.block be HE.out.lt (by have := HBE.out; simp; omega)))
    have HSW : Hid (∀ i, i < n → wr.cell? ⟨sb, so + i, none⟩ = some (.int .u8 ((l.getD i 0 : Nat) : Int))) := Lib.hid fun i hi => (World.cell?_of_block (hgrow.block sb hslt (by have := HBS.out; simp; omega))).trans (HSR.out i hi)
    have hsltw : Hid (sb < wr.heap.size) := Lib.hid (Nat.lt_of_lt_of_le hslt hgrow.size)
    obtain ⟨m, hm⟩ : ∃ m, out.length = m := ⟨_, rfl⟩
    have HLO := Lib.hid hm
    rw [hm] at hroom ⊢
    clear hds hrow hg hgrow hm
    by_cases hbig : s + 8 ≤ n ∧ m + 8 ≤ N
    · obtain ⟨hb1, hb2⟩ := hbig
      have hsn : s < n := by omega
      have CH : Hid (∀ i, i < 8 → CharAt l be sb so s wr i) := Lib.hid fun i hi => char_at HLL.out H256.out HEW.out HSW.out (by omega)
      obtain ⟨c0, l0, g0, m0, dg0, u0⟩ := CH.out 0 (by omega)
      rw [Nat.add_zero] at l0 g0
      obtain ⟨c1, l1, g1, m1, dg1, u1⟩ := CH.out 1 (by omega)
      obtain ⟨c2, l2, g2, m2, dg2, u2⟩ := CH.out 2 (by omega)
      obtain ⟨c3, l3, g3, m3, dg3, u3⟩ := CH.out 3 (by omega)
      obtain ⟨c4, l4, g4, m4, dg4, u4⟩ := CH.out 4 (by omega)
      obtain ⟨c5, l5, g5, m5, dg5, u5⟩ := CH.out 5 (by omega)
      obtain ⟨c6, l6, g6, m6, dg6, u6⟩ := CH.out 6 (by omega)
      obtain ⟨c7, l7, g7, m7, dg7, u7⟩ := CH.out 7 (by omega)
      by_cases hA : dc c0 < 64 ∧ dc c1 < 64 ∧ dc c2 < 64 ∧ dc c3 < 64 ∧ dc c4 < 64 ∧ dc c5 < 64 ∧ dc c6 < 64 ∧ dc c7 < 64
      · as_aux_lemma =>
          obtain ⟨k0, k1, k2, k3, k4, k5, k6, k7⟩ := hA
          obtain ⟨F1, HF1, HF2⟩ := run_four (run_four HS.out.run HLL.out l0 l1 l2 l3 k0 k1 k2 k3) HLL.out l4 l5 l6 l7 k4 k5 k6 k7
          have HRUN : Hid (∃ F, n + 1 ≤ s + 8 + F ∧ runD l (n + 1) 0 [] = runD l F (s + 8) (out ++ (decD [dc c0, dc c1, dc c2, dc c3] ++ decD [dc c4, dc c5, dc c6, dc c7]))) := Lib.hid ⟨F1, by omega, by rw [HF2, List.append_assoc]⟩
          have HAS := Lib.hid (fun w1 : World => (as64_yes (dc c0) (dc c1) (dc c2) (dc c3) (dc c4) (dc c5) (dc c6) (dc c7) k0 k1 k2 k3 k4 k5 k6 k7 w1).mono fun _ _ ⟨he, hw⟩ => (⟨he, hw.symm⟩ : _ = _ ∧ _ = w1))
          obtain ⟨V, hVe⟩ : ∃ V, dc c0 * 288230376151711744 + dc c1 * 4503599627370496 + dc c2 * 70368744177664 + dc c3 * 1099511627776 + dc c4 * 17179869184 + dc c5 * 268435456 + dc c6 * 4194304 + dc c7 * 65536 = V := ⟨_, rfl⟩
          rw [hVe] at HAS
          have HL8 := Lib.hid (list8 (dc c0) (dc c1) (dc c2) (dc c3) (dc c4) (dc c5) (dc c6) (dc c7) k0 k1 k2 k3 k4 k5 k6 k7 V hVe)
          have HVL : Hid (V < 18446744073709551616) := Lib.hid (by omega)
          have hscs : ¬ sc = s := by omega
          have hNm : ¬ N = m := by omega
          clear l0 dg0 l1 dg1 l2 dg2 l3 dg3 l4 dg4 l5 dg5 l6 dg6 l7 dg7 HF1 HF2 hVe
          obtain ⟨d0, hd0⟩ : ∃ d, dc c0 = d := ⟨_, rfl⟩
          obtain ⟨d1, hd1⟩ : ∃ d, dc c1 = d := ⟨_, rfl⟩
          obtain ⟨d2, hd2⟩ : ∃ d, dc c2 = d := ⟨_, rfl⟩
          obtain ⟨d3, hd3⟩ : ∃ d, dc c3 = d := ⟨_, rfl⟩
          obtain ⟨d4, hd4⟩ : ∃ d, dc c4 = d := ⟨_, rfl⟩
          obtain ⟨d5, hd5⟩ : ∃ d, dc c5 = d := ⟨_, rfl⟩
          obtain ⟨d6, hd6⟩ : ∃ d, dc c6 = d := ⟨_, rfl⟩
          obtain ⟨d7, hd7⟩ : ∃ d, dc c7 = d := ⟨_, rfl⟩
          rw [hd0] at k0 m0
          rw [hd1] at k1 m1
          rw [hd2] at k2 m2
          rw [hd3] at k3 m3
          rw [hd4] at k4 m4
          rw [hd5] at k5 m5
          rw [hd6] at k6 m6
          rw [hd7] at k7 m7
          rw [hd0, hd1, hd2, hd3, hd4, hd5, hd6, hd7] at HAS HL8 HRUN
          clear hd0 hd1 hd2 hd3 hd4 hd5 hd6 hd7
          go_wp2_with fail
          try simp only [List.append_eq, List.cons_append, List.nil_append]
          go_quiet ((go_at_call 222; exact Calls.quiet_of_same (HAS.out _)))
          clear g0 m0 u0 g1 m1 u1 g2 m2 u2 g3 m3 u3 g4 m4 u4 g5 m5 u5 g6 m6 u6 g7 m7 u7 HAS
          go_wp2_with fail
          refine Calls.mono (put64_any db m (N - m) (N - m) N V g HVL.out (by omega) (by omega) _ HROW.out (by omega)) ?_
          rintro e w3 ⟨rfl, hrow3, hgr3⟩
          have R : Hid (LoopD l n N db w (.int .i64 ((out.length : Int) + 6)) .nilIface (.int .i64 ((s : Int) + 8)) w3) := Lib.hid (HS.out.more (k := 6) (t := 8) hb1 (by rfl) (by omega) HRUN.out (by rw [HLO.out, ← HL8.out]; exact hrow3) HG.out ⟨hgr3.os, hgr3.tape, hgr3.output, hgr3.size, hgr3.block⟩)
          rw [HLO.out] at R
          clear hrow3 hgr3 HRUN HL8 HVL
          go_wp2_with fail
          go_roundw
          case rel => exact R.out
          case measure => simp [intOf]; omega
      · as_aux_lemma =>
          have hno : dc c0 = 255 ∨ dc c1 = 255 ∨ dc c2 = 255 ∨ dc c3 = 255 ∨ dc c4 = 255 ∨ dc c5 = 255 ∨ dc c6 = 255 ∨ dc c7 = 255 := by
            apply Classical.byContradiction
            intro q
            simp only [not_or] at q
            obtain ⟨q0, q1, q2, q3, q4, q5, q6, q7⟩ := q
            exact hA ⟨dg_lt dg0 q0, dg_lt dg1 q1, dg_lt dg2 q2, dg_lt dg3 q3, dg_lt dg4 q4, dg_lt dg5 q5, dg_lt dg6 q6, dg_lt dg7 q7⟩
          have HAS := Lib.hid (fun w1 : World => (as64_no (dc c0) (dc c1) (dc c2) (dc c3) (dc c4) (dc c5) (dc c6) (dc c7) dg0 dg1 dg2 dg3 dg4 dg5 dg6 dg7 hno w1).mono fun _ _ ⟨he, hw⟩ => (⟨he, hw.symm⟩ : _ = _ ∧ _ = w1))
          have hscs : ¬ sc = s := by omega
          have hNm : ¬ N = m := by omega
          clear hA
          clear l0 dg0 l1 dg1 l2 dg2 l3 dg3 l4 dg4 l5 dg5 l6 dg6 l7 dg7 hno
          obtain ⟨d0, hd0⟩ : ∃ d, dc c0 = d := ⟨_, rfl⟩
          obtain ⟨d1, hd1⟩ : ∃ d, dc c1 = d := ⟨_, rfl⟩
          obtain ⟨d2, hd2⟩ : ∃ d, dc c2 = d := ⟨_, rfl⟩
          obtain ⟨d3, hd3⟩ : ∃ d, dc c3 = d := ⟨_, rfl⟩
          obtain ⟨d4, hd4⟩ : ∃ d, dc c4 = d := ⟨_, rfl⟩
          obtain ⟨d5, hd5⟩ : ∃ d, dc c5 = d := ⟨_, rfl⟩
          obtain ⟨d6, hd6⟩ : ∃ d, dc c6 = d := ⟨_, rfl⟩
          obtain ⟨d7, hd7⟩ : ∃ d, dc c7 = d := ⟨_, rfl⟩
          rw [hd0] at m0
          rw [hd1] at m1
          rw [hd2] at m2
          rw [hd3] at m3
          rw [hd4] at m4
          rw [hd5] at m5
          rw [hd6] at m6
          rw [hd7] at m7
          rw [hd0, hd1, hd2, hd3, hd4, hd5, hd6, hd7] at HAS
          clear hd0 hd1 hd2 hd3 hd4 hd5 hd6 hd7
          go_wp2_with fail
          try simp only [List.append_eq, List.cons_append, List.nil_append]
          go_quiet ((go_at_call 222; exact Calls.quiet_of_same (HAS.out _)))
          clear g0 m0 u0 g1 m1 u1 g2 m2 u2 g3 m3 u3 g4 m4 u4 g5 m5 u5 g6 m6 u6 g7 m7 u7 HAS
          go_wp2_with fail
          have HFIT : Hid (∀ s' ds', quant l (n + 2 - s) s [] = .done s' ds' → ds'.length ≤ (N - m) + 1) := Lib.hid (by have h := HS.out.fit HLL.out HNN.out; rw [HLO.out] at h; exact h)
          refine Calls.mono (quant_any be sb db so m (N - m) (N - m) N n sc s g l HLL.out H256.out hn hsle (by omega) (Nat.le_refl _) (by omega) _ HFIT.out HEW.out HSW.out HROW.out HBE.out HBS.out hsltw.out) ?_
          rintro e w3 ⟨hgr, r, hqr, hres⟩
          have HGRQ : Hid (wr.grownBy w3 (some db)) := Lib.hid ⟨hgr.os, hgr.tape, hgr.output, hgr.size, hgr.block⟩
          have HQR := Lib.hid hqr
          have HRES := Lib.hid hres
          cases r with
          | done s' ds =>
            have HST := Lib.hid (HS.out.step HLL.out hsn HQR.out)
            have R : Hid (LoopD l n N db w (.int .i64 ((out.length : Int) + ((ds.length - 1 : Nat) : Int))) .nilIface (.int .i64 (s' : Int)) w3) := Lib.hid ⟨s', out ++ decD ds, by rw [List.length_append, decD_len HST.out.2.2.2.1 HST.out.2.2.2.2]; rfl, rfl, rfl, HS.out.done HLL.out hsn HQR.out (by rw [HLO.out]; exact hres.2) HG.out HGRQ.out⟩
            have hs' : s + 2 ≤ s' := by have := HST.out; omega
            have hsn' : s' ≤ n := by have := HST.out; omega
            have hd4 : ds.length - 1 ≤ 3 := by have := HST.out; omega
            obtain ⟨rfl, _⟩ := hres
            obtain ⟨k, hk⟩ : ∃ k, ds.length - 1 = k := ⟨_, rfl⟩
            rw [hk] at R hd4 ⊢
            rw [HLO.out] at R
            clear hgr hqr hk HRES
            go_wp2_with fail
            go_roundw
            case rel => exact R.out
            case measure => simp [intOf]; omega
          | nothing s' =>
            have HD2 := Lib.hid (HS.out.nothing HLL.out hsn HQR.out HRES.out.2 HG.out HGRQ.out)
            have hq2 := quant_ok l (n + 2 - s) s [] (by rw [HLL.out]; exact HS.out.le) (by simp) (by simp)
            rw [HQR.out] at hq2
            have HNS : Hid (n = s') := Lib.hid (by have := hq2.2.1; have := HLL.out; omega)
            have R : Hid (LoopD l n N db w (.int .i64 ((out.length : Nat) : Int)) .nilIface (.int .i64 (s' : Int)) w3) := Lib.hid ⟨s', out, rfl, rfl, rfl, HD2.out⟩
            rw [HLO.out] at R
            obtain ⟨rfl, _⟩ := hres
            clear hgr hqr hq2
            go_wp2_with fail
            go_roundw
            case rel => exact R.out
            case measure => have := HNS.out; simp [intOf]; omega
          | bad s' =>
            obtain ⟨v, rfl, hrow3⟩ := hres
            have HROW3 := Lib.hid hrow3
            have HBAD := Lib.hid (HS.out.bad HLL.out hsn HQR.out)
            clear hgr hqr hrow3 HRES
            go_wp2_with fail
            go_returns
            exact ⟨out, false, _, HBAD.out, by rw [HLO.out]; exact hroom, by rw [HLO.out]; rfl, .inr ⟨rfl, v, rfl⟩, ⟨_, HROW3.out, HG.out⟩, gr_trans HS.out.grown HGRQ.out⟩
    · by_cases hx : s + 8 ≤ n
      · have hy : ¬ m + 8 ≤ N := fun q => hbig ⟨hx, q⟩
        go_wp2_with fail
        go_loopw [6, 7, 8] (LoopD l n N db w) (fun _ _ i _ => n - (intOf i).toNat)
        case atStart => exact ⟨s, out, by rw [HLO.out], rfl, rfl, HS.out⟩
        case round =>
          clear hy
          clear HS HROW HG hsle hroom HEW HSW hsltw HLO hbig hx
          obtain ⟨s, out, rfl, rfl, rfl, hds⟩ := hrel
          have HS := Lib.hid hds
          obtain ⟨g, hrow, hg⟩ := hds.row
          have HROW := Lib.hid hrow
          have HG := Lib.hid hg
          have hsle := hds.le
          have hroom := hds.room HNN.out
          have hgrow := hds.grown
          have HEW : Hid (wr.rowIs be 197 322 (encF 64 (-1))) := Lib.hid (HE.out.of_block (hgrow.block be HE.out.lt (by have := HBE.out; simp; omega)))
          have HSW : Hid (∀ i, i < n → wr.cell? ⟨sb, so + i, none⟩ = some (.int .u8 ((l.getD i 0 : Nat) : Int))) := Lib.hid fun i hi => (World.cell?_of_block (hgrow.block sb hslt (by have := HBS.out; simp; omega))).trans (HSR.out i hi)
          have hsltw : Hid (sb < wr.heap.size) := Lib.hid (Nat.lt_of_lt_of_le hslt hgrow.size)
          obtain ⟨m, hm⟩ : ∃ m, out.length = m := ⟨_, rfl⟩
          have HLO := Lib.hid hm
          rw [hm] at hroom ⊢
          clear hds hrow hg hgrow hm
          by_cases hbig : s + 4 ≤ n ∧ m + 4 ≤ N
          · obtain ⟨hb1, hb2⟩ := hbig
            have hsn : s < n := by omega
            have CH : Hid (∀ i, i < 4 → CharAt l be sb so s wr i) := Lib.hid fun i hi => char_at HLL.out H256.out HEW.out HSW.out (by omega)
            obtain ⟨c0, l0, g0, m0, dg0, u0⟩ := CH.out 0 (by omega)
            rw [Nat.add_zero] at l0 g0
            obtain ⟨c1, l1, g1, m1, dg1, u1⟩ := CH.out 1 (by omega)
            obtain ⟨c2, l2, g2, m2, dg2, u2⟩ := CH.out 2 (by omega)
            obtain ⟨c3, l3, g3, m3, dg3, u3⟩ := CH.out 3 (by omega)
            by_cases hA : dc c0 < 64 ∧ dc c1 < 64 ∧ dc c2 < 64 ∧ dc c3 < 64
            · as_aux_lemma =>
                obtain ⟨k0, k1, k2, k3⟩ := hA
                have HRUN : Hid (∃ F, n + 1 ≤ s + 4 + F ∧ runD l (n + 1) 0 [] = runD l F (s + 4) (out ++ decD [dc c0, dc c1, dc c2, dc c3])) := Lib.hid (run_four HS.out.run HLL.out l0 l1 l2 l3 k0 k1 k2 k3)
                have HAS := Lib.hid (fun w1 : World => (as32_yes (dc c0) (dc c1) (dc c2) (dc c3) k0 k1 k2 k3 w1).mono fun _ _ ⟨he, hw⟩ => (⟨he, hw.symm⟩ : _ = _ ∧ _ = w1))
                obtain ⟨V, hVe⟩ : ∃ V, (dc c0 * 262144 + dc c1 * 4096 + dc c2 * 64 + dc c3) * 256 = V := ⟨_, rfl⟩
                rw [hVe] at HAS
                have HL8 := Lib.hid (list4 (dc c0) (dc c1) (dc c2) (dc c3) k0 k1 k2 k3 V hVe)
                have HVL : Hid (V < 4294967296) := Lib.hid (by omega)
                have hscs : ¬ sc = s := by omega
                have hNm : ¬ N = m := by omega
                clear l0 dg0 l1 dg1 l2 dg2 l3 dg3 hVe
                obtain ⟨d0, hd0⟩ : ∃ d, dc c0 = d := ⟨_, rfl⟩
                obtain ⟨d1, hd1⟩ : ∃ d, dc c1 = d := ⟨_, rfl⟩
                obtain ⟨d2, hd2⟩ : ∃ d, dc c2 = d := ⟨_, rfl⟩
                obtain ⟨d3, hd3⟩ : ∃ d, dc c3 = d := ⟨_, rfl⟩
                rw [hd0] at k0 m0
                rw [hd1] at k1 m1
                rw [hd2] at k2 m2
                rw [hd3] at k3 m3
                rw [hd0, hd1, hd2, hd3] at HAS HL8 HRUN
                clear hd0 hd1 hd2 hd3
                go_wp2_with fail
                try simp only [List.append_eq, List.cons_append, List.nil_append]
                go_quiet ((go_at_call 225; exact Calls.quiet_of_same (HAS.out _)))
                clear g0 m0 u0 g1 m1 u1 g2 m2 u2 g3 m3 u3 HAS
                go_wp2_with fail
                refine Calls.mono (put32_any db m (N - m) (N - m) N V g HVL.out (by omega) (by omega) _ HROW.out (by omega)) ?_
                rintro e w3 ⟨rfl, hrow3, hgr3⟩
                have R : Hid (LoopD l n N db w (.int .i64 ((out.length : Int) + 3)) .nilIface (.int .i64 ((s : Int) + 4)) w3) := Lib.hid (HS.out.more (k := 3) (t := 4) hb1 (by rfl) (by omega) HRUN.out (by rw [HLO.out, ← HL8.out]; exact hrow3) HG.out ⟨hgr3.os, hgr3.tape, hgr3.output, hgr3.size, hgr3.block⟩)
                rw [HLO.out] at R
                clear hrow3 hgr3 HRUN HL8 HVL
                go_wp2_with fail
                go_roundw
                case rel => exact R.out
                case measure => simp [intOf]; omega
            · as_aux_lemma =>
                have hno : dc c0 = 255 ∨ dc c1 = 255 ∨ dc c2 = 255 ∨ dc c3 = 255 := by
                  apply Classical.byContradiction
                  intro q
                  simp only [not_or] at q
                  obtain ⟨q0, q1, q2, q3⟩ := q
                  exact hA ⟨dg_lt dg0 q0, dg_lt dg1 q1, dg_lt dg2 q2, dg_lt dg3 q3⟩
                have HAS := Lib.hid (fun w1 : World => (as32_no (dc c0) (dc c1) (dc c2) (dc c3) dg0 dg1 dg2 dg3 hno w1).mono fun _ _ ⟨he, hw⟩ => (⟨he, hw.symm⟩ : _ = _ ∧ _ = w1))
                have hscs : ¬ sc = s := by omega
                have hNm : ¬ N = m := by omega
                clear hA
                clear l0 dg0 l1 dg1 l2 dg2 l3 dg3 hno
                obtain ⟨d0, hd0⟩ : ∃ d, dc c0 = d := ⟨_, rfl⟩
                obtain ⟨d1, hd1⟩ : ∃ d, dc c1 = d := ⟨_, rfl⟩
                obtain ⟨d2, hd2⟩ : ∃ d, dc c2 = d := ⟨_, rfl⟩
                obtain ⟨d3, hd3⟩ : ∃ d, dc c3 = d := ⟨_, rfl⟩
                rw [hd0] at m0
                rw [hd1] at m1
                rw [hd2] at m2
                rw [hd3] at m3
                rw [hd0, hd1, hd2, hd3] at HAS
                clear hd0 hd1 hd2 hd3
                go_wp2_with fail
                try simp only [List.append_eq, List.cons_append, List.nil_append]
                go_quiet ((go_at_call 225; exact Calls.quiet_of_same (HAS.out _)))
                clear g0 m0 u0 g1 m1 u1 g2 m2 u2 g3 m3 u3 HAS
                go_wp2_with fail
                have HFIT : Hid (∀ s' ds', quant l (n + 2 - s) s [] = .done s' ds' → ds'.length ≤ (N - m) + 1) := Lib.hid (by have h := HS.out.fit HLL.out HNN.out; rw [HLO.out] at h; exact h)
                refine Calls.mono (quant_any be sb db so m (N - m) (N - m) N n sc s g l HLL.out H256.out hn hsle (by omega) (Nat.le_refl _) (by omega) _ HFIT.out HEW.out HSW.out HROW.out HBE.out HBS.out hsltw.out) ?_
                rintro e w3 ⟨hgr, r, hqr, hres⟩
                have HGRQ : Hid (wr.grownBy w3 (some db)) := Lib.hid ⟨hgr.os, hgr.tape, hgr.output, hgr.size, hgr.block⟩
                have HQR := Lib.hid hqr
                have HRES := Lib.hid hres
                cases r with
                | done s' ds =>
                  have HST := Lib.hid (HS.out.step HLL.out hsn HQR.out)
                  have R : Hid (LoopD l n N db w (.int .i64 ((out.length : Int) + ((ds.length - 1 : Nat) : Int))) .nilIface (.int .i64 (s' : Int)) w3) := Lib.hid ⟨s', out ++ decD ds, by rw [List.length_append, decD_len HST.out.2.2.2.1 HST.out.2.2.2.2]; rfl, rfl, rfl, HS.out.done HLL.out hsn HQR.out (by rw [HLO.out]; exact hres.2) HG.out HGRQ.out⟩
                  have hs' : s + 2 ≤ s' := by have := HST.out; omega
                  have hsn' : s' ≤ n := by have := HST.out; omega
                  have hd4 : ds.length - 1 ≤ 3 := by have := HST.out; omega
                  obtain ⟨rfl, _⟩ := hres
                  obtain ⟨k, hk⟩ : ∃ k, ds.length - 1 = k := ⟨_, rfl⟩
                  rw [hk] at R hd4 ⊢
                  rw [HLO.out] at R
                  clear hgr hqr hk HRES
                  go_wp2_with fail
                  go_roundw
                  case rel => exact R.out
                  case measure => simp [intOf]; omega
                | nothing s' =>
                  have HD2 := Lib.hid (HS.out.nothing HLL.out hsn HQR.out HRES.out.2 HG.out HGRQ.out)
                  have hq2 := quant_ok l (n + 2 - s) s [] (by rw [HLL.out]; exact HS.out.le) (by simp) (by simp)
                  rw [HQR.out] at hq2
                  have HNS : Hid (n = s') := Lib.hid (by have := hq2.2.1; have := HLL.out; omega)
                  have R : Hid (LoopD l n N db w (.int .i64 ((out.length : Nat) : Int)) .nilIface (.int .i64 (s' : Int)) w3) := Lib.hid ⟨s', out, rfl, rfl, rfl, HD2.out⟩
                  rw [HLO.out] at R
                  obtain ⟨rfl, _⟩ := hres
                  clear hgr hqr hq2
                  go_wp2_with fail
                  go_roundw
                  case rel => exact R.out
                  case measure => have := HNS.out; simp [intOf]; omega
                | bad s' =>
                  obtain ⟨v, rfl, hrow3⟩ := hres
                  have HROW3 := Lib.hid hrow3
                  have HBAD := Lib.hid (HS.out.bad HLL.out hsn HQR.out)
                  clear hgr hqr hrow3 HRES
                  go_wp2_with fail
                  go_returns
                  exact ⟨out, false, _, HBAD.out, by rw [HLO.out]; exact hroom, by rw [HLO.out]; rfl, .inr ⟨rfl, v, rfl⟩, ⟨_, HROW3.out, HG.out⟩, gr_trans HS.out.grown HGRQ.out⟩
          · by_cases hx : s + 4 ≤ n
            · have hy : ¬ m + 4 ≤ N := fun q => hbig ⟨hx, q⟩
              go_wp2_with fail
              go_loopw [6, 7, 8] (LoopD l n N db w) (fun _ _ i _ => n - (intOf i).toNat)
              case atStart => exact ⟨s, out, by rw [HLO.out], rfl, rfl, HS.out⟩
              case round =>
                clear hy
                clear HS HROW HG hsle hroom HEW HSW hsltw HLO hbig hx
                obtain ⟨s, out, rfl, rfl, rfl, hds⟩ := hrel
                have HS := Lib.hid hds
                obtain ⟨g, hrow, hg⟩ := hds.row
                have HROW := Lib.hid hrow
                have HG := Lib.hid hg
                have hsle := hds.le
                have hroom := hds.room HNN.out
                have hgrow := hds.grown
                have HEW : Hid (wr.rowIs be 197 322 (encF 64 (-1))) := Lib.hid (HE.out.of_block (hgrow.block be HE.out.lt (by have := HBE.out; simp; omega)))
                have HSW : Hid (∀ i, i < n → wr.cell? ⟨sb, so + i, none⟩ = some (.int .u8 ((l.getD i 0 : Nat) : Int))) := Lib.hid fun i hi => (World.cell?_of_block (hgrow.block sb hslt (by have := HBS.out; simp; omega))).trans (HSR.out i hi)
                have hsltw : Hid (sb < wr.heap.size) := Lib.hid (Nat.lt_of_lt_of_le hslt hgrow.size)
                obtain ⟨m, hm⟩ : ∃ m, out.length = m := ⟨_, rfl⟩
                have HLO := Lib.hid hm
                rw [hm] at hroom ⊢
                clear hds hrow hg hgrow hm
                by_cases hsn : s < n
                · by_cases hNm : N = m
                  · as_aux_lemma =>
                      subst hNm
                      go_wp2_with fail
                      have HFIT : Hid (∀ s' ds', quant l (n + 2 - s) s [] = .done s' ds' → ds'.length ≤ 0 + 1) := Lib.hid (by have h := HS.out.fit HLL.out HNN.out; rw [HLO.out] at h; rw [Nat.sub_self] at h; exact h)
                      refine Calls.mono (quant_any be sb db so 0 0 0 N n sc s g l HLL.out H256.out hn hsle (by omega) (Nat.le_refl _) (by omega) _ HFIT.out HEW.out HSW.out HROW.out HBE.out HBS.out hsltw.out) ?_
                      rintro e w3 ⟨hgr, r, hqr, hres⟩
                      have HGRQ : Hid (wr.grownBy w3 (some db)) := Lib.hid ⟨hgr.os, hgr.tape, hgr.output, hgr.size, hgr.block⟩
                      have HQR := Lib.hid hqr
                      have HRES := Lib.hid hres
                      cases r with
                      | done s' ds =>
                        exfalso
                        have h1 := HS.out.step HLL.out hsn HQR.out
                        have h2 := HFIT.out _ _ HQR.out
                        omega
                      | nothing s' =>
                        have HD2 := Lib.hid (HS.out.nothing HLL.out hsn HQR.out HRES.out.2 HG.out HGRQ.out)
                        have hq2 := quant_ok l (n + 2 - s) s [] (by rw [HLL.out]; exact HS.out.le) (by simp) (by simp)
                        rw [HQR.out] at hq2
                        have HNS : Hid (n = s') := Lib.hid (by have := hq2.2.1; have := HLL.out; omega)
                        have R : Hid (LoopD l n N db w (.int .i64 ((out.length : Nat) : Int)) .nilIface (.int .i64 (s' : Int)) w3) := Lib.hid ⟨s', out, rfl, rfl, rfl, HD2.out⟩
                        rw [HLO.out] at R
                        obtain ⟨rfl, _⟩ := hres
                        clear hgr hqr hq2
                        go_wp2_with fail
                        go_roundw
                        case rel => exact R.out
                        case measure => have := HNS.out; simp [intOf]; omega
                      | bad s' =>
                        obtain ⟨v, rfl, hrow3⟩ := hres
                        have HROW3 := Lib.hid hrow3
                        have HBAD := Lib.hid (HS.out.bad HLL.out hsn HQR.out)
                        clear hgr hqr hrow3 HRES
                        go_wp2_with fail
                        go_returns
                        exact ⟨out, false, _, HBAD.out, by rw [HLO.out]; exact hroom, by rw [HLO.out]; rfl, .inr ⟨rfl, v, rfl⟩, ⟨_, HROW3.out, HG.out⟩, gr_trans HS.out.grown HGRQ.out⟩
                  · as_aux_lemma =>
                      go_wp2_with fail
                      have HFIT : Hid (∀ s' ds', quant l (n + 2 - s) s [] = .done s' ds' → ds'.length ≤ (N - m) + 1) := Lib.hid (by have h := HS.out.fit HLL.out HNN.out; rw [HLO.out] at h; exact h)
                      refine Calls.mono (quant_any be sb db so m (N - m) (N - m) N n sc s g l HLL.out H256.out hn hsle (by omega) (Nat.le_refl _) (by omega) _ HFIT.out HEW.out HSW.out HROW.out HBE.out HBS.out hsltw.out) ?_
                      rintro e w3 ⟨hgr, r, hqr, hres⟩
                      have HGRQ : Hid (wr.grownBy w3 (some db)) := Lib.hid ⟨hgr.os, hgr.tape, hgr.output, hgr.size, hgr.block⟩
                      have HQR := Lib.hid hqr
                      have HRES := Lib.hid hres
                      cases r with
                      | done s' ds =>
                        have HST := Lib.hid (HS.out.step HLL.out hsn HQR.out)
                        have R : Hid (LoopD l n N db w (.int .i64 ((out.length : Int) + ((ds.length - 1 : Nat) : Int))) .nilIface (.int .i64 (s' : Int)) w3) := Lib.hid ⟨s', out ++ decD ds, by rw [List.length_append, decD_len HST.out.2.2.2.1 HST.out.2.2.2.2]; rfl, rfl, rfl, HS.out.done HLL.out hsn HQR.out (by rw [HLO.out]; exact hres.2) HG.out HGRQ.out⟩
                        have hs' : s + 2 ≤ s' := by have := HST.out; omega
                        have hsn' : s' ≤ n := by have := HST.out; omega
                        have hd4 : ds.length - 1 ≤ 3 := by have := HST.out; omega
                        obtain ⟨rfl, _⟩ := hres
                        obtain ⟨k, hk⟩ : ∃ k, ds.length - 1 = k := ⟨_, rfl⟩
                        rw [hk] at R hd4 ⊢
                        rw [HLO.out] at R
                        clear hgr hqr hk HRES
                        go_wp2_with fail
                        go_roundw
                        case rel => exact R.out
                        case measure => simp [intOf]; omega
                      | nothing s' =>
                        have HD2 := Lib.hid (HS.out.nothing HLL.out hsn HQR.out HRES.out.2 HG.out HGRQ.out)
                        have hq2 := quant_ok l (n + 2 - s) s [] (by rw [HLL.out]; exact HS.out.le) (by simp) (by simp)
                        rw [HQR.out] at hq2
                        have HNS : Hid (n = s') := Lib.hid (by have := hq2.2.1; have := HLL.out; omega)
                        have R : Hid (LoopD l n N db w (.int .i64 ((out.length : Nat) : Int)) .nilIface (.int .i64 (s' : Int)) w3) := Lib.hid ⟨s', out, rfl, rfl, rfl, HD2.out⟩
                        rw [HLO.out] at R
                        obtain ⟨rfl, _⟩ := hres
                        clear hgr hqr hq2
                        go_wp2_with fail
                        go_roundw
                        case rel => exact R.out
                        case measure => have := HNS.out; simp [intOf]; omega
                      | bad s' =>
                        obtain ⟨v, rfl, hrow3⟩ := hres
                        have HROW3 := Lib.hid hrow3
                        have HBAD := Lib.hid (HS.out.bad HLL.out hsn HQR.out)
                        clear hgr hqr hrow3 HRES
                        go_wp2_with fail
                        go_returns
                        exact ⟨out, false, _, HBAD.out, by rw [HLO.out]; exact hroom, by rw [HLO.out]; rfl, .inr ⟨rfl, v, rfl⟩, ⟨_, HROW3.out, HG.out⟩, gr_trans HS.out.grown HGRQ.out⟩
                · go_wp2_with fail
                  go_returns
                  exact ⟨out, true, _, HS.out.end HLL.out (by omega), by rw [HLO.out]; exact hroom, by rw [HLO.out]; rfl, .inl ⟨rfl, rfl⟩, ⟨_, HROW.out, HG.out⟩, HS.out.grown⟩
            · go_wp2_with fail
              go_loopw [6, 7, 8] (LoopD l n N db w) (fun _ _ i _ => n - (intOf i).toNat)
              case atStart => exact ⟨s, out, by rw [HLO.out], rfl, rfl, HS.out⟩
              case round =>
                clear HS HROW HG hsle hroom HEW HSW hsltw HLO hbig hx
                obtain ⟨s, out, rfl, rfl, rfl, hds⟩ := hrel
                have HS := Lib.hid hds
                obtain ⟨g, hrow, hg⟩ := hds.row
                have HROW := Lib.hid hrow
                have HG := Lib.hid hg
                have hsle := hds.le
                have hroom := hds.room HNN.out
                have hgrow := hds.grown
                have HEW : Hid (wr.rowIs be 197 322 (encF 64 (-1))) := Lib.hid (HE.out.of_block (hgrow.block be HE.out.lt (by have := HBE.out; simp; omega)))
                have HSW : Hid (∀ i, i < n → wr.cell? ⟨sb, so + i, none⟩ = some (.int .u8 ((l.getD i 0 : Nat) : Int))) := Lib.hid fun i hi => (World.cell?_of_block (hgrow.block sb hslt (by have := HBS.out; simp; omega))).trans (HSR.out i hi)
                have hsltw : Hid (sb < wr.heap.size) := Lib.hid (Nat.lt_of_lt_of_le hslt hgrow.size)
                obtain ⟨m, hm⟩ : ∃ m, out.length = m := ⟨_, rfl⟩
                have HLO := Lib.hid hm
                rw [hm] at hroom ⊢
                clear hds hrow hg hgrow hm
                by_cases hsn : s < n
                · by_cases hNm : N = m
                  · as_aux_lemma =>
                      subst hNm
                      go_wp2_with fail
                      have HFIT : Hid (∀ s' ds', quant l (n + 2 - s) s [] = .done s' ds' → ds'.length ≤ 0 + 1) := Lib.hid (by have h := HS.out.fit HLL.out HNN.out; rw [HLO.out] at h; rw [Nat.sub_self] at h; exact h)
                      refine Calls.mono (quant_any be sb db so 0 0 0 N n sc s g l HLL.out H256.out hn hsle (by omega) (Nat.le_refl _) (by omega) _ HFIT.out HEW.out HSW.out HROW.out HBE.out HBS.out hsltw.out) ?_
                      rintro e w3 ⟨hgr, r, hqr, hres⟩
                      have HGRQ : Hid (wr.grownBy w3 (some db)) := Lib.hid ⟨hgr.os, hgr.tape, hgr.output, hgr.size, hgr.block⟩
                      have HQR := Lib.hid hqr
                      have HRES := Lib.hid hres
                      cases r with
                      | done s' ds =>
                        exfalso
                        have h1 := HS.out.step HLL.out hsn HQR.out
                        have h2 := HFIT.out _ _ HQR.out
                        omega
                      | nothing s' =>
                        have HD2 := Lib.hid (HS.out.nothing HLL.out hsn HQR.out HRES.out.2 HG.out HGRQ.out)
                        have hq2 := quant_ok l (n + 2 - s) s [] (by rw [HLL.out]; exact HS.out.le) (by simp) (by simp)
                        rw [HQR.out] at hq2
                        have HNS : Hid (n = s') := Lib.hid (by have := hq2.2.1; have := HLL.out; omega)
                        have R : Hid (LoopD l n N db w (.int .i64 ((out.length : Nat) : Int)) .nilIface (.int .i64 (s' : Int)) w3) := Lib.hid ⟨s', out, rfl, rfl, rfl, HD2.out⟩
                        rw [HLO.out] at R
                        obtain ⟨rfl, _⟩ := hres
                        clear hgr hqr hq2
                        go_wp2_with fail
                        go_roundw
                        case rel => exact R.out
                        case measure => have := HNS.out; simp [intOf]; omega
                      | bad s' =>
                        obtain ⟨v, rfl, hrow3⟩ := hres
                        have HROW3 := Lib.hid hrow3
                        have HBAD := Lib.hid (HS.out.bad HLL.out hsn HQR.out)
                        clear hgr hqr hrow3 HRES
                        go_wp2_with fail
                        go_returns
                        exact ⟨out, false, _, HBAD.out, by rw [HLO.out]; exact hroom, by rw [HLO.out]; rfl, .inr ⟨rfl, v, rfl⟩, ⟨_, HROW3.out, HG.out⟩, gr_trans HS.out.grown HGRQ.out⟩
                  · as_aux_lemma =>
                      go_wp2_with fail
                      have HFIT : Hid (∀ s' ds', quant l (n + 2 - s) s [] = .done s' ds' → ds'.length ≤ (N - m) + 1) := Lib.hid (by have h := HS.out.fit HLL.out HNN.out; rw [HLO.out] at h; exact h)
                      refine Calls.mono (quant_any be sb db so m (N - m) (N - m) N n sc s g l HLL.out H256.out hn hsle (by omega) (Nat.le_refl _) (by omega) _ HFIT.out HEW.out HSW.out HROW.out HBE.out HBS.out hsltw.out) ?_
                      rintro e w3 ⟨hgr, r, hqr, hres⟩
                      have HGRQ : Hid (wr.grownBy w3 (some db)) := Lib.hid ⟨hgr.os, hgr.tape, hgr.output, hgr.size, hgr.block⟩
                      have HQR := Lib.hid hqr
                      have HRES := Lib.hid hres
                      cases r with
                      | done s' ds =>
                        have HST := Lib.hid (HS.out.step HLL.out hsn HQR.out)
                        have R : Hid (LoopD l n N db w (.int .i64 ((out.length : Int) + ((ds.length - 1 : Nat) : Int))) .nilIface (.int .i64 (s' : Int)) w3) := Lib.hid ⟨s', out ++ decD ds, by rw [List.length_append, decD_len HST.out.2.2.2.1 HST.out.2.2.2.2]; rfl, rfl, rfl, HS.out.done HLL.out hsn HQR.out (by rw [HLO.out]; exact hres.2) HG.out HGRQ.out⟩
                        have hs' : s + 2 ≤ s' := by have := HST.out; omega
                        have hsn' : s' ≤ n := by have := HST.out; omega
                        have hd4 : ds.length - 1 ≤ 3 := by have := HST.out; omega
                        obtain ⟨rfl, _⟩ := hres
                        obtain ⟨k, hk⟩ : ∃ k, ds.length - 1 = k := ⟨_, rfl⟩
                        rw [hk] at R hd4 ⊢
                        rw [HLO.out] at R
                        clear hgr hqr hk HRES
                        go_wp2_with fail
                        go_roundw
                        case rel => exact R.out
                        case measure => simp [intOf]; omega
                      | nothing s' =>
                        have HD2 := Lib.hid (HS.out.nothing HLL.out hsn HQR.out HRES.out.2 HG.out HGRQ.out)
                        have hq2 := quant_ok l (n + 2 - s) s [] (by rw [HLL.out]; exact HS.out.le) (by simp) (by simp)
                        rw [HQR.out] at hq2
                        have HNS : Hid (n = s') := Lib.hid (by have := hq2.2.1; have := HLL.out; omega)
                        have R : Hid (LoopD l n N db w (.int .i64 ((out.length : Nat) : Int)) .nilIface (.int .i64 (s' : Int)) w3) := Lib.hid ⟨s', out, rfl, rfl, rfl, HD2.out⟩
                        rw [HLO.out] at R
                        obtain ⟨rfl, _⟩ := hres
                        clear hgr hqr hq2
                        go_wp2_with fail
                        go_roundw
                        case rel => exact R.out
                        case measure => have := HNS.out; simp [intOf]; omega
                      | bad s' =>
                        obtain ⟨v, rfl, hrow3⟩ := hres
                        have HROW3 := Lib.hid hrow3
                        have HBAD := Lib.hid (HS.out.bad HLL.out hsn HQR.out)
                        clear hgr hqr hrow3 HRES
                        go_wp2_with fail
                        go_returns
                        exact ⟨out, false, _, HBAD.out, by rw [HLO.out]; exact hroom, by rw [HLO.out]; rfl, .inr ⟨rfl, v, rfl⟩, ⟨_, HROW3.out, HG.out⟩, gr_trans HS.out.grown HGRQ.out⟩
                · go_wp2_with fail
                  go_returns
                  exact ⟨out, true, _, HS.out.end HLL.out (by omega), by rw [HLO.out]; exact hroom, by rw [HLO.out]; rfl, .inl ⟨rfl, rfl⟩, ⟨_, HROW.out, HG.out⟩, HS.out.grown⟩
      · go_wp2_with fail
        go_loopw [6, 7, 8] (LoopD l n N db w) (fun _ _ i _ => n - (intOf i).toNat)
        case atStart => exact ⟨s, out, by rw [HLO.out], rfl, rfl, HS.out⟩
        case round =>
          clear HS HROW HG hsle hroom HEW HSW hsltw HLO hbig hx
          obtain ⟨s, out, rfl, rfl, rfl, hds⟩ := hrel
          have HS := Lib.hid hds
          obtain ⟨g, hrow, hg⟩ := hds.row
          have HROW := Lib.hid hrow
          have HG := Lib.hid hg
          have hsle := hds.le
          have hroom := hds.room HNN.out
          have hgrow := hds.grown
          have HEW : Hid (wr.rowIs be 197 322 (encF 64 (-1))) := Lib.hid (HE.out.of_block (hgrow.block be HE.out.lt (by have := HBE.out; simp; omega)))
          have HSW : Hid (∀ i, i < n → wr.cell? ⟨sb, so + i, none⟩ = some (.int .u8 ((l.getD i 0 : Nat) : Int))) := Lib.hid fun i hi => (World.cell?_of_block (hgrow.block sb hslt (by have := HBS.out; simp; omega))).trans (HSR.out i hi)
          have hsltw : Hid (sb < wr.heap.size) := Lib.hid (Nat.lt_of_lt_of_le hslt hgrow.size)
          obtain ⟨m, hm⟩ : ∃ m, out.length = m := ⟨_, rfl⟩
          have HLO := Lib.hid hm
          rw [hm] at hroom ⊢
          clear hds hrow hg hgrow hm
          by_cases hbig : s + 4 ≤ n ∧ m + 4 ≤ N
          · obtain ⟨hb1, hb2⟩ := hbig
            have hsn : s < n := by omega
            have CH : Hid (∀ i, i < 4 → CharAt l be sb so s wr i) := Lib.hid fun i hi => char_at HLL.out H256.out HEW.out HSW.out (by omega)
            obtain ⟨c0, l0, g0, m0, dg0, u0⟩ := CH.out 0 (by omega)
            rw [Nat.add_zero] at l0 g0
            obtain ⟨c1, l1, g1, m1, dg1, u1⟩ := CH.out 1 (by omega)
            obtain ⟨c2, l2, g2, m2, dg2, u2⟩ := CH.out 2 (by omega)
            obtain ⟨c3, l3, g3, m3, dg3, u3⟩ := CH.out 3 (by omega)
            by_cases hA : dc c0 < 64 ∧ dc c1 < 64 ∧ dc c2 < 64 ∧ dc c3 < 64
            · as_aux_lemma =>
                obtain ⟨k0, k1, k2, k3⟩ := hA
                have HRUN : Hid (∃ F, n + 1 ≤ s + 4 + F ∧ runD l (n + 1) 0 [] = runD l F (s + 4) (out ++ decD [dc c0, dc c1, dc c2, dc c3])) := Lib.hid (run_four HS.out.run HLL.out l0 l1 l2 l3 k0 k1 k2 k3)
                have HAS := Lib.hid (fun w1 : World => (as32_yes (dc c0) (dc c1) (dc c2) (dc c3) k0 k1 k2 k3 w1).mono fun _ _ ⟨he, hw⟩ => (⟨he, hw.symm⟩ : _ = _ ∧ _ = w1))
                obtain ⟨V, hVe⟩ : ∃ V, (dc c0 * 262144 + dc c1 * 4096 + dc c2 * 64 + dc c3) * 256 = V := ⟨_, rfl⟩
                rw [hVe] at HAS
                have HL8 := Lib.hid (list4 (dc c0) (dc c1) (dc c2) (dc c3) k0 k1 k2 k3 V hVe)
                have HVL : Hid (V < 4294967296) := Lib.hid (by omega)
                have hscs : ¬ sc = s := by omega
                have hNm : ¬ N = m := by omega
                clear l0 dg0 l1 dg1 l2 dg2 l3 dg3 hVe
                obtain ⟨d0, hd0⟩ : ∃ d, dc c0 = d := ⟨_, rfl⟩
                obtain ⟨d1, hd1⟩ : ∃ d, dc c1 = d := ⟨_, rfl⟩
                obtain ⟨d2, hd2⟩ : ∃ d, dc c2 = d := ⟨_, rfl⟩
                obtain ⟨d3, hd3⟩ : ∃ d, dc c3 = d := ⟨_, rfl⟩
                rw [hd0] at k0 m0
                rw [hd1] at k1 m1
                rw [hd2] at k2 m2
                rw [hd3] at k3 m3
                rw [hd0, hd1, hd2, hd3] at HAS HL8 HRUN
                clear hd0 hd1 hd2 hd3
                go_wp2_with fail
                try simp only [List.append_eq, List.cons_append, List.nil_append]
                go_quiet ((go_at_call 225; exact Calls.quiet_of_same (HAS.out _)))
                clear g0 m0 u0 g1 m1 u1 g2 m2 u2 g3 m3 u3 HAS
                go_wp2_with fail
                refine Calls.mono (put32_any db m (N - m) (N - m) N V g HVL.out (by omega) (by omega) _ HROW.out (by omega)) ?_
                rintro e w3 ⟨rfl, hrow3, hgr3⟩
                have R : Hid (LoopD l n N db w (.int .i64 ((out.length : Int) + 3)) .nilIface (.int .i64 ((s : Int) + 4)) w3) := Lib.hid (HS.out.more (k := 3) (t := 4) hb1 (by rfl) (by omega) HRUN.out (by rw [HLO.out, ← HL8.out]; exact hrow3) HG.out ⟨hgr3.os, hgr3.tape, hgr3.output, hgr3.size, hgr3.block⟩)
                rw [HLO.out] at R
                clear hrow3 hgr3 HRUN HL8 HVL
                go_wp2_with fail
                go_roundw
                case rel => exact R.out
                case measure => simp [intOf]; omega
            · as_aux_lemma =>
                have hno : dc c0 = 255 ∨ dc c1 = 255 ∨ dc c2 = 255 ∨ dc c3 = 255 := by
                  apply Classical.byContradiction
                  intro q
                  simp only [not_or] at q
                  obtain ⟨q0, q1, q2, q3⟩ := q
                  exact hA ⟨dg_lt dg0 q0, dg_lt dg1 q1, dg_lt dg2 q2, dg_lt dg3 q3⟩
                have HAS := Lib.hid (fun w1 : World => (as32_no (dc c0) (dc c1) (dc c2) (dc c3) dg0 dg1 dg2 dg3 hno w1).mono fun _ _ ⟨he, hw⟩ => (⟨he, hw.symm⟩ : _ = _ ∧ _ = w1))
                have hscs : ¬ sc = s := by omega
                have hNm : ¬ N = m := by omega
                clear hA
                clear l0 dg0 l1 dg1 l2 dg2 l3 dg3 hno
                obtain ⟨d0, hd0⟩ : ∃ d, dc c0 = d := ⟨_, rfl⟩
                obtain ⟨d1, hd1⟩ : ∃ d, dc c1 = d := ⟨_, rfl⟩
                obtain ⟨d2, hd2⟩ : ∃ d, dc c2 = d := ⟨_, rfl⟩
                obtain ⟨d3, hd3⟩ : ∃ d, dc c3 = d := ⟨_, rfl⟩
                rw [hd0] at m0
                rw [hd1] at m1
                rw [hd2] at m2
                rw [hd3] at m3
                rw [hd0, hd1, hd2, hd3] at HAS
                clear hd0 hd1 hd2 hd3
                go_wp2_with fail
                try simp only [List.append_eq, List.cons_append, List.nil_append]
                go_quiet ((go_at_call 225; exact Calls.quiet_of_same (HAS.out _)))
                clear g0 m0 u0 g1 m1 u1 g2 m2 u2 g3 m3 u3 HAS
                go_wp2_with fail
                have HFIT : Hid (∀ s' ds', quant l (n + 2 - s) s [] = .done s' ds' → ds'.length ≤ (N - m) + 1) := Lib.hid (by have h := HS.out.fit HLL.out HNN.out; rw [HLO.out] at h; exact h)
                refine Calls.mono (quant_any be sb db so m (N - m) (N - m) N n sc s g l HLL.out H256.out hn hsle (by omega) (Nat.le_refl _) (by omega) _ HFIT.out HEW.out HSW.out HROW.out HBE.out HBS.out hsltw.out) ?_
                rintro e w3 ⟨hgr, r, hqr, hres⟩
                have HGRQ : Hid (wr.grownBy w3 (some db)) := Lib.hid ⟨hgr.os, hgr.tape, hgr.output, hgr.size, hgr.block⟩
                have HQR := Lib.hid hqr
                have HRES := Lib.hid hres
                cases r with
                | done s' ds =>
                  have HST := Lib.hid (HS.out.step HLL.out hsn HQR.out)
                  have R : Hid (LoopD l n N db w (.int .i64 ((out.length : Int) + ((ds.length - 1 : Nat) : Int))) .nilIface (.int .i64 (s' : Int)) w3) := Lib.hid ⟨s', out ++ decD ds, by rw [List.length_append, decD_len HST.out.2.2.2.1 HST.out.2.2.2.2]; rfl, rfl, rfl, HS.out.done HLL.out hsn HQR.out (by rw [HLO.out]; exact hres.2) HG.out HGRQ.out⟩
                  have hs' : s + 2 ≤ s' := by have := HST.out; omega
                  have hsn' : s' ≤ n := by have := HST.out; omega
                  have hd4 : ds.length - 1 ≤ 3 := by have := HST.out; omega
                  obtain ⟨rfl, _⟩ := hres
                  obtain ⟨k, hk⟩ : ∃ k, ds.length - 1 = k := ⟨_, rfl⟩
                  rw [hk] at R hd4 ⊢
                  rw [HLO.out] at R
                  clear hgr hqr hk HRES
                  go_wp2_with fail
                  go_roundw
                  case rel => exact R.out
                  case measure => simp [intOf]; omega
                | nothing s' =>
                  have HD2 := Lib.hid (HS.out.nothing HLL.out hsn HQR.out HRES.out.2 HG.out HGRQ.out)
                  have hq2 := quant_ok l (n + 2 - s) s [] (by rw [HLL.out]; exact HS.out.le) (by simp) (by simp)
                  rw [HQR.out] at hq2
                  have HNS : Hid (n = s') := Lib.hid (by have := hq2.2.1; have := HLL.out; omega)
                  have R : Hid (LoopD l n N db w (.int .i64 ((out.length : Nat) : Int)) .nilIface (.int .i64 (s' : Int)) w3) := Lib.hid ⟨s', out, rfl, rfl, rfl, HD2.out⟩
                  rw [HLO.out] at R
                  obtain ⟨rfl, _⟩ := hres
                  clear hgr hqr hq2
                  go_wp2_with fail
                  go_roundw
                  case rel => exact R.out
                  case measure => have := HNS.out; simp [intOf]; omega
                | bad s' =>
                  obtain ⟨v, rfl, hrow3⟩ := hres
                  have HROW3 := Lib.hid hrow3
                  have HBAD := Lib.hid (HS.out.bad HLL.out hsn HQR.out)
                  clear hgr hqr hrow3 HRES
                  go_wp2_with fail
                  go_returns
                  exact ⟨out, false, _, HBAD.out, by rw [HLO.out]; exact hroom, by rw [HLO.out]; rfl, .inr ⟨rfl, v, rfl⟩, ⟨_, HROW3.out, HG.out⟩, gr_trans HS.out.grown HGRQ.out⟩
          · by_cases hx : s + 4 ≤ n
            · have hy : ¬ m + 4 ≤ N := fun q => hbig ⟨hx, q⟩
              go_wp2_with fail
              go_loopw [6, 7, 8] (LoopD l n N db w) (fun _ _ i _ => n - (intOf i).toNat)
              case atStart => exact ⟨s, out, by rw [HLO.out], rfl, rfl, HS.out⟩
              case round =>
                clear hy
                clear HS HROW HG hsle hroom HEW HSW hsltw HLO hbig hx
                obtain ⟨s, out, rfl, rfl, rfl, hds⟩ := hrel
                have HS := Lib.hid hds
                obtain ⟨g, hrow, hg⟩ := hds.row
                have HROW := Lib.hid hrow
                have HG := Lib.hid hg
                have hsle := hds.le
                have hroom := hds.room HNN.out
                have hgrow := hds.grown
                have HEW : Hid (wr.rowIs be 197 322 (encF 64 (-1))) := Lib.hid (HE.out.of_block (hgrow.block be HE.out.lt (by have := HBE.out; simp; omega)))
                have HSW : Hid (∀ i, i < n → wr.cell? ⟨sb, so + i, none⟩ = some (.int .u8 ((l.getD i 0 : Nat) : Int))) := Lib.hid fun i hi => (World.cell?_of_block (hgrow.block sb hslt (by have := HBS.out; simp; omega))).trans (HSR.out i hi)
                have hsltw : Hid (sb < wr.heap.size) := Lib.hid (Nat.lt_of_lt_of_le hslt hgrow.size)
                obtain ⟨m, hm⟩ : ∃ m, out.length = m := ⟨_, rfl⟩
                have HLO := Lib.hid hm
                rw [hm] at hroom ⊢
                clear hds hrow hg hgrow hm
                by_cases hsn : s < n
                · by_cases hNm : N = m
                  · as_aux_lemma =>
                      subst hNm
                      go_wp2_with fail
                      have HFIT : Hid (∀ s' ds', quant l (n + 2 - s) s [] = .done s' ds' → ds'.length ≤ 0 + 1) := Lib.hid (by have h := HS.out.fit HLL.out HNN.out; rw [HLO.out] at h; rw [Nat.sub_self] at h; exact h)
                      refine Calls.mono (quant_any be sb db so 0 0 0 N n sc s g l HLL.out H256.out hn hsle (by omega) (Nat.le_refl _) (by omega) _ HFIT.out HEW.out HSW.out HROW.out HBE.out HBS.out hsltw.out) ?_
                      rintro e w3 ⟨hgr, r, hqr, hres⟩
                      have HGRQ : Hid (wr.grownBy w3 (some db)) := Lib.hid ⟨hgr.os, hgr.tape, hgr.output, hgr.size, hgr.block⟩
                      have HQR := Lib.hid hqr
                      have HRES := Lib.hid hres
                      cases r with
                      | done s' ds =>
                        exfalso
                        have h1 := HS.out.step HLL.out hsn HQR.out
                        have h2 := HFIT.out _ _ HQR.out
                        omega
                      | nothing s' =>
                        have HD2 := Lib.hid (HS.out.nothing HLL.out hsn HQR.out HRES.out.2 HG.out HGRQ.out)
                        have hq2 := quant_ok l (n + 2 - s) s [] (by rw [HLL.out]; exact HS.out.le) (by simp) (by simp)
                        rw [HQR.out] at hq2
                        have HNS : Hid (n = s') := Lib.hid (by have := hq2.2.1; have := HLL.out; omega)
                        have R : Hid (LoopD l n N db w (.int .i64 ((out.length : Nat) : Int)) .nilIface (.int .i64 (s' : Int)) w3) := Lib.hid ⟨s', out, rfl, rfl, rfl, HD2.out⟩
                        rw [HLO.out] at R
                        obtain ⟨rfl, _⟩ := hres
                        clear hgr hqr hq2
                        go_wp2_with fail
                        go_roundw
                        case rel => exact R.out
                        case measure => have := HNS.out; simp [intOf]; omega
                      | bad s' =>
                        obtain ⟨v, rfl, hrow3⟩ := hres
                        have HROW3 := Lib.hid hrow3
                        have HBAD := Lib.hid (HS.out.bad HLL.out hsn HQR.out)
                        clear hgr hqr hrow3 HRES
                        go_wp2_with fail
                        go_returns
                        exact ⟨out, false, _, HBAD.out, by rw [HLO.out]; exact hroom, by rw [HLO.out]; rfl, .inr ⟨rfl, v, rfl⟩, ⟨_, HROW3.out, HG.out⟩, gr_trans HS.out.grown HGRQ.out⟩
                  · as_aux_lemma =>
                      go_wp2_with fail
                      have HFIT : Hid (∀ s' ds', quant l (n + 2 - s) s [] = .done s' ds' → ds'.length ≤ (N - m) + 1) := Lib.hid (by have h := HS.out.fit HLL.out HNN.out; rw [HLO.out] at h; exact h)
                      refine Calls.mono (quant_any be sb db so m (N - m) (N - m) N n sc s g l HLL.out H256.out hn hsle (by omega) (Nat.le_refl _) (by omega) _ HFIT.out HEW.out HSW.out HROW.out HBE.out HBS.out hsltw.out) ?_
                      rintro e w3 ⟨hgr, r, hqr, hres⟩
                      have HGRQ : Hid (wr.grownBy w3 (some db)) := Lib.hid ⟨hgr.os, hgr.tape, hgr.output, hgr.size, hgr.block⟩
                      have HQR := Lib.hid hqr
                      have HRES := Lib.hid hres
                      cases r with
                      | done s' ds =>
                        have HST := Lib.hid (HS.out.step HLL.out hsn HQR.out)
                        have R : Hid (LoopD l n N db w (.int .i64 ((out.length : Int) + ((ds.length - 1 : Nat) : Int))) .nilIface (.int .i64 (s' : Int)) w3) := Lib.hid ⟨s', out ++ decD ds, by rw [List.length_append, decD_len HST.out.2.2.2.1 HST.out.2.2.2.2]; rfl, rfl, rfl, HS.out.done HLL.out hsn HQR.out (by rw [HLO.out]; exact hres.2) HG.out HGRQ.out⟩
                        have hs' : s + 2 ≤ s' := by have := HST.out; omega
                        have hsn' : s' ≤ n := by have := HST.out; omega
                        have hd4 : ds.length - 1 ≤ 3 := by have := HST.out; omega
                        obtain ⟨rfl, _⟩ := hres
                        obtain ⟨k, hk⟩ : ∃ k, ds.length - 1 = k := ⟨_, rfl⟩
                        rw [hk] at R hd4 ⊢
                        rw [HLO.out] at R
                        clear hgr hqr hk HRES
                        go_wp2_with fail
                        go_roundw
                        case rel => exact R.out
                        case measure => simp [intOf]; omega
                      | nothing s' =>
                        have HD2 := Lib.hid (HS.out.nothing HLL.out hsn HQR.out HRES.out.2 HG.out HGRQ.out)
                        have hq2 := quant_ok l (n + 2 - s) s [] (by rw [HLL.out]; exact HS.out.le) (by simp) (by simp)
                        rw [HQR.out] at hq2
                        have HNS : Hid (n = s') := Lib.hid (by have := hq2.2.1; have := HLL.out; omega)
                        have R : Hid (LoopD l n N db w (.int .i64 ((out.length : Nat) : Int)) .nilIface (.int .i64 (s' : Int)) w3) := Lib.hid ⟨s', out, rfl, rfl, rfl, HD2.out⟩
                        rw [HLO.out] at R
                        obtain ⟨rfl, _⟩ := hres
                        clear hgr hqr hq2
                        go_wp2_with fail
                        go_roundw
                        case rel => exact R.out
                        case measure => have := HNS.out; simp [intOf]; omega
                      | bad s' =>
                        obtain ⟨v, rfl, hrow3⟩ := hres
                        have HROW3 := Lib.hid hrow3
                        have HBAD := Lib.hid (HS.out.bad HLL.out hsn HQR.out)
                        clear hgr hqr hrow3 HRES
                        go_wp2_with fail
                        go_returns
                        exact ⟨out, false, _, HBAD.out, by rw [HLO.out]; exact hroom, by rw [HLO.out]; rfl, .inr ⟨rfl, v, rfl⟩, ⟨_, HROW3.out, HG.out⟩, gr_trans HS.out.grown HGRQ.out⟩
                · go_wp2_with fail
                  go_returns
                  exact ⟨out, true, _, HS.out.end HLL.out (by omega), by rw [HLO.out]; exact hroom, by rw [HLO.out]; rfl, .inl ⟨rfl, rfl⟩, ⟨_, HROW.out, HG.out⟩, HS.out.grown⟩
            · go_wp2_with fail
              go_loopw [6, 7, 8] (LoopD l n N db w) (fun _ _ i _ => n - (intOf i).toNat)
              case atStart => exact ⟨s, out, by rw [HLO.out], rfl, rfl, HS.out⟩
              case round =>
                clear HS HROW HG hsle hroom HEW HSW hsltw HLO hbig hx
                obtain ⟨s, out, rfl, rfl, rfl, hds⟩ := hrel
                have HS := Lib.hid hds
                obtain ⟨g, hrow, hg⟩ := hds.row
                have HROW := Lib.hid hrow
                have HG := Lib.hid hg
                have hsle := hds.le
                have hroom := hds.room HNN.out
                have hgrow := hds.grown
                have HEW : Hid (wr.rowIs be 197 322 (encF 64 (-1))) := Lib.hid (HE.out.of_block (hgrow.block be HE.out.lt (by have := HBE.out; simp; omega)))
                have HSW : Hid (∀ i, i < n → wr.cell? ⟨sb, so + i, none⟩ = some (.int .u8 ((l.getD i 0 : Nat) : Int))) := Lib.hid fun i hi => (World.cell?_of_block (hgrow.block sb hslt (by have := HBS.out; simp; omega))).trans (HSR.out i hi)
                have hsltw : Hid (sb < wr.heap.size) := Lib.hid (Nat.lt_of_lt_of_le hslt hgrow.size)
                obtain ⟨m, hm⟩ : ∃ m, out.length = m := ⟨_, rfl⟩
                have HLO := Lib.hid hm
                rw [hm] at hroom ⊢
                clear hds hrow hg hgrow hm
                by_cases hsn : s < n
                · by_cases hNm : N = m
                  · as_aux_lemma =>
                      subst hNm
                      go_wp2_with fail
                      have HFIT : Hid (∀ s' ds', quant l (n + 2 - s) s [] = .done s' ds' → ds'.length ≤ 0 + 1) := Lib.hid (by have h := HS.out.fit HLL.out HNN.out; rw [HLO.out] at h; rw [Nat.sub_self] at h; exact h)
                      refine Calls.mono (quant_any be sb db so 0 0 0 N n sc s g l HLL.out H256.out hn hsle (by omega) (Nat.le_refl _) (by omega) _ HFIT.out HEW.out HSW.out HROW.out HBE.out HBS.out hsltw.out) ?_
                      rintro e w3 ⟨hgr, r, hqr, hres⟩
                      have HGRQ : Hid (wr.grownBy w3 (some db)) := Lib.hid ⟨hgr.os, hgr.tape, hgr.output, hgr.size, hgr.block⟩
                      have HQR := Lib.hid hqr
                      have HRES := Lib.hid hres
                      cases r with
                      | done s' ds =>
                        exfalso
                        have h1 := HS.out.step HLL.out hsn HQR.out
                        have h2 := HFIT.out _ _ HQR.out
                        omega
                      | nothing s' =>
                        have HD2 := Lib.hid (HS.out.nothing HLL.out hsn HQR.out HRES.out.2 HG.out HGRQ.out)
                        have hq2 := quant_ok l (n + 2 - s) s [] (by rw [HLL.out]; exact HS.out.le) (by simp) (by simp)
                        rw [HQR.out] at hq2
                        have HNS : Hid (n = s') := Lib.hid (by have := hq2.2.1; have := HLL.out; omega)
                        have R : Hid (LoopD l n N db w (.int .i64 ((out.length : Nat) : Int)) .nilIface (.int .i64 (s' : Int)) w3) := Lib.hid ⟨s', out, rfl, rfl, rfl, HD2.out⟩
                        rw [HLO.out] at R
                        obtain ⟨rfl, _⟩ := hres
                        clear hgr hqr hq2
                        go_wp2_with fail
                        go_roundw
                        case rel => exact R.out
                        case measure => have := HNS.out; simp [intOf]; omega
                      | bad s' =>
                        obtain ⟨v, rfl, hrow3⟩ := hres
                        have HROW3 := Lib.hid hrow3
                        have HBAD := Lib.hid (HS.out.bad HLL.out hsn HQR.out)
                        clear hgr hqr hrow3 HRES
                        go_wp2_with fail
                        go_returns
                        exact ⟨out, false, _, HBAD.out, by rw [HLO.out]; exact hroom, by rw [HLO.out]; rfl, .inr ⟨rfl, v, rfl⟩, ⟨_, HROW3.out, HG.out⟩, gr_trans HS.out.grown HGRQ.out⟩
                  · as_aux_lemma =>
                      go_wp2_with fail
                      have HFIT : Hid (∀ s' ds', quant l (n + 2 - s) s [] = .done s' ds' → ds'.length ≤ (N - m) + 1) := Lib.hid (by have h := HS.out.fit HLL.out HNN.out; rw [HLO.out] at h; exact h)
                      refine Calls.mono (quant_any be sb db so m (N - m) (N - m) N n sc s g l HLL.out H256.out hn hsle (by omega) (Nat.le_refl _) (by omega) _ HFIT.out HEW.out HSW.out HROW.out HBE.out HBS.out hsltw.out) ?_
                      rintro e w3 ⟨hgr, r, hqr, hres⟩
                      have HGRQ : Hid (wr.grownBy w3 (some db)) := Lib.hid ⟨hgr.os, hgr.tape, hgr.output, hgr.size, hgr.block⟩
                      have HQR := Lib.hid hqr
                      have HRES := Lib.hid hres
                      cases r with
                      | done s' ds =>
                        have HST := Lib.hid (HS.out.step HLL.out hsn HQR.out)
                        have R : Hid (LoopD l n N db w (.int .i64 ((out.length : Int) + ((ds.length - 1 : Nat) : Int))) .nilIface (.int .i64 (s' : Int)) w3) := Lib.hid ⟨s', out ++ decD ds, by rw [List.length_append, decD_len HST.out.2.2.2.1 HST.out.2.2.2.2]; rfl, rfl, rfl, HS.out.done HLL.out hsn HQR.out (by rw [HLO.out]; exact hres.2) HG.out HGRQ.out⟩
                        have hs' : s + 2 ≤ s' := by have := HST.out; omega
                        have hsn' : s' ≤ n := by have := HST.out; omega
                        have hd4 : ds.length - 1 ≤ 3 := by have := HST.out; omega
                        obtain ⟨rfl, _⟩ := hres
                        obtain ⟨k, hk⟩ : ∃ k, ds.length - 1 = k := ⟨_, rfl⟩
                        rw [hk] at R hd4 ⊢
                        rw [HLO.out] at R
                        clear hgr hqr hk HRES
                        go_wp2_with fail
                        go_roundw
                        case rel => exact R.out
                        case measure => simp [intOf]; omega
                      | nothing s' =>
                        have HD2 := Lib.hid (HS.out.nothing HLL.out hsn HQR.out HRES.out.2 HG.out HGRQ.out)
                        have hq2 := quant_ok l (n + 2 - s) s [] (by rw [HLL.out]; exact HS.out.le) (by simp) (by simp)
                        rw [HQR.out] at hq2
                        have HNS : Hid (n = s') := Lib.hid (by have := hq2.2.1; have := HLL.out; omega)
                        have R : Hid (LoopD l n N db w (.int .i64 ((out.length : Nat) : Int)) .nilIface (.int .i64 (s' : Int)) w3) := Lib.hid ⟨s', out, rfl, rfl, rfl, HD2.out⟩
                        rw [HLO.out] at R
                        obtain ⟨rfl, _⟩ := hres
                        clear hgr hqr hq2
                        go_wp2_with fail
                        go_roundw
                        case rel => exact R.out
                        case measure => have := HNS.out; simp [intOf]; omega
                      | bad s' =>
                        obtain ⟨v, rfl, hrow3⟩ := hres
                        have HROW3 := Lib.hid hrow3
                        have HBAD := Lib.hid (HS.out.bad HLL.out hsn HQR.out)
                        clear hgr hqr hrow3 HRES
                        go_wp2_with fail
                        go_returns
                        exact ⟨out, false, _, HBAD.out, by rw [HLO.out]; exact hroom, by rw [HLO.out]; rfl, .inr ⟨rfl, v, rfl⟩, ⟨_, HROW3.out, HG.out⟩, gr_trans HS.out.grown HGRQ.out⟩
                · go_wp2_with fail
                  go_returns
                  exact ⟨out, true, _, HS.out.end HLL.out (by omega), by rw [HLO.out]; exact hroom, by rw [HLO.out]; rfl, .inl ⟨rfl, rfl⟩, ⟨_, HROW.out, HG.out⟩, HS.out.grown⟩
end Go.Proofs.YtgjmgneppecfgaaGreatDoor.Ba
