/-
  THE WALK of base64's Encode.
-/
import Derived.Test.YtgjmgneppecfgaaGreatDoorQ04
import Derived.Lib.ConvBytes
set_option linter.unusedVariables false
set_option linter.unusedSimpArgs false
namespace Go.Proofs.YtgjmgneppecfgaaGreatDoor.Ba
open Go.RowKit Go.Proofs.YtgjmgneppecfgaaGreatDoor.Va
set_option linter.unusedVariables false
set_option linter.unusedSimpArgs false

theorem or_add (a b k : Nat) (hb : b < 2 ^ k) : (a * 2 ^ k) ||| b = a * 2 ^ k + b := by
  rw [Nat.mul_comm, Nat.two_pow_add_eq_or_of_lt hb]
theorem val3 {a b c : Nat} (ha : a < 256) (hb : b < 256) (hc : c < 256) : bits .or .u64 (bits .or .u64 ((a : Int) * 65536) ((b : Int) * 256)) (c : Int) = ((a * 65536 + b * 256 + c : Nat) : Int) := by
  have o1 : a * 65536 ||| b * 256 = a * 65536 + b * 256 := or_add a (b * 256) 16 (by omega)
  have o2 : (a * 65536 + b * 256) ||| c = a * 65536 + b * 256 + c := by
    have h := or_add (a * 256 + b) c 8 (by omega)
    have e : (a * 256 + b) * 2 ^ 8 = a * 65536 + b * 256 := by omega
    rwa [e] at h
  have h1 := u64_or_nat (a * 65536) (b * 256) (by omega) (by omega)
  have h2 := u64_or_nat (a * 65536 + b * 256) c (by omega) (by omega)
  rw [o1] at h1
  rw [o2] at h2
  have ea : (a : Int) * 65536 = ((a * 65536 : Nat) : Int) := by omega
  have eb : (b : Int) * 256 = ((b * 256 : Nat) : Int) := by omega
  rw [ea, eb, h1, h2]
theorem and63 (v : Nat) (h : v < 16777216) : bits .and .u64 (v : Int) 63 = ((v % 64 : Nat) : Int) := by
  have h2 := u64_and_nat v 63 (by omega) (by omega)
  rw [show v &&& 63 = v % 64 from Nat.and_two_pow_sub_one_eq_mod v 6] at h2
  exact h2
theorem shr63 (v d : Nat) (h : v < 16777216) (hd : 0 < d) : bits .and .u64 ((v : Int) / (d : Int)) 63 = ((v / d % 64 : Nat) : Int) := by
  have := and63 (v / d) (Nat.lt_of_le_of_lt (Nat.div_le_self _ _) h)
  rwa [Int.natCast_ediv] at this
theorem shr18 (v : Nat) (h : v < 16777216) : bits .and .u64 ((v : Int) / 262144) 63 = ((v / 262144 % 64 : Nat) : Int) := shr63 v 262144 h (by decide)
theorem shr12 (v : Nat) (h : v < 16777216) : bits .and .u64 ((v : Int) / 4096) 63 = ((v / 4096 % 64 : Nat) : Int) := shr63 v 4096 h (by decide)
theorem shr6 (v : Nat) (h : v < 16777216) : bits .and .u64 ((v : Int) / 64) 63 = ((v / 64 % 64 : Nat) : Int) := shr63 v 64 h (by decide)
/-- the cells of a text that is being written -/
def outF (l : List Nat) (m j : Nat) : Value := .int .u8 (if j < m then ((l.getD j 0 : Nat) : Int) else 0)
def LoopW (w : World) (l : List Nat) (sb db so n N sc : Nat) (dv sv : Value) (wr : World) : Prop :=
  ∃ k p q : Nat, 3 * k ≤ n ∧ sv = .slice (some ⟨sb, p, none⟩) (n - 3 * k) (sc - 3 * k) ∧ dv = .slice (some ⟨db, q, none⟩) (N - 4 * k) (N - 4 * k) ∧ (3 * k < n → p = so + 3 * k) ∧ (4 * k < N → q = 4 * k) ∧ wr.rowIs db 5 N (outF (encB l) (4 * k)) ∧ w.grownBy wr (some db)
theorem digits3 {a b c : Nat} (ha : a < 256) (hb : b < 256) (hc : c < 256) : (a * 65536 + b * 256 + c) / 262144 % 64 = a / 4 ∧ (a * 65536 + b * 256 + c) / 4096 % 64 = a % 4 * 16 + b / 16 ∧ (a * 65536 + b * 256 + c) / 64 % 64 = b % 16 * 4 + c / 64 ∧ (a * 65536 + b * 256 + c) % 64 = c % 64 := by omega
theorem outF_step {l : List Nat} {m j : Nat} {x0 x1 x2 x3 : Nat} (h0 : l[m]? = some x0) (h1 : l[m + 1]? = some x1) (h2 : l[m + 2]? = some x2) (h3 : l[m + 3]? = some x3) :
    (if j = m + 3 then .int .u8 (x3 : Int) else if j = m + 2 then .int .u8 (x2 : Int) else if j = m + 1 then .int .u8 (x1 : Int) else if j = m then .int .u8 (x0 : Int) else outF l m j) = outF l (m + 4) j := by
  unfold outF
  by_cases c3 : j = m + 3
  · rw [if_pos c3, if_pos (by omega), c3, List.getD, h3]; rfl
  rw [if_neg c3]
  by_cases c2 : j = m + 2
  · rw [if_pos c2, if_pos (by omega), c2, List.getD, h2]; rfl
  rw [if_neg c2]
  by_cases c1 : j = m + 1
  · rw [if_pos c1, if_pos (by omega), c1, List.getD, h1]; rfl
  rw [if_neg c1]
  by_cases c0 : j = m
  · rw [if_pos c0, if_pos (by omega), c0, List.getD, h0]; rfl
  rw [if_neg c0]
  by_cases cm : j < m
  · rw [if_pos cm, if_pos (by omega)]
  · rw [if_neg cm, if_neg (by omega)]
theorem gr_set {w w' : World} {g : Nat} (h : w.grownBy w' (some g)) (j : Nat) (v : Value) : w.grownBy (w'.setCell ⟨g, j, none⟩ v) (some g) :=
  ⟨h.os, h.tape, h.output, by simpa using h.size, fun k hk hne => (heap_setCell_other _ _ k _ (fun e => hne (by rw [e]))).trans (h.block k hk hne)⟩
theorem gr_drewN {w w' : World} {row : Option Nat} (h : w.grownBy w' row) (n : Nat) : w.grownBy (w'.drewN n) row := ⟨h.os, h.tape, h.output, h.size, h.block⟩
theorem LoopW.next {w w' : World} {l : List Nat} {sb db so n N sc k r rc M : Nat} (hr : n - 3 * k = r) (hrc : sc - 3 * k = rc) (hM : N - 4 * k = M) (h3 : 3 ≤ r) (hrrc : r ≤ rc) (h4 : 4 ≤ M)
    (hrow : w'.rowIs db 5 N (outF (encB l) (4 * k + 4))) (hg : w.grownBy w' (some db)) :
    LoopW w l sb db so n N sc (.slice (if M = 4 then some ⟨db, 4 * k, none⟩ else some ⟨db, 4 * k + 4, none⟩) (M - 4) (M - 4)) (.slice (if rc = 3 then some ⟨sb, so + 3 * k, none⟩ else some ⟨sb, so + 3 * k + 3, none⟩) (r - 3) (rc - 3)) w' := by
  refine ⟨k + 1, if rc = 3 then so + 3 * k else so + 3 * k + 3, if M = 4 then 4 * k else 4 * k + 4, by omega, ?_, ?_, ?_, ?_, ?_, hg⟩
  · rw [show n - 3 * (k + 1) = r - 3 by omega, show sc - 3 * (k + 1) = rc - 3 by omega]
    split <;> rfl
  · rw [show N - 4 * (k + 1) = M - 4 by omega]
    split <;> rfl
  · intro h
    rw [if_neg (by omega)]
    omega
  · intro h
    rw [if_neg (by omega)]
    omega
  · rw [show 4 * (k + 1) = 4 * k + 4 by omega]
    exact hrow
def slen : Value → Nat
  | .slice _ m _ => m
  | _ => 0
theorem encB_1 (a : Nat) : encB [a] = [lt (a / 4), lt (a % 4 * 16), 61, 61] := by
  simp [encB, encD, padN]
theorem encB_2 (a b : Nat) : encB [a, b] = [lt (a / 4), lt (a % 4 * 16 + b / 16), lt (b % 16 * 4), 61] := by
  simp [encB, encD, padN]
theorem val2 {a b : Nat} (ha : a < 256) (hb : b < 256) : bits .or .u64 ((a : Int) * 65536) ((b : Int) * 256) = ((a * 65536 + b * 256 : Nat) : Int) := by
  have o1 : a * 65536 ||| b * 256 = a * 65536 + b * 256 := or_add a (b * 256) 16 (by omega)
  have h1 := u64_or_nat (a * 65536) (b * 256) (by omega) (by omega)
  rw [o1] at h1
  have ea : (a : Int) * 65536 = ((a * 65536 : Nat) : Int) := by omega
  have eb : (b : Int) * 256 = ((b * 256 : Nat) : Int) := by omega
  rw [ea, eb, h1]
def EncEnd (w : World) (l : List Nat) (db N : Nat) (e : Ending) (w' : World) : Prop := e = .returned (.tuple #[]) ∧ w'.rowIs db 5 N (outF (encB l) N) ∧ w.grownBy w' (some db)

set_option maxHeartbeats 4000000 in
set_option maxRecDepth 100000 in
theorem enc_any (be sb db so n N sc : Nat) (l : List Nat) (hl : l.length = n) (h256 : ∀ x ∈ l, x < 256) (hN : N = (n + 2) / 3 * 4) (hn : n ≤ 2147483647) (h1 : 1 ≤ n) (hsc : n ≤ sc) (hsc2 : sc ≤ 9223372036854775807) (w : World)
    (he : w.rowIs be 197 322 (encF 64 61)) (hs : ∀ i, i < n → w.cell? ⟨sb, so + i, none⟩ = some (.int .u8 ((l.getD i 0 : Nat) : Int))) (hd : w.rowIs db 5 N (fun _ => .int .u8 0)) (hbe : be ≠ db) (hbs : sb ≠ db) (hslt : sb < w.heap.size) :
    Calls Tryz.prog 189 #[.pointer (some ⟨be, 0, none⟩), .slice (some ⟨db, 0, none⟩) N N, .slice (some ⟨sb, so, none⟩) n sc] w (EncEnd w l db N) := by
  have HE := Lib.hid he
  have HSR := Lib.hid hs
  have HD := Lib.hid hd
  have HLL := Lib.hid hl
  have H256 := Lib.hid h256
  have HNN := Lib.hid hN
  have hn0 : ((n : Int) == 0) = false := by simp; omega
  have hN1 : N ≤ 2863311532 := by omega
  clear he hs hd hl h256 hN
  go_enter Tryz.func189, Tryz.ntmps189
  go_wp2_with (refine wpList_load_part rfl 116 (.tmp 14) rfl be 0 64 322 rfl 197 (encF 64 61) HE.out (by decide) _ Tryz.underlying116 rfl (by kernel_rfl) ?_; intro cs hcs hcz; clear hcs hcz)
  go_frame
  go_loopw [1, 2] (LoopW w l sb db so n N sc) (fun _ s _ => slen s)
  case atStart => exact ⟨0, so, 0, by omega, rfl, rfl, fun _ => rfl, fun _ => rfl, HD.out.congr fun i hi => rfl, ⟨rfl, rfl, rfl, Nat.le_refl _, fun _ _ _ => rfl⟩⟩
  case round =>
    obtain ⟨k, p, q, hk, rfl, rfl, hp, hq, hrow, hgr⟩ := hrel
    have HROW := Lib.hid hrow
    have HGR := Lib.hid hgr
    clear hrow hgr
    have HEW : Hid (wr.rowIs be 197 322 (encF 64 61)) := Lib.hid (HE.out.of_block (HGR.out.block be HE.out.lt (by simp; omega)))
    have HSW : Hid (∀ i, i < n → wr.cell? ⟨sb, so + i, none⟩ = some (.int .u8 ((l.getD i 0 : Nat) : Int))) := Lib.hid fun i hi => (World.cell?_of_block (HGR.out.block sb hslt (by simp; omega))).trans (HSR.out i hi)
    obtain ⟨r, hr⟩ : ∃ r, n - 3 * k = r := ⟨_, rfl⟩
    obtain ⟨rc, hrc⟩ : ∃ rc, sc - 3 * k = rc := ⟨_, rfl⟩
    obtain ⟨M, hM⟩ : ∃ M, N - 4 * k = M := ⟨_, rfl⟩
    rw [hr, hrc, hM]
    have HRN := Lib.hid hr
    have HRC := Lib.hid hrc
    have HMN := Lib.hid hM
    have hrrc : r ≤ rc := by omega
    have hrcb : rc ≤ 9223372036854775807 := by omega
    have hMr : M = (r + 2) / 3 * 4 := by have := HNN.out; omega
    have hMb : M ≤ 2863311532 := by omega
    have hrb : r ≤ 2147483647 := by omega
    have HMR := Lib.hid hMr
    clear hr hrc hM hMr
    by_cases h3 : 3 ≤ r
    · obtain rfl := hp (by have := HRN.out; omega)
      obtain rfl := hq (by have := HMN.out; have := HMR.out; omega)
      have h4 : 4 ≤ M := by have := HMR.out; omega
      obtain ⟨a, ha⟩ : ∃ a, l.getD (3 * k) 0 = a := ⟨_, rfl⟩
      obtain ⟨b, hb⟩ : ∃ b, l.getD (3 * k + 1) 0 = b := ⟨_, rfl⟩
      obtain ⟨c, hc⟩ : ∃ c, l.getD (3 * k + 2) 0 = c := ⟨_, rfl⟩
      have c0 := HSW.out (3 * k) (by have := HRN.out; omega)
      have c1 := HSW.out (3 * k + 1) (by have := HRN.out; omega)
      have c2 := HSW.out (3 * k + 2) (by have := HRN.out; omega)
      rw [ha] at c0
      rw [hb, ← Nat.add_assoc] at c1
      rw [hc, ← Nat.add_assoc] at c2
      have ha6 : a < 256 := by rw [← ha]; exact H256.out _ (by rw [List.getD, List.getElem?_eq_getElem (by have := HRN.out; have := HLL.out; omega)]; exact List.getElem_mem _)
      have hb6 : b < 256 := by rw [← hb]; exact H256.out _ (by rw [List.getD, List.getElem?_eq_getElem (by have := HRN.out; have := HLL.out; omega)]; exact List.getElem_mem _)
      have hc6 : c < 256 := by rw [← hc]; exact H256.out _ (by rw [List.getD, List.getElem?_eq_getElem (by have := HRN.out; have := HLL.out; omega)]; exact List.getElem_mem _)
      have HDR : Hid (l.drop (3 * k) = a :: b :: c :: l.drop (3 * k + 3)) := Lib.hid (by
        have e := HRN.out
        have e2 := HLL.out
        rw [List.drop_eq_getElem_cons (by omega), List.drop_eq_getElem_cons (by omega), List.drop_eq_getElem_cons (by omega), ← ha, ← hb, ← hc]
        simp only [List.getD, List.getElem?_eq_getElem (show 3 * k < l.length by omega), List.getElem?_eq_getElem (show 3 * k + 1 < l.length by omega), List.getElem?_eq_getElem (show 3 * k + 2 < l.length by omega), Option.getD_some])
      have HEB := Lib.hid (encB_cons a b c (l.drop (3 * k + 3)))
      obtain ⟨d18, d12, d6, d0⟩ := digits3 ha6 hb6 hc6
      have hV := val3 ha6 hb6 hc6
      obtain ⟨V, hVe⟩ : ∃ V, a * 65536 + b * 256 + c = V := ⟨_, rfl⟩
      have hVl : V < 16777216 := by omega
      rw [hVe] at hV d18 d12 d6 d0
      have s18 := shr18 V hVl
      have s12 := shr12 V hVl
      have s6 := shr6 V hVl
      have s0 := and63 V hVl
      rw [d18] at s18
      rw [d12] at s12
      rw [d6] at s6
      rw [d0] at s0
      obtain ⟨x0, hx0⟩ : ∃ x, a / 4 = x := ⟨_, rfl⟩
      obtain ⟨x1, hx1⟩ : ∃ x, a % 4 * 16 + b / 16 = x := ⟨_, rfl⟩
      obtain ⟨x2, hx2⟩ : ∃ x, b % 16 * 4 + c / 64 = x := ⟨_, rfl⟩
      obtain ⟨x3, hx3⟩ : ∃ x, c % 64 = x := ⟨_, rfl⟩
      rw [hx0] at s18
      rw [hx1] at s12
      rw [hx2] at s6
      rw [hx3] at s0
      have l0 : x0 < 64 := by omega
      have l1 : x1 < 64 := by omega
      have l2 : x2 < 64 := by omega
      have l3 : x3 < 64 := by omega
      have HB4 : Hid (encB (l.drop (3 * k)) = lt x0 :: lt x1 :: lt x2 :: lt x3 :: encB (l.drop (3 * k + 3))) := Lib.hid (by rw [HDR.out, HEB.out, hx0, hx1, hx2, hx3])
      have g0 : wr.cell? ⟨be, x0, none⟩ = some (.int .u8 (lt x0 : Nat)) := by rw [HEW.out.cell (by omega)]; unfold encF; rw [if_pos l0]
      have g1 : wr.cell? ⟨be, x1, none⟩ = some (.int .u8 (lt x1 : Nat)) := by rw [HEW.out.cell (by omega)]; unfold encF; rw [if_pos l1]
      have g2 : wr.cell? ⟨be, x2, none⟩ = some (.int .u8 (lt x2 : Nat)) := by rw [HEW.out.cell (by omega)]; unfold encF; rw [if_pos l2]
      have g3 : wr.cell? ⟨be, x3, none⟩ = some (.int .u8 (lt x3 : Nat)) := by rw [HEW.out.cell (by omega)]; unfold encF; rw [if_pos l3]
      have wa : IntKind.u64.wrap (a : Int) = (a : Int) := by rw [Go.IntKind.wrap_u64]; omega
      have wb : IntKind.u64.wrap (b : Int) = (b : Int) := by rw [Go.IntKind.wrap_u64]; omega
      have wc : IntKind.u64.wrap (c : Int) = (c : Int) := by rw [Go.IntKind.wrap_u64]; omega
      have wa2 : IntKind.u64.wrap ((a : Int) * 65536) = (a : Int) * 65536 := by rw [Go.IntKind.wrap_u64]; omega
      have wb2 : IntKind.u64.wrap ((b : Int) * 256) = (b : Int) * 256 := by rw [Go.IntKind.wrap_u64]; omega
      clear ha hb hc hx0 hx1 hx2 hx3 d18 d12 d6 d0 hVe ha6 hb6 hc6
      have HM4 : Hid (4 * k + 4 ≤ N) := Lib.hid (by have := HMN.out; omega)
      have o0 := HROW.out.cell (i := 4 * k) (by have := HM4.out; omega)
      have o1 := HROW.out.cell (i := 4 * k + 1) (by have := HM4.out; omega)
      have o2 := HROW.out.cell (i := 4 * k + 2) (by have := HM4.out; omega)
      have o3 := HROW.out.cell (i := 4 * k + 3) (by have := HM4.out; omega)
      obtain ⟨y0, hy0⟩ : ∃ y, outF (encB l) (4 * k) (4 * k) = y := ⟨_, rfl⟩
      obtain ⟨y1, hy1⟩ : ∃ y, outF (encB l) (4 * k) (4 * k + 1) = y := ⟨_, rfl⟩
      obtain ⟨y2, hy2⟩ : ∃ y, outF (encB l) (4 * k) (4 * k + 2) = y := ⟨_, rfl⟩
      obtain ⟨y3, hy3⟩ : ∃ y, outF (encB l) (4 * k) (4 * k + 3) = y := ⟨_, rfl⟩
      rw [hy0] at o0
      rw [hy1] at o1
      rw [hy2] at o2
      rw [hy3] at o3
      clear hy0 hy1 hy2 hy3
      have f0 := HROW.out.frozen (4 * k)
      have f1 := HROW.out.frozen (4 * k + 1)
      have f2 := HROW.out.frozen (4 * k + 2)
      have f3 := HROW.out.frozen (4 * k + 3)
      have hbe2 := Ne.symm hbe
      have hbs2 := Ne.symm hbs
      go_wp2_with fail
      go_quiet (fail)
      clear wa wb wc wa2 wb2
      go_wp2_with fail
      refine ⟨?_, by simp [slen]; omega⟩
      have e4 : ∀ i x, (lt x0 :: lt x1 :: lt x2 :: lt x3 :: encB (l.drop (3 * k + 3)))[i]? = some x → (encB l)[4 * k + i]? = some x := fun i x h => by
        rw [encB_at k i l (by have := HRN.out; have := HLL.out; omega), HB4.out]; exact h
      refine LoopW.next HRN.out HRC.out HMN.out h3 hrrc h4 ?_ ?_
      · refine ((((World.rowIs.set (w := wr.drewN _) HROW.out (4 * k) _).set (4 * k + 1) _).set (4 * k + 2) _).set (4 * k + 3) _).congr fun j _ => ?_
        exact outF_step (e4 0 _ rfl) (e4 1 _ rfl) (e4 2 _ rfl) (e4 3 _ rfl)
      · exact gr_set (gr_set (gr_set (gr_set (gr_drewN HGR.out _) _ _) _ _) _ _) _ _
    · by_cases hr0 : r = 0
      · subst hr0
        have hend : Hid (4 * k = N) := Lib.hid (by have := HMN.out; have := HMR.out; have := HNN.out; have := HRN.out; omega)
        go_wp2_with fail
        go_returns
        exact ⟨rfl, by have := HROW.out; rwa [hend.out] at this, HGR.out⟩
      obtain rfl := hp (by have := HRN.out; omega)
      obtain rfl := hq (by have := HMN.out; have := HMR.out; omega)
      have HM4 : Hid (4 * k + 4 = N) := Lib.hid (by have := HMN.out; have := HMR.out; have := HRN.out; omega)
      obtain rfl : M = 4 := by have := HMR.out; omega
      have o0 := HROW.out.cell (i := 4 * k) (by have := HM4.out; omega)
      have o1 := HROW.out.cell (i := 4 * k + 1) (by have := HM4.out; omega)
      have o2 := HROW.out.cell (i := 4 * k + 2) (by have := HM4.out; omega)
      have o3 := HROW.out.cell (i := 4 * k + 3) (by have := HM4.out; omega)
      obtain ⟨y0, hy0⟩ : ∃ y, outF (encB l) (4 * k) (4 * k) = y := ⟨_, rfl⟩
      obtain ⟨y1, hy1⟩ : ∃ y, outF (encB l) (4 * k) (4 * k + 1) = y := ⟨_, rfl⟩
      obtain ⟨y2, hy2⟩ : ∃ y, outF (encB l) (4 * k) (4 * k + 2) = y := ⟨_, rfl⟩
      obtain ⟨y3, hy3⟩ : ∃ y, outF (encB l) (4 * k) (4 * k + 3) = y := ⟨_, rfl⟩
      rw [hy0] at o0
      rw [hy1] at o1
      rw [hy2] at o2
      rw [hy3] at o3
      clear hy0 hy1 hy2 hy3
      have f0 := HROW.out.frozen (4 * k)
      have f1 := HROW.out.frozen (4 * k + 1)
      have f2 := HROW.out.frozen (4 * k + 2)
      have f3 := HROW.out.frozen (4 * k + 3)
      have hbe2 := Ne.symm hbe
      have hbs2 := Ne.symm hbs
      have gp := HEW.out.cell (i := 320) (by decide)
      rw [show encF 64 61 320 = .int .i32 61 by rfl] at gp
      obtain ⟨a, ha⟩ : ∃ a, l.getD (3 * k) 0 = a := ⟨_, rfl⟩
      have c0 := HSW.out (3 * k) (by have := HRN.out; omega)
      rw [ha] at c0
      have ha6 : a < 256 := by rw [← ha]; exact H256.out _ (by rw [List.getD, List.getElem?_eq_getElem (by have := HRN.out; have := HLL.out; omega)]; exact List.getElem_mem _)
      by_cases hr1 : r = 1
      · subst hr1
        have HB4 : Hid (encB (l.drop (3 * k)) = [lt (a / 4), lt (a % 4 * 16), 61, 61]) := Lib.hid (by
          rw [← encB_1]
          congr 1
          have e := HRN.out
          have e2 := HLL.out
          rw [List.drop_eq_getElem_cons (by omega), List.drop_of_length_le (by omega), ← ha]
          simp only [List.getD, List.getElem?_eq_getElem (show 3 * k < l.length by omega), Option.getD_some])
        obtain ⟨V, hVe⟩ : ∃ V, a * 65536 = V := ⟨_, rfl⟩
        have hV1 : (a : Int) * 65536 = (V : Int) := by omega
        have hVl : V < 16777216 := by omega
        have s18 := shr18 V hVl
        have s12 := shr12 V hVl
        rw [show V / 262144 % 64 = a / 4 by omega] at s18
        rw [show V / 4096 % 64 = a % 4 * 16 by omega] at s12
        obtain ⟨x0, hx0⟩ : ∃ x, a / 4 = x := ⟨_, rfl⟩
        obtain ⟨x1, hx1⟩ : ∃ x, a % 4 * 16 = x := ⟨_, rfl⟩
        rw [hx0] at s18
        rw [hx1] at s12
        rw [hx0, hx1] at HB4
        have l0 : x0 < 64 := by omega
        have l1 : x1 < 64 := by omega
        have g0 : wr.cell? ⟨be, x0, none⟩ = some (.int .u8 (lt x0 : Nat)) := by rw [HEW.out.cell (by omega)]; unfold encF; rw [if_pos l0]
        have g1 : wr.cell? ⟨be, x1, none⟩ = some (.int .u8 (lt x1 : Nat)) := by rw [HEW.out.cell (by omega)]; unfold encF; rw [if_pos l1]
        have HA6 := Lib.hid ha6
        clear ha hx0 hx1 hVe hr0 h3
        go_wp2_with fail
        go_returns
        have e4 : ∀ i x, [lt x0, lt x1, 61, 61][i]? = some x → (encB l)[4 * k + i]? = some x := fun i x h => by
          rw [encB_at k i l (by have := HRN.out; have := HLL.out; omega), HB4.out]; exact h
        refine ⟨rfl, ?_, gr_set (gr_set (gr_set (gr_set HGR.out _ _) _ _) _ _) _ _⟩
        refine ((((World.rowIs.set HROW.out (4 * k) _).set (4 * k + 1) _).set (4 * k + 2) _).set (4 * k + 3) _).congr fun j _ => ?_
        rw [← HM4.out]
        exact outF_step (e4 0 _ rfl) (e4 1 _ rfl) (e4 2 _ rfl) (e4 3 _ rfl)
      · obtain rfl : r = 2 := by omega
        obtain ⟨b, hb⟩ : ∃ b, l.getD (3 * k + 1) 0 = b := ⟨_, rfl⟩
        have c1 := HSW.out (3 * k + 1) (by have := HRN.out; omega)
        rw [hb, ← Nat.add_assoc] at c1
        have hb6 : b < 256 := by rw [← hb]; exact H256.out _ (by rw [List.getD, List.getElem?_eq_getElem (by have := HRN.out; have := HLL.out; omega)]; exact List.getElem_mem _)
        have HB4 : Hid (encB (l.drop (3 * k)) = [lt (a / 4), lt (a % 4 * 16 + b / 16), lt (b % 16 * 4), 61]) := Lib.hid (by
          rw [← encB_2]
          congr 1
          have e := HRN.out
          have e2 := HLL.out
          rw [List.drop_eq_getElem_cons (by omega), List.drop_eq_getElem_cons (by omega), List.drop_of_length_le (by omega), ← ha, ← hb]
          simp only [List.getD, List.getElem?_eq_getElem (show 3 * k < l.length by omega), List.getElem?_eq_getElem (show 3 * k + 1 < l.length by omega), Option.getD_some])
        have hV := val2 ha6 hb6
        obtain ⟨V, hVe⟩ : ∃ V, a * 65536 + b * 256 = V := ⟨_, rfl⟩
        have hVl : V < 16777216 := by omega
        rw [hVe] at hV
        have s18 := shr18 V hVl
        have s12 := shr12 V hVl
        have s6 := shr6 V hVl
        rw [show V / 262144 % 64 = a / 4 by omega] at s18
        rw [show V / 4096 % 64 = a % 4 * 16 + b / 16 by omega] at s12
        rw [show V / 64 % 64 = b % 16 * 4 by omega] at s6
        obtain ⟨x0, hx0⟩ : ∃ x, a / 4 = x := ⟨_, rfl⟩
        obtain ⟨x1, hx1⟩ : ∃ x, a % 4 * 16 + b / 16 = x := ⟨_, rfl⟩
        obtain ⟨x2, hx2⟩ : ∃ x, b % 16 * 4 = x := ⟨_, rfl⟩
        rw [hx0] at s18
        rw [hx1] at s12
        rw [hx2] at s6
        rw [hx0, hx1, hx2] at HB4
        have l0 : x0 < 64 := by omega
        have l1 : x1 < 64 := by omega
        have l2 : x2 < 64 := by omega
        have g0 : wr.cell? ⟨be, x0, none⟩ = some (.int .u8 (lt x0 : Nat)) := by rw [HEW.out.cell (by omega)]; unfold encF; rw [if_pos l0]
        have g1 : wr.cell? ⟨be, x1, none⟩ = some (.int .u8 (lt x1 : Nat)) := by rw [HEW.out.cell (by omega)]; unfold encF; rw [if_pos l1]
        have g2 : wr.cell? ⟨be, x2, none⟩ = some (.int .u8 (lt x2 : Nat)) := by rw [HEW.out.cell (by omega)]; unfold encF; rw [if_pos l2]
        have wa : IntKind.u64.wrap (a : Int) = (a : Int) := by rw [Go.IntKind.wrap_u64]; omega
        have wb : IntKind.u64.wrap (b : Int) = (b : Int) := by rw [Go.IntKind.wrap_u64]; omega
        have wa2 : IntKind.u64.wrap ((a : Int) * 65536) = (a : Int) * 65536 := by rw [Go.IntKind.wrap_u64]; omega
        have wb2 : IntKind.u64.wrap ((b : Int) * 256) = (b : Int) * 256 := by rw [Go.IntKind.wrap_u64]; omega
        clear ha hb hx0 hx1 hx2 hVe hr0 hr1 h3 ha6 hb6
        go_wp2_with fail
        go_quiet (fail)
        clear wa wb wa2 wb2
        go_wp2_with fail
        go_returns
        have e4 : ∀ i x, [lt x0, lt x1, lt x2, 61][i]? = some x → (encB l)[4 * k + i]? = some x := fun i x h => by
          rw [encB_at k i l (by have := HRN.out; have := HLL.out; omega), HB4.out]; exact h
        refine ⟨rfl, ?_, gr_set (gr_set (gr_set (gr_set (gr_drewN HGR.out _) _ _) _ _) _ _) _ _⟩
        refine ((((World.rowIs.set (w := wr.drewN _) HROW.out (4 * k) _).set (4 * k + 1) _).set (4 * k + 2) _).set (4 * k + 3) _).congr fun j _ => ?_
        rw [← HM4.out]
        exact outF_step (e4 0 _ rfl) (e4 1 _ rfl) (e4 2 _ rfl) (e4 3 _ rfl)
end Go.Proofs.YtgjmgneppecfgaaGreatDoor.Ba
/-
  THE WALKS of EncodeToString, and of @base64 at a text.
-/
namespace Go.Proofs.YtgjmgneppecfgaaGreatDoor.Ba
open Go.RowKit Go.Proofs.YtgjmgneppecfgaaGreatDoor.Va
set_option linter.unusedVariables false
set_option linter.unusedSimpArgs false

/-- numbers as a text -/
def numS (l : List Nat) : ByteArray := strOfNums (l.map fun x : Nat => (x : Int))
def StrEnd (s : ByteArray) (w : World) (e : Ending) (w' : World) : Prop := e = .returned (.string s) ∧ Below w.heap.size w w'
theorem info8 : (Tryz.prog.info? 5).map (fun i => (i.zero, i.size, i.bytes)) = some (some (.int .u8 0), 1, 1) := by kernel_rfl

def Done (w : World) (e : Ending) (w' : World) : Prop := e = .returned (.tuple #[]) ∧ w = w'
set_option maxRecDepth 100000 in
theorem enc_none (p d : Value) (a : Option Addr) (c : Nat) (w : World) : Calls Tryz.prog 189 #[p, d, .slice a 0 c] w (Done w) := by
  go_enter Tryz.func189, Tryz.ntmps189
  go_wp2_with fail
  go_returns
  exact ⟨rfl, rfl⟩

set_option maxHeartbeats 1000000 in
set_option maxRecDepth 100000 in
theorem encS_any (be sb so n sc : Nat) (l : List Nat) (hl : l.length = n) (h256 : ∀ x ∈ l, x < 256) (hn : n ≤ 2147483647) (hsc : n ≤ sc) (hsc2 : sc ≤ 9223372036854775807) (w : World)
    (he : w.rowIs be 197 322 (encF 64 61)) (hs : ∀ i, i < n → w.cell? ⟨sb, so + i, none⟩ = some (.int .u8 ((l.getD i 0 : Nat) : Int))) (hslt : sb < w.heap.size) :
    Calls Tryz.prog 157 #[.pointer (some ⟨be, 0, none⟩), .slice (some ⟨sb, so, none⟩) n sc] w (StrEnd (numS (encB l)) w) := by
  have hmk := run_make_row' (P := Tryz.prog) 73 5 (.int .u8 0) 1 Tryz.underlying73 info8 rfl .i64 .i64 ((n + 2) / 3 * 4) (by omega) (by omega)
  have HMK := Lib.hid hmk
  have HEN := Lib.hid (encLen_any be n w he hn)
  have HE := Lib.hid he
  have HSR := Lib.hid hs
  have HLL := Lib.hid hl
  have H256 := Lib.hid h256
  have HNN : Hid ((encB l).length = (n + 2) / 3 * 4) := Lib.hid (by rw [encB_len, hl])
  clear hmk he hs hl h256
  obtain ⟨N, hN⟩ : ∃ N, (n + 2) / 3 * 4 = N := ⟨_, rfl⟩
  rw [hN] at HMK HEN HNN
  have HNV := Lib.hid hN
  clear hN
  go_enter Tryz.func157, Tryz.ntmps157
  go_wp2_with fail
  refine HEN.out.mono ?_
  rintro e w1 ⟨rfl, rfl⟩
  have hmk := HMK.out
  go_upto_region 2 with fail
  clear hmk
  generalize hW : World.alloc w _ = W
  have HD : Hid (W.rowIs w.heap.size 5 N (fun _ => .int .u8 0)) := Lib.hid (hW ▸ World.rowIs_made w (.int .u8 0) N 5)
  have BW := Lib.hid (hW ▸ below_alloc w _ : Below w.heap.size w W)
  clear hW HMK HEN
  by_cases h0 : n = 0
  · subst h0
    obtain rfl : N = 0 := by have := HNV.out; omega
    obtain rfl : l = [] := List.eq_nil_of_length_eq_zero HLL.out
    have g := run_convert_bytes_arg (P := Tryz.prog) W 73 5 Tryz.underlying73 Tryz.underlying5 w.heap.size 0 0 0 [] rfl (fun i hi => absurd hi (by omega)) 9 Tryz.underlying9
    go_wp2_with fail
    refine (enc_none _ _ _ _ W).mono ?_
    rintro e w2 ⟨rfl, rfl⟩
    go_wp2_with fail
    go_returns
    exact ⟨rfl, BW.out⟩
  · go_wp2_with fail
    refine (enc_any be sb w.heap.size so n N sc l HLL.out H256.out HNV.out.symm hn (by omega) hsc hsc2 W (HE.out.of_block (BW.out.block be HE.out.lt)) (fun i hi => (BW.out.cell (by exact hslt)).trans (HSR.out i hi)) HD.out (by have := HE.out.lt; omega) (by omega) (Nat.lt_of_lt_of_le hslt BW.out.size)).mono ?_
    rintro e w2 ⟨rfl, hrow, hgr⟩
    have g := run_convert_bytes_arg (P := Tryz.prog) w2 73 5 Tryz.underlying73 Tryz.underlying5 w.heap.size 0 N N ((encB l).map fun x : Nat => (x : Int)) (by rw [List.length_map]; exact HNN.out)
      (fun i hi => by
        rw [Nat.zero_add, hrow.cell hi]
        unfold outF
        rw [if_pos hi]
        simp [List.getD, List.getElem?_eq_getElem (show i < (encB l).length by rw [HNN.out]; exact hi)]) 9 Tryz.underlying9
    have B2 : Hid (Below w.heap.size w w2) := Lib.hid (BW.out.grown hgr BW.out.size (fun k e => by obtain rfl := Option.some.inj e; exact Nat.le_refl _))
    clear hrow hgr
    go_wp2_with fail
    go_returns
    exact ⟨rfl, B2.out⟩

def IfStr (s : ByteArray) (w : World) (e : Ending) (w' : World) : Prop := e = .returned (.iface 9 (.string s)) ∧ Below w.heap.size w w'
theorem toStr_str (s : ByteArray) (w : World) : Calls Tryz.prog 155 #[.iface 9 (.string s)] w (IfStr s w) := by
  go_enter Tryz.func155, Tryz.ntmps155
  go_wp2_with fail
  go_returns
  exact ⟨rfl, Below.refl _ _⟩
/-- a text's bytes -/
def bytesN (s : ByteArray) : List Nat := s.data.toList.map (·.toNat)
theorem bytesN_len (s : ByteArray) : (bytesN s).length = s.size := by
  unfold bytesN
  rw [List.length_map, ← Lib.size_eq]
theorem bytesN_lt (s : ByteArray) : ∀ x ∈ bytesN s, x < 256 := by
  intro x hx
  obtain ⟨b, _, rfl⟩ := List.mem_map.1 hx
  exact b.toNat_lt
theorem below_bytes (w : World) (t : TypeId) (s : ByteArray) : Below w.heap.size w (Lib.bytesWorld w t s) :=
  ⟨rfl, rfl, rfl, by rw [Lib.bytesWorld_size]; omega, fun k hk => Lib.bytesWorld_at_old w t s k hk⟩
theorem bytesN_at (s : ByteArray) (i : Nat) (hi : i < s.size) : (((s.data.toList.getD i 0).toNat : Nat) : Int) = (((bytesN s).getD i 0 : Nat) : Int) := by
  have hl : i < s.data.toList.length := by rw [← Lib.size_eq]; exact hi
  unfold bytesN
  simp [List.getD, List.getElem?_map, List.getElem?_eq_getElem hl]

set_option maxHeartbeats 1000000 in
set_option maxRecDepth 100000 in
theorem toB64_any (s : ByteArray) (hs : s.size ≤ 2147483647) (w : World) : Calls Tryz.prog 103 #[.iface 9 (.string s)] w (IfStr (numS (encB (bytesN s))) w) := by
  go_enter Tryz.func103, Tryz.ntmps103
  go_wp2_with fail
  refine (toStr_str s w).mono ?_
  rintro e w1 ⟨rfl, hb1⟩
  have B1 := Lib.hid hb1
  clear hb1
  go_wp2_with fail
  refine (new_any w1).mono ?_
  rintro e w2 ⟨rfl, hb2, hr2⟩
  have B2 := Lib.hid (B1.out.trans (hb2.mono B1.out.size))
  have HR := Lib.hid hr2
  have HW1 := Lib.hid hr2.lt
  clear hb2 hr2
  have hcv := Lib.run_convert_string_bytes (P := Tryz.prog) w2 9 73 5 s Tryz.underlying9 Tryz.underlying73 Tryz.underlying5
  obtain ⟨cap, hcap⟩ : ∃ cap, grownCap w2 s.size 0 5 = cap := ⟨_, rfl⟩
  have hge := grownCap_ge w2 s.size 0 5
  have hle := grownCap_le_maxLen w2 s.size 0 5 (by unfold maxLen; omega)
  rw [hcap] at hcv hge hle
  unfold maxLen at hle
  clear hcap
  go_wp2_with fail
  clear hcv
  refine (encS_any w1.heap.size w2.heap.size 0 s.size cap (bytesN s) (bytesN_len s) (bytesN_lt s) hs hge hle _ (HR.out.of_block (Lib.bytesWorld_at_old _ _ _ _ HW1.out)) (fun i hi => ?_) (by rw [Lib.bytesWorld_size]; omega)).mono ?_
  · rw [Nat.zero_add, Lib.bytesWorld_cell w2 5 s i hi, bytesN_at s i hi]
  rintro e w3 ⟨rfl, hb3⟩
  have B3 := Lib.hid (B2.out.trans (((below_bytes w2 5 s).trans (hb3.mono (below_bytes w2 5 s).size)).mono B2.out.size))
  clear hb3
  go_wp2_with fail
  go_returns
  exact ⟨rfl, B3.out⟩
end Go.Proofs.YtgjmgneppecfgaaGreatDoor.Ba
