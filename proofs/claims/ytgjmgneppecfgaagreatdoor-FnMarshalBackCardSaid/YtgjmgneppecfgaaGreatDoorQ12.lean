/-
  THE WALK of decimal.half.
-/
import Derived.Test.YtgjmgneppecfgaaGreatDoorQ08
import Derived.Laws.BitsAllLaws
import Derived.Test.YtgjmgneppecfgaaGreatDoorQ10
import Derived.Test.YtgjmgneppecfgaaGreatDoorQ01
set_option linter.unusedVariables false
set_option linter.unusedSimpArgs false
namespace Go.Proofs.YtgjmgneppecfgaaGreatDoor.Ma
open Go.RowKit Go.Proofs.YtgjmgneppecfgaaGreatDoor.Va Go.Proofs.YtgjmgneppecfgaaGreatDoor.Ba
set_option linter.unusedVariables false
set_option linter.unusedSimpArgs false

/-- the second loop: what stands in the world -/
def H2W (base : Nat) (b : Nat) (a : Option Addr) (n cap : Nat) (dq : Int) (out : List Nat) (ov : Value) (w wr : World) : Prop :=
  w.grownBy wr (some b) ∧ wr.heap[b]? = some (.cells #[.slice a n cap, .int .i64 dq] 267 (0, 0)) ∧ wr.ownsRow base 5 1 ov out.length (cellsD out)
/-- .. and what it computes -/
def H2P (d : List Nat) (k i0 i X : Nat) (out : List Nat) : Prop :=
  preD d i = numD out * 2 ^ k * 10 + X ∧ X < 10 * 2 ^ k ∧ Left d k i X ∧ i = i0 + out.length ∧ (∀ x ∈ out, x < 10) ∧ ((out = [] ∧ 2 ^ k ≤ X) ∨ (0 < out.length ∧ out.getD 0 0 ≠ 0)) ∧ i ≤ d.length + k + 1
def LoopH2 (base b : Nat) (a : Option Addr) (n cap : Nat) (d : List Nat) (dq : Int) (k i0 : Nat) (w : World) (nv iv ov : Value) (wr : World) : Prop :=
  ∃ (i X : Nat) (out : List Nat), nv = .int .u64 (X : Int) ∧ iv = .int .i64 (i : Int) ∧ H2P d k i0 i X out ∧ H2W base b a n cap dq out ov w wr
theorem H2P.next {d : List Nat} {k i0 i X : Nat} {out : List Nat} (h : H2P d k i0 i X out) (hd : ∀ x ∈ d, x < 10) (hn : i < d.length ∨ 0 < X) : H2P d k i0 (i + 1) (X % 2 ^ k * 10 + d.getD i 0) (out ++ [X / 2 ^ k]) := by
  obtain ⟨h1, h2, h3, h4, h5, h6, h8⟩ := h
  have hq : 0 < 2 ^ k := Nat.pow_pos (by decide)
  have hy : X / 2 ^ k < 10 := by rw [Nat.div_lt_iff_lt_mul hq]; exact h2
  have h9 := getD_all hd i
  have hm := Nat.mod_lt X hq
  refine ⟨half_round h1, by omega, h3.next hn, by rw [List.length_append, h4]; rfl, fun x hx => ?_, .inr ⟨by simp, ?_⟩, ?_⟩
  · rcases List.mem_append.1 hx with q | q
    · exact h5 x q
    · rw [List.mem_singleton] at q; omega
  · rcases h6 with ⟨rfl, h6⟩ | ⟨h6, h7⟩
    · have : 0 < X / 2 ^ k := Nat.div_pos h6 hq
      simp
      omega
    · rw [getD_app_left h6]; exact h7
  · by_cases hl : i < d.length
    · omega
    · rcases h3 (by omega) with q | q <;> omega
theorem H2W.next {b n cap : Nat} {a : Option Addr} {dq : Int} {out : List Nat} {ov v' : Value} {w wr w3 : World} {o : Obj} {x : Nat} (h : H2W w.heap.size b a n cap dq out ov w wr) (hb : b < w.heap.size)
    (hap : Appended (wr.alloc o) w.heap.size 5 1 ov out.length (cellsD out ++ [.int .u8 (x : Int)]) v' w3) : H2W w.heap.size b a n cap dq (out ++ [x]) v' w w3 := by
  obtain ⟨h1, h2, h3⟩ := h
  have hk : ∀ k, k < w.heap.size → w3.heap[k]? = wr.heap[k]? := fun k hk => by
    have hlt : k < (wr.alloc o).heap.size := by rw [World.size_alloc]; have := h1.size; omega
    rw [hap.grown.block k hlt (fun e => by have := owns_block h3 k (by rw [e]); omega)]
    exact (below_alloc wr o).block k (by have := h1.size; omega)
  refine ⟨⟨hap.grown.os.trans h1.os, hap.grown.tape.trans h1.tape, hap.grown.output.trans h1.output, ?_, fun k hkk hne => (hk k hkk).trans (h1.block k hkk hne)⟩, (hk b hb).trans h2, ?_⟩
  · have := hap.grown.size
    rw [World.size_alloc] at this
    have := h1.size
    omega
  · have := hap.owns
    rw [List.length_append, List.length_singleton]
    have e : cellsD (out ++ [x]) = cellsD out ++ [.int .u8 (x : Int)] := by simp [cellsD]
    rw [e]
    exact this
theorem mask_pow {k q X : Nat} (hq : 2 ^ k = q) (h : q ≤ 36028797018963968) (hX : X < 18446744073709551616) : bits .and .u64 (X : Int) (IntKind.u64.wrap (IntKind.u64.wrap (2 ^ k) - 1)) = ((X % q : Nat) : Int) := by
  have hq1 : 0 < q := hq ▸ Nat.pow_pos (by decide)
  have e1 : ((2 : Int) ^ k) = ((q : Nat) : Int) := by rw [← hq]; push_cast; rfl
  rw [e1, wrap_pos (q : Int) (by omega) (by omega), wrap_pos _ (by omega) (by omega), show ((q : Int) - 1) = ((q - 1 : Nat) : Int) by omega, u64_and_nat _ _ hX (by omega), ← hq, Nat.and_two_pow_sub_one_eq_mod]
def HalfEnd (b k : Nat) (d : List Nat) (dp : Int) (w : World) (e : Ending) (w' : World) : Prop :=
  e = .returned (.tuple #[]) ∧ IsDec w.heap.size b (canD (numD d * 5 ^ k)) (dp + (dg (numD d * 5 ^ k)).length - d.length - k) w' ∧ w.grownBy w' (some b)
theorem H2W.fin {b n cap : Nat} {a : Option Addr} {dq : Int} {out : List Nat} {ov : Value} {w wr : World} (h : H2W w.heap.size b a n cap dq out ov w wr) (hb : b < w.heap.size) : IsDec w.heap.size b out dq (wr.setCell ⟨b, 0, none⟩ ov) := by
  obtain ⟨h1, h2, h3⟩ := h
  have hne : ov.ownBlock ≠ some b := fun e => by have := owns_block h3 b e; omega
  refine ⟨ov, set_block (w := wr) (b := b) h2 0 ov, owns_other h3 fun g hg => set_other _ _ (fun e => hne (by rw [hg, e])), hne⟩
def LoopH1 (d : List Nat) (k : Nat) (w : World) (nv iv : Value) (wr : World) : Prop :=
  ∃ i : Nat, w = wr ∧ nv = .int .u64 ((preD d i : Nat) : Int) ∧ iv = .int .i64 (i : Int) ∧ preD d i < 10 * 2 ^ k ∧ i ≤ preD d i
theorem pre_grow {d : List Nat} (h0 : d.getD 0 0 ≠ 0) {i : Nat} (h : i ≤ preD d i) : i + 1 ≤ preD d (i + 1) := by
  rw [preD]
  by_cases hi : i = 0
  · subst hi; omega
  · omega
set_option maxHeartbeats 2000000 in
set_option maxRecDepth 100000 in
theorem half_any (base b k : Nat) (d : List Nat) (dp : Int) (hk : k ≤ 55) (hd : 0 < d.length) (h0 : d.getD 0 0 ≠ 0) (hd9 : ∀ x ∈ d, x < 10) (hd2 : d.length ≤ 100) (hdp0 : -1000 ≤ dp) (hdp1 : dp ≤ 1000) (w : World) (h : IsDec base b d dp w) : Calls Tryz.prog 282 #[.pointer (some ⟨b, 0, none⟩), .int .i64 (k : Int)] w (HalfEnd b k d dp w) := by
  obtain ⟨i8, z8, hi0, hi1, hi2, hi3, hi4⟩ := info8g
  have HI0 := Lib.hid hi0
  have HI1 := Lib.hid hi1
  have HI2 := Lib.hid hi2
  have HI3 := Lib.hid hi3
  have HI4 := Lib.hid hi4
  clear hi0 hi1 hi2 hi3 hi4
  have H := Lib.hid h
  have HD9 := Lib.hid hd9
  have H0 := Lib.hid h0
  have HK := Lib.hid hk
  clear h hd9 h0
  obtain ⟨q, hq⟩ : ∃ q : Nat, 2 ^ k = q := ⟨_, rfl⟩
  have hq1 : 0 < q := hq ▸ Nat.pow_pos (by decide)
  have hq2 : q ≤ 36028797018963968 := hq ▸ Nat.le_trans (Nat.pow_le_pow_right (by decide) hk) (by decide)
  have HQ := Lib.hid hq
  clear hq
  go_enter Tryz.func282, Tryz.ntmps282
  go_wp2_with fail
  go_loopw [4, 5] (LoopH1 d k w) (fun n _ _ => 10 * q - (intOf n).toNat)
  case atStart => exact ⟨0, rfl, rfl, rfl, Nat.mul_pos (by decide) (Nat.pow_pos (by decide)), Nat.zero_le _⟩
  case round =>
    obtain ⟨i, rfl, rfl, rfl, hlt, hgr⟩ := hrel
    rw [HQ.out] at hlt
    obtain ⟨v, h1, h2, h3⟩ := H.out
    obtain ⟨a, cap, rfl, _, hdg⟩ := owns_digs h2
    have c := cells2 h1
    have HNX := Lib.hid (pre_grow H0.out hgr)
    obtain ⟨X, hX⟩ : ∃ X, preD d i = X := ⟨_, rfl⟩
    have HX := Lib.hid hX
    have HDG := Lib.hid hdg
    obtain ⟨n, hn⟩ : ∃ n, d.length = n := ⟨_, rfl⟩
    have HN := Lib.hid hn
    rw [hX] at hlt hgr ⊢
    rw [hn] at c hd
    have H1 := Lib.hid h1
    have H2 := Lib.hid h2
    have H3 := Lib.hid h3
    clear h1 h2 h3 hdg hX hn
    have hdX : (X : Int) / 2 ^ k = ((X / q : Nat) : Int) := by rw [← HQ.out]; push_cast; rfl
    by_cases hz : X < q
    · have hz0 : (((X / q : Nat) : Int) == 0) = true := by rw [Nat.div_eq_of_lt hz]; rfl
      have hdi := getD_all HD9.out i
      have HP : Hid (preD d (i + 1) = 10 * X + d.getD i 0) := Lib.hid (by rw [preD, HX.out])
      by_cases hin : i < n
      · obtain ⟨g, rfl, hbg, hg, hcap, hmax, hcell⟩ : ∃ g, a = some ⟨g, 0, none⟩ ∧ base ≤ g ∧ g < w.heap.size ∧ d.length ≤ cap ∧ cap ≤ maxLen ∧ ∀ i, i < d.length → w.cell? ⟨g, i, none⟩ = some (.int .u8 ((d.getD i 0 : Nat) : Int)) := by
          rcases HDG.out with e | e
          · have := HN.out; rw [e] at this; simp at this; omega
          · exact e
        have hx := hcell i (by rw [HN.out]; exact hin)
        rw [HN.out] at hcap
        clear hcell
        obtain ⟨x, hx0⟩ : ∃ x, d.getD i 0 = x := ⟨_, rfl⟩
        rw [hx0] at hx hdi HP
        clear hx0
        go_wp2_with fail
        go_roundw
        case rel => exact ⟨i + 1, rfl, by rw [HP.out]; push_cast; rw [Int.mul_comm], rfl, by rw [HP.out, HQ.out]; omega, HNX.out⟩
        case measure =>
          have := HNX.out
          rw [HP.out] at this
          simp [intOf]
          omega
      · have hx1 : ((X : Int) == 0) = false := by simp; omega
        have hdi0 : d.getD i 0 = 0 := by rw [List.getD, List.getElem?_eq_none (by rw [HN.out]; omega)]; rfl
        rw [hdi0] at HP
        clear hdi0
        go_wp2_with fail
        go_roundw
        case rel => exact ⟨i + 1, rfl, by rw [HP.out, Nat.add_zero]; push_cast; rw [Int.mul_comm], rfl, by rw [HP.out, HQ.out]; omega, HNX.out⟩
        case measure =>
          have := HNX.out
          rw [HP.out] at this
          simp [intOf]
          omega
    · have hz0 : (((X / q : Nat) : Int) == 0) = false := by
        have : X / q ≠ 0 := by rw [Nat.div_ne_zero_iff]; omega
        simp; omega
      have hi0 : i ≤ 10 * q := by omega
      have HST := Lib.hid (left_start (d := d) (k := k) (i := i) (numD_pos (by rw [HN.out]; exact hd) H0.out) (by rw [HX.out, HQ.out]; exact hlt))
      have HG : Hid (i ≤ X ∧ X < 10 * q ∧ q ≤ X) := Lib.hid ⟨hgr, hlt, by omega⟩
      go_wp2_with fail
      generalize hW : World.setCell _ _ _ = W
      have HW : Hid (H2W w.heap.size b a n cap (dp - (i - 1)) [] (.slice none 0 0) w W) := Lib.hid (by
        rw [← hW]
        refine ⟨gr_set ⟨rfl, rfl, rfl, Nat.le_refl _, fun _ _ _ => rfl⟩ _ _, ?_, rfl, .inl ⟨rfl, rfl⟩⟩
        have := set_block (w := w) (b := b) (by have := H1.out; rw [HN.out] at this; exact this) 1 (.int .i64 (dp - (i - 1)))
        exact this)
      clear hW hlt hgr hdX hz0 hz c
      go_loopw [4, 5, 6] (LoopH2 w.heap.size b a n cap d (dp - (i - 1)) k i w) (fun _ i _ _ => n + k + 2 - (intOf i).toNat)
      case atStart => 
        refine ⟨i, X, [], rfl, rfl, ⟨by rw [HX.out]; simp [numD], by rw [HQ.out]; exact HG.out.2.1, by have := HST.out; rwa [HX.out] at this, rfl, by simp, .inl ⟨rfl, by rw [HQ.out]; exact HG.out.2.2⟩, ?_⟩, HW.out⟩
        by_cases hl : i < d.length
        · omega
        · have hh := HST.out (by omega)
          have := HG.out
          rw [HX.out] at hh
          rcases hh with q | q <;> omega
      case round =>
        obtain ⟨i', X', out, rfl, rfl, hp, hw⟩ := hrel
        have HPP := Lib.hid hp
        have HWW := Lib.hid hw
        obtain ⟨g1, g2, g3⟩ := hw
        have hbw := heap_lt H1.out
        have hsz := g1.size
        have c := cells2 g2
        have HG1 := Lib.hid g1
        obtain ⟨oa, ocap, rfl, holen, _⟩ := owns_digs g3
        have hXlt : X' < 10 * q := by have := hp.2.1; rwa [HQ.out] at this
        have HXL := Lib.hid hXlt
        obtain ⟨y, hy⟩ : ∃ y, X' / q = y := ⟨_, rfl⟩
        obtain ⟨z, hz⟩ : ∃ z, X' % q = z := ⟨_, rfl⟩
        have hdX : (X' : Int) / 2 ^ k = (y : Int) := by rw [← hy, ← HQ.out]; push_cast; rfl
        have hbits : bits .and .u64 (X' : Int) (IntKind.u64.wrap (IntKind.u64.wrap (2 ^ k) - 1)) = (z : Int) := by rw [mask_pow HQ.out hq2 (by omega), hz]
        have hy9 : y < 10 := by rw [← hy, Nat.div_lt_iff_lt_mul hq1]; exact hXlt
        have hz9 : z < q := by rw [← hz]; exact Nat.mod_lt _ hq1
        have HY := Lib.hid hy
        have HZ := Lib.hid hz
        have hdi := getD_all HD9.out i'
        have hil : i' ≤ 10 * q + out.length := by have := hp.2.2.2.1; have := HG.out; omega
        obtain ⟨m, hm⟩ : ∃ m, out.length = m := ⟨_, rfl⟩
        have HM := Lib.hid hm
        have HPOS : Hid (i + m = i') := Lib.hid (by have := hp.2.2.2.1; omega)
        have HLEFT := Lib.hid hp.2.2.1
        rw [hm] at holen hil g3 ⊢
        have HOWN := Lib.hid g3
        have HONE : Hid (∀ u ∈ (#[Value.int .u8 (y : Int)] : Array Value).toList, u.oneCell' = true) := Lib.hid (by
          intro u hu
          have e : u = .int .u8 (y : Int) := by simpa using hu
          rw [e]
          rfl)
        clear g1 g2 g3 hy hz hm hp
        by_cases hin : i' < n
        · obtain ⟨g, rfl, hbg, hg, hcap, hmax, hcell⟩ : ∃ g, a = some ⟨g, 0, none⟩ ∧ base ≤ g ∧ g < w.heap.size ∧ d.length ≤ cap ∧ cap ≤ maxLen ∧ ∀ i, i < d.length → w.cell? ⟨g, i, none⟩ = some (.int .u8 ((d.getD i 0 : Nat) : Int)) := by
            rcases HDG.out with e | e
            · have := HN.out; rw [e] at this; simp at this; omega
            · exact e
          have hgb : g ≠ b := fun e => H3.out (by simp [Value.ownBlock, e])
          have HCX : Hid (∀ W : World, w.grownBy W (some b) → W.cell? ⟨g, i', none⟩ = some (.int .u8 ((d.getD i' 0 : Nat) : Int))) := Lib.hid (fun W hW => (World.cell?_of_block (by exact hW.block g hg (by simpa using hgb))).trans (hcell i' (by rw [HN.out]; exact hin)))
          rw [HN.out] at hcap
          clear hcell
          obtain ⟨x, hx0⟩ : ∃ x, d.getD i' 0 = x := ⟨_, rfl⟩
          have HX0 := Lib.hid hx0
          rw [hx0] at HCX hdi
          clear hx0
          have hm9 : m ≤ 300 := by have := HPOS.out; have := HN.out; omega
          go_wp2_with (at_builtin; refine wpList_append_one _ rfl _ _ 73 rfl w.heap.size 5 i8 _ 1 1 Tryz.underlying73 HI0.out HI1.out HI2.out HI3.out HI4.out (by decide) _ _ (cellsD out) rfl (HOWN.out.alloc _) ⟨wr.heap.size, 0, none⟩ 1 _ rfl rfl (cell_new wr _ _) HONE.out (by unfold maxLen; omega) (by omega) (by simp; omega) ?_; intro v' w3 hap
                       have F := Lib.hid (HWW.out.next (x := y) hbw (by rw [HM.out]; exact hap))
                       obtain ⟨vg, vcap, rfl⟩ := hap.made
                       clear hap
                       have c3 := cells2 F.out.2.1
                       have hx3 := HCX.out w3 F.out.1)
          go_roundw
          case rel => exact ⟨_, _, _, ⟨i' + 1, z * 10 + x, out ++ [y], rfl, rfl, by have := HPP.out.next HD9.out (.inl (by rw [HN.out]; exact hin)); rwa [HQ.out, HY.out, HZ.out, HX0.out] at this, F.out⟩, by push_cast; rfl, by push_cast; rfl, rfl⟩
          case measure => simp [intOf]; omega
        · by_cases hx1 : 0 < X'
          · have hil2 : i' ≤ n + k := by
              have := HLEFT.out (by rw [HN.out]; omega)
              rw [HN.out] at this
              omega
            have hgt : decide ((X' : Int) > 0) = true := by simp; omega
            have hgt2 : decide ((0 : Int) < (X' : Int)) = true := by simp; omega
            have HD0 : Hid (d.getD i' 0 = 0) := Lib.hid (by rw [List.getD, List.getElem?_eq_none (by rw [HN.out]; omega)]; rfl)
            have hm9 : m ≤ 300 := by have := HPOS.out; have := HN.out; omega
            clear hdi
            go_wp2_with (at_builtin; refine wpList_append_one _ rfl _ _ 73 rfl w.heap.size 5 i8 _ 1 1 Tryz.underlying73 HI0.out HI1.out HI2.out HI3.out HI4.out (by decide) _ _ (cellsD out) rfl (HOWN.out.alloc _) ⟨wr.heap.size, 0, none⟩ 1 _ rfl rfl (cell_new wr _ _) HONE.out (by unfold maxLen; omega) (by omega) (by simp; omega) ?_; intro v' w3 hap
                         have F := Lib.hid (HWW.out.next (x := y) hbw (by rw [HM.out]; exact hap))
                         obtain ⟨vg, vcap, rfl⟩ := hap.made
                         clear hap
                         have c3 := cells2 F.out.2.1)
            go_roundw
            case rel => exact ⟨_, _, _, ⟨i' + 1, z * 10, out ++ [y], rfl, rfl, by have := HPP.out.next HD9.out (.inr hx1); rwa [HQ.out, HY.out, HZ.out, HD0.out, Nat.add_zero] at this, F.out⟩, by push_cast; rfl, by push_cast; rfl, rfl⟩
            case measure => simp [intOf]; omega
          · have hX0 : X' = 0 := by omega
            subst hX0
            clear hdX hbits HY HZ hy9 hz9
            have hfin := HWW.out.fin hbw
            rw [HM.out] at hfin
            have HFIN := Lib.hid hfin
            clear hfin
            have hm9 : m ≤ 2147483647 := by
              have := HPOS.out
              have := HN.out
              have := HPP.out.2.2.2.2.2.2
              omega
            go_wp2_with fail
            refine (trim_any w.heap.size b out (dp - (i - 1)) (by rw [HM.out]; exact hm9) _ HFIN.out).mono ?_
            rintro e w4 ⟨rfl, hd4, hg4⟩
            have HEND : Hid (HalfEnd b k d dp w (.returned (.tuple #[])) w4) := Lib.hid (by
              obtain ⟨p1, _, _, p4, p5, p6, _⟩ := HPP.out
              have hqq : 0 < 2 ^ k := Nat.pow_pos (by decide)
              have hnil : ¬ (out = [] ∧ 2 ^ k ≤ 0) := fun h => by omega
              obtain ⟨r1, r2⟩ := p6.resolve_left hnil
              obtain ⟨f1, f2⟩ := half_fin (numD_pos (by rw [HN.out]; exact hd) H0.out) (by rw [p1, Nat.add_zero]) (by rw [HN.out]; omega) r1 r2 p5
              refine ⟨rfl, ?_, ?_⟩
              · have hne : stripZ out ≠ [] := fun e => by
                  have := (stripZ_row ⟨r1, r2, p5⟩).1.pos
                  rw [e] at this
                  exact absurd this (by decide)
                unfold trimP at hd4
                rw [if_neg hne, f1] at hd4
                have e : dp + ((dg (numD d * 5 ^ k)).length : Int) - (d.length : Int) - (k : Int) = dp - ((i : Int) - 1) := by omega
                rw [e]
                exact hd4
              · exact ⟨hg4.os.trans HG1.out.os, hg4.tape.trans HG1.out.tape, hg4.output.trans HG1.out.output, Nat.le_trans HG1.out.size (by have := hg4.size; simpa using this), fun j hj hne => by
                  have h5 := hg4.block j (by rw [World.size_setCell]; exact Nat.lt_of_lt_of_le hj HG1.out.size) hne
                  rw [h5, set_other _ _ (fun e => hne (by rw [e]))]
                  exact HG1.out.block j hj hne⟩)
            clear hd4 hg4
            go_wp2_with fail
            go_returns
            exact HEND.out
end Go.Proofs.YtgjmgneppecfgaaGreatDoor.Ma
/-
  THE WALK of decimal.shift, to below.
-/
namespace Go.Proofs.YtgjmgneppecfgaaGreatDoor.Ma
open Go.RowKit Go.Proofs.YtgjmgneppecfgaaGreatDoor.Va Go.Proofs.YtgjmgneppecfgaaGreatDoor.Ba
set_option linter.unusedVariables false
set_option linter.unusedSimpArgs false

def AtZ (z : Int) (w : World) (v : Value) (wr : World) : Prop := v = .int .i64 z ∧ w = wr
set_option maxHeartbeats 2000000 in
set_option maxRecDepth 100000 in
theorem shift_any (base b k : Nat) (d : List Nat) (dp z : Int) (hz : -z = (k : Int)) (hk0 : 0 < k) (hk : k ≤ 55) (hd : 0 < d.length) (h0 : d.getD 0 0 ≠ 0) (hd9 : ∀ x ∈ d, x < 10) (hd2 : d.length ≤ 100) (hdp0 : -1000 ≤ dp) (hdp1 : dp ≤ 1000) (w : World) (h : IsDec base b d dp w) :
    Calls Tryz.prog 240 #[.pointer (some ⟨b, 0, none⟩), .int .i64 z] w (HalfEnd b k d dp w) := by
  have HC := Lib.hid (half_any base b k d dp hk hd h0 hd9 hd2 hdp0 hdp1 w h)
  have HZ := Lib.hid hz
  have z1 : z < 0 := by omega
  have z2 : -59 ≤ z := by omega
  clear hz h hd9 h0
  go_enter Tryz.func240, Tryz.ntmps240
  go_wp2_with fail
  go_loopw [1] (AtZ z w) (fun _ _ => 0)
  case atStart => exact ⟨rfl, rfl⟩
  case round =>
    obtain ⟨rfl, rfl⟩ := hrel
    go_wp2_with fail
    go_loopw [1] (AtZ z w) (fun _ _ => 0)
    case atStart => exact ⟨rfl, rfl⟩
    case round =>
      obtain ⟨rfl, rfl⟩ := hrel
      go_wp2_with fail
      rw [HZ.out]
      refine HC.out.mono ?_
      rintro e w4 he
      have HE := Lib.hid he
      obtain ⟨rfl, _, _⟩ := he
      go_wp2_with fail
      go_returns
      exact HE.out
end Go.Proofs.YtgjmgneppecfgaaGreatDoor.Ma
/-
  append([]byte{}, b[:k]...) within a region that draws its order.
-/
namespace Go.Proofs.YtgjmgneppecfgaaGreatDoor.Ma
open Go.RowKit Go.Proofs.YtgjmgneppecfgaaGreatDoor.Va Go.Proofs.YtgjmgneppecfgaaGreatDoor.Ba
set_option linter.unusedVariables false
set_option linter.unusedSimpArgs false

/-- a row made of others, put behind an empty one -/
structure FreshRow (w : World) (base : Nat) (e : TypeId) (g m : Nat) (news : List Value) (v' : Value) (w' : World) : Prop where
  owns : w'.ownsRow base e 1 v' m news
  grown : w.grownBy w' (some g)
  wher : v'.ownBlock = some g ∨ v'.ownBlock = some w.heap.size
  made : ∃ g' cap, v' = .slice (some ⟨g', 0, none⟩) m cap
section
variable {P : Program} {ops : Array Oper} {Q : Exit → Act → World → Prop}
theorem run_append_fresh {w : World} (base : Nat) (t ty e : TypeId) (i : TypeInfo) (z : Value) (ht : P.underlying t = some (.slice e)) (hi : P.info? e = some i) (hz : i.zero = some z)
    (hsize : i.size = 1) (hby : i.bytes = 1) (hzs : z.cells.size = 1) (g : Nat) (hg : w.heap[g]? = some (.cells #[] e (0, 0))) (hbg : base ≤ g)
    (a : Addr) (m c : Nat) (news : List Value) (hl : news.length = m) (hnews : ∀ j u, news[j]? = some u → w.cell? (a.add j) = some u) (h1 : ∀ u ∈ news, u.oneCell' = true)
    (h63 : m ≤ 1000) :
    ∃ v' w', (Builtin.append_ #[t, t] ty #[.slice (some ⟨g, 0, none⟩) 0 0, .slice (some a) m c]).run P w = .ok v' w' ∧ FreshRow w base e g m news v' w' := by
  have hown : w.ownsRow base e 1 (.slice (some ⟨g, 0, none⟩) 0 0) 0 [] := ⟨rfl, .inr ⟨g, 0, #[], rfl, hbg, hg, Nat.le_refl _, Nat.zero_le _, rfl, rfl⟩⟩
  have hlt := heap_lt hg
  obtain ⟨v', w', hr, h2, h3, _⟩ := run_append_own (P := P) w base t ty e i z 1 1 ht hi hz hsize hby hzs (by decide) _ 0 [] hown a m c news (by omega) hnews h1 (by unfold maxLen; omega) (by omega) (by omega)
  refine ⟨v', w', hr, ?_⟩
  rw [Nat.zero_add] at h2
  rw [List.nil_append] at h2
  by_cases hm : m = 0
  · subst hm
    have hn0 : news = [] := List.eq_nil_of_length_eq_zero hl
    subst hn0
    have hh := run_append_room (P := P) w t ty e i ht hi g 0 0 #[] hg a 0 c [] (by simp) (by simp) (by simp) (by omega) (by simp)
    rw [hh] at hr
    cases hr
    exact ⟨h2, h3, .inl rfl, _, _, rfl⟩
  · obtain ⟨h4, g', cap, h5⟩ := append_where_m (P := P) w base t ty e i z 1 1 ht hi hz hsize hby _ 0 m (by omega) [] hown a c news (by omega) hnews h1 (by unfold maxLen; omega) (by omega) v' w' hr
    exact ⟨h2, h3, h4, g', cap, by rw [h5, Nat.zero_add]⟩
theorem step_append_fresh {a : Act} {w : World} {K : Act → World → Prop} {E : Prop} {o : Oper}
    (hg : o.guard = none) (s x : Operand) (t : TypeId) (hop : o.op = Op.call { callee := Callee.builtin Builtin.append, args := #[s, x], argTypes := #[t, t] })
    (base : Nat) (e : TypeId) (i : TypeInfo) (z : Value) (ht : P.underlying t = some (.slice e)) (hi : P.info? e = some i) (hz : i.zero = some z)
    (hsize : i.size = 1) (hby : i.bytes = 1) (hzs : z.cells.size = 1)
    (g : Nat) (hs : a.eval s = .slice (some ⟨g, 0, none⟩) 0 0) (hgr : w.heap[g]? = some (.cells #[] e (0, 0))) (hbg : base ≤ g)
    (ad : Addr) (m c : Nat) (news : List Value) (hx : a.eval x = .slice (some ad) m c) (hl : news.length = m) (hnews : ∀ j u, news[j]? = some u → w.cell? (ad.add j) = some u) (h1 : ∀ u ∈ news, u.oneCell' = true)
    (h63 : m ≤ 1000)
    (hK : ∀ v' w', FreshRow w base e g m news v' w' → K (a.put o.dst v') w') :
    if Region.wanted o (yielded ops a.tmps) = true then Oper.wp P o a w K Q else E := by
  have hw : Region.wanted o (yielded ops a.tmps) = true := by simp [Region.wanted, hg]
  rw [if_pos hw]
  obtain ⟨v', w', hr, h2⟩ := run_append_fresh (P := P) base t o.type e i z ht hi hz hsize hby hzs g hgr hbg ad m c news hl hnews h1 h63
  unfold Oper.wp execOp
  simp only [hop, resolve, invoke, builtin, Sem.run_bind, Sem.run_pure, Result.andThen_ok, List.map_toArray, List.map_cons, List.map_nil, hs, hx, hr]
  exact hK v' w' h2
end

/-- a new decimal over a new row -/
theorem dec_made {w W : World} {base b : Nat} {v : Value} {d : List Nat} {dp : Int} {c0 c1 : Value} (hB : Below w.heap.size w W) (hb : w.heap.size ≤ b) (hz : W.heap[b]? = some (.cells #[c0, c1] 267 (0, 0))) (ho : W.ownsRow base 5 1 v d.length (cellsD d)) (hne : v.ownBlock ≠ some b) :
    IsDec base b d dp ((W.setCell ⟨b, 0, none⟩ v).setCell ⟨b, 1, none⟩ (.int .i64 dp)) ∧ Below w.heap.size w ((W.setCell ⟨b, 0, none⟩ v).setCell ⟨b, 1, none⟩ (.int .i64 dp)) := by
  refine ⟨⟨v, ?_, ?_, hne⟩, (hB.setCell hb _).setCell hb _⟩
  · have h1 := set_block (w := W) (b := b) hz 0 v
    have h2 := set_block (w := W.setCell ⟨b, 0, none⟩ v) (b := b) h1 1 (.int .i64 dp)
    exact h2
  · refine owns_other (w := W) ho fun g hg => ?_
    have hgb : g ≠ b := fun e => hne (by rw [hg, e])
    rw [set_other _ _ hgb, set_other _ _ hgb]
end Go.Proofs.YtgjmgneppecfgaaGreatDoor.Ma
