/-
  THE WALK of the reference's flat.
-/
import Derived.Test.YtnlndpgbhmkanaaGreatDoorFbA
import Derived.Test.YtnlndpgbhmkanaaGreatDoorFlB
namespace Go.Proofs.YtnlndpgbhmkanaaGreatDoor.Va
open Go.RowKit
set_option linter.unusedVariables false
set_option linter.unusedSimpArgs false

/-- what flat returns -/
def FlatS (base : Nat) (S : Nat → Prop) (acc : List V) (w : World) (e : Ending) (w' : World) : Prop := ∃ ov, e = .returned ov ∧ RowsS base S acc ov w' ∧ Below w.heap.size w w'
def LoopS (n : Nat) (S : Nat → Prop) (l : List V) (d : Int) (w : World) (xs i : Value) (wr : World) : Prop :=
  ∃ k : Nat, i = .int .i64 k ∧ k ≤ n ∧ RowsS w.heap.size S (flatL (l.take k) d) xs wr ∧ Below w.heap.size w wr

theorem one_sub {W W' : World} {S : Nat → Prop} {x : V} {c0 c1 c2 c3 c4 c5 : Value} (h : RV W S x (.agg #[c0, c1, c2, c3, c4, c5])) (hS : ∀ b, S b → b < W.heap.size) (hb : Below W.heap.size W W') : ∀ i (hi : i < [x].length), ∃ d0 d1 d2 d3 d4 d5, SixAt [c0, c1, c2, c3, c4, c5] (i * 6) d0 d1 d2 d3 d4 d5 ∧ RV W' S [x][i] (.agg #[d0, d1, d2, d3, d4, d5]) := by
  intro i hi
  obtain rfl : i = 0 := by simpa using hi
  exact ⟨c0, c1, c2, c3, c4, c5, ⟨rfl, rfl, rfl, rfl, rfl, rfl⟩, RV.mono (Same.of_below hb hS) (fun _ h => h) _ _ h⟩

set_option maxHeartbeats 8000000 in
set_option maxRecDepth 100000 in
theorem flatS_any : ∀ (m : Nat) (l : List V) (d : Int) (n : Nat), l.length = n → sizeL l ≤ m → m ≤ 400 → -1000 + (m : Int) ≤ d → d ≤ 1000 → ∀ (S : Nat → Prop) (a : Option Addr) (c : Nat) (w : World), RL w S l a → (∀ b, S b → b < w.heap.size) →
    Calls Tryz.prog 78 #[.slice a n c, .int .i64 d] w (FlatS w.heap.size S (flatL l d) w) := by
  intro m
  induction m with
  | zero =>
    intro l d n hn hsz _ hd0 hd1 S a c w hl hS
    obtain rfl : l = [] := by
      have := length_le l
      exact List.length_eq_zero_iff.1 (by omega)
    obtain rfl : n = 0 := hn.symm
    go_enter Tryz.func78, Tryz.ntmps78
    go_wp2_with fail
    go_loopw [5, 10] (fun xs i wr => xs = .slice none 0 0 ∧ i = .int .i64 0 ∧ wr = w) (fun _ _ _ => 0)
    case atStart => exact ⟨rfl, rfl, rfl⟩
    case round =>
      obtain ⟨rfl, rfl, rfl⟩ := hrel
      go_wp2_with fail
      go_returns
      exact ⟨_, rfl, by rw [flatL]; exact RowsS.nil _ _ _, Below.refl _ _⟩
  | succ m ih =>
    intro l d n hn hsz hm4 hd0 hd1 S a c w hl hS
    have HL := Lib.hid hl
    have HN := Lib.hid hn
    have HS := Lib.hid hS
    have HIH := Lib.hid ih
    obtain ⟨i1, hi, hz0, hz1, hz2⟩ := info_parts infoValue
    have HI := Lib.hid hi
    have HZ0 := Lib.hid hz0
    have HZ1 := Lib.hid hz1
    have HZ2 := Lib.hid hz2
    have hll := length_le l
    clear hl hn hS ih hi hz0 hz1 hz2
    rw [HN.out] at hll
    go_enter Tryz.func78, Tryz.ntmps78
    go_wp2_with fail
    go_loopw [5, 10] (LoopS n S l d w) (fun _ i _ => n - (intOf i).toNat)
    case atStart => exact ⟨0, rfl, Nat.zero_le _, by rw [List.take_zero, flatL]; exact RowsS.nil _ _ _, Below.refl _ _⟩
    case round =>
      obtain ⟨k, rfl, hk, hx, hbel⟩ := hrel
      have HX := Lib.hid hx
      have HB := Lib.hid hbel
      clear hx hbel
      by_cases hlt : k < n
      · have hkl : k < l.length := by rw [HN.out]; exact hlt
        obtain ⟨b, o, rfl⟩ := HL.out.addr (by omega)
        obtain ⟨hSb, c0, c1, c2, c3, c4, c5, h6, hv⟩ := RL.at l b o HL.out k hkl
        have hsame : Same S w wr := Same.of_below HB.out HS.out
        have h6' := Six.mono hsame hSb h6
        have hv' := RV.mono hsame (fun _ h => h) _ _ hv
        have HFT := Lib.hid (flat_take l d k hkl)
        have hsz1 := sizeL_get l k hkl
        have hfl1 := flat_len (l.take k) d
        obtain ⟨x, hxe⟩ : ∃ x, Hid (l[k] = x) := ⟨_, Lib.hid rfl⟩
        rw [hxe.out] at hv' HFT hsz1
        clear hv h6 hsame
        cases x with
        | mk kk h t ls ks vs =>
        have hvk := hv'
        rw [RV] at hv'
        obtain ⟨la, lc, ka, kc, va, vc, e, hls, _, _⟩ := hv'
        simp only [Value.agg.injEq, Array.mk.injEq, List.cons.injEq, and_true] at e
        obtain ⟨rfl, rfl, rfl, rfl, rfl, rfl⟩ := e
        obtain ⟨q1, hq1⟩ : ∃ q, ls.length = q := ⟨_, rfl⟩
        obtain ⟨q2, hq2⟩ : ∃ q, ks.length = q := ⟨_, rfl⟩
        obtain ⟨q3, hq3⟩ : ∃ q, vs.length = q := ⟨_, rfl⟩
        rw [hq1, hq2, hq3] at h6' hvk
        have HQ1 := Lib.hid hq1
        have HLS := Lib.hid hls
        have HVK := Lib.hid hvk
        obtain ⟨acc, hacc⟩ : ∃ acc, Hid (flatL (l.take k) d = acc) := ⟨_, Lib.hid rfl⟩
        rw [hacc.out] at HX HFT hfl1
        rw [V.size] at hsz1
        clear hls hvk hq1 hq2 hq3 hSb
        unfold Six at h6'
        go_upto_region 5 with fail
        generalize hW : World.alloc wr _ = W
        have b1 : Below wr.heap.size wr W := hW ▸ below_alloc wr _
        have z := Lib.hid (hW ▸ block_new wr _ _ : W.heap[wr.heap.size]? = some (.cells #[.int .i64 kk, .int .i64 h, .string t, .slice la q1 lc, .slice ka q2 kc, .slice va q3 vc] 27 (0, 0)))
        have HSr := Lib.hid (fun b (h : S b) => Nat.lt_of_lt_of_le (HS.out b h) HB.out.size)
        have HX1 := Lib.hid (HX.out.keep HSr.out b1)
        have HB1 := Lib.hid (HB.out.trans (b1.mono HB.out.size))
        have HSW := Lib.hid (fun b (h : S b) => Nat.lt_of_lt_of_le (HSr.out b h) b1.size)
        have HLS1 := Lib.hid (RL.mono (Same.of_below b1 HSr.out) (fun _ h => h) _ _ HLS.out)
        have HVK1 := Lib.hid (RV.mono (Same.of_below b1 HSr.out) (fun _ h => h) _ _ HVK.out)
        have hc1 := cells6 z.out
        have hbw := HB1.out.size
        clear hW h6' b1
        by_cases hkd : kk = 5 ∧ d ≠ 0
        · obtain ⟨rfl, hd0'⟩ := hkd
          have hF1 : flat1 (.mk 5 h t ls ks vs) d = flatL ls (d - 1) := by rw [flat1, if_pos ⟨rfl, hd0'⟩]
          rw [hF1] at HFT
          go_wp2_with fail
          refine (HIH.out ls (d - 1) q1 HQ1.out (by omega) (by omega) (by omega) (by omega) S la lc W HLS1.out HSW.out).mono ?_
          rintro e w2 ⟨ov2, rfl, hr2, hb2⟩
          have HX2 := Lib.hid (HX1.out.keep HSW.out hb2)
          have HB2 := Lib.hid (HB1.out.trans (hb2.mono HB1.out.size))
          have hfl2 := flat_len ls (d - 1)
          have hbw2 := hb2.size
          obtain ⟨sub, hsub⟩ : ∃ sub, Hid (flatL ls (d - 1) = sub) := ⟨_, Lib.hid rfl⟩
          rw [hsub.out] at hr2 HFT hfl2
          obtain ⟨⟨cs, hown, hch⟩, _⟩ := HX2.out
          have HOWN := Lib.hid hown
          have HCH := Lib.hid hch
          obtain ⟨⟨ds, hds, hdc⟩, hnil⟩ := hr2
          clear hown hch hc1
          by_cases hse : sub = []
          · subst hse
            obtain rfl := hnil rfl
            rw [List.append_nil] at HFT
            clear hds hdc hnil hb2
            go_wp2_with (at_builtin; refine wpList_append_none _ rfl _ _ 22 rfl w.heap.size 27 i1 6 Tryz.underlying22 HI.out HZ1.out _ _ cs rfl HOWN.out rfl ?_)
            go_roundw
            case rel => exact ⟨k + 1, rfl, hlt, by rw [HFT.out]; exact HX2.out, HB2.out⟩
            case measure => simp [intOf]; omega
          · have hpos : 0 < sub.length := List.length_pos_iff.2 hse
            have hone := Lib.hid (rows_one hds.1 hdc)
            rcases hds.2 with ⟨rfl, h0⟩ | ⟨g2, cap2, cur2, rfl, hbg, hg2, hnc, hcm, hcs2, htk⟩
            · omega
            have HDC := Lib.hid hdc
            have HCE := Lib.hid (hds.cells (g := g2) rfl)
            have hdl := hds.1
            clear hds hdc hnil hb2
            go_wp2_with (at_builtin; refine wpList_append_many _ rfl _ _ 22 rfl w.heap.size 27 i1 _ 6 104 Tryz.underlying22 HI.out HZ0.out HZ1.out HZ2.out rfl (by decide) _ _ _ hpos cs rfl HOWN.out ⟨g2, 0, none⟩ _ ds rfl hdl HCE.out hone.out (by unfold maxLen; omega) (by omega) (by omega) ?_; intro v' w3 hap
                         have F := Lib.hid (RowsS.app HS.out (by omega) HOWN.out hse HCH.out (Below.refl _ _) HDC.out hap.owns hap.grown)
                         obtain ⟨vg, vcap, rfl⟩ := hap.made
                         clear hap)
            go_roundw
            case rel => exact ⟨k + 1, rfl, hlt, by rw [HFT.out]; exact F.out.1, HB2.out.trans F.out.2⟩
            case measure => simp [intOf]; omega
        · have hF1 : flat1 (.mk kk h t ls ks vs) d = [.mk kk h t ls ks vs] := by rw [flat1, if_neg hkd]
          rw [hF1] at HFT
          obtain ⟨⟨cs, hown, hch⟩, _⟩ := HX1.out
          have HOWN := Lib.hid hown
          have HCH := Lib.hid hch
          clear hown hch
          by_cases hk5 : kk = 5
          · obtain rfl : d = 0 := Decidable.byContradiction fun h0 => hkd ⟨hk5, h0⟩
            subst hk5
            (go_wp2_with (at_builtin; refine wpList_append_one _ rfl _ _ 22 rfl w.heap.size 27 i1 _ 6 104 Tryz.underlying22 HI.out HZ0.out HZ1.out HZ2.out rfl (by decide) _ _ cs rfl (HOWN.out.alloc _) ⟨W.heap.size, 0, none⟩ 1 (six _ h t la q1 lc ka q2 kc va q3 vc) rfl rfl (cell_new W _ _) (six_one _ _ _ _ _ _ _ _ _ _ _ _) (by unfold maxLen; omega) (by omega) (by simp; omega) ?_; intro v' w3 hap
                          have F := Lib.hid (RowsS.app HS.out (by omega) HOWN.out (by simp) HCH.out (below_alloc W _) (one_sub HVK1.out HSW.out (below_alloc W _)) hap.owns hap.grown)
                          obtain ⟨vg, vcap, rfl⟩ := hap.made
                          clear hap)
             go_roundw
             case rel => exact ⟨k + 1, rfl, hlt, by rw [HFT.out]; exact F.out.1, HB1.out.trans F.out.2⟩
             case measure => simp [intOf]; omega)
          · (go_wp2_with (at_builtin; refine wpList_append_one _ rfl _ _ 22 rfl w.heap.size 27 i1 _ 6 104 Tryz.underlying22 HI.out HZ0.out HZ1.out HZ2.out rfl (by decide) _ _ cs rfl (HOWN.out.alloc _) ⟨W.heap.size, 0, none⟩ 1 (six _ h t la q1 lc ka q2 kc va q3 vc) rfl rfl (cell_new W _ _) (six_one _ _ _ _ _ _ _ _ _ _ _ _) (by unfold maxLen; omega) (by omega) (by simp; omega) ?_; intro v' w3 hap
                          have F := Lib.hid (RowsS.app HS.out (by omega) HOWN.out (by simp) HCH.out (below_alloc W _) (one_sub HVK1.out HSW.out (below_alloc W _)) hap.owns hap.grown)
                          obtain ⟨vg, vcap, rfl⟩ := hap.made
                          clear hap)
             go_roundw
             case rel => exact ⟨k + 1, rfl, hlt, by rw [HFT.out]; exact F.out.1, HB1.out.trans F.out.2⟩
             case measure => simp [intOf]; omega)
      · obtain rfl : k = n := by omega
        go_wp2_with fail
        go_returns
        refine ⟨_, rfl, ?_, HB.out⟩
        have := HX.out
        rwa [List.take_of_length_le (by rw [HN.out]; exact Nat.le_refl _)] at this

end Go.Proofs.YtnlndpgbhmkanaaGreatDoor.Va
