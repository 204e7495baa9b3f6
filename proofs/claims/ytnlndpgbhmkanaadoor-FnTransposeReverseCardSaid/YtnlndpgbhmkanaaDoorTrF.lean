/-
  FnTransposeReverse: the law's walk.
-/
import Derived.Test.YtnlndpgbhmkanaaDoorTrE
import Derived.Test.YtnlndpgbhmkanaaDoorVaW
namespace Go.Proofs.YtnlndpgbhmkanaaDoor.Va
open Go.RowKit
set_option linter.unusedVariables false
set_option linter.unusedSimpArgs false

def LoopA (rs : List (List V)) (n : Nat) (w : World) (xs i : Value) (wr : World) : Prop := ∃ k : Nat, i = .int .i64 k ∧ k ≤ n ∧ RowsG w.heap.size ((rs.take k).map mkL) xs wr ∧ Below w.heap.size w wr
def LoopB (cs : List V) (n : Nat) (w : World) (xs i : Value) (wr : World) : Prop := ∃ k : Nat, i = .int .i64 k ∧ k ≤ n ∧ RowsG w.heap.size ((cs.take k).map fun c => mkL c.list.reverse) xs wr ∧ Below w.heap.size w wr

theorem rv_row {w wr wa : World} {S : Nat → Prop} {l : List V} {ai : Option Addr} {ci m : Nat} {ov : Value} {nn : Nat} {cs : List Value} (h : RL wr S l ai) (hm : l.length = m) (hS : ∀ b, S b → b < w.heap.size) (hown : wr.ownsRow w.heap.size 26 6 ov nn cs) (hB : Below wr.heap.size wr wa) (hw : w.heap.size ≤ wr.heap.size) :
    RV wa (fun r => r < wa.heap.size ∧ some r ≠ ov.ownBlock) (mkL l) (.agg #[.int .i64 5, .int .i64 0, .string ⟨#[]⟩, .slice ai m ci, .slice none 0 0, .slice none 0 0]) := by
  subst hm
  rw [mkL, RV]
  refine ⟨ai, ci, none, 0, none, 0, rfl, RL.mono (Same.of_below hB fun b hb => by have := hS b hb; omega) (fun b hb => ?_) _ _ h, trivial, by rw [RL]; trivial⟩
  have h1 := hS b hb
  have h2 := hB.size
  exact ⟨by omega, fun e => by have := (hown.lt b e.symm).1; omega⟩

theorem rv_new {wr W15 : World} {o : Obj} {lo hi base : Nat} {x : V} {v ov : Value} {nn : Nat} {cs : List Value} (h : RV W15 (fun r => lo ≤ r ∧ r < hi) x v) (hown : wr.ownsRow base 26 6 ov nn cs) (hlo : wr.heap.size ≤ lo) (hhi : hi ≤ W15.heap.size) :
    RV (W15.alloc o) (fun r => r < (W15.alloc o).heap.size ∧ some r ≠ ov.ownBlock) x v :=
  RV.mono (Same.of_below (below_alloc W15 o) fun b hb => by omega) (fun b hb => ⟨by simp; omega, fun e => by have := (hown.lt b e.symm).2; omega⟩) _ _ h

set_option maxHeartbeats 8000000 in
set_option maxRecDepth 100000 in
theorem tr_law (rs : List (List V)) (hx : ∀ r ∈ rs, WfL r ∧ r.length ≤ Q) (n : Nat) (hn : rs.length = n) (hq : n ≤ 140737488355328) (a : Option Addr) (c : Nat) (S : Nat → Prop) (w : World) (h : RLL w S rs a) (hS : ∀ b, S b → b < w.heap.size) (hT : Tabs w) :
    Calls Tryd.prog 6 #[.slice a n c] w (TrueEnd w) := by
  have HX := Lib.hid hx
  have HN := Lib.hid hn
  have HL := Lib.hid h
  have HS := Lib.hid hS
  have HT := Lib.hid hT
  obtain ⟨i1, hi, hz0, hz1, hz2⟩ := info_parts infoValue
  have HI := Lib.hid hi
  have HZ0 := Lib.hid hz0
  have HZ1 := Lib.hid hz1
  have HZ2 := Lib.hid hz2
  clear hx hn h hS hT hi hz0 hz1 hz2
  by_cases hbig : (2147483647 : Int) < n
  · go_enter Tryd.func6, Tryd.ntmps6
    go_wp2_with fail
    go_returns
    exact ⟨rfl, Below.refl _ _⟩
  go_enter Tryd.func6, Tryd.ntmps6
  go_wp2_with fail
  go_loopw [3, 19] (LoopA rs n w) (fun _ i _ => n - (intOf i).toNat)
  case atStart => exact ⟨0, rfl, Nat.zero_le _, RowsG.nil _ _, Below.refl _ _⟩
  case round =>
    obtain ⟨k, rfl, hk, hr, hb⟩ := hrel
    have HR := Lib.hid hr
    have HB := Lib.hid hb
    clear hr hb
    by_cases hlt : k < n
    · have hkl : k < rs.length := by rw [HN.out]; exact hlt
      obtain ⟨b, o, ai, ci, rfl, hSb, hc, hrl⟩ := HL.out k hkl
      have hsame := Same.of_below HB.out HS.out
      have hc' := (hsame.cell hSb).trans hc
      have HRL := Lib.hid (RL.mono hsame (fun _ h => h) _ _ hrl)
      have HTK := Lib.hid (show (rs.take (k + 1)).map mkL = (rs.take k).map mkL ++ [mkL rs[k]] by rw [List.take_succ_eq_append_getElem hkl, List.map_append]; rfl)
      obtain ⟨m, hm⟩ : ∃ m, (rs[k]).length = m := ⟨_, rfl⟩
      rw [hm] at hc'
      have HM := Lib.hid hm
      obtain ⟨acc, hacc⟩ : ∃ acc, Hid ((rs.take k).map mkL = acc) := ⟨_, Lib.hid rfl⟩
      have hal : acc.length ≤ 2147483646 := by rw [← hacc.out, List.length_map, List.length_take]; omega
      rw [hacc.out] at HR HTK
      clear hc hrl hsame hSb hm
      go_wp2_with fail
      refine (array_any wr ai m ci).mono ?_
      rintro e w1 ⟨rfl, hb1⟩
      have HB1 := Lib.hid hb1
      obtain ⟨cs, hown, hch⟩ := HR.out
      have HOWN := Lib.hid hown
      have HCH := Lib.hid hch
      have HOW1 := Lib.hid (ownsRow_same hown (fun b hb => hb1.block b (hown.lt b hb.symm).2))
      have hbs := HB.out.size
      have hbs1 := hb1.size
      clear hb1 hown hch hc'
      go_wp2_with (at_builtin; refine wpList_append_one _ rfl _ _ 22 rfl w.heap.size 26 i1 _ 6 104 Tryd.underlying22 HI.out HZ0.out HZ1.out HZ2.out rfl (by decide) _ _ cs rfl (HOW1.out.alloc _) ⟨w1.heap.size, 0, none⟩ 1 (six 5 0 ⟨#[]⟩ ai m ci none 0 0 none 0 0) rfl rfl (cell_new w1 _ _) (six_one _ _ _ _ _ _ _ _ _ _ _ _) (by unfold maxLen; omega) (by omega) (by simp; omega) ?_; intro v' w3 hap
                   have F := Lib.hid (RowsG.next hbs HOWN.out HCH.out (HB1.out.alloc HB1.out.size _) (rv_row HRL.out HM.out HS.out HOWN.out (HB1.out.alloc HB1.out.size _) hbs) hap)
                   obtain ⟨vg, vcap, rfl⟩ := hap.made
                   clear hap)
      go_roundw
      case rel =>
        refine ⟨k + 1, rfl, hlt, ?_, HB.out.trans F.out.2⟩
        rw [HTK.out]
        exact F.out.1
      case measure => simp [intOf]; omega
    · obtain rfl : k = n := by omega
      rw [List.take_of_length_le (by rw [HN.out]; exact Nat.le_refl _)] at HR
      obtain ⟨L, hL⟩ : ∃ L, Hid (rs.map mkL = L) := ⟨_, Lib.hid rfl⟩
      rw [hL.out] at HR
      have hLn : L.length = k := by rw [← hL.out, List.length_map]; exact HN.out
      have HRW := Lib.hid (show ∀ x ∈ L, ∃ r, x = mkL r by
        rw [← hL.out]
        intro x hx
        obtain ⟨r, _, rfl⟩ := List.mem_map.1 hx
        exact ⟨r, rfl⟩)
      have HWF := Lib.hid (show WfL L by
        rw [← hL.out]
        refine WfL.of fun x hx => ?_
        obtain ⟨r, hr, rfl⟩ := List.mem_map.1 hx
        exact wf_mkL (HX.out r hr).1 (HX.out r hr).2)
      obtain ⟨a2, c2, rfl, hrl2⟩ := HR.out.done
      obtain ⟨nL, hnL⟩ : ∃ nL, L.length = nL := ⟨_, rfl⟩
      rw [hnL] at hLn ⊢
      have HNL := Lib.hid hnL
      subst hLn
      have HV3 := Lib.hid (kv_mkL hrl2 nL c2 hnL)
      clear hrl2 hnL
      go_wp2_with fail
      refine (array_any wr a2 nL c2).mono ?_
      rintro e w4 ⟨rfl, hb4⟩
      have B4 := Lib.hid (HB.out.trans (hb4.mono HB.out.size))
      have HV4 := Lib.hid (HV3.out.keep hb4)
      clear hb4
      go_wp2_with fail
      generalize hW : World.alloc w4 _ = W5
      have b5 : Below w4.heap.size w4 W5 := hW ▸ below_alloc w4 _
      have zs : W5.heap[w4.heap.size]? = some (.cells #[.int .i64 5, .int .i64 0, .string ⟨#[]⟩, .slice a2 nL c2, .slice none 0 0, .slice none 0 0] 26 (0, 0)) := hW ▸ block_new w4 _ _
      clear hW
      have B5 := Lib.hid (B4.out.trans (b5.mono B4.out.size))
      have HV5 := Lib.hid (HV4.out.keep b5)
      refine (fits_any [mkL L] (by rw [WfL, WfL]; exact ⟨wf_mkL HWF.out (by rw [HNL.out]; show nL ≤ 140737488355328; omega), trivial⟩) 1 rfl (by omega) _ 1 _ W5 (rl_one zs HV5.out) (fun _ h => h) (HT.out.below B5.out)).mono ?_
      rintro e w6 ⟨r, rfl, hb6, hgd⟩
      have B6 := Lib.hid (B5.out.trans (hb6.mono B5.out.size))
      have HV6 := Lib.hid (HV5.out.keep hb6)
      clear b5 zs hb6
      cases r
      · go_wp2_with fail
        go_returns
        exact ⟨rfl, B6.out⟩
      obtain ⟨hg, hsz⟩ := hgd rfl (mkL L) (by simp)
      have HG := Lib.hid (good_list hg)
      rw [size_mkL] at hsz
      clear hgd hg
      go_wp2_with fail
      refine (array_any w6 a2 nL c2).mono ?_
      rintro e w7 ⟨rfl, hb7⟩
      have B7 := Lib.hid (B6.out.trans (hb7.mono B6.out.size))
      have HV7 := Lib.hid (HV6.out.keep hb7)
      clear hb7
      go_wp2_with fail
      refine (transpose_any L HRW.out HG.out (by omega) w7 _ HV7.out).mono ?_
      rintro e w8 ⟨la8, ka8, va8, n8, lc8, kc8, vc8, rfl, hn8, hv8, hb8⟩
      have HN8 := Lib.hid hn8
      have B8 := Lib.hid (B7.out.trans (hb8.mono B7.out.size))
      have HV8 := Lib.hid (HV7.out.keep hb8)
      have HC8 := Lib.hid (KV.of hv8)
      clear hb8 hv8 hn8
      go_wp2_with fail
      refine (listedC_any la8 ka8 va8 n8 lc8 kc8 vc8 w8).mono ?_
      rintro e w9 ⟨rfl, hb9⟩
      have B9 := Lib.hid (B8.out.trans (hb9.mono B8.out.size))
      have HV9 := Lib.hid (HV8.out.keep hb9)
      have HC9 := Lib.hid (HC8.out.keep hb9)
      clear hb9
      go_wp2_with fail
      refine (array_any w9 a2 nL c2).mono ?_
      rintro e w10 ⟨rfl, hb10⟩
      have B10 := Lib.hid (B9.out.trans (hb10.mono B9.out.size))
      have HV10 := Lib.hid (HV9.out.keep hb10)
      have HC10 := Lib.hid (HC9.out.keep hb10)
      clear hb10
      go_wp2_with fail
      refine (reverse_any L HG.out (by omega) w10 _ HV10.out).mono ?_
      rintro e w11 ⟨la11, ka11, va11, n11, lc11, kc11, vc11, rfl, hn11, hv11, hb11⟩
      have B11 := Lib.hid (B10.out.trans (hb11.mono B10.out.size))
      have HC11 := Lib.hid (HC10.out.keep hb11)
      have HR11 := Lib.hid (KV.of hv11)
      clear hb11 hv11 hn11
      go_wp2_with fail
      generalize hW : World.alloc w11 _ = W12
      have b12 : Below w11.heap.size w11 W12 := hW ▸ below_alloc w11 _
      have Z12 := Lib.hid (hW ▸ block_new w11 _ _ : W12.heap[w11.heap.size]? = some (.cells #[.int .i64 5, .int .i64 0, .string ⟨#[]⟩, .slice la11 n11 lc11, .slice ka11 0 kc11, .slice va11 0 vc11, .int .i64 0] 30 (0, 0)))
      clear hW
      have B12 := Lib.hid (B11.out.trans (b12.mono B11.out.size))
      have HC12 := Lib.hid (HC11.out.keep b12)
      have HR12 := Lib.hid (HR11.out.keep b12)
      have hn8 : n8 ≤ 400 := by
        have h1 := HN8.out
        have h2 := @wid_le L
        rw [transV, List.length_map, List.length_range] at h1
        omega
      clear b12
      go_loopw [9, 46] (LoopB (transV L) n8 W12) (fun _ i _ => n8 - (intOf i).toNat)
      case atStart => exact ⟨0, rfl, Nat.zero_le _, RowsG.nil _ _, Below.refl _ _⟩
      case round =>
        obtain ⟨q, rfl, hq2, hr, hb⟩ := hrel
        have HRG := Lib.hid hr
        have HBB := Lib.hid hb
        clear hr hb
        by_cases hlt2 : q < n8
        · have hql : q < (transV L).length := by rw [HN8.out]; exact hlt2
          have HRL := Lib.hid HC12.out.list
          obtain ⟨b, o, rfl⟩ := HRL.out.addr (by omega)
          obtain ⟨hSb, q0, q1, q2, q3, q4, q5, h6, hv⟩ := RL.at _ b o HRL.out q hql
          have hcol : (transV L)[q] = mkL (colL L q) := by simp [transV]
          rw [hcol] at hv
          have hvk := hv
          rw [mkL, RV] at hv
          obtain ⟨la, lc, ka, kc, va, vc, e, _⟩ := hv
          simp only [Value.agg.injEq, Array.mk.injEq, List.cons.injEq, and_true, List.length_nil] at e
          obtain ⟨rfl, rfl, rfl, rfl, rfl, rfl⟩ := e
          have HTK := Lib.hid (show ((transV L).take (q + 1)).map (fun c => mkL c.list.reverse) = ((transV L).take q).map (fun c => mkL c.list.reverse) ++ [mkL (colL L q).reverse] by rw [List.take_succ_eq_append_getElem hql, List.map_append, hcol]; rfl)
          obtain ⟨m, hm⟩ : ∃ m, (colL L q).length = m := ⟨_, rfl⟩
          rw [hm] at h6 hvk
          have HMM := Lib.hid hm
          have HVK := Lib.hid (KV.keep hvk HBB.out)
          have h6' := Six.mono (Same.of_below HBB.out (fun b hb => hb)) hSb h6
          obtain ⟨acc, hacc⟩ : ∃ acc, Hid (((transV L).take q).map (fun c => mkL c.list.reverse) = acc) := ⟨_, Lib.hid rfl⟩
          have hal : acc.length ≤ 400 := by rw [← hacc.out, List.length_map, List.length_take]; omega
          rw [hacc.out] at HRG HTK
          have HGC := Lib.hid (good_col HG.out q)
          have hsc := size_col L q
          clear h6 hSb hvk hm hcol
          unfold Six at h6'
          go_upto_region 17 with fail
          generalize hW : World.alloc wr _ = W13
          have b13 : Below wr.heap.size wr W13 := hW ▸ below_alloc wr _
          have hc13 := cells6 (hW ▸ block_new wr _ _ : W13.heap[wr.heap.size]? = some (.cells #[.int .i64 5, .int .i64 0, .string ⟨#[]⟩, .slice la m lc, .slice ka 0 kc, .slice va 0 vc] 26 (0, 0)))
          have HV13 := Lib.hid (HVK.out.keep b13)
          have HB13 := Lib.hid b13
          clear hW h6' b13
          go_wp2_with fail
          clear hc13
          refine (reverse_any (colL L q) HGC.out (by omega) W13 _ HV13.out).mono ?_
          rintro e w14 ⟨la14, ka14, va14, n14, lc14, kc14, vc14, rfl, hn14, hv14, hb14⟩
          have HV14 := Lib.hid hv14
          have HB14 := Lib.hid (HB13.out.trans (hb14.mono HB13.out.size))
          have hs13 := HB13.out.size
          have hs14 := hb14.size
          clear hv14 hb14 hn14
          go_upto_region 18 with fail
          generalize hW : World.alloc w14 _ = W15
          have b15 : Below w14.heap.size w14 W15 := hW ▸ below_alloc w14 _
          have hc15 := cells7 (hW ▸ block_new w14 _ _ : W15.heap[w14.heap.size]? = some (.cells #[.int .i64 5, .int .i64 0, .string ⟨#[]⟩, .slice la14 n14 lc14, .slice ka14 0 kc14, .slice va14 0 vc14, .int .i64 0] 30 (0, 0)))
          have HB15 := Lib.hid (HB14.out.trans (b15.mono HB14.out.size))
          have HV15 := Lib.hid (RV.mono (T := fun r => W13.heap.size ≤ r ∧ r < w14.heap.size) (Same.of_below b15 fun b hb => hb.2) (fun _ h => h) _ _ HV14.out)
          have hs15 := b15.size
          clear hW b15
          obtain ⟨cs, hown, hch⟩ := HRG.out
          have HOWN := Lib.hid hown
          have HCH := Lib.hid hch
          have HOW1 := Lib.hid (ownsRow_same hown (fun b hb => HB15.out.block b (hown.lt b hb.symm).2))
          have hbs := HBB.out.size
          clear hown hch
          go_wp2_with (at_builtin; refine wpList_append_one _ rfl _ _ 22 rfl W12.heap.size 26 i1 _ 6 104 Tryd.underlying22 HI.out HZ0.out HZ1.out HZ2.out rfl (by decide) _ _ cs rfl (HOW1.out.alloc _) ⟨W15.heap.size, 0, none⟩ 1 (six 5 0 ⟨#[]⟩ la14 n14 lc14 ka14 0 kc14 va14 0 vc14) rfl rfl (cell_new W15 _ _) (six_one _ _ _ _ _ _ _ _ _ _ _ _) (by unfold maxLen; omega) (by omega) (by simp; omega) ?_; intro v' w16 hap
                       have F := Lib.hid (RowsG.next hbs HOWN.out HCH.out (HB15.out.alloc HB15.out.size _) (rv_new HV15.out HOWN.out (by omega) hs15) hap)
                       obtain ⟨vg, vcap, rfl⟩ := hap.made
                       clear hap)
          go_roundw
          case rel =>
            refine ⟨q + 1, rfl, hlt2, ?_, HBB.out.trans F.out.2⟩
            rw [HTK.out]
            exact F.out.1
          case measure => simp [intOf]; omega
        obtain rfl : q = n8 := by omega
        rw [List.take_of_length_le (by rw [HN8.out]; exact Nat.le_refl _), ← trans_reverse] at HRG
        obtain ⟨a9, c9, rfl, hrl9⟩ := HRG.out.done
        obtain ⟨n9, hn9⟩ : ∃ n9, (transV L.reverse).length = n9 := ⟨_, rfl⟩
        rw [hn9]
        have HW16 := Lib.hid (kv_mkL hrl9 n9 c9 hn9)
        have Zr := Lib.hid (keep HBB.out Z12.out)
        have HRr := Lib.hid (HR12.out.keep HBB.out)
        have Br := Lib.hid (B12.out.trans (HBB.out.mono B12.out.size))
        have hcr := cells7 Zr.out
        clear hrl9 hn9
        go_wp2_with fail
        clear hcr
        refine (transpose_any L.reverse (fun x hx => HRW.out x (by simpa using hx)) (good_reverse HG.out) (by rw [sizeL_reverse]; omega) wr _ HRr.out).mono ?_
        rintro e w17 ⟨la17, ka17, va17, n17, lc17, kc17, vc17, rfl, hn17, hv17, hb17⟩
        have HT17 := Lib.hid (KV.of hv17)
        have HW17 := Lib.hid (HW16.out.keep hb17)
        have Z17 := Lib.hid (keep hb17 Zr.out)
        have B17 := Lib.hid (Br.out.trans (hb17.mono Br.out.size))
        clear hv17 hb17 hn17
        go_upto_region 23 with fail
        generalize hW : World.alloc w17 _ = W18
        have b18 : Below w17.heap.size w17 W18 := hW ▸ below_alloc w17 _
        have z18 : W18.heap[w17.heap.size]? = some (.cells #[.int .i64 5, .int .i64 0, .string ⟨#[]⟩, .slice la17 n17 lc17, .slice ka17 0 kc17, .slice va17 0 vc17, .int .i64 0] 30 (0, 0)) := hW ▸ block_new w17 _ _
        have HT18 := Lib.hid (HT17.out.keep b18)
        have HW18 := Lib.hid (HW17.out.keep b18)
        have B18 := Lib.hid (B17.out.trans (b18.mono B17.out.size))
        have hs18 : TwoBlocks w11.heap.size w17.heap.size (.cells #[.int .i64 5, .int .i64 0, .string ⟨#[]⟩, .slice la11 n11 lc11, .slice ka11 0 kc11, .slice va11 0 vc11, .int .i64 0] 30 (0, 0)) (.cells #[.int .i64 5, .int .i64 0, .string ⟨#[]⟩, .slice la17 n17 lc17, .slice ka17 0 kc17, .slice va17 0 vc17, .int .i64 0] 30 (0, 0)) W18 := ⟨keep b18 Z17.out, z18⟩
        clear hW b18 z18
        refine wp_region_D (TwoBlocks w11.heap.size w17.heap.size (.cells #[.int .i64 5, .int .i64 0, .string ⟨#[]⟩, .slice la11 n11 lc11, .slice ka11 0 kc11, .slice va11 0 vc11, .int .i64 0] 30 (0, 0)) (.cells #[.int .i64 5, .int .i64 0, .string ⟨#[]⟩, .slice la17 n17 lc17, .slice ka17 0 kc17, .slice va17 0 vc17, .int .i64 0] 30 (0, 0))) [16, 17, 18] (by kernel_rfl) ?_
        generalize hWd : World.drew W18 = W19
        have hS3 : TwoBlocks w11.heap.size w17.heap.size (.cells #[.int .i64 5, .int .i64 0, .string ⟨#[]⟩, .slice la11 n11 lc11, .slice ka11 0 kc11, .slice va11 0 vc11, .int .i64 0] 30 (0, 0)) (.cells #[.int .i64 5, .int .i64 0, .string ⟨#[]⟩, .slice la17 n17 lc17, .slice ka17 0 kc17, .slice va17 0 vc17, .int .i64 0] 30 (0, 0)) W19 := hWd ▸ hs18
        have b19 : Below W18.heap.size W18 W19 := hWd ▸ (Below.refl _ _).drew
        have HT19 := Lib.hid (HT18.out.keep b19)
        have HW19 := Lib.hid (HW18.out.keep b19)
        have B19 := Lib.hid (B18.out.trans (b19.mono B18.out.size))
        clear hWd hs18 b19
        (refine wpAnyD_take (i := 0) (v := ?_) [1, 2, 3, 4, 5, 6, 7, 8, 9, 10, 11, 12, 13, 14, 15, 16, 17, 18] [16, 17, 18] rfl (by kernel_rfl) (by kernel_rfl) (by kernel_rfl) (fun _ _ _ h => h) (by kernel_rfl) (by kernel_rfl) (by kernel_rfl) (Or.inl ⟨?_, ?_⟩) hS3 ?_
         rotate_left
         focus rfl
         focus (intro w' hw'; have hw1 := cells7 hw'.1; have hw2 := cells7 hw'.2; clear hw'; go_simp; with_reducible rfl)
         try go_simp)
        (refine wpAnyD_take (i := 1) (v := ?_) [2, 3, 4, 5, 6, 7, 8, 9, 10, 11, 12, 13, 14, 15, 16, 17, 18] [16, 17, 18] rfl (by kernel_rfl) (by kernel_rfl) (by kernel_rfl) (fun _ _ _ h => h) (by kernel_rfl) (by kernel_rfl) (by kernel_rfl) (Or.inl ⟨?_, ?_⟩) hS3 ?_
         rotate_left
         focus rfl
         focus (intro w' hw'; have hw1 := cells7 hw'.1; have hw2 := cells7 hw'.2; clear hw'; go_simp; with_reducible rfl)
         try go_simp)
        (refine wpAnyD_take (i := 2) (v := ?_) [3, 4, 5, 6, 7, 8, 9, 10, 11, 12, 13, 14, 15, 16, 17, 18] [16, 17, 18] rfl (by kernel_rfl) (by kernel_rfl) (by kernel_rfl) (fun _ _ _ h => h) (by kernel_rfl) (by kernel_rfl) (by kernel_rfl) (Or.inl ⟨?_, ?_⟩) hS3 ?_
         rotate_left
         focus rfl
         focus (intro w' hw'; have hw1 := cells7 hw'.1; have hw2 := cells7 hw'.2; clear hw'; go_simp; with_reducible rfl)
         try go_simp)
        (refine wpAnyD_take (i := 3) (v := ?_) [4, 5, 6, 7, 8, 9, 10, 11, 12, 13, 14, 15, 16, 17, 18] [16, 17, 18] rfl (by kernel_rfl) (by kernel_rfl) (by kernel_rfl) (fun _ _ _ h => h) (by kernel_rfl) (by kernel_rfl) (by kernel_rfl) (Or.inl ⟨?_, ?_⟩) hS3 ?_
         rotate_left
         focus rfl
         focus (intro w' hw'; have hw1 := cells7 hw'.1; have hw2 := cells7 hw'.2; clear hw'; go_simp; with_reducible rfl)
         try go_simp)
        (refine wpAnyD_take (i := 4) (v := ?_) [5, 6, 7, 8, 9, 10, 11, 12, 13, 14, 15, 16, 17, 18] [16, 17, 18] rfl (by kernel_rfl) (by kernel_rfl) (by kernel_rfl) (fun _ _ _ h => h) (by kernel_rfl) (by kernel_rfl) (by kernel_rfl) (Or.inl ⟨?_, ?_⟩) hS3 ?_
         rotate_left
         focus rfl
         focus (intro w' hw'; have hw1 := cells7 hw'.1; have hw2 := cells7 hw'.2; clear hw'; go_simp; with_reducible rfl)
         try go_simp)
        (refine wpAnyD_take (i := 5) (v := ?_) [6, 7, 8, 9, 10, 11, 12, 13, 14, 15, 16, 17, 18] [16, 17, 18] rfl (by kernel_rfl) (by kernel_rfl) (by kernel_rfl) (fun _ _ _ h => h) (by kernel_rfl) (by kernel_rfl) (by kernel_rfl) (Or.inl ⟨?_, ?_⟩) hS3 ?_
         rotate_left
         focus rfl
         focus (intro w' hw'; have hw1 := cells7 hw'.1; have hw2 := cells7 hw'.2; clear hw'; go_simp; with_reducible rfl)
         try go_simp)
        (refine wpAnyD_take (i := 6) (v := ?_) [7, 8, 9, 10, 11, 12, 13, 14, 15, 16, 17, 18] [16, 17, 18] rfl (by kernel_rfl) (by kernel_rfl) (by kernel_rfl) (fun _ _ _ h => h) (by kernel_rfl) (by kernel_rfl) (by kernel_rfl) (Or.inl ⟨?_, ?_⟩) hS3 ?_
         rotate_left
         focus rfl
         focus (intro w' hw'; have hw1 := cells7 hw'.1; have hw2 := cells7 hw'.2; clear hw'; go_simp; with_reducible rfl)
         try go_simp)
        (refine wpAnyD_take (i := 7) (v := ?_) [8, 9, 10, 11, 12, 13, 14, 15, 16, 17, 18] [16, 17, 18] rfl (by kernel_rfl) (by kernel_rfl) (by kernel_rfl) (fun _ _ _ h => h) (by kernel_rfl) (by kernel_rfl) (by kernel_rfl) (Or.inl ⟨?_, ?_⟩) hS3 ?_
         rotate_left
         focus rfl
         focus (intro w' hw'; have hw1 := cells7 hw'.1; have hw2 := cells7 hw'.2; clear hw'; go_simp; with_reducible rfl)
         try go_simp)
        (refine wpAnyD_take (i := 8) (v := ?_) [9, 10, 11, 12, 13, 14, 15, 16, 17, 18] [16, 17, 18] rfl (by kernel_rfl) (by kernel_rfl) (by kernel_rfl) (fun _ _ _ h => h) (by kernel_rfl) (by kernel_rfl) (by kernel_rfl) (Or.inl ⟨?_, ?_⟩) hS3 ?_
         rotate_left
         focus rfl
         focus (intro w' hw'; have hw1 := cells7 hw'.1; have hw2 := cells7 hw'.2; clear hw'; go_simp; with_reducible rfl)
         try go_simp)
        (refine wpAnyD_take (i := 9) (v := ?_) [10, 11, 12, 13, 14, 15, 16, 17, 18] [16, 17, 18] rfl (by kernel_rfl) (by kernel_rfl) (by kernel_rfl) (fun _ _ _ h => h) (by kernel_rfl) (by kernel_rfl) (by kernel_rfl) (Or.inl ⟨?_, ?_⟩) hS3 ?_
         rotate_left
         focus rfl
         focus (intro w' hw'; have hw1 := cells7 hw'.1; have hw2 := cells7 hw'.2; clear hw'; go_simp; with_reducible rfl)
         try go_simp)
        (refine wpAnyD_take (i := 10) (v := ?_) [11, 12, 13, 14, 15, 16, 17, 18] [16, 17, 18] rfl (by kernel_rfl) (by kernel_rfl) (by kernel_rfl) (fun _ _ _ h => h) (by kernel_rfl) (by kernel_rfl) (by kernel_rfl) (Or.inl ⟨?_, ?_⟩) hS3 ?_
         rotate_left
         focus rfl
         focus (intro w' hw'; have hw1 := cells7 hw'.1; have hw2 := cells7 hw'.2; clear hw'; go_simp; with_reducible rfl)
         try go_simp)
        (refine wpAnyD_take (i := 11) (v := ?_) [12, 13, 14, 15, 16, 17, 18] [16, 17, 18] rfl (by kernel_rfl) (by kernel_rfl) (by kernel_rfl) (fun _ _ _ h => h) (by kernel_rfl) (by kernel_rfl) (by kernel_rfl) (Or.inl ⟨?_, ?_⟩) hS3 ?_
         rotate_left
         focus rfl
         focus (intro w' hw'; have hw1 := cells7 hw'.1; have hw2 := cells7 hw'.2; clear hw'; go_simp; with_reducible rfl)
         try go_simp)
        (refine wpAnyD_take (i := 12) (v := ?_) [13, 14, 15, 16, 17, 18] [16, 17, 18] rfl (by kernel_rfl) (by kernel_rfl) (by kernel_rfl) (fun _ _ _ h => h) (by kernel_rfl) (by kernel_rfl) (by kernel_rfl) (Or.inl ⟨?_, ?_⟩) hS3 ?_
         rotate_left
         focus rfl
         focus (intro w' hw'; have hw1 := cells7 hw'.1; have hw2 := cells7 hw'.2; clear hw'; go_simp; with_reducible rfl)
         try go_simp)
        (refine wpAnyD_take (i := 13) (v := ?_) [16, 17, 18] [16, 17, 18] rfl (by kernel_rfl) (by kernel_rfl) (by kernel_rfl) (fun _ _ _ h => h) (by kernel_rfl) (by kernel_rfl) (by kernel_rfl) (Or.inl ⟨?_, ?_⟩) hS3 ?_
         rotate_left
         focus rfl
         focus (intro w' hw'; have hw1 := cells7 hw'.1; have hw2 := cells7 hw'.2; clear hw'; go_simp; with_reducible rfl)
         try go_simp)
        (refine wpAnyD_take (i := 14) (v := ?_) [15, 16, 17, 18] [16, 17, 18] rfl (by kernel_rfl) (by kernel_rfl) (by kernel_rfl) (fun _ _ _ h => h) (by kernel_rfl) (by kernel_rfl) (by kernel_rfl) (Or.inl ⟨?_, ?_⟩) hS3 ?_
         rotate_left
         focus rfl
         focus (intro w' hw'; have hw1 := cells7 hw'.1; have hw2 := cells7 hw'.2; clear hw'; go_simp; with_reducible rfl)
         try go_simp)
        refine wpAnyD_ready (rs := [15]) (by kernel_rfl) (by simp) ?_
        refine AllReadyD.cons rfl (fun K hK => ?_) AllReadyD.nil
        go_simp
        refine (array_any W19 a9 n9 c9).mono ?_
        rintro e w20 ⟨rfl, hb20⟩
        have HT20 := Lib.hid (HT19.out.keep hb20)
        have HW20 := Lib.hid (HW19.out.keep hb20)
        have B20 := Lib.hid (B19.out.trans (hb20.mono B19.out.size))
        refine hK.out _ _ (fun _ => ⟨keep hb20 hS3.1, keep hb20 hS3.2⟩) ?_
        clear hK K hb20 hS3
        try go_simp
        refine wpAnyD_ready (rs := [16]) (by kernel_rfl) (by simp) ?_
        refine AllReadyD.cons rfl (fun K hK => ?_) AllReadyD.nil
        go_simp
        refine (given_fine _ _ _ _ _ _ _ _ _ _ _ _ _ _ _ _ _ _ _ _ _ _ _ _ w20 (mkL (transV L.reverse)) (cmp_good 400000 _ (by have := size_trans (rows := L.reverse) (by rw [sizeL_reverse]; omega); rw [size_mkL]; omega) (by omega) (good_mkL (good_trans (good_reverse HG.out)))) _ HT20.out HW20.out (fun _ h => h)).mono ?_
        rintro e w21 ⟨rfl, hb21⟩
        have B21 := Lib.hid (B20.out.trans (hb21.mono B20.out.size))
        refine hK.out _ _ (fun h => absurd h (by decide)) ?_
        clear hK K hb21
        try go_simp
        refine wpAnyD_ready (rs := [17]) (by kernel_rfl) (by simp) ?_
        refine AllReadyD.cons rfl (fun K hK => ?_) AllReadyD.nil
        go_simp
        refine hK.out _ _ (fun h => absurd h (by decide)) ?_
        clear hK K
        try go_simp
        refine wpAnyD_ready (rs := [18]) (by kernel_rfl) (by simp) ?_
        refine AllReadyD.cons rfl (fun K hK => ?_) AllReadyD.nil
        go_simp
        refine hK.out _ _ (fun h => absurd h (by decide)) ?_
        clear hK K
        try go_simp
        refine wpAnyD_done (by kernel_rfl) ?_ _
        go_wp2_with fail
        go_returns
        exact ⟨rfl, B21.out⟩

end Go.Proofs.YtnlndpgbhmkanaaDoor.Va
