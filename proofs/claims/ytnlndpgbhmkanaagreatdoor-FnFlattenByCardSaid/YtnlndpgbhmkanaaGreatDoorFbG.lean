/-
  FnFlattenBy: the law's walk.
-/
import Derived.Test.YtnlndpgbhmkanaaGreatDoorFbF
namespace Go.Proofs.YtnlndpgbhmkanaaGreatDoor.Va
open Go.RowKit
set_option linter.unusedVariables false
set_option linter.unusedSimpArgs false

set_option maxRecDepth 100000 in
theorem dep_table2 : ((List.range 120).all fun i => Op.floatEq .f64 (fi (i : Int)) 0 == decide ((i : Int) = 0) && Ieee.double.sub (fi (i : Int)) one == some (fi ((i : Int) - 1))) = true := by kernel_rfl
theorem dep_at2 (d : Int) (h1 : 0 ≤ d) (h2 : d < 120) : Op.floatEq .f64 (fi d) 0 = decide (d = 0) ∧ Ieee.double.sub (fi d) one = some (fi (d - 1)) := by
  have := List.all_eq_true.1 dep_table2 d.toNat (List.mem_range.2 (by omega))
  have e : ((d.toNat : Nat) : Int) = d := by omega
  rw [e] at this
  simpa using this
theorem dep_big : ∀ (n : Nat) (d : Int), d < 120 → Dep n (floatOfInt .f64 d) d
  | n, d, h2 => by
    by_cases hneg : d < 0
    · exact dep_int n d hneg
    · cases n with
      | zero => exact (dep_at2 d (by omega) h2).1
      | succ n => exact ⟨(dep_at2 d (by omega) h2).1, _, (dep_at2 d (by omega) h2).2, dep_big n (d - 1) (by omega)⟩

theorem sets6_block {w : World} {b : Nat} {a0 a1 a2 a3 a4 a5 : Value} {t : TypeId} (h : w.heap[b]? = some (.cells #[a0, a1, a2, a3, a4, a5] t (0, 0))) (v0 v1 v2 v3 v4 v5 : Value) :
    ((((((w.setCell ⟨b, 0, none⟩ v0).setCell ⟨b, 1, none⟩ v1).setCell ⟨b, 2, none⟩ v2).setCell ⟨b, 3, none⟩ v3).setCell ⟨b, 4, none⟩ v4).setCell ⟨b, 5, none⟩ v5).heap[b]? = some (.cells #[v0, v1, v2, v3, v4, v5] t (0, 0)) :=
  set_block (set_block (set_block (set_block (set_block (set_block h 0 v0) 1 v1) 2 v2) 3 v3) 4 v4) 5 v5
theorem size_sets6 (w : World) (b : Nat) (v0 v1 v2 v3 v4 v5 : Value) : ((((((w.setCell ⟨b, 0, none⟩ v0).setCell ⟨b, 1, none⟩ v1).setCell ⟨b, 2, none⟩ v2).setCell ⟨b, 3, none⟩ v3).setCell ⟨b, 4, none⟩ v4).setCell ⟨b, 5, none⟩ v5).heap.size = w.heap.size := by simp


set_option maxHeartbeats 8000000 in
set_option maxRecDepth 100000 in
theorem flattenBy_law (l : List V) (hx : WfL l) (n : Nat) (hn : l.length = n) (hq : n ≤ 140737488355328) (a : Option Addr) (c : Nat) (S : Nat → Prop) (w : World) (h : RL w S l a) (hS : ∀ b, S b → b < w.heap.size) (hT : Tabs w) (D : Int) (hD0 : -9223372036854775808 ≤ D) (hD1 : D ≤ 9223372036854775807) :
    Calls Tryz.prog 3 #[.slice a n c, .int .i64 D] w (TrueEnd w) := by
  have HX := Lib.hid hx
  have HN := Lib.hid hn
  have HL := Lib.hid (RL.mono (T := fun b => b < w.heap.size) (fun _ _ => rfl) hS _ _ h)
  have HT := Lib.hid hT
  have HV0 := Lib.hid (kv_mkL h n c hn)
  clear hx hn h hS hT
  by_cases hbig : (2147483647 : Int) < n
  · go_enter Tryz.func3, Tryz.ntmps3
    go_wp2_with fail
    go_returns
    exact ⟨rfl, Below.refl _ _⟩
  go_enter Tryz.func3, Tryz.ntmps3
  go_wp2_with fail
  refine (array_any w a n c).mono ?_
  rintro e w1 ⟨rfl, hb1⟩
  have B1 := Lib.hid hb1
  have HV1 := Lib.hid (HV0.out.keep hb1)
  clear hb1
  go_wp2_with fail
  generalize hW : World.alloc w1 _ = W2
  have b2 : Below w1.heap.size w1 W2 := hW ▸ below_alloc w1 _
  have zs : W2.heap[w1.heap.size]? = some (.cells #[.int .i64 5, .int .i64 0, .string ⟨#[]⟩, .slice a n c, .slice none 0 0, .slice none 0 0] 27 (0, 0)) := hW ▸ block_new w1 _ _
  clear hW
  have B2 := Lib.hid (B1.out.trans (b2.mono B1.out.size))
  have HV2 := Lib.hid (HV1.out.keep b2)
  refine (fits_any [mkL l] (by rw [WfL, WfL]; exact ⟨wf_mkL HX.out (by rw [HN.out]; exact hq), trivial⟩) 1 rfl (by omega) _ 1 _ W2 (rl_one zs HV2.out) (fun _ h => h) (HT.out.below B2.out)).mono ?_
  rintro e w3 ⟨r, rfl, hb3, hgd⟩
  have B3 := Lib.hid (B2.out.trans (hb3.mono B2.out.size))
  have HV3 := Lib.hid (HV2.out.keep hb3)
  clear b2 zs hb3
  cases r
  · go_wp2_with fail
    go_returns
    exact ⟨rfl, B3.out⟩
  obtain ⟨hg, hsz⟩ := hgd rfl (mkL l) (by simp)
  have HG := Lib.hid (good_list hg)
  rw [size_mkL] at hsz
  clear hgd hg
  go_wp2_with fail
  refine (array_any w3 a n c).mono ?_
  rintro e w4 ⟨rfl, hb4⟩
  have B4 := Lib.hid (B3.out.trans (hb4.mono B3.out.size))
  have HV4 := Lib.hid (HV3.out.keep hb4)
  have HL4 := Lib.hid (RL.mono (Same.of_below B4.out fun b hb => hb) (fun _ h => h) _ _ HL.out)
  clear hb4
  go_wp2_with fail
  refine (call0_flat w.heap.size l n HN.out (by omega) a c w4 HL4.out B4.out.size HG.out).mono ?_
  rintro e w5 ⟨ax, nx, cx, rfl, hnx, hrx, hb5⟩
  have B5 := Lib.hid (B4.out.trans (hb5.mono B4.out.size))
  have HV5 := Lib.hid (HV4.out.keep hb5)
  have HX5 := Lib.hid (kv_mkL hrx nx cx hnx)
  clear hnx hrx hb5
  by_cases hD : 0 ≤ D
  · go_upto_region 7 with fail
    generalize hW : World.alloc w5 _ = W6
    have b6 : Below w5.heap.size w5 W6 := hW ▸ below_alloc w5 _
    have Z6 := Lib.hid (hW ▸ block_new w5 _ _ : W6.heap[w5.heap.size]? = some (.cells #[.int .i64 5, .int .i64 0, .string ⟨#[]⟩, .slice ax nx cx, .slice none 0 0, .slice none 0 0] 27 (0, 0)))
    clear hW
    have BB6 := Lib.hid (B5.out.trans (b6.mono B5.out.size))
    have hw5 := B5.out.size
    obtain ⟨b5, hb5⟩ : ∃ b5, w5.heap.size = b5 := ⟨_, rfl⟩
    rw [hb5] at Z6 hw5
    clear b6
    have hm0 : 0 ≤ D % 100 := by omega
    have hm1 : D % 100 < 100 := by omega
    go_wp2_with fail
    rw [hb5]
    refine (array_any W6 a n c).mono ?_
    rintro e w7 ⟨rfl, hb7⟩
    have B7 := Lib.hid (BB6.out.trans (hb7.mono BB6.out.size))
    have Z7 := Lib.hid (keep hb7 Z6.out)
    clear hb7
    go_wp2_with fail
    refine (number_flat (D % 100) hm0 (by omega) w7).mono ?_
    rintro e w8 ⟨rfl, hb8⟩
    have B8 := Lib.hid (B7.out.trans (hb8.mono B7.out.size))
    have Z8 := Lib.hid (keep hb8 Z7.out)
    clear hb8
    go_wp2_with fail
    generalize hW : World.alloc w8 _ = W9
    have b9 : Below w8.heap.size w8 W9 := hW ▸ below_alloc w8 _
    have zA : W9.heap[w8.heap.size]? = some (.cells #[.int .i64 3, .int .i64 (2 * (D % 100)), .string ⟨#[]⟩, .slice none 0 0, .slice none 0 0, .slice none 0 0] 27 (0, 0)) := hW ▸ block_new w8 _ _
    clear hW
    have B9 := Lib.hid (B8.out.trans (b9.mono B8.out.size))
    have Z9 := Lib.hid (keep b9 Z8.out)
    have h59 := heap_lt Z9.out
    refine (call1_flat w.heap.size l n HN.out (by omega) a c W9 (RL.mono (Same.of_below B9.out fun b hb => hb) (fun _ h => h) _ _ HL.out) B9.out.size HG.out (2 * (D % 100)) (D % 100) rfl hm0 (by omega) w8.heap.size zA).mono ?_
    rintro e w10 ⟨ay, ny, cy, rfl, hny, hry, hb10⟩
    have B10 := Lib.hid (B9.out.trans (hb10.mono B9.out.size))
    have HRY := Lib.hid hry
    have HNY := Lib.hid hny
    have Z10 := Lib.hid (keep hb10 Z9.out)
    have hz := cells6 Z10.out
    clear hry hny hb10 b9 zA
    go_upto_region 8 with fail
    have HMIN := Lib.hid (show min D (D.tmod 100) = D % 100 by rw [Int.tmod_eq_emod_of_nonneg hD]; omega)
    have hM : D % 100 < 120 := by omega
    generalize hM' : D % 100 = M at *
    generalize hW : World.setCell (World.setCell (World.setCell (World.setCell (World.setCell (World.setCell w10 _ _) _ _) _ _) _ _) _ _) _ _ = W6'
    have Z5 := Lib.hid (hW ▸ sets6_block Z10.out _ _ _ _ _ _ : W6'.heap[b5]? = some (.cells #[.int .i64 5, .int .i64 0, .string ⟨#[]⟩, .slice ay ny cy, .slice none 0 0, .slice none 0 0] 27 (0, 0)))
    have HX6 := Lib.hid (kv_mkL (w := W6') (RL.mono (fun b hb => hW ▸ sets_other _ _ _ _ _ _ (by have := hb.1; omega)) (fun _ h => h) _ _ HRY.out) ny cy HNY.out)
    have HV6 := Lib.hid (kv_mkL (w := W6') (RL.mono (S := fun b => b < w.heap.size) (w := w10) (fun b hb => hW ▸ sets_other _ _ _ _ _ _ (by omega)) (fun _ h => h) _ _ (RL.mono (Same.of_below B10.out fun b hb => hb) (fun _ h => h) _ _ HL.out)) n c HN.out)
    have BB6' := Lib.hid (hW ▸ sets6 B10.out hw5 _ _ _ _ _ _ : Below w.heap.size w W6')
    clear hW hz BB6 Z6
    have BB6 := BB6'
    clear BB6'
    (refine wp_region_D (TwoBlocks b5 b5 (.cells #[.int .i64 5, .int .i64 0, .string ⟨#[]⟩, .slice ay ny cy, .slice none 0 0, .slice none 0 0] 27 (0, 0)) (.cells #[.int .i64 5, .int .i64 0, .string ⟨#[]⟩, .slice ay ny cy, .slice none 0 0, .slice none 0 0] 27 (0, 0))) [9, 10] (by kernel_rfl) ?_
     generalize hWd : World.drew W6' = W7
     have hS3 : TwoBlocks b5 b5 (.cells #[.int .i64 5, .int .i64 0, .string ⟨#[]⟩, .slice ay ny cy, .slice none 0 0, .slice none 0 0] 27 (0, 0)) (.cells #[.int .i64 5, .int .i64 0, .string ⟨#[]⟩, .slice ay ny cy, .slice none 0 0, .slice none 0 0] 27 (0, 0)) W7 := hWd ▸ ⟨Z5.out, Z5.out⟩
     have b7 : Below W6'.heap.size W6' W7 := hWd ▸ (Below.refl _ _).drew
     have HX7 := Lib.hid (HX6.out.keep b7)
     have HV7 := Lib.hid (HV6.out.keep b7)
     have BB7 := Lib.hid (BB6.out.trans (b7.mono BB6.out.size))
     clear hWd b7
     (refine wpAnyD_take (i := 0) (v := ?_) [1, 6, 9, 10] [9, 10] rfl (by kernel_rfl) (by kernel_rfl) (by kernel_rfl) (fun _ _ _ h => h) (by kernel_rfl) (by kernel_rfl) (by kernel_rfl) (Or.inl ⟨?_, ?_⟩) hS3 ?_
      rotate_left
      focus rfl
      focus (intro w' hw'; have hw1 := cells6 hw'.1; clear hw'; go_simp; with_reducible rfl)
      try go_simp)
     (refine wpAnyD_take (i := 2) (v := ?_) [5, 6, 9, 10] [9, 10] rfl (by kernel_rfl) (by kernel_rfl) (by kernel_rfl) (fun _ _ _ h => h) (by kernel_rfl) (by kernel_rfl) (by kernel_rfl) (Or.inl ⟨?_, ?_⟩) hS3 ?_
      rotate_left
      focus rfl
      focus (intro w' hw'; have hw1 := cells6 hw'.1; clear hw'; go_simp; with_reducible rfl)
      try go_simp)
     (refine wpAnyD_take (i := 3) (v := ?_) [4, 5, 6, 9, 10] [9, 10] rfl (by kernel_rfl) (by kernel_rfl) (by kernel_rfl) (fun _ _ _ h => h) (by kernel_rfl) (by kernel_rfl) (by kernel_rfl) (Or.inl ⟨?_, ?_⟩) hS3 ?_
      rotate_left
      focus rfl
      focus (intro w' hw'; have hw1 := cells6 hw'.1; clear hw'; go_simp; with_reducible rfl)
      try go_simp)
     (refine wpAnyD_take (i := 4) (v := ?_) [5, 6, 9, 10] [9, 10] rfl (by kernel_rfl) (by kernel_rfl) (by kernel_rfl) (fun _ _ _ h => h) (by kernel_rfl) (by kernel_rfl) (by kernel_rfl) (Or.inl ⟨?_, ?_⟩) hS3 ?_
      rotate_left
      focus rfl
      focus (intro w' hw'; have hw1 := cells6 hw'.1; clear hw'; go_simp; with_reducible rfl)
      try go_simp)
     (refine wpAnyD_take (i := 5) (v := ?_) [6, 9, 10] [9, 10] rfl (by kernel_rfl) (by kernel_rfl) (by kernel_rfl) (fun _ _ _ h => h) (by kernel_rfl) (by kernel_rfl) (by kernel_rfl) (Or.inl ⟨?_, ?_⟩) hS3 ?_
      rotate_left
      focus rfl
      focus (intro w' hw'; have hw1 := cells6 hw'.1; clear hw'; go_simp; with_reducible rfl)
      try go_simp)
     (refine wpAnyD_take (i := 7) (v := ?_) [9, 10] [9, 10] rfl (by kernel_rfl) (by kernel_rfl) (by kernel_rfl) (fun _ _ _ h => h) (by kernel_rfl) (by kernel_rfl) (by kernel_rfl) (Or.inl ⟨?_, ?_⟩) hS3 ?_
      rotate_left
      focus rfl
      focus (intro w' hw'; have hw1 := cells6 hw'.1; clear hw'; go_simp; with_reducible rfl)
      try go_simp)
     (refine wpAnyD_take (i := 8) (v := ?_) [9, 10] [9, 10] rfl (by kernel_rfl) (by kernel_rfl) (by kernel_rfl) (fun _ _ _ h => h) (by kernel_rfl) (by kernel_rfl) (by kernel_rfl) (Or.inl ⟨?_, ?_⟩) hS3 ?_
      rotate_left
      focus rfl
      focus (intro w' hw'; have hw1 := cells6 hw'.1; clear hw'; go_simp; with_reducible rfl)
      try go_simp)
     refine wpAnyD_ready (rs := [1]) (by kernel_rfl) (by simp) ?_
     refine AllReadyD.cons rfl (fun K hK => ?_) AllReadyD.nil
     go_simp
     refine (array_any W7 a n c).mono ?_
     rintro e w8 ⟨rfl, hb8⟩
     have HX8 := Lib.hid (HX7.out.keep hb8)
     have HV8 := Lib.hid (HV7.out.keep hb8)
     have BB8 := Lib.hid (BB7.out.trans (hb8.mono BB7.out.size))
     have hS8 : TwoBlocks b5 b5 (.cells #[.int .i64 5, .int .i64 0, .string ⟨#[]⟩, .slice ay ny cy, .slice none 0 0, .slice none 0 0] 27 (0, 0)) (.cells #[.int .i64 5, .int .i64 0, .string ⟨#[]⟩, .slice ay ny cy, .slice none 0 0, .slice none 0 0] 27 (0, 0)) w8 := ⟨keep hb8 hS3.1, keep hb8 hS3.2⟩
     refine hK.out _ _ (fun _ => hS8) ?_
     clear hK K hS3 hb8
     have hS3 := hS8
     clear hS8
     try go_simp
     refine wpAnyD_ready (rs := [6]) (by kernel_rfl) (by simp) ?_
     refine AllReadyD.cons rfl (fun K hK => ?_) AllReadyD.nil
     go_simp
     rw [HMIN.out]
     refine ((flattenBy_any l HG.out (by omega) M (dep_big 400 M hM) _ w8 _ HV8.out (fun _ h => h)).mono fun _ _ h => ResL.of h).mono ?_
     rintro e w9 ⟨la9, ka9, va9, n9, lc9, kc9, vc9, rfl, hn9, hv9, hb9⟩
     have HX9 := Lib.hid (HX8.out.keep hb9)
     have HY9 := Lib.hid hv9
     have BB9 := Lib.hid (BB8.out.trans (hb9.mono BB8.out.size))
     refine hK.out _ _ (fun _ => ⟨keep hb9 hS3.1, keep hb9 hS3.2⟩) ?_
     clear hK K hS3 hb9 hv9 hn9
     try go_simp
     refine wpAnyD_ready (rs := [9]) (by kernel_rfl) (by simp) ?_
     refine AllReadyD.cons rfl (fun K hK => ?_) AllReadyD.nil
     go_simp
     refine (told_fine _ _ _ _ _ _ _ _ _ _ _ _ _ _ _ _ _ _ _ _ _ _ _ _ w9 (mkL (flatL l M)) (cw_mkL (flatL_good _ _ HG.out) (by have := flatL_size l M; omega)) _ HY9.out HX9.out (fun _ h => h)).mono ?_
     rintro e w10 ⟨rfl, hb10⟩
     have BB10 := Lib.hid (BB9.out.trans (hb10.mono BB9.out.size))
     refine hK.out _ _ (fun h => absurd h (by decide)) ?_
     clear hK K hb10
     try go_simp
     refine wpAnyD_ready (rs := [10]) (by kernel_rfl) (by simp) ?_
     refine AllReadyD.cons rfl (fun K hK => ?_) AllReadyD.nil
     go_simp
     refine hK.out _ _ (fun h => absurd h (by decide)) ?_
     clear hK K
     try go_simp
     refine wpAnyD_done (by kernel_rfl) ?_ _
     go_wp2_with fail
     go_returns
     exact ⟨rfl, BB10.out⟩)
  · go_upto_region 8 with fail
    generalize hW : World.alloc w5 _ = W6
    have b6 : Below w5.heap.size w5 W6 := hW ▸ below_alloc w5 _
    have Z5 := Lib.hid (hW ▸ block_new w5 _ _ : W6.heap[w5.heap.size]? = some (.cells #[.int .i64 5, .int .i64 0, .string ⟨#[]⟩, .slice ax nx cx, .slice none 0 0, .slice none 0 0] 27 (0, 0)))
    clear hW
    have HX6 := Lib.hid (HX5.out.keep b6)
    have HV6 := Lib.hid (HV5.out.keep b6)
    have BB6 := Lib.hid (B5.out.trans (b6.mono B5.out.size))
    obtain ⟨b5, hb5⟩ : ∃ b5, w5.heap.size = b5 := ⟨_, rfl⟩
    rw [hb5] at Z5 ⊢
    have HMIN := Lib.hid (show min D (D.tmod 100) = D by
      have h1 : -D.tmod 100 = (-D).tmod 100 := (Int.neg_tmod _ _).symm
      rw [Int.tmod_eq_emod_of_nonneg (show 0 ≤ -D by omega)] at h1
      omega)
    have hM : D < 120 := by omega
    rw [flatL_neg l (-1) D (by omega) (by omega)] at HX6
    generalize hM' : D = M at HMIN hM HX6
    (refine wp_region_D (TwoBlocks b5 b5 (.cells #[.int .i64 5, .int .i64 0, .string ⟨#[]⟩, .slice ax nx cx, .slice none 0 0, .slice none 0 0] 27 (0, 0)) (.cells #[.int .i64 5, .int .i64 0, .string ⟨#[]⟩, .slice ax nx cx, .slice none 0 0, .slice none 0 0] 27 (0, 0))) [9, 10] (by kernel_rfl) ?_
     generalize hWd : World.drew W6 = W7
     have hS3 : TwoBlocks b5 b5 (.cells #[.int .i64 5, .int .i64 0, .string ⟨#[]⟩, .slice ax nx cx, .slice none 0 0, .slice none 0 0] 27 (0, 0)) (.cells #[.int .i64 5, .int .i64 0, .string ⟨#[]⟩, .slice ax nx cx, .slice none 0 0, .slice none 0 0] 27 (0, 0)) W7 := hWd ▸ ⟨Z5.out, Z5.out⟩
     have b7 : Below W6.heap.size W6 W7 := hWd ▸ (Below.refl _ _).drew
     have HX7 := Lib.hid (HX6.out.keep b7)
     have HV7 := Lib.hid (HV6.out.keep b7)
     have BB7 := Lib.hid (BB6.out.trans (b7.mono BB6.out.size))
     clear hWd b7
     (refine wpAnyD_take (i := 0) (v := ?_) [1, 6, 9, 10] [9, 10] rfl (by kernel_rfl) (by kernel_rfl) (by kernel_rfl) (fun _ _ _ h => h) (by kernel_rfl) (by kernel_rfl) (by kernel_rfl) (Or.inl ⟨?_, ?_⟩) hS3 ?_
      rotate_left
      focus rfl
      focus (intro w' hw'; have hw1 := cells6 hw'.1; clear hw'; go_simp; with_reducible rfl)
      try go_simp)
     (refine wpAnyD_take (i := 2) (v := ?_) [5, 6, 9, 10] [9, 10] rfl (by kernel_rfl) (by kernel_rfl) (by kernel_rfl) (fun _ _ _ h => h) (by kernel_rfl) (by kernel_rfl) (by kernel_rfl) (Or.inl ⟨?_, ?_⟩) hS3 ?_
      rotate_left
      focus rfl
      focus (intro w' hw'; have hw1 := cells6 hw'.1; clear hw'; go_simp; with_reducible rfl)
      try go_simp)
     (refine wpAnyD_take (i := 3) (v := ?_) [4, 5, 6, 9, 10] [9, 10] rfl (by kernel_rfl) (by kernel_rfl) (by kernel_rfl) (fun _ _ _ h => h) (by kernel_rfl) (by kernel_rfl) (by kernel_rfl) (Or.inl ⟨?_, ?_⟩) hS3 ?_
      rotate_left
      focus rfl
      focus (intro w' hw'; have hw1 := cells6 hw'.1; clear hw'; go_simp; with_reducible rfl)
      try go_simp)
     (refine wpAnyD_take (i := 4) (v := ?_) [5, 6, 9, 10] [9, 10] rfl (by kernel_rfl) (by kernel_rfl) (by kernel_rfl) (fun _ _ _ h => h) (by kernel_rfl) (by kernel_rfl) (by kernel_rfl) (Or.inl ⟨?_, ?_⟩) hS3 ?_
      rotate_left
      focus rfl
      focus (intro w' hw'; have hw1 := cells6 hw'.1; clear hw'; go_simp; with_reducible rfl)
      try go_simp)
     (refine wpAnyD_take (i := 5) (v := ?_) [6, 9, 10] [9, 10] rfl (by kernel_rfl) (by kernel_rfl) (by kernel_rfl) (fun _ _ _ h => h) (by kernel_rfl) (by kernel_rfl) (by kernel_rfl) (Or.inl ⟨?_, ?_⟩) hS3 ?_
      rotate_left
      focus rfl
      focus (intro w' hw'; have hw1 := cells6 hw'.1; clear hw'; go_simp; with_reducible rfl)
      try go_simp)
     (refine wpAnyD_take (i := 7) (v := ?_) [9, 10] [9, 10] rfl (by kernel_rfl) (by kernel_rfl) (by kernel_rfl) (fun _ _ _ h => h) (by kernel_rfl) (by kernel_rfl) (by kernel_rfl) (Or.inl ⟨?_, ?_⟩) hS3 ?_
      rotate_left
      focus rfl
      focus (intro w' hw'; have hw1 := cells6 hw'.1; clear hw'; go_simp; with_reducible rfl)
      try go_simp)
     (refine wpAnyD_take (i := 8) (v := ?_) [9, 10] [9, 10] rfl (by kernel_rfl) (by kernel_rfl) (by kernel_rfl) (fun _ _ _ h => h) (by kernel_rfl) (by kernel_rfl) (by kernel_rfl) (Or.inl ⟨?_, ?_⟩) hS3 ?_
      rotate_left
      focus rfl
      focus (intro w' hw'; have hw1 := cells6 hw'.1; clear hw'; go_simp; with_reducible rfl)
      try go_simp)
     refine wpAnyD_ready (rs := [1]) (by kernel_rfl) (by simp) ?_
     refine AllReadyD.cons rfl (fun K hK => ?_) AllReadyD.nil
     go_simp
     refine (array_any W7 a n c).mono ?_
     rintro e w8 ⟨rfl, hb8⟩
     have HX8 := Lib.hid (HX7.out.keep hb8)
     have HV8 := Lib.hid (HV7.out.keep hb8)
     have BB8 := Lib.hid (BB7.out.trans (hb8.mono BB7.out.size))
     have hS8 : TwoBlocks b5 b5 (.cells #[.int .i64 5, .int .i64 0, .string ⟨#[]⟩, .slice ax nx cx, .slice none 0 0, .slice none 0 0] 27 (0, 0)) (.cells #[.int .i64 5, .int .i64 0, .string ⟨#[]⟩, .slice ax nx cx, .slice none 0 0, .slice none 0 0] 27 (0, 0)) w8 := ⟨keep hb8 hS3.1, keep hb8 hS3.2⟩
     refine hK.out _ _ (fun _ => hS8) ?_
     clear hK K hS3 hb8
     have hS3 := hS8
     clear hS8
     try go_simp
     refine wpAnyD_ready (rs := [6]) (by kernel_rfl) (by simp) ?_
     refine AllReadyD.cons rfl (fun K hK => ?_) AllReadyD.nil
     go_simp
     rw [HMIN.out]
     refine ((flattenBy_any l HG.out (by omega) M (dep_big 400 M hM) _ w8 _ HV8.out (fun _ h => h)).mono fun _ _ h => ResL.of h).mono ?_
     rintro e w9 ⟨la9, ka9, va9, n9, lc9, kc9, vc9, rfl, hn9, hv9, hb9⟩
     have HX9 := Lib.hid (HX8.out.keep hb9)
     have HY9 := Lib.hid hv9
     have BB9 := Lib.hid (BB8.out.trans (hb9.mono BB8.out.size))
     refine hK.out _ _ (fun _ => ⟨keep hb9 hS3.1, keep hb9 hS3.2⟩) ?_
     clear hK K hS3 hb9 hv9 hn9
     try go_simp
     refine wpAnyD_ready (rs := [9]) (by kernel_rfl) (by simp) ?_
     refine AllReadyD.cons rfl (fun K hK => ?_) AllReadyD.nil
     go_simp
     refine (told_fine _ _ _ _ _ _ _ _ _ _ _ _ _ _ _ _ _ _ _ _ _ _ _ _ w9 (mkL (flatL l M)) (cw_mkL (flatL_good _ _ HG.out) (by have := flatL_size l M; omega)) _ HY9.out HX9.out (fun _ h => h)).mono ?_
     rintro e w10 ⟨rfl, hb10⟩
     have BB10 := Lib.hid (BB9.out.trans (hb10.mono BB9.out.size))
     refine hK.out _ _ (fun h => absurd h (by decide)) ?_
     clear hK K hb10
     try go_simp
     refine wpAnyD_ready (rs := [10]) (by kernel_rfl) (by simp) ?_
     refine AllReadyD.cons rfl (fun K hK => ?_) AllReadyD.nil
     go_simp
     refine hK.out _ _ (fun h => absurd h (by decide)) ?_
     clear hK K
     try go_simp
     refine wpAnyD_done (by kernel_rfl) ?_ _
     go_wp2_with fail
     go_returns
     exact ⟨rfl, BB10.out⟩)

end Go.Proofs.YtnlndpgbhmkanaaGreatDoor.Va
