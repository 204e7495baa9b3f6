/-
  FnFlattenSteps: the law's walk.
-/
import Derived.Test.YtnlndpgbhmkanaaDoorFlB
namespace Go.Proofs.YtnlndpgbhmkanaaDoor.Va
open Go.RowKit
set_option linter.unusedVariables false
set_option linter.unusedSimpArgs false

def resL (la ka va : Option Addr) (n lc kc vc : Nat) : Obj := .cells #[.int .i64 5, .int .i64 0, .string ⟨#[]⟩, .slice la n lc, .slice ka 0 kc, .slice va 0 vc, .int .i64 0] 30 (0, 0)

def LoopW (n : Nat) (w : World) (i : Value) (wr : World) : Prop := ∃ k : Nat, i = .int .i64 k ∧ k ≤ n ∧ Below w.heap.size w wr

set_option maxHeartbeats 8000000 in
set_option maxRecDepth 100000 in
theorem steps_law (l : List V) (hx : WfL l) (n : Nat) (hn : l.length = n) (hq : n ≤ 140737488355328) (a : Option Addr) (c : Nat) (S : Nat → Prop) (w : World) (h : RL w S l a) (hS : ∀ b, S b → b < w.heap.size) (hT : Tabs w) (x y : Int) (hx0 : 0 ≤ x) (hx1 : x ≤ 255) (hy0 : 0 ≤ y) (hy1 : y ≤ 255) :
    Calls Tryd.prog 3 #[.slice a n c, .int .u8 x, .int .u8 y] w (TrueEnd w) := by
  have HX := Lib.hid hx
  have HN := Lib.hid hn
  have HL := Lib.hid h
  have HS := Lib.hid hS
  have HT := Lib.hid hT
  have hA0 : 0 ≤ x % 8 := by omega
  have hA1 : x % 8 ≤ 7 := by omega
  have hB0 : 0 ≤ y % 8 := by omega
  have hB1 : y % 8 ≤ 7 := by omega
  have HV0 := Lib.hid (kv_mkL h n c hn)
  have hyw := Lib.hid (show IntKind.i64.wrap (y.tmod 8) = y % 8 by rw [IntKind.wrap_i64, Int.tmod_eq_emod_of_nonneg hy0]; omega)
  clear hx hn h hS hT
  by_cases hbig : (2147483647 : Int) < n
  · go_enter Tryd.func3, Tryd.ntmps3
    go_wp2_with fail
    go_returns
    exact ⟨rfl, Below.refl _ _⟩
  go_enter Tryd.func3, Tryd.ntmps3
  go_wp2_with fail
  refine (array_any w a n c).mono ?_
  rintro e w1 ⟨rfl, hb1⟩
  have B1 := Lib.hid hb1
  clear hb1
  go_wp2_with fail
  generalize hW : World.alloc (World.alloc w1 _) _ = W2
  have b2 : Below w1.heap.size w1 W2 := hW ▸ (by go_grown)
  have Z7 := Lib.hid (hW ▸ block_past (block_new w1 _ _) _ : W2.heap[w1.heap.size]? = some (.cells #[.int .i64 5, .int .i64 0, .string ⟨#[]⟩, .slice a n c, .slice none 0 0, .slice none 0 0] 26 (0, 0)))
  have zs : W2.heap[w1.heap.size + 1]? = some (.cells #[.int .i64 5, .int .i64 0, .string ⟨#[]⟩, .slice a n c, .slice none 0 0, .slice none 0 0] 26 (0, 0)) := hW ▸ (by have := block_new (w1.alloc (.cells #[.int .i64 5, .int .i64 0, .string ⟨#[]⟩, .slice a n c, .slice none 0 0, .slice none 0 0] 26)) #[.int .i64 5, .int .i64 0, .string ⟨#[]⟩, .slice a n c, .slice none 0 0, .slice none 0 0] 26; rwa [World.size_alloc] at this)
  clear hW
  have B2 := Lib.hid (B1.out.trans (b2.mono B1.out.size))
  have HV2 := Lib.hid (HV0.out.keep B2.out)
  refine (fits_any [mkL l] (by rw [WfL, WfL]; exact ⟨wf_mkL HX.out (by rw [HN.out]; exact hq), trivial⟩) 1 rfl (by omega) _ 1 _ W2 (rl_one zs HV2.out) (fun _ h => h) (HT.out.below B2.out)).mono ?_
  rintro e w3 ⟨r, rfl, hb3, hgd⟩
  have B3 := Lib.hid (B2.out.trans (hb3.mono B2.out.size))
  have Z73 := Lib.hid (keep hb3 Z7.out)
  have HV3 := Lib.hid (HV2.out.keep hb3)
  clear b2 zs hb3
  cases r
  · go_wp2_with fail
    go_returns
    exact ⟨rfl, B3.out⟩
  · obtain ⟨hg, hsz⟩ := hgd rfl (mkL l) (by simp)
    have HG := Lib.hid (good_list hg)
    rw [size_mkL] at hsz
    have hc7 := cells6 Z73.out
    clear hgd hg
    go_wp2_with fail
    refine (flattenBy_L l HG.out (by omega) (x % 8) (by omega) (by omega) w3 _ HV3.out).mono ?_
    rintro e w4 ⟨la4, ka4, va4, n4, lc4, kc4, vc4, rfl, hn4, hv4, hb4⟩
    have HN4 := Lib.hid hn4
    have Z74 := keep hb4 Z73.out
    have B4 := Lib.hid (B3.out.trans (hb4.mono B3.out.size))
    have HV4 := Lib.hid (HV3.out.keep hb4)
    have HR4 := Lib.hid hv4
    clear hn4 hb4 hv4 hc7
    go_upto_region 7 with fail
    generalize hW : World.alloc w4 _ = W5
    have b5 : Below w4.heap.size w4 W5 := hW ▸ below_alloc w4 _
    have z85 : W5.heap[w4.heap.size]? = some (.cells #[.int .i64 5, .int .i64 0, .string ⟨#[]⟩, .slice la4 n4 lc4, .slice ka4 0 kc4, .slice va4 0 vc4, .int .i64 0] 30 (0, 0)) := hW ▸ block_new w4 _ _
    clear hW
    have hc7 := cells6 (keep b5 Z74)
    go_wp2_with fail
    clear hc7
    refine (flattenBy_L l HG.out (by omega) (-1) (by omega) (by omega) W5 _ (HV4.out.keep b5)).mono ?_
    rintro e w6 ⟨la6, ka6, va6, n6, lc6, kc6, vc6, rfl, hn6, hv6, hb6⟩
    have HN6 := Lib.hid hn6
    have Z76 := Lib.hid (keep hb6 (keep b5 Z74))
    have Z86 := Lib.hid (keep hb6 z85)
    have B6 := Lib.hid (B4.out.trans ((b5.trans (hb6.mono b5.size)).mono B4.out.size))
    have HV6 := Lib.hid ((HV4.out.keep b5).keep hb6)
    have HR6 := Lib.hid ((HR4.out.keep b5).keep hb6)
    have HQ6 := Lib.hid hv6
    clear hn6 hb6 hv6 b5 z85 Z74
    go_upto_region 8 with fail
    generalize hW : World.alloc w6 _ = W7
    have b7 : Below w6.heap.size w6 W7 := hW ▸ below_alloc w6 _
    have z97 : W7.heap[w6.heap.size]? = some (.cells #[.int .i64 5, .int .i64 0, .string ⟨#[]⟩, .slice la6 n6 lc6, .slice ka6 0 kc6, .slice va6 0 vc6, .int .i64 0] 30 (0, 0)) := hW ▸ block_new w6 _ _
    have HV7 := Lib.hid (HV6.out.keep b7)
    have HR7 := Lib.hid (HR6.out.keep b7)
    have HQ7 := Lib.hid (HQ6.out.keep b7)
    have Z77 := Lib.hid (keep b7 Z76.out)
    have B7 := Lib.hid (B6.out.trans (b7.mono B6.out.size))
    have hs7 : TwoBlocks w4.heap.size w6.heap.size (.cells #[.int .i64 5, .int .i64 0, .string ⟨#[]⟩, .slice la4 n4 lc4, .slice ka4 0 kc4, .slice va4 0 vc4, .int .i64 0] 30 (0, 0)) (.cells #[.int .i64 5, .int .i64 0, .string ⟨#[]⟩, .slice la6 n6 lc6, .slice ka6 0 kc6, .slice va6 0 vc6, .int .i64 0] 30 (0, 0)) W7 := ⟨keep b7 Z86.out, z97⟩
    clear hW b7 z97
    refine wp_region_D (TwoBlocks w4.heap.size w6.heap.size (.cells #[.int .i64 5, .int .i64 0, .string ⟨#[]⟩, .slice la4 n4 lc4, .slice ka4 0 kc4, .slice va4 0 vc4, .int .i64 0] 30 (0, 0)) (.cells #[.int .i64 5, .int .i64 0, .string ⟨#[]⟩, .slice la6 n6 lc6, .slice ka6 0 kc6, .slice va6 0 vc6, .int .i64 0] 30 (0, 0))) [20, 21, 22] (by kernel_rfl) ?_
    generalize hWd : World.drew W7 = W8
    have hS3 : TwoBlocks w4.heap.size w6.heap.size (.cells #[.int .i64 5, .int .i64 0, .string ⟨#[]⟩, .slice la4 n4 lc4, .slice ka4 0 kc4, .slice va4 0 vc4, .int .i64 0] 30 (0, 0)) (.cells #[.int .i64 5, .int .i64 0, .string ⟨#[]⟩, .slice la6 n6 lc6, .slice ka6 0 kc6, .slice va6 0 vc6, .int .i64 0] 30 (0, 0)) W8 := hWd ▸ hs7
    have b8 : Below W7.heap.size W7 W8 := hWd ▸ (Below.refl _ _).drew
    have HV8 := Lib.hid (HV7.out.keep b8)
    have HR8 := Lib.hid (HR7.out.keep b8)
    have HQ8 := Lib.hid (HQ7.out.keep b8)
    have Z78 := Lib.hid (keep b8 Z77.out)
    have B8 := Lib.hid (B7.out.trans (b8.mono B7.out.size))
    clear hWd hs7 b8
    (refine wpAnyD_take (i := 0) (v := ?_) [1, 2, 3, 4, 5, 6, 7, 8, 9, 10, 11, 12, 13, 14, 15, 16, 17, 18, 19, 20, 21, 22] [20, 21, 22] rfl (by kernel_rfl) (by kernel_rfl) (by kernel_rfl) (fun _ _ _ h => h) (by kernel_rfl) (by kernel_rfl) (by kernel_rfl) (Or.inl ⟨?_, ?_⟩) hS3 ?_
     rotate_left
     focus rfl
     focus (intro w' hw'; have hw1 := cells7 hw'.1; have hw2 := cells7 hw'.2; clear hw'; go_simp; with_reducible rfl)
     try go_simp)
    (refine wpAnyD_take (i := 1) (v := ?_) [2, 3, 4, 5, 6, 7, 8, 9, 10, 11, 12, 13, 14, 15, 16, 17, 18, 19, 20, 21, 22] [20, 21, 22] rfl (by kernel_rfl) (by kernel_rfl) (by kernel_rfl) (fun _ _ _ h => h) (by kernel_rfl) (by kernel_rfl) (by kernel_rfl) (Or.inl ⟨?_, ?_⟩) hS3 ?_
     rotate_left
     focus rfl
     focus (intro w' hw'; have hw1 := cells7 hw'.1; have hw2 := cells7 hw'.2; clear hw'; go_simp; with_reducible rfl)
     try go_simp)
    (refine wpAnyD_take (i := 2) (v := ?_) [3, 4, 5, 6, 7, 8, 9, 10, 11, 12, 13, 14, 15, 16, 17, 18, 19, 20, 21, 22] [20, 21, 22] rfl (by kernel_rfl) (by kernel_rfl) (by kernel_rfl) (fun _ _ _ h => h) (by kernel_rfl) (by kernel_rfl) (by kernel_rfl) (Or.inl ⟨?_, ?_⟩) hS3 ?_
     rotate_left
     focus rfl
     focus (intro w' hw'; have hw1 := cells7 hw'.1; have hw2 := cells7 hw'.2; clear hw'; go_simp; with_reducible rfl)
     try go_simp)
    (refine wpAnyD_take (i := 3) (v := ?_) [4, 5, 6, 7, 8, 9, 10, 11, 12, 13, 14, 15, 16, 17, 18, 19, 20, 21, 22] [20, 21, 22] rfl (by kernel_rfl) (by kernel_rfl) (by kernel_rfl) (fun _ _ _ h => h) (by kernel_rfl) (by kernel_rfl) (by kernel_rfl) (Or.inl ⟨?_, ?_⟩) hS3 ?_
     rotate_left
     focus rfl
     focus (intro w' hw'; have hw1 := cells7 hw'.1; have hw2 := cells7 hw'.2; clear hw'; go_simp; with_reducible rfl)
     try go_simp)
    (refine wpAnyD_take (i := 4) (v := ?_) [5, 6, 7, 8, 9, 10, 11, 12, 13, 14, 15, 16, 17, 18, 19, 20, 21, 22] [20, 21, 22] rfl (by kernel_rfl) (by kernel_rfl) (by kernel_rfl) (fun _ _ _ h => h) (by kernel_rfl) (by kernel_rfl) (by kernel_rfl) (Or.inl ⟨?_, ?_⟩) hS3 ?_
     rotate_left
     focus rfl
     focus (intro w' hw'; have hw1 := cells7 hw'.1; have hw2 := cells7 hw'.2; clear hw'; go_simp; with_reducible rfl)
     try go_simp)
    (refine wpAnyD_take (i := 5) (v := ?_) [6, 7, 8, 9, 10, 11, 12, 13, 14, 15, 16, 17, 18, 19, 20, 21, 22] [20, 21, 22] rfl (by kernel_rfl) (by kernel_rfl) (by kernel_rfl) (fun _ _ _ h => h) (by kernel_rfl) (by kernel_rfl) (by kernel_rfl) (Or.inl ⟨?_, ?_⟩) hS3 ?_
     rotate_left
     focus rfl
     focus (intro w' hw'; have hw1 := cells7 hw'.1; have hw2 := cells7 hw'.2; clear hw'; go_simp; with_reducible rfl)
     try go_simp)
    (refine wpAnyD_take (i := 6) (v := ?_) [7, 8, 9, 10, 11, 12, 13, 14, 15, 16, 17, 18, 19, 20, 21, 22] [20, 21, 22] rfl (by kernel_rfl) (by kernel_rfl) (by kernel_rfl) (fun _ _ _ h => h) (by kernel_rfl) (by kernel_rfl) (by kernel_rfl) (Or.inl ⟨?_, ?_⟩) hS3 ?_
     rotate_left
     focus rfl
     focus (intro w' hw'; have hw1 := cells7 hw'.1; have hw2 := cells7 hw'.2; clear hw'; go_simp; with_reducible rfl)
     try go_simp)
    (refine wpAnyD_take (i := 7) (v := ?_) [8, 9, 10, 11, 12, 13, 14, 15, 16, 17, 18, 19, 20, 21, 22] [20, 21, 22] rfl (by kernel_rfl) (by kernel_rfl) (by kernel_rfl) (fun _ _ _ h => h) (by kernel_rfl) (by kernel_rfl) (by kernel_rfl) (Or.inl ⟨?_, ?_⟩) hS3 ?_
     rotate_left
     focus rfl
     focus (intro w' hw'; have hw1 := cells7 hw'.1; have hw2 := cells7 hw'.2; clear hw'; go_simp; with_reducible rfl)
     try go_simp)
    (refine wpAnyD_take (i := 8) (v := ?_) [9, 10, 11, 12, 13, 14, 15, 16, 17, 18, 19, 20, 21, 22] [20, 21, 22] rfl (by kernel_rfl) (by kernel_rfl) (by kernel_rfl) (fun _ _ _ h => h) (by kernel_rfl) (by kernel_rfl) (by kernel_rfl) (Or.inl ⟨?_, ?_⟩) hS3 ?_
     rotate_left
     focus rfl
     focus (intro w' hw'; have hw1 := cells7 hw'.1; have hw2 := cells7 hw'.2; clear hw'; go_simp; with_reducible rfl)
     try go_simp)
    (refine wpAnyD_take (i := 9) (v := ?_) [10, 11, 12, 13, 14, 15, 16, 17, 18, 19, 20, 21, 22] [20, 21, 22] rfl (by kernel_rfl) (by kernel_rfl) (by kernel_rfl) (fun _ _ _ h => h) (by kernel_rfl) (by kernel_rfl) (by kernel_rfl) (Or.inl ⟨?_, ?_⟩) hS3 ?_
     rotate_left
     focus rfl
     focus (intro w' hw'; have hw1 := cells7 hw'.1; have hw2 := cells7 hw'.2; clear hw'; go_simp; with_reducible rfl)
     try go_simp)
    (refine wpAnyD_take (i := 10) (v := ?_) [11, 12, 13, 14, 15, 16, 17, 18, 19, 20, 21, 22] [20, 21, 22] rfl (by kernel_rfl) (by kernel_rfl) (by kernel_rfl) (fun _ _ _ h => h) (by kernel_rfl) (by kernel_rfl) (by kernel_rfl) (Or.inl ⟨?_, ?_⟩) hS3 ?_
     rotate_left
     focus rfl
     focus (intro w' hw'; have hw1 := cells7 hw'.1; have hw2 := cells7 hw'.2; clear hw'; go_simp; with_reducible rfl)
     try go_simp)
    (refine wpAnyD_take (i := 11) (v := ?_) [12, 13, 14, 15, 16, 17, 18, 19, 20, 21, 22] [20, 21, 22] rfl (by kernel_rfl) (by kernel_rfl) (by kernel_rfl) (fun _ _ _ h => h) (by kernel_rfl) (by kernel_rfl) (by kernel_rfl) (Or.inl ⟨?_, ?_⟩) hS3 ?_
     rotate_left
     focus rfl
     focus (intro w' hw'; have hw1 := cells7 hw'.1; have hw2 := cells7 hw'.2; clear hw'; go_simp; with_reducible rfl)
     try go_simp)
    (refine wpAnyD_take (i := 12) (v := ?_) [13, 14, 15, 16, 17, 18, 19, 20, 21, 22] [20, 21, 22] rfl (by kernel_rfl) (by kernel_rfl) (by kernel_rfl) (fun _ _ _ h => h) (by kernel_rfl) (by kernel_rfl) (by kernel_rfl) (Or.inl ⟨?_, ?_⟩) hS3 ?_
     rotate_left
     focus rfl
     focus (intro w' hw'; have hw1 := cells7 hw'.1; have hw2 := cells7 hw'.2; clear hw'; go_simp; with_reducible rfl)
     try go_simp)
    (refine wpAnyD_take (i := 13) (v := ?_) [14, 15, 16, 17, 18, 19, 20, 21, 22] [20, 21, 22] rfl (by kernel_rfl) (by kernel_rfl) (by kernel_rfl) (fun _ _ _ h => h) (by kernel_rfl) (by kernel_rfl) (by kernel_rfl) (Or.inl ⟨?_, ?_⟩) hS3 ?_
     rotate_left
     focus rfl
     focus (intro w' hw'; have hw1 := cells7 hw'.1; have hw2 := cells7 hw'.2; clear hw'; go_simp; with_reducible rfl)
     try go_simp)
    (refine wpAnyD_take (i := 14) (v := ?_) [15, 16, 17, 18, 19, 20, 21, 22] [20, 21, 22] rfl (by kernel_rfl) (by kernel_rfl) (by kernel_rfl) (fun _ _ _ h => h) (by kernel_rfl) (by kernel_rfl) (by kernel_rfl) (Or.inl ⟨?_, ?_⟩) hS3 ?_
     rotate_left
     focus rfl
     focus (intro w' hw'; have hw1 := cells7 hw'.1; have hw2 := cells7 hw'.2; clear hw'; go_simp; with_reducible rfl)
     try go_simp)
    (refine wpAnyD_take (i := 15) (v := ?_) [16, 17, 20, 21, 22] [20, 21, 22] rfl (by kernel_rfl) (by kernel_rfl) (by kernel_rfl) (fun _ _ _ h => h) (by kernel_rfl) (by kernel_rfl) (by kernel_rfl) (Or.inl ⟨?_, ?_⟩) hS3 ?_
     rotate_left
     focus rfl
     focus (intro w' hw'; have hw1 := cells7 hw'.1; have hw2 := cells7 hw'.2; clear hw'; go_simp; with_reducible rfl)
     try go_simp)
    (refine wpAnyD_take (i := 16) (v := ?_) [17, 20, 21, 22] [20, 21, 22] rfl (by kernel_rfl) (by kernel_rfl) (by kernel_rfl) (fun _ _ _ h => h) (by kernel_rfl) (by kernel_rfl) (by kernel_rfl) (Or.inl ⟨?_, ?_⟩) hS3 ?_
     rotate_left
     focus rfl
     focus (intro w' hw'; have hw1 := cells7 hw'.1; have hw2 := cells7 hw'.2; clear hw'; go_simp; with_reducible rfl)
     try go_simp)
    (refine wpAnyD_take (i := 18) (v := ?_) [19, 20, 21, 22] [20, 21, 22] rfl (by kernel_rfl) (by kernel_rfl) (by kernel_rfl) (fun _ _ _ h => h) (by kernel_rfl) (by kernel_rfl) (by kernel_rfl) (Or.inl ⟨?_, ?_⟩) hS3 ?_
     rotate_left
     focus rfl
     focus (intro w' hw'; have hw1 := cells7 hw'.1; have hw2 := cells7 hw'.2; clear hw'; go_simp; with_reducible rfl)
     try go_simp)
    (refine wpAnyD_take (i := 19) (v := ?_) [20, 21, 22] [20, 21, 22] rfl (by kernel_rfl) (by kernel_rfl) (by kernel_rfl) (fun _ _ _ h => h) (by kernel_rfl) (by kernel_rfl) (by kernel_rfl) (Or.inl ⟨?_, ?_⟩) hS3 ?_
     rotate_left
     focus rfl
     focus (intro w' hw'; have hw1 := cells7 hw'.1; have hw2 := cells7 hw'.2; clear hw'; go_simp; with_reducible rfl)
     try go_simp)
    refine wpAnyD_ready (rs := [17]) (by kernel_rfl) (by simp) ?_
    refine AllReadyD.cons rfl (fun K hK => ?_) AllReadyD.nil
    go_simp
    refine (flattenBy_L (flatL l (x % 8)) (flatL_good _ _ HG.out) (by have := flatL_size l (x % 8); omega) (-1) (by omega) (by omega) W8 _ HR8.out).mono ?_
    rintro e w9 ⟨la9, ka9, va9, n9, lc9, kc9, vc9, rfl, hn9, hv9, hb9⟩
    rw [flatL_then l (x % 8) (-1) (-1) hA0 (.inr ⟨by omega, by omega⟩)] at hv9
    have HR9 := Lib.hid (HR8.out.keep hb9)
    have HQ9 := Lib.hid (HQ8.out.keep hb9)
    have HV9 := Lib.hid (HV8.out.keep hb9)
    have HY9 := Lib.hid hv9
    have Z79 := Lib.hid (keep hb9 Z78.out)
    have Z89 := Lib.hid (keep hb9 hS3.1)
    have Z99 := Lib.hid (keep hb9 hS3.2)
    have B9 := Lib.hid (B8.out.trans (hb9.mono B8.out.size))
    refine hK.out _ _ (fun _ => ⟨keep hb9 hS3.1, keep hb9 hS3.2⟩) ?_
    clear hK K hn9 hv9 hb9 hS3
    try go_simp
    refine wpAnyD_ready (rs := [20]) (by kernel_rfl) (by simp) ?_
    refine AllReadyD.cons rfl (fun K hK => ?_) AllReadyD.nil
    go_simp
    refine (given_fine _ _ _ _ _ _ _ _ _ _ _ _ _ _ _ _ _ _ _ _ _ _ _ _ w9 (mkL (flatL l (-1))) (cw_mkL (flatL_good _ _ HG.out) (by have := flatL_size l (-1); omega)) _ HY9.out HQ9.out (fun _ h => h)).mono ?_
    rintro e w10 ⟨rfl, hb10⟩
    have HR10 := Lib.hid (HR9.out.keep hb10)
    have HQ10 := Lib.hid (HQ9.out.keep hb10)
    have HV10 := Lib.hid (HV9.out.keep hb10)
    have Z710 := Lib.hid (keep hb10 Z79.out)
    have Z810 := Lib.hid (keep hb10 Z89.out)
    have Z910 := Lib.hid (keep hb10 Z99.out)
    have B10 := Lib.hid (B9.out.trans (hb10.mono B9.out.size))
    refine hK.out _ _ (fun h => absurd h (by decide)) ?_
    clear hK K hb10
    try go_simp
    refine wpAnyD_ready (rs := [21]) (by kernel_rfl) (by simp) ?_
    refine AllReadyD.cons rfl (fun K hK => ?_) AllReadyD.nil
    go_simp
    refine hK.out _ _ (fun h => absurd h (by decide)) ?_
    clear hK K
    try go_simp
    refine wpAnyD_ready (rs := [22]) (by kernel_rfl) (by simp) ?_
    refine AllReadyD.cons rfl (fun K hK => ?_) AllReadyD.nil
    go_simp
    refine hK.out _ _ (fun h => absurd h (by decide)) ?_
    clear hK K
    try go_simp
    refine wpAnyD_done (by kernel_rfl) ?_ _
    have hc9 := cells7 Z910.out
    go_wp2_with fail
    clear hc9
    have hn6 : n6 ≤ 400 := by have := flat_len l (-1); have := HN6.out; omega
    go_loopw [56] (LoopW n6 w10) (fun i _ => n6 - (intOf i).toNat)
    case atStart => exact ⟨0, rfl, Nat.zero_le _, Below.refl _ _⟩
    case round =>
      obtain ⟨k, rfl, hk, hb⟩ := hrel
      have HB := Lib.hid hb
      clear hb
      by_cases hlt : k < n6
      · have hkl : k < (flatL l (-1)).length := by rw [HN6.out]; exact hlt
        have HRL := Lib.hid HQ10.out.list
        obtain ⟨b, o, rfl⟩ := HRL.out.addr (by omega)
        obtain ⟨hSb, q0, q1, q2, q3, q4, q5, h6, hv⟩ := RL.at _ b o HRL.out k hkl
        have hne := flatL_none l (-1) (by omega) _ (List.getElem_mem hkl)
        obtain ⟨xk, hxk⟩ : ∃ xk, Hid ((flatL l (-1))[k] = xk) := ⟨_, Lib.hid rfl⟩
        rw [hxk.out] at hne hv
        cases xk with
        | mk kk hh t ls ks vs =>
        rw [RV] at hv
        obtain ⟨la, lc, ka, kc, va, vc, e, _⟩ := hv
        simp only [Value.agg.injEq, Array.mk.injEq, List.cons.injEq, and_true] at e
        obtain ⟨rfl, rfl, rfl, rfl, rfl, rfl⟩ := e
        have hk5 : ¬ kk = 5 := hne
        have h6' := Six.mono (Same.of_below HB.out (fun b hb => hb)) hSb h6
        clear h6 hSb hne hxk
        unfold Six at h6'
        go_wp2_with fail
        go_roundw
        case rel => exact ⟨k + 1, rfl, hlt, HB.out.trans ((below_alloc wr _).mono HB.out.size)⟩
        case measure => simp [intOf]; omega
      obtain rfl : k = n6 := by omega
      have hc7 := cells6 (keep HB.out Z710.out)
      have HVr := Lib.hid (HV10.out.keep HB.out)
      have HRr := Lib.hid (HR10.out.keep HB.out)
      have Z8r := Lib.hid (keep HB.out Z810.out)
      have Br := Lib.hid (B10.out.trans (HB.out.mono B10.out.size))
      go_wp2_with fail
      clear hc7
      refine (flattenBy_L l HG.out (by omega) (x % 8 + y % 8) (by omega) (by omega) wr _ HVr.out).mono ?_
      rintro e w12 ⟨la12, ka12, va12, n12, lc12, kc12, vc12, rfl, hn12, hv12, hb12⟩
      have Z812 := Lib.hid (keep hb12 Z8r.out)
      have HR12 := Lib.hid (HRr.out.keep hb12)
      have HQ12 := Lib.hid hv12
      have B12 := Lib.hid (Br.out.trans (hb12.mono Br.out.size))
      clear hn12 hv12 hb12
      go_upto_region 17 with fail
      generalize hW : World.alloc w12 _ = W13
      have b13 : Below w12.heap.size w12 W13 := hW ▸ below_alloc w12 _
      have z13 : W13.heap[w12.heap.size]? = some (.cells #[.int .i64 5, .int .i64 0, .string ⟨#[]⟩, .slice la12 n12 lc12, .slice ka12 0 kc12, .slice va12 0 vc12, .int .i64 0] 30 (0, 0)) := hW ▸ block_new w12 _ _
      have HR13 := Lib.hid (HR12.out.keep b13)
      have HQ13 := Lib.hid (HQ12.out.keep b13)
      have B13 := Lib.hid (B12.out.trans (b13.mono B12.out.size))
      have hs13 : TwoBlocks w4.heap.size w12.heap.size (.cells #[.int .i64 5, .int .i64 0, .string ⟨#[]⟩, .slice la4 n4 lc4, .slice ka4 0 kc4, .slice va4 0 vc4, .int .i64 0] 30 (0, 0)) (.cells #[.int .i64 5, .int .i64 0, .string ⟨#[]⟩, .slice la12 n12 lc12, .slice ka12 0 kc12, .slice va12 0 vc12, .int .i64 0] 30 (0, 0)) W13 := ⟨keep b13 Z812.out, z13⟩
      clear hW b13 z13
      refine wp_region_D (TwoBlocks w4.heap.size w12.heap.size (.cells #[.int .i64 5, .int .i64 0, .string ⟨#[]⟩, .slice la4 n4 lc4, .slice ka4 0 kc4, .slice va4 0 vc4, .int .i64 0] 30 (0, 0)) (.cells #[.int .i64 5, .int .i64 0, .string ⟨#[]⟩, .slice la12 n12 lc12, .slice ka12 0 kc12, .slice va12 0 vc12, .int .i64 0] 30 (0, 0))) [12, 13, 14] (by kernel_rfl) ?_
      generalize hWd : World.drew W13 = W14
      have hS3 : TwoBlocks w4.heap.size w12.heap.size (.cells #[.int .i64 5, .int .i64 0, .string ⟨#[]⟩, .slice la4 n4 lc4, .slice ka4 0 kc4, .slice va4 0 vc4, .int .i64 0] 30 (0, 0)) (.cells #[.int .i64 5, .int .i64 0, .string ⟨#[]⟩, .slice la12 n12 lc12, .slice ka12 0 kc12, .slice va12 0 vc12, .int .i64 0] 30 (0, 0)) W14 := hWd ▸ hs13
      have b14 : Below W13.heap.size W13 W14 := hWd ▸ (Below.refl _ _).drew
      have HR14 := Lib.hid (HR13.out.keep b14)
      have HQ14 := Lib.hid (HQ13.out.keep b14)
      have B14 := Lib.hid (B13.out.trans (b14.mono B13.out.size))
      clear hWd hs13 b14
      (refine wpAnyD_take (i := 0) (v := ?_) [1, 2, 3, 4, 5, 6, 7, 8, 9, 10, 11, 12, 13, 14] [12, 13, 14] rfl (by kernel_rfl) (by kernel_rfl) (by kernel_rfl) (fun _ _ _ h => h) (by kernel_rfl) (by kernel_rfl) (by kernel_rfl) (Or.inl ⟨?_, ?_⟩) hS3 ?_
       rotate_left
       focus rfl
       focus (intro w' hw'; have hw1 := cells7 hw'.1; have hw2 := cells7 hw'.2; clear hw'; go_simp; with_reducible rfl)
       try go_simp)
      (refine wpAnyD_take (i := 1) (v := ?_) [2, 3, 4, 5, 6, 7, 8, 9, 10, 11, 12, 13, 14] [12, 13, 14] rfl (by kernel_rfl) (by kernel_rfl) (by kernel_rfl) (fun _ _ _ h => h) (by kernel_rfl) (by kernel_rfl) (by kernel_rfl) (Or.inl ⟨?_, ?_⟩) hS3 ?_
       rotate_left
       focus rfl
       focus (intro w' hw'; have hw1 := cells7 hw'.1; have hw2 := cells7 hw'.2; clear hw'; go_simp; with_reducible rfl)
       try go_simp)
      (refine wpAnyD_take (i := 2) (v := ?_) [3, 4, 5, 6, 7, 8, 9, 10, 11, 12, 13, 14] [12, 13, 14] rfl (by kernel_rfl) (by kernel_rfl) (by kernel_rfl) (fun _ _ _ h => h) (by kernel_rfl) (by kernel_rfl) (by kernel_rfl) (Or.inl ⟨?_, ?_⟩) hS3 ?_
       rotate_left
       focus rfl
       focus (intro w' hw'; have hw1 := cells7 hw'.1; have hw2 := cells7 hw'.2; clear hw'; go_simp; with_reducible rfl)
       try go_simp)
      (refine wpAnyD_take (i := 3) (v := ?_) [4, 5, 6, 7, 8, 9, 10, 11, 12, 13, 14] [12, 13, 14] rfl (by kernel_rfl) (by kernel_rfl) (by kernel_rfl) (fun _ _ _ h => h) (by kernel_rfl) (by kernel_rfl) (by kernel_rfl) (Or.inl ⟨?_, ?_⟩) hS3 ?_
       rotate_left
       focus rfl
       focus (intro w' hw'; have hw1 := cells7 hw'.1; have hw2 := cells7 hw'.2; clear hw'; go_simp; with_reducible rfl)
       try go_simp)
      (refine wpAnyD_take (i := 4) (v := ?_) [5, 9, 12, 13, 14] [12, 13, 14] rfl (by kernel_rfl) (by kernel_rfl) (by kernel_rfl) (fun _ _ _ h => h) (by kernel_rfl) (by kernel_rfl) (by kernel_rfl) (Or.inl ⟨?_, ?_⟩) hS3 ?_
       rotate_left
       focus rfl
       focus (intro w' hw'; have hw1 := cells7 hw'.1; have hw2 := cells7 hw'.2; clear hw'; go_simp; with_reducible rfl)
       try go_simp)
      (refine wpAnyD_take (i := 5) (v := ?_) [9, 12, 13, 14] [12, 13, 14] rfl (by kernel_rfl) (by kernel_rfl) (by kernel_rfl) (fun _ _ _ h => h) (by kernel_rfl) (by kernel_rfl) (by kernel_rfl) (Or.inl ⟨?_, ?_⟩) hS3 ?_
       rotate_left
       focus rfl
       focus (intro w' hw'; have hw1 := cells7 hw'.1; have hw2 := cells7 hw'.2; clear hw'; go_simp; with_reducible rfl)
       try go_simp)
      (refine wpAnyD_take (i := 6) (v := ?_) [7, 8, 9, 12, 13, 14] [12, 13, 14] rfl (by kernel_rfl) (by kernel_rfl) (by kernel_rfl) (fun _ _ _ h => h) (by kernel_rfl) (by kernel_rfl) (by kernel_rfl) (Or.inl ⟨?_, ?_⟩) hS3 ?_
       rotate_left
       focus rfl
       focus (intro w' hw'; have hw1 := cells7 hw'.1; have hw2 := cells7 hw'.2; clear hw'; go_simp; with_reducible rfl)
       try go_simp)
      (refine wpAnyD_take (i := 7) (v := ?_) [8, 9, 12, 13, 14] [12, 13, 14] rfl (by kernel_rfl) (by kernel_rfl) (by kernel_rfl) (fun _ _ _ h => h) (by kernel_rfl) (by kernel_rfl) (by kernel_rfl) (Or.inl ⟨?_, ?_⟩) hS3 ?_
       rotate_left
       focus rfl
       focus (intro w' hw'; have hw1 := cells7 hw'.1; have hw2 := cells7 hw'.2; clear hw'; go_simp; with_reducible rfl)
       try go_simp)
      (refine wpAnyD_take (i := 8) (v := ?_) [9, 12, 13, 14] [12, 13, 14] rfl (by kernel_rfl) (by kernel_rfl) (by kernel_rfl) (fun _ _ _ h => h) (by kernel_rfl) (by kernel_rfl) (by kernel_rfl) (Or.inl ⟨?_, ?_⟩) hS3 ?_
       rotate_left
       focus rfl
       focus (intro w' hw'; have hw1 := cells7 hw'.1; have hw2 := cells7 hw'.2; clear hw'; go_simp; with_reducible rfl)
       try go_simp)
      (refine wpAnyD_take (i := 10) (v := ?_) [11, 12, 13, 14] [12, 13, 14] rfl (by kernel_rfl) (by kernel_rfl) (by kernel_rfl) (fun _ _ _ h => h) (by kernel_rfl) (by kernel_rfl) (by kernel_rfl) (Or.inl ⟨?_, ?_⟩) hS3 ?_
       rotate_left
       focus rfl
       focus (intro w' hw'; have hw1 := cells7 hw'.1; have hw2 := cells7 hw'.2; clear hw'; go_simp; with_reducible rfl)
       try go_simp)
      (refine wpAnyD_take (i := 11) (v := ?_) [12, 13, 14] [12, 13, 14] rfl (by kernel_rfl) (by kernel_rfl) (by kernel_rfl) (fun _ _ _ h => h) (by kernel_rfl) (by kernel_rfl) (by kernel_rfl) (Or.inl ⟨?_, ?_⟩) hS3 ?_
       rotate_left
       focus rfl
       focus (intro w' hw'; have hw1 := cells7 hw'.1; have hw2 := cells7 hw'.2; clear hw'; go_simp; with_reducible rfl)
       try go_simp)
      refine wpAnyD_ready (rs := [9]) (by kernel_rfl) (by simp) ?_
      refine AllReadyD.cons rfl (fun K hK => ?_) AllReadyD.nil
      go_simp
      rw [hyw.out]
      refine (flattenBy_L (flatL l (x % 8)) (flatL_good _ _ HG.out) (by have := flatL_size l (x % 8); omega) (y % 8) (by omega) (by omega) W14 _ HR14.out).mono ?_
      rintro e w15 ⟨la15, ka15, va15, n15, lc15, kc15, vc15, rfl, hn15, hv15, hb15⟩
      rw [flatL_then l (x % 8) (y % 8) (x % 8 + y % 8) hA0 (.inl ⟨hB0, rfl⟩)] at hv15
      have HQ15 := Lib.hid (HQ14.out.keep hb15)
      have HY15 := Lib.hid hv15
      have B15 := Lib.hid (B14.out.trans (hb15.mono B14.out.size))
      refine hK.out _ _ (fun _ => ⟨keep hb15 hS3.1, keep hb15 hS3.2⟩) ?_
      clear hK K hn15 hv15 hb15 hS3
      try go_simp
      refine wpAnyD_ready (rs := [12]) (by kernel_rfl) (by simp) ?_
      refine AllReadyD.cons rfl (fun K hK => ?_) AllReadyD.nil
      go_simp
      refine (given_fine _ _ _ _ _ _ _ _ _ _ _ _ _ _ _ _ _ _ _ _ _ _ _ _ w15 (mkL (flatL l (x % 8 + y % 8))) (cw_mkL (flatL_good _ _ HG.out) (by have := flatL_size l (x % 8 + y % 8); omega)) _ HY15.out HQ15.out (fun _ h => h)).mono ?_
      rintro e w16 ⟨rfl, hb16⟩
      have B16 := Lib.hid (B15.out.trans (hb16.mono B15.out.size))
      refine hK.out _ _ (fun h => absurd h (by decide)) ?_
      clear hK K hb16
      try go_simp
      refine wpAnyD_ready (rs := [13]) (by kernel_rfl) (by simp) ?_
      refine AllReadyD.cons rfl (fun K hK => ?_) AllReadyD.nil
      go_simp
      refine hK.out _ _ (fun h => absurd h (by decide)) ?_
      clear hK K
      try go_simp
      refine wpAnyD_ready (rs := [14]) (by kernel_rfl) (by simp) ?_
      refine AllReadyD.cons rfl (fun K hK => ?_) AllReadyD.nil
      go_simp
      refine hK.out _ _ (fun h => absurd h (by decide)) ?_
      clear hK K
      try go_simp
      refine wpAnyD_done (by kernel_rfl) ?_ _
      go_wp2_with fail
      go_returns
      exact ⟨rfl, B16.out⟩

end Go.Proofs.YtnlndpgbhmkanaaDoor.Va
