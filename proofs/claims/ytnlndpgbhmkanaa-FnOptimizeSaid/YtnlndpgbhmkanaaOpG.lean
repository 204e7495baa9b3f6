/-
  THE WALK of Means: the reference's machine executes a list.
-/
import Derived.Test.YtnlndpgbhmkanaaOpF
namespace Go.Proofs.Ytnlndpgbhmkanaa.Op
open Go.RowKit
set_option linter.unusedVariables false
set_option linter.unusedSimpArgs false




set_option maxHeartbeats 8000000 in
set_option maxRecDepth 100000 in
theorem means_any (l : List Ins) (n : Nat) (hn : l.length = n) (hq : n ≤ 2147483647) (hp : ∀ x ∈ l, jumps x → 0 ≤ x.a) (a : Option Addr) (c : Nat) (S : Nat → Prop) (w : World) (h : RI w S l a) (hS : ∀ b, S b → b < w.heap.size) :
    Calls Try.prog 9 #[.slice a n c] w (MeansEnd l w) := by
  have HL := Lib.hid h
  have HN := Lib.hid hn
  have HS := Lib.hid hS
  have HP := Lib.hid hp
  clear h hn hS hp
  go_enter Try.func9, Try.ntmps9
  go_wp2_with fail
  go_loopw [5, 6, 7] (LoopF l w) (fun _ _ nv _ => 400 - (intOf nv).toNat)
  case atStart => exact ⟨0, st0, _, rfl, by omega, rfl, Nat.le_refl _, Nat.le_refl _, MS.start w, rfl⟩
  case round =>
    obtain ⟨k, ⟨pc, st, vars, back⟩, sv, rfl, hk, rfl, hst, hbk, hms, hrun⟩ := hrel
    dsimp only at hst hbk hms
    obtain ⟨ao, cap, rfl⟩ := own_shape hms.stack
    obtain ⟨bo, bcap, rfl⟩ := own_shape hms.bk
    have hsl := hms.slen
    obtain ⟨sn, hsn⟩ : ∃ sn, st.length = sn := ⟨_, rfl⟩
    rw [hsn] at hms hst
    have HM := Lib.hid hms
    have HR := Lib.hid hrun
    have HSN := Lib.hid hsn
    clear hms hrun hsn hsl
    obtain ⟨i0, hi, hz0, hz1, hz2⟩ := info_parts cells_info
    have HI := Lib.hid hi
    have HZ0 := Lib.hid hz0
    have HZ1 := Lib.hid hz1
    have HZ2 := Lib.hid hz2
    clear hi hz0 hz1 hz2
    obtain ⟨j0, hi, hz0, hz1, hz2⟩ := info_parts infoInt
    have JI := Lib.hid hi
    have JZ0 := Lib.hid hz0
    have JZ1 := Lib.hid hz1
    have JZ2 := Lib.hid hz2
    clear hi hz0 hz1 hz2
    by_cases hlt : k < 400
    · by_cases hpc : pc < n
      · have hpl : pc < l.length := by rw [HN.out]; exact hpc
        obtain ⟨b, o, e, hsb, c0, c1, c2, c3⟩ := (HL.out.keep HS.out HM.out.below) pc hpl
        subst e
        obtain ⟨⟨op, xa, xb, xc⟩, hxk⟩ : ∃ x, Hid (l[pc] = x) := ⟨_, Lib.hid rfl⟩
        have HX := Lib.hid ((List.getElem?_eq_getElem hpl).trans (congrArg some hxk.out))
        rw [hxk.out] at c0 c1 c2 c3
        dsimp only at c0 c1 c2 c3
        go_upto_region 10 with fail
        generalize hW : World.alloc wr _ = W
        have z := Lib.hid (hW ▸ block_new wr _ _ : W.heap[wr.heap.size]? = some (.cells #[.int .i64 op, .int .i64 xa, .int .i64 xb, .int .i64 xc] 36 (0, 0)))
        have HMW := Lib.hid (hW ▸ HM.out.alloc _ : MS w.heap.size st vars back (.slice ao sn cap) (.slice bo back.length bcap) w W)
        have hWs := Lib.hid (hW ▸ (by simp) : W.heap.size = wr.heap.size + 1)
        clear hW c0 c1 c2 c3
        have hc := cells4 z.out
        have hc3 := cells3 HMW.out.box
        by_cases hT : op = 2 ∨ op = 3 ∨ op = 4 ∨ op = 6 ∨ op = 16
        · cases st with
          | nil =>
            as_aux_lemma =>
              obtain rfl : sn = 0 := HSN.out.symm
              have HB := Lib.hid (loopF_bad (x := ⟨op, xa, xb, xc⟩) hlt HX.out HR.out (by rcases hT with rfl | rfl | rfl | rfl | rfl <;> rfl))
              clear HX HR
              have hcr := cells3 HMW.out.res
              have ⟨hi0, hi1, hi2⟩ := is3 HMW.out.res
              rcases hT with rfl | rfl | rfl | rfl | rfl
              all_goals
                go_wp2_with fail
                (try simp only [Exit.inBlock, Exit.then])
                refine bodyPost_ret (by simp [results, Try.results9, go_sem, hi0, hi1, hi2]; try rfl) rfl ?_
                exact ⟨_, _, rfl, HMW.out.below.trans (by go_grown), .inl ⟨rfl, HB.out, rfl⟩⟩
          | cons ct t =>
            obtain ⟨g, rfl, hsn, hcap, hg3, hgl⟩ := HMW.out.pos
            have htop := HMW.out.top hsn
            have hs1 : ¬ ((sn : Int) - 1 < 0) := by omega
            have hs2 : 0 ≤ (sn : Int) - 1 := by omega
            have HB2 := Lib.hid hsn
            have hsn1 : 1 ≤ sn := by omega
            clear hsn
            by_cases hU2 : op = 2
            · as_aux_lemma =>
                subst hU2
                have R := Lib.hid (loopF_next hlt HX.out HR.out (show exec ⟨2, xa, xb, xc⟩ ⟨pc, ct :: t, vars, back⟩ = .go ⟨pc + 1, t, vars, back⟩ from exec_pop rfl _) (vp := .int .i64 ((pc : Int) + 1)) rfl (by have := HB2.out; show t.length ≤ k + 1; omega) (by show back.length ≤ k + 1; omega) (HMW.out.pop HB2.out))
                go_wp2_with fail
                go_roundw
                case rel => exact R.out
                case measure => simp [intOf]; omega
            by_cases hU3 : op = 3
            · as_aux_lemma =>
                subst hU3
                have hs3 : (1 : Int) ≤ (sn : Int) := by omega
                have hs4 : (sn : Int) - 1 < (sn : Int) := by omega
                go_upto_region 23 with fail
                refine wp_region_D (fun w' => MS w.heap.size (ct :: t) vars back (.slice (some ⟨g, 0, none⟩) sn cap) (.slice bo back.length bcap) w w') [8, 9, 10] (by kernel_rfl) ?_
                have hS3 := HMW.out.drew
                generalize World.drew W = W5 at hS3 ⊢
                have hq5 := cells3 hS3.box
                have ht5 := hS3.top HB2.out
                (refine wpAnyD_take (i := 0) (v := ?_) [1, 8, 9, 10] [8, 9, 10] rfl (by kernel_rfl) (by kernel_rfl) (by kernel_rfl) (fun _ _ _ h => h) (by kernel_rfl) (by kernel_rfl) (by kernel_rfl) (Or.inl ⟨?_, ?_⟩) hS3 ?_
                 rotate_left
                 focus rfl
                 focus (intro w' hw'; have hw1 := cells3 hw'.box; have hw2 := hw'.top HB2.out; clear hw'; go_simp; with_reducible rfl)
                 try go_simp)
                (refine wpAnyD_take (i := 1) (v := ?_) [8, 9, 10] [8, 9, 10] rfl (by kernel_rfl) (by kernel_rfl) (by kernel_rfl) (fun _ _ _ h => h) (by kernel_rfl) (by kernel_rfl) (by kernel_rfl) (Or.inl ⟨?_, ?_⟩) hS3 ?_
                 rotate_left
                 focus rfl
                 focus (intro w' hw'; have hw1 := cells3 hw'.box; have hw2 := hw'.top HB2.out; clear hw'; go_simp; with_reducible rfl)
                 try go_simp)
                (refine wpAnyD_take (i := 2) (v := ?_) [3, 5, 6, 7, 8, 9, 10] [8, 9, 10] rfl (by kernel_rfl) (by kernel_rfl) (by kernel_rfl) (fun _ _ _ h => h) (by kernel_rfl) (by kernel_rfl) (by kernel_rfl) (Or.inl ⟨?_, ?_⟩) hS3 ?_
                 rotate_left
                 focus rfl
                 focus (intro w' hw'; have hw1 := cells3 hw'.box; have hw2 := hw'.top HB2.out; clear hw'; go_simp; with_reducible rfl)
                 try go_simp)
                (refine wpAnyD_take (i := 3) (v := ?_) [5, 6, 7, 8, 9, 10] [8, 9, 10] rfl (by kernel_rfl) (by kernel_rfl) (by kernel_rfl) (fun _ _ _ h => h) (by kernel_rfl) (by kernel_rfl) (by kernel_rfl) (Or.inl ⟨?_, ?_⟩) hS3 ?_
                 rotate_left
                 focus rfl
                 focus (intro w' hw'; have hw1 := cells3 hw'.box; have hw2 := hw'.top HB2.out; clear hw'; go_simp; with_reducible rfl)
                 try go_simp)
                (refine wpAnyD_take (i := 4) (v := ?_) [5, 6, 7, 8, 9, 10] [8, 9, 10] rfl (by kernel_rfl) (by kernel_rfl) (by kernel_rfl) (fun _ _ _ h => h) (by kernel_rfl) (by kernel_rfl) (by kernel_rfl) (Or.inl ⟨?_, ?_⟩) hS3 ?_
                 rotate_left
                 focus rfl
                 focus (intro w' hw'; have hw1 := cells3 hw'.box; have hw2 := hw'.top HB2.out; clear hw'; go_simp; with_reducible rfl)
                 try go_simp)
                (refine wpAnyD_take (i := 5) (v := ?_) [6, 7, 8, 9, 10] [8, 9, 10] rfl (by kernel_rfl) (by kernel_rfl) (by kernel_rfl) (fun _ _ _ h => h) (by kernel_rfl) (by kernel_rfl) (by kernel_rfl) (Or.inl ⟨?_, ?_⟩) hS3 ?_
                 rotate_left
                 focus rfl
                 focus (intro w' hw'; have hw1 := cells3 hw'.box; have hw2 := hw'.top HB2.out; clear hw'; go_simp; with_reducible rfl)
                 try go_simp)
                (refine wpAnyD_take (i := 6) (v := ?_) [7, 8, 9, 10] [8, 9, 10] rfl (by kernel_rfl) (by kernel_rfl) (by kernel_rfl) (fun _ _ _ h => h) (by kernel_rfl) (by kernel_rfl) (by kernel_rfl) (Or.inl ⟨?_, ?_⟩) hS3 ?_
                 rotate_left
                 focus rfl
                 focus (intro w' hw'; have hw1 := cells3 hw'.box; have hw2 := hw'.top HB2.out; clear hw'; go_simp; with_reducible rfl)
                 try go_simp)
                refine wpAnyD_ready (rs := [7]) (by kernel_rfl) (by simp) ?_
                refine AllReadyD.cons rfl (fun K hK => ?_) AllReadyD.nil
                go_simp
                refine hK.out _ _ (fun _ => hS3.alloc _) ?_
                clear hK K
                try go_simp
                refine wpAnyD_ready (rs := [8]) (by kernel_rfl) (by simp) ?_
                refine AllReadyD.cons rfl (fun K hK => ?_) AllReadyD.nil
                refine step_append_one rfl (.tmp 89) (.tmp 95) 26 rfl (w.heap.size + 3) 40 i0 _ 2 16 Try.underlying26 HI.out HZ0.out HZ1.out HZ2.out rfl (by decide) _ _ (enc (ct :: t)) rfl ((hS3.alloc _).stack) ⟨W5.heap.size, 0, none⟩ 1 [.bool ct.1, .int .i64 ct.2] rfl rfl (cell_new W5 _ _) (cells_one _ _) (by have := HB2.out; simp only [List.length_cons]; unfold maxLen; omega) (by have := HB2.out; simp only [List.length_cons]; omega) (by have := hS3.size; simp; omega) ?_
                intro v' w3 hap
                obtain ⟨g', cap', rfl⟩ := hap.made
                have HP1 := Lib.hid ((hS3.alloc _).push (c := ct) hap)
                have hq3 := cells3 ((hS3.alloc _).boxPush hap)
                clear hap hS3
                refine hK.out _ _ (fun h => absurd h (by decide)) ?_
                clear hK K
                try go_simp
                refine wpAnyD_ready (rs := [9]) (by kernel_rfl) (by simp) ?_
                refine AllReadyD.cons rfl (fun K hK => ?_) AllReadyD.nil
                go_simp
                refine hK.out _ _ (fun h => absurd h (by decide)) ?_
                clear hK K
                try go_simp
                refine wpAnyD_ready (rs := [10]) (by kernel_rfl) (by simp) ?_
                refine AllReadyD.cons rfl (fun K hK => ?_) AllReadyD.nil
                go_simp
                refine hK.out _ _ (fun h => absurd h (by decide)) ?_
                clear hK K
                try go_simp
                refine wpAnyD_done (by kernel_rfl) ?_ _
                have R := Lib.hid (loopF_next hlt HX.out HR.out (show exec ⟨3, xa, xb, xc⟩ ⟨pc, ct :: t, vars, back⟩ = .go ⟨pc + 1, ct :: ct :: t, vars, back⟩ from exec_dup rfl _) (vp := .int .i64 ((pc : Int) + 1)) rfl (by have := HB2.out; show t.length + 1 + 1 ≤ k + 1; omega) (by show back.length ≤ k + 1; omega) HP1.out)
                go_wp2_with fail
                go_roundw
                case rel => exact R.out
                case measure => simp [intOf]; omega
            by_cases hU4 : op = 4
            · as_aux_lemma =>
                subst hU4
                have R := Lib.hid (loopF_next hlt HX.out HR.out (show exec ⟨4, xa, xb, xc⟩ ⟨pc, ct :: t, vars, back⟩ = .go ⟨pc + 1, (true, xa) :: t, vars, back⟩ from exec_const rfl _) (vp := .int .i64 ((pc : Int) + 1)) rfl (by have := HB2.out; show t.length + 1 ≤ k + 1; omega) (by show back.length ≤ k + 1; omega) (HMW.out.setTop HB2.out (true, xa)))
                go_wp2_with fail
                go_roundw
                case rel => exact R.out
                case measure => simp [intOf]; omega
            by_cases hU6 : op = 6
            · as_aux_lemma =>
                subst hU6
                have hs3 : (1 : Int) ≤ (sn : Int) := by omega
                have hs4 : (sn : Int) - 1 < (sn : Int) := by omega
                by_cases hr : 0 ≤ xa ∧ xa < 8
                · have hr0 : ¬ xa < 0 := by omega
                  have hr1 : ¬ 8 ≤ xa := by omega
                  obtain ⟨xi, rfl⟩ : ∃ xi : Nat, xa = (xi : Int) := ⟨xa.toNat, (Int.toNat_of_nonneg hr.1).symm⟩
                  have hxi : xi < 8 := by omega
                  go_upto_region 32 with fail
                  refine wp_region_D (fun w' => MS w.heap.size (ct :: t) vars back (.slice (some ⟨g, 0, none⟩) sn cap) (.slice bo back.length bcap) w w' ∧ w'.heap[wr.heap.size]? = some (.cells #[.int .i64 6, .int .i64 xi, .int .i64 xb, .int .i64 xc] 36 (0, 0))) [10] (by kernel_rfl) ?_
                  have hS3 : MS w.heap.size (ct :: t) vars back (.slice (some ⟨g, 0, none⟩) sn cap) (.slice bo back.length bcap) w (World.drew W) ∧ (World.drew W).heap[wr.heap.size]? = some (.cells #[.int .i64 6, .int .i64 xi, .int .i64 xb, .int .i64 xc] 36 (0, 0)) := ⟨HMW.out.drew, z.out⟩
                  generalize World.drew W = W5 at hS3 ⊢
                  (refine wpAnyD_take (i := 0) (v := ?_) [1, 9, 10] [10] rfl (by kernel_rfl) (by kernel_rfl) (by kernel_rfl) (fun _ _ _ h => h) (by kernel_rfl) (by kernel_rfl) (by kernel_rfl) (Or.inl ⟨?_, ?_⟩) hS3 ?_
                   rotate_left
                   focus rfl
                   focus (intro w' hw'; have hw1 := cells3 hw'.1.box; have hw2 := hw'.1.top HB2.out; have hw4 := cells4 hw'.2; clear hw'; go_simp; with_reducible rfl)
                   try go_simp)
                  (refine wpAnyD_take (i := 1) (v := ?_) [9, 10] [10] rfl (by kernel_rfl) (by kernel_rfl) (by kernel_rfl) (fun _ _ _ h => h) (by kernel_rfl) (by kernel_rfl) (by kernel_rfl) (Or.inl ⟨?_, ?_⟩) hS3 ?_
                   rotate_left
                   focus rfl
                   focus (intro w' hw'; have hw1 := cells3 hw'.1.box; have hw2 := hw'.1.top HB2.out; have hw4 := cells4 hw'.2; clear hw'; go_simp; with_reducible rfl)
                   try go_simp)
                  (refine wpAnyD_take (i := 2) (v := ?_) [3, 9, 10] [10] rfl (by kernel_rfl) (by kernel_rfl) (by kernel_rfl) (fun _ _ _ h => h) (by kernel_rfl) (by kernel_rfl) (by kernel_rfl) (Or.inl ⟨?_, ?_⟩) hS3 ?_
                   rotate_left
                   focus rfl
                   focus (intro w' hw'; have hw1 := cells3 hw'.1.box; have hw2 := hw'.1.top HB2.out; have hw4 := cells4 hw'.2; clear hw'; go_simp; with_reducible rfl)
                   try go_simp)
                  (refine wpAnyD_take (i := 3) (v := ?_) [9, 10] [10] rfl (by kernel_rfl) (by kernel_rfl) (by kernel_rfl) (fun _ _ _ h => h) (by kernel_rfl) (by kernel_rfl) (by kernel_rfl) (Or.inl ⟨?_, ?_⟩) hS3 ?_
                   rotate_left
                   focus rfl
                   focus (intro w' hw'; have hw1 := cells3 hw'.1.box; have hw2 := hw'.1.top HB2.out; have hw4 := cells4 hw'.2; clear hw'; go_simp; with_reducible rfl)
                   try go_simp)
                  (refine wpAnyD_take (i := 4) (v := ?_) [5, 7, 8, 9, 10] [10] rfl (by kernel_rfl) (by kernel_rfl) (by kernel_rfl) (fun _ _ _ h => h) (by kernel_rfl) (by kernel_rfl) (by kernel_rfl) (Or.inl ⟨?_, ?_⟩) hS3 ?_
                   rotate_left
                   focus rfl
                   focus (intro w' hw'; have hw1 := cells3 hw'.1.box; have hw2 := hw'.1.top HB2.out; have hw4 := cells4 hw'.2; clear hw'; go_simp; with_reducible rfl)
                   try go_simp)
                  (refine wpAnyD_take (i := 5) (v := ?_) [7, 8, 9, 10] [10] rfl (by kernel_rfl) (by kernel_rfl) (by kernel_rfl) (fun _ _ _ h => h) (by kernel_rfl) (by kernel_rfl) (by kernel_rfl) (Or.inl ⟨?_, ?_⟩) hS3 ?_
                   rotate_left
                   focus rfl
                   focus (intro w' hw'; have hw1 := cells3 hw'.1.box; have hw2 := hw'.1.top HB2.out; have hw4 := cells4 hw'.2; clear hw'; go_simp; with_reducible rfl)
                   try go_simp)
                  (refine wpAnyD_take (i := 6) (v := ?_) [7, 8, 9, 10] [10] rfl (by kernel_rfl) (by kernel_rfl) (by kernel_rfl) (fun _ _ _ h => h) (by kernel_rfl) (by kernel_rfl) (by kernel_rfl) (Or.inl ⟨?_, ?_⟩) hS3 ?_
                   rotate_left
                   focus rfl
                   focus (intro w' hw'; have hw1 := cells3 hw'.1.box; have hw2 := hw'.1.top HB2.out; have hw4 := cells4 hw'.2; clear hw'; go_simp; with_reducible rfl)
                   try go_simp)
                  (refine wpAnyD_take (i := 7) (v := ?_) [8, 9, 10] [10] rfl (by kernel_rfl) (by kernel_rfl) (by kernel_rfl) (fun _ _ _ h => h) (by kernel_rfl) (by kernel_rfl) (by kernel_rfl) (Or.inl ⟨?_, ?_⟩) hS3 ?_
                   rotate_left
                   focus rfl
                   focus (intro w' hw'; have hw1 := cells3 hw'.1.box; have hw2 := hw'.1.top HB2.out; have hw4 := cells4 hw'.2; clear hw'; go_simp; with_reducible rfl)
                   try go_simp)
                  (refine wpAnyD_take (i := 8) (v := ?_) [9, 10] [10] rfl (by kernel_rfl) (by kernel_rfl) (by kernel_rfl) (fun _ _ _ h => h) (by kernel_rfl) (by kernel_rfl) (by kernel_rfl) (Or.inl ⟨?_, ?_⟩) hS3 ?_
                   rotate_left
                   focus rfl
                   focus (intro w' hw'; have hw1 := cells3 hw'.1.box; have hw2 := hw'.1.top HB2.out; have hw4 := cells4 hw'.2; clear hw'; go_simp; with_reducible rfl)
                   try go_simp)
                  (refine wpAnyD_take (i := 9) (v := ?_) [10] [10] rfl (by kernel_rfl) (by kernel_rfl) (by kernel_rfl) (fun _ _ _ h => h) (by kernel_rfl) (by kernel_rfl) (by kernel_rfl) (Or.inl ⟨?_, ?_⟩) hS3 ?_
                   rotate_left
                   focus rfl
                   focus (intro w' hw'; have hw1 := cells3 hw'.1.box; have hw2 := hw'.1.top HB2.out; have hw4 := cells4 hw'.2; clear hw'; go_simp; with_reducible rfl)
                   try go_simp)
                  have hv5 := hS3.1.getVar xi hxi
                  have HP1 := Lib.hid (hS3.1.setVar xi ct)
                  have HQ1 := Lib.hid (cells3 HP1.out.box)
                  have HP2 := Lib.hid (HP1.out.pop HB2.out)
                  clear hS3
                  refine wpAnyD_ready (rs := [10]) (by kernel_rfl) (by simp) ?_
                  refine AllReadyD.cons rfl (fun K hK => ?_) AllReadyD.nil
                  go_simp
                  refine hK.out _ _ (fun h => absurd h (by decide)) ?_
                  clear hK K
                  try go_simp
                  refine wpAnyD_done (by kernel_rfl) ?_ _
                  have hq := HQ1.out
                  have he : Hid (exec ⟨6, xi, xb, xc⟩ ⟨pc, ct :: t, vars, back⟩ = .go ⟨pc + 1, t, vars.set xi ct, back⟩) := Lib.hid (by rw [exec_store rfl]; show (if 0 ≤ (xi : Int) ∧ (xi : Int) < 8 then _ else _) = _; rw [if_pos hr]; rfl)
                  have R := Lib.hid (loopF_next hlt HX.out HR.out he.out (vp := .int .i64 ((pc : Int) + 1)) rfl (by have := HB2.out; show t.length ≤ k + 1; omega) (by show back.length ≤ k + 1; omega) HP2.out)
                  go_wp2_with fail
                  go_roundw
                  case rel => exact R.out
                  case measure => simp [intOf]; omega
                · have HB := Lib.hid (loopF_bad (x := ⟨6, xa, xb, xc⟩) hlt HX.out HR.out (by rw [exec_store rfl]; show (if 0 ≤ xa ∧ xa < 8 then _ else _) = _; rw [if_neg hr]))
                  have hcr := cells3 HMW.out.res
                  have ⟨hi0, hi1, hi2⟩ := is3 HMW.out.res
                  by_cases hr0 : xa < 0
                  · go_wp2_with fail
                    all_goals
                      (try simp only [Exit.inBlock, Exit.then])
                      refine bodyPost_ret (by simp [results, Try.results9, go_sem, hi0, hi1, hi2]; try rfl) rfl ?_
                      exact ⟨_, _, rfl, HMW.out.below.trans (by go_grown), .inl ⟨rfl, HB.out, rfl⟩⟩
                  · have hr1 : 8 ≤ xa := by omega
                    go_wp2_with fail
                    all_goals
                      (try simp only [Exit.inBlock, Exit.then])
                      refine bodyPost_ret (by simp [results, Try.results9, go_sem, hi0, hi1, hi2]; try rfl) rfl ?_
                      exact ⟨_, _, rfl, HMW.out.below.trans (by go_grown), .inl ⟨rfl, HB.out, rfl⟩⟩
            · as_aux_lemma =>
                have hU16 : op = 16 := by omega
                subst hU16
                have hx0 : 0 ≤ xa := HP.out _ (List.mem_of_getElem? HX.out) (by unfold jumps; simp)
                obtain ⟨cb, cv⟩ := ct
                cases cb
                · have R := Lib.hid (loopF_next hlt HX.out HR.out (show exec ⟨16, xa, xb, xc⟩ ⟨pc, (false, cv) :: t, vars, back⟩ = .go ⟨xa.toNat, t, vars, back⟩ from exec_jin rfl _) (vp := .int .i64 xa) (nat_int hx0) (by have := HB2.out; show t.length ≤ k + 1; omega) (by show back.length ≤ k + 1; omega) (HMW.out.pop HB2.out))
                  go_wp2_with fail
                  go_roundw
                  case rel => exact R.out
                  case measure => simp [intOf]; omega
                · have R := Lib.hid (loopF_next hlt HX.out HR.out (show exec ⟨16, xa, xb, xc⟩ ⟨pc, (true, cv) :: t, vars, back⟩ = .go ⟨pc + 1, t, vars, back⟩ from exec_jin rfl _) (vp := .int .i64 ((pc : Int) + 1)) rfl (by have := HB2.out; show t.length ≤ k + 1; omega) (by show back.length ≤ k + 1; omega) (HMW.out.pop HB2.out))
                  go_wp2_with fail
                  go_roundw
                  case rel => exact R.out
                  case measure => simp [intOf]; omega
        · by_cases hA : op = 0 ∨ op = 23
          · as_aux_lemma =>
              have he : Hid (exec ⟨op, xa, xb, xc⟩ ⟨pc, st, vars, back⟩ = .go ⟨pc + 1, st, vars, back⟩) := Lib.hid (by rcases hA with rfl | rfl <;> rfl)
              have R := Lib.hid (loopF_next hlt HX.out HR.out he.out (vp := .int .i64 ((pc : Int) + 1)) rfl (by show st.length ≤ k + 1; rw [HSN.out]; omega) (by show back.length ≤ k + 1; omega) (HSN.out ▸ HMW.out))
              by_cases hs1 : ((sn : Int) - 1 < 0)
              all_goals
                rcases hA with rfl | rfl
              all_goals
                go_wp2_with fail
                go_roundw
                case rel =>
                  exact R.out
                case measure => simp [intOf]; omega
          by_cases hU1 : op = 1
          · as_aux_lemma =>
              subst hU1
              have he := Lib.hid (exec_push (x := ⟨1, xa, xb, xc⟩) rfl ⟨pc, st, vars, back⟩)
              have h401 : st.length + 1 ≤ 401 := by rw [HSN.out]; omega
              have hWz := HMW.out.size
              by_cases hs1 : ((sn : Int) - 1 < 0)
              all_goals
                go_wp2_with (at_builtin; refine wpList_append_one _ rfl _ _ 26 rfl (w.heap.size + 3) 40 i0 _ 2 16 Try.underlying26 HI.out HZ0.out HZ1.out HZ2.out rfl (by decide) _ _ (enc st) rfl ((HMW.out.alloc _).stack) ⟨W.heap.size, 0, none⟩ 1 [.bool true, .int .i64 xa] rfl rfl (cell_new W _ _) (cells_one _ _) (by unfold maxLen; omega) (by omega) (by simp; omega) ?_; intro v' w3 hap; obtain ⟨g', cap', rfl⟩ := hap.made; have HP1 := Lib.hid ((HMW.out.alloc _).push (c := (true, xa)) hap); have hq3 := cells3 ((HMW.out.alloc _).boxPush hap); clear hap)
                go_roundw
                case rel =>
                  exact loopF_next hlt HX.out HR.out he.out rfl (by show st.length + 1 ≤ k + 1; rw [HSN.out]; omega) (by show back.length ≤ k + 1; omega) HP1.out
                case measure => simp [intOf]; omega
          by_cases hU5 : op = 5
          · as_aux_lemma =>
              subst hU5
              by_cases hr : 0 ≤ xa ∧ xa < 8
              · have hr0 : ¬ xa < 0 := by omega
                have hr1 : ¬ 8 ≤ xa := by omega
                obtain ⟨xi, rfl⟩ : ∃ xi : Nat, xa = (xi : Int) := ⟨xa.toNat, (Int.toNat_of_nonneg hr.1).symm⟩
                have hxi : xi < 8 := by omega
                have he : Hid (exec ⟨5, xi, xb, xc⟩ ⟨pc, st, vars, back⟩ = .go ⟨pc + 1, vars.getD xi (false, 0) :: st, vars, back⟩) := Lib.hid (by rw [exec_load rfl]; show (if 0 ≤ (xi : Int) ∧ (xi : Int) < 8 then _ else _) = _; rw [if_pos hr]; rfl)
                by_cases hs1 : ((sn : Int) - 1 < 0)
                all_goals
                  go_upto_region 31 with fail
                  refine wp_region_D (fun w' => MS w.heap.size st vars back (.slice ao sn cap) (.slice bo back.length bcap) w w' ∧ w'.heap[wr.heap.size]? = some (.cells #[.int .i64 5, .int .i64 xi, .int .i64 xb, .int .i64 xc] 36 (0, 0))) [9, 10, 11] (by kernel_rfl) ?_
                  have hS3 : MS w.heap.size st vars back (.slice ao sn cap) (.slice bo back.length bcap) w (World.drew W) ∧ (World.drew W).heap[wr.heap.size]? = some (.cells #[.int .i64 5, .int .i64 xi, .int .i64 xb, .int .i64 xc] 36 (0, 0)) := ⟨HMW.out.drew, z.out⟩
                  generalize World.drew W = W5 at hS3 ⊢
                  (refine wpAnyD_take (i := 0) (v := ?_) [1, 9, 10, 11] [9, 10, 11] rfl (by kernel_rfl) (by kernel_rfl) (by kernel_rfl) (fun _ _ _ h => h) (by kernel_rfl) (by kernel_rfl) (by kernel_rfl) (Or.inl ⟨?_, ?_⟩) hS3 ?_
                   rotate_left
                   focus rfl
                   focus (intro w' hw'; have hw1 := cells3 hw'.1.box; have hw2 := hw'.1.getVar xi hxi; have hw4 := cells4 hw'.2; clear hw'; go_simp; with_reducible rfl)
                   try go_simp)
                  (refine wpAnyD_take (i := 1) (v := ?_) [9, 10, 11] [9, 10, 11] rfl (by kernel_rfl) (by kernel_rfl) (by kernel_rfl) (fun _ _ _ h => h) (by kernel_rfl) (by kernel_rfl) (by kernel_rfl) (Or.inl ⟨?_, ?_⟩) hS3 ?_
                   rotate_left
                   focus rfl
                   focus (intro w' hw'; have hw1 := cells3 hw'.1.box; have hw2 := hw'.1.getVar xi hxi; have hw4 := cells4 hw'.2; clear hw'; go_simp; with_reducible rfl)
                   try go_simp)
                  (refine wpAnyD_take (i := 2) (v := ?_) [3, 6, 7, 8, 9, 10, 11] [9, 10, 11] rfl (by kernel_rfl) (by kernel_rfl) (by kernel_rfl) (fun _ _ _ h => h) (by kernel_rfl) (by kernel_rfl) (by kernel_rfl) (Or.inl ⟨?_, ?_⟩) hS3 ?_
                   rotate_left
                   focus rfl
                   focus (intro w' hw'; have hw1 := cells3 hw'.1.box; have hw2 := hw'.1.getVar xi hxi; have hw4 := cells4 hw'.2; clear hw'; go_simp; with_reducible rfl)
                   try go_simp)
                  (refine wpAnyD_take (i := 3) (v := ?_) [6, 7, 8, 9, 10, 11] [9, 10, 11] rfl (by kernel_rfl) (by kernel_rfl) (by kernel_rfl) (fun _ _ _ h => h) (by kernel_rfl) (by kernel_rfl) (by kernel_rfl) (Or.inl ⟨?_, ?_⟩) hS3 ?_
                   rotate_left
                   focus rfl
                   focus (intro w' hw'; have hw1 := cells3 hw'.1.box; have hw2 := hw'.1.getVar xi hxi; have hw4 := cells4 hw'.2; clear hw'; go_simp; with_reducible rfl)
                   try go_simp)
                  (refine wpAnyD_take (i := 4) (v := ?_) [5, 6, 7, 8, 9, 10, 11] [9, 10, 11] rfl (by kernel_rfl) (by kernel_rfl) (by kernel_rfl) (fun _ _ _ h => h) (by kernel_rfl) (by kernel_rfl) (by kernel_rfl) (Or.inl ⟨?_, ?_⟩) hS3 ?_
                   rotate_left
                   focus rfl
                   focus (intro w' hw'; have hw1 := cells3 hw'.1.box; have hw2 := hw'.1.getVar xi hxi; have hw4 := cells4 hw'.2; clear hw'; go_simp; with_reducible rfl)
                   try go_simp)
                  (refine wpAnyD_take (i := 5) (v := ?_) [6, 7, 8, 9, 10, 11] [9, 10, 11] rfl (by kernel_rfl) (by kernel_rfl) (by kernel_rfl) (fun _ _ _ h => h) (by kernel_rfl) (by kernel_rfl) (by kernel_rfl) (Or.inl ⟨?_, ?_⟩) hS3 ?_
                   rotate_left
                   focus rfl
                   focus (intro w' hw'; have hw1 := cells3 hw'.1.box; have hw2 := hw'.1.getVar xi hxi; have hw4 := cells4 hw'.2; clear hw'; go_simp; with_reducible rfl)
                   try go_simp)
                  (refine wpAnyD_take (i := 6) (v := ?_) [7, 8, 9, 10, 11] [9, 10, 11] rfl (by kernel_rfl) (by kernel_rfl) (by kernel_rfl) (fun _ _ _ h => h) (by kernel_rfl) (by kernel_rfl) (by kernel_rfl) (Or.inl ⟨?_, ?_⟩) hS3 ?_
                   rotate_left
                   focus rfl
                   focus (intro w' hw'; have hw1 := cells3 hw'.1.box; have hw2 := hw'.1.getVar xi hxi; have hw4 := cells4 hw'.2; clear hw'; go_simp; with_reducible rfl)
                   try go_simp)
                  (refine wpAnyD_take (i := 7) (v := ?_) [8, 9, 10, 11] [9, 10, 11] rfl (by kernel_rfl) (by kernel_rfl) (by kernel_rfl) (fun _ _ _ h => h) (by kernel_rfl) (by kernel_rfl) (by kernel_rfl) (Or.inl ⟨?_, ?_⟩) hS3 ?_
                   rotate_left
                   focus rfl
                   focus (intro w' hw'; have hw1 := cells3 hw'.1.box; have hw2 := hw'.1.getVar xi hxi; have hw4 := cells4 hw'.2; clear hw'; go_simp; with_reducible rfl)
                   try go_simp)
                  refine wpAnyD_ready (rs := [8]) (by kernel_rfl) (by simp) ?_
                  refine AllReadyD.cons rfl (fun K hK => ?_) AllReadyD.nil
                  go_simp
                  refine hK.out _ _ (fun _ => ⟨hS3.1.alloc _, block_past hS3.2 _⟩) ?_
                  clear hK K
                  try go_simp
                  refine wpAnyD_ready (rs := [9]) (by kernel_rfl) (by simp) ?_
                  refine AllReadyD.cons rfl (fun K hK => ?_) AllReadyD.nil
                  have h401 : st.length + 1 ≤ 401 := by rw [HSN.out]; omega
                  refine step_append_one rfl (.tmp 123) (.tmp 130) 26 rfl (w.heap.size + 3) 40 i0 _ 2 16 Try.underlying26 HI.out HZ0.out HZ1.out HZ2.out rfl (by decide) _ _ (enc st) rfl ((hS3.1.alloc _).stack) ⟨W5.heap.size, 0, none⟩ 1 [.bool (vars.getD xi (false, 0)).1, .int .i64 (vars.getD xi (false, 0)).2] rfl rfl (cell_new W5 _ _) (cells_one _ _) (by unfold maxLen; omega) (by omega) (by have := hS3.1.size; simp; omega) ?_
                  intro v' w3 hap
                  obtain ⟨g', cap', rfl⟩ := hap.made
                  have HP1 := Lib.hid ((hS3.1.alloc _).push (c := vars.getD xi (false, 0)) hap)
                  have hq3 := cells3 ((hS3.1.alloc _).boxPush hap)
                  clear hap hS3
                  refine hK.out _ _ (fun h => absurd h (by decide)) ?_
                  clear hK K
                  try go_simp
                  refine wpAnyD_ready (rs := [10]) (by kernel_rfl) (by simp) ?_
                  refine AllReadyD.cons rfl (fun K hK => ?_) AllReadyD.nil
                  go_simp
                  refine hK.out _ _ (fun h => absurd h (by decide)) ?_
                  clear hK K
                  try go_simp
                  refine wpAnyD_ready (rs := [11]) (by kernel_rfl) (by simp) ?_
                  refine AllReadyD.cons rfl (fun K hK => ?_) AllReadyD.nil
                  go_simp
                  refine hK.out _ _ (fun h => absurd h (by decide)) ?_
                  clear hK K
                  try go_simp
                  refine wpAnyD_done (by kernel_rfl) ?_ _
                  have R := Lib.hid (loopF_next hlt HX.out HR.out he.out (vp := .int .i64 ((pc : Int) + 1)) rfl (by show st.length + 1 ≤ k + 1; rw [HSN.out]; omega) (by show back.length ≤ k + 1; omega) HP1.out)
                  go_wp2_with fail
                  go_roundw
                  case rel => exact R.out
                  case measure => simp [intOf]; omega
              · have HB := Lib.hid (loopF_bad (x := ⟨5, xa, xb, xc⟩) hlt HX.out HR.out (by rw [exec_load rfl]; show (if 0 ≤ xa ∧ xa < 8 then _ else _) = _; rw [if_neg hr]))
                have hcr := cells3 HMW.out.res
                have ⟨hi0, hi1, hi2⟩ := is3 HMW.out.res
                by_cases hs1 : ((sn : Int) - 1 < 0)
                all_goals
                  by_cases hr0 : xa < 0
                  · go_wp2_with fail
                    (try simp only [Exit.inBlock, Exit.then])
                    refine bodyPost_ret (by simp [results, Try.results9, go_sem, hi0, hi1, hi2]; try rfl) rfl ?_
                    exact ⟨_, _, rfl, HMW.out.below.trans (by go_grown), .inl ⟨rfl, HB.out, rfl⟩⟩
                  · have hr1 : 8 ≤ xa := by omega
                    go_wp2_with fail
                    (try simp only [Exit.inBlock, Exit.then])
                    refine bodyPost_ret (by simp [results, Try.results9, go_sem, hi0, hi1, hi2]; try rfl) rfl ?_
                    exact ⟨_, _, rfl, HMW.out.below.trans (by go_grown), .inl ⟨rfl, HB.out, rfl⟩⟩
          by_cases hU15 : op = 15 ∨ op = 20
          · as_aux_lemma =>
              have hx0 : 0 ≤ xa := HP.out _ (List.mem_of_getElem? HX.out) (by unfold jumps; rcases hU15 with rfl | rfl <;> simp)
              have he : Hid (exec ⟨op, xa, xb, xc⟩ ⟨pc, st, vars, back⟩ = .go ⟨xa.toNat, st, vars, back⟩) := Lib.hid (by rcases hU15 with rfl | rfl <;> rfl)
              have R := Lib.hid (loopF_next hlt HX.out HR.out he.out (vp := .int .i64 xa) (nat_int hx0) (by show st.length ≤ k + 1; rw [HSN.out]; omega) (by show back.length ≤ k + 1; omega) HMW.out)
              by_cases hs1 : ((sn : Int) - 1 < 0)
              all_goals
                rcases hU15 with rfl | rfl
              all_goals
                go_wp2_with fail
                go_roundw
                case rel => exact R.out
                case measure => simp [intOf]; omega
          by_cases hU19 : op = 19
          · as_aux_lemma =>
              subst hU19
              have hx0 : 0 ≤ xa := HP.out _ (List.mem_of_getElem? HX.out) (by unfold jumps; simp)
              have he : Hid (exec ⟨19, xa, xb, xc⟩ ⟨pc, st, vars, back⟩ = .go ⟨xa.toNat, st, vars, (pc + 1) :: back⟩) := Lib.hid rfl
              have hbk2 : back.length + 1 ≤ 401 := by omega
              have hWz := HMW.out.size
              by_cases hs1 : ((sn : Int) - 1 < 0)
              all_goals
                go_wp2_with (at_builtin; refine wpList_append_one _ rfl _ _ 38 rfl (w.heap.size + 3) 3 j0 _ 1 8 Try.underlying38 JI.out JZ0.out JZ1.out JZ2.out rfl (by decide) _ _ (encB back) rfl ((HMW.out.alloc _).bk) ⟨W.heap.size, 0, none⟩ 1 [.int .i64 ((pc : Int) + 1)] rfl rfl (cell_new W _ _) (int_one _) (by unfold maxLen; omega) (by omega) (by simp; omega) ?_; intro v' w3 hap; obtain ⟨g', cap', rfl⟩ := hap.made; have HP1 := Lib.hid ((HMW.out.alloc _).call (p := pc + 1) hap); have hq3 := cells4 (blk_kept HM.out.bk (block_past z.out _) (Nat.le_refl _) hap); clear hap)
                go_roundw
                case rel =>
                  exact loopF_next hlt HX.out HR.out he.out (nat_int hx0) (by show st.length ≤ k + 1; rw [HSN.out]; omega) (by show back.length + 1 ≤ k + 1; omega) HP1.out
                case measure => simp [intOf]; omega
          by_cases hU14 : op = 14
          · as_aux_lemma =>
              subst hU14
              have HB := Lib.hid (loopF_fin (x := ⟨14, xa, xb, xc⟩) hlt HX.out HR.out (exec_back rfl _))
              have hcr := cells3 HMW.out.res
              have ⟨hi0, hi1, hi2⟩ := is3 HMW.out.res
              by_cases hs1 : ((sn : Int) - 1 < 0)
              all_goals
                go_wp2_with fail
                (try simp only [Exit.inBlock, Exit.then])
                refine bodyPost_ret (by simp [results, Try.results9, go_sem, hi0, hi1, hi2]; try rfl) rfl ?_
                exact ⟨_, _, rfl, HMW.out.below.trans (by go_grown), .inr ⟨_, rfl, HB.out, HMW.out.fin false fun b h1 h2 => (heap_setCell_other _ _ _ _ (by show b ≠ w.heap.size; omega)).trans ((heap_setCell_other _ _ _ _ (by show b ≠ w.heap.size; omega)).trans (heap_setCell_other _ _ _ _ (by show b ≠ w.heap.size; omega)))⟩⟩
          by_cases hU24 : op = 24
          · as_aux_lemma =>
              subst hU24
              cases back with
              | nil =>
                have HB := Lib.hid (loopF_fin (x := ⟨24, xa, xb, xc⟩) (f := ⟨st, vars, true⟩) hlt HX.out HR.out (exec_ret rfl _))
                have hcr := cells3 HMW.out.res
                have ⟨hi0, hi1, hi2⟩ := is3 HMW.out.res
                have ⟨hj0, hj1, hj2⟩ := is3 HMW.out.box
                by_cases hs1 : ((sn : Int) - 1 < 0)
                all_goals
                  go_wp2_with fail
                  (try simp only [Exit.inBlock, Exit.then])
                  refine bodyPost_ret (by simp [results, Try.results9, go_sem, hi0, hi1, hi2, hj0, hj1, hj2]; try rfl) rfl ?_
                  exact ⟨_, _, rfl, HMW.out.below.trans (by go_grown), .inr ⟨_, rfl, HB.out, HMW.out.fin true fun b h1 h2 => (heap_setCell_other _ _ _ _ (by show b ≠ w.heap.size; omega)).trans ((heap_setCell_other _ _ _ _ (by show b ≠ w.heap.size; omega)).trans ((heap_setCell_other _ _ _ _ (by show b ≠ w.heap.size; omega)).trans (heap_setCell_other _ _ _ _ (by show b ≠ w.heap.size + 2; omega))))⟩⟩
              | cons p r =>
                have hmw := HMW.out
                have hrl : r.length + 1 ≤ k := hbk
                clear HMW HM
                generalize hbn : (p :: r).length = bn at hmw ⊢
                obtain ⟨gb, rfl, hbn2, hbcap, hgb3, hgbl⟩ := hmw.bpos
                obtain ⟨hm2, hpc2⟩ := hmw.ret hbn2
                have hbn400 : bn ≤ 400 := by omega
                have hbn1 : 1 ≤ bn := by omega
                have R := Lib.hid (loopF_next hlt HX.out HR.out (show exec ⟨24, xa, xb, xc⟩ ⟨pc, st, vars, p :: r⟩ = .go ⟨p, st, vars, r⟩ from exec_ret rfl _) (vp := .int .i64 (p : Int)) rfl (by show st.length ≤ k + 1; rw [HSN.out]; omega) (by show r.length ≤ k + 1; omega) hm2)
                clear hmw hm2 hbn hbn2
                by_cases hs1 : ((sn : Int) - 1 < 0)
                all_goals
                  go_wp2_with fail
                  go_roundw
                  case rel => exact R.out
                  case measure => simp [intOf]; omega
          · as_aux_lemma =>
              simp only [not_or] at hT hA hU15
              obtain ⟨t2, t3, t4, t6, t16⟩ := hT
              obtain ⟨a0, a23⟩ := hA
              obtain ⟨a15, a20⟩ := hU15
              have HB := Lib.hid (loopF_bad (x := ⟨op, xa, xb, xc⟩) hlt HX.out HR.out (by simp [exec, t2, t3, t4, t6, t16, a0, a23, a15, a20, hU1, hU5, hU19, hU14, hU24]))
              have hcr := cells3 HMW.out.res
              have ⟨hi0, hi1, hi2⟩ := is3 HMW.out.res
              by_cases hs1 : ((sn : Int) - 1 < 0)
              all_goals
                go_wp2_with fail
                all_goals
                  (try simp only [Exit.inBlock, Exit.then])
                  refine bodyPost_ret (by simp [results, Try.results9, go_sem, hi0, hi1, hi2]; try rfl) rfl ?_
                  exact ⟨_, _, rfl, HMW.out.below.trans (by go_grown), .inl ⟨rfl, HB.out, rfl⟩⟩
      · as_aux_lemma =>
          have HB := Lib.hid (loopF_out hlt (by rw [HN.out]; show n ≤ pc; omega) HR.out)
          have hge : n ≤ pc := by omega
          have hc0 := cells3 HM.out.res
          have ⟨hi0, hi1, hi2⟩ := is3 HM.out.res
          go_wp2_with fail
          (try simp only [Exit.inBlock, Exit.then])
          refine bodyPost_ret (by simp [results, Try.results9, go_sem, hi0, hi1, hi2]; try rfl) rfl ?_
          exact ⟨_, _, rfl, HM.out.below.trans (by go_grown), .inl ⟨rfl, HB.out, rfl⟩⟩
    · as_aux_lemma =>
        obtain rfl : k = 400 := by omega
        have HB := Lib.hid HR.out
        have hc0 := cells3 HM.out.res
        have ⟨hi0, hi1, hi2⟩ := is3 HM.out.res
        go_wp2_with fail
        (try simp only [Exit.inBlock, Exit.then])
        refine bodyPost_ret (by simp [results, Try.results9, go_sem, hi0, hi1, hi2]; try rfl) rfl ?_
        exact ⟨_, _, rfl, HM.out.below.trans (by go_grown), .inl ⟨rfl, HB.out, rfl⟩⟩

end Go.Proofs.Ytnlndpgbhmkanaa.Op
