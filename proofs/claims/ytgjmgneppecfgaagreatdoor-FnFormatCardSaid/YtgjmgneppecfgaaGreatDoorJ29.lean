/-
  FnFormat, texts FoF FoG McL McM: lemmas for the law; the theorem stands in the last text.
-/
import Derived.Test.YtgjmgneppecfgaaGreatDoorJ16
import Derived.Test.YtgjmgneppecfgaaGreatDoorJ27
import Derived.Test.YtgjmgneppecfgaaGreatDoorJ28
namespace Go.Proofs.YtgjmgneppecfgaaGreatDoor.Fo
open Go.RowKit Go.Proofs.YtgjmgneppecfgaaGreatDoor.Va Go.Proofs.YtgjmgneppecfgaaGreatDoor.Ba Go.Proofs.YtgjmgneppecfgaaGreatDoor.Ma Go.Proofs.YtgjmgneppecfgaaGreatDoor.Pa
set_option linter.unusedVariables false
set_option linter.unusedSimpArgs false

def LoopK (w : World) (o0 : Obj) (vs : List V) (ks : List ByteArray) (n : Nat) (rv : Value) (cs : List Value) (ov iv : Value) (wr : World) : Prop :=
  ∃ (i : Nat) (o : ByteArray), ov = .string o ∧ iv = .int .i64 (i : Int) ∧ i ≤ n ∧ o = numS ((encM (vs.take i) (ks.take i)).tail) ∧ Below w.heap.size w wr ∧ wr.heap[w.heap.size]? = some o0 ∧ wr.ownsRow (w.heap.size + 1) 27 6 rv n cs
set_option maxHeartbeats 4000000 in
set_option maxRecDepth 100000 in
theorem json_map (ks : List ByteArray) (vs : List V) (hkl : ks.length = vs.length) (hkb : ∀ s ∈ ks, s.size ≤ 2147483647) (IH : ∀ y ∈ vs, SJ y) (hsm : (encJ (mapV ks vs)).length ≤ 26214400) (n : Nat) (hn : vs.length = n) (hn2 : n ≤ 1000) (S : Nat → Prop) (w : World) (t : ByteArray) (h : Int) (la ka va : Option Addr) (lc kc vc : Nat) (hk : RK w S ks ka) (hl : RL w S vs va) (hS : ∀ b, S b → b < w.heap.size) :
    Calls Tryz.prog 65 #[.agg #[.int .i64 6, .int .i64 h, .string t, .slice la 0 lc, .slice ka n kc, .slice va n vc]] w (JsonEnd (mapV ks vs) w) := by
  obtain ⟨cs, hcs, hsrc⟩ := rl_six hl vc
  obtain ⟨j0, hj, hy0, hy1, hy2⟩ := info_parts infoValue
  have HJ := Lib.hid (And.intro hj (And.intro hy0 (And.intro hy1 hy2)))
  clear hj hy0 hy1 hy2
  have HIH := Lib.hid IH
  have HN := Lib.hid hn
  have HS := Lib.hid hS
  have HCS := Lib.hid hcs
  have HSR : Hid (∀ W, Same S w W → Src0 W (.slice va n vc) n cs) := Lib.hid (fun W hW => by rw [← hn]; exact rl_src hsrc hcs hW vc)
  have HSM := Lib.hid hsm
  have hcl : cs.length = n * 6 := by rw [hcs.1, hn]
  have HKL : Hid (ks.length = n) := Lib.hid (hkl.trans hn)
  have HKK := Lib.hid hkl
  have HRK := Lib.hid hk
  have HKB := Lib.hid hkb
  clear IH hn hS hcs hsrc hsm hl hkl hk hkb
  go_enter Tryz.func65, Tryz.ntmps65
  go_wp2_with fail
  generalize hW : World.alloc w _ = W
  have B1 := Lib.hid (hW ▸ below_alloc w _ : Below w.heap.size w W)
  have z : W.heap[w.heap.size]? = some (.cells #[.int .i64 6, .int .i64 h, .string t, .slice la 0 lc, .slice ka n kc, .slice va n vc] 27 (0, 0)) := hW ▸ block_new w _ _
  have hWs : W.heap.size = w.heap.size + 1 := by rw [← hW]; simp
  clear hW
  have c0 := cells6 z
  go_upto_region 17 with fail
  refine wp_region_D (fun W => W.heap[w.heap.size]? = some (.cells #[.int .i64 6, .int .i64 h, .string t, .slice la 0 lc, .slice ka n kc, .slice va n vc] 27 (0, 0))) [] (by kernel_rfl) ?_
  generalize hWd : World.drew W = W4
  have hS3 : W4.heap[w.heap.size]? = some (.cells #[.int .i64 6, .int .i64 h, .string t, .slice la 0 lc, .slice ka n kc, .slice va n vc] 27 (0, 0)) := hWd ▸ z
  have B4 : Below w.heap.size w W4 := hWd ▸ B1.out.drew
  have hW4 : W4.heap.size = w.heap.size + 1 := by rw [← hWd]; exact hWs
  clear hWd hWs B1 z c0
  (refine wpAnyD_take (i := 1) (v := ?_) [] [] rfl (by kernel_rfl) (by kernel_rfl) (by kernel_rfl) (fun _ _ _ h => h) (by kernel_rfl) (by kernel_rfl) (by kernel_rfl) (Or.inl ⟨?_, ?_⟩) hS3 ?_
   rotate_left
   focus rfl
   focus (intro w' hw'; have hw1 := cells6 hw'; clear hw'; go_simp; with_reducible rfl)
   try go_simp)
  (refine wpAnyD_take (i := 2) (v := ?_) [] [] rfl (by kernel_rfl) (by kernel_rfl) (by kernel_rfl) (fun _ _ _ h => h) (by kernel_rfl) (by kernel_rfl) (by kernel_rfl) (Or.inl ⟨?_, ?_⟩) hS3 ?_
   rotate_left
   focus rfl
   focus (intro w' hw'; have hw1 := cells6 hw'; clear hw'; go_simp; with_reducible rfl)
   try go_simp)
  (refine wpAnyD_take (i := 4) (v := ?_) [] [] rfl (by kernel_rfl) (by kernel_rfl) (by kernel_rfl) (fun _ _ _ h => h) (by kernel_rfl) (by kernel_rfl) (by kernel_rfl) (Or.inl ⟨?_, ?_⟩) hS3 ?_
   rotate_left
   focus rfl
   focus (intro w' hw'; have hw1 := cells6 hw'; clear hw'; go_simp; with_reducible rfl)
   try go_simp)
  (refine wpAnyD_take (i := 5) (v := ?_) [] [] rfl (by kernel_rfl) (by kernel_rfl) (by kernel_rfl) (fun _ _ _ h => h) (by kernel_rfl) (by kernel_rfl) (by kernel_rfl) (Or.inl ⟨?_, ?_⟩) hS3 ?_
   rotate_left
   focus rfl
   focus (intro w' hw'; have hw1 := cells6 hw'; clear hw'; go_simp; with_reducible rfl)
   try go_simp)
  (refine wpAnyD_take (i := 8) (v := ?_) [] [] rfl (by kernel_rfl) (by kernel_rfl) (by kernel_rfl) (fun _ _ _ h => h) (by kernel_rfl) (by kernel_rfl) (by kernel_rfl) (Or.inl ⟨?_, ?_⟩) hS3 ?_
   rotate_left
   focus rfl
   focus (intro w' hw'; have hw1 := cells6 hw'; clear hw'; go_simp; with_reducible rfl)
   try go_simp)
  refine wpAnyD_ready (rs := [0]) (by kernel_rfl) (by simp) ?_
  refine AllReadyD.cons rfl (fun K hK => ?_) AllReadyD.nil
  go_simp
  have q5 := block_new W4 #[] 27
  have b5 := below_alloc W4 (.cells #[] 27)
  refine hK.out _ _ (fun _ => keep b5 hS3) ?_
  clear hK K
  try go_simp
  generalize hW5 : World.alloc W4 _ = W5
  rw [hW5] at q5 b5
  have hW5s : W5.heap.size = w.heap.size + 1 + 1 := by rw [← hW5]; simp [hW4]
  clear hW5
  refine wpAnyD_ready (rs := [3]) (by kernel_rfl) (by simp) ?_
  refine AllReadyD.cons rfl (fun K hK => ?_) AllReadyD.nil
  rw [hW4] at q5
  have hrow := row_empty q5
  have hS5 := keep b5 hS3
  have hB5 := B4.trans (b5.mono B4.size)
  refine step_append_b rfl (.tmp 64) (.tmp 66) 22 rfl (w.heap.size + 1) 27 j0 _ 6 104 Tryz.underlying22 HJ.out.1 HJ.out.2.1 HJ.out.2.2.1 HJ.out.2.2.2 rfl (by decide) (.slice (some ⟨w.heap.size + 1, 0, none⟩) 0 0) 0 0 [] (by rfl) hrow (.slice la 0 lc) [] (by rfl) rfl (src0_nil _ _ _) (by simp) (by unfold maxLen; omega) (by omega) (by omega) ?_
  rintro v6 W6 h6
  have hb6 := app_below h6 hrow (Below.refl (w.heap.size + 1) W5) (Nat.le_refl _) (by omega)
  have hS6 := (hb6.block w.heap.size (Nat.lt_succ_self _)).trans hS5
  have hB6 := hB5.trans (hb6.mono (Nat.le_succ _))
  have hs6 := hb6.size
  refine hK.out _ _ (fun _ => hS6) ?_
  clear hK K
  try go_simp
  refine wpAnyD_ready (rs := [6]) (by kernel_rfl) (by simp) ?_
  refine AllReadyD.cons rfl (fun K hK => ?_) AllReadyD.nil
  refine step_append_b rfl (.tmp 67) (.tmp 69) 22 rfl (w.heap.size + 1) 27 j0 _ 6 104 Tryz.underlying22 HJ.out.1 HJ.out.2.1 HJ.out.2.2.1 HJ.out.2.2.2 rfl (by decide) v6 (0 + 0) n _ (by rfl) h6.owns (.slice va n vc) cs (by rfl) hcl (HSR.out _ (Same.of_below hB6 HS.out)) HCS.out.ones (by unfold maxLen; omega) (by omega) (by omega) ?_
  rintro v7 W7 h7
  have hb7 := app_below h7 h6.owns hb6 (Nat.le_refl _) (by omega)
  have hS7 := (hb7.block w.heap.size (Nat.lt_succ_self _)).trans hS5
  have hB7 := hB5.trans (hb7.mono (Nat.le_succ _))
  have hown : W7.ownsRow (w.heap.size + 1) 27 6 v7 n cs := by simpa using h7.owns
  obtain ⟨a7, c7, rfl⟩ := ownsRow_slice hown
  clear h6 h7 hb6 hb7 hS6 hB6 hS3 B4 b5 hrow q5
  refine hK.out _ _ (fun _ => hS7) ?_
  clear hK K
  try go_simp
  refine wpAnyD_ready (rs := [7]) (by kernel_rfl) (by simp) ?_
  refine AllReadyD.cons rfl (fun K hK => ?_) AllReadyD.nil
  go_simp
  refine hK.out _ _ (fun _ => hS7) ?_
  clear hK K
  try go_simp
  refine wpAnyD_done (by kernel_rfl) ?_ _
  have HB7 := Lib.hid hB7
  have HS7 := Lib.hid hS7
  have HOW := Lib.hid hown
  clear hB7 hS7 hown hS5 hB5 hs6 hW4 hW5s
  go_wp2_with fail
  go_loopw [4, 72] (LoopK w (.cells #[.int .i64 6, .int .i64 h, .string t, .slice la 0 lc, .slice ka n kc, .slice va n vc] 27 (0, 0)) vs ks n (.slice a7 n c7) cs) (fun _ iv _ => n - (intOf iv).toNat)
  case atStart => exact ⟨0, ⟨#[]⟩, rfl, rfl, Nat.zero_le _, by rw [List.take_zero, encM]; rfl, HB7.out, HS7.out, HOW.out⟩
  case round =>
    obtain ⟨i, o, rfl, rfl, hi, ho, hb, hz, hown⟩ := hrel
    have HO := Lib.hid ho
    have HBW := Lib.hid hb
    have HZ := Lib.hid hz
    have HOWN := Lib.hid hown
    have c1 := cells6 hz
    clear ho hb hz hown
    by_cases hlt : i < n
    · obtain ⟨g, rfl⟩ := owns_some HOWN.out (by omega)
      have hlt' : i < vs.length := by rw [HN.out]; exact hlt
      have hltk : i < ks.length := by rw [HKL.out]; exact hlt
      obtain ⟨kb, ko, rfl⟩ := HRK.out.addr (by omega)
      obtain ⟨hkS, hkc⟩ := RK.at ks kb ko HRK.out i hltk
      have hkc' := ((Same.of_below HBW.out HS.out).cell hkS).trans hkc
      have hkz := HKB.out ks[i] (List.getElem_mem hltk)
      obtain ⟨KEY, hKEY⟩ : ∃ KEY, ks[i] = KEY := ⟨_, rfl⟩
      have hkbl := HS.out kb hkS
      have hkb2 : kb < wr.heap.size := Nat.lt_of_lt_of_le hkbl HBW.out.size
      obtain ⟨c0, c1', c2, c3, c4, c5, h6, hx⟩ := HCS.out.2 i hlt'
      obtain ⟨la2, lc2, ka2, kc2, va2, vc2, t2, m2, tx2, q1, q2, q3, e, HX⟩ := RV.parts hx
      simp only [Value.agg.injEq, Array.mk.injEq, List.cons.injEq, and_true] at e
      obtain ⟨rfl, rfl, rfl, rfl, rfl, rfl⟩ := e
      have hc := row_six HOWN.out h6
      have hwr := heap_lt HZ.out
      have hcap := owns_cap HOWN.out (by omega)
      have i0 : (0 : Int) ≤ (i : Int) := by omega
      have i1 : (i : Int) < (n : Int) := by omega
      have HIX := Lib.hid (HIH.out vs[i] (List.getElem_mem hlt'))
      obtain ⟨X, hX⟩ : ∃ X, vs[i] = X := ⟨_, rfl⟩
      have HXE := Lib.hid hX
      have hnext := encM_next hlt' HKK.out.symm
      rw [hX] at HIX HX hnext
      rw [hKEY] at hnext hkc' hkz
      have HNX := Lib.hid hnext
      have hoE : encJ (mapV ks vs) = 123 :: ((encM vs ks).tail ++ [125]) := by unfold mapV; rw [encJ]; rfl
      have hspl : (encM vs ks).tail = (encM (vs.take (i + 1)) (ks.take (i + 1))).tail ++ encM (vs.drop (i + 1)) (ks.drop (i + 1)) := by
        rw [← tail_append (encM_ne (by rw [List.length_take]; omega) (by rw [List.length_take, List.length_take]; omega)), ← encM_append _ _ _ _ (by rw [List.length_take, List.length_take]; omega), List.take_append_drop, List.take_append_drop]
      have hlen : ((encM (vs.take (i + 1)) (ks.take (i + 1))).tail).length + 2 ≤ 70368744177664 := by
        have := HSM.out
        rw [hoE, hspl] at this
        simp at this
        simp
        omega
      have hol : o.size = ((encM (vs.take i) (ks.take i)).tail).length := by rw [HO.out, numS_size]
      have HLT := Lib.hid (encM_lt (vs.take i) (ks.take i))
      have HLX := Lib.hid (encJ_lt X)
      have hbig : (Ma.encStr (bytesN KEY)).length ≤ 6 * 2147483647 + 2 := by have := encStr_len (bytesN KEY); rw [bytesN_len] at this; omega
      by_cases h0 : 0 < i
      · have h0' : (0 : Int) < (i : Int) := by omega
        rw [hnext, if_pos h0, List.length_append, List.length_append, List.length_append, List.length_cons] at hlen
        have a1 : o.size + (⟨#[44]⟩ : ByteArray).size ≤ 140737488355328 := by show o.size + 1 ≤ _; rw [hol]; omega
        have HO2 : Hid (o ++ ⟨#[44]⟩ = numS ((encM (vs.take i) (ks.take i)).tail ++ [44])) := Lib.hid (app_num o [44] (by decide) rfl _ HO.out (fun x hx => HLT.out x (List.mem_of_mem_tail hx)))
        have HLP : Hid (∀ x ∈ (encM (vs.take i) (ks.take i)).tail ++ [44], x < 256) := Lib.hid (fun x hx => by
          rcases List.mem_append.1 hx with hx | hx
          · exact HLT.out x (List.mem_of_mem_tail hx)
          · simp at hx; omega)
        have HA8 : Hid ((o ++ ⟨#[44]⟩ : ByteArray).size + ((Ma.encStr (bytesN KEY)).length + 1) ≤ 140737488355328) := Lib.hid (by rw [ByteArray.size_append]; show o.size + 1 + _ ≤ _; rw [hol]; simp at hlen ⊢; omega)
        have HA9 : Hid ((o ++ ⟨#[44]⟩ : ByteArray).size + ((Ma.encStr (bytesN KEY)).length + 1) + (encJ X).length ≤ 140737488355328) := Lib.hid (by rw [ByteArray.size_append]; show o.size + 1 + _ + _ ≤ _; rw [hol]; simp at hlen ⊢; omega)
        have HN9 : Hid ((encM (vs.take (i + 1)) (ks.take (i + 1))).tail = ((encM (vs.take i) (ks.take i)).tail ++ [44]) ++ (Ma.encStr (bytesN KEY) ++ 58 :: encJ X)) := Lib.hid (by rw [HNX.out, if_pos h0])
        clear hX hx h6 hnext hoE hspl hlen hol hkc hkS hKEY
        go_wp2_with fail
        (generalize hW9 : World.alloc wr _ = W9
         have b9 := hW9 ▸ below_alloc wr (.cells #[.int .i64 t2, .int .i64 m2, .string tx2, .slice la2 q1 lc2, .slice ka2 q2 kc2, .slice va2 q3 vc2] 27)
         have z9 : W9.heap[wr.heap.size]? = some (.cells #[.int .i64 t2, .int .i64 m2, .string tx2, .slice la2 q1 lc2, .slice ka2 q2 kc2, .slice va2 q3 vc2] 27 (0, 0)) := hW9 ▸ block_new wr _ _
         clear hW9
         have HB9 := Lib.hid (HBW.out.trans (b9.mono HBW.out.size))
         have HZ9 := Lib.hid (keep b9 HZ.out)
         have HOW9 := Lib.hid (ownsRow_same HOWN.out (fun b hb => b9.block b (HOWN.out.lt b hb.symm).2))
         clear b9 c1 hc hkc'
         refine (quoted_any KEY hkz W9).mono ?_
         rintro e _ ⟨qs, qhow, rfl, ⟨nq9, rfl⟩, hqz, hqhow⟩
         rcases hqhow with rfl | ⟨rfl, hqs⟩
         · go_wp2_with fail
           go_returns
           exact ⟨⟨#[]⟩, 2, rfl, bel_dn HB9.out _, by decide, .inl rfl⟩
         · have hql : qs.size = (Ma.encStr (bytesN KEY)).length := by rw [hqs, numS_size]
           have HQS := Lib.hid hqs
           have u1 : qs.size + (⟨#[58]⟩ : ByteArray).size ≤ 140737488355328 := by show qs.size + 1 ≤ _; omega
           have hqc : (qs ++ (⟨#[58]⟩ : ByteArray)).size = (Ma.encStr (bytesN KEY)).length + 1 := by rw [ByteArray.size_append, hql]; rfl
           have u2 : ((o ++ ⟨#[44]⟩) : ByteArray).size + (qs ++ (⟨#[58]⟩ : ByteArray)).size ≤ 140737488355328 := by rw [hqc]; exact HA8.out
           have hlq : ∀ x ∈ Ma.encStr (bytesN KEY), x < 256 := encStr_lt (bytesN_lt KEY)
           have HO3 : Hid ((o ++ ⟨#[44]⟩) ++ (qs ++ (⟨#[58]⟩ : ByteArray)) = numS (((encM (vs.take i) (ks.take i)).tail ++ [44]) ++ (Ma.encStr (bytesN KEY) ++ [58]))) := Lib.hid (app_num (o ++ ⟨#[44]⟩) _ (fun x hx => by
             rcases List.mem_append.1 hx with hx | hx
             · exact hlq x hx
             · simp at hx; omega) (by rw [bytesN_app', hqs, bytesN_numS' _ hlq]; rfl) ((encM (vs.take i) (ks.take i)).tail ++ [44]) HO2.out HLP.out)
           have HLQ := Lib.hid hlq
           have hoc : ((o ++ ⟨#[44]⟩) ++ (qs ++ (⟨#[58]⟩ : ByteArray))).size = ((o ++ ⟨#[44]⟩) : ByteArray).size + (qs ++ (⟨#[58]⟩ : ByteArray)).size := ByteArray.size_append
           have HO3Z : Hid (((o ++ ⟨#[44]⟩) ++ (qs ++ (⟨#[58]⟩ : ByteArray))).size + (encJ X).length ≤ 140737488355328) := Lib.hid (by rw [hoc, hqc]; exact HA9.out)
           clear hqs hql hlq hqc hoc
           have d9 := cells6 z9
           go_wp2_with fail
           clear d9
           refine (HIX.out _ S (W9.drewN nq9) (RV.mono (Same.of_below (bel_dn HB9.out _) HS.out) (fun _ h => h) _ _ HX.out) (fun b h => Nat.lt_of_lt_of_le (HS.out b h) (bel_dn HB9.out nq9).size)).mono ?_
           rintro e w10 ⟨s, how, rfl, hb10, hs10, hhow⟩
           have hb10' : Below W9.heap.size W9 w10 := ⟨hb10.os, hb10.tape, hb10.output, hb10.size, hb10.block⟩
           have HB10 := Lib.hid (HB9.out.trans (hb10'.mono HB9.out.size))
           have HZ10 := Lib.hid (keep hb10' HZ9.out)
           have HOW10 := Lib.hid (ownsRow_same HOW9.out (fun b hb => hb10'.block b (HOW9.out.lt b hb.symm).2))
           clear hb10 hb10'
           rcases hhow with rfl | ⟨rfl, hs⟩
           · go_wp2_with fail
             go_returns
             exact ⟨⟨#[]⟩, 2, rfl, HB10.out, by decide, .inl rfl⟩
           · have hsl : s.size = (encJ X).length := by rw [hs, numS_size]
             have a9 : ((o ++ ⟨#[44]⟩) ++ (qs ++ (⟨#[58]⟩ : ByteArray))).size + s.size ≤ 140737488355328 := by rw [hsl]; exact HO3Z.out
             have HSN := Lib.hid hs
             clear hs hsl
             have HLP3 : Hid (∀ x ∈ ((encM (vs.take i) (ks.take i)).tail ++ [44]) ++ (Ma.encStr (bytesN KEY) ++ [58]), x < 256) := Lib.hid (by
               intro x hx
               rcases List.mem_append.1 hx with hx | hx
               · exact HLP.out x hx
               · rcases List.mem_append.1 hx with hx | hx
                 · exact HLQ.out x hx
                 · simp at hx; omega)
             have HFIN : Hid (((o ++ ⟨#[44]⟩) ++ (qs ++ (⟨#[58]⟩ : ByteArray))) ++ s = numS ((encM (vs.take (i + 1)) (ks.take (i + 1))).tail)) := Lib.hid (by
               have q := app_num _ (encJ X) HLX.out (t := s) (by rw [HSN.out]; exact bytesN_numS' _ HLX.out) _ HO3.out HLP3.out
               rw [q, HN9.out]
               simp)
             go_wp2_with fail
             go_roundw
             case rel => exact ⟨i + 1, ((o ++ ⟨#[44]⟩) ++ (qs ++ (⟨#[58]⟩ : ByteArray))) ++ s, rfl, by push_cast; rfl, hlt, HFIN.out, HB10.out, HZ10.out, HOW10.out⟩
             case measure => simp [intOf]; omega
         skip)
      · have h0' : ¬ (0 : Int) < (i : Int) := by omega
        rw [hnext, if_neg h0, List.nil_append, List.length_append, List.length_cons] at hlen
        have HT0 : Hid ((encM (vs.take i) (ks.take i)).tail = []) := Lib.hid (by
          obtain rfl : i = 0 := by omega
          rw [List.take_zero, encM]; rfl)
        have hol0 : o.size = 0 := by rw [hol, HT0.out]; rfl
        have HO2 : Hid (o = numS ((encM (vs.take i) (ks.take i)).tail)) := HO
        have HLP : Hid (∀ x ∈ (encM (vs.take i) (ks.take i)).tail, x < 256) := Lib.hid (fun x hx => HLT.out x (List.mem_of_mem_tail hx))
        have HA8 : Hid (o.size + ((Ma.encStr (bytesN KEY)).length + 1) ≤ 140737488355328) := Lib.hid (by omega)
        have HA9 : Hid (o.size + ((Ma.encStr (bytesN KEY)).length + 1) + (encJ X).length ≤ 140737488355328) := Lib.hid (by omega)
        have HN9 : Hid ((encM (vs.take (i + 1)) (ks.take (i + 1))).tail = ((encM (vs.take i) (ks.take i)).tail) ++ (Ma.encStr (bytesN KEY) ++ 58 :: encJ X)) := Lib.hid (by rw [HNX.out, if_neg h0, HT0.out])
        clear hX hx h6 hnext hoE hspl hlen hol hkc hkS hKEY hol0
        go_wp2_with fail
        (generalize hW9 : World.alloc wr _ = W9
         have b9 := hW9 ▸ below_alloc wr (.cells #[.int .i64 t2, .int .i64 m2, .string tx2, .slice la2 q1 lc2, .slice ka2 q2 kc2, .slice va2 q3 vc2] 27)
         have z9 : W9.heap[wr.heap.size]? = some (.cells #[.int .i64 t2, .int .i64 m2, .string tx2, .slice la2 q1 lc2, .slice ka2 q2 kc2, .slice va2 q3 vc2] 27 (0, 0)) := hW9 ▸ block_new wr _ _
         clear hW9
         have HB9 := Lib.hid (HBW.out.trans (b9.mono HBW.out.size))
         have HZ9 := Lib.hid (keep b9 HZ.out)
         have HOW9 := Lib.hid (ownsRow_same HOWN.out (fun b hb => b9.block b (HOWN.out.lt b hb.symm).2))
         clear b9 c1 hc hkc'
         refine (quoted_any KEY hkz W9).mono ?_
         rintro e _ ⟨qs, qhow, rfl, ⟨nq9, rfl⟩, hqz, hqhow⟩
         rcases hqhow with rfl | ⟨rfl, hqs⟩
         · go_wp2_with fail
           go_returns
           exact ⟨⟨#[]⟩, 2, rfl, bel_dn HB9.out _, by decide, .inl rfl⟩
         · have hql : qs.size = (Ma.encStr (bytesN KEY)).length := by rw [hqs, numS_size]
           have HQS := Lib.hid hqs
           have u1 : qs.size + (⟨#[58]⟩ : ByteArray).size ≤ 140737488355328 := by show qs.size + 1 ≤ _; omega
           have hqc : (qs ++ (⟨#[58]⟩ : ByteArray)).size = (Ma.encStr (bytesN KEY)).length + 1 := by rw [ByteArray.size_append, hql]; rfl
           have u2 : (o : ByteArray).size + (qs ++ (⟨#[58]⟩ : ByteArray)).size ≤ 140737488355328 := by rw [hqc]; exact HA8.out
           have hlq : ∀ x ∈ Ma.encStr (bytesN KEY), x < 256 := encStr_lt (bytesN_lt KEY)
           have HO3 : Hid (o ++ (qs ++ (⟨#[58]⟩ : ByteArray)) = numS (((encM (vs.take i) (ks.take i)).tail) ++ (Ma.encStr (bytesN KEY) ++ [58]))) := Lib.hid (app_num o _ (fun x hx => by
             rcases List.mem_append.1 hx with hx | hx
             · exact hlq x hx
             · simp at hx; omega) (by rw [bytesN_app', hqs, bytesN_numS' _ hlq]; rfl) ((encM (vs.take i) (ks.take i)).tail) HO2.out HLP.out)
           have HLQ := Lib.hid hlq
           have hoc : (o ++ (qs ++ (⟨#[58]⟩ : ByteArray))).size = (o : ByteArray).size + (qs ++ (⟨#[58]⟩ : ByteArray)).size := ByteArray.size_append
           have HO3Z : Hid ((o ++ (qs ++ (⟨#[58]⟩ : ByteArray))).size + (encJ X).length ≤ 140737488355328) := Lib.hid (by rw [hoc, hqc]; exact HA9.out)
           clear hqs hql hlq hqc hoc
           have d9 := cells6 z9
           go_wp2_with fail
           clear d9
           refine (HIX.out _ S (W9.drewN nq9) (RV.mono (Same.of_below (bel_dn HB9.out _) HS.out) (fun _ h => h) _ _ HX.out) (fun b h => Nat.lt_of_lt_of_le (HS.out b h) (bel_dn HB9.out nq9).size)).mono ?_
           rintro e w10 ⟨s, how, rfl, hb10, hs10, hhow⟩
           have hb10' : Below W9.heap.size W9 w10 := ⟨hb10.os, hb10.tape, hb10.output, hb10.size, hb10.block⟩
           have HB10 := Lib.hid (HB9.out.trans (hb10'.mono HB9.out.size))
           have HZ10 := Lib.hid (keep hb10' HZ9.out)
           have HOW10 := Lib.hid (ownsRow_same HOW9.out (fun b hb => hb10'.block b (HOW9.out.lt b hb.symm).2))
           clear hb10 hb10'
           rcases hhow with rfl | ⟨rfl, hs⟩
           · go_wp2_with fail
             go_returns
             exact ⟨⟨#[]⟩, 2, rfl, HB10.out, by decide, .inl rfl⟩
           · have hsl : s.size = (encJ X).length := by rw [hs, numS_size]
             have a9 : (o ++ (qs ++ (⟨#[58]⟩ : ByteArray))).size + s.size ≤ 140737488355328 := by rw [hsl]; exact HO3Z.out
             have HSN := Lib.hid hs
             clear hs hsl
             have HLP3 : Hid (∀ x ∈ ((encM (vs.take i) (ks.take i)).tail) ++ (Ma.encStr (bytesN KEY) ++ [58]), x < 256) := Lib.hid (by
               intro x hx
               rcases List.mem_append.1 hx with hx | hx
               · exact HLP.out x hx
               · rcases List.mem_append.1 hx with hx | hx
                 · exact HLQ.out x hx
                 · simp at hx; omega)
             have HFIN : Hid ((o ++ (qs ++ (⟨#[58]⟩ : ByteArray))) ++ s = numS ((encM (vs.take (i + 1)) (ks.take (i + 1))).tail)) := Lib.hid (by
               have q := app_num _ (encJ X) HLX.out (t := s) (by rw [HSN.out]; exact bytesN_numS' _ HLX.out) _ HO3.out HLP3.out
               rw [q, HN9.out]
               simp)
             go_wp2_with fail
             go_roundw
             case rel => exact ⟨i + 1, (o ++ (qs ++ (⟨#[58]⟩ : ByteArray))) ++ s, rfl, by push_cast; rfl, hlt, HFIN.out, HB10.out, HZ10.out, HOW10.out⟩
             case measure => simp [intOf]; omega
         skip)
    · obtain rfl : i = n := by omega
      have hoE : encJ (mapV ks vs) = 123 :: ((encM vs ks).tail ++ [125]) := by unfold mapV; rw [encJ]; rfl
      have hol : o = numS ((encM vs ks).tail) := by
        have := HO.out
        rwa [List.take_of_length_le (Nat.le_of_eq HN.out), List.take_of_length_le (Nat.le_of_eq HKL.out)] at this
      have hsz : o.size + 2 ≤ 70368744177664 := by
        have := HSM.out
        rw [hoE] at this
        rw [hol, numS_size]
        simp at this
        simp
        omega
      have HOE := Lib.hid hoE
      have HOL := Lib.hid hol
      have a1 : (⟨#[123]⟩ : ByteArray).size + o.size ≤ 140737488355328 := by show 1 + o.size ≤ _; omega
      have a2 : ((⟨#[123]⟩ : ByteArray) ++ o).size + (⟨#[125]⟩ : ByteArray).size ≤ 140737488355328 := by rw [ByteArray.size_append]; show 1 + o.size + 1 ≤ _; omega
      clear hoE hol
      go_wp2_with fail
      go_returns
      refine ⟨(⟨#[123]⟩ ++ o) ++ ⟨#[125]⟩, 0, rfl, HBW.out, by rw [ByteArray.size_append, ByteArray.size_append]; show 1 + o.size + 1 ≤ _; omega, .inr ⟨rfl, ?_⟩⟩
      have hlt2 := encM_lt vs ks
      apply bytes_inj
      rw [bytesN_app', bytesN_app', HOL.out, HOE.out, bytesN_numS' _ (fun x hx => hlt2 x (List.mem_of_mem_tail hx)), bytesN_numS' _ (fun x hx => by
        rcases List.mem_cons.1 hx with rfl | hx
        · omega
        · rcases List.mem_append.1 hx with hx | hx
          · exact hlt2 x (List.mem_of_mem_tail hx)
          · simp at hx; omega)]
      rfl
end Go.Proofs.YtgjmgneppecfgaaGreatDoor.Fo
namespace Go.Proofs.YtgjmgneppecfgaaGreatDoor.Fo
open Go.RowKit Go.Proofs.YtgjmgneppecfgaaGreatDoor.Va Go.Proofs.YtgjmgneppecfgaaGreatDoor.Ba Go.Proofs.YtgjmgneppecfgaaGreatDoor.Ma Go.Proofs.YtgjmgneppecfgaaGreatDoor.Pa
set_option linter.unusedVariables false
set_option linter.unusedSimpArgs false

theorem sj_good : ∀ (m : Nat) (x : V), x.size ≤ m → x.size ≤ 400 → Va.Good x → SJ x := by
  intro m
  induction m with
  | zero => intro x h; have := size_pos x; omega
  | succ m ih =>
    intro x hx h4 hg v S w hv hS
    have hsm := encJ_small x hg h4
    cases x with
    | mk k h t ls ks vs =>
    rw [V.size] at hx h4
    rw [Va.Good] at hg
    obtain ⟨g, gl, gr, gv⟩ := hg
    have hk0 := g.k0
    have hk6 := g.k6
    rw [RV] at hv
    obtain ⟨la, lc, ka, kc, va, vc, rfl, h1, h2, h3⟩ := hv
    by_cases hk4 : k ≤ 4
    · exact json_plain k h t ls ks vs g hk4 w la ka va _ lc _ kc _ vc
    rcases (show k = 5 ∨ k = 6 by omega) with rfl | rfl
    · obtain rfl := good_text0 g (by decide)
      obtain ⟨rfl, rfl⟩ := good_ks0 g (by decide)
      obtain rfl := good_h0 g (by decide)
      have hll := length_le ls
      exact json_list ls (fun y hy => ih y (by have := size_mem hy; omega) (by have := size_mem hy; omega) (gl.mem y hy)) hsm _ rfl (by omega) S w ⟨#[]⟩ 0 la ka va lc kc vc h1 hS
    · obtain rfl := good_text0 g (by decide)
      obtain rfl := good_ls0 g (by decide)
      obtain rfl := good_h0 g (by decide)
      have hll := length_le vs
      have := json_map ks vs g.len (fun s hs => Nat.le_trans (g.kb s hs) (by decide)) (fun y hy => ih y (by have := size_mem hy; omega) (by have := size_mem hy; omega) (gv.mem y hy)) hsm _ rfl (by omega) S w ⟨#[]⟩ 0 la ka va lc kc vc h2 h3 hS
      rw [g.len]
      exact this
/-- what tostring makes of a value -/
def strX (x : V) : List Nat := if x.kind = 4 then bytesN x.text else encJ x
def StrgEnd (x : V) (w : World) (e : Ending) (w' : World) : Prop := ∃ (s : ByteArray) (how : Int), e = .returned (.tuple #[.string s, .int .i64 how]) ∧ Below w.heap.size w w' ∧ s.size ≤ 70368744177664 ∧ (how = 2 ∨ (how = 0 ∧ s = numS (strX x)))
theorem numS_byt (s : ByteArray) : numS (bytesN s) = s := bytes_inj (bytesN_numS' _ (bytesN_lt s))
theorem strX_4 (h : Int) (t : ByteArray) (ls : List V) (ks : List ByteArray) (vs : List V) : numS (strX (.mk 4 h t ls ks vs)) = t := numS_byt t
theorem strX_lt (x : V) : ∀ c ∈ strX x, c < 256 := by
  unfold strX
  split
  · exact bytesN_lt _
  · exact encJ_lt x
set_option maxHeartbeats 2000000 in
theorem sstring_any (x : V) (hg : Va.Good x) (h4 : x.size ≤ 400) (v : Value) (S : Nat → Prop) (w : World) (hv : RV w S x v) (hS : ∀ b, S b → b < w.heap.size) : Calls Tryz.prog 66 #[v] w (StrgEnd x w) := by
  have HJ := Lib.hid (sj_good 400 x h4 h4 hg)
  have HV := Lib.hid hv
  have HS := Lib.hid hS
  cases x with
  | mk k h t ls ks vs =>
  rw [Va.Good] at hg
  have htb := hg.1.tb
  rw [RV] at hv
  obtain ⟨la, lc, ka, kc, va, vc, rfl, _⟩ := hv
  clear hg hS
  obtain ⟨n1, hn1⟩ : ∃ n, ls.length = n := ⟨_, rfl⟩
  obtain ⟨n2, hn2⟩ : ∃ n, ks.length = n := ⟨_, rfl⟩
  obtain ⟨n3, hn3⟩ : ∃ n, vs.length = n := ⟨_, rfl⟩
  rw [hn1, hn2, hn3] at HV ⊢
  clear hn1 hn2 hn3
  by_cases hk : k = 4
  · subst hk
    go_enter Tryz.func66, Tryz.ntmps66
    go_wp2_with fail
    go_returns
    exact ⟨t, 0, rfl, by go_grown, by omega, .inr ⟨rfl, (strX_4 ..).symm⟩⟩
  · have hq : (k == 4) = false := by simp; exact hk
    have HX : Hid (strX (.mk k h t ls ks vs) = encJ (.mk k h t ls ks vs)) := Lib.hid (by unfold strX V.kind; rw [if_neg hk])
    go_enter Tryz.func66, Tryz.ntmps66
    go_wp2_with fail
    generalize hW : World.alloc w _ = W
    have B1 := Lib.hid (hW ▸ below_alloc w _ : Below w.heap.size w W)
    clear hW
    refine (HJ.out _ S W (RV.mono (Same.of_below B1.out HS.out) (fun _ h => h) _ _ HV.out) (fun b h => Nat.lt_of_lt_of_le (HS.out b h) B1.out.size)).mono ?_
    rintro e w2 ⟨s, how, rfl, hb2, hs, hhow⟩
    have B2 := Lib.hid (B1.out.trans (hb2.mono B1.out.size))
    have HH := Lib.hid hhow
    clear hb2 hhow
    go_wp2_with fail
    go_returns
    exact ⟨s, how, rfl, B2.out, hs, by rw [HX.out]; exact HH.out⟩
end Go.Proofs.YtgjmgneppecfgaaGreatDoor.Fo
namespace Go.Proofs.YtgjmgneppecfgaaGreatDoor.Mc
open Go.RowKit Go.Proofs.YtgjmgneppecfgaaGreatDoor.Va Go.Proofs.YtgjmgneppecfgaaGreatDoor.Ba Go.Proofs.YtgjmgneppecfgaaGreatDoor.Ma Go.Proofs.YtgjmgneppecfgaaGreatDoor.Mb
set_option linter.unusedVariables false
set_option linter.unusedSimpArgs false

theorem bX : Builder.Extra Tryz.prog Tryz.lays169_ren where
  sizeBuilder := by kernel_rfl
  liesBuilder := by kernel_rfl
  t5 := Tryz.underlying5
  a5 := Tryz.isAgg5
  z5 := Tryz.sizeOf5
  v5 := Tryz.zeroValue5
  infoByte := by kernel_rfl
  cellsByte := by kernel_rfl
  sizeByte := by kernel_rfl
  neB5 := by decide
theorem bstring_any (B b : Nat) (bs : List Nat) (hbs : ∀ x ∈ bs, x < 256) (w : World) (h : IsB B b bs w) (hB : B ≤ w.heap.size) : Calls Tryz.prog 227 #[.pointer (some ⟨b, 0, none⟩)] w (fun e w' => e = .returned (.string (numS bs)) ∧ Below B w w') := by
  have hb : bytesN (numS bs) = bs := bytesN_numS' bs hbs
  have e1 : Lib.byteCells (numS bs).data.toList = cellsD bs := by rw [Mb.byteCells_eq, hb]
  have hl : (cellsD bs).length = bs.length := by unfold cellsD; rw [List.length_map]
  have hq : Lib.IsBuilder 243 5 B b (Lib.byteCells (numS bs).data.toList) w := by
    rw [e1]
    rcases h with ⟨h1, v, h2, h3, h4⟩ | ⟨h1, v, h2, h3, h4⟩
    · exact .inl ⟨h1, v, h2, by rw [hl]; exact h3, h4⟩
    · exact .inr ⟨h1, v, h2, by rw [hl]; exact h3, h4⟩
  exact Any.Builder_String_any Tryz.lays169 bX B b (numS bs).data.toList w hq hB
theorem st_fresh (w : World) : St w.heap.size w.heap.size (w.heap.size + 1) [] ((w.alloc (.cells #[.pointer none, .slice none 0 0] 243)).alloc (.cells (Tryz.zeroCells118.setIfInBounds 0 (.iface 241 (.pointer (some ⟨w.heap.size, 0, none⟩)))) 118)) := by
  refine ⟨.inl ⟨Nat.le_refl _, .slice none 0 0, block_past (block_new w _ _) _, World.ownsRow_nil _ _ _ _, by simp [Value.ownBlock]⟩, ⟨fun j => ((Tryz.zeroCells118.setIfInBounds 0 (.iface 241 (.pointer (some ⟨w.heap.size, 0, none⟩))))[j]?).getD .nilIface, ?_, ?_⟩, Nat.lt_succ_self _⟩
  · show ((Tryz.zeroCells118.setIfInBounds 0 _)[0]?).getD _ = _
    rw [Array.getElem?_setIfInBounds, if_pos rfl, if_pos (by rw [zc_size]; omega)]
    rfl
  · have q := block_new (w.alloc (.cells #[.pointer none, .slice none 0 0] 243)) (Tryz.zeroCells118.setIfInBounds 0 (.iface 241 (.pointer (some ⟨w.heap.size, 0, none⟩)))) 118
    rw [World.size_alloc] at q
    refine ⟨_, q, by rw [Array.size_setIfInBounds, zc_size], fun j hj => ?_⟩
    have h := Array.getElem?_eq_getElem (xs := Tryz.zeroCells118.setIfInBounds 0 (.iface 241 (.pointer (some ⟨w.heap.size, 0, none⟩)))) (i := j) (by rw [Array.size_setIfInBounds, zc_size]; exact hj)
    show _ = some (Option.getD _ _)
    rw [h]
    rfl
set_option maxHeartbeats 4000000 in
set_option maxRecDepth 100000 in
theorem jsonMarshal_any (x : V) (hg : Va.Good x) (hsz : x.size ≤ 400) (g : Value) (S : Nat → Prop) (w : World) (hgv : GV w S x g) (hS : ∀ b, S b → b < w.heap.size) (hT : Tabs w) :
    Calls Tryz.prog 192 #[g] w (StrEnd (numS (encJ x)) w) := by
  have HG := Lib.hid hg
  have HGV := Lib.hid hgv
  have HS := Lib.hid hS
  have HT := Lib.hid hT
  have HLT := Lib.hid (Fo.encJ_lt x)
  have hsh := gv_shape hgv
  clear hg hgv hS hT
  rcases hsh with rfl | ⟨tv, xv, rfl⟩
  all_goals
    go_enter Tryz.func192, Tryz.ntmps192
    go_wp2_with fail
    have Q := Lib.hid (st_fresh w)
    have hb1 : Below w.heap.size w ((w.alloc (.cells #[.pointer none, .slice none 0 0] 243)).alloc (.cells (Tryz.zeroCells118.setIfInBounds 0 (.iface 241 (.pointer (some ⟨w.heap.size, 0, none⟩)))) 118)) := ((Below.refl _ _).alloc (Nat.le_refl _) _).alloc (by rw [World.size_alloc]; omega) _
    refine (encode_any x HG.out w.heap.size w.heap.size (w.heap.size + 1) [] _ _ S (GV.mono (Same.of_below hb1 HS.out) (fun _ h => h) _ _ HGV.out) HS.out Q.out hb1.size (by unfold NodeLen; simp only [List.length_nil]; omega) (fun w' hw' => HT.out.below (hb1.trans hw'))).mono ?_
    rintro e w1 ⟨rfl, h1⟩
    have B1 := Lib.hid (hb1.trans h1.2.1)
    have Q1 := Lib.hid h1.1
    clear hb1 h1
    go_wp2_with fail
    refine (bstring_any w.heap.size w.heap.size ([] ++ encJ x) HLT.out w1 Q1.out.buf B1.out.size).mono ?_
    rintro e w2 ⟨rfl, hb2⟩
    have B2 := Lib.hid (B1.out.trans hb2)
    clear hb2
    go_wp2_with fail
    go_returns
    exact ⟨rfl, B2.out⟩
end Go.Proofs.YtgjmgneppecfgaaGreatDoor.Mc
namespace Go.Proofs.YtgjmgneppecfgaaGreatDoor.Mc
open Go.RowKit Go.Proofs.YtgjmgneppecfgaaGreatDoor.Va Go.Proofs.YtgjmgneppecfgaaGreatDoor.Ba Go.Proofs.YtgjmgneppecfgaaGreatDoor.Ma Go.Proofs.YtgjmgneppecfgaaGreatDoor.Fo
set_option linter.unusedVariables false
set_option linter.unusedSimpArgs false

/-- a text, as a value of the program -/
def IStr (s : ByteArray) (w : World) (e : Ending) (w' : World) : Prop := e = .returned (.iface 9 (.string s)) ∧ Below w.heap.size w w'
theorem gv_str {w : World} {S : Nat → Prop} {x : V} {gv : Value} (h : GV w S x (.iface 9 gv)) : x.kind = 4 ∧ gv = .string x.text := by
  cases x with
  | mk k hh t ls ks vs =>
  rw [GV] at h
  rcases h with q | q | q | q | q | ⟨q, a, c, e, _⟩ | ⟨q, r, es, cl, e, _⟩
  · exact absurd q.2 (by simp)
  · exact absurd q.2 (by simp)
  · exact absurd q.2 (by simp)
  · have := q.2
    unfold gnum at this
    split at this <;> simp at this
  · have := q.2
    simp at this
    exact ⟨q.1, this⟩
  · exact absurd e (by simp)
  · exact absurd e (by simp)
theorem gv_nstr {w : World} {S : Nat → Prop} {x : V} {g : Value} (h : GV w S x g) (hn : ∀ v, g ≠ .iface 9 v) : x.kind ≠ 4 := by
  cases x with
  | mk k hh t ls ks vs =>
  rw [GV] at h
  intro hk
  have hk' : k = 4 := hk
  rcases h with q | q | q | q | q | ⟨q, a, c, e, _⟩ | ⟨q, r, es, cl, e, _⟩
  · omega
  · omega
  · omega
  · omega
  · exact hn _ q.2
  · omega
  · omega
theorem toJSON_any (x : V) (hg : Va.Good x) (hsz : x.size ≤ 400) (g : Value) (S : Nat → Prop) (w : World) (hgv : GV w S x g) (hS : ∀ b, S b → b < w.heap.size) (hT : Tabs w) : Calls Tryz.prog 161 #[g] w (IStr (numS (encJ x)) w) := by
  have HJ := Lib.hid (jsonMarshal_any x hg hsz g S w hgv hS hT)
  clear hg hgv hS hT
  go_enter Tryz.func161, Tryz.ntmps161
  go_wp2_with fail
  refine HJ.out.mono ?_
  rintro e w1 ⟨rfl, hb⟩
  go_wp2_with fail
  go_returns
  exact ⟨rfl, hb⟩
set_option maxHeartbeats 2000000 in
theorem toString_any (x : V) (hg : Va.Good x) (hsz : x.size ≤ 400) (g : Value) (S : Nat → Prop) (w : World) (hgv : GV w S x g) (hS : ∀ b, S b → b < w.heap.size) (hT : Tabs w) : Calls Tryz.prog 155 #[g] w (IStr (numS (strX x)) w) := by
  have HJ := Lib.hid (toJSON_any x hg hsz g S w hgv hS hT)
  have HGV := Lib.hid hgv
  clear hg hgv hS hT
  have other : (∀ v, g ≠ .iface 9 v) → strX x = encJ x := fun hn => by unfold strX; rw [if_neg (gv_nstr HGV.out hn)]
  have OT := Lib.hid other
  clear other
  rcases HGV.out.kinds with rfl | ⟨gv, rfl⟩ | ⟨gv, rfl⟩ | ⟨gv, rfl⟩ | ⟨gv, rfl⟩ | ⟨gv, rfl⟩ | ⟨gv, rfl⟩
  all_goals
    first
      | (have ho := OT.out (by intro v e; simp at e)
         rw [ho]
         clear ho
         go_enter Tryz.func155, Tryz.ntmps155
         go_wp2_with fail
         refine HJ.out.mono ?_
         rintro e w1 ⟨rfl, hb⟩
         go_wp2_with fail
         go_returns
         exact ⟨rfl, hb⟩)
      | (obtain ⟨hk, rfl⟩ := gv_str HGV.out
         have hs : numS (strX x) = x.text := by unfold strX; rw [if_pos hk]; exact numS_byt _
         rw [hs]
         clear hs hk
         go_enter Tryz.func155, Tryz.ntmps155
         go_wp2_with fail
         go_returns
         exact ⟨rfl, Below.refl _ _⟩)
end Go.Proofs.YtgjmgneppecfgaaGreatDoor.Mc
