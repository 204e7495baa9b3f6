/-
  FnFormat, texts FoR: lemmas for the law; the theorem stands in the last text.
-/
import Derived.Test.YtgjmgneppecfgaaGreatDoorJ32
namespace Go.Proofs.YtgjmgneppecfgaaGreatDoor.Fo
open Go.RowKit Go.Proofs.YtgjmgneppecfgaaGreatDoor.Va Go.Proofs.YtgjmgneppecfgaaGreatDoor.Ba Go.Proofs.YtgjmgneppecfgaaGreatDoor.Ma Go.Proofs.YtgjmgneppecfgaaGreatDoor.Pa
set_option linter.unusedVariables false
set_option linter.unusedSimpArgs false

/-- the words of a value -/
def shL (x : V) : List V := if x.kind = 5 then x.list else [x]
set_option maxHeartbeats 16000000 in
set_option maxRecDepth 100000 in
theorem shell_any (x : V) (hg : Va.Good x) (h40 : x.size ≤ 400) (v : Value) (S : Nat → Prop) (w : World) (hv : RV w S x v) (hS : ∀ b, S b → b < w.heap.size) : Calls Tryz.prog 115 #[v] w (RowEnd fieldS 32 (shL x) w) := by
  have HV := Lib.hid hv
  have HS0 := Lib.hid hS
  have HGX0 := Lib.hid hg
  obtain ⟨x0, hx0⟩ : ∃ x0, x = x0 := ⟨_, rfl⟩
  have HX0 := Lib.hid hx0
  clear hx0
  cases x with
  | mk k h t ls ks vs =>
  have HGL : Hid (GoodL ls) := Lib.hid (by rw [Va.Good] at hg; exact hg.2.1)
  rw [RV] at hv
  obtain ⟨la, lc, ka, kc, va, vc, rfl, hl, _⟩ := hv
  have HL0 := Lib.hid hl
  have hsl : sizeL ls ≤ 400 := by rw [V.size] at h40; omega
  obtain ⟨n1, hm1⟩ : ∃ n, ls.length = n := ⟨_, rfl⟩
  obtain ⟨m2, hm2⟩ : ∃ n, ks.length = n := ⟨_, rfl⟩
  obtain ⟨m3, hm3⟩ : ∃ n, vs.length = n := ⟨_, rfl⟩
  have HM := Lib.hid hm1
  rw [hm1, hm2, hm3] at HV ⊢
  clear hg hS hl hm1 hm2 hm3
  by_cases hk : k = 5
  · subst hk
    have HSH : Hid (shL (.mk 5 h t ls ks vs) = ls) := Lib.hid (by unfold shL; exact if_pos rfl)
    rw [HSH.out]
    go_enter Tryz.func115, Tryz.ntmps115
    go_wp2_with fail
    generalize hW : World.alloc (World.alloc w _) _ = w0
    have HB0 : Hid (Below w.heap.size w w0) := Lib.hid (by rw [← hW]; exact (below_alloc w _).trans ((below_alloc _ _).mono (by simp)))
    have HUP : Hid (∀ e w', RowEnd fieldS 32 ls w0 e w' → RowEnd fieldS 32 ls w e w') := Lib.hid (by
      rintro e w' ⟨s, how, h1, h2, h3⟩
      exact ⟨s, how, h1, HB0.out.trans (h2.mono HB0.out.size), h3⟩)
    have B1 : Hid (Below w0.heap.size w0 w0) := Lib.hid (Below.refl _ _)
    have HL := Lib.hid (RL.mono (Same.of_below HB0.out HS0.out) (fun _ h => h) _ _ HL0.out)
    have HS : Hid (∀ b, S b → b < w0.heap.size) := Lib.hid (fun b h => Nat.lt_of_lt_of_le (HS0.out b h) HB0.out.size)
    clear hW
    have HG := HGL
    have HN := HM
    have hll : n1 ≤ 400 := by have := length_le ls; have := HM.out; omega
    have h4 := hsl
    (go_loopw [5, 19] (LoopW fieldS 32 ls n1 w0) (fun _ iv _ => n1 - (intOf iv).toNat)
     case atStart => exact ⟨0, rfl, rfl, Nat.zero_le _, fun y hy => by simp at hy, B1.out⟩
     case round =>
       obtain ⟨i, rfl, rfl, hi, hks, hb⟩ := hrel
       have HKS := Lib.hid hks
       have HB := Lib.hid hb
       clear hks hb
       by_cases hlt : i < n1
       · have hkl : i < ls.length := by rw [HN.out]; exact hlt
         obtain ⟨b, o, rfl⟩ := HL.out.addr (by omega)
         have hsame : Same S w0 wr := Same.of_below HB.out HS.out
         obtain ⟨hSb, c0, c1, c2, c3, c4, c5, h6, hv⟩ := RL.at ls b o (RL.mono hsame (fun _ h => h) _ _ HL.out) i hkl
         have HTK : Hid (ls.take (i + 1) = ls.take i ++ [ls[i]]) := Lib.hid (List.take_succ_eq_append_getElem hkl)
         have hgy := HG.out.mem _ (List.getElem_mem hkl)
         have hsz1 := size_mem (List.getElem_mem hkl)
         have HMEM : Hid (ls[i] ∈ ls) := Lib.hid (List.getElem_mem hkl)
         obtain ⟨x, hxe⟩ : ∃ x, Hid (ls[i] = x) := ⟨_, Lib.hid rfl⟩
         rw [hxe.out] at hv HTK hgy hsz1 HMEM
         have hfx := fieldS_ok x hgy (by omega)
         have HBARE := Lib.hid (fun W => bare_any x hgy (by omega) (.agg #[c0, c1, c2, c3, c4, c5]) S W)
         have HVX := Lib.hid hv
         have HGX := Lib.hid hgy
         cases x with
         | mk kk h' t' ls' ks' vs' =>
         rw [Va.Good] at hgy
         have htb' := hgy.1.tb
         rw [RV] at hv
         obtain ⟨la', lc', ka', kc', va', vc', e, _⟩ := hv
         obtain ⟨q1, hq1⟩ : ∃ q, ls'.length = q := ⟨_, rfl⟩
         obtain ⟨q2, hq2⟩ : ∃ q, ks'.length = q := ⟨_, rfl⟩
         obtain ⟨q3, hq3⟩ : ∃ q, vs'.length = q := ⟨_, rfl⟩
         rw [hq1, hq2, hq3] at e
         simp only [Value.agg.injEq, Array.mk.injEq, List.cons.injEq, and_true] at e
         obtain ⟨rfl, rfl, rfl, rfl, rfl, rfl⟩ := e
         unfold Six at h6
         clear hgy hSb hq1 hq2 hq3
         go_upto_region 8 with fail
         generalize hW : World.alloc wr _ = W
         have HWB := Lib.hid (hW ▸ below_alloc wr _ : Below wr.heap.size wr W)
         have B2 := Lib.hid (HB.out.trans (HWB.out.mono HB.out.size))
         have z := Lib.hid (hW ▸ block_new wr _ _ : W.heap[wr.heap.size]? = some (.cells #[.int .i64 kk, .int .i64 h', .string t', .slice la' q1 lc', .slice ka' q2 kc', .slice va' q3 vc'] 27 (0, 0)))
         have HWS : Hid (W.heap.size = wr.heap.size + 1) := Lib.hid (by rw [← hW]; simp)
         have hc := cells6 z.out
         have hrc := rowC_ok fieldS 32 (by decide) (ls.take i) (fun y hy => fieldS_ok y (HG.out.mem _ (List.mem_of_mem_take hy)) (Nat.le_trans (size_mem (List.mem_of_mem_take hy)) h4))
         have hnx := row_next fieldS 32 (ls.take i) (.mk kk h' t' ls' ks' vs')
         rw [← HTK.out] at hnx
         have hln : (numS (rowC fieldS 32 (ls.take i)).tail).size ≤ 10485760400 := by
           have h1 := hrc.1
           rw [List.length_take] at h1
           rw [numS_size, List.length_tail]
           have : min i ls.length * 26214401 ≤ 400 * 26214401 := Nat.mul_le_mul_right _ (by omega)
           omega
         clear hW h6
         by_cases hi0 : i = 0
         · subst hi0
           have HNX : Hid (∀ s, s = numS (fieldS (.mk kk h' t' ls' ks' vs')) → numS (rowC fieldS 32 (ls.take 0)).tail ++ s = numS (rowC fieldS 32 (ls.take (0 + 1))).tail) := Lib.hid (by
             rintro s rfl
             rw [hnx, numS_app _ _ (fun y hy => hrc.2 y (List.mem_of_mem_tail hy)) hfx.2]
             simp)
           obtain ⟨ob, hob⟩ : ∃ ob, numS (rowC fieldS 32 (ls.take 0)).tail = ob := ⟨_, rfl⟩
           rw [hob] at HNX hln ⊢
           go_wp2_with fail
           (refine (HBARE.out W (RV.mono (Same.of_below HWB.out (fun b h => Nat.lt_of_lt_of_le (HS.out b h) HB.out.size)) (fun _ h => h) _ _ HVX.out) (fun b h => Nat.lt_of_lt_of_le (HS.out b h) B2.out.size)).mono ?_
            rintro e w2 ⟨s, how, rfl, hb2, hs, hhow⟩
            have hz2 := (hb2.block wr.heap.size (by rw [HWS.out]; omega)).trans z.out
            have hc2 := cells6 hz2
            have B3 := Lib.hid (B2.out.trans (hb2.mono B2.out.size))
            have HZ2 := Lib.hid hz2
            have HLT := Lib.hid (show wr.heap.size < w2.heap.size by have := hb2.size; have := HWS.out; omega)
            clear hb2 hc hz2
            rcases hhow with rfl | ⟨rfl, hk5, hk6, rfl⟩ | ⟨rfl, hk⟩
            · go_wp2_with fail
              go_returns
              exact HUP.out _ _ ⟨⟨#[]⟩, 2, rfl, B3.out, .inl rfl⟩
            · by_cases hk4 : kk = 4
              · subst hk4
                have es : numS (bareX (.mk 4 h' t' ls' ks' vs')) = t' := numS_byt t'
                rw [es] at hs ⊢
                have hro := repl_ok shOk.new (bytesN t') (bytesN_lt t')
                have hrl := hro.1
                rw [bytesN_len] at hrl
                obtain ⟨u, hu⟩ : ∃ u, numS (repl shP (bytesN t')) = u := ⟨_, rfl⟩
                have hus : u.size ≤ 8 * t'.size := by rw [← hu, numS_size]; exact hrl
                have a1 : (⟨#[39]⟩ : ByteArray).size + u.size ≤ 140737488355328 := by show 1 + _ ≤ _; omega
                have s1 : ((⟨#[39]⟩ : ByteArray) ++ u).size = 1 + u.size := by rw [ByteArray.size_append]; rfl
                have a2 : ((⟨#[39]⟩ : ByteArray) ++ u).size + (⟨#[39]⟩ : ByteArray).size ≤ 140737488355328 := by rw [s1]; show _ + 1 ≤ _; omega
                have s2 : (((⟨#[39]⟩ : ByteArray) ++ u) ++ (⟨#[39]⟩ : ByteArray)).size = 1 + u.size + 1 := by rw [ByteArray.size_append, s1]; rfl
                have a3 : ob.size + (((⟨#[39]⟩ : ByteArray) ++ u) ++ (⟨#[39]⟩ : ByteArray)).size ≤ 140737488355328 := by rw [s2]; omega
                have HU : Hid (((⟨#[39]⟩ : ByteArray) ++ u) ++ (⟨#[39]⟩ : ByteArray) = numS (fieldS (.mk 4 h' t' ls' ks' vs'))) := Lib.hid (by
                  have e1 : fieldS (.mk 4 h' t' ls' ks' vs') = [39] ++ repl shP (bytesN t') ++ [39] := rfl
                  rw [e1, ← numS_app _ _ (fun y hy => by
                    rcases List.mem_append.1 hy with hy | hy
                    · simp at hy; omega
                    · exact hro.2 y hy) (by decide), ← numS_app _ _ (by decide) hro.2, hu]
                  rfl)
                clear es hro hrl
                go_wp2_with fail
                have hz := cells2 (block_new w2 #[.string ⟨#[39]⟩, .string ⟨#[39, 92, 39, 39]⟩] 9)
                have B4 := Lib.hid (B3.out.alloc B3.out.size (.cells #[.string ⟨#[39]⟩, .string ⟨#[39, 92, 39, 39]⟩] 9))
                have hc5 := cells6 (((below_alloc w2 (.cells #[.string ⟨#[39]⟩, .string ⟨#[39, 92, 39, 39]⟩] 9)).block wr.heap.size HLT.out).trans HZ2.out)
                generalize hW5 : World.alloc w2 _ = W5
                rw [hW5] at hz B4 hc5
                clear hW5 hc2
                refine (changed_any shP shOk t' (by omega) (some ⟨w2.heap.size, 0, none⟩) 2 2 rfl (fun b => b = w2.heap.size) W5 ⟨_, _, rfl, rfl, hz.1.1, _, _, rfl, rfl, hz.1.2, trivial⟩).mono ?_
                rintro e w5 ⟨rfl, rfl⟩
                rw [hu]
                go_wp2_with fail
                try go_simp
                refine ⟨⟨0 + 1, congrArg Value.string (HNX.out _ HU.out), by push_cast; rfl, hlt, ?_, B4.out⟩, by simp [intOf] <;> omega⟩
                intro y hy
                rw [HTK.out] at hy
                rcases List.mem_append.1 hy with hy | hy
                · exact HKS.out y hy
                · simp at hy; rw [hy]; exact ⟨hk5, hk6⟩
              · by_cases hk0 : kk = 0
                · subst hk0
                  have a3 : ob.size + (⟨#[110, 117, 108, 108]⟩ : ByteArray).size ≤ 140737488355328 := by show _ + 4 ≤ _; omega
                  have HU : Hid ((⟨#[110, 117, 108, 108]⟩ : ByteArray) = numS (fieldS (.mk 0 h' t' ls' ks' vs'))) := Lib.hid rfl
                  go_wp2_with fail
                  try go_simp
                  refine ⟨⟨0 + 1, congrArg Value.string (HNX.out _ HU.out), by push_cast; rfl, hlt, ?_, B3.out⟩, by simp [intOf] <;> omega⟩
                  intro y hy
                  rw [HTK.out] at hy
                  rcases List.mem_append.1 hy with hy | hy
                  · exact HKS.out y hy
                  · simp at hy; rw [hy]; exact ⟨hk5, hk6⟩
                have q4 : (kk == 4) = false := by simp; exact hk4
                have q0 : (kk == 0) = false := by simp; exact hk0
                have hbs := bareX_len (.mk kk h' t' ls' ks' vs') HGX.out (by omega)
                have hbz : (numS (bareX (.mk kk h' t' ls' ks' vs'))).size ≤ 26214400 := by rw [numS_size]; exact hbs
                have a3 : ob.size + (numS (bareX (.mk kk h' t' ls' ks' vs'))).size ≤ 140737488355328 := by omega
                have HU : Hid (numS (bareX (.mk kk h' t' ls' ks' vs')) = numS (fieldS (.mk kk h' t' ls' ks' vs'))) := Lib.hid (by unfold fieldS fieldX; rw [if_neg (by exact hk0), if_neg (by exact hk4)])
                go_wp2_with fail
                try go_simp
                refine ⟨⟨0 + 1, congrArg Value.string (HNX.out _ HU.out), by push_cast; rfl, hlt, ?_, B3.out⟩, by simp [intOf] <;> omega⟩
                intro y hy
                rw [HTK.out] at hy
                rcases List.mem_append.1 hy with hy | hy
                · exact HKS.out y hy
                · simp at hy; rw [hy]; exact ⟨hk5, hk6⟩
            · have HK := Lib.hid hk
              go_wp2_with fail
              go_returns
              exact HUP.out _ _ ⟨⟨#[]⟩, 1, rfl, B3.out, .inr (.inr ⟨rfl, _, HMEM.out, HK.out⟩)⟩)
         · try (exfalso; omega)
           all_goals (
             have g0 : (0 : Int) < (i : Int) := by omega
             have a0 : (numS (rowC fieldS 32 (ls.take i)).tail).size + (⟨#[32]⟩ : ByteArray).size ≤ 140737488355328 := by show _ + 1 ≤ _; omega
             have hne : ls.take i ≠ [] := by
               intro e
               have := congrArg List.length e
               rw [List.length_take] at this
               have h0 : min i ls.length = 0 := this
               omega
             rw [if_neg hne] at hnx
             have HNX : Hid (∀ s, s = numS (fieldS (.mk kk h' t' ls' ks' vs')) → (numS (rowC fieldS 32 (ls.take i)).tail ++ ⟨#[32]⟩) ++ s = numS (rowC fieldS 32 (ls.take (i + 1))).tail) := Lib.hid (by
               rintro s rfl
               rw [hnx, ← numS_app _ _ (fun y hy => by
                 rcases List.mem_append.1 hy with hy | hy
                 · exact hrc.2 y (List.mem_of_mem_tail hy)
                 · simp at hy; omega) hfx.2, ← numS_app _ [32] (fun y hy => hrc.2 y (List.mem_of_mem_tail hy)) (by decide)]
               rfl)
             have hln2 : (numS (rowC fieldS 32 (ls.take i)).tail ++ (⟨#[32]⟩ : ByteArray)).size ≤ 10485760401 := by rw [ByteArray.size_append]; show _ + 1 ≤ _; omega
             obtain ⟨ob, hob⟩ : ∃ ob, numS (rowC fieldS 32 (ls.take i)).tail ++ (⟨#[32]⟩ : ByteArray) = ob := ⟨_, rfl⟩
             rw [hob] at HNX hln2
             go_wp2_with fail
             try rw [hob]
             (refine (HBARE.out W (RV.mono (Same.of_below HWB.out (fun b h => Nat.lt_of_lt_of_le (HS.out b h) HB.out.size)) (fun _ h => h) _ _ HVX.out) (fun b h => Nat.lt_of_lt_of_le (HS.out b h) B2.out.size)).mono ?_
              rintro e w2 ⟨s, how, rfl, hb2, hs, hhow⟩
              have hz2 := (hb2.block wr.heap.size (by rw [HWS.out]; omega)).trans z.out
              have hc2 := cells6 hz2
              have B3 := Lib.hid (B2.out.trans (hb2.mono B2.out.size))
              have HZ2 := Lib.hid hz2
              have HLT := Lib.hid (show wr.heap.size < w2.heap.size by have := hb2.size; have := HWS.out; omega)
              clear hb2 hc hz2
              rcases hhow with rfl | ⟨rfl, hk5, hk6, rfl⟩ | ⟨rfl, hk⟩
              · go_wp2_with fail
                go_returns
                exact HUP.out _ _ ⟨⟨#[]⟩, 2, rfl, B3.out, .inl rfl⟩
              · by_cases hk4 : kk = 4
                · subst hk4
                  have es : numS (bareX (.mk 4 h' t' ls' ks' vs')) = t' := numS_byt t'
                  rw [es] at hs ⊢
                  have hro := repl_ok shOk.new (bytesN t') (bytesN_lt t')
                  have hrl := hro.1
                  rw [bytesN_len] at hrl
                  obtain ⟨u, hu⟩ : ∃ u, numS (repl shP (bytesN t')) = u := ⟨_, rfl⟩
                  have hus : u.size ≤ 8 * t'.size := by rw [← hu, numS_size]; exact hrl
                  have a1 : (⟨#[39]⟩ : ByteArray).size + u.size ≤ 140737488355328 := by show 1 + _ ≤ _; omega
                  have s1 : ((⟨#[39]⟩ : ByteArray) ++ u).size = 1 + u.size := by rw [ByteArray.size_append]; rfl
                  have a2 : ((⟨#[39]⟩ : ByteArray) ++ u).size + (⟨#[39]⟩ : ByteArray).size ≤ 140737488355328 := by rw [s1]; show _ + 1 ≤ _; omega
                  have s2 : (((⟨#[39]⟩ : ByteArray) ++ u) ++ (⟨#[39]⟩ : ByteArray)).size = 1 + u.size + 1 := by rw [ByteArray.size_append, s1]; rfl
                  have a3 : ob.size + (((⟨#[39]⟩ : ByteArray) ++ u) ++ (⟨#[39]⟩ : ByteArray)).size ≤ 140737488355328 := by rw [s2]; omega
                  have HU : Hid (((⟨#[39]⟩ : ByteArray) ++ u) ++ (⟨#[39]⟩ : ByteArray) = numS (fieldS (.mk 4 h' t' ls' ks' vs'))) := Lib.hid (by
                    have e1 : fieldS (.mk 4 h' t' ls' ks' vs') = [39] ++ repl shP (bytesN t') ++ [39] := rfl
                    rw [e1, ← numS_app _ _ (fun y hy => by
                      rcases List.mem_append.1 hy with hy | hy
                      · simp at hy; omega
                      · exact hro.2 y hy) (by decide), ← numS_app _ _ (by decide) hro.2, hu]
                    rfl)
                  clear es hro hrl
                  go_wp2_with fail
                  have hz := cells2 (block_new w2 #[.string ⟨#[39]⟩, .string ⟨#[39, 92, 39, 39]⟩] 9)
                  have B4 := Lib.hid (B3.out.alloc B3.out.size (.cells #[.string ⟨#[39]⟩, .string ⟨#[39, 92, 39, 39]⟩] 9))
                  have hc5 := cells6 (((below_alloc w2 (.cells #[.string ⟨#[39]⟩, .string ⟨#[39, 92, 39, 39]⟩] 9)).block wr.heap.size HLT.out).trans HZ2.out)
                  generalize hW5 : World.alloc w2 _ = W5
                  rw [hW5] at hz B4 hc5
                  clear hW5 hc2
                  refine (changed_any shP shOk t' (by omega) (some ⟨w2.heap.size, 0, none⟩) 2 2 rfl (fun b => b = w2.heap.size) W5 ⟨_, _, rfl, rfl, hz.1.1, _, _, rfl, rfl, hz.1.2, trivial⟩).mono ?_
                  rintro e w5 ⟨rfl, rfl⟩
                  rw [hu]
                  go_wp2_with fail
                  try go_simp
                  refine ⟨⟨i + 1, congrArg Value.string (HNX.out _ HU.out), by push_cast; rfl, hlt, ?_, B4.out⟩, by simp [intOf] <;> omega⟩
                  intro y hy
                  rw [HTK.out] at hy
                  rcases List.mem_append.1 hy with hy | hy
                  · exact HKS.out y hy
                  · simp at hy; rw [hy]; exact ⟨hk5, hk6⟩
                · by_cases hk0 : kk = 0
                  · subst hk0
                    have a3 : ob.size + (⟨#[110, 117, 108, 108]⟩ : ByteArray).size ≤ 140737488355328 := by show _ + 4 ≤ _; omega
                    have HU : Hid ((⟨#[110, 117, 108, 108]⟩ : ByteArray) = numS (fieldS (.mk 0 h' t' ls' ks' vs'))) := Lib.hid rfl
                    go_wp2_with fail
                    try go_simp
                    refine ⟨⟨i + 1, congrArg Value.string (HNX.out _ HU.out), by push_cast; rfl, hlt, ?_, B3.out⟩, by simp [intOf] <;> omega⟩
                    intro y hy
                    rw [HTK.out] at hy
                    rcases List.mem_append.1 hy with hy | hy
                    · exact HKS.out y hy
                    · simp at hy; rw [hy]; exact ⟨hk5, hk6⟩
                  have q4 : (kk == 4) = false := by simp; exact hk4
                  have q0 : (kk == 0) = false := by simp; exact hk0
                  have hbs := bareX_len (.mk kk h' t' ls' ks' vs') HGX.out (by omega)
                  have hbz : (numS (bareX (.mk kk h' t' ls' ks' vs'))).size ≤ 26214400 := by rw [numS_size]; exact hbs
                  have a3 : ob.size + (numS (bareX (.mk kk h' t' ls' ks' vs'))).size ≤ 140737488355328 := by omega
                  have HU : Hid (numS (bareX (.mk kk h' t' ls' ks' vs')) = numS (fieldS (.mk kk h' t' ls' ks' vs'))) := Lib.hid (by unfold fieldS fieldX; rw [if_neg (by exact hk0), if_neg (by exact hk4)])
                  go_wp2_with fail
                  try go_simp
                  refine ⟨⟨i + 1, congrArg Value.string (HNX.out _ HU.out), by push_cast; rfl, hlt, ?_, B3.out⟩, by simp [intOf] <;> omega⟩
                  intro y hy
                  rw [HTK.out] at hy
                  rcases List.mem_append.1 hy with hy | hy
                  · exact HKS.out y hy
                  · simp at hy; rw [hy]; exact ⟨hk5, hk6⟩
              · have HK := Lib.hid hk
                go_wp2_with fail
                go_returns
                exact HUP.out _ _ ⟨⟨#[]⟩, 1, rfl, B3.out, .inr (.inr ⟨rfl, _, HMEM.out, HK.out⟩)⟩)
             skip)
       · have hin : i = n1 := by omega
         rw [hin] at HKS hlt ⊢
         have HALL : Hid (ls.take n1 = ls) := Lib.hid (List.take_of_length_le (by rw [HN.out]; exact Nat.le_refl _))
         rw [HALL.out] at HKS
         rw [HALL.out]
         go_wp2_with fail
         go_returns
         exact HUP.out _ _ ⟨_, 0, rfl, HB.out, .inr (.inl ⟨rfl, HKS.out, rfl⟩)⟩)
  · have q5 : (k == 5) = false := by simp; exact hk
    have HSH : Hid (shL (.mk k h t ls ks vs) = [.mk k h t ls ks vs]) := Lib.hid (by unfold shL; exact if_neg hk)
    rw [HSH.out]
    go_enter Tryz.func115, Tryz.ntmps115
    go_wp2_with fail
    generalize hW : World.alloc (World.alloc w _) _ = w0
    have HB0 : Hid (Below w.heap.size w w0) := Lib.hid (by rw [← hW]; exact (below_alloc w _).trans ((below_alloc _ _).mono (by simp)))
    have HUP : Hid (∀ e w', RowEnd fieldS 32 [.mk k h t ls ks vs] w0 e w' → RowEnd fieldS 32 [.mk k h t ls ks vs] w e w') := Lib.hid (by
      rintro e w' ⟨s, how, h1, h2, h3⟩
      exact ⟨s, how, h1, HB0.out.trans (h2.mono HB0.out.size), h3⟩)
    have B1 : Hid (Below w0.heap.size w0 w0) := Lib.hid (Below.refl _ _)
    have hz := (hW ▸ block_new (World.alloc w (.cells #[.int .i64 k, .int .i64 h, .string t, .slice la n1 lc, .slice ka m2 kc, .slice va m3 vc] 27)) _ _ : w0.heap[(World.alloc w (.cells #[.int .i64 k, .int .i64 h, .string t, .slice la n1 lc, .slice ka m2 kc, .slice va m3 vc] 27)).heap.size]? = some (.cells #[.int .i64 k, .int .i64 h, .string t, .slice la n1 lc, .slice ka m2 kc, .slice va m3 vc] 27 (0, 0)))
    rw [show (World.alloc w (.cells #[.int .i64 k, .int .i64 h, .string t, .slice la n1 lc, .slice ka m2 kc, .slice va m3 vc] 27)).heap.size = w.heap.size + 1 by simp] at hz
    have hsz : w.heap.size + 1 < w0.heap.size := by rw [← hW]; simp
    clear hW
    have hz6 := cells6 hz
    have HN : Hid ([V.mk k h t ls ks vs].length = 1) := Lib.hid rfl
    have HL : Hid (RL w0 (fun b => b < w0.heap.size) [.mk k h t ls ks vs] (some ⟨w.heap.size + 1, 0, none⟩)) := Lib.hid (RL.of _ _ _ (fun _ => hsz) (fun i hi => by
      obtain rfl : i = 0 := by simp at hi; exact hi
      exact ⟨_, _, _, _, _, _, hz6.1, RV.mono (Same.of_below HB0.out HS0.out) (fun b h => Nat.lt_of_lt_of_le (HS0.out b h) HB0.out.size) _ _ HV.out⟩))
    have HG : Hid (GoodL [.mk k h t ls ks vs]) := Lib.hid (by rw [GoodL, GoodL]; exact ⟨HGX0.out, trivial⟩)
    have h4 : sizeL [.mk k h t ls ks vs] ≤ 400 := by rw [sizeL, sizeL]; omega
    clear hz6 hz hsz HGL HM hsl HL0 HV HX0 HSH
    obtain ⟨ls, hls⟩ : ∃ l, [V.mk k h t ls ks vs] = l := ⟨_, rfl⟩
    rw [hls] at HN HL HG h4
    have HUP := Lib.hid (fun e w' (h : RowEnd fieldS 32 ls w0 e w') => HUP.out e w' (by rw [hls]; exact h))
    obtain ⟨S, hSS⟩ : ∃ S2 : Nat → Prop, (fun b => b < w0.heap.size) = S2 := ⟨_, rfl⟩
    rw [hSS] at HL
    have HS : Hid (∀ b, S b → b < w0.heap.size) := Lib.hid (by rw [← hSS]; exact fun _ h => h)
    clear hls hSS
    have hll : 1 ≤ 400 := by decide
    obtain ⟨lc, hlc⟩ : ∃ n : Nat, 1 = n := ⟨_, rfl⟩
    obtain ⟨la, hla⟩ : ∃ a : Option Addr, some ⟨w.heap.size + 1, 0, none⟩ = a := ⟨_, rfl⟩
    have hsl : Value.slice (some ⟨w.heap.size + 1, 0, none⟩) 1 1 = Value.slice la 1 lc := by rw [hla]; congr
    rw [hsl]
    rw [hla] at HL
    clear hsl hla hlc
    (go_loopw [5, 19] (LoopW fieldS 32 ls 1 w0) (fun _ iv _ => 1 - (intOf iv).toNat)
     case atStart => exact ⟨0, rfl, rfl, Nat.zero_le _, fun y hy => by simp at hy, B1.out⟩
     case round =>
       obtain ⟨i, rfl, rfl, hi, hks, hb⟩ := hrel
       have HKS := Lib.hid hks
       have HB := Lib.hid hb
       clear hks hb
       by_cases hlt : i < 1
       · have hkl : i < ls.length := by rw [HN.out]; exact hlt
         obtain ⟨b, o, rfl⟩ := HL.out.addr (by omega)
         have hsame : Same S w0 wr := Same.of_below HB.out HS.out
         obtain ⟨hSb, c0, c1, c2, c3, c4, c5, h6, hv⟩ := RL.at ls b o (RL.mono hsame (fun _ h => h) _ _ HL.out) i hkl
         have HTK : Hid (ls.take (i + 1) = ls.take i ++ [ls[i]]) := Lib.hid (List.take_succ_eq_append_getElem hkl)
         have hgy := HG.out.mem _ (List.getElem_mem hkl)
         have hsz1 := size_mem (List.getElem_mem hkl)
         have HMEM : Hid (ls[i] ∈ ls) := Lib.hid (List.getElem_mem hkl)
         obtain ⟨x, hxe⟩ : ∃ x, Hid (ls[i] = x) := ⟨_, Lib.hid rfl⟩
         rw [hxe.out] at hv HTK hgy hsz1 HMEM
         have hfx := fieldS_ok x hgy (by omega)
         have HBARE := Lib.hid (fun W => bare_any x hgy (by omega) (.agg #[c0, c1, c2, c3, c4, c5]) S W)
         have HVX := Lib.hid hv
         have HGX := Lib.hid hgy
         cases x with
         | mk kk h' t' ls' ks' vs' =>
         rw [Va.Good] at hgy
         have htb' := hgy.1.tb
         rw [RV] at hv
         obtain ⟨la', lc', ka', kc', va', vc', e, _⟩ := hv
         obtain ⟨q1, hq1⟩ : ∃ q, ls'.length = q := ⟨_, rfl⟩
         obtain ⟨q2, hq2⟩ : ∃ q, ks'.length = q := ⟨_, rfl⟩
         obtain ⟨q3, hq3⟩ : ∃ q, vs'.length = q := ⟨_, rfl⟩
         rw [hq1, hq2, hq3] at e
         simp only [Value.agg.injEq, Array.mk.injEq, List.cons.injEq, and_true] at e
         obtain ⟨rfl, rfl, rfl, rfl, rfl, rfl⟩ := e
         unfold Six at h6
         clear hgy hSb hq1 hq2 hq3
         go_upto_region 8 with fail
         generalize hW : World.alloc wr _ = W
         have HWB := Lib.hid (hW ▸ below_alloc wr _ : Below wr.heap.size wr W)
         have B2 := Lib.hid (HB.out.trans (HWB.out.mono HB.out.size))
         have z := Lib.hid (hW ▸ block_new wr _ _ : W.heap[wr.heap.size]? = some (.cells #[.int .i64 kk, .int .i64 h', .string t', .slice la' q1 lc', .slice ka' q2 kc', .slice va' q3 vc'] 27 (0, 0)))
         have HWS : Hid (W.heap.size = wr.heap.size + 1) := Lib.hid (by rw [← hW]; simp)
         have hc := cells6 z.out
         have hrc := rowC_ok fieldS 32 (by decide) (ls.take i) (fun y hy => fieldS_ok y (HG.out.mem _ (List.mem_of_mem_take hy)) (Nat.le_trans (size_mem (List.mem_of_mem_take hy)) h4))
         have hnx := row_next fieldS 32 (ls.take i) (.mk kk h' t' ls' ks' vs')
         rw [← HTK.out] at hnx
         have hln : (numS (rowC fieldS 32 (ls.take i)).tail).size ≤ 10485760400 := by
           have h1 := hrc.1
           rw [List.length_take] at h1
           rw [numS_size, List.length_tail]
           have : min i ls.length * 26214401 ≤ 400 * 26214401 := Nat.mul_le_mul_right _ (by omega)
           omega
         clear hW h6
         by_cases hi0 : i = 0
         · subst hi0
           have HNX : Hid (∀ s, s = numS (fieldS (.mk kk h' t' ls' ks' vs')) → numS (rowC fieldS 32 (ls.take 0)).tail ++ s = numS (rowC fieldS 32 (ls.take (0 + 1))).tail) := Lib.hid (by
             rintro s rfl
             rw [hnx, numS_app _ _ (fun y hy => hrc.2 y (List.mem_of_mem_tail hy)) hfx.2]
             simp)
           obtain ⟨ob, hob⟩ : ∃ ob, numS (rowC fieldS 32 (ls.take 0)).tail = ob := ⟨_, rfl⟩
           rw [hob] at HNX hln ⊢
           go_wp2_with fail
           (refine (HBARE.out W (RV.mono (Same.of_below HWB.out (fun b h => Nat.lt_of_lt_of_le (HS.out b h) HB.out.size)) (fun _ h => h) _ _ HVX.out) (fun b h => Nat.lt_of_lt_of_le (HS.out b h) B2.out.size)).mono ?_
            rintro e w2 ⟨s, how, rfl, hb2, hs, hhow⟩
            have hz2 := (hb2.block wr.heap.size (by rw [HWS.out]; omega)).trans z.out
            have hc2 := cells6 hz2
            have B3 := Lib.hid (B2.out.trans (hb2.mono B2.out.size))
            have HZ2 := Lib.hid hz2
            have HLT := Lib.hid (show wr.heap.size < w2.heap.size by have := hb2.size; have := HWS.out; omega)
            clear hb2 hc hz2
            rcases hhow with rfl | ⟨rfl, hk5, hk6, rfl⟩ | ⟨rfl, hk⟩
            · go_wp2_with fail
              go_returns
              exact HUP.out _ _ ⟨⟨#[]⟩, 2, rfl, B3.out, .inl rfl⟩
            · by_cases hk4 : kk = 4
              · subst hk4
                have es : numS (bareX (.mk 4 h' t' ls' ks' vs')) = t' := numS_byt t'
                rw [es] at hs ⊢
                have hro := repl_ok shOk.new (bytesN t') (bytesN_lt t')
                have hrl := hro.1
                rw [bytesN_len] at hrl
                obtain ⟨u, hu⟩ : ∃ u, numS (repl shP (bytesN t')) = u := ⟨_, rfl⟩
                have hus : u.size ≤ 8 * t'.size := by rw [← hu, numS_size]; exact hrl
                have a1 : (⟨#[39]⟩ : ByteArray).size + u.size ≤ 140737488355328 := by show 1 + _ ≤ _; omega
                have s1 : ((⟨#[39]⟩ : ByteArray) ++ u).size = 1 + u.size := by rw [ByteArray.size_append]; rfl
                have a2 : ((⟨#[39]⟩ : ByteArray) ++ u).size + (⟨#[39]⟩ : ByteArray).size ≤ 140737488355328 := by rw [s1]; show _ + 1 ≤ _; omega
                have s2 : (((⟨#[39]⟩ : ByteArray) ++ u) ++ (⟨#[39]⟩ : ByteArray)).size = 1 + u.size + 1 := by rw [ByteArray.size_append, s1]; rfl
                have a3 : ob.size + (((⟨#[39]⟩ : ByteArray) ++ u) ++ (⟨#[39]⟩ : ByteArray)).size ≤ 140737488355328 := by rw [s2]; omega
                have HU : Hid (((⟨#[39]⟩ : ByteArray) ++ u) ++ (⟨#[39]⟩ : ByteArray) = numS (fieldS (.mk 4 h' t' ls' ks' vs'))) := Lib.hid (by
                  have e1 : fieldS (.mk 4 h' t' ls' ks' vs') = [39] ++ repl shP (bytesN t') ++ [39] := rfl
                  rw [e1, ← numS_app _ _ (fun y hy => by
                    rcases List.mem_append.1 hy with hy | hy
                    · simp at hy; omega
                    · exact hro.2 y hy) (by decide), ← numS_app _ _ (by decide) hro.2, hu]
                  rfl)
                clear es hro hrl
                go_wp2_with fail
                have hz := cells2 (block_new w2 #[.string ⟨#[39]⟩, .string ⟨#[39, 92, 39, 39]⟩] 9)
                have B4 := Lib.hid (B3.out.alloc B3.out.size (.cells #[.string ⟨#[39]⟩, .string ⟨#[39, 92, 39, 39]⟩] 9))
                have hc5 := cells6 (((below_alloc w2 (.cells #[.string ⟨#[39]⟩, .string ⟨#[39, 92, 39, 39]⟩] 9)).block wr.heap.size HLT.out).trans HZ2.out)
                generalize hW5 : World.alloc w2 _ = W5
                rw [hW5] at hz B4 hc5
                clear hW5 hc2
                refine (changed_any shP shOk t' (by omega) (some ⟨w2.heap.size, 0, none⟩) 2 2 rfl (fun b => b = w2.heap.size) W5 ⟨_, _, rfl, rfl, hz.1.1, _, _, rfl, rfl, hz.1.2, trivial⟩).mono ?_
                rintro e w5 ⟨rfl, rfl⟩
                rw [hu]
                go_wp2_with fail
                try go_simp
                refine ⟨⟨0 + 1, congrArg Value.string (HNX.out _ HU.out), by push_cast; rfl, hlt, ?_, B4.out⟩, by simp [intOf] <;> omega⟩
                intro y hy
                rw [HTK.out] at hy
                rcases List.mem_append.1 hy with hy | hy
                · exact HKS.out y hy
                · simp at hy; rw [hy]; exact ⟨hk5, hk6⟩
              · by_cases hk0 : kk = 0
                · subst hk0
                  have a3 : ob.size + (⟨#[110, 117, 108, 108]⟩ : ByteArray).size ≤ 140737488355328 := by show _ + 4 ≤ _; omega
                  have HU : Hid ((⟨#[110, 117, 108, 108]⟩ : ByteArray) = numS (fieldS (.mk 0 h' t' ls' ks' vs'))) := Lib.hid rfl
                  go_wp2_with fail
                  try go_simp
                  refine ⟨⟨0 + 1, congrArg Value.string (HNX.out _ HU.out), by push_cast; rfl, hlt, ?_, B3.out⟩, by simp [intOf] <;> omega⟩
                  intro y hy
                  rw [HTK.out] at hy
                  rcases List.mem_append.1 hy with hy | hy
                  · exact HKS.out y hy
                  · simp at hy; rw [hy]; exact ⟨hk5, hk6⟩
                have q4 : (kk == 4) = false := by simp; exact hk4
                have q0 : (kk == 0) = false := by simp; exact hk0
                have hbs := bareX_len (.mk kk h' t' ls' ks' vs') HGX.out (by omega)
                have hbz : (numS (bareX (.mk kk h' t' ls' ks' vs'))).size ≤ 26214400 := by rw [numS_size]; exact hbs
                have a3 : ob.size + (numS (bareX (.mk kk h' t' ls' ks' vs'))).size ≤ 140737488355328 := by omega
                have HU : Hid (numS (bareX (.mk kk h' t' ls' ks' vs')) = numS (fieldS (.mk kk h' t' ls' ks' vs'))) := Lib.hid (by unfold fieldS fieldX; rw [if_neg (by exact hk0), if_neg (by exact hk4)])
                go_wp2_with fail
                try go_simp
                refine ⟨⟨0 + 1, congrArg Value.string (HNX.out _ HU.out), by push_cast; rfl, hlt, ?_, B3.out⟩, by simp [intOf] <;> omega⟩
                intro y hy
                rw [HTK.out] at hy
                rcases List.mem_append.1 hy with hy | hy
                · exact HKS.out y hy
                · simp at hy; rw [hy]; exact ⟨hk5, hk6⟩
            · have HK := Lib.hid hk
              go_wp2_with fail
              go_returns
              exact HUP.out _ _ ⟨⟨#[]⟩, 1, rfl, B3.out, .inr (.inr ⟨rfl, _, HMEM.out, HK.out⟩)⟩)
         · try (exfalso; omega)
           all_goals (
             have g0 : (0 : Int) < (i : Int) := by omega
             have a0 : (numS (rowC fieldS 32 (ls.take i)).tail).size + (⟨#[32]⟩ : ByteArray).size ≤ 140737488355328 := by show _ + 1 ≤ _; omega
             have hne : ls.take i ≠ [] := by
               intro e
               have := congrArg List.length e
               rw [List.length_take] at this
               have h0 : min i ls.length = 0 := this
               omega
             rw [if_neg hne] at hnx
             have HNX : Hid (∀ s, s = numS (fieldS (.mk kk h' t' ls' ks' vs')) → (numS (rowC fieldS 32 (ls.take i)).tail ++ ⟨#[32]⟩) ++ s = numS (rowC fieldS 32 (ls.take (i + 1))).tail) := Lib.hid (by
               rintro s rfl
               rw [hnx, ← numS_app _ _ (fun y hy => by
                 rcases List.mem_append.1 hy with hy | hy
                 · exact hrc.2 y (List.mem_of_mem_tail hy)
                 · simp at hy; omega) hfx.2, ← numS_app _ [32] (fun y hy => hrc.2 y (List.mem_of_mem_tail hy)) (by decide)]
               rfl)
             have hln2 : (numS (rowC fieldS 32 (ls.take i)).tail ++ (⟨#[32]⟩ : ByteArray)).size ≤ 10485760401 := by rw [ByteArray.size_append]; show _ + 1 ≤ _; omega
             obtain ⟨ob, hob⟩ : ∃ ob, numS (rowC fieldS 32 (ls.take i)).tail ++ (⟨#[32]⟩ : ByteArray) = ob := ⟨_, rfl⟩
             rw [hob] at HNX hln2
             go_wp2_with fail
             try rw [hob]
             (refine (HBARE.out W (RV.mono (Same.of_below HWB.out (fun b h => Nat.lt_of_lt_of_le (HS.out b h) HB.out.size)) (fun _ h => h) _ _ HVX.out) (fun b h => Nat.lt_of_lt_of_le (HS.out b h) B2.out.size)).mono ?_
              rintro e w2 ⟨s, how, rfl, hb2, hs, hhow⟩
              have hz2 := (hb2.block wr.heap.size (by rw [HWS.out]; omega)).trans z.out
              have hc2 := cells6 hz2
              have B3 := Lib.hid (B2.out.trans (hb2.mono B2.out.size))
              have HZ2 := Lib.hid hz2
              have HLT := Lib.hid (show wr.heap.size < w2.heap.size by have := hb2.size; have := HWS.out; omega)
              clear hb2 hc hz2
              rcases hhow with rfl | ⟨rfl, hk5, hk6, rfl⟩ | ⟨rfl, hk⟩
              · go_wp2_with fail
                go_returns
                exact HUP.out _ _ ⟨⟨#[]⟩, 2, rfl, B3.out, .inl rfl⟩
              · by_cases hk4 : kk = 4
                · subst hk4
                  have es : numS (bareX (.mk 4 h' t' ls' ks' vs')) = t' := numS_byt t'
                  rw [es] at hs ⊢
                  have hro := repl_ok shOk.new (bytesN t') (bytesN_lt t')
                  have hrl := hro.1
                  rw [bytesN_len] at hrl
                  obtain ⟨u, hu⟩ : ∃ u, numS (repl shP (bytesN t')) = u := ⟨_, rfl⟩
                  have hus : u.size ≤ 8 * t'.size := by rw [← hu, numS_size]; exact hrl
                  have a1 : (⟨#[39]⟩ : ByteArray).size + u.size ≤ 140737488355328 := by show 1 + _ ≤ _; omega
                  have s1 : ((⟨#[39]⟩ : ByteArray) ++ u).size = 1 + u.size := by rw [ByteArray.size_append]; rfl
                  have a2 : ((⟨#[39]⟩ : ByteArray) ++ u).size + (⟨#[39]⟩ : ByteArray).size ≤ 140737488355328 := by rw [s1]; show _ + 1 ≤ _; omega
                  have s2 : (((⟨#[39]⟩ : ByteArray) ++ u) ++ (⟨#[39]⟩ : ByteArray)).size = 1 + u.size + 1 := by rw [ByteArray.size_append, s1]; rfl
                  have a3 : ob.size + (((⟨#[39]⟩ : ByteArray) ++ u) ++ (⟨#[39]⟩ : ByteArray)).size ≤ 140737488355328 := by rw [s2]; omega
                  have HU : Hid (((⟨#[39]⟩ : ByteArray) ++ u) ++ (⟨#[39]⟩ : ByteArray) = numS (fieldS (.mk 4 h' t' ls' ks' vs'))) := Lib.hid (by
                    have e1 : fieldS (.mk 4 h' t' ls' ks' vs') = [39] ++ repl shP (bytesN t') ++ [39] := rfl
                    rw [e1, ← numS_app _ _ (fun y hy => by
                      rcases List.mem_append.1 hy with hy | hy
                      · simp at hy; omega
                      · exact hro.2 y hy) (by decide), ← numS_app _ _ (by decide) hro.2, hu]
                    rfl)
                  clear es hro hrl
                  go_wp2_with fail
                  have hz := cells2 (block_new w2 #[.string ⟨#[39]⟩, .string ⟨#[39, 92, 39, 39]⟩] 9)
                  have B4 := Lib.hid (B3.out.alloc B3.out.size (.cells #[.string ⟨#[39]⟩, .string ⟨#[39, 92, 39, 39]⟩] 9))
                  have hc5 := cells6 (((below_alloc w2 (.cells #[.string ⟨#[39]⟩, .string ⟨#[39, 92, 39, 39]⟩] 9)).block wr.heap.size HLT.out).trans HZ2.out)
                  generalize hW5 : World.alloc w2 _ = W5
                  rw [hW5] at hz B4 hc5
                  clear hW5 hc2
                  refine (changed_any shP shOk t' (by omega) (some ⟨w2.heap.size, 0, none⟩) 2 2 rfl (fun b => b = w2.heap.size) W5 ⟨_, _, rfl, rfl, hz.1.1, _, _, rfl, rfl, hz.1.2, trivial⟩).mono ?_
                  rintro e w5 ⟨rfl, rfl⟩
                  rw [hu]
                  go_wp2_with fail
                  try go_simp
                  refine ⟨⟨i + 1, congrArg Value.string (HNX.out _ HU.out), by push_cast; rfl, hlt, ?_, B4.out⟩, by simp [intOf] <;> omega⟩
                  intro y hy
                  rw [HTK.out] at hy
                  rcases List.mem_append.1 hy with hy | hy
                  · exact HKS.out y hy
                  · simp at hy; rw [hy]; exact ⟨hk5, hk6⟩
                · by_cases hk0 : kk = 0
                  · subst hk0
                    have a3 : ob.size + (⟨#[110, 117, 108, 108]⟩ : ByteArray).size ≤ 140737488355328 := by show _ + 4 ≤ _; omega
                    have HU : Hid ((⟨#[110, 117, 108, 108]⟩ : ByteArray) = numS (fieldS (.mk 0 h' t' ls' ks' vs'))) := Lib.hid rfl
                    go_wp2_with fail
                    try go_simp
                    refine ⟨⟨i + 1, congrArg Value.string (HNX.out _ HU.out), by push_cast; rfl, hlt, ?_, B3.out⟩, by simp [intOf] <;> omega⟩
                    intro y hy
                    rw [HTK.out] at hy
                    rcases List.mem_append.1 hy with hy | hy
                    · exact HKS.out y hy
                    · simp at hy; rw [hy]; exact ⟨hk5, hk6⟩
                  have q4 : (kk == 4) = false := by simp; exact hk4
                  have q0 : (kk == 0) = false := by simp; exact hk0
                  have hbs := bareX_len (.mk kk h' t' ls' ks' vs') HGX.out (by omega)
                  have hbz : (numS (bareX (.mk kk h' t' ls' ks' vs'))).size ≤ 26214400 := by rw [numS_size]; exact hbs
                  have a3 : ob.size + (numS (bareX (.mk kk h' t' ls' ks' vs'))).size ≤ 140737488355328 := by omega
                  have HU : Hid (numS (bareX (.mk kk h' t' ls' ks' vs')) = numS (fieldS (.mk kk h' t' ls' ks' vs'))) := Lib.hid (by unfold fieldS fieldX; rw [if_neg (by exact hk0), if_neg (by exact hk4)])
                  go_wp2_with fail
                  try go_simp
                  refine ⟨⟨i + 1, congrArg Value.string (HNX.out _ HU.out), by push_cast; rfl, hlt, ?_, B3.out⟩, by simp [intOf] <;> omega⟩
                  intro y hy
                  rw [HTK.out] at hy
                  rcases List.mem_append.1 hy with hy | hy
                  · exact HKS.out y hy
                  · simp at hy; rw [hy]; exact ⟨hk5, hk6⟩
              · have HK := Lib.hid hk
                go_wp2_with fail
                go_returns
                exact HUP.out _ _ ⟨⟨#[]⟩, 1, rfl, B3.out, .inr (.inr ⟨rfl, _, HMEM.out, HK.out⟩)⟩)
             skip)
       · have hin : i = 1 := by omega
         rw [hin] at HKS hlt ⊢
         have HALL : Hid (ls.take 1 = ls) := Lib.hid (List.take_of_length_le (by rw [HN.out]; exact Nat.le_refl _))
         rw [HALL.out] at HKS
         rw [HALL.out]
         go_wp2_with fail
         go_returns
         exact HUP.out _ _ ⟨_, 0, rfl, HB.out, .inr (.inl ⟨rfl, HKS.out, rfl⟩)⟩)
end Go.Proofs.YtgjmgneppecfgaaGreatDoor.Fo
