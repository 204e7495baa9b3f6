/-
  FnFormat, texts FoN: lemmas for the law; the theorem stands in the last text.
-/
import Derived.Test.YtgjmgneppecfgaaGreatDoorJ30
namespace Go.Proofs.YtgjmgneppecfgaaGreatDoor.Fo
open Go.RowKit Go.Proofs.YtgjmgneppecfgaaGreatDoor.Va Go.Proofs.YtgjmgneppecfgaaGreatDoor.Ba Go.Proofs.YtgjmgneppecfgaaGreatDoor.Ma Go.Proofs.YtgjmgneppecfgaaGreatDoor.Pa
set_option linter.unusedVariables false
set_option linter.unusedSimpArgs false

def LoopW (F : V → List Nat) (b : Nat) (ls : List V) (n : Nat) (w : World) (ov iv : Value) (wr : World) : Prop :=
  ∃ i : Nat, ov = .string (numS (rowC F b (ls.take i)).tail) ∧ iv = .int .i64 (i : Int) ∧ i ≤ n ∧ (∀ y ∈ ls.take i, y.kind ≠ 5 ∧ y.kind ≠ 6) ∧ Below w.heap.size w wr
set_option maxHeartbeats 8000000 in
set_option maxRecDepth 100000 in
theorem row_csv (h : Int) (t : ByteArray) (ls : List V) (ks : List ByteArray) (vs : List V) (hg : GoodL ls) (h4 : sizeL ls ≤ 400) (v : Value) (S : Nat → Prop) (w : World) (hv : RV w S (.mk 5 h t ls ks vs) v) (hS : ∀ b, S b → b < w.heap.size) :
    Calls Tryz.prog 114 #[v, .string ⟨#[99, 115, 118]⟩, .string ⟨#[44]⟩] w (RowEnd (fieldX csvT) 44 ls w) := by
  have HS := Lib.hid hS
  have HG := Lib.hid hg
  have hll : ls.length ≤ 400 := by have := length_le ls; omega
  rw [RV] at hv
  obtain ⟨la, lc, ka, kc, va, vc, rfl, hl, _⟩ := hv
  clear hg hS
  obtain ⟨n1, hn1⟩ : ∃ n, ls.length = n := ⟨_, rfl⟩
  obtain ⟨n2, hn2⟩ : ∃ n, ks.length = n := ⟨_, rfl⟩
  obtain ⟨n3, hn3⟩ : ∃ n, vs.length = n := ⟨_, rfl⟩
  have HN := Lib.hid hn1
  rw [hn1, hn2, hn3]
  rw [hn1] at hll
  have HL := Lib.hid hl
  clear hn1 hn2 hn3 hl
  go_enter Tryz.func114, Tryz.ntmps114
  go_wp2_with fail
  generalize hW : World.alloc w _ = W
  have B1 := Lib.hid (hW ▸ below_alloc w _ : Below w.heap.size w W)
  clear hW
  go_loopw [8, 19] (LoopW (fieldX csvT) 44 ls n1 w) (fun _ iv _ => n1 - (intOf iv).toNat)
  case atStart => exact ⟨0, rfl, rfl, Nat.zero_le _, fun y hy => by simp at hy, B1.out⟩
  case round =>
    obtain ⟨i, rfl, rfl, hi, hks, hb⟩ := hrel
    have HKS := Lib.hid hks
    have HB := Lib.hid hb
    clear hks hb
    by_cases hlt : i < n1
    · have hkl : i < ls.length := by rw [HN.out]; exact hlt
      obtain ⟨b, o, rfl⟩ := HL.out.addr (by omega)
      have hsame : Same S w wr := Same.of_below HB.out HS.out
      obtain ⟨hSb, c0, c1, c2, c3, c4, c5, h6, hv⟩ := RL.at ls b o (RL.mono hsame (fun _ h => h) _ _ HL.out) i hkl
      have HTK : Hid (ls.take (i + 1) = ls.take i ++ [ls[i]]) := Lib.hid (List.take_succ_eq_append_getElem hkl)
      have hgy := HG.out.mem _ (List.getElem_mem hkl)
      have hsz1 := size_mem (List.getElem_mem hkl)
      have HMEM : Hid (ls[i] ∈ ls) := Lib.hid (List.getElem_mem hkl)
      obtain ⟨x, hxe⟩ : ∃ x, Hid (ls[i] = x) := ⟨_, Lib.hid rfl⟩
      rw [hxe.out] at hv HTK hgy hsz1 HMEM
      have hfx := fieldX_ok csvT_ok x hgy (by omega)
      have HBARE := Lib.hid (fun W => bare_any x hgy (by omega) (.agg #[c0, c1, c2, c3, c4, c5]) S W)
      have HVX := Lib.hid hv
      have HGX := Lib.hid hgy
      cases x with
      | mk kk h' t' ls' ks' vs' =>
      rw [Va.Good] at hgy
      have htb' := hgy.1.tb
      rw [RV] at hv
      obtain ⟨la', lc', ka', kc', va', vc', e, _⟩ := hv
      obtain ⟨q1, hq1⟩ : ∃ q, ls'.length = q := ⟨_, rfl⟩
      obtain ⟨q2, hq2⟩ : ∃ q, ks'.length = q := ⟨_, rfl⟩
      obtain ⟨q3, hq3⟩ : ∃ q, vs'.length = q := ⟨_, rfl⟩
      rw [hq1, hq2, hq3] at e
      simp only [Value.agg.injEq, Array.mk.injEq, List.cons.injEq, and_true] at e
      obtain ⟨rfl, rfl, rfl, rfl, rfl, rfl⟩ := e
      unfold Six at h6
      clear hgy hSb hq1 hq2 hq3
      go_upto_region 7 with fail
      generalize hW : World.alloc wr _ = W
      have HWB := Lib.hid (hW ▸ below_alloc wr _ : Below wr.heap.size wr W)
      have B2 := Lib.hid (HB.out.trans (HWB.out.mono HB.out.size))
      have z := Lib.hid (hW ▸ block_new wr _ _ : W.heap[wr.heap.size]? = some (.cells #[.int .i64 kk, .int .i64 h', .string t', .slice la' q1 lc', .slice ka' q2 kc', .slice va' q3 vc'] 27 (0, 0)))
      have HWS : Hid (W.heap.size = wr.heap.size + 1) := Lib.hid (by rw [← hW]; simp)
      have hc := cells6 z.out
      have hrc := rowC_ok (fieldX csvT) 44 (by decide) (ls.take i) (fun y hy => fieldX_ok csvT_ok y (HG.out.mem _ (List.mem_of_mem_take hy)) (Nat.le_trans (size_mem (List.mem_of_mem_take hy)) h4))
      have hnx := row_next (fieldX csvT) 44 (ls.take i) (.mk kk h' t' ls' ks' vs')
      rw [← HTK.out] at hnx
      have hln : (numS (rowC (fieldX csvT) 44 (ls.take i)).tail).size ≤ 10485760400 := by
        have h1 := hrc.1
        rw [List.length_take] at h1
        rw [numS_size, List.length_tail]
        have : min i ls.length * 26214401 ≤ 400 * 26214401 := Nat.mul_le_mul_right _ (by omega)
        omega
      clear hW h6
      by_cases hi0 : i = 0
      · subst hi0
        have HNX : Hid (∀ s, s = numS (fieldX csvT (.mk kk h' t' ls' ks' vs')) → numS (rowC (fieldX csvT) 44 (ls.take 0)).tail ++ s = numS (rowC (fieldX csvT) 44 (ls.take (0 + 1))).tail) := Lib.hid (by
          rintro s rfl
          rw [hnx, numS_app _ _ (fun y hy => hrc.2 y (List.mem_of_mem_tail hy)) hfx.2]
          simp)
        obtain ⟨ob, hob⟩ : ∃ ob, numS (rowC (fieldX csvT) 44 (ls.take 0)).tail = ob := ⟨_, rfl⟩
        rw [hob] at HNX hln ⊢
        go_wp2_with fail
        (refine (HBARE.out W (RV.mono (Same.of_below HWB.out (fun b h => Nat.lt_of_lt_of_le (HS.out b h) HB.out.size)) (fun _ h => h) _ _ HVX.out) (fun b h => Nat.lt_of_lt_of_le (HS.out b h) B2.out.size)).mono ?_
         rintro e w2 ⟨s, how, rfl, hb2, hs, hhow⟩
         have hz2 := (hb2.block wr.heap.size (by rw [HWS.out]; omega)).trans z.out
         have hc2 := cells6 hz2
         have B3 := Lib.hid (B2.out.trans (hb2.mono B2.out.size))
         have HZ2 := Lib.hid hz2
         have HLT := Lib.hid (show wr.heap.size < w2.heap.size by have := hb2.size; have := HWS.out; omega)
         clear hb2 hc hz2
         rcases hhow with rfl | ⟨rfl, hk5, hk6, rfl⟩ | ⟨rfl, hk⟩
         · go_wp2_with fail
           go_returns
           exact ⟨⟨#[]⟩, 2, rfl, B3.out, .inl rfl⟩
         · by_cases hk4 : kk = 4
           · subst hk4
             have es : numS (bareX (.mk 4 h' t' ls' ks' vs')) = t' := numS_byt t'
             rw [es] at hs ⊢
             have hro := repl_ok csvOk.new (bytesN t') (bytesN_lt t')
             have hrl := hro.1
             rw [bytesN_len] at hrl
             obtain ⟨u, hu⟩ : ∃ u, numS (repl csvP (bytesN t')) = u := ⟨_, rfl⟩
             have hus : u.size ≤ 8 * t'.size := by rw [← hu, numS_size]; exact hrl
             have a1 : (⟨#[34]⟩ : ByteArray).size + u.size ≤ 140737488355328 := by show 1 + _ ≤ _; omega
             have s1 : ((⟨#[34]⟩ : ByteArray) ++ u).size = 1 + u.size := by rw [ByteArray.size_append]; rfl
             have a2 : ((⟨#[34]⟩ : ByteArray) ++ u).size + (⟨#[34]⟩ : ByteArray).size ≤ 140737488355328 := by rw [s1]; show _ + 1 ≤ _; omega
             have s2 : (((⟨#[34]⟩ : ByteArray) ++ u) ++ (⟨#[34]⟩ : ByteArray)).size = 1 + u.size + 1 := by rw [ByteArray.size_append, s1]; rfl
             have a3 : ob.size + (((⟨#[34]⟩ : ByteArray) ++ u) ++ (⟨#[34]⟩ : ByteArray)).size ≤ 140737488355328 := by rw [s2]; omega
             have HU : Hid (((⟨#[34]⟩ : ByteArray) ++ u) ++ (⟨#[34]⟩ : ByteArray) = numS (fieldX csvT (.mk 4 h' t' ls' ks' vs'))) := Lib.hid (by
               have e1 : fieldX csvT (.mk 4 h' t' ls' ks' vs') = [34] ++ repl csvP (bytesN t') ++ [34] := by
                 show (if (4 : Int) = 4 then csvT (bytesN t') else _) = _
                 rw [if_pos rfl]
                 rfl
               rw [e1, ← numS_app _ _ (fun y hy => by
                 rcases List.mem_append.1 hy with hy | hy
                 · simp at hy; omega
                 · exact hro.2 y hy) (by decide), ← numS_app _ _ (by decide) hro.2, hu]
               rfl)
             clear es hro hrl
             go_wp2_with fail
             have hz := cells2 (block_new w2 #[.string ⟨#[34]⟩, .string ⟨#[34, 34]⟩] 9)
             have B4 := Lib.hid (B3.out.alloc B3.out.size (.cells #[.string ⟨#[34]⟩, .string ⟨#[34, 34]⟩] 9))
             have hc5 := cells6 (((below_alloc w2 (.cells #[.string ⟨#[34]⟩, .string ⟨#[34, 34]⟩] 9)).block wr.heap.size HLT.out).trans HZ2.out)
             generalize hW5 : World.alloc w2 _ = W5
             rw [hW5] at hz B4 hc5
             clear hW5 hc2
             refine (changed_any csvP csvOk t' (by omega) (some ⟨w2.heap.size, 0, none⟩) 2 2 rfl (fun b => b = w2.heap.size) W5 ⟨_, _, rfl, rfl, hz.1.1, _, _, rfl, rfl, hz.1.2, trivial⟩).mono ?_
             rintro e w5 ⟨rfl, rfl⟩
             rw [hu]
             go_wp2_with fail
             try go_simp
             refine ⟨⟨0 + 1, congrArg Value.string (HNX.out _ HU.out), by push_cast; rfl, hlt, ?_, B4.out⟩, by simp [intOf]; omega⟩
             intro y hy
             rw [HTK.out] at hy
             rcases List.mem_append.1 hy with hy | hy
             · exact HKS.out y hy
             · simp at hy; rw [hy]; exact ⟨hk5, hk6⟩
           · have q4 : (kk == 4) = false := by simp; exact hk4
             have hbs := bareX_len (.mk kk h' t' ls' ks' vs') HGX.out (by omega)
             have hbz : (numS (bareX (.mk kk h' t' ls' ks' vs'))).size ≤ 26214400 := by rw [numS_size]; exact hbs
             have a3 : ob.size + (numS (bareX (.mk kk h' t' ls' ks' vs'))).size ≤ 140737488355328 := by omega
             have HU : Hid (numS (bareX (.mk kk h' t' ls' ks' vs')) = numS (fieldX csvT (.mk kk h' t' ls' ks' vs'))) := Lib.hid (by unfold fieldX; rw [if_neg (by exact hk4)])
             go_wp2_with fail
             try go_simp
             refine ⟨⟨0 + 1, congrArg Value.string (HNX.out _ HU.out), by push_cast; rfl, hlt, ?_, B3.out⟩, by simp [intOf]; omega⟩
             intro y hy
             rw [HTK.out] at hy
             rcases List.mem_append.1 hy with hy | hy
             · exact HKS.out y hy
             · simp at hy; rw [hy]; exact ⟨hk5, hk6⟩
         · have HK := Lib.hid hk
           go_wp2_with fail
           go_returns
           exact ⟨⟨#[]⟩, 1, rfl, B3.out, .inr (.inr ⟨rfl, _, HMEM.out, HK.out⟩)⟩)
      · have g0 : (0 : Int) < (i : Int) := by omega
        have a0 : (numS (rowC (fieldX csvT) 44 (ls.take i)).tail).size + (⟨#[44]⟩ : ByteArray).size ≤ 140737488355328 := by show _ + 1 ≤ _; omega
        have hne : ls.take i ≠ [] := by
          intro e
          have := congrArg List.length e
          rw [List.length_take] at this
          have h0 : min i ls.length = 0 := this
          omega
        rw [if_neg hne] at hnx
        have HNX : Hid (∀ s, s = numS (fieldX csvT (.mk kk h' t' ls' ks' vs')) → (numS (rowC (fieldX csvT) 44 (ls.take i)).tail ++ ⟨#[44]⟩) ++ s = numS (rowC (fieldX csvT) 44 (ls.take (i + 1))).tail) := Lib.hid (by
          rintro s rfl
          rw [hnx, ← numS_app _ _ (fun y hy => by
            rcases List.mem_append.1 hy with hy | hy
            · exact hrc.2 y (List.mem_of_mem_tail hy)
            · simp at hy; omega) hfx.2, ← numS_app _ [44] (fun y hy => hrc.2 y (List.mem_of_mem_tail hy)) (by decide)]
          rfl)
        have hln2 : (numS (rowC (fieldX csvT) 44 (ls.take i)).tail ++ (⟨#[44]⟩ : ByteArray)).size ≤ 10485760401 := by rw [ByteArray.size_append]; show _ + 1 ≤ _; omega
        obtain ⟨ob, hob⟩ : ∃ ob, numS (rowC (fieldX csvT) 44 (ls.take i)).tail ++ (⟨#[44]⟩ : ByteArray) = ob := ⟨_, rfl⟩
        rw [hob] at HNX hln2
        go_wp2_with fail
        try rw [hob]
        (refine (HBARE.out W (RV.mono (Same.of_below HWB.out (fun b h => Nat.lt_of_lt_of_le (HS.out b h) HB.out.size)) (fun _ h => h) _ _ HVX.out) (fun b h => Nat.lt_of_lt_of_le (HS.out b h) B2.out.size)).mono ?_
         rintro e w2 ⟨s, how, rfl, hb2, hs, hhow⟩
         have hz2 := (hb2.block wr.heap.size (by rw [HWS.out]; omega)).trans z.out
         have hc2 := cells6 hz2
         have B3 := Lib.hid (B2.out.trans (hb2.mono B2.out.size))
         have HZ2 := Lib.hid hz2
         have HLT := Lib.hid (show wr.heap.size < w2.heap.size by have := hb2.size; have := HWS.out; omega)
         clear hb2 hc hz2
         rcases hhow with rfl | ⟨rfl, hk5, hk6, rfl⟩ | ⟨rfl, hk⟩
         · go_wp2_with fail
           go_returns
           exact ⟨⟨#[]⟩, 2, rfl, B3.out, .inl rfl⟩
         · by_cases hk4 : kk = 4
           · subst hk4
             have es : numS (bareX (.mk 4 h' t' ls' ks' vs')) = t' := numS_byt t'
             rw [es] at hs ⊢
             have hro := repl_ok csvOk.new (bytesN t') (bytesN_lt t')
             have hrl := hro.1
             rw [bytesN_len] at hrl
             obtain ⟨u, hu⟩ : ∃ u, numS (repl csvP (bytesN t')) = u := ⟨_, rfl⟩
             have hus : u.size ≤ 8 * t'.size := by rw [← hu, numS_size]; exact hrl
             have a1 : (⟨#[34]⟩ : ByteArray).size + u.size ≤ 140737488355328 := by show 1 + _ ≤ _; omega
             have s1 : ((⟨#[34]⟩ : ByteArray) ++ u).size = 1 + u.size := by rw [ByteArray.size_append]; rfl
             have a2 : ((⟨#[34]⟩ : ByteArray) ++ u).size + (⟨#[34]⟩ : ByteArray).size ≤ 140737488355328 := by rw [s1]; show _ + 1 ≤ _; omega
             have s2 : (((⟨#[34]⟩ : ByteArray) ++ u) ++ (⟨#[34]⟩ : ByteArray)).size = 1 + u.size + 1 := by rw [ByteArray.size_append, s1]; rfl
             have a3 : ob.size + (((⟨#[34]⟩ : ByteArray) ++ u) ++ (⟨#[34]⟩ : ByteArray)).size ≤ 140737488355328 := by rw [s2]; omega
             have HU : Hid (((⟨#[34]⟩ : ByteArray) ++ u) ++ (⟨#[34]⟩ : ByteArray) = numS (fieldX csvT (.mk 4 h' t' ls' ks' vs'))) := Lib.hid (by
               have e1 : fieldX csvT (.mk 4 h' t' ls' ks' vs') = [34] ++ repl csvP (bytesN t') ++ [34] := by
                 show (if (4 : Int) = 4 then csvT (bytesN t') else _) = _
                 rw [if_pos rfl]
                 rfl
               rw [e1, ← numS_app _ _ (fun y hy => by
                 rcases List.mem_append.1 hy with hy | hy
                 · simp at hy; omega
                 · exact hro.2 y hy) (by decide), ← numS_app _ _ (by decide) hro.2, hu]
               rfl)
             clear es hro hrl
             go_wp2_with fail
             have hz := cells2 (block_new w2 #[.string ⟨#[34]⟩, .string ⟨#[34, 34]⟩] 9)
             have B4 := Lib.hid (B3.out.alloc B3.out.size (.cells #[.string ⟨#[34]⟩, .string ⟨#[34, 34]⟩] 9))
             have hc5 := cells6 (((below_alloc w2 (.cells #[.string ⟨#[34]⟩, .string ⟨#[34, 34]⟩] 9)).block wr.heap.size HLT.out).trans HZ2.out)
             generalize hW5 : World.alloc w2 _ = W5
             rw [hW5] at hz B4 hc5
             clear hW5 hc2
             refine (changed_any csvP csvOk t' (by omega) (some ⟨w2.heap.size, 0, none⟩) 2 2 rfl (fun b => b = w2.heap.size) W5 ⟨_, _, rfl, rfl, hz.1.1, _, _, rfl, rfl, hz.1.2, trivial⟩).mono ?_
             rintro e w5 ⟨rfl, rfl⟩
             rw [hu]
             go_wp2_with fail
             try go_simp
             refine ⟨⟨i + 1, congrArg Value.string (HNX.out _ HU.out), by push_cast; rfl, hlt, ?_, B4.out⟩, by simp [intOf]; omega⟩
             intro y hy
             rw [HTK.out] at hy
             rcases List.mem_append.1 hy with hy | hy
             · exact HKS.out y hy
             · simp at hy; rw [hy]; exact ⟨hk5, hk6⟩
           · have q4 : (kk == 4) = false := by simp; exact hk4
             have hbs := bareX_len (.mk kk h' t' ls' ks' vs') HGX.out (by omega)
             have hbz : (numS (bareX (.mk kk h' t' ls' ks' vs'))).size ≤ 26214400 := by rw [numS_size]; exact hbs
             have a3 : ob.size + (numS (bareX (.mk kk h' t' ls' ks' vs'))).size ≤ 140737488355328 := by omega
             have HU : Hid (numS (bareX (.mk kk h' t' ls' ks' vs')) = numS (fieldX csvT (.mk kk h' t' ls' ks' vs'))) := Lib.hid (by unfold fieldX; rw [if_neg (by exact hk4)])
             go_wp2_with fail
             try go_simp
             refine ⟨⟨i + 1, congrArg Value.string (HNX.out _ HU.out), by push_cast; rfl, hlt, ?_, B3.out⟩, by simp [intOf]; omega⟩
             intro y hy
             rw [HTK.out] at hy
             rcases List.mem_append.1 hy with hy | hy
             · exact HKS.out y hy
             · simp at hy; rw [hy]; exact ⟨hk5, hk6⟩
         · have HK := Lib.hid hk
           go_wp2_with fail
           go_returns
           exact ⟨⟨#[]⟩, 1, rfl, B3.out, .inr (.inr ⟨rfl, _, HMEM.out, HK.out⟩)⟩)
    · obtain rfl : i = n1 := by omega
      have HALL : Hid (ls.take i = ls) := Lib.hid (List.take_of_length_le (by rw [HN.out]; exact Nat.le_refl _))
      rw [HALL.out] at HKS
      rw [HALL.out]
      go_wp2_with fail
      go_returns
      exact ⟨_, 0, rfl, HB.out, .inr (.inl ⟨rfl, HKS.out, rfl⟩)⟩
end Go.Proofs.YtgjmgneppecfgaaGreatDoor.Fo
