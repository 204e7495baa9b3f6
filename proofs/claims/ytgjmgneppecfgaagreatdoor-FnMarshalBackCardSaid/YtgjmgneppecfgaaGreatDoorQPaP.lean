/-
  THE WALKS of value, whatever value's text; and of Parse.
-/
import Derived.Test.YtgjmgneppecfgaaGreatDoorQPaO
set_option linter.unusedVariables false
set_option linter.unusedSimpArgs false
namespace Go.Proofs.YtgjmgneppecfgaaGreatDoor.Pa
open Go.RowKit Go.Proofs.YtgjmgneppecfgaaGreatDoor.Va Go.Proofs.YtgjmgneppecfgaaGreatDoor.Ba Go.Proofs.YtgjmgneppecfgaaGreatDoor.Ma
set_option linter.unusedVariables false
set_option linter.unusedSimpArgs false

theorem good_text0 {k h : Int} {t : ByteArray} {ls : List V} {ks : List ByteArray} {vs : List V} (g : Good1 k h t ls ks vs) (hk : k ≠ 4) : t = ⟨#[]⟩ := by
  rcases g.txt with e | e
  · exact absurd e hk
  · exact bytes_inj (List.eq_nil_of_length_eq_zero (by rw [bytesN_len]; exact e))
theorem good_ls0 {k h : Int} {t : ByteArray} {ls : List V} {ks : List ByteArray} {vs : List V} (g : Good1 k h t ls ks vs) (hk : k ≠ 5) : ls = [] := by
  rcases g.lst with e | e
  · exact absurd e hk
  · exact List.eq_nil_of_length_eq_zero e
theorem good_ks0 {k h : Int} {t : ByteArray} {ls : List V} {ks : List ByteArray} {vs : List V} (g : Good1 k h t ls ks vs) (hk : k ≠ 6) : ks = [] ∧ vs = [] := by
  rcases g.map with e | e
  · exact absurd e hk
  · exact ⟨List.eq_nil_of_length_eq_zero e, List.eq_nil_of_length_eq_zero (by rw [← g.len]; exact e)⟩
theorem good_h0 {k h : Int} {t : ByteArray} {ls : List V} {ks : List ByteArray} {vs : List V} (g : Good1 k h t ls ks vs) (hk : k ≠ 3) : h = 0 := by
  rcases g.num with e | e
  · exact absurd e hk
  · exact e
theorem restC_zero (ls : List V) : restC ls 0 = (encC ls).tail := by unfold restC; rw [if_pos rfl]
theorem restM_zero (vs : List V) (ks : List ByteArray) : restM vs ks 0 = (encM vs ks).tail := by unfold restM; rw [if_pos rfl]
theorem pw_good : ∀ (m : Nat) (x : V), x.size ≤ m → x.size ≤ 400 → Va.Good x → PW x := by
  intro m
  induction m with
  | zero => intro x h; have := size_pos x; omega
  | succ m ih =>
    intro x hx h4 hg deep L s A R w hd0 hd1 hp hdr hR hs
    by_cases hd : deep > 100
    · obtain ⟨c, t, e, hc⟩ := encJ_head x
      rw [e] at hdr
      have hb := byt_head hdr
      have hn := headJ_ne hc
      exact pvalue_deep deep hd c _ x hp hs hb (by omega) (by rw [hb]; exact hn.1)
    cases x with
    | mk k h t ls ks vs =>
    rw [V.size] at hx h4
    rw [Va.Good] at hg
    obtain ⟨g, gl, gr, gv⟩ := hg
    have hk0 := g.k0
    have hk6 := g.k6
    have word : ∀ (W0 : List Nat) (x : V), encJ (.mk k h t ls ks vs) = W0 → 0 < W0.length → (∀ c ∈ W0, wordB c = true) → (.mk k h t ls ks vs) = x → (∀ sx, bytesN sx = W0 → WordIs sx x) → Calls Tryz.prog 45 #[.pointer (some ⟨L, 0, none⟩), .int .i64 deep] w (VEnd L s (A + (encJ (.mk k h t ls ks vs)).length) (.mk k h t ls ks vs) w) := by
      intro W0 x e hl hw hxe hi
      rw [hxe]
      rw [← hxe, e]
      rw [hxe]
      rw [e] at hdr
      exact pvalue_word deep hd W0 _ rfl hl hw x R hR hp hs hdr hi
    rcases (show k = 0 ∨ k = 1 ∨ k = 2 ∨ k = 3 ∨ k = 4 ∨ k = 5 ∨ k = 6 by omega) with rfl | rfl | rfl | rfl | rfl | rfl | rfl
    · obtain rfl := good_text0 g (by decide)
      obtain rfl := good_ls0 g (by decide)
      obtain ⟨rfl, rfl⟩ := good_ks0 g (by decide)
      obtain rfl := good_h0 g (by decide)
      exact word [110, 117, 108, 108] nullV (by rw [encJ]; rfl) (by simp) (by decide) rfl (fun sx hb => .inl ⟨bytes_inj hb, rfl⟩)
    · obtain rfl := good_text0 g (by decide)
      obtain rfl := good_ls0 g (by decide)
      obtain ⟨rfl, rfl⟩ := good_ks0 g (by decide)
      obtain rfl := good_h0 g (by decide)
      exact word [102, 97, 108, 115, 101] (.mk 1 0 ⟨#[]⟩ [] [] []) (by rw [encJ]; rfl) (by simp) (by decide) rfl (fun sx hb => .inr (.inr (.inl ⟨bytes_inj hb, rfl⟩)))
    · obtain rfl := good_text0 g (by decide)
      obtain rfl := good_ls0 g (by decide)
      obtain ⟨rfl, rfl⟩ := good_ks0 g (by decide)
      obtain rfl := good_h0 g (by decide)
      exact word [116, 114, 117, 101] (.mk 2 0 ⟨#[]⟩ [] [] []) (by rw [encJ]; rfl) (by simp) (by decide) rfl (fun sx hb => .inr (.inl ⟨bytes_inj hb, rfl⟩))
    · obtain rfl := good_text0 g (by decide)
      obtain rfl := good_ls0 g (by decide)
      obtain ⟨rfl, rfl⟩ := good_ks0 g (by decide)
      obtain ⟨c, tt, en, _⟩ := numJ_head h
      exact word (numJ h) (.mk 3 h ⟨#[]⟩ [] [] []) (by rw [encJ]; rfl) (by rw [en]; simp) (numJ_word h) rfl (fun sx hb => .inr (.inr (.inr ⟨h, hb, g.lo, g.hi, rfl⟩)))
    · obtain rfl := good_ls0 g (by decide)
      obtain ⟨rfl, rfl⟩ := good_ks0 g (by decide)
      obtain rfl := good_h0 g (by decide)
      have e : encJ (.mk 4 0 t [] [] []) = Ma.encStr (bytesN t) := by rw [encJ]; rfl
      rw [e] at hdr ⊢
      exact pvalue_str deep hd t R hp hs hdr
    · obtain rfl := good_text0 g (by decide)
      obtain ⟨rfl, rfl⟩ := good_ks0 g (by decide)
      obtain rfl := good_h0 g (by decide)
      have e : encJ (.mk 5 0 ⟨#[]⟩ ls [] []) = 91 :: (restC ls 0 ++ [93]) := by rw [encJ, restC_zero]; rfl
      rw [e] at hdr ⊢
      have hll := length_le ls
      have := pvalue_list deep hd0 hd ls (fun y hy => ih y (by have := size_mem hy; omega) (by have := size_mem hy; omega) (gl.mem y hy)) (by omega) R hp hs (by rw [hdr]; simp)
      rw [show A + (91 :: (restC ls 0 ++ [93])).length = A + 1 + (restC ls 0).length + 1 by simp; omega]
      exact this
    · obtain rfl := good_text0 g (by decide)
      obtain rfl := good_ls0 g (by decide)
      obtain rfl := good_h0 g (by decide)
      have e : encJ (.mk 6 0 ⟨#[]⟩ [] ks vs) = 123 :: (restM vs ks 0 ++ [125]) := by rw [encJ, restM_zero]; rfl
      rw [e] at hdr ⊢
      have hll := length_le vs
      have := pvalue_map deep hd0 hd ks vs g.len gr (fun y hy => ih y (by have := size_mem hy; omega) (by have := size_mem hy; omega) (gv.mem y hy)) (by omega) R hp hs (by rw [hdr]; simp)
      rw [show A + (123 :: (restM vs ks 0 ++ [125])).length = A + 1 + (restM vs ks 0).length + 1 by simp; omega]
      exact this
theorem numJ_lt (h : Int) : ∀ c ∈ numJ h, c < 256 := by
  intro c hc
  have := numJ_word h c hc
  have := wordB_cases this
  omega
mutual
theorem encJ_lt : ∀ x : V, ∀ c ∈ encJ x, c < 256
  | .mk k h t ls ks vs => by
    rw [encJ]
    intro c hc
    have h1 := encC_lt ls
    have h2 := encM_lt vs ks
    repeat' split at hc
    · simp at hc; omega
    · simp at hc; omega
    · simp at hc; omega
    · exact numJ_lt h c hc
    · exact encStr_lt (bytesN_lt t) c hc
    · rcases List.mem_cons.1 hc with e | hc
      · omega
      · rcases List.mem_append.1 hc with hc | hc
        · exact h1 c (List.mem_of_mem_tail hc)
        · simp at hc; omega
    · rcases List.mem_cons.1 hc with e | hc
      · omega
      · rcases List.mem_append.1 hc with hc | hc
        · exact h2 c (List.mem_of_mem_tail hc)
        · simp at hc; omega
theorem encC_lt : ∀ ls : List V, ∀ c ∈ encC ls, c < 256
  | [] => by rw [encC]; intro c hc; cases hc
  | x :: xs => by
    rw [encC]
    intro c hc
    rcases List.mem_cons.1 hc with e | hc
    · omega
    · rcases List.mem_append.1 hc with hc | hc
      · exact encJ_lt x c hc
      · exact encC_lt xs c hc
theorem encM_lt : ∀ (vs : List V) (ks : List ByteArray), ∀ c ∈ encM vs ks, c < 256
  | [], _ => by rw [encM]; intro c hc; cases hc
  | _ :: _, [] => by rw [encM]; intro c hc; cases hc
  | v :: vs, k :: ks => by
    rw [encM]
    intro c hc
    rcases List.mem_cons.1 hc with e | hc
    · omega
    · rcases List.mem_append.1 hc with hc | hc
      · exact encStr_lt (bytesN_lt k) c hc
      · rcases List.mem_cons.1 hc with e | hc
        · omega
        · rcases List.mem_append.1 hc with hc | hc
          · exact encJ_lt v c hc
          · exact encM_lt vs ks c hc
end
theorem encJ_small (x : V) (hg : Va.Good x) (h : x.size ≤ 400) : (encJ x).length ≤ 70368744177664 := by
  have h1 := encJ_len x hg
  have h2 := Nat.mul_le_mul_right NodeLen h
  unfold NodeLen at h1 h2
  omega
/-- what Parse leaves -/
def ParseEnd (x : V) (w : World) (e : Ending) (w' : World) : Prop := ∃ (v : Value) (y : V) (how : Int), e = .returned (.tuple #[v, .int .i64 how]) ∧ Below w.heap.size w w' ∧ RV w' (fun r => w.heap.size ≤ r) y v ∧ (how = 2 ∨ (how = 0 ∧ y = x))
set_option maxHeartbeats 4000000 in
set_option maxRecDepth 100000 in
theorem parse_any (x : V) (hg : Va.Good x) (h4 : x.size ≤ 400) (w : World) : Calls Tryz.prog 16 #[.string (numS (encJ x))] w (ParseEnd x w) := by
  have hlt := encJ_lt x
  have hb : bytesN (numS (encJ x)) = encJ x := bytesN_numS' _ hlt
  have hsz : (numS (encJ x)).size = (encJ x).length := by rw [← bytesN_len, hb]
  have hsm := encJ_small x hg h4
  have HPW := Lib.hid (pw_good 400 x h4 h4 hg)
  obtain ⟨s, hs⟩ : ∃ s, numS (encJ x) = s := ⟨_, rfl⟩
  rw [hs] at hb hsz ⊢
  obtain ⟨E, hE⟩ : ∃ E, (encJ x).length = E := ⟨_, rfl⟩
  rw [hE] at hsz hsm
  have HB := Lib.hid hb
  have HE := Lib.hid hE
  have HS : Hid (s.size = E) := Lib.hid hsz
  have hs7 : s.size ≤ 70368744177664 := by omega
  clear hb hs hlt hE hsz hg h4 hsm
  go_enter Tryz.func16, Tryz.ntmps16
  go_wp2_with fail
  have HP0 : Hid (PB (w.heap.size + 1) s 0 false ((w.alloc (.cells #[.int .i64 0, .int .i64 0, .string ⟨#[]⟩, .slice none 0 0, .slice none 0 0, .slice none 0 0] 27)).alloc (.cells #[.string s, .int .i64 0, .bool false] 80))) := Lib.hid (by
    have := block_new (w.alloc (.cells #[.int .i64 0, .int .i64 0, .string ⟨#[]⟩, .slice none 0 0, .slice none 0 0, .slice none 0 0] 27)) #[.string s, .int .i64 0, .bool false] 80
    rwa [World.size_alloc] at this)
  have B0 : Below w.heap.size w ((w.alloc (.cells #[.int .i64 0, .int .i64 0, .string ⟨#[]⟩, .slice none 0 0, .slice none 0 0, .slice none 0 0] 27)).alloc (.cells #[.string s, .int .i64 0, .bool false] 80)) := by go_grown
  have Z0 : ((w.alloc (.cells #[.int .i64 0, .int .i64 0, .string ⟨#[]⟩, .slice none 0 0, .slice none 0 0, .slice none 0 0] 27)).alloc (.cells #[.string s, .int .i64 0, .bool false] 80)).heap[w.heap.size]? = some zero6o := block_past (block_new w _ _) _
  generalize hW0 : World.alloc (World.alloc w _) _ = W0 at HP0 B0 Z0 ⊢
  clear hW0
  have HB0 := Lib.hid B0
  have HZ0 := Lib.hid Z0
  have hsz0 := HP0.out.lt
  clear B0 Z0
  refine (HPW.out 0 (w.heap.size + 1) s 0 [] W0 (by omega) (by omega) HP0.out (by rw [List.drop_zero, HB.out, List.append_nil]) (.inl rfl) hs7).mono ?_
  rintro e w1 ⟨v, y, A1, b1, rfl, h1, h2, h3, h4, h5⟩
  obtain ⟨la, lc, ka, kc, va, vc, t0, m0, tx, q1, q2, q3, rfl, HXV⟩ := RV.parts h4
  have hsz1 := h2.size
  have HB1 : Hid (Below w.heap.size w w1) := Lib.hid (HB0.out.trans ⟨h2.os, h2.tape, h2.output, by omega, fun k hk => h2.block k (by omega) (fun e => by cases e; omega)⟩)
  have HZ1 := Lib.hid ((h2.block _ (heap_lt HZ0.out) (fun e => by have := Option.some.inj e; omega)).trans HZ0.out)
  have HP1 := Lib.hid h1
  have HXV1 := Lib.hid (RV.lt _ _ HXV.out)
  have HGD := Lib.hid h5
  clear h1 h2 h4 h5
  go_wp2_with fail
  generalize hW2 : World.alloc w1 _ = W2
  have b2 := Lib.hid (hW2 ▸ below_alloc w1 _ : Below w1.heap.size w1 W2)
  have z5 : W2.heap[w1.heap.size]? = some (.cells #[.int .i64 t0, .int .i64 m0, .string tx, .slice la q1 lc, .slice ka q2 kc, .slice va q3 vc] 27 (0, 0)) := hW2 ▸ block_new w1 _ _
  have Z5 := Lib.hid z5
  have hsz2 : W2.heap.size = w1.heap.size + 1 := by rw [← hW2]; simp
  clear hW2 z5
  refine (pskip_any (keep b2.out HP1.out : PB (w.heap.size + 1) s A1 b1 W2) (by omega) h3).mono ?_
  rintro e w3 ⟨rfl, A2, k1, k2, k3, k4, k5⟩
  have hsz3 := k5.size
  have HB3 : Hid (Below w.heap.size w w3) := Lib.hid ((HB1.out.trans (b2.out.mono (by omega))).trans ⟨k5.os, k5.tape, k5.output, by omega, fun k hk => k5.block k (by omega) (fun e => by cases e; omega)⟩)
  have HZ3 := Lib.hid ((k5.block _ (by omega) (fun e => by have := Option.some.inj e; omega)).trans (keep b2.out HZ1.out))
  have Z53 := Lib.hid ((k5.block _ (by omega) (fun e => by have := Option.some.inj e; omega)).trans Z5.out)
  have HP3 := Lib.hid k4
  have hwl := HP0.out.lt
  have HXV3 := Lib.hid (RV.mono (w' := w3) (T := fun r => w.heap.size + 2 ≤ r) (fun b hb => (k5.block b (by omega) (fun e => by cases e; omega)).trans (b2.out.block b hb.2)) (fun b hb => by show _ ≤ b; have := hb.1; omega) _ _ HXV1.out)
  clear HXV HXV1 HZ1 HZ0 HB1 Z5
  cases b1
  · have hA1 : A1 = s.size := by rw [(HGD.out rfl).2, HE.out, HS.out]; omega
    subst hA1
    obtain rfl : A2 = s.size := k3 (by
      have : byt s s.size = 0 := by unfold byt; rw [List.getD, List.getElem?_eq_none (by rw [bytesN_len]; exact Nat.le_refl _)]; rfl
      rw [this]; rfl)
    have HY := Lib.hid (HGD.out rfl).1
    clear k1 k2 k3 k4 k5 HGD
    have c3 := HP3.out.cells
    go_wp2_with fail
    refine (clean_any s hs7 w3).mono ?_
    rintro e w4 ⟨b, rfl, hb4⟩
    have HB4 := Lib.hid (HB3.out.trans (hb4.mono HB3.out.size))
    have HZ4 := Lib.hid (keep hb4 HZ3.out)
    have Z54 := Lib.hid (keep hb4 Z53.out)
    have HXV4 := Lib.hid (RV.mono (w' := w4) (fun b hb => hb4.block b hb.2) (fun b hb => hb.1) _ _ (RV.lt _ _ HXV3.out))
    clear hb4 c3
    have d4 := cells6 HZ4.out
    have d5 := cells6 Z54.out
    cases b
    · go_wp2_with fail
      clear d4 d5
      generalize hWF : (((((World.setCell w4 _ _).setCell _ _).setCell _ _).setCell _ _).setCell _ _).setCell _ _ = WF
      obtain ⟨z0, z1, z2, z3, z4, z5⟩ := fin_z (X := w4) HZ4.out hWF
      have hBF : Below w.heap.size w WF := hWF ▸ sets6 HB4.out (Nat.le_refl _) _ _ _ _ _ _
      clear hWF
      exact bodyPost_ret (v := .tuple #[.agg #[.int .i64 0, .int .i64 0, .string ⟨#[]⟩, .slice none 0 0, .slice none 0 0, .slice none 0 0], .int .i64 2]) (by simp [results, Tryz.results16, go_sem, z0, z1, z2, z3, z4, z5]) rfl ⟨_, nullV, 2, rfl, hBF, rv_plain _ _ _ _ _ _ _ _ _ _ _, .inl rfl⟩
    · go_wp2_with fail
      clear d4 d5
      generalize hWF : (((((World.setCell w4 _ _).setCell _ _).setCell _ _).setCell _ _).setCell _ _).setCell _ _ = WF
      obtain ⟨z0, z1, z2, z3, z4, z5⟩ := fin_z (X := w4) HZ4.out hWF
      have hBF : Below w.heap.size w WF := hWF ▸ sets6 HB4.out (Nat.le_refl _) _ _ _ _ _ _
      have hRF : RV WF (fun r => w.heap.size ≤ r) y (.agg #[.int .i64 t0, .int .i64 m0, .string tx, .slice la q1 lc, .slice ka q2 kc, .slice va q3 vc]) := RV.mono (fun b hb => by rw [← hWF]; exact sets_other _ _ _ _ _ _ (by omega)) (fun b hb => by show _ ≤ b; omega) _ _ HXV4.out
      clear hWF
      exact bodyPost_ret (v := .tuple #[.agg #[.int .i64 t0, .int .i64 m0, .string tx, .slice la q1 lc, .slice ka q2 kc, .slice va q3 vc], .int .i64 0]) (by simp [results, Tryz.results16, go_sem, z0, z1, z2, z3, z4, z5]) rfl ⟨_, y, 0, rfl, hBF, hRF, .inr ⟨rfl, HY.out⟩⟩
  · clear k1 k2 k3 k4 k5 HGD
    have c3 := HP3.out.cells
    have d4 := cells6 HZ3.out
    go_wp2_with fail
    clear d4 c3
    generalize hWF : (((((World.setCell w3 _ _).setCell _ _).setCell _ _).setCell _ _).setCell _ _).setCell _ _ = WF
    obtain ⟨z0, z1, z2, z3, z4, z5⟩ := fin_z (X := w3) HZ3.out hWF
    have hBF : Below w.heap.size w WF := hWF ▸ sets6 HB3.out (Nat.le_refl _) _ _ _ _ _ _
    clear hWF
    exact bodyPost_ret (v := .tuple #[.agg #[.int .i64 0, .int .i64 0, .string ⟨#[]⟩, .slice none 0 0, .slice none 0 0, .slice none 0 0], .int .i64 2]) (by simp [results, Tryz.results16, go_sem, z0, z1, z2, z3, z4, z5]) rfl ⟨_, nullV, 2, rfl, hBF, rv_plain _ _ _ _ _ _ _ _ _ _ _, .inl rfl⟩
end Go.Proofs.YtgjmgneppecfgaaGreatDoor.Pa
