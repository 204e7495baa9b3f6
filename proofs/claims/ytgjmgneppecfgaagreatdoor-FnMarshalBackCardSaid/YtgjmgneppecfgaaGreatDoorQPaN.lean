/-
  THE WALK of value: too deep; a text; an array; an object.
-/
import Derived.Test.YtgjmgneppecfgaaGreatDoorQPaM
set_option linter.unusedVariables false
set_option linter.unusedSimpArgs false
namespace Go.Proofs.YtgjmgneppecfgaaGreatDoor.Pa
open Go.RowKit Go.Proofs.YtgjmgneppecfgaaGreatDoor.Va Go.Proofs.YtgjmgneppecfgaaGreatDoor.Ba Go.Proofs.YtgjmgneppecfgaaGreatDoor.Ma
set_option linter.unusedVariables false
set_option linter.unusedSimpArgs false

set_option maxHeartbeats 400000 in
theorem pStr_any (s : ByteArray) (w : World) : Calls Tryz.prog 21 #[.string s] w (Ret (flat 4 0 s) w) := by
  unfold flat
  go_enter Tryz.func21, Tryz.ntmps21
  go_wp2_with fail
  generalize hW : World.alloc w _ = W
  have b1 : Below w.heap.size w W := hW ▸ below_alloc w _
  have z := cells6 (hW ▸ block_new w _ _ : W.heap[w.heap.size]? = some (.cells #[.int .i64 4, .int .i64 0, .string s, .slice none 0 0, .slice none 0 0, .slice none 0 0] 27 (0, 0)))
  clear hW
  exact bodyPost_ret (v := .agg #[.int .i64 4, .int .i64 0, .string s, .slice none 0 0, .slice none 0 0, .slice none 0 0]) (by simp [results, Tryz.results21, go_sem, *]) rfl ⟨rfl, b1⟩
def strX (t : ByteArray) : V := .mk 4 0 t [] [] []
set_option maxHeartbeats 2000000 in
set_option maxRecDepth 100000 in
theorem pvalue_deep (deep : Int) (hd : deep > 100) (c : Nat) (E : Nat) (x : V) {L : Nat} {s : ByteArray} {A : Nat} {w : World} (h : PB L s A false w) (hs : s.size ≤ 70368744177664) (hb : byt s A = c) (hc0 : 0 < c) (hnb : blank (byt s A) = false) :
    Calls Tryz.prog 45 #[.pointer (some ⟨L, 0, none⟩), .int .i64 deep] w (VEnd L s E x w) := by
  have HNB := Lib.hid hnb
  have HN2 : Hid (∀ W, PB L s A true W → Calls Tryz.prog 94 #[.pointer (some ⟨L, 0, none⟩)] W (RetQ (.int .u8 (c : Int)) W)) := Lib.hid (fun W hW => by have := pnext_any hW; rw [hb] at this; exact this)
  clear hnb
  (have HB := Lib.hid hb
   have H := Lib.hid h
   have hL := h.lt
   have hA : A < s.size := byt_lt (by rw [hb]; omega)
   have HN : Hid (∀ W, PB L s A false W → Calls Tryz.prog 94 #[.pointer (some ⟨L, 0, none⟩)] W (RetQ (.int .u8 (c : Int)) W)) := Lib.hid (fun W hW => by have := pnext_any hW; rw [hb] at this; exact this)
   clear h hb
   go_enter Tryz.func45, Tryz.ntmps45
   go_wp2_with fail
   generalize hW : World.alloc w _ = W
   have B1 := Lib.hid (hW ▸ below_alloc w _ : Below w.heap.size w W)
   have z := Lib.hid (hW ▸ block_new w _ _ : W.heap[w.heap.size]? = some zero6o)
   clear hW
   refine (pskip_any (keep B1.out H.out : PB L s A false W) (by omega) (by omega)).mono ?_
   rintro e w1 ⟨rfl, A1, h1, h2, h3, h4, h5⟩
   obtain rfl : A1 = A := h3 HNB.out
   have HP := Lib.hid h4
   have HG := Lib.hid (gr_trans (gr_below B1.out) h5)
   have z1 := Lib.hid ((h5.block _ (heap_lt z.out) (fun e => by have := Option.some.inj e; omega)).trans z.out)
   clear h1 h2 h3 h4 h5 z H
   have c1 := HP.out.cells
   have d1 := cells6 z1.out)
  go_wp2_with fail
  refine Calls.mono (HN2.out _ ?_) ?_
  focus exact HP.out.set2 true
  rintro e _ ⟨rfl, m1, rfl⟩
  go_wp2_with fail
  clear d1 c1 HN
  (generalize hWF : (((((World.setCell _ _ _).setCell _ _).setCell _ _).setCell _ _).setCell _ _).setCell _ _ = WF
   have HV := fin_v (X := ((w1.setCell ⟨L, 2, none⟩ (.bool true)).drewN m1)) (E := E) (x := x) hL (by omega) (HP.out.set2 true) (gr_trans HG.out (gr_dn3 _ (Va.gr_set _ _ _ _))) (rv_plain _ _ _ _ _ _ _ _ _ _ _) (fun q => by cases q) hWF
   obtain ⟨z0, z1, z2, z3, z4, z5⟩ := fin_z (X := ((w1.setCell ⟨L, 2, none⟩ (.bool true)).drewN m1)) ((set_other (w := w1) 2 (.bool true) (show w.heap.size ≠ L by omega)).trans z1.out) hWF
   clear hWF
   exact bodyPost_ret (v := (.agg #[.int .i64 0, .int .i64 0, .string ⟨#[]⟩, .slice none 0 0, .slice none 0 0, .slice none 0 0])) (by simp [results, Tryz.results45, go_sem, z0, z1, z2, z3, z4, z5]) rfl HV)
set_option maxHeartbeats 2000000 in
set_option maxRecDepth 100000 in
theorem pvalue_str (deep : Int) (hd : ¬ deep > 100) (t : ByteArray) (R : List Nat) {L : Nat} {s : ByteArray} {A : Nat} {w : World} (h : PB L s A false w) (hs : s.size ≤ 70368744177664) (hdr : (bytesN s).drop A = Ma.encStr (bytesN t) ++ R) :
    Calls Tryz.prog 45 #[.pointer (some ⟨L, 0, none⟩), .int .i64 deep] w (VEnd L s (A + (Ma.encStr (bytesN t)).length) (strX t) w) := by
  have hb : byt s A = 34 := by have := hdr; unfold Ma.encStr at this; exact byt_head this
  have HNB : Hid (blank (byt s A) = false) := Lib.hid (by rw [hb]; rfl)
  have HD := Lib.hid hdr
  clear hdr
  (have HB := Lib.hid hb
   have H := Lib.hid h
   have hL := h.lt
   have hA : A < s.size := byt_lt (by rw [hb]; omega)
   have HN : Hid (∀ W, PB L s A false W → Calls Tryz.prog 94 #[.pointer (some ⟨L, 0, none⟩)] W (RetQ (.int .u8 (34 : Int)) W)) := Lib.hid (fun W hW => by have := pnext_any hW; rw [hb] at this; exact this)
   clear h hb
   go_enter Tryz.func45, Tryz.ntmps45
   go_wp2_with fail
   generalize hW : World.alloc w _ = W
   have B1 := Lib.hid (hW ▸ below_alloc w _ : Below w.heap.size w W)
   have z := Lib.hid (hW ▸ block_new w _ _ : W.heap[w.heap.size]? = some zero6o)
   clear hW
   refine (pskip_any (keep B1.out H.out : PB L s A false W) (by omega) (by omega)).mono ?_
   rintro e w1 ⟨rfl, A1, h1, h2, h3, h4, h5⟩
   obtain rfl : A1 = A := h3 HNB.out
   have HP := Lib.hid h4
   have HG := Lib.hid (gr_trans (gr_below B1.out) h5)
   have z1 := Lib.hid ((h5.block _ (heap_lt z.out) (fun e => by have := Option.some.inj e; omega)).trans z.out)
   clear h1 h2 h3 h4 h5 z H
   have c1 := HP.out.cells
   have d1 := cells6 z1.out)
  go_wp2_with fail
  refine Calls.mono (HN.out _ HP.out) ?_
  rintro e _ ⟨rfl, m1, rfl⟩
  go_wp2_with fail
  refine Calls.mono (ptext_any (A := A1) ?_ hs t R HD.out) ?_
  focus exact HP.out
  rintro e w4 ⟨o, A4, bt, rfl, t1, t2, t3, t4⟩
  have HP4 := Lib.hid t2
  have HG4 := Lib.hid (gr_trans HG.out (gr_dn m1 t3))
  have z4 := Lib.hid (((gr_dn m1 t3).block _ (heap_lt z1.out) (fun e => by have := Option.some.inj e; omega)).trans z1.out)
  have HT := Lib.hid t4
  clear t2 t3 t4 c1 d1 z1 HN
  go_wp2_with fail
  refine (pStr_any o w4).mono ?_
  rintro e w5 ⟨rfl, hb5⟩
  unfold flat
  have HP5 := Lib.hid (keep hb5 HP4.out : PB L s A4 bt w5)
  have HG5 := Lib.hid (gr_trans HG4.out (gr_below hb5))
  have z5 := Lib.hid (keep hb5 z4.out)
  clear hb5 HP4 HG4 z4
  have d5 := cells6 z5.out
  go_wp2_with fail
  clear d5
  (generalize hWF : (((((World.setCell _ _ _).setCell _ _).setCell _ _).setCell _ _).setCell _ _).setCell _ _ = WF
   have HV := fin_v (X := w5) (E := (A1 + (Ma.encStr (bytesN t)).length)) (x := (strX t)) hL (by omega) HP5.out HG5.out (rv_plain 4 0 o w5 _ none none none 0 0 0) (fun q => by obtain ⟨e1, e2⟩ := HT.out q; exact ⟨by rw [e1]; rfl, e2⟩) hWF
   obtain ⟨z0, z1, z2, z3, z4, z5⟩ := fin_z (X := w5) z5.out hWF
   clear hWF
   exact bodyPost_ret (v := (.agg #[.int .i64 4, .int .i64 0, .string o, .slice none 0 0, .slice none 0 0, .slice none 0 0])) (by simp [results, Tryz.results45, go_sem, z0, z1, z2, z3, z4, z5]) rfl HV)
set_option maxHeartbeats 2000000 in
set_option maxRecDepth 100000 in
theorem pvalue_list (deep : Int) (hd0 : 0 ≤ deep) (hd : ¬ deep > 100) (ls : List V) (IH : ∀ x ∈ ls, PW x) (hn2 : ls.length ≤ 900) (R : List Nat) {L : Nat} {s : ByteArray} {A : Nat} {w : World} (h : PB L s A false w) (hs : s.size ≤ 70368744177664) (hdr : (bytesN s).drop A = 91 :: (restC ls 0 ++ 93 :: R)) :
    Calls Tryz.prog 45 #[.pointer (some ⟨L, 0, none⟩), .int .i64 deep] w (VEnd L s (A + 1 + (restC ls 0).length + 1) (listV ls) w) := by
  have hb : byt s A = 91 := byt_head hdr
  have HNB : Hid (blank (byt s A) = false) := Lib.hid (by rw [hb]; rfl)
  have HCALL : Hid (∀ W, PB L s A false W → Calls Tryz.prog 96 #[.pointer (some ⟨L, 0, none⟩), .int .i64 deep] W (VEnd L s (A + 1 + (restC ls 0).length + 1) (listV ls) W)) := Lib.hid (fun W hW => plist_any ls IH _ rfl (by omega) deep hd0 (by omega) hW hdr hs)
  clear hdr IH
  (have HB := Lib.hid hb
   have H := Lib.hid h
   have hL := h.lt
   have hA : A < s.size := byt_lt (by rw [hb]; omega)
   have HN : Hid (∀ W, PB L s A false W → Calls Tryz.prog 94 #[.pointer (some ⟨L, 0, none⟩)] W (RetQ (.int .u8 (91 : Int)) W)) := Lib.hid (fun W hW => by have := pnext_any hW; rw [hb] at this; exact this)
   clear h hb
   go_enter Tryz.func45, Tryz.ntmps45
   go_wp2_with fail
   generalize hW : World.alloc w _ = W
   have B1 := Lib.hid (hW ▸ below_alloc w _ : Below w.heap.size w W)
   have z := Lib.hid (hW ▸ block_new w _ _ : W.heap[w.heap.size]? = some zero6o)
   clear hW
   refine (pskip_any (keep B1.out H.out : PB L s A false W) (by omega) (by omega)).mono ?_
   rintro e w1 ⟨rfl, A1, h1, h2, h3, h4, h5⟩
   obtain rfl : A1 = A := h3 HNB.out
   have HP := Lib.hid h4
   have HG := Lib.hid (gr_trans (gr_below B1.out) h5)
   have z1 := Lib.hid ((h5.block _ (heap_lt z.out) (fun e => by have := Option.some.inj e; omega)).trans z.out)
   clear h1 h2 h3 h4 h5 z H
   have c1 := HP.out.cells
   have d1 := cells6 z1.out)
  (go_wp2_with fail
   refine Calls.mono (HN.out _ HP.out) ?_
   rintro e _ ⟨rfl, m1, rfl⟩
   go_wp2_with fail
   refine Calls.mono (HCALL.out _ ?_) ?_
   focus exact HP.out
   rintro e w4 ⟨v, y, A4, bt, rfl, t1, t2, t3, t4, t5⟩
   obtain ⟨la, lc, ka, kc, va, vc, t0, m0, tx, q1, q2, q3, rfl, HXV⟩ := RV.parts t4
   have HP4 := Lib.hid t1
   have HG4 := Lib.hid (gr_trans HG.out (gr_dn m1 t2))
   have z4 := Lib.hid (((gr_dn m1 t2).block _ (heap_lt z1.out) (fun e => by have := Option.some.inj e; omega)).trans z1.out)
   have HT := Lib.hid t5
   have hz1 := heap_lt z1.out
   have HXV2 := Lib.hid (RV.mono (T := fun r => w.heap.size + 1 ≤ r) (fun _ _ => rfl) (fun b hb => by have hb' : w1.heap.size ≤ b := hb; show _ ≤ b; omega) _ _ HXV.out)
   clear t1 t2 t4 t5 c1 d1 z1 HN
   have d4 := cells6 z4.out
   go_wp2_with fail
   clear d4
   (generalize hWF : (((((World.setCell _ _ _).setCell _ _).setCell _ _).setCell _ _).setCell _ _).setCell _ _ = WF
    have HV := fin_v (X := w4) (E := (A1 + 1 + (restC ls 0).length + 1)) (x := (listV ls)) hL (by omega) HP4.out HG4.out HXV2.out HT.out hWF
    obtain ⟨z0, z1, z2, z3, z4, z5⟩ := fin_z (X := w4) z4.out hWF
    clear hWF
    exact bodyPost_ret (v := (.agg #[.int .i64 t0, .int .i64 m0, .string tx, .slice la q1 lc, .slice ka q2 kc, .slice va q3 vc])) (by simp [results, Tryz.results45, go_sem, z0, z1, z2, z3, z4, z5]) rfl HV)
   done)
set_option maxHeartbeats 2000000 in
set_option maxRecDepth 100000 in
theorem pvalue_map (deep : Int) (hd0 : 0 ≤ deep) (hd : ¬ deep > 100) (ks : List ByteArray) (vs : List V) (hl : ks.length = vs.length) (hrise : Rising ks) (IH : ∀ x ∈ vs, PW x) (hn2 : vs.length ≤ 900) (R : List Nat) {L : Nat} {s : ByteArray} {A : Nat} {w : World} (h : PB L s A false w) (hs : s.size ≤ 70368744177664) (hdr : (bytesN s).drop A = 123 :: (restM vs ks 0 ++ 125 :: R)) :
    Calls Tryz.prog 45 #[.pointer (some ⟨L, 0, none⟩), .int .i64 deep] w (VEnd L s (A + 1 + (restM vs ks 0).length + 1) (mapV ks vs) w) := by
  have hb : byt s A = 123 := byt_head hdr
  have HNB : Hid (blank (byt s A) = false) := Lib.hid (by rw [hb]; rfl)
  have HCALL : Hid (∀ W, PB L s A false W → Calls Tryz.prog 97 #[.pointer (some ⟨L, 0, none⟩), .int .i64 deep] W (VEnd L s (A + 1 + (restM vs ks 0).length + 1) (mapV ks vs) W)) := Lib.hid (fun W hW => pobject_any ks vs hl hrise IH _ rfl hn2 deep hd0 (by omega) hW hdr hs)
  clear hdr IH hrise
  (have HB := Lib.hid hb
   have H := Lib.hid h
   have hL := h.lt
   have hA : A < s.size := byt_lt (by rw [hb]; omega)
   have HN : Hid (∀ W, PB L s A false W → Calls Tryz.prog 94 #[.pointer (some ⟨L, 0, none⟩)] W (RetQ (.int .u8 (123 : Int)) W)) := Lib.hid (fun W hW => by have := pnext_any hW; rw [hb] at this; exact this)
   clear h hb
   go_enter Tryz.func45, Tryz.ntmps45
   go_wp2_with fail
   generalize hW : World.alloc w _ = W
   have B1 := Lib.hid (hW ▸ below_alloc w _ : Below w.heap.size w W)
   have z := Lib.hid (hW ▸ block_new w _ _ : W.heap[w.heap.size]? = some zero6o)
   clear hW
   refine (pskip_any (keep B1.out H.out : PB L s A false W) (by omega) (by omega)).mono ?_
   rintro e w1 ⟨rfl, A1, h1, h2, h3, h4, h5⟩
   obtain rfl : A1 = A := h3 HNB.out
   have HP := Lib.hid h4
   have HG := Lib.hid (gr_trans (gr_below B1.out) h5)
   have z1 := Lib.hid ((h5.block _ (heap_lt z.out) (fun e => by have := Option.some.inj e; omega)).trans z.out)
   clear h1 h2 h3 h4 h5 z H
   have c1 := HP.out.cells
   have d1 := cells6 z1.out)
  (go_wp2_with fail
   refine Calls.mono (HN.out _ HP.out) ?_
   rintro e _ ⟨rfl, m1, rfl⟩
   go_wp2_with fail
   refine Calls.mono (HCALL.out _ ?_) ?_
   focus exact HP.out
   rintro e w4 ⟨v, y, A4, bt, rfl, t1, t2, t3, t4, t5⟩
   obtain ⟨la, lc, ka, kc, va, vc, t0, m0, tx, q1, q2, q3, rfl, HXV⟩ := RV.parts t4
   have HP4 := Lib.hid t1
   have HG4 := Lib.hid (gr_trans HG.out (gr_dn m1 t2))
   have z4 := Lib.hid (((gr_dn m1 t2).block _ (heap_lt z1.out) (fun e => by have := Option.some.inj e; omega)).trans z1.out)
   have HT := Lib.hid t5
   have hz1 := heap_lt z1.out
   have HXV2 := Lib.hid (RV.mono (T := fun r => w.heap.size + 1 ≤ r) (fun _ _ => rfl) (fun b hb => by have hb' : w1.heap.size ≤ b := hb; show _ ≤ b; omega) _ _ HXV.out)
   clear t1 t2 t4 t5 c1 d1 z1 HN
   have d4 := cells6 z4.out
   go_wp2_with fail
   clear d4
   (generalize hWF : (((((World.setCell _ _ _).setCell _ _).setCell _ _).setCell _ _).setCell _ _).setCell _ _ = WF
    have HV := fin_v (X := w4) (E := (A1 + 1 + (restM vs ks 0).length + 1)) (x := (mapV ks vs)) hL (by omega) HP4.out HG4.out HXV2.out HT.out hWF
    obtain ⟨z0, z1, z2, z3, z4, z5⟩ := fin_z (X := w4) z4.out hWF
    clear hWF
    exact bodyPost_ret (v := (.agg #[.int .i64 t0, .int .i64 m0, .string tx, .slice la q1 lc, .slice ka q2 kc, .slice va q3 vc])) (by simp [results, Tryz.results45, go_sem, z0, z1, z2, z3, z4, z5]) rfl HV)
   done)
end Go.Proofs.YtgjmgneppecfgaaGreatDoor.Pa
