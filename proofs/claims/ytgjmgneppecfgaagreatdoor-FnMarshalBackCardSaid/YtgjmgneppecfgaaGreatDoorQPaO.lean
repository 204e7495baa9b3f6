/-
  THE WALK of value: a word.
-/
import Derived.Test.YtgjmgneppecfgaaGreatDoorQPaN
import Derived.Test.YtgjmgneppecfgaaGreatDoorQPaC
set_option linter.unusedVariables false
set_option linter.unusedSimpArgs false
namespace Go.Proofs.YtgjmgneppecfgaaGreatDoor.Pa
open Go.RowKit Go.Proofs.YtgjmgneppecfgaaGreatDoor.Va Go.Proofs.YtgjmgneppecfgaaGreatDoor.Ba Go.Proofs.YtgjmgneppecfgaaGreatDoor.Ma
set_option linter.unusedVariables false
set_option linter.unusedSimpArgs false

/-- what a word's reading leaves: the value, whether it is one -/
def WordIs (sx : ByteArray) (x : V) : Prop := (sx = ⟨#[110, 117, 108, 108]⟩ ∧ x = nullV) ∨ (sx = ⟨#[116, 114, 117, 101]⟩ ∧ x = .mk 2 0 ⟨#[]⟩ [] [] []) ∨ (sx = ⟨#[102, 97, 108, 115, 101]⟩ ∧ x = .mk 1 0 ⟨#[]⟩ [] [] []) ∨ (∃ h, bytesN sx = numJ h ∧ -18014398509481984 ≤ h ∧ h ≤ 18014398509481984 ∧ x = .mk 3 h ⟨#[]⟩ [] [] [])
def LoopW (L : Nat) (s : ByteArray) (A n : Nat) (w : World) (gh : Nat) (wr : World) : Prop :=
  ∃ i, i ≤ n ∧ gh = n - i ∧ PB L s (A + i) false wr ∧ w.grownBy wr (some L) ∧ wr.heap[w.heap.size]? = some zero6o
theorem wordB_cases {c : Nat} (h : wordB c = true) : (97 ≤ c ∧ c ≤ 122) ∨ (48 ≤ c ∧ c ≤ 57) ∨ c = 45 ∨ c = 46 := by
  unfold wordB at h
  simp at h
  omega
theorem lit_null : (ByteArray.toList ⟨#[110, 117, 108, 108]⟩) = [110, 117, 108, 108] := by rw [ByteArray.toList_eq]
theorem lit_true : (ByteArray.toList ⟨#[116, 114, 117, 101]⟩) = [116, 114, 117, 101] := by rw [ByteArray.toList_eq]
theorem lit_false : (ByteArray.toList ⟨#[102, 97, 108, 115, 101]⟩) = [102, 97, 108, 115, 101] := by rw [ByteArray.toList_eq]
theorem num_head {h : Int} {sx : ByteArray} (hb : bytesN sx = numJ h) {l : List Nat} {b : ByteArray} (hb2 : bytesN b = l) (hl : l.head? = some 110 ∨ l.head? = some 116 ∨ l.head? = some 102) : sx ≠ b := by
  rintro rfl
  obtain ⟨c, t, e, hc⟩ := numJ_head h
  rw [hb2] at hb
  rw [hb, e] at hl
  simp at hl
  omega
set_option maxHeartbeats 4000000 in
set_option maxRecDepth 100000 in
theorem pvalue_word (deep : Int) (hd : ¬ deep > 100) (W0 : List Nat) (n : Nat) (hn : W0.length = n) (hn0 : 0 < n) (hw : ∀ c ∈ W0, wordB c = true) (x : V) (R : List Nat) (hR : headR R) {L : Nat} {s : ByteArray} {A : Nat} {w : World} (h : PB L s A false w) (hs : s.size ≤ 70368744177664) (hdr : (bytesN s).drop A = W0 ++ R) (hx : ∀ sx, bytesN sx = W0 → WordIs sx x) :
    Calls Tryz.prog 45 #[.pointer (some ⟨L, 0, none⟩), .int .i64 deep] w (VEnd L s (A + n) x w) := by
  have hsz : A + n ≤ s.size := by
    have := drop_size hdr (by rw [List.length_append]; omega)
    rw [List.length_append] at this
    omega
  have HAT : Hid (∀ i (hi : i < n), ∃ c, byt s (A + i) = c ∧ wordB c = true) := Lib.hid (fun i hi => by
    refine ⟨_, rfl, ?_⟩
    rw [byt_drop, hdr, List.getD, List.getElem?_append_left (by omega), List.getElem?_eq_getElem (by omega)]
    exact hw _ (List.getElem_mem (by omega)))
  have HEND : Hid (byt s (A + n) = 0 ∨ byt s (A + n) = 44 ∨ byt s (A + n) = 93 ∨ byt s (A + n) = 125) := Lib.hid (by
    rw [byt_drop, hdr, ← hn, List.getD, List.getElem?_append_right (Nat.le_refl _), Nat.sub_self]
    rcases hR with rfl | ⟨c, l, rfl, hc⟩
    · exact .inl rfl
    · have e : ((c :: l)[0]?).getD 0 = c := rfl
      rw [e]
      omega)
  obtain ⟨sx, hsx⟩ : ∃ sx, s.extract A (A + n) = sx := ⟨_, rfl⟩
  have HSX : Hid (bytesN sx = W0) := Lib.hid (by rw [← hsx, Mb.bytesN_extract2, List.drop_take, hdr, show A + n - A = n by omega, ← hn, List.take_left])
  have HIS := Lib.hid (hx sx HSX.out)
  obtain ⟨c0, hb, hw0⟩ := HAT.out 0 hn0
  rw [Nat.add_zero] at hb
  have hwc := wordB_cases hw0
  have HNB : Hid (blank (byt s A) = false) := Lib.hid (by rw [hb]; unfold blank; simp; omega)
  have e34 : ((c0 : Int) == 34) = false := by simp; omega
  have e91 : ((c0 : Int) == 91) = false := by simp; omega
  have e123 : ((c0 : Int) == 123) = false := by simp; omega
  have HSX2 := Lib.hid hsx
  clear hx hdr hR hw hn hsx
  (have HB := Lib.hid hb
   have H := Lib.hid h
   have hL := h.lt
   have hA : A < s.size := byt_lt (by rw [hb]; omega)
   have HN : Hid (∀ W, PB L s A false W → Calls Tryz.prog 94 #[.pointer (some ⟨L, 0, none⟩)] W (RetQ (.int .u8 (c0 : Int)) W)) := Lib.hid (fun W hW => by have := pnext_any hW; rw [hb] at this; exact this)
   clear h hb
   go_enter Tryz.func45, Tryz.ntmps45
   go_wp2_with fail
   generalize hW : World.alloc w _ = W
   have B1 := Lib.hid (hW ▸ below_alloc w _ : Below w.heap.size w W)
   have z := Lib.hid (hW ▸ block_new w _ _ : W.heap[w.heap.size]? = some zero6o)
   clear hW
   refine (pskip_any (keep B1.out H.out : PB L s A false W) (by omega) (by omega)).mono ?_
   rintro e w1 ⟨rfl, A1, h1, h2, h3, h4, h5⟩
   have hA1 : A = A1 := (h3 HNB.out).symm
   subst hA1
   have HP := Lib.hid h4
   have HG := Lib.hid (gr_trans (gr_below B1.out) h5)
   have z1 := Lib.hid ((h5.block _ (heap_lt z.out) (fun e => by have := Option.some.inj e; omega)).trans z.out)
   clear h1 h2 h3 h4 h5 z H
   have c1 := HP.out.cells
   have d1 := cells6 z1.out)
  go_wp2_with fail
  refine Calls.mono (HN.out _ HP.out) ?_
  rintro e _ ⟨rfl, m1, rfl⟩
  clear d1
  go_wp2_with fail
  clear c1 hwc hw0 e34 e91 e123
  go_loopg [] n (fun gh wr => LoopW L s A n w gh wr)
  case atStart => exact ⟨0, Nat.zero_le _, rfl, HP.out, gr_dn3 m1 HG.out, z1.out⟩
  case round =>
    obtain ⟨i, hi, rfl, hp, hg, hz⟩ := hrel
    have HPR := Lib.hid hp
    have HGR := Lib.hid hg
    have HZR := Lib.hid hz
    have c1 := hp.cells
    clear hp hg hz
    by_cases hlt : i < n
    · obtain ⟨c, hc, hwc⟩ := HAT.out i hlt
      have HNX : Hid (∀ W, PB L s (A + i) false W → Calls Tryz.prog 94 #[.pointer (some ⟨L, 0, none⟩)] W (RetQ (.int .u8 (c : Int)) W)) := Lib.hid (fun W hW => by have := pnext_any hW; rw [hc] at this; exact this)
      rcases wordB_cases hwc with ⟨g1, g2⟩ | ⟨g1, g2⟩ | rfl | rfl
      · have f1 : (97 : Int) ≤ (c : Int) := by omega
        have f2 : (c : Int) ≤ 122 := by omega
        clear hc hwc
        (go_wp2_with fail
         refine Calls.mono (HNX.out _ HPR.out) ?_
         rintro e _ ⟨rfl, _, rfl⟩
         skip)
        (go_wp2_with fail
         refine Calls.mono (HNX.out _ HPR.out) ?_
         rintro e _ ⟨rfl, _, rfl⟩
         skip)
        (go_wp2_with fail
         go_roundg (n - (i + 1))
         case rel => exact ⟨i + 1, hlt, rfl, (HPR.out.set1 (A + i + 1) : _), gr_trans HGR.out (gr_ds _ _ _ _), (set_other (w := wr) 1 (.int .i64 ((A + i + 1 : Nat) : Int)) (show w.heap.size ≠ L by omega)).trans HZR.out⟩
         case measure => omega)
      · have f0 : ¬ (97 : Int) ≤ (c : Int) := by omega
        have f1 : (48 : Int) ≤ (c : Int) := by omega
        have f2 : (c : Int) ≤ 57 := by omega
        clear hc hwc
        (go_wp2_with fail
         refine Calls.mono (HNX.out _ HPR.out) ?_
         rintro e _ ⟨rfl, _, rfl⟩
         skip)
        (go_wp2_with fail
         refine Calls.mono (HNX.out _ HPR.out) ?_
         rintro e _ ⟨rfl, _, rfl⟩
         skip)
        (go_wp2_with fail
         refine Calls.mono (HNX.out _ HPR.out) ?_
         rintro e _ ⟨rfl, _, rfl⟩
         skip)
        (go_wp2_with fail
         go_roundg (n - (i + 1))
         case rel => exact ⟨i + 1, hlt, rfl, (HPR.out.set1 (A + i + 1) : _), gr_trans HGR.out (gr_ds _ _ _ _), (set_other (w := wr) 1 (.int .i64 ((A + i + 1 : Nat) : Int)) (show w.heap.size ≠ L by omega)).trans HZR.out⟩
         case measure => omega)
      · clear hc hwc
        (go_wp2_with fail
         refine Calls.mono (HNX.out _ HPR.out) ?_
         rintro e _ ⟨rfl, _, rfl⟩
         skip)
        (go_wp2_with fail
         refine Calls.mono (HNX.out _ HPR.out) ?_
         rintro e _ ⟨rfl, _, rfl⟩
         skip)
        (go_wp2_with fail
         refine Calls.mono (HNX.out _ HPR.out) ?_
         rintro e _ ⟨rfl, _, rfl⟩
         skip)
        (go_wp2_with fail
         go_roundg (n - (i + 1))
         case rel => exact ⟨i + 1, hlt, rfl, (HPR.out.set1 (A + i + 1) : _), gr_trans HGR.out (gr_ds _ _ _ _), (set_other (w := wr) 1 (.int .i64 ((A + i + 1 : Nat) : Int)) (show w.heap.size ≠ L by omega)).trans HZR.out⟩
         case measure => omega)
      · clear hc hwc
        (go_wp2_with fail
         refine Calls.mono (HNX.out _ HPR.out) ?_
         rintro e _ ⟨rfl, _, rfl⟩
         skip)
        (go_wp2_with fail
         refine Calls.mono (HNX.out _ HPR.out) ?_
         rintro e _ ⟨rfl, _, rfl⟩
         skip)
        (go_wp2_with fail
         refine Calls.mono (HNX.out _ HPR.out) ?_
         rintro e _ ⟨rfl, _, rfl⟩
         skip)
        (go_wp2_with fail
         refine Calls.mono (HNX.out _ HPR.out) ?_
         rintro e _ ⟨rfl, _, rfl⟩
         skip)
        (go_wp2_with fail
         go_roundg (n - (i + 1))
         case rel => exact ⟨i + 1, hlt, rfl, (HPR.out.set1 (A + i + 1) : _), gr_trans HGR.out (gr_ds _ _ _ _), (set_other (w := wr) 1 (.int .i64 ((A + i + 1 : Nat) : Int)) (show w.heap.size ≠ L by omega)).trans HZR.out⟩
         case measure => omega)
    · obtain rfl : i = n := by omega
      obtain ⟨A2, hA2⟩ : ∃ A2, A + i = A2 := ⟨_, rfl⟩
      rw [hA2] at HPR HEND HSX2 hsz c1 ⊢
      have b1 : (0 : Int) ≤ (A : Int) := by omega
      have b2 : (A : Int) ≤ (A2 : Int) := by omega
      have b3 : (A2 : Int) ≤ (s.size : Int) := by omega
      have d1 := cells6 HZR.out
      have HA2 := Lib.hid hA2
      clear HAT HN hA2
      obtain ⟨c, hc⟩ : ∃ c, byt s A2 = c := ⟨_, rfl⟩
      have HNX : Hid (∀ W, PB L s A2 false W → Calls Tryz.prog 94 #[.pointer (some ⟨L, 0, none⟩)] W (RetQ (.int .u8 (c : Int)) W)) := Lib.hid (fun W hW => by rw [← hc]; exact pnext_any hW)
      have hcc : c = 0 ∨ c = 44 ∨ c = 93 ∨ c = 125 := by rw [← hc]; exact HEND.out
      clear hc HEND
      rcases hcc with rfl | rfl | rfl | rfl
      · (go_wp2_with fail
         refine Calls.mono (HNX.out _ HPR.out) ?_
         rintro e _ ⟨rfl, _, rfl⟩
         skip)
        (go_wp2_with fail
         refine Calls.mono (HNX.out _ HPR.out) ?_
         rintro e _ ⟨rfl, _, rfl⟩
         skip)
        (go_wp2_with fail
         refine Calls.mono (HNX.out _ HPR.out) ?_
         rintro e _ ⟨rfl, _, rfl⟩
         skip)
        (go_wp2_with fail
         refine Calls.mono (HNX.out _ HPR.out) ?_
         rintro e _ ⟨rfl, _, rfl⟩
         skip)
        (go_wp2_with fail
         go_quiet (fail)
         generalize hX : World.drewN (World.drewN wr _) _ = X
         have HPX : Hid (PB L s A2 false X) := Lib.hid (hX ▸ HPR.out)
         have HGX : Hid (w.grownBy X (some L)) := Lib.hid (hX ▸ gr_dn3 _ (gr_dn3 _ HGR.out))
         have HZX : Hid (X.heap[w.heap.size]? = some zero6o) := Lib.hid (hX ▸ HZR.out)
         clear c1 d1 HNX HPR HGR HZR hX
         have c1 := HPX.out.cells
         have d1 := cells6 HZX.out
         rcases HIS.out with ⟨rfl, rfl⟩ | ⟨rfl, rfl⟩ | ⟨rfl, rfl⟩ | ⟨h, hbx, hlo, hhi, rfl⟩
         · have hsx := HSX2.out
           go_wp2_with fail
           clear c1 d1
           (generalize hWF : (((((World.setCell _ _ _).setCell _ _).setCell _ _).setCell _ _).setCell _ _).setCell _ _ = WF
            have HV := fin_v (X := X) (E := (A + i)) (x := nullV) hL (by omega) HPX.out HGX.out (rv_plain 0 0 ⟨#[]⟩ X _ none none none 0 0 0) (fun _ => ⟨rfl, HA2.out.symm⟩) hWF
            obtain ⟨z0, z1, z2, z3, z4, z5⟩ := fin_z (X := X) HZX.out hWF
            clear hWF
            exact bodyPost_ret (v := (.agg #[.int .i64 0, .int .i64 0, .string ⟨#[]⟩, .slice none 0 0, .slice none 0 0, .slice none 0 0])) (by simp [results, Tryz.results45, go_sem, z0, z1, z2, z3, z4, z5]) rfl HV)
         · (have hsx := HSX2.out
            go_wp2_with fail
            refine (sBool_any true X).mono ?_
            rintro e w5 ⟨rfl, hb5⟩
            unfold boolT
            have HP5 := Lib.hid (keep hb5 HPX.out : PB L s A2 false w5)
            have HG5 := Lib.hid (gr_trans HGX.out (gr_below hb5))
            have HZ5 := Lib.hid (keep hb5 HZX.out)
            clear hb5 c1 d1
            have d5 := cells6 HZ5.out
            go_wp2_with fail
            clear d5)
           (generalize hWF : (((((World.setCell _ _ _).setCell _ _).setCell _ _).setCell _ _).setCell _ _).setCell _ _ = WF
            have HV := fin_v (X := w5) (E := (A + i)) (x := (.mk 2 0 ⟨#[]⟩ [] [] [])) hL (by omega) HP5.out HG5.out (rv_plain 2 0 ⟨#[]⟩ w5 _ none none none 0 0 0) (fun _ => ⟨rfl, HA2.out.symm⟩) hWF
            obtain ⟨z0, z1, z2, z3, z4, z5⟩ := fin_z (X := w5) HZ5.out hWF
            clear hWF
            exact bodyPost_ret (v := (.agg #[.int .i64 2, .int .i64 0, .string ⟨#[]⟩, .slice none 0 0, .slice none 0 0, .slice none 0 0])) (by simp [results, Tryz.results45, go_sem, z0, z1, z2, z3, z4, z5]) rfl HV)
         · (have hsx := HSX2.out
            go_wp2_with fail
            refine (sBool_any false X).mono ?_
            rintro e w5 ⟨rfl, hb5⟩
            unfold boolT
            have HP5 := Lib.hid (keep hb5 HPX.out : PB L s A2 false w5)
            have HG5 := Lib.hid (gr_trans HGX.out (gr_below hb5))
            have HZ5 := Lib.hid (keep hb5 HZX.out)
            clear hb5 c1 d1
            have d5 := cells6 HZ5.out
            go_wp2_with fail
            clear d5)
           (generalize hWF : (((((World.setCell _ _ _).setCell _ _).setCell _ _).setCell _ _).setCell _ _).setCell _ _ = WF
            have HV := fin_v (X := w5) (E := (A + i)) (x := (.mk 1 0 ⟨#[]⟩ [] [] [])) hL (by omega) HP5.out HG5.out (rv_plain 1 0 ⟨#[]⟩ w5 _ none none none 0 0 0) (fun _ => ⟨rfl, HA2.out.symm⟩) hWF
            obtain ⟨z0, z1, z2, z3, z4, z5⟩ := fin_z (X := w5) HZ5.out hWF
            clear hWF
            exact bodyPost_ret (v := (.agg #[.int .i64 1, .int .i64 0, .string ⟨#[]⟩, .slice none 0 0, .slice none 0 0, .slice none 0 0])) (by simp [results, Tryz.results45, go_sem, z0, z1, z2, z3, z4, z5]) rfl HV)
         · have hsx := HSX2.out
           have n1 : (sx.toList == [110, 117, 108, 108]) = false := lit_null ▸ beq_no (b := ⟨#[110, 117, 108, 108]⟩) (num_head hbx rfl (.inl rfl))
           have n2 : (sx.toList == [116, 114, 117, 101]) = false := lit_true ▸ beq_no (b := ⟨#[116, 114, 117, 101]⟩) (num_head hbx rfl (.inr (.inl rfl)))
           have n3 : (sx.toList == [102, 97, 108, 115, 101]) = false := lit_false ▸ beq_no (b := ⟨#[102, 97, 108, 115, 101]⟩) (num_head hbx rfl (.inr (.inr rfl)))
           have HF := Lib.hid (form_any h hlo hhi sx hbx X)
           clear hbx
           go_wp2_with fail
           refine HF.out.mono ?_
           rintro e w5 ⟨xh, ok, rfl, rfl, hok⟩
           have HOK := Lib.hid hok
           clear hok HF n1 n2 n3 hsx
           cases ok
           · go_wp2_with fail
             clear c1 d1
             (generalize hWF : (((((World.setCell _ _ _).setCell _ _).setCell _ _).setCell _ _).setCell _ _).setCell _ _ = WF
              have HV := fin_v (X := (X.setCell ⟨L, 2, none⟩ (.bool true))) (E := (A + i)) (x := (.mk 3 h ⟨#[]⟩ [] [] [])) hL (by omega) (HPX.out.set2 true) (gr_trans HGX.out (Va.gr_set _ _ _ _)) (rv_plain 3 xh ⟨#[]⟩ _ _ none none none 0 0 0) (fun q => by cases q) hWF
              obtain ⟨z0, z1, z2, z3, z4, z5⟩ := fin_z (X := (X.setCell ⟨L, 2, none⟩ (.bool true))) ((set_other (w := X) 2 (.bool true) (show w.heap.size ≠ L by omega)).trans HZX.out) hWF
              clear hWF
              exact bodyPost_ret (v := (.agg #[.int .i64 3, .int .i64 xh, .string ⟨#[]⟩, .slice none 0 0, .slice none 0 0, .slice none 0 0])) (by simp [results, Tryz.results45, go_sem, z0, z1, z2, z3, z4, z5]) rfl HV)
           · obtain rfl : xh = h := HOK.out rfl
             go_wp2_with fail
             clear c1 d1
             (generalize hWF : (((((World.setCell _ _ _).setCell _ _).setCell _ _).setCell _ _).setCell _ _).setCell _ _ = WF
              have HV := fin_v (X := (X.setCell ⟨L, 2, none⟩ (.bool false))) (E := (A + i)) (x := (.mk 3 xh ⟨#[]⟩ [] [] [])) hL (by omega) (HPX.out.set2 false) (gr_trans HGX.out (Va.gr_set _ _ _ _)) (rv_plain 3 xh ⟨#[]⟩ _ _ none none none 0 0 0) (fun _ => ⟨rfl, HA2.out.symm⟩) hWF
              obtain ⟨z0, z1, z2, z3, z4, z5⟩ := fin_z (X := (X.setCell ⟨L, 2, none⟩ (.bool false))) ((set_other (w := X) 2 (.bool false) (show w.heap.size ≠ L by omega)).trans HZX.out) hWF
              clear hWF
              exact bodyPost_ret (v := (.agg #[.int .i64 3, .int .i64 xh, .string ⟨#[]⟩, .slice none 0 0, .slice none 0 0, .slice none 0 0])) (by simp [results, Tryz.results45, go_sem, z0, z1, z2, z3, z4, z5]) rfl HV)
         skip)
      · (go_wp2_with fail
         refine Calls.mono (HNX.out _ HPR.out) ?_
         rintro e _ ⟨rfl, _, rfl⟩
         skip)
        (go_wp2_with fail
         refine Calls.mono (HNX.out _ HPR.out) ?_
         rintro e _ ⟨rfl, _, rfl⟩
         skip)
        (go_wp2_with fail
         refine Calls.mono (HNX.out _ HPR.out) ?_
         rintro e _ ⟨rfl, _, rfl⟩
         skip)
        (go_wp2_with fail
         refine Calls.mono (HNX.out _ HPR.out) ?_
         rintro e _ ⟨rfl, _, rfl⟩
         skip)
        (go_wp2_with fail
         go_quiet (fail)
         generalize hX : World.drewN (World.drewN wr _) _ = X
         have HPX : Hid (PB L s A2 false X) := Lib.hid (hX ▸ HPR.out)
         have HGX : Hid (w.grownBy X (some L)) := Lib.hid (hX ▸ gr_dn3 _ (gr_dn3 _ HGR.out))
         have HZX : Hid (X.heap[w.heap.size]? = some zero6o) := Lib.hid (hX ▸ HZR.out)
         clear c1 d1 HNX HPR HGR HZR hX
         have c1 := HPX.out.cells
         have d1 := cells6 HZX.out
         rcases HIS.out with ⟨rfl, rfl⟩ | ⟨rfl, rfl⟩ | ⟨rfl, rfl⟩ | ⟨h, hbx, hlo, hhi, rfl⟩
         · have hsx := HSX2.out
           go_wp2_with fail
           clear c1 d1
           (generalize hWF : (((((World.setCell _ _ _).setCell _ _).setCell _ _).setCell _ _).setCell _ _).setCell _ _ = WF
            have HV := fin_v (X := X) (E := (A + i)) (x := nullV) hL (by omega) HPX.out HGX.out (rv_plain 0 0 ⟨#[]⟩ X _ none none none 0 0 0) (fun _ => ⟨rfl, HA2.out.symm⟩) hWF
            obtain ⟨z0, z1, z2, z3, z4, z5⟩ := fin_z (X := X) HZX.out hWF
            clear hWF
            exact bodyPost_ret (v := (.agg #[.int .i64 0, .int .i64 0, .string ⟨#[]⟩, .slice none 0 0, .slice none 0 0, .slice none 0 0])) (by simp [results, Tryz.results45, go_sem, z0, z1, z2, z3, z4, z5]) rfl HV)
         · (have hsx := HSX2.out
            go_wp2_with fail
            refine (sBool_any true X).mono ?_
            rintro e w5 ⟨rfl, hb5⟩
            unfold boolT
            have HP5 := Lib.hid (keep hb5 HPX.out : PB L s A2 false w5)
            have HG5 := Lib.hid (gr_trans HGX.out (gr_below hb5))
            have HZ5 := Lib.hid (keep hb5 HZX.out)
            clear hb5 c1 d1
            have d5 := cells6 HZ5.out
            go_wp2_with fail
            clear d5)
           (generalize hWF : (((((World.setCell _ _ _).setCell _ _).setCell _ _).setCell _ _).setCell _ _).setCell _ _ = WF
            have HV := fin_v (X := w5) (E := (A + i)) (x := (.mk 2 0 ⟨#[]⟩ [] [] [])) hL (by omega) HP5.out HG5.out (rv_plain 2 0 ⟨#[]⟩ w5 _ none none none 0 0 0) (fun _ => ⟨rfl, HA2.out.symm⟩) hWF
            obtain ⟨z0, z1, z2, z3, z4, z5⟩ := fin_z (X := w5) HZ5.out hWF
            clear hWF
            exact bodyPost_ret (v := (.agg #[.int .i64 2, .int .i64 0, .string ⟨#[]⟩, .slice none 0 0, .slice none 0 0, .slice none 0 0])) (by simp [results, Tryz.results45, go_sem, z0, z1, z2, z3, z4, z5]) rfl HV)
         · (have hsx := HSX2.out
            go_wp2_with fail
            refine (sBool_any false X).mono ?_
            rintro e w5 ⟨rfl, hb5⟩
            unfold boolT
            have HP5 := Lib.hid (keep hb5 HPX.out : PB L s A2 false w5)
            have HG5 := Lib.hid (gr_trans HGX.out (gr_below hb5))
            have HZ5 := Lib.hid (keep hb5 HZX.out)
            clear hb5 c1 d1
            have d5 := cells6 HZ5.out
            go_wp2_with fail
            clear d5)
           (generalize hWF : (((((World.setCell _ _ _).setCell _ _).setCell _ _).setCell _ _).setCell _ _).setCell _ _ = WF
            have HV := fin_v (X := w5) (E := (A + i)) (x := (.mk 1 0 ⟨#[]⟩ [] [] [])) hL (by omega) HP5.out HG5.out (rv_plain 1 0 ⟨#[]⟩ w5 _ none none none 0 0 0) (fun _ => ⟨rfl, HA2.out.symm⟩) hWF
            obtain ⟨z0, z1, z2, z3, z4, z5⟩ := fin_z (X := w5) HZ5.out hWF
            clear hWF
            exact bodyPost_ret (v := (.agg #[.int .i64 1, .int .i64 0, .string ⟨#[]⟩, .slice none 0 0, .slice none 0 0, .slice none 0 0])) (by simp [results, Tryz.results45, go_sem, z0, z1, z2, z3, z4, z5]) rfl HV)
         · have hsx := HSX2.out
           have n1 : (sx.toList == [110, 117, 108, 108]) = false := lit_null ▸ beq_no (b := ⟨#[110, 117, 108, 108]⟩) (num_head hbx rfl (.inl rfl))
           have n2 : (sx.toList == [116, 114, 117, 101]) = false := lit_true ▸ beq_no (b := ⟨#[116, 114, 117, 101]⟩) (num_head hbx rfl (.inr (.inl rfl)))
           have n3 : (sx.toList == [102, 97, 108, 115, 101]) = false := lit_false ▸ beq_no (b := ⟨#[102, 97, 108, 115, 101]⟩) (num_head hbx rfl (.inr (.inr rfl)))
           have HF := Lib.hid (form_any h hlo hhi sx hbx X)
           clear hbx
           go_wp2_with fail
           refine HF.out.mono ?_
           rintro e w5 ⟨xh, ok, rfl, rfl, hok⟩
           have HOK := Lib.hid hok
           clear hok HF n1 n2 n3 hsx
           cases ok
           · go_wp2_with fail
             clear c1 d1
             (generalize hWF : (((((World.setCell _ _ _).setCell _ _).setCell _ _).setCell _ _).setCell _ _).setCell _ _ = WF
              have HV := fin_v (X := (X.setCell ⟨L, 2, none⟩ (.bool true))) (E := (A + i)) (x := (.mk 3 h ⟨#[]⟩ [] [] [])) hL (by omega) (HPX.out.set2 true) (gr_trans HGX.out (Va.gr_set _ _ _ _)) (rv_plain 3 xh ⟨#[]⟩ _ _ none none none 0 0 0) (fun q => by cases q) hWF
              obtain ⟨z0, z1, z2, z3, z4, z5⟩ := fin_z (X := (X.setCell ⟨L, 2, none⟩ (.bool true))) ((set_other (w := X) 2 (.bool true) (show w.heap.size ≠ L by omega)).trans HZX.out) hWF
              clear hWF
              exact bodyPost_ret (v := (.agg #[.int .i64 3, .int .i64 xh, .string ⟨#[]⟩, .slice none 0 0, .slice none 0 0, .slice none 0 0])) (by simp [results, Tryz.results45, go_sem, z0, z1, z2, z3, z4, z5]) rfl HV)
           · obtain rfl : xh = h := HOK.out rfl
             go_wp2_with fail
             clear c1 d1
             (generalize hWF : (((((World.setCell _ _ _).setCell _ _).setCell _ _).setCell _ _).setCell _ _).setCell _ _ = WF
              have HV := fin_v (X := (X.setCell ⟨L, 2, none⟩ (.bool false))) (E := (A + i)) (x := (.mk 3 xh ⟨#[]⟩ [] [] [])) hL (by omega) (HPX.out.set2 false) (gr_trans HGX.out (Va.gr_set _ _ _ _)) (rv_plain 3 xh ⟨#[]⟩ _ _ none none none 0 0 0) (fun _ => ⟨rfl, HA2.out.symm⟩) hWF
              obtain ⟨z0, z1, z2, z3, z4, z5⟩ := fin_z (X := (X.setCell ⟨L, 2, none⟩ (.bool false))) ((set_other (w := X) 2 (.bool false) (show w.heap.size ≠ L by omega)).trans HZX.out) hWF
              clear hWF
              exact bodyPost_ret (v := (.agg #[.int .i64 3, .int .i64 xh, .string ⟨#[]⟩, .slice none 0 0, .slice none 0 0, .slice none 0 0])) (by simp [results, Tryz.results45, go_sem, z0, z1, z2, z3, z4, z5]) rfl HV)
         skip)
      · (go_wp2_with fail
         refine Calls.mono (HNX.out _ HPR.out) ?_
         rintro e _ ⟨rfl, _, rfl⟩
         skip)
        (go_wp2_with fail
         refine Calls.mono (HNX.out _ HPR.out) ?_
         rintro e _ ⟨rfl, _, rfl⟩
         skip)
        (go_wp2_with fail
         refine Calls.mono (HNX.out _ HPR.out) ?_
         rintro e _ ⟨rfl, _, rfl⟩
         skip)
        (go_wp2_with fail
         refine Calls.mono (HNX.out _ HPR.out) ?_
         rintro e _ ⟨rfl, _, rfl⟩
         skip)
        (go_wp2_with fail
         refine Calls.mono (HNX.out _ HPR.out) ?_
         rintro e _ ⟨rfl, _, rfl⟩
         skip)
        (go_wp2_with fail
         go_quiet (fail)
         generalize hX : World.drewN (World.drewN wr _) _ = X
         have HPX : Hid (PB L s A2 false X) := Lib.hid (hX ▸ HPR.out)
         have HGX : Hid (w.grownBy X (some L)) := Lib.hid (hX ▸ gr_dn3 _ (gr_dn3 _ HGR.out))
         have HZX : Hid (X.heap[w.heap.size]? = some zero6o) := Lib.hid (hX ▸ HZR.out)
         clear c1 d1 HNX HPR HGR HZR hX
         have c1 := HPX.out.cells
         have d1 := cells6 HZX.out
         rcases HIS.out with ⟨rfl, rfl⟩ | ⟨rfl, rfl⟩ | ⟨rfl, rfl⟩ | ⟨h, hbx, hlo, hhi, rfl⟩
         · have hsx := HSX2.out
           go_wp2_with fail
           clear c1 d1
           (generalize hWF : (((((World.setCell _ _ _).setCell _ _).setCell _ _).setCell _ _).setCell _ _).setCell _ _ = WF
            have HV := fin_v (X := X) (E := (A + i)) (x := nullV) hL (by omega) HPX.out HGX.out (rv_plain 0 0 ⟨#[]⟩ X _ none none none 0 0 0) (fun _ => ⟨rfl, HA2.out.symm⟩) hWF
            obtain ⟨z0, z1, z2, z3, z4, z5⟩ := fin_z (X := X) HZX.out hWF
            clear hWF
            exact bodyPost_ret (v := (.agg #[.int .i64 0, .int .i64 0, .string ⟨#[]⟩, .slice none 0 0, .slice none 0 0, .slice none 0 0])) (by simp [results, Tryz.results45, go_sem, z0, z1, z2, z3, z4, z5]) rfl HV)
         · (have hsx := HSX2.out
            go_wp2_with fail
            refine (sBool_any true X).mono ?_
            rintro e w5 ⟨rfl, hb5⟩
            unfold boolT
            have HP5 := Lib.hid (keep hb5 HPX.out : PB L s A2 false w5)
            have HG5 := Lib.hid (gr_trans HGX.out (gr_below hb5))
            have HZ5 := Lib.hid (keep hb5 HZX.out)
            clear hb5 c1 d1
            have d5 := cells6 HZ5.out
            go_wp2_with fail
            clear d5)
           (generalize hWF : (((((World.setCell _ _ _).setCell _ _).setCell _ _).setCell _ _).setCell _ _).setCell _ _ = WF
            have HV := fin_v (X := w5) (E := (A + i)) (x := (.mk 2 0 ⟨#[]⟩ [] [] [])) hL (by omega) HP5.out HG5.out (rv_plain 2 0 ⟨#[]⟩ w5 _ none none none 0 0 0) (fun _ => ⟨rfl, HA2.out.symm⟩) hWF
            obtain ⟨z0, z1, z2, z3, z4, z5⟩ := fin_z (X := w5) HZ5.out hWF
            clear hWF
            exact bodyPost_ret (v := (.agg #[.int .i64 2, .int .i64 0, .string ⟨#[]⟩, .slice none 0 0, .slice none 0 0, .slice none 0 0])) (by simp [results, Tryz.results45, go_sem, z0, z1, z2, z3, z4, z5]) rfl HV)
         · (have hsx := HSX2.out
            go_wp2_with fail
            refine (sBool_any false X).mono ?_
            rintro e w5 ⟨rfl, hb5⟩
            unfold boolT
            have HP5 := Lib.hid (keep hb5 HPX.out : PB L s A2 false w5)
            have HG5 := Lib.hid (gr_trans HGX.out (gr_below hb5))
            have HZ5 := Lib.hid (keep hb5 HZX.out)
            clear hb5 c1 d1
            have d5 := cells6 HZ5.out
            go_wp2_with fail
            clear d5)
           (generalize hWF : (((((World.setCell _ _ _).setCell _ _).setCell _ _).setCell _ _).setCell _ _).setCell _ _ = WF
            have HV := fin_v (X := w5) (E := (A + i)) (x := (.mk 1 0 ⟨#[]⟩ [] [] [])) hL (by omega) HP5.out HG5.out (rv_plain 1 0 ⟨#[]⟩ w5 _ none none none 0 0 0) (fun _ => ⟨rfl, HA2.out.symm⟩) hWF
            obtain ⟨z0, z1, z2, z3, z4, z5⟩ := fin_z (X := w5) HZ5.out hWF
            clear hWF
            exact bodyPost_ret (v := (.agg #[.int .i64 1, .int .i64 0, .string ⟨#[]⟩, .slice none 0 0, .slice none 0 0, .slice none 0 0])) (by simp [results, Tryz.results45, go_sem, z0, z1, z2, z3, z4, z5]) rfl HV)
         · have hsx := HSX2.out
           have n1 : (sx.toList == [110, 117, 108, 108]) = false := lit_null ▸ beq_no (b := ⟨#[110, 117, 108, 108]⟩) (num_head hbx rfl (.inl rfl))
           have n2 : (sx.toList == [116, 114, 117, 101]) = false := lit_true ▸ beq_no (b := ⟨#[116, 114, 117, 101]⟩) (num_head hbx rfl (.inr (.inl rfl)))
           have n3 : (sx.toList == [102, 97, 108, 115, 101]) = false := lit_false ▸ beq_no (b := ⟨#[102, 97, 108, 115, 101]⟩) (num_head hbx rfl (.inr (.inr rfl)))
           have HF := Lib.hid (form_any h hlo hhi sx hbx X)
           clear hbx
           go_wp2_with fail
           refine HF.out.mono ?_
           rintro e w5 ⟨xh, ok, rfl, rfl, hok⟩
           have HOK := Lib.hid hok
           clear hok HF n1 n2 n3 hsx
           cases ok
           · go_wp2_with fail
             clear c1 d1
             (generalize hWF : (((((World.setCell _ _ _).setCell _ _).setCell _ _).setCell _ _).setCell _ _).setCell _ _ = WF
              have HV := fin_v (X := (X.setCell ⟨L, 2, none⟩ (.bool true))) (E := (A + i)) (x := (.mk 3 h ⟨#[]⟩ [] [] [])) hL (by omega) (HPX.out.set2 true) (gr_trans HGX.out (Va.gr_set _ _ _ _)) (rv_plain 3 xh ⟨#[]⟩ _ _ none none none 0 0 0) (fun q => by cases q) hWF
              obtain ⟨z0, z1, z2, z3, z4, z5⟩ := fin_z (X := (X.setCell ⟨L, 2, none⟩ (.bool true))) ((set_other (w := X) 2 (.bool true) (show w.heap.size ≠ L by omega)).trans HZX.out) hWF
              clear hWF
              exact bodyPost_ret (v := (.agg #[.int .i64 3, .int .i64 xh, .string ⟨#[]⟩, .slice none 0 0, .slice none 0 0, .slice none 0 0])) (by simp [results, Tryz.results45, go_sem, z0, z1, z2, z3, z4, z5]) rfl HV)
           · obtain rfl : xh = h := HOK.out rfl
             go_wp2_with fail
             clear c1 d1
             (generalize hWF : (((((World.setCell _ _ _).setCell _ _).setCell _ _).setCell _ _).setCell _ _).setCell _ _ = WF
              have HV := fin_v (X := (X.setCell ⟨L, 2, none⟩ (.bool false))) (E := (A + i)) (x := (.mk 3 xh ⟨#[]⟩ [] [] [])) hL (by omega) (HPX.out.set2 false) (gr_trans HGX.out (Va.gr_set _ _ _ _)) (rv_plain 3 xh ⟨#[]⟩ _ _ none none none 0 0 0) (fun _ => ⟨rfl, HA2.out.symm⟩) hWF
              obtain ⟨z0, z1, z2, z3, z4, z5⟩ := fin_z (X := (X.setCell ⟨L, 2, none⟩ (.bool false))) ((set_other (w := X) 2 (.bool false) (show w.heap.size ≠ L by omega)).trans HZX.out) hWF
              clear hWF
              exact bodyPost_ret (v := (.agg #[.int .i64 3, .int .i64 xh, .string ⟨#[]⟩, .slice none 0 0, .slice none 0 0, .slice none 0 0])) (by simp [results, Tryz.results45, go_sem, z0, z1, z2, z3, z4, z5]) rfl HV)
         skip)
      · (go_wp2_with fail
         refine Calls.mono (HNX.out _ HPR.out) ?_
         rintro e _ ⟨rfl, _, rfl⟩
         skip)
        (go_wp2_with fail
         refine Calls.mono (HNX.out _ HPR.out) ?_
         rintro e _ ⟨rfl, _, rfl⟩
         skip)
        (go_wp2_with fail
         refine Calls.mono (HNX.out _ HPR.out) ?_
         rintro e _ ⟨rfl, _, rfl⟩
         skip)
        (go_wp2_with fail
         refine Calls.mono (HNX.out _ HPR.out) ?_
         rintro e _ ⟨rfl, _, rfl⟩
         skip)
        (go_wp2_with fail
         refine Calls.mono (HNX.out _ HPR.out) ?_
         rintro e _ ⟨rfl, _, rfl⟩
         skip)
        (go_wp2_with fail
         refine Calls.mono (HNX.out _ HPR.out) ?_
         rintro e _ ⟨rfl, _, rfl⟩
         skip)
        (go_wp2_with fail
         go_quiet (fail)
         generalize hX : World.drewN (World.drewN wr _) _ = X
         have HPX : Hid (PB L s A2 false X) := Lib.hid (hX ▸ HPR.out)
         have HGX : Hid (w.grownBy X (some L)) := Lib.hid (hX ▸ gr_dn3 _ (gr_dn3 _ HGR.out))
         have HZX : Hid (X.heap[w.heap.size]? = some zero6o) := Lib.hid (hX ▸ HZR.out)
         clear c1 d1 HNX HPR HGR HZR hX
         have c1 := HPX.out.cells
         have d1 := cells6 HZX.out
         rcases HIS.out with ⟨rfl, rfl⟩ | ⟨rfl, rfl⟩ | ⟨rfl, rfl⟩ | ⟨h, hbx, hlo, hhi, rfl⟩
         · have hsx := HSX2.out
           go_wp2_with fail
           clear c1 d1
           (generalize hWF : (((((World.setCell _ _ _).setCell _ _).setCell _ _).setCell _ _).setCell _ _).setCell _ _ = WF
            have HV := fin_v (X := X) (E := (A + i)) (x := nullV) hL (by omega) HPX.out HGX.out (rv_plain 0 0 ⟨#[]⟩ X _ none none none 0 0 0) (fun _ => ⟨rfl, HA2.out.symm⟩) hWF
            obtain ⟨z0, z1, z2, z3, z4, z5⟩ := fin_z (X := X) HZX.out hWF
            clear hWF
            exact bodyPost_ret (v := (.agg #[.int .i64 0, .int .i64 0, .string ⟨#[]⟩, .slice none 0 0, .slice none 0 0, .slice none 0 0])) (by simp [results, Tryz.results45, go_sem, z0, z1, z2, z3, z4, z5]) rfl HV)
         · (have hsx := HSX2.out
            go_wp2_with fail
            refine (sBool_any true X).mono ?_
            rintro e w5 ⟨rfl, hb5⟩
            unfold boolT
            have HP5 := Lib.hid (keep hb5 HPX.out : PB L s A2 false w5)
            have HG5 := Lib.hid (gr_trans HGX.out (gr_below hb5))
            have HZ5 := Lib.hid (keep hb5 HZX.out)
            clear hb5 c1 d1
            have d5 := cells6 HZ5.out
            go_wp2_with fail
            clear d5)
           (generalize hWF : (((((World.setCell _ _ _).setCell _ _).setCell _ _).setCell _ _).setCell _ _).setCell _ _ = WF
            have HV := fin_v (X := w5) (E := (A + i)) (x := (.mk 2 0 ⟨#[]⟩ [] [] [])) hL (by omega) HP5.out HG5.out (rv_plain 2 0 ⟨#[]⟩ w5 _ none none none 0 0 0) (fun _ => ⟨rfl, HA2.out.symm⟩) hWF
            obtain ⟨z0, z1, z2, z3, z4, z5⟩ := fin_z (X := w5) HZ5.out hWF
            clear hWF
            exact bodyPost_ret (v := (.agg #[.int .i64 2, .int .i64 0, .string ⟨#[]⟩, .slice none 0 0, .slice none 0 0, .slice none 0 0])) (by simp [results, Tryz.results45, go_sem, z0, z1, z2, z3, z4, z5]) rfl HV)
         · (have hsx := HSX2.out
            go_wp2_with fail
            refine (sBool_any false X).mono ?_
            rintro e w5 ⟨rfl, hb5⟩
            unfold boolT
            have HP5 := Lib.hid (keep hb5 HPX.out : PB L s A2 false w5)
            have HG5 := Lib.hid (gr_trans HGX.out (gr_below hb5))
            have HZ5 := Lib.hid (keep hb5 HZX.out)
            clear hb5 c1 d1
            have d5 := cells6 HZ5.out
            go_wp2_with fail
            clear d5)
           (generalize hWF : (((((World.setCell _ _ _).setCell _ _).setCell _ _).setCell _ _).setCell _ _).setCell _ _ = WF
            have HV := fin_v (X := w5) (E := (A + i)) (x := (.mk 1 0 ⟨#[]⟩ [] [] [])) hL (by omega) HP5.out HG5.out (rv_plain 1 0 ⟨#[]⟩ w5 _ none none none 0 0 0) (fun _ => ⟨rfl, HA2.out.symm⟩) hWF
            obtain ⟨z0, z1, z2, z3, z4, z5⟩ := fin_z (X := w5) HZ5.out hWF
            clear hWF
            exact bodyPost_ret (v := (.agg #[.int .i64 1, .int .i64 0, .string ⟨#[]⟩, .slice none 0 0, .slice none 0 0, .slice none 0 0])) (by simp [results, Tryz.results45, go_sem, z0, z1, z2, z3, z4, z5]) rfl HV)
         · have hsx := HSX2.out
           have n1 : (sx.toList == [110, 117, 108, 108]) = false := lit_null ▸ beq_no (b := ⟨#[110, 117, 108, 108]⟩) (num_head hbx rfl (.inl rfl))
           have n2 : (sx.toList == [116, 114, 117, 101]) = false := lit_true ▸ beq_no (b := ⟨#[116, 114, 117, 101]⟩) (num_head hbx rfl (.inr (.inl rfl)))
           have n3 : (sx.toList == [102, 97, 108, 115, 101]) = false := lit_false ▸ beq_no (b := ⟨#[102, 97, 108, 115, 101]⟩) (num_head hbx rfl (.inr (.inr rfl)))
           have HF := Lib.hid (form_any h hlo hhi sx hbx X)
           clear hbx
           go_wp2_with fail
           refine HF.out.mono ?_
           rintro e w5 ⟨xh, ok, rfl, rfl, hok⟩
           have HOK := Lib.hid hok
           clear hok HF n1 n2 n3 hsx
           cases ok
           · go_wp2_with fail
             clear c1 d1
             (generalize hWF : (((((World.setCell _ _ _).setCell _ _).setCell _ _).setCell _ _).setCell _ _).setCell _ _ = WF
              have HV := fin_v (X := (X.setCell ⟨L, 2, none⟩ (.bool true))) (E := (A + i)) (x := (.mk 3 h ⟨#[]⟩ [] [] [])) hL (by omega) (HPX.out.set2 true) (gr_trans HGX.out (Va.gr_set _ _ _ _)) (rv_plain 3 xh ⟨#[]⟩ _ _ none none none 0 0 0) (fun q => by cases q) hWF
              obtain ⟨z0, z1, z2, z3, z4, z5⟩ := fin_z (X := (X.setCell ⟨L, 2, none⟩ (.bool true))) ((set_other (w := X) 2 (.bool true) (show w.heap.size ≠ L by omega)).trans HZX.out) hWF
              clear hWF
              exact bodyPost_ret (v := (.agg #[.int .i64 3, .int .i64 xh, .string ⟨#[]⟩, .slice none 0 0, .slice none 0 0, .slice none 0 0])) (by simp [results, Tryz.results45, go_sem, z0, z1, z2, z3, z4, z5]) rfl HV)
           · obtain rfl : xh = h := HOK.out rfl
             go_wp2_with fail
             clear c1 d1
             (generalize hWF : (((((World.setCell _ _ _).setCell _ _).setCell _ _).setCell _ _).setCell _ _).setCell _ _ = WF
              have HV := fin_v (X := (X.setCell ⟨L, 2, none⟩ (.bool false))) (E := (A + i)) (x := (.mk 3 xh ⟨#[]⟩ [] [] [])) hL (by omega) (HPX.out.set2 false) (gr_trans HGX.out (Va.gr_set _ _ _ _)) (rv_plain 3 xh ⟨#[]⟩ _ _ none none none 0 0 0) (fun _ => ⟨rfl, HA2.out.symm⟩) hWF
              obtain ⟨z0, z1, z2, z3, z4, z5⟩ := fin_z (X := (X.setCell ⟨L, 2, none⟩ (.bool false))) ((set_other (w := X) 2 (.bool false) (show w.heap.size ≠ L by omega)).trans HZX.out) hWF
              clear hWF
              exact bodyPost_ret (v := (.agg #[.int .i64 3, .int .i64 xh, .string ⟨#[]⟩, .slice none 0 0, .slice none 0 0, .slice none 0 0])) (by simp [results, Tryz.results45, go_sem, z0, z1, z2, z3, z4, z5]) rfl HV)
         skip)
end Go.Proofs.YtgjmgneppecfgaaGreatDoor.Pa
