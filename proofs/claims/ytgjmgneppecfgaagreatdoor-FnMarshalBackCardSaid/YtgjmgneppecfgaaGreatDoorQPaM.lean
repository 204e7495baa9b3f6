/-
  THE WALK of object, where value serves the values.
-/
import Derived.Test.YtgjmgneppecfgaaGreatDoorQ11
import Derived.IntWalk
set_option linter.unusedVariables false
set_option linter.unusedSimpArgs false
namespace Go.Proofs.YtgjmgneppecfgaaGreatDoor.Pa
open Go.RowKit Go.Proofs.YtgjmgneppecfgaaGreatDoor.Va Go.Proofs.YtgjmgneppecfgaaGreatDoor.Ba Go.Proofs.YtgjmgneppecfgaaGreatDoor.Ma
set_option linter.unusedVariables false
set_option linter.unusedSimpArgs false

theorem rowR_lt {w : World} {S : Nat → Prop} {size n : Nat} {v : Value} {cs : List Value} (h : RowR w S size v n cs) (hs : 0 < size) : RowR w (fun b => S b ∧ b < w.heap.size) size v n cs := by
  obtain ⟨h0, h1 | ⟨g, o, c, e, hn0, hnc, hcm, hS, hc⟩⟩ := h
  · exact ⟨h0, .inl h1⟩
  · refine ⟨h0, .inr ⟨g, o, c, e, hn0, hnc, hcm, ⟨hS, ?_⟩, hc⟩⟩
    have hl : 0 < cs.length := by rw [h0]; exact Nat.mul_pos hn0 hs
    exact cell_lt (hc 0 cs[0] (List.getElem?_eq_getElem hl))
theorem mapR_lt {w : World} {S : Nat → Prop} {ks : List ByteArray} {vs : List V} {kv vv : Value} (r : MapR w S ks vs kv vv) : MapR w (fun b => S b ∧ b < w.heap.size) ks vs kv vv := by
  obtain ⟨h0, h1, cs, h2, h3⟩ := r
  refine ⟨h0, rowR_lt h1 (by decide), cs, rowR_lt h2 (by decide), fun i hi => ?_⟩
  obtain ⟨c0, c1, c2, c3, c4, c5, h6, hx⟩ := h3 i hi
  exact ⟨c0, c1, c2, c3, c4, c5, h6, RV.lt _ _ hx⟩
theorem mapR_slices {w : World} {S : Nat → Prop} {ks : List ByteArray} {vs : List V} {kv vv : Value} (r : MapR w S ks vs kv vv) : ∃ ka kc va vc, kv = .slice ka ks.length kc ∧ vv = .slice va ks.length vc := by
  obtain ⟨h0, h1, cs, h2, h3⟩ := r
  obtain ⟨ka, kc, e, _⟩ := h1.rk
  obtain ⟨_, ⟨e2, hn⟩ | ⟨g, o, c, e2, _⟩⟩ := h2
  · exact ⟨ka, kc, none, 0, e, by rw [e2, h0, hn]⟩
  · exact ⟨ka, kc, _, c, e, by rw [e2, h0]⟩
def mapV (ks : List ByteArray) (vs : List V) : V := .mk 6 0 ⟨#[]⟩ [] ks vs
def outO (kv vv : Value) : Obj := .cells #[.int .i64 6, .int .i64 0, .string ⟨#[]⟩, .slice none 0 0, kv, vv] 27 (0, 0)
/-- what stands at a round's head -/
structure AtO (L q : Nat) (s : ByteArray) (w : World) (ks' : List ByteArray) (vs' : List V) (kv vv : Value) (A' : Nat) (bad : Bool) (wr : World) : Prop where
  out : wr.heap[q]? = some (outO kv vv)
  map : MapR wr (fun r => q + 1 ≤ r) ks' vs' kv vv
  pb : PB L s A' bad wr
  gr : w.grownBy wr (some L)
  res : wr.heap[w.heap.size]? = some zero6o
  siz : q + 1 ≤ wr.heap.size
theorem AtO.grown {L q A' A2 : Nat} {s : ByteArray} {w wr W : World} {ks' : List ByteArray} {vs' : List V} {kv vv : Value} {bad b2 : Bool} (h : AtO L q s w ks' vs' kv vv A' bad wr) (hg : wr.grownBy W (some L)) (hp : PB L s A2 b2 W) (hL : L < w.heap.size) (hw : w.heap.size < q) : AtO L q s w ks' vs' kv vv A2 b2 W :=
  ⟨(hg.block q (by have := h.siz; omega) (fun e => by cases e; omega)).trans h.out, (mapR_lt h.map).mono (fun b hb => hg.block b hb.2 (fun e => by cases e; have := hb.1; omega)) (fun b hb => hb.1), hp, gr_trans h.gr hg, (hg.block _ (heap_lt h.res) (fun e => by cases e; omega)).trans h.res, Nat.le_trans h.siz hg.size⟩
/-- the map is put -/
theorem AtO.put {L q A' : Nat} {s : ByteArray} {w wr WF : World} {ks' ks2 : List ByteArray} {vs' vs2 : List V} {kv vv kv2 vv2 : Value} {bad : Bool} (h : AtO L q s w ks' vs' kv vv A' bad wr) (hm : MapR wr (fun r => q + 1 ≤ r) ks2 vs2 kv2 vv2) (hL : L < w.heap.size) (hw : w.heap.size < q)
    (hW : ((((((wr.setCell ⟨q, 0, none⟩ (.int .i64 6)).setCell ⟨q, 1, none⟩ (.int .i64 0)).setCell ⟨q, 2, none⟩ (.string ⟨#[]⟩)).setCell ⟨q, 3, none⟩ (.slice none 0 0)).setCell ⟨q, 4, none⟩ kv2).setCell ⟨q, 5, none⟩ vv2) = WF) : AtO L q s w ks2 vs2 kv2 vv2 A' bad WF := by
  subst hW
  have ho : ∀ k, k ≠ q → ((((((wr.setCell ⟨q, 0, none⟩ (.int .i64 6)).setCell ⟨q, 1, none⟩ (.int .i64 0)).setCell ⟨q, 2, none⟩ (.string ⟨#[]⟩)).setCell ⟨q, 3, none⟩ (.slice none 0 0)).setCell ⟨q, 4, none⟩ kv2).setCell ⟨q, 5, none⟩ vv2).heap[k]? = wr.heap[k]? := fun k hk => sets_other _ _ _ _ _ _ hk
  have g : wr.grownBy ((((((wr.setCell ⟨q, 0, none⟩ (.int .i64 6)).setCell ⟨q, 1, none⟩ (.int .i64 0)).setCell ⟨q, 2, none⟩ (.string ⟨#[]⟩)).setCell ⟨q, 3, none⟩ (.slice none 0 0)).setCell ⟨q, 4, none⟩ kv2).setCell ⟨q, 5, none⟩ vv2) (some q) :=
    gr_trans (gr_trans (gr_trans (gr_trans (gr_trans (Va.gr_set _ _ _ _) (Va.gr_set _ _ _ _)) (Va.gr_set _ _ _ _)) (Va.gr_set _ _ _ _)) (Va.gr_set _ _ _ _)) (Va.gr_set _ _ _ _)
  exact ⟨set6_block h.out _ _ _ _ _ _, hm.mono (fun b hb => ho b (by omega)) (fun _ h => h), (ho L (by omega)).trans h.pb, ⟨g.os.trans h.gr.os, g.tape.trans h.gr.tape, g.output.trans h.gr.output, Nat.le_trans h.gr.size g.size, fun k hk hr => (ho k (by omega)).trans (h.gr.block k hk hr)⟩, (ho _ (by omega)).trans h.res, Nat.le_trans h.siz g.size⟩
def LoopO (L q : Nat) (s : ByteArray) (ks : List ByteArray) (vs : List V) (n E : Nat) (R : List Nat) (w : World) (gh : Nat) (wr : World) : Prop :=
  ∃ (ks' : List ByteArray) (vs' : List V) (kv vv : Value) (A' : Nat) (bad : Bool), AtO L q s w ks' vs' kv vv A' bad wr ∧ A' ≤ s.size + 1 ∧ ks'.length ≤ n + 1 ∧ (bad = true → gh = 0) ∧
    (bad = false → ∃ i, i ≤ n ∧ ks' = ks.take i ∧ vs' = vs.take i ∧ gh = n - i + 1 ∧ (bytesN s).drop A' = restM vs ks i ++ 125 :: R ∧ A' + (restM vs ks i).length + 1 = E)
theorem restM_byte {s : ByteArray} {A i : Nat} {vs : List V} {ks : List ByteArray} {R : List Nat} (hl : ks.length = vs.length) (h : (bytesN s).drop A = restM vs ks i ++ 125 :: R) (hi : i < vs.length) : ∃ c, byt s A = c ∧ blank c = false ∧ c ≠ 125 ∧ (0 < i → c = 44) := by
  rw [restM_at vs ks hl i hi] at h
  by_cases h0 : 0 < i
  · unfold comma at h
    rw [if_pos h0] at h
    exact ⟨44, byt_head h, rfl, by omega, fun _ => rfl⟩
  · unfold comma at h
    rw [if_neg h0] at h
    unfold Ma.encStr at h
    exact ⟨34, byt_head h, rfl, by omega, fun q => absurd q h0⟩
theorem restM_nb {s : ByteArray} {A i : Nat} {vs : List V} {ks : List ByteArray} {R : List Nat} (hl : ks.length = vs.length) (h : (bytesN s).drop A = restM vs ks i ++ 125 :: R) (hi : i ≤ vs.length) : blank (byt s A) = false := by
  by_cases hlt : i < vs.length
  · obtain ⟨c, e, hb, _⟩ := restM_byte hl h hlt
    rw [e]; exact hb
  · obtain rfl : i = vs.length := by omega
    rw [restM_end vs ks hl] at h
    rw [byt_head h]; rfl
theorem rising_take {ks : List ByteArray} (h : Rising ks) (i : Nat) (hi : i < ks.length) : ∀ k ∈ ks.take i, lessB k ks[i] = true := by
  intro k hk
  obtain ⟨j, hj, rfl⟩ := List.getElem_of_mem hk
  rw [List.length_take] at hj
  rw [List.getElem_take]
  have := Rising.less h j i hi (by omega)
  unfold lessB
  rw [ByteArray.toList_eq, ByteArray.toList_eq]
  exact this
set_option maxHeartbeats 4000000 in
set_option maxRecDepth 100000 in
theorem pobject_any (ks : List ByteArray) (vs : List V) (hl : ks.length = vs.length) (hrise : Rising ks) (IH : ∀ x ∈ vs, PW x) (n : Nat) (hn : vs.length = n) (hn2 : n ≤ 900) (deep : Int) (hd0 : 0 ≤ deep) (hd1 : deep ≤ 100) {L : Nat} {s : ByteArray} {A : Nat} {R : List Nat} {w : World} (h : PB L s A false w) (hd : (bytesN s).drop A = 123 :: (restM vs ks 0 ++ 125 :: R)) (hs : s.size ≤ 70368744177664) :
    Calls Tryz.prog 97 #[.pointer (some ⟨L, 0, none⟩), .int .i64 deep] w (VEnd L s (A + 1 + (restM vs ks 0).length + 1) (mapV ks vs) w) := by
  have HN := Lib.hid hn
  have HLL := Lib.hid hl
  have HRI := Lib.hid hrise
  have HIH := Lib.hid IH
  have H := Lib.hid h
  have hL := h.lt
  have hsz := drop_size hd (by simp)
  have hb0 : byt s A = 123 := byt_head hd
  have hd' : (bytesN s).drop (A + 1) = restM vs ks 0 ++ 125 :: R := by rw [← List.drop_drop, hd]; rfl
  have HD := Lib.hid hd'
  have HB0 := Lib.hid hb0
  have hAs : A + 1 ≤ s.size := by rw [hsz]; simp
  obtain ⟨E, hE⟩ : ∃ E, A + 1 + (restM vs ks 0).length + 1 = E := ⟨_, rfl⟩
  have HE := Lib.hid hE
  rw [hE]
  clear hn IH h hd hb0 hd' hsz hE hl hrise
  go_enter Tryz.func97, Tryz.ntmps97
  go_wp2_with fail
  generalize hW : World.alloc w _ = W
  have B1 := Lib.hid (hW ▸ below_alloc w _ : Below w.heap.size w W)
  have z := Lib.hid (hW ▸ block_new w _ _ : W.heap[w.heap.size]? = some zero6o)
  clear hW
  refine (ptake_any 123 (by omega) (keep B1.out H.out : PB L s A false W) (by omega) (by omega)).mono ?_
  rintro e w1 ⟨rfl, A1, b1, h1, h2, h3, h4, h5, h6, h7⟩
  obtain rfl : b1 = false := h5 HB0.out rfl
  obtain ⟨_, rfl⟩ := h4 (by rw [HB0.out]; rfl) rfl
  have HG1 := Lib.hid (gr_trans (gr_below B1.out) h7)
  have HP1 := Lib.hid h6
  have z1 := Lib.hid ((h7.block _ (heap_lt z.out) (fun e => by have := Option.some.inj e; omega)).trans z.out)
  clear h1 h2 h3 h4 h5 h6 h7 z
  go_wp2_with fail
  have hq0 := heap_lt z1.out
  obtain ⟨q, hq⟩ : ∃ q, w1.heap.size = q := ⟨_, rfl⟩
  have HAT : AtO L q s w [] [] (.slice none 0 0) (.slice none 0 0) (A + 1) false (w1.alloc (.cells #[.int .i64 6, .int .i64 0, .string ⟨#[]⟩, .slice none 0 0, .slice none 0 0, .slice none 0 0] 27)) :=
    ⟨hq ▸ block_new w1 _ _, MapR.nil _ _, block_past HP1.out _, gr_trans HG1.out (gr_below (below_alloc _ _)), block_past z1.out _, by rw [World.size_alloc]; omega⟩
  rw [hq] at hq0 ⊢
  generalize World.alloc w1 _ = W2 at HAT ⊢
  clear hq
  refine (pskip_any HAT.pb (by omega) (by omega)).mono ?_
  rintro e w2 ⟨rfl, A2, h1, h2, h3, h4, h5⟩
  obtain rfl : A2 = A + 1 := h3 (restM_nb HLL.out HD.out (Nat.zero_le _))
  have HAT2 := Lib.hid (HAT.grown h5 h4 hL hq0)
  clear h1 h2 h3 h4 h5 z1 HP1 HG1 HAT B1 H
  go_wp2_with fail
  go_loopg [] (n + 1) (fun gh wr => LoopO L q s ks vs n E R w gh wr)
  case atStart => exact ⟨[], [], _, _, A + 1, false, HAT2.out, by omega, by simp, fun q => (by cases q), fun _ => ⟨0, Nat.zero_le _, rfl, rfl, by omega, HD.out, HE.out⟩⟩
  case round =>
    clear HAT2
    obtain ⟨ks', vs', kv, vv, A', bad, hat, hA', hyl, hgb, hgood⟩ := hrel
    have HAT := Lib.hid hat
    have c1 := hat.pb.cells
    have c2 := cells6 hat.out
    obtain ⟨ka, kc, va, vc, rfl, rfl⟩ := mapR_slices hat.map
    obtain ⟨k, hk⟩ : ∃ k, ks'.length = k := ⟨_, rfl⟩
    rw [hk] at HAT hyl c2
    have HK := Lib.hid hk
    clear hat hk
    cases bad
    · obtain ⟨i, hi, hks, hvs, rfl, hd, he⟩ := hgood rfl
      have HDR := Lib.hid hd
      have HEE := Lib.hid he
      have HKS := Lib.hid hks
      have HVS := Lib.hid hvs
      obtain rfl : k = i := by rw [← HK.out, HKS.out, List.length_take, HLL.out, HN.out]; omega
      clear hgood hgb hd he hks hvs
      by_cases hlt : k < n
      · have hltv : k < vs.length := by rw [HN.out]; exact hlt
        have hltk : k < ks.length := by rw [HLL.out]; exact hltv
        obtain ⟨c, hc, hcb, hc125, hc44⟩ := restM_byte HLL.out HDR.out hltv
        have HC := Lib.hid hc
        have HIX := Lib.hid (HIH.out vs[k] (List.getElem_mem hltv))
        have HLESS := Lib.hid (rising_take HRI.out k hltk)
        have hval : (bytesN s).drop (A' + (comma k).length) = Ma.encStr (bytesN ks[k]) ++ 58 :: (encJ vs[k] ++ (restM vs ks (k + 1) ++ 125 :: R)) := by
          rw [← List.drop_drop, HDR.out, restM_at vs ks HLL.out k hltv, List.append_assoc, List.drop_left]
          simp
        have hlen : A' + (comma k).length + (Ma.encStr (bytesN ks[k])).length + 1 + (encJ vs[k]).length + (restM vs ks (k + 1)).length + 1 = E := by
          have q := HEE.out
          rw [restM_at vs ks HLL.out k hltv] at q
          simp only [List.length_append, List.length_cons] at q
          omega
        obtain ⟨X, hX⟩ : ∃ X, vs[k] = X := ⟨_, rfl⟩
        obtain ⟨KEY, hKEY⟩ : ∃ KEY, ks[k] = KEY := ⟨_, rfl⟩
        have HX := Lib.hid hX
        have HKEY := Lib.hid hKEY
        rw [hX] at HIX
        rw [hX, hKEY] at hval hlen
        rw [hKEY] at HLESS
        have HNX : Hid (∀ W, PB L s A' false W → Calls Tryz.prog 94 #[.pointer (some ⟨L, 0, none⟩)] W (RetQ (.int .u8 (c : Int)) W)) := Lib.hid (fun W hW => by have := pnext_any hW; rw [hc] at this; exact this)
        have q125 : ((c : Int) != 125) = true := by simp; omega
        by_cases h0 : 0 < k
        · obtain rfl : c = 44 := hc44 h0
          have hval2 : (bytesN s).drop (A' + 1) = Ma.encStr (bytesN KEY) ++ 58 :: (encJ X ++ (restM vs ks (k + 1) ++ 125 :: R)) := by have := hval; unfold comma at this; rw [if_pos h0] at this; exact this
          have HDT := Lib.hid hval2
          have HLEN : Hid (A' + 1 + (Ma.encStr (bytesN KEY)).length + 1 + (encJ X).length + (restM vs ks (k + 1)).length + 1 = E) := Lib.hid (by have := hlen; unfold comma at this; rw [if_pos h0] at this; exact this)
          have h0' : (0 : Int) < (k : Int) := by omega
          clear hval hlen hval2 hX hKEY hc hc44 hcb
          go_wp2_with fail
          refine Calls.mono (HNX.out _ ?_) ?_
          focus exact HAT.out.pb
          rintro e _ ⟨rfl, m1, rfl⟩
          go_wp2_with fail
          refine Calls.mono (ptake_any (A := A') (bad := false) 44 (by omega) ?_ (by omega) hA') ?_
          focus exact HAT.out.pb
          rintro e w3 ⟨rfl, A3, b3, h1, h2, h3, h4, h5, h6, h7⟩
          obtain rfl : b3 = false := h5 HC.out rfl
          obtain ⟨_, rfl⟩ := h4 (by rw [HC.out]; rfl) rfl
          have HAT3 := Lib.hid (HAT.out.grown (gr_dn _ h7) h6 hL hq0)
          clear h1 h2 h3 h4 h5 h6 h7 c1 c2
          have hA1 : A' + 1 ≤ s.size + 1 := by have := byt_lt (s := s) (A := A') (by rw [HC.out]; omega); omega
          go_wp2_with fail
          refine (pskip_any HAT3.out.pb (by omega) hA1).mono ?_
          rintro e w3b ⟨rfl, A3b, k1, k2, k3, k4, k5⟩
          have hb34 : byt s (A' + 1) = 34 := by have := HDT.out; unfold Ma.encStr at this; exact byt_head this
          obtain rfl : A3b = A' + 1 := k3 (by rw [hb34]; rfl)
          have HATT := Lib.hid (HAT3.out.grown k5 k4 hL hq0)
          clear k1 k2 k3 k4 k5 hb34
          go_wp2_with fail
          (refine Calls.mono (ptext_any (A := (A' + 1)) ?_ hs KEY (58 :: (encJ X ++ (restM vs ks (k + 1) ++ 125 :: R))) HDT.out) ?_
           focus exact HATT.out.pb
           rintro e w4 ⟨o, A4, bt, rfl, t1, t2, t3, t4⟩
           have HAT4 := Lib.hid (HATT.out.grown t3 t2 hL hq0)
           clear t2 t3
           cases bt
           · obtain ⟨ho, hA4⟩ := t4 rfl
             obtain rfl := ho.symm
             have h58 : (bytesN s).drop A4 = 58 :: (encJ X ++ (restM vs ks (k + 1) ++ 125 :: R)) := by rw [hA4, ← List.drop_drop, HDT.out, List.drop_left]
             have hdv : (bytesN s).drop (A4 + 1) = encJ X ++ (restM vs ks (k + 1) ++ 125 :: R) := by rw [← List.drop_drop, h58]; rfl
             have HB4 := Lib.hid (byt_head h58)
             have HDV := Lib.hid hdv
             have hlen4 : A4 + 1 + (encJ X).length + (restM vs ks (k + 1)).length + 1 = E := by have := HLEN.out; omega
             have HLEN4 := Lib.hid hlen4
             clear t4 h58 hdv hA4 hlen4
             go_wp2_with fail
             refine (ptake_any (A := A4) (bad := false) 58 (by omega) HAT4.out.pb (by omega) t1).mono ?_
             rintro e w5 ⟨rfl, A5, b5, h1, h2, h3, h4, h5, h6, h7⟩
             obtain rfl : b5 = false := h5 HB4.out rfl
             obtain ⟨_, rfl⟩ := h4 (by rw [HB4.out]; rfl) rfl
             have HAT5 := Lib.hid (HAT4.out.grown h7 h6 hL hq0)
             clear h1 h2 h3 h4 h5 h6 h7
             have c5 := cells6 HAT5.out.out
             have hrk : RK w5 (fun r => q + 1 ≤ r ∧ r < w5.heap.size) ks' ka := by
               obtain ⟨ka', kc', eka, hrk⟩ := (mapR_lt HAT5.out.map).2.1.rk
               injection eka with e1
               rw [e1]
               exact hrk
             have HRK := Lib.hid hrk
             clear hrk
             go_wp2_with fail
             refine (has_any 6 0 ⟨#[]⟩ KEY none ka va 0 0 k kc k vc ks' HK.out (by omega) (fun r => q + 1 ≤ r ∧ r < w5.heap.size) w5 HRK.out (fun b h => h.2)).mono ?_
             rintro e w6 ⟨is, rfl, hb6, his⟩
             have HAT6 := Lib.hid (HAT5.out.grown (gr_below hb6) (keep hb6 HAT5.out.pb : PB L s (A4 + 1) false w6) hL hq0)
             obtain rfl : is = false := his (by rw [HKS.out]; exact HLESS.out)
             have HVAL : Hid (∀ W, PB L s (A4 + 1) false W → Calls Tryz.prog 45 #[.pointer (some ⟨L, 0, none⟩), .int .i64 (deep + 1)] W (VEnd L s (A4 + 1 + (encJ X).length) X W)) := Lib.hid (fun W hW => HIX.out (deep + 1) L s (A4 + 1) (restM vs ks (k + 1) ++ 125 :: R) W (by omega) (by omega) hW HDV.out (restM_head vs ks k HLL.out R) hs)
             clear his hb6 c5
             go_wp2_with fail
             (have hdw : IntKind.i64.wrap (deep + 1) = deep + 1 := IntWalk.i64_in _ (by omega)
              refine wp_region_D (fun W => W.heap[q]? = some (.cells #[.int .i64 6, .int .i64 0, .string ⟨#[]⟩, .slice none 0 0, .slice ka k kc, .slice va k vc] 27 (0, 0))) [6, 7] (by kernel_rfl) ?_
              generalize hWd : World.drew w6 = W7
              have hS3 : W7.heap[q]? = some (.cells #[.int .i64 6, .int .i64 0, .string ⟨#[]⟩, .slice none 0 0, .slice ka k kc, .slice va k vc] 27 (0, 0)) := hWd ▸ HAT6.out.out
              have HAT7 : Hid (AtO L q s w ks' vs' (.slice ka k kc) (.slice va k vc) (A4 + 1) false W7) := Lib.hid (by rw [← hWd]; exact HAT6.out.grown ⟨rfl, rfl, rfl, Nat.le_refl _, fun _ _ _ => rfl⟩ HAT6.out.pb hL hq0)
              clear hWd
              (refine wpAnyD_take (i := 0) (v := ?_) [6, 7] [6, 7] rfl (by kernel_rfl) (by kernel_rfl) (by kernel_rfl) (fun _ _ _ h => h) (by kernel_rfl) (by kernel_rfl) (by kernel_rfl) (Or.inl ⟨?_, ?_⟩) hS3 ?_
               rotate_left
               focus rfl
               focus (intro w' hw'; have hw1 := cells6 hw'; clear hw'; go_simp; with_reducible rfl)
               try go_simp)
              (refine wpAnyD_take (i := 1) (v := ?_) [6, 7] [6, 7] rfl (by kernel_rfl) (by kernel_rfl) (by kernel_rfl) (fun _ _ _ h => h) (by kernel_rfl) (by kernel_rfl) (by kernel_rfl) (Or.inl ⟨?_, ?_⟩) hS3 ?_
               rotate_left
               focus rfl
               focus (intro w' hw'; have hw1 := cells6 hw'; clear hw'; go_simp; with_reducible rfl)
               try go_simp)
              (refine wpAnyD_take (i := 2) (v := ?_) [5, 6, 7] [6, 7] rfl (by kernel_rfl) (by kernel_rfl) (by kernel_rfl) (fun _ _ _ h => h) (by kernel_rfl) (by kernel_rfl) (by kernel_rfl) (Or.inl ⟨?_, ?_⟩) hS3 ?_
               rotate_left
               focus rfl
               focus (intro w' hw'; have hw1 := cells6 hw'; clear hw'; go_simp; with_reducible rfl)
               try go_simp)
              (refine wpAnyD_take (i := 3) (v := ?_) [4, 5, 6, 7] [6, 7] rfl (by kernel_rfl) (by kernel_rfl) (by kernel_rfl) (fun _ _ _ h => h) (by kernel_rfl) (by kernel_rfl) (by kernel_rfl) (Or.inl ⟨?_, ?_⟩) hS3 ?_
               rotate_left
               focus rfl
               focus (intro w' hw'; have hw1 := cells6 hw'; clear hw'; go_simp; with_reducible rfl)
               try go_simp)
              (refine wpAnyD_take (i := 4) (v := ?_) [5, 6, 7] [6, 7] rfl (by kernel_rfl) (by kernel_rfl) (by kernel_rfl) (fun _ _ _ h => h) (by kernel_rfl) (by kernel_rfl) (by kernel_rfl) (Or.inl ⟨?_, ?_⟩) hS3 ?_
               rotate_left
               focus rfl
               focus (intro w' hw'; have hw1 := cells6 hw'; clear hw'; go_simp; with_reducible rfl)
               try go_simp)
              clear hdw
              refine wpAnyD_ready (rs := [5]) (by kernel_rfl) (by simp) ?_
              refine AllReadyD.cons rfl (fun K hK => ?_) AllReadyD.nil
              go_simp
              refine (HVAL.out W7 HAT7.out.pb).mono ?_
              rintro e w8 ⟨v, y, A8, b8, rfl, h1, h2, h3, h4, h5⟩
              obtain ⟨la, lc, ka3, kc3, va3, vc3, t1, m1', tx, q1, q2, q3, rfl, HXV⟩ := RV.parts h4
              have HAT8 := Lib.hid (HAT7.out.grown h2 h1 hL hq0)
              have hs7 := HAT7.out.siz
              have hs8 := h2.size
              have HGOOD := Lib.hid h5
              have hA8 := h3
              have HYV := Lib.hid (RV.mono (T := fun r => q + 1 ≤ r ∧ r < w8.heap.size) (fun _ _ => rfl) (fun b hb => ⟨by have hb' : W7.heap.size ≤ b := hb.1; omega, hb.2⟩) _ _ (RV.lt _ _ HXV.out))
              clear h1 h2 h3 h4 h5
              refine hK.out _ _ (fun _ => HAT8.out.out) ?_
              clear hK K hS3
              try go_simp
              refine wpAnyD_ready (rs := [6]) (by kernel_rfl) (by simp) ?_
              refine AllReadyD.cons rfl (fun K hK => ?_) AllReadyD.nil
              go_simp
              refine (with_any 6 0 ⟨#[]⟩ KEY (.slice ka k kc) (.slice va k vc) _ none 0 0 ks' vs' y (fun r => q + 1 ≤ r ∧ r < w8.heap.size) w8 (mapR_lt HAT8.out.map) (by rw [HK.out]; omega) HYV.out (fun b h => h.2)).mono ?_
              rintro e w9 ⟨i1, i2, kv2, vv2, rfl, hb9, hm9, hall9, hi1, hi2, hi3, hi4⟩
              unfold MapV
              have hm9' := hm9.mono (w' := w9) (T := fun r => q + 1 ≤ r) (fun _ _ => rfl) (fun b hb => by
                rcases hb with hb | hb
                · exact hb.1
                · omega)
              have HAT9 := Lib.hid (HAT8.out.grown (gr_below hb9) (keep hb9 HAT8.out.pb : PB L s A8 b8 w9) hL hq0)
              obtain ⟨ka9, kc9, va9, vc9, rfl, rfl⟩ := mapR_slices hm9'
              have HM9 := Lib.hid hm9'
              have hlen9 : (ks'.take i1 ++ KEY :: ks'.drop i2).length ≤ n + 1 := by simp [HK.out]; rw [HK.out] at hi2 hi4; omega
              have HALL9 := Lib.hid hall9
              rw [HK.out] at HALL9
              obtain ⟨k9, hk9⟩ : ∃ k9, (ks'.take i1 ++ KEY :: ks'.drop i2).length = k9 := ⟨_, rfl⟩
              have hlen9' := hlen9
              rw [hk9] at HM9 hlen9 ⊢
              clear hm9 hm9' hb9 hall9 hi1 hi2 hi3 hi4 hk9
              refine hK.out _ _ (fun h => absurd h (by decide)) ?_
              clear hK K
              try go_simp
              have hcc := cells6 HAT9.out.out
              refine wpAnyD_ready (rs := [7]) (by kernel_rfl) (by simp) ?_
              refine AllReadyD.cons rfl (fun K hK => ?_) AllReadyD.nil
              go_simp
              refine hK.out _ _ (fun h => absurd h (by decide)) ?_
              clear hK K
              try go_simp
              refine wpAnyD_done (by kernel_rfl) ?_ _
              clear hcc
              generalize hWF : (((((World.setCell w9 _ _).setCell _ _).setCell _ _).setCell _ _).setCell _ _).setCell _ _ = WF
              have HATF := HAT9.out.put HM9.out hL hq0 hWF
              clear hWF
              go_wp2_with fail
              refine (pskip_any HATF.pb (by omega) (by omega)).mono ?_
              rintro e wz ⟨rfl, Az, k1, k2, k3, k4, k5⟩
              have HATZ := Lib.hid (HATF.grown k5 k4 hL hq0))
             cases b8
             · obtain ⟨hy, hAE⟩ := HGOOD.out rfl
               have hdr : (bytesN s).drop A8 = restM vs ks (k + 1) ++ 125 :: R := by rw [hAE, ← List.drop_drop, HDV.out, List.drop_left]
               obtain rfl : Az = A8 := k3 (restM_nb HLL.out hdr hltv)
               obtain ⟨hi1, hi2⟩ := HALL9.out (by rw [HKS.out]; exact HLESS.out)
               have HDR7 := Lib.hid hdr
               have HE7 : Hid (Az + (restM vs ks (k + 1)).length + 1 = E) := Lib.hid (by rw [hAE]; exact HLEN4.out)
               have HK7 : Hid (ks'.take i1 ++ KEY :: ks'.drop i2 = ks.take (k + 1)) := Lib.hid (by rw [hi1, hi2, List.take_of_length_le (Nat.le_of_eq HK.out), List.drop_eq_nil_of_le (Nat.le_of_eq HK.out), HKS.out, List.take_succ_eq_append_getElem hltk, HKEY.out])
               have hvl : vs'.length = k := by rw [HVS.out, List.length_take]; omega
               have HV7 : Hid (vs'.take i1 ++ y :: vs'.drop i2 = vs.take (k + 1)) := Lib.hid (by rw [hi1, hi2, List.take_of_length_le (Nat.le_of_eq hvl), List.drop_eq_nil_of_le (Nat.le_of_eq hvl), HVS.out, List.take_succ_eq_append_getElem hltv, HX.out, hy])
               clear hy hAE hdr k1 k2 k3 k4 k5 hi1 hi2
               go_wp2_with fail
               go_roundg (n - (k + 1) + 1)
               case rel => exact ⟨_, _, _, _, Az, false, HATZ.out, by omega, hlen9', fun q => (by cases q), fun _ => ⟨k + 1, hlt, HK7.out, HV7.out, rfl, HDR7.out, HE7.out⟩⟩
               case measure => omega
             · clear k1 k3 k4 k5
               go_wp2_with fail
               go_roundg 0
               case rel => exact ⟨_, _, _, _, Az, true, HATZ.out, by omega, hlen9', fun _ => rfl, fun q => (by cases q)⟩
               case measure => omega
           · clear t4
             go_wp2_with fail
             refine (ptake_any (A := A4) (bad := true) 58 (by omega) HAT4.out.pb (by omega) t1).mono ?_
             rintro e w5 ⟨rfl, A5, b5, h1, h2, h3, h4, h5, h6, h7⟩
             obtain rfl : b5 = true := by
               cases b5
               · have := h3 rfl
                 cases this
               · rfl
             have hA5 : A5 ≤ s.size + 1 := by omega
             have HAT5 := Lib.hid (HAT4.out.grown h7 h6 hL hq0)
             clear h1 h2 h3 h4 h5 h6 h7
             have c5 := cells6 HAT5.out.out
             have hrk : RK w5 (fun r => q + 1 ≤ r ∧ r < w5.heap.size) ks' ka := by
               obtain ⟨ka', kc', eka, hrk⟩ := (mapR_lt HAT5.out.map).2.1.rk
               injection eka with e1
               rw [e1]
               exact hrk
             have HRK := Lib.hid hrk
             clear hrk
             go_wp2_with fail
             refine (has_any 6 0 ⟨#[]⟩ o none ka va 0 0 k kc k vc ks' HK.out (by omega) (fun r => q + 1 ≤ r ∧ r < w5.heap.size) w5 HRK.out (fun b h => h.2)).mono ?_
             rintro e w6 ⟨is, rfl, hb6, his⟩
             have HAT6 := Lib.hid (HAT5.out.grown (gr_below hb6) (keep hb6 HAT5.out.pb : PB L s A5 true w6) hL hq0)
             have HVAL : Hid (∀ W, PB L s A5 true W → Calls Tryz.prog 45 #[.pointer (some ⟨L, 0, none⟩), .int .i64 (deep + 1)] W (VEnd L s (s.size + 2) nullV W)) := Lib.hid (fun W hW => pvalue_bad (deep + 1) (s.size + 2) nullV hW hs hA5)
             have c6 := HAT6.out.pb.cells
             clear his hb6 c5
             cases is
             · go_wp2_with fail
               clear c6
               (have hdw : IntKind.i64.wrap (deep + 1) = deep + 1 := IntWalk.i64_in _ (by omega)
                refine wp_region_D (fun W => W.heap[q]? = some (.cells #[.int .i64 6, .int .i64 0, .string ⟨#[]⟩, .slice none 0 0, .slice ka k kc, .slice va k vc] 27 (0, 0))) [6, 7] (by kernel_rfl) ?_
                generalize hWd : World.drew w6 = W7
                have hS3 : W7.heap[q]? = some (.cells #[.int .i64 6, .int .i64 0, .string ⟨#[]⟩, .slice none 0 0, .slice ka k kc, .slice va k vc] 27 (0, 0)) := hWd ▸ HAT6.out.out
                have HAT7 : Hid (AtO L q s w ks' vs' (.slice ka k kc) (.slice va k vc) A5 true W7) := Lib.hid (by rw [← hWd]; exact HAT6.out.grown ⟨rfl, rfl, rfl, Nat.le_refl _, fun _ _ _ => rfl⟩ HAT6.out.pb hL hq0)
                clear hWd
                (refine wpAnyD_take (i := 0) (v := ?_) [6, 7] [6, 7] rfl (by kernel_rfl) (by kernel_rfl) (by kernel_rfl) (fun _ _ _ h => h) (by kernel_rfl) (by kernel_rfl) (by kernel_rfl) (Or.inl ⟨?_, ?_⟩) hS3 ?_
                 rotate_left
                 focus rfl
                 focus (intro w' hw'; have hw1 := cells6 hw'; clear hw'; go_simp; with_reducible rfl)
                 try go_simp)
                (refine wpAnyD_take (i := 1) (v := ?_) [6, 7] [6, 7] rfl (by kernel_rfl) (by kernel_rfl) (by kernel_rfl) (fun _ _ _ h => h) (by kernel_rfl) (by kernel_rfl) (by kernel_rfl) (Or.inl ⟨?_, ?_⟩) hS3 ?_
                 rotate_left
                 focus rfl
                 focus (intro w' hw'; have hw1 := cells6 hw'; clear hw'; go_simp; with_reducible rfl)
                 try go_simp)
                (refine wpAnyD_take (i := 2) (v := ?_) [5, 6, 7] [6, 7] rfl (by kernel_rfl) (by kernel_rfl) (by kernel_rfl) (fun _ _ _ h => h) (by kernel_rfl) (by kernel_rfl) (by kernel_rfl) (Or.inl ⟨?_, ?_⟩) hS3 ?_
                 rotate_left
                 focus rfl
                 focus (intro w' hw'; have hw1 := cells6 hw'; clear hw'; go_simp; with_reducible rfl)
                 try go_simp)
                (refine wpAnyD_take (i := 3) (v := ?_) [4, 5, 6, 7] [6, 7] rfl (by kernel_rfl) (by kernel_rfl) (by kernel_rfl) (fun _ _ _ h => h) (by kernel_rfl) (by kernel_rfl) (by kernel_rfl) (Or.inl ⟨?_, ?_⟩) hS3 ?_
                 rotate_left
                 focus rfl
                 focus (intro w' hw'; have hw1 := cells6 hw'; clear hw'; go_simp; with_reducible rfl)
                 try go_simp)
                (refine wpAnyD_take (i := 4) (v := ?_) [5, 6, 7] [6, 7] rfl (by kernel_rfl) (by kernel_rfl) (by kernel_rfl) (fun _ _ _ h => h) (by kernel_rfl) (by kernel_rfl) (by kernel_rfl) (Or.inl ⟨?_, ?_⟩) hS3 ?_
                 rotate_left
                 focus rfl
                 focus (intro w' hw'; have hw1 := cells6 hw'; clear hw'; go_simp; with_reducible rfl)
                 try go_simp)
                clear hdw
                refine wpAnyD_ready (rs := [5]) (by kernel_rfl) (by simp) ?_
                refine AllReadyD.cons rfl (fun K hK => ?_) AllReadyD.nil
                go_simp
                refine (HVAL.out W7 HAT7.out.pb).mono ?_
                rintro e w8 ⟨v, y, A8, b8, rfl, h1, h2, h3, h4, h5⟩
                obtain ⟨la, lc, ka3, kc3, va3, vc3, t1, m1', tx, q1, q2, q3, rfl, HXV⟩ := RV.parts h4
                have HAT8 := Lib.hid (HAT7.out.grown h2 h1 hL hq0)
                have hs7 := HAT7.out.siz
                have hs8 := h2.size
                have HGOOD := Lib.hid h5
                have hA8 := h3
                have HYV := Lib.hid (RV.mono (T := fun r => q + 1 ≤ r ∧ r < w8.heap.size) (fun _ _ => rfl) (fun b hb => ⟨by have hb' : W7.heap.size ≤ b := hb.1; omega, hb.2⟩) _ _ (RV.lt _ _ HXV.out))
                clear h1 h2 h3 h4 h5
                refine hK.out _ _ (fun _ => HAT8.out.out) ?_
                clear hK K hS3
                try go_simp
                refine wpAnyD_ready (rs := [6]) (by kernel_rfl) (by simp) ?_
                refine AllReadyD.cons rfl (fun K hK => ?_) AllReadyD.nil
                go_simp
                refine (with_any 6 0 ⟨#[]⟩ o (.slice ka k kc) (.slice va k vc) _ none 0 0 ks' vs' y (fun r => q + 1 ≤ r ∧ r < w8.heap.size) w8 (mapR_lt HAT8.out.map) (by rw [HK.out]; omega) HYV.out (fun b h => h.2)).mono ?_
                rintro e w9 ⟨i1, i2, kv2, vv2, rfl, hb9, hm9, hall9, hi1, hi2, hi3, hi4⟩
                unfold MapV
                have hm9' := hm9.mono (w' := w9) (T := fun r => q + 1 ≤ r) (fun _ _ => rfl) (fun b hb => by
                  rcases hb with hb | hb
                  · exact hb.1
                  · omega)
                have HAT9 := Lib.hid (HAT8.out.grown (gr_below hb9) (keep hb9 HAT8.out.pb : PB L s A8 b8 w9) hL hq0)
                obtain ⟨ka9, kc9, va9, vc9, rfl, rfl⟩ := mapR_slices hm9'
                have HM9 := Lib.hid hm9'
                have hlen9 : (ks'.take i1 ++ o :: ks'.drop i2).length ≤ n + 1 := by simp [HK.out]; rw [HK.out] at hi2 hi4; omega
                have HALL9 := Lib.hid hall9
                rw [HK.out] at HALL9
                obtain ⟨k9, hk9⟩ : ∃ k9, (ks'.take i1 ++ o :: ks'.drop i2).length = k9 := ⟨_, rfl⟩
                have hlen9' := hlen9
                rw [hk9] at HM9 hlen9 ⊢
                clear hm9 hm9' hb9 hall9 hi1 hi2 hi3 hi4 hk9
                refine hK.out _ _ (fun h => absurd h (by decide)) ?_
                clear hK K
                try go_simp
                have hcc := cells6 HAT9.out.out
                refine wpAnyD_ready (rs := [7]) (by kernel_rfl) (by simp) ?_
                refine AllReadyD.cons rfl (fun K hK => ?_) AllReadyD.nil
                go_simp
                refine hK.out _ _ (fun h => absurd h (by decide)) ?_
                clear hK K
                try go_simp
                refine wpAnyD_done (by kernel_rfl) ?_ _
                clear hcc
                generalize hWF : (((((World.setCell w9 _ _).setCell _ _).setCell _ _).setCell _ _).setCell _ _).setCell _ _ = WF
                have HATF := HAT9.out.put HM9.out hL hq0 hWF
                clear hWF
                go_wp2_with fail
                refine (pskip_any HATF.pb (by omega) (by omega)).mono ?_
                rintro e wz ⟨rfl, Az, k1, k2, k3, k4, k5⟩
                have HATZ := Lib.hid (HATF.grown k5 k4 hL hq0))
               cases b8
               · have := (HGOOD.out rfl).2
                 omega
               clear k1 k3 k4 k5
               go_wp2_with fail
               go_roundg 0
               case rel => exact ⟨_, _, _, _, Az, true, HATZ.out, by omega, hlen9', fun _ => rfl, fun q => (by cases q)⟩
               case measure => omega
             · go_wp2_with fail
               generalize hX6 : World.setCell w6 _ _ = w6b
               have HAT6' := Lib.hid (HAT6.out.grown (hX6 ▸ Va.gr_set w6 L 2 (.bool true) : w6.grownBy w6b (some L)) (hX6 ▸ HAT6.out.pb.set2 true : PB L s A5 true w6b) hL hq0)
               clear c6 hX6 HAT6
               have HAT6 := Lib.hid HAT6'.out
               clear HAT6'
               (have hdw : IntKind.i64.wrap (deep + 1) = deep + 1 := IntWalk.i64_in _ (by omega)
                refine wp_region_D (fun W => W.heap[q]? = some (.cells #[.int .i64 6, .int .i64 0, .string ⟨#[]⟩, .slice none 0 0, .slice ka k kc, .slice va k vc] 27 (0, 0))) [6, 7] (by kernel_rfl) ?_
                generalize hWd : World.drew w6b = W7
                have hS3 : W7.heap[q]? = some (.cells #[.int .i64 6, .int .i64 0, .string ⟨#[]⟩, .slice none 0 0, .slice ka k kc, .slice va k vc] 27 (0, 0)) := hWd ▸ HAT6.out.out
                have HAT7 : Hid (AtO L q s w ks' vs' (.slice ka k kc) (.slice va k vc) A5 true W7) := Lib.hid (by rw [← hWd]; exact HAT6.out.grown ⟨rfl, rfl, rfl, Nat.le_refl _, fun _ _ _ => rfl⟩ HAT6.out.pb hL hq0)
                clear hWd
                (refine wpAnyD_take (i := 0) (v := ?_) [6, 7] [6, 7] rfl (by kernel_rfl) (by kernel_rfl) (by kernel_rfl) (fun _ _ _ h => h) (by kernel_rfl) (by kernel_rfl) (by kernel_rfl) (Or.inl ⟨?_, ?_⟩) hS3 ?_
                 rotate_left
                 focus rfl
                 focus (intro w' hw'; have hw1 := cells6 hw'; clear hw'; go_simp; with_reducible rfl)
                 try go_simp)
                (refine wpAnyD_take (i := 1) (v := ?_) [6, 7] [6, 7] rfl (by kernel_rfl) (by kernel_rfl) (by kernel_rfl) (fun _ _ _ h => h) (by kernel_rfl) (by kernel_rfl) (by kernel_rfl) (Or.inl ⟨?_, ?_⟩) hS3 ?_
                 rotate_left
                 focus rfl
                 focus (intro w' hw'; have hw1 := cells6 hw'; clear hw'; go_simp; with_reducible rfl)
                 try go_simp)
                (refine wpAnyD_take (i := 2) (v := ?_) [5, 6, 7] [6, 7] rfl (by kernel_rfl) (by kernel_rfl) (by kernel_rfl) (fun _ _ _ h => h) (by kernel_rfl) (by kernel_rfl) (by kernel_rfl) (Or.inl ⟨?_, ?_⟩) hS3 ?_
                 rotate_left
                 focus rfl
                 focus (intro w' hw'; have hw1 := cells6 hw'; clear hw'; go_simp; with_reducible rfl)
                 try go_simp)
                (refine wpAnyD_take (i := 3) (v := ?_) [4, 5, 6, 7] [6, 7] rfl (by kernel_rfl) (by kernel_rfl) (by kernel_rfl) (fun _ _ _ h => h) (by kernel_rfl) (by kernel_rfl) (by kernel_rfl) (Or.inl ⟨?_, ?_⟩) hS3 ?_
                 rotate_left
                 focus rfl
                 focus (intro w' hw'; have hw1 := cells6 hw'; clear hw'; go_simp; with_reducible rfl)
                 try go_simp)
                (refine wpAnyD_take (i := 4) (v := ?_) [5, 6, 7] [6, 7] rfl (by kernel_rfl) (by kernel_rfl) (by kernel_rfl) (fun _ _ _ h => h) (by kernel_rfl) (by kernel_rfl) (by kernel_rfl) (Or.inl ⟨?_, ?_⟩) hS3 ?_
                 rotate_left
                 focus rfl
                 focus (intro w' hw'; have hw1 := cells6 hw'; clear hw'; go_simp; with_reducible rfl)
                 try go_simp)
                clear hdw
                refine wpAnyD_ready (rs := [5]) (by kernel_rfl) (by simp) ?_
                refine AllReadyD.cons rfl (fun K hK => ?_) AllReadyD.nil
                go_simp
                refine (HVAL.out W7 HAT7.out.pb).mono ?_
                rintro e w8 ⟨v, y, A8, b8, rfl, h1, h2, h3, h4, h5⟩
                obtain ⟨la, lc, ka3, kc3, va3, vc3, t1, m1', tx, q1, q2, q3, rfl, HXV⟩ := RV.parts h4
                have HAT8 := Lib.hid (HAT7.out.grown h2 h1 hL hq0)
                have hs7 := HAT7.out.siz
                have hs8 := h2.size
                have HGOOD := Lib.hid h5
                have hA8 := h3
                have HYV := Lib.hid (RV.mono (T := fun r => q + 1 ≤ r ∧ r < w8.heap.size) (fun _ _ => rfl) (fun b hb => ⟨by have hb' : W7.heap.size ≤ b := hb.1; omega, hb.2⟩) _ _ (RV.lt _ _ HXV.out))
                clear h1 h2 h3 h4 h5
                refine hK.out _ _ (fun _ => HAT8.out.out) ?_
                clear hK K hS3
                try go_simp
                refine wpAnyD_ready (rs := [6]) (by kernel_rfl) (by simp) ?_
                refine AllReadyD.cons rfl (fun K hK => ?_) AllReadyD.nil
                go_simp
                refine (with_any 6 0 ⟨#[]⟩ o (.slice ka k kc) (.slice va k vc) _ none 0 0 ks' vs' y (fun r => q + 1 ≤ r ∧ r < w8.heap.size) w8 (mapR_lt HAT8.out.map) (by rw [HK.out]; omega) HYV.out (fun b h => h.2)).mono ?_
                rintro e w9 ⟨i1, i2, kv2, vv2, rfl, hb9, hm9, hall9, hi1, hi2, hi3, hi4⟩
                unfold MapV
                have hm9' := hm9.mono (w' := w9) (T := fun r => q + 1 ≤ r) (fun _ _ => rfl) (fun b hb => by
                  rcases hb with hb | hb
                  · exact hb.1
                  · omega)
                have HAT9 := Lib.hid (HAT8.out.grown (gr_below hb9) (keep hb9 HAT8.out.pb : PB L s A8 b8 w9) hL hq0)
                obtain ⟨ka9, kc9, va9, vc9, rfl, rfl⟩ := mapR_slices hm9'
                have HM9 := Lib.hid hm9'
                have hlen9 : (ks'.take i1 ++ o :: ks'.drop i2).length ≤ n + 1 := by simp [HK.out]; rw [HK.out] at hi2 hi4; omega
                have HALL9 := Lib.hid hall9
                rw [HK.out] at HALL9
                obtain ⟨k9, hk9⟩ : ∃ k9, (ks'.take i1 ++ o :: ks'.drop i2).length = k9 := ⟨_, rfl⟩
                have hlen9' := hlen9
                rw [hk9] at HM9 hlen9 ⊢
                clear hm9 hm9' hb9 hall9 hi1 hi2 hi3 hi4 hk9
                refine hK.out _ _ (fun h => absurd h (by decide)) ?_
                clear hK K
                try go_simp
                have hcc := cells6 HAT9.out.out
                refine wpAnyD_ready (rs := [7]) (by kernel_rfl) (by simp) ?_
                refine AllReadyD.cons rfl (fun K hK => ?_) AllReadyD.nil
                go_simp
                refine hK.out _ _ (fun h => absurd h (by decide)) ?_
                clear hK K
                try go_simp
                refine wpAnyD_done (by kernel_rfl) ?_ _
                clear hcc
                generalize hWF : (((((World.setCell w9 _ _).setCell _ _).setCell _ _).setCell _ _).setCell _ _).setCell _ _ = WF
                have HATF := HAT9.out.put HM9.out hL hq0 hWF
                clear hWF
                go_wp2_with fail
                refine (pskip_any HATF.pb (by omega) (by omega)).mono ?_
                rintro e wz ⟨rfl, Az, k1, k2, k3, k4, k5⟩
                have HATZ := Lib.hid (HATF.grown k5 k4 hL hq0))
               cases b8
               · have := (HGOOD.out rfl).2
                 omega
               clear k1 k3 k4 k5
               go_wp2_with fail
               go_roundg 0
               case rel => exact ⟨_, _, _, _, Az, true, HATZ.out, by omega, hlen9', fun _ => rfl, fun q => (by cases q)⟩
               case measure => omega)
        · have hval2 : (bytesN s).drop A' = Ma.encStr (bytesN KEY) ++ 58 :: (encJ X ++ (restM vs ks (k + 1) ++ 125 :: R)) := by have := hval; unfold comma at this; rw [if_neg h0] at this; exact this
          have HDT := Lib.hid hval2
          have HLEN : Hid (A' + (Ma.encStr (bytesN KEY)).length + 1 + (encJ X).length + (restM vs ks (k + 1)).length + 1 = E) := Lib.hid (by have := hlen; unfold comma at this; rw [if_neg h0] at this; exact this)
          have h0' : ¬ (0 : Int) < (k : Int) := by omega
          clear hval hlen hval2 hX hKEY hc hc44 hcb
          go_wp2_with fail
          refine Calls.mono (HNX.out _ ?_) ?_
          focus exact HAT.out.pb
          rintro e _ ⟨rfl, m1, rfl⟩
          have HATT := Lib.hid (HAT.out.grown (gr_dn3 m1 (gr_refl wr _)) (HAT.out.pb.drewN m1) hL hq0)
          clear c1 c2
          have c2 := cells6 HATT.out.out
          go_wp2_with fail
          clear c2
          (refine Calls.mono (ptext_any (A := A') ?_ hs KEY (58 :: (encJ X ++ (restM vs ks (k + 1) ++ 125 :: R))) HDT.out) ?_
           focus exact HATT.out.pb
           rintro e w4 ⟨o, A4, bt, rfl, t1, t2, t3, t4⟩
           have HAT4 := Lib.hid (HATT.out.grown t3 t2 hL hq0)
           clear t2 t3
           cases bt
           · obtain ⟨ho, hA4⟩ := t4 rfl
             obtain rfl := ho.symm
             have h58 : (bytesN s).drop A4 = 58 :: (encJ X ++ (restM vs ks (k + 1) ++ 125 :: R)) := by rw [hA4, ← List.drop_drop, HDT.out, List.drop_left]
             have hdv : (bytesN s).drop (A4 + 1) = encJ X ++ (restM vs ks (k + 1) ++ 125 :: R) := by rw [← List.drop_drop, h58]; rfl
             have HB4 := Lib.hid (byt_head h58)
             have HDV := Lib.hid hdv
             have hlen4 : A4 + 1 + (encJ X).length + (restM vs ks (k + 1)).length + 1 = E := by have := HLEN.out; omega
             have HLEN4 := Lib.hid hlen4
             clear t4 h58 hdv hA4 hlen4
             go_wp2_with fail
             refine (ptake_any (A := A4) (bad := false) 58 (by omega) HAT4.out.pb (by omega) t1).mono ?_
             rintro e w5 ⟨rfl, A5, b5, h1, h2, h3, h4, h5, h6, h7⟩
             obtain rfl : b5 = false := h5 HB4.out rfl
             obtain ⟨_, rfl⟩ := h4 (by rw [HB4.out]; rfl) rfl
             have HAT5 := Lib.hid (HAT4.out.grown h7 h6 hL hq0)
             clear h1 h2 h3 h4 h5 h6 h7
             have c5 := cells6 HAT5.out.out
             have hrk : RK w5 (fun r => q + 1 ≤ r ∧ r < w5.heap.size) ks' ka := by
               obtain ⟨ka', kc', eka, hrk⟩ := (mapR_lt HAT5.out.map).2.1.rk
               injection eka with e1
               rw [e1]
               exact hrk
             have HRK := Lib.hid hrk
             clear hrk
             go_wp2_with fail
             refine (has_any 6 0 ⟨#[]⟩ KEY none ka va 0 0 k kc k vc ks' HK.out (by omega) (fun r => q + 1 ≤ r ∧ r < w5.heap.size) w5 HRK.out (fun b h => h.2)).mono ?_
             rintro e w6 ⟨is, rfl, hb6, his⟩
             have HAT6 := Lib.hid (HAT5.out.grown (gr_below hb6) (keep hb6 HAT5.out.pb : PB L s (A4 + 1) false w6) hL hq0)
             obtain rfl : is = false := his (by rw [HKS.out]; exact HLESS.out)
             have HVAL : Hid (∀ W, PB L s (A4 + 1) false W → Calls Tryz.prog 45 #[.pointer (some ⟨L, 0, none⟩), .int .i64 (deep + 1)] W (VEnd L s (A4 + 1 + (encJ X).length) X W)) := Lib.hid (fun W hW => HIX.out (deep + 1) L s (A4 + 1) (restM vs ks (k + 1) ++ 125 :: R) W (by omega) (by omega) hW HDV.out (restM_head vs ks k HLL.out R) hs)
             clear his hb6 c5
             go_wp2_with fail
             (have hdw : IntKind.i64.wrap (deep + 1) = deep + 1 := IntWalk.i64_in _ (by omega)
              refine wp_region_D (fun W => W.heap[q]? = some (.cells #[.int .i64 6, .int .i64 0, .string ⟨#[]⟩, .slice none 0 0, .slice ka k kc, .slice va k vc] 27 (0, 0))) [6, 7] (by kernel_rfl) ?_
              generalize hWd : World.drew w6 = W7
              have hS3 : W7.heap[q]? = some (.cells #[.int .i64 6, .int .i64 0, .string ⟨#[]⟩, .slice none 0 0, .slice ka k kc, .slice va k vc] 27 (0, 0)) := hWd ▸ HAT6.out.out
              have HAT7 : Hid (AtO L q s w ks' vs' (.slice ka k kc) (.slice va k vc) (A4 + 1) false W7) := Lib.hid (by rw [← hWd]; exact HAT6.out.grown ⟨rfl, rfl, rfl, Nat.le_refl _, fun _ _ _ => rfl⟩ HAT6.out.pb hL hq0)
              clear hWd
              (refine wpAnyD_take (i := 0) (v := ?_) [6, 7] [6, 7] rfl (by kernel_rfl) (by kernel_rfl) (by kernel_rfl) (fun _ _ _ h => h) (by kernel_rfl) (by kernel_rfl) (by kernel_rfl) (Or.inl ⟨?_, ?_⟩) hS3 ?_
               rotate_left
               focus rfl
               focus (intro w' hw'; have hw1 := cells6 hw'; clear hw'; go_simp; with_reducible rfl)
               try go_simp)
              (refine wpAnyD_take (i := 1) (v := ?_) [6, 7] [6, 7] rfl (by kernel_rfl) (by kernel_rfl) (by kernel_rfl) (fun _ _ _ h => h) (by kernel_rfl) (by kernel_rfl) (by kernel_rfl) (Or.inl ⟨?_, ?_⟩) hS3 ?_
               rotate_left
               focus rfl
               focus (intro w' hw'; have hw1 := cells6 hw'; clear hw'; go_simp; with_reducible rfl)
               try go_simp)
              (refine wpAnyD_take (i := 2) (v := ?_) [5, 6, 7] [6, 7] rfl (by kernel_rfl) (by kernel_rfl) (by kernel_rfl) (fun _ _ _ h => h) (by kernel_rfl) (by kernel_rfl) (by kernel_rfl) (Or.inl ⟨?_, ?_⟩) hS3 ?_
               rotate_left
               focus rfl
               focus (intro w' hw'; have hw1 := cells6 hw'; clear hw'; go_simp; with_reducible rfl)
               try go_simp)
              (refine wpAnyD_take (i := 3) (v := ?_) [4, 5, 6, 7] [6, 7] rfl (by kernel_rfl) (by kernel_rfl) (by kernel_rfl) (fun _ _ _ h => h) (by kernel_rfl) (by kernel_rfl) (by kernel_rfl) (Or.inl ⟨?_, ?_⟩) hS3 ?_
               rotate_left
               focus rfl
               focus (intro w' hw'; have hw1 := cells6 hw'; clear hw'; go_simp; with_reducible rfl)
               try go_simp)
              (refine wpAnyD_take (i := 4) (v := ?_) [5, 6, 7] [6, 7] rfl (by kernel_rfl) (by kernel_rfl) (by kernel_rfl) (fun _ _ _ h => h) (by kernel_rfl) (by kernel_rfl) (by kernel_rfl) (Or.inl ⟨?_, ?_⟩) hS3 ?_
               rotate_left
               focus rfl
               focus (intro w' hw'; have hw1 := cells6 hw'; clear hw'; go_simp; with_reducible rfl)
               try go_simp)
              clear hdw
              refine wpAnyD_ready (rs := [5]) (by kernel_rfl) (by simp) ?_
              refine AllReadyD.cons rfl (fun K hK => ?_) AllReadyD.nil
              go_simp
              refine (HVAL.out W7 HAT7.out.pb).mono ?_
              rintro e w8 ⟨v, y, A8, b8, rfl, h1, h2, h3, h4, h5⟩
              obtain ⟨la, lc, ka3, kc3, va3, vc3, t1, m1', tx, q1, q2, q3, rfl, HXV⟩ := RV.parts h4
              have HAT8 := Lib.hid (HAT7.out.grown h2 h1 hL hq0)
              have hs7 := HAT7.out.siz
              have hs8 := h2.size
              have HGOOD := Lib.hid h5
              have hA8 := h3
              have HYV := Lib.hid (RV.mono (T := fun r => q + 1 ≤ r ∧ r < w8.heap.size) (fun _ _ => rfl) (fun b hb => ⟨by have hb' : W7.heap.size ≤ b := hb.1; omega, hb.2⟩) _ _ (RV.lt _ _ HXV.out))
              clear h1 h2 h3 h4 h5
              refine hK.out _ _ (fun _ => HAT8.out.out) ?_
              clear hK K hS3
              try go_simp
              refine wpAnyD_ready (rs := [6]) (by kernel_rfl) (by simp) ?_
              refine AllReadyD.cons rfl (fun K hK => ?_) AllReadyD.nil
              go_simp
              refine (with_any 6 0 ⟨#[]⟩ KEY (.slice ka k kc) (.slice va k vc) _ none 0 0 ks' vs' y (fun r => q + 1 ≤ r ∧ r < w8.heap.size) w8 (mapR_lt HAT8.out.map) (by rw [HK.out]; omega) HYV.out (fun b h => h.2)).mono ?_
              rintro e w9 ⟨i1, i2, kv2, vv2, rfl, hb9, hm9, hall9, hi1, hi2, hi3, hi4⟩
              unfold MapV
              have hm9' := hm9.mono (w' := w9) (T := fun r => q + 1 ≤ r) (fun _ _ => rfl) (fun b hb => by
                rcases hb with hb | hb
                · exact hb.1
                · omega)
              have HAT9 := Lib.hid (HAT8.out.grown (gr_below hb9) (keep hb9 HAT8.out.pb : PB L s A8 b8 w9) hL hq0)
              obtain ⟨ka9, kc9, va9, vc9, rfl, rfl⟩ := mapR_slices hm9'
              have HM9 := Lib.hid hm9'
              have hlen9 : (ks'.take i1 ++ KEY :: ks'.drop i2).length ≤ n + 1 := by simp [HK.out]; rw [HK.out] at hi2 hi4; omega
              have HALL9 := Lib.hid hall9
              rw [HK.out] at HALL9
              obtain ⟨k9, hk9⟩ : ∃ k9, (ks'.take i1 ++ KEY :: ks'.drop i2).length = k9 := ⟨_, rfl⟩
              have hlen9' := hlen9
              rw [hk9] at HM9 hlen9 ⊢
              clear hm9 hm9' hb9 hall9 hi1 hi2 hi3 hi4 hk9
              refine hK.out _ _ (fun h => absurd h (by decide)) ?_
              clear hK K
              try go_simp
              have hcc := cells6 HAT9.out.out
              refine wpAnyD_ready (rs := [7]) (by kernel_rfl) (by simp) ?_
              refine AllReadyD.cons rfl (fun K hK => ?_) AllReadyD.nil
              go_simp
              refine hK.out _ _ (fun h => absurd h (by decide)) ?_
              clear hK K
              try go_simp
              refine wpAnyD_done (by kernel_rfl) ?_ _
              clear hcc
              generalize hWF : (((((World.setCell w9 _ _).setCell _ _).setCell _ _).setCell _ _).setCell _ _).setCell _ _ = WF
              have HATF := HAT9.out.put HM9.out hL hq0 hWF
              clear hWF
              go_wp2_with fail
              refine (pskip_any HATF.pb (by omega) (by omega)).mono ?_
              rintro e wz ⟨rfl, Az, k1, k2, k3, k4, k5⟩
              have HATZ := Lib.hid (HATF.grown k5 k4 hL hq0))
             cases b8
             · obtain ⟨hy, hAE⟩ := HGOOD.out rfl
               have hdr : (bytesN s).drop A8 = restM vs ks (k + 1) ++ 125 :: R := by rw [hAE, ← List.drop_drop, HDV.out, List.drop_left]
               obtain rfl : Az = A8 := k3 (restM_nb HLL.out hdr hltv)
               obtain ⟨hi1, hi2⟩ := HALL9.out (by rw [HKS.out]; exact HLESS.out)
               have HDR7 := Lib.hid hdr
               have HE7 : Hid (Az + (restM vs ks (k + 1)).length + 1 = E) := Lib.hid (by rw [hAE]; exact HLEN4.out)
               have HK7 : Hid (ks'.take i1 ++ KEY :: ks'.drop i2 = ks.take (k + 1)) := Lib.hid (by rw [hi1, hi2, List.take_of_length_le (Nat.le_of_eq HK.out), List.drop_eq_nil_of_le (Nat.le_of_eq HK.out), HKS.out, List.take_succ_eq_append_getElem hltk, HKEY.out])
               have hvl : vs'.length = k := by rw [HVS.out, List.length_take]; omega
               have HV7 : Hid (vs'.take i1 ++ y :: vs'.drop i2 = vs.take (k + 1)) := Lib.hid (by rw [hi1, hi2, List.take_of_length_le (Nat.le_of_eq hvl), List.drop_eq_nil_of_le (Nat.le_of_eq hvl), HVS.out, List.take_succ_eq_append_getElem hltv, HX.out, hy])
               clear hy hAE hdr k1 k2 k3 k4 k5 hi1 hi2
               go_wp2_with fail
               go_roundg (n - (k + 1) + 1)
               case rel => exact ⟨_, _, _, _, Az, false, HATZ.out, by omega, hlen9', fun q => (by cases q), fun _ => ⟨k + 1, hlt, HK7.out, HV7.out, rfl, HDR7.out, HE7.out⟩⟩
               case measure => omega
             · clear k1 k3 k4 k5
               go_wp2_with fail
               go_roundg 0
               case rel => exact ⟨_, _, _, _, Az, true, HATZ.out, by omega, hlen9', fun _ => rfl, fun q => (by cases q)⟩
               case measure => omega
           · clear t4
             go_wp2_with fail
             refine (ptake_any (A := A4) (bad := true) 58 (by omega) HAT4.out.pb (by omega) t1).mono ?_
             rintro e w5 ⟨rfl, A5, b5, h1, h2, h3, h4, h5, h6, h7⟩
             obtain rfl : b5 = true := by
               cases b5
               · have := h3 rfl
                 cases this
               · rfl
             have hA5 : A5 ≤ s.size + 1 := by omega
             have HAT5 := Lib.hid (HAT4.out.grown h7 h6 hL hq0)
             clear h1 h2 h3 h4 h5 h6 h7
             have c5 := cells6 HAT5.out.out
             have hrk : RK w5 (fun r => q + 1 ≤ r ∧ r < w5.heap.size) ks' ka := by
               obtain ⟨ka', kc', eka, hrk⟩ := (mapR_lt HAT5.out.map).2.1.rk
               injection eka with e1
               rw [e1]
               exact hrk
             have HRK := Lib.hid hrk
             clear hrk
             go_wp2_with fail
             refine (has_any 6 0 ⟨#[]⟩ o none ka va 0 0 k kc k vc ks' HK.out (by omega) (fun r => q + 1 ≤ r ∧ r < w5.heap.size) w5 HRK.out (fun b h => h.2)).mono ?_
             rintro e w6 ⟨is, rfl, hb6, his⟩
             have HAT6 := Lib.hid (HAT5.out.grown (gr_below hb6) (keep hb6 HAT5.out.pb : PB L s A5 true w6) hL hq0)
             have HVAL : Hid (∀ W, PB L s A5 true W → Calls Tryz.prog 45 #[.pointer (some ⟨L, 0, none⟩), .int .i64 (deep + 1)] W (VEnd L s (s.size + 2) nullV W)) := Lib.hid (fun W hW => pvalue_bad (deep + 1) (s.size + 2) nullV hW hs hA5)
             have c6 := HAT6.out.pb.cells
             clear his hb6 c5
             cases is
             · go_wp2_with fail
               clear c6
               (have hdw : IntKind.i64.wrap (deep + 1) = deep + 1 := IntWalk.i64_in _ (by omega)
                refine wp_region_D (fun W => W.heap[q]? = some (.cells #[.int .i64 6, .int .i64 0, .string ⟨#[]⟩, .slice none 0 0, .slice ka k kc, .slice va k vc] 27 (0, 0))) [6, 7] (by kernel_rfl) ?_
                generalize hWd : World.drew w6 = W7
                have hS3 : W7.heap[q]? = some (.cells #[.int .i64 6, .int .i64 0, .string ⟨#[]⟩, .slice none 0 0, .slice ka k kc, .slice va k vc] 27 (0, 0)) := hWd ▸ HAT6.out.out
                have HAT7 : Hid (AtO L q s w ks' vs' (.slice ka k kc) (.slice va k vc) A5 true W7) := Lib.hid (by rw [← hWd]; exact HAT6.out.grown ⟨rfl, rfl, rfl, Nat.le_refl _, fun _ _ _ => rfl⟩ HAT6.out.pb hL hq0)
                clear hWd
                (refine wpAnyD_take (i := 0) (v := ?_) [6, 7] [6, 7] rfl (by kernel_rfl) (by kernel_rfl) (by kernel_rfl) (fun _ _ _ h => h) (by kernel_rfl) (by kernel_rfl) (by kernel_rfl) (Or.inl ⟨?_, ?_⟩) hS3 ?_
                 rotate_left
                 focus rfl
                 focus (intro w' hw'; have hw1 := cells6 hw'; clear hw'; go_simp; with_reducible rfl)
                 try go_simp)
                (refine wpAnyD_take (i := 1) (v := ?_) [6, 7] [6, 7] rfl (by kernel_rfl) (by kernel_rfl) (by kernel_rfl) (fun _ _ _ h => h) (by kernel_rfl) (by kernel_rfl) (by kernel_rfl) (Or.inl ⟨?_, ?_⟩) hS3 ?_
                 rotate_left
                 focus rfl
                 focus (intro w' hw'; have hw1 := cells6 hw'; clear hw'; go_simp; with_reducible rfl)
                 try go_simp)
                (refine wpAnyD_take (i := 2) (v := ?_) [5, 6, 7] [6, 7] rfl (by kernel_rfl) (by kernel_rfl) (by kernel_rfl) (fun _ _ _ h => h) (by kernel_rfl) (by kernel_rfl) (by kernel_rfl) (Or.inl ⟨?_, ?_⟩) hS3 ?_
                 rotate_left
                 focus rfl
                 focus (intro w' hw'; have hw1 := cells6 hw'; clear hw'; go_simp; with_reducible rfl)
                 try go_simp)
                (refine wpAnyD_take (i := 3) (v := ?_) [4, 5, 6, 7] [6, 7] rfl (by kernel_rfl) (by kernel_rfl) (by kernel_rfl) (fun _ _ _ h => h) (by kernel_rfl) (by kernel_rfl) (by kernel_rfl) (Or.inl ⟨?_, ?_⟩) hS3 ?_
                 rotate_left
                 focus rfl
                 focus (intro w' hw'; have hw1 := cells6 hw'; clear hw'; go_simp; with_reducible rfl)
                 try go_simp)
                (refine wpAnyD_take (i := 4) (v := ?_) [5, 6, 7] [6, 7] rfl (by kernel_rfl) (by kernel_rfl) (by kernel_rfl) (fun _ _ _ h => h) (by kernel_rfl) (by kernel_rfl) (by kernel_rfl) (Or.inl ⟨?_, ?_⟩) hS3 ?_
                 rotate_left
                 focus rfl
                 focus (intro w' hw'; have hw1 := cells6 hw'; clear hw'; go_simp; with_reducible rfl)
                 try go_simp)
                clear hdw
                refine wpAnyD_ready (rs := [5]) (by kernel_rfl) (by simp) ?_
                refine AllReadyD.cons rfl (fun K hK => ?_) AllReadyD.nil
                go_simp
                refine (HVAL.out W7 HAT7.out.pb).mono ?_
                rintro e w8 ⟨v, y, A8, b8, rfl, h1, h2, h3, h4, h5⟩
                obtain ⟨la, lc, ka3, kc3, va3, vc3, t1, m1', tx, q1, q2, q3, rfl, HXV⟩ := RV.parts h4
                have HAT8 := Lib.hid (HAT7.out.grown h2 h1 hL hq0)
                have hs7 := HAT7.out.siz
                have hs8 := h2.size
                have HGOOD := Lib.hid h5
                have hA8 := h3
                have HYV := Lib.hid (RV.mono (T := fun r => q + 1 ≤ r ∧ r < w8.heap.size) (fun _ _ => rfl) (fun b hb => ⟨by have hb' : W7.heap.size ≤ b := hb.1; omega, hb.2⟩) _ _ (RV.lt _ _ HXV.out))
                clear h1 h2 h3 h4 h5
                refine hK.out _ _ (fun _ => HAT8.out.out) ?_
                clear hK K hS3
                try go_simp
                refine wpAnyD_ready (rs := [6]) (by kernel_rfl) (by simp) ?_
                refine AllReadyD.cons rfl (fun K hK => ?_) AllReadyD.nil
                go_simp
                refine (with_any 6 0 ⟨#[]⟩ o (.slice ka k kc) (.slice va k vc) _ none 0 0 ks' vs' y (fun r => q + 1 ≤ r ∧ r < w8.heap.size) w8 (mapR_lt HAT8.out.map) (by rw [HK.out]; omega) HYV.out (fun b h => h.2)).mono ?_
                rintro e w9 ⟨i1, i2, kv2, vv2, rfl, hb9, hm9, hall9, hi1, hi2, hi3, hi4⟩
                unfold MapV
                have hm9' := hm9.mono (w' := w9) (T := fun r => q + 1 ≤ r) (fun _ _ => rfl) (fun b hb => by
                  rcases hb with hb | hb
                  · exact hb.1
                  · omega)
                have HAT9 := Lib.hid (HAT8.out.grown (gr_below hb9) (keep hb9 HAT8.out.pb : PB L s A8 b8 w9) hL hq0)
                obtain ⟨ka9, kc9, va9, vc9, rfl, rfl⟩ := mapR_slices hm9'
                have HM9 := Lib.hid hm9'
                have hlen9 : (ks'.take i1 ++ o :: ks'.drop i2).length ≤ n + 1 := by simp [HK.out]; rw [HK.out] at hi2 hi4; omega
                have HALL9 := Lib.hid hall9
                rw [HK.out] at HALL9
                obtain ⟨k9, hk9⟩ : ∃ k9, (ks'.take i1 ++ o :: ks'.drop i2).length = k9 := ⟨_, rfl⟩
                have hlen9' := hlen9
                rw [hk9] at HM9 hlen9 ⊢
                clear hm9 hm9' hb9 hall9 hi1 hi2 hi3 hi4 hk9
                refine hK.out _ _ (fun h => absurd h (by decide)) ?_
                clear hK K
                try go_simp
                have hcc := cells6 HAT9.out.out
                refine wpAnyD_ready (rs := [7]) (by kernel_rfl) (by simp) ?_
                refine AllReadyD.cons rfl (fun K hK => ?_) AllReadyD.nil
                go_simp
                refine hK.out _ _ (fun h => absurd h (by decide)) ?_
                clear hK K
                try go_simp
                refine wpAnyD_done (by kernel_rfl) ?_ _
                clear hcc
                generalize hWF : (((((World.setCell w9 _ _).setCell _ _).setCell _ _).setCell _ _).setCell _ _).setCell _ _ = WF
                have HATF := HAT9.out.put HM9.out hL hq0 hWF
                clear hWF
                go_wp2_with fail
                refine (pskip_any HATF.pb (by omega) (by omega)).mono ?_
                rintro e wz ⟨rfl, Az, k1, k2, k3, k4, k5⟩
                have HATZ := Lib.hid (HATF.grown k5 k4 hL hq0))
               cases b8
               · have := (HGOOD.out rfl).2
                 omega
               clear k1 k3 k4 k5
               go_wp2_with fail
               go_roundg 0
               case rel => exact ⟨_, _, _, _, Az, true, HATZ.out, by omega, hlen9', fun _ => rfl, fun q => (by cases q)⟩
               case measure => omega
             · go_wp2_with fail
               generalize hX6 : World.setCell w6 _ _ = w6b
               have HAT6' := Lib.hid (HAT6.out.grown (hX6 ▸ Va.gr_set w6 L 2 (.bool true) : w6.grownBy w6b (some L)) (hX6 ▸ HAT6.out.pb.set2 true : PB L s A5 true w6b) hL hq0)
               clear c6 hX6 HAT6
               have HAT6 := Lib.hid HAT6'.out
               clear HAT6'
               (have hdw : IntKind.i64.wrap (deep + 1) = deep + 1 := IntWalk.i64_in _ (by omega)
                refine wp_region_D (fun W => W.heap[q]? = some (.cells #[.int .i64 6, .int .i64 0, .string ⟨#[]⟩, .slice none 0 0, .slice ka k kc, .slice va k vc] 27 (0, 0))) [6, 7] (by kernel_rfl) ?_
                generalize hWd : World.drew w6b = W7
                have hS3 : W7.heap[q]? = some (.cells #[.int .i64 6, .int .i64 0, .string ⟨#[]⟩, .slice none 0 0, .slice ka k kc, .slice va k vc] 27 (0, 0)) := hWd ▸ HAT6.out.out
                have HAT7 : Hid (AtO L q s w ks' vs' (.slice ka k kc) (.slice va k vc) A5 true W7) := Lib.hid (by rw [← hWd]; exact HAT6.out.grown ⟨rfl, rfl, rfl, Nat.le_refl _, fun _ _ _ => rfl⟩ HAT6.out.pb hL hq0)
                clear hWd
                (refine wpAnyD_take (i := 0) (v := ?_) [6, 7] [6, 7] rfl (by kernel_rfl) (by kernel_rfl) (by kernel_rfl) (fun _ _ _ h => h) (by kernel_rfl) (by kernel_rfl) (by kernel_rfl) (Or.inl ⟨?_, ?_⟩) hS3 ?_
                 rotate_left
                 focus rfl
                 focus (intro w' hw'; have hw1 := cells6 hw'; clear hw'; go_simp; with_reducible rfl)
                 try go_simp)
                (refine wpAnyD_take (i := 1) (v := ?_) [6, 7] [6, 7] rfl (by kernel_rfl) (by kernel_rfl) (by kernel_rfl) (fun _ _ _ h => h) (by kernel_rfl) (by kernel_rfl) (by kernel_rfl) (Or.inl ⟨?_, ?_⟩) hS3 ?_
                 rotate_left
                 focus rfl
                 focus (intro w' hw'; have hw1 := cells6 hw'; clear hw'; go_simp; with_reducible rfl)
                 try go_simp)
                (refine wpAnyD_take (i := 2) (v := ?_) [5, 6, 7] [6, 7] rfl (by kernel_rfl) (by kernel_rfl) (by kernel_rfl) (fun _ _ _ h => h) (by kernel_rfl) (by kernel_rfl) (by kernel_rfl) (Or.inl ⟨?_, ?_⟩) hS3 ?_
                 rotate_left
                 focus rfl
                 focus (intro w' hw'; have hw1 := cells6 hw'; clear hw'; go_simp; with_reducible rfl)
                 try go_simp)
                (refine wpAnyD_take (i := 3) (v := ?_) [4, 5, 6, 7] [6, 7] rfl (by kernel_rfl) (by kernel_rfl) (by kernel_rfl) (fun _ _ _ h => h) (by kernel_rfl) (by kernel_rfl) (by kernel_rfl) (Or.inl ⟨?_, ?_⟩) hS3 ?_
                 rotate_left
                 focus rfl
                 focus (intro w' hw'; have hw1 := cells6 hw'; clear hw'; go_simp; with_reducible rfl)
                 try go_simp)
                (refine wpAnyD_take (i := 4) (v := ?_) [5, 6, 7] [6, 7] rfl (by kernel_rfl) (by kernel_rfl) (by kernel_rfl) (fun _ _ _ h => h) (by kernel_rfl) (by kernel_rfl) (by kernel_rfl) (Or.inl ⟨?_, ?_⟩) hS3 ?_
                 rotate_left
                 focus rfl
                 focus (intro w' hw'; have hw1 := cells6 hw'; clear hw'; go_simp; with_reducible rfl)
                 try go_simp)
                clear hdw
                refine wpAnyD_ready (rs := [5]) (by kernel_rfl) (by simp) ?_
                refine AllReadyD.cons rfl (fun K hK => ?_) AllReadyD.nil
                go_simp
                refine (HVAL.out W7 HAT7.out.pb).mono ?_
                rintro e w8 ⟨v, y, A8, b8, rfl, h1, h2, h3, h4, h5⟩
                obtain ⟨la, lc, ka3, kc3, va3, vc3, t1, m1', tx, q1, q2, q3, rfl, HXV⟩ := RV.parts h4
                have HAT8 := Lib.hid (HAT7.out.grown h2 h1 hL hq0)
                have hs7 := HAT7.out.siz
                have hs8 := h2.size
                have HGOOD := Lib.hid h5
                have hA8 := h3
                have HYV := Lib.hid (RV.mono (T := fun r => q + 1 ≤ r ∧ r < w8.heap.size) (fun _ _ => rfl) (fun b hb => ⟨by have hb' : W7.heap.size ≤ b := hb.1; omega, hb.2⟩) _ _ (RV.lt _ _ HXV.out))
                clear h1 h2 h3 h4 h5
                refine hK.out _ _ (fun _ => HAT8.out.out) ?_
                clear hK K hS3
                try go_simp
                refine wpAnyD_ready (rs := [6]) (by kernel_rfl) (by simp) ?_
                refine AllReadyD.cons rfl (fun K hK => ?_) AllReadyD.nil
                go_simp
                refine (with_any 6 0 ⟨#[]⟩ o (.slice ka k kc) (.slice va k vc) _ none 0 0 ks' vs' y (fun r => q + 1 ≤ r ∧ r < w8.heap.size) w8 (mapR_lt HAT8.out.map) (by rw [HK.out]; omega) HYV.out (fun b h => h.2)).mono ?_
                rintro e w9 ⟨i1, i2, kv2, vv2, rfl, hb9, hm9, hall9, hi1, hi2, hi3, hi4⟩
                unfold MapV
                have hm9' := hm9.mono (w' := w9) (T := fun r => q + 1 ≤ r) (fun _ _ => rfl) (fun b hb => by
                  rcases hb with hb | hb
                  · exact hb.1
                  · omega)
                have HAT9 := Lib.hid (HAT8.out.grown (gr_below hb9) (keep hb9 HAT8.out.pb : PB L s A8 b8 w9) hL hq0)
                obtain ⟨ka9, kc9, va9, vc9, rfl, rfl⟩ := mapR_slices hm9'
                have HM9 := Lib.hid hm9'
                have hlen9 : (ks'.take i1 ++ o :: ks'.drop i2).length ≤ n + 1 := by simp [HK.out]; rw [HK.out] at hi2 hi4; omega
                have HALL9 := Lib.hid hall9
                rw [HK.out] at HALL9
                obtain ⟨k9, hk9⟩ : ∃ k9, (ks'.take i1 ++ o :: ks'.drop i2).length = k9 := ⟨_, rfl⟩
                have hlen9' := hlen9
                rw [hk9] at HM9 hlen9 ⊢
                clear hm9 hm9' hb9 hall9 hi1 hi2 hi3 hi4 hk9
                refine hK.out _ _ (fun h => absurd h (by decide)) ?_
                clear hK K
                try go_simp
                have hcc := cells6 HAT9.out.out
                refine wpAnyD_ready (rs := [7]) (by kernel_rfl) (by simp) ?_
                refine AllReadyD.cons rfl (fun K hK => ?_) AllReadyD.nil
                go_simp
                refine hK.out _ _ (fun h => absurd h (by decide)) ?_
                clear hK K
                try go_simp
                refine wpAnyD_done (by kernel_rfl) ?_ _
                clear hcc
                generalize hWF : (((((World.setCell w9 _ _).setCell _ _).setCell _ _).setCell _ _).setCell _ _).setCell _ _ = WF
                have HATF := HAT9.out.put HM9.out hL hq0 hWF
                clear hWF
                go_wp2_with fail
                refine (pskip_any HATF.pb (by omega) (by omega)).mono ?_
                rintro e wz ⟨rfl, Az, k1, k2, k3, k4, k5⟩
                have HATZ := Lib.hid (HATF.grown k5 k4 hL hq0))
               cases b8
               · have := (HGOOD.out rfl).2
                 omega
               clear k1 k3 k4 k5
               go_wp2_with fail
               go_roundg 0
               case rel => exact ⟨_, _, _, _, Az, true, HATZ.out, by omega, hlen9', fun _ => rfl, fun q => (by cases q)⟩
               case measure => omega)
      · obtain rfl : k = n := by omega
        have hb : byt s A' = 125 := by
          have q := HDR.out
          rw [← HN.out, restM_end vs ks HLL.out] at q
          exact byt_head q
        have he : A' + 1 = E := by
          have q := HEE.out
          rw [← HN.out, restM_end vs ks HLL.out] at q
          exact q
        have HB := Lib.hid hb
        have HE2 := Lib.hid he
        have HNX : Hid (∀ W, PB L s A' false W → Calls Tryz.prog 94 #[.pointer (some ⟨L, 0, none⟩)] W (RetQ (.int .u8 (125 : Int)) W)) := Lib.hid (fun W hW => by have := pnext_any hW; rw [hb] at this; exact this)
        clear hb he c2
        go_wp2_with fail
        refine Calls.mono (HNX.out _ ?_) ?_
        focus exact HAT.out.pb
        rintro e _ ⟨rfl, m1, rfl⟩
        go_wp2_with fail
        refine Calls.mono (ptake_any (A := A') (bad := false) 125 (by omega) ?_ (by omega) hA') ?_
        focus exact HAT.out.pb
        rintro e w3 ⟨rfl, A3, b3, h1, h2, h3, h4, h5, h6, h7⟩
        obtain rfl : b3 = false := h5 HB.out rfl
        obtain ⟨_, rfl⟩ := h4 (by rw [HB.out]; rfl) rfl
        have hA3 : A' + 1 ≤ s.size + 1 := by have := byt_lt (s := s) (A := A') (by rw [HB.out]; omega); omega
        have HAT3 := Lib.hid (HAT.out.grown (gr_dn _ h7) h6 hL hq0)
        clear h1 h2 h3 h4 h5 h6 h7 c1
        have d1 := cells6 HAT3.out.out
        have d2 := cells6 HAT3.out.res
        go_wp2_with fail
        clear d1 d2
        (generalize hWF : (((((World.setCell _ _ _).setCell _ _).setCell _ _).setCell _ _).setCell _ _).setCell _ _ = WF
         have HV := fin_v (X := w3) (E := E) (x := (mapV ks vs)) hL (by omega) HAT3.out.pb HAT3.out.gr (RV.mono (fun _ _ => rfl) (fun b (hb : q + 1 ≤ b) => (by omega : w.heap.size + 1 ≤ b)) _ _ (HAT3.out.map.rv 6 0 ⟨#[]⟩)) (fun _ => ⟨by rw [HKS.out, HVS.out, List.take_of_length_le (by rw [HLL.out, HN.out]; exact Nat.le_refl _), List.take_of_length_le (by rw [HN.out]; exact Nat.le_refl _)]; rfl, HE2.out⟩) hWF
         obtain ⟨z0, z1, z2, z3, z4, z5⟩ := fin_z (X := w3) HAT3.out.res hWF
         clear hWF
         exact bodyPost_ret (v := (.agg #[.int .i64 6, .int .i64 0, .string ⟨#[]⟩, .slice none 0 0, .slice ka k kc, .slice va k vc])) (by simp [results, Tryz.results97, go_sem, z0, z1, z2, z3, z4, z5]) rfl HV)
    · clear hgood hgb c2
      go_wp2_with fail
      refine Calls.mono (ptake_any (A := A') (bad := true) 125 (by omega) ?_ (by omega) hA') ?_
      focus exact HAT.out.pb
      rintro e w3 ⟨rfl, A3, b3, h1, h2, h3, h4, h5, h6, h7⟩
      have hb3 : b3 = true := by
        cases b3
        · have := h3 rfl
          cases this
        · rfl
      have hA3 : A3 ≤ s.size + 1 := by omega
      have HAT3 := Lib.hid (HAT.out.grown h7 h6 hL hq0)
      clear h1 h2 h3 h4 h5 h6 h7 c1
      have d1 := cells6 HAT3.out.out
      have d2 := cells6 HAT3.out.res
      go_wp2_with fail
      clear d1 d2
      (generalize hWF : (((((World.setCell _ _ _).setCell _ _).setCell _ _).setCell _ _).setCell _ _).setCell _ _ = WF
       have HV := fin_v (X := w3) (E := E) (x := (mapV ks vs)) hL (by omega) HAT3.out.pb HAT3.out.gr (RV.mono (fun _ _ => rfl) (fun b (hb : q + 1 ≤ b) => (by omega : w.heap.size + 1 ≤ b)) _ _ (HAT3.out.map.rv 6 0 ⟨#[]⟩)) (fun q => by rw [hb3] at q; cases q) hWF
       obtain ⟨z0, z1, z2, z3, z4, z5⟩ := fin_z (X := w3) HAT3.out.res hWF
       clear hWF
       exact bodyPost_ret (v := (.agg #[.int .i64 6, .int .i64 0, .string ⟨#[]⟩, .slice none 0 0, .slice ka k kc, .slice va k vc])) (by simp [results, Tryz.results97, go_sem, z0, z1, z2, z3, z4, z5]) rfl HV)
end Go.Proofs.YtgjmgneppecfgaaGreatDoor.Pa
