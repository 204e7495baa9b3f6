/-
  THE WALK of encode: whatever value, its text.
-/
import Derived.Test.YtgjmgneppecfgaaGreatDoorQMbJ
import Derived.Test.YtgjmgneppecfgaaGreatDoorQMbB
import Derived.Test.YtgjmgneppecfgaaGreatDoorQ16
import Derived.Test.YtgjmgneppecfgaaGreatDoorQ00
import Derived.Test.YtgjmgneppecfgaaGreatDoorQ03
set_option linter.unusedVariables false
set_option linter.unusedSimpArgs false
namespace Go.Proofs.YtgjmgneppecfgaaGreatDoor.Mb
open Go.RowKit Go.Proofs.YtgjmgneppecfgaaGreatDoor.Va Go.Proofs.YtgjmgneppecfgaaGreatDoor.Ba Go.Proofs.YtgjmgneppecfgaaGreatDoor.Ma
set_option linter.unusedVariables false
set_option linter.unusedSimpArgs false

theorem encS_of {s : ByteArray} (hs : s.size ≤ 2147483647) (hv : Lib.validD s.data.toList = true) : EncS s := fun B b E bs w h hB hlim hT => encString_any B b E bs s w h hB hs hlim hv hT
/-- the shape of the encoder's own block, its first cell -/
def EHead (b E : Nat) (w : World) : Prop := w.cell? ⟨E, 0, none⟩ = some (.iface 114 (.pointer (some ⟨b, 0, none⟩)))
set_option maxHeartbeats 2000000 in
set_option maxRecDepth 100000 in
theorem encode_int (z : Int) (h0 : -9223372036854775808 ≤ z) (h1 : z ≤ 9223372036854775807) (B b E : Nat) (bs : List Nat) (w : World) (hst : St B b E bs w) (hB : B ≤ w.heap.size) (hlim : bs.length + 30 ≤ 140737488355328) :
    Calls Tryz.prog 92 #[.pointer (some ⟨E, 0, none⟩), .iface 3 (.int .i64 z)] w (EncEnd B b E (bs ++ itoa z) w) := by
  have HST := Lib.hid hst
  have c0 := hst.cell
  have HC := Lib.hid (fun (f : Nat → Value) (w : World) (hr : w.rowIs E 118 65 f) => appInt_any E 1 0 64 65 118 f z h0 h1 w hr (by decide) (by decide))
  have HLI := Lib.hid (itoa_len h0 h1)
  clear hst h0 h1
  go_enter Tryz.func92, Tryz.ntmps92
  go_upto_region 13 with fail
  refine wp_region_D (EHead b E) [12] (by kernel_rfl) ?_
  generalize hWd : World.drew w = w1
  have hS3 : EHead b E w1 := hWd ▸ c0
  have B1 : Below w.heap.size w w1 := hWd ▸ (Below.refl _ w).drew
  have W1 := Lib.hid ((Wrote.refl HST.out).quiet hB B1)
  clear hWd B1
  (refine wpAnyD_take (i := 0) (v := ?_) [1, 2, 3, 10, 11, 12] [12] rfl (by kernel_rfl) (by kernel_rfl) (by kernel_rfl) (fun _ _ _ h => h) (by kernel_rfl) (by kernel_rfl) (by kernel_rfl) (Or.inl ⟨?_, ?_⟩) hS3 ?_
   rotate_left
   focus rfl
   focus (intro w' hw'; unfold EHead at hw'; go_simp; with_reducible rfl)
   try go_simp)
  (refine wpAnyD_take (i := 1) (v := ?_) [2, 3, 10, 11, 12] [12] rfl (by kernel_rfl) (by kernel_rfl) (by kernel_rfl) (fun _ _ _ h => h) (by kernel_rfl) (by kernel_rfl) (by kernel_rfl) (Or.inl ⟨?_, ?_⟩) hS3 ?_
   rotate_left
   focus rfl
   focus (intro w' hw'; unfold EHead at hw'; go_simp; with_reducible rfl)
   try go_simp)
  (refine wpAnyD_take (i := 2) (v := ?_) [3, 10, 11, 12] [12] rfl (by kernel_rfl) (by kernel_rfl) (by kernel_rfl) (fun _ _ _ h => h) (by kernel_rfl) (by kernel_rfl) (by kernel_rfl) (Or.inl ⟨?_, ?_⟩) hS3 ?_
   rotate_left
   focus rfl
   focus (intro w' hw'; unfold EHead at hw'; go_simp; with_reducible rfl)
   try go_simp)
  (refine wpAnyD_take (i := 3) (v := ?_) [10, 11, 12] [12] rfl (by kernel_rfl) (by kernel_rfl) (by kernel_rfl) (fun _ _ _ h => h) (by kernel_rfl) (by kernel_rfl) (by kernel_rfl) (Or.inl ⟨?_, ?_⟩) hS3 ?_
   rotate_left
   focus rfl
   focus (intro w' hw'; unfold EHead at hw'; go_simp; with_reducible rfl)
   try go_simp)
  (refine wpAnyD_take (i := 10) (v := ?_) [11, 12] [12] rfl (by kernel_rfl) (by kernel_rfl) (by kernel_rfl) (fun _ _ _ h => h) (by kernel_rfl) (by kernel_rfl) (by kernel_rfl) (Or.inl ⟨?_, ?_⟩) hS3 ?_
   rotate_left
   focus rfl
   focus (intro w' hw'; unfold EHead at hw'; go_simp; with_reducible rfl)
   try go_simp)
  (refine wpAnyD_take (i := 11) (v := ?_) [12] [12] rfl (by kernel_rfl) (by kernel_rfl) (by kernel_rfl) (fun _ _ _ h => h) (by kernel_rfl) (by kernel_rfl) (by kernel_rfl) (Or.inl ⟨?_, ?_⟩) hS3 ?_
   rotate_left
   focus rfl
   focus (intro w' hw'; unfold EHead at hw'; go_simp; with_reducible rfl)
   try go_simp)
  (refine wpAnyD_take (i := 4) (v := ?_) [5, 6, 7, 9, 12] [12] rfl (by kernel_rfl) (by kernel_rfl) (by kernel_rfl) (fun _ _ _ h => h) (by kernel_rfl) (by kernel_rfl) (by kernel_rfl) (Or.inl ⟨?_, ?_⟩) hS3 ?_
   rotate_left
   focus rfl
   focus (intro w' hw'; unfold EHead at hw'; go_simp; with_reducible rfl)
   try go_simp)
  (refine wpAnyD_take (i := 5) (v := ?_) [6, 7, 9, 12] [12] rfl (by kernel_rfl) (by kernel_rfl) (by kernel_rfl) (fun _ _ _ h => h) (by kernel_rfl) (by kernel_rfl) (by kernel_rfl) (Or.inl ⟨?_, ?_⟩) hS3 ?_
   rotate_left
   focus rfl
   focus (intro w' hw'; unfold EHead at hw'; go_simp; with_reducible rfl)
   try go_simp)
  (refine wpAnyD_take (i := 6) (v := ?_) [7, 9, 12] [12] rfl (by kernel_rfl) (by kernel_rfl) (by kernel_rfl) (fun _ _ _ h => h) (by kernel_rfl) (by kernel_rfl) (by kernel_rfl) (Or.inl ⟨?_, ?_⟩) hS3 ?_
   rotate_left
   focus rfl
   focus (intro w' hw'; unfold EHead at hw'; go_simp; with_reducible rfl)
   try go_simp)
  (refine wpAnyD_take (i := 7) (v := ?_) [9, 12] [12] rfl (by kernel_rfl) (by kernel_rfl) (by kernel_rfl) (fun _ _ _ h => h) (by kernel_rfl) (by kernel_rfl) (by kernel_rfl) (Or.inl ⟨?_, ?_⟩) hS3 ?_
   rotate_left
   focus rfl
   focus (intro w' hw'; unfold EHead at hw'; go_simp; with_reducible rfl)
   try go_simp)
  (refine wpAnyD_take (i := 8) (v := ?_) [9, 12] [12] rfl (by kernel_rfl) (by kernel_rfl) (by kernel_rfl) (fun _ _ _ h => h) (by kernel_rfl) (by kernel_rfl) (by kernel_rfl) (Or.inl ⟨?_, ?_⟩) hS3 ?_
   rotate_left
   focus rfl
   focus (intro w' hw'; unfold EHead at hw'; go_simp; with_reducible rfl)
   try go_simp)
  refine wpAnyD_ready (rs := [9]) (by kernel_rfl) (by simp) ?_
  refine AllReadyD.cons rfl (fun K hK => ?_) AllReadyD.nil
  go_simp
  obtain ⟨f, hf0, hfr⟩ := W1.out.1.enc
  have HF0 := Lib.hid hf0
  refine (HC.out f w1 hfr).mono ?_
  rintro e w2 ⟨rfl, hrow, hgr⟩
  have HR := Lib.hid hrow
  have W2 := Lib.hid (W1.out.trans (W1.out.1.put HF0.out hrow hgr))
  have c2 := W2.out.1.cell
  have hz2 := W2.out.2.1.size
  obtain ⟨l, hl⟩ : ∃ l, (itoa z).length = l := ⟨_, rfl⟩
  have HL := Lib.hid hl
  rw [hl]
  have hl30 : l ≤ 30 := by have := HLI.out; omega
  refine hK.out _ _ (fun _ => c2) ?_
  clear hK K hrow hgr hf0 hfr c0 hl hS3
  have hS3 : EHead b E w2 := c2
  try go_simp
  refine wpAnyD_ready (rs := [12]) (by kernel_rfl) (by simp) ?_
  refine AllReadyD.cons rfl (fun K hK => ?_) AllReadyD.nil
  go_simp
  refine (write_any B b E E 1 l 64 bs (itoa z) w2 W2.out.1 (by omega) (by have := W2.out.1.lt; omega) HL.out (fun j hj => ?_) (by omega)).mono ?_
  · rw [HR.out.cell (by omega)]
    unfold putR
    rw [if_pos (by rw [HL.out]; omega), show 1 + j - (1 + 0) = j by omega]
  rintro e w3 ⟨rfl, h3⟩
  have W3 := Lib.hid (W2.out.trans h3)
  clear h3
  refine hK.out _ _ (fun h => absurd h (by decide)) ?_
  clear hK K
  try go_simp
  refine wpAnyD_done (by kernel_rfl) ?_ _
  clear hS3
  go_wp2_with fail
  go_returns
  exact ⟨rfl, W3.out⟩
set_option maxHeartbeats 4000000 in
set_option maxRecDepth 100000 in
theorem encode_of (x : V) (hg : Va.Good x) (HL : ∀ k h t ls ks vs, x = .mk k h t ls ks vs → (∀ y ∈ ls, EncW y) ∧ (∀ y ∈ vs, EncW y)) : EncW x := by
  obtain ⟨k, h, t, ls, ks, vs⟩ := x
  obtain ⟨H1, H2⟩ := HL _ _ _ _ _ _ rfl
  rw [Va.Good] at hg
  obtain ⟨g1, gl, gr, gv⟩ := hg
  intro B b E bs w g S hgv hS hst hB hlim hT
  rw [V.size] at hlim
  have hlim2 : bs.length + 40 ≤ 140737488355328 := by unfold NodeLen at hlim; omega
  have c0 := hst.cell
  have HST := Lib.hid hst
  have HLM := Lib.hid hlim
  have HT := Lib.hid hT
  rw [GV] at hgv
  rcases hgv with ⟨rfl, rfl⟩ | ⟨rfl, rfl⟩ | ⟨rfl, rfl⟩ | ⟨rfl, rfl⟩ | ⟨rfl, rfl⟩ | ⟨rfl, a, c, rfl, hl⟩ | ⟨rfl, r, es, clock, rfl, hr, hm, hst2, hgm⟩
  · clear H1 H2 HL g1 gl gr gv hS hlim hT
    go_enter Tryz.func92, Tryz.ntmps92
    go_wp2_with fail
    refine (writeString_any B b E bs _ w HST.out hB (by simp [ByteArray.size]; omega)).mono ?_
    rintro e w1 ⟨rfl, h1⟩
    have W1 := Lib.hid h1
    clear h1
    go_wp2_with fail
    go_returns
    exact ⟨rfl, by have := W1.out; rw [encJ]; exact this⟩
  · clear H1 H2 HL g1 gl gr gv hS hlim hT
    go_enter Tryz.func92, Tryz.ntmps92
    go_wp2_with fail
    refine (writeString_any B b E bs _ w HST.out hB (by simp [ByteArray.size]; omega)).mono ?_
    rintro e w1 ⟨rfl, h1⟩
    have W1 := Lib.hid h1
    clear h1
    go_wp2_with fail
    go_returns
    exact ⟨rfl, by have := W1.out; rw [encJ]; exact this⟩
  · clear H1 H2 HL g1 gl gr gv hS hlim hT
    go_enter Tryz.func92, Tryz.ntmps92
    go_wp2_with fail
    refine (writeString_any B b E bs _ w HST.out hB (by simp [ByteArray.size]; omega)).mono ?_
    rintro e w1 ⟨rfl, h1⟩
    have W1 := Lib.hid h1
    clear h1
    go_wp2_with fail
    go_returns
    exact ⟨rfl, by have := W1.out; rw [encJ]; exact this⟩
  · have hj : encJ (.mk 3 h t ls ks vs) = numJ h := by rw [encJ, if_neg (by decide), if_neg (by decide), if_neg (by decide), if_pos rfl]
    rw [hj]
    have b1 := g1.lo
    have b2 := g1.hi
    by_cases he : h % 2 = 0
    · rw [show gnum h = .iface 3 (.int .i64 (h / 2)) by unfold gnum; rw [if_pos he], numJ_even he]
      exact encode_int (h / 2) (by omega) (by omega) B b E bs w hst hB (by omega)
    · rw [show gnum h = .iface 65 (.float .f64 (fl h)) by unfold gnum; rw [if_neg he]]
      have ho := g1.odd
      obtain ⟨s, M, k, H⟩ := half_of h (by omega) (by unfold Va.B; omega)
      have HF := Lib.hid (encFloat_any H he (by omega) B b E bs w hst hB (by omega))
      obtain ⟨x, hx⟩ : ∃ x, fl h = x := ⟨_, rfl⟩
      rw [hx] at HF ⊢
      clear H1 H2 HL g1 gl gr gv hS hlim hT hst H hx
      go_enter Tryz.func92, Tryz.ntmps92
      go_wp2_with fail
      refine HF.out.mono ?_
      rintro e w1 ⟨rfl, h1⟩
      have W1 := Lib.hid h1
      clear h1
      go_wp2_with fail
      go_returns
      exact ⟨rfl, W1.out⟩
  · have hj : encJ (.mk 4 h t ls ks vs) = Ma.encStr (bytesN t) := by rw [encJ, if_neg (by decide), if_neg (by decide), if_neg (by decide), if_neg (by decide), if_pos rfl]
    rw [hj]
    have htb := g1.tb
    have HF := Lib.hid (encS_of htb g1.tv B b E bs w hst hB (by unfold NodeLen at hlim; omega) hT)
    clear H1 H2 HL g1 gl gr gv hS hlim hT hst
    go_enter Tryz.func92, Tryz.ntmps92
    go_wp2_with fail
    refine HF.out.mono ?_
    rintro e w1 ⟨rfl, h1⟩
    have W1 := Lib.hid h1
    clear h1
    go_wp2_with fail
    go_returns
    exact ⟨rfl, W1.out⟩
  · have hj : encJ (.mk 5 h t ls ks vs) = 91 :: ((encC ls).tail ++ [93]) := by rw [encJ, if_neg (by decide), if_neg (by decide), if_neg (by decide), if_neg (by decide), if_neg (by decide), if_pos rfl]
    rw [hj]
    have hll := length_le ls
    obtain ⟨n, hn⟩ : ∃ n, ls.length = n := ⟨_, rfl⟩
    rw [hn] at hll ⊢
    have HF := Lib.hid (encArray_any ls H1 gl n c hn (by unfold NodeLen at hlim; omega) B b E bs a S w hl hS hst hB (Nat.le_trans (Nat.add_le_add_left (Nat.mul_le_mul_right _ (by omega)) _) hlim) hT)
    clear H1 H2 HL g1 gl gr gv hS hlim hT hst hl hn hll
    go_enter Tryz.func92, Tryz.ntmps92
    go_wp2_with fail
    refine HF.out.mono ?_
    rintro e w1 ⟨rfl, h1⟩
    have W1 := Lib.hid h1
    clear h1
    go_wp2_with fail
    go_returns
    exact ⟨rfl, W1.out⟩
  · have hj : encJ (.mk 6 h t ls ks vs) = 123 :: ((encM vs ks).tail ++ [125]) := by rw [encJ, if_neg (by decide), if_neg (by decide), if_neg (by decide), if_neg (by decide), if_neg (by decide), if_neg (by decide)]
    rw [hj]
    have hll := length_le vs
    obtain ⟨n, hn⟩ : ∃ n, vs.length = n := ⟨_, rfl⟩
    rw [hn] at hll
    have HF := Lib.hid (encObject_any ks vs H2 (fun s hs => encS_of (g1.kb s hs) (g1.kv s hs)) gv g1.kb gr n (g1.len.trans hn) hn (by unfold NodeLen at hlim; omega) B b E r bs es clock S w hm hst2 hgm hr hS hst hB (Nat.le_trans (Nat.add_le_add_left (Nat.mul_le_mul_right _ (by omega)) _) hlim) hT)
    clear H1 H2 HL g1 gl gr gv hS hlim hT hst hm hst2 hgm hn hll hr
    go_enter Tryz.func92, Tryz.ntmps92
    go_wp2_with fail
    refine HF.out.mono ?_
    rintro e w1 ⟨rfl, h1⟩
    have W1 := Lib.hid h1
    clear h1
    go_wp2_with fail
    go_returns
    exact ⟨rfl, W1.out⟩
mutual
theorem encode_any : ∀ (x : V), Va.Good x → EncW x
  | .mk k h t ls ks vs, hg => encode_of _ hg (fun k' h' t' ls' ks' vs' e => by
      have h1 := encode_list ls (by rw [Va.Good] at hg; exact hg.2.1)
      have h2 := encode_list vs (by rw [Va.Good] at hg; exact hg.2.2.2)
      cases e
      exact ⟨h1, h2⟩)
theorem encode_list : ∀ (l : List V), GoodL l → ∀ y ∈ l, EncW y
  | [], _, _, h => by cases h
  | x :: xs, hg, y, h => by
    have h1 := encode_any x (by rw [GoodL] at hg; exact hg.1)
    have h2 := encode_list xs (by rw [GoodL] at hg; exact hg.2)
    rcases List.mem_cons.1 h with rfl | h
    · exact h1
    · exact h2 y h
end
end Go.Proofs.YtgjmgneppecfgaaGreatDoor.Mb
/-
  THE WALKS of gojq.Marshal and impl.Marshal.
-/
namespace Go.Proofs.YtgjmgneppecfgaaGreatDoor.Mb
open Go.RowKit Go.Proofs.YtgjmgneppecfgaaGreatDoor.Va Go.Proofs.YtgjmgneppecfgaaGreatDoor.Ba Go.Proofs.YtgjmgneppecfgaaGreatDoor.Ma
set_option linter.unusedVariables false
set_option linter.unusedSimpArgs false

theorem tab_same (w : World) : Tab w = Lib.Utf8Tabs (Tryz.laysValid_ren.g 3) (Tryz.laysValid_ren.g 4) w := rfl
theorem zc_size : Tryz.zeroCells118.size = 65 := by kernel_rfl
theorem st_fresh (w : World) : St w.heap.size w.heap.size (w.heap.size + 1) [] ((w.alloc (.cells #[.slice none 0 0, .int .i64 0, .int .i8 0] 112)).alloc (.cells (Tryz.zeroCells118.setIfInBounds 0 (.iface 114 (.pointer (some ⟨w.heap.size, 0, none⟩)))) 118)) := by
  refine ⟨buf_old (Lib.fresh_isBuffer 112 5 w) (below_alloc _ _), ⟨fun j => ((Tryz.zeroCells118.setIfInBounds 0 (.iface 114 (.pointer (some ⟨w.heap.size, 0, none⟩))))[j]?).getD .nilIface, ?_, ?_⟩, Nat.lt_succ_self _⟩
  · show ((Tryz.zeroCells118.setIfInBounds 0 _)[0]?).getD _ = _
    rw [Array.getElem?_setIfInBounds, if_pos rfl, if_pos (by rw [zc_size]; omega)]
    rfl
  · have q := block_new (w.alloc (.cells #[.slice none 0 0, .int .i64 0, .int .i8 0] 112)) (Tryz.zeroCells118.setIfInBounds 0 (.iface 114 (.pointer (some ⟨w.heap.size, 0, none⟩)))) 118
    rw [World.size_alloc] at q
    refine ⟨_, q, by rw [Array.size_setIfInBounds, zc_size], fun j hj => ?_⟩
    have h := Array.getElem?_eq_getElem (xs := Tryz.zeroCells118.setIfInBounds 0 (.iface 114 (.pointer (some ⟨w.heap.size, 0, none⟩)))) (i := j) (by rw [Array.size_setIfInBounds, zc_size]; exact hj)
    show _ = some (Option.getD _ _)
    rw [h]
    rfl
/-- what Marshal leaves: an owned row of the text's bytes -/
def MarEnd (x : V) (w : World) (e : Ending) (w' : World) : Prop := ∃ v, e = .returned (.tuple #[v, .nilIface]) ∧ w'.ownsRow w.heap.size 5 1 v (encJ x).length (cellsD (encJ x)) ∧ Below w.heap.size w w'
set_option maxHeartbeats 4000000 in
set_option maxRecDepth 100000 in
theorem gMarshal_any (x : V) (hg : Va.Good x) (hsz : x.size ≤ 400) (g : Value) (S : Nat → Prop) (w : World) (hgv : GV w S x g) (hS : ∀ b, S b → b < w.heap.size) (hT : Tabs w) :
    Calls Tryz.prog 44 #[g] w (MarEnd x w) := by
  have HG := Lib.hid hg
  have HGV := Lib.hid hgv
  have HS := Lib.hid hS
  have HT := Lib.hid hT
  have hsh := gv_shape hgv
  clear hg hgv hS hT
  rcases hsh with rfl | ⟨tv, xv, rfl⟩
  · go_enter Tryz.func44, Tryz.ntmps44
    go_wp2_with fail
    have Q := Lib.hid (st_fresh w)
    have hb1 : Below w.heap.size w ((w.alloc (.cells #[.slice none 0 0, .int .i64 0, .int .i8 0] 112)).alloc (.cells (Tryz.zeroCells118.setIfInBounds 0 (.iface 114 (.pointer (some ⟨w.heap.size, 0, none⟩)))) 118)) := ((Below.refl _ _).alloc (Nat.le_refl _) _).alloc (by rw [World.size_alloc]; omega) _
    refine (encode_any x HG.out w.heap.size w.heap.size (w.heap.size + 1) [] _ _ S (GV.mono (Same.of_below hb1 HS.out) (fun _ h => h) _ _ HGV.out) HS.out Q.out hb1.size (by unfold NodeLen; simp only [List.length_nil]; omega) (fun w' hw' => HT.out.below (hb1.trans hw'))).mono ?_
    rintro e w1 ⟨rfl, h1⟩
    have B1 := Lib.hid (hb1.trans h1.2.1)
    have Q1 := Lib.hid h1.1
    clear hb1 h1
    go_wp2_with fail
    refine (Any.Buffer_Bytes Tryz.laysM183 w.heap.size w.heap.size (cellsD ([] ++ encJ x)) w1 Q1.out.buf).mono ?_
    rintro e w2 ⟨v, rfl, hv, nq, rfl⟩
    rw [List.nil_append, cellsD_len] at hv
    have HV := Lib.hid hv
    clear hv
    go_wp2_with fail
    go_returns
    exact ⟨v, rfl, HV.out, ⟨B1.out.os, B1.out.tape, B1.out.output, B1.out.size, B1.out.block⟩⟩
  · go_enter Tryz.func44, Tryz.ntmps44
    go_wp2_with fail
    have Q := Lib.hid (st_fresh w)
    have hb1 : Below w.heap.size w ((w.alloc (.cells #[.slice none 0 0, .int .i64 0, .int .i8 0] 112)).alloc (.cells (Tryz.zeroCells118.setIfInBounds 0 (.iface 114 (.pointer (some ⟨w.heap.size, 0, none⟩)))) 118)) := ((Below.refl _ _).alloc (Nat.le_refl _) _).alloc (by rw [World.size_alloc]; omega) _
    refine (encode_any x HG.out w.heap.size w.heap.size (w.heap.size + 1) [] _ _ S (GV.mono (Same.of_below hb1 HS.out) (fun _ h => h) _ _ HGV.out) HS.out Q.out hb1.size (by unfold NodeLen; simp only [List.length_nil]; omega) (fun w' hw' => HT.out.below (hb1.trans hw'))).mono ?_
    rintro e w1 ⟨rfl, h1⟩
    have B1 := Lib.hid (hb1.trans h1.2.1)
    have Q1 := Lib.hid h1.1
    clear hb1 h1
    go_wp2_with fail
    refine (Any.Buffer_Bytes Tryz.laysM183 w.heap.size w.heap.size (cellsD ([] ++ encJ x)) w1 Q1.out.buf).mono ?_
    rintro e w2 ⟨v, rfl, hv, nq, rfl⟩
    rw [List.nil_append, cellsD_len] at hv
    have HV := Lib.hid hv
    clear hv
    go_wp2_with fail
    go_returns
    exact ⟨v, rfl, HV.out, ⟨B1.out.os, B1.out.tape, B1.out.output, B1.out.size, B1.out.block⟩⟩
theorem encJ_pos (x : V) (hg : Va.Good x) : 0 < (encJ x).length := by
  obtain ⟨k, h, t, ls, ks, vs⟩ := x
  rw [encJ]
  repeat' split
  all_goals first | (simp; done) | (unfold Ma.encStr; simp; done) | (unfold numJ; have : 0 < (digs (h.natAbs / 2)).length := (by unfold digs; simp); simp only [List.length_append]; omega)
/-- what impl.Marshal leaves -/
def MarS (x : V) (w : World) (e : Ending) (w' : World) : Prop := e = .returned (.tuple #[.string (numS (encJ x)), .bool true]) ∧ Below w.heap.size w w'
set_option maxHeartbeats 4000000 in
set_option maxRecDepth 100000 in
theorem marshal_any (x : V) (hg : Va.Good x) (hsz : x.size ≤ 400) (v : Value) (S : Nat → Prop) (w : World) (hv : RV w S x v) (hS : ∀ b, S b → b < w.heap.size) (hT : Tabs w) :
    Calls Tryz.prog 15 #[v] w (MarS x w) := by
  have HG := Lib.hid hg
  have HV := Lib.hid hv
  have HS := Lib.hid hS
  have HT := Lib.hid hT
  obtain ⟨la, lc, ka, kc, va, vc, k, h, t, n1, n2, n3, e, _⟩ := RV.parts hv
  subst e
  clear hg hv hS hT
  go_enter Tryz.func15, Tryz.ntmps15
  go_wp2_with fail
  generalize hW : World.alloc w _ = W
  have B1 := Lib.hid (hW ▸ below_alloc w _ : Below w.heap.size w W)
  clear hW
  refine (toGo_good 400 x hsz (by omega) HG.out _ S W (RV.mono (Same.of_below B1.out HS.out) (fun _ h => h) _ _ HV.out) (fun b h => Nat.lt_of_lt_of_le (HS.out b h) B1.out.size)).mono ?_
  rintro e w2 ⟨g, rfl, hgv, hb2⟩
  have HGV := Lib.hid hgv
  have B2 := Lib.hid (B1.out.trans (hb2.mono B1.out.size))
  have HL := Lib.hid (gMarshal_any x HG.out hsz g _ w2 hgv.lt (fun b h => h.2) (HT.out.below B2.out))
  have hsh := gv_shape hgv
  clear hgv hb2
  rcases hsh with rfl | ⟨tv, xv, rfl⟩
  all_goals
    go_wp2_with fail
    refine HL.out.mono ?_
    rintro e w3 ⟨v, rfl, hrow, hb3⟩
    have B3 := Lib.hid (B2.out.trans (hb3.mono B2.out.size))
    obtain ⟨hlen, hor⟩ := hrow
    rcases hor with ⟨_, h0⟩ | ⟨q, cap, cur, rfl, hq, hblk, hncap, hcap, hcs, htk⟩
    · have := encJ_pos x HG.out
      omega
    have hcv := fun nq : Nat => run_convert_bytes_arg (P := Tryz.prog) (w := w3.drewN nq) 73 5 Tryz.underlying73 Tryz.underlying5 q 0 (encJ x).length cap ((encJ x).map fun x : Nat => (x : Int)) (by rw [List.length_map])
        (fun i hi => by
          rw [Nat.zero_add]
          refine cell_of (w := w3.drewN nq) hblk i ?_
          have h1 : (cur.toList.take ((encJ x).length * 1))[i]? = (cellsD (encJ x))[i]? := by rw [htk]
          rw [List.getElem?_take_of_lt (by omega)] at h1
          rw [← Array.getElem?_toList, h1]
          unfold cellsD
          simp [List.getD, List.getElem?_eq_getElem hi]) 9 Tryz.underlying9
    change ∀ nq : Nat, _ = Result.ok (Value.string (numS (encJ x))) (w3.drewN nq) at hcv
    obtain ⟨L, hL⟩ : ∃ L, (encJ x).length = L := ⟨_, rfl⟩
    rw [hL] at hcv ⊢
    clear hlen hq hblk hncap hcap hcs htk hb3 hL
    go_wp2_with fail
    go_quiet (fail)
    go_wp2_with fail
    go_returns
    exact ⟨rfl, ⟨B3.out.os, B3.out.tape, B3.out.output, B3.out.size, B3.out.block⟩⟩
end Go.Proofs.YtgjmgneppecfgaaGreatDoor.Mb
