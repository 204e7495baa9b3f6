/-
  THE WALKS of the doors: Reverse, Transpose; listedC.
-/
import Derived.Test.YtnlndpgbhmkanaaDoorTrC
import Derived.Test.YtnlndpgbhmkanaaDoorVaI
import Derived.BigQuiet
namespace Go.Proofs.YtnlndpgbhmkanaaDoor.Va
open Go.RowKit
set_option linter.unusedVariables false
set_option linter.unusedSimpArgs false

/-- an answer that is a list, all of it new -/
def ResN (l : List V) (w : World) (e : Ending) (w' : World) : Prop :=
  ∃ (la ka va : Option Addr) (n lc kc vc : Nat), e = .returned (.agg #[.int .i64 5, .int .i64 0, .string ⟨#[]⟩, .slice la n lc, .slice ka 0 kc, .slice va 0 vc, .int .i64 0]) ∧ l.length = n ∧
    RV w' (fun r => w.heap.size ≤ r ∧ r < w'.heap.size) (mkL l) (.agg #[.int .i64 5, .int .i64 0, .string ⟨#[]⟩, .slice la n lc, .slice ka 0 kc, .slice va 0 vc]) ∧ Below w.heap.size w w'
theorem zzReverse_any (l : List V) (n : Nat) (hn : l.length = n) (hmax : n ≤ 2147483647) (a : Option Addr) (c : Nat) (S : Nat → Prop) (w : World) (hl : GL w S l a) (hS : ∀ b, S b → b < w.heap.size) :
    Calls Tryd.prog 38 #[.iface 48 (.slice a n c)] w (ListPost l.reverse w) := by
  have HC := Lib.hid (funcReverse_any l n hn hmax a c S w hl hS)
  clear hl hS
  go_enter Tryd.func38, Tryd.ntmps38
  go_wp2_with fail
  refine HC.out.mono ?_
  rintro e w' ⟨g, m, rfl, h1, h2, h3⟩
  have H := Lib.hid (And.intro h1 (And.intro h2 h3))
  clear h1 h2 h3
  go_wp2_with fail
  go_returns
  exact ⟨g, m, rfl, H.out.1, H.out.2.1, H.out.2.2⟩
theorem zzTranspose_any (rows : List V) (hrows : ∀ x ∈ rows, ∃ l, x = mkL l) (n : Nat) (hn : rows.length = n) (hmax : sizeL rows ≤ 400) (a : Option Addr) (c : Nat) (S : Nat → Prop) (w : World) (hl : GL w S rows a) (hS : ∀ b, S b → b < w.heap.size) :
    Calls Tryd.prog 37 #[.iface 48 (.slice a n c)] w (ListPost (transV rows) w) := by
  have HC := Lib.hid (funcTranspose_any rows hrows n hn hmax a c S w hl hS)
  clear hl hS
  go_enter Tryd.func37, Tryd.ntmps37
  go_wp2_with fail
  refine HC.out.mono ?_
  rintro e w' ⟨g, m, rfl, h1, h2, h3⟩
  have H := Lib.hid (And.intro h1 (And.intro h2 h3))
  clear h1 h2 h3
  go_wp2_with fail
  go_returns
  exact ⟨g, m, rfl, H.out.1, H.out.2.1, H.out.2.2⟩

set_option maxHeartbeats 4000000 in
theorem reverse_any (l : List V) (hg : GoodL l) (hsz : sizeL l ≤ 16000) (w : World) (v : Value) (hv : KV w (mkL l) v) : Calls Tryd.prog 23 #[v] w (ResN l.reverse w) := by
  have HG := Lib.hid hg
  have HV0 := Lib.hid hv
  have hll := length_le l
  unfold KV at hv
  rw [mkL, RV] at hv
  obtain ⟨la, lc, ka, kc, va, vc, rfl, _, _, _⟩ := hv
  obtain ⟨n, hn⟩ : ∃ n, l.length = n := ⟨_, rfl⟩
  have HN := Lib.hid hn
  rw [hn] at hll HV0 ⊢
  clear hg hn
  go_enter Tryd.func23, Tryd.ntmps23
  go_wp2_with fail
  generalize hW : World.alloc (World.alloc w _) _ = W
  have b1 : Below w.heap.size w W := hW ▸ (by go_grown)
  have z : W.heap[w.heap.size + 1]? = some (.cells #[.int .i64 0, .int .i64 0, .string ⟨#[]⟩, .slice none 0 0, .slice none 0 0, .slice none 0 0, .int .i64 0] 30 (0, 0)) := hW ▸ block_top w _ _
  clear hW
  refine (toGo_good 160001 (mkL l) (by rw [size_mkL]; omega) (by omega) (good_mkL HG.out) _ (fun b => b < W.heap.size) W (HV0.out.keep b1) (fun _ h => h)).mono ?_
  rintro e w2 ⟨g, rfl, hgv, hb2⟩
  have hgv' := hgv.lt
  obtain ⟨a2, c2, rfl, hgl⟩ := hgv'.asList
  rw [HN.out]
  have HGL := Lib.hid hgl
  have HB2 := Lib.hid (b1.trans (hb2.mono b1.size))
  have HZ := Lib.hid (keep hb2 z)
  have hs1 := b1.size
  have hs2 := hb2.size
  have hwlt : w.heap.size + 1 < W.heap.size := heap_lt z
  clear hgv hgv' hgl hb2 b1 z
  go_wp2_with fail
  refine (zzReverse_any l n HN.out (by omega) _ _ _ w2 HGL.out (fun b h => h.2)).mono ?_
  rintro e w3 ⟨g3, n3, rfl, hn3, hgl3, hb3⟩
  have HN3 := Lib.hid hn3
  have HGL3 := Lib.hid hgl3
  have HB3 := Lib.hid (HB2.out.trans (hb3.mono HB2.out.size))
  have HZ3 := Lib.hid (keep hb3 HZ.out)
  have hs3 := hb3.size
  clear hn3 hgl3 hb3
  go_wp2_with fail
  refine (result_any (mkL l.reverse) (fromGo_good 160001 _ (by rw [size_mkL, sizeL_reverse]; omega) (by omega) (good_mkL (good_reverse HG.out))) _ (fun r => r < w3.heap.size) w3 (by rw [mkL, GV]; exact .inr (.inr (.inr (.inr (.inr (.inl ⟨rfl, _, _, by rw [HN3.out], HGL3.out⟩)))))) (fun b h => h)).mono ?_
  rintro e w4 hr4
  obtain ⟨la4, ka4, va4, n4, lc4, kc4, vc4, rfl, hn4, hv4, hb4⟩ := ResL.of hr4
  have zz := cells7 (keep hb4 HZ3.out)
  have HB4 := Lib.hid (HB3.out.trans (hb4.mono HB3.out.size))
  have HV4 := Lib.hid hv4
  have HN4 := Lib.hid hn4
  have hz4 := heap_lt (keep hb4 HZ3.out)
  have HQ := Lib.hid hr4
  clear hv4 hb4 hn4 hr4
  go_wp2_with fail
  refine bodyPost_ret (v := .agg #[.int .i64 5, .int .i64 0, .string ⟨#[]⟩, .slice la4 n4 lc4, .slice ka4 0 kc4, .slice va4 0 vc4, .int .i64 0]) (by simp [results, Tryd.results23, go_sem, *]) rfl ⟨_, _, _, _, _, _, _, rfl, HN4.out, ?_, ?_⟩
  · obtain ⟨d0, d1, d2, d3, d4, d5, hd, hv, _⟩ := HQ.out
    simp only [Ending.returned.injEq, Value.agg.injEq, Array.mk.injEq, List.cons.injEq, and_true] at hd
    obtain ⟨rfl, rfl, rfl, rfl, rfl, rfl⟩ := hd
    exact RV.mono (fun _ _ => rfl) (fun b h => ⟨by have := h.1; omega, h.2⟩) _ _ (RV.lt _ _ (RV.mono (S := fun r => w3.heap.size ≤ r) (fun b hb => sets7_other _ _ _ _ _ _ _ (by omega)) (fun _ h => h) _ _ hv))
  · exact sets7 HB4.out (Nat.le_succ _) _ _ _ _ _ _ _

set_option maxHeartbeats 4000000 in
theorem transpose_any (l : List V) (hrows : ∀ x ∈ l, ∃ r, x = mkL r) (hg : GoodL l) (hsz : sizeL l ≤ 400) (w : World) (v : Value) (hv : KV w (mkL l) v) : Calls Tryd.prog 22 #[v] w (ResN (transV l) w) := by
  have HG := Lib.hid hg
  have HV0 := Lib.hid hv
  have hll := length_le l
  unfold KV at hv
  rw [mkL, RV] at hv
  obtain ⟨la, lc, ka, kc, va, vc, rfl, _, _, _⟩ := hv
  obtain ⟨n, hn⟩ : ∃ n, l.length = n := ⟨_, rfl⟩
  have HN := Lib.hid hn
  rw [hn] at hll HV0 ⊢
  clear hg hn
  go_enter Tryd.func22, Tryd.ntmps22
  go_wp2_with fail
  generalize hW : World.alloc (World.alloc w _) _ = W
  have b1 : Below w.heap.size w W := hW ▸ (by go_grown)
  have z : W.heap[w.heap.size + 1]? = some (.cells #[.int .i64 0, .int .i64 0, .string ⟨#[]⟩, .slice none 0 0, .slice none 0 0, .slice none 0 0, .int .i64 0] 30 (0, 0)) := hW ▸ block_top w _ _
  clear hW
  refine (toGo_good 4001 (mkL l) (by rw [size_mkL]; omega) (by omega) (good_mkL HG.out) _ (fun b => b < W.heap.size) W (HV0.out.keep b1) (fun _ h => h)).mono ?_
  rintro e w2 ⟨g, rfl, hgv, hb2⟩
  have hgv' := hgv.lt
  obtain ⟨a2, c2, rfl, hgl⟩ := hgv'.asList
  rw [HN.out]
  have HGL := Lib.hid hgl
  have HB2 := Lib.hid (b1.trans (hb2.mono b1.size))
  have HZ := Lib.hid (keep hb2 z)
  have hs1 := b1.size
  have hs2 := hb2.size
  have hwlt : w.heap.size + 1 < W.heap.size := heap_lt z
  clear hgv hgv' hgl hb2 b1 z
  go_wp2_with fail
  refine (zzTranspose_any l hrows n HN.out hsz _ _ _ w2 HGL.out (fun b h => h.2)).mono ?_
  rintro e w3 ⟨g3, n3, rfl, hn3, hgl3, hb3⟩
  have HN3 := Lib.hid hn3
  have HGL3 := Lib.hid hgl3
  have HB3 := Lib.hid (HB2.out.trans (hb3.mono HB2.out.size))
  have HZ3 := Lib.hid (keep hb3 HZ.out)
  have hs3 := hb3.size
  clear hn3 hgl3 hb3
  go_wp2_with fail
  refine (result_any (mkL (transV l)) (fromGo_good 400000 _ (by have := size_trans hsz; rw [size_mkL]; omega) (by omega) (good_mkL (good_trans HG.out))) _ (fun r => r < w3.heap.size) w3 (by rw [mkL, GV]; exact .inr (.inr (.inr (.inr (.inr (.inl ⟨rfl, _, _, by rw [HN3.out], HGL3.out⟩)))))) (fun b h => h)).mono ?_
  rintro e w4 hr4
  obtain ⟨la4, ka4, va4, n4, lc4, kc4, vc4, rfl, hn4, hv4, hb4⟩ := ResL.of hr4
  have zz := cells7 (keep hb4 HZ3.out)
  have HB4 := Lib.hid (HB3.out.trans (hb4.mono HB3.out.size))
  have HV4 := Lib.hid hv4
  have HN4 := Lib.hid hn4
  have hz4 := heap_lt (keep hb4 HZ3.out)
  have HQ := Lib.hid hr4
  clear hv4 hb4 hn4 hr4
  go_wp2_with fail
  refine bodyPost_ret (v := .agg #[.int .i64 5, .int .i64 0, .string ⟨#[]⟩, .slice la4 n4 lc4, .slice ka4 0 kc4, .slice va4 0 vc4, .int .i64 0]) (by simp [results, Tryd.results22, go_sem, *]) rfl ⟨_, _, _, _, _, _, _, rfl, HN4.out, ?_, ?_⟩
  · obtain ⟨d0, d1, d2, d3, d4, d5, hd, hv, _⟩ := HQ.out
    simp only [Ending.returned.injEq, Value.agg.injEq, Array.mk.injEq, List.cons.injEq, and_true] at hd
    obtain ⟨rfl, rfl, rfl, rfl, rfl, rfl⟩ := hd
    exact RV.mono (fun _ _ => rfl) (fun b h => ⟨by have := h.1; omega, h.2⟩) _ _ (RV.lt _ _ (RV.mono (S := fun r => w3.heap.size ≤ r) (fun b hb => sets7_other _ _ _ _ _ _ _ (by omega)) (fun _ h => h) _ _ hv))
  · exact sets7 HB4.out (Nat.le_succ _) _ _ _ _ _ _ _


theorem listedC_any (la ka va : Option Addr) (n lc kc vc : Nat) (w : World) : Calls Tryd.prog 21 #[.agg #[.int .i64 5, .int .i64 0, .string ⟨#[]⟩, .slice la n lc, .slice ka 0 kc, .slice va 0 vc, .int .i64 0]] w (Ret (.tuple #[.slice la n lc, .bool true]) w) := by
  go_enter Tryd.func21, Tryd.ntmps21
  go_upto_region 1 with fail
  go_quiet (fail)
  go_wp2_with fail
  go_returns
  exact ⟨rfl, (below_alloc w _).trans ⟨rfl, rfl, rfl, Nat.le_refl _, fun _ _ => rfl⟩⟩

end Go.Proofs.YtnlndpgbhmkanaaDoor.Va
