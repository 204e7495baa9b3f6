/-
  FnNegate: the law's walk.
-/
import Derived.Test.YtnlndpgbhmkanaaDoorNgA
namespace Go.Proofs.YtnlndpgbhmkanaaDoor.Va
open Go.RowKit
set_option linter.unusedVariables false
set_option linter.unusedSimpArgs false

/-- what a law leaves -/
def LawEnd (w : World) (e : Ending) (w' : World) : Prop := e = .returned (.bool true) ∧ Below w.heap.size w w'


set_option maxHeartbeats 2000000 in
set_option maxRecDepth 100000 in
theorem negate_law (x : V) (hx : Wf x) (v : Value) (S : Nat → Prop) (w : World) (hv : RV w S x v) (hS : ∀ b, S b → b < w.heap.size) (hT : Tabs w) : Calls Tryd.prog 5 #[v] w (LawEnd w) := by
  have HV0 := Lib.hid hv
  have HX := Lib.hid hx
  have HS := Lib.hid hS
  have HT := Lib.hid hT
  obtain ⟨k, h, t, la, lc, n1, ka, kc, ks, n2, va, vc, n3, hn2, hq2, hk, rfl⟩ : ∃ (k h : Int) (t : ByteArray) (la : Option Addr) (lc n1 : Nat) (ka : Option Addr) (kc : Nat) (ks : List ByteArray) (n2 : Nat) (va : Option Addr) (vc n3 : Nat), ks.length = n2 ∧ n2 ≤ 140737488355328 ∧ RK w S ks ka ∧ v = .agg #[.int .i64 k, .int .i64 h, .string t, .slice la n1 lc, .slice ka n2 kc, .slice va n3 vc] := by
    cases x with
    | mk k h t ls ks vs =>
      rw [RV] at hv
      rw [Wf] at hx
      obtain ⟨la, lc, ka, kc, va, vc, e, _, h2, _⟩ := hv
      exact ⟨k, h, t, la, lc, _, ka, kc, ks, _, va, vc, _, rfl, hx.2.2.1, h2, e⟩
  have HK := Lib.hid hk
  have HN := Lib.hid hn2
  clear hv hx hS hT hk hn2
  go_enter Tryd.func5, Tryd.ntmps5
  go_wp2_with fail
  generalize hW : World.alloc w _ = W
  have B1 := Lib.hid (hW ▸ below_alloc w _ : Below w.heap.size w W)
  have z : W.heap[w.heap.size]? = some (.cells #[.int .i64 k, .int .i64 h, .string t, .slice la n1 lc, .slice ka n2 kc, .slice va n3 vc] 26 (0, 0)) := hW ▸ block_new w _ _
  clear hW
  refine (zzFits1_any k h t la ka va n1 lc n2 kc n3 vc ks HN.out hq2 S W (RK.mono (Same.of_below B1.out HS.out) (fun _ h => h) _ _ HK.out) (fun b h => Nat.lt_of_lt_of_le (HS.out b h) B1.out.size)).mono ?_
  rintro e w1 ⟨r1, rfl, hb1⟩
  have B2 := Lib.hid (B1.out.trans (hb1.mono B1.out.size))
  have Z1 := Lib.hid (keep hb1 z)
  clear z hb1
  cases r1
  · go_wp2_with fail
    go_returns
    exact ⟨rfl, B2.out⟩
  · have hc := cells6 Z1.out
    go_wp2_with fail
    clear hc
    refine (fit_any x HX.out S w1 _ (RV.mono (Same.of_below B2.out HS.out) (fun _ h => h) _ _ HV0.out) (fun b h => Nat.lt_of_lt_of_le (HS.out b h) B2.out.size) (HT.out.below B2.out)).mono ?_
    rintro e w2 ⟨r2, rfl, hb2, hgood⟩
    have B3 := Lib.hid (B2.out.trans (hb2.mono B2.out.size))
    have Z2 := Lib.hid (keep hb2 Z1.out)
    clear hb2
    cases r2
    · go_wp2_with fail
      go_returns
      exact ⟨rfl, B3.out⟩
    · obtain ⟨hg, hsz⟩ := hgood rfl
      obtain ⟨a, b, how, hM, hNg⟩ := negate_case x hg hsz k h t la ka va n1 n2 n3 lc kc vc S w2 (RV.mono (Same.of_below B3.out HS.out) (fun _ h => h) _ _ HV0.out) (fun b h => Nat.lt_of_lt_of_le (HS.out b h) B3.out.size)
      have HM := Lib.hid hM
      have HNG := Lib.hid hNg
      have hc := cells6 Z2.out
      clear hgood hg hsz hM hNg
      go_wp2_with fail
      refine (HM.out _).mono ?_
      rintro e w3 ⟨rfl, hb3⟩
      unfold flat
      have B4 := Lib.hid hb3
      have Z3 := Lib.hid (keep hb3 Z2.out)
      clear hb3 hc
      go_upto_region 6 with fail
      generalize hW : World.alloc w3 _ = W4
      have b5 : Below w3.heap.size w3 W4 := hW ▸ below_alloc w3 _
      have z5 : W4.heap[w3.heap.size]? = some (.cells #[.int .i64 a, .int .i64 b, .string ⟨#[]⟩, .slice none 0 0, .slice none 0 0, .slice none 0 0] 26 (0, 0)) := hW ▸ block_new w3 _ _
      have z6 := keep b5 Z3.out
      clear hW
      refine wp_region_D (TwoBlocks w.heap.size w3.heap.size (.cells #[.int .i64 k, .int .i64 h, .string t, .slice la n1 lc, .slice ka n2 kc, .slice va n3 vc] 26 (0, 0)) (.cells #[.int .i64 a, .int .i64 b, .string ⟨#[]⟩, .slice none 0 0, .slice none 0 0, .slice none 0 0] 26 (0, 0))) [4, 5] (by kernel_rfl) ?_
      generalize hWd : World.drew W4 = W5
      have hS3 : TwoBlocks w.heap.size w3.heap.size (.cells #[.int .i64 k, .int .i64 h, .string t, .slice la n1 lc, .slice ka n2 kc, .slice va n3 vc] 26 (0, 0)) (.cells #[.int .i64 a, .int .i64 b, .string ⟨#[]⟩, .slice none 0 0, .slice none 0 0, .slice none 0 0] 26 (0, 0)) W5 := hWd ▸ ⟨z6, z5⟩
      have hb6 : Below w2.heap.size w2 W5 := hWd ▸ (B4.out.trans (b5.mono B4.out.size)).drew
      have B6 := Lib.hid hb6
      clear hWd b5 z5 z6 hb6
      (refine wpAnyD_take (i := 0) (v := ?_) [1, 4, 5] [4, 5] rfl (by kernel_rfl) (by kernel_rfl) (by kernel_rfl) (fun _ _ _ h => h) (by kernel_rfl) (by kernel_rfl) (by kernel_rfl) (Or.inl ⟨?_, ?_⟩) hS3 ?_
       rotate_left
       focus rfl
       focus (intro w' hw'; have hw1 := cells6 hw'.1; have hw2 := cells6 hw'.2; clear hw'; go_simp; with_reducible rfl)
       try go_simp)
      (refine wpAnyD_take (i := 2) (v := ?_) [4, 5] [4, 5] rfl (by kernel_rfl) (by kernel_rfl) (by kernel_rfl) (fun _ _ _ h => h) (by kernel_rfl) (by kernel_rfl) (by kernel_rfl) (Or.inl ⟨?_, ?_⟩) hS3 ?_
       rotate_left
       focus rfl
       focus (intro w' hw'; have hw1 := cells6 hw'.1; have hw2 := cells6 hw'.2; clear hw'; go_simp; with_reducible rfl)
       try go_simp)
      (refine wpAnyD_take (i := 3) (v := ?_) [4, 5] [4, 5] rfl (by kernel_rfl) (by kernel_rfl) (by kernel_rfl) (fun _ _ _ h => h) (by kernel_rfl) (by kernel_rfl) (by kernel_rfl) (Or.inl ⟨?_, ?_⟩) hS3 ?_
       rotate_left
       focus rfl
       focus (intro w' hw'; have hw1 := cells6 hw'.1; have hw2 := cells6 hw'.2; clear hw'; go_simp; with_reducible rfl)
       try go_simp)
      refine wpAnyD_ready (rs := [1]) (by kernel_rfl) (by simp) ?_
      refine AllReadyD.cons rfl (fun K hK => ?_) AllReadyD.nil
      go_simp
      refine (HNG.out W5 B6.out).mono ?_
      rintro e w7 ⟨t0, n0, tx, la1, l1, lc1, ka1, l2, kc1, va1, l3, vc1, en, rfl, hb7, htold⟩
      have HTO := Lib.hid htold
      have B7 := Lib.hid (B6.out.trans (hb7.mono B6.out.size))
      refine hK.out _ _ (fun _ => ⟨keep hb7 hS3.1, keep hb7 hS3.2⟩) ?_
      clear hK K htold hb7
      try go_simp
      refine wpAnyD_ready (rs := [4]) (by kernel_rfl) (by simp) ?_
      refine AllReadyD.cons rfl (fun K hK => ?_) AllReadyD.nil
      go_simp
      refine (HTO.out w7 (Below.refl _ _)).mono ?_
      rintro e w8 ⟨rfl, hb8⟩
      have B8 := Lib.hid (B3.out.trans ((B7.out.trans (hb8.mono B7.out.size)).mono B3.out.size))
      refine hK.out _ _ (fun h => absurd h (by decide)) ?_
      clear hK K hb8
      try go_simp
      refine wpAnyD_ready (rs := [5]) (by kernel_rfl) (by simp) ?_
      refine AllReadyD.cons rfl (fun K hK => ?_) AllReadyD.nil
      go_simp
      refine hK.out _ _ (fun h => absurd h (by decide)) ?_
      clear hK K
      try go_simp
      refine wpAnyD_done (by kernel_rfl) ?_ _
      clear hS3
      go_wp2_with fail
      go_returns
      exact ⟨rfl, B8.out⟩

end Go.Proofs.YtnlndpgbhmkanaaDoor.Va
