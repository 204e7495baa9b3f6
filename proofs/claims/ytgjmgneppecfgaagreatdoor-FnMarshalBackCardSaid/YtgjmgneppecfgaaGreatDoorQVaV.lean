/-
  THE WALKS of Cmp and Same: a value is the same as itself.
-/
import Derived.Test.YtgjmgneppecfgaaGreatDoorQ01
set_option linter.unusedVariables false
set_option linter.unusedSimpArgs false
namespace Go.Proofs.YtgjmgneppecfgaaGreatDoor.Va
open Go.RowKit
set_option linter.unusedVariables false
set_option linter.unusedSimpArgs false

theorem less_self (l : List UInt8) : Op.bytesLess l l = false := by
  induction l with
  | nil => rfl
  | cons a t ih => simp [Op.bytesLess, ih]
theorem texts_same (s : ByteArray) (w : World) : Calls Tryz.prog 100 #[.string s, .string s] w fun e w' => e = .returned (.int .i64 0) ∧ w = w' := by
  have h := less_self s.toList
  go_enter Tryz.func100, Tryz.ntmps100
  go_wp2
  go_returns
  exact ⟨rfl, rfl⟩
theorem sign_zero (w : World) : Calls Tryz.prog 99 #[.int .i64 0] w fun e w' => e = .returned (.int .i64 0) ∧ w = w' := by
  go_enter Tryz.func99, Tryz.ntmps99
  go_wp2
  go_returns
  exact ⟨rfl, rfl⟩

/-- Cmp finds x the same as itself -/
def CW (x : V) : Prop := ∀ (v1 v2 : Value) (S : Nat → Prop) (w : World), RV w S x v1 → RV w S x v2 → (∀ b, S b → b < w.heap.size) → Calls Tryz.prog 48 #[v1, v2] w (Ret (.int .i64 0) w)
/-- the loops' relation -/
def LoopC (n : Nat) (w : World) (i : Value) (wr : World) : Prop := ∃ k : Nat, i = .int .i64 k ∧ k ≤ n ∧ Below w.heap.size w wr


set_option maxHeartbeats 2000000 in
set_option maxRecDepth 100000 in
theorem ckeys_any (l : List ByteArray) (n : Nat) (hn : l.length = n) (hq : n ≤ 140737488355328) (a1 a2 : Option Addr) (q1 q2 : Nat) (S : Nat → Prop) (w : World) (h1 : RK w S l a1) (h2 : RK w S l a2) (hS : ∀ b, S b → b < w.heap.size) :
    Calls Tryz.prog 102 #[.slice a1 n q1, .slice a2 n q2] w (Ret (.int .i64 0) w) := by
  have HN := Lib.hid hn
  have HS := Lib.hid hS
  have HR1 := Lib.hid h1
  have HR2 := Lib.hid h2
  have hq' : n ≤ 140737488355328 := hq
  clear hn hS h1 h2 hq
  go_enter Tryz.func102, Tryz.ntmps102
  go_wp2_with fail
  go_loopw [5] (LoopC n w) (fun i _ => n - (intOf i).toNat)
  case atStart => exact ⟨0, rfl, Nat.zero_le _, Below.refl _ _⟩
  case round =>
    obtain ⟨k, rfl, hk, hb⟩ := hrel
    have HB := Lib.hid hb
    clear hb
    by_cases hlt : k < n
    · obtain ⟨b1, o1, rfl⟩ := HR1.out.addr (by rw [HN.out]; omega)
      obtain ⟨b2, o2, rfl⟩ := HR2.out.addr (by rw [HN.out]; omega)
      obtain ⟨hs1, hc1⟩ := RK.at l b1 o1 HR1.out k (by rw [HN.out]; exact hlt)
      obtain ⟨hs2, hc2⟩ := RK.at l b2 o2 HR2.out k (by rw [HN.out]; exact hlt)
      obtain ⟨s, hs⟩ : ∃ s, Hid (l[k]'(by rw [HN.out]; exact hlt) = s) := ⟨_, Lib.hid rfl⟩
      rw [hs.out] at hc1 hc2
      have HC1 := Lib.hid (fun (w' : World) (h : Below w.heap.size w w') => ((Same.of_below h HS.out : Same S w w').cell hs1).trans hc1)
      have HC2 := Lib.hid (fun (w' : World) (h : Below w.heap.size w w') => ((Same.of_below h HS.out : Same S w w').cell hs2).trans hc2)
      clear hs1 hs2 hc1 hc2
      go_upto_region 4 with fail
      refine wp_region_D (Below w.heap.size w) [8, 9] (by kernel_rfl) ?_
      generalize hWd : World.drew wr = W3
      have hS3 : Below w.heap.size w W3 := hWd ▸ HB.out.drew
      clear hWd
      (refine wpAnyD_take (i := 0) (v := ?_) [2, 3, 8, 9] [8, 9] rfl (by kernel_rfl) (by kernel_rfl) (by kernel_rfl) (fun _ _ _ h => h) (by kernel_rfl) (by kernel_rfl) (by kernel_rfl) (Or.inl ⟨?_, ?_⟩) hS3 ?_
       rotate_left
       focus rfl
       focus (intro w' hw'; have hw1 := HC1.out w' hw'; have hw2 := HC2.out w' hw'; clear hw'; go_simp; with_reducible rfl)
       try go_simp)
      (refine wpAnyD_take (i := 1) (v := ?_) [2, 3, 8, 9] [8, 9] rfl (by kernel_rfl) (by kernel_rfl) (by kernel_rfl) (fun _ _ _ h => h) (by kernel_rfl) (by kernel_rfl) (by kernel_rfl) (Or.inl ⟨?_, ?_⟩) hS3 ?_
       rotate_left
       focus rfl
       focus (intro w' hw'; have hw1 := HC1.out w' hw'; have hw2 := HC2.out w' hw'; clear hw'; go_simp; with_reducible rfl)
       try go_simp)
      (refine wpAnyD_take (i := 2) (v := ?_) [3, 8, 9] [8, 9] rfl (by kernel_rfl) (by kernel_rfl) (by kernel_rfl) (fun _ _ _ h => h) (by kernel_rfl) (by kernel_rfl) (by kernel_rfl) (Or.inl ⟨?_, ?_⟩) hS3 ?_
       rotate_left
       focus rfl
       focus (intro w' hw'; have hw1 := HC1.out w' hw'; have hw2 := HC2.out w' hw'; clear hw'; go_simp; with_reducible rfl)
       try go_simp)
      (refine wpAnyD_take (i := 3) (v := ?_) [8, 9] [8, 9] rfl (by kernel_rfl) (by kernel_rfl) (by kernel_rfl) (fun _ _ _ h => h) (by kernel_rfl) (by kernel_rfl) (by kernel_rfl) (Or.inl ⟨?_, ?_⟩) hS3 ?_
       rotate_left
       focus rfl
       focus (intro w' hw'; have hw1 := HC1.out w' hw'; have hw2 := HC2.out w' hw'; clear hw'; go_simp; with_reducible rfl)
       try go_simp)
      (refine wpAnyD_take (i := 4) (v := ?_) [6, 7, 8, 9] [8, 9] rfl (by kernel_rfl) (by kernel_rfl) (by kernel_rfl) (fun _ _ _ h => h) (by kernel_rfl) (by kernel_rfl) (by kernel_rfl) (Or.inl ⟨?_, ?_⟩) hS3 ?_
       rotate_left
       focus rfl
       focus (intro w' hw'; have hw1 := HC1.out w' hw'; have hw2 := HC2.out w' hw'; clear hw'; go_simp; with_reducible rfl)
       try go_simp)
      (refine wpAnyD_take (i := 5) (v := ?_) [6, 7, 8, 9] [8, 9] rfl (by kernel_rfl) (by kernel_rfl) (by kernel_rfl) (fun _ _ _ h => h) (by kernel_rfl) (by kernel_rfl) (by kernel_rfl) (Or.inl ⟨?_, ?_⟩) hS3 ?_
       rotate_left
       focus rfl
       focus (intro w' hw'; have hw1 := HC1.out w' hw'; have hw2 := HC2.out w' hw'; clear hw'; go_simp; with_reducible rfl)
       try go_simp)
      (refine wpAnyD_take (i := 6) (v := ?_) [7, 8, 9] [8, 9] rfl (by kernel_rfl) (by kernel_rfl) (by kernel_rfl) (fun _ _ _ h => h) (by kernel_rfl) (by kernel_rfl) (by kernel_rfl) (Or.inl ⟨?_, ?_⟩) hS3 ?_
       rotate_left
       focus rfl
       focus (intro w' hw'; have hw1 := HC1.out w' hw'; have hw2 := HC2.out w' hw'; clear hw'; go_simp; with_reducible rfl)
       try go_simp)
      (refine wpAnyD_take (i := 7) (v := ?_) [8, 9] [8, 9] rfl (by kernel_rfl) (by kernel_rfl) (by kernel_rfl) (fun _ _ _ h => h) (by kernel_rfl) (by kernel_rfl) (by kernel_rfl) (Or.inl ⟨?_, ?_⟩) hS3 ?_
       rotate_left
       focus rfl
       focus (intro w' hw'; have hw1 := HC1.out w' hw'; have hw2 := HC2.out w' hw'; clear hw'; go_simp; with_reducible rfl)
       try go_simp)
      refine wpAnyD_ready (rs := [8]) (by kernel_rfl) (by simp) ?_
      refine AllReadyD.cons rfl (fun K hK => ?_) AllReadyD.nil
      go_simp
      refine (texts_same s W3).mono ?_
      rintro e w8 ⟨rfl, rfl⟩
      refine hK.out _ _ (fun h => absurd h (by decide)) ?_
      clear hK K
      try go_simp
      refine wpAnyD_ready (rs := [9]) (by kernel_rfl) (by simp) ?_
      refine AllReadyD.cons rfl (fun K hK => ?_) AllReadyD.nil
      go_simp
      refine hK.out _ _ (fun h => absurd h (by decide)) ?_
      clear hK K
      try go_simp
      refine wpAnyD_done (by kernel_rfl) ?_ _
      have HS3 := Lib.hid hS3
      clear hS3
      go_wp2_with fail
      go_roundw
      case rel => exact ⟨k + 1, rfl, hlt, HS3.out⟩
      case measure => simp [intOf]; omega
    · obtain rfl : k = n := by omega
      go_wp2_with fail
      go_returns
      exact ⟨by simp, HB.out⟩

set_option maxHeartbeats 4000000 in
set_option maxRecDepth 100000 in
theorem clists_any (l : List V) (H : ∀ x ∈ l, CW x) (n : Nat) (hn : l.length = n) (hq : n ≤ 140737488355328) (a1 a2 : Option Addr) (q1 q2 : Nat) (S : Nat → Prop) (w : World) (h1 : RL w S l a1) (h2 : RL w S l a2) (hS : ∀ b, S b → b < w.heap.size) :
    Calls Tryz.prog 101 #[.slice a1 n q1, .slice a2 n q2] w (Ret (.int .i64 0) w) := by
  have HN := Lib.hid hn
  have HS := Lib.hid hS
  have HH := Lib.hid H
  have HR1 := Lib.hid h1
  have HR2 := Lib.hid h2
  have hq' : n ≤ 140737488355328 := hq
  clear hn hS h1 h2 hq H
  go_enter Tryz.func101, Tryz.ntmps101
  go_wp2_with fail
  go_loopw [5] (LoopC n w) (fun i _ => n - (intOf i).toNat)
  case atStart => exact ⟨0, rfl, Nat.zero_le _, Below.refl _ _⟩
  case round =>
    obtain ⟨k, rfl, hk, hb⟩ := hrel
    have HB := Lib.hid hb
    clear hb
    by_cases hlt : k < n
    · obtain ⟨b1, o1, rfl⟩ := HR1.out.addr (by rw [HN.out]; omega)
      obtain ⟨b2, o2, rfl⟩ := HR2.out.addr (by rw [HN.out]; omega)
      obtain ⟨hs1, c0, c1, c2, c3, c4, c5, h6, hx⟩ := RL.at l b1 o1 HR1.out k (by rw [HN.out]; exact hlt)
      obtain ⟨hs2, d0, d1, d2, d3, d4, d5, k6, kx⟩ := RL.at l b2 o2 HR2.out k (by rw [HN.out]; exact hlt)
      obtain ⟨la, lc, ka, kc, va, vc, t0, m0, tx, ls, ks, vs, e, HX⟩ := RV.parts hx
      simp only [Value.agg.injEq, Array.mk.injEq, List.cons.injEq, and_true] at e
      obtain ⟨rfl, rfl, rfl, rfl, rfl, rfl⟩ := e
      obtain ⟨la2, lc2, ka2, kc2, va2, vc2, t2, m2, tx2, ls2, ks2, vs2, e, KX⟩ := RV.parts kx
      simp only [Value.agg.injEq, Array.mk.injEq, List.cons.injEq, and_true] at e
      obtain ⟨rfl, rfl, rfl, rfl, rfl, rfl⟩ := e
      have HC1 := Lib.hid (fun (w' : World) (h : Below w.heap.size w w') => Six.mono (Same.of_below h HS.out) hs1 h6)
      have HC2 := Lib.hid (fun (w' : World) (h : Below w.heap.size w w') => Six.mono (Same.of_below h HS.out) hs2 k6)
      simp only [Six] at HC1 HC2
      clear hs1 hs2 h6 k6 hx kx
      go_upto_region 4 with fail
      refine wp_region_D (Below w.heap.size w) [8, 9] (by kernel_rfl) ?_
      generalize hWd : World.drew wr = W3
      have hS3 : Below w.heap.size w W3 := hWd ▸ HB.out.drew
      clear hWd
      (refine wpAnyD_take (i := 0) (v := ?_) [2, 3, 8, 9] [8, 9] rfl (by kernel_rfl) (by kernel_rfl) (by kernel_rfl) (fun _ _ _ h => h) (by kernel_rfl) (by kernel_rfl) (by kernel_rfl) (Or.inl ⟨?_, ?_⟩) hS3 ?_
       rotate_left
       focus rfl
       focus (intro w' hw'; have hw1 := HC1.out w' hw'; have hw2 := HC2.out w' hw'; clear hw'; go_simp; with_reducible rfl)
       try go_simp)
      (refine wpAnyD_take (i := 1) (v := ?_) [2, 3, 8, 9] [8, 9] rfl (by kernel_rfl) (by kernel_rfl) (by kernel_rfl) (fun _ _ _ h => h) (by kernel_rfl) (by kernel_rfl) (by kernel_rfl) (Or.inl ⟨?_, ?_⟩) hS3 ?_
       rotate_left
       focus rfl
       focus (intro w' hw'; have hw1 := HC1.out w' hw'; have hw2 := HC2.out w' hw'; clear hw'; go_simp; with_reducible rfl)
       try go_simp)
      (refine wpAnyD_take (i := 2) (v := ?_) [3, 8, 9] [8, 9] rfl (by kernel_rfl) (by kernel_rfl) (by kernel_rfl) (fun _ _ _ h => h) (by kernel_rfl) (by kernel_rfl) (by kernel_rfl) (Or.inl ⟨?_, ?_⟩) hS3 ?_
       rotate_left
       focus rfl
       focus (intro w' hw'; have hw1 := HC1.out w' hw'; have hw2 := HC2.out w' hw'; clear hw'; go_simp; with_reducible rfl)
       try go_simp)
      (refine wpAnyD_take (i := 3) (v := ?_) [8, 9] [8, 9] rfl (by kernel_rfl) (by kernel_rfl) (by kernel_rfl) (fun _ _ _ h => h) (by kernel_rfl) (by kernel_rfl) (by kernel_rfl) (Or.inl ⟨?_, ?_⟩) hS3 ?_
       rotate_left
       focus rfl
       focus (intro w' hw'; have hw1 := HC1.out w' hw'; have hw2 := HC2.out w' hw'; clear hw'; go_simp; with_reducible rfl)
       try go_simp)
      (refine wpAnyD_take (i := 4) (v := ?_) [6, 7, 8, 9] [8, 9] rfl (by kernel_rfl) (by kernel_rfl) (by kernel_rfl) (fun _ _ _ h => h) (by kernel_rfl) (by kernel_rfl) (by kernel_rfl) (Or.inl ⟨?_, ?_⟩) hS3 ?_
       rotate_left
       focus rfl
       focus (intro w' hw'; have hw1 := HC1.out w' hw'; have hw2 := HC2.out w' hw'; clear hw'; go_simp; with_reducible rfl)
       try go_simp)
      (refine wpAnyD_take (i := 5) (v := ?_) [6, 7, 8, 9] [8, 9] rfl (by kernel_rfl) (by kernel_rfl) (by kernel_rfl) (fun _ _ _ h => h) (by kernel_rfl) (by kernel_rfl) (by kernel_rfl) (Or.inl ⟨?_, ?_⟩) hS3 ?_
       rotate_left
       focus rfl
       focus (intro w' hw'; have hw1 := HC1.out w' hw'; have hw2 := HC2.out w' hw'; clear hw'; go_simp; with_reducible rfl)
       try go_simp)
      (refine wpAnyD_take (i := 6) (v := ?_) [7, 8, 9] [8, 9] rfl (by kernel_rfl) (by kernel_rfl) (by kernel_rfl) (fun _ _ _ h => h) (by kernel_rfl) (by kernel_rfl) (by kernel_rfl) (Or.inl ⟨?_, ?_⟩) hS3 ?_
       rotate_left
       focus rfl
       focus (intro w' hw'; have hw1 := HC1.out w' hw'; have hw2 := HC2.out w' hw'; clear hw'; go_simp; with_reducible rfl)
       try go_simp)
      (refine wpAnyD_take (i := 7) (v := ?_) [8, 9] [8, 9] rfl (by kernel_rfl) (by kernel_rfl) (by kernel_rfl) (fun _ _ _ h => h) (by kernel_rfl) (by kernel_rfl) (by kernel_rfl) (Or.inl ⟨?_, ?_⟩) hS3 ?_
       rotate_left
       focus rfl
       focus (intro w' hw'; have hw1 := HC1.out w' hw'; have hw2 := HC2.out w' hw'; clear hw'; go_simp; with_reducible rfl)
       try go_simp)
      refine wpAnyD_ready (rs := [8]) (by kernel_rfl) (by simp) ?_
      refine AllReadyD.cons rfl (fun K hK => ?_) AllReadyD.nil
      go_simp
      refine (HH.out _ (List.getElem_mem (by rw [HN.out]; exact hlt)) _ _ S W3 (RV.mono (Same.of_below hS3 HS.out) (fun _ h => h) _ _ HX.out) (RV.mono (Same.of_below hS3 HS.out) (fun _ h => h) _ _ KX.out) (fun b h => Nat.lt_of_lt_of_le (HS.out b h) hS3.size)).mono ?_
      rintro e w8 ⟨rfl, hb8⟩
      have HS3 := Lib.hid (hS3.trans (hb8.mono hS3.size))
      clear hS3 hb8
      refine hK.out _ _ (fun h => absurd h (by decide)) ?_
      clear hK K
      try go_simp
      refine wpAnyD_ready (rs := [9]) (by kernel_rfl) (by simp) ?_
      refine AllReadyD.cons rfl (fun K hK => ?_) AllReadyD.nil
      go_simp
      refine hK.out _ _ (fun h => absurd h (by decide)) ?_
      clear hK K
      try go_simp
      refine wpAnyD_done (by kernel_rfl) ?_ _
      go_wp2_with fail
      go_roundw
      case rel => exact ⟨k + 1, rfl, hlt, HS3.out⟩
      case measure => simp [intOf]; omega
    · obtain rfl : k = n := by omega
      go_wp2_with fail
      go_returns
      exact ⟨by simp, HB.out⟩

section
variable (h : Int) (t : ByteArray) (ls : List V) (ks : List ByteArray) (vs : List V) (la ka va la' ka' va' : Option Addr) (n1 n2 n3 lc kc vc lc' kc' vc' : Nat) (w : World)

set_option maxHeartbeats 1000000 in
theorem cmp_012 (k : Int) (hk : k = 0 ∨ k = 1 ∨ k = 2) : Calls Tryz.prog 48 #[.agg #[.int .i64 k, .int .i64 h, .string t, .slice la n1 lc, .slice ka n2 kc, .slice va n3 vc], .agg #[.int .i64 k, .int .i64 h, .string t, .slice la' n1 lc', .slice ka' n2 kc', .slice va' n3 vc']] w (Ret (.int .i64 0) w) := by
  rcases hk with rfl | rfl | rfl
  all_goals
    (go_enter Tryz.func48, Tryz.ntmps48
     go_wp2_with fail)
    go_returns
    exact ⟨rfl, by go_grown⟩

set_option maxHeartbeats 1000000 in
theorem cmp_3 : Calls Tryz.prog 48 #[.agg #[.int .i64 3, .int .i64 h, .string t, .slice la n1 lc, .slice ka n2 kc, .slice va n3 vc], .agg #[.int .i64 3, .int .i64 h, .string t, .slice la' n1 lc', .slice ka' n2 kc', .slice va' n3 vc']] w (Ret (.int .i64 0) w) := by
  have h0 : h - h = 0 := Int.sub_self h
  have HZ := Lib.hid (fun w => sign_zero w)
  (go_enter Tryz.func48, Tryz.ntmps48
   go_wp2_with fail)
  refine (HZ.out _).mono ?_
  rintro e w' ⟨rfl, rfl⟩
  go_wp2_with fail
  go_returns
  exact ⟨rfl, by go_grown⟩

set_option maxHeartbeats 1000000 in
theorem cmp_4 : Calls Tryz.prog 48 #[.agg #[.int .i64 4, .int .i64 h, .string t, .slice la n1 lc, .slice ka n2 kc, .slice va n3 vc], .agg #[.int .i64 4, .int .i64 h, .string t, .slice la' n1 lc', .slice ka' n2 kc', .slice va' n3 vc']] w (Ret (.int .i64 0) w) := by
  (go_enter Tryz.func48, Tryz.ntmps48
   go_wp2_with fail)
  refine (texts_same t _).mono ?_
  rintro e w' ⟨rfl, rfl⟩
  go_wp2_with fail
  go_returns
  exact ⟨rfl, by go_grown⟩

set_option maxHeartbeats 1000000 in
theorem cmp_5 (H : ∀ x ∈ ls, CW x) (hn : ls.length = n1) (hq : n1 ≤ 140737488355328) (S : Nat → Prop) (h1 : RL w S ls la) (h2 : RL w S ls la') (hS : ∀ b, S b → b < w.heap.size) : Calls Tryz.prog 48 #[.agg #[.int .i64 5, .int .i64 h, .string t, .slice la n1 lc, .slice ka n2 kc, .slice va n3 vc], .agg #[.int .i64 5, .int .i64 h, .string t, .slice la' n1 lc', .slice ka' n2 kc', .slice va' n3 vc']] w (Ret (.int .i64 0) w) := by
  have HH := Lib.hid H
  have HS := Lib.hid hS
  have H1 := Lib.hid h1
  have H2 := Lib.hid h2
  clear H hS h1 h2
  (go_enter Tryz.func48, Tryz.ntmps48
   go_wp2_with fail)
  generalize hW : World.alloc _ _ = W
  have hb : Below w.heap.size w W := hW ▸ (by go_grown)
  refine (clists_any ls HH.out n1 hn hq la la' _ _ S W (RL.mono (Same.of_below hb HS.out) (fun _ h => h) _ _ H1.out) (RL.mono (Same.of_below hb HS.out) (fun _ h => h) _ _ H2.out) (fun b h => Nat.lt_of_lt_of_le (HS.out b h) hb.size)).mono ?_
  rintro e w' ⟨rfl, hb2⟩
  have HB := Lib.hid (hb.trans (hb2.mono hb.size))
  clear hb hb2 hW
  go_wp2_with fail
  refine (sign_zero _).mono ?_
  rintro e w' ⟨rfl, rfl⟩
  go_wp2_with fail
  go_returns
  exact ⟨rfl, HB.out⟩

set_option maxHeartbeats 1000000 in
theorem cmp_6 (H : ∀ x ∈ vs, CW x) (hn2 : ks.length = n2) (hn3 : vs.length = n3) (hq2 : n2 ≤ 140737488355328) (hq : n3 ≤ 140737488355328) (S : Nat → Prop) (g1 : RK w S ks ka) (g2 : RK w S ks ka') (h1 : RL w S vs va) (h2 : RL w S vs va') (hS : ∀ b, S b → b < w.heap.size) : Calls Tryz.prog 48 #[.agg #[.int .i64 6, .int .i64 h, .string t, .slice la n1 lc, .slice ka n2 kc, .slice va n3 vc], .agg #[.int .i64 6, .int .i64 h, .string t, .slice la' n1 lc', .slice ka' n2 kc', .slice va' n3 vc']] w (Ret (.int .i64 0) w) := by
  have HH := Lib.hid H
  have HS := Lib.hid hS
  have H1 := Lib.hid h1
  have H2 := Lib.hid h2
  have G1 := Lib.hid g1
  have G2 := Lib.hid g2
  clear H hS h1 h2 g1 g2
  (go_enter Tryz.func48, Tryz.ntmps48
   go_wp2_with fail)
  generalize hW : World.alloc (World.alloc w _) _ = W
  have hb : Below w.heap.size w W := hW ▸ (by go_grown)
  have z1 := Lib.hid (hW ▸ block_past (block_new w _ _) _ : W.heap[w.heap.size]? = some (.cells #[.int .i64 6, .int .i64 h, .string t, .slice la n1 lc, .slice ka n2 kc, .slice va n3 vc] 27 (0, 0)))
  have z2 := Lib.hid (hW ▸ (by have := block_new (w.alloc (.cells #[.int .i64 6, .int .i64 h, .string t, .slice la n1 lc, .slice ka n2 kc, .slice va n3 vc] 27)) #[.int .i64 6, .int .i64 h, .string t, .slice la' n1 lc', .slice ka' n2 kc', .slice va' n3 vc'] 27; rwa [World.size_alloc] at this) : W.heap[w.heap.size + 1]? = some (.cells #[.int .i64 6, .int .i64 h, .string t, .slice la' n1 lc', .slice ka' n2 kc', .slice va' n3 vc'] 27 (0, 0)))
  clear hW
  refine (ckeys_any ks n2 hn2 hq2 ka ka' _ _ S W (RK.mono (Same.of_below hb HS.out) (fun _ h => h) _ _ G1.out) (RK.mono (Same.of_below hb HS.out) (fun _ h => h) _ _ G2.out) (fun b h => Nat.lt_of_lt_of_le (HS.out b h) hb.size)).mono ?_
  rintro e w2 ⟨rfl, hb2⟩
  have y1 := cells6 (keep hb2 z1.out)
  have y2 := cells6 (keep hb2 z2.out)
  have hb3 := hb.trans (hb2.mono hb.size)
  have HB := Lib.hid hb3
  clear hb hb2 z1 z2 hb3
  go_wp2_with fail
  refine (clists_any vs HH.out n3 hn3 hq va va' _ _ S w2 (RL.mono (Same.of_below HB.out HS.out) (fun _ h => h) _ _ H1.out) (RL.mono (Same.of_below HB.out HS.out) (fun _ h => h) _ _ H2.out) (fun b h => Nat.lt_of_lt_of_le (HS.out b h) HB.out.size)).mono ?_
  rintro e w' ⟨rfl, hb2⟩
  have HB2 := Lib.hid (HB.out.trans (hb2.mono HB.out.size))
  clear hb2
  go_wp2_with fail
  refine (sign_zero _).mono ?_
  rintro e w' ⟨rfl, rfl⟩
  go_wp2_with fail
  go_returns
  exact ⟨rfl, HB2.out⟩
end

theorem cmp_good : ∀ (n : Nat) (x : V), x.size ≤ n → n ≤ 2147483647 → Good x → CW x
  | 0, x, h, _, _ => by have := size_pos x; omega
  | n + 1, .mk k h t ls ks vs, hsz, hn, hg => by
    intro v1 v2 S w hv1 hv2 hS
    rw [RV] at hv1 hv2
    rw [Good] at hg
    obtain ⟨g1, gl, gr, gv⟩ := hg
    rw [V.size] at hsz
    obtain ⟨la, lc, ka, kc, va, vc, rfl, h1, h2, h3⟩ := hv1
    obtain ⟨la', lc', ka', kc', va', vc', rfl, h1', h2', h3'⟩ := hv2
    have hls := length_le ls
    have hvs := length_le vs
    have hll := g1.len
    have k0 := g1.k0
    have k6 := g1.k6
    obtain q | rfl | rfl | rfl | rfl : (k = 0 ∨ k = 1 ∨ k = 2) ∨ k = 3 ∨ k = 4 ∨ k = 5 ∨ k = 6 := by omega
    · exact cmp_012 _ _ _ _ _ _ _ _ _ _ _ _ _ _ _ _ _ _ k q
    · exact cmp_3 _ _ _ _ _ _ _ _ _ _ _ _ _ _ _ _ _ _
    · exact cmp_4 _ _ _ _ _ _ _ _ _ _ _ _ _ _ _ _ _ _
    · exact cmp_5 _ _ ls _ _ _ _ _ _ _ _ _ _ _ _ _ _ _ _ (fun x hx => cmp_good n x (by have := size_mem hx; omega) (by omega) (gl.mem x hx)) rfl (by omega) S h1 h1' hS
    · exact cmp_6 _ _ ks vs _ _ _ _ _ _ _ _ _ _ _ _ _ _ _ _ (fun x hx => cmp_good n x (by have := size_mem hx; omega) (by omega) (gv.mem x hx)) rfl rfl (by omega) (by omega) S h2 h2' h3 h3' hS

set_option maxHeartbeats 1000000 in
theorem same_any (x : V) (H : CW x) (v1 v2 : Value) (S : Nat → Prop) (w : World) (h1 : RV w S x v1) (h2 : RV w S x v2) (hS : ∀ b, S b → b < w.heap.size) : Calls Tryz.prog 17 #[v1, v2] w (Ret (.bool true) w) := by
  have HH := Lib.hid H
  have HS := Lib.hid hS
  obtain ⟨la, lc, ka, kc, va, vc, t0, n0, tx, n1, n2, n3, rfl, HV⟩ := RV.parts h1
  obtain ⟨la', lc', ka', kc', va', vc', t0', n0', tx', n1', n2', n3', rfl, HV'⟩ := RV.parts h2
  clear H hS h1 h2
  go_enter Tryz.func17, Tryz.ntmps17
  go_wp2_with fail
  generalize hW : World.alloc (World.alloc w _) _ = W
  have hb : Below w.heap.size w W := hW ▸ (by go_grown)
  clear hW
  refine (HH.out _ _ S W (RV.mono (Same.of_below hb HS.out) (fun _ h => h) _ _ HV.out) (RV.mono (Same.of_below hb HS.out) (fun _ h => h) _ _ HV'.out) (fun b h => Nat.lt_of_lt_of_le (HS.out b h) hb.size)).mono ?_
  rintro e w' ⟨rfl, hb2⟩
  have HB := Lib.hid (hb.trans (hb2.mono hb.size))
  clear hb hb2
  go_wp2_with fail
  go_returns
  exact ⟨rfl, HB.out⟩

end Go.Proofs.YtgjmgneppecfgaaGreatDoor.Va
