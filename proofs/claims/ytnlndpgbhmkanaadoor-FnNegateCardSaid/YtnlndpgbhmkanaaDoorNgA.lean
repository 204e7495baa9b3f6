/-
  FnNegate: the answer of Negate, and the law's walk.
-/
import Derived.Test.YtnlndpgbhmkanaaDoorVaY
import Derived.Test.YtnlndpgbhmkanaaDoorVaP
namespace Go.Proofs.YtnlndpgbhmkanaaDoor.Va
open Go.RowKit
set_option linter.unusedVariables false
set_option linter.unusedSimpArgs false

def negV (h : Int) : V := .mk 3 (-h) ⟨#[]⟩ [] [] []
theorem good_neg {h : Int} (hlo : -18014398509481984 ≤ h) (hhi : h ≤ 18014398509481984) (hodd : h % 2 = 0 ∨ (-9007199254740992 < h ∧ h < 9007199254740992)) : Good (negV h) := by
  rw [negV, Good]
  exact ⟨⟨by omega, by omega, .inl rfl, .inr rfl, .inr rfl, .inr rfl, rfl, by omega, by omega, by omega, Nat.zero_le _, (fun _ h => by cases h), by decide, (fun _ h => by cases h)⟩, by rw [GoodL]; trivial, trivial, by rw [GoodL]; trivial⟩
theorem size_neg (h : Int) : (negV h).size ≤ 1 := by rw [negV, V.size, sizeL]; omega
theorem gv_neg (h : Int) (w : World) (S : Nat → Prop) : GV w S (negV h) (gnum (-h)) := by
  rw [negV, GV]; exact .inr (.inr (.inr (.inl ⟨rfl, rfl⟩)))
theorem gnum_parts (h : Int) : gnum h = .nilIface ∨ ∃ t x, gnum h = .iface t x := .inr (gnum_flat h)

section
variable (k h : Int) (t : ByteArray) (ls : List V) (ks : List ByteArray) (vs : List V) (la ka va : Option Addr) (n1 n2 n3 lc kc vc : Nat) (w : World)

set_option maxHeartbeats 2000000 in
theorem negate_num (x : V) (hx : x = .mk 3 h t ls ks vs) (hg : Good x) (hsz : x.size ≤ 400) (S : Nat → Prop) (hv : RV w S x (.agg #[.int .i64 3, .int .i64 h, .string t, .slice la n1 lc, .slice ka n2 kc, .slice va n3 vc])) (hS : ∀ b, S b → b < w.heap.size)
    (hlo : -18014398509481984 ≤ h) (hhi : h ≤ 18014398509481984) (hodd : h % 2 = 0 ∨ (-9007199254740992 < h ∧ h < 9007199254740992)) :
    Calls Tryd.prog 20 #[.agg #[.int .i64 3, .int .i64 h, .string t, .slice la n1 lc, .slice ka n2 kc, .slice va n3 vc]] w (Result (negV h) w) := by
  have HV := Lib.hid hv
  have HS := Lib.hid hS
  have HG := Lib.hid hg
  have HX := Lib.hid hx
  have HO := Lib.hid hodd
  clear hv hS hg hx hodd
  go_enter Tryd.func20, Tryd.ntmps20
  go_wp2_with fail
  generalize hW : World.alloc (World.alloc w _) _ = W
  have b1 : Below w.heap.size w W := hW ▸ (by go_grown)
  have z : W.heap[w.heap.size + 1]? = some (.cells #[.int .i64 0, .int .i64 0, .string ⟨#[]⟩, .slice none 0 0, .slice none 0 0, .slice none 0 0, .int .i64 0] 30 (0, 0)) := hW ▸ (by have := block_new (w.alloc (.cells #[.int .i64 3, .int .i64 h, .string t, .slice la n1 lc, .slice ka n2 kc, .slice va n3 vc] 26)) #[.int .i64 0, .int .i64 0, .string ⟨#[]⟩, .slice none 0 0, .slice none 0 0, .slice none 0 0, .int .i64 0] 30; rwa [World.size_alloc] at this)
  clear hW
  have hs := b1.size
  refine (toGo_good 400 x hsz (by omega) HG.out _ S W (RV.mono (Same.of_below b1 HS.out) (fun _ h => h) _ _ HV.out) (fun b h => Nat.lt_of_lt_of_le (HS.out b h) hs)).mono ?_
  rintro e w2 ⟨g, rfl, hgv, hb2⟩
  obtain rfl : g = gnum h := by
    rw [HX.out, GV] at hgv
    rcases hgv with q | q | q | q | q | ⟨q, _⟩ | ⟨q, _⟩
    · omega
    · omega
    · omega
    · exact q.2
    · omega
    · omega
    · omega
  have HZ := Lib.hid (keep hb2 z)
  have HB := Lib.hid (b1.trans (hb2.mono b1.size))
  have hs2 := hb2.size
  have hwlt : w.heap.size + 1 < W.heap.size := heap_lt z
  clear hgv hb2 z b1
  obtain ⟨ty, gx, hgx⟩ := gnum_flat h
  have HZN := Lib.hid (fun w => zzNegate_of (gnum h) w (fun e w' => e = .returned (gnum (-h)) ∧ w = w') ((opNegate_num hlo hhi HO.out w).mono fun e w' ⟨h1, h2⟩ => ⟨⟨_, h1, gnum_parts _⟩, h1, h2⟩))
  rw [hgx] at HZN ⊢
  go_wp2_with fail
  refine (HZN.out _).mono ?_
  rintro e w' ⟨rfl, rfl⟩
  have HRS := Lib.hid (result_any (negV h) (fromGo_good 1 _ (size_neg h) (by omega) (good_neg hlo hhi HO.out)) (gnum (-h)) (fun _ => False) w2 (gv_neg h _ _) (fun b h => h.elim))
  obtain ⟨ty2, gx2, hgx2⟩ := gnum_flat (-h)
  rw [hgx2] at HRS ⊢
  go_wp2_with fail
  refine HRS.out.mono ?_
  rintro e w3 ⟨c0, c1, c2, c3, c4, c5, rfl, hv3, hb3⟩
  obtain ⟨la3, lc3, ka3, kc3, va3, vc3, t3, m3, tx3, l13, l23, l33, e3, HV3⟩ := RV.parts hv3
  simp only [Value.agg.injEq, Array.mk.injEq, List.cons.injEq, and_true] at e3
  obtain ⟨rfl, rfl, rfl, rfl, rfl, rfl⟩ := e3
  have zz := cells7 (keep hb3 HZ.out)
  have HB3 := Lib.hid (HB.out.trans (hb3.mono HB.out.size))
  clear hv3 hb3
  go_wp2_with fail
  refine bodyPost_ret (v := .agg #[.int .i64 t3, .int .i64 m3, .string tx3, .slice la3 l13 lc3, .slice ka3 l23 kc3, .slice va3 l33 vc3, .int .i64 0]) (by simp [results, Tryd.results20, go_sem, *]) rfl ⟨_, _, _, _, _, _, rfl, ?_, ?_⟩
  · exact RV.mono (S := fun r => w2.heap.size ≤ r) (fun b hb => sets7_other _ _ _ _ _ _ _ (by omega)) (fun b hb => by show _ ≤ b; omega) _ _ HV3.out
  · exact sets7 HB3.out (Nat.le_succ _) _ _ _ _ _ _ _

set_option maxHeartbeats 2000000 in
theorem negate_err (x : V) (hx : x = .mk k h t ls ks vs) (hk : k ≠ 3) (hg : Good x) (hsz : x.size ≤ 400) (S : Nat → Prop) (hv : RV w S x (.agg #[.int .i64 k, .int .i64 h, .string t, .slice la n1 lc, .slice ka n2 kc, .slice va n3 vc])) (hS : ∀ b, S b → b < w.heap.size) :
    Calls Tryd.prog 20 #[.agg #[.int .i64 k, .int .i64 h, .string t, .slice la n1 lc, .slice ka n2 kc, .slice va n3 vc]] w (Ret errRes w) := by
  have HV := Lib.hid hv
  have HS := Lib.hid hS
  have HG := Lib.hid hg
  have HX := Lib.hid hx
  clear hv hS hg hx
  go_enter Tryd.func20, Tryd.ntmps20
  go_wp2_with fail
  generalize hW : World.alloc (World.alloc w _) _ = W
  have b1 : Below w.heap.size w W := hW ▸ (by go_grown)
  have z : W.heap[w.heap.size + 1]? = some (.cells #[.int .i64 0, .int .i64 0, .string ⟨#[]⟩, .slice none 0 0, .slice none 0 0, .slice none 0 0, .int .i64 0] 30 (0, 0)) := hW ▸ (by have := block_new (w.alloc (.cells #[.int .i64 k, .int .i64 h, .string t, .slice la n1 lc, .slice ka n2 kc, .slice va n3 vc] 26)) #[.int .i64 0, .int .i64 0, .string ⟨#[]⟩, .slice none 0 0, .slice none 0 0, .slice none 0 0, .int .i64 0] 30; rwa [World.size_alloc] at this)
  clear hW
  have hs := b1.size
  refine (toGo_good 400 x hsz (by omega) HG.out _ S W (RV.mono (Same.of_below b1 HS.out) (fun _ h => h) _ _ HV.out) (fun b h => Nat.lt_of_lt_of_le (HS.out b h) hs)).mono ?_
  rintro e w2 ⟨g, rfl, hgv, hb2⟩
  have hgk : g = .nilIface ∨ (∃ v, g = .iface 4 v) ∨ (∃ v, g = .iface 9 v) ∨ (∃ v, g = .iface 48 v) ∨ (∃ v, g = .iface 79 v) := by
    rw [HX.out, GV] at hgv
    rcases hgv with q | q | q | q | q | ⟨q, a, c, e, _⟩ | ⟨q, r, es, cl, e, _⟩
    · exact .inl q.2
    · exact .inr (.inl ⟨_, q.2⟩)
    · exact .inr (.inl ⟨_, q.2⟩)
    · exact absurd q.1 hk
    · exact .inr (.inr (.inl ⟨_, q.2⟩))
    · exact .inr (.inr (.inr (.inl ⟨_, e⟩)))
    · exact .inr (.inr (.inr (.inr ⟨_, e⟩)))
  have HZN := Lib.hid (fun w => zzNegate_of g w (NegErr w) ((opNegate_other g hgk w).mono fun e w' hh => ⟨by obtain ⟨v, h1, _⟩ := hh; exact ⟨_, h1, .inr ⟨_, _, rfl⟩⟩, hh⟩))
  have HFL := Lib.hid hgv.flat
  have HZ := Lib.hid (keep hb2 z)
  have HB := Lib.hid (b1.trans (hb2.mono b1.size))
  clear hgv hb2 z b1 hgk
  rcases HFL.out with rfl | ⟨ty, gx, rfl⟩
  all_goals
    go_wp2_with fail
    refine (HZN.out _).mono ?_
    rintro e w3 ⟨ad, rfl, hb3⟩
    have HB3 := Lib.hid (HB.out.trans (hb3.mono HB.out.size))
    have HZ3 := Lib.hid (keep hb3 HZ.out)
    clear hb3
    go_wp2_with fail
    refine (result_err ad w3).mono ?_
    rintro e w4 ⟨rfl, hb4⟩
    have HB4 := Lib.hid (HB3.out.trans (hb4.mono HB3.out.size))
    have zz := cells7 (keep hb4 HZ3.out)
    clear hb4
    unfold errRes
    go_wp2_with fail
    refine bodyPost_ret (v := .agg #[.int .i64 0, .int .i64 0, .string ⟨#[]⟩, .slice none 0 0, .slice none 0 0, .slice none 0 0, .int .i64 1]) (by simp [results, Tryd.results20, go_sem, *]) rfl ⟨rfl, ?_⟩
    exact sets7 HB4.out (Nat.le_succ _) _ _ _ _ _ _ _
end

/-- what Negate answers, as told sees it -/
def Told (a b how : Int) (w : World) (e : Ending) (w' : World) : Prop :=
  ∃ (t0 n0 : Int) (tx : ByteArray) (la : Option Addr) (l1 lc : Nat) (ka : Option Addr) (l2 kc : Nat) (va : Option Addr) (l3 vc : Nat) (en : Int), e = .returned (.agg #[.int .i64 t0, .int .i64 n0, .string tx, .slice la l1 lc, .slice ka l2 kc, .slice va l3 vc, .int .i64 en]) ∧ Below w.heap.size w w' ∧
    ∀ W, Below w'.heap.size w' W → Calls Tryd.prog 19 #[.agg #[.int .i64 t0, .int .i64 n0, .string tx, .slice la l1 lc, .slice ka l2 kc, .slice va l3 vc, .int .i64 en], flat a b ⟨#[]⟩, .int .i64 how] W (Ret (.bool true) W)

/-- the reference and the program, together -/
theorem negate_case (x : V) (hg : Good x) (hsz : x.size ≤ 400) (k h : Int) (t : ByteArray) (la ka va : Option Addr) (n1 n2 n3 lc kc vc : Nat) (S : Nat → Prop) (w0 : World) (hv : RV w0 S x (.agg #[.int .i64 k, .int .i64 h, .string t, .slice la n1 lc, .slice ka n2 kc, .slice va n3 vc])) (hS : ∀ b, S b → b < w0.heap.size) :
    ∃ a b how : Int, (∀ w, Calls Tryd.prog 18 #[.agg #[.int .i64 k, .int .i64 h, .string t, .slice la n1 lc, .slice ka n2 kc, .slice va n3 vc]] w (Ret (.tuple #[flat a b ⟨#[]⟩, .int .i64 how]) w)) ∧
      ∀ w, Below w0.heap.size w0 w → Calls Tryd.prog 20 #[.agg #[.int .i64 k, .int .i64 h, .string t, .slice la n1 lc, .slice ka n2 kc, .slice va n3 vc]] w (Told a b how w) := by
  obtain ⟨ls, ks, vs, rfl⟩ : ∃ ls ks vs, x = .mk k h t ls ks vs := by
    cases x with
    | mk k' h' t' ls ks vs =>
      rw [RV] at hv
      obtain ⟨_, _, _, _, _, _, e, _⟩ := hv
      simp only [Value.agg.injEq, Array.mk.injEq, List.cons.injEq, Value.int.injEq, Value.string.injEq, true_and] at e
      exact ⟨ls, ks, vs, by rw [e.1, e.2.1, e.2.2.1]⟩
  have g1 : Good1 k h t ls ks vs := by rw [Good] at hg; exact hg.1
  have hvw : ∀ w, Below w0.heap.size w0 w → RV w S (.mk k h t ls ks vs) (.agg #[.int .i64 k, .int .i64 h, .string t, .slice la n1 lc, .slice ka n2 kc, .slice va n3 vc]) := fun w hb => RV.mono (Same.of_below hb hS) (fun _ h => h) _ _ hv
  have hsw : ∀ w, Below w0.heap.size w0 w → ∀ b, S b → b < w.heap.size := fun w hb b h => Nat.lt_of_lt_of_le (hS b h) hb.size
  have k6 := g1.k6
  by_cases hk : k = 3
  · subst hk
    by_cases h0 : h = 0
    · subst h0
      refine ⟨0, 0, 2, fun w => minus_zero t la ka va n1 n2 n3 lc kc vc w, fun w hb => (negate_num 0 t ls ks vs la ka va n1 n2 n3 lc kc vc w _ rfl hg hsz S (hvw w hb) (hsw w hb) g1.lo g1.hi g1.odd).mono ?_⟩
      rintro e w' ⟨c0, c1, c2, c3, c4, c5, rfl, hv3, hb3⟩
      obtain ⟨la3, lc3, ka3, kc3, va3, vc3, t3, m3, tx3, l13, l23, l33, e3, HV3⟩ := RV.parts hv3
      simp only [Value.agg.injEq, Array.mk.injEq, List.cons.injEq, and_true] at e3
      obtain ⟨rfl, rfl, rfl, rfl, rfl, rfl⟩ := e3
      exact ⟨_, _, _, _, _, _, _, _, _, _, _, _, _, rfl, hb3, fun W hW => told_silent _ _ _ _ _ _ _ _ _ _ _ _ _ _ _ _ _ _ _ _ _ _ _ _ W _⟩
    · refine ⟨3, -h, 0, fun w => minus_num h t la ka va n1 n2 n3 lc kc vc w h0 g1.lo g1.hi g1.odd, fun w hb => (negate_num h t ls ks vs la ka va n1 n2 n3 lc kc vc w _ rfl hg hsz S (hvw w hb) (hsw w hb) g1.lo g1.hi g1.odd).mono ?_⟩
      rintro e w' ⟨c0, c1, c2, c3, c4, c5, rfl, hv3, hb3⟩
      obtain ⟨la3, lc3, ka3, kc3, va3, vc3, t3, m3, tx3, l13, l23, l33, e3, HV3⟩ := RV.parts hv3
      simp only [Value.agg.injEq, Array.mk.injEq, List.cons.injEq, and_true] at e3
      obtain ⟨rfl, rfl, rfl, rfl, rfl, rfl⟩ := e3
      refine ⟨_, _, _, _, _, _, _, _, _, _, _, _, _, rfl, hb3, fun W hW => told_fine _ _ _ _ _ _ _ _ _ _ _ _ _ _ _ _ _ _ _ _ _ _ _ _ W (negV h) (cmp_good 1 _ (size_neg h) (by omega) (good_neg g1.lo g1.hi g1.odd)) (fun r => w.heap.size ≤ r ∧ r < w'.heap.size) ?_ ?_ ?_⟩
      · exact RV.mono (S := fun r => w.heap.size ≤ r ∧ r < w'.heap.size) (Same.of_below hW fun b hb => hb.2) (fun _ h => h) _ _ (RV.lt _ _ HV3.out)
      · exact rv_flat 3 (-h) _ _ _
      · exact fun b hb => Nat.lt_of_lt_of_le hb.2 hW.size
  · refine ⟨0, 0, 1, fun w => minus_other h t la ka va n1 n2 n3 lc kc vc w k hk (by omega), fun w hb => (negate_err k h t ls ks vs la ka va n1 n2 n3 lc kc vc w _ rfl hk hg hsz S (hvw w hb) (hsw w hb)).mono ?_⟩
    rintro e w' ⟨rfl, hb3⟩
    exact ⟨_, _, _, _, _, _, _, _, _, _, _, _, _, rfl, hb3, fun W hW => told_error _ _ _ _ _ _ _ _ _ _ _ _ _ _ _ _ _ _ _ _ _ _ _ _ W⟩

end Go.Proofs.YtnlndpgbhmkanaaDoor.Va
