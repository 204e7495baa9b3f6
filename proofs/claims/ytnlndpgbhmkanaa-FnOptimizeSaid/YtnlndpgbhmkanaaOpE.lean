/-
  THE WALK of Steps: which lists it lets by.
-/
import Derived.Test.YtnlndpgbhmkanaaOpM
namespace Go.Proofs.Ytnlndpgbhmkanaa.Op
open Go.RowKit
set_option linter.unusedVariables false
set_option linter.unusedSimpArgs false

def tgt (op : Int) : Bool := op == 15 || op == 16 || op == 19 || op == 20
set_option maxHeartbeats 1000000 in
theorem target_any (op a b c : Int) (w : World) : Calls Try.prog 14 #[.agg #[.int .i64 op, .int .i64 a, .int .i64 b, .int .i64 c]] w (Ret (.bool (tgt op)) w) := by
  go_enter Try.func14, Try.ntmps14
  go_wp2_with fail
  all_goals
    go_returns
    exact ⟨by simp_all [tgt], by go_grown⟩

/-- what Steps returns -/
def StepsEnd (l : List Ins) (w : World) (e : Ending) (w' : World) : Prop := ∃ r : Bool, e = .returned (.bool r) ∧ Below w.heap.size w w' ∧ (r = true → StepsOk l)
def LoopE (l : List Ins) (n : Nat) (w : World) (i : Value) (wr : World) : Prop := ∃ k : Nat, i = .int .i64 k ∧ k ≤ n ∧ Below w.heap.size w wr ∧ ∀ j (hj : j < l.length), j < k → StepOk l j l[j]


theorem loopE_next {l : List Ins} {n k : Nat} {w w2 : World} {hkl : k < l.length} (hlt : k < n) (hb : Below w.heap.size w w2) (hf : ∀ j (hj : j < l.length), j < k → StepOk l j l[j]) (hok : StepOk l k l[k]) : LoopE l n w (.int .i64 ((k : Int) + 1)) w2 := by
  refine ⟨k + 1, rfl, hlt, hb, fun j hj hjk => ?_⟩
  by_cases cj : j = k
  · subst cj; exact hok
  · exact hf j hj (by omega)


set_option maxHeartbeats 8000000 in
set_option maxRecDepth 100000 in
theorem steps_any (l : List Ins) (n : Nat) (hn : l.length = n) (hq : n ≤ 2147483647) (a : Option Addr) (c : Nat) (S : Nat → Prop) (w : World) (h : RI w S l a) (hS : ∀ b, S b → b < w.heap.size) :
    Calls Try.prog 8 #[.slice a n c] w (StepsEnd l w) := by
  have HL := Lib.hid h
  have HN := Lib.hid hn
  have HS := Lib.hid hS
  clear h hn hS
  by_cases h0 : n = 0
  · subst h0
    go_enter Try.func8, Try.ntmps8
    go_wp2_with fail
    go_returns
    exact ⟨_, rfl, Below.refl _ _, fun h => by simp at h⟩
  by_cases h200 : (200 : Int) < n
  · go_enter Try.func8, Try.ntmps8
    go_wp2_with fail
    go_returns
    exact ⟨_, rfl, Below.refl _ _, fun h => by simp at h⟩
  obtain ⟨bl, ol, hal, hsl, hlast, _⟩ := HL.out (n - 1) (by rw [HN.out]; omega)
  subst hal
  obtain ⟨lo, hlo⟩ : ∃ lo, Hid ((l[n - 1]'(by rw [HN.out]; omega)).op = lo) := ⟨_, Lib.hid rfl⟩
  rw [hlo.out] at hlast
  have hlast' : w.cell? ⟨bl, ol + (n - 1) * 4 + 0, none⟩ = some (.int .i64 lo) := hlast
  have hn0 : ((n : Int) == 0) = false := by simp [h0]
  go_enter Try.func8, Try.ntmps8
  by_cases hlo24 : lo = 24
  · subst hlo24
    go_wp2_with fail
    go_loopw [3] (LoopE l n w) (fun i _ => n - (intOf i).toNat)
    case atStart => exact ⟨0, rfl, Nat.zero_le _, Below.refl _ _, fun j _ hj => absurd hj (by omega)⟩
    case round =>
      obtain ⟨k, rfl, hk, hb, hf⟩ := hrel
      have HB := Lib.hid hb
      have HF := Lib.hid hf
      clear hb hf hlast hlast'
      by_cases hlt : k < n
      · have hkl : k < l.length := by rw [HN.out]; exact hlt
        obtain ⟨b, o, e, hsb, c0, c1, c2, c3⟩ := (HL.out.keep HS.out HB.out) k hkl
        simp only [Option.some.injEq, Addr.mk.injEq, and_true] at e
        obtain ⟨rfl, rfl⟩ := e
        obtain ⟨⟨op, xa, xb, xc⟩, hxk⟩ : ∃ x, Hid (l[k] = x) := ⟨_, Lib.hid rfl⟩
        rw [hxk.out] at c0 c1 c2 c3
        dsimp only at c0 c1 c2 c3
        have HLr := Lib.hid (HL.out.keep HS.out HB.out)
        go_upto_region 7 with fail
        generalize hW : World.alloc wr _ = W
        have b1 := Lib.hid (hW ▸ below_alloc wr _ : Below wr.heap.size wr W)
        have HB2 := Lib.hid (HB.out.trans (b1.out.mono HB.out.size))
        have HLW := Lib.hid (HL.out.keep HS.out HB2.out)
        have z := Lib.hid (hW ▸ block_new wr _ _ : W.heap[wr.heap.size]? = some (.cells #[.int .i64 op, .int .i64 xa, .int .i64 xb, .int .i64 xc] 36 (0, 0)))
        clear hW c0 c1 c2 c3
        have hc := cells4 z.out
        by_cases hA : op = 0 ∨ op = 1 ∨ op = 2 ∨ op = 3 ∨ op = 4 ∨ op = 14 ∨ op = 23 ∨ op = 24
        · rcases hA with rfl | rfl | rfl | rfl | rfl | rfl | rfl | rfl
          all_goals
            go_wp2_with fail
            (go_roundw
             case rel =>
               refine ⟨k + 1, rfl, hlt, HB2.out, fun j hj hjk => ?_⟩
               by_cases cj : j = k
               · subst cj
                 rw [hxk.out]
                 exact .inl (by simp)
               · exact HF.out j hj (by omega)
             case measure => simp [intOf]; omega)
        by_cases hB : op = 5 ∨ op = 6
        · by_cases hr : 0 ≤ xa ∧ xa < 8
          · have hr0 : ¬ xa < 0 := by omega
            have hr1 : ¬ 8 ≤ xa := by omega
            rcases hB with rfl | rfl
            all_goals
              go_wp2_with fail
              go_roundw
              case rel =>
                refine ⟨k + 1, rfl, hlt, HB2.out, fun j hj hjk => ?_⟩
                by_cases cj : j = k
                · subst cj
                  rw [hxk.out]
                  exact .inr (.inl ⟨by simp, hr.1, hr.2⟩)
                · exact HF.out j hj (by omega)
              case measure => simp [intOf]; omega
          · by_cases hneg : xa < 0
            · rcases hB with rfl | rfl
              all_goals
                go_wp2_with fail
                go_returns
                exact ⟨_, rfl, HB2.out, fun h => by simp at h⟩
            · have hge : 8 ≤ xa := by omega
              rcases hB with rfl | rfl
              all_goals
                go_wp2_with fail
                go_returns
                exact ⟨_, rfl, HB2.out, fun h => by simp at h⟩
        simp only [not_or] at hA hB
        obtain ⟨a0, a1, a2, a3, a4, a14, a23, a24⟩ := hA
        obtain ⟨a5, a6⟩ := hB
        by_cases hC : op = 15 ∨ op = 16 ∨ op = 19 ∨ op = 20
        · have ht : tgt op = true := by rcases hC with rfl | rfl | rfl | rfl <;> rfl
          have HTG := Lib.hid (target_any op xa xb xc W)
          rw [ht] at HTG
          by_cases hr : 0 ≤ xa ∧ xa < n
          · have hxl : xa.toNat < l.length := by rw [HN.out]; omega
            obtain ⟨⟨td, ta, tb, tc⟩, hto⟩ : ∃ x, Hid (l[xa.toNat] = x) := ⟨_, Lib.hid rfl⟩
            have hr0 : 0 ≤ xa := hr.1
            have hr1 : xa < n := hr.2
            clear ht a0 a1 a2 a3 a4 a14 a23 a24 a5 a6
            rcases hC with rfl | rfl | rfl | rfl
            all_goals
              go_wp2_with fail
              refine HTG.out.mono ?_
              rintro e w2 ⟨rfl, hb2⟩
              have HB3 := Lib.hid (HB2.out.trans (hb2.mono HB2.out.size))
              obtain ⟨b', o', e', _, d0, _⟩ := (HL.out.keep HS.out HB3.out) xa.toNat hxl
              simp only [Option.some.injEq, Addr.mk.injEq, and_true] at e'
              obtain ⟨rfl, rfl⟩ := e'
              rw [hto.out] at d0
              have hc2 := cells4 (keep hb2 z.out)
              clear hb2 hc
              dsimp only at d0
              go_wp2_with fail
            all_goals
              first
              | (go_returns
                 exact ⟨_, rfl, HB3.out, fun h => by simp at h⟩)
              | (have hok : StepOk l k l[k] := by
                   rw [hxk.out]
                   refine .inr (.inr ⟨by unfold jumps; simp, hr0, by rw [HN.out]; exact hr1, _, (List.getElem?_eq_getElem hxl).trans (congrArg some hto.out), ?_, ?_, ?_, ?_⟩)
                   · intro h
                     first
                     | (dsimp only at h; omega)
                     | (have q := ‹(td != 23) = false›
                        simpa using q)
                   · intro h
                     dsimp only at h ⊢
                     constructor <;> omega
                   · intro h
                     dsimp only at h ⊢
                     omega
                   · intro h
                     first
                     | (dsimp only at h; omega)
                     | (have q := (‹_ ∧ (xa == (k : Int) + 1) = false›).2
                        simpa using q)
                 have R := Lib.hid (loopE_next hlt HB3.out HF.out hok)
                 clear hok
                 go_roundw
                 case rel =>
                   first
                   | exact R.out
                   | ((repeat apply Exists.intro); exact ⟨R.out, rfl⟩)
                 case measure => simp [intOf]; omega)
          · by_cases hneg : xa < 0
            · go_wp2_with fail
              refine HTG.out.mono ?_
              rintro e w2 ⟨rfl, hb2⟩
              have HB3 := Lib.hid (HB2.out.trans (hb2.mono HB2.out.size))
              have hc2 := cells4 (keep hb2 z.out)
              clear hb2 hc
              go_wp2_with fail
              go_returns
              exact ⟨_, rfl, HB3.out, fun h => by simp at h⟩
            · have hge : (n : Int) ≤ xa := by omega
              have hnn : 0 ≤ xa := by omega
              go_wp2_with fail
              refine HTG.out.mono ?_
              rintro e w2 ⟨rfl, hb2⟩
              have HB3 := Lib.hid (HB2.out.trans (hb2.mono HB2.out.size))
              have hc2 := cells4 (keep hb2 z.out)
              clear hb2 hc
              go_wp2_with fail
              go_returns
              exact ⟨_, rfl, HB3.out, fun h => by simp at h⟩
        · have HTG := Lib.hid (target_any op xa xb xc W)
          rw [show tgt op = false by simp only [not_or] at hC; simp [tgt, hC]] at HTG
          go_wp2_with fail
          refine HTG.out.mono ?_
          rintro e w2 ⟨rfl, hb2⟩
          have HB3 := Lib.hid (HB2.out.trans (hb2.mono HB2.out.size))
          clear hb2 hc
          go_wp2_with fail
          go_returns
          exact ⟨_, rfl, HB3.out, fun h => by simp at h⟩
      · obtain rfl : k = n := by omega
        go_wp2_with fail
        go_returns
        exact ⟨_, rfl, HB.out, fun _ => ⟨by rw [HN.out]; omega, ⟨l[k - 1]'(by rw [HN.out]; omega), (congrArg (fun q => l[q]?) (show l.length - 1 = k - 1 by rw [HN.out])).trans (List.getElem?_eq_getElem _), hlo.out⟩, fun i x hx => by
          obtain ⟨hi, rfl⟩ := List.getElem?_eq_some_iff.1 hx
          exact HF.out i hi (by rw [← HN.out]; exact hi)⟩⟩
  · have hb : (lo != 24) = true := by simp [hlo24]
    go_wp2_with fail
    go_returns
    exact ⟨_, rfl, Below.refl _ _, fun h => by simp at h⟩

end Go.Proofs.Ytnlndpgbhmkanaa.Op
