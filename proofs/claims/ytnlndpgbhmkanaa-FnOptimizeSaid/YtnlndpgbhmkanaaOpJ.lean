/-
  THE WALKS of isProgram, operand, step: which lists the pass is for; what is kept with an instruction, and read back.
-/
import Derived.Test.YtnlndpgbhmkanaaOpI
namespace Go.Proofs.Ytnlndpgbhmkanaa.Op
open Go.RowKit
set_option linter.unusedVariables false
set_option linter.unusedSimpArgs false

def LoopP (n : Nat) (w : World) (i : Value) (wr : World) : Prop := ∃ k : Nat, i = .int .i64 k ∧ k ≤ n ∧ Below w.heap.size w wr

set_option maxHeartbeats 8000000 in
set_option maxRecDepth 100000 in
theorem isProgram_any (l : List Ins) (hok : StepsOk l) (hne : l ≠ []) (n : Nat) (hn : l.length = n) (a : Option Addr) (c : Nat) (S : Nat → Prop) (w : World) (h : RI w S l a) (hS : ∀ b, S b → b < w.heap.size) :
    Calls Try.prog 15 #[.slice a n c] w (Ret (.bool true) w) := by
  have HL := Lib.hid h
  have HN := Lib.hid hn
  have HS := Lib.hid hS
  have HO := Lib.hid hok
  have h200 : n ≤ 200 := by have := hok.len; omega
  have h1 : 1 ≤ n := by
    rw [← hn]
    cases l with
    | nil => exact absurd rfl hne
    | cons a b => simp
  clear h hn hS hok
  go_enter Try.func15, Try.ntmps15
  go_wp2_with fail
  go_loopw [7] (LoopP n w) (fun i _ => n - (intOf i).toNat)
  case atStart => exact ⟨0, rfl, Nat.zero_le _, Below.refl _ _⟩
  case round =>
    obtain ⟨k, rfl, hk, hb⟩ := hrel
    have HB := Lib.hid hb
    clear hb
    by_cases hlt : k < n
    · have hkl : k < l.length := by rw [HN.out]; exact hlt
      obtain ⟨b, o, e, hsb, c0, c1, c2, c3⟩ := (HL.out.keep HS.out HB.out) k hkl
      obtain ⟨⟨op, xa, xb, xc⟩, hxk⟩ : ∃ x, Hid (l[k] = x) := ⟨_, Lib.hid rfl⟩
      have HST := Lib.hid (HO.out.each k _ ((List.getElem?_eq_getElem hkl).trans (congrArg some hxk.out)))
      rw [hxk.out] at c0 c1 c2 c3
      subst e
      dsimp only at c0 c1 c2 c3
      go_upto_region 4 with fail
      generalize hW : World.alloc wr _ = W
      have b1 := Lib.hid (hW ▸ below_alloc wr _ : Below wr.heap.size wr W)
      have HB2 := Lib.hid (HB.out.trans (b1.out.mono HB.out.size))
      have HLW := Lib.hid (HL.out.keep HS.out HB2.out)
      have z := Lib.hid (hW ▸ block_new wr _ _ : W.heap[wr.heap.size]? = some (.cells #[.int .i64 op, .int .i64 xa, .int .i64 xb, .int .i64 xc] 36 (0, 0)))
      clear hW c0 c1 c2 c3
      have hc := cells4 z.out
      have R : Hid (LoopP n w (.int .i64 ((k : Int) + 1)) W) := Lib.hid ⟨k + 1, rfl, hlt, HB2.out⟩
      rcases HST.out with hA | ⟨hA, _, _⟩ | ⟨hA, hx0, hx1, t, ht, ht1, _, ht3, ht4⟩
      · dsimp only at hA
        rcases hA with rfl | rfl | rfl | rfl | rfl | rfl | rfl | rfl
        all_goals
          clear HST HLW
          go_wp2_with fail
          go_roundw
          case rel => exact R.out
          case measure => simp [intOf]; omega
      · dsimp only at hA
        rcases hA with rfl | rfl
        all_goals
          clear HST HLW
          go_wp2_with fail
          go_roundw
          case rel => exact R.out
          case measure => simp [intOf]; omega
      · dsimp only at hx0 hx1 ht ht1 ht3 ht4
        unfold jumps at hA
        dsimp only at hA
        rw [HN.out] at hx1
        obtain ⟨xi, rfl⟩ : ∃ xi : Nat, xa = (xi : Int) := ⟨xa.toNat, (Int.toNat_of_nonneg hx0).symm⟩
        have hxn : xi < n := by omega
        have ht' : l[xi]? = some t := ht
        obtain ⟨hxl, hte⟩ := List.getElem?_eq_some_iff.1 ht'
        have HT1 := Lib.hid ht1
        have HT3 := Lib.hid ht3
        clear ht ht' ht1 ht3 ht4 HST
        rcases hA with rfl | rfl | rfl | rfl
        · have hkx := HT3.out (.inl rfl)
          go_wp2_with fail
          go_roundw
          case rel => exact R.out
          case measure => simp [intOf]; omega
        · have hkx := HT3.out (.inr rfl)
          go_wp2_with fail
          go_roundw
          case rel => exact R.out
          case measure => simp [intOf]; omega
        all_goals
          obtain ⟨b', o', e', _, d0, _⟩ := HLW.out xi hxl
          cases e'
          rw [hte, HT1.out (by simp)] at d0
          clear hte
          go_wp2_with fail
          go_roundw
          case rel => exact R.out
          case measure => simp [intOf]; omega
    · obtain rfl : k = n := by omega
      obtain ⟨x, hx, ho⟩ := HO.out.last
      obtain ⟨hkl, hx'⟩ := List.getElem?_eq_some_iff.1 hx
      obtain ⟨b', o', e', _, d0, _⟩ := (HL.out.keep HS.out HB.out) (l.length - 1) hkl
      rw [hx', ho, HN.out] at d0
      subst e'
      clear hx hx' ho
      go_wp2_with fail
      go_returns
      exact ⟨rfl, HB.out⟩
end Go.Proofs.Ytnlndpgbhmkanaa.Op
