/-
  THE WALK of fits.
-/
import Derived.Test.YtnlndpgbhmkanaaGreatDoorVaP
namespace Go.Proofs.YtnlndpgbhmkanaaGreatDoor.Va
open Go.RowKit
set_option linter.unusedVariables false
set_option linter.unusedSimpArgs false

/-- what fits returns -/
def FitsEnd (l : List V) (w : World) (e : Ending) (w' : World) : Prop := ∃ r : Bool, e = .returned (.bool r) ∧ Below w.heap.size w w' ∧ (r = true → ∀ x ∈ l, Good x ∧ x.size ≤ 400)
def LoopT (l : List V) (n : Nat) (w : World) (i : Value) (wr : World) : Prop := ∃ k : Nat, i = .int .i64 k ∧ k ≤ n ∧ Below w.heap.size w wr ∧ ∀ j (hj : j < l.length), j < k → Good l[j] ∧ (l[j]).size ≤ 400

set_option maxHeartbeats 2000000 in
set_option maxRecDepth 100000 in
theorem fits_any (l : List V) (hx : WfL l) (n : Nat) (hn : l.length = n) (hq : n ≤ 140737488355328) (a : Option Addr) (c : Nat) (S : Nat → Prop) (w : World) (h : RL w S l a) (hS : ∀ b, S b → b < w.heap.size) (hT : Tabs w) :
    Calls Tryz.prog 7 #[.slice a n c] w (FitsEnd l w) := by
  have HX := Lib.hid hx
  have HN := Lib.hid hn
  have HL := Lib.hid h
  have HS := Lib.hid hS
  have HT := Lib.hid hT
  clear hx hn h hS hT
  go_enter Tryz.func7, Tryz.ntmps7
  go_wp2_with fail
  go_loopw [7] (LoopT l n w) (fun i _ => n - (intOf i).toNat)
  case atStart => exact ⟨0, rfl, Nat.zero_le _, Below.refl _ _, fun j _ hj => absurd hj (by omega)⟩
  case round =>
    obtain ⟨k, rfl, hk, hb, hgd⟩ := hrel
    have HB := Lib.hid hb
    have HGD := Lib.hid hgd
    clear hb hgd
    by_cases hlt : k < n
    · have hkl : k < l.length := by rw [HN.out]; exact hlt
      obtain ⟨b, o, rfl⟩ := HL.out.addr (by omega)
      obtain ⟨hSb, c0, c1, c2, c3, c4, c5, h6, hv⟩ := RL.at l b o HL.out k hkl
      have hsame := Same.of_below HB.out HS.out
      have h6' := Six.mono hsame hSb h6
      have hv' := RV.mono hsame (fun _ h => h) _ _ hv
      obtain ⟨la, lc, ka, kc, va, vc, t0, n0, tx, ls, ks, vs, e, HV⟩ := RV.parts hv'
      simp only [Value.agg.injEq, Array.mk.injEq, List.cons.injEq, and_true] at e
      obtain ⟨rfl, rfl, rfl, rfl, rfl, rfl⟩ := e
      clear hv hv' h6 hsame
      unfold Six at h6'
      go_wp2_with fail
      generalize hW : World.alloc wr _ = W
      have b1 := Lib.hid (hW ▸ below_alloc wr _ : Below wr.heap.size wr W)
      have B1 := Lib.hid (HB.out.trans (b1.out.mono HB.out.size))
      clear hW h6'
      refine (fit_any l[k] (HX.out.mem _ (List.getElem_mem hkl)) S W _ (RV.mono (Same.of_below b1.out fun b h => Nat.lt_of_lt_of_le (HS.out b h) HB.out.size) (fun _ h => h) _ _ HV.out) (fun b h => Nat.lt_of_lt_of_le (HS.out b h) B1.out.size) (HT.out.below B1.out)).mono ?_
      rintro e w2 ⟨r, rfl, hb2, hgd⟩
      have B2 := Lib.hid (B1.out.trans (hb2.mono B1.out.size))
      have HG2 := Lib.hid hgd
      clear hb2 hgd
      cases r
      · go_wp2_with fail
        go_returns
        exact ⟨false, rfl, B2.out, fun h => by cases h⟩
      · go_wp2_with fail
        go_roundw
        case rel =>
          refine ⟨k + 1, rfl, hlt, B2.out, fun j hj hjk => ?_⟩
          by_cases c : j = k
          · subst c; exact (by simpa using HG2.out)
          · exact HGD.out j hj (by omega)
        case measure => simp [intOf]; omega
    · obtain rfl : k = n := by omega
      go_wp2_with fail
      go_returns
      refine ⟨true, rfl, HB.out, fun _ x hx => ?_⟩
      obtain ⟨i, hi, rfl⟩ := List.getElem_of_mem hx
      exact HGD.out i hi (by rw [← HN.out]; exact hi)

end Go.Proofs.YtnlndpgbhmkanaaGreatDoor.Va
