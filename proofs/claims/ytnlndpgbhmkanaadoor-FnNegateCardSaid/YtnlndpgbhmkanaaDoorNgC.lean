/-
  FnNegate returns true at every value, and leaves it as it was: - of a value is the manual's. The condition: utf8's two tables hold what the program's own text lays (the card ties it).
-/
import Derived.Test.YtnlndpgbhmkanaaDoorRows
import Derived.Test.YtnlndpgbhmkanaaDoorTie
import Derived.Test.YtnlndpgbhmkanaaDoorCards
import Derived.Test.YtnlndpgbhmkanaaDoorNgB
import Derived.Test.YtnlndpgbhmkanaaDoorVaW
import Derived.Carry
import Derived.Lib.LaidIn
import Derived.Lib.LaidU8T
import Derived.PinnedBridge
import Derived.LaidLaws
import Derived.Handed
import Derived.ProofKit
import Derived.SizedLaws
import Derived.SevenTiedAt
namespace Go.Proofs.YtnlndpgbhmkanaaDoor.Va
open Go.ChangeShapes Go.WideShapes Go.ChangeAt Go.RowKit Go.Lib
open Go.ChangeMaps (open_string shut_string)
set_option linter.unusedVariables false
set_option linter.unusedSimpArgs false

theorem laidOut : laidOutB Tryd.prog = true := by kernel_rfl
theorem own : ownKnob Tryd.prog.godebug = none := by kernel_rfl

/-- THE WITNESS: the settled world, the two variables holding what their initialisers lay. -/
noncomputable def laidWorld (os : Os) : World :=
  let w0 := World.holding Tryd.prog os ⟨#[], #[], []⟩
  let put (h : Array Obj) (g : Nat) (cs : Array Value) : Array Obj := h.modify g fun
    | .cells _ t frozen => .cells cs t frozen
    | o => o
  let h1 := put w0.heap 0 (Lib.firstTab.map fun z => Value.int .u8 z).toArray
  let h2 := put h1 1 ((List.range 16).flatMap fun i => [Value.int .u8 (Lib.accLo i), Value.int .u8 (Lib.accHi i)]).toArray
  { w0 with heap := h2 }
theorem laid_met (os : Os) (args : Array Value) : laidMet Tryd.prog Rows.fnNegateRow.laid ((laidWorld os).forCall (fun _ _ => 0) ⟨#[], args, []⟩).memory :=
  (LaidIn.of_run (l := Rows.fnNegateRow.laid) [1, 0] 8 (by kernel_rfl) (by kernel_rfl) (by kernel_rfl) (by kernel_rfl)).met


theorem tabs_of {W : World} (hL : laidMet Tryd.prog Rows.fnNegateRow.laid W) : Tabs W :=
  utf8Tabs_of_readsT (U8Types.of196 Tryd.laysValid) ⟨by kernel_rfl, by kernel_rfl, by kernel_rfl, by kernel_rfl, by kernel_rfl, by kernel_rfl, by kernel_rfl⟩
    (Lib.laidMet.reads hL (by rw [show Lib.firstData = Rows.laid_unicode_utf8_first from Pinned.utf8First_eq.symm]; exact .tail _ (.head _)))
    (Lib.laidMet.reads hL (by rw [show Lib.acceptData = Rows.laid_unicode_utf8_acceptRanges from by kernel_rfl]; exact .head _))

set_option maxRecDepth 100000 in
set_option maxHeartbeats 2000000 in
theorem lifted (os : Os) (started : os.Started) (H : Type) (enc : TypeId × Value → H) :
    ReturnsInHanded {} Tryd.checked os 5 .any (fun w args => (Rows.fnNegateSpec.pre enc Tryd.prog Tryd.f5 Rows.fnNegateRow.domain false w args ∧ laidMet Tryd.prog Rows.fnNegateRow.laid w) ∧ sizedMet enc Tryd.prog Tryd.f5 (OpenSpec.ofChange Rows.fnNegateSpec) false w args)
      (Rows.fnNegateSpec.post enc Tryd.prog Tryd.f5 false true false false) := by
  refine returnsInHanded_of_change_and (C := Tryd.checked) (X := fun w _ => laidMet Tryd.prog Rows.fnNegateRow.laid w) (fun _ _ _ hh h => h.of_heap hh) own started (by kernel_rfl) Tryd.func5
    (ChangeSpec.witness_shaped (enc := enc) (C := Tryd.checked) (os := os) (X := fun w _ => laidMet Tryd.prog Rows.fnNegateRow.laid w) false (laidWorld os) #[.agg #[.int .i64 0, .int .i64 0, .string ⟨#[]⟩, .slice none 0 0, .slice none 0 0, .slice none 0 0]] 8 rfl (World.shaped_of_RefB (by kernel_rfl) (by kernel_rfl)) (by kernel_rfl) (by kernel_rfl) (by kernel_rfl) (laid_met os _)) ?_
  intro W base args ds gs before hval0 hW _ hsz hL _
  have hval : ∀ (j : Nat) t v, Tryd.f5.params[j]? = some t → args[j]? = some v → Value.okWide Tryd.prog W .any base t v := hval0
  have hW' := hW
  obtain ⟨p, q, hA0, hV, rfl, hfz, hnd⟩ := hW
  have hA : DataW.TrodAll enc Tryd.prog W 0 (fun _ => true) true Tryd.f5.params.toList args.toList ds p := hA0
  rw [Tryd.params5] at hA hval
  obtain ⟨v0, d0, rfl, rfl, h0⟩ := trodAll_one hA
  obtain ⟨rfl, rfl⟩ := trodVars_none hV
  clear hA0 hval0
  simp only [List.append_nil] at hW'
  have h0k := h0
  have hlt : ∀ x ∈ p, x.block < W.heap.size := fun x hx => hW'.lt x hx
  obtain ⟨cs, rfl, _⟩ := okWide_struct Tryd.underlying26 (hval 0 26 v0 rfl rfl)
  obtain ⟨n, hn⟩ := h0
  have hw : ∀ k ∈ d0.weights Tryd.prog 26, k ≤ reachBytes := fun k hk => by
    have := List.all_eq_true.1 hsz k (DataW.weights_mem_each (j := 0) (t := 26) (d := d0) (by rw [show Tryd.f5.params = #[26] from Tryd.params5]; rfl) rfl k hk)
    simpa using this
  obtain ⟨v, c0, c1, c2, c3, c4, c5, hcs, hwf, hrv⟩ := open_value n _ _ hn hw
  obtain rfl : cs = #[c0, c1, c2, c3, c4, c5] := by
    cases cs with
    | mk l => exact congrArg Array.mk hcs
  refine (negate_law v hwf _ (All W) W hrv (fun b h => h) (tabs_of hL)).mono fun e W' ⟨he, hb⟩ => ?_
  subst he
  exact ⟨_, rfl, _, _, _, [], p, [], hW', trodAll_mk1 (shut_bool Tryd.underlying4 _), trodAll_mk1 (Below.trod laidOut (by kernel_rfl) (of_decide_eq_true (by kernel_rfl)) h0k hb hlt), rfl, hb.frame _, fun h => by cases h⟩

theorem row_holds : Rows.FnNegateSaid :=
  OpenClaim.holds_of_wide 5 Tryd.f5 rfl rfl rfl rfl rfl rfl rfl ⟨rfl, rfl, rfl, rfl, rfl⟩ rfl rfl rfl rfl rfl (by kernel_rfl) Tryd.func5 (by kernel_rfl)
    (of_decide_eq_true (by kernel_rfl)) (by unfold Func.isWrapper; first | (rw [if_pos (by decide +kernel)]; kernel_rfl) | (rw [if_neg (by decide +kernel)]; exact ⟨rfl, rfl⟩))
    (fun os started H enc _ => lifted os started H enc)

theorem card_holds : Rows.FnNegateCardSaid :=
  Claim7.holds_tied_plain_at .later [] [.data, .pinned] true (true, "2b5f3d92cbfbb67a6ea750e9b55cd1d6a99d295f316aac86ae5e85bbfe54c133") true
    row_holds (fun _ h => by cases h) (by kernel_rfl) (fun _ h => by cases h) fnNegate_row_tie rfl ⟨rfl, rfl⟩ (by kernel_rfl) rfl
    (fun f fn hf hfn => by
      obtain rfl : f = 5 := Option.some.inj ((show Tryd.prog.funcNamed "pub-strainer/laws.FnNegate" = some 5 by kernel_rfl).symm.trans hf) |>.symm
      obtain rfl : fn = Tryd.f5 := (Option.some.inj (Tryd.func5.symm.trans hfn)).symm
      exact ⟨by kernel_rfl, fun j t ht => by
        rw [Tryd.params5] at ht
        have h9 : t = 26 := by
          rcases j with _ | j
          · simpa using ht.symm
          · simp at ht
        subst h9
        exact (show Tryd.prog.wantsStandIn 26 = false by kernel_rfl)⟩)
    (by kernel_rfl)

end Go.Proofs.YtnlndpgbhmkanaaDoor.Va
namespace Go.Proofs.YtnlndpgbhmkanaaDoor
theorem fnNegate_card_holds : Rows.FnNegateCardSaid := Va.card_holds
#print axioms fnNegate_card_holds
end Go.Proofs.YtnlndpgbhmkanaaDoor
