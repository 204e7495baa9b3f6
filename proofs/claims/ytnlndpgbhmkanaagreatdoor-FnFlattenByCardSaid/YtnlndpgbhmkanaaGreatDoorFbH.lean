/-
  FnFlattenBy returns true at every list of values and every depth, and leaves them as they were: a list is flattened so many levels deep. The condition: utf8's two tables hold what the program's own text lays (the card ties it).
-/
import Derived.Test.YtnlndpgbhmkanaaGreatDoorRows
import Derived.Test.YtnlndpgbhmkanaaGreatDoorTie
import Derived.Test.YtnlndpgbhmkanaaGreatDoorCards
import Derived.Test.YtnlndpgbhmkanaaGreatDoorFbG
import Derived.Test.YtnlndpgbhmkanaaGreatDoorVaW
import Derived.Carry
import Derived.Lib.LaidIn
import Derived.Lib.LaidU8T
import Derived.PinnedBridge
import Derived.LaidLaws
import Derived.Handed
import Derived.ProofKit
import Derived.SizedLaws
import Derived.SevenTiedAt
namespace Go.Proofs.YtnlndpgbhmkanaaGreatDoor.Va
open Go.ChangeShapes Go.WideShapes Go.ChangeAt Go.RowKit Go.Lib
open Go.ChangeMaps (open_string shut_string)
set_option linter.unusedVariables false
set_option linter.unusedSimpArgs false

theorem laidOut : laidOutB Tryz.prog = true := by kernel_rfl
theorem own : ownKnob Tryz.prog.godebug = none := by kernel_rfl

/-- THE WITNESS: the settled world, the two variables holding what their initialisers lay. -/
noncomputable def laidWorld (os : Os) : World :=
  let w0 := World.holding Tryz.prog os ⟨#[], #[], []⟩
  let put (h : Array Obj) (g : Nat) (cs : Array Value) : Array Obj := h.modify g fun
    | .cells _ t frozen => .cells cs t frozen
    | o => o
  let h1 := put w0.heap 0 (Lib.firstTab.map fun z => Value.int .u8 z).toArray
  let h2 := put h1 1 ((List.range 16).flatMap fun i => [Value.int .u8 (Lib.accLo i), Value.int .u8 (Lib.accHi i)]).toArray
  { w0 with heap := h2 }
theorem laid_met (os : Os) (args : Array Value) : laidMet Tryz.prog Rows.fnFlattenByRow.laid ((laidWorld os).forCall (fun _ _ => 0) ⟨#[], args, []⟩).memory :=
  (LaidIn.of_run (l := Rows.fnFlattenByRow.laid) [1, 0] 8 (by kernel_rfl) (by kernel_rfl) (by kernel_rfl) (by kernel_rfl)).met


theorem tabs_of {W : World} (hL : laidMet Tryz.prog Rows.fnFlattenByRow.laid W) : Tabs W :=
  utf8Tabs_of_readsT (U8Types.of196 Tryz.laysValid) ⟨by kernel_rfl, by kernel_rfl, by kernel_rfl, by kernel_rfl, by kernel_rfl, by kernel_rfl, by kernel_rfl⟩
    (Lib.laidMet.reads hL (by rw [show Lib.firstData = Rows.laid_unicode_utf8_first from Pinned.utf8First_eq.symm]; exact .tail _ (.head _)))
    (Lib.laidMet.reads hL (by rw [show Lib.acceptData = Rows.laid_unicode_utf8_acceptRanges from by kernel_rfl]; exact .head _))

set_option maxRecDepth 100000 in
set_option maxHeartbeats 2000000 in
theorem lifted (os : Os) (started : os.Started) (H : Type) (enc : TypeId × Value → H) :
    ReturnsInHanded {} Tryz.checked os 3 .any (fun w args => (Rows.fnFlattenBySpec.pre enc Tryz.prog Tryz.f3 Rows.fnFlattenByRow.domain false w args ∧ laidMet Tryz.prog Rows.fnFlattenByRow.laid w) ∧ sizedMet enc Tryz.prog Tryz.f3 (OpenSpec.ofChange Rows.fnFlattenBySpec) false w args)
      (Rows.fnFlattenBySpec.post enc Tryz.prog Tryz.f3 false true false false) := by
  refine returnsInHanded_of_change_and (C := Tryz.checked) (X := fun w _ => laidMet Tryz.prog Rows.fnFlattenByRow.laid w) (fun _ _ _ hh h => h.of_heap hh) own started (by kernel_rfl) Tryz.func3
    (ChangeSpec.witness_shaped (enc := enc) (C := Tryz.checked) (os := os) (X := fun w _ => laidMet Tryz.prog Rows.fnFlattenByRow.laid w) false (laidWorld os) #[.slice none 0 0, .int .i64 0] 8 rfl (World.shaped_of_RefB (by kernel_rfl) (by kernel_rfl)) (by kernel_rfl) (by kernel_rfl) (by kernel_rfl) (laid_met os _)) ?_
  intro W base args ds gs before hval0 hW _ hsz hL _
  have hval : ∀ (j : Nat) t v, Tryz.f3.params[j]? = some t → args[j]? = some v → Value.okWide Tryz.prog W .any base t v := hval0
  have hW' := hW
  obtain ⟨p, q, hA0, hV, rfl, hfz, hnd⟩ := hW
  have hA : DataW.TrodAll enc Tryz.prog W 0 (fun _ => true) true Tryz.f3.params.toList args.toList ds p := hA0
  rw [Tryz.params3] at hA hval
  obtain ⟨v0, v1, d0, d1, p0, p1, rfl, rfl, rfl, h0, h1⟩ := trodAll_two hA
  obtain ⟨rfl, rfl⟩ := trodVars_none hV
  obtain ⟨x, rfl, rfl, rfl, wx⟩ := open_int Tryz.underlying3 (hval 1 3 v1 rfl rfl) h1
  clear hA0 hval0
  simp only [List.append_nil] at hW'
  have h0k := h0
  have hlt : ∀ x ∈ p0, x.block < W.heap.size := fun x hx => hW'.lt x (by simpa using hx)
  obtain ⟨sa, sl, sc, rfl⟩ := okWide_slice Tryz.underlying22 (hval 0 22 v0 rfl rfl)
  obtain ⟨n, hn⟩ := h0
  have hw : ∀ k ∈ d0.weights Tryz.prog 22, k ≤ reachBytes := fun k hk => by
    have := List.all_eq_true.1 hsz k (DataW.weights_mem_each (j := 0) (t := 22) (d := d0) (by rw [show Tryz.f3.params = #[22, 3] from Tryz.params3]; rfl) rfl k hk)
    simpa using this
  obtain ⟨l, a, c, hcs, hlen, hwf, hrl⟩ := open_values hn hw
  obtain ⟨rfl, rfl, rfl⟩ : sa = a ∧ sl = l.length ∧ sc = c := by simpa [Value.cells] using hcs
  have wx' : -9223372036854775808 ≤ x ∧ x ≤ 9223372036854775807 := by have := wx; simp [Lit.wf, IntKind.min, IntKind.max, IntKind.signed, IntKind.bits] at this; omega
  refine (flattenBy_law l hwf _ rfl hlen sa sc (All W) W hrl (fun b h => h) (tabs_of hL) x wx'.1 wx'.2).mono fun e W' ⟨he, hb⟩ => ?_
  subst he
  exact ⟨_, rfl, _, _, _, [], _, [], hW', trodAll_mk1 (shut_bool Tryz.underlying4 _), trodAll_mk2 (Below.trod laidOut (by kernel_rfl) (of_decide_eq_true (by kernel_rfl)) h0k hb hlt) (shut_int Tryz.underlying3 wx), rfl, hb.frame _, fun h => by cases h⟩

theorem row_holds : Rows.FnFlattenBySaid :=
  OpenClaim.holds_of_wide 3 Tryz.f3 rfl rfl rfl rfl rfl rfl rfl ⟨rfl, rfl, rfl, rfl, rfl⟩ rfl rfl rfl rfl rfl (by kernel_rfl) Tryz.func3 (by kernel_rfl)
    (of_decide_eq_true (by kernel_rfl)) (by unfold Func.isWrapper; first | (rw [if_pos (by decide +kernel)]; kernel_rfl) | (rw [if_neg (by decide +kernel)]; exact ⟨rfl, rfl⟩))
    (fun os started H enc _ => lifted os started H enc)

theorem card_holds : Rows.FnFlattenByCardSaid :=
  Claim7.holds_tied_plain_at .later [] [.data, .pinned] true (true, "35a97171611e48054f8e4a0cb64acb4f71c7d1918345445f263f7ab41466c7b6") true
    row_holds (fun _ h => by cases h) (by kernel_rfl) (fun _ h => by cases h) fnFlattenBy_row_tie rfl ⟨rfl, rfl⟩ (by kernel_rfl) rfl
    (fun f fn hf hfn => by
      obtain rfl : f = 3 := Option.some.inj ((show Tryz.prog.funcNamed "pub-strainer/laws.FnFlattenBy" = some 3 by kernel_rfl).symm.trans hf) |>.symm
      obtain rfl : fn = Tryz.f3 := (Option.some.inj (Tryz.func3.symm.trans hfn)).symm
      exact ⟨by kernel_rfl, fun j t ht => by
        rw [Tryz.params3] at ht
        have h9 : t = 22 ∨ t = 3 := by
          rcases j with _ | _ | j
          · exact .inl (by simpa using ht.symm)
          · exact .inr (by simpa using ht.symm)
          · simp at ht
        rcases h9 with rfl | rfl
        · exact (show Tryz.prog.wantsStandIn 22 = false by kernel_rfl)
        · exact (show Tryz.prog.wantsStandIn 3 = false by kernel_rfl)⟩)
    (by kernel_rfl)

end Go.Proofs.YtnlndpgbhmkanaaGreatDoor.Va
namespace Go.Proofs.YtnlndpgbhmkanaaGreatDoor
theorem fnFlattenBy_card_holds : Rows.FnFlattenByCardSaid := Va.card_holds
#print axioms fnFlattenBy_card_holds
end Go.Proofs.YtnlndpgbhmkanaaGreatDoor
