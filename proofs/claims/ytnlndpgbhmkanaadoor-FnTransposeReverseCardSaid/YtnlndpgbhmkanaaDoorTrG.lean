/-
  FnTransposeReverse returns true at every list of lists of values, and leaves it as it was: the columns of rows that are reversed are the columns, each reversed. The condition: utf8's two tables hold what the program's own text lays (the card ties it).
-/
import Derived.Test.YtnlndpgbhmkanaaDoorRows
import Derived.Test.YtnlndpgbhmkanaaDoorTie
import Derived.Test.YtnlndpgbhmkanaaDoorCards
import Derived.Test.YtnlndpgbhmkanaaDoorTrF
import Derived.Test.YtnlndpgbhmkanaaDoorVaW
import Derived.Carry
import Derived.Lib.LaidIn
import Derived.Lib.LaidU8T
import Derived.PinnedBridge
import Derived.LaidLaws
import Derived.Handed
import Derived.ProofKit
import Derived.SizedLaws
import Derived.SevenTiedAt
namespace Go.Proofs.YtnlndpgbhmkanaaDoor.Va
open Go.ChangeShapes Go.WideShapes Go.ChangeAt Go.RowKit Go.Lib
open Go.ChangeMaps (open_string shut_string)
set_option linter.unusedVariables false
set_option linter.unusedSimpArgs false

/-- rows of values that come in -/
theorem open_rows {H : Type} {enc : TypeId × Value → H} {W : World} {spare : Nat → Bool} {held : Bool} {n : Nat} {cs : List Value} {x : DataW H × List MemPlace} (h : DataW.trod enc Tryd.prog W 0 spare held n 44 cs = some x) (hs : ∀ k ∈ x.1.weights Tryd.prog 44, k ≤ reachBytes) :
    ∃ (l : List (List V)) (a : Option Addr) (c : Nat), cs = [.slice a l.length c] ∧ l.length ≤ 140737488355328 ∧ (∀ r ∈ l, WfL r ∧ r.length ≤ Q) ∧ RLL W (All W) l a := by
  rcases open_list Tryd.underlying44 h hs with rfl | ⟨a, len, cap, m, rfl, rfl, hlen, hel⟩
  · exact ⟨[], none, 0, rfl, by simp, (fun _ h => by cases h), fun i hi => by simp at hi⟩
  · have hb : Tryd.prog.bytesOf 22 = 24 := by kernel_rfl
    have hc : Tryd.prog.cellsOf 22 = 1 := by kernel_rfl
    rw [hb] at hlen
    simp only [hc, Nat.mul_one] at hel
    obtain ⟨l, hl, hp⟩ := choose_all (p := fun i (r : List V) => (WfL r ∧ r.length ≤ Q) ∧ ∃ ai ci, W.cell? (a.add i) = some (.slice ai r.length ci) ∧ RL W (All W) r ai) fun i hi => by
      obtain ⟨cs', y, h1, h2, h3⟩ := hel i hi
      obtain ⟨r, ai, ci, rfl, l1, l2, l3⟩ := open_values h2 h3
      refine ⟨r, ⟨l2, l1⟩, ai, ci, ?_, l3⟩
      have := (World.cells?_some h1).2.2 0 (by omega)
      rw [← add_two, Nat.add_zero] at this
      simpa using this
    subst hl
    refine ⟨l, some a, cap, rfl, ?_, fun r hr => ?_, fun i hi => ?_⟩
    · have hr : reachBytes ≤ 140737488355328 := by decide
      omega
    · obtain ⟨i, hi, rfl⟩ := List.getElem_of_mem hr
      exact (hp i hi).1
    · obtain ⟨_, a0, _, h0, _⟩ := hp 0 (by omega)
      have e := spot_of h0
      obtain ⟨_, ai, ci, hci, hri⟩ := hp i hi
      rw [e, add_none] at hci
      rw [e]
      exact ⟨_, _, ai, ci, rfl, cell_lt hci, hci, hri⟩
theorem laidOut : laidOutB Tryd.prog = true := by kernel_rfl
theorem own : ownKnob Tryd.prog.godebug = none := by kernel_rfl

/-- THE WITNESS: the settled world, the two variables holding what their initialisers lay. -/
noncomputable def laidWorld (os : Os) : World :=
  let w0 := World.holding Tryd.prog os ⟨#[], #[], []⟩
  let put (h : Array Obj) (g : Nat) (cs : Array Value) : Array Obj := h.modify g fun
    | .cells _ t frozen => .cells cs t frozen
    | o => o
  let h1 := put w0.heap 0 (Lib.firstTab.map fun z => Value.int .u8 z).toArray
  let h2 := put h1 1 ((List.range 16).flatMap fun i => [Value.int .u8 (Lib.accLo i), Value.int .u8 (Lib.accHi i)]).toArray
  { w0 with heap := h2 }
theorem laid_met (os : Os) (args : Array Value) : laidMet Tryd.prog Rows.fnTransposeReverseRow.laid ((laidWorld os).forCall (fun _ _ => 0) ⟨#[], args, []⟩).memory :=
  (LaidIn.of_run (l := Rows.fnTransposeReverseRow.laid) [1, 0] 8 (by kernel_rfl) (by kernel_rfl) (by kernel_rfl) (by kernel_rfl)).met


theorem tabs_of {W : World} (hL : laidMet Tryd.prog Rows.fnTransposeReverseRow.laid W) : Tabs W :=
  utf8Tabs_of_readsT (U8Types.of196 Tryd.laysValid) ⟨by kernel_rfl, by kernel_rfl, by kernel_rfl, by kernel_rfl, by kernel_rfl, by kernel_rfl, by kernel_rfl⟩
    (Lib.laidMet.reads hL (by rw [show Lib.firstData = Rows.laid_unicode_utf8_first from Pinned.utf8First_eq.symm]; exact .tail _ (.head _)))
    (Lib.laidMet.reads hL (by rw [show Lib.acceptData = Rows.laid_unicode_utf8_acceptRanges from by kernel_rfl]; exact .head _))

set_option maxRecDepth 100000 in
set_option maxHeartbeats 2000000 in
theorem lifted (os : Os) (started : os.Started) (H : Type) (enc : TypeId × Value → H) :
    ReturnsInHanded {} Tryd.checked os 6 .any (fun w args => (Rows.fnTransposeReverseSpec.pre enc Tryd.prog Tryd.f6 Rows.fnTransposeReverseRow.domain false w args ∧ laidMet Tryd.prog Rows.fnTransposeReverseRow.laid w) ∧ sizedMet enc Tryd.prog Tryd.f6 (OpenSpec.ofChange Rows.fnTransposeReverseSpec) false w args)
      (Rows.fnTransposeReverseSpec.post enc Tryd.prog Tryd.f6 false true false false) := by
  refine returnsInHanded_of_change_and (C := Tryd.checked) (X := fun w _ => laidMet Tryd.prog Rows.fnTransposeReverseRow.laid w) (fun _ _ _ hh h => h.of_heap hh) own started (by kernel_rfl) Tryd.func6
    (ChangeSpec.witness_shaped (enc := enc) (C := Tryd.checked) (os := os) (X := fun w _ => laidMet Tryd.prog Rows.fnTransposeReverseRow.laid w) false (laidWorld os) #[.slice none 0 0] 8 rfl (World.shaped_of_RefB (by kernel_rfl) (by kernel_rfl)) (by kernel_rfl) (by kernel_rfl) (by kernel_rfl) (laid_met os _)) ?_
  intro W base args ds gs before hval0 hW _ hsz hL _
  have hval : ∀ (j : Nat) t v, Tryd.f6.params[j]? = some t → args[j]? = some v → Value.okWide Tryd.prog W .any base t v := hval0
  have hW' := hW
  obtain ⟨p, q, hA0, hV, rfl, hfz, hnd⟩ := hW
  have hA : DataW.TrodAll enc Tryd.prog W 0 (fun _ => true) true Tryd.f6.params.toList args.toList ds p := hA0
  rw [Tryd.params6] at hA hval
  obtain ⟨v0, d0, rfl, rfl, h0⟩ := trodAll_one hA
  obtain ⟨rfl, rfl⟩ := trodVars_none hV
  clear hA0 hval0
  simp only [List.append_nil] at hW'
  have h0k := h0
  have hlt : ∀ x ∈ p, x.block < W.heap.size := fun x hx => hW'.lt x hx
  obtain ⟨sa, sl, sc, rfl⟩ := okWide_slice Tryd.underlying44 (hval 0 44 v0 rfl rfl)
  obtain ⟨n, hn⟩ := h0
  have hw : ∀ k ∈ d0.weights Tryd.prog 44, k ≤ reachBytes := fun k hk => by
    have := List.all_eq_true.1 hsz k (DataW.weights_mem_each (j := 0) (t := 44) (d := d0) (by rw [show Tryd.f6.params = #[44] from Tryd.params6]; rfl) rfl k hk)
    simpa using this
  obtain ⟨l, a, c, hcs, hlen, hwf, hrl⟩ := open_rows hn hw
  obtain ⟨rfl, rfl, rfl⟩ : sa = a ∧ sl = l.length ∧ sc = c := by simpa [Value.cells] using hcs
  refine (tr_law l hwf _ rfl hlen sa sc (All W) W hrl (fun b h => h) (tabs_of hL)).mono fun e W' ⟨he, hb⟩ => ?_
  subst he
  exact ⟨_, rfl, _, _, _, [], p, [], hW', trodAll_mk1 (shut_bool Tryd.underlying4 _), trodAll_mk1 (Below.trod laidOut (by kernel_rfl) (of_decide_eq_true (by kernel_rfl)) h0k hb hlt), rfl, hb.frame _, fun h => by cases h⟩

theorem row_holds : Rows.FnTransposeReverseSaid :=
  OpenClaim.holds_of_wide 6 Tryd.f6 rfl rfl rfl rfl rfl rfl rfl ⟨rfl, rfl, rfl, rfl, rfl⟩ rfl rfl rfl rfl rfl (by kernel_rfl) Tryd.func6 (by kernel_rfl)
    (of_decide_eq_true (by kernel_rfl)) (by unfold Func.isWrapper; first | (rw [if_pos (by decide +kernel)]; kernel_rfl) | (rw [if_neg (by decide +kernel)]; exact ⟨rfl, rfl⟩))
    (fun os started H enc _ => lifted os started H enc)

theorem card_holds : Rows.FnTransposeReverseCardSaid :=
  Claim7.holds_tied_plain_at .later [] [.data, .pinned] true (true, "2b5f3d92cbfbb67a6ea750e9b55cd1d6a99d295f316aac86ae5e85bbfe54c133") true
    row_holds (fun _ h => by cases h) (by kernel_rfl) (fun _ h => by cases h) fnTransposeReverse_row_tie rfl ⟨rfl, rfl⟩ (by kernel_rfl) rfl
    (fun f fn hf hfn => by
      obtain rfl : f = 6 := Option.some.inj ((show Tryd.prog.funcNamed "pub-strainer/laws.FnTransposeReverse" = some 6 by kernel_rfl).symm.trans hf) |>.symm
      obtain rfl : fn = Tryd.f6 := (Option.some.inj (Tryd.func6.symm.trans hfn)).symm
      exact ⟨by kernel_rfl, fun j t ht => by
        rw [Tryd.params6] at ht
        have h9 : t = 44 := by
          rcases j with _ | j
          · simpa using ht.symm
          · simp at ht
        subst h9
        exact (show Tryd.prog.wantsStandIn 44 = false by kernel_rfl)⟩)
    (by kernel_rfl)

end Go.Proofs.YtnlndpgbhmkanaaDoor.Va
namespace Go.Proofs.YtnlndpgbhmkanaaDoor
theorem fnTransposeReverse_card_holds : Rows.FnTransposeReverseCardSaid := Va.card_holds
#print axioms fnTransposeReverse_card_holds
end Go.Proofs.YtnlndpgbhmkanaaDoor
