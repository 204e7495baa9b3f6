/-
  FnFormat returns true at every name and every value, and leaves the value as it was: each format is what the manual says of it, and the same by its name. The condition: utf8's two tables and net/url's table hold what the program's own text lays (the card ties it).
-/
import Derived.Test.YtgjmgneppecfgaaGreatDoorRows
import Derived.Test.YtgjmgneppecfgaaGreatDoorTie
import Derived.Test.YtgjmgneppecfgaaGreatDoorCards
import Derived.Carry
import Derived.Lib.LaidIn
import Derived.Lib.LaidU8T
import Derived.PinnedBridge
import Derived.LaidLaws
import Derived.Handed
import Derived.ProofKit
import Derived.SizedLaws
import Derived.SevenTiedAt
import Derived.Test.YtgjmgneppecfgaaGreatDoorJ36
import Derived.Test.YtgjmgneppecfgaaGreatDoorJ44
namespace Go.Proofs.YtgjmgneppecfgaaGreatDoor.Fo
open Go.Proofs.YtgjmgneppecfgaaGreatDoor.Va
open Go.Proofs.YtgjmgneppecfgaaGreatDoor.Mc (UrlTab urlL)
open Go.ChangeShapes Go.WideShapes Go.ChangeAt Go.RowKit Go.Lib
open Go.ChangeMaps (open_string shut_string)
set_option linter.unusedVariables false
set_option linter.unusedSimpArgs false

theorem laidOut : laidOutB Tryz.prog = true := by kernel_rfl
theorem own : ownKnob Tryz.prog.godebug = none := by kernel_rfl

/-- THE WITNESS: the settled world, the three variables holding what their initialisers lay. -/
noncomputable def laidWorld (os : Os) : World :=
  let w0 := World.holding Tryz.prog os ⟨#[], #[], []⟩
  let put (h : Array Obj) (g : Nat) (cs : Array Value) : Array Obj := h.modify g fun
    | .cells _ t frozen => .cells cs t frozen
    | o => o
  let h1 := put w0.heap 0 (Lib.firstTab.map fun z => Value.int .u8 z).toArray
  let h2 := put h1 1 ((List.range 16).flatMap fun i => [Value.int .u8 (Lib.accLo i), Value.int .u8 (Lib.accHi i)]).toArray
  let h3 := put h2 3 (urlL.map fun z : Nat => Value.int .u8 (z : Int)).toArray
  { w0 with heap := h3 }
theorem laid_met (os : Os) (args : Array Value) : laidMet Tryz.prog Rows.fnFormatRow.laid ((laidWorld os).forCall (fun _ _ => 0) ⟨#[], args, []⟩).memory :=
  (LaidIn.of_run (l := Rows.fnFormatRow.laid) [1, 3, 0] 8 (by kernel_rfl) (by kernel_rfl) (by kernel_rfl) (by kernel_rfl)).met


theorem tabs_of {W : World} (hL : laidMet Tryz.prog Rows.fnFormatRow.laid W) : Tabs W :=
  utf8Tabs_of_readsT (U8Types.of196 Tryz.laysValid) ⟨by kernel_rfl, by kernel_rfl, by kernel_rfl, by kernel_rfl, by kernel_rfl, by kernel_rfl, by kernel_rfl⟩
    (Lib.laidMet.reads hL (by rw [show Lib.firstData = Rows.laid_unicode_utf8_first from Pinned.utf8First_eq.symm]; exact .tail _ (.tail _ (.head _))))
    (Lib.laidMet.reads hL (by rw [show Lib.acceptData = Rows.laid_unicode_utf8_acceptRanges from by kernel_rfl]; exact .head _))

theorem urlTab_of {W : World} (hL : laidMet Tryz.prog Rows.fnFormatRow.laid W) : UrlTab W := by
  obtain ⟨g, t, cs, fuel, p, hg, hty, hvar, hd⟩ := Lib.laidMet.reads hL (n := "net/url.table") (d := Rows.laid_net_url_table) (.tail _ (.head _))
  obtain rfl := Option.some.inj ((show Tryz.prog.globalNamed "net/url.table" = some 3 by kernel_rfl).symm.trans hg)
  obtain rfl := Option.some.inj ((show (Tryz.prog.globals[3]?).map (·.type) = some 309 by kernel_rfl).symm.trans hty)
  rw [show (Rows.laid_net_url_table : DataW Unit) = Lib.tabData .u8 (urlL.map fun z : Nat => (z : Int)) from by kernel_rfl] at hd
  have hcs := Lib.cells_of_tab Tryz.underlying309 Tryz.underlying245 (by kernel_rfl) (by kernel_rfl) hd
  have hcell : ∀ c, c < 256 → W.cell? ⟨3, c, none⟩ = some (.int .u8 ((urlL.getD c 0 : Nat) : Int)) := fun c hc => by
    have hlen : urlL.length = 256 := by decide +kernel
    rw [World.var?_cell hg hvar c, ← Array.getElem?_toList, hcs, List.getElem?_map, List.getElem?_map, List.getD, List.getElem?_eq_getElem (by omega)]
    rfl
  refine ⟨?_, hcell⟩
  have h0 := hcell 0 (by decide)
  apply Classical.byContradiction
  intro hlt
  have hn : W.heap[3]? = none := Array.getElem?_eq_none (by omega)
  simp [World.cell?, hn] at h0

set_option maxRecDepth 100000 in
set_option maxHeartbeats 2000000 in
theorem lifted (os : Os) (started : os.Started) (H : Type) (enc : TypeId × Value → H) :
    ReturnsInHanded {} Tryz.checked os 6 .any (fun w args => (Rows.fnFormatSpec.pre enc Tryz.prog Tryz.f6 Rows.fnFormatRow.domain false w args ∧ laidMet Tryz.prog Rows.fnFormatRow.laid w) ∧ sizedMet enc Tryz.prog Tryz.f6 (OpenSpec.ofChange Rows.fnFormatSpec) false w args)
      (Rows.fnFormatSpec.post enc Tryz.prog Tryz.f6 false true false false) := by
  refine returnsInHanded_of_change_and (C := Tryz.checked) (X := fun w _ => laidMet Tryz.prog Rows.fnFormatRow.laid w) (fun _ _ _ hh h => h.of_heap hh) own started (by kernel_rfl) Tryz.func6
    (ChangeSpec.witness_shaped (enc := enc) (C := Tryz.checked) (os := os) (X := fun w _ => laidMet Tryz.prog Rows.fnFormatRow.laid w) false (laidWorld os) #[.string ⟨#[]⟩, .agg #[.int .i64 0, .int .i64 0, .string ⟨#[]⟩, .slice none 0 0, .slice none 0 0, .slice none 0 0]] 8 rfl (World.shaped_of_RefB (by kernel_rfl) (by kernel_rfl)) (by kernel_rfl) (by kernel_rfl) (by kernel_rfl) (laid_met os _)) ?_
  intro W base args ds gs before hval0 hW _ hsz hL _
  have hval : ∀ (j : Nat) t v, Tryz.f6.params[j]? = some t → args[j]? = some v → Value.okWide Tryz.prog W .any base t v := hval0
  have hW' := hW
  obtain ⟨p, q, hA0, hV, rfl, hfz, hnd⟩ := hW
  have hA : DataW.TrodAll enc Tryz.prog W 0 (fun _ => true) true Tryz.f6.params.toList args.toList ds p := hA0
  rw [Tryz.params6] at hA hval
  obtain ⟨v0, v1, d0, d1, p0, p1, rfl, rfl, rfl, h0, h1⟩ := trodAll_two hA
  obtain ⟨rfl, rfl⟩ := trodVars_none hV
  obtain ⟨s, rfl, rfl, rfl, ws⟩ := open_string Tryz.underlying9 (hval 0 9 v0 rfl rfl) h0
  clear hA0 hval0
  simp only [List.append_nil, List.nil_append] at hW'
  have h1k := h1
  have hlt : ∀ x ∈ p1, x.block < W.heap.size := fun x hx => hW'.lt x hx
  obtain ⟨cs, rfl, _⟩ := okWide_struct Tryz.underlying27 (hval 1 27 v1 rfl rfl)
  obtain ⟨n, hn⟩ := h1
  have hw : ∀ k ∈ d1.weights Tryz.prog 27, k ≤ reachBytes := fun k hk => by
    have := List.all_eq_true.1 hsz k (DataW.weights_mem_each (j := 1) (t := 27) (d := d1) (by rw [show Tryz.f6.params = #[9, 27] from Tryz.params6]; rfl) rfl k hk)
    simpa using this
  obtain ⟨v, c0, c1, c2, c3, c4, c5, hcs, hwf, hrv⟩ := open_value n _ _ hn hw
  obtain rfl : cs = #[c0, c1, c2, c3, c4, c5] := by
    cases cs with
    | mk l => exact congrArg Array.mk hcs
  refine (format_law s (Nat.le_trans ws (by decide)) v hwf _ (All W) W hrv (fun b h => h) (tabs_of hL) (urlTab_of hL)).mono fun e W' ⟨he, hb⟩ => ?_
  subst he
  exact ⟨_, rfl, _, _, _, [], _, [], hW', trodAll_mk1 (shut_bool Tryz.underlying4 _), trodAll_mk2 (shut_string Tryz.underlying9 ws) (Below.trod laidOut (by kernel_rfl) (of_decide_eq_true (by kernel_rfl)) h1k hb hlt), rfl, hb.frame _, fun h => by cases h⟩

theorem row_holds : Rows.FnFormatSaid :=
  OpenClaim.holds_of_wide 6 Tryz.f6 rfl rfl rfl rfl rfl rfl rfl ⟨rfl, rfl, rfl, rfl, rfl⟩ rfl rfl rfl rfl rfl (by kernel_rfl) Tryz.func6 closed
    (of_decide_eq_true (by kernel_rfl)) (by unfold Func.isWrapper; first | (rw [if_pos (by decide +kernel)]; kernel_rfl) | (rw [if_neg (by decide +kernel)]; exact ⟨rfl, rfl⟩))
    (fun os started H enc _ => lifted os started H enc)

theorem card_holds : Rows.FnFormatCardSaid :=
  Claim7.holds_tied_plain_at .later [] [.data, .data, .pinned] true (true, "35a97171611e48054f8e4a0cb64acb4f71c7d1918345445f263f7ab41466c7b6") true
    row_holds (fun _ h => by cases h) (by kernel_rfl) (fun _ h => by cases h) fnFormat_row_tie rfl ⟨rfl, rfl⟩ (by kernel_rfl) rfl
    (fun f fn hf hfn => by
      obtain rfl : f = 6 := Option.some.inj ((show Tryz.prog.funcNamed "pub-strainer/laws.FnFormat" = some 6 by kernel_rfl).symm.trans hf) |>.symm
      obtain rfl : fn = Tryz.f6 := (Option.some.inj (Tryz.func6.symm.trans hfn)).symm
      exact ⟨by kernel_rfl, fun j t ht => by
        rw [Tryz.params6] at ht
        have h9 : t = 9 ∨ t = 27 := by
          rcases j with _ | _ | j
          · exact .inl (by simpa using ht.symm)
          · exact .inr (by simpa using ht.symm)
          · simp at ht
        rcases h9 with rfl | rfl
        · exact (show Tryz.prog.wantsStandIn 9 = false by kernel_rfl)
        · exact (show Tryz.prog.wantsStandIn 27 = false by kernel_rfl)⟩)
    (by kernel_rfl)

end Go.Proofs.YtgjmgneppecfgaaGreatDoor.Fo
namespace Go.Proofs.YtgjmgneppecfgaaGreatDoor
theorem fnFormat_card_holds : Rows.FnFormatCardSaid := Fo.card_holds
#print axioms fnFormat_card_holds
end Go.Proofs.YtgjmgneppecfgaaGreatDoor
