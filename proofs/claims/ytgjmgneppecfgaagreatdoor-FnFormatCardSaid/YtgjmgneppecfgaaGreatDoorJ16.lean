/-
  FnFormat, texts VaJ Shelf VaK MbL FoA: lemmas for the law; the theorem stands in the last text.
-/
import Derived.Shelf.Unicode.ValidAny
import Derived.Test.YtgjmgneppecfgaaGreatDoorProg
import Derived.Deep.DeepCutAuto
import Derived.Deep.QuietTactic
import Derived.Test.YtgjmgneppecfgaaGreatDoorJ01
import Derived.Test.YtgjmgneppecfgaaGreatDoorJ13
import Derived.Test.YtgjmgneppecfgaaGreatDoorJ14
import Derived.Test.YtgjmgneppecfgaaGreatDoorJ15
namespace Go.Proofs.YtgjmgneppecfgaaGreatDoor.Va
open Go.RowKit
open Go.MapKept (Stamped IsKey)
set_option linter.unusedVariables false
set_option linter.unusedSimpArgs false

theorem sets7_other {w : World} {b b' : Nat} (v0 v1 v2 v3 v4 v5 v6 : Value) (h : b' ≠ b) :
    (((((((w.setCell ⟨b, 0, none⟩ v0).setCell ⟨b, 1, none⟩ v1).setCell ⟨b, 2, none⟩ v2).setCell ⟨b, 3, none⟩ v3).setCell ⟨b, 4, none⟩ v4).setCell ⟨b, 5, none⟩ v5).setCell ⟨b, 6, none⟩ v6).heap[b']? = w.heap[b']? := by
  rw [set_other _ _ h, sets_other _ _ _ _ _ _ h]
theorem cells7 {w : World} {b : Nat} {a0 a1 a2 a3 a4 a5 a6 : Value} {t : TypeId} (h : w.heap[b]? = some (.cells #[a0, a1, a2, a3, a4, a5, a6] t (0, 0))) :
    (w.cell? ⟨b, 0, none⟩ = some a0 ∧ w.cell? ⟨b, 1, none⟩ = some a1 ∧ w.cell? ⟨b, 2, none⟩ = some a2 ∧ w.cell? ⟨b, 3, none⟩ = some a3 ∧ w.cell? ⟨b, 4, none⟩ = some a4 ∧ w.cell? ⟨b, 5, none⟩ = some a5 ∧ w.cell? ⟨b, 6, none⟩ = some a6) ∧
    w.frozen? ⟨b, 0, none⟩ = false ∧ w.frozen? ⟨b, 1, none⟩ = false ∧ w.frozen? ⟨b, 2, none⟩ = false ∧ w.frozen? ⟨b, 3, none⟩ = false ∧ w.frozen? ⟨b, 4, none⟩ = false ∧ w.frozen? ⟨b, 5, none⟩ = false ∧ w.frozen? ⟨b, 6, none⟩ = false :=
  ⟨⟨cell_of h 0 rfl, cell_of h 1 rfl, cell_of h 2 rfl, cell_of h 3 rfl, cell_of h 4 rfl, cell_of h 5 rfl, cell_of h 6 rfl⟩, free_of h 0, free_of h 1, free_of h 2, free_of h 3, free_of h 4, free_of h 5, free_of h 6⟩
/-- what result returns for a value -/
def Result (x : V) (w : World) (e : Ending) (w' : World) : Prop :=
  ∃ c0 c1 c2 c3 c4 c5, e = .returned (.agg #[c0, c1, c2, c3, c4, c5, .int .i64 0]) ∧ RV w' (fun r => w.heap.size ≤ r) x (.agg #[c0, c1, c2, c3, c4, c5]) ∧ Below w.heap.size w w'

theorem sets7 {B b : Nat} {w0 w : World} (h : Below B w0 w) (hb : B ≤ b) (v0 v1 v2 v3 v4 v5 v6 : Value) :
    Below B w0 (((((((w.setCell ⟨b, 0, none⟩ v0).setCell ⟨b, 1, none⟩ v1).setCell ⟨b, 2, none⟩ v2).setCell ⟨b, 3, none⟩ v3).setCell ⟨b, 4, none⟩ v4).setCell ⟨b, 5, none⟩ v5).setCell ⟨b, 6, none⟩ v6) :=
  (sets6 h hb v0 v1 v2 v3 v4 v5).setCell hb _

theorem GV.kinds {w : World} {S : Nat → Prop} {x : V} {g : Value} (h : GV w S x g) : g = .nilIface ∨ (∃ v, g = .iface 4 v) ∨ (∃ v, g = .iface 3 v) ∨ (∃ v, g = .iface 65 v) ∨ (∃ v, g = .iface 9 v) ∨ (∃ v, g = .iface 60 v) ∨ (∃ v, g = .iface 106 v) := by
  cases x with
  | mk k hh t ls ks vs =>
    rw [GV] at h
    rcases h with q | q | q | q | q | ⟨q, a, c, e, hl⟩ | ⟨q, r, es, cl, e, _⟩
    · exact .inl q.2
    · exact .inr (.inl ⟨_, q.2⟩)
    · exact .inr (.inl ⟨_, q.2⟩)
    · obtain ⟨_, rfl⟩ := q
      unfold gnum
      split
      · exact .inr (.inr (.inl ⟨_, rfl⟩))
      · exact .inr (.inr (.inr (.inl ⟨_, rfl⟩)))
    · exact .inr (.inr (.inr (.inr (.inl ⟨_, q.2⟩))))
    · exact .inr (.inr (.inr (.inr (.inr (.inl ⟨_, e⟩)))))
    · exact .inr (.inr (.inr (.inr (.inr (.inr ⟨_, e⟩)))))


set_option maxHeartbeats 4000000 in
theorem result_any (x : V) (H : FG x) (g : Value) (S : Nat → Prop) (w : World) (hg : GV w S x g) (hS : ∀ b, S b → b < w.heap.size) : Calls Tryz.prog 39 #[g] w (Result x w) := by
  have HX := Lib.hid H
  have HS := Lib.hid hS
  have HG := Lib.hid hg
  clear H hS hg
  rcases HG.out.kinds with rfl | ⟨gv, rfl⟩ | ⟨gv, rfl⟩ | ⟨gv, rfl⟩ | ⟨gv, rfl⟩ | ⟨gv, rfl⟩ | ⟨gv, rfl⟩
  · (go_enter Tryz.func39, Tryz.ntmps39
     go_wp2_with fail
     generalize hW : World.alloc w _ = W
     have b1 : Below w.heap.size w W := hW ▸ below_alloc w _
     have z : W.heap[w.heap.size]? = some (.cells #[.int .i64 0, .int .i64 0, .string ⟨#[]⟩, .slice none 0 0, .slice none 0 0, .slice none 0 0, .int .i64 0] 35 (0, 0)) := hW ▸ block_new w _ _
     clear hW
     have hs := b1.size
     refine (HX.out _ S W (GV.mono (Same.of_below b1 HS.out) (fun _ h => h) _ _ HG.out) (fun b h => Nat.lt_of_lt_of_le (HS.out b h) b1.size)).mono ?_
     rintro e w2 ⟨v, rfl, hv, hb2⟩
     obtain ⟨la, lc, ka, kc, va, vc, t1, n1, tx, l1, l2, l3, rfl, HV⟩ := RV.parts hv
     have hwlt : w.heap.size < W.heap.size := heap_lt z
     have HZ := Lib.hid (keep hb2 z)
     have HB := Lib.hid (b1.trans (hb2.mono b1.size))
     have hs2 := hb2.size
     clear hv hb2 z b1
     go_upto_region 7 with fail
     generalize hW3 : World.alloc w2 _ = W3
     have b3 := Lib.hid (hW3 ▸ below_alloc w2 _ : Below w2.heap.size w2 W3)
     have zz := cells7 (keep b3.out HZ.out)
     have zn := cells6 (hW3 ▸ block_new w2 _ _ : W3.heap[w2.heap.size]? = some (.cells #[.int .i64 t1, .int .i64 n1, .string tx, .slice la l1 lc, .slice ka l2 kc, .slice va l3 vc] 27 (0, 0)))
     have HB3 := Lib.hid (HB.out.trans (b3.out.mono (by omega)))
     have HV3 := Lib.hid (RV.mono (Same.of_below b3.out fun b hb => hb.2) (fun b hb => hb.1) _ _ (RV.lt _ _ HV.out))
     clear hW3
     go_wp2_with fail
     refine bodyPost_ret (v := .agg #[.int .i64 t1, .int .i64 n1, .string tx, .slice la l1 lc, .slice ka l2 kc, .slice va l3 vc, .int .i64 0]) (by simp [results, Tryz.results39, go_sem, *]) rfl ⟨_, _, _, _, _, _, rfl, ?_, ?_⟩
     · exact RV.mono (S := fun r => W.heap.size ≤ r) (fun b hb => sets7_other _ _ _ _ _ _ _ (by omega)) (fun b hb => by show _ ≤ b; omega) _ _ HV3.out
     · exact sets7 HB3.out (Nat.le_refl _) _ _ _ _ _ _ _)
  · (go_enter Tryz.func39, Tryz.ntmps39
     go_wp2_with fail
     generalize hW : World.alloc w _ = W
     have b1 : Below w.heap.size w W := hW ▸ below_alloc w _
     have z : W.heap[w.heap.size]? = some (.cells #[.int .i64 0, .int .i64 0, .string ⟨#[]⟩, .slice none 0 0, .slice none 0 0, .slice none 0 0, .int .i64 0] 35 (0, 0)) := hW ▸ block_new w _ _
     clear hW
     have hs := b1.size
     refine (HX.out _ S W (GV.mono (Same.of_below b1 HS.out) (fun _ h => h) _ _ HG.out) (fun b h => Nat.lt_of_lt_of_le (HS.out b h) b1.size)).mono ?_
     rintro e w2 ⟨v, rfl, hv, hb2⟩
     obtain ⟨la, lc, ka, kc, va, vc, t1, n1, tx, l1, l2, l3, rfl, HV⟩ := RV.parts hv
     have hwlt : w.heap.size < W.heap.size := heap_lt z
     have HZ := Lib.hid (keep hb2 z)
     have HB := Lib.hid (b1.trans (hb2.mono b1.size))
     have hs2 := hb2.size
     clear hv hb2 z b1
     go_upto_region 7 with fail
     generalize hW3 : World.alloc w2 _ = W3
     have b3 := Lib.hid (hW3 ▸ below_alloc w2 _ : Below w2.heap.size w2 W3)
     have zz := cells7 (keep b3.out HZ.out)
     have zn := cells6 (hW3 ▸ block_new w2 _ _ : W3.heap[w2.heap.size]? = some (.cells #[.int .i64 t1, .int .i64 n1, .string tx, .slice la l1 lc, .slice ka l2 kc, .slice va l3 vc] 27 (0, 0)))
     have HB3 := Lib.hid (HB.out.trans (b3.out.mono (by omega)))
     have HV3 := Lib.hid (RV.mono (Same.of_below b3.out fun b hb => hb.2) (fun b hb => hb.1) _ _ (RV.lt _ _ HV.out))
     clear hW3
     go_wp2_with fail
     refine bodyPost_ret (v := .agg #[.int .i64 t1, .int .i64 n1, .string tx, .slice la l1 lc, .slice ka l2 kc, .slice va l3 vc, .int .i64 0]) (by simp [results, Tryz.results39, go_sem, *]) rfl ⟨_, _, _, _, _, _, rfl, ?_, ?_⟩
     · exact RV.mono (S := fun r => W.heap.size ≤ r) (fun b hb => sets7_other _ _ _ _ _ _ _ (by omega)) (fun b hb => by show _ ≤ b; omega) _ _ HV3.out
     · exact sets7 HB3.out (Nat.le_refl _) _ _ _ _ _ _ _)
  · (go_enter Tryz.func39, Tryz.ntmps39
     go_wp2_with fail
     generalize hW : World.alloc w _ = W
     have b1 : Below w.heap.size w W := hW ▸ below_alloc w _
     have z : W.heap[w.heap.size]? = some (.cells #[.int .i64 0, .int .i64 0, .string ⟨#[]⟩, .slice none 0 0, .slice none 0 0, .slice none 0 0, .int .i64 0] 35 (0, 0)) := hW ▸ block_new w _ _
     clear hW
     have hs := b1.size
     refine (HX.out _ S W (GV.mono (Same.of_below b1 HS.out) (fun _ h => h) _ _ HG.out) (fun b h => Nat.lt_of_lt_of_le (HS.out b h) b1.size)).mono ?_
     rintro e w2 ⟨v, rfl, hv, hb2⟩
     obtain ⟨la, lc, ka, kc, va, vc, t1, n1, tx, l1, l2, l3, rfl, HV⟩ := RV.parts hv
     have hwlt : w.heap.size < W.heap.size := heap_lt z
     have HZ := Lib.hid (keep hb2 z)
     have HB := Lib.hid (b1.trans (hb2.mono b1.size))
     have hs2 := hb2.size
     clear hv hb2 z b1
     go_upto_region 7 with fail
     generalize hW3 : World.alloc w2 _ = W3
     have b3 := Lib.hid (hW3 ▸ below_alloc w2 _ : Below w2.heap.size w2 W3)
     have zz := cells7 (keep b3.out HZ.out)
     have zn := cells6 (hW3 ▸ block_new w2 _ _ : W3.heap[w2.heap.size]? = some (.cells #[.int .i64 t1, .int .i64 n1, .string tx, .slice la l1 lc, .slice ka l2 kc, .slice va l3 vc] 27 (0, 0)))
     have HB3 := Lib.hid (HB.out.trans (b3.out.mono (by omega)))
     have HV3 := Lib.hid (RV.mono (Same.of_below b3.out fun b hb => hb.2) (fun b hb => hb.1) _ _ (RV.lt _ _ HV.out))
     clear hW3
     go_wp2_with fail
     refine bodyPost_ret (v := .agg #[.int .i64 t1, .int .i64 n1, .string tx, .slice la l1 lc, .slice ka l2 kc, .slice va l3 vc, .int .i64 0]) (by simp [results, Tryz.results39, go_sem, *]) rfl ⟨_, _, _, _, _, _, rfl, ?_, ?_⟩
     · exact RV.mono (S := fun r => W.heap.size ≤ r) (fun b hb => sets7_other _ _ _ _ _ _ _ (by omega)) (fun b hb => by show _ ≤ b; omega) _ _ HV3.out
     · exact sets7 HB3.out (Nat.le_refl _) _ _ _ _ _ _ _)
  · (go_enter Tryz.func39, Tryz.ntmps39
     go_wp2_with fail
     generalize hW : World.alloc w _ = W
     have b1 : Below w.heap.size w W := hW ▸ below_alloc w _
     have z : W.heap[w.heap.size]? = some (.cells #[.int .i64 0, .int .i64 0, .string ⟨#[]⟩, .slice none 0 0, .slice none 0 0, .slice none 0 0, .int .i64 0] 35 (0, 0)) := hW ▸ block_new w _ _
     clear hW
     have hs := b1.size
     refine (HX.out _ S W (GV.mono (Same.of_below b1 HS.out) (fun _ h => h) _ _ HG.out) (fun b h => Nat.lt_of_lt_of_le (HS.out b h) b1.size)).mono ?_
     rintro e w2 ⟨v, rfl, hv, hb2⟩
     obtain ⟨la, lc, ka, kc, va, vc, t1, n1, tx, l1, l2, l3, rfl, HV⟩ := RV.parts hv
     have hwlt : w.heap.size < W.heap.size := heap_lt z
     have HZ := Lib.hid (keep hb2 z)
     have HB := Lib.hid (b1.trans (hb2.mono b1.size))
     have hs2 := hb2.size
     clear hv hb2 z b1
     go_upto_region 7 with fail
     generalize hW3 : World.alloc w2 _ = W3
     have b3 := Lib.hid (hW3 ▸ below_alloc w2 _ : Below w2.heap.size w2 W3)
     have zz := cells7 (keep b3.out HZ.out)
     have zn := cells6 (hW3 ▸ block_new w2 _ _ : W3.heap[w2.heap.size]? = some (.cells #[.int .i64 t1, .int .i64 n1, .string tx, .slice la l1 lc, .slice ka l2 kc, .slice va l3 vc] 27 (0, 0)))
     have HB3 := Lib.hid (HB.out.trans (b3.out.mono (by omega)))
     have HV3 := Lib.hid (RV.mono (Same.of_below b3.out fun b hb => hb.2) (fun b hb => hb.1) _ _ (RV.lt _ _ HV.out))
     clear hW3
     go_wp2_with fail
     refine bodyPost_ret (v := .agg #[.int .i64 t1, .int .i64 n1, .string tx, .slice la l1 lc, .slice ka l2 kc, .slice va l3 vc, .int .i64 0]) (by simp [results, Tryz.results39, go_sem, *]) rfl ⟨_, _, _, _, _, _, rfl, ?_, ?_⟩
     · exact RV.mono (S := fun r => W.heap.size ≤ r) (fun b hb => sets7_other _ _ _ _ _ _ _ (by omega)) (fun b hb => by show _ ≤ b; omega) _ _ HV3.out
     · exact sets7 HB3.out (Nat.le_refl _) _ _ _ _ _ _ _)
  · (go_enter Tryz.func39, Tryz.ntmps39
     go_wp2_with fail
     generalize hW : World.alloc w _ = W
     have b1 : Below w.heap.size w W := hW ▸ below_alloc w _
     have z : W.heap[w.heap.size]? = some (.cells #[.int .i64 0, .int .i64 0, .string ⟨#[]⟩, .slice none 0 0, .slice none 0 0, .slice none 0 0, .int .i64 0] 35 (0, 0)) := hW ▸ block_new w _ _
     clear hW
     have hs := b1.size
     refine (HX.out _ S W (GV.mono (Same.of_below b1 HS.out) (fun _ h => h) _ _ HG.out) (fun b h => Nat.lt_of_lt_of_le (HS.out b h) b1.size)).mono ?_
     rintro e w2 ⟨v, rfl, hv, hb2⟩
     obtain ⟨la, lc, ka, kc, va, vc, t1, n1, tx, l1, l2, l3, rfl, HV⟩ := RV.parts hv
     have hwlt : w.heap.size < W.heap.size := heap_lt z
     have HZ := Lib.hid (keep hb2 z)
     have HB := Lib.hid (b1.trans (hb2.mono b1.size))
     have hs2 := hb2.size
     clear hv hb2 z b1
     go_upto_region 7 with fail
     generalize hW3 : World.alloc w2 _ = W3
     have b3 := Lib.hid (hW3 ▸ below_alloc w2 _ : Below w2.heap.size w2 W3)
     have zz := cells7 (keep b3.out HZ.out)
     have zn := cells6 (hW3 ▸ block_new w2 _ _ : W3.heap[w2.heap.size]? = some (.cells #[.int .i64 t1, .int .i64 n1, .string tx, .slice la l1 lc, .slice ka l2 kc, .slice va l3 vc] 27 (0, 0)))
     have HB3 := Lib.hid (HB.out.trans (b3.out.mono (by omega)))
     have HV3 := Lib.hid (RV.mono (Same.of_below b3.out fun b hb => hb.2) (fun b hb => hb.1) _ _ (RV.lt _ _ HV.out))
     clear hW3
     go_wp2_with fail
     refine bodyPost_ret (v := .agg #[.int .i64 t1, .int .i64 n1, .string tx, .slice la l1 lc, .slice ka l2 kc, .slice va l3 vc, .int .i64 0]) (by simp [results, Tryz.results39, go_sem, *]) rfl ⟨_, _, _, _, _, _, rfl, ?_, ?_⟩
     · exact RV.mono (S := fun r => W.heap.size ≤ r) (fun b hb => sets7_other _ _ _ _ _ _ _ (by omega)) (fun b hb => by show _ ≤ b; omega) _ _ HV3.out
     · exact sets7 HB3.out (Nat.le_refl _) _ _ _ _ _ _ _)
  · (go_enter Tryz.func39, Tryz.ntmps39
     go_wp2_with fail
     generalize hW : World.alloc w _ = W
     have b1 : Below w.heap.size w W := hW ▸ below_alloc w _
     have z : W.heap[w.heap.size]? = some (.cells #[.int .i64 0, .int .i64 0, .string ⟨#[]⟩, .slice none 0 0, .slice none 0 0, .slice none 0 0, .int .i64 0] 35 (0, 0)) := hW ▸ block_new w _ _
     clear hW
     have hs := b1.size
     refine (HX.out _ S W (GV.mono (Same.of_below b1 HS.out) (fun _ h => h) _ _ HG.out) (fun b h => Nat.lt_of_lt_of_le (HS.out b h) b1.size)).mono ?_
     rintro e w2 ⟨v, rfl, hv, hb2⟩
     obtain ⟨la, lc, ka, kc, va, vc, t1, n1, tx, l1, l2, l3, rfl, HV⟩ := RV.parts hv
     have hwlt : w.heap.size < W.heap.size := heap_lt z
     have HZ := Lib.hid (keep hb2 z)
     have HB := Lib.hid (b1.trans (hb2.mono b1.size))
     have hs2 := hb2.size
     clear hv hb2 z b1
     go_upto_region 7 with fail
     generalize hW3 : World.alloc w2 _ = W3
     have b3 := Lib.hid (hW3 ▸ below_alloc w2 _ : Below w2.heap.size w2 W3)
     have zz := cells7 (keep b3.out HZ.out)
     have zn := cells6 (hW3 ▸ block_new w2 _ _ : W3.heap[w2.heap.size]? = some (.cells #[.int .i64 t1, .int .i64 n1, .string tx, .slice la l1 lc, .slice ka l2 kc, .slice va l3 vc] 27 (0, 0)))
     have HB3 := Lib.hid (HB.out.trans (b3.out.mono (by omega)))
     have HV3 := Lib.hid (RV.mono (Same.of_below b3.out fun b hb => hb.2) (fun b hb => hb.1) _ _ (RV.lt _ _ HV.out))
     clear hW3
     go_wp2_with fail
     refine bodyPost_ret (v := .agg #[.int .i64 t1, .int .i64 n1, .string tx, .slice la l1 lc, .slice ka l2 kc, .slice va l3 vc, .int .i64 0]) (by simp [results, Tryz.results39, go_sem, *]) rfl ⟨_, _, _, _, _, _, rfl, ?_, ?_⟩
     · exact RV.mono (S := fun r => W.heap.size ≤ r) (fun b hb => sets7_other _ _ _ _ _ _ _ (by omega)) (fun b hb => by show _ ≤ b; omega) _ _ HV3.out
     · exact sets7 HB3.out (Nat.le_refl _) _ _ _ _ _ _ _)
  · (go_enter Tryz.func39, Tryz.ntmps39
     go_wp2_with fail
     generalize hW : World.alloc w _ = W
     have b1 : Below w.heap.size w W := hW ▸ below_alloc w _
     have z : W.heap[w.heap.size]? = some (.cells #[.int .i64 0, .int .i64 0, .string ⟨#[]⟩, .slice none 0 0, .slice none 0 0, .slice none 0 0, .int .i64 0] 35 (0, 0)) := hW ▸ block_new w _ _
     clear hW
     have hs := b1.size
     refine (HX.out _ S W (GV.mono (Same.of_below b1 HS.out) (fun _ h => h) _ _ HG.out) (fun b h => Nat.lt_of_lt_of_le (HS.out b h) b1.size)).mono ?_
     rintro e w2 ⟨v, rfl, hv, hb2⟩
     obtain ⟨la, lc, ka, kc, va, vc, t1, n1, tx, l1, l2, l3, rfl, HV⟩ := RV.parts hv
     have hwlt : w.heap.size < W.heap.size := heap_lt z
     have HZ := Lib.hid (keep hb2 z)
     have HB := Lib.hid (b1.trans (hb2.mono b1.size))
     have hs2 := hb2.size
     clear hv hb2 z b1
     go_upto_region 7 with fail
     generalize hW3 : World.alloc w2 _ = W3
     have b3 := Lib.hid (hW3 ▸ below_alloc w2 _ : Below w2.heap.size w2 W3)
     have zz := cells7 (keep b3.out HZ.out)
     have zn := cells6 (hW3 ▸ block_new w2 _ _ : W3.heap[w2.heap.size]? = some (.cells #[.int .i64 t1, .int .i64 n1, .string tx, .slice la l1 lc, .slice ka l2 kc, .slice va l3 vc] 27 (0, 0)))
     have HB3 := Lib.hid (HB.out.trans (b3.out.mono (by omega)))
     have HV3 := Lib.hid (RV.mono (Same.of_below b3.out fun b hb => hb.2) (fun b hb => hb.1) _ _ (RV.lt _ _ HV.out))
     clear hW3
     go_wp2_with fail
     refine bodyPost_ret (v := .agg #[.int .i64 t1, .int .i64 n1, .string tx, .slice la l1 lc, .slice ka l2 kc, .slice va l3 vc, .int .i64 0]) (by simp [results, Tryz.results39, go_sem, *]) rfl ⟨_, _, _, _, _, _, rfl, ?_, ?_⟩
     · exact RV.mono (S := fun r => W.heap.size ≤ r) (fun b hb => sets7_other _ _ _ _ _ _ _ (by omega)) (fun b hb => by show _ ≤ b; omega) _ _ HV3.out
     · exact sets7 HB3.out (Nat.le_refl _) _ _ _ _ _ _ _)

end Go.Proofs.YtgjmgneppecfgaaGreatDoor.Va
namespace Go.Proofs
open Go.Shelf
def Tryz.laysValid_ren : Go.Shelf.Ren := ⟨fun | 196 => 18 | 259 => 49 | n => n, fun | 9 => 9 | 4 => 4 | 3 => 3 | 5 => 5 | 12 => 12 | 119 => 83 | 0 => 0 | 46 => 87 | 139 => 86 | 138 => 85 | 53 => 129 | n => n, fun | 3 => 0 | 4 => 1 | n => n⟩
theorem Tryz.laysValid : Go.Proofs.Lays.n196 Tryz.prog Tryz.laysValid_ren := {
  mixed := by kernel_rfl
  f196 := Tryz.func18.trans (congrArg some (by kernel_rfl))
  f259 := Tryz.func49.trans (congrArg some (by kernel_rfl))
  t0 := Tryz.underlying0
  a0 := Tryz.isAgg0
  z0 := Tryz.sizeOf0
  v0 := Tryz.zeroValue0
  t3 := Tryz.underlying3
  a3 := Tryz.isAgg3
  z3 := Tryz.sizeOf3
  v3 := Tryz.zeroValue3
  t4 := Tryz.underlying4
  a4 := Tryz.isAgg4
  z4 := Tryz.sizeOf4
  v4 := Tryz.zeroValue4
  t5 := Tryz.underlying5
  a5 := Tryz.isAgg5
  z5 := Tryz.sizeOf5
  v5 := Tryz.zeroValue5
  t9 := Tryz.underlying9
  a9 := Tryz.isAgg9
  z9 := Tryz.sizeOf9
  v9 := Tryz.zeroValue9
  t12 := Tryz.underlying12
  a12 := Tryz.isAgg12
  z12 := Tryz.sizeOf12
  v12 := Tryz.zeroValue12
  t46 := Tryz.underlying87
  a46 := Tryz.isAgg87
  z46 := Tryz.sizeOf87
  v46 := Tryz.zeroValue87
  t53 := Tryz.underlying129
  a53 := Tryz.isAgg129
  z53 := Tryz.sizeOf129
  v53 := Tryz.zeroValue129
  t119 := Tryz.underlying83
  a119 := Tryz.isAgg83
  z119 := Tryz.sizeOf83
  t138 := Tryz.underlying85
  a138 := Tryz.isAgg85
  z138 := Tryz.sizeOf85
  v138 := Tryz.zeroValue85
  t139 := Tryz.underlying86
  a139 := Tryz.isAgg86
  z139 := Tryz.sizeOf86
  v139 := Tryz.zeroValue86
  g3 := by kernel_rfl
  g4 := by kernel_rfl }
theorem Tryz.utf8_ValidString (s : ByteArray) (w : World) (hs : s.size ≤ 9223372036854775807) (hT : Lib.Utf8Tabs (Tryz.laysValid_ren.g 3) (Tryz.laysValid_ren.g 4) w) :
    Calls Tryz.prog 18 #[.string s] w fun e w' => e = .returned (.bool (Lib.validD s.data.toList)) ∧ RowKit.Below w.heap.size w w' := Any.utf8_ValidString Tryz.laysValid s w hs hT
end Go.Proofs
namespace Go.Proofs.YtgjmgneppecfgaaGreatDoor.Va
open Go.RowKit
set_option linter.unusedVariables false
set_option linter.unusedSimpArgs false

/-- utf8's two tables lie as their initialisers lay them -/
def Tabs (w : World) : Prop := Lib.Utf8Tabs (Tryz.laysValid_ren.g 3) (Tryz.laysValid_ren.g 4) w
theorem Tabs.below {w w' : World} (h : Tabs w) (hb : Below w.heap.size w w') : Tabs w' := Utf8Tabs_below h hb

/-- the looker, in memory -/
def LK (L : Nat) (p b : Int) (bad : Bool) (w : World) : Prop := w.heap[L]? = some (.cells #[.int .i64 p, .int .i64 b, .bool bad] 69 (0, 0))
theorem cells3 {w : World} {b : Nat} {a0 a1 a2 : Value} {t : TypeId} (h : w.heap[b]? = some (.cells #[a0, a1, a2] t (0, 0))) :
    (w.cell? ⟨b, 0, none⟩ = some a0 ∧ w.cell? ⟨b, 1, none⟩ = some a1 ∧ w.cell? ⟨b, 2, none⟩ = some a2) ∧ w.frozen? ⟨b, 0, none⟩ = false ∧ w.frozen? ⟨b, 1, none⟩ = false ∧ w.frozen? ⟨b, 2, none⟩ = false :=
  ⟨⟨cell_of h 0 rfl, cell_of h 1 rfl, cell_of h 2 rfl⟩, free_of h 0, free_of h 1, free_of h 2⟩
theorem LK.cells {L : Nat} {p b : Int} {bad : Bool} {w : World} (h : LK L p b bad w) :
    (w.cell? ⟨L, 0, none⟩ = some (.int .i64 p) ∧ w.cell? ⟨L, 1, none⟩ = some (.int .i64 b) ∧ w.cell? ⟨L, 2, none⟩ = some (.bool bad)) ∧ w.frozen? ⟨L, 0, none⟩ = false ∧ w.frozen? ⟨L, 1, none⟩ = false ∧ w.frozen? ⟨L, 2, none⟩ = false := cells3 h
theorem LK.lt {L : Nat} {p b : Int} {bad : Bool} {w : World} (h : LK L p b bad w) : L < w.heap.size := heap_lt h
theorem LK.set0 {L : Nat} {p b : Int} {bad : Bool} {w : World} (h : LK L p b bad w) (q : Int) : LK L q b bad (w.setCell ⟨L, 0, none⟩ (.int .i64 q)) := set_block h 0 _
theorem LK.set1 {L : Nat} {p b : Int} {bad : Bool} {w : World} (h : LK L p b bad w) (q : Int) : LK L p q bad (w.setCell ⟨L, 1, none⟩ (.int .i64 q)) := set_block h 1 _
theorem LK.set2 {L : Nat} {p b : Int} {bad : Bool} {w : World} (h : LK L p b bad w) (q : Bool) : LK L p b q (w.setCell ⟨L, 2, none⟩ (.bool q)) := set_block h 2 _

theorem gr_refl (w : World) (r : Option Nat) : w.grownBy w r := ⟨rfl, rfl, rfl, Nat.le_refl _, fun _ _ _ => rfl⟩
theorem gr_trans {a b c : World} {r : Option Nat} (h : a.grownBy b r) (k : b.grownBy c r) : a.grownBy c r :=
  ⟨k.os.trans h.os, k.tape.trans h.tape, k.output.trans h.output, Nat.le_trans h.size k.size, fun i hi hr => (k.block i (Nat.lt_of_lt_of_le hi h.size) hr).trans (h.block i hi hr)⟩
theorem gr_below {a b : World} {r : Option Nat} (h : Below a.heap.size a b) : a.grownBy b r := ⟨h.os, h.tape, h.output, h.size, fun i hi _ => h.block i hi⟩
theorem gr_set (w : World) (L j : Nat) (v : Value) : w.grownBy (w.setCell ⟨L, j, none⟩ v) (some L) := ⟨rfl, rfl, rfl, by simp, fun k _ hk => set_other j v (fun e => hk (by rw [e]))⟩

/-- what a walk over the looker leaves: nothing else is turned -/
def Looked (L : Nat) (p b : Int) (bad : Bool) (w w' : World) : Prop := LK L p b bad w' ∧ w.grownBy w' (some L)

set_option maxHeartbeats 400000 in
theorem want_any {L : Nat} {p b : Int} {bad : Bool} (ok : Bool) {w : World} (h : LK L p b bad w) :
    Calls Tryz.prog 89 #[.pointer (some ⟨L, 0, none⟩), .bool ok] w fun e w' => e = .returned (.tuple #[]) ∧ Looked L p b (bad || !ok) w w' := by
  have c := h.cells
  have H := Lib.hid h
  clear h
  cases bad
  · go_enter Tryz.func89, Tryz.ntmps89
    go_wp2_with fail
    go_returns
    exact ⟨rfl, H.out.set2 _, gr_set _ _ _ _⟩
  · go_enter Tryz.func89, Tryz.ntmps89
    go_wp2_with fail
    go_returns
    exact ⟨rfl, H.out.set2 _, gr_set _ _ _ _⟩

/-- what part returns -/
def Part (L : Nat) (p b : Int) (bad : Bool) (deep : Int) (w : World) (e : Ending) (w' : World) : Prop :=
  ∃ bad' : Bool, e = .returned (.bool (!bad')) ∧ Looked L (wrap64 (p + 1)) b bad' w w' ∧ (bad' = false → bad = false ∧ wrap64 (p + 1) ≤ 400 ∧ b ≤ 2000 ∧ deep ≤ 60)

set_option maxHeartbeats 1000000 in
theorem part_any {L : Nat} {p b : Int} {bad : Bool} (deep : Int) {w : World} (h : LK L p b bad w) : Calls Tryz.prog 88 #[.pointer (some ⟨L, 0, none⟩), .int .i64 deep] w (Part L p b bad deep w) := by
  have c := h.cells
  have H := Lib.hid h
  clear h
  by_cases hd : deep ≤ 60
  all_goals
    go_enter Tryz.func88, Tryz.ntmps88
    go_wp2_with fail
    all_goals
      generalize hW : World.setCell w _ _ = W
      have HQ := Lib.hid (hW ▸ H.out.set0 _ : LK L (wrap64 (p + 1)) b bad W)
      have HGr := Lib.hid (hW ▸ gr_set w L 0 _ : w.grownBy W (some L))
      clear hW c
      refine (want_any _ HQ.out).mono ?_
      rintro e w2 ⟨rfl, hl⟩
      have HL := Lib.hid hl
      clear hl
      have c2 := HL.out.1.cells
      try simp only [Bool.not_false, Bool.not_true, Bool.or_true, Bool.or_false] at c2
      go_wp2_with fail
      go_returns
      first
        | exact ⟨true, rfl, ⟨by have := HL.out.1; simpa using this, gr_trans HGr.out HL.out.2⟩, fun h => by cases h⟩
        | exact ⟨bad, rfl, ⟨by have := HL.out.1; simpa using this, gr_trans HGr.out HL.out.2⟩, fun h => ⟨h, by omega, by omega, by omega⟩⟩

/-- what str leaves -/
def Str (L : Nat) (p b : Int) (bad : Bool) (s : ByteArray) (w : World) (e : Ending) (w' : World) : Prop :=
  e = .returned (.tuple #[]) ∧ ∃ bad' : Bool, Looked L p (wrap64 (b + s.size)) bad' w w' ∧ (bad' = false → bad = false ∧ wrap64 (b + s.size) ≤ 2000 ∧ Lib.validD s.data.toList = true)

set_option maxHeartbeats 1000000 in
theorem str_any {L : Nat} {p b : Int} {bad : Bool} (s : ByteArray) (hs : s.size ≤ 4611686018427387904) {w0 w : World} (hT : Tabs w0) (hw : Below w0.heap.size w0 w) (hL : w0.heap.size ≤ L) (h : LK L p b bad w) :
    Calls Tryz.prog 90 #[.pointer (some ⟨L, 0, none⟩), .string s] w (Str L p b bad s w) := by
  have c := h.cells
  have H := Lib.hid h
  have HT := Lib.hid hT
  have HW := Lib.hid hw
  clear h hT hw
  obtain ⟨vd, hv⟩ : ∃ v, Hid (Lib.validD s.data.toList = v) := ⟨_, Lib.hid rfl⟩
  have hvc : ∀ W : World, Tabs W → Calls Tryz.prog 18 #[.string s] W fun e w' => e = .returned (.bool vd) ∧ Below W.heap.size W w' := fun W hW => by
    have := Tryz.utf8_ValidString s W (by omega) hW
    rwa [hv.out] at this
  have HVC := Lib.hid hvc
  clear hvc
  cases vd
  all_goals
    go_enter Tryz.func90, Tryz.ntmps90
    go_upto_region 1 with fail
    generalize hW : World.setCell w _ _ = W
    have HQ := Lib.hid (hW ▸ H.out.set1 _ : LK L p (wrap64 (b + s.size)) bad W)
    have HGr := Lib.hid (hW ▸ gr_set w L 1 _ : w.grownBy W (some L))
    have HW2 := Lib.hid (hW ▸ HW.out.setCell hL _ : Below w0.heap.size w0 W)
    clear hW c
    have cq := HQ.out.cells
    obtain ⟨sb, hsb⟩ : ∃ q, Hid (wrap64 (b + s.size) = q) := ⟨_, Lib.hid rfl⟩
    rw [hsb.out] at HQ cq ⊢
    go_wp2_with fail
  · refine (HVC.out _ (HT.out.below HW2.out)).mono ?_
    rintro e w2 ⟨rfl, hb2⟩
    have HB2 := Lib.hid hb2
    go_wp2_with fail
    refine (want_any _ (keep hb2 HQ.out : LK L p sb bad w2)).mono ?_
    rintro e w3 ⟨rfl, hl⟩
    have HL := Lib.hid hl
    clear hl hb2
    go_wp2_with fail
    go_returns
    exact ⟨rfl, true, ⟨by have := HL.out.1; simpa [hsb.out] using this, gr_trans HGr.out (gr_trans (gr_below HB2.out) HL.out.2)⟩, fun h => by cases h⟩
  · refine (want_any _ HQ.out).mono ?_
    rintro e w3 ⟨rfl, hl⟩
    have HL := Lib.hid hl
    clear hl
    go_wp2_with fail
    go_returns
    exact ⟨rfl, true, ⟨by have := HL.out.1; simpa [hsb.out] using this, gr_trans HGr.out HL.out.2⟩, fun h => by cases h⟩
  · refine (HVC.out _ (HT.out.below HW2.out)).mono ?_
    rintro e w2 ⟨rfl, hb2⟩
    have HB2 := Lib.hid hb2
    go_wp2_with fail
    refine (want_any _ (keep hb2 HQ.out : LK L p sb bad w2)).mono ?_
    rintro e w3 ⟨rfl, hl⟩
    have HL := Lib.hid hl
    clear hl hb2
    go_wp2_with fail
    go_returns
    exact ⟨rfl, bad, ⟨by have := HL.out.1; simpa [hsb.out] using this, gr_trans HGr.out (gr_trans (gr_below HB2.out) HL.out.2)⟩, fun h => ⟨h, by rw [hsb.out]; omega, hv.out⟩⟩
  · refine (want_any _ HQ.out).mono ?_
    rintro e w3 ⟨rfl, hl⟩
    have HL := Lib.hid hl
    clear hl
    go_wp2_with fail
    go_returns
    exact ⟨rfl, true, ⟨by have := HL.out.1; simpa [hsb.out] using this, gr_trans HGr.out HL.out.2⟩, fun h => by cases h⟩

end Go.Proofs.YtgjmgneppecfgaaGreatDoor.Va
namespace Go.Proofs.YtgjmgneppecfgaaGreatDoor.Mb
open Go.RowKit Go.Proofs.YtgjmgneppecfgaaGreatDoor.Va Go.Proofs.YtgjmgneppecfgaaGreatDoor.Ba Go.Proofs.YtgjmgneppecfgaaGreatDoor.Ma
set_option linter.unusedVariables false
set_option linter.unusedSimpArgs false

theorem zc_size : Tryz.zeroCells118.size = 65 := by kernel_rfl
end Go.Proofs.YtgjmgneppecfgaaGreatDoor.Mb
namespace Go.Proofs.YtgjmgneppecfgaaGreatDoor.Fo
open Go.RowKit Go.Proofs.YtgjmgneppecfgaaGreatDoor.Va Go.Proofs.YtgjmgneppecfgaaGreatDoor.Ba Go.Proofs.YtgjmgneppecfgaaGreatDoor.Ma
set_option linter.unusedVariables false
set_option linter.unusedSimpArgs false

theorem encode_small (c : Nat) (h : c < 128) : Utf8.encode (c : Int) = numS [c] := by
  have hv : Utf8.valid (c : Int) = true := by unfold Utf8.valid; simp; omega
  unfold Utf8.encode
  simp only [hv, if_true, Int.toNat_natCast, h]
  rfl
theorem digs_step {m : Nat} (h : 10 ≤ m) : digs m = digs (m / 10) ++ [48 + m % 10] := by
  conv => lhs; unfold digs
  rw [digs0_pos (by omega)]
theorem digs_last {m : Nat} (h : m < 10) : digs m = [48 + m] := by
  unfold digs
  rw [show m / 10 = 0 by omega, digs0_zero, Nat.mod_eq_of_lt h]
  rfl
theorem numS_cons (c : Nat) (l : List Nat) : numS [c] ++ numS l = numS (c :: l) := by
  unfold numS strOfNums
  rfl
def RetS (s : ByteArray) (w : World) (e : Ending) (w' : World) : Prop := e = .returned (.string s) ∧ w = w'
def LoopD (n : Nat) (mv sv : Value) : Prop := ∃ (m : Nat) (l : List Nat), mv = .int .i64 (m : Int) ∧ sv = .string (numS l) ∧ m ≤ n ∧ digs n = digs m ++ l ∧ l.length ≤ 40
set_option maxHeartbeats 2000000 in
theorem digits_any (n : Nat) (hn : n ≤ 9007199254740992) (w : World) : Calls Tryz.prog 170 #[.int .i64 (n : Int)] w (RetS (numS (digs n)) w) := by
  have hln := digs_len (n := n) (by omega)
  have HLN := Lib.hid hln
  clear hln
  go_enter Tryz.func170, Tryz.ntmps170
  go_wp2_with fail
  go_loop [0, 3] (LoopD n) (fun mv _ => (intOf mv).toNat)
  case atStart => exact ⟨n, [], rfl, rfl, Nat.le_refl _, by simp, by simp⟩
  case round =>
    obtain ⟨m, l, rfl, rfl, hm, hd, hll⟩ := hrel
    have HD := Lib.hid hd
    have hl20 : l.length ≤ 20 := by
      have := HLN.out
      rw [hd, List.length_append] at this
      omega
    clear hd
    by_cases h10 : 10 ≤ m
    · have h10' : (10 : Int) ≤ (m : Int) := by omega
      have henc : Utf8.encode (48 + (m : Int) % 10) = numS [48 + m % 10] := by
        rw [← encode_small _ (by omega)]
        congr 1
      have hsz : (numS [48 + m % 10]).size + (numS l).size ≤ 140737488355328 := by rw [numS_size, numS_size]; simp; omega
      go_wp2_with fail
      go_round
      case rel => exact ⟨m / 10, (48 + m % 10) :: l, by push_cast; rfl, by rw [numS_cons], by omega, by rw [HD.out, digs_step h10, List.append_assoc]; rfl, by rw [List.length_cons]; omega⟩
      case measure => simp [intOf]; omega
    · have h10' : ¬ (10 : Int) ≤ (m : Int) := by omega
      have henc : Utf8.encode (48 + (m : Int)) = numS [48 + m] := by
        rw [← encode_small _ (by omega)]
        congr 1
      have hsz : (numS [48 + m]).size + (numS l).size ≤ 140737488355328 := by rw [numS_size, numS_size]; simp; omega
      go_wp2_with fail
      go_returns
      exact ⟨by rw [numS_cons, HD.out, digs_last (by omega)]; rfl, rfl⟩
end Go.Proofs.YtgjmgneppecfgaaGreatDoor.Fo
