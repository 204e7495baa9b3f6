/-
  FlattenBy, as a law sees it; the small depths as floats.
-/
import Derived.Test.YtnlndpgbhmkanaaGreatDoorFlA
import Derived.Test.YtnlndpgbhmkanaaGreatDoorFtA
namespace Go.Proofs.YtnlndpgbhmkanaaGreatDoor.Va
open Go.RowKit
set_option linter.unusedVariables false
set_option linter.unusedSimpArgs false

/-- a value, read in memory, whatever block it lies in -/
def KV (w : World) (x : V) (v : Value) : Prop := RV w (fun b => b < w.heap.size) x v
theorem KV.keep {w w' : World} {x : V} {v : Value} (h : KV w x v) (hb : Below w.heap.size w w') : KV w' x v :=
  RV.mono (Same.of_below hb fun b h => h) (fun b h => Nat.lt_of_lt_of_le h hb.size) _ _ h
theorem KV.of {w : World} {S : Nat → Prop} {x : V} {v : Value} (h : RV w S x v) : KV w x v := RV.mono (fun _ _ => rfl) (fun b h => h.2) _ _ (RV.lt _ _ h)

/-- an answer that is a list -/
def ResL (l : List V) (w : World) (e : Ending) (w' : World) : Prop :=
  ∃ (la ka va : Option Addr) (n lc kc vc : Nat), e = .returned (.agg #[.int .i64 5, .int .i64 0, .string ⟨#[]⟩, .slice la n lc, .slice ka 0 kc, .slice va 0 vc, .int .i64 0]) ∧ l.length = n ∧
    KV w' (mkL l) (.agg #[.int .i64 5, .int .i64 0, .string ⟨#[]⟩, .slice la n lc, .slice ka 0 kc, .slice va 0 vc]) ∧ Below w.heap.size w w'
theorem ResL.of {l : List V} {w : World} {e : Ending} {w' : World} (h : Result (mkL l) w e w') : ResL l w e w' := by
  obtain ⟨c0, c1, c2, c3, c4, c5, rfl, hv, hb⟩ := h
  have hv' := hv
  rw [mkL, RV] at hv
  obtain ⟨la, lc, ka, kc, va, vc, e, _, _, _⟩ := hv
  simp only [Value.agg.injEq, Array.mk.injEq, List.cons.injEq, and_true, List.length_nil] at e
  obtain ⟨rfl, rfl, rfl, rfl, rfl, rfl⟩ := e
  exact ⟨la, ka, va, _, lc, kc, vc, rfl, rfl, KV.of hv', hb⟩

set_option maxRecDepth 100000 in
theorem dep_table : ((List.range 420).all fun i => Op.floatEq .f64 (fi ((i : Int) - 402)) 0 == decide ((i : Int) - 402 = 0) && Ieee.double.sub (fi ((i : Int) - 402)) one == some (fi ((i : Int) - 402 - 1))) = true := by kernel_rfl
theorem dep_at (d : Int) (h1 : -402 ≤ d) (h2 : d ≤ 17) : Op.floatEq .f64 (fi d) 0 = decide (d = 0) ∧ Ieee.double.sub (fi d) one = some (fi (d - 1)) := by
  have := List.all_eq_true.1 dep_table (d + 402).toNat (List.mem_range.2 (by omega))
  have e : (((d + 402).toNat : Nat) : Int) - 402 = d := by omega
  rw [e] at this
  simpa using this
theorem dep_small : ∀ (n : Nat) (d : Int), -402 + (n : Int) ≤ d → d ≤ 17 → Dep n (fi d) d
  | 0, d, h1, h2 => (dep_at d (by omega) h2).1
  | n + 1, d, h1, h2 => ⟨(dep_at d (by omega) h2).1, _, (dep_at d (by omega) h2).2, dep_small n (d - 1) (by omega) (by omega)⟩

/-- what a law leaves -/
def TrueEnd (w : World) (e : Ending) (w' : World) : Prop := e = .returned (.bool true) ∧ Below w.heap.size w w'
theorem wf_mkL {l : List V} (h : WfL l) (hq : l.length ≤ Q) : Wf (mkL l) := by
  rw [mkL, Wf]
  exact ⟨Nat.zero_le _, hq, Nat.zero_le _, Nat.zero_le _, (fun _ h => by cases h), h, by rw [WfL]; trivial⟩
theorem kv_mkL {w : World} {S : Nat → Prop} {l : List V} {a : Option Addr} (h : RL w S l a) (n c : Nat) (hn : l.length = n) : KV w (mkL l) (.agg #[.int .i64 5, .int .i64 0, .string ⟨#[]⟩, .slice a n c, .slice none 0 0, .slice none 0 0]) := by
  refine KV.of (S := S) ?_
  subst hn
  rw [mkL, RV]
  exact ⟨a, c, none, 0, none, 0, rfl, h, trivial, by rw [RL]; trivial⟩
/-- one value in a row of its own -/
theorem rl_one {w : World} {b : Nat} {x : V} {c0 c1 c2 c3 c4 c5 : Value} {t : TypeId} (h : w.heap[b]? = some (.cells #[c0, c1, c2, c3, c4, c5] t (0, 0))) (hv : KV w x (.agg #[c0, c1, c2, c3, c4, c5])) : RL w (fun b => b < w.heap.size) [x] (some ⟨b, 0, none⟩) := by
  rw [RL]
  refine ⟨b, 0, c0, c1, c2, c3, c4, c5, rfl, heap_lt h, ⟨cell_of h 0 rfl, cell_of h 1 rfl, cell_of h 2 rfl, cell_of h 3 rfl, cell_of h 4 rfl, cell_of h 5 rfl⟩, hv, by rw [RL]; trivial⟩
theorem flattenBy_L (l : List V) (hg : GoodL l) (hsz : sizeL l ≤ 399) (d : Int) (h1 : -1 ≤ d) (h2 : d ≤ 17) (w : World) (v : Value) (hv : KV w (mkL l) v) : Calls Tryz.prog 12 #[v, .int .i64 d] w (ResL (flatL l d) w) :=
  (flattenBy_any l hg hsz d (dep_small 400 d (by omega) h2) _ w v hv (fun _ h => h)).mono fun _ _ h => ResL.of h
theorem cw_mkL {l : List V} (hg : GoodL l) (hsz : sizeL l ≤ 399) : CW (mkL l) := cmp_good 400 _ (by rw [size_mkL]; omega) (by omega) (good_mkL hg)

theorem KV.list {w : World} {l : List V} {la ka va : Option Addr} {n lc kc vc : Nat} (h : KV w (mkL l) (.agg #[.int .i64 5, .int .i64 0, .string ⟨#[]⟩, .slice la n lc, .slice ka 0 kc, .slice va 0 vc])) : RL w (fun b => b < w.heap.size) l la := by
  unfold KV at h
  rw [mkL, RV] at h
  obtain ⟨la', lc', ka', kc', va', vc', e, hl, _, _⟩ := h
  simp only [Value.agg.injEq, Array.mk.injEq, List.cons.injEq, Value.slice.injEq, and_true, true_and] at e
  rw [e.1.1]
  exact hl

end Go.Proofs.YtnlndpgbhmkanaaGreatDoor.Va
