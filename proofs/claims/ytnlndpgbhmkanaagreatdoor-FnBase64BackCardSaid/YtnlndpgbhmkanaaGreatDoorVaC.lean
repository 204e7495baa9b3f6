/-
  THE WALK of listToGo: given that toGo serves each element, the list's value.
-/
import Derived.Test.YtnlndpgbhmkanaaGreatDoorVaB
import Derived.Laws.MakeOwn
namespace Go.Proofs.YtnlndpgbhmkanaaGreatDoor.Va
open Go.RowKit
set_option linter.unusedVariables false
set_option linter.unusedSimpArgs false

/-- toGo serves x -/
def TG (x : V) : Prop := ∀ (v : Value) (S : Nat → Prop) (w : World), RV w S x v → (∀ b, S b → b < w.heap.size) → Calls Tryz.prog 43 #[v] w (ToGo x w)

theorem block_new (w : World) (cs : Array Value) (t : TypeId) : (w.alloc (.cells cs t)).heap[w.heap.size]? = some (.cells cs t (0, 0)) := heap_alloc_new w _
theorem block_past {w : World} {b : Nat} {o : Obj} (h : w.heap[b]? = some o) (o' : Obj) : (w.alloc o').heap[b]? = some o := by
  rw [Below.heap_alloc w o' b (heap_lt h), h]
/-- a contract's world holds the blocks that were there -/
theorem keep {w w' : World} (h : Below w.heap.size w w') {b : Nat} {o : Obj} (k : w.heap[b]? = some o) : w'.heap[b]? = some o := (h.block b (heap_lt k)).trans k
theorem cell_of {w : World} {b : Nat} {cs : Array Value} {t : TypeId} {fz : Nat × Nat} (h : w.heap[b]? = some (.cells cs t fz)) (j : Nat) {v : Value} (hj : cs[j]? = some v) : w.cell? ⟨b, j, none⟩ = some v := by
  simp [World.cell?, h, hj]
theorem free_of {w : World} {b : Nat} {cs : Array Value} {t : TypeId} (h : w.heap[b]? = some (.cells cs t (0, 0))) (j : Nat) : w.frozen? ⟨b, j, none⟩ = false := by
  simp [World.frozen?, h]
theorem below_alloc (w : World) (o : Obj) : Below w.heap.size w (w.alloc o) := (Below.refl _ _).alloc (Nat.le_refl _) o
/-- a block behind a store into it -/
theorem set_block {w : World} {b : Nat} {cs : Array Value} {t : TypeId} {fz : Nat × Nat} (h : w.heap[b]? = some (.cells cs t fz)) (j : Nat) (v : Value) : (w.setCell ⟨b, j, none⟩ v).heap[b]? = some (.cells (cs.setIfInBounds j v) t fz) := by
  simp [World.setCell, Array.getElem?_modify, h]
theorem set_other {w : World} {b b' : Nat} (j : Nat) (v : Value) (h : b' ≠ b) : (w.setCell ⟨b, j, none⟩ v).heap[b']? = w.heap[b']? := Below.heap_setCell w _ v b' h

/-- the block in which the list is made: the first k elements are there -/
def Made (l : List V) (g k : Nat) (wr : World) : Prop :=
  ∃ cur : Array Value, wr.heap[g]? = some (.cells cur 20 (0, 0)) ∧ cur.size = l.length ∧ ∀ i (hi : i < l.length), i < k → ∃ e, cur[i]? = some e ∧ GV wr (fun r => g < r) l[i] e
theorem Made.keep {l : List V} {g k : Nat} {w w' : World} (h : Made l g k w) (hb : Below w.heap.size w w') : Made l g k w' := by
  obtain ⟨cur, h1, h2, h3⟩ := h
  refine ⟨cur, Va.keep hb h1, h2, fun i hi hk => ?_⟩
  obtain ⟨e, he, hg⟩ := h3 i hi hk
  exact ⟨e, he, GV.mono (S := fun r => g < r ∧ r < w.heap.size) (Same.of_below hb fun b h => h.2) (fun b h => h.1) _ _ (GV.lt _ _ hg)⟩
theorem Made.store {l : List V} {g k : Nat} {w : World} (h : Made l g k w) (hk : k < l.length) {e : Value} (hg : GV w (fun r => g < r) l[k] e) : Made l g (k + 1) (w.setCell ⟨g, k, none⟩ e) := by
  obtain ⟨cur, h1, h2, h3⟩ := h
  have hs : Same (fun r => g < r) w (w.setCell ⟨g, k, none⟩ e) := fun b hb => set_other k e (by omega)
  refine ⟨cur.setIfInBounds k e, set_block h1 k e, by simpa using h2, fun i hi hlt => ?_⟩
  by_cases c : i = k
  · subst c
    exact ⟨e, by rw [Array.getElem?_setIfInBounds_self_of_lt (by omega)], GV.mono hs (fun _ h => h) _ _ hg⟩
  · obtain ⟨d, hd, hx⟩ := h3 i hi (by omega)
    exact ⟨d, by rw [Array.getElem?_setIfInBounds_ne (by omega)]; exact hd, GV.mono hs (fun _ h => h) _ _ hx⟩
theorem Made.done {l : List V} {g : Nat} {w : World} (h : Made l g l.length w) : GL w (fun r => g ≤ r) l (some ⟨g, 0, none⟩) := by
  obtain ⟨cur, h1, h2, h3⟩ := h
  refine GL.of l g 0 (fun _ => Nat.le_refl _) fun i hi => ?_
  obtain ⟨e, he, hx⟩ := h3 i hi hi
  exact ⟨e, cell_of h1 _ (by simpa using he), GV.mono (fun _ _ => rfl) (fun b hb => Nat.le_of_lt hb) _ _ hx⟩

theorem infoAny : (Tryz.prog.info? 20).map (fun i => (i.zero, i.size, i.bytes)) = some (some .nilIface, 1, 16) := by kernel_rfl

/-- a value's cells -/
theorem RV.parts {w : World} {S : Nat → Prop} {x : V} {v : Value} (h : RV w S x v) : ∃ (la : Option Addr) (lc : Nat) (ka : Option Addr) (kc : Nat) (va : Option Addr) (vc : Nat) (t0 n0 : Int) (tx : ByteArray) (n1 n2 n3 : Nat), v = .agg #[.int .i64 t0, .int .i64 n0, .string tx, .slice la n1 lc, .slice ka n2 kc, .slice va n3 vc] ∧ Hid (RV w S x (.agg #[.int .i64 t0, .int .i64 n0, .string tx, .slice la n1 lc, .slice ka n2 kc, .slice va n3 vc])) := by
  cases x with
  | mk k hh t ls ks vs =>
    have h' := h
    rw [RV] at h
    obtain ⟨la, lc, ka, kc, va, vc, e, _⟩ := h
    exact ⟨la, lc, ka, kc, va, vc, k, hh, t, _, _, _, e, Lib.hid (e ▸ h')⟩

/-- what listToGo returns -/
def ListToGo (l : List V) (w : World) (e : Ending) (w' : World) : Prop :=
  ∃ g, e = .returned (.tuple #[.slice (some ⟨g, 0, none⟩) l.length l.length, .bool true]) ∧ w.heap.size ≤ g ∧ GL w' (fun r => w.heap.size ≤ r) l (some ⟨g, 0, none⟩) ∧ Below w.heap.size w w'

def LoopL (l : List V) (w : World) (g : Nat) (i : Value) (wr : World) : Prop :=
  ∃ k : Nat, i = .int .i64 k ∧ k ≤ l.length ∧ Made l g k wr ∧ Below w.heap.size w wr

theorem Made.lt {l : List V} {g k : Nat} {w : World} (h : Made l g k w) : g < w.heap.size := by
  obtain ⟨cur, h1, _⟩ := h
  exact heap_lt h1
theorem Made.cell {l : List V} {g k : Nat} {w : World} (h : Made l g k w) {j : Nat} (hj : j < l.length) : ∃ v, w.cell? ⟨g, j, none⟩ = some v ∧ w.frozen? ⟨g, j, none⟩ = false := by
  obtain ⟨cur, h1, h2, _⟩ := h
  exact ⟨cur[j]'(by omega), cell_of h1 j (by rw [Array.getElem?_eq_getElem]), free_of h1 j⟩
theorem loopL_next {l : List V} {k : Nat} (hk : k < l.length) {w w2 : World} (hm : Made l w.heap.size k w2) {g : Value} (hg : GV w2 (fun r => w.heap.size < r) l[k] g) (hb : Below w.heap.size w w2) : LoopL l w w.heap.size (.int .i64 ((k : Int) + 1)) (w2.setCell ⟨w.heap.size, k, none⟩ g) :=
  ⟨k + 1, rfl, hk, hm.store hk hg, hb.setCell (Nat.le_refl _) _⟩
theorem gnum_flat (h : Int) : ∃ t v, gnum h = .iface t v := by
  unfold gnum; split
  · exact ⟨_, _, rfl⟩
  · exact ⟨_, _, rfl⟩
theorem GV.flat {w : World} {S : Nat → Prop} {x : V} {g : Value} (h : GV w S x g) : g = .nilIface ∨ ∃ t v, g = .iface t v := by
  cases x with
  | mk k hh t ls ks vs =>
    rw [GV] at h
    rcases h with q | q | q | q | q | ⟨q, a, c, e, hl⟩ | ⟨q, r, es, cl, e, hr, hb, hst, hm⟩
    · exact .inl q.2
    · exact .inr ⟨_, _, q.2⟩
    · exact .inr ⟨_, _, q.2⟩
    · obtain ⟨t, v, e⟩ := gnum_flat hh
      exact .inr ⟨t, v, q.2.trans e⟩
    · exact .inr ⟨_, _, q.2⟩
    · exact .inr ⟨_, _, e⟩
    · exact .inr ⟨_, _, e⟩
theorem loopL_start (l : List V) (w : World) : LoopL l w w.heap.size (.int .i64 0) (w.alloc (.cells (madeCells #[.nilIface] l.length) 20)) :=
  ⟨0, rfl, Nat.zero_le _, ⟨_, block_new w _ _, size_madeCells _ _, fun i _ h => absurd h (by omega)⟩, below_alloc w _⟩

set_option maxHeartbeats 2000000 in
set_option maxRecDepth 100000 in
theorem listToGo_any (l : List V) (H : ∀ x ∈ l, TG x) (a : Option Addr) (c : Nat) (S : Nat → Prop) (w : World) (hl : RL w S l a) (hS : ∀ b, S b → b < w.heap.size) (hn : l.length ≤ 2147483647) :
    Calls Tryz.prog 38 #[.slice a l.length c] w (ListToGo l w) := by
  obtain ⟨i0, hi, hz0, hz1, hz2⟩ := info_parts infoAny
  have hmk : ∀ w : World, (Instr.makeSlice 60 (.int .i64 (l.length : Int)) (.int .i64 (l.length : Int))).run Tryz.prog w = .ok (.slice (some ⟨w.heap.size, 0, none⟩) l.length l.length) (w.alloc (.cells (madeCells #[.nilIface] l.length) 20)) := by
    intro w
    have := run_make (P := Tryz.prog) w 60 20 i0 .nilIface Tryz.underlying60 hi hz0 .i64 .i64 l.length l.length (by omega) (by omega) (by rw [hz2]; omega) (by omega)
    rw [hz1] at this
    simpa [Value.cells] using this
  clear hi hz0 hz1 hz2
  go_enter Tryz.func38, Tryz.ntmps38
  go_wp2_with fail
  go_loopw [14] (LoopL l w w.heap.size) (fun i _ => l.length - (intOf i).toNat)
  case atStart => exact loopL_start l w
  case round =>
    obtain ⟨k, rfl, hk, hm, hb⟩ := hrel
    by_cases hlt : k < l.length
    · obtain ⟨b, o, rfl⟩ := hl.addr (by omega)
      obtain ⟨hSb, c0, c1, c2, c3, c4, c5, h6, hx⟩ := RL.at l b o hl k hlt
      have hsame := Same.of_below hb hS
      have h6' := Six.mono hsame hSb h6
      have hx' := RV.mono hsame (fun _ h => h) _ _ hx
      have HM := Lib.hid hm
      have HB := Lib.hid hb
      obtain ⟨la, lc, ka, kc, va, vc, t0, n0, tx, ls, ks, vs, e, HX⟩ := RV.parts hx'
      simp only [Value.agg.injEq, Array.mk.injEq, List.cons.injEq, and_true] at e
      obtain ⟨rfl, rfl, rfl, rfl, rfl, rfl⟩ := e
      have HH := Lib.hid H
      have HS := Lib.hid hS
      clear hm hb hx hx' h6 hsame H hl hS
      unfold Six at h6'
      go_wp2_with fail
      generalize hW : World.alloc wr _ = W
      have b1 : Below wr.heap.size wr W := hW ▸ below_alloc wr _
      clear hW h6'
      have hg0 : w.heap.size < wr.heap.size := HM.out.lt
      refine (HH.out _ (List.getElem_mem hlt) _ S W (RV.mono (Same.of_below b1 fun b h => Nat.lt_of_lt_of_le (HS.out b h) HB.out.size) (fun _ h => h) _ _ HX.out) (fun b h => Nat.lt_of_lt_of_le (Nat.lt_of_lt_of_le (HS.out b h) HB.out.size) b1.size)).mono ?_
      rintro e w2 ⟨g, rfl, hg, hb2⟩
      have hs1 := b1.size
      have HG := Lib.hid (GV.mono (T := fun r => w.heap.size < r) (fun _ _ => rfl) (fun b (h : W.heap.size ≤ b) => by show w.heap.size < b; omega) _ _ hg)
      have HM2 := Lib.hid ((HM.out.keep b1).keep hb2)
      have HB2 := Lib.hid ((HB.out.trans (b1.mono HB.out.size)).trans (hb2.mono (Nat.le_trans HB.out.size hs1)))
      clear hg hb2 hs1 b1 HX
      obtain ⟨old, hc1, hc2⟩ := HM2.out.cell hlt
      rcases HG.out.flat with rfl | ⟨gt, gv, rfl⟩
      all_goals
        go_wp2_with fail
        go_roundw
        case rel => exact loopL_next hlt HM2.out HG.out HB2.out
        case measure => simp [intOf]; omega
    · obtain rfl : k = l.length := by omega
      have HM := Lib.hid hm
      have HB := Lib.hid hb
      clear hm hb H
      go_wp2_with fail
      go_returns
      exact ⟨_, rfl, Nat.le_refl _, HM.out.done, HB.out⟩

end Go.Proofs.YtnlndpgbhmkanaaGreatDoor.Va
