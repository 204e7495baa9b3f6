/-
  THE COLUMNS, in memory, being filled.
-/
import Derived.Test.YtnlndpgbhmkanaaDoorTrA
namespace Go.Proofs.YtnlndpgbhmkanaaDoor.Va
open Go.RowKit
set_option linter.unusedVariables false
set_option linter.unusedSimpArgs false

theorem infoAnys : (Tryd.prog.info? 48).map (fun i => (i.zero, i.size, i.bytes)) = some (some (.slice none 0 0), 1, 24) := by kernel_rfl

/-- the columns: J of L are laid, each of k cells, which hold M -/
structure Mat (S : Nat → Prop) (gw L J k : Nat) (M : Nat → Nat → V) (wr : World) : Prop where
  rows : ∃ cw : Array Value, wr.heap[gw]? = some (.cells cw 48 (0, 0)) ∧ cw.size = L ∧ ∀ j, j < J → cw[j]? = some (.slice (some ⟨gw + 2 + j, 0, none⟩) k k)
  outs : ∃ cx : Array Value, wr.heap[gw + 1]? = some (.cells cx 20 (0, 0)) ∧ cx.size = L ∧ ∀ j, j < J → cx[j]? = some (.iface 48 (.slice (some ⟨gw + 2 + j, 0, none⟩) k k))
  cols : ∀ j, j < J → ∃ cs : Array Value, wr.heap[gw + 2 + j]? = some (.cells cs 20 (0, 0)) ∧ cs.size = k ∧ ∀ i, i < k → ∃ e, cs[i]? = some e ∧ GV wr S (M j i) e

theorem gv_null (w : World) (S : Nat → Prop) : GV w S nullV .nilIface := by rw [nullV, GV]; exact .inl ⟨rfl, rfl⟩

/-- one column more is laid -/
theorem Mat.next {S : Nat → Prop} {gw L J k : Nat} {wr : World} (hS : ∀ b, S b → b < gw) (h : Mat S gw L J k (fun _ _ => nullV) wr) (hsz : wr.heap.size = gw + 2 + J) (hJ : J < L) :
    Mat S gw L (J + 1) k (fun _ _ => nullV) (((wr.alloc (.cells (madeCells #[.nilIface] k) 20)).setCell ⟨gw, J, none⟩ (.slice (some ⟨wr.heap.size, 0, none⟩) k k)).setCell ⟨gw + 1, J, none⟩ (.iface 48 (.slice (some ⟨wr.heap.size, 0, none⟩) k k))) := by
  obtain ⟨⟨cw, w1, w2, w3⟩, ⟨cx, x1, x2, x3⟩, h3⟩ := h
  refine ⟨⟨cw.setIfInBounds J (.slice (some ⟨wr.heap.size, 0, none⟩) k k), ?_, by simpa using w2, fun j hj => ?_⟩, ⟨cx.setIfInBounds J (.iface 48 (.slice (some ⟨wr.heap.size, 0, none⟩) k k)), ?_, by simpa using x2, fun j hj => ?_⟩, fun j hj => ?_⟩
  · rw [set_other _ _ (by omega)]
    exact set_block (block_past w1 _) J _
  · by_cases c : j = J
    · subst c; rw [Array.getElem?_setIfInBounds_self_of_lt (by omega), hsz]
    · rw [Array.getElem?_setIfInBounds_ne (by omega)]; exact w3 j (by omega)
  · refine set_block ?_ J _
    rw [set_other _ _ (by omega)]
    exact block_past x1 _
  · by_cases c : j = J
    · subst c; rw [Array.getElem?_setIfInBounds_self_of_lt (by omega), hsz]
    · rw [Array.getElem?_setIfInBounds_ne (by omega)]; exact x3 j (by omega)
  · by_cases c : j = J
    · subst c
      refine ⟨madeCells #[.nilIface] k, ?_, size_madeCells _ _, fun i hi => ⟨.nilIface, ?_, gv_null _ _⟩⟩
      · rw [set_other _ _ (by omega), set_other _ _ (by omega), ← hsz]
        exact block_new wr _ _
      · simp [madeCells, hi, Nat.mod_one]
    · obtain ⟨cs, c1, c2, c3⟩ := h3 j (by omega)
      refine ⟨cs, ?_, c2, fun i hi => ?_⟩
      · rw [set_other _ _ (by omega), set_other _ _ (by omega)]
        exact block_past c1 _
      · obtain ⟨e, he, hg⟩ := c3 i hi
        refine ⟨e, he, GV.mono (fun b hb => ?_) (fun _ h => h) _ _ hg⟩
        have := hS b hb
        rw [set_other _ _ (by omega), set_other _ _ (by omega)]
        exact Below.heap_alloc wr _ b (by omega)
/-- one cell is filled -/
theorem Mat.put {S : Nat → Prop} {gw L k : Nat} {M : Nat → Nat → V} {wr : World} (hS : ∀ b, S b → b < gw) (h : Mat S gw L L k M wr) {j i : Nat} (hj : j < L) (hi : i < k) {x : V} {e : Value} (hg : GV wr S x e) {M' : Nat → Nat → V} (hM : M' j i = x) (hM' : ∀ a b, a < L → b < k → ¬ (a = j ∧ b = i) → M' a b = M a b) :
    Mat S gw L L k M' (wr.setCell ⟨gw + 2 + j, i, none⟩ e) := by
  obtain ⟨⟨cw, w1, w2, w3⟩, ⟨cx, x1, x2, x3⟩, h3⟩ := h
  have hs : Same S wr (wr.setCell ⟨gw + 2 + j, i, none⟩ e) := fun b hb => set_other _ e (by have := hS b hb; omega)
  refine ⟨⟨cw, by rw [set_other _ _ (by omega)]; exact w1, w2, w3⟩, ⟨cx, by rw [set_other _ _ (by omega)]; exact x1, x2, x3⟩, fun a ha => ?_⟩
  obtain ⟨cs, c1, c2, c3⟩ := h3 a ha
  by_cases c : a = j
  · subst c
    refine ⟨cs.setIfInBounds i e, set_block c1 i e, by simpa using c2, fun b hb => ?_⟩
    by_cases q : b = i
    · subst q
      refine ⟨e, by rw [Array.getElem?_setIfInBounds_self_of_lt (by omega)], ?_⟩
      rw [hM]
      exact GV.mono hs (fun _ h => h) _ _ hg
    · obtain ⟨d, hd, hx⟩ := c3 b hb
      refine ⟨d, by rw [Array.getElem?_setIfInBounds_ne (by omega)]; exact hd, ?_⟩
      rw [hM' _ _ ha hb (by omega)]
      exact GV.mono hs (fun _ h => h) _ _ hx
  · refine ⟨cs, by rw [set_other _ _ (by omega)]; exact c1, c2, fun b hb => ?_⟩
    obtain ⟨d, hd, hx⟩ := c3 b hb
    refine ⟨d, hd, ?_⟩
    rw [hM' _ _ ha hb (by omega)]
    exact GV.mono hs (fun _ h => h) _ _ hx
theorem Mat.congr {S : Nat → Prop} {gw L J k : Nat} {M M' : Nat → Nat → V} {wr : World} (h : Mat S gw L J k M wr) (hM : ∀ a b, a < J → b < k → M' a b = M a b) : Mat S gw L J k M' wr :=
  ⟨h.rows, h.outs, fun j hj => by
    obtain ⟨cs, c1, c2, c3⟩ := h.cols j hj
    exact ⟨cs, c1, c2, fun i hi => by rw [hM j i hj hi]; exact c3 i hi⟩⟩
/-- the columns, read -/
theorem Mat.done {S : Nat → Prop} {gw L k : Nat} {M : Nat → Nat → V} {wr : World} (hS : ∀ b, S b → b < gw) (h : Mat S gw L L k M wr) (l : List V) (hl : l.length = L) (hc : ∀ j (hj : j < l.length), ∃ c : List V, l[j] = mkL c ∧ c.length = k ∧ ∀ i (hi : i < c.length), c[i] = M j i) :
    GL wr (fun b => b < wr.heap.size) l (some ⟨gw + 1, 0, none⟩) := by
  obtain ⟨_, ⟨cx, x1, x2, x3⟩, h3⟩ := h
  have hlt := heap_lt x1
  refine GL.of l _ 0 (fun _ => hlt) fun j hj => ?_
  obtain ⟨c, e, hk, hi⟩ := hc j hj
  refine ⟨_, cell_of x1 _ (by rw [Nat.zero_add]; exact x3 j (by omega)), ?_⟩
  rw [e, mkL, GV]
  obtain ⟨cs, c1, c2, c3⟩ := h3 j (by omega)
  have hlt2 := heap_lt c1
  refine .inr (.inr (.inr (.inr (.inr (.inl ⟨rfl, _, _, by rw [hk], GL.of c _ 0 (fun _ => hlt2) fun i hii => ?_⟩)))))
  obtain ⟨d, hd, hg⟩ := c3 i (by omega)
  refine ⟨d, cell_of c1 _ (by rw [Nat.zero_add]; exact hd), ?_⟩
  rw [hi i hii]
  exact GV.mono (fun _ _ => rfl) (fun b hb => by have := hS b hb; show b < _; omega) _ _ hg
theorem Mat.cellW {S : Nat → Prop} {gw L k : Nat} {M : Nat → Nat → V} {wr : World} (h : Mat S gw L L k M wr) {j i : Nat} (hj : j < L) (hi : i < k) :
    wr.cell? ⟨gw, j, none⟩ = some (.slice (some ⟨gw + 2 + j, 0, none⟩) k k) ∧ ∃ v, wr.cell? ⟨gw + 2 + j, i, none⟩ = some v ∧ wr.frozen? ⟨gw + 2 + j, i, none⟩ = false := by
  obtain ⟨⟨cw, w1, w2, w3⟩, _, h3⟩ := h
  obtain ⟨cs, c1, c2, _⟩ := h3 j hj
  exact ⟨cell_of w1 _ (w3 j hj), cs[i]'(by omega), cell_of c1 _ (by rw [Array.getElem?_eq_getElem]), free_of c1 _⟩
theorem Mat.cellN {S : Nat → Prop} {gw L J k : Nat} {M : Nat → Nat → V} {wr : World} (h : Mat S gw L J k M wr) {j : Nat} (hj : j < L) :
    (∃ v, wr.cell? ⟨gw, j, none⟩ = some v) ∧ wr.frozen? ⟨gw, j, none⟩ = false ∧ (∃ v, wr.cell? ⟨gw + 1, j, none⟩ = some v) ∧ wr.frozen? ⟨gw + 1, j, none⟩ = false := by
  obtain ⟨⟨cw, w1, w2, w3⟩, ⟨cx, x1, x2, x3⟩, _⟩ := h
  exact ⟨⟨cw[j]'(by omega), cell_of w1 _ (by rw [Array.getElem?_eq_getElem])⟩, free_of w1 _, ⟨cx[j]'(by omega), cell_of x1 _ (by rw [Array.getElem?_eq_getElem])⟩, free_of x1 _⟩

theorem Mat.below {S : Nat → Prop} {gw L J k : Nat} {M : Nat → Nat → V} {wr W : World} (hS : ∀ b, S b → b < gw) (h : Mat S gw L J k M wr) (hb : Below wr.heap.size wr W) : Mat S gw L J k M W := by
  obtain ⟨⟨cw, w1, w2, w3⟩, ⟨cx, x1, x2, x3⟩, h3⟩ := h
  have hlt := heap_lt w1
  refine ⟨⟨cw, keep hb w1, w2, w3⟩, ⟨cx, keep hb x1, x2, x3⟩, fun j hj => ?_⟩
  obtain ⟨cs, c1, c2, c3⟩ := h3 j hj
  refine ⟨cs, keep hb c1, c2, fun i hi => ?_⟩
  obtain ⟨e, he, hg⟩ := c3 i hi
  exact ⟨e, he, GV.mono (Same.of_below hb fun b hb => by have := hS b hb; omega) (fun _ h => h) _ _ hg⟩
theorem GV.asList {w : World} {S : Nat → Prop} {l : List V} {g : Value} (h : GV w S (mkL l) g) : ∃ a c, g = .iface 48 (.slice a l.length c) ∧ GL w S l a := by
  rw [mkL, GV] at h
  rcases h with q | q | q | q | q | ⟨_, a, c, e, hl⟩ | ⟨q, _⟩
  · omega
  · omega
  · omega
  · omega
  · omega
  · exact ⟨a, c, e, hl⟩
  · omega

end Go.Proofs.YtnlndpgbhmkanaaDoor.Va
