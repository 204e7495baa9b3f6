/-
  WHAT optimizeTailRec KEEPS: the scopes that are open, and which of them may be jumped into.
-/
import Derived.Test.YtnlndpgbhmkanaaOpN
import Derived.Maps.Own
import Derived.Maps.OwnOps
import Derived.Maps.OwnSet
import Derived.Outline
namespace Go.Proofs.Ytnlndpgbhmkanaa.Op
open Go.RowKit Go.Maps
set_option linter.unusedVariables false
set_option linter.unusedSimpArgs false

theorem lawK : Keyed Try.prog 3 := int_keyed Try.underlying3
theorem zeroB (w : World) : (zeroValue 4).run Try.prog w = .ok (.bool false) w := by kernel_rfl
theorem plainElem_bool_inv' {P : Program} {e : TypeId} (he : P.underlying e = some .bool) {v : Value} {z : DataW Unit × List MemPlace} (h : plainElem P e v = some z) : ∃ b, v = .bool b ∧ z = (.lit (.bool b), []) := by
  unfold plainElem at h
  rw [he] at h
  cases v with
  | bool b => exact ⟨b, rfl, (Option.some.inj h).symm⟩
  | _ => exact absurd h (fun q => by cases q)
theorem plainElem_bool_inv {v : Value} {z : DataW Unit × List MemPlace} (h : plainElem Try.prog 4 v = some z) : ∃ b, v = .bool b ∧ z = (.lit (.bool b), []) := plainElem_bool_inv' Try.underlying4 h
noncomputable def BE : Value → Option (DataW Unit × List MemPlace) := plainElem Try.prog 4
theorem wpList_lookup_bool (w : World) {ops : Array Oper} {rest : List Oper} {o : Oper} {a : Act} {Q : Exit → Act → World → Prop} (hg : o.guard = none) (m x : Operand) (hop : o.op = Op.lookup 74 m x true) (b n : Nat) (D : DataW Unit)
    (hm : a.eval m = .map (some b)) (hown : w.ownsMap Try.prog 3 BE b n D) (key : Value) (kl : Lit) (hx : a.eval x = key) (hkey : keyOf Try.prog 3 key = some kl)
    (hK : ∀ c : Bool, D.atKey kl (.lit (.bool false)) = .lit (.bool c) → wpList Try.prog ops Q rest (a.put o.dst (.tuple #[.bool c, .bool (Maps.has D kl)])) w) :
    wpList Try.prog ops Q (o :: rest) a w :=
  wpList_lookup_own_ok w hg m x 74 hop 3 4 lawK Try.underlying74 BE (zeroB w) (.lit (.bool false)) [] (plainElem_bool Try.underlying4 false) b n D hm hown key kl hx hkey (fun v ps hv => by
    obtain ⟨c, rfl, hc⟩ := plainElem_bool_inv hv
    exact hK c (congrArg Prod.fst hc))

/-- the map says of each place what is known of it -/
structure MapOK (D : DataW Unit) (sc : Nat → Option Bool) : Prop where
  isMap : IsMap D
  none : ∀ j : Nat, sc j = none → has D (.int .i64 (j : Int)) = false
  some : ∀ (j : Nat) (b : Bool), sc j = some b → has D (.int .i64 (j : Int)) = true ∧ D.atKey (.int .i64 (j : Int)) (.lit (.bool false)) = .lit (.bool b)
theorem MapOK.empty : MapOK (.map []) (fun _ => Option.none) := ⟨isMap_empty, fun j _ => rfl, fun j b h => by cases h⟩
theorem MapOK.put {D : DataW Unit} {sc : Nat → Option Bool} (h : MapOK D sc) (i : Nat) (v : Bool) : MapOK (D.put (.int .i64 (i : Int)) (.lit (.bool v))) (put sc i v) := by
  refine ⟨h.isMap.put _ _, fun j hj => ?_, fun j b hj => ?_⟩
  · unfold Op.put at hj
    by_cases e : j = i
    · rw [if_pos e] at hj; cases hj
    · rw [if_neg e] at hj
      rw [has_put_other (fun q => e (by have := (Lit.int.inj q).2; omega))]
      exact h.none j hj
  · unfold Op.put at hj
    by_cases e : j = i
    · rw [if_pos e] at hj
      subst e
      obtain rfl := Option.some.inj hj
      exact ⟨has_put_same h.isMap (by simp [WideAt.IsKeyLit]) _, atKey_put_same h.isMap (by simp [WideAt.IsKeyLit]) _ _⟩
    · rw [if_neg e] at hj
      have hne : Lit.int .i64 (j : Int) ≠ Lit.int .i64 (i : Int) := fun q => e (by have := (Lit.int.inj q).2; omega)
      rw [has_put_other hne, atKey_put_other hne]
      exact h.some j b hj

theorem RC.grown {w0 w w' : World} {N : Nat} {l : List Ins} {ps : List Nat} {sv : Value} {row : Option Nat} (h : RC w0 N l ps sv w) (hg : w.grownBy w' row)
    (hne : ∀ (b : Nat) (cs : Array Value) (t : TypeId), w.heap[b]? = some (.cells cs t (0, 0)) → (t = 58 ∨ t = 60 ∨ t = 63) → some b ≠ row) (hr : ∀ k, row = some k → N + 1 ≤ k) : RC w0 N l ps sv w' := by
  have hk : ∀ {b : Nat} {cs : Array Value} {t : TypeId}, w.heap[b]? = some (.cells cs t (0, 0)) → (t = 58 ∨ t = 60 ∨ t = 63) → w'.heap[b]? = some (.cells cs t (0, 0)) := fun hb ht =>
    (hg.block _ (heap_lt hb) (hne _ _ _ hb ht)).trans hb
  refine ⟨h.base, h.below.grown hg h.below.size (fun k e => by have := hr k e; have := h.base; omega), Nat.lt_of_lt_of_le h.size hg.size, hk h.box (.inl rfl), ?_, h.nodup, h.lo, fun i x hx => ?_⟩
  · refine own_keep h.row fun g hg' => ?_
    rcases h.row.2 with ⟨e, _⟩ | ⟨g2, cap, cur, e, _, hg2, _⟩
    · rw [e] at hg'; cases hg'
    · rw [e] at hg'
      simp only [Value.ownBlock, Option.some.injEq] at hg'
      subst hg'
      rw [hg2]
      exact hk hg2 (.inr (.inl rfl))
  · obtain ⟨p, hp, v, hv, hc⟩ := h.codes i x hx
    exact ⟨p, hp, v, hv, hk hc (.inr (.inr rfl))⟩
/-- a row of ints is none of its blocks -/
theorem int_apart {w : World} {base : Nat} {pv : Value} {n : Nat} {xs : List Value} (h : w.ownsRow base 3 1 pv n xs) : ∀ (b : Nat) (cs : Array Value) (t : TypeId), w.heap[b]? = some (.cells cs t (0, 0)) → (t = 58 ∨ t = 60 ∨ t = 63) → some b ≠ pv.ownBlock := by
  intro b cs t hb ht e
  rcases h.2 with ⟨rfl, _⟩ | ⟨g, cap, cur, rfl, _, hg, _⟩
  · cases e
  · simp only [Value.ownBlock, Option.some.injEq] at e
    subst e
    rw [hb] at hg
    simp only [Option.some.injEq, Obj.cells.injEq] at hg
    have := hg.2.1
    rcases ht with rfl | rfl | rfl <;> exact absurd this (by decide)
theorem map_apart {w : World} {mb m : Nat} {D : DataW Unit} (h : w.ownsMap Try.prog 3 BE mb m D) : ∀ (b : Nat) (cs : Array Value) (t : TypeId), w.heap[b]? = some (.cells cs t (0, 0)) → some b ≠ some mb := by
  intro b cs t hb e
  obtain ⟨es, clock, hm, _⟩ := h
  obtain rfl := Option.some.inj e
  rw [hb] at hm
  cases hm
theorem row_map {w : World} {mb m base : Nat} {D : DataW Unit} {pv : Value} {n : Nat} {xs : List Value} (h : w.ownsMap Try.prog 3 BE mb m D) (hr : w.ownsRow base 3 1 pv n xs) : some mb ≠ pv.ownBlock := by
  rcases hr.2 with ⟨rfl, _⟩ | ⟨g, cap, cur, rfl, _, hg, _⟩
  · simp [Value.ownBlock]
  · intro e
    simp only [Value.ownBlock] at e
    exact map_apart h g cur 3 hg e.symm

/-- what the pass holds: the list, the open scopes, what is known of scopes -/
structure TM (w0 : World) (N : Nat) (l : List Ins) (ps : List Nat) (sv : Value) (pcs : List Nat) (pv : Value) (mb m : Nat) (sc : Nat → Option Bool) (w : World) : Prop where
  rc : RC w0 N l ps sv w
  row : w.ownsRow (N + 1) 3 1 pv pcs.length (encB pcs)
  mlo : N + 1 ≤ mb
  map : ∃ D, w.ownsMap Try.prog 3 BE mb m D ∧ MapOK D sc
section
variable {w0 w w' : World} {N : Nat} {l : List Ins} {ps : List Nat} {sv : Value} {pcs : List Nat} {pv : Value} {mb m : Nat} {sc : Nat → Option Bool}
theorem TM.alloc (h : TM w0 N l ps sv pcs pv mb m sc w) (o : Obj) : TM w0 N l ps sv pcs pv mb m sc (w.alloc o) := by
  obtain ⟨D, h1, h2⟩ := h.map
  exact ⟨h.rc.alloc o, h.row.alloc o, h.mlo, D, h1.alloc o, h2⟩
theorem TM.push {k : Nat} {pv' : Value} (h : TM w0 N l ps sv pcs pv mb m sc w) (ha : Appended w (N + 1) 3 1 pv pcs.length (encB pcs ++ [.int .i64 (k : Int)]) pv' w') : TM w0 N l ps sv (k :: pcs) pv' mb m sc w' := by
  obtain ⟨D, h1, h2⟩ := h.map
  refine ⟨h.rc.grown ha.grown (int_apart h.row) (fun k e => (h.row.lt k e).1), ?_, h.mlo, D, h1.kept ha.grown (row_map h1 h.row), h2⟩
  rw [encB_cons]
  exact ha.owns
theorem TM.pop {k g n cap : Nat} (h : TM w0 N l ps sv (k :: pcs) (.slice (some ⟨g, 0, none⟩) n cap) mb m sc w) (hn : n = pcs.length + 1) : TM w0 N l ps sv pcs (.slice (some ⟨g, 0, none⟩) (n - 1) cap) mb m sc w := by
  subst hn
  have hs := h.row
  rw [encB_cons] at hs
  exact ⟨h.rc, own_cut hs (by simp [encB_len]) (by simp), h.mlo, h.map⟩
theorem TM.top {k g n cap : Nat} (h : TM w0 N l ps sv (k :: pcs) (.slice (some ⟨g, 0, none⟩) n cap) mb m sc w) (hn : n = pcs.length + 1) : w.cell? ⟨g, n - 1, none⟩ = some (.int .i64 (k : Int)) := by
  subst hn
  have hs := h.row
  rw [encB_cons] at hs
  have hl := encB_len pcs
  simp only [List.length_cons] at hs
  refine (hs.cellAt _ (by omega)).trans ?_
  rw [List.getElem?_append_right (by omega), show pcs.length + 1 - 1 - (encB pcs).length = 0 by omega]
  rfl
theorem TM.pos {k n cap : Nat} {ao : Option Addr} (h : TM w0 N l ps sv (k :: pcs) (.slice ao n cap) mb m sc w) : ∃ g, ao = some ⟨g, 0, none⟩ ∧ n = pcs.length + 1 ∧ n ≤ cap := by
  obtain ⟨g, cap', e, h1, h2⟩ := own_some h.row
  cases e
  exact ⟨g, rfl, rfl, h2⟩
theorem TM.zero {n cap : Nat} {ao : Option Addr} (h : TM w0 N l ps sv [] (.slice ao n cap) mb m sc w) : n = 0 := by
  rcases h.row.2 with ⟨e, e2⟩ | ⟨g, cap, cur, e, _⟩
  · simp only [Value.slice.injEq] at e; omega
  · simp only [Value.slice.injEq] at e; simpa using e.2.1
theorem TM.know {k : Nat} {v : Bool} {D : DataW Unit} (h : TM w0 N l ps sv pcs pv mb m sc w) (h1 : w.ownsMap Try.prog 3 BE mb m D) (h2 : MapOK D sc) (hg : w.grownBy w' (some mb)) (hown : w'.ownsMap Try.prog 3 BE mb (m + 1) (D.put (.int .i64 (k : Int)) (.lit (.bool v)))) : TM w0 N l ps sv pcs pv mb (m + 1) (put sc k v) w' := by
  refine ⟨h.rc.grown hg (fun b cs t hb _ => map_apart h1 b cs t hb) (fun k e => by have := h.mlo; obtain rfl := Option.some.inj e; omega), ?_, h.mlo, _, hown, h2.put k v⟩
  refine h.row.kept hg ?_
  cases e : pv.ownBlock with
  | none => exact .inl rfl
  | some q => exact .inr fun e2 => row_map h1 h.row (by rw [e, e2])
theorem own_apart {w : World} {base : Nat} {pv v1 v2 : Value} {n : Nat} {xs : List Value} {p : Nat} (h : w.ownsRow base 3 1 pv n xs) (hc : w.heap[p]? = some (.cells #[v1, v2] 63 (0, 0))) : ∀ g, pv.ownBlock = some g → g ≠ p := by
  intro g hg e
  subst e
  exact int_apart h g _ _ hc (.inr (.inr rfl)) hg.symm
theorem TM.setOp {i : Nat} {x : Ins} {p : Nat} {v : Value} (h : TM w0 N l ps sv pcs pv mb m sc w) (hx : l[i]? = some x) (hp : ps[i]? = some p) (hc : w.heap[p]? = some (.cells #[v, .int .i64 x.op] 63 (0, 0))) {op' : Int} (hv : OV { x with op := op' } v) :
    TM w0 N (l.set i { x with op := op' }) ps sv pcs pv mb m sc (w.setCell ⟨p, 1, none⟩ (.int .i64 op')) := by
  obtain ⟨D, h1, h2⟩ := h.map
  refine ⟨h.rc.setOp hx hp hc hv, own_keep h.row fun g hg => heap_setCell_other _ _ _ _ (own_apart h.row hc g hg), h.mlo, D, h1.setCell (fun e => map_apart h1 p _ _ hc (by rw [e])) _, h2⟩
theorem TM.setBoth {i : Nat} {x : Ins} {p : Nat} {v : Value} (h : TM w0 N l ps sv pcs pv mb m sc w) (hx : l[i]? = some x) (hp : ps[i]? = some p) (hc : w.heap[p]? = some (.cells #[v, .int .i64 x.op] 63 (0, 0))) {op' a' : Int} {v' : Value} (hv : OV { x with op := op', a := a' } v') :
    TM w0 N (l.set i { x with op := op', a := a' }) ps sv pcs pv mb m sc ((w.setCell ⟨p, 1, none⟩ (.int .i64 op')).setCell ⟨p, 0, none⟩ v') := by
  obtain ⟨D, h1, h2⟩ := h.map
  have hpl : N < p := h.rc.lo p (List.mem_of_getElem? hp)
  have hb : ∀ k, k ≠ p → ((w.setCell ⟨p, 1, none⟩ (.int .i64 op')).setCell ⟨p, 0, none⟩ v').heap[k]? = w.heap[k]? := fun k hk => (heap_setCell_other _ _ k _ hk).trans (heap_setCell_other _ _ k _ hk)
  have hmp : mb ≠ p := fun e => map_apart h1 p _ _ hc (by rw [e])
  refine ⟨h.rc.turn (x' := { x with op := op', a := a' }) hx hp (heap_setCell_same _ p 0 _ _ _ (heap_setCell_same w p 1 _ _ _ hc)) hv hb (by simp) (((Below.refl _ _).setCell (by exact hpl) _).setCell (by exact hpl) _), own_keep h.row fun g hg => hb g (own_apart h.row hc g hg), h.mlo, D, (h1.setCell hmp _).setCell hmp _, h2⟩
end
end Go.Proofs.Ytnlndpgbhmkanaa.Op
