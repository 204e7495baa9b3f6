/-
  A REGION THAT DRAWS ITS ORDER: a load may be taken ahead of the others where what may come before it leaves a condition S standing; behind the operations of D (they wait for the load) S need not stand.
-/
import Derived.Test.YtnlndpgbhmkanaaGreatDoorVaH
import Derived.OrdersHeld
import Derived.RegionTactic
namespace Go.Proofs.YtnlndpgbhmkanaaGreatDoor.Va
open Go.RowKit
set_option linter.unusedVariables false

section
variable {P : Program} {ops : Array Oper} {Q : Exit → Act → World → Prop} {md : Region.Mode} {S : World → Prop} {D : Nat → Bool}

/-- whatever order is picked: behind each operation that is none of D the condition stands -/
def wpAnyD (P : Program) (md : Region.Mode) (ops : Array Oper) (Q : Exit → Act → World → Prop) (S : World → Prop) (D : Nat → Bool) : Nat → Array Bool → Act → World → Prop
  | 0, listed, a, w => Region.ready md ops listed = [] ∧ Q .normal a w
  | fuel + 1, listed, a, w =>
    (Region.ready md ops listed = [] → Q .normal a w) ∧
    ∀ i ∈ Region.ready md ops listed, wpOp P ops Q i (fun a' w' => (D i = false → S w') ∧ wpAnyD P md ops Q S D fuel (listed.setIfInBounds i true) a' w') a w

theorem wpAny_of_D : ∀ (fuel : Nat) (listed : Array Bool) (a : Act) (w : World), wpAnyD P md ops Q S D fuel listed a w → wpAny P md ops Q fuel listed a w
  | 0, _, _, _, h => h
  | fuel + 1, _, _, _, h => ⟨h.1, fun i hi => wpOp_mono (fun a' w' h' => wpAny_of_D fuel _ a' w' h'.2) (h.2 i hi)⟩

theorem wpAnyD_first {i : Nat} {oi : Oper} {v : Value} (hi : ops[i]? = some oi) (hsel : ∀ (j : Nat) (o : Oper) cs b, ops[j]? = some o → o.op ≠ .select cs b)
    (hQ : ∀ c a w, Q (.panic c) (a.put oi.dst v) w → Q (.panic c) a w) (bl : Nat → Bool) (hD : ∀ j, D j = true → bl j = true)
    (hbl : ∀ j oj, ops[j]? = some oj → bl j = true → ∃ e ∈ oj.after, Region.binds md e = true ∧ (e.on = i ∨ bl e.on = true)) :
    ∀ (fuel : Nat) (listed : Array Bool) (a : Act) (w : World),
      (∀ j oj, ops[j]? = some oj → j ≠ i → listed.getD j true = false → (∀ e ∈ oj.after, Region.binds md e = true → e.on ≠ i) → oi.apart ops oj = true) →
      (∀ j, bl j = true → listed.getD j false = false) → i ∈ Region.ready md ops listed → YieldsIf P ops S oi v a → S w →
      wpAnyD P md ops Q S D fuel (listed.setIfInBounds i true) (a.put oi.dst v) w → wpAnyD P md ops Q S D (fuel + 1) listed a w := by
  intro fuel
  induction fuel with
  | zero =>
    intro listed a w _ _ hr hy hS H
    refine ⟨fun h => (by rw [h] at hr; cases hr), fun j hj => ?_⟩
    by_cases hji : j = i
    · subst hji; exact hy.wpOp hi hS ⟨fun _ => hS, H⟩
    · have := ready_mono hj hji
      rw [H.1] at this
      cases this
  | succ fuel ih =>
    intro listed a w hfree hub hr hy hS H
    have hiun : listed.getD i false = false := by
      have h0 := (mem_ready.1 hr).1
      rcases Nat.lt_or_ge i listed.size with h' | h'
      · simpa [h'] using h0
      · simp [h'] at h0
    refine ⟨fun h => (by rw [h] at hr; cases hr), fun j hj => ?_⟩
    by_cases hji : j = i
    · subst hji; exact hy.wpOp hi hS ⟨fun _ => hS, H⟩
    · obtain ⟨hjun, oj, hoj, hall⟩ := mem_ready.1 hj
      have hjbl : bl j = false := by
        cases hb : bl j with
        | false => rfl
        | true =>
          obtain ⟨e, he, hbi, hon⟩ := hbl j oj hoj hb
          have h1 := hall e he hbi
          rcases hon with rfl | hon
          · rw [hiun] at h1; cases h1
          · rw [hub _ hon] at h1; cases h1
      have hjD : D j = false := by
        cases hd : D j with
        | false => rfl
        | true => rw [hD j hd] at hjbl; cases hjbl
      have hnot : ∀ e ∈ oj.after, Region.binds md e = true → e.on ≠ i := fun e he hb heq => by
        have h1 := hall e he hb
        rw [heq, hiun] at h1
        cases h1
      have h2 := wpOp_putIf hoj (hfree j oj hoj hji hjun hnot) (fun cs b => hsel i oi cs b hi) (fun cs b => hsel j oj cs b hoj) hQ hy (H.2 j (ready_mono hj hji))
      refine wpOp_mono (fun a' w' h3 => ⟨h3.2.1, ih (listed.setIfInBounds j true) a' w' (fun k ok hk hki hun hno => ?_) (fun k hk => ?_) (ready_mono hr (Ne.symm hji)) h3.1 (h3.2.1 hjD) ?_⟩) h2
      · refine hfree k ok hk hki ?_ hno
        by_cases hjk : j = k
        · subst hjk; exact hjun
        · rw [getD_set_ne true hjk] at hun; exact hun
      · have hjk : j ≠ k := fun e => by rw [e, hk] at hjbl; cases hjbl
        rw [getD_set_ne false hjk]; exact hub k hk
      · rw [Array.setIfInBounds_comm _ _ hji]
        exact h3.2.2

/-- is it one of the list? -/
def inL (dl : List Nat) (j : Nat) : Bool := dl.contains j
/-- two blocks hold these -/
def TwoBlocks (b1 b2 : Nat) (o1 o2 : Obj) (w : World) : Prop := w.heap[b1]? = some o1 ∧ w.heap[b2]? = some o2
theorem TwoBlocks.alloc {b1 b2 : Nat} {o1 o2 : Obj} {w : World} (h : TwoBlocks b1 b2 o1 o2 w) (o : Obj) : TwoBlocks b1 b2 o1 o2 (w.alloc o) := ⟨block_past h.1 o, block_past h.2 o⟩
theorem TwoBlocks.grown {b1 b2 : Nat} {o1 o2 : Obj} {w w' : World} {row : Option Nat} (h : TwoBlocks b1 b2 o1 o2 w) (hg : w.grownBy w' row) (h1 : some b1 ≠ row) (h2 : some b2 ≠ row) : TwoBlocks b1 b2 o1 o2 w' :=
  ⟨(hg.block b1 (heap_lt h.1) h1).trans h.1, (hg.block b2 (heap_lt h.2) h2).trans h.2⟩

/-- does each operation of bl wait for i, or for one of bl? -/
def waits (md : Region.Mode) (ops : Array Oper) (i : Nat) (bl : List Nat) : Bool :=
  bl.all fun j => match ops[j]? with
    | some oj => oj.after.any fun e => Region.binds md e && (e.on == i || bl.contains e.on)
    | none => true
theorem waits_spec {i : Nat} {bl : List Nat} (h : waits md ops i bl = true) : ∀ j oj, ops[j]? = some oj → bl.contains j = true → ∃ e ∈ oj.after, Region.binds md e = true ∧ (e.on = i ∨ bl.contains e.on = true) := by
  intro j oj hoj hj
  have := List.all_eq_true.1 h j (by simpa using hj)
  simp only [hoj] at this
  obtain ⟨e, he, h1⟩ := Array.any_eq_true'.1 this
  simp only [Bool.and_eq_true, Bool.or_eq_true, beq_iff_eq] at h1
  exact ⟨e, he, h1.1, h1.2⟩

/-- take number i first -/
theorem wpAnyD_take {i : Nat} {oi : Oper} {v : Value} {fuel : Nat} {listed : Array Bool} {a : Act} {w : World} (bl dl : List Nat) (hi : ops[i]? = some oi)
    (hs : Region.noSelect ops = true) (hf : Region.free md ops listed i = true) (hr : (Region.ready md ops listed).contains i = true)
    (hQ : ∀ c a w, Q (.panic c) (a.put oi.dst v) w → Q (.panic c) a w) (hw : waits md ops i bl = true) (hd : (dl.all fun j => bl.contains j) = true) (hu : (bl.all fun j => !listed.getD j false) = true)
    (hy : YieldsIf P ops S oi v a) (hS : S w)
    (h : wpAnyD P md ops Q S (inL dl) fuel (listed.setIfInBounds i true) (a.put oi.dst v) w) : wpAnyD P md ops Q S (inL dl) (fuel + 1) listed a w :=
  wpAnyD_first hi (Region.noSelect_spec hs) hQ (fun j => bl.contains j) (fun j hj => List.all_eq_true.1 hd j (by simpa [inL] using hj)) (waits_spec hw) fuel listed a w (Region.free_spec hi hf)
    (fun j hj => by have := List.all_eq_true.1 hu j (by simpa using hj); simpa using this) (by simpa using hr) hy hS h
/-- what yields in whatever world -/
theorem wpAnyD_any {i : Nat} {oi : Oper} {v : Value} {fuel : Nat} {listed : Array Bool} {a : Act} {w : World} (dl : List Nat) (hi : ops[i]? = some oi)
    (hs : Region.noSelect ops = true) (hr : Region.ready md ops listed = [i])
    (hy : Yields P ops oi v a) (hS : dl.contains i = false → S w)
    (h : wpAnyD P md ops Q S (inL dl) fuel (listed.setIfInBounds i true) (a.put oi.dst v) w) : wpAnyD P md ops Q S (inL dl) (fuel + 1) listed a w :=
  ⟨fun h0 => absurd (hr ▸ h0) (by simp), by
    rw [hr]
    intro j hj
    obtain rfl : j = i := by simpa using hj
    exact (Yields.yieldsIf (S := fun _ => True) hy).wpOp hi trivial ⟨hS, h⟩⟩

def AllReadyD (P : Program) (md : Region.Mode) (ops : Array Oper) (Q : Exit → Act → World → Prop) (S : World → Prop) (D : Nat → Bool) (fuel : Nat) (listed : Array Bool) (a : Act) (w : World) (rs : List Nat) : Prop :=
  ∀ i ∈ rs, wpOp P ops Q i (fun a' w' => (D i = false → S w') ∧ wpAnyD P md ops Q S D fuel (listed.setIfInBounds i true) a' w') a w
theorem AllReadyD.nil {fuel : Nat} {listed : Array Bool} {a : Act} {w : World} : AllReadyD P md ops Q S D fuel listed a w [] := fun _ h => by cases h
theorem AllReadyD.cons {fuel : Nat} {listed : Array Bool} {a : Act} {w : World} {i : Nat} {o : Oper} {rs : List Nat} (ho : ops[i]? = some o)
    (h : ∀ K' : Act → World → Prop, Hid (∀ a w, (D i = false → S w) → wpAnyD P md ops Q S D fuel (listed.setIfInBounds i true) a w → K' a w) → if Region.wanted o (yielded ops a.tmps) = true then Oper.wp P o a w K' Q else K' (a.put o.dst undef) w)
    (hs : AllReadyD P md ops Q S D fuel listed a w rs) : AllReadyD P md ops Q S D fuel listed a w (i :: rs) := fun j hj => by
  rcases List.mem_cons.1 hj with rfl | hj
  · exact wpOp_step ho fun K' hK => h K' (Lib.hid fun a w h1 h2 => hK a w ⟨h1, h2⟩)
  · exact hs j hj
theorem wpAnyD_ready {rs : List Nat} {fuel : Nat} {listed : Array Bool} {a : Act} {w : World} (hr : Region.ready md ops listed = rs) (hne : rs ≠ [])
    (h : AllReadyD P md ops Q S D fuel listed a w rs) : wpAnyD P md ops Q S D (fuel + 1) listed a w := ⟨fun h0 => absurd (hr ▸ h0) hne, hr ▸ h⟩
theorem wpAnyD_done {listed : Array Bool} {a : Act} {w : World} (hr : Region.ready md ops listed = []) (h : Q .normal a w) : ∀ fuel, wpAnyD P md ops Q S D fuel listed a w
  | 0 => ⟨hr, h⟩
  | _ + 1 => ⟨fun _ => h, by rw [hr]; simp⟩
theorem wp_region_D {id : Nat} {a : Act} {w : World} (S : World → Prop) (dl : List Nat) (hm : P.follows .mixedOrders = true)
    (h : wpAnyD P .any ops Q S (inL dl) ops.size (Array.replicate ops.size false) a w.drew) : (Code.region id ops true).wp P Q a w :=
  wp_region_any hm (wpAny_of_D _ _ _ _ h)

/-- an append of one element, as one step of a region that draws -/
theorem step_append_one {a : Act} {w : World} {K : Act → World → Prop} {E : Prop} {o : Oper}
    (hg : o.guard = none) (s x : Operand) (t : TypeId) (hop : o.op = Op.call { callee := Callee.builtin Builtin.append, args := #[s, x], argTypes := #[t, t] })
    (base : Nat) (e : TypeId) (i : TypeInfo) (z : Value) (size bytes : Nat) (ht : P.underlying t = some (.slice e)) (hi : P.info? e = some i) (hz : i.zero = some z)
    (hsize : i.size = size) (hby : i.bytes = bytes) (hzs : z.cells.size = size) (hsz : 0 < size)
    (v : Value) (n : Nat) (xs : List Value) (hs : a.eval s = v) (hown : w.ownsRow base e size v n xs)
    (ad : Addr) (c : Nat) (news : List Value) (hx : a.eval x = .slice (some ad) 1 c) (hl : news.length = size) (hnews : ∀ j u, news[j]? = some u → w.cell? (ad.add j) = some u) (h1 : ∀ u ∈ news, u.oneCell' = true)
    (h63 : n + 1 ≤ maxLen) (hbytes : (n + 1) * bytes ≤ 140737488355328) (hbase : base ≤ w.heap.size)
    (hK : ∀ v' w', Appended w base e size v n (xs ++ news) v' w' → K (a.put o.dst v') w') :
    if Region.wanted o (yielded ops a.tmps) = true then Oper.wp P o a w K Q else E := by
  have hw : Region.wanted o (yielded ops a.tmps) = true := by simp [Region.wanted, hg]
  rw [if_pos hw]
  obtain ⟨v', w', hr, h2⟩ := run_append_one (P := P) w base t o.type e i z size bytes ht hi hz hsize hby hzs hsz v n xs hown ad c news hl hnews h1 h63 hbytes hbase
  unfold Oper.wp execOp
  simp only [hop, resolve, invoke, builtin, Sem.run_bind, Sem.run_pure, Result.andThen_ok, List.map_toArray, List.map_cons, List.map_nil, hs, hx, hr]
  exact hK v' w' h2
end

end Go.Proofs.YtnlndpgbhmkanaaGreatDoor.Va
