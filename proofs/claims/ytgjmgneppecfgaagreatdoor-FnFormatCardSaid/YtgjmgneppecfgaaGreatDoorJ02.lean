/-
  FnFormat, texts VaG VaR VaH VaO VaV BaA BaB: lemmas for the law; the theorem stands in the last text.
-/
import Derived.Laws.Externs
import Derived.Laws.FloatArith
import Derived.Laws.AppendOwn
import Derived.OrdersHeld
import Derived.RegionTactic
import Derived.Deep.OwnRows
import Derived.Lib.LazyBuf
import Derived.Lib.BufferWrite
import Derived.Lib.SlBuf
import Derived.Laws.BytesArg
import Derived.Laws.IdiomStrings
import Derived.Laws.BitsAllLaws
import Derived.Test.YtgjmgneppecfgaaGreatDoorJ01
namespace Go.Proofs.YtgjmgneppecfgaaGreatDoor.Va
open Go.RowKit
set_option linter.unusedVariables false
set_option linter.unusedSimpArgs false

/-- a value with nothing in it but its kind, its number and its text -/
def flat (k h : Int) (t : ByteArray) : Value := .agg #[.int .i64 k, .int .i64 h, .string t, .slice none 0 0, .slice none 0 0, .slice none 0 0]
def Ret (v : Value) (w : World) (e : Ending) (w' : World) : Prop := e = .returned v ∧ Below w.heap.size w w'

theorem sets6 {B b : Nat} {w0 w : World} (h : Below B w0 w) (hb : B ≤ b) (v0 v1 v2 v3 v4 v5 : Value) :
    Below B w0 ((((((w.setCell ⟨b, 0, none⟩ v0).setCell ⟨b, 1, none⟩ v1).setCell ⟨b, 2, none⟩ v2).setCell ⟨b, 3, none⟩ v3).setCell ⟨b, 4, none⟩ v4).setCell ⟨b, 5, none⟩ v5) :=
  (((((h.setCell hb _).setCell hb _).setCell hb _).setCell hb _).setCell hb _).setCell hb _

/-- what fromGo returns -/
def FromGo (x : V) (w : World) (e : Ending) (w' : World) : Prop :=
  ∃ v, e = .returned (.tuple #[v, .bool true]) ∧ RV w' (fun r => w.heap.size ≤ r) x v ∧ Below w.heap.size w w'

theorem rv_flat (k h : Int) (t : ByteArray) (w : World) (S : Nat → Prop) : RV w S (.mk k h t [] [] []) (flat k h t) := by
  rw [RV]
  exact ⟨none, 0, none, 0, none, 0, rfl, by rw [RL]; trivial, trivial, by rw [RL]; trivial⟩

set_option maxHeartbeats 400000 in
theorem fromGo_4 (t : ByteArray) (w : World) : Calls Tryz.prog 86 #[.iface 9 (.string t)] w (FromGo (.mk 4 0 t [] [] []) w) := by
  go_enter Tryz.func86, Tryz.ntmps86
  go_wp2_with fail
  go_returns
  exact ⟨_, rfl, rv_flat _ _ _ _ _, by go_grown⟩
end Go.Proofs.YtgjmgneppecfgaaGreatDoor.Va
namespace Go.Proofs.YtgjmgneppecfgaaGreatDoor.Va
open Go.RowKit
set_option linter.unusedVariables false
set_option linter.unusedSimpArgs false

section
variable {P : Program} (w : World)
theorem append_where (base : Nat) (t ty e : TypeId) (i : TypeInfo) (z : Value) (size bytes : Nat) (ht : P.underlying t = some (.slice e)) (hi : P.info? e = some i) (hz : i.zero = some z)
    (hsize : i.size = size) (hby : i.bytes = bytes) (v : Value) (n : Nat) (xs : List Value) (hown : w.ownsRow base e size v n xs)
    (a : Addr) (c : Nat) (news : List Value) (hl : news.length = size) (hnews : ∀ j u, news[j]? = some u → w.cell? (a.add j) = some u) (h1 : ∀ u ∈ news, u.oneCell' = true)
    (h63 : n + 1 ≤ maxLen) (hbytes : (n + 1) * bytes ≤ 140737488355328) (v' : Value) (w' : World) (hr : (Builtin.append_ #[t, t] ty #[v, .slice (some a) 1 c]).run P w = .ok v' w') :
    (v'.ownBlock = v.ownBlock ∨ v'.ownBlock = some w.heap.size) ∧ ∃ g cap, v' = .slice (some ⟨g, 0, none⟩) (n + 1) cap := by
  subst hsize
  subst hby
  have hsmall : n + 1 ≤ 9223372036854775807 := by simp only [maxLen] at h63; omega
  rcases hown.2 with ⟨rfl, rfl⟩ | ⟨g, cap, cur, rfl, hbg, hg, hnc, hcm, hcs, htake⟩
  · have hh := run_append_nil (P := P) w t ty e i z ht hi hz a 1 c news (by omega) hnews (by omega) (by omega) (by simp only [Nat.zero_add] at hbytes; omega)
    rw [hh] at hr
    cases hr
    exact ⟨.inr rfl, _, _, rfl⟩
  · by_cases hroom : n + 1 ≤ cap
    · have hfit : n * i.size + news.length ≤ cur.size := by
        rw [hl, hcs, ← Nat.succ_mul]; exact Nat.mul_le_mul_right _ hroom
      have hh := run_append_room (P := P) w t ty e i ht hi g n cap cur hg a 1 c news (by omega) hnews h1 hroom hfit
      rw [hh] at hr
      cases hr
      exact ⟨.inl rfl, _, _, rfl⟩
    · have holds : ∀ j u, xs[j]? = some u → w.cell? ((⟨g, 0, none⟩ : Addr).add j) = some u := hown.cells (g := g) rfl
      have hh := run_append_grow (P := P) w t ty e i z ht hi hz ⟨g, 0, none⟩ n cap xs hown.1 holds a 1 c news (by omega) hnews (by omega) (by omega) (growslice_fits (by omega) hbytes)
      rw [hh] at hr
      cases hr
      exact ⟨.inr rfl, _, _, rfl⟩

/-- what an append of one element leaves -/
structure Appended (w : World) (base : Nat) (e : TypeId) (size : Nat) (v : Value) (n : Nat) (xs : List Value) (v' : Value) (w' : World) : Prop where
  owns : w'.ownsRow base e size v' (n + 1) xs
  grown : w.grownBy w' v.ownBlock
  wher : v'.ownBlock = v.ownBlock ∨ v'.ownBlock = some w.heap.size
  made : ∃ g cap, v' = .slice (some ⟨g, 0, none⟩) (n + 1) cap

theorem run_append_one (base : Nat) (t ty e : TypeId) (i : TypeInfo) (z : Value) (size bytes : Nat) (ht : P.underlying t = some (.slice e)) (hi : P.info? e = some i) (hz : i.zero = some z)
    (hsize : i.size = size) (hby : i.bytes = bytes) (hzs : z.cells.size = size) (hsz : 0 < size) (v : Value) (n : Nat) (xs : List Value) (hown : w.ownsRow base e size v n xs)
    (a : Addr) (c : Nat) (news : List Value) (hl : news.length = size) (hnews : ∀ j u, news[j]? = some u → w.cell? (a.add j) = some u) (h1 : ∀ u ∈ news, u.oneCell' = true)
    (h63 : n + 1 ≤ maxLen) (hbytes : (n + 1) * bytes ≤ 140737488355328) (hbase : base ≤ w.heap.size) :
    ∃ v' w', (Builtin.append_ #[t, t] ty #[v, .slice (some a) 1 c]).run P w = .ok v' w' ∧ Appended w base e size v n (xs ++ news) v' w' := by
  obtain ⟨v', w', hr, h2, h3, _⟩ := run_append_own (P := P) w base t ty e i z size bytes ht hi hz hsize hby hzs hsz v n xs hown a 1 c news (by omega) hnews h1 h63 hbytes hbase
  obtain ⟨h4, h5⟩ := append_where (P := P) w base t ty e i z size bytes ht hi hz hsize hby v n xs hown a c news hl hnews h1 h63 hbytes v' w' hr
  exact ⟨v', w', hr, h2, h3, h4, h5⟩

theorem wpList_append_one {ops : Array Oper} {rest : List Oper} {o : Oper} {a : Act} {Q : Exit → Act → World → Prop} (hgd : o.guard = none) (s x : Operand) (t : TypeId)
    (ho : o.op = .call { callee := .builtin .append, args := #[s, x], argTypes := #[t, t] })
    (base : Nat) (e : TypeId) (i : TypeInfo) (z : Value) (size bytes : Nat) (ht : P.underlying t = some (.slice e)) (hi : P.info? e = some i) (hz : i.zero = some z)
    (hsize : i.size = size) (hby : i.bytes = bytes) (hzs : z.cells.size = size) (hsz : 0 < size)
    (v : Value) (n : Nat) (xs : List Value) (hs : a.eval s = v) (hown : w.ownsRow base e size v n xs)
    (ad : Addr) (c : Nat) (news : List Value) (hx : a.eval x = .slice (some ad) 1 c) (hl : news.length = size) (hnews : ∀ j u, news[j]? = some u → w.cell? (ad.add j) = some u) (h1 : ∀ u ∈ news, u.oneCell' = true)
    (h63 : n + 1 ≤ maxLen) (hbytes : (n + 1) * bytes ≤ 140737488355328) (hbase : base ≤ w.heap.size)
    (h : ∀ v' w', Appended w base e size v n (xs ++ news) v' w' → wpList P ops Q rest (a.put o.dst v') w') : wpList P ops Q (o :: rest) a w :=
  wpList_plain hgd fun _ hK => by
    obtain ⟨v', w', hr, h2⟩ := run_append_one (P := P) w base t o.type e i z size bytes ht hi hz hsize hby hzs hsz v n xs hown ad c news hl hnews h1 h63 hbytes hbase
    unfold Oper.wp execOp
    simp only [ho, resolve, invoke, builtin, Sem.run_bind, Sem.run_pure, Result.andThen_ok, List.map_toArray, List.map_cons, List.map_nil, hs, hx, hr]
    exact hK _ _ (h v' w' h2)
end

theorem cell_new (w : World) (cs : Array Value) (t : TypeId) : ∀ j u, cs.toList[j]? = some u → (w.alloc (.cells cs t)).cell? ((⟨w.heap.size, 0, none⟩ : Addr).add j) = some u := by
  intro j u hu
  have hadd : (⟨w.heap.size, 0, none⟩ : Addr).add j = ⟨w.heap.size, j, none⟩ := by unfold Addr.add; split <;> simp_all
  rw [hadd]
  exact cell_of (block_new w cs t) j (by simpa using hu)

/-! ### rows of values -/
/-- six cells at a place of a list of cells -/
def SixAt (cs : List Value) (o : Nat) (c0 c1 c2 c3 c4 c5 : Value) : Prop := cs[o]? = some c0 ∧ cs[o + 1]? = some c1 ∧ cs[o + 2]? = some c2 ∧ cs[o + 3]? = some c3 ∧ cs[o + 4]? = some c4 ∧ cs[o + 5]? = some c5
theorem app_some {cs news : List Value} {j : Nat} {v : Value} (h : cs[j]? = some v) : (cs ++ news)[j]? = some v := by
  obtain ⟨hj, _⟩ := List.getElem?_eq_some_iff.1 h
  rw [List.getElem?_append_left hj, h]
theorem SixAt.old {cs news : List Value} {o : Nat} {c0 c1 c2 c3 c4 c5 : Value} (h : SixAt cs o c0 c1 c2 c3 c4 c5) : SixAt (cs ++ news) o c0 c1 c2 c3 c4 c5 := by
  obtain ⟨h0, h1, h2, h3, h4, h5⟩ := h
  exact ⟨app_some h0, app_some h1, app_some h2, app_some h3, app_some h4, app_some h5⟩
theorem SixAt.new {cs : List Value} {o : Nat} (ho : cs.length = o) (c0 c1 c2 c3 c4 c5 : Value) : SixAt (cs ++ [c0, c1, c2, c3, c4, c5]) o c0 c1 c2 c3 c4 c5 := by
  subst ho
  refine ⟨?_, ?_, ?_, ?_, ?_, ?_⟩
  · simp
  all_goals
    rw [List.getElem?_append_right (by omega)]
    simp

/-- the row of the first k values of l -/
def Rows (base : Nat) (l : List V) (k : Nat) (ov : Value) (wr : World) : Prop :=
  ∃ cs : List Value, wr.ownsRow base 27 6 ov k cs ∧ ∀ i (hi : i < k) (hl : i < l.length), ∃ c0 c1 c2 c3 c4 c5, SixAt cs (i * 6) c0 c1 c2 c3 c4 c5 ∧ RV wr (fun r => base ≤ r ∧ some r ≠ ov.ownBlock) l[i] (.agg #[c0, c1, c2, c3, c4, c5])
theorem ownsRow_same {w w' : World} {base : Nat} {e : TypeId} {size : Nat} {v : Value} {n : Nat} {xs : List Value} (h : w.ownsRow base e size v n xs) (hs : ∀ b, some b = v.ownBlock → w'.heap[b]? = w.heap[b]?) : w'.ownsRow base e size v n xs := by
  refine ⟨h.1, ?_⟩
  rcases h.2 with hn | ⟨g, cap, cur, rfl, hb, hgg, rest⟩
  · exact .inl hn
  · exact .inr ⟨g, cap, cur, rfl, hb, (hs g rfl).trans hgg, rest⟩
theorem Rows.same {base : Nat} {l : List V} {k : Nat} {ov : Value} {w w' : World} (h : Rows base l k ov w) (hs : ∀ b, base ≤ b → b < w.heap.size → w'.heap[b]? = w.heap[b]?) : Rows base l k ov w' := by
  obtain ⟨cs, h1, h2⟩ := h
  refine ⟨cs, ownsRow_same h1 (fun b hb => by have := h1.lt b hb.symm; exact hs b this.1 this.2), fun i hi hl => ?_⟩
  obtain ⟨c0, c1, c2, c3, c4, c5, h6, hx⟩ := h2 i hi hl
  exact ⟨c0, c1, c2, c3, c4, c5, h6, RV.mono (S := fun r => (base ≤ r ∧ some r ≠ ov.ownBlock) ∧ r < w.heap.size) (fun b hb => hs b hb.1.1 hb.2) (fun b hb => hb.1) _ _ (RV.lt _ _ hx)⟩
/-- a value's six cells -/
def six (t1 n1 : Int) (tx : ByteArray) (la : Option Addr) (l1 lc : Nat) (ka : Option Addr) (l2 kc : Nat) (va : Option Addr) (l3 vc : Nat) : List Value := [.int .i64 t1, .int .i64 n1, .string tx, .slice la l1 lc, .slice ka l2 kc, .slice va l3 vc]
end Go.Proofs.YtgjmgneppecfgaaGreatDoor.Va
namespace Go.Proofs.YtgjmgneppecfgaaGreatDoor.Va
open Go.RowKit
set_option linter.unusedVariables false
set_option linter.unusedSimpArgs false

theorem sets_other {w : World} {b b' : Nat} (v0 v1 v2 v3 v4 v5 : Value) (h : b' ≠ b) :
    ((((((w.setCell ⟨b, 0, none⟩ v0).setCell ⟨b, 1, none⟩ v1).setCell ⟨b, 2, none⟩ v2).setCell ⟨b, 3, none⟩ v3).setCell ⟨b, 4, none⟩ v4).setCell ⟨b, 5, none⟩ v5).heap[b']? = w.heap[b']? := by
  rw [set_other _ _ h, set_other _ _ h, set_other _ _ h, set_other _ _ h, set_other _ _ h, set_other _ _ h]

/-- fromGo serves x -/
def FG (x : V) : Prop := ∀ (g : Value) (S : Nat → Prop) (w : World), GV w S x g → (∀ b, S b → b < w.heap.size) → Calls Tryz.prog 86 #[g] w (FromGo x w)

theorem infoValue : (Tryz.prog.info? 27).map (fun i => (i.zero, i.size, i.bytes)) = some (some (.agg #[.int .i64 0, .int .i64 0, .string ⟨#[]⟩, .slice none 0 0, .slice none 0 0, .slice none 0 0]), 6, 104) := by kernel_rfl

end Go.Proofs.YtgjmgneppecfgaaGreatDoor.Va
namespace Go.Proofs.YtgjmgneppecfgaaGreatDoor.Va
open Go.RowKit
set_option linter.unusedVariables false

section
variable {P : Program} {ops : Array Oper} {Q : Exit → Act → World → Prop} {md : Region.Mode} {S : World → Prop} {D : Nat → Bool}

/-- whatever order is picked: behind each operation that is none of D the condition stands -/
def wpAnyD (P : Program) (md : Region.Mode) (ops : Array Oper) (Q : Exit → Act → World → Prop) (S : World → Prop) (D : Nat → Bool) : Nat → Array Bool → Act → World → Prop
  | 0, listed, a, w => Region.ready md ops listed = [] ∧ Q .normal a w
  | fuel + 1, listed, a, w =>
    (Region.ready md ops listed = [] → Q .normal a w) ∧
    ∀ i ∈ Region.ready md ops listed, wpOp P ops Q i (fun a' w' => (D i = false → S w') ∧ wpAnyD P md ops Q S D fuel (listed.setIfInBounds i true) a' w') a w

theorem wpAny_of_D : ∀ (fuel : Nat) (listed : Array Bool) (a : Act) (w : World), wpAnyD P md ops Q S D fuel listed a w → wpAny P md ops Q fuel listed a w
  | 0, _, _, _, h => h
  | fuel + 1, _, _, _, h => ⟨h.1, fun i hi => wpOp_mono (fun a' w' h' => wpAny_of_D fuel _ a' w' h'.2) (h.2 i hi)⟩

theorem wpAnyD_first {i : Nat} {oi : Oper} {v : Value} (hi : ops[i]? = some oi) (hsel : ∀ (j : Nat) (o : Oper) cs b, ops[j]? = some o → o.op ≠ .select cs b)
    (hQ : ∀ c a w, Q (.panic c) (a.put oi.dst v) w → Q (.panic c) a w) (bl : Nat → Bool) (hD : ∀ j, D j = true → bl j = true)
    (hbl : ∀ j oj, ops[j]? = some oj → bl j = true → ∃ e ∈ oj.after, Region.binds md e = true ∧ (e.on = i ∨ bl e.on = true)) :
    ∀ (fuel : Nat) (listed : Array Bool) (a : Act) (w : World),
      (∀ j oj, ops[j]? = some oj → j ≠ i → listed.getD j true = false → (∀ e ∈ oj.after, Region.binds md e = true → e.on ≠ i) → oi.apart ops oj = true) →
      (∀ j, bl j = true → listed.getD j false = false) → i ∈ Region.ready md ops listed → YieldsIf P ops S oi v a → S w →
      wpAnyD P md ops Q S D fuel (listed.setIfInBounds i true) (a.put oi.dst v) w → wpAnyD P md ops Q S D (fuel + 1) listed a w := by
  intro fuel
  induction fuel with
  | zero =>
    intro listed a w _ _ hr hy hS H
    refine ⟨fun h => (by rw [h] at hr; cases hr), fun j hj => ?_⟩
    by_cases hji : j = i
    · subst hji; exact hy.wpOp hi hS ⟨fun _ => hS, H⟩
    · have := ready_mono hj hji
      rw [H.1] at this
      cases this
  | succ fuel ih =>
    intro listed a w hfree hub hr hy hS H
    have hiun : listed.getD i false = false := by
      have h0 := (mem_ready.1 hr).1
      rcases Nat.lt_or_ge i listed.size with h' | h'
      · simpa [h'] using h0
      · simp [h'] at h0
    refine ⟨fun h => (by rw [h] at hr; cases hr), fun j hj => ?_⟩
    by_cases hji : j = i
    · subst hji; exact hy.wpOp hi hS ⟨fun _ => hS, H⟩
    · obtain ⟨hjun, oj, hoj, hall⟩ := mem_ready.1 hj
      have hjbl : bl j = false := by
        cases hb : bl j with
        | false => rfl
        | true =>
          obtain ⟨e, he, hbi, hon⟩ := hbl j oj hoj hb
          have h1 := hall e he hbi
          rcases hon with rfl | hon
          · rw [hiun] at h1; cases h1
          · rw [hub _ hon] at h1; cases h1
      have hjD : D j = false := by
        cases hd : D j with
        | false => rfl
        | true => rw [hD j hd] at hjbl; cases hjbl
      have hnot : ∀ e ∈ oj.after, Region.binds md e = true → e.on ≠ i := fun e he hb heq => by
        have h1 := hall e he hb
        rw [heq, hiun] at h1
        cases h1
      have h2 := wpOp_putIf hoj (hfree j oj hoj hji hjun hnot) (fun cs b => hsel i oi cs b hi) (fun cs b => hsel j oj cs b hoj) hQ hy (H.2 j (ready_mono hj hji))
      refine wpOp_mono (fun a' w' h3 => ⟨h3.2.1, ih (listed.setIfInBounds j true) a' w' (fun k ok hk hki hun hno => ?_) (fun k hk => ?_) (ready_mono hr (Ne.symm hji)) h3.1 (h3.2.1 hjD) ?_⟩) h2
      · refine hfree k ok hk hki ?_ hno
        by_cases hjk : j = k
        · subst hjk; exact hjun
        · rw [getD_set_ne true hjk] at hun; exact hun
      · have hjk : j ≠ k := fun e => by rw [e, hk] at hjbl; cases hjbl
        rw [getD_set_ne false hjk]; exact hub k hk
      · rw [Array.setIfInBounds_comm _ _ hji]
        exact h3.2.2

/-- is it one of the list? -/
def inL (dl : List Nat) (j : Nat) : Bool := dl.contains j
/-- two blocks hold these -/
def TwoBlocks (b1 b2 : Nat) (o1 o2 : Obj) (w : World) : Prop := w.heap[b1]? = some o1 ∧ w.heap[b2]? = some o2
theorem TwoBlocks.alloc {b1 b2 : Nat} {o1 o2 : Obj} {w : World} (h : TwoBlocks b1 b2 o1 o2 w) (o : Obj) : TwoBlocks b1 b2 o1 o2 (w.alloc o) := ⟨block_past h.1 o, block_past h.2 o⟩
theorem TwoBlocks.grown {b1 b2 : Nat} {o1 o2 : Obj} {w w' : World} {row : Option Nat} (h : TwoBlocks b1 b2 o1 o2 w) (hg : w.grownBy w' row) (h1 : some b1 ≠ row) (h2 : some b2 ≠ row) : TwoBlocks b1 b2 o1 o2 w' :=
  ⟨(hg.block b1 (heap_lt h.1) h1).trans h.1, (hg.block b2 (heap_lt h.2) h2).trans h.2⟩

/-- does each operation of bl wait for i, or for one of bl? -/
def waits (md : Region.Mode) (ops : Array Oper) (i : Nat) (bl : List Nat) : Bool :=
  bl.all fun j => match ops[j]? with
    | some oj => oj.after.any fun e => Region.binds md e && (e.on == i || bl.contains e.on)
    | none => true
theorem waits_spec {i : Nat} {bl : List Nat} (h : waits md ops i bl = true) : ∀ j oj, ops[j]? = some oj → bl.contains j = true → ∃ e ∈ oj.after, Region.binds md e = true ∧ (e.on = i ∨ bl.contains e.on = true) := by
  intro j oj hoj hj
  have := List.all_eq_true.1 h j (by simpa using hj)
  simp only [hoj] at this
  obtain ⟨e, he, h1⟩ := Array.any_eq_true'.1 this
  simp only [Bool.and_eq_true, Bool.or_eq_true, beq_iff_eq] at h1
  exact ⟨e, he, h1.1, h1.2⟩

/-- take number i first -/
theorem wpAnyD_take {i : Nat} {oi : Oper} {v : Value} {fuel : Nat} {listed : Array Bool} {a : Act} {w : World} (bl dl : List Nat) (hi : ops[i]? = some oi)
    (hs : Region.noSelect ops = true) (hf : Region.free md ops listed i = true) (hr : (Region.ready md ops listed).contains i = true)
    (hQ : ∀ c a w, Q (.panic c) (a.put oi.dst v) w → Q (.panic c) a w) (hw : waits md ops i bl = true) (hd : (dl.all fun j => bl.contains j) = true) (hu : (bl.all fun j => !listed.getD j false) = true)
    (hy : YieldsIf P ops S oi v a) (hS : S w)
    (h : wpAnyD P md ops Q S (inL dl) fuel (listed.setIfInBounds i true) (a.put oi.dst v) w) : wpAnyD P md ops Q S (inL dl) (fuel + 1) listed a w :=
  wpAnyD_first hi (Region.noSelect_spec hs) hQ (fun j => bl.contains j) (fun j hj => List.all_eq_true.1 hd j (by simpa [inL] using hj)) (waits_spec hw) fuel listed a w (Region.free_spec hi hf)
    (fun j hj => by have := List.all_eq_true.1 hu j (by simpa using hj); simpa using this) (by simpa using hr) hy hS h
def AllReadyD (P : Program) (md : Region.Mode) (ops : Array Oper) (Q : Exit → Act → World → Prop) (S : World → Prop) (D : Nat → Bool) (fuel : Nat) (listed : Array Bool) (a : Act) (w : World) (rs : List Nat) : Prop :=
  ∀ i ∈ rs, wpOp P ops Q i (fun a' w' => (D i = false → S w') ∧ wpAnyD P md ops Q S D fuel (listed.setIfInBounds i true) a' w') a w
theorem AllReadyD.nil {fuel : Nat} {listed : Array Bool} {a : Act} {w : World} : AllReadyD P md ops Q S D fuel listed a w [] := fun _ h => by cases h
theorem AllReadyD.cons {fuel : Nat} {listed : Array Bool} {a : Act} {w : World} {i : Nat} {o : Oper} {rs : List Nat} (ho : ops[i]? = some o)
    (h : ∀ K' : Act → World → Prop, Hid (∀ a w, (D i = false → S w) → wpAnyD P md ops Q S D fuel (listed.setIfInBounds i true) a w → K' a w) → if Region.wanted o (yielded ops a.tmps) = true then Oper.wp P o a w K' Q else K' (a.put o.dst undef) w)
    (hs : AllReadyD P md ops Q S D fuel listed a w rs) : AllReadyD P md ops Q S D fuel listed a w (i :: rs) := fun j hj => by
  rcases List.mem_cons.1 hj with rfl | hj
  · exact wpOp_step ho fun K' hK => h K' (Lib.hid fun a w h1 h2 => hK a w ⟨h1, h2⟩)
  · exact hs j hj
theorem wpAnyD_ready {rs : List Nat} {fuel : Nat} {listed : Array Bool} {a : Act} {w : World} (hr : Region.ready md ops listed = rs) (hne : rs ≠ [])
    (h : AllReadyD P md ops Q S D fuel listed a w rs) : wpAnyD P md ops Q S D (fuel + 1) listed a w := ⟨fun h0 => absurd (hr ▸ h0) hne, hr ▸ h⟩
theorem wpAnyD_done {listed : Array Bool} {a : Act} {w : World} (hr : Region.ready md ops listed = []) (h : Q .normal a w) : ∀ fuel, wpAnyD P md ops Q S D fuel listed a w
  | 0 => ⟨hr, h⟩
  | _ + 1 => ⟨fun _ => h, by rw [hr]; simp⟩
theorem wp_region_D {id : Nat} {a : Act} {w : World} (S : World → Prop) (dl : List Nat) (hm : P.follows .mixedOrders = true)
    (h : wpAnyD P .any ops Q S (inL dl) ops.size (Array.replicate ops.size false) a w.drew) : (Code.region id ops true).wp P Q a w :=
  wp_region_any hm (wpAny_of_D _ _ _ _ h)

end

end Go.Proofs.YtgjmgneppecfgaaGreatDoor.Va
namespace Go.Proofs.YtgjmgneppecfgaaGreatDoor.Va
open Go.RowKit
set_option linter.unusedVariables false
set_option linter.unusedSimpArgs false

theorem less_self (l : List UInt8) : Op.bytesLess l l = false := by
  induction l with
  | nil => rfl
  | cons a t ih => simp [Op.bytesLess, ih]
theorem texts_same (s : ByteArray) (w : World) : Calls Tryz.prog 100 #[.string s, .string s] w fun e w' => e = .returned (.int .i64 0) ∧ w = w' := by
  have h := less_self s.toList
  go_enter Tryz.func100, Tryz.ntmps100
  go_wp2
  go_returns
  exact ⟨rfl, rfl⟩
/-- Cmp finds x the same as itself -/
def CW (x : V) : Prop := ∀ (v1 v2 : Value) (S : Nat → Prop) (w : World), RV w S x v1 → RV w S x v2 → (∀ b, S b → b < w.heap.size) → Calls Tryz.prog 48 #[v1, v2] w (Ret (.int .i64 0) w)
section
variable (h : Int) (t : ByteArray) (ls : List V) (ks : List ByteArray) (vs : List V) (la ka va la' ka' va' : Option Addr) (n1 n2 n3 lc kc vc lc' kc' vc' : Nat) (w : World)

set_option maxHeartbeats 1000000 in
theorem cmp_012 (k : Int) (hk : k = 0 ∨ k = 1 ∨ k = 2) : Calls Tryz.prog 48 #[.agg #[.int .i64 k, .int .i64 h, .string t, .slice la n1 lc, .slice ka n2 kc, .slice va n3 vc], .agg #[.int .i64 k, .int .i64 h, .string t, .slice la' n1 lc', .slice ka' n2 kc', .slice va' n3 vc']] w (Ret (.int .i64 0) w) := by
  rcases hk with rfl | rfl | rfl
  all_goals
    (go_enter Tryz.func48, Tryz.ntmps48
     go_wp2_with fail)
    go_returns
    exact ⟨rfl, by go_grown⟩

set_option maxHeartbeats 1000000 in
theorem cmp_4 : Calls Tryz.prog 48 #[.agg #[.int .i64 4, .int .i64 h, .string t, .slice la n1 lc, .slice ka n2 kc, .slice va n3 vc], .agg #[.int .i64 4, .int .i64 h, .string t, .slice la' n1 lc', .slice ka' n2 kc', .slice va' n3 vc']] w (Ret (.int .i64 0) w) := by
  (go_enter Tryz.func48, Tryz.ntmps48
   go_wp2_with fail)
  refine (texts_same t _).mono ?_
  rintro e w' ⟨rfl, rfl⟩
  go_wp2_with fail
  go_returns
  exact ⟨rfl, by go_grown⟩

end

set_option maxHeartbeats 1000000 in
theorem same_any (x : V) (H : CW x) (v1 v2 : Value) (S : Nat → Prop) (w : World) (h1 : RV w S x v1) (h2 : RV w S x v2) (hS : ∀ b, S b → b < w.heap.size) : Calls Tryz.prog 17 #[v1, v2] w (Ret (.bool true) w) := by
  have HH := Lib.hid H
  have HS := Lib.hid hS
  obtain ⟨la, lc, ka, kc, va, vc, t0, n0, tx, n1, n2, n3, rfl, HV⟩ := RV.parts h1
  obtain ⟨la', lc', ka', kc', va', vc', t0', n0', tx', n1', n2', n3', rfl, HV'⟩ := RV.parts h2
  clear H hS h1 h2
  go_enter Tryz.func17, Tryz.ntmps17
  go_wp2_with fail
  generalize hW : World.alloc (World.alloc w _) _ = W
  have hb : Below w.heap.size w W := hW ▸ (by go_grown)
  clear hW
  refine (HH.out _ _ S W (RV.mono (Same.of_below hb HS.out) (fun _ h => h) _ _ HV.out) (RV.mono (Same.of_below hb HS.out) (fun _ h => h) _ _ HV'.out) (fun b h => Nat.lt_of_lt_of_le (HS.out b h) hb.size)).mono ?_
  rintro e w' ⟨rfl, hb2⟩
  have HB := Lib.hid (hb.trans (hb2.mono hb.size))
  clear hb hb2
  go_wp2_with fail
  go_returns
  exact ⟨rfl, HB.out⟩

end Go.Proofs.YtgjmgneppecfgaaGreatDoor.Va
namespace Go.Proofs.YtgjmgneppecfgaaGreatDoor.Ba
open Go.RowKit
set_option linter.unusedVariables false
set_option linter.unusedSimpArgs false

/-- the letters -/
def abc : ByteArray := ⟨#[65, 66, 67, 68, 69, 70, 71, 72, 73, 74, 75, 76, 77, 78, 79, 80, 81, 82, 83, 84, 85, 86, 87, 88, 89, 90, 97, 98, 99, 100, 101, 102, 103, 104, 105, 106, 107, 108, 109, 110, 111, 112, 113, 114, 115, 116, 117, 118, 119, 120, 121, 122, 48, 49, 50, 51, 52, 53, 54, 55, 56, 57, 43, 47]⟩
/-- the letter of a number -/
def lt (i : Nat) : Nat := if i < 26 then 65 + i else if i < 52 then 71 + i else if i < 62 then i - 4 else if i = 62 then 43 else 47
/-- the number of a letter, 255 of what is none -/
def dc (c : Nat) : Nat := if 65 ≤ c ∧ c ≤ 90 then c - 65 else if 97 ≤ c ∧ c ≤ 122 then c - 71 else if 48 ≤ c ∧ c ≤ 57 then c + 4 else if c = 43 then 62 else if c = 47 then 63 else 255
theorem dc_lt {i : Nat} (h : i < 64) : dc (lt i) = i := by
  unfold lt dc
  repeat' (first | split | omega)
theorem lt_lt (i : Nat) (h : i < 64) : lt i < 128 := by
  unfold lt
  repeat' (first | split | omega)
theorem dc_le (c : Nat) : dc c < 64 ∨ dc c = 255 := by
  unfold dc
  repeat' (first | split | omega)
theorem lt_dc {c : Nat} (h : dc c < 64) : lt (dc c) = c := by
  have h5 : dc c ≠ 255 := by omega
  clear h
  unfold dc at h5 ⊢
  unfold lt
  repeat' (first | split | omega)
  all_goals (exfalso; apply h5; simp_all)
theorem abc_at : ∀ i : Fin 64, (abc.data[i.val]!).toNat = lt i.val := by decide
theorem abc_size : abc.size = 64 := by decide
theorem abc_get (i : Nat) (h : i < 64) : (abc[i]'(by rw [abc_size]; exact h)).toNat = lt i := by
  have := abc_at ⟨i, h⟩
  rw [← this]
  have hs : i < abc.data.size := by rw [show abc.data.size = 64 from abc_size]; exact h
  rw [getElem!_pos abc.data i hs]
  rfl
end Go.Proofs.YtgjmgneppecfgaaGreatDoor.Ba
namespace Go.Proofs.YtgjmgneppecfgaaGreatDoor.Ba
open Go.RowKit Go.Proofs.YtgjmgneppecfgaaGreatDoor.Va
set_option linter.unusedVariables false
set_option linter.unusedSimpArgs false

/-- a copy of a string into a row -/
theorem copy_row {P : Program} {w : World} {g n : Nat} {t : TypeId} {f : Nat → Value} (h : w.rowIs g t n f) (o dLen dCap : Nat) (s : ByteArray) (dT sT ty elem : TypeId) (hu : P.underlying dT = some (.slice elem)) (hs : (P.info? elem).map (·.size) = some 1)
    (hle : s.size ≤ dLen) (hfit : o + s.size ≤ n) : ∃ w', (Builtin.copy_ #[dT, sT] ty #[.slice (some ⟨g, o, none⟩) dLen dCap, .string s]).run P w = .ok (goInt s.size) w' ∧
      w'.rowIs g t n (fun j => if o ≤ j ∧ j < o + s.size then .int .u8 ((s.data.toList.getD (j - o) 0).toNat : Int) else f j) ∧ w.grownBy w' (some g) := by
  obtain ⟨cur, h1, h2, h3⟩ := h
  have hr := Lib.run_copy_row_string (P := P) w dT sT ty elem g o dLen dCap s cur t hu hs h1 hle (by omega)
  refine ⟨_, hr, ⟨_, setRow_heap w g _ _ _ _ h1, ?_, fun i hi => ?_⟩, ⟨rfl, rfl, rfl, by simp, fun k _ hk => setRow_other _ _ _ _ (fun e => hk (by rw [e]))⟩⟩
  · have hsz : s.data.toList.length = s.size := (Lib.size_eq s).symm
    simp [Lib.byteCells, hsz]
    omega
  · have hsz : s.data.toList.length = s.size := (Lib.size_eq s).symm
    have hbl : (Lib.byteCells s.data.toList).length = s.size := by rw [Lib.byteCells_length, hsz]
    have htl : (cur.toList.take o).length = o := by simp; omega
    rw [List.getElem?_toArray]
    show _ = some (if o ≤ i ∧ i < o + s.size then Value.int .u8 ((s.data.toList.getD (i - o) 0).toNat : Int) else f i)
    by_cases c1 : i < o
    · rw [if_neg (by omega), List.getElem?_append_left (by rw [List.length_append, htl]; omega), List.getElem?_append_left (by rw [htl]; exact c1), List.getElem?_take, if_pos c1]
      have := h3 i hi
      simpa using this
    · by_cases c2 : i < o + s.size
      · rw [if_pos ⟨by omega, c2⟩, List.getElem?_append_left (by rw [List.length_append, htl, hbl]; omega), List.getElem?_append_right (by rw [htl]; omega), htl]
        unfold Lib.byteCells
        rw [List.getElem?_map, List.getElem?_eq_getElem (by omega)]
        simp [List.getD, List.getElem?_eq_getElem (show i - o < s.data.toList.length by omega)]
      · rw [if_neg (by omega), List.getElem?_append_right (by rw [List.length_append, htl, hbl]; omega), List.length_append, htl, hbl, List.getElem?_drop]
        have := h3 i hi
        rw [show o + s.size + (i - (o + s.size)) = i by omega]
        simpa using this

/-- an encoding's cells as they are made -/
def encZ : Array Value := ((Array.replicate 320 (Value.int .u8 0)).push (.int .i32 0)).push (.bool false)
theorem encZ_eq : Tryz.zeroCells197 = encZ := by kernel_rfl
def encZf (j : Nat) : Value := if j < 320 then .int .u8 0 else if j = 320 then .int .i32 0 else .bool false
theorem encZ_at (i : Nat) (h : i < 322) : encZ[i]? = some (encZf i) := by
  unfold encZ encZf
  rw [Array.getElem?_push, Array.getElem?_push]
  simp only [Array.size_push, Array.size_replicate]
  by_cases c : i = 321
  · subst c; rfl
  · rw [if_neg c]
    by_cases d : i = 320
    · subst d; rfl
    · rw [if_neg d, if_pos (by omega), Array.getElem?_replicate, if_pos (by omega)]
theorem encZ_row (w : World) : (w.alloc (.cells Tryz.zeroCells197 197)).rowIs w.heap.size 197 322 encZf := by
  rw [encZ_eq]
  have h := World.rowIs_alloc w encZ 197 encZf (fun i hi => encZ_at i (by simpa [encZ] using hi))
  rwa [show encZ.size = 322 by simp [encZ]] at h
/-- an encoding's cells: its letters, the first k of them with their numbers -/
def encF (k : Nat) (pad : Int) (j : Nat) : Value :=
  if j < 64 then .int .u8 (lt j) else if j < 320 then .int .u8 (if dc (j - 64) < k then dc (j - 64) else 255 : Nat) else if j = 320 then .int .i32 pad else .bool false
def ff : ByteArray := ⟨(List.replicate 256 255).toArray⟩
theorem ff_size : ff.size = 256 := by
  show ((List.replicate 256 (255 : UInt8)).toArray).size = 256
  rw [List.size_toArray, List.length_replicate]
theorem ff_at (j : Nat) (h : j < 256) : (ff.data.toList.getD j 0).toNat = 255 := by
  show ((List.replicate 256 (255 : UInt8)).getD j 0).toNat = 255
  rw [List.getD, List.getElem?_replicate, if_pos h]
  rfl
theorem abc_toList (j : Nat) (h : j < 64) : (abc.data.toList.getD j 0).toNat = lt j := by
  have := abc_at ⟨j, h⟩
  rw [← this]
  have hs : j < abc.data.size := by rw [show abc.data.size = 64 from abc_size]; exact h
  rw [getElem!_pos abc.data j hs, List.getD, Array.getElem?_toList, Array.getElem?_eq_getElem hs]
  rfl
def NewEnd (w : World) (e : Ending) (w' : World) : Prop := e = .returned (.pointer (some ⟨w.heap.size, 0, none⟩)) ∧ Below w.heap.size w w' ∧ w'.rowIs w.heap.size 197 322 (encF 64 61)
def LoopN (w : World) (i : Value) (wr : World) : Prop := ∃ k : Nat, i = .int .i64 k ∧ k ≤ 64 ∧ Below w.heap.size w wr ∧ wr.rowIs w.heap.size 197 322 (encF k 61)

set_option maxHeartbeats 2000000 in
set_option maxRecDepth 100000 in
theorem new_any (w : World) : Calls Tryz.prog 156 #[.string abc] w (NewEnd w) := by
  have hsz := abc_size
  go_enter Tryz.func156, Tryz.ntmps156
  go_upto_region 4 with fail
  generalize hW : World.alloc w _ = W
  have h0 := hW ▸ encZ_row w
  have B0 := Lib.hid (hW ▸ below_alloc w _ : Below w.heap.size w W)
  clear hW
  have H0 := Lib.hid h0
  have hc : W.cell? ⟨w.heap.size, 320, none⟩ = some (.int .i32 0) := h0.cell (i := 320) (by decide)
  have hf := h0.frozen 320
  clear h0
  go_upto_region 5 with fail
  generalize hW : World.setCell W _ _ = W1
  have H1 := Lib.hid (hW ▸ H0.out.set 320 (.int .i32 61))
  have B1 := Lib.hid (hW ▸ B0.out.setCell (Nat.le_refl _) _ : Below w.heap.size w W1)
  clear hW H0 B0 hc hf
  obtain ⟨W2, hr2, h2, hg2⟩ := copy_row (P := Tryz.prog) H1.out 0 64 64 abc 73 9 3 5 Tryz.underlying73 (by kernel_rfl) (by rw [hsz]; exact Nat.le_refl _) (by rw [hsz]; decide)
  have B2 := Lib.hid (B1.out.grown hg2 B1.out.size (fun k e => by obtain rfl := Option.some.inj e; exact Nat.le_refl _))
  obtain ⟨W3, hr3, h3, hg3⟩ := copy_row (P := Tryz.prog) h2 64 256 256 ff 73 9 3 5 Tryz.underlying73 (by kernel_rfl) (by rw [ff_size]; exact Nat.le_refl _) (by rw [ff_size]; decide)
  have B3 := Lib.hid (B2.out.grown hg3 B2.out.size (fun k e => by obtain rfl := Option.some.inj e; exact Nat.le_refl _))
  have H3 : Hid (W3.rowIs w.heap.size 197 322 (encF 0 61)) := Lib.hid (h3.congr fun i hi => by
    show (if 64 ≤ i ∧ i < 64 + ff.size then _ else if 0 ≤ i ∧ i < 0 + abc.size then _ else if i = 320 then _ else encZf i) = encF 0 61 i
    rw [ff_size, abc_size]
    unfold encF
    by_cases c1 : i < 64
    · rw [if_neg (by omega), if_pos (by omega), if_pos c1, Nat.sub_zero, abc_toList i c1]
    · by_cases c2 : i < 320
      · rw [if_pos (by omega), if_neg c1, if_pos c2, ff_at (i - 64) (by omega), if_neg (by omega)]
      · rw [if_neg (by omega), if_neg (by omega), if_neg c1, if_neg c2]
        by_cases c3 : i = 320
        · rw [if_pos c3, if_pos c3]
        · rw [if_neg c3, if_neg c3]
          unfold encZf
          rw [if_neg c2, if_neg c3])
  clear h2 h3 hg2 hg3 H1 B1
  go_upto_region 6 with (refine Lib.wpList_copy_run _ rfl (.tmp 16) (.tmp 17) 73 9 rfl _ _ rfl rfl hr2 ?_)
  clear hr2
  go_upto_region 7 with (refine Lib.wpList_copy_run _ rfl (.tmp 22) _ 73 9 rfl _ _ rfl rfl hr3 ?_)
  clear hr3
  go_wp2_with fail
  go_loopw [4] (LoopN w) (fun i _ => 64 - (intOf i).toNat)
  case atStart => exact ⟨0, rfl, by omega, B3.out, H3.out⟩
  case round =>
    clear B2 B3 H3
    obtain ⟨k, rfl, hk, hb, hrow⟩ := hrel
    have HB := Lib.hid hb
    have HR := Lib.hid hrow
    clear hb hrow
    by_cases hlt : k < 64
    · obtain ⟨x, hx⟩ : ∃ x, lt k = x := ⟨_, rfl⟩
      have hb : (abc[k]'(by rw [abc_size]; exact hlt)).toNat = x := (abc_get k hlt).trans hx
      have hxl : 43 ≤ x ∧ x < 123 := by
        rw [← hx]; unfold lt
        repeat' (first | split | omega)
      have hxl1 := hxl.1
      have hxl2 := hxl.2
      have h10 : ((x : Int) == 10) = false := by simp; omega
      have h13 : ((x : Int) == 13) = false := by simp; omega
      have HX := Lib.hid hx
      have hc : wr.cell? ⟨w.heap.size, 64 + x, none⟩ = some (.int .u8 255) := by
        rw [HR.out.cell (i := 64 + x) (by omega)]
        unfold encF
        rw [if_neg (by omega), if_pos (by omega), show 64 + x - 64 = x by omega, ← hx, dc_lt hlt, if_neg (by omega)]
        rfl
      have hf := HR.out.frozen (64 + x)
      have R : Hid (∀ w', w'.rowIs w.heap.size 197 322 (fun j => if j = 64 + x then .int .u8 (k : Int) else encF k 61 j) → Below w.heap.size w w' → LoopN w (.int .i64 ((k : Int) + 1)) w') := Lib.hid fun w' h hb => by
        refine ⟨k + 1, rfl, hlt, hb, h.congr fun j hj => ?_⟩
        show (if j = 64 + x then _ else encF k 61 j) = encF (k + 1) 61 j
        have hx := HX.out
        by_cases e : j = 64 + x
        · rw [if_pos e, e]
          unfold encF
          rw [if_neg (by omega), if_pos (by omega), show 64 + x - 64 = x by omega, ← hx, dc_lt hlt, if_pos (by omega)]
        · rw [if_neg e]
          unfold encF
          by_cases c1 : j < 64
          · rw [if_pos c1, if_pos c1]
          · rw [if_neg c1, if_neg c1]
            by_cases c2 : j < 320
            · rw [if_pos c2, if_pos c2]
              have hne : dc (j - 64) ≠ k := fun q => by
                have := lt_dc (c := j - 64) (by omega)
                rw [q, hx] at this
                omega
              by_cases c3 : dc (j - 64) < k
              · rw [if_pos c3, if_pos (by omega)]
              · rw [if_neg c3, if_neg (by omega)]
            · rw [if_neg c2, if_neg c2]
      clear hx hxl
      go_wp2_with fail
      go_quiet (fail)
      go_wp2_with fail
      go_region
      (try simp only [Exit.inBlock, Exit.then])
      go_at_K
      go_wp2_with fail
      go_roundw
      case rel => exact R.out _ (HR.out.set _ _) (Below.setCell (HB.out.trans (⟨rfl, rfl, rfl, Nat.le_refl _, fun _ _ => rfl⟩ : Below w.heap.size wr (wr.drewN _))) (by exact Nat.le_refl _) _)
      case measure => simp [intOf]; omega
    · obtain rfl : k = 64 := by omega
      go_wp2_with fail
      go_returns
      exact ⟨rfl, HB.out, HR.out⟩
end Go.Proofs.YtgjmgneppecfgaaGreatDoor.Ba
