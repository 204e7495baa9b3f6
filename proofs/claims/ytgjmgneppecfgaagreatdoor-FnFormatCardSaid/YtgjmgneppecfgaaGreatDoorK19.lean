/-
  FnFormat, texts PaJ McA BuS MbA MbE: lemmas for the law; the theorem stands in the last text.
-/
import Derived.Laws.Slices
import Derived.Lib.AppendStr
import Derived.Lib.Walk
import Derived.Lib.Builder
import Derived.Lib.UnsafeStr
import Derived.Shelf.Bytes.WriteAny
import Derived.Shelf.Bytes.BufferK
import Derived.Shelf.Bytes.Bytes
import Derived.Shelf.Unicode.DecodeAny
import Derived.Shelf.SlSortFuncK.WholeK
import Derived.Test.YtgjmgneppecfgaaGreatDoorProg
import Derived.Test.YtgjmgneppecfgaaGreatDoorK02
import Derived.Test.YtgjmgneppecfgaaGreatDoorK07
import Derived.Test.YtgjmgneppecfgaaGreatDoorK15
import Derived.Test.YtgjmgneppecfgaaGreatDoorK18
namespace Go.Proofs.YtgjmgneppecfgaaGreatDoor.Va
open Go.RowKit
set_option linter.unusedVariables false
set_option linter.unusedSimpArgs false

/-- what is read: m elements, their cells -/
def Src (w : World) (x : Value) (m : Nat) (news : List Value) : Prop :=
  (x = .slice none 0 0 ∧ m = 0 ∧ news = []) ∨ ∃ ad c, x = .slice (some ad) m c ∧ ∀ j u, news[j]? = some u → w.cell? (ad.add j) = some u
/-- what an append of some elements leaves -/
structure AppA (w : World) (base : Nat) (e : TypeId) (size : Nat) (v : Value) (n m : Nat) (xs : List Value) (v' : Value) (w' : World) : Prop where
  owns : w'.ownsRow base e size v' (n + m) xs
  grown : w.grownBy w' v.ownBlock
  wher : v'.ownBlock = v.ownBlock ∨ v'.ownBlock = some w.heap.size
section
variable {P : Program} {w : World}
theorem run_append_a (base : Nat) (t ty e : TypeId) (i : TypeInfo) (z : Value) (size bytes : Nat) (ht : P.underlying t = some (.slice e)) (hi : P.info? e = some i) (hz : i.zero = some z)
    (hsize : i.size = size) (hby : i.bytes = bytes) (hzs : z.cells.size = size) (hsz : 0 < size) (v : Value) (n m : Nat) (xs : List Value) (hown : w.ownsRow base e size v n xs)
    (x : Value) (news : List Value) (hl : news.length = m * size) (hsrc : Src w x m news) (h1 : ∀ u ∈ news, u.oneCell' = true)
    (h63 : n + m ≤ maxLen) (hbytes : (n + m) * bytes ≤ 140737488355328) (hbase : base ≤ w.heap.size) :
    ∃ v' w', (Builtin.append_ #[t, t] ty #[v, x]).run P w = .ok v' w' ∧ AppA w base e size v n m (xs ++ news) v' w' := by
  rcases hsrc with ⟨rfl, rfl, rfl⟩ | ⟨a, c, rfl, hnews⟩
  · exact ⟨v, w, run_append_owned_none (P := P) w base t ty e i size ht hi v n xs hown, by simpa using hown, ⟨rfl, rfl, rfl, Nat.le_refl _, fun _ _ _ => rfl⟩, .inl rfl⟩
  · obtain ⟨v', w', hr, h2, h3, h4⟩ := run_append_own (P := P) w base t ty e i z size bytes ht hi hz hsize hby hzs hsz v n xs hown a m c news hl hnews h1 h63 hbytes hbase
    refine ⟨v', w', hr, h2, h3, ?_⟩
    by_cases hm : m = 0
    · subst hm
      have hn0 : news = [] := List.eq_nil_of_length_eq_zero (by rw [hl, Nat.zero_mul])
      subst hn0
      rcases hown.2 with ⟨rfl, rfl⟩ | ⟨g, cap, cur, rfl, hbg, hg, hnc, hcm, hcs, htake⟩
      · have := h4.2 ⟨rfl, rfl⟩
        subst this
        exact .inl rfl
      · have hh := run_append_room (P := P) w t ty e i ht hi g n cap cur hg a 0 c [] (by simp) (by simp) (by simp) (by omega) (by rw [hsize, hcs]; simp; exact Nat.mul_le_mul_right _ hnc)
        rw [hh] at hr
        cases hr
        exact .inl rfl
    · exact (append_where_m (P := P) w base t ty e i z size bytes ht hi hz hsize hby v n m (by omega) xs hown a c news hl hnews h1 h63 hbytes v' w' hr).1
/-- as an operation of a plain list -/
theorem wpList_append_a {ops : Array Oper} {rest : List Oper} {o : Oper} {a : Act} {Q : Exit → Act → World → Prop} (hgd : o.guard = none) (s x : Operand) (t : TypeId)
    (ho : o.op = .call { callee := .builtin .append, args := #[s, x], argTypes := #[t, t] })
    (base : Nat) (e : TypeId) (i : TypeInfo) (z : Value) (size bytes : Nat) (ht : P.underlying t = some (.slice e)) (hi : P.info? e = some i) (hz : i.zero = some z)
    (hsize : i.size = size) (hby : i.bytes = bytes) (hzs : z.cells.size = size) (hsz : 0 < size)
    (v : Value) (n m : Nat) (xs : List Value) (hs : a.eval s = v) (hown : w.ownsRow base e size v n xs)
    (xv : Value) (news : List Value) (hx : a.eval x = xv) (hl : news.length = m * size) (hsrc : Src w xv m news) (h1 : ∀ u ∈ news, u.oneCell' = true)
    (h63 : n + m ≤ maxLen) (hbytes : (n + m) * bytes ≤ 140737488355328) (hbase : base ≤ w.heap.size)
    (h : ∀ v' w', AppA w base e size v n m (xs ++ news) v' w' → wpList P ops Q rest (a.put o.dst v') w') : wpList P ops Q (o :: rest) a w :=
  wpList_plain hgd fun _ hK => by
    obtain ⟨v', w', hr, h2⟩ := run_append_a (P := P) (w := w) base t o.type e i z size bytes ht hi hz hsize hby hzs hsz v n m xs hown xv news hl hsrc h1 h63 hbytes hbase
    unfold Oper.wp execOp
    simp only [ho, resolve, invoke, builtin, Sem.run_bind, Sem.run_pure, Result.andThen_ok, List.map_toArray, List.map_cons, List.map_nil, hs, hx, hr]
    exact hK _ _ (h v' w' h2)
end

/-- a row as it is read: a slice value and its cells, in a block of S -/
def RowR (w : World) (S : Nat → Prop) (size : Nat) (v : Value) (n : Nat) (cs : List Value) : Prop :=
  cs.length = n * size ∧ ((v = .slice none 0 0 ∧ n = 0) ∨ ∃ g o c, v = .slice (some ⟨g, o, none⟩) n c ∧ 0 < n ∧ n ≤ c ∧ c ≤ maxLen ∧ S g ∧ ∀ j u, cs[j]? = some u → w.cell? ⟨g, o + j, none⟩ = some u)
section
variable {P : Program}
end

/-- a map, as it is read: its keys' row, its values' row -/
def MapR (w : World) (S : Nat → Prop) (ks : List ByteArray) (vs : List V) (kv vv : Value) : Prop :=
  ks.length = vs.length ∧ RowR w S 1 kv ks.length (ks.map .string) ∧ ∃ cs, RowR w S 6 vv vs.length cs ∧ ∀ i (hi : i < vs.length), ∃ c0 c1 c2 c3 c4 c5, SixAt cs (i * 6) c0 c1 c2 c3 c4 c5 ∧ RV w S vs[i] (.agg #[c0, c1, c2, c3, c4, c5])
theorem RowR.rk {w : World} {S : Nat → Prop} {kv : Value} {ks : List ByteArray} (h : RowR w S 1 kv ks.length (ks.map .string)) : ∃ ka kc, kv = .slice ka ks.length kc ∧ RK w S ks ka := by
  obtain ⟨h0, ⟨rfl, hn⟩ | ⟨g, o, c, rfl, hn0, hnc, hcm, hS, hc⟩⟩ := h
  · have : ks = [] := List.length_eq_zero_iff.1 hn
    subst this
    exact ⟨none, 0, rfl, trivial⟩
  · exact ⟨_, c, rfl, rk_of ks g o (fun _ => hS) fun i hi => hc i _ (by simp [hi])⟩
theorem MapR.rv {w : World} {S : Nat → Prop} {ks : List ByteArray} {vs : List V} {kv vv : Value} (k h : Int) (t : ByteArray) (r : MapR w S ks vs kv vv) : RV w S (.mk k h t [] ks vs) (.agg #[.int .i64 k, .int .i64 h, .string t, .slice none 0 0, kv, vv]) := by
  obtain ⟨h0, h1, cs, h2, h3⟩ := r
  obtain ⟨ka, kc, rfl, hk⟩ := h1.rk
  rw [RV]
  obtain ⟨hl, ⟨rfl, hn⟩ | ⟨g, o, c, rfl, hn0, hnc, hcm, hS, hc⟩⟩ := h2
  · have : vs = [] := List.length_eq_zero_iff.1 hn
    subst this
    exact ⟨none, 0, ka, kc, none, 0, rfl, by rw [RL]; trivial, hk, by rw [RL]; trivial⟩
  · refine ⟨none, 0, ka, kc, _, c, rfl, by rw [RL]; trivial, hk, RL.of vs g o (fun _ => hS) fun i hi => ?_⟩
    obtain ⟨c0, c1, c2, c3, c4, c5, ⟨k0, k1, k2, k3, k4, k5⟩, hx⟩ := h3 i hi
    exact ⟨c0, c1, c2, c3, c4, c5, ⟨hc _ _ k0, by rw [Nat.add_assoc]; exact hc _ _ k1, by rw [Nat.add_assoc]; exact hc _ _ k2, by rw [Nat.add_assoc]; exact hc _ _ k3, by rw [Nat.add_assoc]; exact hc _ _ k4, by rw [Nat.add_assoc]; exact hc _ _ k5⟩, hx⟩
/-- the cells of values -/
def SixL (w : World) (S : Nat → Prop) (vs : List V) (cs : List Value) : Prop := cs.length = vs.length * 6 ∧ ∀ i (hi : i < vs.length), ∃ c0 c1 c2 c3 c4 c5, SixAt cs (i * 6) c0 c1 c2 c3 c4 c5 ∧ RV w S vs[i] (.agg #[c0, c1, c2, c3, c4, c5])
theorem SixL.app {w : World} {S : Nat → Prop} {a b : List V} {cs ds : List Value} (h : SixL w S a cs) (k : SixL w S b ds) : SixL w S (a ++ b) (cs ++ ds) := by
  obtain ⟨h0, h1⟩ := h
  obtain ⟨k0, k1⟩ := k
  refine ⟨by rw [List.length_append, List.length_append, h0, k0, Nat.add_mul], fun i hi => ?_⟩
  rw [List.length_append] at hi
  by_cases c : i < a.length
  · obtain ⟨d0, d1, d2, d3, d4, d5, h6, hx⟩ := h1 i c
    exact ⟨d0, d1, d2, d3, d4, d5, h6.old, by rw [List.getElem_append_left c]; exact hx⟩
  · obtain ⟨d0, d1, d2, d3, d4, d5, h6, hx⟩ := k1 (i - a.length) (by omega)
    refine ⟨d0, d1, d2, d3, d4, d5, ?_, by rw [List.getElem_append_right (by omega)]; exact hx⟩
    have := h6.shift (cs := cs)
    rwa [h0, show a.length * 6 + (i - a.length) * 6 = i * 6 by omega] at this
theorem SixL.one {w : World} {S : Nat → Prop} {y : V} {c0 c1 c2 c3 c4 c5 : Value} (h : RV w S y (.agg #[c0, c1, c2, c3, c4, c5])) : SixL w S [y] [c0, c1, c2, c3, c4, c5] :=
  ⟨rfl, fun i hi => by
    obtain rfl : i = 0 := by simpa using hi
    exact ⟨c0, c1, c2, c3, c4, c5, ⟨rfl, rfl, rfl, rfl, rfl, rfl⟩, h⟩⟩
theorem SixL.take {w : World} {S : Nat → Prop} {a : List V} {cs : List Value} (h : SixL w S a cs) (i : Nat) (hi : i ≤ a.length) : SixL w S (a.take i) (cs.take (i * 6)) := by
  obtain ⟨h0, h1⟩ := h
  refine ⟨by rw [List.length_take, List.length_take, h0]; omega, fun j hj => ?_⟩
  rw [List.length_take] at hj
  obtain ⟨d0, d1, d2, d3, d4, d5, ⟨k0, k1, k2, k3, k4, k5⟩, hx⟩ := h1 j (by omega)
  refine ⟨d0, d1, d2, d3, d4, d5, ?_, by rw [List.getElem_take]; exact hx⟩
  refine ⟨?_, ?_, ?_, ?_, ?_, ?_⟩ <;> (rw [List.getElem?_take_of_lt (by omega)]; assumption)
theorem SixL.drop {w : World} {S : Nat → Prop} {a : List V} {cs : List Value} (h : SixL w S a cs) (i : Nat) (hi : i ≤ a.length) : SixL w S (a.drop i) (cs.drop (i * 6)) := by
  obtain ⟨h0, h1⟩ := h
  refine ⟨by rw [List.length_drop, List.length_drop, h0]; omega, fun j hj => ?_⟩
  rw [List.length_drop] at hj
  obtain ⟨d0, d1, d2, d3, d4, d5, ⟨k0, k1, k2, k3, k4, k5⟩, hx⟩ := h1 (i + j) (by omega)
  refine ⟨d0, d1, d2, d3, d4, d5, ?_, by rw [List.getElem_drop]; exact hx⟩
  refine ⟨?_, ?_, ?_, ?_, ?_, ?_⟩ <;> rw [List.getElem?_drop]
  · rw [show i * 6 + j * 6 = (i + j) * 6 by omega]; exact k0
  · rw [show i * 6 + (j * 6 + 1) = (i + j) * 6 + 1 by omega]; exact k1
  · rw [show i * 6 + (j * 6 + 2) = (i + j) * 6 + 2 by omega]; exact k2
  · rw [show i * 6 + (j * 6 + 3) = (i + j) * 6 + 3 by omega]; exact k3
  · rw [show i * 6 + (j * 6 + 4) = (i + j) * 6 + 4 by omega]; exact k4
  · rw [show i * 6 + (j * 6 + 5) = (i + j) * 6 + 5 by omega]; exact k5
theorem SixL.ones {w : World} {S : Nat → Prop} {vs : List V} {cs : List Value} (h : SixL w S vs cs) : ∀ u ∈ cs, u.oneCell' = true := rows_one h.1 h.2
end Go.Proofs.YtgjmgneppecfgaaGreatDoor.Va
namespace Go.Proofs.YtgjmgneppecfgaaGreatDoor.Mc
open Go.RowKit Go.Proofs.YtgjmgneppecfgaaGreatDoor.Va Go.Proofs.YtgjmgneppecfgaaGreatDoor.Ba Go.Proofs.YtgjmgneppecfgaaGreatDoor.Ma
set_option linter.unusedVariables false
set_option linter.unusedSimpArgs false

/-- the builder at b holds bs; its rows lie from block B on -/
def IsBp (B b : Nat) (p : Value) (bs : List Nat) (w : World) : Prop :=
  B ≤ b ∧ ∃ v, w.heap[b]? = some (.cells #[p, v] 243 (0, 0)) ∧ w.ownsRow B 5 1 v bs.length (cellsD bs) ∧ v.ownBlock ≠ some b
def IsB (B b : Nat) (bs : List Nat) (w : World) : Prop := IsBp B b (.pointer none) bs w ∨ IsBp B b (.pointer (some ⟨b, 0, none⟩)) bs w
theorem size_b : (Tryz.prog.info? 243).map (·.size) = some 2 := by kernel_rfl
theorem lies_b : liesAt Tryz.prog Tryz.prog.depth 243 (2 / Tryz.prog.cellsOf 243) 0 243 1 = true := by kernel_rfl
def CopyEnd (B b : Nat) (bs : List Nat) (w : World) (e : Ending) (w' : World) : Prop := e = .returned (.tuple #[]) ∧ IsBp B b (.pointer (some ⟨b, 0, none⟩)) bs w' ∧ w.grownBy w' (some b)
set_option maxHeartbeats 1000000 in
set_option maxRecDepth 100000 in
theorem copy_any (B b : Nat) (bs : List Nat) (w : World) (h : IsB B b bs w) : Calls Tryz.prog 294 #[.pointer (some ⟨b, 0, none⟩)] w (CopyEnd B b bs w) := by
  obtain ⟨j, hj, hjs⟩ := Option.map_eq_some_iff.1 size_b
  rcases h with ⟨hB, v, hb, ho, hne⟩ | ⟨hB, v, hb, ho, hne⟩
  · have c := cells2 hb
    have hsh : w.shape? b = some (243, 2) := by unfold World.shape?; rw [hb]; rfl
    have HB := Lib.hid hb
    have HO := Lib.hid ho
    clear hb ho
    go_enter Tryz.func294, Tryz.ntmps294
    go_wp2_with fail
    rw [Lib.run_to_unsafe w ⟨b, 0, none⟩ Tryz.underlying241 Tryz.underlying219 hj (by rw [hjs]; decide) hsh (Nat.zero_lt_succ 1)]
    simp only [Result.andThen]
    rw [Oper.upon_value]
    go_wp2_with fail
    rw [run_callFunc_extern Tryz.func303 (by kernel_rfl) (by kernel_rfl) (by kernel_rfl) (e := Extern.AbiNoEscape.same) (by kernel_rfl)]
    rw [Lib.run_noEscape]
    simp only [Result.andThen]
    rw [Oper.upon_value]
    go_wp2_with fail
    rw [Lib.run_from_unsafe w ⟨b, 0, none⟩ Tryz.underlying219 Tryz.underlying241 hj hsh lies_b]
    simp only [Result.andThen]
    rw [Oper.upon_value]
    go_wp2_with fail
    go_returns
    refine ⟨rfl, ⟨hB, v, set_block HB.out 0 _, ownsRow_same HO.out (fun k hk => set_other 0 _ (fun e => hne (by rw [← hk, e]))), hne⟩, Va.gr_set _ _ _ _⟩
  · have c := cells2 hb
    have HB := Lib.hid hb
    have HO := Lib.hid ho
    clear hb ho
    go_enter Tryz.func294, Tryz.ntmps294
    go_wp2_with fail
    rw [Lib.run_neq_ptr_same w _ Tryz.underlying241 hj]
    go_wp2_with fail
    go_returns
    exact ⟨rfl, ⟨hB, v, HB.out, HO.out, hne⟩, Va.gr_refl _ _⟩
/-- blocks that are neither the builder's nor rows of bytes stand -/
def KeepB (b : Nat) (w w' : World) : Prop := ∀ k o, w.heap[k]? = some o → k ≠ b → (∀ c fz, o ≠ .cells c 5 fz) → w'.heap[k]? = some o
theorem keepB_row {b base n : Nat} {v : Value} {xs : List Value} {w w' : World} (ho : w.ownsRow base 5 1 v n xs) (hg : w.grownBy w' v.ownBlock) : KeepB b w w' := by
  intro k o hk _ hno
  refine (hg.block k (heap_lt hk) (fun e => ?_)).trans hk
  rcases ho.2 with ⟨rfl, _⟩ | ⟨g, cap, cur, rfl, _, hgb, _⟩
  · cases e
  · cases e
    rw [hk] at hgb
    cases hgb
    exact hno _ _ rfl
theorem keepB_gr {b : Nat} {w w' : World} (hg : w.grownBy w' (some b)) : KeepB b w w' := fun k o hk hb _ => (hg.block k (heap_lt hk) (fun e => hb (Option.some.inj e))).trans hk
theorem KeepB.trans {b : Nat} {u v w : World} (h : KeepB b u v) (k : KeepB b v w) : KeepB b u w := fun i o hi hb hno => k i o (h i o hi hb hno) hb hno
/-- what a writer leaves -/
def WroteBd (B b : Nat) (bs : List Nat) (w w' : World) : Prop := IsBp B b (.pointer (some ⟨b, 0, none⟩)) bs w' ∧ Below B w w' ∧ KeepB b w w'
theorem wrote_mk {B b n : Nat} {bs cs : List Nat} {v v' : Value} {w w1 w2 : World} (hB : B ≤ b) (hz : B ≤ w.heap.size) (h1 : w.grownBy w1 (some b)) (hb : w1.heap[b]? = some (.cells #[.pointer (some ⟨b, 0, none⟩), v] 243 (0, 0))) (ho : w1.ownsRow B 5 1 v bs.length (cellsD bs)) (hne : v.ownBlock ≠ some b)
    (hn : n = (bs ++ cs).length) (ho2 : w2.ownsRow B 5 1 v' n (cellsD (bs ++ cs))) (hg : w1.grownBy w2 v.ownBlock) : WroteBd B b (bs ++ cs) w (w2.setCell ⟨b, 1, none⟩ v') := by
  subst hn
  have hb2 := (hg.block b (heap_lt hb) (fun e => hne e.symm)).trans hb
  have hne' : v'.ownBlock ≠ some b := by
    intro e
    rcases ho2.2 with ⟨rfl, _⟩ | ⟨g, cap, cur, rfl, _, hgb, _⟩
    · cases e
    · cases e
      rw [hb2] at hgb
      cases hgb
  refine ⟨⟨hB, v', set_block hb2 1 v', ownsRow_same ho2 (fun k hk => set_other 1 v' (fun e => hne' (by rw [← hk, e]))), hne'⟩, ?_, ?_⟩
  · have b1 : Below B w w1 := Below.grown (Below.refl _ _) h1 hz (fun k hk => by cases hk; exact hB)
    exact (Below.grown b1 hg (Nat.le_trans hz h1.size) (fun k hk => (ho.lt k hk).1)).setCell hB _
  · exact ((keepB_gr h1).trans (keepB_row ho hg)).trans (fun k o hk hb' _ => (set_other 1 v' hb').trans hk)
theorem cellsD_app (a c : List Nat) : cellsD (a ++ c) = cellsD a ++ cellsD c := List.map_append
theorem strCells_eq (s : ByteArray) : Lib.strCells s = cellsD (bytesN s) := by
  unfold Lib.strCells cellsD bytesN
  rw [List.map_map]
  rfl
theorem cellsD_len (a : List Nat) : (cellsD a).length = a.length := by unfold cellsD; rw [List.length_map]
theorem cellsD_one (bs : List Nat) : ∀ v ∈ cellsD bs, v.oneCell' = true := by
  intro v hv
  unfold cellsD at hv
  obtain ⟨x, _, rfl⟩ := List.mem_map.1 hv
  rfl
def WsEnd (n : Int) (B b : Nat) (bs : List Nat) (w : World) (e : Ending) (w' : World) : Prop := e = .returned (.tuple #[.int .i64 n, .nilIface]) ∧ WroteBd B b bs w w'
def WbEnd (B b : Nat) (bs : List Nat) (w : World) (e : Ending) (w' : World) : Prop := e = .returned .nilIface ∧ WroteBd B b bs w w'
set_option maxHeartbeats 2000000 in
set_option maxRecDepth 100000 in
theorem writeString_b (B b : Nat) (bs : List Nat) (s : ByteArray) (w : World) (h : IsB B b bs w) (hB : B ≤ w.heap.size) (hlim : bs.length + s.size ≤ 140737488355328) :
    Calls Tryz.prog 270 #[.pointer (some ⟨b, 0, none⟩), .string s] w (WsEnd (s.size : Int) B b (bs ++ bytesN s) w) := by
  obtain ⟨i8, hi, hz0, hz1, hz2⟩ := info_parts info8
  have HI := Lib.hid (And.intro hi (And.intro hz0 (And.intro hz1 hz2)))
  have H := Lib.hid h
  clear hi hz0 hz1 hz2 h
  go_enter Tryz.func270, Tryz.ntmps270
  go_wp2_with fail
  refine (copy_any B b bs w H.out).mono ?_
  rintro e w1 ⟨rfl, ⟨hBb, v, hb, ho, hne⟩, hg1⟩
  have c := cells2 hb
  have HB := Lib.hid hb
  have HO := Lib.hid ho
  have HG := Lib.hid hg1
  have hs1 := hg1.size
  clear hb ho hg1
  go_wp2_with (at_builtin; refine Lib.wpList_append_own_string _ rfl _ _ 73 9 rfl B 5 i8 Tryz.underlying73 Tryz.underlying9 HI.out.1 HI.out.2.1 HI.out.2.2.1 HI.out.2.2.2 _ _ _ rfl HO.out s rfl (by unfold maxLen; omega) hlim (by omega) ?_; intro v' w2 ho2 hg2 _
               have hb2 := (hg2.block b (heap_lt HB.out) (fun e => hne e.symm)).trans HB.out
               have d := cells2 hb2
               rw [strCells_eq, ← cellsD_app] at ho2
               obtain ⟨a9, c9, rfl⟩ := ownsRow_slice ho2
               have HO2 := Lib.hid ho2
               have HG2 := Lib.hid hg2
               clear ho2 hg2 hb2 c)
  go_returns
  exact ⟨rfl, wrote_mk hBb hB HG.out HB.out HO.out hne (by rw [List.length_append, bytesN_len]) HO2.out HG2.out⟩
set_option maxHeartbeats 2000000 in
set_option maxRecDepth 100000 in
theorem writeByte_b (B b x : Nat) (bs : List Nat) (w : World) (h : IsB B b bs w) (hB : B ≤ w.heap.size) (hlim : bs.length + 1 ≤ 140737488355328) :
    Calls Tryz.prog 269 #[.pointer (some ⟨b, 0, none⟩), .int .u8 (x : Int)] w (WbEnd B b (bs ++ [x]) w) := by
  obtain ⟨i8, hi, hz0, hz1, hz2⟩ := info_parts info8
  have HI := Lib.hid (And.intro hi (And.intro hz0 (And.intro hz1 hz2)))
  have H := Lib.hid h
  clear hi hz0 hz1 hz2 h
  go_enter Tryz.func269, Tryz.ntmps269
  go_wp2_with fail
  refine (copy_any B b bs w H.out).mono ?_
  rintro e w1 ⟨rfl, ⟨hBb, v, hb, ho, hne⟩, hg1⟩
  have c := cells2 hb
  have HB := Lib.hid hb
  have HO := Lib.hid ho
  have HG := Lib.hid hg1
  have hs1 := hg1.size
  clear hb ho hg1
  go_wp2_with (at_builtin; refine wpList_append_one _ rfl _ _ 73 rfl B 5 i8 _ 1 1 Tryz.underlying73 HI.out.1 HI.out.2.1 HI.out.2.2.1 HI.out.2.2.2 rfl (by decide) _ _ _ rfl (ownsRow_same HO.out (fun k hk => (below_alloc w1 _).block k (HO.out.lt k hk.symm).2)) ⟨w1.heap.size, 0, none⟩ 1 [.int .u8 (x : Int)] rfl rfl (cell_new w1 _ _) (by simp [Value.oneCell']) (by unfold maxLen; omega) (by omega) (by rw [World.size_alloc]; omega) ?_; intro v' w2 hap
               have hg2 : w1.grownBy w2 v.ownBlock := ⟨hap.grown.os, hap.grown.tape, hap.grown.output, by have := hap.grown.size; rw [World.size_alloc] at this; omega, fun k hk hr => (hap.grown.block k (by rw [World.size_alloc]; omega) hr).trans ((below_alloc w1 _).block k hk)⟩
               have ho2 : w2.ownsRow B 5 1 v' (bs.length + 1) (cellsD (bs ++ [x])) := by rw [cellsD_app]; exact hap.owns
               have hb2 := (hg2.block b (heap_lt HB.out) (fun e => hne e.symm)).trans HB.out
               have d := cells2 hb2
               obtain ⟨vg, vcap, rfl⟩ := hap.made
               have HO2 := Lib.hid ho2
               have HG2 := Lib.hid hg2
               clear ho2 hg2 hb2 c hap)
  go_returns
  exact ⟨rfl, wrote_mk hBb hB HG.out HB.out HO.out hne (by rw [List.length_append]; rfl) HO2.out HG2.out⟩
set_option maxHeartbeats 2000000 in
set_option maxRecDepth 100000 in
theorem write_b (B b g o n c : Nat) (bs cs : List Nat) (w : World) (h : IsB B b bs w) (hB : B ≤ w.heap.size) (hgb : g ≠ b) (hn : cs.length = n) (hc : ∀ j, j < n → w.cell? ⟨g, o + j, none⟩ = some (.int .u8 ((cs.getD j 0 : Nat) : Int))) (hlim : bs.length + n ≤ 140737488355328) :
    Calls Tryz.prog 338 #[.pointer (some ⟨b, 0, none⟩), .slice (some ⟨g, o, none⟩) n c] w (WsEnd (n : Int) B b (bs ++ cs) w) := by
  obtain ⟨i8, hi, hz0, hz1, hz2⟩ := info_parts info8
  have HI := Lib.hid (And.intro hi (And.intro hz0 (And.intro hz1 hz2)))
  have H := Lib.hid h
  have HC := Lib.hid hc
  have HN := Lib.hid hn
  clear hi hz0 hz1 hz2 h hc hn
  go_enter Tryz.func338, Tryz.ntmps338
  go_wp2_with fail
  refine (copy_any B b bs w H.out).mono ?_
  rintro e w1 ⟨rfl, ⟨hBb, v, hb, ho, hne⟩, hg1⟩
  have c := cells2 hb
  have HB := Lib.hid hb
  have HO := Lib.hid ho
  have HG := Lib.hid hg1
  have hs1 := hg1.size
  have HNEW : Hid (∀ j u, (cellsD cs)[j]? = some u → w1.cell? ((⟨g, o, none⟩ : Addr).add j) = some u) := Lib.hid (fun j u hj => by
    have hjn : j < cs.length := by
      have := (List.getElem?_eq_some_iff.1 hj).1
      rwa [cellsD_len] at this
    have e : u = .int .u8 ((cs.getD j 0 : Nat) : Int) := by
      unfold cellsD at hj
      rw [List.getElem?_map, List.getElem?_eq_getElem hjn] at hj
      rw [List.getD, List.getElem?_eq_getElem hjn]
      simpa using hj.symm
    have hcj := HC.out j (by have := HN.out; omega)
    rw [e, Lib.addr_add]
    exact (World.cell?_of_block (w := w) (hg1.block g (cell_lt hcj) (fun e => hgb (Option.some.inj e)))).trans hcj)
  clear hb ho hg1
  go_wp2_with (at_builtin; refine wpList_append_a rfl _ _ 73 rfl B 5 i8 _ 1 1 Tryz.underlying73 HI.out.1 HI.out.2.1 HI.out.2.2.1 HI.out.2.2.2 rfl (by decide) _ _ n _ rfl HO.out _ (cellsD cs) rfl (by rw [cellsD_len, HN.out]; omega) (.inr ⟨_, _, rfl, HNEW.out⟩) (cellsD_one cs) (by unfold maxLen; omega) (by omega) (by omega) ?_; intro v' w2 hap
               have ho2 : w2.ownsRow B 5 1 v' (bs.length + n) (cellsD (bs ++ cs)) := by rw [cellsD_app]; exact hap.owns
               have hb2 := (hap.grown.block b (heap_lt HB.out) (fun e => hne e.symm)).trans HB.out
               have d := cells2 hb2
               obtain ⟨a9, c9, rfl⟩ := ownsRow_slice ho2
               have HO2 := Lib.hid ho2
               have HG2 := Lib.hid hap.grown
               clear ho2 hb2 c hap)
  go_returns
  exact ⟨rfl, wrote_mk hBb hB HG.out HB.out HO.out hne (by rw [List.length_append, HN.out]) HO2.out HG2.out⟩
end Go.Proofs.YtgjmgneppecfgaaGreatDoor.Mc
namespace Go.Proofs
open Go.Shelf
def Tryz.lays197_ren : Go.Shelf.Ren := ⟨fun | 197 => 185 | 260 => 215 | n => n, fun | 9 => 9 | 21 => 21 | 3 => 3 | 4 => 4 | 5 => 5 | 105 => 190 | 119 => 83 | 0 => 0 | 46 => 87 | 139 => 86 | 138 => 85 | n => n, fun | 3 => 0 | 4 => 1 | n => n⟩
theorem Tryz.lays197 : Go.Proofs.Lays.n197 Tryz.prog Tryz.lays197_ren := {
  mixed := by kernel_rfl
  f197 := Tryz.func185.trans (congrArg some (by kernel_rfl))
  f260 := Tryz.func215.trans (congrArg some (by kernel_rfl))
  t0 := Tryz.underlying0
  a0 := Tryz.isAgg0
  z0 := Tryz.sizeOf0
  v0 := Tryz.zeroValue0
  t3 := Tryz.underlying3
  a3 := Tryz.isAgg3
  z3 := Tryz.sizeOf3
  v3 := Tryz.zeroValue3
  t4 := Tryz.underlying4
  a4 := Tryz.isAgg4
  z4 := Tryz.sizeOf4
  v4 := Tryz.zeroValue4
  t5 := Tryz.underlying5
  a5 := Tryz.isAgg5
  z5 := Tryz.sizeOf5
  v5 := Tryz.zeroValue5
  t9 := Tryz.underlying9
  a9 := Tryz.isAgg9
  z9 := Tryz.sizeOf9
  v9 := Tryz.zeroValue9
  t21 := Tryz.underlying21
  a21 := Tryz.isAgg21
  z21 := Tryz.sizeOf21
  v21 := Tryz.zeroValue21
  t46 := Tryz.underlying87
  a46 := Tryz.isAgg87
  z46 := Tryz.sizeOf87
  v46 := Tryz.zeroValue87
  t105 := Tryz.underlying190
  a105 := Tryz.isAgg190
  z105 := Tryz.sizeOf190
  v105 := Tryz.zeroValue190
  t119 := Tryz.underlying83
  a119 := Tryz.isAgg83
  z119 := Tryz.sizeOf83
  t138 := Tryz.underlying85
  a138 := Tryz.isAgg85
  z138 := Tryz.sizeOf85
  v138 := Tryz.zeroValue85
  t139 := Tryz.underlying86
  a139 := Tryz.isAgg86
  z139 := Tryz.sizeOf86
  v139 := Tryz.zeroValue86
  g3 := by kernel_rfl
  g4 := by kernel_rfl }
def Tryz.laysGg6_ren : Go.Shelf.Ren := ⟨fun | 6 => 186 | 10 => 216 | 11 => 217 | 12 => 218 | 13 => 219 | 14 => 220 | 24 => 255 | 25 => 256 | 26 => 257 | 27 => 258 | 28 => 259 | 29 => 260 | 30 => 261 | 31 => 262 | 32 => 263 | 33 => 264 | 34 => 289 | 35 => 290 | 36 => 291 | 37 => 292 | 38 => 293 | 39 => 302 | n => n, fun | 20 => 20 | 26 => 148 | 35 => 222 | 0 => 0 | 37 => 224 | 3 => 3 | 41 => 87 | 44 => 230 | 49 => 237 | 51 => 129 | 4 => 4 | 54 => 279 | 53 => 278 | 58 => 94 | 5 => 5 | 9 => 9 | 60 => 303 | 64 => 307 | 66 => 313 | 67 => 314 | 17 => 17 | 32 => 219 | 33 => 220 | 82 => 331 | 12 => 12 | 75 => 325 | 76 => 326 | 77 => 327 | 78 => 286 | 79 => 328 | 80 => 329 | n => n, fun | n => n⟩
theorem Tryz.laysGg6 : Go.Proofs.LaysGg.n6 Tryz.prog Tryz.laysGg6_ren := {
  mixed := by kernel_rfl
  f6 := Tryz.func186.trans (congrArg some (by kernel_rfl))
  f10 := Tryz.func216.trans (congrArg some (by kernel_rfl))
  f11 := Tryz.func217.trans (congrArg some (by kernel_rfl))
  f12 := Tryz.func218.trans (congrArg some (by kernel_rfl))
  f13 := Tryz.func219.trans (congrArg some (by kernel_rfl))
  f14 := Tryz.func220.trans (congrArg some (by kernel_rfl))
  f24 := Tryz.func255.trans (congrArg some (by kernel_rfl))
  f25 := Tryz.func256.trans (congrArg some (by kernel_rfl))
  f26 := Tryz.func257.trans (congrArg some (by kernel_rfl))
  f27 := Tryz.func258.trans (congrArg some (by kernel_rfl))
  f28 := Tryz.func259.trans (congrArg some (by kernel_rfl))
  f29 := Tryz.func260.trans (congrArg some (by kernel_rfl))
  f30 := Tryz.func261.trans (congrArg some (by kernel_rfl))
  f31 := Tryz.func262.trans (congrArg some (by kernel_rfl))
  f32 := Tryz.func263.trans (congrArg some (by kernel_rfl))
  f33 := Tryz.func264.trans (congrArg some (by kernel_rfl))
  f34 := Tryz.func289.trans (congrArg some (by kernel_rfl))
  f35 := Tryz.func290.trans (congrArg some (by kernel_rfl))
  f36 := Tryz.func291.trans (congrArg some (by kernel_rfl))
  f37 := Tryz.func292.trans (congrArg some (by kernel_rfl))
  f38 := Tryz.func293.trans (congrArg some (by kernel_rfl))
  f39 := Tryz.func302.trans (congrArg some (by kernel_rfl))
  t0 := Tryz.underlying0
  a0 := Tryz.isAgg0
  z0 := Tryz.sizeOf0
  v0 := Tryz.zeroValue0
  i0 := by kernel_rfl
  t3 := Tryz.underlying3
  a3 := Tryz.isAgg3
  z3 := Tryz.sizeOf3
  v3 := Tryz.zeroValue3
  i3 := by kernel_rfl
  t4 := Tryz.underlying4
  a4 := Tryz.isAgg4
  z4 := Tryz.sizeOf4
  v4 := Tryz.zeroValue4
  i4 := by kernel_rfl
  t5 := Tryz.underlying5
  a5 := Tryz.isAgg5
  z5 := Tryz.sizeOf5
  v5 := Tryz.zeroValue5
  i5 := by kernel_rfl
  t9 := Tryz.underlying9
  a9 := Tryz.isAgg9
  z9 := Tryz.sizeOf9
  v9 := Tryz.zeroValue9
  i9 := by kernel_rfl
  t12 := Tryz.underlying12
  a12 := Tryz.isAgg12
  z12 := Tryz.sizeOf12
  v12 := Tryz.zeroValue12
  i12 := by kernel_rfl
  t17 := Tryz.underlying17
  a17 := Tryz.isAgg17
  z17 := Tryz.sizeOf17
  v17 := Tryz.zeroValue17
  i17 := by kernel_rfl
  t20 := Tryz.underlying20
  a20 := Tryz.isAgg20
  z20 := Tryz.sizeOf20
  v20 := Tryz.zeroValue20
  i20 := by kernel_rfl
  t26 := Tryz.underlying148
  a26 := Tryz.isAgg148
  z26 := Tryz.sizeOf148
  v26 := Tryz.zeroValue148
  i26 := by kernel_rfl
  t32 := Tryz.underlying219
  a32 := Tryz.isAgg219
  z32 := Tryz.sizeOf219
  v32 := Tryz.zeroValue219
  i32 := by kernel_rfl
  t33 := Tryz.underlying220
  a33 := Tryz.isAgg220
  z33 := Tryz.sizeOf220
  v33 := Tryz.zeroValue220
  i33 := by kernel_rfl
  t35 := Tryz.underlying222
  a35 := Tryz.isAgg222
  z35 := Tryz.sizeOf222
  v35 := Tryz.zeroValue222
  i35 := by kernel_rfl
  t37 := Tryz.underlying224
  a37 := Tryz.isAgg224
  z37 := Tryz.sizeOf224
  v37 := Tryz.zeroValue224
  i37 := by kernel_rfl
  t41 := Tryz.underlying87
  a41 := Tryz.isAgg87
  z41 := Tryz.sizeOf87
  v41 := Tryz.zeroValue87
  i41 := by kernel_rfl
  t44 := Tryz.underlying230
  a44 := Tryz.isAgg230
  z44 := Tryz.sizeOf230
  v44 := Tryz.zeroValue230
  i44 := by kernel_rfl
  t49 := Tryz.underlying237
  a49 := Tryz.isAgg237
  z49 := Tryz.sizeOf237
  v49 := Tryz.zeroValue237
  i49 := by kernel_rfl
  t51 := Tryz.underlying129
  a51 := Tryz.isAgg129
  z51 := Tryz.sizeOf129
  v51 := Tryz.zeroValue129
  i51 := by kernel_rfl
  t53 := Tryz.underlying278
  a53 := Tryz.isAgg278
  z53 := Tryz.sizeOf278
  v53 := Tryz.zeroValue278
  i53 := by kernel_rfl
  t54 := Tryz.underlying279
  a54 := Tryz.isAgg279
  z54 := Tryz.sizeOf279
  v54 := Tryz.zeroValue279
  i54 := by kernel_rfl
  t58 := Tryz.underlying94
  a58 := Tryz.isAgg94
  z58 := Tryz.sizeOf94
  v58 := Tryz.zeroValue94
  i58 := by kernel_rfl
  t60 := Tryz.underlying303
  a60 := Tryz.isAgg303
  z60 := Tryz.sizeOf303
  v60 := Tryz.zeroValue303
  i60 := by kernel_rfl
  t64 := Tryz.underlying307
  a64 := Tryz.isAgg307
  z64 := Tryz.sizeOf307
  v64 := Tryz.zeroValue307
  i64 := by kernel_rfl
  t66 := Tryz.underlying313
  a66 := Tryz.isAgg313
  z66 := Tryz.sizeOf313
  v66 := Tryz.zeroValue313
  i66 := by kernel_rfl
  t67 := Tryz.underlying314
  a67 := Tryz.isAgg314
  z67 := Tryz.sizeOf314
  v67 := Tryz.zeroValue314
  i67 := by kernel_rfl
  t75 := Tryz.underlying325
  a75 := Tryz.isAgg325
  z75 := Tryz.sizeOf325
  v75 := Tryz.zeroValue325
  i75 := by kernel_rfl
  t76 := Tryz.underlying326
  a76 := Tryz.isAgg326
  z76 := Tryz.sizeOf326
  v76 := Tryz.zeroValue326
  i76 := by kernel_rfl
  t77 := Tryz.underlying327
  a77 := Tryz.isAgg327
  z77 := Tryz.sizeOf327
  v77 := Tryz.zeroValue327
  i77 := by kernel_rfl
  t78 := Tryz.underlying286
  a78 := Tryz.isAgg286
  z78 := Tryz.sizeOf286
  v78 := Tryz.zeroValue286
  i78 := by kernel_rfl
  t79 := Tryz.underlying328
  a79 := Tryz.isAgg328
  z79 := Tryz.sizeOf328
  v79 := Tryz.zeroValue328
  i79 := by kernel_rfl
  t80 := Tryz.underlying329
  a80 := Tryz.isAgg329
  z80 := Tryz.sizeOf329
  v80 := Tryz.zeroValue329
  i80 := by kernel_rfl
  t82 := Tryz.underlying331
  a82 := Tryz.isAgg331
  z82 := Tryz.sizeOf331
  v82 := Tryz.zeroValue331
  i82 := by kernel_rfl }
end Go.Proofs
namespace Go.Proofs.YtgjmgneppecfgaaGreatDoor.Mb
open Go.RowKit Go.Proofs.YtgjmgneppecfgaaGreatDoor.Va Go.Proofs.YtgjmgneppecfgaaGreatDoor.Ba Go.Proofs.YtgjmgneppecfgaaGreatDoor.Ma
set_option linter.unusedVariables false
set_option linter.unusedSimpArgs false

/-- blocks that are neither the buffer's nor the encoder's nor rows of bytes stand -/
def KeepE (b E : Nat) (w w' : World) : Prop := ∀ k o, w.heap[k]? = some o → k ≠ b → k ≠ E → (∀ c fz, o ≠ .cells c 5 fz) → w'.heap[k]? = some o
theorem KeepE.refl (b E : Nat) (w : World) : KeepE b E w w := fun _ _ h _ _ _ => h
theorem KeepE.trans {b E : Nat} {a c d : World} (h : KeepE b E a c) (k : KeepE b E c d) : KeepE b E a d := fun i o hi h1 h2 ho => k i o (h i o hi h1 h2 ho) h1 h2 ho
theorem byteCells_eq (s : ByteArray) : Lib.byteCells s.data.toList = cellsD (bytesN s) := by
  unfold Lib.byteCells cellsD bytesN
  rw [List.map_map]
  rfl
end Go.Proofs.YtgjmgneppecfgaaGreatDoor.Mb
namespace Go.Proofs.YtgjmgneppecfgaaGreatDoor.Mb
open Go.RowKit Go.Proofs.YtgjmgneppecfgaaGreatDoor.Va Go.Proofs.YtgjmgneppecfgaaGreatDoor.Ba Go.Proofs.YtgjmgneppecfgaaGreatDoor.Ma
set_option linter.unusedVariables false
set_option linter.unusedSimpArgs false

/-- the tables of utf8, in whatever world -/
def Tab (w : World) : Prop := Lib.Utf8Tabs (Tryz.lays197_ren.g 3) (Tryz.lays197_ren.g 4) w
end Go.Proofs.YtgjmgneppecfgaaGreatDoor.Mb
