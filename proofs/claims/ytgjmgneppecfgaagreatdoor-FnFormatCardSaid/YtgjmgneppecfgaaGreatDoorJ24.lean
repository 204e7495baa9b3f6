/-
  FnFormat, texts PaJ McA McE McF: lemmas for the law; the theorem stands in the last text.
-/
import Derived.Laws.Slices
import Derived.Lib.AppendStr
import Derived.Lib.Walk
import Derived.Lib.Builder
import Derived.Lib.UnsafeStr
import Derived.Test.YtgjmgneppecfgaaGreatDoorJ02
import Derived.Test.YtgjmgneppecfgaaGreatDoorJ10
import Derived.Test.YtgjmgneppecfgaaGreatDoorJ14
import Derived.Test.YtgjmgneppecfgaaGreatDoorJ16
namespace Go.Proofs.YtgjmgneppecfgaaGreatDoor.Va
open Go.RowKit
set_option linter.unusedVariables false
set_option linter.unusedSimpArgs false

/-- what is read: m elements, their cells -/
def Src (w : World) (x : Value) (m : Nat) (news : List Value) : Prop :=
  (x = .slice none 0 0 ∧ m = 0 ∧ news = []) ∨ ∃ ad c, x = .slice (some ad) m c ∧ ∀ j u, news[j]? = some u → w.cell? (ad.add j) = some u
/-- what an append of some elements leaves -/
structure AppA (w : World) (base : Nat) (e : TypeId) (size : Nat) (v : Value) (n m : Nat) (xs : List Value) (v' : Value) (w' : World) : Prop where
  owns : w'.ownsRow base e size v' (n + m) xs
  grown : w.grownBy w' v.ownBlock
  wher : v'.ownBlock = v.ownBlock ∨ v'.ownBlock = some w.heap.size
section
variable {P : Program} {w : World}
theorem run_append_a (base : Nat) (t ty e : TypeId) (i : TypeInfo) (z : Value) (size bytes : Nat) (ht : P.underlying t = some (.slice e)) (hi : P.info? e = some i) (hz : i.zero = some z)
    (hsize : i.size = size) (hby : i.bytes = bytes) (hzs : z.cells.size = size) (hsz : 0 < size) (v : Value) (n m : Nat) (xs : List Value) (hown : w.ownsRow base e size v n xs)
    (x : Value) (news : List Value) (hl : news.length = m * size) (hsrc : Src w x m news) (h1 : ∀ u ∈ news, u.oneCell' = true)
    (h63 : n + m ≤ maxLen) (hbytes : (n + m) * bytes ≤ 140737488355328) (hbase : base ≤ w.heap.size) :
    ∃ v' w', (Builtin.append_ #[t, t] ty #[v, x]).run P w = .ok v' w' ∧ AppA w base e size v n m (xs ++ news) v' w' := by
  rcases hsrc with ⟨rfl, rfl, rfl⟩ | ⟨a, c, rfl, hnews⟩
  · exact ⟨v, w, run_append_owned_none (P := P) w base t ty e i size ht hi v n xs hown, by simpa using hown, ⟨rfl, rfl, rfl, Nat.le_refl _, fun _ _ _ => rfl⟩, .inl rfl⟩
  · obtain ⟨v', w', hr, h2, h3, h4⟩ := run_append_own (P := P) w base t ty e i z size bytes ht hi hz hsize hby hzs hsz v n xs hown a m c news hl hnews h1 h63 hbytes hbase
    refine ⟨v', w', hr, h2, h3, ?_⟩
    by_cases hm : m = 0
    · subst hm
      have hn0 : news = [] := List.eq_nil_of_length_eq_zero (by rw [hl, Nat.zero_mul])
      subst hn0
      rcases hown.2 with ⟨rfl, rfl⟩ | ⟨g, cap, cur, rfl, hbg, hg, hnc, hcm, hcs, htake⟩
      · have := h4.2 ⟨rfl, rfl⟩
        subst this
        exact .inl rfl
      · have hh := run_append_room (P := P) w t ty e i ht hi g n cap cur hg a 0 c [] (by simp) (by simp) (by simp) (by omega) (by rw [hsize, hcs]; simp; exact Nat.mul_le_mul_right _ hnc)
        rw [hh] at hr
        cases hr
        exact .inl rfl
    · exact (append_where_m (P := P) w base t ty e i z size bytes ht hi hz hsize hby v n m (by omega) xs hown a c news hl hnews h1 h63 hbytes v' w' hr).1
/-- as an operation of a plain list -/
theorem wpList_append_a {ops : Array Oper} {rest : List Oper} {o : Oper} {a : Act} {Q : Exit → Act → World → Prop} (hgd : o.guard = none) (s x : Operand) (t : TypeId)
    (ho : o.op = .call { callee := .builtin .append, args := #[s, x], argTypes := #[t, t] })
    (base : Nat) (e : TypeId) (i : TypeInfo) (z : Value) (size bytes : Nat) (ht : P.underlying t = some (.slice e)) (hi : P.info? e = some i) (hz : i.zero = some z)
    (hsize : i.size = size) (hby : i.bytes = bytes) (hzs : z.cells.size = size) (hsz : 0 < size)
    (v : Value) (n m : Nat) (xs : List Value) (hs : a.eval s = v) (hown : w.ownsRow base e size v n xs)
    (xv : Value) (news : List Value) (hx : a.eval x = xv) (hl : news.length = m * size) (hsrc : Src w xv m news) (h1 : ∀ u ∈ news, u.oneCell' = true)
    (h63 : n + m ≤ maxLen) (hbytes : (n + m) * bytes ≤ 140737488355328) (hbase : base ≤ w.heap.size)
    (h : ∀ v' w', AppA w base e size v n m (xs ++ news) v' w' → wpList P ops Q rest (a.put o.dst v') w') : wpList P ops Q (o :: rest) a w :=
  wpList_plain hgd fun _ hK => by
    obtain ⟨v', w', hr, h2⟩ := run_append_a (P := P) (w := w) base t o.type e i z size bytes ht hi hz hsize hby hzs hsz v n m xs hown xv news hl hsrc h1 h63 hbytes hbase
    unfold Oper.wp execOp
    simp only [ho, resolve, invoke, builtin, Sem.run_bind, Sem.run_pure, Result.andThen_ok, List.map_toArray, List.map_cons, List.map_nil, hs, hx, hr]
    exact hK _ _ (h v' w' h2)
end

/-- a row as it is read: a slice value and its cells, in a block of S -/
def RowR (w : World) (S : Nat → Prop) (size : Nat) (v : Value) (n : Nat) (cs : List Value) : Prop :=
  cs.length = n * size ∧ ((v = .slice none 0 0 ∧ n = 0) ∨ ∃ g o c, v = .slice (some ⟨g, o, none⟩) n c ∧ 0 < n ∧ n ≤ c ∧ c ≤ maxLen ∧ S g ∧ ∀ j u, cs[j]? = some u → w.cell? ⟨g, o + j, none⟩ = some u)
section
variable {P : Program}
end

/-- a map, as it is read: its keys' row, its values' row -/
def MapR (w : World) (S : Nat → Prop) (ks : List ByteArray) (vs : List V) (kv vv : Value) : Prop :=
  ks.length = vs.length ∧ RowR w S 1 kv ks.length (ks.map .string) ∧ ∃ cs, RowR w S 6 vv vs.length cs ∧ ∀ i (hi : i < vs.length), ∃ c0 c1 c2 c3 c4 c5, SixAt cs (i * 6) c0 c1 c2 c3 c4 c5 ∧ RV w S vs[i] (.agg #[c0, c1, c2, c3, c4, c5])
theorem rk_of {w : World} {S : Nat → Prop} : ∀ (l : List ByteArray) (b o : Nat), (0 < l.length → S b) → (∀ i (hi : i < l.length), w.cell? ⟨b, o + i, none⟩ = some (.string l[i])) → RK w S l (some ⟨b, o, none⟩)
  | [], b, o, _, _ => trivial
  | x :: xs, b, o, hS, h => ⟨b, o, rfl, hS (by simp), h 0 (by simp), rk_of xs b (o + 1) (fun _ => hS (by simp)) fun i hi => by
      have := h (i + 1) (by simpa using hi)
      rw [show o + 1 + i = o + (i + 1) by omega]
      exact this⟩
theorem RowR.rk {w : World} {S : Nat → Prop} {kv : Value} {ks : List ByteArray} (h : RowR w S 1 kv ks.length (ks.map .string)) : ∃ ka kc, kv = .slice ka ks.length kc ∧ RK w S ks ka := by
  obtain ⟨h0, ⟨rfl, hn⟩ | ⟨g, o, c, rfl, hn0, hnc, hcm, hS, hc⟩⟩ := h
  · have : ks = [] := List.length_eq_zero_iff.1 hn
    subst this
    exact ⟨none, 0, rfl, trivial⟩
  · exact ⟨_, c, rfl, rk_of ks g o (fun _ => hS) fun i hi => hc i _ (by simp [hi])⟩
theorem MapR.rv {w : World} {S : Nat → Prop} {ks : List ByteArray} {vs : List V} {kv vv : Value} (k h : Int) (t : ByteArray) (r : MapR w S ks vs kv vv) : RV w S (.mk k h t [] ks vs) (.agg #[.int .i64 k, .int .i64 h, .string t, .slice none 0 0, kv, vv]) := by
  obtain ⟨h0, h1, cs, h2, h3⟩ := r
  obtain ⟨ka, kc, rfl, hk⟩ := h1.rk
  rw [RV]
  obtain ⟨hl, ⟨rfl, hn⟩ | ⟨g, o, c, rfl, hn0, hnc, hcm, hS, hc⟩⟩ := h2
  · have : vs = [] := List.length_eq_zero_iff.1 hn
    subst this
    exact ⟨none, 0, ka, kc, none, 0, rfl, by rw [RL]; trivial, hk, by rw [RL]; trivial⟩
  · refine ⟨none, 0, ka, kc, _, c, rfl, by rw [RL]; trivial, hk, RL.of vs g o (fun _ => hS) fun i hi => ?_⟩
    obtain ⟨c0, c1, c2, c3, c4, c5, ⟨k0, k1, k2, k3, k4, k5⟩, hx⟩ := h3 i hi
    exact ⟨c0, c1, c2, c3, c4, c5, ⟨hc _ _ k0, by rw [Nat.add_assoc]; exact hc _ _ k1, by rw [Nat.add_assoc]; exact hc _ _ k2, by rw [Nat.add_assoc]; exact hc _ _ k3, by rw [Nat.add_assoc]; exact hc _ _ k4, by rw [Nat.add_assoc]; exact hc _ _ k5⟩, hx⟩
/-- the cells of values -/
def SixL (w : World) (S : Nat → Prop) (vs : List V) (cs : List Value) : Prop := cs.length = vs.length * 6 ∧ ∀ i (hi : i < vs.length), ∃ c0 c1 c2 c3 c4 c5, SixAt cs (i * 6) c0 c1 c2 c3 c4 c5 ∧ RV w S vs[i] (.agg #[c0, c1, c2, c3, c4, c5])
theorem SixL.app {w : World} {S : Nat → Prop} {a b : List V} {cs ds : List Value} (h : SixL w S a cs) (k : SixL w S b ds) : SixL w S (a ++ b) (cs ++ ds) := by
  obtain ⟨h0, h1⟩ := h
  obtain ⟨k0, k1⟩ := k
  refine ⟨by rw [List.length_append, List.length_append, h0, k0, Nat.add_mul], fun i hi => ?_⟩
  rw [List.length_append] at hi
  by_cases c : i < a.length
  · obtain ⟨d0, d1, d2, d3, d4, d5, h6, hx⟩ := h1 i c
    exact ⟨d0, d1, d2, d3, d4, d5, h6.old, by rw [List.getElem_append_left c]; exact hx⟩
  · obtain ⟨d0, d1, d2, d3, d4, d5, h6, hx⟩ := k1 (i - a.length) (by omega)
    refine ⟨d0, d1, d2, d3, d4, d5, ?_, by rw [List.getElem_append_right (by omega)]; exact hx⟩
    have := h6.shift (cs := cs)
    rwa [h0, show a.length * 6 + (i - a.length) * 6 = i * 6 by omega] at this
theorem SixL.one {w : World} {S : Nat → Prop} {y : V} {c0 c1 c2 c3 c4 c5 : Value} (h : RV w S y (.agg #[c0, c1, c2, c3, c4, c5])) : SixL w S [y] [c0, c1, c2, c3, c4, c5] :=
  ⟨rfl, fun i hi => by
    obtain rfl : i = 0 := by simpa using hi
    exact ⟨c0, c1, c2, c3, c4, c5, ⟨rfl, rfl, rfl, rfl, rfl, rfl⟩, h⟩⟩
theorem SixL.take {w : World} {S : Nat → Prop} {a : List V} {cs : List Value} (h : SixL w S a cs) (i : Nat) (hi : i ≤ a.length) : SixL w S (a.take i) (cs.take (i * 6)) := by
  obtain ⟨h0, h1⟩ := h
  refine ⟨by rw [List.length_take, List.length_take, h0]; omega, fun j hj => ?_⟩
  rw [List.length_take] at hj
  obtain ⟨d0, d1, d2, d3, d4, d5, ⟨k0, k1, k2, k3, k4, k5⟩, hx⟩ := h1 j (by omega)
  refine ⟨d0, d1, d2, d3, d4, d5, ?_, by rw [List.getElem_take]; exact hx⟩
  refine ⟨?_, ?_, ?_, ?_, ?_, ?_⟩ <;> (rw [List.getElem?_take_of_lt (by omega)]; assumption)
theorem SixL.drop {w : World} {S : Nat → Prop} {a : List V} {cs : List Value} (h : SixL w S a cs) (i : Nat) (hi : i ≤ a.length) : SixL w S (a.drop i) (cs.drop (i * 6)) := by
  obtain ⟨h0, h1⟩ := h
  refine ⟨by rw [List.length_drop, List.length_drop, h0]; omega, fun j hj => ?_⟩
  rw [List.length_drop] at hj
  obtain ⟨d0, d1, d2, d3, d4, d5, ⟨k0, k1, k2, k3, k4, k5⟩, hx⟩ := h1 (i + j) (by omega)
  refine ⟨d0, d1, d2, d3, d4, d5, ?_, by rw [List.getElem_drop]; exact hx⟩
  refine ⟨?_, ?_, ?_, ?_, ?_, ?_⟩ <;> rw [List.getElem?_drop]
  · rw [show i * 6 + j * 6 = (i + j) * 6 by omega]; exact k0
  · rw [show i * 6 + (j * 6 + 1) = (i + j) * 6 + 1 by omega]; exact k1
  · rw [show i * 6 + (j * 6 + 2) = (i + j) * 6 + 2 by omega]; exact k2
  · rw [show i * 6 + (j * 6 + 3) = (i + j) * 6 + 3 by omega]; exact k3
  · rw [show i * 6 + (j * 6 + 4) = (i + j) * 6 + 4 by omega]; exact k4
  · rw [show i * 6 + (j * 6 + 5) = (i + j) * 6 + 5 by omega]; exact k5
theorem SixL.ones {w : World} {S : Nat → Prop} {vs : List V} {cs : List Value} (h : SixL w S vs cs) : ∀ u ∈ cs, u.oneCell' = true := rows_one h.1 h.2
end Go.Proofs.YtgjmgneppecfgaaGreatDoor.Va
namespace Go.Proofs.YtgjmgneppecfgaaGreatDoor.Mc
open Go.RowKit Go.Proofs.YtgjmgneppecfgaaGreatDoor.Va Go.Proofs.YtgjmgneppecfgaaGreatDoor.Ba Go.Proofs.YtgjmgneppecfgaaGreatDoor.Ma
set_option linter.unusedVariables false
set_option linter.unusedSimpArgs false

/-- the builder at b holds bs; its rows lie from block B on -/
def IsBp (B b : Nat) (p : Value) (bs : List Nat) (w : World) : Prop :=
  B ≤ b ∧ ∃ v, w.heap[b]? = some (.cells #[p, v] 243 (0, 0)) ∧ w.ownsRow B 5 1 v bs.length (cellsD bs) ∧ v.ownBlock ≠ some b
def IsB (B b : Nat) (bs : List Nat) (w : World) : Prop := IsBp B b (.pointer none) bs w ∨ IsBp B b (.pointer (some ⟨b, 0, none⟩)) bs w
theorem size_b : (Tryz.prog.info? 243).map (·.size) = some 2 := by kernel_rfl
theorem lies_b : liesAt Tryz.prog Tryz.prog.depth 243 (2 / Tryz.prog.cellsOf 243) 0 243 1 = true := by kernel_rfl
def CopyEnd (B b : Nat) (bs : List Nat) (w : World) (e : Ending) (w' : World) : Prop := e = .returned (.tuple #[]) ∧ IsBp B b (.pointer (some ⟨b, 0, none⟩)) bs w' ∧ w.grownBy w' (some b)
set_option maxHeartbeats 1000000 in
set_option maxRecDepth 100000 in
theorem copy_any (B b : Nat) (bs : List Nat) (w : World) (h : IsB B b bs w) : Calls Tryz.prog 294 #[.pointer (some ⟨b, 0, none⟩)] w (CopyEnd B b bs w) := by
  obtain ⟨j, hj, hjs⟩ := Option.map_eq_some_iff.1 size_b
  rcases h with ⟨hB, v, hb, ho, hne⟩ | ⟨hB, v, hb, ho, hne⟩
  · have c := cells2 hb
    have hsh : w.shape? b = some (243, 2) := by unfold World.shape?; rw [hb]; rfl
    have HB := Lib.hid hb
    have HO := Lib.hid ho
    clear hb ho
    go_enter Tryz.func294, Tryz.ntmps294
    go_wp2_with fail
    rw [Lib.run_to_unsafe w ⟨b, 0, none⟩ Tryz.underlying241 Tryz.underlying219 hj (by rw [hjs]; decide) hsh (Nat.zero_lt_succ 1)]
    simp only [Result.andThen]
    rw [Oper.upon_value]
    go_wp2_with fail
    rw [run_callFunc_extern Tryz.func303 (by kernel_rfl) (by kernel_rfl) (by kernel_rfl) (e := Extern.AbiNoEscape.same) (by kernel_rfl)]
    rw [Lib.run_noEscape]
    simp only [Result.andThen]
    rw [Oper.upon_value]
    go_wp2_with fail
    rw [Lib.run_from_unsafe w ⟨b, 0, none⟩ Tryz.underlying219 Tryz.underlying241 hj hsh lies_b]
    simp only [Result.andThen]
    rw [Oper.upon_value]
    go_wp2_with fail
    go_returns
    refine ⟨rfl, ⟨hB, v, set_block HB.out 0 _, ownsRow_same HO.out (fun k hk => set_other 0 _ (fun e => hne (by rw [← hk, e]))), hne⟩, Va.gr_set _ _ _ _⟩
  · have c := cells2 hb
    have HB := Lib.hid hb
    have HO := Lib.hid ho
    clear hb ho
    go_enter Tryz.func294, Tryz.ntmps294
    go_wp2_with fail
    rw [Lib.run_neq_ptr_same w _ Tryz.underlying241 hj]
    go_wp2_with fail
    go_returns
    exact ⟨rfl, ⟨hB, v, HB.out, HO.out, hne⟩, Va.gr_refl _ _⟩
/-- blocks that are neither the builder's nor rows of bytes stand -/
def KeepB (b : Nat) (w w' : World) : Prop := ∀ k o, w.heap[k]? = some o → k ≠ b → (∀ c fz, o ≠ .cells c 5 fz) → w'.heap[k]? = some o
theorem keepB_row {b base n : Nat} {v : Value} {xs : List Value} {w w' : World} (ho : w.ownsRow base 5 1 v n xs) (hg : w.grownBy w' v.ownBlock) : KeepB b w w' := by
  intro k o hk _ hno
  refine (hg.block k (heap_lt hk) (fun e => ?_)).trans hk
  rcases ho.2 with ⟨rfl, _⟩ | ⟨g, cap, cur, rfl, _, hgb, _⟩
  · cases e
  · cases e
    rw [hk] at hgb
    cases hgb
    exact hno _ _ rfl
theorem keepB_gr {b : Nat} {w w' : World} (hg : w.grownBy w' (some b)) : KeepB b w w' := fun k o hk hb _ => (hg.block k (heap_lt hk) (fun e => hb (Option.some.inj e))).trans hk
theorem KeepB.trans {b : Nat} {u v w : World} (h : KeepB b u v) (k : KeepB b v w) : KeepB b u w := fun i o hi hb hno => k i o (h i o hi hb hno) hb hno
/-- what a writer leaves -/
def WroteBd (B b : Nat) (bs : List Nat) (w w' : World) : Prop := IsBp B b (.pointer (some ⟨b, 0, none⟩)) bs w' ∧ Below B w w' ∧ KeepB b w w'
theorem wrote_mk {B b n : Nat} {bs cs : List Nat} {v v' : Value} {w w1 w2 : World} (hB : B ≤ b) (hz : B ≤ w.heap.size) (h1 : w.grownBy w1 (some b)) (hb : w1.heap[b]? = some (.cells #[.pointer (some ⟨b, 0, none⟩), v] 243 (0, 0))) (ho : w1.ownsRow B 5 1 v bs.length (cellsD bs)) (hne : v.ownBlock ≠ some b)
    (hn : n = (bs ++ cs).length) (ho2 : w2.ownsRow B 5 1 v' n (cellsD (bs ++ cs))) (hg : w1.grownBy w2 v.ownBlock) : WroteBd B b (bs ++ cs) w (w2.setCell ⟨b, 1, none⟩ v') := by
  subst hn
  have hb2 := (hg.block b (heap_lt hb) (fun e => hne e.symm)).trans hb
  have hne' : v'.ownBlock ≠ some b := by
    intro e
    rcases ho2.2 with ⟨rfl, _⟩ | ⟨g, cap, cur, rfl, _, hgb, _⟩
    · cases e
    · cases e
      rw [hb2] at hgb
      cases hgb
  refine ⟨⟨hB, v', set_block hb2 1 v', ownsRow_same ho2 (fun k hk => set_other 1 v' (fun e => hne' (by rw [← hk, e]))), hne'⟩, ?_, ?_⟩
  · have b1 : Below B w w1 := Below.grown (Below.refl _ _) h1 hz (fun k hk => by cases hk; exact hB)
    exact (Below.grown b1 hg (Nat.le_trans hz h1.size) (fun k hk => (ho.lt k hk).1)).setCell hB _
  · exact ((keepB_gr h1).trans (keepB_row ho hg)).trans (fun k o hk hb' _ => (set_other 1 v' hb').trans hk)
theorem cellsD_app (a c : List Nat) : cellsD (a ++ c) = cellsD a ++ cellsD c := List.map_append
theorem strCells_eq (s : ByteArray) : Lib.strCells s = cellsD (bytesN s) := by
  unfold Lib.strCells cellsD bytesN
  rw [List.map_map]
  rfl
theorem cellsD_len (a : List Nat) : (cellsD a).length = a.length := by unfold cellsD; rw [List.length_map]
theorem cellsD_one (bs : List Nat) : ∀ v ∈ cellsD bs, v.oneCell' = true := by
  intro v hv
  unfold cellsD at hv
  obtain ⟨x, _, rfl⟩ := List.mem_map.1 hv
  rfl
def WsEnd (n : Int) (B b : Nat) (bs : List Nat) (w : World) (e : Ending) (w' : World) : Prop := e = .returned (.tuple #[.int .i64 n, .nilIface]) ∧ WroteBd B b bs w w'
def WbEnd (B b : Nat) (bs : List Nat) (w : World) (e : Ending) (w' : World) : Prop := e = .returned .nilIface ∧ WroteBd B b bs w w'
set_option maxHeartbeats 2000000 in
set_option maxRecDepth 100000 in
theorem writeString_b (B b : Nat) (bs : List Nat) (s : ByteArray) (w : World) (h : IsB B b bs w) (hB : B ≤ w.heap.size) (hlim : bs.length + s.size ≤ 140737488355328) :
    Calls Tryz.prog 270 #[.pointer (some ⟨b, 0, none⟩), .string s] w (WsEnd (s.size : Int) B b (bs ++ bytesN s) w) := by
  obtain ⟨i8, hi, hz0, hz1, hz2⟩ := info_parts info8
  have HI := Lib.hid (And.intro hi (And.intro hz0 (And.intro hz1 hz2)))
  have H := Lib.hid h
  clear hi hz0 hz1 hz2 h
  go_enter Tryz.func270, Tryz.ntmps270
  go_wp2_with fail
  refine (copy_any B b bs w H.out).mono ?_
  rintro e w1 ⟨rfl, ⟨hBb, v, hb, ho, hne⟩, hg1⟩
  have c := cells2 hb
  have HB := Lib.hid hb
  have HO := Lib.hid ho
  have HG := Lib.hid hg1
  have hs1 := hg1.size
  clear hb ho hg1
  go_wp2_with (at_builtin; refine Lib.wpList_append_own_string _ rfl _ _ 73 9 rfl B 5 i8 Tryz.underlying73 Tryz.underlying9 HI.out.1 HI.out.2.1 HI.out.2.2.1 HI.out.2.2.2 _ _ _ rfl HO.out s rfl (by unfold maxLen; omega) hlim (by omega) ?_; intro v' w2 ho2 hg2 _
               have hb2 := (hg2.block b (heap_lt HB.out) (fun e => hne e.symm)).trans HB.out
               have d := cells2 hb2
               rw [strCells_eq, ← cellsD_app] at ho2
               obtain ⟨a9, c9, rfl⟩ := ownsRow_slice ho2
               have HO2 := Lib.hid ho2
               have HG2 := Lib.hid hg2
               clear ho2 hg2 hb2 c)
  go_returns
  exact ⟨rfl, wrote_mk hBb hB HG.out HB.out HO.out hne (by rw [List.length_append, bytesN_len]) HO2.out HG2.out⟩
set_option maxHeartbeats 2000000 in
set_option maxRecDepth 100000 in
theorem writeByte_b (B b x : Nat) (bs : List Nat) (w : World) (h : IsB B b bs w) (hB : B ≤ w.heap.size) (hlim : bs.length + 1 ≤ 140737488355328) :
    Calls Tryz.prog 269 #[.pointer (some ⟨b, 0, none⟩), .int .u8 (x : Int)] w (WbEnd B b (bs ++ [x]) w) := by
  obtain ⟨i8, hi, hz0, hz1, hz2⟩ := info_parts info8
  have HI := Lib.hid (And.intro hi (And.intro hz0 (And.intro hz1 hz2)))
  have H := Lib.hid h
  clear hi hz0 hz1 hz2 h
  go_enter Tryz.func269, Tryz.ntmps269
  go_wp2_with fail
  refine (copy_any B b bs w H.out).mono ?_
  rintro e w1 ⟨rfl, ⟨hBb, v, hb, ho, hne⟩, hg1⟩
  have c := cells2 hb
  have HB := Lib.hid hb
  have HO := Lib.hid ho
  have HG := Lib.hid hg1
  have hs1 := hg1.size
  clear hb ho hg1
  go_wp2_with (at_builtin; refine wpList_append_one _ rfl _ _ 73 rfl B 5 i8 _ 1 1 Tryz.underlying73 HI.out.1 HI.out.2.1 HI.out.2.2.1 HI.out.2.2.2 rfl (by decide) _ _ _ rfl (ownsRow_same HO.out (fun k hk => (below_alloc w1 _).block k (HO.out.lt k hk.symm).2)) ⟨w1.heap.size, 0, none⟩ 1 [.int .u8 (x : Int)] rfl rfl (cell_new w1 _ _) (by simp [Value.oneCell']) (by unfold maxLen; omega) (by omega) (by rw [World.size_alloc]; omega) ?_; intro v' w2 hap
               have hg2 : w1.grownBy w2 v.ownBlock := ⟨hap.grown.os, hap.grown.tape, hap.grown.output, by have := hap.grown.size; rw [World.size_alloc] at this; omega, fun k hk hr => (hap.grown.block k (by rw [World.size_alloc]; omega) hr).trans ((below_alloc w1 _).block k hk)⟩
               have ho2 : w2.ownsRow B 5 1 v' (bs.length + 1) (cellsD (bs ++ [x])) := by rw [cellsD_app]; exact hap.owns
               have hb2 := (hg2.block b (heap_lt HB.out) (fun e => hne e.symm)).trans HB.out
               have d := cells2 hb2
               obtain ⟨vg, vcap, rfl⟩ := hap.made
               have HO2 := Lib.hid ho2
               have HG2 := Lib.hid hg2
               clear ho2 hg2 hb2 c hap)
  go_returns
  exact ⟨rfl, wrote_mk hBb hB HG.out HB.out HO.out hne (by rw [List.length_append]; rfl) HO2.out HG2.out⟩
set_option maxHeartbeats 2000000 in
set_option maxRecDepth 100000 in
theorem write_b (B b g o n c : Nat) (bs cs : List Nat) (w : World) (h : IsB B b bs w) (hB : B ≤ w.heap.size) (hgb : g ≠ b) (hn : cs.length = n) (hc : ∀ j, j < n → w.cell? ⟨g, o + j, none⟩ = some (.int .u8 ((cs.getD j 0 : Nat) : Int))) (hlim : bs.length + n ≤ 140737488355328) :
    Calls Tryz.prog 338 #[.pointer (some ⟨b, 0, none⟩), .slice (some ⟨g, o, none⟩) n c] w (WsEnd (n : Int) B b (bs ++ cs) w) := by
  obtain ⟨i8, hi, hz0, hz1, hz2⟩ := info_parts info8
  have HI := Lib.hid (And.intro hi (And.intro hz0 (And.intro hz1 hz2)))
  have H := Lib.hid h
  have HC := Lib.hid hc
  have HN := Lib.hid hn
  clear hi hz0 hz1 hz2 h hc hn
  go_enter Tryz.func338, Tryz.ntmps338
  go_wp2_with fail
  refine (copy_any B b bs w H.out).mono ?_
  rintro e w1 ⟨rfl, ⟨hBb, v, hb, ho, hne⟩, hg1⟩
  have c := cells2 hb
  have HB := Lib.hid hb
  have HO := Lib.hid ho
  have HG := Lib.hid hg1
  have hs1 := hg1.size
  have HNEW : Hid (∀ j u, (cellsD cs)[j]? = some u → w1.cell? ((⟨g, o, none⟩ : Addr).add j) = some u) := Lib.hid (fun j u hj => by
    have hjn : j < cs.length := by
      have := (List.getElem?_eq_some_iff.1 hj).1
      rwa [cellsD_len] at this
    have e : u = .int .u8 ((cs.getD j 0 : Nat) : Int) := by
      unfold cellsD at hj
      rw [List.getElem?_map, List.getElem?_eq_getElem hjn] at hj
      rw [List.getD, List.getElem?_eq_getElem hjn]
      simpa using hj.symm
    have hcj := HC.out j (by have := HN.out; omega)
    rw [e, Lib.addr_add]
    exact (World.cell?_of_block (w := w) (hg1.block g (cell_lt hcj) (fun e => hgb (Option.some.inj e)))).trans hcj)
  clear hb ho hg1
  go_wp2_with (at_builtin; refine wpList_append_a rfl _ _ 73 rfl B 5 i8 _ 1 1 Tryz.underlying73 HI.out.1 HI.out.2.1 HI.out.2.2.1 HI.out.2.2.2 rfl (by decide) _ _ n _ rfl HO.out _ (cellsD cs) rfl (by rw [cellsD_len, HN.out]; omega) (.inr ⟨_, _, rfl, HNEW.out⟩) (cellsD_one cs) (by unfold maxLen; omega) (by omega) (by omega) ?_; intro v' w2 hap
               have ho2 : w2.ownsRow B 5 1 v' (bs.length + n) (cellsD (bs ++ cs)) := by rw [cellsD_app]; exact hap.owns
               have hb2 := (hap.grown.block b (heap_lt HB.out) (fun e => hne e.symm)).trans HB.out
               have d := cells2 hb2
               obtain ⟨a9, c9, rfl⟩ := ownsRow_slice ho2
               have HO2 := Lib.hid ho2
               have HG2 := Lib.hid hap.grown
               clear ho2 hb2 c hap)
  go_returns
  exact ⟨rfl, wrote_mk hBb hB HG.out HB.out HO.out hne (by rw [List.length_append, HN.out]) HO2.out HG2.out⟩
end Go.Proofs.YtgjmgneppecfgaaGreatDoor.Mc
namespace Go.Proofs.YtgjmgneppecfgaaGreatDoor.Mc
open Go.RowKit Go.Proofs.YtgjmgneppecfgaaGreatDoor.Va Go.Proofs.YtgjmgneppecfgaaGreatDoor.Ba Go.Proofs.YtgjmgneppecfgaaGreatDoor.Ma Go.Proofs.YtgjmgneppecfgaaGreatDoor.Mb
set_option linter.unusedVariables false
set_option linter.unusedSimpArgs false

@[go_sem] theorem method_bs (b : Nat) (w : World) : (method 447 241 (.pointer (some ⟨b, 0, none⟩)) "WriteString").run Tryz.prog w = .ok (270, .pointer (some ⟨b, 0, none⟩)) w := by kernel_rfl
@[go_sem] theorem method_bb (b : Nat) (w : World) : (method 447 241 (.pointer (some ⟨b, 0, none⟩)) "WriteByte").run Tryz.prog w = .ok (269, .pointer (some ⟨b, 0, none⟩)) w := by kernel_rfl
@[go_sem] theorem method_bw (b : Nat) (w : World) : (method 447 241 (.pointer (some ⟨b, 0, none⟩)) "Write").run Tryz.prog w = .ok (338, .pointer (some ⟨b, 0, none⟩)) w := by kernel_rfl
/-- the writer as an interface value -/
def wv (b : Nat) : Value := .iface 241 (.pointer (some ⟨b, 0, none⟩))
/-- the builder at b holds bs; the encoder at E writes into it -/
structure St (B b E : Nat) (bs : List Nat) (w : World) : Prop where
  buf : IsB B b bs w
  enc : ∃ f : Nat → Value, f 0 = wv b ∧ w.rowIs E 118 65 f
  lt : b < E
theorem keepE_of {b E : Nat} {w w' : World} (h : KeepB b w w') : KeepE b E w w' := fun k o hk h1 _ ho => h k o hk h1 ho
theorem St.E_kept {B b E : Nat} {bs : List Nat} {w w' : World} (h : St B b E bs w) (hk : KeepB b w w') : ∃ f : Nat → Value, f 0 = wv b ∧ w'.rowIs E 118 65 f := by
  obtain ⟨f, h0, hr⟩ := h.enc
  refine ⟨f, h0, hr.of_block ?_⟩
  obtain ⟨cs, h1, h2⟩ := hr
  rw [h1]
  exact hk E _ h1 (fun e => by have := h.lt; omega) (fun c fz e => by cases e)
/-- what a writer leaves -/
def Wrote (B b E : Nat) (bs : List Nat) (w w' : World) : Prop := St B b E bs w' ∧ Below B w w' ∧ KeepE b E w w'
def WroteS (n : Int) (B b E : Nat) (bs : List Nat) (w : World) (e : Ending) (w' : World) : Prop := e = .returned (.tuple #[.int .i64 n, .nilIface]) ∧ Wrote B b E bs w w'
def WroteB (B b E : Nat) (bs : List Nat) (w : World) (e : Ending) (w' : World) : Prop := e = .returned .nilIface ∧ Wrote B b E bs w w'
theorem writeByte_any (B b E c : Nat) (bs : List Nat) (w : World) (h : St B b E bs w) (hB : B ≤ w.heap.size) (hlim : bs.length + 1 ≤ 140737488355328) :
    Calls Tryz.prog 269 #[.pointer (some ⟨b, 0, none⟩), .int .u8 (c : Int)] w (WroteB B b E (bs ++ [c]) w) := by
  refine (writeByte_b B b c bs w h.buf hB hlim).mono ?_
  rintro e w' ⟨h1, h2, h3, h4⟩
  exact ⟨h1, ⟨.inr h2, h.E_kept h4, h.lt⟩, h3, keepE_of h4⟩
theorem writeString_any (B b E : Nat) (bs : List Nat) (s : ByteArray) (w : World) (h : St B b E bs w) (hB : B ≤ w.heap.size) (hlim : bs.length + s.size ≤ 140737488355328) :
    Calls Tryz.prog 270 #[.pointer (some ⟨b, 0, none⟩), .string s] w (WroteS (s.size : Int) B b E (bs ++ bytesN s) w) := by
  refine (writeString_b B b bs s w h.buf hB hlim).mono ?_
  rintro e w' ⟨h1, h2, h3, h4⟩
  exact ⟨h1, ⟨.inr h2, h.E_kept h4, h.lt⟩, h3, keepE_of h4⟩
theorem write_any (B b E g o n c : Nat) (bs cs : List Nat) (w : World) (h : St B b E bs w) (hB : B ≤ w.heap.size) (hg : g ≠ b) (hn : cs.length = n) (hc : ∀ j, j < n → w.cell? ⟨g, o + j, none⟩ = some (.int .u8 ((cs.getD j 0 : Nat) : Int))) (hlim : bs.length + n ≤ 140737488355328) :
    Calls Tryz.prog 338 #[.pointer (some ⟨b, 0, none⟩), .slice (some ⟨g, o, none⟩) n c] w (WroteS (n : Int) B b E (bs ++ cs) w) := by
  refine (write_b B b g o n c bs cs w h.buf hB hg hn hc hlim).mono ?_
  rintro e w' ⟨h1, h2, h3, h4⟩
  exact ⟨h1, ⟨.inr h2, h.E_kept h4, h.lt⟩, h3, keepE_of h4⟩
theorem St.cell {B b E : Nat} {bs : List Nat} {w : World} (h : St B b E bs w) : w.cell? ⟨E, 0, none⟩ = some (.iface 241 (.pointer (some ⟨b, 0, none⟩))) := by
  obtain ⟨f, h0, hr⟩ := h.enc
  rw [hr.cell (by decide), h0]
  rfl
theorem Wrote.refl {B b E : Nat} {bs : List Nat} {w : World} (h : St B b E bs w) : Wrote B b E bs w w := ⟨h, Below.refl _ _, .refl _ _ _⟩
theorem Wrote.trans {B b E : Nat} {bs cs : List Nat} {w w' w'' : World} (h : Wrote B b E bs w w') (k : Wrote B b E cs w' w'') : Wrote B b E cs w w'' := ⟨k.1, h.2.1.trans k.2.1, h.2.2.trans k.2.2⟩
theorem isBp_old {B b : Nat} {p : Value} {bs : List Nat} {w w' : World} (h : IsBp B b p bs w) (k : Below w.heap.size w w') : IsBp B b p bs w' := by
  obtain ⟨h1, v, h2, h3, h4⟩ := h
  exact ⟨h1, v, keep k h2, ownsRow_same h3 (fun q hq => k.block q (h3.lt q hq.symm).2), h4⟩
theorem buf_old {B b : Nat} {bs : List Nat} {w w' : World} (h : IsB B b bs w) (k : Below w.heap.size w w') : IsB B b bs w' := by
  rcases h with h | h
  · exact .inl (isBp_old h k)
  · exact .inr (isBp_old h k)
theorem Wrote.quiet {B b E : Nat} {bs : List Nat} {w w' w'' : World} (h : Wrote B b E bs w w') (hB : B ≤ w'.heap.size) (k : Below w'.heap.size w' w'') : Wrote B b E bs w w'' := by
  obtain ⟨⟨h1, ⟨f, h0, hr⟩, h2⟩, h3, h4⟩ := h
  refine ⟨⟨buf_old h1 k, ⟨f, h0, hr.of_block (k.block E hr.lt)⟩, h2⟩, h3.trans (k.mono hB), fun i o a b c d => (k.block i ?_).trans (h4 i o a b c d)⟩
  exact heap_lt (h4 i o a b c d)
def EncEnd (B b E : Nat) (bs : List Nat) (w : World) (e : Ending) (w' : World) : Prop := e = .returned (.tuple #[]) ∧ Wrote B b E bs w w'
/-- encode writes x's text -/
def EncW (x : V) : Prop := ∀ (B b E : Nat) (bs : List Nat) (w : World) (g : Value) (S : Nat → Prop), GV w S x g → (∀ k, S k → k < B) → St B b E bs w → B ≤ w.heap.size → bs.length + x.size * NodeLen ≤ 70368744177664 →
  (∀ w', Below B w w' → Tab w') → Calls Tryz.prog 92 #[.pointer (some ⟨E, 0, none⟩), g] w (EncEnd B b E (bs ++ encJ x) w)
end Go.Proofs.YtgjmgneppecfgaaGreatDoor.Mc
namespace Go.Proofs.YtgjmgneppecfgaaGreatDoor.Mc
open Go.RowKit Go.Proofs.YtgjmgneppecfgaaGreatDoor.Va Go.Proofs.YtgjmgneppecfgaaGreatDoor.Ba Go.Proofs.YtgjmgneppecfgaaGreatDoor.Ma Go.Proofs.YtgjmgneppecfgaaGreatDoor.Mb
set_option linter.unusedVariables false
set_option linter.unusedSimpArgs false

theorem sizeL_take : ∀ (l : List V) (i : Nat) (hi : i < l.length), sizeL (l.take i) + (l[i]).size ≤ sizeL l
  | [], i, hi => by simp at hi
  | x :: xs, 0, _ => by rw [List.take_zero, sizeL, sizeL]; simp
  | x :: xs, i + 1, hi => by
    have := sizeL_take xs i (by simpa using hi)
    rw [List.take_succ_cons, sizeL, sizeL]
    simp
    omega
theorem goodL_take : ∀ (l : List V) (i : Nat), GoodL l → GoodL (l.take i)
  | [], i, h => by rw [List.take_nil]; exact h
  | x :: xs, 0, h => by rw [List.take_zero, GoodL]; trivial
  | x :: xs, i + 1, h => by
    rw [GoodL] at h
    rw [List.take_succ_cons, GoodL]
    exact ⟨h.1, goodL_take xs i h.2⟩
theorem arr_len {l : List V} {i : Nat} (hg : GoodL l) (hi : i < l.length) : (encC (l.take i)).tail.length + (l[i]).size * NodeLen ≤ sizeL l * NodeLen := by
  have h1 := encC_len (l.take i) (goodL_take l i hg)
  have h2 := sizeL_take l i hi
  rw [List.length_tail]
  unfold NodeLen at *
  omega
def LoopArr (B b E : Nat) (bs : List Nat) (ls : List V) (w : World) (iv : Value) (wr : World) : Prop :=
  ∃ i : Nat, iv = .int .i64 (i : Int) ∧ i ≤ ls.length ∧ Wrote B b E (bs ++ 91 :: (encC (ls.take i)).tail) w wr
set_option maxHeartbeats 4000000 in
set_option maxRecDepth 100000 in
theorem encArray_any (ls : List V) (H : ∀ x ∈ ls, EncW x) (hg : GoodL ls) (n c : Nat) (hn : ls.length = n) (hmax : n ≤ 2147483647) (B b E : Nat) (bs : List Nat) (a : Option Addr) (S : Nat → Prop) (w : World) (hl : GL w S ls a) (hS : ∀ k, S k → k < B) (h : St B b E bs w) (hB : B ≤ w.heap.size)
    (hlim : bs.length + (1 + sizeL ls) * NodeLen ≤ 70368744177664) (hT : ∀ w', Below B w w' → Tab w') :
    Calls Tryz.prog 152 #[.pointer (some ⟨E, 0, none⟩), .slice a n c] w (EncEnd B b E (bs ++ 91 :: ((encC ls).tail ++ [93])) w) := by
  have HH := Lib.hid H
  have HG := Lib.hid hg
  have HN := Lib.hid hn
  have HGL := Lib.hid hl
  have HS := Lib.hid hS
  have HST := Lib.hid h
  have HT := Lib.hid hT
  have hlim2 : bs.length + 2 ≤ 140737488355328 := by unfold NodeLen at hlim; omega
  have HLM := Lib.hid hlim
  have c0 := h.cell
  clear H hg hn hl hS h hT hlim
  go_enter Tryz.func152, Tryz.ntmps152
  go_wp2_with fail
  refine (writeByte_any B b E 91 bs w HST.out hB (by omega)).mono ?_
  rintro e w1 ⟨rfl, h1⟩
  have W1 : Hid (Wrote B b E (bs ++ 91 :: (encC (ls.take 0)).tail) w w1) := Lib.hid (by rw [List.take_zero, encC]; exact h1)
  clear h1
  go_wp2_with fail
  go_loopw [13] (LoopArr B b E bs ls w) (fun iv _ => n - (intOf iv).toNat)
  case atStart => exact ⟨0, rfl, Nat.zero_le _, W1.out⟩
  case round =>
    obtain ⟨i, rfl, hi, hw⟩ := hrel
    rw [HN.out] at hi
    have HW := Lib.hid hw
    have c1 := hw.1.cell
    have hz1 := hw.2.1.size
    clear hw c0
    by_cases hlt : i < n
    · have hil : i < ls.length := by rw [HN.out]; exact hlt
      obtain ⟨ga, go, rfl⟩ := HGL.out.addr (by omega)
      obtain ⟨hs, g, hcell, hgv⟩ := GL.at ls ga go HGL.out i hil
      have hcx : wr.cell? ⟨ga, go + i, none⟩ = some g := (HW.out.2.1.cell (p := ⟨ga, go + i, none⟩) (HS.out _ hs)).trans hcell
      have hal := arr_len HG.out hil
      have hnx := encC_next hil
      have hmem : ls[i] ∈ ls := List.getElem_mem hil
      obtain ⟨x, hx⟩ : ∃ x, ls[i]'hil = x := ⟨_, rfl⟩
      rw [hx] at hgv hal hnx hmem
      have HGV := Lib.hid hgv
      have HMEM := Lib.hid hmem
      have hlm : bs.length + (1 + sizeL ls) * NodeLen ≤ 70368744177664 := HLM.out
      have HLB : Hid ((bs ++ 91 :: (encC (ls.take i)).tail).length + 1 ≤ 140737488355328) := Lib.hid (by rw [List.length_append, List.length_cons]; unfold NodeLen at *; omega)
      have HLC : Hid ((bs ++ 91 :: (encC (ls.take i)).tail).length + 1 + x.size * NodeLen ≤ 70368744177664) := Lib.hid (by rw [List.length_append, List.length_cons]; unfold NodeLen at *; omega)
      have HNX := Lib.hid hnx
      clear hs hcell hgv hil hal hlm hmem hnx hx
      rcases Nat.eq_zero_or_pos i with rfl | hi0
      · have hcx0 : wr.cell? ⟨ga, go, none⟩ = some g := hcx
        go_wp2_with fail
        refine (HH.out x HMEM.out B b E _ wr g S (GV.mono (Same.of_below HW.out.2.1 HS.out) (fun _ h => h) _ _ HGV.out) HS.out HW.out.1 (by omega) (by have := HLC.out; omega) (fun w' hw' => HT.out w' (HW.out.2.1.trans hw'))).mono ?_
        rintro e w2 ⟨rfl, h2⟩
        have W2 := Lib.hid (HW.out.trans h2)
        clear h2
        go_wp2_with fail
        go_roundw
        case rel => exact ⟨1, by rfl, by rw [HN.out]; exact hlt, by rw [HNX.out, if_neg (by omega), List.nil_append]; have := W2.out; rw [List.take_zero, encC] at this; exact (by simpa using this)⟩
        case measure => simp [intOf]; omega
      · go_wp2_with fail
        refine (writeByte_any B b E 44 _ wr HW.out.1 (by omega) HLB.out).mono ?_
        rintro e w2 ⟨rfl, h2⟩
        have W2 := Lib.hid (HW.out.trans h2)
        have hz2 := W2.out.2.1.size
        clear h2
        go_wp2_with fail
        refine (HH.out x HMEM.out B b E _ w2 g S (GV.mono (Same.of_below W2.out.2.1 HS.out) (fun _ h => h) _ _ HGV.out) HS.out W2.out.1 (by omega) (by rw [List.length_append]; exact HLC.out) (fun w' hw' => HT.out w' (W2.out.2.1.trans hw'))).mono ?_
        rintro e w3 ⟨rfl, h3⟩
        have W3 := Lib.hid (W2.out.trans h3)
        clear h3
        go_wp2_with fail
        go_roundw
        case rel => exact ⟨i + 1, by push_cast; rfl, by rw [HN.out]; exact hlt, by rw [HNX.out, if_pos hi0]; have := W3.out; simpa using this⟩
        case measure => simp [intOf]; omega
    · obtain rfl : i = n := by omega
      have htl : ls.take i = ls := List.take_of_length_le (by rw [HN.out]; exact Nat.le_refl _)
      rw [htl] at HW
      have hlm : bs.length + (1 + sizeL ls) * NodeLen ≤ 70368744177664 := HLM.out
      have hcl := encC_len ls HG.out
      have HLB : Hid ((bs ++ 91 :: (encC ls).tail).length + 1 ≤ 140737488355328) := Lib.hid (by rw [List.length_append, List.length_cons, List.length_tail]; unfold NodeLen at *; omega)
      clear htl hlm hcl
      go_wp2_with fail
      refine (writeByte_any B b E 93 _ wr HW.out.1 (by omega) HLB.out).mono ?_
      rintro e w2 ⟨rfl, h2⟩
      have W2 := Lib.hid (HW.out.trans h2)
      clear h2
      go_wp2_with fail
      go_returns
      exact ⟨rfl, by have := W2.out; simpa using this⟩
end Go.Proofs.YtgjmgneppecfgaaGreatDoor.Mc
