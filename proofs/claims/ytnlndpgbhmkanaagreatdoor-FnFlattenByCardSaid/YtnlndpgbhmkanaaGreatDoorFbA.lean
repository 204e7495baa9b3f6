/-
  ROWS THAT GROW by several elements; rows of values whose parts lie in old memory.
-/
import Derived.Test.YtnlndpgbhmkanaaGreatDoorVaR
import Derived.Laws.OwnMore
namespace Go.Proofs.YtnlndpgbhmkanaaGreatDoor.Va
open Go.RowKit
set_option linter.unusedVariables false
set_option linter.unusedSimpArgs false

section
variable {P : Program} (w : World)
theorem append_where_m (base : Nat) (t ty e : TypeId) (i : TypeInfo) (z : Value) (size bytes : Nat) (ht : P.underlying t = some (.slice e)) (hi : P.info? e = some i) (hz : i.zero = some z)
    (hsize : i.size = size) (hby : i.bytes = bytes) (v : Value) (n m : Nat) (hm : 0 < m) (xs : List Value) (hown : w.ownsRow base e size v n xs)
    (a : Addr) (c : Nat) (news : List Value) (hl : news.length = m * size) (hnews : ∀ j u, news[j]? = some u → w.cell? (a.add j) = some u) (h1 : ∀ u ∈ news, u.oneCell' = true)
    (h63 : n + m ≤ maxLen) (hbytes : (n + m) * bytes ≤ 140737488355328) (v' : Value) (w' : World) (hr : (Builtin.append_ #[t, t] ty #[v, .slice (some a) m c]).run P w = .ok v' w') :
    (v'.ownBlock = v.ownBlock ∨ v'.ownBlock = some w.heap.size) ∧ ∃ g cap, v' = .slice (some ⟨g, 0, none⟩) (n + m) cap := by
  subst hsize
  subst hby
  have hsmall : n + m ≤ 9223372036854775807 := by simp only [maxLen] at h63; omega
  rcases hown.2 with ⟨rfl, rfl⟩ | ⟨g, cap, cur, rfl, hbg, hg, hnc, hcm, hcs, htake⟩
  · have hh := run_append_nil (P := P) w t ty e i z ht hi hz a m c news (by omega) hnews (by omega) (by omega) (by simp only [Nat.zero_add] at hbytes; omega)
    rw [hh] at hr
    cases hr
    exact ⟨.inr rfl, _, _, by rw [Nat.zero_add]⟩
  · by_cases hroom : n + m ≤ cap
    · have hfit : n * i.size + news.length ≤ cur.size := by
        rw [hl, hcs, ← Nat.add_mul]; exact Nat.mul_le_mul_right _ hroom
      have hh := run_append_room (P := P) w t ty e i ht hi g n cap cur hg a m c news (by omega) hnews h1 hroom hfit
      rw [hh] at hr
      cases hr
      exact ⟨.inl rfl, _, _, rfl⟩
    · have holds : ∀ j u, xs[j]? = some u → w.cell? ((⟨g, 0, none⟩ : Addr).add j) = some u := hown.cells (g := g) rfl
      have hh := run_append_grow (P := P) w t ty e i z ht hi hz ⟨g, 0, none⟩ n cap xs hown.1 holds a m c news (by omega) hnews (by omega) (by omega) (growslice_fits (by omega) hbytes)
      rw [hh] at hr
      cases hr
      exact ⟨.inr rfl, _, _, rfl⟩

/-- what an append of several elements leaves -/
structure AppendedM (w : World) (base : Nat) (e : TypeId) (size : Nat) (v : Value) (n m : Nat) (xs : List Value) (v' : Value) (w' : World) : Prop where
  owns : w'.ownsRow base e size v' (n + m) xs
  grown : w.grownBy w' v.ownBlock
  wher : v'.ownBlock = v.ownBlock ∨ v'.ownBlock = some w.heap.size
  made : ∃ g cap, v' = .slice (some ⟨g, 0, none⟩) (n + m) cap
theorem run_append_many (base : Nat) (t ty e : TypeId) (i : TypeInfo) (z : Value) (size bytes : Nat) (ht : P.underlying t = some (.slice e)) (hi : P.info? e = some i) (hz : i.zero = some z)
    (hsize : i.size = size) (hby : i.bytes = bytes) (hzs : z.cells.size = size) (hsz : 0 < size) (v : Value) (n m : Nat) (hm : 0 < m) (xs : List Value) (hown : w.ownsRow base e size v n xs)
    (a : Addr) (c : Nat) (news : List Value) (hl : news.length = m * size) (hnews : ∀ j u, news[j]? = some u → w.cell? (a.add j) = some u) (h1 : ∀ u ∈ news, u.oneCell' = true)
    (h63 : n + m ≤ maxLen) (hbytes : (n + m) * bytes ≤ 140737488355328) (hbase : base ≤ w.heap.size) :
    ∃ v' w', (Builtin.append_ #[t, t] ty #[v, .slice (some a) m c]).run P w = .ok v' w' ∧ AppendedM w base e size v n m (xs ++ news) v' w' := by
  obtain ⟨v', w', hr, h2, h3, _⟩ := run_append_own (P := P) w base t ty e i z size bytes ht hi hz hsize hby hzs hsz v n xs hown a m c news hl hnews h1 h63 hbytes hbase
  obtain ⟨h4, h5⟩ := append_where_m (P := P) w base t ty e i z size bytes ht hi hz hsize hby v n m hm xs hown a c news hl hnews h1 h63 hbytes v' w' hr
  exact ⟨v', w', hr, h2, h3, h4, h5⟩
theorem wpList_append_many {ops : Array Oper} {rest : List Oper} {o : Oper} {a : Act} {Q : Exit → Act → World → Prop} (hgd : o.guard = none) (s x : Operand) (t : TypeId)
    (ho : o.op = .call { callee := .builtin .append, args := #[s, x], argTypes := #[t, t] })
    (base : Nat) (e : TypeId) (i : TypeInfo) (z : Value) (size bytes : Nat) (ht : P.underlying t = some (.slice e)) (hi : P.info? e = some i) (hz : i.zero = some z)
    (hsize : i.size = size) (hby : i.bytes = bytes) (hzs : z.cells.size = size) (hsz : 0 < size)
    (v : Value) (n m : Nat) (hm : 0 < m) (xs : List Value) (hs : a.eval s = v) (hown : w.ownsRow base e size v n xs)
    (ad : Addr) (c : Nat) (news : List Value) (hx : a.eval x = .slice (some ad) m c) (hl : news.length = m * size) (hnews : ∀ j u, news[j]? = some u → w.cell? (ad.add j) = some u) (h1 : ∀ u ∈ news, u.oneCell' = true)
    (h63 : n + m ≤ maxLen) (hbytes : (n + m) * bytes ≤ 140737488355328) (hbase : base ≤ w.heap.size)
    (h : ∀ v' w', AppendedM w base e size v n m (xs ++ news) v' w' → wpList P ops Q rest (a.put o.dst v') w') : wpList P ops Q (o :: rest) a w :=
  wpList_plain hgd fun _ hK => by
    obtain ⟨v', w', hr, h2⟩ := run_append_many (P := P) w base t o.type e i z size bytes ht hi hz hsize hby hzs hsz v n m hm xs hown ad c news hl hnews h1 h63 hbytes hbase
    unfold Oper.wp execOp
    simp only [ho, resolve, invoke, builtin, Sem.run_bind, Sem.run_pure, Result.andThen_ok, List.map_toArray, List.map_cons, List.map_nil, hs, hx, hr]
    exact hK _ _ (h v' w' h2)
theorem wpList_append_none {ops : Array Oper} {rest : List Oper} {o : Oper} {a : Act} {Q : Exit → Act → World → Prop} (hgd : o.guard = none) (s x : Operand) (t : TypeId)
    (ho : o.op = .call { callee := .builtin .append, args := #[s, x], argTypes := #[t, t] })
    (base : Nat) (e : TypeId) (i : TypeInfo) (size : Nat) (ht : P.underlying t = some (.slice e)) (hi : P.info? e = some i) (hsize : i.size = size)
    (v : Value) (n : Nat) (xs : List Value) (hs : a.eval s = v) (hown : w.ownsRow base e size v n xs) (hx : a.eval x = .slice none 0 0)
    (h : wpList P ops Q rest (a.put o.dst v) w) : wpList P ops Q (o :: rest) a w :=
  wpList_plain hgd fun _ hK => by
    have hr := run_append_owned_none (P := P) (w := w) base t o.type e i size ht hi v n xs hown
    unfold Oper.wp execOp
    simp only [ho, resolve, invoke, builtin, Sem.run_bind, Sem.run_pure, Result.andThen_ok, List.map_toArray, List.map_cons, List.map_nil, hs, hx, hr]
    exact hK _ _ h
end

/-- a row of values; their parts lie in S -/
def RowsS (base : Nat) (S : Nat → Prop) (acc : List V) (ov : Value) (wr : World) : Prop :=
  (∃ cs : List Value, wr.ownsRow base 27 6 ov acc.length cs ∧ ∀ i (hi : i < acc.length), ∃ c0 c1 c2 c3 c4 c5, SixAt cs (i * 6) c0 c1 c2 c3 c4 c5 ∧ RV wr S acc[i] (.agg #[c0, c1, c2, c3, c4, c5])) ∧ (acc = [] → ov = .slice none 0 0)
theorem RowsS.nil (base : Nat) (S : Nat → Prop) (wr : World) : RowsS base S [] (.slice none 0 0) wr := ⟨⟨[], World.ownsRow_nil _ _ _ _, fun i hi => by simp at hi⟩, fun _ => rfl⟩
theorem RowsS.keep {base : Nat} {S : Nat → Prop} {acc : List V} {ov : Value} {w w' : World} (h : RowsS base S acc ov w) (hS : ∀ b, S b → b < w.heap.size) (hb : Below w.heap.size w w') : RowsS base S acc ov w' := by
  obtain ⟨⟨cs, h1, h2⟩, h3⟩ := h
  refine ⟨⟨cs, ownsRow_same h1 (fun b hb2 => hb.block b (h1.lt b hb2.symm).2), fun i hi => ?_⟩, h3⟩
  obtain ⟨c0, c1, c2, c3, c4, c5, h6, hx⟩ := h2 i hi
  exact ⟨c0, c1, c2, c3, c4, c5, h6, RV.mono (fun b hb2 => hb.block b (hS b hb2)) (fun _ h => h) _ _ hx⟩
theorem SixAt.shift {cs ds : List Value} {o : Nat} {c0 c1 c2 c3 c4 c5 : Value} (h : SixAt ds o c0 c1 c2 c3 c4 c5) : SixAt (cs ++ ds) (cs.length + o) c0 c1 c2 c3 c4 c5 := by
  obtain ⟨h0, h1, h2, h3, h4, h5⟩ := h
  refine ⟨?_, ?_, ?_, ?_, ?_, ?_⟩ <;> (rw [List.getElem?_append_right (by omega)])
  · rwa [show cs.length + o - cs.length = o by omega]
  · rwa [show cs.length + o + 1 - cs.length = o + 1 by omega]
  · rwa [show cs.length + o + 2 - cs.length = o + 2 by omega]
  · rwa [show cs.length + o + 3 - cs.length = o + 3 by omega]
  · rwa [show cs.length + o + 4 - cs.length = o + 4 by omega]
  · rwa [show cs.length + o + 5 - cs.length = o + 5 by omega]
theorem RowsS.app {base : Nat} {S : Nat → Prop} {acc sub : List V} {ov ov' : Value} {wr wa w' : World} {cs ds : List Value} (hS : ∀ b, S b → b < base) (hbase : base ≤ wr.heap.size) (hown : wr.ownsRow base 27 6 ov acc.length cs) (hne : sub ≠ [])
    (hch : ∀ i (hi : i < acc.length), ∃ c0 c1 c2 c3 c4 c5, SixAt cs (i * 6) c0 c1 c2 c3 c4 c5 ∧ RV wr S acc[i] (.agg #[c0, c1, c2, c3, c4, c5]))
    (hB : Below wr.heap.size wr wa) (hsub : ∀ i (hi : i < sub.length), ∃ c0 c1 c2 c3 c4 c5, SixAt ds (i * 6) c0 c1 c2 c3 c4 c5 ∧ RV wa S sub[i] (.agg #[c0, c1, c2, c3, c4, c5]))
    (howns : w'.ownsRow base 27 6 ov' (acc.length + sub.length) (cs ++ ds)) (hgr : wa.grownBy w' ov.ownBlock) :
    RowsS base S (acc ++ sub) ov' w' ∧ Below base wr w' := by
  have hlt := hown.lt
  have hsz := hB.size
  have hBel : Below base wr w' := Below.grown (hB.mono hbase) hgr (by omega) (fun j hj => (hlt j hj).1)
  have hs : Same S wr w' := fun b hb => hBel.block b (hS b hb)
  have hs2 : Same S wa w' := fun b hb => hgr.block b (by have := hS b hb; omega) (fun e => by have := (hlt b e.symm).1; have := hS b hb; omega)
  have hl := hown.1
  refine ⟨⟨⟨cs ++ ds, by simpa using howns, fun i hi => ?_⟩, fun h => absurd (List.append_eq_nil_iff.1 h).2 hne⟩, hBel⟩
  rw [List.length_append] at hi
  by_cases c : i < acc.length
  · obtain ⟨d0, d1, d2, d3, d4, d5, h6, hx'⟩ := hch i c
    refine ⟨d0, d1, d2, d3, d4, d5, h6.old, ?_⟩
    rw [List.getElem_append_left c]
    exact RV.mono hs (fun _ h => h) _ _ hx'
  · obtain ⟨d0, d1, d2, d3, d4, d5, h6, hx'⟩ := hsub (i - acc.length) (by omega)
    refine ⟨d0, d1, d2, d3, d4, d5, ?_, ?_⟩
    · have := h6.shift (cs := cs)
      rwa [hl, show acc.length * 6 + (i - acc.length) * 6 = i * 6 by omega] at this
    · rw [List.getElem_append_right (by omega)]
      exact RV.mono hs2 (fun _ h => h) _ _ hx'
theorem RowsS.done {base : Nat} {S : Nat → Prop} {acc : List V} {ov : Value} {w : World} (h : RowsS base S acc ov w) (hS : ∀ b, S b → b < w.heap.size) : ∃ a c, ov = .slice a acc.length c ∧ RL w (fun r => r < w.heap.size) acc a := by
  obtain ⟨⟨cs, h1, h2⟩, _⟩ := h
  rcases h1.2 with ⟨rfl, h0⟩ | ⟨g, cap, cur, rfl, hb, hgg, hn, hm, hsz, htake⟩
  · have : acc = [] := List.length_eq_zero_iff.1 h0
    subst this
    exact ⟨none, 0, rfl, by rw [RL]; trivial⟩
  · have hlt := heap_lt hgg
    refine ⟨_, _, rfl, RL.of acc g 0 (fun _ => hlt) fun i hi => ?_⟩
    obtain ⟨c0, c1, c2, c3, c4, c5, ⟨h60, h61, h62, h63, h64, h65⟩, hx⟩ := h2 i hi
    have hcell : ∀ j v, cs[j]? = some v → w.cell? ⟨g, j, none⟩ = some v := by
      intro j v hj
      refine cell_of hgg j ?_
      rw [← htake, List.getElem?_take] at hj
      split at hj
      · simpa using hj
      · cases hj
    refine ⟨c0, c1, c2, c3, c4, c5, ?_, RV.mono (fun _ _ => rfl) (fun b hb => hS b hb) _ _ hx⟩
    rw [Nat.zero_add]
    exact ⟨hcell _ _ h60, hcell _ _ h61, hcell _ _ h62, hcell _ _ h63, hcell _ _ h64, hcell _ _ h65⟩
/-- its cells are of one cell each -/
theorem six_cells {w : World} {S : Nat → Prop} {x : V} {c0 c1 c2 c3 c4 c5 : Value} (h : RV w S x (.agg #[c0, c1, c2, c3, c4, c5])) : c0.oneCell' = true ∧ c1.oneCell' = true ∧ c2.oneCell' = true ∧ c3.oneCell' = true ∧ c4.oneCell' = true ∧ c5.oneCell' = true := by
  cases x with
  | mk k hh t ls ks vs =>
    rw [RV] at h
    obtain ⟨la, lc, ka, kc, va, vc, e, _⟩ := h
    simp only [Value.agg.injEq, Array.mk.injEq, List.cons.injEq, and_true] at e
    obtain ⟨rfl, rfl, rfl, rfl, rfl, rfl⟩ := e
    exact ⟨rfl, rfl, rfl, rfl, rfl, rfl⟩
theorem rows_one {w : World} {S : Nat → Prop} {acc : List V} {cs : List Value} (hl : cs.length = acc.length * 6) (hch : ∀ i (hi : i < acc.length), ∃ c0 c1 c2 c3 c4 c5, SixAt cs (i * 6) c0 c1 c2 c3 c4 c5 ∧ RV w S acc[i] (.agg #[c0, c1, c2, c3, c4, c5])) : ∀ u ∈ cs, u.oneCell' = true := by
  intro u hu
  obtain ⟨j, hj, rfl⟩ := List.getElem_of_mem hu
  have hd := Nat.div_add_mod j 6
  have hm := Nat.mod_lt j (show 0 < 6 by omega)
  obtain ⟨c0, c1, c2, c3, c4, c5, ⟨h0, h1, h2, h3, h4, h5⟩, hx⟩ := hch (j / 6) (by omega)
  obtain ⟨k0, k1, k2, k3, k4, k5⟩ := six_cells hx
  have get : ∀ (r : Nat) (c : Value), cs[j / 6 * 6 + r]? = some c → j % 6 = r → cs[j] = c := by
    intro r c hc hr
    have e : j / 6 * 6 + r = j := by omega
    rw [e, List.getElem?_eq_getElem hj] at hc
    exact Option.some.inj hc
  rcases (by omega : j % 6 = 0 ∨ j % 6 = 1 ∨ j % 6 = 2 ∨ j % 6 = 3 ∨ j % 6 = 4 ∨ j % 6 = 5) with q | q | q | q | q | q
  · rw [get 0 c0 h0 q]; exact k0
  · rw [get 1 c1 h1 q]; exact k1
  · rw [get 2 c2 h2 q]; exact k2
  · rw [get 3 c3 h3 q]; exact k3
  · rw [get 4 c4 h4 q]; exact k4
  · rw [get 5 c5 h5 q]; exact k5

end Go.Proofs.YtnlndpgbhmkanaaGreatDoor.Va
