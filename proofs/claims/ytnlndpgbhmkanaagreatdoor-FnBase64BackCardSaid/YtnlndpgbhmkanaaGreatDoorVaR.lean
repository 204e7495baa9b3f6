/-
  ROWS THAT GROW: append of one element, with the block in which the row then lies; rows of values.
-/
import Derived.Test.YtnlndpgbhmkanaaGreatDoorVaG
import Derived.Laws.AppendOwn
namespace Go.Proofs.YtnlndpgbhmkanaaGreatDoor.Va
open Go.RowKit
set_option linter.unusedVariables false
set_option linter.unusedSimpArgs false

section
variable {P : Program} (w : World)
theorem append_where (base : Nat) (t ty e : TypeId) (i : TypeInfo) (z : Value) (size bytes : Nat) (ht : P.underlying t = some (.slice e)) (hi : P.info? e = some i) (hz : i.zero = some z)
    (hsize : i.size = size) (hby : i.bytes = bytes) (v : Value) (n : Nat) (xs : List Value) (hown : w.ownsRow base e size v n xs)
    (a : Addr) (c : Nat) (news : List Value) (hl : news.length = size) (hnews : ∀ j u, news[j]? = some u → w.cell? (a.add j) = some u) (h1 : ∀ u ∈ news, u.oneCell' = true)
    (h63 : n + 1 ≤ maxLen) (hbytes : (n + 1) * bytes ≤ 140737488355328) (v' : Value) (w' : World) (hr : (Builtin.append_ #[t, t] ty #[v, .slice (some a) 1 c]).run P w = .ok v' w') :
    (v'.ownBlock = v.ownBlock ∨ v'.ownBlock = some w.heap.size) ∧ ∃ g cap, v' = .slice (some ⟨g, 0, none⟩) (n + 1) cap := by
  subst hsize
  subst hby
  have hsmall : n + 1 ≤ 9223372036854775807 := by simp only [maxLen] at h63; omega
  rcases hown.2 with ⟨rfl, rfl⟩ | ⟨g, cap, cur, rfl, hbg, hg, hnc, hcm, hcs, htake⟩
  · have hh := run_append_nil (P := P) w t ty e i z ht hi hz a 1 c news (by omega) hnews (by omega) (by omega) (by simp only [Nat.zero_add] at hbytes; omega)
    rw [hh] at hr
    cases hr
    exact ⟨.inr rfl, _, _, rfl⟩
  · by_cases hroom : n + 1 ≤ cap
    · have hfit : n * i.size + news.length ≤ cur.size := by
        rw [hl, hcs, ← Nat.succ_mul]; exact Nat.mul_le_mul_right _ hroom
      have hh := run_append_room (P := P) w t ty e i ht hi g n cap cur hg a 1 c news (by omega) hnews h1 hroom hfit
      rw [hh] at hr
      cases hr
      exact ⟨.inl rfl, _, _, rfl⟩
    · have holds : ∀ j u, xs[j]? = some u → w.cell? ((⟨g, 0, none⟩ : Addr).add j) = some u := hown.cells (g := g) rfl
      have hh := run_append_grow (P := P) w t ty e i z ht hi hz ⟨g, 0, none⟩ n cap xs hown.1 holds a 1 c news (by omega) hnews (by omega) (by omega) (growslice_fits (by omega) hbytes)
      rw [hh] at hr
      cases hr
      exact ⟨.inr rfl, _, _, rfl⟩

/-- what an append of one element leaves -/
structure Appended (w : World) (base : Nat) (e : TypeId) (size : Nat) (v : Value) (n : Nat) (xs : List Value) (v' : Value) (w' : World) : Prop where
  owns : w'.ownsRow base e size v' (n + 1) xs
  grown : w.grownBy w' v.ownBlock
  wher : v'.ownBlock = v.ownBlock ∨ v'.ownBlock = some w.heap.size
  made : ∃ g cap, v' = .slice (some ⟨g, 0, none⟩) (n + 1) cap

theorem run_append_one (base : Nat) (t ty e : TypeId) (i : TypeInfo) (z : Value) (size bytes : Nat) (ht : P.underlying t = some (.slice e)) (hi : P.info? e = some i) (hz : i.zero = some z)
    (hsize : i.size = size) (hby : i.bytes = bytes) (hzs : z.cells.size = size) (hsz : 0 < size) (v : Value) (n : Nat) (xs : List Value) (hown : w.ownsRow base e size v n xs)
    (a : Addr) (c : Nat) (news : List Value) (hl : news.length = size) (hnews : ∀ j u, news[j]? = some u → w.cell? (a.add j) = some u) (h1 : ∀ u ∈ news, u.oneCell' = true)
    (h63 : n + 1 ≤ maxLen) (hbytes : (n + 1) * bytes ≤ 140737488355328) (hbase : base ≤ w.heap.size) :
    ∃ v' w', (Builtin.append_ #[t, t] ty #[v, .slice (some a) 1 c]).run P w = .ok v' w' ∧ Appended w base e size v n (xs ++ news) v' w' := by
  obtain ⟨v', w', hr, h2, h3, _⟩ := run_append_own (P := P) w base t ty e i z size bytes ht hi hz hsize hby hzs hsz v n xs hown a 1 c news (by omega) hnews h1 h63 hbytes hbase
  obtain ⟨h4, h5⟩ := append_where (P := P) w base t ty e i z size bytes ht hi hz hsize hby v n xs hown a c news hl hnews h1 h63 hbytes v' w' hr
  exact ⟨v', w', hr, h2, h3, h4, h5⟩

theorem wpList_append_one {ops : Array Oper} {rest : List Oper} {o : Oper} {a : Act} {Q : Exit → Act → World → Prop} (hgd : o.guard = none) (s x : Operand) (t : TypeId)
    (ho : o.op = .call { callee := .builtin .append, args := #[s, x], argTypes := #[t, t] })
    (base : Nat) (e : TypeId) (i : TypeInfo) (z : Value) (size bytes : Nat) (ht : P.underlying t = some (.slice e)) (hi : P.info? e = some i) (hz : i.zero = some z)
    (hsize : i.size = size) (hby : i.bytes = bytes) (hzs : z.cells.size = size) (hsz : 0 < size)
    (v : Value) (n : Nat) (xs : List Value) (hs : a.eval s = v) (hown : w.ownsRow base e size v n xs)
    (ad : Addr) (c : Nat) (news : List Value) (hx : a.eval x = .slice (some ad) 1 c) (hl : news.length = size) (hnews : ∀ j u, news[j]? = some u → w.cell? (ad.add j) = some u) (h1 : ∀ u ∈ news, u.oneCell' = true)
    (h63 : n + 1 ≤ maxLen) (hbytes : (n + 1) * bytes ≤ 140737488355328) (hbase : base ≤ w.heap.size)
    (h : ∀ v' w', Appended w base e size v n (xs ++ news) v' w' → wpList P ops Q rest (a.put o.dst v') w') : wpList P ops Q (o :: rest) a w :=
  wpList_plain hgd fun _ hK => by
    obtain ⟨v', w', hr, h2⟩ := run_append_one (P := P) w base t o.type e i z size bytes ht hi hz hsize hby hzs hsz v n xs hown ad c news hl hnews h1 h63 hbytes hbase
    unfold Oper.wp execOp
    simp only [ho, resolve, invoke, builtin, Sem.run_bind, Sem.run_pure, Result.andThen_ok, List.map_toArray, List.map_cons, List.map_nil, hs, hx, hr]
    exact hK _ _ (h v' w' h2)
end

theorem cell_new (w : World) (cs : Array Value) (t : TypeId) : ∀ j u, cs.toList[j]? = some u → (w.alloc (.cells cs t)).cell? ((⟨w.heap.size, 0, none⟩ : Addr).add j) = some u := by
  intro j u hu
  have hadd : (⟨w.heap.size, 0, none⟩ : Addr).add j = ⟨w.heap.size, j, none⟩ := by unfold Addr.add; split <;> simp_all
  rw [hadd]
  exact cell_of (block_new w cs t) j (by simpa using hu)

/-! ### rows of values -/
/-- six cells at a place of a list of cells -/
def SixAt (cs : List Value) (o : Nat) (c0 c1 c2 c3 c4 c5 : Value) : Prop := cs[o]? = some c0 ∧ cs[o + 1]? = some c1 ∧ cs[o + 2]? = some c2 ∧ cs[o + 3]? = some c3 ∧ cs[o + 4]? = some c4 ∧ cs[o + 5]? = some c5
theorem app_some {cs news : List Value} {j : Nat} {v : Value} (h : cs[j]? = some v) : (cs ++ news)[j]? = some v := by
  obtain ⟨hj, _⟩ := List.getElem?_eq_some_iff.1 h
  rw [List.getElem?_append_left hj, h]
theorem SixAt.old {cs news : List Value} {o : Nat} {c0 c1 c2 c3 c4 c5 : Value} (h : SixAt cs o c0 c1 c2 c3 c4 c5) : SixAt (cs ++ news) o c0 c1 c2 c3 c4 c5 := by
  obtain ⟨h0, h1, h2, h3, h4, h5⟩ := h
  exact ⟨app_some h0, app_some h1, app_some h2, app_some h3, app_some h4, app_some h5⟩
theorem SixAt.new {cs : List Value} {o : Nat} (ho : cs.length = o) (c0 c1 c2 c3 c4 c5 : Value) : SixAt (cs ++ [c0, c1, c2, c3, c4, c5]) o c0 c1 c2 c3 c4 c5 := by
  subst ho
  refine ⟨?_, ?_, ?_, ?_, ?_, ?_⟩
  · simp
  all_goals
    rw [List.getElem?_append_right (by omega)]
    simp

/-- the row of the first k values of l -/
def Rows (base : Nat) (l : List V) (k : Nat) (ov : Value) (wr : World) : Prop :=
  ∃ cs : List Value, wr.ownsRow base 27 6 ov k cs ∧ ∀ i (hi : i < k) (hl : i < l.length), ∃ c0 c1 c2 c3 c4 c5, SixAt cs (i * 6) c0 c1 c2 c3 c4 c5 ∧ RV wr (fun r => base ≤ r ∧ some r ≠ ov.ownBlock) l[i] (.agg #[c0, c1, c2, c3, c4, c5])
theorem Rows.nil (base : Nat) (l : List V) (wr : World) : Rows base l 0 (.slice none 0 0) wr :=
  ⟨[], World.ownsRow_nil _ _ _ _, fun i hi => absurd hi (by omega)⟩
theorem ownsRow_same {w w' : World} {base : Nat} {e : TypeId} {size : Nat} {v : Value} {n : Nat} {xs : List Value} (h : w.ownsRow base e size v n xs) (hs : ∀ b, some b = v.ownBlock → w'.heap[b]? = w.heap[b]?) : w'.ownsRow base e size v n xs := by
  refine ⟨h.1, ?_⟩
  rcases h.2 with hn | ⟨g, cap, cur, rfl, hb, hgg, rest⟩
  · exact .inl hn
  · exact .inr ⟨g, cap, cur, rfl, hb, (hs g rfl).trans hgg, rest⟩
theorem Rows.same {base : Nat} {l : List V} {k : Nat} {ov : Value} {w w' : World} (h : Rows base l k ov w) (hs : ∀ b, base ≤ b → b < w.heap.size → w'.heap[b]? = w.heap[b]?) : Rows base l k ov w' := by
  obtain ⟨cs, h1, h2⟩ := h
  refine ⟨cs, ownsRow_same h1 (fun b hb => by have := h1.lt b hb.symm; exact hs b this.1 this.2), fun i hi hl => ?_⟩
  obtain ⟨c0, c1, c2, c3, c4, c5, h6, hx⟩ := h2 i hi hl
  exact ⟨c0, c1, c2, c3, c4, c5, h6, RV.mono (S := fun r => (base ≤ r ∧ some r ≠ ov.ownBlock) ∧ r < w.heap.size) (fun b hb => hs b hb.1.1 hb.2) (fun b hb => hb.1) _ _ (RV.lt _ _ hx)⟩
theorem Rows.keep {base : Nat} {l : List V} {k : Nat} {ov : Value} {w w' : World} (h : Rows base l k ov w) (hb : Below w.heap.size w w') : Rows base l k ov w' := h.same fun b _ hlt => hb.block b hlt
theorem Rows.lt {base : Nat} {l : List V} {k : Nat} {ov : Value} {w : World} (h : Rows base l k ov w) : ∀ b, ov.ownBlock = some b → base ≤ b ∧ b < w.heap.size := by
  obtain ⟨cs, h1, h2⟩ := h
  exact h1.lt
/-- one element more -/
theorem Rows.next {base : Nat} {l : List V} {k : Nat} {ov ov' : Value} {wr wa w' : World} (hk : k < l.length) {c0 c1 c2 c3 c4 c5 : Value} {cs : List Value}
    (hown : wr.ownsRow base 27 6 ov k cs) (hch : ∀ i (hi : i < k) (hl : i < l.length), ∃ c0 c1 c2 c3 c4 c5, SixAt cs (i * 6) c0 c1 c2 c3 c4 c5 ∧ RV wr (fun r => base ≤ r ∧ some r ≠ ov.ownBlock) l[i] (.agg #[c0, c1, c2, c3, c4, c5]))
    (hB : Below wr.heap.size wr wa) (hbase : base ≤ wr.heap.size) (hx : RV wa (fun r => wr.heap.size ≤ r) l[k] (.agg #[c0, c1, c2, c3, c4, c5])) (ha : Appended wa base 27 6 ov k (cs ++ [c0, c1, c2, c3, c4, c5]) ov' w') : Rows base l (k + 1) ov' w' := by
  have hlt := hown.lt
  refine ⟨_, ha.owns, fun i hi hl => ?_⟩
  have hs : Same (fun r => some r ≠ ov.ownBlock ∧ r < wa.heap.size) wa w' := fun b hb => ha.grown.block b hb.2 hb.1
  have hS : ∀ r, base ≤ r → some r ≠ ov.ownBlock → r < wa.heap.size → some r ≠ ov'.ownBlock := by
    intro r _ h1 h2
    rcases ha.wher with e | e
    · rw [e]; exact h1
    · rw [e]; simp; omega
  by_cases c : i = k
  · subst c
    refine ⟨c0, c1, c2, c3, c4, c5, SixAt.new hown.1 .., ?_⟩
    refine RV.mono (S := fun r => (some r ≠ ov.ownBlock ∧ r < wa.heap.size) ∧ base ≤ r) (fun b hb => hs b hb.1) (fun b hb => ⟨hb.2, hS b hb.2 hb.1.1 hb.1.2⟩) _ _ ?_
    exact RV.mono (S := fun r => wr.heap.size ≤ r ∧ r < wa.heap.size) (fun _ _ => rfl) (fun b hb => ⟨⟨fun e => by have := hlt b e.symm; omega, hb.2⟩, by omega⟩) _ _ (RV.lt _ _ hx)
  · obtain ⟨d0, d1, d2, d3, d4, d5, h6, hx'⟩ := hch i (by omega) hl
    refine ⟨d0, d1, d2, d3, d4, d5, h6.old, ?_⟩
    have hw : RV wa (fun r => ((base ≤ r ∧ some r ≠ ov.ownBlock) ∧ r < wr.heap.size)) l[i] (.agg #[d0, d1, d2, d3, d4, d5]) :=
      RV.mono (Same.of_below hB fun b hb => hb.2) (fun _ h => h) _ _ (RV.lt _ _ hx')
    have hsz := hB.size
    exact RV.mono (fun b hb => hs b ⟨hb.1.2, by omega⟩) (fun b hb => ⟨hb.1.1, hS b hb.1.1 hb.1.2 (by omega)⟩) _ _ hw
/-- a value's six cells -/
def six (t1 n1 : Int) (tx : ByteArray) (la : Option Addr) (l1 lc : Nat) (ka : Option Addr) (l2 kc : Nat) (va : Option Addr) (l3 vc : Nat) : List Value := [.int .i64 t1, .int .i64 n1, .string tx, .slice la l1 lc, .slice ka l2 kc, .slice va l3 vc]
theorem six_one (t1 n1 : Int) (tx : ByteArray) (la : Option Addr) (l1 lc : Nat) (ka : Option Addr) (l2 kc : Nat) (va : Option Addr) (l3 vc : Nat) : ∀ u ∈ six t1 n1 tx la l1 lc ka l2 kc va l3 vc, u.oneCell' = true := by
  intro u hu
  simp only [six, List.mem_cons, List.not_mem_nil, or_false] at hu
  rcases hu with rfl | rfl | rfl | rfl | rfl | rfl <;> rfl
/-- the list, read in memory -/
theorem Rows.done {base : Nat} {l : List V} {ov : Value} {w : World} (h : Rows base l l.length ov w) : ∃ a c, ov = .slice a l.length c ∧ RL w (fun r => base ≤ r) l a := by
  obtain ⟨cs, h1, h2⟩ := h
  rcases h1.2 with ⟨rfl, h0⟩ | ⟨g, cap, cur, rfl, hb, hgg, hn, hm, hsz, htake⟩
  · have : l = [] := List.length_eq_zero_iff.1 h0
    subst this
    exact ⟨none, 0, rfl, by rw [RL]; trivial⟩
  · refine ⟨_, _, rfl, RL.of l g 0 (fun _ => hb) fun i hi => ?_⟩
    obtain ⟨c0, c1, c2, c3, c4, c5, ⟨h60, h61, h62, h63, h64, h65⟩, hx⟩ := h2 i hi hi
    have hcell : ∀ j v, cs[j]? = some v → w.cell? ⟨g, j, none⟩ = some v := by
      intro j v hj
      refine cell_of hgg j ?_
      rw [← htake, List.getElem?_take] at hj
      split at hj
      · simpa using hj
      · cases hj
    refine ⟨c0, c1, c2, c3, c4, c5, ?_, RV.mono (fun _ _ => rfl) (fun b hb => hb.1) _ _ hx⟩
    rw [Nat.zero_add]
    exact ⟨hcell _ _ h60, hcell _ _ h61, hcell _ _ h62, hcell _ _ h63, hcell _ _ h64, hcell _ _ h65⟩

end Go.Proofs.YtnlndpgbhmkanaaGreatDoor.Va
