/-
  THE ARGUMENTS, opened: a value of the thin package that comes in is a V, read in memory, within reach.
-/
import Derived.Test.YtgjmgneppecfgaaGreatDoorQVaL
import Derived.ChangeArms
import Derived.SizedLaws
import Derived.DataReads
import Derived.Handed
set_option linter.unusedVariables false
set_option linter.unusedSimpArgs false
namespace Go.Proofs.YtgjmgneppecfgaaGreatDoor.Va
open Go.RowKit
set_option linter.unusedVariables false
set_option linter.unusedSimpArgs false

/-- the blocks that are there -/
def All (w : World) (b : Nat) : Prop := b < w.heap.size
theorem reach_Q : reachBytes ≤ Q := by decide

section
variable {H : Type} {enc : TypeId × Value → H} {P : Program} {W : World} {spare : Nat → Bool} {held : Bool}

theorem weightsAll_mem {e : TypeId} : ∀ {l : List (DataW H)} {d : DataW H}, d ∈ l → ∀ n ∈ d.weights P e, n ∈ DataW.weightsAll P e l
  | y :: ys, d, h, n, hn => by
    rw [DataW.weightsAll]
    rcases List.mem_cons.1 h with rfl | h
    · exact List.mem_append_left _ hn
    · exact List.mem_append_right _ (weightsAll_mem h n hn)

/-- a slice that is read -/
theorem open_list {t e : TypeId} {n : Nat} {cs : List Value} {x : DataW H × List MemPlace} (ht : P.underlying t = some (.slice e)) (h : DataW.trod enc P W 0 spare held n t cs = some x) (hs : ∀ k ∈ x.1.weights P t, k ≤ reachBytes) :
    cs = [.slice none 0 0] ∨ ∃ (a : Addr) (len cap m : Nat), n = m + 1 ∧ cs = [.slice (some a) len cap] ∧ len * P.bytesOf e ≤ reachBytes ∧
      ∀ i, i < len → ∃ (cs' : List Value) (y : DataW H × List MemPlace), W.cells? 0 (a.add (i * P.cellsOf e)) (P.cellsOf e) = some cs' ∧ DataW.trod enc P W 0 spare held m e cs' = some y ∧ ∀ k ∈ y.1.weights P e, k ≤ reachBytes := by
  rcases DataW.trod_slice ht h with ⟨rfl, rfl⟩ | ⟨a, len, cap, elems, rest, m, rfl, rfl, rfl, _, _, _, hlen, hel, _, _⟩
  · exact .inl rfl
  · refine .inr ⟨a, len, cap, m, rfl, rfl, ?_, fun i hi => ?_⟩
    · have := hs ((elems.length + rest.length) * P.bytesOf e) (by simp [DataW.weights, ht])
      exact Nat.le_trans (Nat.mul_le_mul_right _ (by omega)) this
    · have h1 := hel i hi
      rw [List.getElem?_eq_getElem (by omega), Option.bind_eq_some_iff] at h1
      obtain ⟨cs', h2, h3⟩ := h1
      refine ⟨cs', _, h2, h3, fun k hk => hs k ?_⟩
      simp only [DataW.weights, ht]
      exact List.mem_cons_of_mem _ (List.mem_append_left _ (weightsAll_mem (List.mem_map.2 ⟨_, List.getElem_mem (by omega), rfl⟩) k hk))
end

theorem choose_all {α : Type} {p : Nat → α → Prop} {n : Nat} (h : ∀ i, i < n → ∃ v, p i v) : ∃ l : List α, l.length = n ∧ ∀ i (hi : i < l.length), p i l[i] := by
  induction n with
  | zero => exact ⟨[], rfl, fun i hi => by simp at hi⟩
  | succ n ih =>
    obtain ⟨l, hl, hp⟩ := ih fun i hi => h i (by omega)
    obtain ⟨v, hv⟩ := h n (by omega)
    refine ⟨l ++ [v], by simp [hl], fun i hi => ?_⟩
    simp only [List.length_append, List.length_cons, List.length_nil] at hi
    by_cases hin : i < l.length
    · rw [List.getElem_append_left hin]; exact hp i hin
    · obtain rfl : i = n := by omega
      rw [List.getElem_append_right (by omega)]
      simpa using hv
theorem WfL.of {l : List V} (h : ∀ x ∈ l, Wf x) : WfL l := by
  induction l with
  | nil => rw [WfL]; trivial
  | cons y ys ih => rw [WfL]; exact ⟨h y (by simp), ih fun x hx => h x (by simp [hx])⟩
theorem spot_of {w : World} {a : Addr} {v : Value} (h : w.cell? (a.add 0) = some v) : a = ⟨a.block, a.off, none⟩ := by
  obtain ⟨b, o, s⟩ := a
  cases s with
  | none => rfl
  | some s =>
    exfalso
    rw [show (⟨b, o, some s⟩ : Addr).add 0 = ⟨b, o, some s⟩ by simp [Addr.add]] at h
    simp only [World.cell?] at h
    split at h <;> simp at h
theorem add_none (b o i : Nat) : (⟨b, o, none⟩ : Addr).add i = ⟨b, o + i, none⟩ := by
  unfold Addr.add; split <;> simp_all
theorem add_two (a : Addr) (i j : Nat) : a.add (i + j) = (a.add i).add j := by
  unfold Addr.add
  by_cases hi : i = 0
  · subst hi; simp
  · by_cases hj : j = 0
    · subst hj; simp
    · simp [hi, hj, Nat.add_assoc]

section
variable {H : Type} {enc : TypeId × Value → H} {W : World} {spare : Nat → Bool} {held : Bool}

theorem open_strs {n : Nat} {cs : List Value} {x : DataW H × List MemPlace} (h : DataW.trod enc Tryz.prog W 0 spare held n 25 cs = some x) (hs : ∀ k ∈ x.1.weights Tryz.prog 25, k ≤ reachBytes) :
    ∃ (l : List ByteArray) (a : Option Addr) (c : Nat), cs = [.slice a l.length c] ∧ l.length ≤ Q ∧ (∀ s ∈ l, s.size ≤ Q) ∧ RK W (All W) l a := by
  rcases open_list Tryz.underlying25 h hs with rfl | ⟨a, len, cap, m, rfl, rfl, hlen, hel⟩
  · exact ⟨[], none, 0, rfl, by simp, by simp, trivial⟩
  · have hb : Tryz.prog.bytesOf 9 = 16 := by kernel_rfl
    have hc : Tryz.prog.cellsOf 9 = 1 := by kernel_rfl
    rw [hb] at hlen
    simp only [hc, Nat.mul_one] at hel
    obtain ⟨l, hl, hp⟩ := choose_all (p := fun i (s : ByteArray) => s.size ≤ Q ∧ W.cell? (a.add i) = some (.string s)) fun i hi => by
      obtain ⟨cs', y, h1, h2, h3⟩ := hel i hi
      obtain ⟨s, rfl, rfl, _⟩ := DataW.trod_string Tryz.underlying9 h2
      refine ⟨s, ?_, ?_⟩
      · have := h3 s.data.toList.length (by simp [DataW.weights])
        have hr := reach_Q
        simp at this
        exact Nat.le_trans this hr
      · have := (World.cells?_some h1).2.2 0 (by omega)
        simpa [Addr.add] using this
    subst hl
    refine ⟨l, some a, cap, rfl, ?_, fun s hs => ?_, ?_⟩
    · have hr := reach_Q
      omega
    · obtain ⟨i, hi, rfl⟩ := List.getElem_of_mem hs
      exact (hp i hi).1
    · cases l with
      | nil => trivial
      | cons y ys =>
        have e := spot_of (hp 0 (by simp)).2
        rw [e]
        refine RK.of _ _ _ (fun _ => ?_) fun i hi => ?_
        · have := (hp 0 (by simp)).2
          rw [e, add_none] at this
          exact cell_lt this
        · have := (hp i hi).2
          rw [e, add_none] at this
          exact this

def Opened (W : World) (cs : List Value) : Prop := ∃ (v : V) (c0 c1 c2 c3 c4 c5 : Value), cs = [c0, c1, c2, c3, c4, c5] ∧ Wf v ∧ RV W (All W) v (.agg #[c0, c1, c2, c3, c4, c5])

theorem open_values_of {n : Nat} (IH : ∀ m, m < n → ∀ (cs : List Value) (x : DataW H × List MemPlace), DataW.trod enc Tryz.prog W 0 spare held m 27 cs = some x → (∀ k ∈ x.1.weights Tryz.prog 27, k ≤ reachBytes) → Opened W cs)
    {cs : List Value} {x : DataW H × List MemPlace} (h : DataW.trod enc Tryz.prog W 0 spare held n 22 cs = some x) (hs : ∀ k ∈ x.1.weights Tryz.prog 22, k ≤ reachBytes) :
    ∃ (l : List V) (a : Option Addr) (c : Nat), cs = [.slice a l.length c] ∧ l.length ≤ Q ∧ WfL l ∧ RL W (All W) l a := by
  rcases open_list Tryz.underlying22 h hs with rfl | ⟨a, len, cap, m, rfl, rfl, hlen, hel⟩
  · exact ⟨[], none, 0, rfl, by simp, by rw [WfL]; trivial, by rw [RL]; trivial⟩
  · have hb : 1 ≤ Tryz.prog.bytesOf 27 := by rw [show Tryz.prog.bytesOf 27 = 104 by kernel_rfl]; decide
    have hc : Tryz.prog.cellsOf 27 = 6 := by kernel_rfl
    have hlen' : len ≤ reachBytes := Nat.le_trans (Nat.le_mul_of_pos_right _ hb) hlen
    simp only [hc] at hel
    obtain ⟨l, hl, hp⟩ := choose_all (p := fun i (v : V) => Wf v ∧ ∃ c0 c1 c2 c3 c4 c5, (∀ j (hj : j < 6), W.cell? (a.add (i * 6 + j)) = [c0, c1, c2, c3, c4, c5][j]?) ∧ RV W (All W) v (.agg #[c0, c1, c2, c3, c4, c5])) fun i hi => by
      obtain ⟨cs', y, h1, h2, h3⟩ := hel i hi
      obtain ⟨v, c0, c1, c2, c3, c4, c5, rfl, hw, hr⟩ := IH m (by omega) _ _ h2 h3
      refine ⟨v, hw, c0, c1, c2, c3, c4, c5, fun j hj => ?_, hr⟩
      rw [← (World.cells?_some h1).2.2 j hj, add_two]
    subst hl
    refine ⟨l, some a, cap, rfl, Nat.le_trans hlen' reach_Q, WfL.of fun v hv => ?_, ?_⟩
    · obtain ⟨i, hi, rfl⟩ := List.getElem_of_mem hv
      exact (hp i hi).1
    · cases l with
      | nil => rw [RL]; trivial
      | cons y ys =>
        obtain ⟨_, c0, c1, c2, c3, c4, c5, h6, _⟩ := hp 0 (by simp)
        have h0 := h6 0 (by omega)
        simp only [List.getElem?_cons_zero, Nat.zero_mul, Nat.add_zero] at h0
        have e := spot_of h0
        rw [e]
        refine RL.of _ _ _ (fun _ => ?_) fun i hi => ?_
        · rw [e, add_none] at h0
          exact cell_lt h0
        · obtain ⟨_, d0, d1, d2, d3, d4, d5, k6, kr⟩ := hp i hi
          rw [e] at k6
          simp only [add_none, ← Nat.add_assoc] at k6
          exact ⟨d0, d1, d2, d3, d4, d5, ⟨k6 0 (by omega), k6 1 (by omega), k6 2 (by omega), k6 3 (by omega), k6 4 (by omega), k6 5 (by omega)⟩, kr⟩

set_option maxRecDepth 100000 in
theorem open_value : ∀ (n : Nat) (cs : List Value) (x : DataW H × List MemPlace), DataW.trod enc Tryz.prog W 0 spare held n 27 cs = some x → (∀ k ∈ x.1.weights Tryz.prog 27, k ≤ reachBytes) → Opened W cs := by
  intro n
  induction n using Nat.strongRecOn with
  | _ n IH =>
    intro cs x h hs
    obtain ⟨xs, m, rfl, rfl, hcl, hxl, hf⟩ := DataW.trod_struct Tryz.underlying27 h
    have hc : Tryz.prog.cellsOf 27 = 6 := by kernel_rfl
    rw [hc] at hcl
    match cs, hcl with
    | [c0, c1, c2, c3, c4, c5], _ =>
      match xs, hxl with
      | [y0, y1, y2, y3, y4, y5], _ =>
        have k0 : Tryz.prog.cellsOf 24 = 1 := by kernel_rfl
        have k1 : Tryz.prog.cellsOf 3 = 1 := by kernel_rfl
        have k2 : Tryz.prog.cellsOf 9 = 1 := by kernel_rfl
        have k3 : Tryz.prog.cellsOf 22 = 1 := by kernel_rfl
        have k4 : Tryz.prog.cellsOf 25 = 1 := by kernel_rfl
        have f0 : DataW.trod enc Tryz.prog W 0 spare held m 24 [c0] = some y0 := by
          have q : DataW.trod enc Tryz.prog W 0 spare held m 24 (([c0, c1, c2, c3, c4, c5].drop 0).take (Tryz.prog.cellsOf 24)) = [y0, y1, y2, y3, y4, y5][0]? := hf 0 _ rfl
          rw [k0] at q
          exact q
        have f1 : DataW.trod enc Tryz.prog W 0 spare held m 3 [c1] = some y1 := by
          have q : DataW.trod enc Tryz.prog W 0 spare held m 3 (([c0, c1, c2, c3, c4, c5].drop 1).take (Tryz.prog.cellsOf 3)) = [y0, y1, y2, y3, y4, y5][1]? := hf 1 _ rfl
          rw [k1] at q
          exact q
        have f2 : DataW.trod enc Tryz.prog W 0 spare held m 9 [c2] = some y2 := by
          have q : DataW.trod enc Tryz.prog W 0 spare held m 9 (([c0, c1, c2, c3, c4, c5].drop 2).take (Tryz.prog.cellsOf 9)) = [y0, y1, y2, y3, y4, y5][2]? := hf 2 _ rfl
          rw [k2] at q
          exact q
        have f3 : DataW.trod enc Tryz.prog W 0 spare held m 22 [c3] = some y3 := by
          have q : DataW.trod enc Tryz.prog W 0 spare held m 22 (([c0, c1, c2, c3, c4, c5].drop 3).take (Tryz.prog.cellsOf 22)) = [y0, y1, y2, y3, y4, y5][3]? := hf 3 _ rfl
          rw [k3] at q
          exact q
        have f4 : DataW.trod enc Tryz.prog W 0 spare held m 25 [c4] = some y4 := by
          have q : DataW.trod enc Tryz.prog W 0 spare held m 25 (([c0, c1, c2, c3, c4, c5].drop 4).take (Tryz.prog.cellsOf 25)) = [y0, y1, y2, y3, y4, y5][4]? := hf 4 _ rfl
          rw [k4] at q
          exact q
        have f5 : DataW.trod enc Tryz.prog W 0 spare held m 22 [c5] = some y5 := by
          have q : DataW.trod enc Tryz.prog W 0 spare held m 22 (([c0, c1, c2, c3, c4, c5].drop 5).take (Tryz.prog.cellsOf 22)) = [y0, y1, y2, y3, y4, y5][5]? := hf 5 _ rfl
          rw [k3] at q
          exact q
        have w : ∀ (j : Nat) (t : TypeId) (y : DataW H × List MemPlace), [24, 3, 9, 22, 25, 22][j]? = some t → [y0, y1, y2, y3, y4, y5][j]? = some y → ∀ k ∈ y.1.weights Tryz.prog t, k ≤ reachBytes := by
          intro j t y ht hy k hk
          refine hs k ?_
          simp only [DataW.weights, Tryz.underlying27]
          exact DataW.weights_mem_each (j := j) (by simpa using ht) (by rw [List.getElem?_map, hy]; rfl) k hk
        obtain ⟨kk, e0, _, _⟩ := DataW.trod_int Tryz.underlying24 f0
        obtain ⟨hh, e1, _, _⟩ := DataW.trod_int Tryz.underlying3 f1
        obtain ⟨s, e2, ey2, _⟩ := DataW.trod_string Tryz.underlying9 f2
        obtain ⟨ls, la, lc, e3, l1, l2, l3⟩ := open_values_of (fun q hq => IH q (by omega)) f3 (w 3 _ _ rfl rfl)
        obtain ⟨ks, ka, kc, e4, q1, q2, q3⟩ := open_strs f4 (w 4 _ _ rfl rfl)
        obtain ⟨vs, va, vc, e5, v1, v2, v3⟩ := open_values_of (fun q hq => IH q (by omega)) f5 (w 5 _ _ rfl rfl)
        simp only [List.cons.injEq, and_true] at e0 e1 e2 e3 e4 e5
        subst e0; subst e1; subst e2; subst e3; subst e4; subst e5
        have hsz : s.size ≤ Q := by
          have := w 2 _ _ rfl rfl s.data.toList.length (by rw [ey2]; simp [DataW.weights])
          simp at this
          exact Nat.le_trans this reach_Q
        refine ⟨.mk kk hh s ls ks vs, _, _, _, _, _, _, rfl, ?_, ?_⟩
        · rw [Wf]; exact ⟨hsz, l1, q1, v1, q2, l2, v2⟩
        · rw [RV]; exact ⟨la, lc, ka, kc, va, vc, rfl, l3, q3, v3⟩

theorem open_values {n : Nat} {cs : List Value} {x : DataW H × List MemPlace} (h : DataW.trod enc Tryz.prog W 0 spare held n 22 cs = some x) (hs : ∀ k ∈ x.1.weights Tryz.prog 22, k ≤ reachBytes) :
    ∃ (l : List V) (a : Option Addr) (c : Nat), cs = [.slice a l.length c] ∧ l.length ≤ Q ∧ WfL l ∧ RL W (All W) l a :=
  open_values_of (fun m _ => open_value m) h hs
end

end Go.Proofs.YtgjmgneppecfgaaGreatDoor.Va
