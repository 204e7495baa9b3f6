/-
  FnOptimize returns true at every list of instructions, and leaves it as it was: behind the pass a list means what it meant. No condition.
-/
import Derived.Test.YtnlndpgbhmkanaaOpS
import Derived.Test.YtnlndpgbhmkanaaOpG
import Derived.Deep.Slices
import Derived.Deep.Fields
import Derived.ChangeSame
import Derived.Carry
import Derived.ProofKit
import Derived.OpenShut
namespace Go.Proofs.Ytnlndpgbhmkanaa.fnOptimize
open Go.ChangeShapes Go.WideShapes Go.ChangeAt Go.RowKit Go.Deep
set_option linter.unusedVariables false
set_option linter.unusedSimpArgs false

theorem own : ownKnob Try.prog.godebug = none := by kernel_rfl
theorem laidOut : laidOutB Try.prog = true := by kernel_rfl
theorem means_law : Op.MeansLaw := fun l n hn hq hp a c S w h hS => Op.means_any l n hn hq hp a c S w h hS

section
variable {H : Type} {enc : TypeId × Value → H} {P : Program} {w : World} {base : Nat} {spare : Nat → Bool} {held : Bool}
theorem open_slice_fields {t e : TypeId} {fs : Array Field} {fuel : Nat} {cs : List Value} {x : DataW H × List MemPlace} (ht : P.underlying t = some (.slice e)) (he : P.underlying e = some (.struct fs))
    (hone : oneCellFields P fs = true) (hC : P.cellsOf e = fs.size) (h : DataW.trod enc P w base spare held fuel t cs = some x) :
    (cs = [.slice none 0 0] ∧ x = (.nil, [])) ∨
    ∃ (a : Addr) (len cap m : Nat) (D : Nat → DataW H) (Pl : Nat → List MemPlace), cs = [.slice (some a) len cap] ∧ base ≤ a.block ∧ len ≤ cap ∧ cap ≤ maxLen ∧ m = (if spare a.block then cap else len) ∧
      x = (.slice ((List.range len).map D) ((List.range (m - len)).map fun j => D (len + j)), MemPlace.row a (m * fs.size) ++ (List.range m).flatMap Pl) ∧
      ∀ i, i < m → ∃ (ys : List (DataW H × List MemPlace)) (n : Nat), D i = .agg (ys.map (·.1)) ∧ Pl i = ys.flatMap (·.2) ∧ ys.length = fs.size ∧
        ∀ (j : Nat) (f : Field), fs[j]? = some f → ∃ (v : Value) (y : DataW H × List MemPlace), w.cell? (a.add (i * fs.size + j)) = some v ∧ ys[j]? = some y ∧ DataW.trod enc P w base spare held n f.type [v] = some y := by
  rcases open_slice ht h with h0 | ⟨a, len, cap, m, n, D, Pl, hcs, hb, hl, hm, hmm, hx, hi⟩
  · exact .inl h0
  · refine .inr ⟨a, len, cap, m, D, Pl, hcs, hb, hl, hm, hmm, by rw [hC] at hx; exact hx, fun i him => ?_⟩
    obtain ⟨cs', hc, ht'⟩ := hi i him
    rw [hC] at hc
    obtain ⟨ys, n', hn', hy, hlen, hyl, hf⟩ := DataW.trod_struct he ht'
    obtain ⟨_, hcl, hat⟩ := World.cells?_some hc
    simp only [Prod.mk.injEq] at hy
    refine ⟨ys, n', hy.1, hy.2, hyl, fun j f hj => ?_⟩
    obtain ⟨ho, hk⟩ := hone_of hone j f hj
    have hjl : j < fs.size := (Array.getElem?_eq_some_iff.1 hj).1
    have hcell := hat j hjl
    have hv : cs'[j]? = some (cs'[j]'(by omega)) := List.getElem?_eq_getElem (by omega)
    have h1 := hf j f hj
    rw [ho, hk] at h1
    have hone' : (cs'.drop j).take 1 = [cs'[j]'(by omega)] := by
      rw [List.drop_eq_getElem_cons (by omega)]
      rfl
    rw [hone'] at h1
    have hys : ys[j]? = some (ys[j]'(by omega)) := List.getElem?_eq_getElem (by omega)
    refine ⟨_, _, ?_, hys, h1.trans hys⟩
    rw [← Go.Deep.add_add, hcell, hv]
end

theorem choose_all {α : Type} {p : Nat → α → Prop} {n : Nat} (h : ∀ i, i < n → ∃ v, p i v) : ∃ l : List α, l.length = n ∧ ∀ i (hi : i < l.length), p i l[i] := by
  induction n with
  | zero => exact ⟨[], rfl, fun i hi => by simp at hi⟩
  | succ n ih =>
    obtain ⟨l, hl, hp⟩ := ih fun i hi => h i (by omega)
    obtain ⟨v, hv⟩ := h n (by omega)
    refine ⟨l ++ [v], by simp [hl], fun i hi => ?_⟩
    simp only [List.length_append, List.length_cons, List.length_nil] at hi
    by_cases hin : i < l.length
    · rw [List.getElem_append_left hin]; exact hp i hin
    · obtain rfl : i = n := by omega
      rw [List.getElem_append_right (by omega)]
      simpa using hv
theorem spot_of {w : World} {a : Addr} {v : Value} (h : w.cell? (a.add 0) = some v) : a = ⟨a.block, a.off, none⟩ := by
  obtain ⟨b, o, s⟩ := a
  cases s with
  | none => rfl
  | some s =>
    exfalso
    rw [show (⟨b, o, some s⟩ : Addr).add 0 = ⟨b, o, some s⟩ by simp [Addr.add]] at h
    simp only [World.cell?] at h
    split at h <;> simp at h
theorem add_none (b o i : Nat) : (⟨b, o, none⟩ : Addr).add i = ⟨b, o + i, none⟩ := by
  unfold Addr.add; split <;> simp_all
theorem cell_lt {w : World} {b o : Nat} {v : Value} (h : w.cell? ⟨b, o, none⟩ = some v) : b < w.heap.size := by
  rcases Nat.lt_or_ge b w.heap.size with h' | h'
  · exact h'
  · simp [World.cell?, Array.getElem?_eq_none h'] at h

/-- the list that comes in -/
theorem open_steps {H : Type} {enc : TypeId × Value → H} {W : World} {spare : Nat → Bool} {held : Bool} {fuel : Nat} {v : Value} {x : DataW H × List MemPlace} (h : DataW.trod enc Try.prog W 0 spare held fuel 24 [v] = some x) :
    ∃ (l : List Op.Ins) (a : Option Addr) (c : Nat), v = .slice a l.length c ∧ l.length ≤ maxLen ∧ Op.RI W (fun b => b < W.heap.size) l a := by
  rcases open_slice_fields Try.underlying24 Try.underlying36 (by kernel_rfl) (by kernel_rfl) h with ⟨e, _⟩ | ⟨a, len, cap, m, D, Pl, e, _, hlc, hcm, hm, _, hi⟩
  · simp only [List.cons.injEq, and_true] at e
    subst e
    exact ⟨[], none, 0, rfl, Nat.zero_le _, fun i hi => by simp at hi⟩
  · simp only [List.cons.injEq, and_true] at e
    subst e
    have hlm : len ≤ m := by rw [hm]; split <;> omega
    obtain ⟨l, hl, hp⟩ := choose_all (p := fun i (x : Op.Ins) => W.cell? (a.add (i * 4 + 0)) = some (.int .i64 x.op) ∧ W.cell? (a.add (i * 4 + 1)) = some (.int .i64 x.a) ∧ W.cell? (a.add (i * 4 + 2)) = some (.int .i64 x.b) ∧ W.cell? (a.add (i * 4 + 3)) = some (.int .i64 x.c)) (n := len) fun i hil => by
      obtain ⟨ys, n, _, _, _, hf⟩ := hi i (by omega)
      obtain ⟨v0, y0, c0, _, t0⟩ := hf 0 _ rfl
      obtain ⟨v1, y1, c1, _, t1⟩ := hf 1 _ rfl
      obtain ⟨v2, y2, c2, _, t2⟩ := hf 2 _ rfl
      obtain ⟨v3, y3, c3, _, t3⟩ := hf 3 _ rfl
      obtain ⟨q0, e0, _⟩ := DataW.trod_int Try.underlying3 t0
      obtain ⟨q1, e1, _⟩ := DataW.trod_int Try.underlying3 t1
      obtain ⟨q2, e2, _⟩ := DataW.trod_int Try.underlying3 t2
      obtain ⟨q3, e3, _⟩ := DataW.trod_int Try.underlying3 t3
      simp only [List.cons.injEq, and_true] at e0 e1 e2 e3
      subst e0 e1 e2 e3
      exact ⟨⟨q0, q1, q2, q3⟩, c0, c1, c2, c3⟩
    subst hl
    refine ⟨l, some a, cap, rfl, by omega, fun i hil => ?_⟩
    have ha : a = ⟨a.block, a.off, none⟩ := by
      have := (hp 0 (by omega)).1
      exact spot_of this
    obtain ⟨c0, c1, c2, c3⟩ := hp i hil
    rw [ha, add_none] at c0 c1 c2 c3
    refine ⟨a.block, a.off, by rw [← ha], cell_lt c0, ?_, ?_, ?_, ?_⟩
    · exact c0
    · exact c1
    · exact c2
    · exact c3

/-! ### THE ROW's STEP -/
set_option maxRecDepth 100000 in
theorem lifted (os : Os) (started : os.Started) (H : Type) (enc : TypeId × Value → H) :
    ReturnsInHanded {} Try.checked os 4 .any (Rows.fnOptimizeSpec.pre6 enc Try.prog Try.f4 Rows.fnOptimizeRow.domain false) (Rows.fnOptimizeSpec.post enc Try.prog Try.f4 false true false false) := by
  refine returnsInHanded_of_change (C := Try.checked) own started (by kernel_rfl) Try.func4
    (ChangeSpec.witness6 (enc := enc) (C := Try.checked) false ⟨#[], #[.slice none 0 0, .bool false], []⟩ 8 (by kernel_rfl) (by kernel_rfl) (by kernel_rfl) (by kernel_rfl)) ?_
  intro W base args ds gs before hval0 hW hcnd _
  have hval : ∀ (j : Nat) t v, Try.f4.params[j]? = some t → args[j]? = some v → Value.okWide Try.prog W .any base t v := hval0
  have hW' := hW
  obtain ⟨p, q, hA0, hV, rfl, hfz, hnd⟩ := hW
  have hA : DataW.TrodAll enc Try.prog W 0 (fun _ => true) true Try.f4.params.toList args.toList ds p := hA0
  rw [Try.params4] at hA hval
  obtain ⟨v0, v1, d0, d1, p0, p1, rfl, rfl, rfl, h0, h1⟩ := trodAll_two hA
  obtain ⟨rfl, rfl⟩ := trodVars_none hV
  obtain ⟨a1, rfl, rfl, rfl⟩ := open_bool Try.underlying4 (hval 1 4 v1 rfl rfl) h1
  clear hA0 hval0
  simp only [List.append_nil] at hW'
  have h0k := h0
  have hlt : ∀ x ∈ p0, x.block < W.heap.size := fun x hx => hW'.lt x hx
  obtain ⟨fuel, hf⟩ := h0
  obtain ⟨sa, sl, sc, rfl⟩ := okWide_slice Try.underlying24 (hval 0 24 v0 rfl rfl)
  obtain ⟨l, a, c, he, hlm, hri⟩ := open_steps hf
  simp only [Value.slice.injEq] at he
  obtain ⟨rfl, rfl, rfl⟩ := he
  refine (Op.law_any means_law l _ rfl a1 _ _ _ W hri (fun b h => h) (by unfold maxLen at hlm; omega)).mono fun e W' ⟨he, hb⟩ => ?_
  subst he
  have ht := trodAll_mk2 (Below.trod laidOut (by kernel_rfl) (of_decide_eq_true (by kernel_rfl)) h0k hb hlt) (shut_bool Try.underlying4 a1)
  rw [List.append_nil] at ht
  exact ⟨_, rfl, _, _, _, [], p0, [], hW', trodAll_mk1 (shut_bool Try.underlying4 _), ht, rfl, hb.frame _, fun h => by cases h⟩

theorem over : Rows.fnOptimizeRow.holds Try.pinned (OpenSpec.ofChange Rows.fnOptimizeSpec) :=
  OpenClaim.holds_of_wide 4 Try.f4 rfl rfl rfl rfl rfl rfl rfl ⟨rfl, rfl, rfl, rfl, rfl⟩ rfl rfl rfl rfl rfl (by kernel_rfl) Try.func4 (by kernel_rfl)
    (of_decide_eq_true (by kernel_rfl)) (by unfold Func.isWrapper; first | (rw [if_pos (by decide +kernel)]; kernel_rfl) | (rw [if_neg (by decide +kernel)]; exact ⟨rfl, rfl⟩))
    (fun os started H enc _ => lifted os started H enc)

/-- the statement -/
theorem proved : Rows.FnOptimizeSaid :=
  over
end Go.Proofs.Ytnlndpgbhmkanaa.fnOptimize
namespace Go.Proofs.Ytnlndpgbhmkanaa
theorem fnOptimize_holds : Rows.FnOptimizeSaid := fnOptimize.proved
#print axioms fnOptimize_holds
end Go.Proofs.Ytnlndpgbhmkanaa
