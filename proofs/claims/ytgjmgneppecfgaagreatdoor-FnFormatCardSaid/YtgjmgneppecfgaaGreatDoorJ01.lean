/-
  FnFormat, texts VaB VaC VaM VaD VaE: lemmas for the law; the theorem stands in the last text.
-/
import Derived.WalkKit
import Derived.WalkSpells
import Derived.WalkLawsBesides
import Derived.Deep.QuietTactic
import Derived.BigQuiet
import Derived.Handy
import Derived.Lib.Hide
import Derived.Deep.DeepCutAuto
import Derived.Laws.Cover2
import Derived.IntWalk
import Derived.Laws.MakeOwn
import Derived.Maps.Own
import Derived.Test.YtgjmgneppecfgaaGreatDoorJ00
namespace Go.Proofs.YtgjmgneppecfgaaGreatDoor.Va
open Go.RowKit
set_option linter.unusedVariables false
set_option linter.unusedSimpArgs false

/-- what toGo returns -/
def ToGo (x : V) (w : World) (e : Ending) (w' : World) : Prop :=
  ∃ g, e = .returned (.tuple #[g, .bool true]) ∧ GV w' (fun r => w.heap.size ≤ r) x g ∧ Below w.heap.size w w'

section
variable (h : Int) (t : ByteArray) (ls : List V) (ks : List ByteArray) (vs : List V) (la ka va : Option Addr) (n1 lc n2 kc n3 vc : Nat) (w : World)

set_option maxHeartbeats 400000 in
theorem toGo_0 : Calls Tryz.prog 43 #[.agg #[.int .i64 0, .int .i64 h, .string t, .slice la n1 lc, .slice ka n2 kc, .slice va n3 vc]] w (ToGo (.mk 0 h t ls ks vs) w) := by
  go_enter Tryz.func43, Tryz.ntmps43
  go_wp2
  go_returns
  exact ⟨_, rfl, by rw [GV]; exact .inl ⟨rfl, rfl⟩, by go_grown⟩
set_option maxHeartbeats 400000 in
theorem toGo_1 : Calls Tryz.prog 43 #[.agg #[.int .i64 1, .int .i64 h, .string t, .slice la n1 lc, .slice ka n2 kc, .slice va n3 vc]] w (ToGo (.mk 1 h t ls ks vs) w) := by
  go_enter Tryz.func43, Tryz.ntmps43
  go_wp2
  go_returns
  exact ⟨_, rfl, by rw [GV]; exact .inr (.inl ⟨rfl, rfl⟩), by go_grown⟩
set_option maxHeartbeats 400000 in
theorem toGo_2 : Calls Tryz.prog 43 #[.agg #[.int .i64 2, .int .i64 h, .string t, .slice la n1 lc, .slice ka n2 kc, .slice va n3 vc]] w (ToGo (.mk 2 h t ls ks vs) w) := by
  go_enter Tryz.func43, Tryz.ntmps43
  go_wp2
  go_returns
  exact ⟨_, rfl, by rw [GV]; exact .inr (.inr (.inl ⟨rfl, rfl⟩)), by go_grown⟩
set_option maxHeartbeats 400000 in
theorem toGo_4 : Calls Tryz.prog 43 #[.agg #[.int .i64 4, .int .i64 h, .string t, .slice la n1 lc, .slice ka n2 kc, .slice va n3 vc]] w (ToGo (.mk 4 h t ls ks vs) w) := by
  go_enter Tryz.func43, Tryz.ntmps43
  go_wp2
  go_returns
  exact ⟨_, rfl, by rw [GV]; exact .inr (.inr (.inr (.inr (.inl ⟨rfl, rfl⟩)))), by go_grown⟩

theorem tmod_even {h : Int} (he : h % 2 = 0) : h.tmod 2 = 0 := Int.tmod_eq_zero_of_dvd (Int.dvd_of_emod_eq_zero he)
theorem tmod_odd {h : Int} (he : h % 2 ≠ 0) : h.tmod 2 ≠ 0 := fun e => he (Int.emod_eq_zero_of_dvd (Int.dvd_of_tmod_eq_zero e))

set_option maxHeartbeats 400000 in
theorem toGo_3e (hlo : -18014398509481984 ≤ h) (hhi : h ≤ 18014398509481984) (he : h % 2 = 0) : Calls Tryz.prog 43 #[.agg #[.int .i64 3, .int .i64 h, .string t, .slice la n1 lc, .slice ka n2 kc, .slice va n3 vc]] w (ToGo (.mk 3 h t ls ks vs) w) := by
  have e1 := tmod_even he
  have e2 : h.tdiv 2 = h / 2 := Int.tdiv_eq_ediv_of_dvd (Int.dvd_of_emod_eq_zero he)
  have HE := Lib.hid he
  clear he
  have hw : wrap64 (h / 2) = h / 2 := by unfold wrap64; omega
  go_enter Tryz.func43, Tryz.ntmps43
  go_wp2
  go_returns
  refine ⟨_, rfl, ?_, by go_grown⟩
  rw [GV]
  exact .inr (.inr (.inr (.inl ⟨rfl, by rw [gnum, if_pos HE.out]; rfl⟩)))

set_option maxHeartbeats 400000 in
theorem toGo_3o (hlo : -9007199254740992 < h) (hhi : h < 9007199254740992) (he : h % 2 ≠ 0) : Calls Tryz.prog 43 #[.agg #[.int .i64 3, .int .i64 h, .string t, .slice la n1 lc, .slice ka n2 kc, .slice va n3 vc]] w (ToGo (.mk 3 h t ls ks vs) w) := by
  have e1 : (h.tmod 2 == 0) = false := by simpa using tmod_odd he
  obtain ⟨s, M, k, H⟩ := half_of h (by omega) (by unfold B; omega)
  have hq : ∀ w : World, (binOp .quo 65 (.float .f64 (floatOfInt .f64 h)) (.float .f64 4611686018427387904)).run Tryz.prog w = .ok (.float .f64 (fl h)) w := fun w => run_float_arith w .quo 65 .f64 _ _ _ (div_two H)
  have HE := Lib.hid he
  clear he H
  go_enter Tryz.func43, Tryz.ntmps43
  go_wp2
  go_returns
  refine ⟨_, rfl, ?_, by go_grown⟩
  rw [GV]
  exact .inr (.inr (.inr (.inl ⟨rfl, by rw [gnum, if_neg HE.out]; rfl⟩)))
end

end Go.Proofs.YtgjmgneppecfgaaGreatDoor.Va
namespace Go.Proofs.YtgjmgneppecfgaaGreatDoor.Va
open Go.RowKit
set_option linter.unusedVariables false
set_option linter.unusedSimpArgs false

/-- toGo serves x -/
def TG (x : V) : Prop := ∀ (v : Value) (S : Nat → Prop) (w : World), RV w S x v → (∀ b, S b → b < w.heap.size) → Calls Tryz.prog 43 #[v] w (ToGo x w)

theorem block_new (w : World) (cs : Array Value) (t : TypeId) : (w.alloc (.cells cs t)).heap[w.heap.size]? = some (.cells cs t (0, 0)) := heap_alloc_new w _
theorem block_past {w : World} {b : Nat} {o : Obj} (h : w.heap[b]? = some o) (o' : Obj) : (w.alloc o').heap[b]? = some o := by
  rw [Below.heap_alloc w o' b (heap_lt h), h]
/-- a contract's world holds the blocks that were there -/
theorem keep {w w' : World} (h : Below w.heap.size w w') {b : Nat} {o : Obj} (k : w.heap[b]? = some o) : w'.heap[b]? = some o := (h.block b (heap_lt k)).trans k
theorem cell_of {w : World} {b : Nat} {cs : Array Value} {t : TypeId} {fz : Nat × Nat} (h : w.heap[b]? = some (.cells cs t fz)) (j : Nat) {v : Value} (hj : cs[j]? = some v) : w.cell? ⟨b, j, none⟩ = some v := by
  simp [World.cell?, h, hj]
theorem free_of {w : World} {b : Nat} {cs : Array Value} {t : TypeId} (h : w.heap[b]? = some (.cells cs t (0, 0))) (j : Nat) : w.frozen? ⟨b, j, none⟩ = false := by
  simp [World.frozen?, h]
theorem below_alloc (w : World) (o : Obj) : Below w.heap.size w (w.alloc o) := (Below.refl _ _).alloc (Nat.le_refl _) o
/-- a block behind a store into it -/
theorem set_block {w : World} {b : Nat} {cs : Array Value} {t : TypeId} {fz : Nat × Nat} (h : w.heap[b]? = some (.cells cs t fz)) (j : Nat) (v : Value) : (w.setCell ⟨b, j, none⟩ v).heap[b]? = some (.cells (cs.setIfInBounds j v) t fz) := by
  simp [World.setCell, Array.getElem?_modify, h]
theorem set_other {w : World} {b b' : Nat} (j : Nat) (v : Value) (h : b' ≠ b) : (w.setCell ⟨b, j, none⟩ v).heap[b']? = w.heap[b']? := Below.heap_setCell w _ v b' h

/-- the block in which the list is made: the first k elements are there -/
def Made (l : List V) (g k : Nat) (wr : World) : Prop :=
  ∃ cur : Array Value, wr.heap[g]? = some (.cells cur 20 (0, 0)) ∧ cur.size = l.length ∧ ∀ i (hi : i < l.length), i < k → ∃ e, cur[i]? = some e ∧ GV wr (fun r => g < r) l[i] e
theorem Made.keep {l : List V} {g k : Nat} {w w' : World} (h : Made l g k w) (hb : Below w.heap.size w w') : Made l g k w' := by
  obtain ⟨cur, h1, h2, h3⟩ := h
  refine ⟨cur, Va.keep hb h1, h2, fun i hi hk => ?_⟩
  obtain ⟨e, he, hg⟩ := h3 i hi hk
  exact ⟨e, he, GV.mono (S := fun r => g < r ∧ r < w.heap.size) (Same.of_below hb fun b h => h.2) (fun b h => h.1) _ _ (GV.lt _ _ hg)⟩
theorem Made.store {l : List V} {g k : Nat} {w : World} (h : Made l g k w) (hk : k < l.length) {e : Value} (hg : GV w (fun r => g < r) l[k] e) : Made l g (k + 1) (w.setCell ⟨g, k, none⟩ e) := by
  obtain ⟨cur, h1, h2, h3⟩ := h
  have hs : Same (fun r => g < r) w (w.setCell ⟨g, k, none⟩ e) := fun b hb => set_other k e (by omega)
  refine ⟨cur.setIfInBounds k e, set_block h1 k e, by simpa using h2, fun i hi hlt => ?_⟩
  by_cases c : i = k
  · subst c
    exact ⟨e, by rw [Array.getElem?_setIfInBounds_self_of_lt (by omega)], GV.mono hs (fun _ h => h) _ _ hg⟩
  · obtain ⟨d, hd, hx⟩ := h3 i hi (by omega)
    exact ⟨d, by rw [Array.getElem?_setIfInBounds_ne (by omega)]; exact hd, GV.mono hs (fun _ h => h) _ _ hx⟩
theorem Made.done {l : List V} {g : Nat} {w : World} (h : Made l g l.length w) : GL w (fun r => g ≤ r) l (some ⟨g, 0, none⟩) := by
  obtain ⟨cur, h1, h2, h3⟩ := h
  refine GL.of l g 0 (fun _ => Nat.le_refl _) fun i hi => ?_
  obtain ⟨e, he, hx⟩ := h3 i hi hi
  exact ⟨e, cell_of h1 _ (by simpa using he), GV.mono (fun _ _ => rfl) (fun b hb => Nat.le_of_lt hb) _ _ hx⟩

theorem infoAny : (Tryz.prog.info? 20).map (fun i => (i.zero, i.size, i.bytes)) = some (some .nilIface, 1, 16) := by kernel_rfl

/-- a value's cells -/
theorem RV.parts {w : World} {S : Nat → Prop} {x : V} {v : Value} (h : RV w S x v) : ∃ (la : Option Addr) (lc : Nat) (ka : Option Addr) (kc : Nat) (va : Option Addr) (vc : Nat) (t0 n0 : Int) (tx : ByteArray) (n1 n2 n3 : Nat), v = .agg #[.int .i64 t0, .int .i64 n0, .string tx, .slice la n1 lc, .slice ka n2 kc, .slice va n3 vc] ∧ Hid (RV w S x (.agg #[.int .i64 t0, .int .i64 n0, .string tx, .slice la n1 lc, .slice ka n2 kc, .slice va n3 vc])) := by
  cases x with
  | mk k hh t ls ks vs =>
    have h' := h
    rw [RV] at h
    obtain ⟨la, lc, ka, kc, va, vc, e, _⟩ := h
    exact ⟨la, lc, ka, kc, va, vc, k, hh, t, _, _, _, e, Lib.hid (e ▸ h')⟩

/-- what listToGo returns -/
def ListToGo (l : List V) (w : World) (e : Ending) (w' : World) : Prop :=
  ∃ g, e = .returned (.tuple #[.slice (some ⟨g, 0, none⟩) l.length l.length, .bool true]) ∧ w.heap.size ≤ g ∧ GL w' (fun r => w.heap.size ≤ r) l (some ⟨g, 0, none⟩) ∧ Below w.heap.size w w'

def LoopL (l : List V) (w : World) (g : Nat) (i : Value) (wr : World) : Prop :=
  ∃ k : Nat, i = .int .i64 k ∧ k ≤ l.length ∧ Made l g k wr ∧ Below w.heap.size w wr

theorem Made.lt {l : List V} {g k : Nat} {w : World} (h : Made l g k w) : g < w.heap.size := by
  obtain ⟨cur, h1, _⟩ := h
  exact heap_lt h1
theorem Made.cell {l : List V} {g k : Nat} {w : World} (h : Made l g k w) {j : Nat} (hj : j < l.length) : ∃ v, w.cell? ⟨g, j, none⟩ = some v ∧ w.frozen? ⟨g, j, none⟩ = false := by
  obtain ⟨cur, h1, h2, _⟩ := h
  exact ⟨cur[j]'(by omega), cell_of h1 j (by rw [Array.getElem?_eq_getElem]), free_of h1 j⟩
theorem loopL_next {l : List V} {k : Nat} (hk : k < l.length) {w w2 : World} (hm : Made l w.heap.size k w2) {g : Value} (hg : GV w2 (fun r => w.heap.size < r) l[k] g) (hb : Below w.heap.size w w2) : LoopL l w w.heap.size (.int .i64 ((k : Int) + 1)) (w2.setCell ⟨w.heap.size, k, none⟩ g) :=
  ⟨k + 1, rfl, hk, hm.store hk hg, hb.setCell (Nat.le_refl _) _⟩
theorem gnum_flat (h : Int) : ∃ t v, gnum h = .iface t v := by
  unfold gnum; split
  · exact ⟨_, _, rfl⟩
  · exact ⟨_, _, rfl⟩
theorem GV.flat {w : World} {S : Nat → Prop} {x : V} {g : Value} (h : GV w S x g) : g = .nilIface ∨ ∃ t v, g = .iface t v := by
  cases x with
  | mk k hh t ls ks vs =>
    rw [GV] at h
    rcases h with q | q | q | q | q | ⟨q, a, c, e, hl⟩ | ⟨q, r, es, cl, e, hr, hb, hst, hm⟩
    · exact .inl q.2
    · exact .inr ⟨_, _, q.2⟩
    · exact .inr ⟨_, _, q.2⟩
    · obtain ⟨t, v, e⟩ := gnum_flat hh
      exact .inr ⟨t, v, q.2.trans e⟩
    · exact .inr ⟨_, _, q.2⟩
    · exact .inr ⟨_, _, e⟩
    · exact .inr ⟨_, _, e⟩
theorem loopL_start (l : List V) (w : World) : LoopL l w w.heap.size (.int .i64 0) (w.alloc (.cells (madeCells #[.nilIface] l.length) 20)) :=
  ⟨0, rfl, Nat.zero_le _, ⟨_, block_new w _ _, size_madeCells _ _, fun i _ h => absurd h (by omega)⟩, below_alloc w _⟩

set_option maxHeartbeats 2000000 in
set_option maxRecDepth 100000 in
theorem listToGo_any (l : List V) (H : ∀ x ∈ l, TG x) (a : Option Addr) (c : Nat) (S : Nat → Prop) (w : World) (hl : RL w S l a) (hS : ∀ b, S b → b < w.heap.size) (hn : l.length ≤ 2147483647) :
    Calls Tryz.prog 38 #[.slice a l.length c] w (ListToGo l w) := by
  obtain ⟨i0, hi, hz0, hz1, hz2⟩ := info_parts infoAny
  have hmk : ∀ w : World, (Instr.makeSlice 60 (.int .i64 (l.length : Int)) (.int .i64 (l.length : Int))).run Tryz.prog w = .ok (.slice (some ⟨w.heap.size, 0, none⟩) l.length l.length) (w.alloc (.cells (madeCells #[.nilIface] l.length) 20)) := by
    intro w
    have := run_make (P := Tryz.prog) w 60 20 i0 .nilIface Tryz.underlying60 hi hz0 .i64 .i64 l.length l.length (by omega) (by omega) (by rw [hz2]; omega) (by omega)
    rw [hz1] at this
    simpa [Value.cells] using this
  clear hi hz0 hz1 hz2
  go_enter Tryz.func38, Tryz.ntmps38
  go_wp2_with fail
  go_loopw [14] (LoopL l w w.heap.size) (fun i _ => l.length - (intOf i).toNat)
  case atStart => exact loopL_start l w
  case round =>
    obtain ⟨k, rfl, hk, hm, hb⟩ := hrel
    by_cases hlt : k < l.length
    · obtain ⟨b, o, rfl⟩ := hl.addr (by omega)
      obtain ⟨hSb, c0, c1, c2, c3, c4, c5, h6, hx⟩ := RL.at l b o hl k hlt
      have hsame := Same.of_below hb hS
      have h6' := Six.mono hsame hSb h6
      have hx' := RV.mono hsame (fun _ h => h) _ _ hx
      have HM := Lib.hid hm
      have HB := Lib.hid hb
      obtain ⟨la, lc, ka, kc, va, vc, t0, n0, tx, ls, ks, vs, e, HX⟩ := RV.parts hx'
      simp only [Value.agg.injEq, Array.mk.injEq, List.cons.injEq, and_true] at e
      obtain ⟨rfl, rfl, rfl, rfl, rfl, rfl⟩ := e
      have HH := Lib.hid H
      have HS := Lib.hid hS
      clear hm hb hx hx' h6 hsame H hl hS
      unfold Six at h6'
      go_wp2_with fail
      generalize hW : World.alloc wr _ = W
      have b1 : Below wr.heap.size wr W := hW ▸ below_alloc wr _
      clear hW h6'
      have hg0 : w.heap.size < wr.heap.size := HM.out.lt
      refine (HH.out _ (List.getElem_mem hlt) _ S W (RV.mono (Same.of_below b1 fun b h => Nat.lt_of_lt_of_le (HS.out b h) HB.out.size) (fun _ h => h) _ _ HX.out) (fun b h => Nat.lt_of_lt_of_le (Nat.lt_of_lt_of_le (HS.out b h) HB.out.size) b1.size)).mono ?_
      rintro e w2 ⟨g, rfl, hg, hb2⟩
      have hs1 := b1.size
      have HG := Lib.hid (GV.mono (T := fun r => w.heap.size < r) (fun _ _ => rfl) (fun b (h : W.heap.size ≤ b) => by show w.heap.size < b; omega) _ _ hg)
      have HM2 := Lib.hid ((HM.out.keep b1).keep hb2)
      have HB2 := Lib.hid ((HB.out.trans (b1.mono HB.out.size)).trans (hb2.mono (Nat.le_trans HB.out.size hs1)))
      clear hg hb2 hs1 b1 HX
      obtain ⟨old, hc1, hc2⟩ := HM2.out.cell hlt
      rcases HG.out.flat with rfl | ⟨gt, gv, rfl⟩
      all_goals
        go_wp2_with fail
        go_roundw
        case rel => exact loopL_next hlt HM2.out HG.out HB2.out
        case measure => simp [intOf]; omega
    · obtain rfl : k = l.length := by omega
      have HM := Lib.hid hm
      have HB := Lib.hid hb
      clear hm hb H
      go_wp2_with fail
      go_returns
      exact ⟨_, rfl, Nat.le_refl _, HM.out.done, HB.out⟩

end Go.Proofs.YtgjmgneppecfgaaGreatDoor.Va
namespace Go.Proofs.YtgjmgneppecfgaaGreatDoor.Va
open Go.RowKit
open Go.MapKept (Stamped IsKey)
set_option linter.unusedVariables false
set_option linter.unusedSimpArgs false

theorem bytesLess_trans : ∀ (a b c : List UInt8), Op.bytesLess a b = true → Op.bytesLess b c = true → Op.bytesLess a c = true
  | [], [], _, h, _ => by simp [Op.bytesLess] at h
  | [], _ :: _, [], _, h => by simp [Op.bytesLess] at h
  | [], _ :: _, _ :: _, _, _ => by simp [Op.bytesLess]
  | _ :: _, [], _, h, _ => by simp [Op.bytesLess] at h
  | _ :: _, _ :: _, [], _, h => by simp [Op.bytesLess] at h
  | x :: a, y :: b, z :: c, h, k => by
    have ih := bytesLess_trans a b c
    simp only [Op.bytesLess] at h k ⊢
    by_cases h1 : x < y
    · by_cases h2 : y < z
      · have : x < z := UInt8.lt_trans h1 h2
        simp [this]
      · by_cases h3 : y = z
        · subst h3; simp [h1]
        · simp [h2, h3] at k
    · by_cases h3 : x = y
      · subst h3
        by_cases h2 : x < z
        · simp [h2]
        · by_cases h4 : x = z
          · subst h4
            simp [h1] at h k ⊢
            exact ih h k
          · simp [h2, h4] at k
      · simp [h1, h3] at h
theorem bytesLess_self (l : List UInt8) : Op.bytesLess l l = false := by
  induction l with
  | nil => rfl
  | cons a t ih => simp [Op.bytesLess, ih]
theorem Rising.tail {a : ByteArray} {l : List ByteArray} (h : Rising (a :: l)) : Rising l := by
  cases l with
  | nil => trivial
  | cons b r => exact h.2
theorem Rising.head {a : ByteArray} : ∀ {l : List ByteArray}, Rising (a :: l) → ∀ x ∈ l, Op.bytesLess a.data.toList x.data.toList = true
  | [], _, x, hx => by cases hx
  | b :: r, h, x, hx => by
    have h' := h
    rcases List.mem_cons.1 hx with rfl | hx
    · exact h'.1
    · exact bytesLess_trans _ _ _ h'.1 (Rising.head (l := r) h'.2 x hx)
theorem Rising.less : ∀ {l : List ByteArray}, Rising l → ∀ i j (hj : j < l.length) (hij : i < j), Op.bytesLess (l[i]'(Nat.lt_trans hij hj)).data.toList l[j].data.toList = true
  | [], _, i, j, hj, _ => by simp at hj
  | a :: l, h, 0, j + 1, hj, _ => h.head _ (List.getElem_mem (by simpa using hj))
  | a :: l, h, i + 1, j + 1, hj, hij => Rising.less h.tail i j (by simpa using hj) (by omega)
theorem Rising.apart {l : List ByteArray} (h : Rising l) {i j : Nat} (hj : j < l.length) (hij : i < j) : l[i]'(Nat.lt_trans hij hj) ≠ l[j] := fun e => by
  have := h.less i j hj hij
  rw [e, bytesLess_self] at this
  cases this

/-- a new key is put behind the others -/
theorem run_put {P : Program} {w : World} {mty kt et : TypeId} {r clock : Nat} {es : Array MapEntry} {s : ByteArray} {val : Value} (hm : P.underlying mty = some (.map kt et)) (hk : P.underlying kt = some .string)
    (hb : w.heap[r]? = some (.map es clock)) (hst : Stamped es clock) (hs : ∀ x ∈ es.toList, IsKey .string x.key) (hne : ∀ x ∈ es.toList, x.key ≠ .string s) :
    ∃ w', (Instr.mapUpdate mty (.map (some r)) (.string s) val).run P w = .ok () w' ∧ w'.heap[r]? = some (.map (es.push { key := .string s, val := val, born := clock }) (clock + 1)) ∧ Stamped (es.push { key := .string s, val := val, born := clock }) (clock + 1) ∧ w.grownBy w' (some r) := by
  have hkey : IsKey .string (.string s) := trivial
  rcases MapKept.findNow_spec hkey es.toList 0 hs with ⟨h1, _⟩ | ⟨j, e, _, h2, h3⟩
  · refine ⟨{ w with heap := w.heap.setIfInBounds r (.map (es.push { key := .string s, val := val, born := clock }) (clock + 1)) }, ?_, (MapKept.heap_set hb).1, MapKept.stamped_push hst hne, ⟨rfl, rfl, rfl, by simp, fun i _ hi => (MapKept.heap_set hb).2 i (fun e => hi (by rw [e]))⟩⟩
    simp [Instr.mapUpdate, run_underlying hm, MapKept.run_getObj_map hb, MapKept.run_checkKey hk hkey, MapKept.run_findKey hk h1, MapKept.run_setObj_map _ hb, Result.andThen]
  · exact absurd h3 (hne e (List.mem_of_getElem? h2))

/-- the map under construction: the first k entries are there -/
def MadeM (ks : List ByteArray) (vs : List V) (g k : Nat) (wr : World) : Prop :=
  ∃ (es : Array MapEntry) (clock : Nat), wr.heap[g]? = some (.map es clock) ∧ Stamped es clock ∧ es.size = k ∧ ∀ i (hi : i < k) (h1 : i < ks.length) (h2 : i < vs.length), ∃ e, es[i]? = some e ∧ e.key = .string ks[i] ∧ GV wr (fun r => g < r) vs[i] e.val

theorem MadeM.keep {ks : List ByteArray} {vs : List V} {g k : Nat} {w w' : World} (h : MadeM ks vs g k w) (hb : Below w.heap.size w w') : MadeM ks vs g k w' := by
  obtain ⟨es, cl, h1, h2, h3, h4⟩ := h
  refine ⟨es, cl, Va.keep hb h1, h2, h3, fun i hi h1 h2 => ?_⟩
  obtain ⟨e, he, hk, hg⟩ := h4 i hi h1 h2
  exact ⟨e, he, hk, GV.mono (S := fun r => g < r ∧ r < w.heap.size) (Same.of_below hb fun b h => h.2) (fun b h => h.1) _ _ (GV.lt _ _ hg)⟩
theorem MadeM.lt {ks : List ByteArray} {vs : List V} {g k : Nat} {w : World} (h : MadeM ks vs g k w) : g < w.heap.size := by
  obtain ⟨es, cl, h1, _⟩ := h
  exact heap_lt h1
theorem entries_mem {es : Array MapEntry} {x : MapEntry} (hx : x ∈ es.toList) : ∃ i, i < es.size ∧ es[i]? = some x := by
  obtain ⟨i, hi, e⟩ := List.mem_iff_getElem.1 hx
  exact ⟨i, by simpa using hi, by rw [← Array.getElem?_toList, List.getElem?_eq_getElem hi, e]⟩
theorem MadeM.put {P : Program} {ks : List ByteArray} {vs : List V} {g k : Nat} {w : World} {mty kt et : TypeId} (h : MadeM ks vs g k w) (hm : P.underlying mty = some (.map kt et)) (hk : P.underlying kt = some .string)
    (hr : Rising ks) (h1 : k < ks.length) (h2 : k < vs.length) {x : Value} (hg : GV w (fun r => g < r) vs[k] x) :
    ∃ w', (Instr.mapUpdate mty (.map (some g)) (.string ks[k]) x).run P w = .ok () w' ∧ MadeM ks vs g (k + 1) w' ∧ w.grownBy w' (some g) := by
  obtain ⟨es, cl, e1, e2, e3, e4⟩ := h
  have hkeys : ∀ y ∈ es.toList, ∃ i, ∃ (hi : i < k), y.key = .string (ks[i]'(Nat.lt_trans hi h1)) := by
    intro y hy
    obtain ⟨i, hi, hyi⟩ := entries_mem hy
    obtain ⟨e, he, hke, _⟩ := e4 i (by omega) (by omega) (by omega)
    rw [he] at hyi; cases hyi
    exact ⟨i, by omega, hke⟩
  obtain ⟨w', hrun, hb, hst, hgr⟩ := run_put (P := P) (mty := mty) (val := x) (s := ks[k]) hm hk e1 e2 (fun y hy => by obtain ⟨i, hi, e⟩ := hkeys y hy; rw [e]; trivial)
    (fun y hy => by obtain ⟨i, hi, e⟩ := hkeys y hy; rw [e]; intro h; exact hr.apart h1 hi (by simpa using h))
  have hs : Same (fun r => g < r ∧ r < w.heap.size) w w' := fun b hb => hgr.block b hb.2 (by simp; omega)
  refine ⟨w', hrun, ⟨_, _, hb, hst, by simp [e3], fun i hi i1 i2 => ?_⟩, hgr⟩
  by_cases c : i = k
  · subst c
    exact ⟨{ key := .string (ks[i]'h1), val := x, born := cl }, by simp [← e3], rfl, GV.mono (S := fun r => g < r ∧ r < w.heap.size) hs (fun _ h => h.1) vs[i] x (GV.lt _ _ hg)⟩
  · obtain ⟨e, he, hke, hx⟩ := e4 i (by omega) i1 i2
    exact ⟨e, by rw [Array.getElem?_push_lt (by omega), ← he, Array.getElem?_eq_getElem], hke, GV.mono hs (fun _ h => h.1) _ _ (GV.lt _ _ hx)⟩
theorem GM.of {w : World} {S : Nat → Prop} : ∀ (vs : List V) (ks : List ByteArray) (es : List MapEntry), ks.length = vs.length → es.length = vs.length → (∀ i (h1 : i < ks.length) (h2 : i < vs.length), ∃ e, es[i]? = some e ∧ e.key = .string ks[i] ∧ GV w S vs[i] e.val) → GM w S vs ks es
  | [], ks, es, h1, h2, _ => by rw [GM]; exact ⟨List.length_eq_zero_iff.1 h1, List.length_eq_zero_iff.1 h2⟩
  | x :: xs, [], es, h1, h2, _ => by simp at h1
  | x :: xs, k :: ks, [], h1, h2, _ => by simp at h2
  | x :: xs, k :: ks, e :: es, h1, h2, h => by
    rw [GM]
    obtain ⟨e', he', hk, hx⟩ := h 0 (by simp) (by simp)
    simp only [List.getElem?_cons_zero, Option.some.injEq] at he'
    subst he'
    exact ⟨k, ks, e, es, rfl, rfl, hk, hx, GM.of xs ks es (by simpa using h1) (by simpa using h2) fun i i1 i2 => by
      have := h (i + 1) (by simpa using i1) (by simpa using i2)
      simp only [List.getElem?_cons_succ, List.getElem_cons_succ] at this
      exact this⟩
theorem MadeM.done {ks : List ByteArray} {vs : List V} {g : Nat} {w : World} (h : MadeM ks vs g ks.length w) (hl : ks.length = vs.length) : ∃ (es : Array MapEntry) (clock : Nat), w.heap[g]? = some (.map es clock) ∧ Stamped es clock ∧ GM w (fun r => g ≤ r) vs ks es.toList := by
  obtain ⟨es, cl, h1, h2, h3, h4⟩ := h
  refine ⟨es, cl, h1, h2, GM.of _ _ _ hl (by simp; omega) fun i i1 i2 => ?_⟩
  obtain ⟨e, he, hk, hx⟩ := h4 i i1 i1 i2
  exact ⟨e, by simpa using he, hk, GV.mono (fun _ _ => rfl) (fun b hb => Nat.le_of_lt hb) _ _ hx⟩

end Go.Proofs.YtgjmgneppecfgaaGreatDoor.Va
namespace Go.Proofs.YtgjmgneppecfgaaGreatDoor.Va
open Go.RowKit
open Go.MapKept (Stamped IsKey)
set_option linter.unusedVariables false
set_option linter.unusedSimpArgs false

theorem cells6 {w : World} {b : Nat} {a0 a1 a2 a3 a4 a5 : Value} {t : TypeId} (h : w.heap[b]? = some (.cells #[a0, a1, a2, a3, a4, a5] t (0, 0))) :
    (w.cell? ⟨b, 0, none⟩ = some a0 ∧ w.cell? ⟨b, 1, none⟩ = some a1 ∧ w.cell? ⟨b, 2, none⟩ = some a2 ∧ w.cell? ⟨b, 3, none⟩ = some a3 ∧ w.cell? ⟨b, 4, none⟩ = some a4 ∧ w.cell? ⟨b, 5, none⟩ = some a5) ∧
    w.frozen? ⟨b, 0, none⟩ = false ∧ w.frozen? ⟨b, 1, none⟩ = false ∧ w.frozen? ⟨b, 2, none⟩ = false ∧ w.frozen? ⟨b, 3, none⟩ = false ∧ w.frozen? ⟨b, 4, none⟩ = false ∧ w.frozen? ⟨b, 5, none⟩ = false :=
  ⟨⟨cell_of h 0 rfl, cell_of h 1 rfl, cell_of h 2 rfl, cell_of h 3 rfl, cell_of h 4 rfl, cell_of h 5 rfl⟩, free_of h 0, free_of h 1, free_of h 2, free_of h 3, free_of h 4, free_of h 5⟩

/-- what mapToGo returns -/
def MapToGo (ks : List ByteArray) (vs : List V) (w : World) (e : Ending) (w' : World) : Prop :=
  ∃ r es clock, e = .returned (.tuple #[.map (some r), .bool true]) ∧ w.heap.size ≤ r ∧ w'.heap[r]? = some (.map es clock) ∧ Stamped es clock ∧ GM w' (fun b => w.heap.size ≤ b) vs ks es.toList ∧ Below w.heap.size w w'

def LoopM (cs : Array Value) (ks : List ByteArray) (vs : List V) (w : World) (i : Value) (wr : World) : Prop :=
  ∃ k : Nat, i = .int .i64 k ∧ k ≤ ks.length ∧ wr.heap[w.heap.size]? = some (.cells cs 27 (0, 0)) ∧ MadeM ks vs (w.heap.size + 1) k wr ∧ Below w.heap.size w wr

theorem loopM_start (cs : Array Value) (ks : List ByteArray) (vs : List V) (w : World) : LoopM cs ks vs w (.int .i64 0) ((w.alloc (.cells cs 27)).alloc (.map #[] 0)) :=
  ⟨0, rfl, Nat.zero_le _, block_past (block_new w cs _) _, ⟨#[], 0, by have := heap_alloc_new (w.alloc (.cells cs 27)) (.map #[] 0); rwa [World.size_alloc] at this, MapKept.stamped_empty 0, rfl, fun i h => absurd h (by omega)⟩, by go_grown⟩
theorem loopM_next {cs : Array Value} {ks : List ByteArray} {vs : List V} {k : Nat} (hk : k < ks.length) {w w2 w3 : World} (hb : w2.heap[w.heap.size]? = some (.cells cs 27 (0, 0))) (hm : MadeM ks vs (w.heap.size + 1) (k + 1) w3) (hB : Below w.heap.size w w2) (hg : w2.grownBy w3 (some (w.heap.size + 1))) : LoopM cs ks vs w (.int .i64 ((k : Int) + 1)) w3 :=
  ⟨k + 1, rfl, hk, by rw [hg.block _ (heap_lt hb) (by simp)]; exact hb, hm, Below.grown hB hg (Nat.le_of_lt (heap_lt hb)) (fun j hj => by cases hj; omega)⟩

theorem run_len (w : World) (n : Nat) : (Instr.makeMap 106 (some (.int .i64 (n : Int)))).run Tryz.prog w = .ok (.map (some w.heap.size)) (w.alloc (.map #[] 0)) := by
  simp [Instr.makeMap, run_underlying Tryz.underlying106, asInt, asIntOf, Result.andThen]


set_option maxHeartbeats 2000000 in
set_option maxRecDepth 100000 in
theorem mapToGo_any (ks : List ByteArray) (vs : List V) (H : ∀ x ∈ vs, TG x) (hr : Rising ks) (n : Nat) (hkn : ks.length = n) (hvn : vs.length = n) (hn : n ≤ 2147483647) (k0 h0 : Int) (t0 : ByteArray) (la ka va : Option Addr) (nl lc kc vc : Nat) (S : Nat → Prop) (w : World) (hk : RK w S ks ka) (hv : RL w S vs va) (hS : ∀ b, S b → b < w.heap.size) :
    Calls Tryz.prog 91 #[.agg #[.int .i64 k0, .int .i64 h0, .string t0, .slice la nl lc, .slice ka n kc, .slice va n vc]] w (MapToGo ks vs w) := by
  have HH := Lib.hid H
  have HS := Lib.hid hS
  have HK := Lib.hid hk
  have HV := Lib.hid hv
  have HR := Lib.hid hr
  have HKN := Lib.hid hkn
  have HVN := Lib.hid hvn
  have hmk := fun w => run_len w n
  clear H hS hk hv hr hkn hvn
  go_enter Tryz.func91, Tryz.ntmps91
  go_wp2_with fail
  go_loopw [23] (LoopM #[.int .i64 k0, .int .i64 h0, .string t0, .slice la nl lc, .slice ka n kc, .slice va n vc] ks vs w) (fun i _ => n - (intOf i).toNat)
  case atStart => exact loopM_start _ ks vs w
  case round =>
    obtain ⟨k, rfl, hk, hbox, hm, hb⟩ := hrel
    have HM := Lib.hid hm
    have HB := Lib.hid hb
    clear hm hb
    have hc6 := cells6 hbox
    have HX := Lib.hid hbox
    clear hbox
    rw [HKN.out] at hk
    by_cases hlt : k < n
    · obtain ⟨bk, ok, rfl⟩ := HK.out.addr (by rw [HKN.out]; omega)
      obtain ⟨bv, ov, rfl⟩ := HV.out.addr (by rw [HVN.out]; omega)
      obtain ⟨hSk, hck⟩ := RK.at ks bk ok HK.out k (by rw [HKN.out]; exact hlt)
      obtain ⟨hSv, c0, c1, c2, c3, c4, c5, h6, hx⟩ := RL.at vs bv ov HV.out k (by rw [HVN.out]; exact hlt)
      have hsame : Same S w wr := Same.of_below HB.out HS.out
      have h6' := Six.mono hsame hSv h6
      have hck' := (hsame.cell hSk).trans hck
      have hx' := RV.mono hsame (fun _ h => h) _ _ hx
      obtain ⟨s, hs⟩ : ∃ s, Hid (ks[k]'(by rw [HKN.out]; exact hlt) = s) := ⟨_, Lib.hid rfl⟩
      rw [hs.out] at hck'
      obtain ⟨la, lc, ka, kc, va, vc, t1, n1, tx, ls, ks', vs', e, HX'⟩ := RV.parts hx'
      simp only [Value.agg.injEq, Array.mk.injEq, List.cons.injEq, and_true] at e
      obtain ⟨rfl, rfl, rfl, rfl, rfl, rfl⟩ := e
      have HSA := Lib.hid hsame
      clear hck hx hx' h6 hsame
      unfold Six at h6'
      have hb2 : (w.heap.size + 1 < wr.heap.size) := HM.out.lt
      rcases Nat.eq_zero_or_pos k with rfl | hpos
      · simp only [Nat.add_zero, Nat.zero_mul] at hck' h6'
        go_wp2_with fail
        (refine (HH.out _ (List.getElem_mem (by rw [HVN.out]; exact hlt)) _ S wr HX'.out (fun b h => Nat.lt_of_lt_of_le (HS.out b h) HB.out.size)).mono ?_
         rintro e w2 ⟨g, rfl, hg, hb2⟩
         have HG := Lib.hid (GV.mono (T := fun r => w.heap.size + 1 < r) (fun _ _ => rfl) (fun b (h : wr.heap.size ≤ b) => by show _ < b; omega) _ _ hg)
         have HM2 := HM.out.keep hb2
         have HB2 := HB.out.trans (hb2.mono HB.out.size)
         have hbox2 := keep hb2 HX.out
         obtain ⟨w3, hrun, hm3, hgr⟩ := HM2.put (P := Tryz.prog) (mty := 106) Tryz.underlying106 Tryz.underlying9 HR.out (by rw [HKN.out]; exact hlt) (by rw [HVN.out]; exact hlt) HG.out
         rw [hs.out] at hrun
         have L := Lib.hid (loopM_next (by rw [HKN.out]; exact hlt) hbox2 hm3 HB2 hgr)
         clear hg hb2 HG HM2 HB2 hbox2 hm3 hgr
         go_wp2_with fail
         go_roundw
         case rel => exact L.out
         case measure => simp [intOf]; omega)
      · obtain ⟨m, rfl⟩ : ∃ m, k = m + 1 := ⟨k - 1, by omega⟩
        obtain ⟨_, hck0⟩ := RK.at ks bk ok HK.out m (by rw [HKN.out]; omega)
        have hckp := (HSA.out.cell hSk).trans hck0
        clear hck0
        have hless := HR.out.less m (m + 1) (by rw [HKN.out]; exact hlt) (by omega)
        rw [hs.out, ← ByteArray.toList_eq, ← ByteArray.toList_eq] at hless
        obtain ⟨p, hp⟩ : ∃ p, Hid (ks[m]'(by rw [HKN.out]; omega) = p) := ⟨_, Lib.hid rfl⟩
        rw [hp.out] at hless hckp
        go_wp2_with fail
        (refine (HH.out _ (List.getElem_mem (by rw [HVN.out]; exact hlt)) _ S wr HX'.out (fun b h => Nat.lt_of_lt_of_le (HS.out b h) HB.out.size)).mono ?_
         rintro e w2 ⟨g, rfl, hg, hb2⟩
         have HG := Lib.hid (GV.mono (T := fun r => w.heap.size + 1 < r) (fun _ _ => rfl) (fun b (h : wr.heap.size ≤ b) => by show _ < b; omega) _ _ hg)
         have HM2 := HM.out.keep hb2
         have HB2 := HB.out.trans (hb2.mono HB.out.size)
         have hbox2 := keep hb2 HX.out
         obtain ⟨w3, hrun, hm3, hgr⟩ := HM2.put (P := Tryz.prog) (mty := 106) Tryz.underlying106 Tryz.underlying9 HR.out (by rw [HKN.out]; exact hlt) (by rw [HVN.out]; exact hlt) HG.out
         rw [hs.out] at hrun
         have L := Lib.hid (loopM_next (by rw [HKN.out]; exact hlt) hbox2 hm3 HB2 hgr)
         clear hg hb2 HG HM2 HB2 hbox2 hm3 hgr
         go_wp2_with fail
         go_roundw
         case rel => exact L.out
         case measure => simp [intOf]; omega)
    · obtain rfl : k = n := by omega
      have HD := Lib.hid (HM.out)
      rw [← HKN.out] at HD
      obtain ⟨es, cl, e1, e2, e3⟩ := HD.out.done (HKN.out.trans HVN.out.symm)
      have R := Lib.hid (show MapToGo ks vs w (.returned (.tuple #[.map (some (w.heap.size + 1)), .bool true])) wr from ⟨_, es, cl, rfl, Nat.le_succ _, e1, e2, GM.mono (fun _ _ => rfl) (fun b (hb : w.heap.size + 1 ≤ b) => by show _ ≤ b; omega) _ _ _ e3, HB.out⟩)
      clear HD e1 e2 e3
      go_wp2_with fail
      go_returns
      exact R.out

end Go.Proofs.YtgjmgneppecfgaaGreatDoor.Va
namespace Go.Proofs.YtgjmgneppecfgaaGreatDoor.Va
open Go.RowKit
open Go.MapKept (Stamped IsKey)
set_option linter.unusedVariables false
set_option linter.unusedSimpArgs false

section
variable (h : Int) (t : ByteArray) (ls : List V) (ks : List ByteArray) (vs : List V) (la ka va : Option Addr) (n1 lc n2 kc n3 vc : Nat) (w : World)

set_option maxHeartbeats 400000 in
theorem toGo_5 (H : ∀ x ∈ ls, TG x) (hn1 : ls.length = n1) (hn : n1 ≤ 2147483647) (S : Nat → Prop) (hl : RL w S ls la) (hS : ∀ b, S b → b < w.heap.size) : Calls Tryz.prog 43 #[.agg #[.int .i64 5, .int .i64 h, .string t, .slice la n1 lc, .slice ka n2 kc, .slice va n3 vc]] w (ToGo (.mk 5 h t ls ks vs) w) := by
  have HL := Lib.hid hl
  have HS := Lib.hid hS
  have HH := Lib.hid H
  have HN := Lib.hid hn1
  clear hl hS H hn1
  go_enter Tryz.func43, Tryz.ntmps43
  go_wp2_with fail
  generalize hW : World.alloc w _ = W
  have b1 : Below w.heap.size w W := hW ▸ below_alloc w _
  clear hW
  have c := listToGo_any ls HH.out la lc S W (RL.mono (Same.of_below b1 HS.out) (fun _ h => h) _ _ HL.out) (fun b h => Nat.lt_of_lt_of_le (HS.out b h) b1.size) (by rw [HN.out]; exact hn)
  rw [HN.out] at c
  refine c.mono ?_
  rintro e w2 ⟨g, rfl, hg, hgl, hb2⟩
  have hs := b1.size
  have R : Hid (GV w2 (fun r => w.heap.size ≤ r) (.mk 5 h t ls ks vs) (.iface 60 (.slice (some ⟨g, 0, none⟩) n1 n1)) ∧ Below w.heap.size w w2) := Lib.hid ⟨by
    rw [GV, ← HN.out]
    exact .inr (.inr (.inr (.inr (.inr (.inl ⟨rfl, _, _, rfl, GL.mono (fun _ _ => rfl) (fun b (hb : W.heap.size ≤ b) => by show _ ≤ b; omega) _ _ hgl⟩))))), b1.trans (hb2.mono b1.size)⟩
  clear c hg hgl hb2 hs b1
  rw [HN.out]
  go_wp2_with fail
  go_returns
  exact ⟨_, rfl, R.out.1, R.out.2⟩

set_option maxHeartbeats 400000 in
theorem toGo_6 (H : ∀ x ∈ vs, TG x) (hr : Rising ks) (hn2 : ks.length = n2) (hn3 : vs.length = n2) (hn : n2 ≤ 2147483647) (S : Nat → Prop) (hk : RK w S ks ka) (hv : RL w S vs va) (hS : ∀ b, S b → b < w.heap.size) : Calls Tryz.prog 43 #[.agg #[.int .i64 6, .int .i64 h, .string t, .slice la n1 lc, .slice ka n2 kc, .slice va n2 vc]] w (ToGo (.mk 6 h t ls ks vs) w) := by
  have HK := Lib.hid hk
  have HV := Lib.hid hv
  have HS := Lib.hid hS
  have HH := Lib.hid H
  have HN := Lib.hid hn2
  have HN3 := Lib.hid hn3
  clear hk hv hS H hn2 hn3
  go_enter Tryz.func43, Tryz.ntmps43
  go_wp2_with fail
  generalize hW : World.alloc w _ = W
  have b1 : Below w.heap.size w W := hW ▸ below_alloc w _
  clear hW
  have hs := b1.size
  refine (mapToGo_any ks vs HH.out hr n2 HN.out HN3.out hn _ _ _ _ _ _ _ _ _ _ S W (RK.mono (Same.of_below b1 HS.out) (fun _ h => h) _ _ HK.out) (RL.mono (Same.of_below b1 HS.out) (fun _ h => h) _ _ HV.out) (fun b h => Nat.lt_of_lt_of_le (HS.out b h) b1.size)).mono ?_
  rintro e w2 ⟨r, es, cl, rfl, hg, hb, hst, hgm, hb2⟩
  have R : Hid (GV w2 (fun r => w.heap.size ≤ r) (.mk 6 h t ls ks vs) (.iface 106 (.map (some r))) ∧ Below w.heap.size w w2) := Lib.hid ⟨by
    rw [GV]
    exact .inr (.inr (.inr (.inr (.inr (.inr ⟨rfl, _, _, _, rfl, by show _ ≤ r; omega, hb, hst, GM.mono (fun _ _ => rfl) (fun b (hb : W.heap.size ≤ b) => by show _ ≤ b; omega) _ _ _ hgm⟩))))), b1.trans (hb2.mono b1.size)⟩
  clear hg hgm hb2 hs b1 hst hb
  go_wp2_with fail
  go_returns
  exact ⟨_, rfl, R.out.1, R.out.2⟩
end

theorem toGo_good : ∀ (n : Nat) (x : V), x.size ≤ n → n ≤ 2147483647 → Good x → TG x
  | 0, x, h, _, _ => by have := size_pos x; omega
  | n + 1, .mk k h t ls ks vs, hsz, hn, hg => by
    intro v S w hv hS
    rw [RV] at hv
    rw [Good] at hg
    obtain ⟨g1, gl, gr, gv⟩ := hg
    rw [V.size] at hsz
    obtain ⟨la, lc, ka, kc, va, vc, rfl, h1, h2, h3⟩ := hv
    have hls := length_le ls
    have hvs := length_le vs
    have hll := g1.len
    have k0 := g1.k0
    have k6 := g1.k6
    obtain rfl | rfl | rfl | rfl | rfl | rfl | rfl : k = 0 ∨ k = 1 ∨ k = 2 ∨ k = 3 ∨ k = 4 ∨ k = 5 ∨ k = 6 := by omega
    · exact toGo_0 _ _ _ _ _ _ _ _ _ _ _ _ _ _ _
    · exact toGo_1 _ _ _ _ _ _ _ _ _ _ _ _ _ _ _
    · exact toGo_2 _ _ _ _ _ _ _ _ _ _ _ _ _ _ _
    · by_cases he : h % 2 = 0
      · exact toGo_3e _ _ _ _ _ _ _ _ _ _ _ _ _ _ _ g1.lo g1.hi he
      · have := g1.odd
        exact toGo_3o _ _ _ _ _ _ _ _ _ _ _ _ _ _ _ (by omega) (by omega) he
    · exact toGo_4 _ _ _ _ _ _ _ _ _ _ _ _ _ _ _
    · exact toGo_5 _ _ _ _ _ _ _ _ _ _ _ _ _ _ _ (fun x hx => toGo_good n x (by have := size_mem hx; omega) (by omega) (gl.mem x hx)) rfl (by omega) S h1 hS
    · rw [← hll]
      exact toGo_6 _ _ _ _ _ _ _ _ _ _ _ _ _ _ (fun x hx => toGo_good n x (by have := size_mem hx; omega) (by omega) (gv.mem x hx)) gr rfl hll.symm (by omega) S h2 h3 hS

end Go.Proofs.YtgjmgneppecfgaaGreatDoor.Va
