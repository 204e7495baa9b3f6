/-
  THE WALK of the looker's value: what it lets by is right.
-/
import Derived.Test.YtgjmgneppecfgaaGreatDoorQ03
import Derived.Deep.CutBlock
import Derived.Deep.RegionWith
set_option linter.unusedVariables false
set_option linter.unusedSimpArgs false
namespace Go.Proofs.YtgjmgneppecfgaaGreatDoor.Va
open Go.RowKit
set_option linter.unusedVariables false
set_option linter.unusedSimpArgs false

structure Part1 (k h : Int) (t : ByteArray) (n1 n2 n3 : Nat) : Prop where
  k0 : 0 ≤ k
  k6 : k ≤ 6
  num : k = 3 ∨ h = 0
  txt : k = 4 ∨ t.size = 0
  lst : k = 5 ∨ n1 = 0
  map : k = 6 ∨ n2 = 0
  len : n2 = n3
structure Part2 (h : Int) : Prop where
  lo : -18014398509481984 ≤ h
  hi : h ≤ 18014398509481984
  odd : h % 2 = 0 ∨ (-9007199254740992 < h ∧ h < 9007199254740992)

/-- what is known between two statements of value: the looker, the box, and that nothing else has turned -/
def Mid (L : Nat) (box : Array Value) (w : World) (p b : Int) (bad : Bool) (wr : World) : Prop :=
  LK L p b bad wr ∧ wr.heap[w.heap.size]? = some (.cells box 27 (0, 0)) ∧ w.grownBy wr (some L)
theorem Mid.next {L : Nat} {box : Array Value} {w wr w' : World} {p b p' b' : Int} {bad bad' : Bool} (h : Mid L box w p b bad wr) (hL : L < w.heap.size) (k : Looked L p' b' bad' wr w') : Mid L box w p' b' bad' w' :=
  ⟨k.1, (k.2.block _ (heap_lt h.2.1) (by simp; omega)).trans h.2.1, gr_trans h.2.2 k.2⟩
def CutA (L : Nat) (box : Array Value) (w : World) (p b : Int) (F : Prop) (wr : World) : Prop := ∃ bad : Bool, Mid L box w p b bad wr ∧ (bad = false → F)

theorem size_of_nil {t : ByteArray} (h : t.toList = []) : t.size = 0 := by
  rw [ByteArray.toList_eq] at h
  have := congrArg List.length h
  simpa using this

theorem Mid.below {L : Nat} {box : Array Value} {w0 w wr : World} {p b : Int} {bad : Bool} (h : Mid L box w p b bad wr) (hw : Below w0.heap.size w0 w) (hL : w0.heap.size ≤ L) : Below w0.heap.size w0 wr :=
  Below.grown hw h.2.2 hw.size (fun j hj => by cases hj; exact hL)
theorem Mid.drew {L : Nat} {box : Array Value} {w wr : World} {p b : Int} {bad : Bool} (h : Mid L box w p b bad wr) : Mid L box w p b bad wr.drew := ⟨h.1, h.2.1, ⟨h.2.2.os, h.2.2.tape, h.2.2.output, h.2.2.size, h.2.2.block⟩⟩
theorem emod_of_tmod {h : Int} (e : h.tmod 2 = 0) : h % 2 = 0 := Int.emod_eq_zero_of_dvd (Int.dvd_of_tmod_eq_zero e)

/-- what memory can hold -/
def Q : Nat := 140737488355328
mutual
def Wf : V → Prop
  | .mk k h t ls ks vs => t.size ≤ Q ∧ ls.length ≤ Q ∧ ks.length ≤ Q ∧ vs.length ≤ Q ∧ (∀ s ∈ ks, s.size ≤ Q) ∧ WfL ls ∧ WfL vs
def WfL : List V → Prop
  | [] => True
  | x :: xs => Wf x ∧ WfL xs
end
theorem WfL.mem {l : List V} (h : WfL l) : ∀ x ∈ l, Wf x := by
  induction l with
  | nil => intro x hx; cases hx
  | cons y ys ih =>
    intro x hx
    rw [WfL] at h
    rcases List.mem_cons.1 hx with rfl | hx
    · exact h.1
    · exact ih h.2 x hx

/-- what value leaves -/
def ValuePost (x : V) (L : Nat) (p b : Int) (bad : Bool) (w : World) (e : Ending) (w' : World) : Prop :=
  e = .returned (.tuple #[]) ∧ ∃ (p' b' : Int) (bad' : Bool), Looked L p' b' bad' w w' ∧ (bad' = false → bad = false ∧ Good x ∧ p' = p + x.size ∧ p' ≤ 400 ∧ 0 ≤ b' ∧ b' ≤ 2000)
/-- value serves x -/
def VW (x : V) : Prop := ∀ (w0 w : World) (L : Nat) (p b deep : Int) (bad : Bool) (v : Value) (S : Nat → Prop), RV w0 S x v → (∀ b, S b → b < w0.heap.size) → Tabs w0 → Below w0.heap.size w0 w → w0.heap.size ≤ L → LK L p b bad w →
  (bad = false → 0 ≤ p ∧ p ≤ 400 ∧ 0 ≤ b ∧ b ≤ 2000) → 0 ≤ deep → deep ≤ 61 → Calls Tryz.prog 42 #[.pointer (some ⟨L, 0, none⟩), v, .int .i64 deep] w (ValuePost x L p b bad w)

/-- the looker between two statements, and what is known where nothing is bad -/
def CutB (L : Nat) (box : Array Value) (w : World) (F : Int → Int → Prop) (wr : World) : Prop := ∃ (p b : Int) (bad : Bool), Mid L box w p b bad wr ∧ (bad = false → F p b)
/-- the loops' relation: at a count, with what is known there -/
def LoopV (L : Nat) (box : Array Value) (w : World) (n : Nat) (F : Nat → Int → Int → Prop) (i : Value) (wr : World) : Prop := ∃ k : Nat, i = .int .i64 k ∧ k ≤ n ∧ CutB L box w (F k) wr

/-- what is known behind the looks at the value itself; behind the first i of its list -/
structure Known (k h : Int) (t : ByteArray) (n1 n2 n3 : Nat) (p0 deep : Int) (ls : List V) (i : Nat) (p b : Int) : Prop where
  one : Part1 k h t n1 n2 n3
  two : Part2 h
  tsz : t.size ≤ 2000
  tv : Lib.validD t.data.toList = true
  lst : GoodL (ls.take i)
  parts : p = p0 + 1 + sizeL (ls.take i)
  most : p ≤ 400
  b0 : 0 ≤ b
  b1 : b ≤ 2000
  d : deep ≤ 60
/-- behind the first i of its keys -/
structure Known2 (k h : Int) (t : ByteArray) (n1 n2 n3 : Nat) (p0 deep : Int) (ls : List V) (ks : List ByteArray) (vs : List V) (i : Nat) (p b : Int) : Prop where
  one : Part1 k h t n1 n2 n3
  two : Part2 h
  tsz : t.size ≤ 2000
  tv : Lib.validD t.data.toList = true
  lst : GoodL ls
  rise : Rising (ks.take i)
  kb : ∀ s ∈ ks.take i, s.size ≤ 2000
  kv : ∀ s ∈ ks.take i, Lib.validD s.data.toList = true
  vals : GoodL (vs.take i)
  parts : p = p0 + 1 + sizeL ls + sizeL (vs.take i)
  most : p ≤ 400
  b0 : 0 ≤ b
  b1 : b ≤ 2000
  d : deep ≤ 60

theorem goodL_append {l : List V} {x : V} (h : GoodL l) (hx : Good x) : GoodL (l ++ [x]) := by
  induction l with
  | nil => rw [List.nil_append, GoodL, GoodL]; exact ⟨hx, trivial⟩
  | cons y ys ih => rw [GoodL] at h; rw [List.cons_append, GoodL]; exact ⟨h.1, ih h.2⟩
theorem sizeL_append (l : List V) (x : V) : sizeL (l ++ [x]) = sizeL l + x.size := by
  induction l with
  | nil => simp [sizeL]
  | cons y ys ih => rw [List.cons_append, sizeL, sizeL, ih]; omega
theorem Known.next {k h : Int} {t : ByteArray} {n1 n2 n3 : Nat} {p0 deep : Int} {ls : List V} {i : Nat} {p b p' b' : Int} (H : Known k h t n1 n2 n3 p0 deep ls i p b) (hi : i < ls.length) (hg : Good ls[i]) (hp : p' = p + (ls[i]).size) (hm : p' ≤ 400) (h0 : 0 ≤ b') (h1 : b' ≤ 2000) : Known k h t n1 n2 n3 p0 deep ls (i + 1) p' b' :=
  ⟨H.one, H.two, H.tsz, H.tv, by rw [List.take_succ_eq_append_getElem hi]; exact goodL_append H.lst hg, by rw [List.take_succ_eq_append_getElem hi, sizeL_append, hp, H.parts]; omega, hm, h0, h1, H.d⟩

theorem known2_mid {k h : Int} {t : ByteArray} {n1 n2 n3 : Nat} {p0 deep p5 b5 p8 b8 : Int} {ls : List V} {ks : List ByteArray} {vs : List V} {i : Nat} {bad6 bad8 : Bool} {s : ByteArray} {X : Prop} (K : Known2 k h t n1 n2 n3 p0 deep ls ks vs i p5 b5)
    (h6 : bad6 = false → X ∧ wrap64 (b5 + s.size) ≤ 2000 ∧ Lib.validD s.data.toList = true) (h8 : bad8 = false → bad6 = false ∧ p8 = p5 ∧ b8 = wrap64 (b5 + s.size) ∧ Rising (ks.take (i + 1))) (hs : s.size ≤ Q) :
    bad8 = false → p8 = p5 ∧ 0 ≤ b8 ∧ b8 ≤ 2000 ∧ s.size ≤ 2000 ∧ Lib.validD s.data.toList = true ∧ Rising (ks.take (i + 1)) := by
  intro hq
  obtain ⟨q6, rfl, rfl, hr⟩ := h8 hq
  obtain ⟨_, hw, hv⟩ := h6 q6
  have b0 := K.b0
  have b1 := K.b1
  have e : wrap64 (b5 + s.size) = b5 + s.size := by unfold wrap64; unfold Q at hs; omega
  rw [e] at hw ⊢
  exact ⟨rfl, by omega, hw, by omega, hv, hr⟩
theorem known2_next {k h : Int} {t : ByteArray} {n1 n2 n3 : Nat} {p0 deep p5 b5 p8 b8 p9 b9 : Int} {ls : List V} {ks : List ByteArray} {vs : List V} {i : Nat} {bad8 bad9 : Bool} {s : ByteArray} (hk : i < ks.length) (hv : i < vs.length) (K : Known2 k h t n1 n2 n3 p0 deep ls ks vs i p5 b5)
    (h8 : bad8 = false → p8 = p5 ∧ 0 ≤ b8 ∧ b8 ≤ 2000 ∧ s.size ≤ 2000 ∧ Lib.validD s.data.toList = true ∧ Rising (ks.take (i + 1)))
    (h9 : bad9 = false → bad8 = false ∧ Good vs[i] ∧ p9 = p8 + (vs[i]).size ∧ p9 ≤ 400 ∧ 0 ≤ b9 ∧ b9 ≤ 2000) (hs : ks[i] = s) : bad9 = false → Known2 k h t n1 n2 n3 p0 deep ls ks vs (i + 1) p9 b9 := by
  intro hq
  obtain ⟨q8, g, rfl, m, x0, x1⟩ := h9 hq
  obtain ⟨rfl, _, _, hsz, hvd, hr⟩ := h8 q8
  refine ⟨K.one, K.two, K.tsz, K.tv, K.lst, hr, ?_, ?_, ?_, ?_, m, x0, x1, K.d⟩
  · rw [List.take_succ_eq_append_getElem hk]
    intro q hq
    rcases List.mem_append.1 hq with hq | hq
    · exact K.kb q hq
    · obtain rfl := List.mem_singleton.1 hq; rw [hs]; exact hsz
  · rw [List.take_succ_eq_append_getElem hk]
    intro q hq
    rcases List.mem_append.1 hq with hq | hq
    · exact K.kv q hq
    · obtain rfl := List.mem_singleton.1 hq; rw [hs]; exact hvd
  · rw [List.take_succ_eq_append_getElem hv]; exact goodL_append K.vals g
  · rw [List.take_succ_eq_append_getElem hv, sizeL_append, K.parts]; omega

/-- the box, and two keys -/
def KeyS (bx bk o1 o2 : Nat) (v1 v2 : Value) (ob : Obj) (w : World) : Prop := w.heap[bx]? = some ob ∧ w.cell? ⟨bk, o1, none⟩ = some v1 ∧ w.cell? ⟨bk, o2, none⟩ = some v2
theorem rising_one (ks : List ByteArray) : Rising (ks.take (0 + 1)) := by
  cases ks with
  | nil => trivial
  | cons a r => trivial
theorem rising_append {a b : ByteArray} : ∀ {l : List ByteArray}, Rising (l ++ [a]) → Op.bytesLess a.data.toList b.data.toList = true → Rising (l ++ [a] ++ [b])
  | [], _, h => ⟨h, trivial⟩
  | [x], h, k => ⟨h.1, k, trivial⟩
  | x :: y :: r, h, k => ⟨h.1, rising_append (l := y :: r) h.2 k⟩
theorem rising_more {ks : List ByteArray} {m : Nat} (hm : m + 1 < ks.length) (h : Rising (ks.take (m + 1))) (hl : Op.bytesLess (ks[m]'(by omega)).toList ks[m + 1].toList = true) : Rising (ks.take (m + 1 + 1)) := by
  rw [ByteArray.toList_eq, ByteArray.toList_eq] at hl
  rw [List.take_succ_eq_append_getElem hm, List.take_succ_eq_append_getElem (by omega)]
  rw [List.take_succ_eq_append_getElem (by omega)] at h
  exact rising_append h hl
theorem known2_start {k h : Int} {t : ByteArray} {n1 n2 n3 : Nat} {p0 deep p b : Int} {ls : List V} {ks : List ByteArray} {vs : List V} {bad : Bool} (hn : ls.length = n1) (H : bad = false → Known k h t n1 n2 n3 p0 deep ls n1 p b) : bad = false → Known2 k h t n1 n2 n3 p0 deep ls ks vs 0 p b := by
  intro hq
  have K := H hq
  have e : ls.take n1 = ls := by rw [← hn, List.take_length]
  exact ⟨K.one, K.two, K.tsz, K.tv, by have := K.lst; rwa [e] at this, trivial, by simp, by simp, by rw [List.take_zero, GoodL]; trivial, by have := K.parts; rw [e] at this; rw [this, List.take_zero, sizeL]; omega, K.most, K.b0, K.b1, K.d⟩
theorem Known2.good {k h : Int} {t : ByteArray} {n1 n2 n3 : Nat} {p0 deep p b : Int} {ls : List V} {ks : List ByteArray} {vs : List V} (H : Known2 k h t n1 n2 n3 p0 deep ls ks vs n2 p b) (h1 : ls.length = n1) (h2 : ks.length = n2) (h3 : vs.length = n3) : Good (.mk k h t ls ks vs) := by
  have o := H.one
  have w := H.two
  have e2 : ks.take n2 = ks := by rw [← h2, List.take_length]
  have e3 : vs.take n2 = vs := by rw [o.len, ← h3, List.take_length]
  have r := H.rise
  have kb := H.kb
  have kv := H.kv
  have v := H.vals
  rw [e2] at r kb kv
  rw [e3] at v
  rw [Good]
  exact ⟨⟨o.k0, o.k6, o.num, o.txt, by rw [h1]; exact o.lst, by rw [h2]; exact o.map, by rw [h2, h3]; exact o.len, w.lo, w.hi, w.odd, by have := H.tsz; omega, fun s hs => by have := kb s hs; omega, H.tv, kv⟩, H.lst, r, v⟩
theorem Known2.size {k h : Int} {t : ByteArray} {n1 n2 n3 : Nat} {p0 deep p b : Int} {ls : List V} {ks : List ByteArray} {vs : List V} (H : Known2 k h t n1 n2 n3 p0 deep ls ks vs n2 p b) (h2 : ks.length = n2) (h3 : vs.length = n3) : p = p0 + (V.mk k h t ls ks vs).size := by
  have e3 : vs.take n2 = vs := by rw [H.one.len, ← h3, List.take_length]
  have := H.parts
  rw [e3] at this
  rw [this, V.size]; omega
theorem known_start {k h : Int} {t : ByteArray} {n1 n2 n3 : Nat} {p deep b p3 b3 : Int} {ls : List V} {bad3 bad4 : Bool} (hF : bad3 = false → (p3 = p + 1 ∧ b3 = b ∧ Part1 k h t n1 n2 n3) ∧ Part2 h)
    (hS : bad4 = false → bad3 = false ∧ wrap64 (b3 + t.size) ≤ 2000 ∧ Lib.validD t.data.toList = true) (ht : t.size ≤ Q) (hg : 0 ≤ p ∧ 0 ≤ b ∧ b ≤ 2000 ∧ p + 1 ≤ 400 ∧ deep ≤ 60) : bad4 = false → Known k h t n1 n2 n3 p deep ls 0 p3 (wrap64 (b3 + t.size)) := by
  intro hb
  obtain ⟨h1, h2, h3⟩ := hS hb
  obtain ⟨⟨rfl, rfl, h4⟩, h5⟩ := hF h1
  have hw : wrap64 (b3 + t.size) = b3 + t.size := by unfold wrap64; unfold Q at ht; omega
  rw [hw] at h2 ⊢
  exact ⟨h4, h5, by omega, h3, by rw [List.take_zero, GoodL]; trivial, by rw [List.take_zero, sizeL]; omega, by omega, by omega, h2, by omega⟩

set_option maxHeartbeats 8000000 in
set_option maxRecDepth 100000 in
theorem value_any (k h : Int) (t : ByteArray) (ls : List V) (ks : List ByteArray) (vs : List V) (H1 : ∀ x ∈ ls, VW x) (H2 : ∀ x ∈ vs, VW x) (n1 n2 n3 : Nat) (hn1 : ls.length = n1) (hn2 : ks.length = n2) (hn3 : vs.length = n3) (hq1 : n1 ≤ Q) (hq2 : n2 ≤ Q) (ht : t.size ≤ Q) (hks : ∀ s ∈ ks, s.size ≤ Q)
    (la ka va : Option Addr) (lc kc vc : Nat) (w0 w : World) (L : Nat) (p b deep : Int) (bad : Bool) (S : Nat → Prop) (hl : RL w0 S ls la) (hk : RK w0 S ks ka) (hv : RL w0 S vs va) (hS : ∀ b, S b → b < w0.heap.size) (hT : Tabs w0) (hw : Below w0.heap.size w0 w) (hLw : w0.heap.size ≤ L) (hlk : LK L p b bad w)
    (hpb : bad = false → 0 ≤ p ∧ p ≤ 400 ∧ 0 ≤ b ∧ b ≤ 2000) (hd0 : 0 ≤ deep) (hd1 : deep ≤ 61) :
    Calls Tryz.prog 42 #[.pointer (some ⟨L, 0, none⟩), .agg #[.int .i64 k, .int .i64 h, .string t, .slice la n1 lc, .slice ka n2 kc, .slice va n3 vc], .int .i64 deep] w (ValuePost (.mk k h t ls ks vs) L p b bad w) := by
  have HK := Lib.hid hlk
  have hL := hlk.lt
  have HH1 := Lib.hid H1
  have HH2 := Lib.hid H2
  have HN1 := Lib.hid hn1
  have HN2 := Lib.hid hn2
  have HN3 := Lib.hid hn3
  have HQ1 := Lib.hid hq1
  have HQ2 := Lib.hid hq2
  have HQt := Lib.hid ht
  have HQk := Lib.hid hks
  have HL1 := Lib.hid hl
  have HK1 := Lib.hid hk
  have HV1 := Lib.hid hv
  have HS := Lib.hid hS
  have HT := Lib.hid hT
  have HW := Lib.hid hw
  have HPB := Lib.hid hpb
  have hww := hw.size
  clear hlk H1 H2 hn1 hn2 hn3 hq1 hq2 ht hks hl hk hv hS hT hw hpb
  go_enter Tryz.func42, Tryz.ntmps42
  go_wp2_with fail
  generalize hW : World.alloc w _ = W
  have b1 := Lib.hid (hW ▸ below_alloc w _ : Below w.heap.size w W)
  have z := Lib.hid (hW ▸ block_new w _ _ : W.heap[w.heap.size]? = some (.cells #[.int .i64 k, .int .i64 h, .string t, .slice la n1 lc, .slice ka n2 kc, .slice va n3 vc] 27 (0, 0)))
  clear hW
  refine (part_any deep (keep b1.out HK.out : LK L p b bad W)).mono ?_
  rintro e w1 ⟨bad1, rfl, hl, hb1⟩
  have HM := Lib.hid (Mid.next ⟨keep b1.out HK.out, z.out, gr_below b1.out⟩ hL hl)
  cases bad1
  · obtain ⟨rfl, hp, hb, hd⟩ := hb1 rfl
    obtain ⟨g1, g2, g3, g4⟩ := HPB.out rfl
    have hwp : wrap64 (p + 1) = p + 1 := by unfold wrap64; omega
    rw [hwp] at HM
    have hc := cells6 HM.out.2.1
    have hp1 : p + 1 ≤ 400 := by rw [← hwp]; exact hp
    clear hl hb1 hwp hp hb
    go_upto_region 2 with fail
    go_cut [1] (fun _ wx => CutB L #[.int .i64 k, .int .i64 h, .string t, .slice la n1 lc, .slice ka n2 kc, .slice va n3 vc] w (fun p' b' => p' = p + 1 ∧ b' = b ∧ Part1 k h t n1 n2 n3) wx)
    case first =>
      go_wp2_with fail
      all_goals
        refine (want_any _ HM.out.1).mono ?_
        rintro e w2 ⟨rfl, hl2⟩
        have HM2 := Lib.hid (HM.out.next hL hl2)
        clear hl2
        go_wp2_with fail
        go_meet
        refine ⟨_, _, _, HM2.out, fun hq => ⟨rfl, rfl, ?_⟩⟩
        first
          | (exfalso; simp at hq; done)
          | (refine ⟨by omega, by omega, by omega, ?_, by omega, by omega, ?_⟩
             · first
               | exact .inl (by assumption)
               | exact .inr (size_of_nil (by assumption))
             · simp at hq; omega)
    case rest =>
      obtain ⟨p2, b2, bad2, hm2, hF2⟩ := hcut
      have HM2 := Lib.hid hm2
      have HF2 := Lib.hid hF2
      have hc := cells6 hm2.2.1
      clear hm2 hF2
      go_upto_region 3 with fail
      go_cut [1] (fun _ wx => CutB L #[.int .i64 k, .int .i64 h, .string t, .slice la n1 lc, .slice ka n2 kc, .slice va n3 vc] w (fun p' b' => (p' = p + 1 ∧ b' = b ∧ Part1 k h t n1 n2 n3) ∧ Part2 h) wx)
      case first =>
        go_wp2_with fail
        all_goals
          refine (want_any _ HM2.out.1).mono ?_
          rintro e w3 ⟨rfl, hl3⟩
          have HM3 := Lib.hid (HM2.out.next hL hl3)
          clear hl3
          go_wp2_with fail
          go_meet
          refine ⟨_, _, _, HM3.out, fun hq => ⟨HF2.out (by cases bad2; rfl; simp at hq), ?_⟩⟩
          first
            | (exfalso; simp at hq; done)
            | (exfalso; simp [show ¬ h.tmod 2 = 0 by assumption] at hq; done)
            | exact ⟨by omega, by omega, .inl (emod_of_tmod (by assumption))⟩
            | (refine ⟨by omega, by omega, .inr ⟨by omega, ?_⟩⟩; simp [show ¬ h.tmod 2 = 0 by assumption] at hq; omega)
      case rest =>
        obtain ⟨p3, b3, bad3, hm3, hF3⟩ := hcut
        have HM3 := Lib.hid hm3
        have HF3 := Lib.hid hF3
        have hc := cells6 hm3.2.1
        clear hm3 hF3
        go_wp2_with fail
        refine (str_any t (by have := HQt.out; unfold Q at this; omega) HT.out (Mid.below HM3.out HW.out hLw) hLw HM3.out.1).mono ?_
        rintro e w4 ⟨rfl, bad4, hl4, hF4⟩
        have HM4 := Lib.hid (HM3.out.next hL hl4)
        have HC4 := Lib.hid (known_start (t := t) (ls := ls) HF3.out hF4 HQt.out ⟨g1, g3, g4, hp1, hd⟩)
        clear hl4 hF4 hc
        go_upto_block 0 with fail
        go_cut [6] (fun _ wx => CutB L #[.int .i64 k, .int .i64 h, .string t, .slice la n1 lc, .slice ka n2 kc, .slice va n3 vc] w (Known k h t n1 n2 n3 p deep ls n1) wx)
        case first =>
          go_wp2_with fail
          go_loopw [6] (LoopV L #[.int .i64 k, .int .i64 h, .string t, .slice la n1 lc, .slice ka n2 kc, .slice va n3 vc] w n1 (Known k h t n1 n2 n3 p deep ls)) (fun i _ => n1 - (intOf i).toNat)
          case atStart => exact ⟨0, rfl, Nat.zero_le _, _, _, _, HM4.out, HC4.out⟩
          case round =>
            obtain ⟨i, rfl, hi, p5, b5, bad5, hm5, hF5⟩ := hrel
            have HM5 := Lib.hid hm5
            have HF5 := Lib.hid hF5
            have hc := cells6 hm5.2.1
            have hk := hm5.1.cells
            clear hm5 hF5
            by_cases hlt : i < n1
            · cases bad5
              · obtain ⟨bl, ol, rfl⟩ := HL1.out.addr (by rw [HN1.out]; omega)
                obtain ⟨hSb, c0, c1, c2, c3, c4, c5, h6, hx⟩ := RL.at ls bl ol HL1.out i (by rw [HN1.out]; exact hlt)
                have hBW := Mid.below HM5.out HW.out hLw
                have h6' := Six.mono (Same.of_below hBW HS.out) hSb h6
                obtain ⟨xa, xb, xc, xd, xe, xf, x1, x2, x3, x4, x5, x6, e, HX⟩ := RV.parts hx
                simp only [Value.agg.injEq, Array.mk.injEq, List.cons.injEq, and_true] at e
                obtain ⟨rfl, rfl, rfl, rfl, rfl, rfl⟩ := e
                have HBW := Lib.hid hBW
                have HK5 := HF5.out rfl
                have hp5 := HK5.parts
                have hp5' := HK5.most
                have hb5 := HK5.b0
                have hb5' := HK5.b1
                clear hx h6 hBW
                unfold Six at h6'
                have hiQ : i ≤ 140737488355328 := by have := HQ1.out; unfold Q at this; omega
                go_wp2_with fail
                refine (HH1.out _ (List.getElem_mem (by rw [HN1.out]; exact hlt)) w0 wr L p5 b5 (deep + 1) false _ S HX.out HS.out HT.out HBW.out hLw HM5.out.1 (fun _ => ⟨by omega, hp5', hb5, hb5'⟩) (by omega) (by omega)).mono ?_
                rintro e w6 ⟨rfl, p6, b6, bad6, hl6, hF6⟩
                have HM6 := Lib.hid (HM5.out.next hL hl6)
                have HF6' := Lib.hid (show bad6 = false → Known k h t n1 n2 n3 p deep ls (i + 1) p6 b6 from fun hq => by obtain ⟨_, y2, y3, y4, y5, y6⟩ := hF6 hq; exact HK5.next (by rw [HN1.out]; exact hlt) y2 y3 y4 y5 y6)
                clear hl6 hF6 HK5 hp5 hp5' hb5 hb5' h6' hk hc
                go_wp2_with fail
                go_roundw
                case rel => exact ⟨i + 1, rfl, hlt, _, _, _, HM6.out, HF6'.out⟩
                case measure => simp [intOf]; omega
              · go_wp2_with fail
                go_meet
                exact ⟨_, _, true, HM5.out, fun hq => by cases hq⟩
            · obtain rfl : i = n1 := by omega
              cases bad5
              · have K5 := Lib.hid (HF5.out rfl)
                clear HF5
                go_wp2_with fail
                go_meet
                exact ⟨_, _, false, HM5.out, fun _ => K5.out⟩
              · go_wp2_with fail
                go_meet
                exact ⟨_, _, true, HM5.out, fun hq => by cases hq⟩
        case rest =>
          obtain ⟨p7, b7, bad7, hm7, hF7⟩ := hcut
          have HM7 := Lib.hid hm7
          have HF7 := Lib.hid (known2_start (ks := ks) (vs := vs) HN1.out hF7)
          clear hm7 hF7
          go_wp2_with fail
          go_loopw [7] (LoopV L #[.int .i64 k, .int .i64 h, .string t, .slice la n1 lc, .slice ka n2 kc, .slice va n3 vc] w n2 (Known2 k h t n1 n2 n3 p deep ls ks vs)) (fun i _ => n2 - (intOf i).toNat)
          case atStart => exact ⟨0, rfl, Nat.zero_le _, _, _, _, HM7.out, HF7.out⟩
          case round =>
            obtain ⟨i, rfl, hi, p5, b5, bad5, hm5, hF5⟩ := hrel
            have HM5 := Lib.hid hm5
            have HF5 := Lib.hid hF5
            have hc := cells6 hm5.2.1
            have hk := hm5.1.cells
            clear hm5 hF5
            by_cases hlt : i < n2
            · cases bad5
              · obtain ⟨bk, ok, rfl⟩ := HK1.out.addr (by rw [HN2.out]; omega)
                have HBW := Lib.hid (Mid.below HM5.out HW.out hLw)
                have HSA := Lib.hid (Same.of_below HBW.out HS.out : Same S w0 wr)
                obtain ⟨hSk, hck0⟩ := RK.at ks bk ok HK1.out i (by rw [HN2.out]; exact hlt)
                have hck := (HSA.out.cell hSk).trans hck0
                obtain ⟨s, hs⟩ : ∃ s, Hid (ks[i]'(by rw [HN2.out]; exact hlt) = s) := ⟨_, Lib.hid rfl⟩
                rw [hs.out] at hck
                have K5 := Lib.hid (HF5.out rfl)
                have hiQ : i ≤ 140737488355328 := by have := HQ2.out; unfold Q at this; omega
                clear hck0 HF5
                go_wp2_with fail
                refine (str_any s (by rw [← hs.out]; have := HQk.out _ (List.getElem_mem (l := ks) (n := i) (by rw [HN2.out]; exact hlt)); unfold Q at this; omega) HT.out HBW.out hLw HM5.out.1).mono ?_
                rintro e w6 ⟨rfl, bad6, hl6, hF6⟩
                have HM6 := Lib.hid (HM5.out.next hL hl6)
                have HF6 := Lib.hid hF6
                have HBW6 := Lib.hid (Mid.below HM6.out HW.out hLw)
                have hc6 := cells6 HM6.out.2.1
                clear hl6 hF6 hc hk hck
                go_upto_region 13 with fail
                go_cut [] (fun wx => CutB L #[.int .i64 k, .int .i64 h, .string t, .slice la n1 lc, .slice (some ⟨bk, ok, none⟩) n2 kc, .slice va n3 vc] w (fun p' b' => bad6 = false ∧ p' = p5 ∧ b' = wrap64 (b5 + s.size) ∧ Rising (ks.take (i + 1))) wx)
                case rest =>
                  obtain ⟨p8, b8, bad8, hm8, hF8⟩ := hcut
                  have HM8 := Lib.hid hm8
                  have HF8 := Lib.hid hF8
                  have hc8 := cells6 hm8.2.1
                  have HBW8 := Lib.hid (Mid.below hm8 HW.out hLw)
                  have hlt3 : i < vs.length := by rw [HN3.out, ← K5.out.one.len]; exact hlt
                  obtain ⟨bv, ov, rfl⟩ := HV1.out.addr (by omega)
                  obtain ⟨hSv, c0, c1, c2, c3, c4, c5, h6, hx⟩ := RL.at vs bv ov HV1.out i hlt3
                  have h6' := Six.mono (Same.of_below HBW8.out HS.out) hSv h6
                  obtain ⟨xa, xb, xc, xd, xe, xf, x1, x2, x3, x4, x5, x6, e, HX⟩ := RV.parts hx
                  simp only [Value.agg.injEq, Array.mk.injEq, List.cons.injEq, and_true] at e
                  obtain ⟨rfl, rfl, rfl, rfl, rfl, rfl⟩ := e
                  have hp5 := K5.out.parts
                  have hp5' := K5.out.most
                  have hd5 := K5.out.d
                  have hn3' : i < n3 := by rw [← HN3.out]; exact hlt3
                  clear hx h6 hm8 hF8
                  unfold Six at h6'
                  have HK8 := Lib.hid (known2_mid K5.out HF6.out HF8.out (by have := HQk.out _ (List.getElem_mem (l := ks) (n := i) (by rw [HN2.out]; exact hlt)); rw [hs.out] at this; exact this) : bad8 = false → p8 = p5 ∧ 0 ≤ b8 ∧ b8 ≤ 2000 ∧ s.size ≤ 2000 ∧ Lib.validD s.data.toList = true ∧ Rising (ks.take (i + 1)))
                  go_wp2_with fail
                  refine (HH2.out _ (List.getElem_mem hlt3) w0 wc L p8 b8 (deep + 1) bad8 _ S HX.out HS.out HT.out HBW8.out hLw HM8.out.1 (fun hq => by obtain ⟨y1, y2, y3, _⟩ := HK8.out hq; exact ⟨by omega, by omega, y2, y3⟩) (by omega) (by omega)).mono ?_
                  rintro e w9 ⟨rfl, p9, b9, bad9, hl9, hF9⟩
                  have HM9 := Lib.hid (HM8.out.next hL hl9)
                  have HF9 := Lib.hid (known2_next (by rw [HN2.out]; exact hlt) hlt3 K5.out HK8.out hF9 hs.out)
                  clear hl9 hF9 h6' hc8
                  go_wp2_with fail
                  go_roundw
                  case rel => exact ⟨i + 1, rfl, hlt, _, _, _, HM9.out, HF9.out⟩
                  case measure => simp [intOf]; omega
                case first =>
                rcases Nat.eq_zero_or_pos i with rfl | hpos
                · refine wp_region_D (fun _ => True) [17] (by kernel_rfl) ?_
                  have hS6 : (fun _ : World => True) w6.drew := trivial
                  (first
                   | (refine wpAnyD_take (i := 0) (v := ?_) [17] [17] rfl (by kernel_rfl) (by kernel_rfl) (by kernel_rfl) (fun _ _ _ h => h) (by kernel_rfl) (by kernel_rfl) (by kernel_rfl) (Or.inl ⟨?_, ?_⟩) hS6 ?_
                      rotate_left
                      focus rfl
                      focus (intro w' hw'; go_simp; with_reducible rfl)
                      try go_simp)
                   | (refine wpAnyD_take (i := 0) (v := undef) [17] [17] rfl (by kernel_rfl) (by kernel_rfl) (by kernel_rfl) (fun _ _ _ h => h) (by kernel_rfl) (by kernel_rfl) (by kernel_rfl) (Or.inr ⟨rfl, rfl⟩) hS6 ?_
                      try go_simp))
                  (first
                   | (refine wpAnyD_take (i := 1) (v := ?_) [2, 3, 16, 17] [17] rfl (by kernel_rfl) (by kernel_rfl) (by kernel_rfl) (fun _ _ _ h => h) (by kernel_rfl) (by kernel_rfl) (by kernel_rfl) (Or.inl ⟨?_, ?_⟩) hS6 ?_
                      rotate_left
                      focus rfl
                      focus (intro w' hw'; go_simp; with_reducible rfl)
                      try go_simp)
                   | (refine wpAnyD_take (i := 1) (v := undef) [2, 3, 16, 17] [17] rfl (by kernel_rfl) (by kernel_rfl) (by kernel_rfl) (fun _ _ _ h => h) (by kernel_rfl) (by kernel_rfl) (by kernel_rfl) (Or.inr ⟨rfl, rfl⟩) hS6 ?_
                      try go_simp))
                  (first
                   | (refine wpAnyD_take (i := 2) (v := ?_) [3, 16, 17] [17] rfl (by kernel_rfl) (by kernel_rfl) (by kernel_rfl) (fun _ _ _ h => h) (by kernel_rfl) (by kernel_rfl) (by kernel_rfl) (Or.inl ⟨?_, ?_⟩) hS6 ?_
                      rotate_left
                      focus rfl
                      focus (intro w' hw'; go_simp; with_reducible rfl)
                      try go_simp)
                   | (refine wpAnyD_take (i := 2) (v := undef) [3, 16, 17] [17] rfl (by kernel_rfl) (by kernel_rfl) (by kernel_rfl) (fun _ _ _ h => h) (by kernel_rfl) (by kernel_rfl) (by kernel_rfl) (Or.inr ⟨rfl, rfl⟩) hS6 ?_
                      try go_simp))
                  (first
                   | (refine wpAnyD_take (i := 3) (v := ?_) [16, 17] [17] rfl (by kernel_rfl) (by kernel_rfl) (by kernel_rfl) (fun _ _ _ h => h) (by kernel_rfl) (by kernel_rfl) (by kernel_rfl) (Or.inl ⟨?_, ?_⟩) hS6 ?_
                      rotate_left
                      focus rfl
                      focus (intro w' hw'; go_simp; with_reducible rfl)
                      try go_simp)
                   | (refine wpAnyD_take (i := 3) (v := undef) [16, 17] [17] rfl (by kernel_rfl) (by kernel_rfl) (by kernel_rfl) (fun _ _ _ h => h) (by kernel_rfl) (by kernel_rfl) (by kernel_rfl) (Or.inr ⟨rfl, rfl⟩) hS6 ?_
                      try go_simp))
                  (first
                   | (refine wpAnyD_take (i := 4) (v := ?_) [5, 8, 9, 15, 16, 17] [17] rfl (by kernel_rfl) (by kernel_rfl) (by kernel_rfl) (fun _ _ _ h => h) (by kernel_rfl) (by kernel_rfl) (by kernel_rfl) (Or.inl ⟨?_, ?_⟩) hS6 ?_
                      rotate_left
                      focus rfl
                      focus (intro w' hw'; go_simp; with_reducible rfl)
                      try go_simp)
                   | (refine wpAnyD_take (i := 4) (v := undef) [5, 8, 9, 15, 16, 17] [17] rfl (by kernel_rfl) (by kernel_rfl) (by kernel_rfl) (fun _ _ _ h => h) (by kernel_rfl) (by kernel_rfl) (by kernel_rfl) (Or.inr ⟨rfl, rfl⟩) hS6 ?_
                      try go_simp))
                  (first
                   | (refine wpAnyD_take (i := 5) (v := ?_) [8, 9, 15, 16, 17] [17] rfl (by kernel_rfl) (by kernel_rfl) (by kernel_rfl) (fun _ _ _ h => h) (by kernel_rfl) (by kernel_rfl) (by kernel_rfl) (Or.inl ⟨?_, ?_⟩) hS6 ?_
                      rotate_left
                      focus rfl
                      focus (intro w' hw'; go_simp; with_reducible rfl)
                      try go_simp)
                   | (refine wpAnyD_take (i := 5) (v := undef) [8, 9, 15, 16, 17] [17] rfl (by kernel_rfl) (by kernel_rfl) (by kernel_rfl) (fun _ _ _ h => h) (by kernel_rfl) (by kernel_rfl) (by kernel_rfl) (Or.inr ⟨rfl, rfl⟩) hS6 ?_
                      try go_simp))
                  (first
                   | (refine wpAnyD_take (i := 6) (v := ?_) [7, 8, 9, 15, 16, 17] [17] rfl (by kernel_rfl) (by kernel_rfl) (by kernel_rfl) (fun _ _ _ h => h) (by kernel_rfl) (by kernel_rfl) (by kernel_rfl) (Or.inl ⟨?_, ?_⟩) hS6 ?_
                      rotate_left
                      focus rfl
                      focus (intro w' hw'; go_simp; with_reducible rfl)
                      try go_simp)
                   | (refine wpAnyD_take (i := 6) (v := undef) [7, 8, 9, 15, 16, 17] [17] rfl (by kernel_rfl) (by kernel_rfl) (by kernel_rfl) (fun _ _ _ h => h) (by kernel_rfl) (by kernel_rfl) (by kernel_rfl) (Or.inr ⟨rfl, rfl⟩) hS6 ?_
                      try go_simp))
                  (first
                   | (refine wpAnyD_take (i := 7) (v := ?_) [8, 9, 15, 16, 17] [17] rfl (by kernel_rfl) (by kernel_rfl) (by kernel_rfl) (fun _ _ _ h => h) (by kernel_rfl) (by kernel_rfl) (by kernel_rfl) (Or.inl ⟨?_, ?_⟩) hS6 ?_
                      rotate_left
                      focus rfl
                      focus (intro w' hw'; go_simp; with_reducible rfl)
                      try go_simp)
                   | (refine wpAnyD_take (i := 7) (v := undef) [8, 9, 15, 16, 17] [17] rfl (by kernel_rfl) (by kernel_rfl) (by kernel_rfl) (fun _ _ _ h => h) (by kernel_rfl) (by kernel_rfl) (by kernel_rfl) (Or.inr ⟨rfl, rfl⟩) hS6 ?_
                      try go_simp))
                  (first
                   | (refine wpAnyD_take (i := 8) (v := ?_) [9, 15, 16, 17] [17] rfl (by kernel_rfl) (by kernel_rfl) (by kernel_rfl) (fun _ _ _ h => h) (by kernel_rfl) (by kernel_rfl) (by kernel_rfl) (Or.inl ⟨?_, ?_⟩) hS6 ?_
                      rotate_left
                      focus rfl
                      focus (intro w' hw'; go_simp; with_reducible rfl)
                      try go_simp)
                   | (refine wpAnyD_take (i := 8) (v := undef) [9, 15, 16, 17] [17] rfl (by kernel_rfl) (by kernel_rfl) (by kernel_rfl) (fun _ _ _ h => h) (by kernel_rfl) (by kernel_rfl) (by kernel_rfl) (Or.inr ⟨rfl, rfl⟩) hS6 ?_
                      try go_simp))
                  (first
                   | (refine wpAnyD_take (i := 9) (v := ?_) [15, 16, 17] [17] rfl (by kernel_rfl) (by kernel_rfl) (by kernel_rfl) (fun _ _ _ h => h) (by kernel_rfl) (by kernel_rfl) (by kernel_rfl) (Or.inl ⟨?_, ?_⟩) hS6 ?_
                      rotate_left
                      focus rfl
                      focus (intro w' hw'; go_simp; with_reducible rfl)
                      try go_simp)
                   | (refine wpAnyD_take (i := 9) (v := undef) [15, 16, 17] [17] rfl (by kernel_rfl) (by kernel_rfl) (by kernel_rfl) (fun _ _ _ h => h) (by kernel_rfl) (by kernel_rfl) (by kernel_rfl) (Or.inr ⟨rfl, rfl⟩) hS6 ?_
                      try go_simp))
                  (first
                   | (refine wpAnyD_take (i := 10) (v := ?_) [11, 13, 14, 15, 16, 17] [17] rfl (by kernel_rfl) (by kernel_rfl) (by kernel_rfl) (fun _ _ _ h => h) (by kernel_rfl) (by kernel_rfl) (by kernel_rfl) (Or.inl ⟨?_, ?_⟩) hS6 ?_
                      rotate_left
                      focus rfl
                      focus (intro w' hw'; go_simp; with_reducible rfl)
                      try go_simp)
                   | (refine wpAnyD_take (i := 10) (v := undef) [11, 13, 14, 15, 16, 17] [17] rfl (by kernel_rfl) (by kernel_rfl) (by kernel_rfl) (fun _ _ _ h => h) (by kernel_rfl) (by kernel_rfl) (by kernel_rfl) (Or.inr ⟨rfl, rfl⟩) hS6 ?_
                      try go_simp))
                  (first
                   | (refine wpAnyD_take (i := 11) (v := ?_) [13, 14, 15, 16, 17] [17] rfl (by kernel_rfl) (by kernel_rfl) (by kernel_rfl) (fun _ _ _ h => h) (by kernel_rfl) (by kernel_rfl) (by kernel_rfl) (Or.inl ⟨?_, ?_⟩) hS6 ?_
                      rotate_left
                      focus rfl
                      focus (intro w' hw'; go_simp; with_reducible rfl)
                      try go_simp)
                   | (refine wpAnyD_take (i := 11) (v := undef) [13, 14, 15, 16, 17] [17] rfl (by kernel_rfl) (by kernel_rfl) (by kernel_rfl) (fun _ _ _ h => h) (by kernel_rfl) (by kernel_rfl) (by kernel_rfl) (Or.inr ⟨rfl, rfl⟩) hS6 ?_
                      try go_simp))
                  (first
                   | (refine wpAnyD_take (i := 12) (v := ?_) [13, 14, 15, 16, 17] [17] rfl (by kernel_rfl) (by kernel_rfl) (by kernel_rfl) (fun _ _ _ h => h) (by kernel_rfl) (by kernel_rfl) (by kernel_rfl) (Or.inl ⟨?_, ?_⟩) hS6 ?_
                      rotate_left
                      focus rfl
                      focus (intro w' hw'; go_simp; with_reducible rfl)
                      try go_simp)
                   | (refine wpAnyD_take (i := 12) (v := undef) [13, 14, 15, 16, 17] [17] rfl (by kernel_rfl) (by kernel_rfl) (by kernel_rfl) (fun _ _ _ h => h) (by kernel_rfl) (by kernel_rfl) (by kernel_rfl) (Or.inr ⟨rfl, rfl⟩) hS6 ?_
                      try go_simp))
                  (first
                   | (refine wpAnyD_take (i := 13) (v := ?_) [14, 15, 16, 17] [17] rfl (by kernel_rfl) (by kernel_rfl) (by kernel_rfl) (fun _ _ _ h => h) (by kernel_rfl) (by kernel_rfl) (by kernel_rfl) (Or.inl ⟨?_, ?_⟩) hS6 ?_
                      rotate_left
                      focus rfl
                      focus (intro w' hw'; go_simp; with_reducible rfl)
                      try go_simp)
                   | (refine wpAnyD_take (i := 13) (v := undef) [14, 15, 16, 17] [17] rfl (by kernel_rfl) (by kernel_rfl) (by kernel_rfl) (fun _ _ _ h => h) (by kernel_rfl) (by kernel_rfl) (by kernel_rfl) (Or.inr ⟨rfl, rfl⟩) hS6 ?_
                      try go_simp))
                  (first
                   | (refine wpAnyD_take (i := 14) (v := ?_) [15, 16, 17] [17] rfl (by kernel_rfl) (by kernel_rfl) (by kernel_rfl) (fun _ _ _ h => h) (by kernel_rfl) (by kernel_rfl) (by kernel_rfl) (Or.inl ⟨?_, ?_⟩) hS6 ?_
                      rotate_left
                      focus rfl
                      focus (intro w' hw'; go_simp; with_reducible rfl)
                      try go_simp)
                   | (refine wpAnyD_take (i := 14) (v := undef) [15, 16, 17] [17] rfl (by kernel_rfl) (by kernel_rfl) (by kernel_rfl) (fun _ _ _ h => h) (by kernel_rfl) (by kernel_rfl) (by kernel_rfl) (Or.inr ⟨rfl, rfl⟩) hS6 ?_
                      try go_simp))
                  (first
                   | (refine wpAnyD_take (i := 15) (v := ?_) [16, 17] [17] rfl (by kernel_rfl) (by kernel_rfl) (by kernel_rfl) (fun _ _ _ h => h) (by kernel_rfl) (by kernel_rfl) (by kernel_rfl) (Or.inl ⟨?_, ?_⟩) hS6 ?_
                      rotate_left
                      focus rfl
                      focus (intro w' hw'; go_simp; with_reducible rfl)
                      try go_simp)
                   | (refine wpAnyD_take (i := 15) (v := undef) [16, 17] [17] rfl (by kernel_rfl) (by kernel_rfl) (by kernel_rfl) (fun _ _ _ h => h) (by kernel_rfl) (by kernel_rfl) (by kernel_rfl) (Or.inr ⟨rfl, rfl⟩) hS6 ?_
                      try go_simp))
                  (first
                   | (refine wpAnyD_take (i := 16) (v := ?_) [17] [17] rfl (by kernel_rfl) (by kernel_rfl) (by kernel_rfl) (fun _ _ _ h => h) (by kernel_rfl) (by kernel_rfl) (by kernel_rfl) (Or.inl ⟨?_, ?_⟩) hS6 ?_
                      rotate_left
                      focus rfl
                      focus (intro w' hw'; go_simp; with_reducible rfl)
                      try go_simp)
                   | (refine wpAnyD_take (i := 16) (v := undef) [17] [17] rfl (by kernel_rfl) (by kernel_rfl) (by kernel_rfl) (fun _ _ _ h => h) (by kernel_rfl) (by kernel_rfl) (by kernel_rfl) (Or.inr ⟨rfl, rfl⟩) hS6 ?_
                      try go_simp))
                  refine wpAnyD_ready (rs := [17]) (by kernel_rfl) (by simp) ?_
                  refine AllReadyD.cons rfl (fun K hK => ?_) AllReadyD.nil
                  go_simp
                  refine (want_any _ HM6.out.drew.1).mono ?_
                  rintro e w8 ⟨rfl, hl8⟩
                  have HM8 := Lib.hid (HM6.out.drew.next hL hl8)
                  clear hl8
                  refine hK.out _ _ (fun h => absurd h (by decide)) ?_
                  clear hK K
                  refine wpAnyD_done (by kernel_rfl) ?_ _
                  go_wp2_with fail
                  go_meet
                  exact ⟨_, _, _, HM8.out, fun hq => ⟨(by cases bad6 <;> simp_all), rfl, rfl, rising_one ks⟩⟩
                · obtain ⟨m, rfl⟩ : ∃ m, i = m + 1 := ⟨i - 1, by omega⟩
                  obtain ⟨_, hck0⟩ := RK.at ks bk ok HK1.out m (by rw [HN2.out]; omega)
                  have hckp := ((Same.of_below HBW6.out HS.out : Same S w0 w6).cell hSk).trans hck0
                  have hckq := ((Same.of_below HBW6.out HS.out : Same S w0 w6).cell hSk).trans (RK.at ks bk ok HK1.out (m + 1) (by rw [HN2.out]; exact hlt)).2
                  obtain ⟨s0, hs0⟩ : ∃ s, Hid (ks[m]'(by rw [HN2.out]; omega) = s) := ⟨_, Lib.hid rfl⟩
                  rw [hs0.out] at hckp
                  rw [hs.out] at hckq
                  have hwm : IntKind.i64.wrap (m : Int) = m := by rw [IntKind.wrap_i64]; omega
                  have hwm1 : IntKind.i64.wrap ((m + 1 : Nat) : Int) = ((m + 1 : Nat) : Int) := by rw [IntKind.wrap_i64]; omega
                  have hmn : (m : Int) < n2 := by omega
                  have hmn1 : ((m + 1 : Nat) : Int) < n2 := by omega
                  have hm0 : (0 : Int) ≤ m := by omega
                  have hmn2 : (m : Int) + 1 < n2 := by omega
                  have hm2 : (0 : Int) ≤ (m : Int) + 1 := by omega
                  clear hck0
                  refine wp_region_D (KeyS w.heap.size bk (ok + m) (ok + (m + 1)) (.string s0) (.string s) (.cells #[.int .i64 k, .int .i64 h, .string t, .slice la n1 lc, .slice (some ⟨bk, ok, none⟩) n2 kc, .slice va n3 vc] 27 (0, 0))) [17] (by kernel_rfl) ?_
                  have hS6 : KeyS w.heap.size bk (ok + m) (ok + (m + 1)) (.string s0) (.string s) (.cells #[.int .i64 k, .int .i64 h, .string t, .slice la n1 lc, .slice (some ⟨bk, ok, none⟩) n2 kc, .slice va n3 vc] 27 (0, 0)) w6.drew := ⟨HM6.out.2.1, hckp, hckq⟩
                  (refine wpAnyD_take (i := 0) (v := ?_) [17] [17] rfl (by kernel_rfl) (by kernel_rfl) (by kernel_rfl) (fun _ _ _ h => h) (by kernel_rfl) (by kernel_rfl) (by kernel_rfl) (Or.inl ⟨?_, ?_⟩) hS6 ?_
                   rotate_left
                   focus rfl
                   focus (intro w' hw'; have hw1 := cells6 hw'.1; have hw2 := hw'.2.1; have hw3 := hw'.2.2; clear hw'; go_simp; with_reducible rfl)
                   try go_simp)
                  (refine wpAnyD_take (i := 1) (v := ?_) [2, 3, 16, 17] [17] rfl (by kernel_rfl) (by kernel_rfl) (by kernel_rfl) (fun _ _ _ h => h) (by kernel_rfl) (by kernel_rfl) (by kernel_rfl) (Or.inl ⟨?_, ?_⟩) hS6 ?_
                   rotate_left
                   focus rfl
                   focus (intro w' hw'; have hw1 := cells6 hw'.1; have hw2 := hw'.2.1; have hw3 := hw'.2.2; clear hw'; go_simp; with_reducible rfl)
                   try go_simp)
                  (refine wpAnyD_take (i := 2) (v := ?_) [3, 16, 17] [17] rfl (by kernel_rfl) (by kernel_rfl) (by kernel_rfl) (fun _ _ _ h => h) (by kernel_rfl) (by kernel_rfl) (by kernel_rfl) (Or.inl ⟨?_, ?_⟩) hS6 ?_
                   rotate_left
                   focus rfl
                   focus (intro w' hw'; have hw1 := cells6 hw'.1; have hw2 := hw'.2.1; have hw3 := hw'.2.2; clear hw'; go_simp; with_reducible rfl)
                   try go_simp)
                  (refine wpAnyD_take (i := 3) (v := ?_) [16, 17] [17] rfl (by kernel_rfl) (by kernel_rfl) (by kernel_rfl) (fun _ _ _ h => h) (by kernel_rfl) (by kernel_rfl) (by kernel_rfl) (Or.inl ⟨?_, ?_⟩) hS6 ?_
                   rotate_left
                   focus rfl
                   focus (intro w' hw'; have hw1 := cells6 hw'.1; have hw2 := hw'.2.1; have hw3 := hw'.2.2; clear hw'; go_simp; with_reducible rfl)
                   try go_simp)
                  (refine wpAnyD_take (i := 4) (v := ?_) [5, 8, 9, 15, 16, 17] [17] rfl (by kernel_rfl) (by kernel_rfl) (by kernel_rfl) (fun _ _ _ h => h) (by kernel_rfl) (by kernel_rfl) (by kernel_rfl) (Or.inl ⟨?_, ?_⟩) hS6 ?_
                   rotate_left
                   focus rfl
                   focus (intro w' hw'; have hw1 := cells6 hw'.1; have hw2 := hw'.2.1; have hw3 := hw'.2.2; clear hw'; go_simp; with_reducible rfl)
                   try go_simp)
                  (refine wpAnyD_take (i := 5) (v := ?_) [8, 9, 15, 16, 17] [17] rfl (by kernel_rfl) (by kernel_rfl) (by kernel_rfl) (fun _ _ _ h => h) (by kernel_rfl) (by kernel_rfl) (by kernel_rfl) (Or.inl ⟨?_, ?_⟩) hS6 ?_
                   rotate_left
                   focus rfl
                   focus (intro w' hw'; have hw1 := cells6 hw'.1; have hw2 := hw'.2.1; have hw3 := hw'.2.2; clear hw'; go_simp; with_reducible rfl)
                   try go_simp)
                  (refine wpAnyD_take (i := 6) (v := ?_) [7, 8, 9, 15, 16, 17] [17] rfl (by kernel_rfl) (by kernel_rfl) (by kernel_rfl) (fun _ _ _ h => h) (by kernel_rfl) (by kernel_rfl) (by kernel_rfl) (Or.inl ⟨?_, ?_⟩) hS6 ?_
                   rotate_left
                   focus rfl
                   focus (intro w' hw'; have hw1 := cells6 hw'.1; have hw2 := hw'.2.1; have hw3 := hw'.2.2; clear hw'; go_simp; with_reducible rfl)
                   try go_simp)
                  (refine wpAnyD_take (i := 7) (v := ?_) [8, 9, 15, 16, 17] [17] rfl (by kernel_rfl) (by kernel_rfl) (by kernel_rfl) (fun _ _ _ h => h) (by kernel_rfl) (by kernel_rfl) (by kernel_rfl) (Or.inl ⟨?_, ?_⟩) hS6 ?_
                   rotate_left
                   focus rfl
                   focus (intro w' hw'; have hw1 := cells6 hw'.1; have hw2 := hw'.2.1; have hw3 := hw'.2.2; clear hw'; go_simp; with_reducible rfl)
                   try go_simp)
                  (refine wpAnyD_take (i := 8) (v := ?_) [9, 15, 16, 17] [17] rfl (by kernel_rfl) (by kernel_rfl) (by kernel_rfl) (fun _ _ _ h => h) (by kernel_rfl) (by kernel_rfl) (by kernel_rfl) (Or.inl ⟨?_, ?_⟩) hS6 ?_
                   rotate_left
                   focus rfl
                   focus (intro w' hw'; have hw1 := cells6 hw'.1; have hw2 := hw'.2.1; have hw3 := hw'.2.2; clear hw'; go_simp; with_reducible rfl)
                   try go_simp)
                  (refine wpAnyD_take (i := 9) (v := ?_) [15, 16, 17] [17] rfl (by kernel_rfl) (by kernel_rfl) (by kernel_rfl) (fun _ _ _ h => h) (by kernel_rfl) (by kernel_rfl) (by kernel_rfl) (Or.inl ⟨?_, ?_⟩) hS6 ?_
                   rotate_left
                   focus rfl
                   focus (intro w' hw'; have hw1 := cells6 hw'.1; have hw2 := hw'.2.1; have hw3 := hw'.2.2; clear hw'; go_simp; with_reducible rfl)
                   try go_simp)
                  (refine wpAnyD_take (i := 10) (v := ?_) [11, 13, 14, 15, 16, 17] [17] rfl (by kernel_rfl) (by kernel_rfl) (by kernel_rfl) (fun _ _ _ h => h) (by kernel_rfl) (by kernel_rfl) (by kernel_rfl) (Or.inl ⟨?_, ?_⟩) hS6 ?_
                   rotate_left
                   focus rfl
                   focus (intro w' hw'; have hw1 := cells6 hw'.1; have hw2 := hw'.2.1; have hw3 := hw'.2.2; clear hw'; go_simp; with_reducible rfl)
                   try go_simp)
                  (refine wpAnyD_take (i := 11) (v := ?_) [13, 14, 15, 16, 17] [17] rfl (by kernel_rfl) (by kernel_rfl) (by kernel_rfl) (fun _ _ _ h => h) (by kernel_rfl) (by kernel_rfl) (by kernel_rfl) (Or.inl ⟨?_, ?_⟩) hS6 ?_
                   rotate_left
                   focus rfl
                   focus (intro w' hw'; have hw1 := cells6 hw'.1; have hw2 := hw'.2.1; have hw3 := hw'.2.2; clear hw'; go_simp; with_reducible rfl)
                   try go_simp)
                  (refine wpAnyD_take (i := 12) (v := ?_) [13, 14, 15, 16, 17] [17] rfl (by kernel_rfl) (by kernel_rfl) (by kernel_rfl) (fun _ _ _ h => h) (by kernel_rfl) (by kernel_rfl) (by kernel_rfl) (Or.inl ⟨?_, ?_⟩) hS6 ?_
                   rotate_left
                   focus rfl
                   focus (intro w' hw'; have hw1 := cells6 hw'.1; have hw2 := hw'.2.1; have hw3 := hw'.2.2; clear hw'; go_simp; with_reducible rfl)
                   try go_simp)
                  (refine wpAnyD_take (i := 13) (v := ?_) [14, 15, 16, 17] [17] rfl (by kernel_rfl) (by kernel_rfl) (by kernel_rfl) (fun _ _ _ h => h) (by kernel_rfl) (by kernel_rfl) (by kernel_rfl) (Or.inl ⟨?_, ?_⟩) hS6 ?_
                   rotate_left
                   focus rfl
                   focus (intro w' hw'; have hw1 := cells6 hw'.1; have hw2 := hw'.2.1; have hw3 := hw'.2.2; clear hw'; go_simp; with_reducible rfl)
                   try go_simp)
                  (refine wpAnyD_take (i := 14) (v := ?_) [15, 16, 17] [17] rfl (by kernel_rfl) (by kernel_rfl) (by kernel_rfl) (fun _ _ _ h => h) (by kernel_rfl) (by kernel_rfl) (by kernel_rfl) (Or.inl ⟨?_, ?_⟩) hS6 ?_
                   rotate_left
                   focus rfl
                   focus (intro w' hw'; have hw1 := cells6 hw'.1; have hw2 := hw'.2.1; have hw3 := hw'.2.2; clear hw'; go_simp; with_reducible rfl)
                   try go_simp)
                  (refine wpAnyD_take (i := 15) (v := ?_) [16, 17] [17] rfl (by kernel_rfl) (by kernel_rfl) (by kernel_rfl) (fun _ _ _ h => h) (by kernel_rfl) (by kernel_rfl) (by kernel_rfl) (Or.inl ⟨?_, ?_⟩) hS6 ?_
                   rotate_left
                   focus rfl
                   focus (intro w' hw'; have hw1 := cells6 hw'.1; have hw2 := hw'.2.1; have hw3 := hw'.2.2; clear hw'; go_simp; with_reducible rfl)
                   try go_simp)
                  (refine wpAnyD_take (i := 16) (v := ?_) [17] [17] rfl (by kernel_rfl) (by kernel_rfl) (by kernel_rfl) (fun _ _ _ h => h) (by kernel_rfl) (by kernel_rfl) (by kernel_rfl) (Or.inl ⟨?_, ?_⟩) hS6 ?_
                   rotate_left
                   focus rfl
                   focus (intro w' hw'; have hw1 := cells6 hw'.1; have hw2 := hw'.2.1; have hw3 := hw'.2.2; clear hw'; go_simp; with_reducible rfl)
                   try go_simp)
                  refine wpAnyD_ready (rs := [17]) (by kernel_rfl) (by simp) ?_
                  refine AllReadyD.cons rfl (fun K hK => ?_) AllReadyD.nil
                  go_simp
                  refine (want_any _ HM6.out.drew.1).mono ?_
                  rintro e w8 ⟨rfl, hl8⟩
                  have HM8 := Lib.hid (HM6.out.drew.next hL hl8)
                  clear hl8
                  refine hK.out _ _ (fun h => absurd h (by decide)) ?_
                  clear hK K
                  refine wpAnyD_done (by kernel_rfl) ?_ _
                  go_wp2_with fail
                  go_meet
                  exact ⟨_, _, _, HM8.out, fun hq => ⟨(by cases bad6 <;> simp_all), rfl, rfl, rising_more (by rw [HN2.out]; exact hlt) K5.out.rise (by rw [hs0.out, hs.out]; have h2 := hq; simp at h2; exact h2.2 (by omega))⟩⟩
              · go_wp2_with fail
                go_returns
                exact ⟨rfl, _, _, true, ⟨HM5.out.1, HM5.out.2.2⟩, fun hq => by cases hq⟩
            · obtain rfl : i = n2 := by omega
              cases bad5
              · have K5 := Lib.hid (HF5.out rfl)
                clear HF5
                go_wp2_with fail
                go_returns
                exact ⟨rfl, _, _, false, ⟨HM5.out.1, HM5.out.2.2⟩, fun _ => by
                  have H := K5.out
                  exact ⟨rfl, H.good HN1.out HN2.out HN3.out, H.size HN2.out HN3.out, H.most, H.b0, H.b1⟩⟩
              · go_wp2_with fail
                go_returns
                exact ⟨rfl, _, _, true, ⟨HM5.out.1, HM5.out.2.2⟩, fun hq => by cases hq⟩
  · have HL := Lib.hid hl
    clear hl hb1
    go_wp2_with fail
    go_returns
    exact ⟨rfl, _, _, true, ⟨HM.out.1, HM.out.2.2⟩, fun h => by cases h⟩

end Go.Proofs.YtgjmgneppecfgaaGreatDoor.Va
