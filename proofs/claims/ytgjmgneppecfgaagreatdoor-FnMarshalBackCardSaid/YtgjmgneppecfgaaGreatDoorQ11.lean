/-
  value where the parser is bad already.
-/
import Derived.Test.YtgjmgneppecfgaaGreatDoorQ10
import Derived.Test.YtgjmgneppecfgaaGreatDoorQPaI
set_option linter.unusedVariables false
set_option linter.unusedSimpArgs false
namespace Go.Proofs.YtgjmgneppecfgaaGreatDoor.Pa
open Go.RowKit Go.Proofs.YtgjmgneppecfgaaGreatDoor.Va Go.Proofs.YtgjmgneppecfgaaGreatDoor.Ba Go.Proofs.YtgjmgneppecfgaaGreatDoor.Ma
set_option linter.unusedVariables false
set_option linter.unusedSimpArgs false

theorem gr_dn3 {w w' : World} {r : Option Nat} (n : Nat) (h : w.grownBy w' r) : w.grownBy (w'.drewN n) r := ⟨h.os, h.tape, h.output, h.size, h.block⟩
set_option maxHeartbeats 2000000 in
/-- the result's cells are put: what stands elsewhere stands -/
theorem fin6 {L : Nat} {s : ByteArray} {A : Nat} {bad : Bool} {w X : World} (hL : L < w.heap.size) (hp : PB L s A bad X) (hg : w.grownBy X (some L)) (v0 v1 v2 v3 v4 v5 : Value) :
    PB L s A bad ((((((X.setCell ⟨w.heap.size, 0, none⟩ v0).setCell ⟨w.heap.size, 1, none⟩ v1).setCell ⟨w.heap.size, 2, none⟩ v2).setCell ⟨w.heap.size, 3, none⟩ v3).setCell ⟨w.heap.size, 4, none⟩ v4).setCell ⟨w.heap.size, 5, none⟩ v5) ∧
    w.grownBy ((((((X.setCell ⟨w.heap.size, 0, none⟩ v0).setCell ⟨w.heap.size, 1, none⟩ v1).setCell ⟨w.heap.size, 2, none⟩ v2).setCell ⟨w.heap.size, 3, none⟩ v3).setCell ⟨w.heap.size, 4, none⟩ v4).setCell ⟨w.heap.size, 5, none⟩ v5) (some L) :=
  by
  have ho : ∀ k, k ≠ w.heap.size → ((((((X.setCell ⟨w.heap.size, 0, none⟩ v0).setCell ⟨w.heap.size, 1, none⟩ v1).setCell ⟨w.heap.size, 2, none⟩ v2).setCell ⟨w.heap.size, 3, none⟩ v3).setCell ⟨w.heap.size, 4, none⟩ v4).setCell ⟨w.heap.size, 5, none⟩ v5).heap[k]? = X.heap[k]? := fun k hk => sets_other v0 v1 v2 v3 v4 v5 hk
  have g : X.grownBy ((((((X.setCell ⟨w.heap.size, 0, none⟩ v0).setCell ⟨w.heap.size, 1, none⟩ v1).setCell ⟨w.heap.size, 2, none⟩ v2).setCell ⟨w.heap.size, 3, none⟩ v3).setCell ⟨w.heap.size, 4, none⟩ v4).setCell ⟨w.heap.size, 5, none⟩ v5) (some w.heap.size) :=
    gr_trans (gr_trans (gr_trans (gr_trans (gr_trans (Va.gr_set _ _ _ _) (Va.gr_set _ _ _ _)) (Va.gr_set _ _ _ _)) (Va.gr_set _ _ _ _)) (Va.gr_set _ _ _ _)) (Va.gr_set _ _ _ _)
  exact ⟨(ho L (by omega)).trans hp, ⟨g.os.trans hg.os, g.tape.trans hg.tape, g.output.trans hg.output, Nat.le_trans hg.size g.size, fun k hk hr => (ho k (by omega)).trans (hg.block k hk hr)⟩⟩
/-- the result, put into its cells -/
theorem fin_v {L : Nat} {s : ByteArray} {A E : Nat} {bad : Bool} {x y : V} {w X WF : World} {v0 v1 v2 v3 v4 v5 : Value} (hL : L < w.heap.size) (hA : A ≤ s.size + 1) (hp : PB L s A bad X) (hg : w.grownBy X (some L)) (hr : RV X (fun r => w.heap.size + 1 ≤ r) y (.agg #[v0, v1, v2, v3, v4, v5])) (hE : bad = false → y = x ∧ A = E)
    (hW : ((((((X.setCell ⟨w.heap.size, 0, none⟩ v0).setCell ⟨w.heap.size, 1, none⟩ v1).setCell ⟨w.heap.size, 2, none⟩ v2).setCell ⟨w.heap.size, 3, none⟩ v3).setCell ⟨w.heap.size, 4, none⟩ v4).setCell ⟨w.heap.size, 5, none⟩ v5) = WF) :
    VEnd L s E x w (.returned (.agg #[v0, v1, v2, v3, v4, v5])) WF := by
  subst hW
  obtain ⟨h1, h2⟩ := fin6 hL hp hg v0 v1 v2 v3 v4 v5
  exact ⟨_, y, A, bad, rfl, h1, h2, hA, RV.mono (fun b hb => sets_other _ _ _ _ _ _ (by omega)) (fun b hb => by show _ ≤ b; omega) _ _ hr, hE⟩
theorem fin_z {X WF : World} {q : Nat} {a0 a1 a2 a3 a4 a5 v0 v1 v2 v3 v4 v5 : Value} {t : TypeId} (h : X.heap[q]? = some (.cells #[a0, a1, a2, a3, a4, a5] t (0, 0)))
    (hW : ((((((X.setCell ⟨q, 0, none⟩ v0).setCell ⟨q, 1, none⟩ v1).setCell ⟨q, 2, none⟩ v2).setCell ⟨q, 3, none⟩ v3).setCell ⟨q, 4, none⟩ v4).setCell ⟨q, 5, none⟩ v5) = WF) :
    WF.cell? ⟨q, 0, none⟩ = some v0 ∧ WF.cell? ⟨q, 1, none⟩ = some v1 ∧ WF.cell? ⟨q, 2, none⟩ = some v2 ∧ WF.cell? ⟨q, 3, none⟩ = some v3 ∧ WF.cell? ⟨q, 4, none⟩ = some v4 ∧ WF.cell? ⟨q, 5, none⟩ = some v5 := by
  subst hW
  exact (cells6 (set6_block h v0 v1 v2 v3 v4 v5)).1
set_option maxHeartbeats 2000000 in
set_option maxRecDepth 100000 in
/-- value where the parser is bad: null -/
theorem pvalue_bad (deep : Int) (E : Nat) (x : V) {L : Nat} {s : ByteArray} {A : Nat} {w : World} (h : PB L s A true w) (hs : s.size ≤ 70368744177664) (hA : A ≤ s.size + 1) :
    Calls Tryz.prog 45 #[.pointer (some ⟨L, 0, none⟩), .int .i64 deep] w (VEnd L s E x w) := by
  have H := Lib.hid h
  have hL := h.lt
  clear h
  go_enter Tryz.func45, Tryz.ntmps45
  go_wp2_with fail
  generalize hW : World.alloc w _ = W
  have B1 := Lib.hid (hW ▸ below_alloc w _ : Below w.heap.size w W)
  have z := Lib.hid (hW ▸ block_new w _ _ : W.heap[w.heap.size]? = some (.cells #[.int .i64 0, .int .i64 0, .string ⟨#[]⟩, .slice none 0 0, .slice none 0 0, .slice none 0 0] 27 (0, 0)))
  clear hW
  refine (pskip_any (keep B1.out H.out : PB L s A true W) (by omega) hA).mono ?_
  rintro e w1 ⟨rfl, A1, h1, h2, h3, h4, h5⟩
  have HP := Lib.hid h4
  have HG := Lib.hid (gr_trans (gr_below B1.out) h5)
  have z1 := Lib.hid ((h5.block _ (heap_lt z.out) (fun e => by have := Option.some.inj e; omega)).trans z.out)
  clear h3 h4 h5
  obtain ⟨c, hc⟩ : ∃ c, byt s A1 = c := ⟨_, rfl⟩
  have HN : Hid (∀ W, PB L s A1 true W → Calls Tryz.prog 94 #[.pointer (some ⟨L, 0, none⟩)] W (RetQ (.int .u8 (c : Int)) W)) := Lib.hid (fun W hW => by rw [← hc]; exact pnext_any hW)
  clear hc
  have c1 := HP.out.cells
  have d1 := cells6 z1.out
  by_cases hd : deep > 100
  · go_wp2_with fail
    refine Calls.mono (HN.out _ ?_) ?_
    focus exact HP.out.set2 true
    rintro e _ ⟨rfl, m1, rfl⟩
    go_wp2_with fail
    clear d1 c1 HN
    (generalize hWF : (((((World.setCell _ _ _).setCell _ _).setCell _ _).setCell _ _).setCell _ _).setCell _ _ = WF
     have HV := fin_v (X := ((w1.setCell ⟨L, 2, none⟩ (.bool true)).drewN m1)) (E := E) (x := x) hL (by omega) (HP.out.set2 true) (gr_trans HG.out (gr_dn3 _ (Va.gr_set _ _ _ _))) (rv_plain _ _ _ _ _ _ _ _ _ _ _) (fun q => by cases q) hWF
     obtain ⟨z0, z1, z2, z3, z4, z5⟩ := fin_z (X := ((w1.setCell ⟨L, 2, none⟩ (.bool true)).drewN m1)) ((set_other (w := w1) 2 (.bool true) (show w.heap.size ≠ L by omega)).trans z1.out) hWF
     clear hWF
     exact bodyPost_ret (v := (.agg #[.int .i64 0, .int .i64 0, .string ⟨#[]⟩, .slice none 0 0, .slice none 0 0, .slice none 0 0])) (by simp [results, Tryz.results45, go_sem, z0, z1, z2, z3, z4, z5]) rfl HV)
  · go_wp2_with fail
    refine Calls.mono (HN.out _ ?_) ?_
    focus exact HP.out
    rintro e _ ⟨rfl, m1, rfl⟩
    go_wp2_with fail
    clear d1 c1 HN
    (generalize hWF : (((((World.setCell _ _ _).setCell _ _).setCell _ _).setCell _ _).setCell _ _).setCell _ _ = WF
     have HV := fin_v (X := (w1.drewN m1)) (E := E) (x := x) hL (by omega) HP.out (gr_dn3 _ HG.out) (rv_plain _ _ _ _ _ _ _ _ _ _ _) (fun q => by cases q) hWF
     obtain ⟨z0, z1, z2, z3, z4, z5⟩ := fin_z (X := (w1.drewN m1)) z1.out hWF
     clear hWF
     exact bodyPost_ret (v := (.agg #[.int .i64 0, .int .i64 0, .string ⟨#[]⟩, .slice none 0 0, .slice none 0 0, .slice none 0 0])) (by simp [results, Tryz.results45, go_sem, z0, z1, z2, z3, z4, z5]) rfl HV)
end Go.Proofs.YtgjmgneppecfgaaGreatDoor.Pa
/-
  THE WALK of list, where value serves the elements.
-/
namespace Go.Proofs.YtgjmgneppecfgaaGreatDoor.Pa
open Go.RowKit Go.Proofs.YtgjmgneppecfgaaGreatDoor.Va Go.Proofs.YtgjmgneppecfgaaGreatDoor.Ba Go.Proofs.YtgjmgneppecfgaaGreatDoor.Ma
set_option linter.unusedVariables false
set_option linter.unusedSimpArgs false

/-- a row of values of one's own -/
def RowsY (base : Nat) (ys : List V) (ov : Value) (w : World) : Prop := ∃ cs, w.ownsRow base 27 6 ov ys.length cs ∧ SixL w (fun r => base ≤ r ∧ some r ≠ ov.ownBlock) ys cs
theorem RowsY.nil (base : Nat) (w : World) : RowsY base [] (.slice none 0 0) w := ⟨[], World.ownsRow_nil _ _ _ _, rfl, fun i hi => by simp at hi⟩
theorem RowsY.same {base : Nat} {ys : List V} {ov : Value} {w w' : World} (h : RowsY base ys ov w) (hs : ∀ b, base ≤ b → b < w.heap.size → w'.heap[b]? = w.heap[b]?) : RowsY base ys ov w' := by
  obtain ⟨cs, h1, h2, h3⟩ := h
  refine ⟨cs, ownsRow_same h1 (fun b hb => by have := h1.lt b hb.symm; exact hs b this.1 this.2), h2, fun i hi => ?_⟩
  obtain ⟨c0, c1, c2, c3, c4, c5, h6, hx⟩ := h3 i hi
  exact ⟨c0, c1, c2, c3, c4, c5, h6, RV.mono (S := fun r => (base ≤ r ∧ some r ≠ ov.ownBlock) ∧ r < w.heap.size) (fun b hb => hs b hb.1.1 hb.2) (fun b hb => hb.1) _ _ (RV.lt _ _ hx)⟩
theorem RowsY.grown {base L : Nat} {ys : List V} {ov : Value} {w w' : World} (h : RowsY base ys ov w) (hg : w.grownBy w' (some L)) (hL : L < base) : RowsY base ys ov w' :=
  h.same fun b hb hlt => hg.block b hlt (fun e => by cases e; omega)
theorem RowsY.snoc {base k : Nat} {ys : List V} {y : V} {ov ov' : Value} {wa w' : World} {cs : List Value} {o : Obj} {c0 c1 c2 c3 c4 c5 : Value} (hk : ys.length = k) (h6 : SixL wa (fun r => base ≤ r ∧ some r ≠ ov.ownBlock) ys cs)
    (hy : RV wa (fun r => base ≤ r ∧ some r ≠ ov.ownBlock) y (.agg #[c0, c1, c2, c3, c4, c5])) (ha : Appended (wa.alloc o) base 27 6 ov k (cs ++ [c0, c1, c2, c3, c4, c5]) ov' w') : RowsY base (ys ++ [y]) ov' w' := by
  subst hk
  have h := h6.app (SixL.one hy)
  refine ⟨_, by simpa using ha.owns, h.1, fun i hi => ?_⟩
  obtain ⟨d0, d1, d2, d3, d4, d5, k6, kx⟩ := h.2 i hi
  refine ⟨d0, d1, d2, d3, d4, d5, k6, ?_⟩
  refine RV.mono (S := fun r => (base ≤ r ∧ some r ≠ ov.ownBlock) ∧ r < wa.heap.size) (fun b hb => ?_) (fun b hb => ⟨hb.1.1, fun e => ?_⟩) _ _ (RV.lt _ _ kx)
  · exact (ha.grown.block b (by rw [World.size_alloc]; omega) hb.1.2).trans ((below_alloc wa o).block b hb.2)
  · rcases ha.wher with q | q
    · exact hb.1.2 (e.trans q)
    · rw [q, World.size_alloc] at e
      have := hb.2
      cases e
      omega
theorem RowsY.done {base : Nat} {ys : List V} {ov : Value} {w : World} (h : RowsY base ys ov w) : ∃ a c, ov = .slice a ys.length c ∧ RL w (fun r => base ≤ r) ys a := by
  obtain ⟨cs, h1, h2, h3⟩ := h
  rcases h1.2 with ⟨rfl, h0⟩ | ⟨g, cap, cur, rfl, hb, hgg, hn, hm, hsz, htake⟩
  · have : ys = [] := List.length_eq_zero_iff.1 h0
    subst this
    exact ⟨none, 0, rfl, by rw [RL]; trivial⟩
  · refine ⟨_, _, rfl, RL.of ys g 0 (fun _ => hb) fun i hi => ?_⟩
    obtain ⟨c0, c1, c2, c3, c4, c5, ⟨h60, h61, h62, h63, h64, h65⟩, hx⟩ := h3 i hi
    have hcell : ∀ j v, cs[j]? = some v → w.cell? ⟨g, j, none⟩ = some v := by
      intro j v hj
      refine cell_of hgg j ?_
      rw [← htake, List.getElem?_take] at hj
      split at hj
      · simpa using hj
      · cases hj
    refine ⟨c0, c1, c2, c3, c4, c5, ?_, RV.mono (fun _ _ => rfl) (fun b hb => hb.1) _ _ hx⟩
    rw [Nat.zero_add]
    exact ⟨hcell _ _ h60, hcell _ _ h61, hcell _ _ h62, hcell _ _ h63, hcell _ _ h64, hcell _ _ h65⟩
theorem byt_head {s : ByteArray} {A c : Nat} {l : List Nat} (h : (bytesN s).drop A = c :: l) : byt s A = c := by rw [← Nat.add_zero A, byt_drop, h]; rfl
/-- the byte that comes in a list's text -/
theorem restC_byte {s : ByteArray} {A i : Nat} {ls : List V} {R : List Nat} (h : (bytesN s).drop A = restC ls i ++ 93 :: R) (hi : i < ls.length) : ∃ c, byt s A = c ∧ blank c = false ∧ c ≠ 93 ∧ (0 < i → c = 44) := by
  rw [restC_at ls i hi] at h
  by_cases h0 : 0 < i
  · unfold comma at h
    rw [if_pos h0] at h
    exact ⟨44, byt_head h, rfl, by omega, fun _ => rfl⟩
  · unfold comma at h
    rw [if_neg h0] at h
    obtain ⟨c, t, e, hc⟩ := encJ_head ls[i]
    rw [e] at h
    have := headJ_ne hc
    exact ⟨c, byt_head h, this.1, this.2.1, fun q => absurd q h0⟩
theorem restC_nb {s : ByteArray} {A i : Nat} {ls : List V} {R : List Nat} (h : (bytesN s).drop A = restC ls i ++ 93 :: R) (hi : i ≤ ls.length) : blank (byt s A) = false := by
  by_cases hlt : i < ls.length
  · obtain ⟨c, e, hb, _⟩ := restC_byte h hlt
    rw [e]; exact hb
  · obtain rfl : i = ls.length := by omega
    rw [restC_end] at h
    rw [byt_head h]; rfl
theorem RowsY.lt {base : Nat} {ys : List V} {ov : Value} {w : World} (h : RowsY base ys ov w) : ∀ b, ov.ownBlock = some b → base ≤ b ∧ b < w.heap.size := by
  obtain ⟨cs, h1, _⟩ := h
  exact h1.lt
theorem app_other {wa w' : World} {base e size n : Nat} {v v' : Value} {xs zs : List Value} {o : Obj} (h : Appended (wa.alloc o) base e size v n xs v' w') (ho : wa.ownsRow base e size v n zs) (b : Nat) (hb : b < base) (hb2 : b < wa.heap.size) : w'.heap[b]? = wa.heap[b]? :=
  (h.grown.block b (by rw [World.size_alloc]; omega) (fun e => by have := ho.lt b e.symm; omega)).trans ((below_alloc wa o).block b hb2)
theorem app_gr {w wa w' : World} {L base e size n : Nat} {v v' : Value} {xs zs : List Value} {o : Obj} (hg : w.grownBy wa (some L)) (h : Appended (wa.alloc o) base e size v n xs v' w') (ho : wa.ownsRow base e size v n zs) (hb : w.heap.size ≤ base) : w.grownBy w' (some L) :=
  ⟨h.grown.os.trans hg.os, h.grown.tape.trans hg.tape, h.grown.output.trans hg.output, by have := h.grown.size; have := hg.size; rw [World.size_alloc] at *; omega, fun k hk hr => (app_other h ho k (by omega) (by have := hg.size; omega)).trans (hg.block k hk hr)⟩
def listV (ls : List V) : V := .mk 5 0 ⟨#[]⟩ ls [] []
theorem rv_list {base : Nat} {ys : List V} {w : World} {a : Option Addr} {k c : Nat} (h : RowsY base ys (.slice a k c) w) (hk : ys.length = k) : RV w (fun r => base ≤ r) (listV ys) (.agg #[.int .i64 5, .int .i64 0, .string ⟨#[]⟩, .slice a k c, .slice none 0 0, .slice none 0 0]) := by
  obtain ⟨a', c', e, hl⟩ := h.done
  cases e
  unfold listV
  rw [RV]
  exact ⟨_, _, none, 0, none, 0, rfl, hl, trivial, by rw [RL]; trivial⟩
def zero6o : Obj := .cells #[.int .i64 0, .int .i64 0, .string ⟨#[]⟩, .slice none 0 0, .slice none 0 0, .slice none 0 0] 27 (0, 0)
def LoopL (L : Nat) (s : ByteArray) (ls : List V) (n E : Nat) (R : List Nat) (w : World) (gh : Nat) (lv : Value) (wr : World) : Prop :=
  ∃ (ys : List V) (A' : Nat) (bad : Bool), RowsY (w.heap.size + 1) ys lv wr ∧ PB L s A' bad wr ∧ w.grownBy wr (some L) ∧ wr.heap[w.heap.size]? = some zero6o ∧ A' ≤ s.size + 1 ∧ ys.length ≤ n + 1 ∧ (bad = true → gh = 0) ∧
    (bad = false → ∃ i, i ≤ n ∧ ys = ls.take i ∧ gh = n - i + 1 ∧ (bytesN s).drop A' = restC ls i ++ 93 :: R ∧ A' + (restC ls i).length + 1 = E)
set_option maxHeartbeats 4000000 in
set_option maxRecDepth 100000 in
theorem plist_any (ls : List V) (IH : ∀ x ∈ ls, PW x) (n : Nat) (hn : ls.length = n) (hn2 : n ≤ 1000) (deep : Int) (hd0 : 0 ≤ deep) (hd1 : deep ≤ 100) {L : Nat} {s : ByteArray} {A : Nat} {R : List Nat} {w : World} (h : PB L s A false w) (hd : (bytesN s).drop A = 91 :: (restC ls 0 ++ 93 :: R)) (hs : s.size ≤ 70368744177664) :
    Calls Tryz.prog 96 #[.pointer (some ⟨L, 0, none⟩), .int .i64 deep] w (VEnd L s (A + 1 + (restC ls 0).length + 1) (listV ls) w) := by
  obtain ⟨i0, hi, hz0, hz1, hz2⟩ := info_parts infoValue
  have HI := Lib.hid (And.intro hi (And.intro hz0 (And.intro hz1 hz2)))
  clear hi hz0 hz1 hz2
  have HN := Lib.hid hn
  have HIH := Lib.hid IH
  have H := Lib.hid h
  have hL := h.lt
  have hsz := drop_size hd (by simp)
  have hb0 : byt s A = 91 := by rw [← Nat.add_zero A, byt_drop, hd]; rfl
  have hd' : (bytesN s).drop (A + 1) = restC ls 0 ++ 93 :: R := by rw [← List.drop_drop, hd]; rfl
  have HD := Lib.hid hd'
  have HB0 := Lib.hid hb0
  have hAs : A + 1 ≤ s.size := by rw [hsz]; simp
  obtain ⟨E, hE⟩ : ∃ E, A + 1 + (restC ls 0).length + 1 = E := ⟨_, rfl⟩
  have HE := Lib.hid hE
  rw [hE]
  clear hn IH h hd hb0 hd' hsz hE
  go_enter Tryz.func96, Tryz.ntmps96
  go_wp2_with fail
  generalize hW : World.alloc w _ = W
  have B1 := Lib.hid (hW ▸ below_alloc w _ : Below w.heap.size w W)
  have z := Lib.hid (hW ▸ block_new w _ _ : W.heap[w.heap.size]? = some zero6o)
  have hWs : W.heap.size = w.heap.size + 1 := by rw [← hW]; simp
  have HWS := Lib.hid hWs
  clear hW hWs
  refine (ptake_any 91 (by omega) (keep B1.out H.out : PB L s A false W) (by omega) (by omega)).mono ?_
  rintro e w1 ⟨rfl, A1, b1, h1, h2, h3, h4, h5, h6, h7⟩
  obtain rfl : b1 = false := h5 HB0.out rfl
  obtain ⟨_, rfl⟩ := h4 (by rw [HB0.out]; rfl) rfl
  have HG1 := Lib.hid (gr_trans (gr_below B1.out) h7)
  have HP1 := Lib.hid h6
  have z1 := Lib.hid ((h7.block _ (heap_lt z.out) (fun e => by have := Option.some.inj e; omega)).trans z.out)
  clear h1 h2 h3 h4 h5 h6 h7 z
  go_wp2_with fail
  refine (pskip_any HP1.out (by omega) (by omega)).mono ?_
  rintro e w2 ⟨rfl, A2, h1, h2, h3, h4, h5⟩
  obtain rfl : A2 = A + 1 := h3 (restC_nb HD.out (Nat.zero_le _))
  have HG2 := Lib.hid (gr_trans HG1.out h5)
  have HP2 := Lib.hid h4
  have z2 := Lib.hid ((h5.block _ (heap_lt z1.out) (fun e => by have := Option.some.inj e; omega)).trans z1.out)
  clear h1 h2 h3 h4 h5 z1 HP1 HG1
  go_wp2_with fail
  go_loopg [5] (n + 1) (fun gh lv wr => LoopL L s ls n E R w gh lv wr)
  case atStart => exact ⟨[], A + 1, false, RowsY.nil _ _, HP2.out, HG2.out, z2.out, by omega, by simp, fun q => (by cases q), fun _ => ⟨0, Nat.zero_le _, rfl, by omega, HD.out, HE.out⟩⟩
  case round =>
    obtain ⟨ys, A', bad, hr, hp, hg, hz, hA', hyl, hgb, hgood⟩ := hrel
    have HP := Lib.hid hp
    have HG := Lib.hid hg
    have HZ := Lib.hid hz
    have c1 := hp.cells
    have HR := Lib.hid hr
    clear hp hg hz
    cases bad
    · obtain ⟨i, hi, hys, rfl, hd, he⟩ := hgood rfl
      have HDR := Lib.hid hd
      have HEE := Lib.hid he
      clear hgood hgb hd he
      obtain ⟨cs, hown, h6⟩ := hr
      obtain ⟨a1, c1', rfl⟩ := ownsRow_slice hown
      have hyi : ys.length = i := by rw [hys, List.length_take, HN.out]; omega
      rw [hyi] at hown HR
      rw [hyi]
      have HYI := Lib.hid hyi
      have HYS := Lib.hid hys
      have HOWN := Lib.hid hown
      have HSIX := Lib.hid h6
      clear hyi hys hown h6
      by_cases hlt : i < n
      · have hlt' : i < ls.length := by rw [HN.out]; exact hlt
        obtain ⟨c, hc, hcb, hc93, hc44⟩ := restC_byte HDR.out hlt'
        have HC := Lib.hid hc
        have HIX := Lib.hid (HIH.out ls[i] (List.getElem_mem hlt'))
        have hval : (bytesN s).drop (A' + (comma i).length) = encJ ls[i] ++ (restC ls (i + 1) ++ 93 :: R) := by
          rw [← List.drop_drop, HDR.out, restC_at ls i hlt', List.append_assoc, List.drop_left, List.append_assoc]
        have hlen : A' + (comma i).length + (encJ ls[i]).length + (restC ls (i + 1)).length + 1 = E := by
          have q := HEE.out
          rw [restC_at ls i hlt', List.length_append, List.length_append] at q
          omega
        obtain ⟨X, hX⟩ : ∃ X, ls[i] = X := ⟨_, rfl⟩
        have HX := Lib.hid hX
        rw [hX] at HIX hval hlen
        have HNX : Hid (∀ W, PB L s A' false W → Calls Tryz.prog 94 #[.pointer (some ⟨L, 0, none⟩)] W (RetQ (.int .u8 (c : Int)) W)) := Lib.hid (fun W hW => by have := pnext_any hW; rw [hc] at this; exact this)
        have q93 : ((c : Int) != 93) = true := by simp; omega
        by_cases h0 : 0 < i
        · obtain rfl : c = 44 := hc44 h0
          have hval2 : (bytesN s).drop (A' + 1) = encJ X ++ (restC ls (i + 1) ++ 93 :: R) := by have := hval; unfold comma at this; rw [if_pos h0] at this; exact this
          have HDV := Lib.hid hval2
          have HLEN : Hid (A' + 1 + (encJ X).length + (restC ls (i + 1)).length + 1 = E) := Lib.hid (by have := hlen; unfold comma at this; rw [if_pos h0] at this; exact this)
          have h0' : (0 : Int) < (i : Int) := by omega
          clear hval hlen hval2 hX hc hc44 hcb
          go_wp2_with fail
          refine Calls.mono (HNX.out _ ?_) ?_
          focus exact HP.out
          rintro e _ ⟨rfl, m1, rfl⟩
          go_wp2_with fail
          refine Calls.mono (ptake_any (A := A') (bad := false) 44 (by omega) ?_ (by omega) hA') ?_
          focus exact HP.out
          rintro e w3 ⟨rfl, A3, b3, h1, h2, h3, h4, h5, h6, h7⟩
          obtain rfl : b3 = false := h5 HC.out rfl
          obtain ⟨_, rfl⟩ := h4 (by rw [HC.out]; rfl) rfl
          have HG3 := Lib.hid (gr_trans HG.out (gr_dn _ h7))
          have HP3 := Lib.hid h6
          have HZ3 := Lib.hid (((gr_dn _ h7).block _ (heap_lt HZ.out) (fun e => by have := Option.some.inj e; omega)).trans HZ.out)
          have HR3 := Lib.hid (HR.out.grown (gr_dn _ h7) (by omega))
          clear h1 h2 h3 h4 h5 h6 h7
          go_wp2_with fail
          (refine Calls.mono (HIX.out (deep + 1) L s (A' + 1) (restC ls (i + 1) ++ 93 :: R) _ (by omega) (by omega) ?_ HDV.out (restC_head ls i R) hs) ?_
           focus exact HP3.out
           rintro e w5 ⟨v, y, A5, b5, rfl, h1, h2, h3, h4, h5⟩
           obtain ⟨la, lc, ka, kc, va, vc, t1, m1', tx, q1, q2, q3, rfl, HXV⟩ := RV.parts h4
           have HG5 := Lib.hid (gr_trans HG3.out h2)
           have HP5 := Lib.hid h1
           have HZ5 := Lib.hid ((h2.block _ (heap_lt HZ3.out) (fun e => by have := Option.some.inj e; omega)).trans HZ3.out)
           have HS5 := h2.size
           have HR5 := HR3.out.grown h2 (by omega)
           have HOLD := Lib.hid (HR3.out)
           have HGOOD := Lib.hid h5
           have hA5 := h3
           obtain ⟨cs5, hown5, hsix5⟩ := HR5
           have hown5' := hown5
           rw [HYI.out] at hown5'
           have HOW5 := Lib.hid hown5'
           have HOWY := Lib.hid hown5
           have HSX5 := Lib.hid hsix5
           have hbase : w.heap.size + 1 ≤ w5.heap.size := by have := heap_lt HZ5.out; omega
           have hwv := heap_lt HZ3.out
           have HYV := Lib.hid (RV.mono (T := fun r => w.heap.size + 1 ≤ r ∧ some r ≠ (Value.slice a1 i c1').ownBlock) (fun _ _ => rfl) (fun b hb => by
             have hb' : (w3).heap.size ≤ b := hb
             exact ⟨by omega, fun e => by
               have h2 : b < (w3).heap.size := (HOLD.out.lt b e.symm).2
               omega⟩) _ _ HXV.out)
           clear h1 h2 h3 h4 h5 hown5 hown5' hsix5 c1
           go_wp2_with (at_builtin; refine wpList_append_one _ rfl _ _ 22 rfl (w.heap.size + 1) 27 i0 _ 6 104 Tryz.underlying22 HI.out.1 HI.out.2.1 HI.out.2.2.1 HI.out.2.2.2 rfl (by decide) _ _ _ rfl (HOW5.out.alloc _) ⟨w5.heap.size, 0, none⟩ 1 (six t1 m1' tx la q1 lc ka q2 kc va q3 vc) rfl rfl (cell_new w5 _ _) (six_one _ _ _ _ _ _ _ _ _ _ _ _) (by unfold maxLen; omega) (by omega) (by simp; omega) ?_; intro v' w6 hap
                        have HR6 := Lib.hid (RowsY.snoc HYI.out HSX5.out HYV.out hap)
                        have HP6 := Lib.hid ((app_other hap HOW5.out L (by omega) HP5.out.lt).trans HP5.out : PB L s A5 b5 w6)
                        have HG6 := Lib.hid (app_gr HG5.out hap HOW5.out (Nat.le_succ _))
                        have HZ6 := Lib.hid ((app_other hap HOW5.out w.heap.size (Nat.lt_succ_self _) (heap_lt HZ5.out)).trans HZ5.out)
                        obtain ⟨vg, vcap, rfl⟩ := hap.made
                        clear hap)
           refine (pskip_any HP6.out (by omega) (by omega)).mono ?_
           rintro e w7 ⟨rfl, A7, k1, k2, k3, k4, k5⟩
           have HR7 := Lib.hid (HR6.out.grown k5 (by omega))
           have HP7 := Lib.hid k4
           have HG7 := Lib.hid (gr_trans HG6.out k5)
           have HZ7 := Lib.hid ((k5.block _ (heap_lt HZ6.out) (fun e => by have := Option.some.inj e; omega)).trans HZ6.out)
           have hylen : (ys ++ [y]).length ≤ n + 1 := by rw [List.length_append, HYI.out]; simp; omega
           cases b5
           · obtain ⟨hy, hAE⟩ := HGOOD.out rfl
             have hdr : (bytesN s).drop A5 = restC ls (i + 1) ++ 93 :: R := by rw [hAE, ← List.drop_drop, HDV.out, List.drop_left]
             obtain rfl : A7 = A5 := k3 (restC_nb hdr (by rw [HN.out]; exact hlt))
             have HDR7 := Lib.hid hdr
             have HE7 : Hid (A7 + (restC ls (i + 1)).length + 1 = E) := Lib.hid (by rw [hAE]; exact HLEN.out)
             have HY7 : Hid (ys ++ [y] = ls.take (i + 1)) := Lib.hid (by rw [hy, HYS.out, List.take_succ_eq_append_getElem hlt', HX.out])
             clear hy hAE hdr k1 k2 k3 k4 k5
             go_wp2_with fail
             go_roundg (n - (i + 1) + 1)
             case rel => exact ⟨ys ++ [y], A7, false, HR7.out, HP7.out, HG7.out, HZ7.out, by omega, hylen, fun q => (by cases q), fun _ => ⟨i + 1, hlt, HY7.out, rfl, HDR7.out, HE7.out⟩⟩
             case measure => omega
           · clear k1 k3 k4 k5
             go_wp2_with fail
             go_roundg 0
             case rel => exact ⟨ys ++ [y], A7, true, HR7.out, HP7.out, HG7.out, HZ7.out, by omega, hylen, fun _ => rfl, fun q => (by cases q)⟩
             case measure => omega)
        · have hval2 : (bytesN s).drop A' = encJ X ++ (restC ls (i + 1) ++ 93 :: R) := by have := hval; unfold comma at this; rw [if_neg h0] at this; exact this
          have HDV := Lib.hid hval2
          have HLEN : Hid (A' + (encJ X).length + (restC ls (i + 1)).length + 1 = E) := Lib.hid (by have := hlen; unfold comma at this; rw [if_neg h0] at this; exact this)
          have h0' : ¬ (0 : Int) < (i : Int) := by omega
          clear hval hlen hval2 hX hc hc44 hcb
          go_wp2_with fail
          refine Calls.mono (HNX.out _ ?_) ?_
          focus exact HP.out
          rintro e _ ⟨rfl, m1, rfl⟩
          go_wp2_with fail
          (refine Calls.mono (HIX.out (deep + 1) L s A' (restC ls (i + 1) ++ 93 :: R) _ (by omega) (by omega) ?_ HDV.out (restC_head ls i R) hs) ?_
           focus exact HP.out
           rintro e w5 ⟨v, y, A5, b5, rfl, h1, h2, h3, h4, h5⟩
           obtain ⟨la, lc, ka, kc, va, vc, t1, m1', tx, q1, q2, q3, rfl, HXV⟩ := RV.parts h4
           have HG5 := Lib.hid (gr_trans (gr_dn3 m1 HG.out) h2)
           have HP5 := Lib.hid h1
           have HZ5 := Lib.hid ((h2.block _ (heap_lt HZ.out) (fun e => by have := Option.some.inj e; omega)).trans HZ.out)
           have HS5 := h2.size
           have HR5 := (HR.out.same (w' := wr.drewN m1) (fun _ _ _ => rfl)).grown h2 (by omega)
           have HOLD := Lib.hid ((HR.out.same (w' := wr.drewN m1) (fun _ _ _ => rfl)))
           have HGOOD := Lib.hid h5
           have hA5 := h3
           obtain ⟨cs5, hown5, hsix5⟩ := HR5
           have hown5' := hown5
           rw [HYI.out] at hown5'
           have HOW5 := Lib.hid hown5'
           have HOWY := Lib.hid hown5
           have HSX5 := Lib.hid hsix5
           have hbase : w.heap.size + 1 ≤ w5.heap.size := by have := heap_lt HZ5.out; omega
           have hwv := heap_lt HZ.out
           have HYV := Lib.hid (RV.mono (T := fun r => w.heap.size + 1 ≤ r ∧ some r ≠ (Value.slice a1 i c1').ownBlock) (fun _ _ => rfl) (fun b hb => by
             have hb' : (wr).heap.size ≤ b := hb
             exact ⟨by omega, fun e => by
               have h2 : b < (wr).heap.size := (HOLD.out.lt b e.symm).2
               omega⟩) _ _ HXV.out)
           clear h1 h2 h3 h4 h5 hown5 hown5' hsix5 c1
           go_wp2_with (at_builtin; refine wpList_append_one _ rfl _ _ 22 rfl (w.heap.size + 1) 27 i0 _ 6 104 Tryz.underlying22 HI.out.1 HI.out.2.1 HI.out.2.2.1 HI.out.2.2.2 rfl (by decide) _ _ _ rfl (HOW5.out.alloc _) ⟨w5.heap.size, 0, none⟩ 1 (six t1 m1' tx la q1 lc ka q2 kc va q3 vc) rfl rfl (cell_new w5 _ _) (six_one _ _ _ _ _ _ _ _ _ _ _ _) (by unfold maxLen; omega) (by omega) (by simp; omega) ?_; intro v' w6 hap
                        have HR6 := Lib.hid (RowsY.snoc HYI.out HSX5.out HYV.out hap)
                        have HP6 := Lib.hid ((app_other hap HOW5.out L (by omega) HP5.out.lt).trans HP5.out : PB L s A5 b5 w6)
                        have HG6 := Lib.hid (app_gr HG5.out hap HOW5.out (Nat.le_succ _))
                        have HZ6 := Lib.hid ((app_other hap HOW5.out w.heap.size (Nat.lt_succ_self _) (heap_lt HZ5.out)).trans HZ5.out)
                        obtain ⟨vg, vcap, rfl⟩ := hap.made
                        clear hap)
           refine (pskip_any HP6.out (by omega) (by omega)).mono ?_
           rintro e w7 ⟨rfl, A7, k1, k2, k3, k4, k5⟩
           have HR7 := Lib.hid (HR6.out.grown k5 (by omega))
           have HP7 := Lib.hid k4
           have HG7 := Lib.hid (gr_trans HG6.out k5)
           have HZ7 := Lib.hid ((k5.block _ (heap_lt HZ6.out) (fun e => by have := Option.some.inj e; omega)).trans HZ6.out)
           have hylen : (ys ++ [y]).length ≤ n + 1 := by rw [List.length_append, HYI.out]; simp; omega
           cases b5
           · obtain ⟨hy, hAE⟩ := HGOOD.out rfl
             have hdr : (bytesN s).drop A5 = restC ls (i + 1) ++ 93 :: R := by rw [hAE, ← List.drop_drop, HDV.out, List.drop_left]
             obtain rfl : A7 = A5 := k3 (restC_nb hdr (by rw [HN.out]; exact hlt))
             have HDR7 := Lib.hid hdr
             have HE7 : Hid (A7 + (restC ls (i + 1)).length + 1 = E) := Lib.hid (by rw [hAE]; exact HLEN.out)
             have HY7 : Hid (ys ++ [y] = ls.take (i + 1)) := Lib.hid (by rw [hy, HYS.out, List.take_succ_eq_append_getElem hlt', HX.out])
             clear hy hAE hdr k1 k2 k3 k4 k5
             go_wp2_with fail
             go_roundg (n - (i + 1) + 1)
             case rel => exact ⟨ys ++ [y], A7, false, HR7.out, HP7.out, HG7.out, HZ7.out, by omega, hylen, fun q => (by cases q), fun _ => ⟨i + 1, hlt, HY7.out, rfl, HDR7.out, HE7.out⟩⟩
             case measure => omega
           · clear k1 k3 k4 k5
             go_wp2_with fail
             go_roundg 0
             case rel => exact ⟨ys ++ [y], A7, true, HR7.out, HP7.out, HG7.out, HZ7.out, by omega, hylen, fun _ => rfl, fun q => (by cases q)⟩
             case measure => omega)
      · obtain rfl : i = n := by omega
        have hb : byt s A' = 93 := by
          have q := HDR.out
          rw [← HN.out, restC_end] at q
          exact byt_head q
        have he : A' + 1 = E := by
          have q := HEE.out
          rw [← HN.out, restC_end] at q
          exact q
        have HB := Lib.hid hb
        have HE2 := Lib.hid he
        have HNX : Hid (∀ W, PB L s A' false W → Calls Tryz.prog 94 #[.pointer (some ⟨L, 0, none⟩)] W (RetQ (.int .u8 (93 : Int)) W)) := Lib.hid (fun W hW => by have := pnext_any hW; rw [hb] at this; exact this)
        clear hb he
        go_wp2_with fail
        refine Calls.mono (HNX.out _ ?_) ?_
        focus exact HP.out
        rintro e _ ⟨rfl, m1, rfl⟩
        go_wp2_with fail
        refine Calls.mono (ptake_any (A := A') (bad := false) 93 (by omega) ?_ (by omega) hA') ?_
        focus exact HP.out
        rintro e w3 ⟨rfl, A3, b3, h1, h2, h3, h4, h5, h6, h7⟩
        obtain rfl : b3 = false := h5 HB.out rfl
        obtain ⟨_, rfl⟩ := h4 (by rw [HB.out]; rfl) rfl
        have HG3 := Lib.hid (gr_trans HG.out (gr_dn _ h7))
        have HP3 := Lib.hid h6
        have hA3 : A' + 1 ≤ s.size + 1 := by have := byt_lt (s := s) (A := A') (by rw [HB.out]; omega); omega
        have HZ3 := Lib.hid (((gr_dn _ h7).block _ (heap_lt HZ.out) (fun e => by have := Option.some.inj e; omega)).trans HZ.out)
        have HR3 := Lib.hid (HR.out.grown (gr_dn _ h7) (by omega))
        clear h1 h2 h3 h4 h5 h6 h7 c1
        go_wp2_with fail
        refine (pArray_any _ _ _ _).mono ?_
        rintro e w4 ⟨rfl, hb4⟩
        have HG4 := Lib.hid (gr_trans HG3.out (gr_below hb4))
        have HP4 := Lib.hid (keep hb4 HP3.out : PB L s (A' + 1) false w4)
        have HZ4 := Lib.hid (keep hb4 HZ3.out)
        have HR4 := Lib.hid (HR3.out.same (fun b _ hlt => hb4.block b hlt))
        clear hb4
        have d1 := cells6 HZ4.out
        go_wp2_with fail
        clear d1
        (generalize hWF : (((((World.setCell _ _ _).setCell _ _).setCell _ _).setCell _ _).setCell _ _).setCell _ _ = WF
         have HV := fin_v (X := w4) (E := E) (x := (listV ls)) hL (by omega) HP4.out HG4.out (rv_list HR4.out HYI.out) (fun _ => ⟨by rw [HYS.out, ← HN.out, List.take_length], HE2.out⟩) hWF
         obtain ⟨z0, z1, z2, z3, z4, z5⟩ := fin_z (X := w4) HZ4.out hWF
         clear hWF
         exact bodyPost_ret (v := (.agg #[.int .i64 5, .int .i64 0, .string ⟨#[]⟩, .slice a1 i c1', .slice none 0 0, .slice none 0 0])) (by simp [results, Tryz.results96, go_sem, z0, z1, z2, z3, z4, z5]) rfl HV)
    · clear hgood hgb
      obtain ⟨cs, hown, h6⟩ := hr
      obtain ⟨a1, c1', rfl⟩ := ownsRow_slice hown
      obtain ⟨k, hk⟩ : ∃ k, ys.length = k := ⟨_, rfl⟩
      rw [hk] at HR hyl ⊢
      have HK := Lib.hid hk
      clear hk hown h6
      go_wp2_with fail
      refine Calls.mono (ptake_any (A := A') (bad := true) 93 (by omega) ?_ (by omega) hA') ?_
      focus exact HP.out
      rintro e w3 ⟨rfl, A3, b3, h1, h2, h3, h4, h5, h6, h7⟩
      have hb3 : b3 = true := by
        cases b3
        · have := h3 rfl
          cases this
        · rfl
      have HG3 := Lib.hid (gr_trans HG.out h7)
      have HP3 := Lib.hid h6
      have hA3 : A3 ≤ s.size + 1 := by omega
      have HZ3 := Lib.hid ((h7.block _ (heap_lt HZ.out) (fun e => by have := Option.some.inj e; omega)).trans HZ.out)
      have HR3 := Lib.hid (HR.out.grown h7 (by omega))
      clear h1 h2 h3 h4 h5 h6 h7 c1
      go_wp2_with fail
      refine (pArray_any _ _ _ _).mono ?_
      rintro e w4 ⟨rfl, hb4⟩
      have HG4 := Lib.hid (gr_trans HG3.out (gr_below hb4))
      have HP4 := Lib.hid (keep hb4 HP3.out : PB L s A3 b3 w4)
      have HZ4 := Lib.hid (keep hb4 HZ3.out)
      have HR4 := Lib.hid (HR3.out.same (fun b _ hlt => hb4.block b hlt))
      clear hb4
      have d1 := cells6 HZ4.out
      go_wp2_with fail
      clear d1
      (generalize hWF : (((((World.setCell _ _ _).setCell _ _).setCell _ _).setCell _ _).setCell _ _).setCell _ _ = WF
       have HV := fin_v (X := w4) (E := E) (x := (listV ls)) hL (by omega) HP4.out HG4.out (rv_list HR4.out HK.out) (fun q => by rw [hb3] at q; cases q) hWF
       obtain ⟨z0, z1, z2, z3, z4, z5⟩ := fin_z (X := w4) HZ4.out hWF
       clear hWF
       exact bodyPost_ret (v := (.agg #[.int .i64 5, .int .i64 0, .string ⟨#[]⟩, .slice a1 k c1', .slice none 0 0, .slice none 0 0])) (by simp [results, Tryz.results96, go_sem, z0, z1, z2, z3, z4, z5]) rfl HV)
end Go.Proofs.YtgjmgneppecfgaaGreatDoor.Pa
