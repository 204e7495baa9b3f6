/-
  THE WALK of decimal.up.
-/
import Derived.Test.YtgjmgneppecfgaaGreatDoorQMaQ
set_option linter.unusedVariables false
set_option linter.unusedSimpArgs false
namespace Go.Proofs.YtgjmgneppecfgaaGreatDoor.Ma
open Go.RowKit Go.Proofs.YtgjmgneppecfgaaGreatDoor.Va Go.Proofs.YtgjmgneppecfgaaGreatDoor.Ba
set_option linter.unusedVariables false
set_option linter.unusedSimpArgs false


def AtRow (base b : Nat) (v : Value) (d : List Nat) (dp : Int) (W : World) : Prop := W.heap[b]? = some (.cells #[v, .int .i64 dp] 267 (0, 0)) ∧ W.ownsRow base 5 1 v d.length (cellsD d) ∧ v.ownBlock ≠ some b
theorem dec_made2 {w W : World} {base b : Nat} {v : Value} {d : List Nat} {dp : Int} {c0 c1 : Value} (hB : Below w.heap.size w W) (hb : w.heap.size ≤ b) (hz : W.heap[b]? = some (.cells #[c0, c1] 267 (0, 0))) (ho : W.ownsRow base 5 1 v d.length (cellsD d)) (hne : v.ownBlock ≠ some b) :
    AtRow base b v d dp ((W.setCell ⟨b, 0, none⟩ v).setCell ⟨b, 1, none⟩ (.int .i64 dp)) ∧ Below w.heap.size w ((W.setCell ⟨b, 0, none⟩ v).setCell ⟨b, 1, none⟩ (.int .i64 dp)) := by
  refine ⟨⟨?_, ?_, hne⟩, (hB.setCell hb _).setCell hb _⟩
  · have h1 := set_block (w := W) (b := b) hz 0 v
    have h2 := set_block (w := W.setCell ⟨b, 0, none⟩ v) (b := b) h1 1 (.int .i64 dp)
    exact h2
  · refine owns_other (w := W) ho fun g hg => ?_
    have hgb : g ≠ b := fun e => hne (by rw [hg, e])
    rw [set_other _ _ hgb, set_other _ _ hgb]
/-- the last digit is one more -/
theorem AtRow.bump {base b g cap i x : Nat} {d : List Nat} {dp : Int} {W : World} (h : AtRow base b (.slice (some ⟨g, 0, none⟩) (i + 1) cap) (d.take i ++ [x]) dp W) (hi : (d.take i).length = i) :
    W.cell? ⟨g, i, none⟩ = some (.int .u8 (x : Int)) ∧ W.frozen? ⟨g, i, none⟩ = false ∧ IsDec base b (d.take i ++ [x + 1]) dp (W.setCell ⟨g, i, none⟩ (.int .u8 ((x : Int) + 1))) ∧ base ≤ g := by
  obtain ⟨h1, h2, h3⟩ := h
  have hl : (d.take i ++ [x]).length = i + 1 := by rw [List.length_append, hi]; rfl
  rw [hl] at h2
  have hcl : (cellsD (d.take i)).length = i := by unfold cellsD; rw [List.length_map, hi]
  have e : cellsD (d.take i ++ [x]) = cellsD (d.take i) ++ [.int .u8 (x : Int)] := by simp [cellsD]
  have hgb : g ≠ b := fun e => h3 (by simp [Value.ownBlock, e])
  refine ⟨?_, h2.frozenAt i, ⟨.slice (some ⟨g, 0, none⟩) (i + 1) cap, ?_, ?_, h3⟩, (h2.lt g rfl).1⟩
  · have := h2.cells (g := g) rfl i (.int .u8 (x : Int)) (by rw [e, List.getElem?_append_right (by omega), hcl]; simp)
    rw [show (⟨g, 0, none⟩ : Addr).add i = ⟨g, i, none⟩ by unfold Addr.add; split <;> simp_all] at this
    exact this
  · rw [set_other _ _ (Ne.symm hgb)]; exact h1
  · have := h2.stored i (.int .u8 ((x : Int) + 1))
    have hl2 : (d.take i ++ [x + 1]).length = i + 1 := by rw [List.length_append, hi]; rfl
    rw [hl2]
    have e2 : cellsD (d.take i ++ [x + 1]) = (cellsD (d.take i ++ [x])).set i (.int .u8 ((x : Int) + 1)) := by
      rw [e, List.set_append_right _ _ (by omega), hcl]
      simp [cellsD]
    rw [e2]
    exact this.1
def LoopU2 (d : List Nat) (n : Nat) (w : World) (iv : Value) (wr : World) : Prop := ∃ m : Nat, iv = .int .i64 ((m : Int) - 1) ∧ w = wr ∧ m ≤ n ∧ upL d n = upL d m ∧ upE d n = upE d m
set_option maxHeartbeats 4000000 in
set_option maxRecDepth 100000 in
theorem up_any (base b n : Nat) (d : List Nat) (dp : Int) (hn : n < d.length) (hd9 : ∀ x ∈ d, x < 10) (hd2 : d.length ≤ 100) (hdp0 : -1000 ≤ dp) (hdp1 : dp ≤ 1000) (w : World) (h : IsDec base b d dp w) :
    Calls Tryz.prog 284 #[.pointer (some ⟨b, 0, none⟩), .int .i64 (n : Int)] w (NewD (upL d n) (dp + upE d n) w) := by
  obtain ⟨i8, z8, hi0, hi1, hi2, hi3, hi4⟩ := info8g
  have HI0 := Lib.hid hi0
  have HI1 := Lib.hid hi1
  have HI2 := Lib.hid hi2
  have HI3 := Lib.hid hi3
  have HI4 := Lib.hid hi4
  clear hi0 hi1 hi2 hi3 hi4
  obtain ⟨v, h1, h2, h3⟩ := h
  obtain ⟨a, cap, rfl, _, hdg⟩ := owns_digs h2
  obtain ⟨g, rfl, hbg, hg, hcap, hmax, hcell⟩ : ∃ g, a = some ⟨g, 0, none⟩ ∧ base ≤ g ∧ g < w.heap.size ∧ d.length ≤ cap ∧ cap ≤ maxLen ∧ ∀ i, i < d.length → w.cell? ⟨g, i, none⟩ = some (.int .u8 ((d.getD i 0 : Nat) : Int)) := by
    rcases hdg with e | e
    · rw [e] at hn; simp at hn
    · exact e
  obtain ⟨l, hl⟩ : ∃ l, d.length = l := ⟨_, rfl⟩
  have HL := Lib.hid hl
  rw [hl] at h1 hn hcap hd2
  have c := cells2 h1
  have hbw := heap_lt h1
  have HC : Hid (∀ W : World, Below w.heap.size w W → W.cell? ⟨b, 0, none⟩ = some (.slice (some ⟨g, 0, none⟩) l cap) ∧ W.cell? ⟨b, 1, none⟩ = some (.int .i64 dp)) := Lib.hid (fun W hW => ⟨(hW.cell (p := ⟨b, 0, none⟩) hbw).trans c.1.1, (hW.cell (p := ⟨b, 1, none⟩) hbw).trans c.1.2⟩)
  have HCELL := Lib.hid hcell
  have HD9 := Lib.hid hd9
  clear hcell h1 h2 h3 hl hd9 hdg
  unfold maxLen at hmax
  go_enter Tryz.func284, Tryz.ntmps284
  go_wp2_with fail
  go_loopw [5] (LoopU2 d n w) (fun iv _ => (intOf iv + 1).toNat)
  case atStart => exact ⟨n, rfl, rfl, Nat.le_refl _, rfl, rfl⟩
  case round =>
    obtain ⟨m, rfl, rfl, hm, hul, hue⟩ := hrel
    have HUL := Lib.hid hul
    have HUE := Lib.hid hue
    clear hul hue
    rcases Nat.eq_zero_or_pos m with rfl | hm0
    · have hz : ((0 : Nat) : Int) - 1 = -1 := rfl
      rw [hz]
      go_wp2_with fail
      go_returns
      refine ⟨w.heap.size + 1, rfl, by omega, ?_, (((Below.refl _ _).alloc (Nat.le_refl _) _).alloc (by rw [World.size_alloc]; omega) _)⟩
      rw [HUL.out, HUE.out]
      have q2 := block_new (w.alloc (.cells #[.int .u8 1] 5)) #[.slice (some ⟨w.heap.size, 0, none⟩) 1 1, .int .i64 (dp + 1)] 267
      rw [World.size_alloc] at q2
      refine ⟨.slice (some ⟨w.heap.size, 0, none⟩) 1 1, q2, ⟨rfl, .inr ⟨w.heap.size, 1, #[.int .u8 1], rfl, Nat.le_refl _, block_past (block_new w _ _) _, Nat.le_refl _, by decide, rfl, rfl⟩⟩, by simp [Value.ownBlock]⟩
    obtain ⟨i, rfl⟩ : ∃ i, m = i + 1 := ⟨m - 1, by omega⟩
    have hz : ((i + 1 : Nat) : Int) - 1 = (i : Int) := by omega
    rw [hz]
    have hx := HCELL.out i (by rw [HL.out]; omega)
    have hx9 := getD_all HD9.out i
    obtain ⟨x, hx0⟩ : ∃ x, d.getD i 0 = x := ⟨_, rfl⟩
    have HX := Lib.hid hx0
    rw [hx0] at hx hx9
    clear hx0 hz
    by_cases h9 : x < 9
    · have HRES : Hid (upL d n = d.take i ++ [x + 1] ∧ upE d n = 0) := Lib.hid (by rw [HUL.out, HUE.out, upL, upE, HX.out, if_pos h9, if_pos h9]; exact ⟨rfl, rfl⟩)
      have HD : Hid (∀ W : World, Below w.heap.size w W → ∀ j u, (cellsD (d.take (i + 1)))[j]? = some u → W.cell? ((⟨g, 0, none⟩ : Addr).add j) = some u) := Lib.hid (fun W hW j u hj => by
        have hll := HL.out
        have hjn : j < i + 1 := by
          have := (List.getElem?_eq_some_iff.1 hj).1
          unfold cellsD at this
          rw [List.length_map, List.length_take] at this
          omega
        have e : u = .int .u8 ((d.getD j 0 : Nat) : Int) := by
          unfold cellsD at hj
          rw [List.getElem?_map, List.getElem?_take, if_pos hjn, List.getElem?_eq_getElem (by omega)] at hj
          rw [List.getD, List.getElem?_eq_getElem (show j < d.length by omega)]
          simpa using hj.symm
        rw [e]
        refine Eq.trans ?_ (HCELL.out j (by omega))
        have : (⟨g, 0, none⟩ : Addr).add j = ⟨g, j, none⟩ := by unfold Addr.add; split <;> simp_all
        rw [this]
        exact hW.cell (p := ⟨g, j, none⟩) hg)
      have HONE : Hid (∀ u ∈ cellsD (d.take (i + 1)), u.oneCell' = true) := Lib.hid (fun u hu => by
        unfold cellsD at hu
        obtain ⟨x, _, rfl⟩ := List.mem_map.1 hu
        rfl)
      have hnc : i + 1 ≤ cap := by omega
      have HTL : Hid ((cellsD (d.take (i + 1))).length = i + 1) := Lib.hid (by have := HL.out; unfold cellsD; rw [List.length_map, List.length_take]; omega)
      have HTL2 : Hid ((d.take (i + 1)).length = i + 1) := Lib.hid (by have := HL.out; rw [List.length_take]; omega)
      have HTK : Hid (d.take (i + 1) = d.take i ++ [x] ∧ (d.take i).length = i) := Lib.hid (by
        have hll := HL.out
        refine ⟨?_, by rw [List.length_take]; omega⟩
        rw [List.take_succ_eq_append_getElem (by omega), ← HX.out]
        simp [List.getD, List.getElem?_eq_getElem (show i < d.length by omega)])
      have w1 : IntKind.i64.wrap ((i : Int) + 1) = (i : Int) + 1 := by rw [IntKind.wrap_i64]; omega
      have w2 : 0 ≤ (i : Int) + 1 := by omega
      have w3 : ((i : Int) + 1).toNat = i + 1 := by omega
      have w4 : (i : Int) + 1 ≤ (cap : Int) := by omega
      go_upto_region 7 with fail
      refine wp_region_D (Below w.heap.size w) [15] (by kernel_rfl) ?_
      generalize hWd : World.drew w = W3
      have hS3 : Below w.heap.size w W3 := hWd ▸ (Below.refl _ _).drew
      clear hWd
      (refine wpAnyD_take (i := 1) (v := ?_) [2, 3, 4, 7, 8, 13, 15] [15] rfl (by kernel_rfl) (by kernel_rfl) (by kernel_rfl) (fun _ _ _ h => h) (by kernel_rfl) (by kernel_rfl) (by kernel_rfl) (Or.inl ⟨?_, ?_⟩) hS3 ?_
       rotate_left
       focus rfl
       focus (intro w' hw'; have hw1 := HC.out w' hw'; clear hw'; go_simp; with_reducible rfl)
       try go_simp)
      (refine wpAnyD_take (i := 2) (v := ?_) [3, 4, 7, 8, 13, 15] [15] rfl (by kernel_rfl) (by kernel_rfl) (by kernel_rfl) (fun _ _ _ h => h) (by kernel_rfl) (by kernel_rfl) (by kernel_rfl) (Or.inl ⟨?_, ?_⟩) hS3 ?_
       rotate_left
       focus rfl
       focus (intro w' hw'; have hw1 := HC.out w' hw'; clear hw'; go_simp; with_reducible rfl)
       try go_simp)
      (refine wpAnyD_take (i := 3) (v := ?_) [4, 7, 8, 13, 15] [15] rfl (by kernel_rfl) (by kernel_rfl) (by kernel_rfl) (fun _ _ _ h => h) (by kernel_rfl) (by kernel_rfl) (by kernel_rfl) (Or.inl ⟨?_, ?_⟩) hS3 ?_
       rotate_left
       focus rfl
       focus (intro w' hw'; have hw1 := HC.out w' hw'; clear hw'; go_simp; with_reducible rfl)
       try go_simp)
      (refine wpAnyD_take (i := 4) (v := ?_) [7, 8, 13, 15] [15] rfl (by kernel_rfl) (by kernel_rfl) (by kernel_rfl) (fun _ _ _ h => h) (by kernel_rfl) (by kernel_rfl) (by kernel_rfl) (Or.inl ⟨?_, ?_⟩) hS3 ?_
       rotate_left
       focus rfl
       focus (intro w' hw'; have hw1 := HC.out w' hw'; clear hw'; go_simp; with_reducible rfl)
       try go_simp)
      (refine wpAnyD_take (i := 5) (v := ?_) [6, 7, 8, 13, 15] [15] rfl (by kernel_rfl) (by kernel_rfl) (by kernel_rfl) (fun _ _ _ h => h) (by kernel_rfl) (by kernel_rfl) (by kernel_rfl) (Or.inl ⟨?_, ?_⟩) hS3 ?_
       rotate_left
       focus rfl
       focus (intro w' hw'; have hw1 := HC.out w' hw'; clear hw'; go_simp; with_reducible rfl)
       try go_simp)
      (refine wpAnyD_take (i := 6) (v := ?_) [7, 8, 13, 15] [15] rfl (by kernel_rfl) (by kernel_rfl) (by kernel_rfl) (fun _ _ _ h => h) (by kernel_rfl) (by kernel_rfl) (by kernel_rfl) (Or.inl ⟨?_, ?_⟩) hS3 ?_
       rotate_left
       focus rfl
       focus (intro w' hw'; have hw1 := HC.out w' hw'; clear hw'; go_simp; with_reducible rfl)
       try go_simp)
      (refine wpAnyD_take (i := 7) (v := ?_) [8, 13, 15] [15] rfl (by kernel_rfl) (by kernel_rfl) (by kernel_rfl) (fun _ _ _ h => h) (by kernel_rfl) (by kernel_rfl) (by kernel_rfl) (Or.inl ⟨?_, ?_⟩) hS3 ?_
       rotate_left
       focus rfl
       focus (intro w' hw'; have hw1 := HC.out w' hw'; clear hw'; go_simp; with_reducible rfl)
       try go_simp)
      (refine wpAnyD_take (i := 9) (v := ?_) [10, 11, 12, 13, 15] [15] rfl (by kernel_rfl) (by kernel_rfl) (by kernel_rfl) (fun _ _ _ h => h) (by kernel_rfl) (by kernel_rfl) (by kernel_rfl) (Or.inl ⟨?_, ?_⟩) hS3 ?_
       rotate_left
       focus rfl
       focus (intro w' hw'; have hw1 := HC.out w' hw'; clear hw'; go_simp; with_reducible rfl)
       try go_simp)
      (refine wpAnyD_take (i := 10) (v := ?_) [11, 12, 13, 15] [15] rfl (by kernel_rfl) (by kernel_rfl) (by kernel_rfl) (fun _ _ _ h => h) (by kernel_rfl) (by kernel_rfl) (by kernel_rfl) (Or.inl ⟨?_, ?_⟩) hS3 ?_
       rotate_left
       focus rfl
       focus (intro w' hw'; have hw1 := HC.out w' hw'; clear hw'; go_simp; with_reducible rfl)
       try go_simp)
      (refine wpAnyD_take (i := 11) (v := ?_) [12, 13, 15] [15] rfl (by kernel_rfl) (by kernel_rfl) (by kernel_rfl) (fun _ _ _ h => h) (by kernel_rfl) (by kernel_rfl) (by kernel_rfl) (Or.inl ⟨?_, ?_⟩) hS3 ?_
       rotate_left
       focus rfl
       focus (intro w' hw'; have hw1 := HC.out w' hw'; clear hw'; go_simp; with_reducible rfl)
       try go_simp)
      (refine wpAnyD_take (i := 12) (v := ?_) [13, 15] [15] rfl (by kernel_rfl) (by kernel_rfl) (by kernel_rfl) (fun _ _ _ h => h) (by kernel_rfl) (by kernel_rfl) (by kernel_rfl) (Or.inl ⟨?_, ?_⟩) hS3 ?_
       rotate_left
       focus rfl
       focus (intro w' hw'; have hw1 := HC.out w' hw'; clear hw'; go_simp; with_reducible rfl)
       try go_simp)
      have HB3 := Lib.hid hS3
      have hg3 : w.heap.size ≤ W3.heap.size := HB3.out.size
      clear hS3
      refine wpAnyD_ready (rs := [0, 14]) (by kernel_rfl) (by simp) ?_
      refine AllReadyD.cons rfl (fun K hK => ?_) (AllReadyD.cons rfl (fun K hK => ?_) AllReadyD.nil)
      · go_simp
        refine hK.out _ _ (fun _ => HB3.out.alloc hg3 _) ?_
        clear hK K
        try go_simp
        generalize hW4 : World.alloc W3 _ = W4
        have E4 := Lib.hid (hW4 ▸ block_new W3 _ _ : W4.heap[W3.heap.size]? = some (.cells #[] 5 (0, 0)))
        have B4 := Lib.hid (hW4 ▸ HB3.out.alloc hg3 _ : Below w.heap.size w W4)
        have Z4 : W4.heap.size = W3.heap.size + 1 := by rw [← hW4, World.size_alloc]
        have HZ4 := Lib.hid Z4
        clear hW4 Z4
        refine wpAnyD_ready (rs := [8, 14]) (by kernel_rfl) (by simp) ?_
        refine AllReadyD.cons rfl (fun K hK => ?_) (AllReadyD.cons rfl (fun K hK => ?_) AllReadyD.nil)
        · refine step_append_fresh rfl _ _ 73 rfl w.heap.size 5 i8 z8 Tryz.underlying73 HI0.out HI1.out HI2.out HI3.out HI4.out W3.heap.size rfl E4.out hg3 ⟨g, 0, none⟩ (i + 1) _ (cellsD (d.take (i + 1))) rfl HTL.out (HD.out _ B4.out) HONE.out (by omega) ?_
          intro v' W5 hf
          have hB5 : Below w.heap.size w W5 := Below.grown B4.out hf.grown B4.out.size (fun j hj => by cases hj; exact hg3)
          refine hK.out _ _ (fun _ => hB5) ?_
          clear hK K
          obtain ⟨vg, vcap, rfl⟩ := hf.made
          have HF := Lib.hid hf
          clear hf
          try go_simp
          (refine wpAnyD_take (i := 13) (v := ?_) [15] [15] rfl (by kernel_rfl) (by kernel_rfl) (by kernel_rfl) (fun _ _ _ h => h) (by kernel_rfl) (by kernel_rfl) (by kernel_rfl) (Or.inl ⟨?_, ?_⟩) hB5 ?_
           rotate_left
           focus rfl
           focus (intro w' hw'; have hw1 := HC.out w' hw'; clear hw'; go_simp; with_reducible rfl)
           try go_simp)
          have B5 := Lib.hid hB5
          clear hB5
          refine wpAnyD_ready (rs := [14]) (by kernel_rfl) (by simp) ?_
          refine AllReadyD.cons rfl (fun K hK => ?_) AllReadyD.nil
          go_simp
          refine hK.out _ _ (fun _ => B5.out.alloc B5.out.size _) ?_
          clear hK K
          try go_simp
          generalize hW6 : World.alloc W5 _ = W6
          have D6 := Lib.hid (hW6 ▸ block_new W5 _ _ : W6.heap[W5.heap.size]? = some (.cells #[.slice none 0 0, .int .i64 0] 267 (0, 0)))
          have B6 := Lib.hid (hW6 ▸ B5.out.alloc B5.out.size _ : Below w.heap.size w W6)
          have HFIN := Lib.hid (dec_made2 (d := d.take (i + 1)) (dp := dp) B6.out B5.out.size D6.out (by rw [HTL2.out, ← hW6]; exact HF.out.owns.alloc _) (fun e => by have := (HF.out.owns.lt W5.heap.size e).2; omega))
          clear hW6
          have c6 := cells2 D6.out
          have hbd := B5.out.size
          refine wpAnyD_ready (rs := [15]) (by kernel_rfl) (by simp) ?_
          refine AllReadyD.cons rfl (fun K hK => ?_) AllReadyD.nil
          go_simp
          refine hK.out _ _ (fun h => absurd h (by decide)) ?_
          clear hK K
          try go_simp
          refine wpAnyD_done (by kernel_rfl) ?_ _
          generalize hbdd : W5.heap.size = bd at HFIN hbd ⊢
          generalize World.setCell _ _ _ = W7 at HFIN ⊢
          clear hbdd HF B5 B4 E4 HZ4 D6 B6 c6
          obtain ⟨hat, hbel⟩ := HFIN.out
          rw [HTK.out.1] at hat
          have c7 := cells2 hat.1
          obtain ⟨k1, k2, k3, k4⟩ := hat.bump HTK.out.2
          have HEND : Hid (NewD (upL d n) (dp + upE d n) w (.returned (.pointer (some ⟨bd, 0, none⟩))) (W7.setCell ⟨vg, i, none⟩ (.int .u8 ((x : Int) + 1)))) := Lib.hid ⟨bd, rfl, hbd, by rw [HRES.out.1, HRES.out.2, Int.add_zero]; exact k3, hbel.setCell k4 _⟩
          clear hat hbel k3 k4
          go_wp2_with fail
          go_returns
          exact HEND.out
        · go_simp
          refine hK.out _ _ (fun _ => B4.out.alloc B4.out.size _) ?_
          clear hK K
          try go_simp
          generalize hW5 : World.alloc W4 _ = W5
          have E5 := Lib.hid (hW5 ▸ block_past E4.out _ : W5.heap[W3.heap.size]? = some (.cells #[] 5 (0, 0)))
          have D5 := Lib.hid (hW5 ▸ block_new W4 _ _ : W5.heap[W4.heap.size]? = some (.cells #[.slice none 0 0, .int .i64 0] 267 (0, 0)))
          have B5 := Lib.hid (hW5 ▸ B4.out.alloc B4.out.size _ : Below w.heap.size w W5)
          clear hW5
          refine wpAnyD_ready (rs := [8]) (by kernel_rfl) (by simp) ?_
          refine AllReadyD.cons rfl (fun K hK => ?_) AllReadyD.nil
          refine step_append_fresh rfl _ _ 73 rfl w.heap.size 5 i8 z8 Tryz.underlying73 HI0.out HI1.out HI2.out HI3.out HI4.out W3.heap.size rfl E5.out hg3 ⟨g, 0, none⟩ (i + 1) _ (cellsD (d.take (i + 1))) rfl HTL.out (HD.out _ B5.out) HONE.out (by omega) ?_
          intro v' W6 hf
          have hB6 : Below w.heap.size w W6 := Below.grown B5.out hf.grown B5.out.size (fun j hj => by cases hj; exact hg3)
          refine hK.out _ _ (fun _ => hB6) ?_
          clear hK K
          obtain ⟨vg, vcap, rfl⟩ := hf.made
          have HF := Lib.hid hf
          clear hf
          try go_simp
          (refine wpAnyD_take (i := 13) (v := ?_) [15] [15] rfl (by kernel_rfl) (by kernel_rfl) (by kernel_rfl) (fun _ _ _ h => h) (by kernel_rfl) (by kernel_rfl) (by kernel_rfl) (Or.inl ⟨?_, ?_⟩) hB6 ?_
           rotate_left
           focus rfl
           focus (intro w' hw'; have hw1 := HC.out w' hw'; clear hw'; go_simp; with_reducible rfl)
           try go_simp)
          have B6 := Lib.hid hB6
          clear hB6
          have hbd := B4.out.size
          have hne6 : W4.heap.size ≠ W3.heap.size := by have := HZ4.out; omega
          have D6 := Lib.hid ((HF.out.grown.block W4.heap.size (heap_lt D5.out) (fun e => hne6 (Option.some.inj e))).trans D5.out)
          have c6 := cells2 D6.out
          have HFIN := Lib.hid (dec_made2 (d := d.take (i + 1)) (dp := dp) B6.out hbd D6.out (by rw [HTL2.out]; exact HF.out.owns) (fun e => by
            have := heap_lt D5.out
            rcases HF.out.wher with q | q
            · rw [q] at e; exact hne6 (Option.some.inj e).symm
            · rw [q] at e; have := Option.some.inj e; omega))
          refine wpAnyD_ready (rs := [15]) (by kernel_rfl) (by simp) ?_
          refine AllReadyD.cons rfl (fun K hK => ?_) AllReadyD.nil
          go_simp
          refine hK.out _ _ (fun h => absurd h (by decide)) ?_
          clear hK K
          try go_simp
          refine wpAnyD_done (by kernel_rfl) ?_ _
          generalize hbdd : W4.heap.size = bd at HFIN hbd ⊢
          generalize World.setCell _ _ _ = W7 at HFIN ⊢
          clear hbdd HF B6 B5 B4 E5 E4 D5 HZ4 D6 c6 hne6
          obtain ⟨hat, hbel⟩ := HFIN.out
          rw [HTK.out.1] at hat
          have c7 := cells2 hat.1
          obtain ⟨k1, k2, k3, k4⟩ := hat.bump HTK.out.2
          have HEND : Hid (NewD (upL d n) (dp + upE d n) w (.returned (.pointer (some ⟨bd, 0, none⟩))) (W7.setCell ⟨vg, i, none⟩ (.int .u8 ((x : Int) + 1)))) := Lib.hid ⟨bd, rfl, hbd, by rw [HRES.out.1, HRES.out.2, Int.add_zero]; exact k3, hbel.setCell k4 _⟩
          clear hat hbel k3 k4
          go_wp2_with fail
          go_returns
          exact HEND.out
      · go_simp
        refine hK.out _ _ (fun _ => HB3.out.alloc hg3 _) ?_
        clear hK K
        try go_simp
        generalize hW4 : World.alloc W3 _ = W4
        have D4 := Lib.hid (hW4 ▸ block_new W3 _ _ : W4.heap[W3.heap.size]? = some (.cells #[.slice none 0 0, .int .i64 0] 267 (0, 0)))
        have B4 := Lib.hid (hW4 ▸ HB3.out.alloc hg3 _ : Below w.heap.size w W4)
        have hne6 : W3.heap.size ≠ W4.heap.size := by rw [← hW4, World.size_alloc]; omega
        have hg4 := B4.out.size
        clear hW4
        refine wpAnyD_ready (rs := [0]) (by kernel_rfl) (by simp) ?_
        refine AllReadyD.cons rfl (fun K hK => ?_) AllReadyD.nil
        · go_simp
          refine hK.out _ _ (fun _ => B4.out.alloc B4.out.size _) ?_
          clear hK K
          try go_simp
          generalize hW5 : World.alloc W4 _ = W5
          have D5 := Lib.hid (hW5 ▸ block_past D4.out _ : W5.heap[W3.heap.size]? = some (.cells #[.slice none 0 0, .int .i64 0] 267 (0, 0)))
          have E5 := Lib.hid (hW5 ▸ block_new W4 _ _ : W5.heap[W4.heap.size]? = some (.cells #[] 5 (0, 0)))
          have B5 := Lib.hid (hW5 ▸ B4.out.alloc B4.out.size _ : Below w.heap.size w W5)
          clear hW5
          refine wpAnyD_ready (rs := [8]) (by kernel_rfl) (by simp) ?_
          refine AllReadyD.cons rfl (fun K hK => ?_) AllReadyD.nil
          refine step_append_fresh rfl _ _ 73 rfl w.heap.size 5 i8 z8 Tryz.underlying73 HI0.out HI1.out HI2.out HI3.out HI4.out W4.heap.size rfl E5.out hg4 ⟨g, 0, none⟩ (i + 1) _ (cellsD (d.take (i + 1))) rfl HTL.out (HD.out _ B5.out) HONE.out (by omega) ?_
          intro v' W6 hf
          have hB6 : Below w.heap.size w W6 := Below.grown B5.out hf.grown B5.out.size (fun j hj => by cases hj; exact hg4)
          refine hK.out _ _ (fun _ => hB6) ?_
          clear hK K
          obtain ⟨vg, vcap, rfl⟩ := hf.made
          have HF := Lib.hid hf
          clear hf
          try go_simp
          (refine wpAnyD_take (i := 13) (v := ?_) [15] [15] rfl (by kernel_rfl) (by kernel_rfl) (by kernel_rfl) (fun _ _ _ h => h) (by kernel_rfl) (by kernel_rfl) (by kernel_rfl) (Or.inl ⟨?_, ?_⟩) hB6 ?_
           rotate_left
           focus rfl
           focus (intro w' hw'; have hw1 := HC.out w' hw'; clear hw'; go_simp; with_reducible rfl)
           try go_simp)
          have B6 := Lib.hid hB6
          clear hB6
          have hbd := HB3.out.size
          have D6 := Lib.hid ((HF.out.grown.block W3.heap.size (heap_lt D5.out) (fun e => hne6 (Option.some.inj e))).trans D5.out)
          have c6 := cells2 D6.out
          have HFIN := Lib.hid (dec_made2 (d := d.take (i + 1)) (dp := dp) B6.out hbd D6.out (by rw [HTL2.out]; exact HF.out.owns) (fun e => by
            have := heap_lt D5.out
            rcases HF.out.wher with q | q
            · rw [q] at e; exact hne6 (Option.some.inj e).symm
            · rw [q] at e; have := Option.some.inj e; omega))
          refine wpAnyD_ready (rs := [15]) (by kernel_rfl) (by simp) ?_
          refine AllReadyD.cons rfl (fun K hK => ?_) AllReadyD.nil
          go_simp
          refine hK.out _ _ (fun h => absurd h (by decide)) ?_
          clear hK K
          try go_simp
          refine wpAnyD_done (by kernel_rfl) ?_ _
          generalize hbdd : W3.heap.size = bd at HFIN hbd ⊢
          generalize World.setCell _ _ _ = W7 at HFIN ⊢
          clear hbdd HF B6 B5 B4 E5 D4 D5 D6 c6 hne6 hg4
          obtain ⟨hat, hbel⟩ := HFIN.out
          rw [HTK.out.1] at hat
          have c7 := cells2 hat.1
          obtain ⟨k1, k2, k3, k4⟩ := hat.bump HTK.out.2
          have HEND : Hid (NewD (upL d n) (dp + upE d n) w (.returned (.pointer (some ⟨bd, 0, none⟩))) (W7.setCell ⟨vg, i, none⟩ (.int .u8 ((x : Int) + 1)))) := Lib.hid ⟨bd, rfl, hbd, by rw [HRES.out.1, HRES.out.2, Int.add_zero]; exact k3, hbel.setCell k4 _⟩
          clear hat hbel k3 k4
          go_wp2_with fail
          go_returns
          exact HEND.out
    · have hx9' : x = 9 := by omega
      subst hx9'
      go_wp2_with fail
      go_roundw
      case rel => exact ⟨i, rfl, rfl, by omega, by rw [HUL.out, upL, HX.out, if_neg (by decide)], by rw [HUE.out, upE, HX.out, if_neg (by decide)]⟩
      case measure => simp [intOf]
end Go.Proofs.YtgjmgneppecfgaaGreatDoor.Ma
