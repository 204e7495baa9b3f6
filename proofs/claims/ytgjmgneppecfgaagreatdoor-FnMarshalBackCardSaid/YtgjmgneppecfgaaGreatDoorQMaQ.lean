/-
  THE WALK of decimal.down.
-/
import Derived.Test.YtgjmgneppecfgaaGreatDoorQ12
set_option linter.unusedVariables false
set_option linter.unusedSimpArgs false
namespace Go.Proofs.YtgjmgneppecfgaaGreatDoor.Ma
open Go.RowKit Go.Proofs.YtgjmgneppecfgaaGreatDoor.Va Go.Proofs.YtgjmgneppecfgaaGreatDoor.Ba
set_option linter.unusedVariables false
set_option linter.unusedSimpArgs false


/-- what down and up return: a new decimal -/
def NewD (d : List Nat) (dp : Int) (w : World) (e : Ending) (w' : World) : Prop := ∃ b, e = .returned (.pointer (some ⟨b, 0, none⟩)) ∧ w.heap.size ≤ b ∧ IsDec w.heap.size b d dp w' ∧ Below w.heap.size w w'
set_option maxHeartbeats 2000000 in
set_option maxRecDepth 100000 in
theorem down_any (base b n : Nat) (d : List Nat) (dp : Int) (hn : n < d.length) (hd9 : ∀ x ∈ d, x < 10) (hd2 : d.length ≤ 100) (w : World) (h : IsDec base b d dp w) :
    Calls Tryz.prog 283 #[.pointer (some ⟨b, 0, none⟩), .int .i64 (n : Int)] w (NewD (stripZ (d.take n)) (trimP (d.take n) dp) w) := by
  obtain ⟨i8, z8, hi0, hi1, hi2, hi3, hi4⟩ := info8g
  have HI0 := Lib.hid hi0
  have HI1 := Lib.hid hi1
  have HI2 := Lib.hid hi2
  have HI3 := Lib.hid hi3
  have HI4 := Lib.hid hi4
  clear hi0 hi1 hi2 hi3 hi4
  obtain ⟨v, h1, h2, h3⟩ := h
  obtain ⟨a, cap, rfl, _, hdg⟩ := owns_digs h2
  obtain ⟨g, rfl, hbg, hg, hcap, hmax, hcell⟩ : ∃ g, a = some ⟨g, 0, none⟩ ∧ base ≤ g ∧ g < w.heap.size ∧ d.length ≤ cap ∧ cap ≤ maxLen ∧ ∀ i, i < d.length → w.cell? ⟨g, i, none⟩ = some (.int .u8 ((d.getD i 0 : Nat) : Int)) := by
    rcases hdg with e | e
    · rw [e] at hn; simp at hn
    · exact e
  obtain ⟨l, hl⟩ : ∃ l, d.length = l := ⟨_, rfl⟩
  have HL := Lib.hid hl
  rw [hl] at h1 hn hcap hd2
  have c := cells2 h1
  have hbw := heap_lt h1
  have HC : Hid (∀ W : World, Below w.heap.size w W → W.cell? ⟨b, 0, none⟩ = some (.slice (some ⟨g, 0, none⟩) l cap) ∧ W.cell? ⟨b, 1, none⟩ = some (.int .i64 dp)) := Lib.hid (fun W hW => ⟨(hW.cell (p := ⟨b, 0, none⟩) hbw).trans c.1.1, (hW.cell (p := ⟨b, 1, none⟩) hbw).trans c.1.2⟩)
  have HD : Hid (∀ W : World, Below w.heap.size w W → ∀ j u, (cellsD (d.take n))[j]? = some u → W.cell? ((⟨g, 0, none⟩ : Addr).add j) = some u) := Lib.hid (fun W hW j u hj => by
    have hjn : j < n := by
      have := (List.getElem?_eq_some_iff.1 hj).1
      unfold cellsD at this
      rw [List.length_map, List.length_take] at this
      omega
    have e : u = .int .u8 ((d.getD j 0 : Nat) : Int) := by
      unfold cellsD at hj
      rw [List.getElem?_map, List.getElem?_take, if_pos hjn, List.getElem?_eq_getElem (by omega)] at hj
      rw [List.getD, List.getElem?_eq_getElem (show j < d.length by omega)]
      simpa using hj.symm
    rw [e]
    refine Eq.trans ?_ (hcell j (by omega))
    have : (⟨g, 0, none⟩ : Addr).add j = ⟨g, j, none⟩ := by unfold Addr.add; split <;> simp_all
    rw [this]
    exact hW.cell (p := ⟨g, j, none⟩) hg)
  have HONE : Hid (∀ u ∈ cellsD (d.take n), u.oneCell' = true) := Lib.hid (fun u hu => by
    unfold cellsD at hu
    obtain ⟨x, _, rfl⟩ := List.mem_map.1 hu
    rfl)
  have hnc : n ≤ cap := by omega
  have HTL : Hid ((cellsD (d.take n)).length = n) := Lib.hid (by unfold cellsD; rw [List.length_map, List.length_take]; omega)
  have HTL2 : Hid ((d.take n).length = n) := Lib.hid (by rw [List.length_take]; omega)
  clear hcell h1 h2 h3 hl hd9 hdg
  unfold maxLen at hmax
  go_enter Tryz.func283, Tryz.ntmps283
  go_upto_region 3 with fail
  refine wp_region_D (Below w.heap.size w) [15] (by kernel_rfl) ?_
  generalize hWd : World.drew w = W3
  have hS3 : Below w.heap.size w W3 := hWd ▸ (Below.refl _ _).drew
  clear hWd
  (refine wpAnyD_take (i := 1) (v := ?_) [2, 3, 4, 7, 8, 13, 15] [15] rfl (by kernel_rfl) (by kernel_rfl) (by kernel_rfl) (fun _ _ _ h => h) (by kernel_rfl) (by kernel_rfl) (by kernel_rfl) (Or.inl ⟨?_, ?_⟩) hS3 ?_
   rotate_left
   focus rfl
   focus (intro w' hw'; have hw1 := HC.out w' hw'; clear hw'; go_simp; with_reducible rfl)
   try go_simp)
  (refine wpAnyD_take (i := 2) (v := ?_) [3, 4, 7, 8, 13, 15] [15] rfl (by kernel_rfl) (by kernel_rfl) (by kernel_rfl) (fun _ _ _ h => h) (by kernel_rfl) (by kernel_rfl) (by kernel_rfl) (Or.inl ⟨?_, ?_⟩) hS3 ?_
   rotate_left
   focus rfl
   focus (intro w' hw'; have hw1 := HC.out w' hw'; clear hw'; go_simp; with_reducible rfl)
   try go_simp)
  (refine wpAnyD_take (i := 3) (v := ?_) [4, 7, 8, 13, 15] [15] rfl (by kernel_rfl) (by kernel_rfl) (by kernel_rfl) (fun _ _ _ h => h) (by kernel_rfl) (by kernel_rfl) (by kernel_rfl) (Or.inl ⟨?_, ?_⟩) hS3 ?_
   rotate_left
   focus rfl
   focus (intro w' hw'; have hw1 := HC.out w' hw'; clear hw'; go_simp; with_reducible rfl)
   try go_simp)
  (refine wpAnyD_take (i := 4) (v := ?_) [7, 8, 13, 15] [15] rfl (by kernel_rfl) (by kernel_rfl) (by kernel_rfl) (fun _ _ _ h => h) (by kernel_rfl) (by kernel_rfl) (by kernel_rfl) (Or.inl ⟨?_, ?_⟩) hS3 ?_
   rotate_left
   focus rfl
   focus (intro w' hw'; have hw1 := HC.out w' hw'; clear hw'; go_simp; with_reducible rfl)
   try go_simp)
  (refine wpAnyD_take (i := 5) (v := ?_) [6, 7, 8, 13, 15] [15] rfl (by kernel_rfl) (by kernel_rfl) (by kernel_rfl) (fun _ _ _ h => h) (by kernel_rfl) (by kernel_rfl) (by kernel_rfl) (Or.inl ⟨?_, ?_⟩) hS3 ?_
   rotate_left
   focus rfl
   focus (intro w' hw'; have hw1 := HC.out w' hw'; clear hw'; go_simp; with_reducible rfl)
   try go_simp)
  (refine wpAnyD_take (i := 6) (v := ?_) [7, 8, 13, 15] [15] rfl (by kernel_rfl) (by kernel_rfl) (by kernel_rfl) (fun _ _ _ h => h) (by kernel_rfl) (by kernel_rfl) (by kernel_rfl) (Or.inl ⟨?_, ?_⟩) hS3 ?_
   rotate_left
   focus rfl
   focus (intro w' hw'; have hw1 := HC.out w' hw'; clear hw'; go_simp; with_reducible rfl)
   try go_simp)
  (refine wpAnyD_take (i := 7) (v := ?_) [8, 13, 15] [15] rfl (by kernel_rfl) (by kernel_rfl) (by kernel_rfl) (fun _ _ _ h => h) (by kernel_rfl) (by kernel_rfl) (by kernel_rfl) (Or.inl ⟨?_, ?_⟩) hS3 ?_
   rotate_left
   focus rfl
   focus (intro w' hw'; have hw1 := HC.out w' hw'; clear hw'; go_simp; with_reducible rfl)
   try go_simp)
  (refine wpAnyD_take (i := 9) (v := ?_) [10, 11, 12, 13, 15] [15] rfl (by kernel_rfl) (by kernel_rfl) (by kernel_rfl) (fun _ _ _ h => h) (by kernel_rfl) (by kernel_rfl) (by kernel_rfl) (Or.inl ⟨?_, ?_⟩) hS3 ?_
   rotate_left
   focus rfl
   focus (intro w' hw'; have hw1 := HC.out w' hw'; clear hw'; go_simp; with_reducible rfl)
   try go_simp)
  (refine wpAnyD_take (i := 10) (v := ?_) [11, 12, 13, 15] [15] rfl (by kernel_rfl) (by kernel_rfl) (by kernel_rfl) (fun _ _ _ h => h) (by kernel_rfl) (by kernel_rfl) (by kernel_rfl) (Or.inl ⟨?_, ?_⟩) hS3 ?_
   rotate_left
   focus rfl
   focus (intro w' hw'; have hw1 := HC.out w' hw'; clear hw'; go_simp; with_reducible rfl)
   try go_simp)
  (refine wpAnyD_take (i := 11) (v := ?_) [12, 13, 15] [15] rfl (by kernel_rfl) (by kernel_rfl) (by kernel_rfl) (fun _ _ _ h => h) (by kernel_rfl) (by kernel_rfl) (by kernel_rfl) (Or.inl ⟨?_, ?_⟩) hS3 ?_
   rotate_left
   focus rfl
   focus (intro w' hw'; have hw1 := HC.out w' hw'; clear hw'; go_simp; with_reducible rfl)
   try go_simp)
  (refine wpAnyD_take (i := 12) (v := ?_) [13, 15] [15] rfl (by kernel_rfl) (by kernel_rfl) (by kernel_rfl) (fun _ _ _ h => h) (by kernel_rfl) (by kernel_rfl) (by kernel_rfl) (Or.inl ⟨?_, ?_⟩) hS3 ?_
   rotate_left
   focus rfl
   focus (intro w' hw'; have hw1 := HC.out w' hw'; clear hw'; go_simp; with_reducible rfl)
   try go_simp)
  have HB3 := Lib.hid hS3
  have hg3 : w.heap.size ≤ W3.heap.size := HB3.out.size
  clear hS3
  refine wpAnyD_ready (rs := [0, 14]) (by kernel_rfl) (by simp) ?_
  refine AllReadyD.cons rfl (fun K hK => ?_) (AllReadyD.cons rfl (fun K hK => ?_) AllReadyD.nil)
  · go_simp
    refine hK.out _ _ (fun _ => HB3.out.alloc hg3 _) ?_
    clear hK K
    try go_simp
    generalize hW4 : World.alloc W3 _ = W4
    have E4 := Lib.hid (hW4 ▸ block_new W3 _ _ : W4.heap[W3.heap.size]? = some (.cells #[] 5 (0, 0)))
    have B4 := Lib.hid (hW4 ▸ HB3.out.alloc hg3 _ : Below w.heap.size w W4)
    have Z4 : W4.heap.size = W3.heap.size + 1 := by rw [← hW4, World.size_alloc]
    have HZ4 := Lib.hid Z4
    clear hW4 Z4
    refine wpAnyD_ready (rs := [8, 14]) (by kernel_rfl) (by simp) ?_
    refine AllReadyD.cons rfl (fun K hK => ?_) (AllReadyD.cons rfl (fun K hK => ?_) AllReadyD.nil)
    · refine step_append_fresh rfl _ _ 73 rfl w.heap.size 5 i8 z8 Tryz.underlying73 HI0.out HI1.out HI2.out HI3.out HI4.out W3.heap.size rfl E4.out hg3 ⟨g, 0, none⟩ n _ (cellsD (d.take n)) rfl HTL.out (HD.out _ B4.out) HONE.out (by omega) ?_
      intro v' W5 hf
      have hB5 : Below w.heap.size w W5 := Below.grown B4.out hf.grown B4.out.size (fun j hj => by cases hj; exact hg3)
      refine hK.out _ _ (fun _ => hB5) ?_
      clear hK K
      obtain ⟨vg, vcap, rfl⟩ := hf.made
      have HF := Lib.hid hf
      clear hf
      try go_simp
      (refine wpAnyD_take (i := 13) (v := ?_) [15] [15] rfl (by kernel_rfl) (by kernel_rfl) (by kernel_rfl) (fun _ _ _ h => h) (by kernel_rfl) (by kernel_rfl) (by kernel_rfl) (Or.inl ⟨?_, ?_⟩) hB5 ?_
       rotate_left
       focus rfl
       focus (intro w' hw'; have hw1 := HC.out w' hw'; clear hw'; go_simp; with_reducible rfl)
       try go_simp)
      have B5 := Lib.hid hB5
      clear hB5
      refine wpAnyD_ready (rs := [14]) (by kernel_rfl) (by simp) ?_
      refine AllReadyD.cons rfl (fun K hK => ?_) AllReadyD.nil
      go_simp
      refine hK.out _ _ (fun _ => B5.out.alloc B5.out.size _) ?_
      clear hK K
      try go_simp
      generalize hW6 : World.alloc W5 _ = W6
      have D6 := Lib.hid (hW6 ▸ block_new W5 _ _ : W6.heap[W5.heap.size]? = some (.cells #[.slice none 0 0, .int .i64 0] 267 (0, 0)))
      have B6 := Lib.hid (hW6 ▸ B5.out.alloc B5.out.size _ : Below w.heap.size w W6)
      have HFIN := Lib.hid (dec_made (d := d.take n) (dp := dp) B6.out B5.out.size D6.out (by rw [HTL2.out, ← hW6]; exact HF.out.owns.alloc _) (fun e => by have := (HF.out.owns.lt W5.heap.size e).2; omega))
      clear hW6
      have c6 := cells2 D6.out
      have hbd := B5.out.size
      refine wpAnyD_ready (rs := [15]) (by kernel_rfl) (by simp) ?_
      refine AllReadyD.cons rfl (fun K hK => ?_) AllReadyD.nil
      go_simp
      refine hK.out _ _ (fun h => absurd h (by decide)) ?_
      clear hK K
      try go_simp
      refine wpAnyD_done (by kernel_rfl) ?_ _
      generalize hbdd : W5.heap.size = bd at HFIN hbd ⊢
      generalize World.setCell _ _ _ = W7 at HFIN ⊢
      clear hbdd HF B5 B4 E4 HZ4 D6 B6 c6
      go_wp2_with fail
      refine (trim_any w.heap.size bd (d.take n) dp (by rw [HTL2.out]; omega) W7 HFIN.out.1).mono ?_
      rintro e w8 ⟨rfl, hd8, hg8⟩
      have HEND : Hid (NewD (stripZ (d.take n)) (trimP (d.take n) dp) w (.returned (.pointer (some ⟨bd, 0, none⟩))) w8) := Lib.hid ⟨bd, rfl, hbd, hd8, Below.grown HFIN.out.2 hg8 HFIN.out.2.size (fun j hj => by cases hj; exact hbd)⟩
      clear hd8 hg8
      go_wp2_with fail
      go_returns
      exact HEND.out
    · go_simp
      refine hK.out _ _ (fun _ => B4.out.alloc B4.out.size _) ?_
      clear hK K
      try go_simp
      generalize hW5 : World.alloc W4 _ = W5
      have E5 := Lib.hid (hW5 ▸ block_past E4.out _ : W5.heap[W3.heap.size]? = some (.cells #[] 5 (0, 0)))
      have D5 := Lib.hid (hW5 ▸ block_new W4 _ _ : W5.heap[W4.heap.size]? = some (.cells #[.slice none 0 0, .int .i64 0] 267 (0, 0)))
      have B5 := Lib.hid (hW5 ▸ B4.out.alloc B4.out.size _ : Below w.heap.size w W5)
      clear hW5
      refine wpAnyD_ready (rs := [8]) (by kernel_rfl) (by simp) ?_
      refine AllReadyD.cons rfl (fun K hK => ?_) AllReadyD.nil
      refine step_append_fresh rfl _ _ 73 rfl w.heap.size 5 i8 z8 Tryz.underlying73 HI0.out HI1.out HI2.out HI3.out HI4.out W3.heap.size rfl E5.out hg3 ⟨g, 0, none⟩ n _ (cellsD (d.take n)) rfl HTL.out (HD.out _ B5.out) HONE.out (by omega) ?_
      intro v' W6 hf
      have hB6 : Below w.heap.size w W6 := Below.grown B5.out hf.grown B5.out.size (fun j hj => by cases hj; exact hg3)
      refine hK.out _ _ (fun _ => hB6) ?_
      clear hK K
      obtain ⟨vg, vcap, rfl⟩ := hf.made
      have HF := Lib.hid hf
      clear hf
      try go_simp
      (refine wpAnyD_take (i := 13) (v := ?_) [15] [15] rfl (by kernel_rfl) (by kernel_rfl) (by kernel_rfl) (fun _ _ _ h => h) (by kernel_rfl) (by kernel_rfl) (by kernel_rfl) (Or.inl ⟨?_, ?_⟩) hB6 ?_
       rotate_left
       focus rfl
       focus (intro w' hw'; have hw1 := HC.out w' hw'; clear hw'; go_simp; with_reducible rfl)
       try go_simp)
      have B6 := Lib.hid hB6
      clear hB6
      have hbd := B4.out.size
      have hne6 : W4.heap.size ≠ W3.heap.size := by have := HZ4.out; omega
      have D6 := Lib.hid ((HF.out.grown.block W4.heap.size (heap_lt D5.out) (fun e => hne6 (Option.some.inj e))).trans D5.out)
      have c6 := cells2 D6.out
      have HFIN := Lib.hid (dec_made (d := d.take n) (dp := dp) B6.out hbd D6.out (by rw [HTL2.out]; exact HF.out.owns) (fun e => by
        have := heap_lt D5.out
        rcases HF.out.wher with q | q
        · rw [q] at e; exact hne6 (Option.some.inj e).symm
        · rw [q] at e; have := Option.some.inj e; omega))
      refine wpAnyD_ready (rs := [15]) (by kernel_rfl) (by simp) ?_
      refine AllReadyD.cons rfl (fun K hK => ?_) AllReadyD.nil
      go_simp
      refine hK.out _ _ (fun h => absurd h (by decide)) ?_
      clear hK K
      try go_simp
      refine wpAnyD_done (by kernel_rfl) ?_ _
      generalize hbdd : W4.heap.size = bd at HFIN hbd ⊢
      generalize World.setCell _ _ _ = W7 at HFIN ⊢
      clear hbdd HF B6 B5 B4 E5 E4 D5 HZ4 D6 c6 hne6
      go_wp2_with fail
      refine (trim_any w.heap.size bd (d.take n) dp (by rw [HTL2.out]; omega) W7 HFIN.out.1).mono ?_
      rintro e w8 ⟨rfl, hd8, hg8⟩
      have HEND : Hid (NewD (stripZ (d.take n)) (trimP (d.take n) dp) w (.returned (.pointer (some ⟨bd, 0, none⟩))) w8) := Lib.hid ⟨bd, rfl, hbd, hd8, Below.grown HFIN.out.2 hg8 HFIN.out.2.size (fun j hj => by cases hj; exact hbd)⟩
      clear hd8 hg8
      go_wp2_with fail
      go_returns
      exact HEND.out
  · go_simp
    refine hK.out _ _ (fun _ => HB3.out.alloc hg3 _) ?_
    clear hK K
    try go_simp
    generalize hW4 : World.alloc W3 _ = W4
    have D4 := Lib.hid (hW4 ▸ block_new W3 _ _ : W4.heap[W3.heap.size]? = some (.cells #[.slice none 0 0, .int .i64 0] 267 (0, 0)))
    have B4 := Lib.hid (hW4 ▸ HB3.out.alloc hg3 _ : Below w.heap.size w W4)
    have hne6 : W3.heap.size ≠ W4.heap.size := by rw [← hW4, World.size_alloc]; omega
    have hg4 := B4.out.size
    clear hW4
    refine wpAnyD_ready (rs := [0]) (by kernel_rfl) (by simp) ?_
    refine AllReadyD.cons rfl (fun K hK => ?_) AllReadyD.nil
    · go_simp
      refine hK.out _ _ (fun _ => B4.out.alloc B4.out.size _) ?_
      clear hK K
      try go_simp
      generalize hW5 : World.alloc W4 _ = W5
      have D5 := Lib.hid (hW5 ▸ block_past D4.out _ : W5.heap[W3.heap.size]? = some (.cells #[.slice none 0 0, .int .i64 0] 267 (0, 0)))
      have E5 := Lib.hid (hW5 ▸ block_new W4 _ _ : W5.heap[W4.heap.size]? = some (.cells #[] 5 (0, 0)))
      have B5 := Lib.hid (hW5 ▸ B4.out.alloc B4.out.size _ : Below w.heap.size w W5)
      clear hW5
      refine wpAnyD_ready (rs := [8]) (by kernel_rfl) (by simp) ?_
      refine AllReadyD.cons rfl (fun K hK => ?_) AllReadyD.nil
      refine step_append_fresh rfl _ _ 73 rfl w.heap.size 5 i8 z8 Tryz.underlying73 HI0.out HI1.out HI2.out HI3.out HI4.out W4.heap.size rfl E5.out hg4 ⟨g, 0, none⟩ n _ (cellsD (d.take n)) rfl HTL.out (HD.out _ B5.out) HONE.out (by omega) ?_
      intro v' W6 hf
      have hB6 : Below w.heap.size w W6 := Below.grown B5.out hf.grown B5.out.size (fun j hj => by cases hj; exact hg4)
      refine hK.out _ _ (fun _ => hB6) ?_
      clear hK K
      obtain ⟨vg, vcap, rfl⟩ := hf.made
      have HF := Lib.hid hf
      clear hf
      try go_simp
      (refine wpAnyD_take (i := 13) (v := ?_) [15] [15] rfl (by kernel_rfl) (by kernel_rfl) (by kernel_rfl) (fun _ _ _ h => h) (by kernel_rfl) (by kernel_rfl) (by kernel_rfl) (Or.inl ⟨?_, ?_⟩) hB6 ?_
       rotate_left
       focus rfl
       focus (intro w' hw'; have hw1 := HC.out w' hw'; clear hw'; go_simp; with_reducible rfl)
       try go_simp)
      have B6 := Lib.hid hB6
      clear hB6
      have hbd := HB3.out.size
      have D6 := Lib.hid ((HF.out.grown.block W3.heap.size (heap_lt D5.out) (fun e => hne6 (Option.some.inj e))).trans D5.out)
      have c6 := cells2 D6.out
      have HFIN := Lib.hid (dec_made (d := d.take n) (dp := dp) B6.out hbd D6.out (by rw [HTL2.out]; exact HF.out.owns) (fun e => by
        have := heap_lt D5.out
        rcases HF.out.wher with q | q
        · rw [q] at e; exact hne6 (Option.some.inj e).symm
        · rw [q] at e; have := Option.some.inj e; omega))
      refine wpAnyD_ready (rs := [15]) (by kernel_rfl) (by simp) ?_
      refine AllReadyD.cons rfl (fun K hK => ?_) AllReadyD.nil
      go_simp
      refine hK.out _ _ (fun h => absurd h (by decide)) ?_
      clear hK K
      try go_simp
      refine wpAnyD_done (by kernel_rfl) ?_ _
      generalize hbdd : W3.heap.size = bd at HFIN hbd ⊢
      generalize World.setCell _ _ _ = W7 at HFIN ⊢
      clear hbdd HF B6 B5 B4 E5 D4 D5 D6 c6 hne6 hg4
      go_wp2_with fail
      refine (trim_any w.heap.size bd (d.take n) dp (by rw [HTL2.out]; omega) W7 HFIN.out.1).mono ?_
      rintro e w8 ⟨rfl, hd8, hg8⟩
      have HEND : Hid (NewD (stripZ (d.take n)) (trimP (d.take n) dp) w (.returned (.pointer (some ⟨bd, 0, none⟩))) w8) := Lib.hid ⟨bd, rfl, hbd, hd8, Below.grown HFIN.out.2 hg8 HFIN.out.2.size (fun j hj => by cases hj; exact hbd)⟩
      clear hd8 hg8
      go_wp2_with fail
      go_returns
      exact HEND.out
end Go.Proofs.YtgjmgneppecfgaaGreatDoor.Ma
