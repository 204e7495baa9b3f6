/-
  THE WALK of encodeObject.
-/
import Derived.Test.YtgjmgneppecfgaaGreatDoorQ15
import Derived.Maps.RangeWalk
set_option linter.unusedVariables false
set_option linter.unusedSimpArgs false
namespace Go.Proofs.YtgjmgneppecfgaaGreatDoor.Mb
open Go.RowKit Go.Proofs.YtgjmgneppecfgaaGreatDoor.Va Go.Proofs.YtgjmgneppecfgaaGreatDoor.Ba Go.Proofs.YtgjmgneppecfgaaGreatDoor.Ma
set_option linter.unusedVariables false
set_option linter.unusedSimpArgs false

/-- encodeString writes s's text -/
def EncS (s : ByteArray) : Prop := ∀ (B b E : Nat) (bs : List Nat) (w : World), St B b E bs w → B ≤ w.heap.size → bs.length + (6 * s.size + 2) ≤ 140737488355328 → (∀ w', Below B w w' → Tab w') →
  Calls Tryz.prog 151 #[.pointer (some ⟨E, 0, none⟩), .string s] w (EncEnd B b E (bs ++ Ma.encStr (bytesN s)) w)
/-- a block above has turned -/
theorem Wrote.turn {B b E : Nat} {bs : List Nat} {w w1 w2 : World} (h : Wrote B b E bs w w1) (hB : B ≤ w.heap.size) {q : Nat} (hq : w.heap.size ≤ q) (g : w1.grownBy w2 (some q)) (hb : b < w.heap.size) (hE : E < w.heap.size) (hrow : ∀ c fz, w1.heap[q]? ≠ some (.cells c 5 fz)) : Wrote B b E bs w w2 := by
  obtain ⟨⟨⟨h1, v, lr, h2, ⟨h3, h4⟩, h5⟩, ⟨f, f0, fr⟩, hl⟩, hbel, hk⟩ := h
  have ne : ∀ k, k < w.heap.size → w2.heap[k]? = w1.heap[k]? := fun k hk => g.block k (Nat.lt_of_lt_of_le hk hbel.size) (fun e => by have := Option.some.inj e; omega)
  refine ⟨⟨⟨h1, v, lr, (ne b hb).trans h2, ⟨h3, ?_⟩, h5⟩, ⟨f, f0, fr.of_block (ne E hE)⟩, hl⟩, hbel.trans ⟨g.os, g.tape, g.output, g.size, fun k hk => ne k (by omega)⟩, fun k o a b' c d => (ne k (heap_lt a)).trans (hk k o a b' c d)⟩
  rcases h4 with h4 | ⟨gb, cap, cur, a, b', c, d⟩
  · exact .inl h4
  · refine .inr ⟨gb, cap, cur, a, b', (g.block gb (heap_lt c) (fun e => ?_)).trans c, d⟩
    rw [Option.some.inj e] at c
    exact hrow _ _ c
theorem kv_info : (Tryz.prog.info? 194).map (fun i => (i.zero, i.size, i.bytes)) = some (some (.agg #[.string ⟨#[]⟩, .nilIface]), 2, 32) := by kernel_rfl
theorem make_kv (n : Nat) (h : n ≤ 2147483647) (w : World) : (Instr.makeSlice 192 (.int .i64 (n : Int)) (.int .i64 (n : Int))).run Tryz.prog w = .ok (.slice (some ⟨w.heap.size, 0, none⟩) n n) (w.alloc (.cells (madeCells #[.string ⟨#[]⟩, .nilIface] (n * 2)) 194)) := by
  obtain ⟨i0, hi, hz0, hz1, hz2⟩ := info_parts kv_info
  have := run_make (P := Tryz.prog) w 192 194 i0 _ Tryz.underlying192 hi hz0 .i64 .i64 n n (by omega) (by omega) (by rw [hz2]; omega) (by omega)
  rw [hz1] at this
  rw [show Value.cells (.agg #[.string ⟨#[]⟩, .nilIface]) = #[.string ⟨#[]⟩, .nilIface] from rfl] at this
  simpa using this
theorem made_row (n : Nat) {W : World} {blk : Nat} (h : W.heap[blk]? = some (.cells (madeCells #[.string ⟨#[]⟩, .nilIface] (n * 2)) 194 (0, 0))) : KvRow blk n [] W := ⟨_, h, size_madeCells _ _, Nat.zero_le _, fun j hj => by simp at hj⟩
/-- what an entry holds -/
theorem gm_entry {w : World} {S : Nat → Prop} {vs : List V} {ks : List ByteArray} {es : List MapEntry} (h : GM w S vs ks es) {e : MapEntry} (he : e ∈ es) : (∃ s, e.key = .string s) ∧ (e.val = .nilIface ∨ ∃ t x, e.val = .iface t x) ∧ encKV (kvE e) = [e.key, e.val] := by
  obtain ⟨l1, l2, l3⟩ := GM.lens vs ks es h
  obtain ⟨i, hi, rfl⟩ := List.getElem_of_mem he
  obtain ⟨e', h1, h2, h3⟩ := GM.at vs ks es h i (by omega) (by omega)
  have : es[i] = e' := by rw [List.getElem?_eq_getElem hi] at h1; exact Option.some.inj h1
  rw [this]
  refine ⟨⟨_, h2⟩, ?_, ?_⟩
  · generalize e'.val = g at h3
    cases hv : vs[i]'(by omega) with
    | mk k h' t ls ks vs =>
      rw [hv, GV] at h3
      rcases h3 with ⟨_, rfl⟩ | ⟨_, rfl⟩ | ⟨_, rfl⟩ | ⟨_, rfl⟩ | ⟨_, rfl⟩ | ⟨_, a, c, rfl, _⟩ | ⟨_, r, es, cl, rfl, _⟩
      · exact .inl rfl
      · exact .inr ⟨_, _, rfl⟩
      · exact .inr ⟨_, _, rfl⟩
      · unfold gnum; split <;> exact .inr ⟨_, _, rfl⟩
      · exact .inr ⟨_, _, rfl⟩
      · exact .inr ⟨_, _, rfl⟩
      · exact .inr ⟨_, _, rfl⟩
  · unfold encKV kvE
    rw [h2, dif_pos (gv_one h3)]
/-- the row as it is read behind the sort -/
def KvC (blk : Nat) (T : List KV) (w : World) : Prop := (∃ cs, w.heap[blk]? = some (.cells cs 194 (0, 0))) ∧ ∀ i (hi : i < T.length), w.cell? ⟨blk, i * 2, none⟩ = some (.string T[i].1) ∧ w.cell? ⟨blk, i * 2 + 1, none⟩ = some T[i].2.1
theorem KvC.same {blk : Nat} {T : List KV} {w w' : World} (h : KvC blk T w) (hk : w'.heap[blk]? = w.heap[blk]?) : KvC blk T w' := by
  obtain ⟨⟨cs, q⟩, c⟩ := h
  exact ⟨⟨cs, hk.trans q⟩, fun i hi => ⟨(World.cell?_of_block hk).trans (c i hi).1, (World.cell?_of_block hk).trans (c i hi).2⟩⟩
theorem KvC.keep {blk b E : Nat} {T : List KV} {w w' : World} (h : KvC blk T w) (hk : KeepE b E w w') (hb : blk ≠ b) (hE : blk ≠ E) : KvC blk T w' := by
  have h' := h
  obtain ⟨⟨cs, q⟩, c⟩ := h'
  exact h.same ((hk blk _ q hb hE (fun c fz e => by cases e)).trans q.symm)
theorem gv_shape {w : World} {S : Nat → Prop} {x : V} {g : Value} (h : GV w S x g) : g = .nilIface ∨ ∃ t x, g = .iface t x := by
  cases x with
  | mk k h' t ls ks vs =>
    rw [GV] at h
    rcases h with ⟨_, rfl⟩ | ⟨_, rfl⟩ | ⟨_, rfl⟩ | ⟨_, rfl⟩ | ⟨_, rfl⟩ | ⟨_, a, c, rfl, _⟩ | ⟨_, r, es, cl, rfl, _⟩
    · exact .inl rfl
    · exact .inr ⟨_, _, rfl⟩
    · exact .inr ⟨_, _, rfl⟩
    · unfold gnum; split <;> exact .inr ⟨_, _, rfl⟩
    · exact .inr ⟨_, _, rfl⟩
    · exact .inr ⟨_, _, rfl⟩
    · exact .inr ⟨_, _, rfl⟩
theorem perm_of_all {es : Array MapEntry} {clock : Nat} {L : List MapEntry} (hst : MapKept.Stamped es clock) (hn : (L.map (·.born)).Nodup) (hm : ∀ x ∈ L, x ∈ es.toList) (hall : ∀ x ∈ es.toList, x ∈ L) : L.Perm es.toList := by
  have hb := ((MapKept.stamped_iff es clock).1 hst).2.1
  have h1 : L.Nodup := (List.pairwise_map.1 hn).imp (fun hab e => hab (by rw [e]))
  have h2 : es.toList.Nodup := (List.pairwise_map.1 hb).imp (fun hab e => hab (by rw [e]))
  letI : DecidableEq MapEntry := fun a b => Classical.propDecidable (a = b)
  rw [List.perm_iff_count]
  intro a
  rw [List.Nodup.count h1, List.Nodup.count h2]
  have : a ∈ L ↔ a ∈ es.toList := ⟨hm a, hall a⟩
  simp only [this]
theorem sorted_T {w : World} {S : Nat → Prop} {vs : List V} {ks : List ByteArray} {es : Array MapEntry} {clock : Nat} {L : List MapEntry} {d' : Array KV} (hgm : GM w S vs ks es.toList) (hr : Rising ks) (hst : MapKept.Stamped es clock) (hn : (L.map (·.born)).Nodup) (hm : ∀ x ∈ L, x ∈ es.toList) (hall : ∀ x ∈ es.toList, x ∈ L)
    (p1 : d'.size = (L.map kvE).toArray.size) (p2 : d'.toList.Perm (L.map kvE).toArray.toList) (p3 : Sort.SortedIn ltKV 0 (L.map kvE).toArray.size d') : d'.toList = es.toList.map kvE := by
  refine sorted_is (p2.trans ?_) ?_ ?_
  · have := (perm_of_all hst hn hm hall).map kvE
    exact this
  · intro i j hij hj
    have hj' : j < d'.size := hj
    have := p3 i j (Nat.zero_le _) hij (by omega)
    rw [getElem!_pos d' j hj', getElem!_pos d' i (by omega)] at this
    exact this
  · rw [(gm_kv hgm).1]
    exact hr
theorem T_at {w : World} {S : Nat → Prop} {vs : List V} {ks : List ByteArray} {es : List MapEntry} (h : GM w S vs ks es) (i : Nat) (h1 : i < (es.map kvE).length) (h2 : i < ks.length) (h3 : i < vs.length) : ((es.map kvE)[i]).1 = ks[i] ∧ GV w S vs[i] ((es.map kvE)[i]).2.1 := by
  obtain ⟨q1, q2⟩ := gm_kv h
  refine ⟨?_, q2 i h1 h3⟩
  have : ((es.map kvE).map (·.1))[i]? = ks[i]? := by rw [q1]
  rw [List.getElem?_map, List.getElem?_eq_getElem h1, List.getElem?_eq_getElem h2] at this
  simpa using this
theorem obj_len {vs : List V} {ks : List ByteArray} {i : Nat} (hg : GoodL vs) (hk : ∀ s ∈ ks, s.size ≤ 2147483647) (hi : i < vs.length) (hi2 : i < ks.length) : (encM (vs.take i) (ks.take i)).tail.length + 6 * (ks[i]).size + (vs[i]).size * NodeLen ≤ sizeL vs * NodeLen + 6 * 2147483647 := by
  have h1 := encM_len (vs.take i) (ks.take i) (fun s hs => hk s (List.mem_of_mem_take hs)) (goodL_take vs i hg)
  have h2 := sizeL_take vs i hi
  have h3 := hk _ (List.getElem_mem hi2)
  rw [List.length_tail]
  unfold NodeLen at *
  omega
def LoopO2 (blk n : Nat) (T : List KV) (ks : List ByteArray) (vs : List V) (B b E : Nat) (bs : List Nat) (w : World) (iv : Value) (wr : World) : Prop :=
  ∃ i : Nat, iv = .int .i64 (i : Int) ∧ i ≤ n ∧ KvC blk T wr ∧ Wrote B b E (bs ++ 123 :: (encM (vs.take i) (ks.take i)).tail) w wr
def LoopO1 (r it since clock kb blk n : Nat) (es : Array MapEntry) (B b E : Nat) (bs : List Nat) (w : World) (iv : Value) (wr : World) : Prop :=
  ∃ L : List MapEntry, iv = .int .i64 (L.length : Int) ∧ Ran r it since clock es L wr ∧ KvRow blk n (L.map kvE) wr ∧ wr.heap[kb]? = some (.cells #[.slice (some ⟨blk, 0, none⟩) n n] 192 (0, 0)) ∧ Wrote B b E bs w wr
set_option maxHeartbeats 4000000 in
set_option maxRecDepth 100000 in
theorem encObject_any (ks : List ByteArray) (vs : List V) (H : ∀ x ∈ vs, EncW x) (HSS : ∀ s ∈ ks, EncS s) (hg : GoodL vs) (hkb : ∀ s ∈ ks, s.size ≤ 2147483647) (hr : Rising ks) (n : Nat) (hkn : ks.length = n) (hvn : vs.length = n) (hmax : n ≤ 2147483647) (B b E r : Nat) (bs : List Nat) (es : Array MapEntry) (clock : Nat) (S : Nat → Prop) (w : World)
    (hm : w.heap[r]? = some (.map es clock)) (hst : MapKept.Stamped es clock) (hgm : GM w S vs ks es.toList) (hrS : S r) (hS : ∀ k, S k → k < B) (h : St B b E bs w) (hB : B ≤ w.heap.size)
    (hlim : bs.length + (1 + sizeL vs) * NodeLen ≤ 70368744177664) (hT : ∀ w', Below B w w' → Tab w') :
    Calls Tryz.prog 153 #[.pointer (some ⟨E, 0, none⟩), .map (some r)] w (EncEnd B b E (bs ++ 123 :: ((encM vs ks).tail ++ [125])) w) := by
  have HH := Lib.hid H
  have HHS := Lib.hid HSS
  have HG := Lib.hid hg
  have HKB := Lib.hid hkb
  have HR := Lib.hid hr
  have HKN := Lib.hid hkn
  have HVN := Lib.hid hvn
  have HM := Lib.hid hm
  have HSTM := Lib.hid hst
  have HGM := Lib.hid hgm
  have HRS := Lib.hid (hS r hrS)
  have HS := Lib.hid hS
  have HST := Lib.hid h
  have HT := Lib.hid hT
  have hlim2 : bs.length + 2 ≤ 140737488355328 := by unfold NodeLen at hlim; omega
  have HLM := Lib.hid hlim
  have c0 := h.cell
  have hEw : E < w.heap.size := cell_lt c0
  have hbw : b < w.heap.size := h.buf.lt
  have hbB : B ≤ b := h.buf.1
  have HESN : Hid (es.size = n) := Lib.hid (by have := (GM.lens vs ks es.toList hgm).2.1; simpa [hvn] using this)
  have hmk : ∀ W : World, W.heap[r]? = some (.map es clock) → (Builtin.len_ #[106] 3 #[.map (some r)]).run Tryz.prog W = .ok (.int .i64 (n : Int)) W := fun W hW => by
    have := run_len_map (P := Tryz.prog) W 106 3 r es clock (by kernel_rfl) hW
    rw [HESN.out] at this
    exact this
  have hmake := make_kv n hmax
  clear H HSS hg hkb hr hkn hvn hm hst hgm hrS hS h hT hlim
  go_enter Tryz.func153, Tryz.ntmps153
  go_wp2_with fail
  refine (writeByte_any B b E 123 bs w HST.out hB (by omega)).mono ?_
  rintro e w1 ⟨rfl, h1⟩
  have W1 : Hid (Wrote B b E (bs ++ 123 :: (encM (vs.take 0) (ks.take 0)).tail) w w1) := Lib.hid (by rw [List.take_zero, List.take_zero, encM]; exact h1)
  have hm1 : w1.heap[r]? = some (.map es clock) := (W1.out.2.1.block r HRS.out).trans HM.out
  clear h1
  have hz1 := W1.out.2.1.size
  go_wp2_with (at_range; refine Hid.out ?_)
  refine Lib.hid ?_
  have q1 := block_new (w1.alloc (.cells (madeCells #[.string ⟨#[]⟩, .nilIface] (n * 2)) 194)) #[.slice (some ⟨w1.heap.size, 0, none⟩) n n] 192
  rw [World.size_alloc] at q1
  have q2 := block_past (block_new w1 (madeCells #[.string ⟨#[]⟩, .nilIface] (n * 2)) 194) (.cells #[.slice (some ⟨w1.heap.size, 0, none⟩) n n] 192)
  have q3 : Below w1.heap.size w1 ((w1.alloc (.cells (madeCells #[.string ⟨#[]⟩, .nilIface] (n * 2)) 194)).alloc (.cells #[.slice (some ⟨w1.heap.size, 0, none⟩) n n] 192)) := ((Below.refl _ _).alloc (Nat.le_refl _) _).alloc (by rw [World.size_alloc]; omega) _
  have q4 : ((w1.alloc (.cells (madeCells #[.string ⟨#[]⟩, .nilIface] (n * 2)) 194)).alloc (.cells #[.slice (some ⟨w1.heap.size, 0, none⟩) n n] 192)).heap.size = w1.heap.size + 1 + 1 := by rw [World.size_alloc, World.size_alloc]
  generalize hW : World.alloc (World.alloc w1 _) _ = W2 at q1 q2 q3 q4
  obtain ⟨blk, hblk⟩ : ∃ q, w1.heap.size = q := ⟨_, rfl⟩
  rw [hblk] at q1 q2 q4 ⊢
  have KB := Lib.hid q1
  have KR := Lib.hid (made_row n q2)
  have W2' := Lib.hid (W1.out.quiet (by omega) q3)
  have HM2 : Hid (W2.heap[r]? = some (.map es clock)) := Lib.hid (keep q3 hm1)
  have HSZ := Lib.hid q4
  have hblw : w.heap.size ≤ blk := by omega
  clear hW q1 q2 q3 q4 hblk hm1 c0 hmk hmake
  go_wp2_with (at_range; refine wpList_range_raw _ rfl _ 106 rfl 9 20 Tryz.underlying106 r clock es rfl HM2.out HSTM.out ?_; intro w3 hran hb3 hs3)
  go_frame
  have W3' := Lib.hid (W2'.out.quiet (by have := HSZ.out; omega) hb3)
  have KB3 := Lib.hid (keep hb3 KB.out)
  have KR3 := Lib.hid (KR.out.same (hb3.block blk (by have := HSZ.out; omega)))
  have RN := Lib.hid hran
  have HIT : Hid (W2.heap.size = blk + 2) := Lib.hid (by have := HSZ.out; omega)
  clear hran hb3 hs3
  rw [HIT.out]
  rw [HIT.out] at RN
  go_loopw [5] (LoopO1 r (blk + 2) clock clock (blk + 1) blk n es B b E (bs ++ 123 :: (encM (vs.take 0) (ks.take 0)).tail) w) (fun iv _ => n - (intOf iv).toNat)
  case atStart => exact ⟨[], rfl, RN.out, KR3.out, KB3.out, W3'.out⟩
  case round =>
    obtain ⟨L, rfl, hran, hkr, hkb, hw⟩ := hrel
    have RN2 := Lib.hid hran
    have KR2 := Lib.hid hkr
    have KB2 := Lib.hid hkb
    have W4' := Lib.hid hw
    clear hran hkr hkb hw
    go_wp2_with (at_next; refine wpList_next_raw _ rfl _ rfl r (blk + 2) clock clock es L (by have := HRS.out; omega) HSTM.out rfl RN2.out ?_ ?_)
    · intro hall
      have HALL := Lib.hid hall
      have HLN : Hid (L.length = n) := Lib.hid (by
        have h1 := RN2.out.len
        obtain ⟨_, _, _, _, _, h2⟩ := RN2.out
        have hb := ((MapKept.stamped_iff es clock).1 HSTM.out).2.1
        have h3 := nodup_len (es.toList.map (·.born)) (L.map (·.born)) hb (fun a ha => by
          obtain ⟨x, hx, rfl⟩ := List.mem_map.1 ha
          exact List.mem_map.2 ⟨x, hall x (by simpa using hx), rfl⟩)
        rw [List.length_map, List.length_map, Array.length_toList] at h3
        have := HESN.out
        omega)
      clear hall
      obtain ⟨l, hl⟩ : ∃ l, L.length = l := ⟨_, rfl⟩
      have c4 := cell_of KB2.out 0 rfl
      have hdn : (L.map kvE).toArray.size = n := by simp [HLN.out]
      have hsrt := sort_any blk n (blk + 1) (L.map kvE).toArray (by omega) wr (KR2.out.holds (by rw [List.length_map, HLN.out])) (heap_lt KB2.out |> fun q => by omega) (by rw [hdn]; exact c4) (heap_lt KB2.out) (by omega)
      rw [hdn] at hsrt
      have HSRT := Lib.hid hsrt
      clear hsrt hdn hl
      go_wp2_with fail
      refine HSRT.out.mono ?_
      rintro e W5 ⟨rfl, d', p1, p2, p3, p4, p5, p6⟩
      have hT := sorted_T HGM.out HR.out HSTM.out RN2.out.2.2.2.2.1 RN2.out.2.2.2.2.2 (fun x hx => HALL.out x (by simpa using hx)) p1 p2 p3
      obtain ⟨cs0, q0, _⟩ := KR2.out
      obtain ⟨cs', q'⟩ := p6 _ _ _ q0
      have hbl := heap_lt KB2.out
      have W5' : Hid (Wrote B b E (bs ++ 123 :: (encM (vs.take 0) (ks.take 0)).tail) w W5) := Lib.hid (W4'.out.turn hB (by omega) p5 hbw hEw (fun c fz q => by rw [q0] at q; cases q))
      have kb5 := (p5.block (blk + 1) hbl (fun q => by have := Option.some.inj q; omega)).trans KB2.out
      have c5 := cell_of kb5 0 rfl
      obtain ⟨T, hTe⟩ : ∃ T, es.toList.map kvE = T := ⟨_, rfl⟩
      rw [hTe] at hT
      have HKC : Hid (KvC blk T W5) := Lib.hid (by
        have : KvC blk d'.toList W5 := ⟨⟨cs', q'⟩, fun i hi => KvRow.of_holds (n := n) q' p4 i hi⟩
        rw [hT] at this
        exact this)
      have HTN : Hid (T.length = n) := Lib.hid (by rw [← hTe, List.length_map, Array.length_toList]; exact HESN.out)
      have HTA : Hid (∀ i (h1 : i < T.length) (h2 : i < ks.length) (h3 : i < vs.length), (T[i]).1 = ks[i] ∧ GV w S vs[i] (T[i]).2.1) := Lib.hid (by
        subst hTe
        exact fun i h1 h2 h3 => T_at HGM.out i h1 h2 h3)
      have HBW : Hid (w.heap.size ≤ blk) := Lib.hid (by omega)
      clear p1 p2 p3 p4 p5 p6 q0 q' hbl hT kb5 hTe c4 HSRT
      go_wp2_with fail
      go_loopw [39] (LoopO2 blk n T ks vs B b E bs w) (fun iv _ => n - (intOf iv).toNat)
      case atStart => exact ⟨0, rfl, Nat.zero_le _, HKC.out, W5'.out⟩
      case round =>
        obtain ⟨i, rfl, hi, hkc, hw⟩ := hrel
        have KC := Lib.hid hkc
        have HW := Lib.hid hw
        have c1 := hw.1.cell
        have hz1 := hw.2.1.size
        clear hw hkc c5
        by_cases hlt : i < n
        · have hiT : i < T.length := by rw [HTN.out]; exact hlt
          have hik : i < ks.length := by rw [HKN.out]; exact hlt
          have hiv : i < vs.length := by rw [HVN.out]; exact hlt
          obtain ⟨ck, cv⟩ := KC.out.2 i hiT
          obtain ⟨hk, hgv⟩ := HTA.out i hiT hik hiv
          have hol := obj_len HG.out HKB.out hiv hik
          have hnx := encM_next hiv (HVN.out.trans HKN.out.symm) (i := i)
          have hmem : vs[i] ∈ vs := List.getElem_mem hiv
          have hmek : ks[i] ∈ ks := List.getElem_mem hik
          rw [hk] at ck
          obtain ⟨x, hx⟩ : ∃ x, vs[i]'hiv = x := ⟨_, rfl⟩
          obtain ⟨s, hs⟩ : ∃ s, ks[i]'hik = s := ⟨_, rfl⟩
          obtain ⟨g, hgg⟩ : ∃ g, (T[i]'hiT).2.1 = g := ⟨_, rfl⟩
          rw [hs] at hol hnx hmek ck
          rw [hx] at hol hnx hmem hgv
          rw [hgg] at cv hgv
          have HGV := Lib.hid hgv
          have HMEM := Lib.hid hmem
          have HMEK := Lib.hid hmek
          have hsz := HKB.out s hmek
          have hlm : bs.length + (1 + sizeL vs) * NodeLen ≤ 70368744177664 := HLM.out
          have hhd : ((bs ++ 123 :: (encM (vs.take i) (ks.take i)).tail).length) = bs.length + 1 + (encM (vs.take i) (ks.take i)).tail.length := by rw [List.length_append, List.length_cons]; omega
          have HLB : Hid ((bs ++ 123 :: (encM (vs.take i) (ks.take i)).tail).length + 1 + (6 * s.size + 2) + 1 + x.size * NodeLen ≤ 70368744177664) := Lib.hid (by rw [hhd]; unfold NodeLen at *; omega)
          have HNX := Lib.hid hnx
          have HSL : Hid ((Ma.encStr (bytesN s)).length ≤ 6 * s.size + 2) := Lib.hid (by have := encStr_len (bytesN s); rw [bytesN_len] at this; exact this)
          have HD0 : Hid (i = 0 → (encM (vs.take i) (ks.take i)).tail = []) := Lib.hid (fun q => by rw [q, List.take_zero, List.take_zero, encM]; rfl)
          clear hol hlm hmem hmek hnx hx hs hgg hk hhd hsz hiT hik hiv
          have hkcq := KC.out.1
          rcases gv_shape hgv with rfl | ⟨tv, xv, rfl⟩
          · clear hgv
            have hWA := below_alloc wr (.cells #[.string s, .nilIface] 194)
            have hblt := heap_lt hkcq.choose_spec
            have WA := Lib.hid (HW.out.quiet (by omega) hWA)
            have cA := WA.out.1.cell
            have sA : (wr.alloc (.cells #[.string s, .nilIface] 194)).heap.size = wr.heap.size + 1 := World.size_alloc wr _
            have qA := Lib.hid (block_new wr #[.string s, .nilIface] 194)
            have KCA := Lib.hid (KC.out.same (hWA.block blk hblt))
            clear hWA
            rcases Nat.eq_zero_or_pos i with rfl | hi0
            · go_wp2_with fail
              refine (HHS.out s HMEK.out B b E _ _ WA.out.1 (by omega) (by have := HLB.out; unfold NodeLen at this; omega) (fun w' hw' => HT.out w' (WA.out.2.1.trans hw'))).mono ?_
              rintro e w3 ⟨rfl, h3⟩
              have W3 := Lib.hid (WA.out.trans h3)
              have K3 := Lib.hid (KCA.out.keep h3.2.2 (by omega) (by omega))
              have q3 := Lib.hid (h3.2.2 _ _ qA.out (by omega) (by omega) (fun c fz e => by cases e))
              have c3 := W3.out.1.cell
              have z3 := W3.out.2.1.size
              clear h3
              go_wp2_with fail
              refine (writeByte_any B b E 58 _ _ W3.out.1 (by omega) (by have := HLB.out; have := HSL.out; unfold NodeLen at *; simp only [List.length_append, List.length_cons, List.length_nil] at *; omega)).mono ?_
              rintro e w4 ⟨rfl, h4⟩
              have W4 := Lib.hid (W3.out.trans h4)
              have K4 := Lib.hid (K3.out.keep h4.2.2 (by omega) (by omega))
              have c4 := W4.out.1.cell
              have c4v := cell_of (h4.2.2 _ _ q3.out (by omega) (by omega) (fun c fz e => by cases e)) 1 rfl
              have z4 := W4.out.2.1.size
              clear h4
              go_wp2_with fail
              refine (HH.out x HMEM.out B b E _ w4 _ S (GV.mono (Same.of_below W4.out.2.1 HS.out) (fun _ h => h) _ _ HGV.out) HS.out W4.out.1 (by omega) (by have := HLB.out; have := HSL.out; simp only [List.length_append, List.length_cons, List.length_nil] at *; omega) (fun w' hw' => HT.out w' (W4.out.2.1.trans hw'))).mono ?_
              rintro e w5 ⟨rfl, h5⟩
              have W5 := Lib.hid (W4.out.trans h5)
              have K5 := Lib.hid (K4.out.keep h5.2.2 (by omega) (by omega))
              clear h5
              go_wp2_with fail
              go_roundw
              case rel => exact ⟨1, by rfl, hlt, K5.out, by rw [HNX.out, if_neg (by omega), List.nil_append]; have := W5.out; rw [HD0.out (by first | rfl | trivial)] at this; exact (by simpa using this)⟩
              case measure => simp [intOf]; omega
            · go_wp2_with fail
              refine (writeByte_any B b E 44 _ _ WA.out.1 (by omega) (by have := HLB.out; omega)).mono ?_
              rintro e w2 ⟨rfl, h2⟩
              have W2 := Lib.hid (WA.out.trans h2)
              have K2 := Lib.hid (KCA.out.keep h2.2.2 (by omega) (by omega))
              have q2 := Lib.hid (h2.2.2 _ _ qA.out (by omega) (by omega) (fun c fz e => by cases e))
              have c2 := W2.out.1.cell
              have c2s := cell_of q2.out 0 rfl
              have z2 := W2.out.2.1.size
              clear h2
              go_wp2_with fail
              refine (HHS.out s HMEK.out B b E _ _ W2.out.1 (by omega) (by have := HLB.out; unfold NodeLen at this; simp only [List.length_append, List.length_cons, List.length_nil] at *; omega) (fun w' hw' => HT.out w' (W2.out.2.1.trans hw'))).mono ?_
              rintro e w3 ⟨rfl, h3⟩
              have W3 := Lib.hid (W2.out.trans h3)
              have K3 := Lib.hid (K2.out.keep h3.2.2 (by omega) (by omega))
              have q3 := Lib.hid (h3.2.2 _ _ q2.out (by omega) (by omega) (fun c fz e => by cases e))
              have c3 := W3.out.1.cell
              have z3 := W3.out.2.1.size
              clear h3
              go_wp2_with fail
              refine (writeByte_any B b E 58 _ _ W3.out.1 (by omega) (by have := HLB.out; have := HSL.out; unfold NodeLen at *; simp only [List.length_append, List.length_cons, List.length_nil] at *; omega)).mono ?_
              rintro e w4 ⟨rfl, h4⟩
              have W4 := Lib.hid (W3.out.trans h4)
              have K4 := Lib.hid (K3.out.keep h4.2.2 (by omega) (by omega))
              have c4 := W4.out.1.cell
              have c4v := cell_of (h4.2.2 _ _ q3.out (by omega) (by omega) (fun c fz e => by cases e)) 1 rfl
              have z4 := W4.out.2.1.size
              clear h4
              go_wp2_with fail
              refine (HH.out x HMEM.out B b E _ w4 _ S (GV.mono (Same.of_below W4.out.2.1 HS.out) (fun _ h => h) _ _ HGV.out) HS.out W4.out.1 (by omega) (by have := HLB.out; have := HSL.out; simp only [List.length_append, List.length_cons, List.length_nil] at *; omega) (fun w' hw' => HT.out w' (W4.out.2.1.trans hw'))).mono ?_
              rintro e w5 ⟨rfl, h5⟩
              have W5 := Lib.hid (W4.out.trans h5)
              have K5 := Lib.hid (K4.out.keep h5.2.2 (by omega) (by omega))
              clear h5
              go_wp2_with fail
              go_roundw
              case rel => exact ⟨i + 1, by push_cast; rfl, hlt, K5.out, by rw [HNX.out, if_pos hi0]; have := W5.out; simpa using this⟩
              case measure => simp [intOf]; omega
          · clear hgv
            have hWA := below_alloc wr (.cells #[.string s, .iface tv xv] 194)
            have hblt := heap_lt hkcq.choose_spec
            have WA := Lib.hid (HW.out.quiet (by omega) hWA)
            have cA := WA.out.1.cell
            have sA : (wr.alloc (.cells #[.string s, .iface tv xv] 194)).heap.size = wr.heap.size + 1 := World.size_alloc wr _
            have qA := Lib.hid (block_new wr #[.string s, .iface tv xv] 194)
            have KCA := Lib.hid (KC.out.same (hWA.block blk hblt))
            clear hWA
            rcases Nat.eq_zero_or_pos i with rfl | hi0
            · go_wp2_with fail
              refine (HHS.out s HMEK.out B b E _ _ WA.out.1 (by omega) (by have := HLB.out; unfold NodeLen at this; omega) (fun w' hw' => HT.out w' (WA.out.2.1.trans hw'))).mono ?_
              rintro e w3 ⟨rfl, h3⟩
              have W3 := Lib.hid (WA.out.trans h3)
              have K3 := Lib.hid (KCA.out.keep h3.2.2 (by omega) (by omega))
              have q3 := Lib.hid (h3.2.2 _ _ qA.out (by omega) (by omega) (fun c fz e => by cases e))
              have c3 := W3.out.1.cell
              have z3 := W3.out.2.1.size
              clear h3
              go_wp2_with fail
              refine (writeByte_any B b E 58 _ _ W3.out.1 (by omega) (by have := HLB.out; have := HSL.out; unfold NodeLen at *; simp only [List.length_append, List.length_cons, List.length_nil] at *; omega)).mono ?_
              rintro e w4 ⟨rfl, h4⟩
              have W4 := Lib.hid (W3.out.trans h4)
              have K4 := Lib.hid (K3.out.keep h4.2.2 (by omega) (by omega))
              have c4 := W4.out.1.cell
              have c4v := cell_of (h4.2.2 _ _ q3.out (by omega) (by omega) (fun c fz e => by cases e)) 1 rfl
              have z4 := W4.out.2.1.size
              clear h4
              go_wp2_with fail
              refine (HH.out x HMEM.out B b E _ w4 _ S (GV.mono (Same.of_below W4.out.2.1 HS.out) (fun _ h => h) _ _ HGV.out) HS.out W4.out.1 (by omega) (by have := HLB.out; have := HSL.out; simp only [List.length_append, List.length_cons, List.length_nil] at *; omega) (fun w' hw' => HT.out w' (W4.out.2.1.trans hw'))).mono ?_
              rintro e w5 ⟨rfl, h5⟩
              have W5 := Lib.hid (W4.out.trans h5)
              have K5 := Lib.hid (K4.out.keep h5.2.2 (by omega) (by omega))
              clear h5
              go_wp2_with fail
              go_roundw
              case rel => exact ⟨1, by rfl, hlt, K5.out, by rw [HNX.out, if_neg (by omega), List.nil_append]; have := W5.out; rw [HD0.out (by first | rfl | trivial)] at this; exact (by simpa using this)⟩
              case measure => simp [intOf]; omega
            · go_wp2_with fail
              refine (writeByte_any B b E 44 _ _ WA.out.1 (by omega) (by have := HLB.out; omega)).mono ?_
              rintro e w2 ⟨rfl, h2⟩
              have W2 := Lib.hid (WA.out.trans h2)
              have K2 := Lib.hid (KCA.out.keep h2.2.2 (by omega) (by omega))
              have q2 := Lib.hid (h2.2.2 _ _ qA.out (by omega) (by omega) (fun c fz e => by cases e))
              have c2 := W2.out.1.cell
              have c2s := cell_of q2.out 0 rfl
              have z2 := W2.out.2.1.size
              clear h2
              go_wp2_with fail
              refine (HHS.out s HMEK.out B b E _ _ W2.out.1 (by omega) (by have := HLB.out; unfold NodeLen at this; simp only [List.length_append, List.length_cons, List.length_nil] at *; omega) (fun w' hw' => HT.out w' (W2.out.2.1.trans hw'))).mono ?_
              rintro e w3 ⟨rfl, h3⟩
              have W3 := Lib.hid (W2.out.trans h3)
              have K3 := Lib.hid (K2.out.keep h3.2.2 (by omega) (by omega))
              have q3 := Lib.hid (h3.2.2 _ _ q2.out (by omega) (by omega) (fun c fz e => by cases e))
              have c3 := W3.out.1.cell
              have z3 := W3.out.2.1.size
              clear h3
              go_wp2_with fail
              refine (writeByte_any B b E 58 _ _ W3.out.1 (by omega) (by have := HLB.out; have := HSL.out; unfold NodeLen at *; simp only [List.length_append, List.length_cons, List.length_nil] at *; omega)).mono ?_
              rintro e w4 ⟨rfl, h4⟩
              have W4 := Lib.hid (W3.out.trans h4)
              have K4 := Lib.hid (K3.out.keep h4.2.2 (by omega) (by omega))
              have c4 := W4.out.1.cell
              have c4v := cell_of (h4.2.2 _ _ q3.out (by omega) (by omega) (fun c fz e => by cases e)) 1 rfl
              have z4 := W4.out.2.1.size
              clear h4
              go_wp2_with fail
              refine (HH.out x HMEM.out B b E _ w4 _ S (GV.mono (Same.of_below W4.out.2.1 HS.out) (fun _ h => h) _ _ HGV.out) HS.out W4.out.1 (by omega) (by have := HLB.out; have := HSL.out; simp only [List.length_append, List.length_cons, List.length_nil] at *; omega) (fun w' hw' => HT.out w' (W4.out.2.1.trans hw'))).mono ?_
              rintro e w5 ⟨rfl, h5⟩
              have W5 := Lib.hid (W4.out.trans h5)
              have K5 := Lib.hid (K4.out.keep h5.2.2 (by omega) (by omega))
              clear h5
              go_wp2_with fail
              go_roundw
              case rel => exact ⟨i + 1, by push_cast; rfl, hlt, K5.out, by rw [HNX.out, if_pos hi0]; have := W5.out; simpa using this⟩
              case measure => simp [intOf]; omega
        · obtain rfl : i = n := by omega
          have htl : vs.take i = vs := List.take_of_length_le (by rw [HVN.out]; exact Nat.le_refl _)
          have htk : ks.take i = ks := List.take_of_length_le (by rw [HKN.out]; exact Nat.le_refl _)
          rw [htl, htk] at HW
          have hlm : bs.length + (1 + sizeL vs) * NodeLen ≤ 70368744177664 := HLM.out
          have hcl := encM_len vs ks HKB.out HG.out
          have HLB : Hid ((bs ++ 123 :: (encM vs ks).tail).length + 1 ≤ 140737488355328) := Lib.hid (by rw [List.length_append, List.length_cons, List.length_tail]; unfold NodeLen at *; omega)
          clear htl htk hlm hcl
          go_wp2_with fail
          refine (writeByte_any B b E 125 _ wr HW.out.1 (by omega) HLB.out).mono ?_
          rintro e w2 ⟨rfl, h2⟩
          have W2 := Lib.hid (HW.out.trans h2)
          clear h2
          go_wp2_with fail
          go_returns
          exact ⟨rfl, by have := W2.out; simpa using this⟩
    · intro e w' he hran hg hen
      obtain ⟨⟨sk, hsk⟩, hval, henc⟩ := gm_entry HGM.out (by simpa using he)
      have hlen := hran.len
      rw [List.length_append, List.length_singleton, HESN.out] at hlen
      obtain ⟨l, hl⟩ : ∃ l, L.length = l := ⟨_, rfl⟩
      rw [hl] at hlen ⊢
      have hln : l < n := by omega
      have KR3 := Lib.hid (KR2.out.same (hg.block blk (by have := heap_lt KB2.out; omega) (fun q => by have := Option.some.inj q; omega)))
      have kb3 := (hg.block (blk + 1) (heap_lt KB2.out) (fun q => by have := Option.some.inj q; omega)).trans KB2.out
      have KB3' := Lib.hid kb3
      have c4 := cell_of kb3 0 rfl
      obtain ⟨⟨v1, hv1⟩, ⟨v2, hv2⟩, hf1, hf2⟩ := KR3.out.slot (j := l) hln
      have RN3 := Lib.hid hran
      have HL := Lib.hid hl
      have HENC := Lib.hid henc
      have HG3 := Lib.hid hg
      rw [hsk] at hen
      have HSK := Lib.hid hsk
      have W5' := Lib.hid (W4'.out.turn hB (by omega) hg hbw hEw (fun c fz q => by obtain ⟨_, ⟨c0, q2, _⟩, _⟩ := RN2.out; rw [q2] at q; cases q))
      clear he hran hlen hl henc hg hsk kb3
      have HFIN : Hid (∀ v, e.val = v → LoopO1 r (blk + 2) clock clock (blk + 1) blk n es B b E (bs ++ 123 :: (encM (vs.take 0) (ks.take 0)).tail) w (.int .i64 ((l + 1 : Nat) : Int)) ((w'.setCell ⟨blk, l * 2, none⟩ (.string sk)).setCell ⟨blk, l * 2 + 1, none⟩ v)) := Lib.hid (fun v hv => by
        have hq := HENC.out
        unfold encKV at hq
        rw [HSK.out, hv] at hq
        simp only [List.cons.injEq, Value.string.injEq, and_true] at hq
        have hp := KR3.out.push (x := kvE e) (by rw [List.length_map, HL.out]; exact hln)
        rw [List.length_map, HL.out, hq.1, hq.2] at hp
        have g2 : w'.grownBy ((w'.setCell ⟨blk, l * 2, none⟩ (.string sk)).setCell ⟨blk, l * 2 + 1, none⟩ v) (some blk) := gr_set (gr_set ⟨rfl, rfl, rfl, Nat.le_refl _, fun _ _ _ => rfl⟩ _ _) _ _
        have ob : ∀ k, k ≠ blk → ((w'.setCell ⟨blk, l * 2, none⟩ (.string sk)).setCell ⟨blk, l * 2 + 1, none⟩ v).heap[k]? = w'.heap[k]? := fun k hk => (set_other _ _ hk).trans (set_other _ _ hk)
        refine ⟨L ++ [e], by rw [List.length_append, HL.out]; rfl, RN3.out.keep (ob r (by have := HRS.out; omega)) (ob _ (by omega)), by rw [List.map_append]; exact hp, (ob _ (by omega)).trans KB3'.out, W5'.out.turn hB hblw g2 hbw hEw (fun c fz q => ?_)⟩
        obtain ⟨cs, q1, _⟩ := KR3.out
        rw [q1] at q
        cases q)
      rcases hval with hval | ⟨tv, xv, hval⟩
      · have F := Lib.hid (HFIN.out _ hval)
        rw [hval] at hen
        clear hval
        go_wp2_with fail
        go_roundw
        case rel => rw [show ((l : Int) + 1) = ((l + 1 : Nat) : Int) by push_cast; rfl]; exact F.out
        case measure => simp [intOf]; have := HL.out; omega
      · have F := Lib.hid (HFIN.out _ hval)
        rw [hval] at hen
        clear hval
        go_wp2_with fail
        go_roundw
        case rel => rw [show ((l : Int) + 1) = ((l + 1 : Nat) : Int) by push_cast; rfl]; exact F.out
        case measure => simp [intOf]; have := HL.out; omega
end Go.Proofs.YtgjmgneppecfgaaGreatDoor.Mb
