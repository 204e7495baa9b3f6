/-
  THE WALK of listFromGo: given that fromGo serves each element.
-/
import Derived.Test.YtnlndpgbhmkanaaGreatDoorVaR
namespace Go.Proofs.YtnlndpgbhmkanaaGreatDoor.Va
open Go.RowKit
set_option linter.unusedVariables false
set_option linter.unusedSimpArgs false

theorem sets_other {w : World} {b b' : Nat} (v0 v1 v2 v3 v4 v5 : Value) (h : b' ≠ b) :
    ((((((w.setCell ⟨b, 0, none⟩ v0).setCell ⟨b, 1, none⟩ v1).setCell ⟨b, 2, none⟩ v2).setCell ⟨b, 3, none⟩ v3).setCell ⟨b, 4, none⟩ v4).setCell ⟨b, 5, none⟩ v5).heap[b']? = w.heap[b']? := by
  rw [set_other _ _ h, set_other _ _ h, set_other _ _ h, set_other _ _ h, set_other _ _ h, set_other _ _ h]

/-- fromGo serves x -/
def FG (x : V) : Prop := ∀ (g : Value) (S : Nat → Prop) (w : World), GV w S x g → (∀ b, S b → b < w.heap.size) → Calls Tryz.prog 86 #[g] w (FromGo x w)

theorem infoValue : (Tryz.prog.info? 27).map (fun i => (i.zero, i.size, i.bytes)) = some (some (.agg #[.int .i64 0, .int .i64 0, .string ⟨#[]⟩, .slice none 0 0, .slice none 0 0, .slice none 0 0]), 6, 104) := by kernel_rfl

def zero6 : Array Value := #[.int .i64 0, .int .i64 0, .string ⟨#[]⟩, .slice none 0 0, .slice none 0 0, .slice none 0 0]
def LoopF (l : List V) (w : World) (i : Value) (wr : World) : Prop :=
  ∃ (k : Nat) (ov : Value), i = .int .i64 k ∧ k ≤ l.length ∧ wr.heap[w.heap.size]? = some (.cells #[.int .i64 0, .int .i64 0, .string ⟨#[]⟩, .slice none 0 0, .slice none 0 0, .slice none 0 0] 27 (0, 0)) ∧
    wr.heap[w.heap.size + 1]? = some (.cells #[.int .i64 5, .int .i64 0, .string ⟨#[]⟩, ov, .slice none 0 0, .slice none 0 0] 27 (0, 0)) ∧ Rows (w.heap.size + 2) l k ov wr ∧ Below w.heap.size w wr

theorem loopF_start (l : List V) (w : World) : LoopF l w (.int .i64 0) ((w.alloc (.cells #[.int .i64 0, .int .i64 0, .string ⟨#[]⟩, .slice none 0 0, .slice none 0 0, .slice none 0 0] 27)).alloc (.cells #[.int .i64 5, .int .i64 0, .string ⟨#[]⟩, .slice none 0 0, .slice none 0 0, .slice none 0 0] 27)) :=
  ⟨0, _, rfl, Nat.zero_le _, block_past (block_new w _ _) _, by have := heap_alloc_new (w.alloc (.cells #[.int .i64 0, .int .i64 0, .string ⟨#[]⟩, .slice none 0 0, .slice none 0 0, .slice none 0 0] 27)) (.cells #[.int .i64 5, .int .i64 0, .string ⟨#[]⟩, .slice none 0 0, .slice none 0 0, .slice none 0 0] 27); rwa [World.size_alloc] at this, Rows.nil _ _ _, by go_grown⟩

/-- what listFromGo returns -/
def ListFromGo (l : List V) (w : World) (e : Ending) (w' : World) : Prop :=
  ∃ a c, e = .returned (.tuple #[.agg #[.int .i64 5, .int .i64 0, .string ⟨#[]⟩, .slice a l.length c, .slice none 0 0, .slice none 0 0], .bool true]) ∧ RL w' (fun r => w.heap.size ≤ r) l a ∧ Below w.heap.size w w'

theorem listFrom_tail {l : List V} {k : Nat} (hk : k < l.length) {ov v' : Value} {w wr W2 w3 : World} {zs : Array Value} {cs : List Value} {c0 c1 c2 c3 c4 c5 q0 q1 q2 q3 q4 q5 : Value}
    (h0 : W2.heap[w.heap.size]? = some (.cells zs 27 (0, 0))) (h1 : W2.heap[w.heap.size + 1]? = some (.cells #[q0, q1, q2, q3, q4, q5] 27 (0, 0)))
    (hown2 : W2.ownsRow (w.heap.size + 2) 27 6 ov k cs) (hch : ∀ i (hi : i < k) (hl : i < l.length), ∃ c0 c1 c2 c3 c4 c5, SixAt cs (i * 6) c0 c1 c2 c3 c4 c5 ∧ RV wr (fun r => w.heap.size + 2 ≤ r ∧ some r ≠ ov.ownBlock) l[i] (.agg #[c0, c1, c2, c3, c4, c5]))
    (hown : wr.ownsRow (w.heap.size + 2) 27 6 ov k cs) (hB : Below w.heap.size w wr) (hBW : Below wr.heap.size wr W2) (hbase : w.heap.size + 2 ≤ wr.heap.size)
    (hx : RV W2 (fun r => wr.heap.size ≤ r) l[k] (.agg #[c0, c1, c2, c3, c4, c5])) {o : Obj}
    (ha : Appended (W2.alloc o) (w.heap.size + 2) 27 6 ov k (cs ++ [c0, c1, c2, c3, c4, c5]) v' w3) :
    Hid (w3.heap[w.heap.size]? = some (.cells zs 27 (0, 0)) ∧ w3.heap[w.heap.size + 1]? = some (.cells #[q0, q1, q2, q3, q4, q5] 27 (0, 0)) ∧ Rows (w.heap.size + 2) l (k + 1) v' w3 ∧ Below w.heap.size w w3) ∧
      w3.cell? ⟨w.heap.size + 1, 3, none⟩ = some q3 ∧ w3.frozen? ⟨w.heap.size + 1, 3, none⟩ = false := by
  have hlt := hown.lt
  have hBa : Below wr.heap.size wr (W2.alloc o) := hBW.alloc hBW.size o
  have g0 : w3.heap[w.heap.size]? = some (.cells zs 27 (0, 0)) := (ha.grown.block _ (by simp; have := heap_lt h0; omega) (fun e => by have := hlt _ e.symm; omega)).trans (block_past h0 o)
  have g1 : w3.heap[w.heap.size + 1]? = some (.cells #[q0, q1, q2, q3, q4, q5] 27 (0, 0)) := (ha.grown.block _ (by simp; have := heap_lt h1; omega) (fun e => by have := hlt _ e.symm; omega)).trans (block_past h1 o)
  refine ⟨Lib.hid ⟨g0, g1, Rows.next hk hown hch hBa hbase (RV.mono (S := fun r => wr.heap.size ≤ r ∧ r < W2.heap.size) (Same.of_below (below_alloc W2 o) fun b hb => hb.2) (fun b hb => hb.1) _ _ (RV.lt _ _ hx)) ha, ?_⟩, cell_of g1 3 rfl, free_of g1 3⟩
  have hsz := hBa.size
  exact Below.grown (hB.trans (hBa.mono (by omega))) ha.grown (by omega) (fun j hj => by have := hlt j hj; omega)
theorem loopF_next {l : List V} {k : Nat} (hk : k < l.length) {v' q3 : Value} {w w3 : World}
    (h : w3.heap[w.heap.size]? = some (.cells #[.int .i64 0, .int .i64 0, .string ⟨#[]⟩, .slice none 0 0, .slice none 0 0, .slice none 0 0] 27 (0, 0)) ∧ w3.heap[w.heap.size + 1]? = some (.cells #[.int .i64 5, .int .i64 0, .string ⟨#[]⟩, q3, .slice none 0 0, .slice none 0 0] 27 (0, 0)) ∧ Rows (w.heap.size + 2) l (k + 1) v' w3 ∧ Below w.heap.size w w3) :
    LoopF l w (.int .i64 ((k : Int) + 1)) (w3.setCell ⟨w.heap.size + 1, 3, none⟩ v') := by
  obtain ⟨h0, h1, h2, h3⟩ := h
  exact ⟨k + 1, v', rfl, hk, (set_other 3 v' (by omega)).trans h0, set_block h1 3 v', h2.same (fun b hb _ => set_other 3 v' (by omega)), h3.setCell (Nat.le_succ _) _⟩

set_option maxHeartbeats 2000000 in
set_option maxRecDepth 100000 in
theorem listFromGo_any (l : List V) (H : ∀ x ∈ l, FG x) (n : Nat) (hn : l.length = n) (hmax : n ≤ 2147483647) (a : Option Addr) (c : Nat) (S : Nat → Prop) (w : World) (hl : GL w S l a) (hS : ∀ b, S b → b < w.heap.size) :
    Calls Tryz.prog 145 #[.slice a n c] w (ListFromGo l w) := by
  obtain ⟨i0, hi, hz0, hz1, hz2⟩ := info_parts infoValue
  have HI := Lib.hid hi
  have HZ0 := Lib.hid hz0
  have HZ1 := Lib.hid hz1
  have HZ2 := Lib.hid hz2
  have HL := Lib.hid hl
  have HS := Lib.hid hS
  have HH := Lib.hid H
  have HN := Lib.hid hn
  clear hi hz0 hz1 hz2 hl hS H hn
  go_enter Tryz.func145, Tryz.ntmps145
  go_wp2_with fail
  go_loopw [12] (LoopF l w) (fun i _ => n - (intOf i).toNat)
  case atStart => exact loopF_start l w
  case round =>
    obtain ⟨k, ov, rfl, hk, hb0, hb1, hr, hb⟩ := hrel
    have HR := Lib.hid hr
    have HB := Lib.hid hb
    have HB0 := Lib.hid hb0
    have HB1 := Lib.hid hb1
    rw [HN.out] at hk
    clear hr hb
    by_cases hlt : k < n
    · clear hb0 hb1
      obtain ⟨b, o, rfl⟩ := HL.out.addr (by rw [HN.out]; omega)
      obtain ⟨hSb, g, hc, hg⟩ := GL.at l b o HL.out k (by rw [HN.out]; exact hlt)
      have hsame : Same S w wr := Same.of_below HB.out HS.out
      have hc' := (hsame.cell hSb).trans hc
      have hg' := Lib.hid (GV.mono hsame (fun _ h => h) _ _ hg)
      have HSz := Lib.hid (fun b h => Nat.lt_of_lt_of_le (HS.out b h) HB.out.size)
      clear hc hg hsame
      go_wp2_with fail
      refine (HH.out _ (List.getElem_mem (by rw [HN.out]; exact hlt)) g S wr hg'.out HSz.out).mono ?_
      rintro e w2 ⟨v, rfl, hv, hb2⟩
      obtain ⟨la, lc, ka, kc, va, vc, t1, n1, tx, ls, ks', vs', rfl, HX⟩ := RV.parts hv
      have HB1' := Lib.hid (keep hb2 HB1.out)
      have HB0' := Lib.hid (keep hb2 HB0.out)
      have HB2 := Lib.hid hb2
      have hs2 := hb2.size
      have hsz : w.heap.size + 1 < wr.heap.size := heap_lt HB1.out
      clear hv hb2 hc'
      go_upto_region 8 with fail
      generalize hW : World.alloc w2 _ = W2
      have b1 := Lib.hid (hW ▸ below_alloc w2 _ : Below w2.heap.size w2 W2)
      have hN : W2.heap[w2.heap.size]? = _ := hW ▸ block_new w2 _ _
      have hN6 := cells6 hN
      have HB1'' := Lib.hid (keep b1.out HB1'.out)
      have HB0'' := Lib.hid (keep b1.out HB0'.out)
      have hO6 := cells6 HB1''.out
      have hs3 := b1.out.size
      obtain ⟨cs, hown, hch⟩ := HR.out
      have HOWN := Lib.hid hown
      have HCH := Lib.hid hch
      have BW := Lib.hid (HB2.out.trans (b1.out.mono hs2) : Below wr.heap.size wr W2)
      have HOW2 := Lib.hid (ownsRow_same hown (fun b hb => BW.out.block b (hown.lt b hb.symm).2))
      have HXW := Lib.hid (RV.mono (Same.of_below b1.out fun b hb => hb.2) (fun b hb => hb.1) _ _ (RV.lt _ _ HX.out))
      clear hW hN hown hch
      go_wp2_with (at_builtin; refine wpList_append_one _ rfl _ _ 22 rfl (w.heap.size + 2) 27 i0 _ 6 104 Tryz.underlying22 HI.out HZ0.out HZ1.out HZ2.out rfl (by decide) _ _ _ rfl (HOW2.out.alloc _) ⟨W2.heap.size, 0, none⟩ 1 (six t1 n1 tx la ls lc ka ks' kc va vs' vc) rfl rfl (cell_new W2 _ _) (six_one _ _ _ _ _ _ _ _ _ _ _ _) (by unfold maxLen; omega) (by omega) (by simp; omega) ?_; intro v' w3 hap
                   obtain ⟨F, hf0, hf1⟩ := listFrom_tail (by rw [HN.out]; exact hlt) HB0''.out HB1''.out HOW2.out HCH.out HOWN.out HB.out BW.out (by omega) HXW.out hap
                   obtain ⟨vg, vcap, rfl⟩ := hap.made
                   clear hap)
      go_roundw
      case rel => exact loopF_next (by rw [HN.out]; exact hlt) F.out
      case measure => simp [intOf]; omega
    · obtain rfl : k = n := by omega
      have HRD := Lib.hid HR.out
      rw [← HN.out] at HRD
      obtain ⟨ra, rc, rfl, HD⟩ := HRD.out.done
      have HD' := Lib.hid HD
      have c0 := cells6 hb0
      have c1 := cells6 hb1
      clear hb0 hb1 HD
      go_wp2_with fail
      refine bodyPost_ret (v := .tuple #[.agg #[.int .i64 5, .int .i64 0, .string ⟨#[]⟩, .slice ra l.length rc, .slice none 0 0, .slice none 0 0], .bool true]) (by simp [results, Tryz.results145, go_sem, *]) rfl ⟨ra, rc, rfl, ?_, ?_⟩
      · refine RL.mono (S := fun r => w.heap.size + 2 ≤ r) (fun b hb => ?_) (fun b hb => by show _ ≤ b; omega) _ _ HD'.out
        exact sets_other _ _ _ _ _ _ (by omega)
      · exact sets6 HB.out (Nat.le_refl _) _ _ _ _ _ _

end Go.Proofs.YtnlndpgbhmkanaaGreatDoor.Va
