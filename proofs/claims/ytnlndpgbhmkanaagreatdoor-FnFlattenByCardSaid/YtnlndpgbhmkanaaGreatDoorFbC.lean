/-
  THE WALK of Vague: nothing of a right value is unsaid.
-/
import Derived.Test.YtnlndpgbhmkanaaGreatDoorVaV
namespace Go.Proofs.YtnlndpgbhmkanaaGreatDoor.Va
open Go.RowKit
set_option linter.unusedVariables false
set_option linter.unusedSimpArgs false

/-- Vague finds nothing in x -/
def VG (x : V) : Prop := ∀ (v : Value) (S : Nat → Prop) (w : World), RV w S x v → (∀ b, S b → b < w.heap.size) → Calls Tryz.prog 32 #[v] w (Ret (.bool false) w)


set_option maxHeartbeats 4000000 in
set_option maxRecDepth 100000 in
theorem vague_any (k h : Int) (hk : ¬ k = 7) (t : ByteArray) (ls vs : List V) (H1 : ∀ x ∈ ls, VG x) (H2 : ∀ x ∈ vs, VG x) (n1 n2 n3 : Nat) (hn1 : ls.length = n1) (hn3 : vs.length = n3) (hq1 : n1 ≤ 140737488355328) (hq3 : n3 ≤ 140737488355328)
    (la ka va : Option Addr) (lc kc vc : Nat) (S : Nat → Prop) (w : World) (hl : RL w S ls la) (hv : RL w S vs va) (hS : ∀ b, S b → b < w.heap.size) :
    Calls Tryz.prog 32 #[.agg #[.int .i64 k, .int .i64 h, .string t, .slice la n1 lc, .slice ka n2 kc, .slice va n3 vc]] w (Ret (.bool false) w) := by
  have HH1 := Lib.hid H1
  have HH2 := Lib.hid H2
  have HN1 := Lib.hid hn1
  have HN3 := Lib.hid hn3
  have HL := Lib.hid hl
  have HV := Lib.hid hv
  have HS := Lib.hid hS
  clear H1 H2 hn1 hn3 hl hv hS
  go_enter Tryz.func32, Tryz.ntmps32
  go_wp2_with fail
  generalize hW0 : World.alloc w _ = W0
  have B0 := Lib.hid (hW0 ▸ below_alloc w _ : Below w.heap.size w W0)
  have Z0 := Lib.hid (hW0 ▸ block_new w _ _ : W0.heap[w.heap.size]? = some (.cells #[.int .i64 k, .int .i64 h, .string t, .slice la n1 lc, .slice ka n2 kc, .slice va n3 vc] 27 (0, 0)))
  clear hW0
  go_loopw [10] (fun i wr => LoopC n1 w i wr ∧ wr.heap[w.heap.size]? = some (.cells #[.int .i64 k, .int .i64 h, .string t, .slice la n1 lc, .slice ka n2 kc, .slice va n3 vc] 27 (0, 0))) (fun i _ => n1 - (intOf i).toNat)
  case atStart => exact ⟨⟨0, rfl, Nat.zero_le _, B0.out⟩, Z0.out⟩
  case round =>
    obtain ⟨⟨i, rfl, hi, hb⟩, hz⟩ := hrel
    have HB := Lib.hid hb
    have HZ := Lib.hid hz
    clear hb hz
    by_cases hlt : i < n1
    · obtain ⟨b, o, rfl⟩ := HL.out.addr (by rw [HN1.out]; omega)
      (obtain ⟨hSb, c0, c1, c2, c3, c4, c5, h6, hv⟩ := RL.at _ b o HL.out i (by rw [HN1.out]; exact hlt)
       have hsame := Same.of_below HB.out HS.out
       have h6' := Six.mono hsame hSb h6
       have hv' := RV.mono hsame (fun _ h => h) _ _ hv
       obtain ⟨xla, xlc, xka, xkc, xva, xvc, t0, n0, tx, xls, xks, xvs, e, HX⟩ := RV.parts hv'
       simp only [Value.agg.injEq, Array.mk.injEq, List.cons.injEq, and_true] at e
       obtain ⟨rfl, rfl, rfl, rfl, rfl, rfl⟩ := e
       clear hv hv' h6 hsame hSb
       unfold Six at h6'
       go_wp2_with fail
       generalize hW : World.alloc wr _ = W
       have b1 : Below wr.heap.size wr W := hW ▸ below_alloc wr _
       have B1 := Lib.hid (HB.out.trans (b1.mono HB.out.size))
       have HXW := Lib.hid (RV.mono (Same.of_below b1 fun b h => Nat.lt_of_lt_of_le (HS.out b h) HB.out.size) (fun _ h => h) _ _ HX.out)
       have HZ1 := Lib.hid (keep b1 HZ.out)
       clear hW h6' b1
       refine (HH1.out _ (List.getElem_mem (by rw [HN1.out]; exact hlt)) _ S W HXW.out (fun b h => Nat.lt_of_lt_of_le (HS.out b h) B1.out.size)).mono ?_
       rintro e w2 ⟨rfl, hb2⟩
       have B2 := Lib.hid (B1.out.trans (hb2.mono B1.out.size))
       have HZ2 := Lib.hid (keep hb2 HZ1.out)
       clear hb2
       go_wp2_with fail
       go_roundw
       case rel => exact ⟨⟨i + 1, rfl, hlt, B2.out⟩, HZ2.out⟩
       case measure => simp [intOf]; omega)
    · obtain rfl : n1 = i := by omega
      have hc := cells6 HZ.out
      go_wp2_with fail
      clear hc
      go_loopw [20] (fun i wr => LoopC n3 w i wr ∧ wr.heap[w.heap.size]? = some (.cells #[.int .i64 k, .int .i64 h, .string t, .slice la n1 lc, .slice ka n2 kc, .slice va n3 vc] 27 (0, 0))) (fun i _ => n3 - (intOf i).toNat)
      case atStart => exact ⟨⟨0, rfl, Nat.zero_le _, HB.out⟩, HZ.out⟩
      case round =>
        obtain ⟨⟨i, rfl, hi, hb⟩, hz⟩ := hrel
        have HB := Lib.hid hb
        have HZ := Lib.hid hz
        clear hb hz
        by_cases hlt : i < n3
        · obtain ⟨b, o, rfl⟩ := HV.out.addr (by rw [HN3.out]; omega)
          (obtain ⟨hSb, c0, c1, c2, c3, c4, c5, h6, hv⟩ := RL.at _ b o HV.out i (by rw [HN3.out]; exact hlt)
           have hsame := Same.of_below HB.out HS.out
           have h6' := Six.mono hsame hSb h6
           have hv' := RV.mono hsame (fun _ h => h) _ _ hv
           obtain ⟨xla, xlc, xka, xkc, xva, xvc, t0, n0, tx, xls, xks, xvs, e, HX⟩ := RV.parts hv'
           simp only [Value.agg.injEq, Array.mk.injEq, List.cons.injEq, and_true] at e
           obtain ⟨rfl, rfl, rfl, rfl, rfl, rfl⟩ := e
           clear hv hv' h6 hsame hSb
           unfold Six at h6'
           go_wp2_with fail
           generalize hW : World.alloc wr _ = W
           have b1 : Below wr.heap.size wr W := hW ▸ below_alloc wr _
           have B1 := Lib.hid (HB.out.trans (b1.mono HB.out.size))
           have HXW := Lib.hid (RV.mono (Same.of_below b1 fun b h => Nat.lt_of_lt_of_le (HS.out b h) HB.out.size) (fun _ h => h) _ _ HX.out)
           have HZ1 := Lib.hid (keep b1 HZ.out)
           clear hW h6' b1
           refine (HH2.out _ (List.getElem_mem (by rw [HN3.out]; exact hlt)) _ S W HXW.out (fun b h => Nat.lt_of_lt_of_le (HS.out b h) B1.out.size)).mono ?_
           rintro e w2 ⟨rfl, hb2⟩
           have B2 := Lib.hid (B1.out.trans (hb2.mono B1.out.size))
           have HZ2 := Lib.hid (keep hb2 HZ1.out)
           clear hb2
           go_wp2_with fail
           go_roundw
           case rel => exact ⟨⟨i + 1, rfl, hlt, B2.out⟩, HZ2.out⟩
           case measure => simp [intOf]; omega)
        · obtain rfl : n3 = i := by omega
          have hc := cells6 HZ.out
          go_wp2_with fail
          go_returns
          exact ⟨by simp [hk], HB.out⟩

theorem vague_good : ∀ (n : Nat) (x : V), x.size ≤ n → n ≤ 2147483647 → Good x → VG x
  | 0, x, h, _, _ => by have := size_pos x; omega
  | n + 1, .mk k h t ls ks vs, hsz, hn, hg => by
    intro v S w hv hS
    rw [RV] at hv
    rw [Good] at hg
    obtain ⟨g1, gl, gr, gv⟩ := hg
    rw [V.size] at hsz
    obtain ⟨la, lc, ka, kc, va, vc, rfl, h1, h2, h3⟩ := hv
    have hls := length_le ls
    have hvs := length_le vs
    have k6 := g1.k6
    exact vague_any k h (by omega) t ls vs (fun x hx => vague_good n x (by have := size_mem hx; omega) (by omega) (gl.mem x hx)) (fun x hx => vague_good n x (by have := size_mem hx; omega) (by omega) (gv.mem x hx)) _ _ _ rfl rfl (by omega) (by omega) la ka va lc kc vc S w h1 h3 hS

end Go.Proofs.YtnlndpgbhmkanaaGreatDoor.Va
