/-
  THE WALK of text.
-/
import Derived.Test.YtgjmgneppecfgaaGreatDoorQ09
import Derived.Test.YtgjmgneppecfgaaGreatDoorQ07
import Derived.Test.YtgjmgneppecfgaaGreatDoorQ01
import Derived.Laws.OwnMore
import Derived.Laws.Slices
set_option linter.unusedVariables false
set_option linter.unusedSimpArgs false
namespace Go.Proofs.YtgjmgneppecfgaaGreatDoor.Pa
open Go.RowKit Go.Proofs.YtgjmgneppecfgaaGreatDoor.Va Go.Proofs.YtgjmgneppecfgaaGreatDoor.Ba Go.Proofs.YtgjmgneppecfgaaGreatDoor.Ma
set_option linter.unusedVariables false
set_option linter.unusedSimpArgs false

theorem gr_dn {w w' : World} {r : Option Nat} (n : Nat) (h : (w.drewN n).grownBy w' r) : w.grownBy w' r := ⟨h.os, h.tape, h.output, h.size, h.block⟩
theorem gr_dn2 {w w' : World} {r : Option Nat} (n : Nat) (h : Below (w.drewN n).heap.size (w.drewN n) w') : w.grownBy w' r := ⟨h.os, h.tape, h.output, h.size, fun k hk _ => h.block k hk⟩
theorem bytesN_app (a b : ByteArray) : bytesN (a ++ b) = bytesN a ++ bytesN b := by
  unfold bytesN
  rw [← List.map_append]
  congr 1
theorem bytesN_one (c : Nat) (h : c < 256) : bytesN (numS [c]) = [c] := bytesN_numS' [c] (fun x hx => by simp at hx; omega)
theorem escL_ge : ∀ l : List Nat, l.length ≤ (escL l).length
  | [] => by simp
  | c :: l => by
    have := escL_ge l
    rw [escL_cons, List.length_append, List.length_cons]
    have : 1 ≤ (escB c).length := by
      rcases escB_cases c with ⟨_, he, _⟩ | ⟨_, q, he, _⟩
      · rw [he]; simp
      · rw [he]; simp
    omega
/-- what text leaves -/
def TextEnd (L : Nat) (s : ByteArray) (A : Nat) (t : ByteArray) (w : World) (e : Ending) (w' : World) : Prop :=
  ∃ (o : ByteArray) (A' : Nat) (bad : Bool), e = .returned (.string o) ∧ A' ≤ s.size + 1 ∧ PB L s A' bad w' ∧ w.grownBy w' (some L) ∧ (bad = false → o = t ∧ A' = A + (Ma.encStr (bytesN t)).length)
def LoopX (L : Nat) (s : ByteArray) (A : Nat) (t : ByteArray) (w : World) (gh : Nat) (ov : Value) (wr : World) : Prop :=
  ∃ (o : ByteArray) (A' i : Nat) (bad : Bool), ov = .string o ∧ gh = s.size + 2 - A' ∧ A' ≤ s.size + 1 ∧ PB L s A' bad wr ∧ w.grownBy wr (some L) ∧ (bad = false → A' = posT A (bytesN t) i ∧ i ≤ (bytesN t).length ∧ bytesN o = (bytesN t).take i)
theorem conv_one (c : Nat) (hc : c < 256) (W : World) (q : Nat) (hq : W.heap.size = q) : (convert 73 9 (.slice (some ⟨q, 0, none⟩) 1 1)).run Tryz.prog (W.alloc (.cells #[.int .u8 (c : Int)] 5)) = .ok (.string (numS [c])) (W.alloc (.cells #[.int .u8 (c : Int)] 5)) := by
  subst hq
  exact run_convert_bytes_arg (P := Tryz.prog) (w := W.alloc (.cells #[.int .u8 (c : Int)] 5)) 73 5 Tryz.underlying73 Tryz.underlying5 W.heap.size 0 1 1 [(c : Int)] rfl
    (fun i hi => by
      obtain rfl : i = 0 := by omega
      exact cell_of (block_new W _ _) 0 rfl) 9 Tryz.underlying9
set_option maxHeartbeats 4000000 in
set_option maxRecDepth 100000 in
theorem ptext_any {L : Nat} {s : ByteArray} {A : Nat} {w : World} (h : PB L s A false w) (hs : s.size ≤ 70368744177664) (t : ByteArray) (R : List Nat) (hd : (bytesN s).drop A = Ma.encStr (bytesN t) ++ R) :
    Calls Tryz.prog 95 #[.pointer (some ⟨L, 0, none⟩)] w (TextEnd L s A t w) := by
  have H := Lib.hid h
  have HD := Lib.hid hd
  have hA : s.size = A + (Ma.encStr (bytesN t) ++ R).length := drop_size hd (by simp [Ma.encStr])
  have h34 : byt s A = 34 := by rw [← Nat.add_zero A, byt_drop, hd]; rfl
  have H34 := Lib.hid h34
  have hAs : A + 1 ≤ s.size := by rw [hA, List.length_append]; unfold Ma.encStr; simp; omega
  clear h hd hA h34
  go_enter Tryz.func95, Tryz.ntmps95
  go_wp2_with fail
  refine (ptake_any 34 (by omega) H.out (by omega) (by omega)).mono ?_
  rintro e w1 ⟨rfl, A1, b1, h1, h2, h3, h4, h5, h6, h7⟩
  obtain rfl : b1 = false := h5 H34.out rfl
  obtain ⟨_, rfl⟩ := h4 (by rw [H34.out]; rfl) rfl
  have HP1 := Lib.hid h6
  have HG1 := Lib.hid h7
  clear h1 h2 h3 h4 h5 h6 h7
  go_wp2_with fail
  go_loopg [3] (s.size + 2 - (A + 1)) (fun gh ov wr => LoopX L s A t w gh ov wr)
  case atStart => exact ⟨⟨#[]⟩, A + 1, 0, false, rfl, rfl, by omega, HP1.out, HG1.out, fun _ => ⟨rfl, Nat.zero_le _, rfl⟩⟩
  case round =>
    obtain ⟨o, A', i, bad, rfl, rfl, hA', hp, hg, hgood⟩ := hrel
    have HP := Lib.hid hp
    have HG := Lib.hid hg
    have c1 := hp.cells
    clear hp hg
    cases bad
    · obtain ⟨hpos, hi, ho⟩ := hgood rfl
      have HPOS := Lib.hid hpos
      have HO := Lib.hid ho
      clear hgood hpos ho
      by_cases hlt : i < (bytesN t).length
      · obtain ⟨hq1, hq2⟩ := at_next HD.out i hlt
        obtain ⟨c, hc⟩ : ∃ c, (bytesN t)[i] = c := ⟨_, rfl⟩
        have hc256 : c < 256 := by rw [← hc]; exact bytesN_lt t _ (List.getElem_mem hlt)
        have htk : (bytesN t).take (i + 1) = (bytesN t).take i ++ [c] := by rw [List.take_succ_eq_append_getElem hlt, hc]
        rw [hc, ← HPOS.out] at hq1 hq2
        have HTK := Lib.hid htk
        have hos : o.size ≤ 70368744177664 := by
          have h1 : o.size = i := by rw [← bytesN_len, HO.out, List.length_take]; omega
          have h2 := drop_size hq1 (by simp; omega)
          have h3 : posT A (bytesN t) i = A + 1 + (escL ((bytesN t).take i)).length := rfl
          have h4 := escL_ge ((bytesN t).take i)
          rw [List.length_take] at h4
          have h5 := HPOS.out
          omega
        rcases escB_cases c with ⟨hp, he, n34, n92, g32, n127⟩ | ⟨hp, l, he, hk⟩
        · rw [he] at hq1 hq2
          have hb : byt s A' = c := by rw [← Nat.add_zero A', byt_drop, hq1]; rfl
          have hsz := drop_size hq1 (by simp)
          have hlt1 : A' + 1 < s.size := by rw [hsz]; simp <;> omega
          have HQ2 := Lib.hid hq2
          have HN : Hid (∀ W, PB L s A' false W → Calls Tryz.prog 94 #[.pointer (some ⟨L, 0, none⟩)] W (RetQ (.int .u8 (c : Int)) W)) := Lib.hid (fun W hW => by have := pnext_any hW; rw [hb] at this; exact this)
          have q34 : ((c : Int) != 34) = true := by simp; omega
          have q92 : ((c : Int) != 92) = true := by simp; omega
          have q127 : ((c : Int) == 127) = false := by simp; omega
          have q32 : (32 : Int) ≤ (c : Int) := by omega
          clear hq1 hq2 hb hsz htk he hc n34 n92 n127
          go_wp2_with fail
          refine Calls.mono (HN.out _ ?_) ?_
          focus exact HP.out
          rintro e _ ⟨rfl, m1, rfl⟩
          go_wp2_with fail
          refine Calls.mono (HN.out _ ?_) ?_
          focus exact HP.out
          rintro e _ ⟨rfl, m2, rfl⟩
          go_wp2_with fail
          go_quiet (fail)
          have hos2 : o.size + (numS [c]).size ≤ 140737488355328 := by rw [numS_size]; simp; omega
          have hcv := conv_one c hc256 (((wr.drewN (m1 + m2)).setCell ⟨L, 1, none⟩ (.int .i64 ((A' : Int) + 1))).drewN nq) wr.heap.size (by simp)
          go_wp2_with fail
          go_roundg (s.size + 2 - (A' + 1))
          case rel => exact ⟨_, A' + 1, i + 1, false, rfl, rfl, by omega, block_past (HP.out.set1 (A' + 1) : _) _, gr_trans HG.out (gr_trans (gr_ds (m1 + m2) L 1 _) (gr_dn2 nq (below_alloc _ _))), fun _ => ⟨HQ2.out.symm, hlt, by rw [HTK.out, bytesN_app, HO.out, bytesN_one c hc256]⟩⟩
          case measure => omega
        · rw [he] at hq1 hq2
          have hb : byt s A' = 92 := by rw [← Nat.add_zero A', byt_drop, hq1]; rfl
          have hb1 : byt s (A' + 1) = escK c := by rw [byt_drop, hq1]; rfl
          have hsz := drop_size hq1 (by simp)
          have hlt1 : A' + 1 < s.size := by rw [hsz]; simp <;> omega
          have HQ2 := Lib.hid hq2
          have HN : Hid (∀ W, PB L s A' false W → Calls Tryz.prog 94 #[.pointer (some ⟨L, 0, none⟩)] W (RetQ (.int .u8 (92 : Int)) W)) := Lib.hid (fun W hW => by have := pnext_any hW; rw [hb] at this; exact this)
          obtain ⟨x, hx⟩ : ∃ x, s.extract (A' + 1) (A' + 2) = x := ⟨_, rfl⟩
          have hxb : bytesN x = [escK c] := by
            rw [← hx, Mb.bytesN_extract2, List.drop_take, show A' + 2 - (A' + 1) = 1 by omega, ← List.drop_drop, hq1]
            rfl
          have FT := Lib.hid (find_tab x (escK c) hxb)
          unfold tab8 at FT
          obtain ⟨r, hr⟩ : ∃ r, idx8 (escK c) = r := ⟨_, rfl⟩
          rw [hr] at FT hk
          have FT2 := FT.out
          have w2 : IntKind.i64.wrap ((A' : Int) + 1 + 1) = (A' : Int) + 2 := by rw [IntKind.wrap_i64]; omega
          have w3 : (0 : Int) ≤ (A' : Int) + 2 := by omega
          have w4 : (A' : Int) + 2 ≤ (s.size : Int) := by omega
          have w5 : (0 : Int) ≤ (A' : Int) + 1 := by omega
          have w6 : (A' : Int) + 1 ≤ (A' : Int) + 2 := by omega
          have w7 : ((A' : Int) + 2).toNat = A' + 2 := by omega
          clear hq1 hq2 hb hb1 hsz htk he hc hxb hr
          rcases hk with rfl | ⟨rfl, j, rfl, hj8, hjb⟩
          · go_wp2_with fail
            refine Calls.mono (HN.out _ ?_) ?_
            focus exact HP.out
            rintro e _ ⟨rfl, m1, rfl⟩
            go_wp2_with fail
            refine Calls.mono (HN.out _ ?_) ?_
            focus exact HP.out
            rintro e _ ⟨rfl, m2, rfl⟩
            go_wp2_with fail
            go_quiet (fail)
            go_wp2_with fail
            go_quiet ((refine (FT.out _).mono ?_; rintro _ _ ⟨rfl, rfl⟩; exact ⟨rfl, _, rfl⟩))
            go_wp2_with fail
            go_roundg (s.size + 2 - (A' + 2))
            case rel => exact ⟨o, A' + 2, i, true, rfl, rfl, by omega, (((HP.out.set1 (A' + 1)).set1 (A' + 2)).set2 true : _), gr_trans HG.out (gr_trans (gr_ds (m1 + m2) L 1 _) (gr_trans (gr_ds _ L 1 _) (Va.gr_set _ L 2 _))), fun q => by cases q⟩
            case measure => omega
          · have hos2 : o.size + (out8.extract j (j + 1)).size ≤ 140737488355328 := by
              have : (out8.extract j (j + 1)).size = 1 := by rw [← bytesN_len, hjb]; rfl
              omega
            unfold out8 at hjb hos2
            have HJB := Lib.hid hjb
            clear hjb
            go_wp2_with fail
            refine Calls.mono (HN.out _ ?_) ?_
            focus exact HP.out
            rintro e _ ⟨rfl, m1, rfl⟩
            go_wp2_with fail
            refine Calls.mono (HN.out _ ?_) ?_
            focus exact HP.out
            rintro e _ ⟨rfl, m2, rfl⟩
            go_wp2_with fail
            go_quiet (fail)
            go_wp2_with fail
            go_quiet ((refine (FT.out _).mono ?_; rintro _ _ ⟨rfl, rfl⟩; exact ⟨rfl, _, rfl⟩))
            go_wp2_with fail
            go_roundg (s.size + 2 - (A' + 2))
            case rel => exact ⟨_, A' + 2, i + 1, false, rfl, rfl, by omega, ((HP.out.set1 (A' + 1)).set1 (A' + 2) : _), gr_trans HG.out (gr_trans (gr_ds (m1 + m2) L 1 _) (gr_ds _ L 1 _)), fun _ => ⟨by rw [HQ2.out]; rfl, hlt, by rw [HTK.out, bytesN_app, HO.out, HJB.out]⟩⟩
            case measure => omega
      · have hie : i = (bytesN t).length := by omega
        have hq := at_i HD.out i
        rw [hie, List.drop_length, ← hie, ← HPOS.out] at hq
        have hb : byt s A' = 34 := by rw [← Nat.add_zero A', byt_drop, hq]; rfl
        have HB := Lib.hid hb
        have HN : Hid (∀ W, PB L s A' false W → Calls Tryz.prog 94 #[.pointer (some ⟨L, 0, none⟩)] W (RetQ (.int .u8 (34 : Int)) W)) := Lib.hid (fun W hW => by have := pnext_any hW; rw [hb] at this; exact this)
        clear hb hq
        go_wp2_with fail
        refine Calls.mono (HN.out _ ?_) ?_
        focus exact HP.out
        rintro e _ ⟨rfl, _, rfl⟩
        go_wp2_with fail
        refine Calls.mono (ptake_any (A := A') (bad := false) 34 (by omega) ?_ (by omega) hA') ?_
        focus exact HP.out
        rintro e w3 ⟨rfl, A3, b3, h1, h2, h3, h4, h5, h6, h7⟩
        have HG3 := Lib.hid (gr_trans HG.out (gr_dn _ h7))
        have HP3 := Lib.hid h6
        have hb3 : b3 = false := h5 HB.out rfl
        obtain ⟨_, hA3⟩ := h4 (by rw [HB.out]; rfl) hb3
        have HA3 := Lib.hid hA3
        clear h1 h2 h3 h4 h5 h6 h7 hA3
        go_wp2_with fail
        go_returns
        refine ⟨o, A3, b3, rfl, by have := HA3.out; have := byt_lt (s := s) (A := A') (by rw [HB.out]; omega); omega, HP3.out, HG3.out, fun _ => ⟨bytes_inj (by rw [HO.out, hie, List.take_length]), ?_⟩⟩
        rw [HA3.out, HPOS.out, hie]
        unfold posT Ma.encStr
        rw [List.take_length]
        simp
        omega
    · clear hgood
      go_wp2_with fail
      refine (ptake_any 34 (by omega) HP.out (by omega) hA').mono ?_
      rintro e w3 ⟨rfl, A3, b3, h1, h2, h3, h4, h5, h6, h7⟩
      have HG3 := Lib.hid (gr_trans HG.out h7)
      have HP3 := Lib.hid h6
      have hb3 : b3 = true := by
        cases b3
        · have := h3 rfl
          cases this
        · rfl
      clear h3 h4 h5 h6 h7
      go_wp2_with fail
      go_returns
      exact ⟨o, A3, b3, rfl, by omega, HP3.out, HG3.out, fun q => by rw [hb3] at q; cases q⟩
end Go.Proofs.YtgjmgneppecfgaaGreatDoor.Pa
/-
  THE WALKS of place and Has.
-/
namespace Go.Proofs.YtgjmgneppecfgaaGreatDoor.Pa
open Go.RowKit Go.Proofs.YtgjmgneppecfgaaGreatDoor.Va Go.Proofs.YtgjmgneppecfgaaGreatDoor.Ba Go.Proofs.YtgjmgneppecfgaaGreatDoor.Ma
set_option linter.unusedVariables false
set_option linter.unusedSimpArgs false

def lessB (a b : ByteArray) : Bool := Op.bytesLess a.toList b.toList
def PlaceEnd (ks : List ByteArray) (key : ByteArray) (w : World) (e : Ending) (w' : World) : Prop :=
  ∃ (i : Nat) (is : Bool), e = .returned (.tuple #[.int .i64 (i : Int), .bool is]) ∧ Below w.heap.size w w' ∧ i ≤ ks.length ∧ (is = true → i < ks.length) ∧ ((∀ k ∈ ks, lessB k key = true) → i = ks.length ∧ is = false)
def LoopP (n : Nat) (W : World) (iv : Value) (wr : World) : Prop := ∃ i : Nat, iv = .int .i64 (i : Int) ∧ i ≤ n ∧ W = wr
set_option maxHeartbeats 4000000 in
set_option maxRecDepth 100000 in
theorem place_any (k h : Int) (t key : ByteArray) (la ka va : Option Addr) (n1 lc n2 kc n3 vc : Nat) (ks : List ByteArray) (hn : ks.length = n2) (hq : n2 ≤ 140737488355328) (S : Nat → Prop) (w : World) (hk : RK w S ks ka) (hS : ∀ b, S b → b < w.heap.size) :
    Calls Tryz.prog 171 #[.agg #[.int .i64 k, .int .i64 h, .string t, .slice la n1 lc, .slice ka n2 kc, .slice va n3 vc], .string key] w (PlaceEnd ks key w) := by
  have HK := Lib.hid hk
  have HS := Lib.hid hS
  have HN := Lib.hid hn
  clear hk hS hn
  go_enter Tryz.func171, Tryz.ntmps171
  go_wp2_with fail
  generalize hW : World.alloc w _ = W
  have B1 := Lib.hid (hW ▸ below_alloc w _ : Below w.heap.size w W)
  have z : W.heap[w.heap.size]? = some (.cells #[.int .i64 k, .int .i64 h, .string t, .slice la n1 lc, .slice ka n2 kc, .slice va n3 vc] 27 (0, 0)) := hW ▸ block_new w _ _
  clear hW
  have hc := cells6 z
  go_loopw [6] (LoopP n2 W) (fun iv _ => n2 - (intOf iv).toNat)
  case atStart => exact ⟨0, rfl, Nat.zero_le _, rfl⟩
  case round =>
    obtain ⟨i, rfl, hi, hw⟩ := hrel
    subst hw
    by_cases hlt : i < n2
    · obtain ⟨kb, ko, rfl⟩ := HK.out.addr (by rw [HN.out]; omega)
      obtain ⟨hs, hcell⟩ := RK.at ks kb ko HK.out i (by rw [HN.out]; exact hlt)
      have hcx : W.cell? ⟨kb, ko + i, none⟩ = some (.string (ks[i]'(by rw [HN.out]; exact hlt))) := ((Same.of_below B1.out HS.out).cell hs).trans hcell
      have hmem : (ks[i]'(by rw [HN.out]; exact hlt)) ∈ ks := List.getElem_mem _
      obtain ⟨s, hs2⟩ : ∃ s, ks[i]'(by rw [HN.out]; exact hlt) = s := ⟨_, rfl⟩
      rw [hs2] at hcx hmem
      have HMEM := Lib.hid hmem
      clear hs hcell hmem hs2
      obtain ⟨bl, hbl⟩ : ∃ bl, Op.bytesLess s.toList key.toList = bl := ⟨_, rfl⟩
      cases bl
      · have HBL := Lib.hid hbl
        obtain ⟨eq, heq⟩ : ∃ eq, (s.toList == key.toList) = eq := ⟨_, rfl⟩
        go_wp2_with fail
        go_quiet (fail)
        go_wp2_with fail
        go_returns
        exact ⟨i, eq, rfl, ⟨B1.out.os, B1.out.tape, B1.out.output, B1.out.size, B1.out.block⟩, by rw [HN.out]; omega, fun _ => by rw [HN.out]; exact hlt, fun hall => by
          have := hall s HMEM.out
          unfold lessB at this
          rw [HBL.out] at this
          cases this⟩
      · go_wp2_with fail
        go_roundw
        case rel => exact ⟨i + 1, by push_cast; rfl, hlt, rfl⟩
        case measure => simp [intOf]; omega
    · go_wp2_with fail
      go_quiet (fail)
      go_wp2_with fail
      go_returns
      exact ⟨i, false, rfl, ⟨B1.out.os, B1.out.tape, B1.out.output, B1.out.size, B1.out.block⟩, by rw [HN.out]; omega, fun q => (by cases q), fun hall => ⟨by rw [HN.out]; omega, rfl⟩⟩
def HasEnd (ks : List ByteArray) (key : ByteArray) (w : World) (e : Ending) (w' : World) : Prop :=
  ∃ is : Bool, e = .returned (.bool is) ∧ Below w.heap.size w w' ∧ ((∀ k ∈ ks, lessB k key = true) → is = false)
set_option maxHeartbeats 2000000 in
set_option maxRecDepth 100000 in
theorem has_any (k h : Int) (t key : ByteArray) (la ka va : Option Addr) (n1 lc n2 kc n3 vc : Nat) (ks : List ByteArray) (hn : ks.length = n2) (hq : n2 ≤ 140737488355328) (S : Nat → Prop) (w : World) (hk : RK w S ks ka) (hS : ∀ b, S b → b < w.heap.size) :
    Calls Tryz.prog 129 #[.agg #[.int .i64 k, .int .i64 h, .string t, .slice la n1 lc, .slice ka n2 kc, .slice va n3 vc], .string key] w (HasEnd ks key w) := by
  have HK := Lib.hid hk
  have HS := Lib.hid hS
  have HN := Lib.hid hn
  clear hk hS hn
  go_enter Tryz.func129, Tryz.ntmps129
  go_wp2_with fail
  generalize hW : World.alloc w _ = W
  have B1 := Lib.hid (hW ▸ below_alloc w _ : Below w.heap.size w W)
  clear hW
  refine (place_any k h t key la ka va n1 lc n2 kc n3 vc ks HN.out hq S W (RK.mono (Same.of_below B1.out HS.out) (fun _ h => h) _ _ HK.out) (fun b h => Nat.lt_of_lt_of_le (HS.out b h) B1.out.size)).mono ?_
  rintro e w2 ⟨i, is, rfl, hb, h1, h2, h3⟩
  have B2 := Lib.hid (B1.out.trans (hb.mono B1.out.size))
  have H3 := Lib.hid h3
  clear hb h1 h2 h3
  go_wp2_with fail
  go_returns
  exact ⟨is, rfl, B2.out, fun q => (H3.out q).2⟩
end Go.Proofs.YtgjmgneppecfgaaGreatDoor.Pa
/-
  Plain: what is left of a list's or an object's text; the first byte of a value's text; a word's bytes.
-/
namespace Go.Proofs.YtgjmgneppecfgaaGreatDoor.Pa
open Go.RowKit Go.Proofs.YtgjmgneppecfgaaGreatDoor.Va Go.Proofs.YtgjmgneppecfgaaGreatDoor.Ba Go.Proofs.YtgjmgneppecfgaaGreatDoor.Ma
set_option linter.unusedVariables false
set_option linter.unusedSimpArgs false

def headR (R : List Nat) : Prop := R = [] ∨ ∃ c l, R = c :: l ∧ (c = 44 ∨ c = 93 ∨ c = 125)
/-- what is left behind i elements -/
def restC (ls : List V) (i : Nat) : List Nat := if i = 0 then (encC ls).tail else encC (ls.drop i)
def restM (vs : List V) (ks : List ByteArray) (i : Nat) : List Nat := if i = 0 then (encM vs ks).tail else encM (vs.drop i) (ks.drop i)
def comma (i : Nat) : List Nat := if 0 < i then [44] else []
theorem restC_at (ls : List V) (i : Nat) (h : i < ls.length) : restC ls i = comma i ++ (encJ ls[i] ++ restC ls (i + 1)) := by
  unfold restC comma
  rw [if_neg (Nat.succ_ne_zero i)]
  by_cases h0 : i = 0
  · subst h0
    rw [if_pos rfl, if_neg (Nat.lt_irrefl 0)]
    cases ls with
    | nil => simp at h
    | cons x xs => rw [encC]; simp
  · rw [if_neg h0, if_pos (by omega), List.drop_eq_getElem_cons h, encC]
    simp
theorem restC_end (ls : List V) : restC ls ls.length = [] := by
  unfold restC
  split
  · rename_i h
    rw [List.length_eq_zero_iff.1 h, encC]; rfl
  · rw [List.drop_length, encC]
theorem restC_head (ls : List V) (i : Nat) (R : List Nat) : headR (restC ls (i + 1) ++ 93 :: R) := by
  right
  unfold restC
  rw [if_neg (Nat.succ_ne_zero i)]
  cases ls.drop (i + 1) with
  | nil => rw [encC]; exact ⟨93, R, rfl, .inr (.inl rfl)⟩
  | cons x xs => rw [encC]; exact ⟨44, _, rfl, .inl rfl⟩
theorem restM_at (vs : List V) (ks : List ByteArray) (hl : ks.length = vs.length) (i : Nat) (h : i < vs.length) : restM vs ks i = comma i ++ (Ma.encStr (bytesN (ks[i]'(by omega))) ++ 58 :: (encJ vs[i] ++ restM vs ks (i + 1))) := by
  have h' : i < ks.length := by omega
  unfold restM comma
  rw [if_neg (Nat.succ_ne_zero i)]
  by_cases h0 : i = 0
  · subst h0
    rw [if_pos rfl, if_neg (Nat.lt_irrefl 0)]
    cases vs with
    | nil => simp at h
    | cons x xs => cases ks with
      | nil => simp at h'
      | cons k kk => rw [encM]; simp
  · rw [if_neg h0, if_pos (by omega), List.drop_eq_getElem_cons h, List.drop_eq_getElem_cons h', encM]
    simp
theorem restM_end (vs : List V) (ks : List ByteArray) (hl : ks.length = vs.length) : restM vs ks vs.length = [] := by
  unfold restM
  split
  · rename_i h
    rw [List.length_eq_zero_iff.1 h, encM]; rfl
  · rw [List.drop_length, encM]
theorem restM_head (vs : List V) (ks : List ByteArray) (i : Nat) (hl : ks.length = vs.length) (R : List Nat) : headR (restM vs ks (i + 1) ++ 125 :: R) := by
  right
  unfold restM
  rw [if_neg (Nat.succ_ne_zero i)]
  have hd : (ks.drop (i + 1)).length = (vs.drop (i + 1)).length := by rw [List.length_drop, List.length_drop, hl]
  cases hv : vs.drop (i + 1) with
  | nil => rw [encM]; exact ⟨125, R, rfl, .inr (.inr rfl)⟩
  | cons x xs => cases hk : ks.drop (i + 1) with
    | nil => rw [hv, hk] at hd; simp at hd
    | cons k kk => rw [encM]; exact ⟨44, _, rfl, .inl rfl⟩
/-- the first byte of a value's text -/
def headJ (c : Nat) : Prop := c = 110 ∨ c = 102 ∨ c = 116 ∨ c = 45 ∨ (48 ≤ c ∧ c < 58) ∨ c = 34 ∨ c = 91 ∨ c = 123
theorem headJ_ne {c : Nat} (h : headJ c) : blank c = false ∧ c ≠ 93 ∧ c ≠ 125 ∧ c ≠ 44 ∧ c ≠ 0 := by
  unfold headJ at h
  refine ⟨?_, by omega, by omega, by omega, by omega⟩
  unfold blank
  simp
  omega
theorem numJ_head (h : Int) : ∃ c t, numJ h = c :: t ∧ (c = 45 ∨ (48 ≤ c ∧ c < 58)) := by
  unfold numJ
  by_cases hn : h < 0
  · rw [if_pos hn]; exact ⟨45, _, rfl, .inl rfl⟩
  · rw [if_neg hn, List.nil_append]
    cases hd : digs (h.natAbs / 2) with
    | nil => exact absurd hd (by unfold digs; simp)
    | cons c t => exact ⟨c, _, rfl, .inr (digs_range _ c (by rw [hd]; exact List.mem_cons_self))⟩
theorem encJ_head (x : V) : ∃ c t, encJ x = c :: t ∧ headJ c := by
  obtain ⟨k, h, t, ls, ks, vs⟩ := x
  rw [encJ]
  unfold headJ
  split
  · exact ⟨110, _, rfl, by omega⟩
  split
  · exact ⟨102, _, rfl, by omega⟩
  split
  · exact ⟨116, _, rfl, by omega⟩
  split
  · obtain ⟨c, t, e, hc⟩ := numJ_head h
    exact ⟨c, t, e, by omega⟩
  split
  · exact ⟨34, _, rfl, by omega⟩
  split
  · exact ⟨91, _, rfl, by omega⟩
  · exact ⟨123, _, rfl, by omega⟩
/-- a byte of a word -/
def wordB (c : Nat) : Bool := (decide (97 ≤ c) && decide (c ≤ 122)) || (decide (48 ≤ c) && decide (c ≤ 57)) || c == 45 || c == 46
theorem numJ_word (h : Int) : ∀ x ∈ numJ h, wordB x = true := by
  intro x hx
  unfold numJ at hx
  rcases List.mem_append.1 hx with hx | hx
  · split at hx
    · simp at hx; subst hx; rfl
    · cases hx
  · rcases List.mem_append.1 hx with hx | hx
    · have := digs_range _ x hx
      unfold wordB
      simp
      omega
    · split at hx
      · cases hx
      · simp at hx
        rcases hx with rfl | rfl <;> rfl
theorem headR_byt {s : ByteArray} {A : Nat} {R : List Nat} (h : (bytesN s).drop A = R) (hr : headR R) : wordB (byt s A) = false := by
  rw [← Nat.add_zero A, byt_drop, h]
  rcases hr with rfl | ⟨c, l, rfl, hc⟩
  · rfl
  · show wordB c = false
    rcases hc with rfl | rfl | rfl <;> rfl
end Go.Proofs.YtgjmgneppecfgaaGreatDoor.Pa
/-
  The parser's contracts; Bool; value where the parser is bad already.
-/
namespace Go.Proofs.YtgjmgneppecfgaaGreatDoor.Pa
open Go.RowKit Go.Proofs.YtgjmgneppecfgaaGreatDoor.Va Go.Proofs.YtgjmgneppecfgaaGreatDoor.Ba Go.Proofs.YtgjmgneppecfgaaGreatDoor.Ma
set_option linter.unusedVariables false
set_option linter.unusedSimpArgs false

/-- the blocks that the parser does not turn -/
def SL (L : Nat) (w : World) (b : Nat) : Prop := b ≠ L ∧ b < w.heap.size
theorem rv_grown {L : Nat} {w w' : World} {y : V} {v : Value} (h : RV w (SL L w) y v) (g : w.grownBy w' (some L)) : RV w' (SL L w') y v :=
  RV.mono (S := SL L w) (fun b hb => g.block b hb.2 (fun e => hb.1 (Option.some.inj e))) (fun b hb => ⟨hb.1, Nat.lt_of_lt_of_le hb.2 g.size⟩) _ _ h
/-- what value, list and object leave -/
def VEnd (L : Nat) (s : ByteArray) (E : Nat) (x : V) (w : World) (e : Ending) (w' : World) : Prop :=
  ∃ (v : Value) (y : V) (A' : Nat) (bad : Bool), e = .returned v ∧ PB L s A' bad w' ∧ w.grownBy w' (some L) ∧ A' ≤ s.size + 1 ∧ RV w' (fun r => w.heap.size ≤ r) y v ∧ (bad = false → y = x ∧ A' = E)
/-- value reads x's text -/
def PW (x : V) : Prop := ∀ (deep : Int) (L : Nat) (s : ByteArray) (A : Nat) (R : List Nat) (w : World), 0 ≤ deep → deep ≤ 1000000 → PB L s A false w → (bytesN s).drop A = encJ x ++ R → headR R → s.size ≤ 70368744177664 → Calls Tryz.prog 45 #[.pointer (some ⟨L, 0, none⟩), .int .i64 deep] w (VEnd L s (A + (encJ x).length) x w)
def nullV : V := .mk 0 0 ⟨#[]⟩ [] [] []
theorem rv_plain (k h : Int) (t : ByteArray) (w : World) (S : Nat → Prop) (la ka va : Option Addr) (lc kc vc : Nat) : RV w S (.mk k h t [] [] []) (.agg #[.int .i64 k, .int .i64 h, .string t, .slice la 0 lc, .slice ka 0 kc, .slice va 0 vc]) := by
  rw [RV]
  exact ⟨la, lc, ka, kc, va, vc, rfl, by rw [RL]; trivial, trivial, by rw [RL]; trivial⟩
def boolT (b : Bool) : Int := if b then 2 else 1
set_option maxHeartbeats 400000 in
theorem sBool_any (b : Bool) (w : World) : Calls Tryz.prog 29 #[.bool b] w fun e w' => e = .returned (.agg #[.int .i64 (boolT b), .int .i64 0, .string ⟨#[]⟩, .slice none 0 0, .slice none 0 0, .slice none 0 0]) ∧ Below w.heap.size w w' := by
  cases b
  all_goals
    go_enter Tryz.func29, Tryz.ntmps29
    go_wp2_with fail
    go_returns
    exact ⟨rfl, by go_grown⟩
theorem pArray_any (w : World) (a : Option Addr) (n c : Nat) : Calls Tryz.prog 33 #[.slice a n c] w (Ret (.agg #[.int .i64 5, .int .i64 0, .string ⟨#[]⟩, .slice a n c, .slice none 0 0, .slice none 0 0]) w) := by
  go_enter Tryz.func33, Tryz.ntmps33
  go_wp2_with fail
  go_returns
  exact ⟨rfl, by go_grown⟩
end Go.Proofs.YtgjmgneppecfgaaGreatDoor.Pa
/-
  ROWS THAT GROW by several elements; rows of values whose parts lie in old memory.
-/
namespace Go.Proofs.YtgjmgneppecfgaaGreatDoor.Va
open Go.RowKit
set_option linter.unusedVariables false
set_option linter.unusedSimpArgs false

section
variable {P : Program} (w : World)
theorem append_where_m (base : Nat) (t ty e : TypeId) (i : TypeInfo) (z : Value) (size bytes : Nat) (ht : P.underlying t = some (.slice e)) (hi : P.info? e = some i) (hz : i.zero = some z)
    (hsize : i.size = size) (hby : i.bytes = bytes) (v : Value) (n m : Nat) (hm : 0 < m) (xs : List Value) (hown : w.ownsRow base e size v n xs)
    (a : Addr) (c : Nat) (news : List Value) (hl : news.length = m * size) (hnews : ∀ j u, news[j]? = some u → w.cell? (a.add j) = some u) (h1 : ∀ u ∈ news, u.oneCell' = true)
    (h63 : n + m ≤ maxLen) (hbytes : (n + m) * bytes ≤ 140737488355328) (v' : Value) (w' : World) (hr : (Builtin.append_ #[t, t] ty #[v, .slice (some a) m c]).run P w = .ok v' w') :
    (v'.ownBlock = v.ownBlock ∨ v'.ownBlock = some w.heap.size) ∧ ∃ g cap, v' = .slice (some ⟨g, 0, none⟩) (n + m) cap := by
  subst hsize
  subst hby
  have hsmall : n + m ≤ 9223372036854775807 := by simp only [maxLen] at h63; omega
  rcases hown.2 with ⟨rfl, rfl⟩ | ⟨g, cap, cur, rfl, hbg, hg, hnc, hcm, hcs, htake⟩
  · have hh := run_append_nil (P := P) w t ty e i z ht hi hz a m c news (by omega) hnews (by omega) (by omega) (by simp only [Nat.zero_add] at hbytes; omega)
    rw [hh] at hr
    cases hr
    exact ⟨.inr rfl, _, _, by rw [Nat.zero_add]⟩
  · by_cases hroom : n + m ≤ cap
    · have hfit : n * i.size + news.length ≤ cur.size := by
        rw [hl, hcs, ← Nat.add_mul]; exact Nat.mul_le_mul_right _ hroom
      have hh := run_append_room (P := P) w t ty e i ht hi g n cap cur hg a m c news (by omega) hnews h1 hroom hfit
      rw [hh] at hr
      cases hr
      exact ⟨.inl rfl, _, _, rfl⟩
    · have holds : ∀ j u, xs[j]? = some u → w.cell? ((⟨g, 0, none⟩ : Addr).add j) = some u := hown.cells (g := g) rfl
      have hh := run_append_grow (P := P) w t ty e i z ht hi hz ⟨g, 0, none⟩ n cap xs hown.1 holds a m c news (by omega) hnews (by omega) (by omega) (growslice_fits (by omega) hbytes)
      rw [hh] at hr
      cases hr
      exact ⟨.inr rfl, _, _, rfl⟩

/-- what an append of several elements leaves -/
structure AppendedM (w : World) (base : Nat) (e : TypeId) (size : Nat) (v : Value) (n m : Nat) (xs : List Value) (v' : Value) (w' : World) : Prop where
  owns : w'.ownsRow base e size v' (n + m) xs
  grown : w.grownBy w' v.ownBlock
  wher : v'.ownBlock = v.ownBlock ∨ v'.ownBlock = some w.heap.size
  made : ∃ g cap, v' = .slice (some ⟨g, 0, none⟩) (n + m) cap
theorem run_append_many (base : Nat) (t ty e : TypeId) (i : TypeInfo) (z : Value) (size bytes : Nat) (ht : P.underlying t = some (.slice e)) (hi : P.info? e = some i) (hz : i.zero = some z)
    (hsize : i.size = size) (hby : i.bytes = bytes) (hzs : z.cells.size = size) (hsz : 0 < size) (v : Value) (n m : Nat) (hm : 0 < m) (xs : List Value) (hown : w.ownsRow base e size v n xs)
    (a : Addr) (c : Nat) (news : List Value) (hl : news.length = m * size) (hnews : ∀ j u, news[j]? = some u → w.cell? (a.add j) = some u) (h1 : ∀ u ∈ news, u.oneCell' = true)
    (h63 : n + m ≤ maxLen) (hbytes : (n + m) * bytes ≤ 140737488355328) (hbase : base ≤ w.heap.size) :
    ∃ v' w', (Builtin.append_ #[t, t] ty #[v, .slice (some a) m c]).run P w = .ok v' w' ∧ AppendedM w base e size v n m (xs ++ news) v' w' := by
  obtain ⟨v', w', hr, h2, h3, _⟩ := run_append_own (P := P) w base t ty e i z size bytes ht hi hz hsize hby hzs hsz v n xs hown a m c news hl hnews h1 h63 hbytes hbase
  obtain ⟨h4, h5⟩ := append_where_m (P := P) w base t ty e i z size bytes ht hi hz hsize hby v n m hm xs hown a c news hl hnews h1 h63 hbytes v' w' hr
  exact ⟨v', w', hr, h2, h3, h4, h5⟩
theorem wpList_append_many {ops : Array Oper} {rest : List Oper} {o : Oper} {a : Act} {Q : Exit → Act → World → Prop} (hgd : o.guard = none) (s x : Operand) (t : TypeId)
    (ho : o.op = .call { callee := .builtin .append, args := #[s, x], argTypes := #[t, t] })
    (base : Nat) (e : TypeId) (i : TypeInfo) (z : Value) (size bytes : Nat) (ht : P.underlying t = some (.slice e)) (hi : P.info? e = some i) (hz : i.zero = some z)
    (hsize : i.size = size) (hby : i.bytes = bytes) (hzs : z.cells.size = size) (hsz : 0 < size)
    (v : Value) (n m : Nat) (hm : 0 < m) (xs : List Value) (hs : a.eval s = v) (hown : w.ownsRow base e size v n xs)
    (ad : Addr) (c : Nat) (news : List Value) (hx : a.eval x = .slice (some ad) m c) (hl : news.length = m * size) (hnews : ∀ j u, news[j]? = some u → w.cell? (ad.add j) = some u) (h1 : ∀ u ∈ news, u.oneCell' = true)
    (h63 : n + m ≤ maxLen) (hbytes : (n + m) * bytes ≤ 140737488355328) (hbase : base ≤ w.heap.size)
    (h : ∀ v' w', AppendedM w base e size v n m (xs ++ news) v' w' → wpList P ops Q rest (a.put o.dst v') w') : wpList P ops Q (o :: rest) a w :=
  wpList_plain hgd fun _ hK => by
    obtain ⟨v', w', hr, h2⟩ := run_append_many (P := P) w base t o.type e i z size bytes ht hi hz hsize hby hzs hsz v n m hm xs hown ad c news hl hnews h1 h63 hbytes hbase
    unfold Oper.wp execOp
    simp only [ho, resolve, invoke, builtin, Sem.run_bind, Sem.run_pure, Result.andThen_ok, List.map_toArray, List.map_cons, List.map_nil, hs, hx, hr]
    exact hK _ _ (h v' w' h2)
theorem wpList_append_none {ops : Array Oper} {rest : List Oper} {o : Oper} {a : Act} {Q : Exit → Act → World → Prop} (hgd : o.guard = none) (s x : Operand) (t : TypeId)
    (ho : o.op = .call { callee := .builtin .append, args := #[s, x], argTypes := #[t, t] })
    (base : Nat) (e : TypeId) (i : TypeInfo) (size : Nat) (ht : P.underlying t = some (.slice e)) (hi : P.info? e = some i) (hsize : i.size = size)
    (v : Value) (n : Nat) (xs : List Value) (hs : a.eval s = v) (hown : w.ownsRow base e size v n xs) (hx : a.eval x = .slice none 0 0)
    (h : wpList P ops Q rest (a.put o.dst v) w) : wpList P ops Q (o :: rest) a w :=
  wpList_plain hgd fun _ hK => by
    have hr := run_append_owned_none (P := P) (w := w) base t o.type e i size ht hi v n xs hown
    unfold Oper.wp execOp
    simp only [ho, resolve, invoke, builtin, Sem.run_bind, Sem.run_pure, Result.andThen_ok, List.map_toArray, List.map_cons, List.map_nil, hs, hx, hr]
    exact hK _ _ h
end

/-- a row of values; their parts lie in S -/
def RowsS (base : Nat) (S : Nat → Prop) (acc : List V) (ov : Value) (wr : World) : Prop :=
  (∃ cs : List Value, wr.ownsRow base 27 6 ov acc.length cs ∧ ∀ i (hi : i < acc.length), ∃ c0 c1 c2 c3 c4 c5, SixAt cs (i * 6) c0 c1 c2 c3 c4 c5 ∧ RV wr S acc[i] (.agg #[c0, c1, c2, c3, c4, c5])) ∧ (acc = [] → ov = .slice none 0 0)
theorem RowsS.nil (base : Nat) (S : Nat → Prop) (wr : World) : RowsS base S [] (.slice none 0 0) wr := ⟨⟨[], World.ownsRow_nil _ _ _ _, fun i hi => by simp at hi⟩, fun _ => rfl⟩
theorem RowsS.keep {base : Nat} {S : Nat → Prop} {acc : List V} {ov : Value} {w w' : World} (h : RowsS base S acc ov w) (hS : ∀ b, S b → b < w.heap.size) (hb : Below w.heap.size w w') : RowsS base S acc ov w' := by
  obtain ⟨⟨cs, h1, h2⟩, h3⟩ := h
  refine ⟨⟨cs, ownsRow_same h1 (fun b hb2 => hb.block b (h1.lt b hb2.symm).2), fun i hi => ?_⟩, h3⟩
  obtain ⟨c0, c1, c2, c3, c4, c5, h6, hx⟩ := h2 i hi
  exact ⟨c0, c1, c2, c3, c4, c5, h6, RV.mono (fun b hb2 => hb.block b (hS b hb2)) (fun _ h => h) _ _ hx⟩
theorem SixAt.shift {cs ds : List Value} {o : Nat} {c0 c1 c2 c3 c4 c5 : Value} (h : SixAt ds o c0 c1 c2 c3 c4 c5) : SixAt (cs ++ ds) (cs.length + o) c0 c1 c2 c3 c4 c5 := by
  obtain ⟨h0, h1, h2, h3, h4, h5⟩ := h
  refine ⟨?_, ?_, ?_, ?_, ?_, ?_⟩ <;> (rw [List.getElem?_append_right (by omega)])
  · rwa [show cs.length + o - cs.length = o by omega]
  · rwa [show cs.length + o + 1 - cs.length = o + 1 by omega]
  · rwa [show cs.length + o + 2 - cs.length = o + 2 by omega]
  · rwa [show cs.length + o + 3 - cs.length = o + 3 by omega]
  · rwa [show cs.length + o + 4 - cs.length = o + 4 by omega]
  · rwa [show cs.length + o + 5 - cs.length = o + 5 by omega]
theorem RowsS.app {base : Nat} {S : Nat → Prop} {acc sub : List V} {ov ov' : Value} {wr wa w' : World} {cs ds : List Value} (hS : ∀ b, S b → b < base) (hbase : base ≤ wr.heap.size) (hown : wr.ownsRow base 27 6 ov acc.length cs) (hne : sub ≠ [])
    (hch : ∀ i (hi : i < acc.length), ∃ c0 c1 c2 c3 c4 c5, SixAt cs (i * 6) c0 c1 c2 c3 c4 c5 ∧ RV wr S acc[i] (.agg #[c0, c1, c2, c3, c4, c5]))
    (hB : Below wr.heap.size wr wa) (hsub : ∀ i (hi : i < sub.length), ∃ c0 c1 c2 c3 c4 c5, SixAt ds (i * 6) c0 c1 c2 c3 c4 c5 ∧ RV wa S sub[i] (.agg #[c0, c1, c2, c3, c4, c5]))
    (howns : w'.ownsRow base 27 6 ov' (acc.length + sub.length) (cs ++ ds)) (hgr : wa.grownBy w' ov.ownBlock) :
    RowsS base S (acc ++ sub) ov' w' ∧ Below base wr w' := by
  have hlt := hown.lt
  have hsz := hB.size
  have hBel : Below base wr w' := Below.grown (hB.mono hbase) hgr (by omega) (fun j hj => (hlt j hj).1)
  have hs : Same S wr w' := fun b hb => hBel.block b (hS b hb)
  have hs2 : Same S wa w' := fun b hb => hgr.block b (by have := hS b hb; omega) (fun e => by have := (hlt b e.symm).1; have := hS b hb; omega)
  have hl := hown.1
  refine ⟨⟨⟨cs ++ ds, by simpa using howns, fun i hi => ?_⟩, fun h => absurd (List.append_eq_nil_iff.1 h).2 hne⟩, hBel⟩
  rw [List.length_append] at hi
  by_cases c : i < acc.length
  · obtain ⟨d0, d1, d2, d3, d4, d5, h6, hx'⟩ := hch i c
    refine ⟨d0, d1, d2, d3, d4, d5, h6.old, ?_⟩
    rw [List.getElem_append_left c]
    exact RV.mono hs (fun _ h => h) _ _ hx'
  · obtain ⟨d0, d1, d2, d3, d4, d5, h6, hx'⟩ := hsub (i - acc.length) (by omega)
    refine ⟨d0, d1, d2, d3, d4, d5, ?_, ?_⟩
    · have := h6.shift (cs := cs)
      rwa [hl, show acc.length * 6 + (i - acc.length) * 6 = i * 6 by omega] at this
    · rw [List.getElem_append_right (by omega)]
      exact RV.mono hs2 (fun _ h => h) _ _ hx'
theorem RowsS.done {base : Nat} {S : Nat → Prop} {acc : List V} {ov : Value} {w : World} (h : RowsS base S acc ov w) (hS : ∀ b, S b → b < w.heap.size) : ∃ a c, ov = .slice a acc.length c ∧ RL w (fun r => r < w.heap.size) acc a := by
  obtain ⟨⟨cs, h1, h2⟩, _⟩ := h
  rcases h1.2 with ⟨rfl, h0⟩ | ⟨g, cap, cur, rfl, hb, hgg, hn, hm, hsz, htake⟩
  · have : acc = [] := List.length_eq_zero_iff.1 h0
    subst this
    exact ⟨none, 0, rfl, by rw [RL]; trivial⟩
  · have hlt := heap_lt hgg
    refine ⟨_, _, rfl, RL.of acc g 0 (fun _ => hlt) fun i hi => ?_⟩
    obtain ⟨c0, c1, c2, c3, c4, c5, ⟨h60, h61, h62, h63, h64, h65⟩, hx⟩ := h2 i hi
    have hcell : ∀ j v, cs[j]? = some v → w.cell? ⟨g, j, none⟩ = some v := by
      intro j v hj
      refine cell_of hgg j ?_
      rw [← htake, List.getElem?_take] at hj
      split at hj
      · simpa using hj
      · cases hj
    refine ⟨c0, c1, c2, c3, c4, c5, ?_, RV.mono (fun _ _ => rfl) (fun b hb => hS b hb) _ _ hx⟩
    rw [Nat.zero_add]
    exact ⟨hcell _ _ h60, hcell _ _ h61, hcell _ _ h62, hcell _ _ h63, hcell _ _ h64, hcell _ _ h65⟩
/-- its cells are of one cell each -/
theorem six_cells {w : World} {S : Nat → Prop} {x : V} {c0 c1 c2 c3 c4 c5 : Value} (h : RV w S x (.agg #[c0, c1, c2, c3, c4, c5])) : c0.oneCell' = true ∧ c1.oneCell' = true ∧ c2.oneCell' = true ∧ c3.oneCell' = true ∧ c4.oneCell' = true ∧ c5.oneCell' = true := by
  cases x with
  | mk k hh t ls ks vs =>
    rw [RV] at h
    obtain ⟨la, lc, ka, kc, va, vc, e, _⟩ := h
    simp only [Value.agg.injEq, Array.mk.injEq, List.cons.injEq, and_true] at e
    obtain ⟨rfl, rfl, rfl, rfl, rfl, rfl⟩ := e
    exact ⟨rfl, rfl, rfl, rfl, rfl, rfl⟩
theorem rows_one {w : World} {S : Nat → Prop} {acc : List V} {cs : List Value} (hl : cs.length = acc.length * 6) (hch : ∀ i (hi : i < acc.length), ∃ c0 c1 c2 c3 c4 c5, SixAt cs (i * 6) c0 c1 c2 c3 c4 c5 ∧ RV w S acc[i] (.agg #[c0, c1, c2, c3, c4, c5])) : ∀ u ∈ cs, u.oneCell' = true := by
  intro u hu
  obtain ⟨j, hj, rfl⟩ := List.getElem_of_mem hu
  have hd := Nat.div_add_mod j 6
  have hm := Nat.mod_lt j (show 0 < 6 by omega)
  obtain ⟨c0, c1, c2, c3, c4, c5, ⟨h0, h1, h2, h3, h4, h5⟩, hx⟩ := hch (j / 6) (by omega)
  obtain ⟨k0, k1, k2, k3, k4, k5⟩ := six_cells hx
  have get : ∀ (r : Nat) (c : Value), cs[j / 6 * 6 + r]? = some c → j % 6 = r → cs[j] = c := by
    intro r c hc hr
    have e : j / 6 * 6 + r = j := by omega
    rw [e, List.getElem?_eq_getElem hj] at hc
    exact Option.some.inj hc
  rcases (by omega : j % 6 = 0 ∨ j % 6 = 1 ∨ j % 6 = 2 ∨ j % 6 = 3 ∨ j % 6 = 4 ∨ j % 6 = 5) with q | q | q | q | q | q
  · rw [get 0 c0 h0 q]; exact k0
  · rw [get 1 c1 h1 q]; exact k1
  · rw [get 2 c2 h2 q]; exact k2
  · rw [get 3 c3 h3 q]; exact k3
  · rw [get 4 c4 h4 q]; exact k4
  · rw [get 5 c5 h5 q]; exact k5

end Go.Proofs.YtgjmgneppecfgaaGreatDoor.Va
/-
  APPEND to a row of one's own, of any number of elements (none as well), read anywhere.
-/
namespace Go.Proofs.YtgjmgneppecfgaaGreatDoor.Va
open Go.RowKit
set_option linter.unusedVariables false
set_option linter.unusedSimpArgs false

/-- what is read: m elements, their cells -/
def Src (w : World) (x : Value) (m : Nat) (news : List Value) : Prop :=
  (x = .slice none 0 0 ∧ m = 0 ∧ news = []) ∨ ∃ ad c, x = .slice (some ad) m c ∧ ∀ j u, news[j]? = some u → w.cell? (ad.add j) = some u
/-- what an append of some elements leaves -/
structure AppA (w : World) (base : Nat) (e : TypeId) (size : Nat) (v : Value) (n m : Nat) (xs : List Value) (v' : Value) (w' : World) : Prop where
  owns : w'.ownsRow base e size v' (n + m) xs
  grown : w.grownBy w' v.ownBlock
  wher : v'.ownBlock = v.ownBlock ∨ v'.ownBlock = some w.heap.size
section
variable {P : Program} {w : World}
theorem run_append_a (base : Nat) (t ty e : TypeId) (i : TypeInfo) (z : Value) (size bytes : Nat) (ht : P.underlying t = some (.slice e)) (hi : P.info? e = some i) (hz : i.zero = some z)
    (hsize : i.size = size) (hby : i.bytes = bytes) (hzs : z.cells.size = size) (hsz : 0 < size) (v : Value) (n m : Nat) (xs : List Value) (hown : w.ownsRow base e size v n xs)
    (x : Value) (news : List Value) (hl : news.length = m * size) (hsrc : Src w x m news) (h1 : ∀ u ∈ news, u.oneCell' = true)
    (h63 : n + m ≤ maxLen) (hbytes : (n + m) * bytes ≤ 140737488355328) (hbase : base ≤ w.heap.size) :
    ∃ v' w', (Builtin.append_ #[t, t] ty #[v, x]).run P w = .ok v' w' ∧ AppA w base e size v n m (xs ++ news) v' w' := by
  rcases hsrc with ⟨rfl, rfl, rfl⟩ | ⟨a, c, rfl, hnews⟩
  · exact ⟨v, w, run_append_owned_none (P := P) w base t ty e i size ht hi v n xs hown, by simpa using hown, ⟨rfl, rfl, rfl, Nat.le_refl _, fun _ _ _ => rfl⟩, .inl rfl⟩
  · obtain ⟨v', w', hr, h2, h3, h4⟩ := run_append_own (P := P) w base t ty e i z size bytes ht hi hz hsize hby hzs hsz v n xs hown a m c news hl hnews h1 h63 hbytes hbase
    refine ⟨v', w', hr, h2, h3, ?_⟩
    by_cases hm : m = 0
    · subst hm
      have hn0 : news = [] := List.eq_nil_of_length_eq_zero (by rw [hl, Nat.zero_mul])
      subst hn0
      rcases hown.2 with ⟨rfl, rfl⟩ | ⟨g, cap, cur, rfl, hbg, hg, hnc, hcm, hcs, htake⟩
      · have := h4.2 ⟨rfl, rfl⟩
        subst this
        exact .inl rfl
      · have hh := run_append_room (P := P) w t ty e i ht hi g n cap cur hg a 0 c [] (by simp) (by simp) (by simp) (by omega) (by rw [hsize, hcs]; simp; exact Nat.mul_le_mul_right _ hnc)
        rw [hh] at hr
        cases hr
        exact .inl rfl
    · exact (append_where_m (P := P) w base t ty e i z size bytes ht hi hz hsize hby v n m (by omega) xs hown a c news hl hnews h1 h63 hbytes v' w' hr).1
/-- as one step of a region that draws -/
theorem step_append_a {ops : Array Oper} {Q : Exit → Act → World → Prop} {a : Act} {K : Act → World → Prop} {E : Prop} {o : Oper}
    (hg : o.guard = none) (s x : Operand) (t : TypeId) (hop : o.op = Op.call { callee := Callee.builtin Builtin.append, args := #[s, x], argTypes := #[t, t] })
    (base : Nat) (e : TypeId) (i : TypeInfo) (z : Value) (size bytes : Nat) (ht : P.underlying t = some (.slice e)) (hi : P.info? e = some i) (hz : i.zero = some z)
    (hsize : i.size = size) (hby : i.bytes = bytes) (hzs : z.cells.size = size) (hsz : 0 < size)
    (v : Value) (n m : Nat) (xs : List Value) (hs : a.eval s = v) (hown : w.ownsRow base e size v n xs)
    (xv : Value) (news : List Value) (hx : a.eval x = xv) (hl : news.length = m * size) (hsrc : Src w xv m news) (h1 : ∀ u ∈ news, u.oneCell' = true)
    (h63 : n + m ≤ maxLen) (hbytes : (n + m) * bytes ≤ 140737488355328) (hbase : base ≤ w.heap.size)
    (hK : ∀ v' w', AppA w base e size v n m (xs ++ news) v' w' → K (a.put o.dst v') w') :
    if Region.wanted o (yielded ops a.tmps) = true then Oper.wp P o a w K Q else E := by
  have hw : Region.wanted o (yielded ops a.tmps) = true := by simp [Region.wanted, hg]
  rw [if_pos hw]
  obtain ⟨v', w', hr, h2⟩ := run_append_a (P := P) (w := w) base t o.type e i z size bytes ht hi hz hsize hby hzs hsz v n m xs hown xv news hl hsrc h1 h63 hbytes hbase
  unfold Oper.wp execOp
  simp only [hop, resolve, invoke, builtin, Sem.run_bind, Sem.run_pure, Result.andThen_ok, List.map_toArray, List.map_cons, List.map_nil, hs, hx, hr]
  exact hK v' w' h2
/-- as an operation of a plain list -/
theorem wpList_append_a {ops : Array Oper} {rest : List Oper} {o : Oper} {a : Act} {Q : Exit → Act → World → Prop} (hgd : o.guard = none) (s x : Operand) (t : TypeId)
    (ho : o.op = .call { callee := .builtin .append, args := #[s, x], argTypes := #[t, t] })
    (base : Nat) (e : TypeId) (i : TypeInfo) (z : Value) (size bytes : Nat) (ht : P.underlying t = some (.slice e)) (hi : P.info? e = some i) (hz : i.zero = some z)
    (hsize : i.size = size) (hby : i.bytes = bytes) (hzs : z.cells.size = size) (hsz : 0 < size)
    (v : Value) (n m : Nat) (xs : List Value) (hs : a.eval s = v) (hown : w.ownsRow base e size v n xs)
    (xv : Value) (news : List Value) (hx : a.eval x = xv) (hl : news.length = m * size) (hsrc : Src w xv m news) (h1 : ∀ u ∈ news, u.oneCell' = true)
    (h63 : n + m ≤ maxLen) (hbytes : (n + m) * bytes ≤ 140737488355328) (hbase : base ≤ w.heap.size)
    (h : ∀ v' w', AppA w base e size v n m (xs ++ news) v' w' → wpList P ops Q rest (a.put o.dst v') w') : wpList P ops Q (o :: rest) a w :=
  wpList_plain hgd fun _ hK => by
    obtain ⟨v', w', hr, h2⟩ := run_append_a (P := P) (w := w) base t o.type e i z size bytes ht hi hz hsize hby hzs hsz v n m xs hown xv news hl hsrc h1 h63 hbytes hbase
    unfold Oper.wp execOp
    simp only [ho, resolve, invoke, builtin, Sem.run_bind, Sem.run_pure, Result.andThen_ok, List.map_toArray, List.map_cons, List.map_nil, hs, hx, hr]
    exact hK _ _ (h v' w' h2)
end

/-- a row as it is read: a slice value and its cells, in a block of S -/
def RowR (w : World) (S : Nat → Prop) (size : Nat) (v : Value) (n : Nat) (cs : List Value) : Prop :=
  cs.length = n * size ∧ ((v = .slice none 0 0 ∧ n = 0) ∨ ∃ g o c, v = .slice (some ⟨g, o, none⟩) n c ∧ 0 < n ∧ n ≤ c ∧ c ≤ maxLen ∧ S g ∧ ∀ j u, cs[j]? = some u → w.cell? ⟨g, o + j, none⟩ = some u)
theorem RowR.mono {w w' : World} {S T : Nat → Prop} (h : Same S w w') (hT : ∀ b, S b → T b) {size : Nat} {v : Value} {n : Nat} {cs : List Value} (r : RowR w S size v n cs) : RowR w' T size v n cs := by
  obtain ⟨h0, h1 | ⟨g, o, c, e, hn0, hnc, hcm, hS, hc⟩⟩ := r
  · exact ⟨h0, .inl h1⟩
  · exact ⟨h0, .inr ⟨g, o, c, e, hn0, hnc, hcm, hT g hS, fun j u hj => (h.cell hS).trans (hc j u hj)⟩⟩
theorem RowR.of_owns {w : World} {base : Nat} {e : TypeId} {size n : Nat} {v : Value} {cs : List Value} (hn0 : 0 < n) (h : w.ownsRow base e size v n cs) : RowR w (fun r => some r = v.ownBlock) size v n cs := by
  refine ⟨h.1, ?_⟩
  rcases h.2 with ⟨rfl, h0⟩ | ⟨g, cap, cur, rfl, hb, hg, hnc, hcm, hcs, htake⟩
  · exact .inl ⟨rfl, h0⟩
  · refine .inr ⟨g, 0, cap, rfl, hn0, hnc, hcm, rfl, fun j u hj => ?_⟩
    rw [Nat.zero_add]
    refine cell_of hg j ?_
    rw [← htake, List.getElem?_take] at hj
    split at hj
    · simpa using hj
    · cases hj
theorem addr_add_add (g o a j : Nat) : ((⟨g, o, none⟩ : Addr).add a).add j = ⟨g, o + a + j, none⟩ := by
  unfold Addr.add
  simp
  repeat' split
  all_goals first | rfl | (simp_all; done) | (simp_all; omega)
section
variable {P : Program}
theorem slice_to {w : World} {S : Nat → Prop} {size n : Nat} {kv : Value} {cs : List Value} (t : TypeId) (ht : P.underlying t = some (.slice (P.elem t))) (hs : ∀ W, (sizeOf (P.elem t)).run P W = .ok size W)
    (h : RowR w S size kv n cs) (i : Nat) (hi : i ≤ n) : ∃ kx, (∀ W, (Instr.slice t kv none (some (.int .i64 (i : Int))) none).run P W = .ok kx W) ∧ ∀ W, Same S w W → Src W kx i (cs.take (i * size)) := by
  obtain ⟨h0, ⟨rfl, rfl⟩ | ⟨g, o, c, rfl, hn0, hnc, hcm, hS, hc⟩⟩ := h
  · obtain rfl : i = 0 := by omega
    refine ⟨.slice none 0 0, fun W => ?_, fun W _ => .inl ⟨rfl, rfl, by simp⟩⟩
    rw [run_slice_h (P := P) W t none 0 0 ht .i64 ((0 : Nat) : Int) (by omega) (by omega), hs]
    rfl
  · refine ⟨.slice (some ((⟨g, o, none⟩ : Addr).add (0 * size))) i c, fun W => ?_, fun W hW => .inr ⟨_, c, rfl, fun j u hj => ?_⟩⟩
    · rw [run_slice_h (P := P) W t (some ⟨g, o, none⟩) n c ht .i64 (i : Int) (by omega) (by omega), hs]
      unfold sliced
      simp only [Result.andThen]
      rw [if_neg (by omega)]
      simp
    · rw [addr_add_add, Nat.zero_mul, Nat.add_zero]
      rw [List.getElem?_take] at hj
      split at hj
      · exact (hW.cell hS).trans (hc j u hj)
      · cases hj
theorem slice_from {w : World} {S : Nat → Prop} {size n : Nat} {kv : Value} {cs : List Value} (t : TypeId) (ht : P.underlying t = some (.slice (P.elem t))) (hs : ∀ W, (sizeOf (P.elem t)).run P W = .ok size W)
    (h : RowR w S size kv n cs) (i : Nat) (hi : i ≤ n) : ∃ kx, (∀ W, (Instr.slice t kv (some (.int .i64 (i : Int))) none none).run P W = .ok kx W) ∧ ∀ W, Same S w W → Src W kx (n - i) (cs.drop (i * size)) := by
  obtain ⟨h0, ⟨rfl, rfl⟩ | ⟨g, o, c, rfl, hn0, hnc, hcm, hS, hc⟩⟩ := h
  · obtain rfl : i = 0 := by omega
    refine ⟨.slice none 0 0, fun W => ?_, fun W _ => .inl ⟨rfl, rfl, by simpa using h0⟩⟩
    rw [run_slice_l (P := P) W t none 0 0 ht .i64 ((0 : Nat) : Int) (by omega) (by omega), hs]
    rfl
  · by_cases hci : c = i
    · refine ⟨.slice (some ⟨g, o, none⟩) (n - i) (c - i), fun W => ?_, fun W hW => .inr ⟨_, _, rfl, fun j u hj => ?_⟩⟩
      · rw [run_slice_l (P := P) W t (some ⟨g, o, none⟩) n c ht .i64 (i : Int) (by omega) (by omega), hs]
        unfold sliced
        simp only [Result.andThen]
        rw [if_pos (by omega)]
        simp
      · obtain rfl : i = n := by omega
        rw [List.drop_eq_nil_of_le (by omega)] at hj
        simp at hj
    · refine ⟨.slice (some ((⟨g, o, none⟩ : Addr).add (i * size))) (n - i) (c - i), fun W => ?_, fun W hW => .inr ⟨_, _, rfl, fun j u hj => ?_⟩⟩
      · rw [run_slice_l (P := P) W t (some ⟨g, o, none⟩) n c ht .i64 (i : Int) (by omega) (by omega), hs]
        unfold sliced
        simp only [Result.andThen]
        rw [if_neg (by omega)]
        simp
      · rw [addr_add_add]
        rw [List.getElem?_drop] at hj
        rw [Nat.add_assoc]
        exact (hW.cell hS).trans (hc _ u hj)
end

/-- a map, as it is read: its keys' row, its values' row -/
def MapR (w : World) (S : Nat → Prop) (ks : List ByteArray) (vs : List V) (kv vv : Value) : Prop :=
  ks.length = vs.length ∧ RowR w S 1 kv ks.length (ks.map .string) ∧ ∃ cs, RowR w S 6 vv vs.length cs ∧ ∀ i (hi : i < vs.length), ∃ c0 c1 c2 c3 c4 c5, SixAt cs (i * 6) c0 c1 c2 c3 c4 c5 ∧ RV w S vs[i] (.agg #[c0, c1, c2, c3, c4, c5])
theorem MapR.nil (w : World) (S : Nat → Prop) : MapR w S [] [] (.slice none 0 0) (.slice none 0 0) := ⟨rfl, ⟨rfl, .inl ⟨rfl, rfl⟩⟩, [], ⟨rfl, .inl ⟨rfl, rfl⟩⟩, fun i hi => by simp at hi⟩
theorem MapR.mono {w w' : World} {S T : Nat → Prop} (h : Same S w w') (hT : ∀ b, S b → T b) {ks : List ByteArray} {vs : List V} {kv vv : Value} (r : MapR w S ks vs kv vv) : MapR w' T ks vs kv vv := by
  obtain ⟨h0, h1, cs, h2, h3⟩ := r
  refine ⟨h0, h1.mono h hT, cs, h2.mono h hT, fun i hi => ?_⟩
  obtain ⟨c0, c1, c2, c3, c4, c5, h6, hx⟩ := h3 i hi
  exact ⟨c0, c1, c2, c3, c4, c5, h6, RV.mono h hT _ _ hx⟩
theorem rk_of {w : World} {S : Nat → Prop} : ∀ (l : List ByteArray) (b o : Nat), (0 < l.length → S b) → (∀ i (hi : i < l.length), w.cell? ⟨b, o + i, none⟩ = some (.string l[i])) → RK w S l (some ⟨b, o, none⟩)
  | [], b, o, _, _ => trivial
  | x :: xs, b, o, hS, h => ⟨b, o, rfl, hS (by simp), h 0 (by simp), rk_of xs b (o + 1) (fun _ => hS (by simp)) fun i hi => by
      have := h (i + 1) (by simpa using hi)
      rw [show o + 1 + i = o + (i + 1) by omega]
      exact this⟩
theorem RowR.rk {w : World} {S : Nat → Prop} {kv : Value} {ks : List ByteArray} (h : RowR w S 1 kv ks.length (ks.map .string)) : ∃ ka kc, kv = .slice ka ks.length kc ∧ RK w S ks ka := by
  obtain ⟨h0, ⟨rfl, hn⟩ | ⟨g, o, c, rfl, hn0, hnc, hcm, hS, hc⟩⟩ := h
  · have : ks = [] := List.length_eq_zero_iff.1 hn
    subst this
    exact ⟨none, 0, rfl, trivial⟩
  · exact ⟨_, c, rfl, rk_of ks g o (fun _ => hS) fun i hi => hc i _ (by simp [hi])⟩
theorem MapR.rv {w : World} {S : Nat → Prop} {ks : List ByteArray} {vs : List V} {kv vv : Value} (k h : Int) (t : ByteArray) (r : MapR w S ks vs kv vv) : RV w S (.mk k h t [] ks vs) (.agg #[.int .i64 k, .int .i64 h, .string t, .slice none 0 0, kv, vv]) := by
  obtain ⟨h0, h1, cs, h2, h3⟩ := r
  obtain ⟨ka, kc, rfl, hk⟩ := h1.rk
  rw [RV]
  obtain ⟨hl, ⟨rfl, hn⟩ | ⟨g, o, c, rfl, hn0, hnc, hcm, hS, hc⟩⟩ := h2
  · have : vs = [] := List.length_eq_zero_iff.1 hn
    subst this
    exact ⟨none, 0, ka, kc, none, 0, rfl, by rw [RL]; trivial, hk, by rw [RL]; trivial⟩
  · refine ⟨none, 0, ka, kc, _, c, rfl, by rw [RL]; trivial, hk, RL.of vs g o (fun _ => hS) fun i hi => ?_⟩
    obtain ⟨c0, c1, c2, c3, c4, c5, ⟨k0, k1, k2, k3, k4, k5⟩, hx⟩ := h3 i hi
    exact ⟨c0, c1, c2, c3, c4, c5, ⟨hc _ _ k0, by rw [Nat.add_assoc]; exact hc _ _ k1, by rw [Nat.add_assoc]; exact hc _ _ k2, by rw [Nat.add_assoc]; exact hc _ _ k3, by rw [Nat.add_assoc]; exact hc _ _ k4, by rw [Nat.add_assoc]; exact hc _ _ k5⟩, hx⟩
/-- the cells of values -/
def SixL (w : World) (S : Nat → Prop) (vs : List V) (cs : List Value) : Prop := cs.length = vs.length * 6 ∧ ∀ i (hi : i < vs.length), ∃ c0 c1 c2 c3 c4 c5, SixAt cs (i * 6) c0 c1 c2 c3 c4 c5 ∧ RV w S vs[i] (.agg #[c0, c1, c2, c3, c4, c5])
theorem SixL.app {w : World} {S : Nat → Prop} {a b : List V} {cs ds : List Value} (h : SixL w S a cs) (k : SixL w S b ds) : SixL w S (a ++ b) (cs ++ ds) := by
  obtain ⟨h0, h1⟩ := h
  obtain ⟨k0, k1⟩ := k
  refine ⟨by rw [List.length_append, List.length_append, h0, k0, Nat.add_mul], fun i hi => ?_⟩
  rw [List.length_append] at hi
  by_cases c : i < a.length
  · obtain ⟨d0, d1, d2, d3, d4, d5, h6, hx⟩ := h1 i c
    exact ⟨d0, d1, d2, d3, d4, d5, h6.old, by rw [List.getElem_append_left c]; exact hx⟩
  · obtain ⟨d0, d1, d2, d3, d4, d5, h6, hx⟩ := k1 (i - a.length) (by omega)
    refine ⟨d0, d1, d2, d3, d4, d5, ?_, by rw [List.getElem_append_right (by omega)]; exact hx⟩
    have := h6.shift (cs := cs)
    rwa [h0, show a.length * 6 + (i - a.length) * 6 = i * 6 by omega] at this
theorem SixL.one {w : World} {S : Nat → Prop} {y : V} {c0 c1 c2 c3 c4 c5 : Value} (h : RV w S y (.agg #[c0, c1, c2, c3, c4, c5])) : SixL w S [y] [c0, c1, c2, c3, c4, c5] :=
  ⟨rfl, fun i hi => by
    obtain rfl : i = 0 := by simpa using hi
    exact ⟨c0, c1, c2, c3, c4, c5, ⟨rfl, rfl, rfl, rfl, rfl, rfl⟩, h⟩⟩
theorem SixL.take {w : World} {S : Nat → Prop} {a : List V} {cs : List Value} (h : SixL w S a cs) (i : Nat) (hi : i ≤ a.length) : SixL w S (a.take i) (cs.take (i * 6)) := by
  obtain ⟨h0, h1⟩ := h
  refine ⟨by rw [List.length_take, List.length_take, h0]; omega, fun j hj => ?_⟩
  rw [List.length_take] at hj
  obtain ⟨d0, d1, d2, d3, d4, d5, ⟨k0, k1, k2, k3, k4, k5⟩, hx⟩ := h1 j (by omega)
  refine ⟨d0, d1, d2, d3, d4, d5, ?_, by rw [List.getElem_take]; exact hx⟩
  refine ⟨?_, ?_, ?_, ?_, ?_, ?_⟩ <;> (rw [List.getElem?_take_of_lt (by omega)]; assumption)
theorem SixL.drop {w : World} {S : Nat → Prop} {a : List V} {cs : List Value} (h : SixL w S a cs) (i : Nat) (hi : i ≤ a.length) : SixL w S (a.drop i) (cs.drop (i * 6)) := by
  obtain ⟨h0, h1⟩ := h
  refine ⟨by rw [List.length_drop, List.length_drop, h0]; omega, fun j hj => ?_⟩
  rw [List.length_drop] at hj
  obtain ⟨d0, d1, d2, d3, d4, d5, ⟨k0, k1, k2, k3, k4, k5⟩, hx⟩ := h1 (i + j) (by omega)
  refine ⟨d0, d1, d2, d3, d4, d5, ?_, by rw [List.getElem_drop]; exact hx⟩
  refine ⟨?_, ?_, ?_, ?_, ?_, ?_⟩ <;> rw [List.getElem?_drop]
  · rw [show i * 6 + j * 6 = (i + j) * 6 by omega]; exact k0
  · rw [show i * 6 + (j * 6 + 1) = (i + j) * 6 + 1 by omega]; exact k1
  · rw [show i * 6 + (j * 6 + 2) = (i + j) * 6 + 2 by omega]; exact k2
  · rw [show i * 6 + (j * 6 + 3) = (i + j) * 6 + 3 by omega]; exact k3
  · rw [show i * 6 + (j * 6 + 4) = (i + j) * 6 + 4 by omega]; exact k4
  · rw [show i * 6 + (j * 6 + 5) = (i + j) * 6 + 5 by omega]; exact k5
theorem SixL.mono {w w' : World} {S T : Nat → Prop} (h : Same S w w') (hT : ∀ b, S b → T b) {vs : List V} {cs : List Value} (r : SixL w S vs cs) : SixL w' T vs cs :=
  ⟨r.1, fun i hi => by
    obtain ⟨c0, c1, c2, c3, c4, c5, h6, hx⟩ := r.2 i hi
    exact ⟨c0, c1, c2, c3, c4, c5, h6, RV.mono h hT _ _ hx⟩⟩
theorem SixL.ones {w : World} {S : Nat → Prop} {vs : List V} {cs : List Value} (h : SixL w S vs cs) : ∀ u ∈ cs, u.oneCell' = true := rows_one h.1 h.2
end Go.Proofs.YtgjmgneppecfgaaGreatDoor.Va
