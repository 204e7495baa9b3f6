/-
  FnFormat, texts MaE MaF MaG MaH MaI: lemmas for the law; the theorem stands in the last text.
-/
import Derived.WalkSmall
import Derived.Test.YtgjmgneppecfgaaGreatDoorJ02
import Derived.Test.YtgjmgneppecfgaaGreatDoorJ04
import Derived.Test.YtgjmgneppecfgaaGreatDoorJ07
namespace Go.Proofs.YtgjmgneppecfgaaGreatDoor.Ma
open Go.RowKit Go.Proofs.YtgjmgneppecfgaaGreatDoor.Va Go.Proofs.YtgjmgneppecfgaaGreatDoor.Ba
set_option linter.unusedVariables false
set_option linter.unusedSimpArgs false

/-- two rows of digits behind the point, one against the other -/
def cmpF (d e : List Nat) : Nat → Nat → Int
  | 0, _ => 0
  | m + 1, i => if d.length ≤ i ∧ e.length ≤ i then 0 else if d.getD i 0 ≠ e.getD i 0 then (d.getD i 0 : Int) - (e.getD i 0 : Int) else cmpF d e m (i + 1)
def cmpD (d : List Nat) (dp : Int) (e : List Nat) (ep : Int) : Int :=
  if d.length = 0 ∨ e.length = 0 then (d.length : Int) - (e.length : Int) else if dp ≠ ep then dp - ep else cmpF d e (d.length + e.length + 1) 0
theorem cmpF_end {d e : List Nat} {m i : Nat} (h1 : d.length ≤ i) (h2 : e.length ≤ i) : cmpF d e m i = 0 := by
  cases m with
  | zero => rfl
  | succ m => rw [cmpF, if_pos ⟨h1, h2⟩]
def RetZ (z : Int) (w : World) (e : Ending) (w' : World) : Prop := e = .returned (.int .i64 z) ∧ ∃ m, w' = w.drewN m
def LoopC (d e : List Nat) (z : Int) (w : World) (iv : Value) (wr : World) : Prop :=
  ∃ (i m : Nat), iv = .int .i64 (i : Int) ∧ (∃ k, wr = w.drewN k) ∧ i ≤ d.length + e.length ∧ d.length + e.length + 1 ≤ m + i ∧ z = cmpF d e m i
set_option maxHeartbeats 2000000 in
set_option maxRecDepth 100000 in
theorem cmp_any (b c : Nat) (d e : List Nat) (dp ep : Int) (hd : ∀ x ∈ d, x < 10) (he : ∀ x ∈ e, x < 10) (hdl : d.length ≤ 2147483647) (hel : e.length ≤ 2147483647) (hdp : -2147483648 ≤ dp ∧ dp ≤ 2147483647) (hep : -2147483648 ≤ ep ∧ ep ≤ 2147483647) (w : World) (h1 : Dec w b d dp) (h2 : Dec w c e ep) :
    Calls Tryz.prog 285 #[.pointer (some ⟨b, 0, none⟩), .pointer (some ⟨c, 0, none⟩)] w (RetZ (cmpD d dp e ep) w) := by
  have H1 := Lib.hid (fun (i : Nat) (k : Nat) => digit_any b d dp i (w.drewN k) h1)
  have H2 := Lib.hid (fun (i : Nat) (k : Nat) => digit_any c e ep i (w.drewN k) h2)
  obtain ⟨a, cap, g1, _⟩ := h1
  obtain ⟨a', cap', g2, _⟩ := h2
  have c1 := cells2 g1
  have c2 := cells2 g2
  obtain ⟨dp0, dp1⟩ := hdp
  obtain ⟨ep0, ep1⟩ := hep
  have HD := Lib.hid hd
  have HE := Lib.hid he
  have HZ : Hid (cmpD d dp e ep = if d.length = 0 ∨ e.length = 0 then (d.length : Int) - (e.length : Int) else if dp ≠ ep then dp - ep else cmpF d e (d.length + e.length + 1) 0) := Lib.hid rfl
  obtain ⟨z, hz⟩ : ∃ z, cmpD d dp e ep = z := ⟨_, rfl⟩
  rw [hz] at HZ ⊢
  obtain ⟨n, hn⟩ : ∃ n, d.length = n := ⟨_, rfl⟩
  obtain ⟨m, hm⟩ : ∃ m, e.length = m := ⟨_, rfl⟩
  have HN := Lib.hid hn
  have HM := Lib.hid hm
  rw [hn] at c1 hdl
  rw [hm] at c2 hel
  clear g1 g2 hz hn hm hd he
  go_enter Tryz.func285, Tryz.ntmps285
  by_cases hn0 : n = 0
  · subst hn0
    have hzz : z = -(m : Int) := by rw [HZ.out, if_pos (.inl HN.out), HN.out, HM.out]; omega
    subst hzz
    go_wp2_with fail
    go_quiet (fail)
    go_wp2_with fail
    go_returns
    exact ⟨rfl, _, rfl⟩
  have hn1 : ((n : Int) == 0) = false := by simp; omega
  by_cases hm0 : m = 0
  · subst hm0
    have hzz : z = (n : Int) := by rw [HZ.out, if_pos (.inr HM.out), HN.out, HM.out]; omega
    subst hzz
    go_wp2_with fail
    go_quiet (fail)
    go_wp2_with fail
    go_returns
    exact ⟨rfl, _, rfl⟩
  have hm1 : ((m : Int) == 0) = false := by simp; omega
  have hne : ¬ (d.length = 0 ∨ e.length = 0) := by rw [HN.out, HM.out]; omega
  have HNE := Lib.hid hne
  clear hne
  by_cases hpp : dp = ep
  · have hzz : z = cmpF d e (n + m + 1) 0 := by rw [HZ.out, if_neg HNE.out, if_neg (by simpa using hpp), HN.out, HM.out]
    have HZZ := Lib.hid hzz
    subst hpp
    clear hzz HZ
    go_wp2_with fail
    go_quiet (fail)
    go_wp2_with fail
    go_loopw [5] (LoopC d e z w) (fun a _ => n + m - (intOf a).toNat)
    case atStart => exact ⟨0, n + m + 1, rfl, ⟨_, rfl⟩, Nat.zero_le _, by rw [HN.out, HM.out]; omega, HZZ.out⟩
    case round =>
      obtain ⟨i, q, rfl, ⟨k, rfl⟩, hi, hq, hzq⟩ := hrel
      have HI := Lib.hid hi
      have HQ := Lib.hid hq
      have HZQ := Lib.hid hzq
      have hi2 : i ≤ n + m := by rw [HN.out, HM.out] at hi; exact hi
      clear hi hq hzq
      by_cases hend : n ≤ i ∧ m ≤ i
      · obtain ⟨he1, he2⟩ := hend
        have hz0 : z = 0 := by rw [HZQ.out, cmpF_end (by rw [HN.out]; exact he1) (by rw [HM.out]; exact he2)]
        subst hz0
        go_wp2_with fail
        go_returns
        exact ⟨rfl, _, rfl⟩
      · have hin : i < n + m := by omega
        obtain ⟨q', rfl⟩ : ∃ q', q = q' + 1 := ⟨q - 1, by have := HQ.out; rw [HN.out, HM.out] at this; omega⟩
        have HST : Hid (z = if d.getD i 0 ≠ e.getD i 0 then (d.getD i 0 : Int) - (e.getD i 0 : Int) else cmpF d e q' (i + 1)) := Lib.hid (by rw [HZQ.out, cmpF, if_neg (by rw [HN.out, HM.out]; exact hend)])
        have G1 := Lib.hid (fun k => H1.out i k)
        have G2 := Lib.hid (fun k => H2.out i k)
        obtain ⟨x, hx⟩ : ∃ x, d.getD i 0 = x := ⟨_, rfl⟩
        obtain ⟨y, hy⟩ : ∃ y, e.getD i 0 = y := ⟨_, rfl⟩
        have hx10 : x < 10 := by
          by_cases c : i < d.length
          · rw [← hx]; exact HD.out _ (getD_mem c)
          · rw [← hx, List.getD, List.getElem?_eq_none (by omega)]; decide
        have hy10 : y < 10 := by
          by_cases c : i < e.length
          · rw [← hy]; exact HE.out _ (getD_mem c)
          · rw [← hy, List.getD, List.getElem?_eq_none (by omega)]; decide
        rw [hx] at G1
        rw [hy] at G2
        rw [hx, hy] at HST
        clear hx hy
        have HNI : Hid (d.length + e.length + 1 ≤ q' + (i + 1) ∧ i + 1 ≤ d.length + e.length) := Lib.hid ⟨by have := HQ.out; omega, by rw [HN.out, HM.out]; omega⟩
        by_cases hxy : x = y
        · subst hxy
          have hz1 := HST.out
          rw [if_neg (by simp)] at hz1
          have HZ1 := Lib.hid hz1
          clear hz1
          by_cases hc : i < n
          · go_wp2_with fail
            refine (G1.out k).mono ?_
            rintro e1 w1 ⟨rfl, rfl⟩
            go_wp2_with fail
            refine (G2.out k).mono ?_
            rintro e1 w1 ⟨rfl, rfl⟩
            go_wp2_with fail
            go_roundw
            case rel => exact ⟨i + 1, q', rfl, ⟨k, rfl⟩, HNI.out.2, HNI.out.1, HZ1.out⟩
            case measure => simp [intOf]; omega
          · have hc2 : i < m := by omega
            go_wp2_with fail
            refine (G1.out k).mono ?_
            rintro e1 w1 ⟨rfl, rfl⟩
            go_wp2_with fail
            refine (G2.out k).mono ?_
            rintro e1 w1 ⟨rfl, rfl⟩
            go_wp2_with fail
            go_roundw
            case rel => exact ⟨i + 1, q', rfl, ⟨k, rfl⟩, HNI.out.2, HNI.out.1, HZ1.out⟩
            case measure => simp [intOf]; omega
        · have hxy2 : ((x : Int) == (y : Int)) = false := by simp; omega
          have hz1 := HST.out
          rw [if_pos hxy] at hz1
          subst hz1
          by_cases hc : i < n
          · go_wp2_with fail
            refine (G1.out k).mono ?_
            rintro e1 w1 ⟨rfl, rfl⟩
            go_wp2_with fail
            refine (G2.out k).mono ?_
            rintro e1 w1 ⟨rfl, rfl⟩
            go_wp2_with fail
            refine (G1.out k).mono ?_
            rintro e1 w1 ⟨rfl, rfl⟩
            go_wp2_with fail
            refine (G2.out k).mono ?_
            rintro e1 w1 ⟨rfl, rfl⟩
            go_wp2_with fail
            go_returns
            exact ⟨rfl, _, rfl⟩
          · have hc2 : i < m := by omega
            go_wp2_with fail
            refine (G1.out k).mono ?_
            rintro e1 w1 ⟨rfl, rfl⟩
            go_wp2_with fail
            refine (G2.out k).mono ?_
            rintro e1 w1 ⟨rfl, rfl⟩
            go_wp2_with fail
            refine (G1.out k).mono ?_
            rintro e1 w1 ⟨rfl, rfl⟩
            go_wp2_with fail
            refine (G2.out k).mono ?_
            rintro e1 w1 ⟨rfl, rfl⟩
            go_wp2_with fail
            go_returns
            exact ⟨rfl, _, rfl⟩
  · have hzz : z = dp - ep := by rw [HZ.out, if_neg HNE.out, if_pos hpp]
    have hpq : (dp == ep) = false := by simpa using hpp
    subst hzz
    go_wp2_with fail
    go_quiet (fail)
    go_wp2_with fail
    go_quiet (fail)
    go_wp2_with fail
    go_returns
    exact ⟨rfl, _, World.drewN_drewN _ _ _⟩
end Go.Proofs.YtgjmgneppecfgaaGreatDoor.Ma
namespace Go.Proofs.YtgjmgneppecfgaaGreatDoor.Ma
open Go.RowKit Go.Proofs.YtgjmgneppecfgaaGreatDoor.Va Go.Proofs.YtgjmgneppecfgaaGreatDoor.Ba
set_option linter.unusedVariables false
set_option linter.unusedSimpArgs false

def cellsD (d : List Nat) : List Value := d.map fun x : Nat => .int .u8 (x : Int)
/-- a decimal, its row owned: blocks from base on -/
def IsDec (base b : Nat) (d : List Nat) (dp : Int) (w : World) : Prop :=
  ∃ v, w.heap[b]? = some (.cells #[v, .int .i64 dp] 267 (0, 0)) ∧ w.ownsRow base 5 1 v d.length (cellsD d) ∧ v.ownBlock ≠ some b
theorem owns_other {w w' : World} {base : Nat} {v : Value} {n : Nat} {xs : List Value} (h : w.ownsRow base 5 1 v n xs) (hb : ∀ g, v.ownBlock = some g → w'.heap[g]? = w.heap[g]?) : w'.ownsRow base 5 1 v n xs := by
  obtain ⟨h1, h2⟩ := h
  refine ⟨h1, ?_⟩
  rcases h2 with h2 | ⟨g, cap, cur, a, b, c, d⟩
  · exact .inl h2
  · subst a
    exact .inr ⟨g, cap, cur, rfl, b, (hb g rfl).trans c, d⟩
theorem owns_digs {w : World} {base : Nat} {v : Value} {d : List Nat} (h : w.ownsRow base 5 1 v d.length (cellsD d)) : ∃ (a : Option Addr) (cap : Nat), v = .slice a d.length cap ∧ d.length ≤ maxLen ∧ (d = [] ∨ ∃ g, a = some ⟨g, 0, none⟩ ∧ base ≤ g ∧ g < w.heap.size ∧ d.length ≤ cap ∧ cap ≤ maxLen ∧ ∀ i, i < d.length → w.cell? ⟨g, i, none⟩ = some (.int .u8 ((d.getD i 0 : Nat) : Int))) := by
  obtain ⟨h1, h2⟩ := h
  rcases h2 with ⟨rfl, h2⟩ | ⟨g, cap, cur, rfl, hb, hc, h3, h4, h5, h6⟩
  · exact ⟨none, 0, by rw [h2], by rw [h2]; exact Nat.zero_le _, .inl (List.eq_nil_of_length_eq_zero h2)⟩
  · refine ⟨_, cap, rfl, Nat.le_trans h3 h4, .inr ⟨g, rfl, hb, heap_lt hc, h3, h4, fun i hi => ?_⟩⟩
    refine cell_of hc i ?_
    have e : cur.toList[i]? = some (.int .u8 ((d.getD i 0 : Nat) : Int)) := by
      have : (cur.toList.take (d.length * 1))[i]? = some (.int .u8 ((d.getD i 0 : Nat) : Int)) := by
        rw [h6]
        unfold cellsD
        rw [List.getElem?_map, List.getElem?_eq_getElem hi]
        simp [List.getD, List.getElem?_eq_getElem hi]
      rwa [List.getElem?_take, if_pos (by omega)] at this
    simpa using e
theorem IsDec.dec {base b : Nat} {d : List Nat} {dp : Int} {w : World} (h : IsDec base b d dp w) : Dec w b d dp := by
  obtain ⟨v, h1, h2, _⟩ := h
  obtain ⟨a, cap, rfl, _, hd⟩ := owns_digs h2
  refine ⟨a, cap, h1, ?_⟩
  rcases hd with hd | ⟨g, e, _, hg, _, _, hc⟩
  · exact .inl hd
  · exact .inr ⟨g, e, hg, hc⟩
/-- without the zeros at its end -/
def stripZ : List Nat → List Nat
  | [] => []
  | x :: xs => if stripZ xs = [] ∧ x = 0 then [] else x :: stripZ xs
theorem stripZ_snoc (l : List Nat) : stripZ (l ++ [0]) = stripZ l := by
  induction l with
  | nil => rfl
  | cons x xs ih => rw [List.cons_append, stripZ, stripZ, ih]
theorem stripZ_end (l : List Nat) (y : Nat) (h : y ≠ 0) : stripZ (l ++ [y]) = l ++ [y] := by
  induction l with
  | nil => rw [List.nil_append, stripZ, if_neg (by simp [h]), stripZ]
  | cons x xs ih => rw [List.cons_append, stripZ, ih, if_neg (by simp)]
def lenV : Value → Nat
  | .slice _ n _ => n
  | _ => 0
def lenAt (w : World) (b : Nat) : Nat := lenV ((w.cell? ⟨b, 0, none⟩).getD undef)
theorem lenAt_of {w : World} {b n cap : Nat} {a : Option Addr} {dv : Value} {t : TypeId} {fz : Nat × Nat} (h : w.heap[b]? = some (.cells #[.slice a n cap, dv] t fz)) : lenAt w b = n := by
  unfold lenAt
  rw [cell_of h 0 rfl]
  rfl
theorem isDec_pop {base b : Nat} {l : List Nat} {y : Nat} {dp : Int} {w : World} (h : IsDec base b (l ++ [y]) dp w) : ∃ g cap, w.heap[b]? = some (.cells #[.slice (some ⟨g, 0, none⟩) (l.length + 1) cap, .int .i64 dp] 267 (0, 0)) ∧ l.length + 1 ≤ cap ∧ cap ≤ maxLen ∧ w.cell? ⟨g, l.length, none⟩ = some (.int .u8 (y : Int)) ∧
    ∀ W : World, W.heap = w.heap → IsDec base b l dp (W.setCell ⟨b, 0, none⟩ (.slice (some ⟨g, 0, none⟩) l.length cap)) := by
  obtain ⟨v, h1, h2, h3⟩ := h
  obtain ⟨a, cap, rfl, _, hd⟩ := owns_digs h2
  rcases hd with hd | ⟨g, rfl, hbg, hg, hcap, hmax, hc⟩
  · simp at hd
  · rw [List.length_append, List.length_singleton] at h1 h2 hcap
    refine ⟨g, cap, h1, hcap, hmax, ?_, fun W hW => ⟨.slice (some ⟨g, 0, none⟩) l.length cap, ?_, ?_, ?_⟩⟩
    · have := hc l.length (by simp)
      rw [this]
      simp [List.getD]
    · have := set_block (w := W) (b := b) (by rw [hW]; exact h1) 0 (.slice (some ⟨g, 0, none⟩) l.length cap)
      exact this
    · refine owns_other (w := w) ?_ (fun g' hg' => ?_)
      · refine ownsRow_pop (last := cellsD [y]) (by simp [cellsD]) ?_
        have e : cellsD (l ++ [y]) = cellsD l ++ cellsD [y] := by simp [cellsD]
        rw [← e]
        exact h2
      · have : g' = g := by simpa [Value.ownBlock] using hg'.symm
        subst this
        rw [set_other _ _ (by intro e; exact h3 (by simp [Value.ownBlock, e])), hW]
    · exact h3
end Go.Proofs.YtgjmgneppecfgaaGreatDoor.Ma
namespace Go.Proofs.YtgjmgneppecfgaaGreatDoor.Ma
open Go.RowKit Go.Proofs.YtgjmgneppecfgaaGreatDoor.Va Go.Proofs.YtgjmgneppecfgaaGreatDoor.Ba
set_option linter.unusedVariables false
set_option linter.unusedSimpArgs false

def LoopT (base b : Nat) (d : List Nat) (dp : Int) (w wr : World) : Prop := ∃ d', IsDec base b d' dp wr ∧ stripZ d' = stripZ d ∧ w.grownBy wr (some b) ∧ d'.length ≤ d.length
/-- a decimal without zeros at its end; 0 has the place 0 -/
def trimP (d : List Nat) (dp : Int) : Int := if stripZ d = [] then 0 else dp
def TrimEnd (base b : Nat) (d : List Nat) (dp : Int) (w : World) (e : Ending) (w' : World) : Prop :=
  e = .returned (.pointer (some ⟨b, 0, none⟩)) ∧ IsDec base b (stripZ d) (trimP d dp) w' ∧ w.grownBy w' (some b)
theorem IsDec.setDp {base b : Nat} {d : List Nat} {dp dq : Int} {w W : World} (h : IsDec base b d dp w) (hW : W.heap = w.heap) : IsDec base b d dq (W.setCell ⟨b, 1, none⟩ (.int .i64 dq)) := by
  obtain ⟨v, h1, h2, h3⟩ := h
  refine ⟨v, ?_, ?_, h3⟩
  · have := set_block (w := W) (b := b) (by rw [hW]; exact h1) 1 (.int .i64 dq)
    exact this
  · refine owns_other h2 fun g hg => ?_
    rw [set_other _ _ (by intro e; exact h3 (by rw [hg, e])), hW]
theorem IsDec.same {base b : Nat} {d : List Nat} {dp : Int} {w W : World} (h : IsDec base b d dp w) (hW : W.heap = w.heap) : IsDec base b d dp W := by
  obtain ⟨v, h1, h2, h3⟩ := h
  exact ⟨v, by rw [hW]; exact h1, owns_other h2 fun g hg => by rw [hW], h3⟩
set_option maxHeartbeats 2000000 in
set_option maxRecDepth 100000 in
theorem trim_any (base b : Nat) (d : List Nat) (dp : Int) (hd : d.length ≤ 2147483647) (w : World) (h : IsDec base b d dp w) : Calls Tryz.prog 280 #[.pointer (some ⟨b, 0, none⟩)] w (TrimEnd base b d dp w) := by
  have H := Lib.hid h
  have HD := Lib.hid hd
  clear h hd
  go_enter Tryz.func280, Tryz.ntmps280
  go_wp2_with fail
  go_loopw [3] (fun _ wr => LoopT base b d dp w wr) (fun _ wr => lenAt wr b)
  case atStart => exact ⟨d, H.out, rfl, ⟨rfl, rfl, rfl, Nat.le_refl _, fun _ _ _ => rfl⟩, Nat.le_refl _⟩
  case round =>
    obtain ⟨d', hi, hst, hgr, hlen⟩ := hrel
    have HI := Lib.hid hi
    have HST := Lib.hid hst
    have HGR := Lib.hid hgr
    have HLN := Lib.hid hlen
    clear hi hst hgr hlen
    obtain hnil | ⟨l, y, hcon⟩ : d' = [] ∨ ∃ l y, d' = l ++ [y] := by
      rcases List.eq_nil_or_concat d' with q | ⟨l, y, q⟩
      · exact .inl q
      · exact .inr ⟨l, y, by rw [q, List.concat_eq_append]⟩
    · subst hnil
      obtain ⟨v, h1, h2, h3⟩ := HI.out
      obtain ⟨a, cap, rfl, _, _⟩ := owns_digs h2
      have c := cells2 h1
      have H1 := Lib.hid h1
      have H2 := Lib.hid h2
      have H3 := Lib.hid h3
      clear h1 h2 h3
      go_wp2_with fail
      go_quiet (fail)
      go_wp2_with fail
      have hs0 : stripZ d = [] := HST.out.symm
      refine bodyPost_ret (results_tmp rfl _ _ _) rfl ⟨rfl, ?_, gr_set (gr_drewN HGR.out _) _ _⟩
      unfold trimP
      rw [hs0, if_pos rfl]
      exact HI.out.setDp rfl
    · subst hcon
      obtain ⟨g, cap, h1, hcap, hmax, hcell, hpop⟩ := isDec_pop HI.out
      have HPOP := Lib.hid hpop
      obtain ⟨n, hn⟩ : ∃ n, l.length = n := ⟨_, rfl⟩
      have HN := Lib.hid hn
      rw [hn] at h1 hcap hcell HPOP
      have c := cells2 h1
      have H1 := Lib.hid h1
      unfold maxLen at hmax
      clear h1 hpop hn
      by_cases hy : y = 0
      · subst hy
        go_wp2_with fail
        go_quiet (fail)
        go_wp2_with fail
        go_region
        go_wp2_with fail
        have hp := HPOP.out (wr.drewN (nq + 1)) rfl
        have hs := HST.out
        rw [stripZ_snoc] at hs
        refine ⟨⟨l, hp, hs, gr_set (gr_drewN HGR.out _) _ _, by have := HLN.out; rw [List.length_append] at this; omega⟩, ?_⟩
        obtain ⟨a2, cap2, e2, _⟩ := hp.dec
        rw [lenAt_of e2, lenAt_of H1.out, HN.out]
        omega
      · have hy2 : ((y : Int) == 0) = false := by simp; omega
        go_wp2_with fail
        go_quiet (fail)
        go_wp2_with fail
        have hs1 : stripZ d = l ++ [y] := HST.out.symm.trans (stripZ_end l y hy)
        go_returns
        refine ⟨rfl, ?_, gr_drewN HGR.out _⟩
        unfold trimP
        rw [hs1, if_neg (by simp)]
        exact HI.out.same rfl
end Go.Proofs.YtgjmgneppecfgaaGreatDoor.Ma
namespace Go.Proofs.YtgjmgneppecfgaaGreatDoor.Ma
open Go.RowKit Go.Proofs.YtgjmgneppecfgaaGreatDoor.Va Go.Proofs.YtgjmgneppecfgaaGreatDoor.Ba
set_option linter.unusedVariables false
set_option linter.unusedSimpArgs false

theorem owns_base {w : World} {base base' : Nat} {v : Value} {n : Nat} {xs : List Value} (h : w.ownsRow base 5 1 v n xs) (hb : base' ≤ base) : w.ownsRow base' 5 1 v n xs := by
  obtain ⟨h1, h2⟩ := h
  refine ⟨h1, ?_⟩
  rcases h2 with h2 | ⟨g, cap, cur, a, b, c⟩
  · exact .inl h2
  · exact .inr ⟨g, cap, cur, a, Nat.le_trans hb b, c⟩
theorem IsDec.base {base base' b : Nat} {d : List Nat} {dp : Int} {w : World} (h : IsDec base b d dp w) (hb : base' ≤ base) : IsDec base' b d dp w := by
  obtain ⟨v, h1, h2, h3⟩ := h
  exact ⟨v, h1, owns_base h2 hb, h3⟩
/-- the digits of a text -/
def valsD (l : List Nat) : List Nat := l.map (· - 48)
def LoopN (l : List Nat) (b sb base : Nat) (w : World) (iv : Value) (wr : World) : Prop :=
  ∃ i : Nat, iv = .int .i64 (i : Int) ∧ i ≤ l.length ∧ IsDec base b (valsD (l.take i)) 0 wr ∧ base ≤ wr.heap.size ∧ (∀ j, j < l.length → wr.cell? ⟨sb, j, none⟩ = some (.int .u8 ((l.getD j 0 : Nat) : Int))) ∧ Below b w wr
theorem owns_block {w : World} {base : Nat} {v : Value} {n : Nat} {xs : List Value} (h : w.ownsRow base 5 1 v n xs) : ∀ g, v.ownBlock = some g → base ≤ g := by
  intro g hg
  rcases h.2 with ⟨rfl, _⟩ | ⟨g', cap, cur, rfl, hb, _⟩
  · simp [Value.ownBlock] at hg
  · have : g' = g := by simpa [Value.ownBlock] using hg
    omega
/-- one digit more -/
theorem dec_push {base b : Nat} {d : List Nat} {dp : Int} {x : Nat} {wr w3 : World} {o : Obj} {v v' : Value} (h1 : wr.heap[b]? = some (.cells #[v, .int .i64 dp] 267 (0, 0))) (hown : wr.ownsRow base 5 1 v d.length (cellsD d)) (hb : b < base) (hbase : base ≤ wr.heap.size)
    (hap : Appended (wr.alloc o) base 5 1 v d.length (cellsD d ++ [.int .u8 (x : Int)]) v' w3) :
    (∀ k, k < base → w3.heap[k]? = wr.heap[k]?) ∧ base ≤ w3.heap.size ∧ IsDec base b (d ++ [x]) dp (w3.setCell ⟨b, 0, none⟩ v') := by
  have hk : ∀ k, k < base → w3.heap[k]? = wr.heap[k]? := fun k hk => by
    have hlt : k < (wr.alloc o).heap.size := by rw [World.size_alloc]; omega
    rw [hap.grown.block k hlt (fun e => by have := owns_block hown k (by rw [e]); omega)]
    exact (below_alloc wr o).block k (by omega)
  have hsz : base ≤ w3.heap.size := by
    have := hap.grown.size
    rw [World.size_alloc] at this
    omega
  have hne : v'.ownBlock ≠ some b := fun e => by have := owns_block hap.owns b e; omega
  refine ⟨hk, hsz, v', ?_, ?_, hne⟩
  · exact set_block (w := w3) (b := b) ((hk b hb).trans h1) 0 v'
  · refine owns_other (w := w3) ?_ (fun g hg => set_other _ _ (fun e => hne (by rw [hg, e])))
    have := hap.owns
    rw [List.length_append, List.length_singleton]
    have e : cellsD (d ++ [x]) = cellsD d ++ [.int .u8 (x : Int)] := by simp [cellsD]
    rw [e]
    exact this
theorem info8g : ∃ i z, Tryz.prog.info? 5 = some i ∧ i.zero = some z ∧ i.size = 1 ∧ i.bytes = 1 ∧ z.cells.size = 1 := by
  have h := info8
  cases hq : Tryz.prog.info? 5 with
  | none => rw [hq] at h; cases h
  | some i =>
    rw [hq] at h
    simp only [Option.map_some, Option.some.injEq, Prod.mk.injEq] at h
    exact ⟨i, _, rfl, h.1, h.2.1, h.2.2, rfl⟩
theorem digs_range (n : Nat) : ∀ x ∈ digs n, 48 ≤ x ∧ x < 58 := by
  have h0 : ∀ (m k : Nat), k < m → ∀ x ∈ digs0 k, 48 ≤ x ∧ x < 58 := by
    intro m
    induction m with
    | zero => intro k hk; omega
    | succ m ih =>
      intro k hk x hx
      rw [digs0] at hx
      split at hx
      · cases hx
      · rcases List.mem_append.1 hx with q | q
        · exact ih (k / 10) (by omega) x q
        · rw [List.mem_singleton] at q; omega
  intro x hx
  unfold digs at hx
  rcases List.mem_append.1 hx with q | q
  · exact h0 _ _ (Nat.lt_succ_self _) x q
  · rw [List.mem_singleton] at q; omega
def NewEndD (n : Nat) (w : World) (e : Ending) (w' : World) : Prop :=
  e = .returned (.pointer (some ⟨w.heap.size, 0, none⟩)) ∧ IsDec (w.heap.size + 1) w.heap.size (stripZ (valsD (digs n))) (trimP (valsD (digs n)) ((digs n).length : Int)) w' ∧ Below w.heap.size w w'
set_option maxHeartbeats 2000000 in
set_option maxRecDepth 100000 in
theorem newDec_any (n : Nat) (hn : n < 18446744073709551616) (w : World) : Calls Tryz.prog 239 #[.int .u64 (n : Int)] w (NewEndD n w) := by
  obtain ⟨i8, z8, hi0, hi1, hi2, hi3, hi4⟩ := info8g
  have HI0 := Lib.hid hi0
  have HI1 := Lib.hid hi1
  have HI2 := Lib.hid hi2
  have HI3 := Lib.hid hi3
  have HI4 := Lib.hid hi4
  clear hi0 hi1 hi2 hi3 hi4
  go_enter Tryz.func239, Tryz.ntmps239
  go_wp2_with fail
  generalize hW : World.alloc w _ = W
  have B0 := Lib.hid (hW ▸ below_alloc w _ : Below w.heap.size w W)
  have HB := Lib.hid (hW ▸ block_new w _ _ : W.heap[w.heap.size]? = some (.cells #[.slice none 0 0, .int .i64 0] 267 (0, 0)))
  clear hW
  refine (fmtUint_any n hn W).mono ?_
  rintro e w1 ⟨rfl, hb1⟩
  have HB1 := Lib.hid (keep hb1 HB.out)
  have B1 := Lib.hid (B0.out.trans (hb1.mono B0.out.size))
  clear hb1
  have hcv := Lib.run_convert_string_bytes (P := Tryz.prog) w1 9 73 5 (numS (digs n)) Tryz.underlying9 Tryz.underlying73 Tryz.underlying5
  obtain ⟨cap, hcap⟩ : ∃ cap, grownCap w1 (numS (digs n)).size 0 5 = cap := ⟨_, rfl⟩
  obtain ⟨k, hk⟩ : ∃ k, (digs n).length = k := ⟨_, rfl⟩
  have HK := Lib.hid hk
  have hk20 : k ≤ 20 := hk ▸ digs_len hn
  rw [hcap, numS_size, hk] at hcv
  clear hcap hk
  go_upto_region 3 with fail
  clear hcv
  generalize hW2 : Lib.bytesWorld w1 _ _ = W2
  have B2 := Lib.hid (B1.out.trans ((hW2 ▸ below_bytes w1 5 (numS (digs n))).mono B1.out.size) : Below w.heap.size w W2)
  have HB2 := Lib.hid (hW2 ▸ keep (below_bytes w1 5 (numS (digs n))) HB1.out : W2.heap[w.heap.size]? = some (.cells #[.slice none 0 0, .int .i64 0] 267 (0, 0)))
  have HSZ : Hid (W2.heap.size = w1.heap.size + 1) := Lib.hid (hW2 ▸ by rw [Lib.bytesWorld_size])
  have HC : Hid (∀ j, j < (digs n).length → W2.cell? ⟨w1.heap.size, j, none⟩ = some (.int .u8 (((digs n).getD j 0 : Nat) : Int))) := Lib.hid (fun j hj => by
    have hs : j < (numS (digs n)).size := by rw [numS_size]; exact hj
    rw [← hW2, Lib.bytesWorld_cell w1 5 _ j hs, bytesN_at _ j hs, bytesN_numS' _ (digs_lt n)])
  clear hW2
  go_wp2_with fail
  go_loopw [10] (LoopN (digs n) w.heap.size w1.heap.size W2.heap.size w) (fun a _ => k - (intOf a).toNat)
  case atStart => exact ⟨0, rfl, Nat.zero_le _, ⟨.slice none 0 0, HB2.out, ⟨rfl, .inl ⟨rfl, rfl⟩⟩, by simp [Value.ownBlock]⟩, Nat.le_refl _, HC.out, B2.out⟩
  case round =>
    obtain ⟨i, rfl, hi, ⟨v, h1, h2, h3⟩, hbase, hc, hb⟩ := hrel
    have hlenD : (valsD ((digs n).take i)).length = i := by unfold valsD; rw [List.length_map, List.length_take]; omega
    have HLD := Lib.hid hlenD
    have H2 := Lib.hid h2
    obtain ⟨a, cap2, rfl, _, _⟩ := owns_digs h2
    rw [hlenD] at h1 h2 h3 H2
    have HOWN := Lib.hid h2
    have H1 := Lib.hid h1
    have HBS := Lib.hid hbase
    have HCC := Lib.hid hc
    have HBB := Lib.hid hb
    have c := cells2 h1
    have hik : i ≤ k := by rw [HK.out] at hi; exact hi
    have hbb : w.heap.size < w1.heap.size := heap_lt HB1.out
    have H3 := Lib.hid h3
    clear h1 h2 h3 hbase hb hlenD hi
    by_cases hlt : i < k
    · have hx := hc i (by rw [HK.out]; exact hlt)
      have hr := digs_range n _ (getD_mem (l := digs n) (i := i) (by rw [HK.out]; exact hlt))
      have HTK : Hid (valsD ((digs n).take (i + 1)) = valsD ((digs n).take i) ++ [(digs n).getD i 0 - 48]) := Lib.hid (by
        unfold valsD
        rw [List.take_succ_eq_append_getElem (by rw [HK.out]; exact hlt), List.map_append]
        simp [List.getD, List.getElem?_eq_getElem (show i < (digs n).length by rw [HK.out]; exact hlt)])
      obtain ⟨x, hx0⟩ : ∃ x, (digs n).getD i 0 = x := ⟨_, rfl⟩
      rw [hx0] at hx hr HTK
      have hw : IntKind.u8.wrap ((x : Int) - 48) = ((x - 48 : Nat) : Int) := by rw [IntKind.wrap_u8]; omega
      have HONE : Hid (∀ u ∈ (#[Value.int .u8 ((x - 48 : Nat) : Int)] : Array Value).toList, u.oneCell' = true) := Lib.hid (by
        intro u hu
        have e : u = .int .u8 ((x - 48 : Nat) : Int) := by simpa using hu
        rw [e]
        rfl)
      clear hc hx0
      go_wp2_with (at_builtin; refine wpList_append_one _ rfl _ _ 73 rfl W2.heap.size 5 i8 _ 1 1 Tryz.underlying73 HI0.out HI1.out HI2.out HI3.out HI4.out (by decide) _ _ (cellsD (valsD ((digs n).take i))) rfl (HOWN.out.alloc _) ⟨wr.heap.size, 0, none⟩ 1 _ rfl rfl (cell_new wr _ _) HONE.out (by unfold maxLen; omega) (by omega) (by have := HBS.out; simp; omega) ?_; intro v' w3 hap
                   have F := Lib.hid (dec_push (d := valsD ((digs n).take i)) (x := x - 48) H1.out (by rw [HLD.out]; exact HOWN.out) (by have := HSZ.out; omega) HBS.out (by rw [HLD.out]; exact hap))
                   have G := Lib.hid hap.grown
                   obtain ⟨vg, vcap, rfl⟩ := hap.made
                   clear hap
                   have c3 := cells2 ((F.out.1 w.heap.size (by have := HSZ.out; omega)).trans H1.out))
      go_roundw
      case rel =>
        refine ⟨i + 1, rfl, by rw [HK.out]; exact hlt, by rw [HTK.out]; exact F.out.2.2, by simpa using F.out.2.1, fun j hj => ?_, ?_⟩
        · refine Eq.trans ?_ (HCC.out j hj)
          refine World.cell?_of_block ?_
          rw [set_other _ _ (by show w1.heap.size ≠ _; omega), F.out.1 _ (by have := HSZ.out; show w1.heap.size < _; omega)]
        · refine Below.setCell (Below.grown (HBB.out.alloc HBB.out.size _) G.out ?_ ?_) (Nat.le_refl _) _
          · exact (HBB.out.alloc HBB.out.size _).size
          · intro q e
            have := owns_block HOWN.out q e
            have := HSZ.out
            omega
      case measure => simp [intOf]; omega
    · obtain rfl : i = k := by omega
      have hall : (digs n).take i = digs n := List.take_of_length_le (by rw [HK.out]; exact Nat.le_refl _)
      have hvl : (valsD (digs n)).length = i := by unfold valsD; rw [List.length_map, HK.out]
      have HFIN : Hid (IsDec W2.heap.size w.heap.size (valsD (digs n)) 0 wr) := Lib.hid ⟨_, H1.out, by rw [hvl]; have := HOWN.out; rw [hall] at this; exact this, H3.out⟩
      have HVL := Lib.hid hvl
      clear hall hvl hc
      go_wp2_with fail
      refine (trim_any W2.heap.size w.heap.size (valsD (digs n)) (i : Int) (by rw [HVL.out]; omega) _ (HFIN.out.setDp rfl)).mono ?_
      rintro e w4 ⟨rfl, hd4, hg4⟩
      have HD4 := Lib.hid hd4
      have HB4 : Hid (Below w.heap.size w w4) := Lib.hid (Below.grown (Below.setCell HBB.out (Nat.le_refl _) _) hg4 (Below.setCell HBB.out (Nat.le_refl _) _).size (fun q e => by obtain rfl := Option.some.inj e; exact Nat.le_refl _))
      clear hd4 hg4
      go_wp2_with fail
      go_returns
      refine ⟨rfl, ?_, HB4.out⟩
      rw [HK.out]
      exact HD4.out.base (by have := HSZ.out; omega)
end Go.Proofs.YtgjmgneppecfgaaGreatDoor.Ma
namespace Go.Proofs.YtgjmgneppecfgaaGreatDoor.Ma
set_option linter.unusedVariables false

/-- the number of a row of digits -/
def numD (l : List Nat) : Nat := l.foldl (fun a x => 10 * a + x) 0
/-- the number of the first i digits, zeros behind the end -/
def preD (d : List Nat) : Nat → Nat
  | 0 => 0
  | i + 1 => 10 * preD d i + d.getD i 0
theorem numD_snoc (l : List Nat) (x : Nat) : numD (l ++ [x]) = 10 * numD l + x := by
  unfold numD
  rw [List.foldl_append]
  rfl
theorem preD_take (d : List Nat) : ∀ i, i ≤ d.length → preD d i = numD (d.take i)
  | 0, _ => by rw [List.take_zero]; rfl
  | i + 1, h => by
    rw [preD, preD_take d i (by omega), List.take_succ_eq_append_getElem (by omega), numD_snoc]
    simp [List.getD, List.getElem?_eq_getElem (show i < d.length by omega)]
theorem preD_all (d : List Nat) : preD d d.length = numD d := by rw [preD_take d _ (Nat.le_refl _), List.take_length]
theorem preD_more (d : List Nat) : ∀ j, preD d (d.length + j) = numD d * 10 ^ j
  | 0 => by rw [Nat.add_zero, preD_all, Nat.pow_zero, Nat.mul_one]
  | j + 1 => by
    rw [← Nat.add_assoc, preD, preD_more d j, List.getD, List.getElem?_eq_none (by omega), Nat.pow_succ]
    simp only [Option.getD_none, Nat.add_zero]
    rw [Nat.mul_comm 10, Nat.mul_assoc]
/-- one round of the second loop -/
theorem half_round {d : List Nat} {out : List Nat} {k i n : Nat} (h : preD d i = numD out * 2 ^ k * 10 + n) :
    preD d (i + 1) = numD (out ++ [n / 2 ^ k]) * 2 ^ k * 10 + (n % 2 ^ k * 10 + d.getD i 0) := by
  rw [preD, h, numD_snoc]
  have e := Nat.div_add_mod n (2 ^ k)
  generalize 2 ^ k = q at e ⊢
  generalize n / q = a at e ⊢
  generalize n % q = r at e ⊢
  generalize numD out = m
  subst e
  simp only [Nat.mul_add, Nat.add_mul]
  have h1 : 10 * (m * q * 10) = 10 * m * q * 10 := by simp only [Nat.mul_assoc]
  have h2 : 10 * (q * a) = a * q * 10 := by rw [Nat.mul_comm q a, Nat.mul_comm 10]
  omega
/-- behind the end of the digits what is left is divided by 2 once more in each round -/
theorem half_left {n k t : Nat} (h : 2 ^ t ∣ n) (ht : t ≤ k) : 2 ^ (t + 1) ∣ n % 2 ^ k * 10 := by
  have h1 : 2 ^ t ∣ n % 2 ^ k := (Nat.dvd_mod_iff (Nat.pow_dvd_pow 2 ht)).2 h
  obtain ⟨c, hc⟩ := h1
  exact ⟨c * 5, by rw [hc, Nat.pow_succ]; simp only [Nat.mul_assoc]; congr 1; omega⟩
theorem half_gone {n k : Nat} (h : 2 ^ k ∣ n) : n % 2 ^ k * 10 = 0 := by
  rw [Nat.mod_eq_zero_of_dvd h]
end Go.Proofs.YtgjmgneppecfgaaGreatDoor.Ma
