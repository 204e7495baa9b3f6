/-
  THE WALK of optimizeTailRec.
-/
import Derived.Test.YtnlndpgbhmkanaaOpO
import Derived.WalkMore
import Derived.Deep.LoopGhost
namespace Go.Proofs.Ytnlndpgbhmkanaa.Op
open Go.RowKit Go.Maps
set_option linter.unusedVariables false
set_option linter.unusedSimpArgs false

def Fwd (l : List Ins) (k : Nat) : Prop := ∀ (p : Nat) (z : Ins), k ≤ p → l[p]? = some z → z.op = 15 → (p : Int) < z.a
theorem Fwd.next {l : List Ins} {k : Nat} (h : Fwd l k) : Fwd l (k + 1) := fun p z hp => h p z (by omega)
theorem Fwd.set {l : List Ins} {k : Nat} (h : Fwd l k) (v : Ins) : Fwd (l.set k v) (k + 1) := fun p z hp hz => h p z (by omega) (by rwa [List.getElem?_set_ne (by omega)] at hz)
def nosc : Nat → Option Bool := fun _ => none
def LoopT (w0 : World) (N n : Nat) (sv : Value) (l0 : List Ins) (mb : Nat) (gh : Nat) (pv i : Value) (wr : World) : Prop :=
  ∃ (k : Nat) (l : List Ins) (ps pcs : List Nat) (sc : Nat → Option Bool) (m : Nat), i = .int .i64 k ∧ k + gh = n ∧ l.length = n ∧ m ≤ k ∧ pcs.length ≤ k ∧ TM w0 N l ps sv pcs pv mb m sc wr ∧ Fwd l k ∧ (∀ j ∈ pcs, j < k) ∧ callsFrom n 0 l0 [] nosc = callsFrom (n - k) k l pcs sc
theorem callsFrom_at {l : List Ins} {n k : Nat} {pcs : List Nat} {sc : Nat → Option Bool} {x : Ins} (hk : k < n) (hx : l[k]? = some x) : callsFrom (n - k) k l pcs sc =
      if x.op = 23 then callsFrom (n - (k + 1)) (k + 1) l (k :: pcs) (if x.c = 0 then put sc k (decide (x.b = 0)) else sc)
      else if x.op = 19 then callsFrom (n - (k + 1)) (k + 1) (stepCall l k x pcs sc) pcs sc
      else if x.op = 24 then (match pcs with | [] => l | _ :: r => callsFrom (n - (k + 1)) (k + 1) l r sc)
      else callsFrom (n - (k + 1)) (k + 1) l pcs sc := by
  rw [show n - k = (n - (k + 1)) + 1 by omega]
  conv => lhs; unfold callsFrom
  simp only [hx]
  rfl
theorem LoopT.next {w0 w' : World} {N n k mb m' gh : Nat} {sv pv' : Value} {l0 l l' : List Ins} {ps pcs pcs' : List Nat} {sc sc' : Nat → Option Bool} (hk : k + (gh + 1) = n) (hl : l'.length = n) (hm : m' ≤ k + 1) (hpl : pcs'.length ≤ k + 1) (ht : TM w0 N l' ps sv pcs' pv' mb m' sc' w')
    (hf : Fwd l' (k + 1)) (hj : ∀ j ∈ pcs', j < k + 1) (he : callsFrom n 0 l0 [] nosc = callsFrom (n - k) k l pcs sc) (hs : callsFrom (n - k) k l pcs sc = callsFrom (n - (k + 1)) (k + 1) l' pcs' sc') : LoopT w0 N n sv l0 mb gh pv' (.int .i64 ((k : Int) + 1)) w' :=
  ⟨k + 1, l', ps, pcs', sc', m', rfl, by omega, hl, hm, hpl, ht, hf, hj, he.trans hs⟩
theorem stepCall_nil {l : List Ins} {i : Nat} {x : Ins} {sc : Nat → Option Bool} : stepCall l i x [] sc = l := rfl
theorem stepCall_ne {l : List Ins} {i j : Nat} {x : Ins} {r : List Nat} {sc : Nat → Option Bool} (h : x.a ≠ j) : stepCall l i x (j :: r) sc = l := by
  unfold stepCall
  simp only [if_neg h]
theorem stepCall_no {l : List Ins} {i j : Nat} {x : Ins} {r : List Nat} {sc : Nat → Option Bool} (h : sc j = none) : stepCall l i x (j :: r) sc = l := by
  unfold stepCall
  simp only [h]
  split <;> rfl
theorem stepCall_off {l : List Ins} {i j : Nat} {x : Ins} {r : List Nat} {sc : Nat → Option Bool} (h : follow l l.length (i + 1) = false) : stepCall l i x (j :: r) sc = l := by
  unfold stepCall
  simp only [h]
  split
  · split <;> simp
  · rfl
theorem stepCall_can {l : List Ins} {i j : Nat} {x : Ins} {r : List Nat} {sc : Nat → Option Bool} {can : Bool} (h : x.a = j) (hs : sc j = some can) (hf : follow l l.length (i + 1) = true) : stepCall l i x (j :: r) sc = if can then l.set i { x with op := 15, a := (j : Int) + 1 } else l.set i { x with op := 20 } := by
  unfold stepCall
  simp only [if_pos h, hs, if_pos hf]
def LoopI (l : List Ins) (n k f : Nat) (v : Value) : Prop := ∃ q : Nat, v = .int .i64 q ∧ k + 1 ≤ q ∧ n ≤ q + f ∧ follow l n (k + 1) = follow l f q
theorem LoopI.start (l : List Ins) (n k : Nat) : LoopI l n k n (.int .i64 ((k : Int) + 1)) := ⟨k + 1, rfl, Nat.le_refl _, by omega, rfl⟩
theorem LoopI.jump {l : List Ins} {n k q f : Nat} {y : Ins} (hk : k + 1 ≤ q) (hf : n ≤ q + (f + 1)) (he : follow l n (k + 1) = follow l (f + 1) q) (hy : l[q]? = some y) (ho : y.op = 15) (hlt : (q : Int) < y.a) : LoopI l n k f (.int .i64 y.a) := by
  refine ⟨y.a.toNat, by rw [Int.toNat_of_nonneg (by omega)], by omega, by omega, ?_⟩
  rw [he, follow, hy]
  simp only [if_pos ho]
theorem LoopI.ret {l : List Ins} {n k q f : Nat} {y : Ins} (he : follow l n (k + 1) = follow l (f + 1) q) (hy : l[q]? = some y) (ho : y.op ≠ 15) : follow l n (k + 1) = decide (y.op = 24) := by
  rw [he, follow, hy]
  simp only [if_neg ho]
theorem LoopI.out {l : List Ins} {n k q f : Nat} (hl : l.length = n) (hq : n ≤ q) (he : follow l n (k + 1) = follow l f q) : follow l n (k + 1) = false := by
  rw [he]
  cases f with
  | zero => rfl
  | succ f => rw [follow, List.getElem?_eq_none (by omega)]

theorem code_kept {w w' : World} {base : Nat} {pv v1 v2 : Value} {n p : Nat} {xs : List Value} (h : w.ownsRow base 3 1 pv n xs) (hg : w.grownBy w' pv.ownBlock) (hc : w.heap[p]? = some (.cells #[v1, v2] 63 (0, 0))) : w'.heap[p]? = some (.cells #[v1, v2] 63 (0, 0)) :=
  (hg.block p (heap_lt hc) (int_apart h p _ _ hc (.inr (.inr rfl)))).trans hc
theorem key_wf {k : Nat} (h : k ≤ 200) : keyOf Try.prog 3 (.int .i64 (k : Int)) = some (.int .i64 (k : Int)) := keyOf_int_mk Try.underlying3 (by apply WalkArith.wf_i64 <;> omega)


set_option maxHeartbeats 8000000 in
set_option maxRecDepth 100000 in
theorem tailRec_any (w0 w : World) (N : Nat) (l0 : List Ins) (ps0 : List Nat) (sv : Value) (h : RC w0 N l0 ps0 sv w) (hfwd : Fwd l0 0) (hne : l0 ≠ []) (hl : l0.length ≤ 200) :
    Calls Try.prog 26 #[ptr N] w (AppEnd w0 N (callsFrom l0.length 0 l0 [] nosc)) := by
  obtain ⟨g, cap, rfl⟩ : ∃ g cap, sv = .slice (some ⟨g, 0, none⟩) l0.length cap := by
    cases l0 with
    | nil => exact absurd rfl hne
    | cons a b => exact h.pos
  have hbox := (h.alloc (.map #[] 0)).boxc.1
  generalize hn : l0.length = n at *
  have H : Hid (LoopT w0 N n (.slice (some ⟨g, 0, none⟩) n cap) l0 w.heap.size n (.slice none 0 0) (.int .i64 0) (w.alloc (.map #[] 0))) := Lib.hid ⟨0, l0, ps0, [], nosc, 0, rfl, Nat.zero_add _, hn, Nat.le_refl _, Nat.le_refl _,
    ⟨h.alloc _, World.ownsRow_nil _ _ _ _, h.size, .map [], World.ownsMap_made _ _ _ _, MapOK.empty⟩, hfwd, fun j hj => (by cases hj), rfl⟩
  obtain ⟨j0, hi, hz0, hz1, hz2⟩ := info_parts infoInt
  have JI := Lib.hid hi
  have JZ0 := Lib.hid hz0
  have JZ1 := Lib.hid hz1
  have JZ2 := Lib.hid hz2
  clear h hne hn hfwd hi hz0 hz1 hz2
  have hmm := @run_makeMap Try.prog
  show Calls Try.prog 26 #[.pointer (some ⟨N, 0, none⟩)] w _
  go_enter Try.func26, Try.ntmps26
  go_wp2_with fail
  go_step3
  go_wp2_with fail
  go_step3
  go_wp2_with fail
  clear hbox hmm
  generalize hmb : w.heap.size = mb at *
  go_loopg [2, 17] n (fun gh pv i wr => LoopT w0 N n (.slice (some ⟨g, 0, none⟩) n cap) l0 mb gh pv i wr)
  case atStart => exact H.out
  case round =>
    clear H hmb
    obtain ⟨k, l, ps, pcs, sc, m, rfl, hk, hl', hm, hpl, htm, hfwd, hpj, heq⟩ := hrel
    obtain ⟨pa, pcap, rfl⟩ := own_shape htm.row
    generalize hpn : pcs.length = pn at htm hpl ⊢
    have HPN := Lib.hid hpn
    clear hpn
    have HT := Lib.hid htm
    have HF := Lib.hid hfwd
    have HPJ := Lib.hid hpj
    have HEQ := Lib.hid heq
    have HLL := Lib.hid hl'
    have HK := Lib.hid hk
    have hbox := htm.rc.boxc.1
    clear htm hfwd hpj heq
    cases gk with
    | zero =>
      obtain rfl : k = n := by omega
      clear hl' hk
      go_wp2_with fail
      try rw [Exit.noGoto_ret]
      go_returns
      exact ⟨ps, _, rfl, by rw [HEQ.out, Nat.sub_self]; exact HT.out.rc⟩
    | succ gh =>
      have hlt : k < n := by omega
      have hkl : k < l.length := by omega
      have hx := List.getElem?_eq_getElem hkl
      generalize l[k] = x at hx
      obtain ⟨p, v, hp, hv, hc, hg⟩ := HT.out.rc.code hx
      have hcc := cells2 hc
      have HX := Lib.hid hx
      have HP := Lib.hid hp
      have HV := Lib.hid hv
      have HC := Lib.hid hc
      unfold ptr at hg
      clear hx hp hv hc hl' hkl hk
      have HS := Lib.hid (callsFrom_at (pcs := pcs) (sc := sc) hlt HX.out)
      by_cases h23 : x.op = 23
      · rw [if_pos h23] at HS
        obtain rfl := HV.out.scope h23
        obtain ⟨op, xa, xb, xc⟩ := x
        dsimp only at hcc h23 HS
        subst h23
        obtain ⟨bz, hbz⟩ : ∃ bz, (xb == 0) = bz := ⟨_, rfl⟩
        have HBZ : Hid (decide (xb = 0) = bz) := Lib.hid (by rw [← hbz, Bool.eq_iff_iff]; simp)
        have hsz := HT.out.rc.size
        have HROW : Hid (wr.ownsRow (N + 1) 3 1 (.slice pa pn pcap) pn (encB pcs)) := Lib.hid (by have := HT.out.row; rwa [HPN.out] at this)
        have HA : Hid (∀ u ∈ [Value.int .i64 (k : Int)], u.oneCell' = true) := Lib.hid (int_one _)
        by_cases hc0 : xc = 0
        · subst hc0
          rw [if_pos rfl, HBZ.out] at HS
          go_wp2_with (first | (at_builtin; refine wpList_append_one _ rfl _ _ 38 rfl (N + 1) 3 j0 _ 1 8 Try.underlying38 JI.out JZ0.out JZ1.out JZ2.out rfl (by decide) _ _ (encB pcs) rfl (HROW.out.alloc _) ⟨wr.heap.size, 0, none⟩ 1 [.int .i64 (k : Int)] rfl rfl (cell_new wr _ _) HA.out (by unfold maxLen; omega) (by omega) (by simp; omega) ?_; intro v' w3 hap; obtain ⟨g', cap', rfl⟩ := hap.made; have HT3 := Lib.hid ((HT.out.alloc _).push (k := k) (by rw [HPN.out]; exact hap)); have hc3 := cells2 (code_kept (HROW.out.alloc _) hap.grown (block_past HC.out _)); clear hap) | (at_mapUpdate; obtain ⟨D, hown, hmok⟩ := (HT3.out.alloc (.cells #[.int .i64 xa, .int .i64 xb, .int .i64 0] 65)).map; refine wpList_mapUpdate_own _ rfl _ _ _ 74 rfl 3 4 lawK Try.underlying74 BE mb m D rfl hown (by unfold maxLen; omega) _ _ _ rfl rfl (key_wf (by omega)) _ [] (plainElem_bool Try.underlying4 bz) ?_; intro w5 hown5 hgrow5; have HT5 := Lib.hid ((HT3.out.alloc _).know (k := k) (v := bz) hown hmok hgrow5 hown5); clear hown hmok hgrow5 hown5))
          have R : Hid (LoopT w0 N n (.slice (some ⟨g, 0, none⟩) n cap) l0 mb gh (.slice (some ⟨g', 0, none⟩) (pn + 1) cap') (.int .i64 ((k : Int) + 1)) w5) := Lib.hid (LoopT.next HK.out HLL.out (Nat.succ_le_succ hm) (by have := HPN.out; simp only [List.length_cons]; omega) HT5.out HF.out.next (fun j hj => by rcases List.mem_cons.1 hj with rfl | hj; exact Nat.lt_succ_self _; exact Nat.lt_succ_of_lt (HPJ.out j hj)) HEQ.out HS.out)
          (go_roundg gh
           case rel => exact R.out
           case measure => omega)
        · have e0 : (xc == 0) = false := by simpa using hc0
          rw [if_neg hc0] at HS
          clear hc0
          go_wp2_with (at_builtin; refine wpList_append_one _ rfl _ _ 38 rfl (N + 1) 3 j0 _ 1 8 Try.underlying38 JI.out JZ0.out JZ1.out JZ2.out rfl (by decide) _ _ (encB pcs) rfl (HROW.out.alloc _) ⟨wr.heap.size, 0, none⟩ 1 [.int .i64 (k : Int)] rfl rfl (cell_new wr _ _) HA.out (by unfold maxLen; omega) (by omega) (by simp; omega) ?_; intro v' w3 hap; obtain ⟨g', cap', rfl⟩ := hap.made; have HT3 := Lib.hid ((HT.out.alloc _).push (k := k) (by rw [HPN.out]; exact hap)); have hc3 := cells2 (code_kept (HROW.out.alloc _) hap.grown (block_past HC.out _)); clear hap)
          have R := Lib.hid (LoopT.next HK.out HLL.out (Nat.le_succ_of_le hm) (by have := HPN.out; simp only [List.length_cons]; omega) (HT3.out.alloc (.cells #[.int .i64 xa, .int .i64 xb, .int .i64 xc] 65)) HF.out.next (fun j hj => by rcases List.mem_cons.1 hj with rfl | hj; exact Nat.lt_succ_self _; exact Nat.lt_succ_of_lt (HPJ.out j hj)) HEQ.out HS.out)
          (go_roundg gh
           case rel => exact R.out
           case measure => omega)
      by_cases h19 : x.op = 19
      · rw [if_neg h23, if_pos h19] at HS
        obtain rfl := HV.out.jump (by unfold jumps; omega)
        obtain ⟨op, xa, xb, xc⟩ := x
        dsimp only at hcc h19
        subst h19
        clear h23
        cases pcs with
        | nil =>
          obtain rfl : pn = 0 := HPN.out.symm
          have R := Lib.hid (LoopT.next HK.out HLL.out (Nat.le_succ_of_le hm) (by simp) HT.out HF.out.next (fun j hj => by cases hj) HEQ.out HS.out)
          go_wp2_with fail
          (go_roundg gh
           case rel => exact R.out
           case measure => omega)
        | cons j r =>
          obtain ⟨g2, rfl, hpn2, hpcap⟩ := HT.out.pos
          have hpn1 : 1 ≤ pn := by omega
          have htop := HT.out.top hpn2
          have hjk := HPJ.out j (List.mem_cons_self ..)
          have hpl2 : (j :: r).length ≤ k + 1 := by rw [HPN.out]; omega
          have HPL := Lib.hid hpl2
          have HPJ2 : Hid (∀ q ∈ j :: r, q < k + 1) := Lib.hid fun q hq => Nat.lt_succ_of_lt (HPJ.out q hq)
          clear hpn2 hpl2
          by_cases hxj : xa = (j : Int)
          · subst hxj
            obtain ⟨D, hown, hmok⟩ := HT.out.map
            have HO := Lib.hid hown
            have HM := Lib.hid hmok
            clear hown hmok
            cases hsc : sc j with
            | none =>
              have hh := HM.out.none j hsc
              rw [stepCall_no hsc] at HS
              have R := Lib.hid (LoopT.next HK.out HLL.out (Nat.le_succ_of_le hm) HPL.out HT.out HF.out.next HPJ2.out HEQ.out HS.out)
              clear hsc
              go_wp2_with (at_lookup; refine wpList_lookup_bool _ rfl _ _ rfl mb m D rfl HO.out _ _ rfl (key_wf (by omega)) ?_; intro c hat; clear hat)
              (go_roundg gh
               case rel => exact R.out
               case measure => omega)
            | some can =>
              have hh := (HM.out.some j can hsc).1
              have HC2 := Lib.hid (HM.out.some j can hsc).2
              have HSC := Lib.hid hsc
              clear hsc
              go_wp2_with (at_lookup; refine wpList_lookup_bool _ rfl _ _ rfl mb m D rfl HO.out _ _ rfl (key_wf (by omega)) ?_; intro c hat; obtain rfl : c = can := (by have := hat.symm.trans HC2.out; simpa using this); clear hat)
              have hgp := own_apart HT.out.row HC.out g2 rfl
              have hgp2 := Ne.symm hgp
              have RF : Hid (follow l n (k + 1) = false → LoopT w0 N n (.slice (some ⟨g, 0, none⟩) n cap) l0 mb gh (.slice (some ⟨g2, 0, none⟩) pn pcap) (.int .i64 ((k : Int) + 1)) wr) := Lib.hid fun hf => by
                have h2 := HS.out
                rw [stepCall_off (by rw [HLL.out]; exact hf)] at h2
                exact LoopT.next HK.out HLL.out (Nat.le_succ_of_le hm) HPL.out HT.out HF.out.next HPJ2.out HEQ.out h2
              have RT : Hid (follow l n (k + 1) = true → LoopT w0 N n (.slice (some ⟨g, 0, none⟩) n cap) l0 mb gh (.slice (some ⟨g2, 0, none⟩) pn pcap) (.int .i64 ((k : Int) + 1)) (if c then (wr.setCell ⟨p, 1, none⟩ (.int .i64 15)).setCell ⟨p, 0, none⟩ (.iface 3 (.int .i64 ((j : Int) + 1))) else wr.setCell ⟨p, 1, none⟩ (.int .i64 20))) := Lib.hid fun hf => by
                have h2 := HS.out
                rw [stepCall_can rfl HSC.out (by rw [HLL.out]; exact hf)] at h2
                cases c
                · simp only [Bool.false_eq_true, if_false] at h2 ⊢
                  exact LoopT.next HK.out (by rw [List.length_set]; exact HLL.out) (Nat.le_succ_of_le hm) HPL.out (HT.out.setOp HX.out HP.out HC.out (op' := 20) (.inl ⟨by simp, rfl⟩)) (HF.out.set _) HPJ2.out HEQ.out h2
                · simp only [if_true] at h2 ⊢
                  exact LoopT.next HK.out (by rw [List.length_set]; exact HLL.out) (Nat.le_succ_of_le hm) HPL.out (HT.out.setBoth HX.out HP.out HC.out (op' := 15) (a' := (j : Int) + 1) (.inl ⟨by simp, rfl⟩)) (HF.out.set _) HPJ2.out HEQ.out h2
              go_loopg [10] n (fun f v wy => LoopI l n k f v ∧ wr = wy)
              case atStart => exact ⟨LoopI.start l n k, rfl⟩
              case round =>
                obtain ⟨⟨q, rfl, hq1, hq2, hq3⟩, rfl⟩ := hrel
                have HQ := Lib.hid hq3
                clear hq3
                by_cases hqn : q < n
                · cases gk with
                  | zero => omega
                  | succ f =>
                    have hy := List.getElem?_eq_getElem (show q < l.length by rw [HLL.out]; exact hqn)
                    generalize l[q]'(by rw [HLL.out]; exact hqn) = y at hy
                    obtain ⟨p1, u, hp1, hu, hd, hg1⟩ := HT.out.rc.code hy
                    have hdd := cells2 hd
                    have HY := Lib.hid hy
                    have HU := Lib.hid hu
                    unfold ptr at hg1
                    clear hy hp1 hu hd
                    by_cases h15 : y.op = 15
                    · obtain rfl := HU.out.jump (by unfold jumps; omega)
                      have hlt2 := HF.out q y (by omega) HY.out h15
                      have R2 := Lib.hid (LoopI.jump hq1 hq2 HQ.out HY.out h15 hlt2)
                      obtain ⟨oq, ya, yb, yc⟩ := y
                      dsimp only at hdd h15 hlt2
                      subst h15
                      go_wp2_with fail
                      go_roundg f
                      case rel => exact ⟨R2.out, rfl⟩
                      case measure => omega
                    · have hfo := LoopI.ret HQ.out HY.out h15
                      obtain ⟨oq, ya, yb, yc⟩ := y
                      dsimp only at hdd h15 hfo
                      by_cases h24 : oq = 24
                      · subst h24
                        have R := Lib.hid (RT.out (hfo.trans (by simp)))
                        clear hfo h15
                        cases c
                        · simp only [Bool.false_eq_true, if_false] at R
                          go_wp2_with fail
                          (go_roundg gh
                           case rel => exact R.out
                           case measure => omega)
                        · simp only [if_true] at R
                          go_wp2_with fail
                          (go_roundg gh
                           case rel => exact R.out
                           case measure => omega)
                      · have R := Lib.hid (RF.out (hfo.trans (by simp [h24])))
                        have e15 : (oq == 15) = false := by simpa using h15
                        have e24 : (oq == 24) = false := by simpa using h24
                        clear hfo h15 h24
                        go_wp2_with fail
                        (go_roundg gh
                         case rel => exact R.out
                         case measure => omega)
                · have R := Lib.hid (RF.out (LoopI.out HLL.out (by omega) HQ.out))
                  have hqn2 : n ≤ q := by omega
                  go_wp2_with fail
                  (go_roundg gh
                   case rel => exact R.out
                   case measure => omega)
          · rw [stepCall_ne hxj] at HS
            have R := Lib.hid (LoopT.next HK.out HLL.out (Nat.le_succ_of_le hm) HPL.out HT.out HF.out.next HPJ2.out HEQ.out HS.out)
            have ex : ((j : Int) != xa) = true := by simp; omega
            clear hxj
            go_wp2_with fail
            (go_roundg gh
             case rel => exact R.out
             case measure => omega)
      by_cases h24 : x.op = 24
      · rw [if_neg h23, if_neg h19, if_pos h24] at HS
        obtain ⟨op, xa, xb, xc⟩ := x
        dsimp only at hcc h24
        subst h24
        clear h23 h19
        cases pcs with
        | nil =>
          obtain rfl : pn = 0 := HPN.out.symm
          go_wp2_with fail
          try rw [Exit.noGoto_ret]
          go_returns
          exact ⟨ps, _, rfl, by rw [HEQ.out, HS]; exact HT.out.rc⟩
        | cons j r =>
          obtain ⟨g2, rfl, hpn2, hpcap⟩ := HT.out.pos
          have hpn1 : 1 ≤ pn := by omega
          have R : Hid (LoopT w0 N n (.slice (some ⟨g, 0, none⟩) n cap) l0 mb gh (.slice (some ⟨g2, 0, none⟩) (pn - 1) pcap) (.int .i64 ((k : Int) + 1)) wr) := Lib.hid (LoopT.next HK.out HLL.out (Nat.le_succ_of_le hm) (by omega) (HT.out.pop hpn2) HF.out.next (fun j hj => Nat.lt_succ_of_lt (HPJ.out j (List.mem_cons_of_mem _ hj))) HEQ.out HS)
          clear hpn2
          go_wp2_with fail
          (go_roundg gh
           case rel => exact R.out
           case measure => omega)
      · rw [if_neg h23, if_neg h19, if_neg h24] at HS
        have R : Hid (LoopT w0 N n (.slice (some ⟨g, 0, none⟩) n cap) l0 mb gh (.slice pa pn pcap) (.int .i64 ((k : Int) + 1)) wr) := Lib.hid (LoopT.next HK.out HLL.out (Nat.le_succ_of_le hm) (by rw [HPN.out]; omega) HT.out HF.out.next (fun j hj => Nat.lt_succ_of_lt (HPJ.out j hj)) HEQ.out HS.out)
        obtain ⟨op, xa, xb, xc⟩ := x
        dsimp only at hcc h23 h19 h24
        have e23 : (op == 23) = false := by simpa using h23
        have e19 : (op == 19) = false := by simpa using h19
        have e24 : (op == 24) = false := by simpa using h24
        clear h23 h19 h24
        go_wp2_with fail
        (go_roundg gh
         case rel => exact R.out
         case measure => omega)
end Go.Proofs.Ytnlndpgbhmkanaa.Op
