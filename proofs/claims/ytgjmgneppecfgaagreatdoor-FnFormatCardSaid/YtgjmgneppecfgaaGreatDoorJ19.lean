/-
  FnFormat, texts FoH FoI BaR: lemmas for the law; the theorem stands in the last text.
-/
import Derived.Lib.AppendStr
import Derived.Test.YtgjmgneppecfgaaGreatDoorJ03
import Derived.Test.YtgjmgneppecfgaaGreatDoorJ04
import Derived.Test.YtgjmgneppecfgaaGreatDoorJ15
import Derived.Test.YtgjmgneppecfgaaGreatDoorJ16
import Derived.Test.YtgjmgneppecfgaaGreatDoorJ18
namespace Go.Proofs.YtgjmgneppecfgaaGreatDoor.Fo
open Go.RowKit Go.Proofs.YtgjmgneppecfgaaGreatDoor.Va Go.Proofs.YtgjmgneppecfgaaGreatDoor.Ba Go.Proofs.YtgjmgneppecfgaaGreatDoor.Ma Go.Proofs.YtgjmgneppecfgaaGreatDoor.Pa
set_option linter.unusedVariables false
set_option linter.unusedSimpArgs false

/-- a table of bytes and what they become -/
def tabS : List (Nat × List Nat) → List ByteArray
  | [] => []
  | p :: ps => numS [p.1] :: numS p.2 :: tabS ps
def subB : List (Nat × List Nat) → Nat → List Nat
  | [], c => [c]
  | p :: ps, c => if p.1 = c then p.2 else subB ps c
def repl (P : List (Nat × List Nat)) (l : List Nat) : List Nat := l.flatMap (subB P)
theorem tabS_len : ∀ P, (tabS P).length = 2 * P.length
  | [] => rfl
  | p :: ps => by rw [tabS, List.length_cons, List.length_cons, tabS_len ps, List.length_cons]; omega
theorem tabS_even : ∀ (P : List (Nat × List Nat)) (j : Nat) (hj : j < P.length), (tabS P)[2 * j]? = some (numS [P[j].1]) ∧ (tabS P)[2 * j + 1]? = some (numS P[j].2)
  | [], j, hj => by simp at hj
  | p :: ps, 0, _ => ⟨rfl, rfl⟩
  | p :: ps, j + 1, hj => by
    have h := tabS_even ps j (by simpa using hj)
    rw [tabS]
    exact ⟨by rw [show 2 * (j + 1) = 2 * j + 1 + 1 by omega, List.getElem?_cons_succ, List.getElem?_cons_succ]; exact h.1, by rw [show 2 * (j + 1) + 1 = 2 * j + 1 + 1 + 1 by omega, List.getElem?_cons_succ, List.getElem?_cons_succ]; exact h.2⟩
theorem subB_hit : ∀ (P : List (Nat × List Nat)) (c j : Nat) (hj : j < P.length), (∀ i (hi : i < j), (P[i]'(by omega)).1 ≠ c) → P[j].1 = c → subB P c = P[j].2
  | [], c, j, hj, _, _ => by simp at hj
  | p :: ps, c, 0, _, _, h => by have h1 : p.1 = c := h; rw [subB, if_pos h1]; rfl
  | p :: ps, c, j + 1, hj, hno, h => by
    have h0 := hno 0 (by omega)
    have h1 : ¬ p.1 = c := h0
    rw [subB, if_neg h1]
    exact subB_hit ps c j (by simpa using hj) (fun i hi => hno (i + 1) (by omega)) h
theorem subB_miss : ∀ (P : List (Nat × List Nat)) (c : Nat), (∀ i (hi : i < P.length), P[i].1 ≠ c) → subB P c = [c]
  | [], c, _ => rfl
  | p :: ps, c, hno => by
    have h0 := hno 0 (by simp)
    have h1 : ¬ p.1 = c := h0
    rw [subB, if_neg h1]
    exact subB_miss ps c (fun i hi => hno (i + 1) (by simpa using hi))
/-- what a table may hold -/
structure TabOk (P : List (Nat × List Nat)) : Prop where
  key : ∀ p ∈ P, p.1 < 256
  new : ∀ p ∈ P, p.2.length ≤ 8 ∧ ∀ x ∈ p.2, x < 256
  few : P.length ≤ 10
theorem subB_len {P : List (Nat × List Nat)} (h : ∀ p ∈ P, p.2.length ≤ 8 ∧ ∀ x ∈ p.2, x < 256) (c : Nat) (hc : c < 256) : (subB P c).length ≤ 8 ∧ ∀ x ∈ subB P c, x < 256 := by
  induction P with
  | nil => exact ⟨by simp [subB], fun x hx => by simp [subB] at hx; omega⟩
  | cons p ps ih =>
    rw [subB]
    split
    · exact h p List.mem_cons_self
    · exact ih (fun q hq => h q (List.mem_cons_of_mem _ hq))
theorem repl_snoc (P : List (Nat × List Nat)) (l : List Nat) (c : Nat) : repl P (l ++ [c]) = repl P l ++ subB P c := by
  unfold repl
  rw [List.flatMap_append]
  simp
theorem repl_ok {P : List (Nat × List Nat)} (h : ∀ p ∈ P, p.2.length ≤ 8 ∧ ∀ x ∈ p.2, x < 256) (l : List Nat) (hl : ∀ x ∈ l, x < 256) : (repl P l).length ≤ 8 * l.length ∧ ∀ x ∈ repl P l, x < 256 := by
  induction l with
  | nil => exact ⟨by simp [repl], fun x hx => by simp [repl] at hx⟩
  | cons a l ih =>
    have h1 := subB_len h a (hl a List.mem_cons_self)
    have h2 := ih (fun x hx => hl x (List.mem_cons_of_mem _ hx))
    have e : repl P (a :: l) = subB P a ++ repl P l := by unfold repl; rw [List.flatMap_cons]
    rw [e]
    refine ⟨by rw [List.length_append, List.length_cons]; omega, fun x hx => ?_⟩
    rcases List.mem_append.1 hx with hx | hx
    · exact h1.2 x hx
    · exact h2.2 x hx
theorem byte0 (c : Nat) (h : c < 256) (h0 : 0 < (numS [c]).size) : ((numS [c])[0]'h0).toNat = c := by
  rw [Ba.byte_at (numS [c]) 0 h0, bytesN_numS' [c] (fun x hx => by simp at hx; omega)]
  rfl
theorem conv_nil (w : World) : (convert 73 9 (.slice none 0 0)).run Tryz.prog w = .ok (.string ⟨#[]⟩) w := by kernel_rfl
theorem strCells_eq (s : ByteArray) : Lib.strCells s = cellsD (bytesN s) := by
  unfold Lib.strCells cellsD bytesN
  rw [List.map_map]
  rfl
theorem cellsD_app (a c : List Nat) : cellsD (a ++ c) = cellsD a ++ cellsD c := List.map_append
theorem owns_string {w : World} {base : Nat} {v : Value} {l : List Nat} (h : w.ownsRow base 5 1 v l.length (cellsD l)) : (convert 73 9 v).run Tryz.prog w = .ok (.string (numS l)) w := by
  rcases h.2 with ⟨rfl, h0⟩ | ⟨q, cap, cur, rfl, hq, hblk, hncap, hcap, hcs, htk⟩
  · have : l = [] := List.length_eq_zero_iff.1 h0
    subst this
    exact conv_nil w
  · exact run_convert_bytes_arg (P := Tryz.prog) (w := w) 73 5 Tryz.underlying73 Tryz.underlying5 q 0 l.length cap (l.map fun x : Nat => (x : Int)) (by rw [List.length_map])
      (fun i hi => by
        rw [Nat.zero_add]
        refine cell_of (w := w) hblk i ?_
        have h1 : (cur.toList.take (l.length * 1))[i]? = (cellsD l)[i]? := by rw [htk]
        rw [List.getElem?_take_of_lt (by omega)] at h1
        rw [← Array.getElem?_toList, h1]
        unfold cellsD
        simp [List.getD, List.getElem?_eq_getElem hi]) 9 Tryz.underlying9
def ReplEnd (P : List (Nat × List Nat)) (s : ByteArray) (w : World) (e : Ending) (w' : World) : Prop := e = .returned (.string (numS (repl P (bytesN s)))) ∧ Below w.heap.size w w'
def LoopR (P : List (Nat × List Nat)) (s : ByteArray) (w : World) (ov iv : Value) (wr : World) : Prop :=
  ∃ i : Nat, iv = .int .i64 (i : Int) ∧ i ≤ s.size ∧ wr.ownsRow w.heap.size 5 1 ov (repl P ((bytesN s).take i)).length (cellsD (repl P ((bytesN s).take i))) ∧ Below w.heap.size w wr
def LoopRk (P : List (Nat × List Nat)) (c : Nat) (W : World) (kv : Value) (wr : World) : Prop :=
  ∃ j : Nat, kv = .int .i64 ((2 * j : Nat) : Int) ∧ j ≤ P.length ∧ (∀ i (hi : i < j) (h : i < P.length), P[i].1 ≠ c) ∧ ∃ n, wr = W.drewN n
set_option maxHeartbeats 4000000 in
set_option maxRecDepth 100000 in
theorem replace_any (P : List (Nat × List Nat)) (hP : TabOk P) (s : ByteArray) (hs : s.size ≤ 1073741824) (a : Option Addr) (n c : Nat) (hn : (tabS P).length = n) (S : Nat → Prop) (w : World) (hk : RK w S (tabS P) a) (hS : ∀ b, S b → b < w.heap.size) :
    Calls Tryz.prog 194 #[.slice a n c, .string s] w (ReplEnd P s w) := by
  obtain ⟨i8, hi, hz0, hz1, hz2⟩ := info_parts info8
  have HI := Lib.hid (And.intro hi (And.intro hz0 (And.intro hz1 hz2)))
  have HP := Lib.hid hP
  have HK := Lib.hid hk
  have HS := Lib.hid hS
  have hn2 : n = 2 * P.length := by rw [← hn, tabS_len]
  have HN := Lib.hid hn2
  have hfew := hP.few
  clear hi hz0 hz1 hz2 hP hk hS hn
  go_enter Tryz.func194, Tryz.ntmps194
  go_wp2_with fail
  go_loopw [5, 6] (LoopR P s w) (fun _ iv _ => s.size - (intOf iv).toNat)
  case atStart => exact ⟨0, rfl, Nat.zero_le _, World.ownsRow_nil _ _ _ _, Below.refl _ _⟩
  case round =>
    obtain ⟨i, rfl, hi, hown, hb⟩ := hrel
    have HOWN := Lib.hid hown
    have HB := Lib.hid hb
    clear hown hb
    obtain ⟨wo, hwo⟩ : ∃ wo : World, wo = wr := ⟨wr, rfl⟩
    subst hwo
    by_cases hlt : i < s.size
    · obtain ⟨x, hx⟩ : ∃ x, (bytesN s)[i]'(by rw [bytesN_len]; exact hlt) = x := ⟨_, rfl⟩
      have HX := Lib.hid hx
      have hbx : (s[i]'hlt).toNat = x := by rw [Ba.byte_at s i hlt, ← hx, List.getD, List.getElem?_eq_getElem (by rw [bytesN_len]; exact hlt)]; rfl
      have hx256 : x < 256 := by rw [← hx]; exact bytesN_lt s _ (List.getElem_mem _)
      clear hx
      have HRK : Hid (RK wo S (tabS P) a) := Lib.hid (RK.mono (Same.of_below HB.out HS.out) (fun _ h => h) _ _ HK.out)
      have HOWN2 : Hid (∀ q, (wo.drewN q).ownsRow w.heap.size 5 1 u5 (repl P ((bytesN s).take i)).length (cellsD (repl P ((bytesN s).take i)))) := Lib.hid (fun q => HOWN.out)
      have HLEN : Hid ((repl P ((bytesN s).take i)).length + 8 ≤ 8589934600) := Lib.hid (by
        have h1 := (repl_ok HP.out.new ((bytesN s).take i) (fun y hy => bytesN_lt s y (List.mem_of_mem_take hy))).1
        rw [List.length_take, bytesN_len] at h1
        omega)
      have HTK : Hid (repl P ((bytesN s).take (i + 1)) = repl P ((bytesN s).take i) ++ subB P x) := Lib.hid (by rw [List.take_succ_eq_append_getElem (by rw [bytesN_len]; exact hlt), HX.out, repl_snoc])
      have HONE : Hid (∀ u ∈ (#[Value.int .u8 (x : Int)] : Array Value).toList, u.oneCell' = true) := Lib.hid (by
        intro u hu
        simp at hu
        subst hu
        rfl)
      go_wp2_with fail
      go_loopw [7] (LoopRk P x wo) (fun kv _ => 2 * P.length - (intOf kv).toNat)
      case atStart => exact ⟨0, rfl, Nat.zero_le _, fun i hi => absurd hi (Nat.not_lt_zero _), 0, rfl⟩
      case round =>
        obtain ⟨j, rfl, hj, hno, n0, rfl⟩ := hrel
        have HNO := Lib.hid hno
        clear hno
        by_cases hjl : j < P.length
        · obtain ⟨b, o, rfl⟩ := HRK.out.addr (by rw [tabS_len]; omega)
          obtain ⟨_, hc0⟩ := RK.at _ b o HRK.out (2 * j) (by rw [tabS_len]; omega)
          obtain ⟨_, hc1⟩ := RK.at _ b o HRK.out (2 * j + 1) (by rw [tabS_len]; omega)
          have hev := tabS_even P j hjl
          rw [(List.getElem?_eq_some_iff.1 hev.1).2] at hc0
          rw [(List.getElem?_eq_some_iff.1 hev.2).2] at hc1
          obtain ⟨k, hk⟩ : ∃ k, P[j].1 = k := ⟨_, rfl⟩
          obtain ⟨t, ht⟩ : ∃ t, P[j].2 = t := ⟨_, rfl⟩
          have hk256 : k < 256 := by rw [← hk]; exact HP.out.key _ (List.getElem_mem _)
          have ht8 := HP.out.new _ (List.getElem_mem hjl)
          rw [hk] at hc0
          rw [ht] at hc1 ht8
          have hsz0 : (numS [k]).size = 1 := by rw [numS_size]; rfl
          obtain ⟨kt, hkt⟩ : ∃ kt, numS [k] = kt := ⟨_, rfl⟩
          have hb0 : ∀ h : 0 < kt.size, (kt[0]'h).toNat = k := by
            subst hkt
            exact fun h => byte0 k hk256 h
          have hlt0 : 0 < kt.size := by rw [← hkt]; omega
          have hb1 := hb0 hlt0
          have HKX := Lib.hid hk
          have HTX := Lib.hid ht
          rw [hkt] at hc0 hsz0
          clear hkt hev hk ht hb0
          by_cases hkx : k = x
          · subst hkx
            have HSB : Hid (subB P k = t) := Lib.hid ((subB_hit P k j hjl (fun i hi => HNO.out i hi (by omega)) HKX.out).trans HTX.out)
            have g1 : ((2 * j : Nat) : Int) < (n : Int) := by omega
            have g2 : ((2 * j : Nat) : Int).toNat = 2 * j := by omega
            have g3 : ((2 * j : Nat) : Int) + 1 = ((2 * j + 1 : Nat) : Int) := by push_cast; rfl
            go_wp2_with fail
            go_quiet (fail)
            go_wp2_with (at_builtin; refine Lib.wpList_append_own_string _ rfl _ _ 73 9 rfl w.heap.size 5 i8 Tryz.underlying73 Tryz.underlying9 HI.out.1 HI.out.2.1 HI.out.2.2.1 HI.out.2.2.2 _ _ (cellsD (repl P ((bytesN s).take i))) rfl (HOWN2.out _) (numS t) rfl (by unfold maxLen; have := HLEN.out; rw [numS_size]; omega) (by have := HLEN.out; rw [numS_size]; omega) HB.out.size ?_; intro v' w3 hap hgr _
                         have HAP := Lib.hid hap
                         have HGR := Lib.hid hgr
                         clear hap hgr)
            try go_simp
            refine ⟨⟨i + 1, by push_cast; rfl, hlt, ?_, Below.grown (below_drewN HB.out _) HGR.out HB.out.size (fun k hk => (HOWN.out.lt k hk).1)⟩, by simp [intOf]; omega⟩
            have h1 := HAP.out
            rw [strCells_eq, bytesN_numS' t ht8.2, numS_size] at h1
            rw [HTK.out, HSB.out, cellsD_app, List.length_append]
            exact h1
          · have hne : ((k : Int) == (x : Int)) = false := by simp; omega
            have g1 : ((2 * j : Nat) : Int) < (n : Int) := by omega
            have g2 : ((2 * j : Nat) : Int).toNat = 2 * j := by omega
            go_wp2_with fail
            go_quiet (fail)
            go_wp2_with fail
            go_roundw
            case rel => exact ⟨j + 1, by push_cast; rw [Int.mul_add]; rfl, hjl, fun i hi h => by
              rcases (show i < j ∨ i = j by omega) with h1 | rfl
              · exact HNO.out i h1 h
              · rw [HKX.out]; exact hkx, _, rfl⟩
            case measure => simp [intOf]; omega
        · obtain rfl : j = P.length := by omega
          have HSB : Hid (subB P x = [x]) := Lib.hid (subB_miss P x fun i hi => HNO.out i hi hi)
          have g1 : ¬ ((2 * P.length : Nat) : Int) < (n : Int) := by omega
          go_wp2_with fail
          go_quiet (fail)
          go_wp2_with (at_builtin; refine wpList_append_one _ rfl _ _ 73 rfl w.heap.size 5 i8 _ 1 1 Tryz.underlying73 HI.out.1 HI.out.2.1 HI.out.2.2.1 HI.out.2.2.2 rfl (by decide) _ _ (cellsD (repl P ((bytesN s).take i))) rfl ((HOWN2.out _).alloc _) ⟨wo.heap.size, 0, none⟩ 1 _ rfl rfl (cell_new (wo.drewN _) _ _) HONE.out (by unfold maxLen; have := HLEN.out; omega) (by have := HLEN.out; omega) (by have := HB.out.size; simp; omega) ?_; intro v' w3 hap
                       have HAP := Lib.hid hap
                       clear hap)
          refine ⟨⟨i + 1, by push_cast; rfl, hlt, ?_, ?_⟩, by simp [intOf]; omega⟩
          · have h1 := HAP.out.owns
            rw [HTK.out, HSB.out, cellsD_app, List.length_append]
            exact h1
          · exact Below.grown (Below.alloc (below_drewN HB.out _) HB.out.size _) HAP.out.grown (by have := HB.out.size; simp; omega) (fun k hk => (HOWN.out.lt k hk).1)
    · obtain rfl : i = s.size := by omega
      have hcv := owns_string HOWN.out
      rw [List.take_of_length_le (by rw [bytesN_len]; exact Nat.le_refl _)] at hcv
      go_wp2_with fail
      go_returns
      exact ⟨rfl, HB.out⟩
end Go.Proofs.YtgjmgneppecfgaaGreatDoor.Fo
namespace Go.Proofs.YtgjmgneppecfgaaGreatDoor.Fo
open Go.RowKit Go.Proofs.YtgjmgneppecfgaaGreatDoor.Va Go.Proofs.YtgjmgneppecfgaaGreatDoor.Ba Go.Proofs.YtgjmgneppecfgaaGreatDoor.Ma Go.Proofs.YtgjmgneppecfgaaGreatDoor.Pa
set_option linter.unusedVariables false
set_option linter.unusedSimpArgs false

def ChEnd (P : List (Nat × List Nat)) (s : ByteArray) (w : World) (e : Ending) (w' : World) : Prop := e = .returned (.string (numS (repl P (bytesN s)))) ∧ w = w'
def LoopC (P : List (Nat × List Nat)) (s : ByteArray) (w : World) (ov iv : Value) (wr : World) : Prop :=
  ∃ i : Nat, ov = .string (numS (repl P ((bytesN s).take i))) ∧ iv = .int .i64 (i : Int) ∧ i ≤ s.size ∧ w = wr
def LoopCk (P : List (Nat × List Nat)) (c : Nat) (x1 : ByteArray) (w : World) (cv kv : Value) (wr : World) : Prop :=
  ∃ j : Nat, kv = .int .i64 ((2 * j : Nat) : Int) ∧ cv = .string x1 ∧ j ≤ P.length ∧ (∀ i (hi : i < j) (h : i < P.length), P[i].1 ≠ c) ∧ w = wr
theorem numS_app (a b : List Nat) (ha : ∀ x ∈ a, x < 256) (hb : ∀ x ∈ b, x < 256) : numS a ++ numS b = numS (a ++ b) := app_num (numS a) b hb (bytesN_numS' b hb) a rfl ha
set_option maxHeartbeats 4000000 in
set_option maxRecDepth 100000 in
theorem changed_any (P : List (Nat × List Nat)) (hP : TabOk P) (s : ByteArray) (hs : s.size ≤ 1073741824) (a : Option Addr) (n c : Nat) (hn : (tabS P).length = n) (S : Nat → Prop) (w : World) (hk : RK w S (tabS P) a) :
    Calls Tryz.prog 116 #[.string s, .slice a n c] w (ChEnd P s w) := by
  have HP := Lib.hid hP
  have HK := Lib.hid hk
  have hn2 : n = 2 * P.length := by rw [← hn, tabS_len]
  have HN := Lib.hid hn2
  have hfew := hP.few
  clear hP hk hn
  go_enter Tryz.func116, Tryz.ntmps116
  go_wp2_with fail
  go_loopw [5, 6] (LoopC P s w) (fun _ iv _ => s.size - (intOf iv).toNat)
  case atStart => exact ⟨0, rfl, rfl, Nat.zero_le _, rfl⟩
  case round =>
    obtain ⟨i, rfl, rfl, hi, rfl⟩ := hrel
    by_cases hlt : i < s.size
    · obtain ⟨x, hx⟩ : ∃ x, (bytesN s)[i]'(by rw [bytesN_len]; exact hlt) = x := ⟨_, rfl⟩
      have hx256 : x < 256 := by rw [← hx]; exact bytesN_lt s _ (List.getElem_mem _)
      obtain ⟨x1, hx1⟩ : ∃ x1, s.extract i (i + 1) = x1 := ⟨_, rfl⟩
      have b1 : x1 = numS [x] := by
        apply bytes_inj
        rw [← hx1, Mb.bytesN_extract2, List.drop_take, show i + 1 - i = 1 by omega, List.drop_eq_getElem_cons (by rw [bytesN_len]; exact hlt), hx, bytesN_numS' [x] (fun y hy => by simp at hy; omega)]
        rfl
      have HB1 := Lib.hid b1
      have htk : (bytesN s).take (i + 1) = (bytesN s).take i ++ [x] := by rw [List.take_succ_eq_append_getElem (by rw [bytesN_len]; exact hlt), hx]
      have hro := repl_ok HP.out.new ((bytesN s).take i) (fun y hy => bytesN_lt s y (List.mem_of_mem_take hy))
      have hso := subB_len HP.out.new x hx256
      have HNX : Hid (numS (repl P ((bytesN s).take i)) ++ numS (subB P x) = numS (repl P ((bytesN s).take (i + 1)))) := Lib.hid (by rw [htk, repl_snoc]; exact numS_app _ _ hro.2 hso.2)
      have HSUM : Hid ((numS (repl P ((bytesN s).take i))).size + (numS (subB P x)).size ≤ 140737488355328) := Lib.hid (by
        have h1 := hro.1
        have h2 := hso.1
        rw [List.length_take, bytesN_len] at h1
        rw [numS_size, numS_size]
        omega)
      clear hx b1 htk hro hso
      go_wp2_with fail
      go_loopw [7, 8] (LoopCk P x x1 w) (fun _ kv _ => 2 * P.length - (intOf kv).toNat)
      case atStart => exact ⟨0, rfl, rfl, Nat.zero_le _, fun i hi => absurd hi (Nat.not_lt_zero _), rfl⟩
      case round =>
        obtain ⟨j, rfl, rfl, hj, hno, rfl⟩ := hrel
        have HNO := Lib.hid hno
        clear hno
        by_cases hjl : j < P.length
        · obtain ⟨b, o, rfl⟩ := HK.out.addr (by rw [tabS_len]; omega)
          obtain ⟨_, hc0⟩ := RK.at _ b o HK.out (2 * j) (by rw [tabS_len]; omega)
          obtain ⟨_, hc1⟩ := RK.at _ b o HK.out (2 * j + 1) (by rw [tabS_len]; omega)
          have hev := tabS_even P j hjl
          rw [(List.getElem?_eq_some_iff.1 hev.1).2] at hc0
          rw [(List.getElem?_eq_some_iff.1 hev.2).2] at hc1
          obtain ⟨k, hk⟩ : ∃ k, P[j].1 = k := ⟨_, rfl⟩
          obtain ⟨t, ht⟩ : ∃ t, P[j].2 = t := ⟨_, rfl⟩
          have hk256 : k < 256 := by rw [← hk]; exact HP.out.key _ (List.getElem_mem _)
          have ht8 := HP.out.new _ (List.getElem_mem hjl)
          rw [hk] at hc0
          rw [ht] at hc1 ht8
          obtain ⟨kt, hkt⟩ : ∃ kt, numS [k] = kt := ⟨_, rfl⟩
          obtain ⟨tt, htt⟩ : ∃ tt, numS t = tt := ⟨_, rfl⟩
          have HKX := Lib.hid hk
          have HTX := Lib.hid ht
          have HTT := Lib.hid htt
          have g1 : ((2 * j : Nat) : Int) + 1 < (n : Int) := by omega
          have g2 : ((2 * j : Nat) : Int).toNat = 2 * j := by omega
          have g3 : ((2 * j : Nat) : Int) + 1 = ((2 * j + 1 : Nat) : Int) := by push_cast; rfl
          have hkk : kt = x1 ↔ k = x := by
            rw [← hkt, HB1.out]
            constructor
            · intro h
              have h2 := congrArg bytesN h
              rw [bytesN_numS' _ (fun y hy => by simp at hy; omega), bytesN_numS' _ (fun y hy => by simp at hy; omega)] at h2
              simpa using h2
            · intro h; rw [h]
          rw [hkt] at hc0
          rw [htt] at hc1
          clear hkt hev hk ht htt
          by_cases hkx : k = x
          · subst hkx
            have e1 : kt = x1 := hkk.2 rfl
            subst e1
            have HSB : Hid (subB P k = t) := Lib.hid ((subB_hit P k j hjl (fun i hi => HNO.out i hi (by omega)) HKX.out).trans HTX.out)
            have a1 : (numS (repl P ((bytesN s).take i))).size + tt.size ≤ 140737488355328 := by have h := HSUM.out; rw [HSB.out, HTT.out] at h; exact h
            go_wp2_with fail
            try go_simp
            refine ⟨⟨i + 1, ?_, by push_cast; rfl, hlt, rfl⟩, by simp [intOf]; omega⟩
            have h := HNX.out
            rw [HSB.out, HTT.out] at h
            rw [h]
          · have hne : (kt.toList == x1.toList) = false := beq_no (fun h => hkx (hkk.1 h))
            clear hkk
            go_wp2_with fail
            try go_simp
            refine ⟨⟨j + 1, by push_cast; rw [Int.mul_add]; rfl, rfl, hjl, fun i hi h => ?_, rfl⟩, by simp [intOf]; omega⟩
            rcases (show i < j ∨ i = j by omega) with h1 | rfl
            · exact HNO.out i h1 h
            · rw [HKX.out]; exact hkx
        · obtain rfl : j = P.length := by omega
          have HSB : Hid (subB P x = [x]) := Lib.hid (subB_miss P x fun i hi => HNO.out i hi hi)
          have g1 : ¬ ((2 * P.length : Nat) : Int) + 1 < (n : Int) := by omega
          have a1 : (numS (repl P ((bytesN s).take i))).size + x1.size ≤ 140737488355328 := by have h := HSUM.out; rw [HSB.out, ← HB1.out] at h; exact h
          go_wp2_with fail
          try go_simp
          refine ⟨⟨i + 1, ?_, by push_cast; rfl, hlt, rfl⟩, by simp [intOf]; omega⟩
          have h := HNX.out
          rw [HSB.out, ← HB1.out] at h
          rw [h]
    · obtain rfl : i = s.size := by omega
      rw [List.take_of_length_le (by rw [bytesN_len]; exact Nat.le_refl _)]
      go_wp2_with fail
      go_returns
      exact ⟨rfl, rfl⟩
end Go.Proofs.YtgjmgneppecfgaaGreatDoor.Fo
namespace Go.Proofs.YtgjmgneppecfgaaGreatDoor.Ba
open Go.RowKit
set_option linter.unusedVariables false
set_option linter.unusedSimpArgs false

theorem numS_bytesN (s : ByteArray) : numS (bytesN s) = s := by
  apply ByteArray.ext
  apply Array.ext'
  unfold bytesN numS
  rw [strOfNums_data, List.map_map, List.map_map]
  conv => rhs; rw [← List.map_id s.data.toList]
  refine List.map_congr_left fun x hx => ?_
  show UInt8.ofNat ((x.toNat : Int)).toNat = x
  rw [Int.toNat_natCast, UInt8.ofNat_toNat]
theorem take_while : ∀ (l : List Nat) (p : Nat), p ≤ l.length → (∀ j, j < p → l.getD j 0 ≠ 61) → (p = l.length ∨ (p < l.length ∧ l.getD p 0 = 61)) → l.take p = l.takeWhile (fun c => c != 61)
  | [], p, h, _, _ => by
    have : p = 0 := by simpa using h
    subst this
    rfl
  | x :: xs, 0, h, _, h2 => by
    have hx : x = 61 := by
      rcases h2 with q | ⟨_, q⟩
      · simp at q
      · simpa using q
    subst hx
    rfl
  | x :: xs, p + 1, h, h1, h2 => by
    have hx : x ≠ 61 := by simpa using h1 0 (by omega)
    rw [List.take_succ_cons, List.takeWhile_cons, if_pos (by simpa using hx)]
    congr 1
    refine take_while xs p (by simpa using h) (fun j hj => by simpa using h1 (j + 1) (by omega)) ?_
    rcases h2 with q | ⟨q, r⟩
    · exact .inl (by simpa using q)
    · exact .inr ⟨by simpa using q, by simpa using r⟩
end Go.Proofs.YtgjmgneppecfgaaGreatDoor.Ba
