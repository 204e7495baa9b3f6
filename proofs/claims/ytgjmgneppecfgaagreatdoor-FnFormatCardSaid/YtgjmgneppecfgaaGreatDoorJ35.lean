/-
  FnFormat, texts McV: lemmas for the law; the theorem stands in the last text.
-/
import Derived.Test.YtgjmgneppecfgaaGreatDoorJ02
import Derived.Test.YtgjmgneppecfgaaGreatDoorJ22
import Derived.Test.YtgjmgneppecfgaaGreatDoorJ29
namespace Go.Proofs.YtgjmgneppecfgaaGreatDoor.Mc
open Go.RowKit Go.Proofs.YtgjmgneppecfgaaGreatDoor.Va Go.Proofs.YtgjmgneppecfgaaGreatDoor.Ba Go.Proofs.YtgjmgneppecfgaaGreatDoor.Ma Go.Proofs.YtgjmgneppecfgaaGreatDoor.Pa Go.Proofs.YtgjmgneppecfgaaGreatDoor.Fo
set_option linter.unusedVariables false
set_option linter.unusedSimpArgs false

theorem ishex_any (c : Nat) (hc : c < 256) (w : World) (hT : UrlTab w) : Calls Tryz.prog 266 #[.int .u8 (c : Int)] w (fun e w' => (∃ b : Bool, e = .returned (.bool b)) ∧ w = w') := by
  have h0 := hT.2 c hc
  obtain ⟨t, ht⟩ : ∃ t, urlL.getD c 0 = t := ⟨_, rfl⟩
  rw [ht] at h0
  obtain ⟨z, hz⟩ : ∃ z, bits .and .u8 (t : Int) 128 = z := ⟨_, rfl⟩
  clear hT ht
  go_enter Tryz.func266, Tryz.ntmps266
  go_wp2_with fail
  go_returns
  exact ⟨⟨_, rfl⟩, rfl⟩
theorem and15 (c : Nat) (hc : c < 256) : bits .and .u8 (c : Int) 15 = ((c % 16 : Nat) : Int) := by
  have h : ∀ c : Fin 256, bits .and .u8 ((c.1 : Nat) : Int) 15 = ((c.1 % 16 : Nat) : Int) := by decide +kernel
  exact h ⟨c, hc⟩
theorem unhex_any (c : Nat) (hc : c < 256) (w : World) : Calls Tryz.prog 267 #[.int .u8 (c : Int)] w (fun e w' => (∃ x : Nat, x < 256 ∧ e = .returned (.int .u8 (x : Int))) ∧ w = w') := by
  have d1 := and15 c hc
  obtain ⟨a, ha⟩ : ∃ a, c / 64 = a := ⟨_, rfl⟩
  obtain ⟨b, hb⟩ : ∃ b, c % 16 = b := ⟨_, rfl⟩
  have d2 : (c : Int) / 64 = (a : Int) := by omega
  have la : a < 4 := by omega
  have lb : b < 16 := by omega
  have d3 : IntKind.u8.wrap (9 * (a : Int)) = 9 * (a : Int) := IntWalk.u8_in _ (by omega)
  have d4 : IntKind.u8.wrap (9 * (a : Int) + (b : Int)) = 9 * (a : Int) + (b : Int) := IntWalk.u8_in _ (by omega)
  rw [hb] at d1
  go_enter Tryz.func267, Tryz.ntmps267
  go_wp2_with fail
  go_returns
  exact ⟨⟨9 * a + b, by omega, by push_cast; rfl⟩, rfl⟩
/-- each % is followed by two bytes -/
def Fr : List Nat → Prop
  | [] => True
  | [c] => c ≠ 37
  | [c, d] => c ≠ 37 ∧ d ≠ 37
  | c :: d :: e :: l => if c = 37 then Fr l else Fr (d :: e :: l)
theorem Fr_cons {c : Nat} (h : c ≠ 37) : ∀ l, Fr l → Fr (c :: l)
  | [], _ => h
  | [d], hl => ⟨h, hl⟩
  | d :: e :: l, hl => by rw [Fr, if_neg h]; exact hl
theorem Fr_app : ∀ l, Fr l → ∀ m, Fr m → Fr (l ++ m)
  | [], _, m, hm => hm
  | [c], h, m, hm => Fr_cons h m hm
  | [c, d], h, m, hm => Fr_cons h.1 _ (Fr_cons h.2 m hm)
  | c :: d :: e :: l, h, m, hm => by
    rw [Fr] at h
    by_cases hc : c = 37
    · rw [if_pos hc] at h
      have ih := Fr_app l h m hm
      show Fr (c :: d :: e :: (l ++ m))
      rw [Fr, if_pos hc]
      exact ih
    · rw [if_neg hc] at h
      exact Fr_cons hc _ (Fr_app (d :: e :: l) h m hm)
theorem Fr_tail {c : Nat} (h : c ≠ 37) : ∀ l, Fr (c :: l) → Fr l
  | [], _ => trivial
  | [d], hl => hl.2
  | d :: e :: l, hl => by rw [Fr, if_neg h] at hl; exact hl
theorem Fr_pct : ∀ l, Fr (37 :: l) → 2 ≤ l.length ∧ Fr (l.drop 2)
  | [], h => absurd rfl h
  | [d], h => absurd rfl h.1
  | d :: e :: l, h => by rw [Fr, if_pos rfl] at h; exact ⟨by simp, h⟩
def UnEnd (w : World) (e : Ending) (w' : World) : Prop :=
  (∃ (t : ByteArray) (ev : Value), e = .returned (.tuple #[.string t, ev]) ∧ (ev = .nilIface ∨ ∃ ty v, ev = .iface ty v)) ∧ Below w.heap.size w w'
def LoopQ1 (s : ByteArray) (L : List Nat) (w : World) (sv nv pv iv : Value) (wr : World) : Prop :=
  ∃ (i n : Nat) (b : Bool), sv = .string s ∧ nv = .int .i64 (n : Int) ∧ pv = .bool b ∧ iv = .int .i64 (i : Int) ∧ i ≤ L.length ∧ Fr (L.take i) ∧ 3 * n ≤ i ∧ w = wr
theorem bX165 : Builder.Extra Tryz.prog Tryz.lays165_ren where
  sizeBuilder := by kernel_rfl
  liesBuilder := by kernel_rfl
  t5 := Tryz.underlying5
  a5 := Tryz.isAgg5
  z5 := Tryz.sizeOf5
  v5 := Tryz.zeroValue5
  infoByte := by kernel_rfl
  cellsByte := by kernel_rfl
  sizeByte := by kernel_rfl
  neB5 := by decide
theorem or_u8 (a b : Int) : ∃ x : Nat, x < 256 ∧ bits .or .u8 a b = (x : Int) := by
  obtain ⟨z, hz⟩ : ∃ z, bits .or .u8 a b = IntKind.u8.wrap z := ⟨_, rfl⟩
  rw [hz, IntKind.wrap_u8]
  exact ⟨(z % 256).toNat, by omega, by omega⟩
def LoopQ2 (L : List Nat) (w : World) (iv : Value) (wr : World) : Prop :=
  ∃ (i : Nat) (bs : List Nat), iv = .int .i64 (i : Int) ∧ i ≤ L.length ∧ Fr (L.drop i) ∧ IsB w.heap.size w.heap.size bs wr ∧ (∀ x ∈ bs, x < 256) ∧ bs.length ≤ i ∧ Below w.heap.size w wr
set_option maxHeartbeats 8000000 in
set_option maxRecDepth 100000 in
theorem unescape_any (s : ByteArray) (hs : s.size ≤ 1073741824) (w : World) (hT : UrlTab w) : Calls Tryz.prog 230 #[.string s, .int .u8 32] w (UnEnd w) := by
  have HT := Lib.hid hT
  obtain ⟨L, hL⟩ : ∃ L, bytesN s = L := ⟨_, rfl⟩
  obtain ⟨n0, hn⟩ : ∃ n0, s.size = n0 := ⟨_, rfl⟩
  have hLl : L.length = n0 := by rw [← hL, bytesN_len, hn]
  have HL2 : Hid (∀ x ∈ L, x < 256) := Lib.hid (by rw [← hL]; exact bytesN_lt s)
  have HLB := Lib.hid hL
  have HLL := Lib.hid hLl
  have HN := Lib.hid hn
  have HBY : Hid (∀ (k : Nat) (hk : k < s.size), (s[k]'hk).toNat = L.getD k 0) := Lib.hid (fun k hk => by rw [Ba.byte_at s k hk, hL])
  rw [hn] at hs
  clear hL hT hLl
  go_enter Tryz.func230, Tryz.ntmps230
  go_wp2_with fail
  go_loopw [0, 6, 7, 8] (LoopQ1 s L w) (fun _ _ _ iv _ => n0 - (intOf iv).toNat)
  case atStart => exact ⟨0, 0, false, rfl, rfl, rfl, rfl, Nat.zero_le _, trivial, by omega, rfl⟩
  case round =>
    obtain ⟨i, n, b, rfl, rfl, rfl, rfl, hi, hfr, h3, rfl⟩ := hrel
    rw [HLL.out] at hi
    have HFR := Lib.hid hfr
    clear hfr
    by_cases hlt : i < n0
    · have hil : i < L.length := by rw [HLL.out]; exact hlt
      have his : i < s.size := by rw [HN.out]; exact hlt
      obtain ⟨c, hc⟩ : ∃ c, L.getD i 0 = c := ⟨_, rfl⟩
      have hb0 : (s[i]'his).toNat = c := (HBY.out i his).trans hc
      have HC : Hid (L[i] = c) := Lib.hid (by rw [← hc, List.getD, List.getElem?_eq_getElem hil]; rfl)
      have HTK : Hid (L.take (i + 1) = L.take i ++ [c]) := Lib.hid (by rw [List.take_succ_eq_append_getElem hil, HC.out])
      clear hc
      by_cases h37 : c = 37
      · subst h37
        by_cases h2 : i + 2 < n0
        · have hi1 : i + 1 < s.size := by rw [HN.out]; omega
          have hi2 : i + 2 < s.size := by rw [HN.out]; omega
          obtain ⟨x1, hx1⟩ : ∃ x, L.getD (i + 1) 0 = x := ⟨_, rfl⟩
          obtain ⟨x2, hx2⟩ : ∃ x, L.getD (i + 2) 0 = x := ⟨_, rfl⟩
          have hb1 : (s[i + 1]'hi1).toNat = x1 := (HBY.out (i + 1) hi1).trans hx1
          have hb2 : (s[i + 2]'hi2).toNat = x2 := (HBY.out (i + 2) hi2).trans hx2
          have l1 : x1 < 256 := by rw [← hb1]; exact (s[i + 1]'hi1).toNat_lt
          have l2 : x2 < 256 := by rw [← hb2]; exact (s[i + 2]'hi2).toNat_lt
          have HTK3 : Hid (L.take (i + 3) = L.take i ++ [37, x1, x2]) := Lib.hid (by
            have e1 : L.take (i + 2) = L.take (i + 1) ++ [x1] := by
              rw [List.take_succ_eq_append_getElem (by rw [HLL.out]; omega), ← hx1, List.getD, List.getElem?_eq_getElem (by rw [HLL.out]; omega)]; rfl
            have e2 : L.take (i + 3) = L.take (i + 2) ++ [x2] := by
              rw [List.take_succ_eq_append_getElem (by rw [HLL.out]; omega), ← hx2, List.getD, List.getElem?_eq_getElem (by rw [HLL.out]; omega)]; rfl
            rw [e2, e1, HTK.out, List.append_assoc, List.append_assoc]
            rfl)
          clear hx1 hx2
          go_wp2_with fail
          refine (ishex_any x1 l1 w HT.out).mono ?_
          rintro e w1 ⟨⟨b1, rfl⟩, rfl⟩
          have hl3 : 3 ≤ n0 - i := by omega
          cases b1 with
          | false =>
            by_cases hl4 : 3 < n0 - i
            · go_wp2_with fail
              go_returns
              exact ⟨⟨_, _, rfl, .inr ⟨_, _, rfl⟩⟩, Below.refl _ _⟩
            · go_wp2_with fail
              go_returns
              exact ⟨⟨_, _, rfl, .inr ⟨_, _, rfl⟩⟩, Below.refl _ _⟩
          | true =>
            go_wp2_with fail
            refine (ishex_any x2 l2 w HT.out).mono ?_
            rintro e w1 ⟨⟨b2, rfl⟩, rfl⟩
            cases b2 with
            | false =>
              by_cases hl4 : 3 < n0 - i
              · go_wp2_with fail
                go_returns
                exact ⟨⟨_, _, rfl, .inr ⟨_, _, rfl⟩⟩, Below.refl _ _⟩
              · go_wp2_with fail
                go_returns
                exact ⟨⟨_, _, rfl, .inr ⟨_, _, rfl⟩⟩, Below.refl _ _⟩
            | true =>
              go_wp2_with fail
              try go_simp
              have hrel : LoopQ1 s L w (.string s) (.int .i64 ((n : Int) + 1)) (.bool b) (.int .i64 ((i : Int) + 3)) w :=
                ⟨i + 3, n + 1, b, rfl, by push_cast; rfl, rfl, by push_cast; rfl, by rw [HLL.out]; omega, by rw [HTK3.out]; exact Fr_app _ HFR.out [37, x1, x2] (by rw [Fr, if_pos rfl]; trivial), by omega, rfl⟩
              first
                | exact ⟨hrel, by simp [intOf] <;> omega⟩
                | exact ⟨⟨_, _, _, _, hrel, rfl, rfl, rfl, rfl⟩, by simp [intOf] <;> omega⟩
        · by_cases hl3 : 3 < n0 - i
          · omega
          · go_wp2_with fail
            go_returns
            exact ⟨⟨_, _, rfl, .inr ⟨_, _, rfl⟩⟩, Below.refl _ _⟩
      · have h37b : ¬ (c : Int) = 37 := by omega
        have h37c : ((c : Int) == 37) = false := by simp; omega
        have HF2 : Hid (Fr (L.take (i + 1))) := Lib.hid (by rw [HTK.out]; exact Fr_app _ HFR.out [c] h37)
        by_cases h43 : c = 43
        · subst h43
          go_wp2_with fail
          try go_simp
          exact ⟨⟨i + 1, n, true, rfl, rfl, rfl, by push_cast; rfl, hil, HF2.out, by omega, rfl⟩, by simp [intOf] <;> omega⟩
        · have h43b : ¬ (c : Int) = 43 := by omega
          have h43c : ((c : Int) == 43) = false := by simp; omega
          go_wp2_with fail
          try go_simp
          exact ⟨⟨i + 1, n, b, rfl, rfl, rfl, by push_cast; rfl, hil, HF2.out, by omega, rfl⟩, by simp [intOf] <;> omega⟩
    · obtain rfl : i = n0 := by omega
      have hall : L.take i = L := List.take_of_length_le (by rw [HLL.out]; exact Nat.le_refl _)
      have HFR2 : Hid (Fr (L.drop 0)) := Lib.hid (by rw [List.drop_zero, ← hall]; exact HFR.out)
      clear hall
      obtain ⟨m, hm⟩ : ∃ m, i - 2 * n = m := ⟨_, rfl⟩
      have hmi : (i : Int) - 2 * (n : Int) = (m : Int) := by omega
      by_cases hn0 : n = 0
      · subst hn0
        cases b with
        | false =>
          go_wp2_with fail
          go_returns
          exact ⟨⟨_, _, rfl, .inl rfl⟩, Below.refl _ _⟩
        | true =>
          obtain rfl : i = m := by omega
          clear hm hmi
          (go_upto_region 34 with fail
           generalize hW : World.alloc w _ = W
           have HBW : Hid (Below w.heap.size w W) := Lib.hid (hW ▸ below_alloc w _)
           have hbk : W.heap[w.heap.size]? = some (.cells #[.pointer none, .slice none 0 0] 243 (0, 0)) := hW ▸ block_new w _ _
           have HGROW := Lib.hid (Any.Builder_Grow_fresh Tryz.lays165 bX165 w.heap.size w.heap.size i W (Nat.le_refl _) hbk HBW.out.size (by omega))
           clear hW hbk
           go_wp2_with fail
           refine HGROW.out.mono ?_
           rintro e w1 ⟨rfl, ⟨hBb, v, hb1, ho1, hne1⟩, hbl1⟩
           have HIS1 : Hid (IsB w.heap.size w.heap.size [] w1) := Lib.hid (.inr ⟨hBb, v, hb1, ho1, hne1⟩)
           have HB1 := Lib.hid (HBW.out.trans hbl1)
           clear hBb hb1 ho1 hne1 hbl1
           go_wp2_with fail
           go_loopw [12] (LoopQ2 L w) (fun iv _ => i - (intOf iv).toNat)
           case atStart => exact ⟨0, [], rfl, Nat.zero_le _, HFR2.out, HIS1.out, (fun x hx => nomatch hx), Nat.le_refl _, HB1.out⟩
           case round =>
             obtain ⟨k, bs, rfl, hk, hfr, hisb, hbs, hbl, hbb⟩ := hrel
             rw [HLL.out] at hk
             have HF := Lib.hid hfr
             have HIS := Lib.hid hisb
             have HBS := Lib.hid hbs
             have HBB := Lib.hid hbb
             clear hfr hisb hbs hbb
             by_cases hki : k < i
             · have hkl : k < L.length := by rw [HLL.out]; exact hki
               have hks : k < s.size := by rw [HN.out]; exact hki
               obtain ⟨c, hc⟩ : ∃ c, L.getD k 0 = c := ⟨_, rfl⟩
               have hb0 : (s[k]'hks).toNat = c := (HBY.out k hks).trans hc
               have hc256 : c < 256 := by rw [← hb0]; exact (s[k]'hks).toNat_lt
               have HD : Hid (L.drop k = c :: L.drop (k + 1)) := Lib.hid (by rw [List.drop_eq_getElem_cons hkl, ← hc, List.getD, List.getElem?_eq_getElem hkl]; rfl)
               clear hc
               by_cases h37 : c = 37
               · subst h37
                 have hp := Fr_pct (L.drop (k + 1)) (by rw [← HD.out]; exact HF.out)
                 rw [List.length_drop, HLL.out, List.drop_drop] at hp
                 obtain ⟨hp2, hpf⟩ := hp
                 have HPF := Lib.hid hpf
                 have hi1 : k + 1 < s.size := by rw [HN.out]; omega
                 have hi2 : k + 2 < s.size := by rw [HN.out]; omega
                 obtain ⟨x1, hx1⟩ : ∃ x, (s[k + 1]'hi1).toNat = x := ⟨_, rfl⟩
                 obtain ⟨x2, hx2⟩ : ∃ x, (s[k + 2]'hi2).toNat = x := ⟨_, rfl⟩
                 have l1 : x1 < 256 := by rw [← hx1]; exact (s[k + 1]'hi1).toNat_lt
                 have l2 : x2 < 256 := by rw [← hx2]; exact (s[k + 2]'hi2).toNat_lt
                 clear hpf
                 go_upto_region 41 with fail
                 refine wp_region_D (fun w' => w' = wr.drew) [12] (by kernel_rfl) ?_
                 generalize hWd : World.drew wr = W3
                 have hS3 : W3 = W3 := rfl
                 have HIS3 : Hid (IsB w.heap.size w.heap.size bs W3) := Lib.hid (hWd ▸ HIS.out)
                 have HBB3 : Hid (Below w.heap.size w W3) := Lib.hid (hWd ▸ HBB.out.drew)
                 clear hWd
                 have e1 : IntKind.i64.wrap ((k : Int) + 1) = (k : Int) + 1 := IntWalk.i64_in _ (by omega)
                 have e2 : IntKind.i64.wrap ((k : Int) + 2) = (k : Int) + 2 := IntWalk.i64_in _ (by omega)
                 have g1 : (0 : Int) ≤ (k : Int) + 1 := by omega
                 have g2 : (0 : Int) ≤ (k : Int) + 2 := by omega
                 have g3 : (k : Int) + 1 < (i : Int) := by omega
                 have g4 : (k : Int) + 2 < (i : Int) := by omega
                 have g5 : ((k : Int) + 1).toNat = k + 1 := by omega
                 have g6 : ((k : Int) + 2).toNat = k + 2 := by omega
                 (refine wpAnyD_take (i := 0) (v := ?_) [3, 4, 5, 10, 11, 12] [12] rfl (by kernel_rfl) (by kernel_rfl) (by kernel_rfl) (fun _ _ _ h => h) (by kernel_rfl) (by kernel_rfl) (by kernel_rfl) (Or.inl ⟨?_, ?_⟩) hS3 ?_
                  rotate_left
                  focus rfl
                  focus (intro w' hw'; go_simp; with_reducible rfl)
                  try go_simp)
                 (refine wpAnyD_take (i := 1) (v := ?_) [2, 3, 4, 5, 10, 11, 12] [12] rfl (by kernel_rfl) (by kernel_rfl) (by kernel_rfl) (fun _ _ _ h => h) (by kernel_rfl) (by kernel_rfl) (by kernel_rfl) (Or.inl ⟨?_, ?_⟩) hS3 ?_
                  rotate_left
                  focus rfl
                  focus (intro w' hw'; go_simp; with_reducible rfl)
                  try go_simp)
                 (refine wpAnyD_take (i := 2) (v := ?_) [3, 4, 5, 10, 11, 12] [12] rfl (by kernel_rfl) (by kernel_rfl) (by kernel_rfl) (fun _ _ _ h => h) (by kernel_rfl) (by kernel_rfl) (by kernel_rfl) (Or.inl ⟨?_, ?_⟩) hS3 ?_
                  rotate_left
                  focus rfl
                  focus (intro w' hw'; go_simp; with_reducible rfl)
                  try go_simp)
                 (refine wpAnyD_take (i := 3) (v := ?_) [4, 5, 10, 11, 12] [12] rfl (by kernel_rfl) (by kernel_rfl) (by kernel_rfl) (fun _ _ _ h => h) (by kernel_rfl) (by kernel_rfl) (by kernel_rfl) (Or.inl ⟨?_, ?_⟩) hS3 ?_
                  rotate_left
                  focus rfl
                  focus (intro w' hw'; go_simp; with_reducible rfl)
                  try go_simp)
                 (refine wpAnyD_take (i := 6) (v := ?_) [9, 10, 11, 12] [12] rfl (by kernel_rfl) (by kernel_rfl) (by kernel_rfl) (fun _ _ _ h => h) (by kernel_rfl) (by kernel_rfl) (by kernel_rfl) (Or.inl ⟨?_, ?_⟩) hS3 ?_
                  rotate_left
                  focus rfl
                  focus (intro w' hw'; go_simp; with_reducible rfl)
                  try go_simp)
                 (refine wpAnyD_take (i := 7) (v := ?_) [8, 9, 10, 11, 12] [12] rfl (by kernel_rfl) (by kernel_rfl) (by kernel_rfl) (fun _ _ _ h => h) (by kernel_rfl) (by kernel_rfl) (by kernel_rfl) (Or.inl ⟨?_, ?_⟩) hS3 ?_
                  rotate_left
                  focus rfl
                  focus (intro w' hw'; go_simp; with_reducible rfl)
                  try go_simp)
                 (refine wpAnyD_take (i := 8) (v := ?_) [9, 10, 11, 12] [12] rfl (by kernel_rfl) (by kernel_rfl) (by kernel_rfl) (fun _ _ _ h => h) (by kernel_rfl) (by kernel_rfl) (by kernel_rfl) (Or.inl ⟨?_, ?_⟩) hS3 ?_
                  rotate_left
                  focus rfl
                  focus (intro w' hw'; go_simp; with_reducible rfl)
                  try go_simp)
                 (refine wpAnyD_take (i := 9) (v := ?_) [10, 11, 12] [12] rfl (by kernel_rfl) (by kernel_rfl) (by kernel_rfl) (fun _ _ _ h => h) (by kernel_rfl) (by kernel_rfl) (by kernel_rfl) (Or.inl ⟨?_, ?_⟩) hS3 ?_
                  rotate_left
                  focus rfl
                  focus (intro w' hw'; go_simp; with_reducible rfl)
                  try go_simp)
                 refine wpAnyD_ready (rs := [4]) (by kernel_rfl) (by simp) ?_
                 refine AllReadyD.cons rfl (fun K hK => ?_) AllReadyD.nil
                 go_simp
                 refine (unhex_any x1 l1 W3).mono ?_
                 rintro e w8 ⟨⟨y1, ly1, rfl⟩, rfl⟩
                 refine hK.out _ _ (fun _ => rfl) ?_
                 clear hK K
                 try go_simp
                 (refine wpAnyD_take (i := 5) (v := ?_) [11, 12] [12] rfl (by kernel_rfl) (by kernel_rfl) (by kernel_rfl) (fun _ _ _ h => h) (by kernel_rfl) (by kernel_rfl) (by kernel_rfl) (Or.inl ⟨?_, ?_⟩) hS3 ?_
                  rotate_left
                  focus rfl
                  focus (intro w' hw'; go_simp; with_reducible rfl)
                  try go_simp)
                 refine wpAnyD_ready (rs := [10]) (by kernel_rfl) (by simp) ?_
                 refine AllReadyD.cons rfl (fun K hK => ?_) AllReadyD.nil
                 go_simp
                 refine (unhex_any x2 l2 W3).mono ?_
                 rintro e w8 ⟨⟨y2, ly2, rfl⟩, rfl⟩
                 refine hK.out _ _ (fun _ => rfl) ?_
                 clear hK K
                 try go_simp
                 (refine wpAnyD_take (i := 11) (v := ?_) [12] [12] rfl (by kernel_rfl) (by kernel_rfl) (by kernel_rfl) (fun _ _ _ h => h) (by kernel_rfl) (by kernel_rfl) (by kernel_rfl) (Or.inl ⟨?_, ?_⟩) hS3 ?_
                  rotate_left
                  focus rfl
                  focus (intro w' hw'; go_simp; with_reducible rfl)
                  try go_simp)
                 refine wpAnyD_ready (rs := [12]) (by kernel_rfl) (by simp) ?_
                 refine AllReadyD.cons rfl (fun K hK => ?_) AllReadyD.nil
                 go_simp
                 obtain ⟨x, lx, hx⟩ := or_u8 (IntKind.u8.wrap ((y1 : Int) * 16)) (y2 : Int)
                 rw [hx]
                 refine (writeByte_b w.heap.size w.heap.size x bs W3 HIS3.out HBB3.out.size (by omega)).mono ?_
                 rintro e w9 ⟨rfl, hw9⟩
                 have HW9 := Lib.hid hw9
                 refine hK.out _ _ (fun h => absurd h (by decide)) ?_
                 clear hK K hw9
                 try go_simp
                 refine wpAnyD_done (by kernel_rfl) ?_ _
                 clear hS3 hx
                 go_wp2_with fail
                 try go_simp
                 have hrel : LoopQ2 L w (.int .i64 ((k : Int) + 3)) w9 := by
                   refine ⟨k + 3, bs ++ [x], by push_cast; rfl, by rw [HLL.out]; omega, HPF.out, .inr HW9.out.1, ?_, by rw [List.length_append]; show bs.length + 1 ≤ _; omega, HBB3.out.trans HW9.out.2.1⟩
                   intro y hy
                   rcases List.mem_append.1 hy with hy | hy
                   · exact HBS.out y hy
                   · simp at hy; omega
                 first
                   | exact ⟨hrel, by simp [intOf] <;> omega⟩
                   | exact ⟨⟨_, hrel, rfl⟩, by simp [intOf] <;> omega⟩
               · have h37b : ¬ (c : Int) = 37 := by omega
                 have h37c : ((c : Int) == 37) = false := by simp; omega
                 have HF2 : Hid (Fr (L.drop (k + 1))) := Lib.hid (Fr_tail h37 _ (by rw [← HD.out]; exact HF.out))
                 by_cases h43 : c = 43
                 · subst h43
                   go_wp2_with fail
                   refine (writeByte_b w.heap.size w.heap.size 32 bs wr HIS.out HBB.out.size (by omega)).mono ?_
                   rintro e w3 ⟨rfl, hw3⟩
                   have HW3 := Lib.hid hw3
                   clear hw3
                   go_wp2_with fail
                   try go_simp
                   refine ⟨⟨k + 1, bs ++ [32], by push_cast; rfl, hkl, HF2.out, .inr HW3.out.1, ?_, by rw [List.length_append]; exact Nat.succ_le_succ hbl, HBB.out.trans HW3.out.2.1⟩, by simp [intOf] <;> omega⟩
                   intro x hx
                   rcases List.mem_append.1 hx with hx | hx
                   · exact HBS.out x hx
                   · simp at hx; omega
                 · have h43b : ¬ (c : Int) = 43 := by omega
                   have h43c : ((c : Int) == 43) = false := by simp; omega
                   go_wp2_with fail
                   refine (writeByte_b w.heap.size w.heap.size c bs wr HIS.out HBB.out.size (by omega)).mono ?_
                   rintro e w3 ⟨rfl, hw3⟩
                   have HW3 := Lib.hid hw3
                   clear hw3
                   go_wp2_with fail
                   try go_simp
                   refine ⟨⟨k + 1, bs ++ [c], by push_cast; rfl, hkl, HF2.out, .inr HW3.out.1, ?_, by rw [List.length_append]; exact Nat.succ_le_succ hbl, HBB.out.trans HW3.out.2.1⟩, by simp [intOf] <;> omega⟩
                   intro x hx
                   rcases List.mem_append.1 hx with hx | hx
                   · exact HBS.out x hx
                   · simp at hx; omega
             · obtain rfl : i = k := by omega
               go_wp2_with fail
               refine (bstring_any w.heap.size w.heap.size bs HBS.out wr HIS.out HBB.out.size).mono ?_
               rintro e w3 ⟨rfl, hb3⟩
               have HB3 := Lib.hid (HBB.out.trans hb3)
               clear hb3
               go_wp2_with fail
               go_returns
               exact ⟨⟨_, _, rfl, .inl rfl⟩, HB3.out⟩)
      · have hn1 : ¬ (n : Int) = 0 := by omega
        (go_upto_region 34 with fail
         generalize hW : World.alloc w _ = W
         have HBW : Hid (Below w.heap.size w W) := Lib.hid (hW ▸ below_alloc w _)
         have hbk : W.heap[w.heap.size]? = some (.cells #[.pointer none, .slice none 0 0] 243 (0, 0)) := hW ▸ block_new w _ _
         have HGROW := Lib.hid (Any.Builder_Grow_fresh Tryz.lays165 bX165 w.heap.size w.heap.size m W (Nat.le_refl _) hbk HBW.out.size (by omega))
         clear hW hbk
         go_wp2_with fail
         refine HGROW.out.mono ?_
         rintro e w1 ⟨rfl, ⟨hBb, v, hb1, ho1, hne1⟩, hbl1⟩
         have HIS1 : Hid (IsB w.heap.size w.heap.size [] w1) := Lib.hid (.inr ⟨hBb, v, hb1, ho1, hne1⟩)
         have HB1 := Lib.hid (HBW.out.trans hbl1)
         clear hBb hb1 ho1 hne1 hbl1
         go_wp2_with fail
         go_loopw [12] (LoopQ2 L w) (fun iv _ => i - (intOf iv).toNat)
         case atStart => exact ⟨0, [], rfl, Nat.zero_le _, HFR2.out, HIS1.out, (fun x hx => nomatch hx), Nat.le_refl _, HB1.out⟩
         case round =>
           obtain ⟨k, bs, rfl, hk, hfr, hisb, hbs, hbl, hbb⟩ := hrel
           rw [HLL.out] at hk
           have HF := Lib.hid hfr
           have HIS := Lib.hid hisb
           have HBS := Lib.hid hbs
           have HBB := Lib.hid hbb
           clear hfr hisb hbs hbb
           by_cases hki : k < i
           · have hkl : k < L.length := by rw [HLL.out]; exact hki
             have hks : k < s.size := by rw [HN.out]; exact hki
             obtain ⟨c, hc⟩ : ∃ c, L.getD k 0 = c := ⟨_, rfl⟩
             have hb0 : (s[k]'hks).toNat = c := (HBY.out k hks).trans hc
             have hc256 : c < 256 := by rw [← hb0]; exact (s[k]'hks).toNat_lt
             have HD : Hid (L.drop k = c :: L.drop (k + 1)) := Lib.hid (by rw [List.drop_eq_getElem_cons hkl, ← hc, List.getD, List.getElem?_eq_getElem hkl]; rfl)
             clear hc
             by_cases h37 : c = 37
             · subst h37
               have hp := Fr_pct (L.drop (k + 1)) (by rw [← HD.out]; exact HF.out)
               rw [List.length_drop, HLL.out, List.drop_drop] at hp
               obtain ⟨hp2, hpf⟩ := hp
               have HPF := Lib.hid hpf
               have hi1 : k + 1 < s.size := by rw [HN.out]; omega
               have hi2 : k + 2 < s.size := by rw [HN.out]; omega
               obtain ⟨x1, hx1⟩ : ∃ x, (s[k + 1]'hi1).toNat = x := ⟨_, rfl⟩
               obtain ⟨x2, hx2⟩ : ∃ x, (s[k + 2]'hi2).toNat = x := ⟨_, rfl⟩
               have l1 : x1 < 256 := by rw [← hx1]; exact (s[k + 1]'hi1).toNat_lt
               have l2 : x2 < 256 := by rw [← hx2]; exact (s[k + 2]'hi2).toNat_lt
               clear hpf
               go_upto_region 41 with fail
               refine wp_region_D (fun w' => w' = wr.drew) [12] (by kernel_rfl) ?_
               generalize hWd : World.drew wr = W3
               have hS3 : W3 = W3 := rfl
               have HIS3 : Hid (IsB w.heap.size w.heap.size bs W3) := Lib.hid (hWd ▸ HIS.out)
               have HBB3 : Hid (Below w.heap.size w W3) := Lib.hid (hWd ▸ HBB.out.drew)
               clear hWd
               have e1 : IntKind.i64.wrap ((k : Int) + 1) = (k : Int) + 1 := IntWalk.i64_in _ (by omega)
               have e2 : IntKind.i64.wrap ((k : Int) + 2) = (k : Int) + 2 := IntWalk.i64_in _ (by omega)
               have g1 : (0 : Int) ≤ (k : Int) + 1 := by omega
               have g2 : (0 : Int) ≤ (k : Int) + 2 := by omega
               have g3 : (k : Int) + 1 < (i : Int) := by omega
               have g4 : (k : Int) + 2 < (i : Int) := by omega
               have g5 : ((k : Int) + 1).toNat = k + 1 := by omega
               have g6 : ((k : Int) + 2).toNat = k + 2 := by omega
               (refine wpAnyD_take (i := 0) (v := ?_) [3, 4, 5, 10, 11, 12] [12] rfl (by kernel_rfl) (by kernel_rfl) (by kernel_rfl) (fun _ _ _ h => h) (by kernel_rfl) (by kernel_rfl) (by kernel_rfl) (Or.inl ⟨?_, ?_⟩) hS3 ?_
                rotate_left
                focus rfl
                focus (intro w' hw'; go_simp; with_reducible rfl)
                try go_simp)
               (refine wpAnyD_take (i := 1) (v := ?_) [2, 3, 4, 5, 10, 11, 12] [12] rfl (by kernel_rfl) (by kernel_rfl) (by kernel_rfl) (fun _ _ _ h => h) (by kernel_rfl) (by kernel_rfl) (by kernel_rfl) (Or.inl ⟨?_, ?_⟩) hS3 ?_
                rotate_left
                focus rfl
                focus (intro w' hw'; go_simp; with_reducible rfl)
                try go_simp)
               (refine wpAnyD_take (i := 2) (v := ?_) [3, 4, 5, 10, 11, 12] [12] rfl (by kernel_rfl) (by kernel_rfl) (by kernel_rfl) (fun _ _ _ h => h) (by kernel_rfl) (by kernel_rfl) (by kernel_rfl) (Or.inl ⟨?_, ?_⟩) hS3 ?_
                rotate_left
                focus rfl
                focus (intro w' hw'; go_simp; with_reducible rfl)
                try go_simp)
               (refine wpAnyD_take (i := 3) (v := ?_) [4, 5, 10, 11, 12] [12] rfl (by kernel_rfl) (by kernel_rfl) (by kernel_rfl) (fun _ _ _ h => h) (by kernel_rfl) (by kernel_rfl) (by kernel_rfl) (Or.inl ⟨?_, ?_⟩) hS3 ?_
                rotate_left
                focus rfl
                focus (intro w' hw'; go_simp; with_reducible rfl)
                try go_simp)
               (refine wpAnyD_take (i := 6) (v := ?_) [9, 10, 11, 12] [12] rfl (by kernel_rfl) (by kernel_rfl) (by kernel_rfl) (fun _ _ _ h => h) (by kernel_rfl) (by kernel_rfl) (by kernel_rfl) (Or.inl ⟨?_, ?_⟩) hS3 ?_
                rotate_left
                focus rfl
                focus (intro w' hw'; go_simp; with_reducible rfl)
                try go_simp)
               (refine wpAnyD_take (i := 7) (v := ?_) [8, 9, 10, 11, 12] [12] rfl (by kernel_rfl) (by kernel_rfl) (by kernel_rfl) (fun _ _ _ h => h) (by kernel_rfl) (by kernel_rfl) (by kernel_rfl) (Or.inl ⟨?_, ?_⟩) hS3 ?_
                rotate_left
                focus rfl
                focus (intro w' hw'; go_simp; with_reducible rfl)
                try go_simp)
               (refine wpAnyD_take (i := 8) (v := ?_) [9, 10, 11, 12] [12] rfl (by kernel_rfl) (by kernel_rfl) (by kernel_rfl) (fun _ _ _ h => h) (by kernel_rfl) (by kernel_rfl) (by kernel_rfl) (Or.inl ⟨?_, ?_⟩) hS3 ?_
                rotate_left
                focus rfl
                focus (intro w' hw'; go_simp; with_reducible rfl)
                try go_simp)
               (refine wpAnyD_take (i := 9) (v := ?_) [10, 11, 12] [12] rfl (by kernel_rfl) (by kernel_rfl) (by kernel_rfl) (fun _ _ _ h => h) (by kernel_rfl) (by kernel_rfl) (by kernel_rfl) (Or.inl ⟨?_, ?_⟩) hS3 ?_
                rotate_left
                focus rfl
                focus (intro w' hw'; go_simp; with_reducible rfl)
                try go_simp)
               refine wpAnyD_ready (rs := [4]) (by kernel_rfl) (by simp) ?_
               refine AllReadyD.cons rfl (fun K hK => ?_) AllReadyD.nil
               go_simp
               refine (unhex_any x1 l1 W3).mono ?_
               rintro e w8 ⟨⟨y1, ly1, rfl⟩, rfl⟩
               refine hK.out _ _ (fun _ => rfl) ?_
               clear hK K
               try go_simp
               (refine wpAnyD_take (i := 5) (v := ?_) [11, 12] [12] rfl (by kernel_rfl) (by kernel_rfl) (by kernel_rfl) (fun _ _ _ h => h) (by kernel_rfl) (by kernel_rfl) (by kernel_rfl) (Or.inl ⟨?_, ?_⟩) hS3 ?_
                rotate_left
                focus rfl
                focus (intro w' hw'; go_simp; with_reducible rfl)
                try go_simp)
               refine wpAnyD_ready (rs := [10]) (by kernel_rfl) (by simp) ?_
               refine AllReadyD.cons rfl (fun K hK => ?_) AllReadyD.nil
               go_simp
               refine (unhex_any x2 l2 W3).mono ?_
               rintro e w8 ⟨⟨y2, ly2, rfl⟩, rfl⟩
               refine hK.out _ _ (fun _ => rfl) ?_
               clear hK K
               try go_simp
               (refine wpAnyD_take (i := 11) (v := ?_) [12] [12] rfl (by kernel_rfl) (by kernel_rfl) (by kernel_rfl) (fun _ _ _ h => h) (by kernel_rfl) (by kernel_rfl) (by kernel_rfl) (Or.inl ⟨?_, ?_⟩) hS3 ?_
                rotate_left
                focus rfl
                focus (intro w' hw'; go_simp; with_reducible rfl)
                try go_simp)
               refine wpAnyD_ready (rs := [12]) (by kernel_rfl) (by simp) ?_
               refine AllReadyD.cons rfl (fun K hK => ?_) AllReadyD.nil
               go_simp
               obtain ⟨x, lx, hx⟩ := or_u8 (IntKind.u8.wrap ((y1 : Int) * 16)) (y2 : Int)
               rw [hx]
               refine (writeByte_b w.heap.size w.heap.size x bs W3 HIS3.out HBB3.out.size (by omega)).mono ?_
               rintro e w9 ⟨rfl, hw9⟩
               have HW9 := Lib.hid hw9
               refine hK.out _ _ (fun h => absurd h (by decide)) ?_
               clear hK K hw9
               try go_simp
               refine wpAnyD_done (by kernel_rfl) ?_ _
               clear hS3 hx
               go_wp2_with fail
               try go_simp
               have hrel : LoopQ2 L w (.int .i64 ((k : Int) + 3)) w9 := by
                 refine ⟨k + 3, bs ++ [x], by push_cast; rfl, by rw [HLL.out]; omega, HPF.out, .inr HW9.out.1, ?_, by rw [List.length_append]; show bs.length + 1 ≤ _; omega, HBB3.out.trans HW9.out.2.1⟩
                 intro y hy
                 rcases List.mem_append.1 hy with hy | hy
                 · exact HBS.out y hy
                 · simp at hy; omega
               first
                 | exact ⟨hrel, by simp [intOf] <;> omega⟩
                 | exact ⟨⟨_, hrel, rfl⟩, by simp [intOf] <;> omega⟩
             · have h37b : ¬ (c : Int) = 37 := by omega
               have h37c : ((c : Int) == 37) = false := by simp; omega
               have HF2 : Hid (Fr (L.drop (k + 1))) := Lib.hid (Fr_tail h37 _ (by rw [← HD.out]; exact HF.out))
               by_cases h43 : c = 43
               · subst h43
                 go_wp2_with fail
                 refine (writeByte_b w.heap.size w.heap.size 32 bs wr HIS.out HBB.out.size (by omega)).mono ?_
                 rintro e w3 ⟨rfl, hw3⟩
                 have HW3 := Lib.hid hw3
                 clear hw3
                 go_wp2_with fail
                 try go_simp
                 refine ⟨⟨k + 1, bs ++ [32], by push_cast; rfl, hkl, HF2.out, .inr HW3.out.1, ?_, by rw [List.length_append]; exact Nat.succ_le_succ hbl, HBB.out.trans HW3.out.2.1⟩, by simp [intOf] <;> omega⟩
                 intro x hx
                 rcases List.mem_append.1 hx with hx | hx
                 · exact HBS.out x hx
                 · simp at hx; omega
               · have h43b : ¬ (c : Int) = 43 := by omega
                 have h43c : ((c : Int) == 43) = false := by simp; omega
                 go_wp2_with fail
                 refine (writeByte_b w.heap.size w.heap.size c bs wr HIS.out HBB.out.size (by omega)).mono ?_
                 rintro e w3 ⟨rfl, hw3⟩
                 have HW3 := Lib.hid hw3
                 clear hw3
                 go_wp2_with fail
                 try go_simp
                 refine ⟨⟨k + 1, bs ++ [c], by push_cast; rfl, hkl, HF2.out, .inr HW3.out.1, ?_, by rw [List.length_append]; exact Nat.succ_le_succ hbl, HBB.out.trans HW3.out.2.1⟩, by simp [intOf] <;> omega⟩
                 intro x hx
                 rcases List.mem_append.1 hx with hx | hx
                 · exact HBS.out x hx
                 · simp at hx; omega
           · obtain rfl : i = k := by omega
             go_wp2_with fail
             refine (bstring_any w.heap.size w.heap.size bs HBS.out wr HIS.out HBB.out.size).mono ?_
             rintro e w3 ⟨rfl, hb3⟩
             have HB3 := Lib.hid (HBB.out.trans hb3)
             clear hb3
             go_wp2_with fail
             go_returns
             exact ⟨⟨_, _, rfl, .inl rfl⟩, HB3.out⟩)
end Go.Proofs.YtgjmgneppecfgaaGreatDoor.Mc
