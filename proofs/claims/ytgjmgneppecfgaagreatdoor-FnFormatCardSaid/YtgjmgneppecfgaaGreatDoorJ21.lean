/-
  FnFormat, texts FoT: lemmas for the law; the theorem stands in the last text.
-/
import Derived.Test.YtgjmgneppecfgaaGreatDoorJ04
import Derived.Test.YtgjmgneppecfgaaGreatDoorJ18
import Derived.Test.YtgjmgneppecfgaaGreatDoorJ19
import Derived.Test.YtgjmgneppecfgaaGreatDoorJ20
namespace Go.Proofs.YtgjmgneppecfgaaGreatDoor.Fo
open Go.RowKit Go.Proofs.YtgjmgneppecfgaaGreatDoor.Va Go.Proofs.YtgjmgneppecfgaaGreatDoor.Ba Go.Proofs.YtgjmgneppecfgaaGreatDoor.Ma Go.Proofs.YtgjmgneppecfgaaGreatDoor.Pa
set_option linter.unusedVariables false
set_option linter.unusedSimpArgs false

theorem decD_app : ∀ a b : List Nat, a.length % 4 = 0 → decD (a ++ b) = decD a ++ decD b
  | [], b, _ => rfl
  | [_], b, h => by simp at h
  | [_, _], b, h => by simp at h
  | [_, _, _], b, h => by simp at h
  | x :: y :: z :: u :: r, b, h => by
    have ih := decD_app r b (by simp only [List.length_cons] at h; omega)
    show decD (x :: y :: z :: u :: (r ++ b)) = _
    rw [decD, decD, ih]
    rfl
theorem decD_le : ∀ a : List Nat, (decD a).length ≤ a.length
  | [] => Nat.le_refl _
  | [_] => by simp [decD]
  | [_, _] => by simp [decD]
  | [_, _, _] => by simp [decD]
  | x :: y :: z :: u :: r => by
    have ih := decD_le r
    rw [decD]
    simp only [List.length_cons]
    omega
/-- what find gives of a sign -/
def dcI (c : Nat) : Int := if dc c < 64 then (dc c : Int) else -1
theorem find_let (c : Nat) (hc : c < 256) (part : ByteArray) (hp : bytesN part = [c]) (w : World) : Calls Tryz.prog 137 #[.string letS, .string part, .int .i64 0] w fun e w' => e = .returned (.int .i64 (dcI c)) ∧ w' = w := by
  refine (find_one letS part (by rw [← bytesN_len, hp]; rfl) (by show 64 ≤ _; decide) w).mono ?_
  rintro e w' ⟨r, rfl, rfl, h⟩
  refine ⟨?_, rfl⟩
  congr 2
  have hz : letS.size = 64 := rfl
  rcases h with ⟨rfl, hno⟩ | ⟨j, rfl, hj, heq⟩
  · unfold dcI
    rw [if_neg]
    intro hd
    refine hno (dc c) (by rw [hz]; exact hd) (bytes_inj ?_)
    rw [let_at _ hd, hp, lt_dc hd]
  · rw [hz] at hj
    have h1 := let_at j hj
    rw [heq, hp] at h1
    simp only [List.cons.injEq, and_true] at h1
    have h2 : dc c = j := by rw [h1, dc_lt hj]
    unfold dcI
    rw [h2, if_pos hj]
/-- a text in base 64 and what it is -/
def Plain64 (L D : List Nat) : Prop := ∃ (Q : List Nat) (pad : Nat), L = Q ++ List.replicate pad 61 ∧ (∀ c ∈ Q, dc c < 64) ∧ Q.length % 4 ≠ 1 ∧ D = decD (Q.map dc)
def UnpEnd (s : ByteArray) (w : World) (e : Ending) (w' : World) : Prop :=
  ∃ (t : ByteArray) (how : Int), e = .returned (.tuple #[.string t, .int .i64 how]) ∧ Below w.heap.size w w' ∧ (how = 2 ∨ (how = 0 ∧ ∃ D, Plain64 (bytesN s) D ∧ t = numS D))
structure UO (L Q : List Nat) (pad : Nat) (R : List Nat) : Prop where
  eq : L = Q ++ List.replicate pad 61 ++ R
  pd : 0 < pad → R = []
  m0 : pad = 0 → Q.length % 4 = 0
  m1 : Q.length % 4 ≠ 1
  r4 : R.length % 4 = 0
  let' : ∀ c ∈ Q, dc c < 64
def LoopUo (L : List Nat) (w : World) (sv ov : Value) (wr : World) : Prop :=
  ∃ (Q : List Nat) (pad : Nat) (R : List Nat), UO L Q pad R ∧ sv = .string (numS R) ∧ wr.ownsRow w.heap.size 5 1 ov (decD (Q.map dc)).length (cellsD (decD (Q.map dc))) ∧ Below w.heap.size w wr
/-- the four signs: so many are read -/
def StU (c0 c1 c2 c3 m : Nat) (i X N : Nat) : Prop :=
  (i = 0 ∧ X = 0 ∧ N = 3) ∨ (i = 1 ∧ dc c0 < 64 ∧ X = dc c0 ∧ N = 3) ∨ (i = 2 ∧ (dc c0 < 64 ∧ dc c1 < 64) ∧ X = dc c0 * 64 + dc c1 ∧ N = 3) ∨
  (i = 3 ∧ (dc c0 < 64 ∧ dc c1 < 64 ∧ dc c2 < 64) ∧ X = (dc c0 * 64 + dc c1) * 64 + dc c2 ∧ N = 3) ∨
  (i = 3 ∧ (dc c0 < 64 ∧ dc c1 < 64) ∧ c2 = 61 ∧ c3 = 61 ∧ m = 4 ∧ X = (dc c0 * 64 + dc c1) * 64 ∧ N = 1) ∨
  (i = 4 ∧ (dc c0 < 64 ∧ dc c1 < 64 ∧ dc c2 < 64 ∧ dc c3 < 64) ∧ X = ((dc c0 * 64 + dc c1) * 64 + dc c2) * 64 + dc c3 ∧ N = 3) ∨
  (i = 4 ∧ (dc c0 < 64 ∧ dc c1 < 64 ∧ dc c2 < 64) ∧ c3 = 61 ∧ m = 4 ∧ X = ((dc c0 * 64 + dc c1) * 64 + dc c2) * 64 ∧ N = 2) ∨
  (i = 4 ∧ (dc c0 < 64 ∧ dc c1 < 64) ∧ c2 = 61 ∧ c3 = 61 ∧ m = 4 ∧ X = (dc c0 * 64 + dc c1) * 64 * 64 ∧ N = 1)
def LoopUq (c0 c1 c2 c3 m : Nat) (w : World) (xv nv iv : Value) (wr : World) : Prop :=
  ∃ i X N : Nat, xv = .int .i64 (X : Int) ∧ nv = .int .i64 (N : Int) ∧ iv = .int .i64 (i : Int) ∧ i ≤ 4 ∧ StU c0 c1 c2 c3 m i X N ∧ w = wr
theorem own_keep {w w' : World} {B n : Nat} {v : Value} {xs : List Value} (h : w.ownsRow B 5 1 v n xs) (hb : Below w.heap.size w w') : w'.ownsRow B 5 1 v n xs := by
  refine ⟨h.1, ?_⟩
  rcases h.2 with h0 | ⟨g, cap, cur, e, hg, hblk, r⟩
  · exact .inl h0
  · exact .inr ⟨g, cap, cur, e, hg, (hb.block g (heap_lt hblk)).trans hblk, r⟩
theorem stop_here {p : Prop} (h : Hid p) : p := h.out
def bsOf (X : Nat) : List Nat := [X / 65536 % 256, X / 256 % 256, X % 256]
def LoopU3 (D : List Nat) (X N : Nat) (B : Nat) (w : World) (ov iv : Value) (wr : World) : Prop :=
  ∃ k : Nat, iv = .int .i64 (k : Int) ∧ k ≤ N ∧ wr.ownsRow B 5 1 ov (D ++ (bsOf X).take k).length (cellsD (D ++ (bsOf X).take k)) ∧ Below B w wr
/-- what the four signs mean -/
theorem StU.done {c0 c1 c2 c3 m X N : Nat} {L Q R : List Nat} (h : StU c0 c1 c2 c3 m 4 X N) (hu : UO L Q 0 (c0 :: c1 :: c2 :: c3 :: R)) (hm : (c0 :: c1 :: c2 :: c3 :: R).length = m) :
    N ≤ 3 ∧ X < 16777216 ∧ ∃ Q' pad, UO L Q' pad R ∧ decD (Q'.map dc) = decD (Q.map dc) ++ (bsOf X).take N := by
  have hq4 : (Q.map dc).length % 4 = 0 := by rw [List.length_map]; exact hu.m0 rfl
  have hr4 : R.length % 4 = 0 := by have := hu.r4; simp only [List.length_cons] at this; omega
  have he := hu.eq
  simp only [List.replicate_zero, List.append_nil] at he
  rcases h with ⟨h, _⟩ | ⟨h, _⟩ | ⟨h, _⟩ | ⟨h, _⟩ | ⟨h, _⟩ | ⟨_, ⟨h0, h1, h2, h3⟩, hx, rfl⟩ | ⟨_, ⟨h0, h1, h2⟩, rfl, hm4, hx, rfl⟩ | ⟨_, ⟨h0, h1⟩, rfl, rfl, hm4, hx, rfl⟩
  · omega
  · omega
  · omega
  · omega
  · omega
  · refine ⟨Nat.le_refl _, by omega, Q ++ [c0, c1, c2, c3], 0, ⟨by rw [he]; simp, fun h => absurd h (by omega), fun _ => ?_, ?_, hr4, ?_⟩, ?_⟩
    · have := hu.m0 rfl; rw [List.length_append]; show (_ + 4) % 4 = 0; omega
    · have := hu.m0 rfl; rw [List.length_append]; show (_ + 4) % 4 ≠ 1; omega
    · intro c hc
      rcases List.mem_append.1 hc with hc | hc
      · exact hu.let' c hc
      · simp only [List.mem_cons, List.not_mem_nil, or_false] at hc
        rcases hc with rfl | rfl | rfl | rfl <;> assumption
    · rw [List.map_append, decD_app _ _ hq4]
      congr 1
      show [dc c0 * 4 + dc c1 / 16, dc c1 % 16 * 16 + dc c2 / 4, dc c2 % 4 * 64 + dc c3] = [X / 65536 % 256, X / 256 % 256, X % 256]
      rw [show X / 65536 % 256 = dc c0 * 4 + dc c1 / 16 by omega, show X / 256 % 256 = dc c1 % 16 * 16 + dc c2 / 4 by omega, show X % 256 = dc c2 % 4 * 64 + dc c3 by omega]
  · have hR : R = [] := List.length_eq_zero_iff.1 (by simp only [List.length_cons] at hm; omega)
    subst hR
    refine ⟨by omega, by omega, Q ++ [c0, c1, c2], 1, ⟨by rw [he]; simp, fun _ => rfl, fun h => absurd h (by omega), ?_, rfl, ?_⟩, ?_⟩
    · have := hu.m0 rfl; rw [List.length_append]; show (_ + 3) % 4 ≠ 1; omega
    · intro c hc
      rcases List.mem_append.1 hc with hc | hc
      · exact hu.let' c hc
      · simp only [List.mem_cons, List.not_mem_nil, or_false] at hc
        rcases hc with rfl | rfl | rfl <;> assumption
    · rw [List.map_append, decD_app _ _ hq4]
      congr 1
      show [dc c0 * 4 + dc c1 / 16, dc c1 % 16 * 16 + dc c2 / 4] = [X / 65536 % 256, X / 256 % 256]
      rw [show X / 65536 % 256 = dc c0 * 4 + dc c1 / 16 by omega, show X / 256 % 256 = dc c1 % 16 * 16 + dc c2 / 4 by omega]
  · have hR : R = [] := List.length_eq_zero_iff.1 (by simp only [List.length_cons] at hm; omega)
    subst hR
    refine ⟨by omega, by omega, Q ++ [c0, c1], 2, ⟨by rw [he]; simp [List.replicate], fun _ => rfl, fun h => absurd h (by omega), ?_, rfl, ?_⟩, ?_⟩
    · have := hu.m0 rfl; rw [List.length_append]; show (_ + 2) % 4 ≠ 1; omega
    · intro c hc
      rcases List.mem_append.1 hc with hc | hc
      · exact hu.let' c hc
      · simp only [List.mem_cons, List.not_mem_nil, or_false] at hc
        rcases hc with rfl | rfl <;> assumption
    · rw [List.map_append, decD_app _ _ hq4]
      congr 1
      show [dc c0 * 4 + dc c1 / 16] = [X / 65536 % 256]
      rw [show X / 65536 % 256 = dc c0 * 4 + dc c1 / 16 by omega]
set_option maxHeartbeats 8000000 in
set_option maxRecDepth 100000 in
theorem unpacked_any (s : ByteArray) (hs : s.size ≤ 1073741824) (w : World) : Calls Tryz.prog 119 #[.string s] w (UnpEnd s w) := by
  obtain ⟨i8, hi, hz0, hz1, hz2⟩ := info_parts info8
  have HI := Lib.hid (And.intro hi (And.intro hz0 (And.intro hz1 hz2)))
  obtain ⟨L, hL⟩ : ∃ L, bytesN s = L := ⟨_, rfl⟩
  have hLl : L.length ≤ 1073741824 := by rw [← hL, bytesN_len]; exact hs
  have hLs : L.length = s.size := by rw [← hL, bytesN_len]
  have hL2 : ∀ x ∈ L, x < 256 := by rw [← hL]; exact bytesN_lt s
  have hsL : s = numS L := by rw [← hL, numS_bytesN]
  have HLB := Lib.hid hL
  have HL2 := Lib.hid hL2
  have HSL := Lib.hid hsL
  have HLS := Lib.hid hLs
  clear hL hL2 hi hz0 hz1 hz2 hsL hLs
  by_cases hm4 : s.size % 4 = 0
  · have g0 : ((s.size : Int)).tmod 4 = 0 := by rw [Int.tmod_eq_emod_of_nonneg (by omega)]; omega
    go_enter Tryz.func119, Tryz.ntmps119
    go_wp2_with fail
    go_loopw [0, 4] (LoopUo L w) (fun sv _ _ => strLen sv)
    case atStart => exact ⟨[], 0, L, ⟨rfl, fun h => absurd h (by omega), fun _ => rfl, by decide, by rw [HLS.out]; exact hm4, fun c hc => by cases hc⟩, by rw [HSL.out], World.ownsRow_nil _ _ _ _, Below.refl _ _⟩
    case round =>
      obtain ⟨Q, pad, R, huo, rfl, hown, hb⟩ := hrel
      have HUO := Lib.hid huo
      have HOWN := Lib.hid hown
      have HB := Lib.hid hb
      clear huo hown hb
      obtain ⟨w1, hw1⟩ : ∃ w1 : World, w1 = wr := ⟨wr, rfl⟩
      subst hw1
      have hR2 : ∀ x ∈ R, x < 256 := fun x hx => HL2.out x (by rw [HUO.out.eq]; exact List.mem_append_right _ hx)
      obtain ⟨t, ht⟩ : ∃ t, numS R = t := ⟨_, rfl⟩
      obtain ⟨m, hm⟩ : ∃ m, R.length = m := ⟨_, rfl⟩
      have hts : t.size = m := by rw [← ht, numS_size, hm]
      have htb : bytesN t = R := by rw [← ht, bytesN_numS' R hR2]
      rw [ht]
      have HT := Lib.hid ht
      have HTB := Lib.hid htb
      have HM := Lib.hid hm
      have hmle : m ≤ 1073741824 := by
        have := congrArg List.length HUO.out.eq
        rw [List.length_append] at this
        omega
      have hqle : Q.length ≤ 1073741824 := by
        have := congrArg List.length HUO.out.eq
        rw [List.length_append, List.length_append] at this
        omega
      clear ht htb hm
      by_cases h0 : 0 < m
      · obtain rfl : pad = 0 := by
          rcases Nat.eq_zero_or_pos pad with h | h
          · exact h
          · have := HUO.out.pd h
            rw [this] at HM
            have := HM.out
            simp at this
            omega
        have hm4' : 4 ≤ m := by have := HUO.out.r4; have := HM.out; omega
        obtain ⟨c0, c1, c2, c3, R', hR'⟩ : ∃ c0 c1 c2 c3 R', R = c0 :: c1 :: c2 :: c3 :: R' := by
          match R, HM.out with
          | [], h => simp at h; omega
          | [_], h => simp at h; omega
          | [_, _], h => simp at h; omega
          | [_, _, _], h => simp at h; omega
          | a :: b :: c :: d :: r, _ => exact ⟨a, b, c, d, r, rfl⟩
        subst hR'
        have HC : Hid (∀ c ∈ [c0, c1, c2, c3], c < 256) := Lib.hid (fun c hc => hR2 c (by
          simp only [List.mem_cons, List.not_mem_nil, or_false] at hc
          rcases hc with rfl | rfl | rfl | rfl <;> simp))
        have hbt : ∀ (i : Nat) (hi : i < t.size), (t[i]'hi).toNat = (c0 :: c1 :: c2 :: c3 :: R').getD i 0 := fun i hi => by rw [Ba.byte_at t i hi, HTB.out]
        have hb0 : (t[0]'(by omega)).toNat = c0 := hbt 0 _
        have hb1 : (t[1]'(by omega)).toNat = c1 := hbt 1 _
        have hb2 : (t[2]'(by omega)).toNat = c2 := hbt 2 _
        have hb3 : (t[3]'(by omega)).toNat = c3 := hbt 3 _
        clear hbt hR2
        go_wp2_with fail
        go_loopw [5, 6, 7] (LoopUq c0 c1 c2 c3 m w1) (fun _ _ iv _ => 4 - (intOf iv).toNat)
        case atStart => exact ⟨0, 0, 3, rfl, rfl, rfl, by omega, .inl ⟨rfl, rfl, rfl⟩, rfl⟩
        case round =>
          obtain ⟨i, X, N, rfl, rfl, rfl, hi, hst, rfl⟩ := hrel
          have HST := Lib.hid hst
          rcases hst with ⟨rfl, rfl, rfl⟩ | ⟨rfl, h0', rfl, rfl⟩ | ⟨rfl, ⟨h0', h1'⟩, rfl, rfl⟩ | ⟨rfl, ⟨h0', h1', h2'⟩, rfl, rfl⟩ | ⟨rfl, ⟨h0', h1'⟩, h2', h3', hm4'', rfl, rfl⟩ | hst
          · (obtain ⟨x1, hx1⟩ : ∃ x1, t.extract 0 (0 + 1) = x1 := ⟨_, rfl⟩
             have hxb : bytesN x1 = [c0] := by rw [← hx1, Mb.bytesN_extract2, HTB.out]; rfl
             have HXB := Lib.hid hxb
             clear hxb
             go_wp2_with fail
             refine (find_let c0 (HC.out c0 (by simp)) x1 HXB.out w1).mono ?_
             rintro e w2 ⟨rfl, rfl⟩
             have hdc : c0 = 61 → dcI c0 = -1 := fun h => by rw [h]; rfl
             obtain ⟨DI, hDI⟩ : ∃ z, dcI c0 = z := ⟨_, rfl⟩
             have HDI := Lib.hid hDI
             rw [hDI] at hdc ⊢
             clear hx1 hDI)
            by_cases h61 : c0 = 61
            · obtain rfl := hdc h61
              rw [h61] at hb0
              by_cases hmm : m = 4
              · (go_wp2_with fail
                 go_returns
                 exact ⟨_, 2, rfl, HB.out, .inl rfl⟩)
              · (go_wp2_with fail
                 go_returns
                 exact ⟨_, 2, rfl, HB.out, .inl rfl⟩)
            · (have n61 : ¬ (c0 : Int) = 61 := by omega
               have n61b : ((c0 : Int) == 61) = false := by simp; omega
               by_cases hd2 : 64 ≤ dc c0
               · obtain rfl : DI = -1 := by rw [← HDI.out]; unfold dcI; exact if_neg (by omega)
                 (go_wp2_with fail
                  go_returns
                  exact ⟨_, 2, rfl, HB.out, .inl rfl⟩)
               · have hd : dc c0 < 64 := by omega
                 obtain rfl : DI = (dc c0 : Int) := by rw [← HDI.out]; unfold dcI; exact if_pos hd
                 go_wp2_with fail
                 try go_simp
                 refine ⟨⟨0 + 1, (dc c0), 3, congrArg (Value.int .i64) (by push_cast; omega), rfl, by push_cast; rfl, by decide, (.inr (.inl ⟨rfl, hd, rfl, rfl⟩)), rfl⟩, by simp [intOf]⟩)
          · (obtain ⟨x1, hx1⟩ : ∃ x1, t.extract 1 (1 + 1) = x1 := ⟨_, rfl⟩
             have hxb : bytesN x1 = [c1] := by rw [← hx1, Mb.bytesN_extract2, HTB.out]; rfl
             have HXB := Lib.hid hxb
             clear hxb
             go_wp2_with fail
             refine (find_let c1 (HC.out c1 (by simp)) x1 HXB.out w1).mono ?_
             rintro e w2 ⟨rfl, rfl⟩
             have hdc : c1 = 61 → dcI c1 = -1 := fun h => by rw [h]; rfl
             obtain ⟨DI, hDI⟩ : ∃ z, dcI c1 = z := ⟨_, rfl⟩
             have HDI := Lib.hid hDI
             rw [hDI] at hdc ⊢
             clear hx1 hDI)
            by_cases h61 : c1 = 61
            · obtain rfl := hdc h61
              rw [h61] at hb1
              by_cases hmm : m = 4
              · (go_wp2_with fail
                 go_returns
                 exact ⟨_, 2, rfl, HB.out, .inl rfl⟩)
              · (go_wp2_with fail
                 go_returns
                 exact ⟨_, 2, rfl, HB.out, .inl rfl⟩)
            · (have n61 : ¬ (c1 : Int) = 61 := by omega
               have n61b : ((c1 : Int) == 61) = false := by simp; omega
               by_cases hd2 : 64 ≤ dc c1
               · obtain rfl : DI = -1 := by rw [← HDI.out]; unfold dcI; exact if_neg (by omega)
                 (go_wp2_with fail
                  go_returns
                  exact ⟨_, 2, rfl, HB.out, .inl rfl⟩)
               · have hd : dc c1 < 64 := by omega
                 obtain rfl : DI = (dc c1 : Int) := by rw [← HDI.out]; unfold dcI; exact if_pos hd
                 go_wp2_with fail
                 try go_simp
                 refine ⟨⟨1 + 1, (dc c0 * 64 + dc c1), 3, congrArg (Value.int .i64) (by push_cast; omega), rfl, by push_cast; rfl, by decide, (.inr (.inr (.inl ⟨rfl, ⟨h0', hd⟩, rfl, rfl⟩))), rfl⟩, by simp [intOf]⟩)
          · (obtain ⟨x1, hx1⟩ : ∃ x1, t.extract 2 (2 + 1) = x1 := ⟨_, rfl⟩
             have hxb : bytesN x1 = [c2] := by rw [← hx1, Mb.bytesN_extract2, HTB.out]; rfl
             have HXB := Lib.hid hxb
             clear hxb
             go_wp2_with fail
             refine (find_let c2 (HC.out c2 (by simp)) x1 HXB.out w1).mono ?_
             rintro e w2 ⟨rfl, rfl⟩
             have hdc : c2 = 61 → dcI c2 = -1 := fun h => by rw [h]; rfl
             obtain ⟨DI, hDI⟩ : ∃ z, dcI c2 = z := ⟨_, rfl⟩
             have HDI := Lib.hid hDI
             rw [hDI] at hdc ⊢
             clear hx1 hDI)
            by_cases h61 : c2 = 61
            · obtain rfl := hdc h61
              rw [h61] at hb2
              by_cases hmm : m = 4
              · by_cases h361 : c3 = 61
                · rw [h361] at hb3
                  go_wp2_with fail
                  try go_simp
                  exact ⟨⟨u2, u3, .int .i64 (((dc c0 * 64 + dc c1) * 64 : Nat) : Int), .int .i64 ((1 : Nat) : Int), .int .i64 ((3 : Nat) : Int), ⟨3, _, 1, rfl, rfl, rfl, by decide, .inr (.inr (.inr (.inr (.inl ⟨rfl, ⟨h0', h1'⟩, rfl, rfl, rfl, rfl, rfl⟩)))), rfl⟩, rfl, rfl, congrArg (Value.int .i64) (by push_cast; omega), rfl, rfl⟩, by simp [intOf]⟩
                · have n3 : ¬ (c3 : Int) = 61 := by omega
                  have n3b : ((c3 : Int) == 61) = false := by simp; omega
                  (go_wp2_with fail
                   go_returns
                   exact ⟨_, 2, rfl, HB.out, .inl rfl⟩)
              · (go_wp2_with fail
                 go_returns
                 exact ⟨_, 2, rfl, HB.out, .inl rfl⟩)
            · (have n61 : ¬ (c2 : Int) = 61 := by omega
               have n61b : ((c2 : Int) == 61) = false := by simp; omega
               by_cases hd2 : 64 ≤ dc c2
               · obtain rfl : DI = -1 := by rw [← HDI.out]; unfold dcI; exact if_neg (by omega)
                 (go_wp2_with fail
                  go_returns
                  exact ⟨_, 2, rfl, HB.out, .inl rfl⟩)
               · have hd : dc c2 < 64 := by omega
                 obtain rfl : DI = (dc c2 : Int) := by rw [← HDI.out]; unfold dcI; exact if_pos hd
                 go_wp2_with fail
                 try go_simp
                 refine ⟨⟨2 + 1, ((dc c0 * 64 + dc c1) * 64 + dc c2), 3, congrArg (Value.int .i64) (by push_cast; omega), rfl, by push_cast; rfl, by decide, (.inr (.inr (.inr (.inl ⟨rfl, ⟨h0', h1', hd⟩, rfl, rfl⟩)))), rfl⟩, by simp [intOf]⟩)
          · (obtain ⟨x1, hx1⟩ : ∃ x1, t.extract 3 (3 + 1) = x1 := ⟨_, rfl⟩
             have hxb : bytesN x1 = [c3] := by rw [← hx1, Mb.bytesN_extract2, HTB.out]; rfl
             have HXB := Lib.hid hxb
             clear hxb
             go_wp2_with fail
             refine (find_let c3 (HC.out c3 (by simp)) x1 HXB.out w1).mono ?_
             rintro e w2 ⟨rfl, rfl⟩
             have hdc : c3 = 61 → dcI c3 = -1 := fun h => by rw [h]; rfl
             obtain ⟨DI, hDI⟩ : ∃ z, dcI c3 = z := ⟨_, rfl⟩
             have HDI := Lib.hid hDI
             rw [hDI] at hdc ⊢
             clear hx1 hDI)
            by_cases h61 : c3 = 61
            · obtain rfl := hdc h61
              rw [h61] at hb3
              by_cases hmm : m = 4
              · go_wp2_with fail
                try go_simp
                exact ⟨⟨u2, u3, .int .i64 ((((dc c0 * 64 + dc c1) * 64 + dc c2) * 64 : Nat) : Int), .int .i64 ((2 : Nat) : Int), .int .i64 ((4 : Nat) : Int), ⟨4, _, 2, rfl, rfl, rfl, by decide, .inr (.inr (.inr (.inr (.inr (.inr (.inl ⟨rfl, ⟨h0', h1', h2'⟩, rfl, rfl, rfl, rfl⟩)))))), rfl⟩, rfl, rfl, congrArg (Value.int .i64) (by push_cast; omega), rfl, rfl⟩, by simp [intOf]⟩
              · (go_wp2_with fail
                 go_returns
                 exact ⟨_, 2, rfl, HB.out, .inl rfl⟩)
            · (have n61 : ¬ (c3 : Int) = 61 := by omega
               have n61b : ((c3 : Int) == 61) = false := by simp; omega
               by_cases hd2 : 64 ≤ dc c3
               · obtain rfl : DI = -1 := by rw [← HDI.out]; unfold dcI; exact if_neg (by omega)
                 (go_wp2_with fail
                  go_returns
                  exact ⟨_, 2, rfl, HB.out, .inl rfl⟩)
               · have hd : dc c3 < 64 := by omega
                 obtain rfl : DI = (dc c3 : Int) := by rw [← HDI.out]; unfold dcI; exact if_pos hd
                 go_wp2_with fail
                 try go_simp
                 refine ⟨⟨3 + 1, (((dc c0 * 64 + dc c1) * 64 + dc c2) * 64 + dc c3), 3, congrArg (Value.int .i64) (by push_cast; omega), rfl, by push_cast; rfl, by decide, (.inr (.inr (.inr (.inr (.inr (.inl ⟨rfl, ⟨h0', h1', h2', hd⟩, rfl, rfl⟩)))))), rfl⟩, by simp [intOf]⟩)
          · (obtain ⟨x1, hx1⟩ : ∃ x1, t.extract 3 (3 + 1) = x1 := ⟨_, rfl⟩
             have hxb : bytesN x1 = [c3] := by rw [← hx1, Mb.bytesN_extract2, HTB.out]; rfl
             have HXB := Lib.hid hxb
             clear hxb
             go_wp2_with fail
             refine (find_let c3 (HC.out c3 (by simp)) x1 HXB.out w1).mono ?_
             rintro e w2 ⟨rfl, rfl⟩
             have hdc : c3 = 61 → dcI c3 = -1 := fun h => by rw [h]; rfl
             obtain ⟨DI, hDI⟩ : ∃ z, dcI c3 = z := ⟨_, rfl⟩
             have HDI := Lib.hid hDI
             rw [hDI] at hdc ⊢
             clear hx1 hDI)
            have h61 : c3 = 61 := h3'
            obtain rfl := hdc h61
            rw [h61] at hb3
            go_wp2_with fail
            try go_simp
            exact ⟨⟨u2, u3, .int .i64 (((dc c0 * 64 + dc c1) * 64 * 64 : Nat) : Int), .int .i64 ((1 : Nat) : Int), .int .i64 ((4 : Nat) : Int), ⟨4, _, 1, rfl, rfl, rfl, by decide, .inr (.inr (.inr (.inr (.inr (.inr (.inr ⟨rfl, ⟨h0', h1'⟩, rfl, rfl, rfl, rfl, rfl⟩)))))), rfl⟩, rfl, rfl, congrArg (Value.int .i64) (by push_cast; omega), rfl, rfl⟩, by simp [intOf]⟩
          · obtain rfl : i = 4 := by rcases hst with ⟨h, _⟩ | ⟨h, _⟩ | ⟨h, _⟩ <;> exact h
            obtain ⟨hN3, hX, Q', pad', huo', hdec⟩ := HST.out.done HUO.out HM.out
            have HUO' := Lib.hid huo'
            have HDEC := Lib.hid hdec
            clear hst huo' hdec
            obtain ⟨E, hE⟩ : ∃ E, decD (Q.map dc) = E := ⟨_, rfl⟩
            rw [hE] at HOWN HDEC
            have hEl : E.length ≤ 1073741824 := by
              have := decD_le (Q.map dc)
              rw [hE, List.length_map] at this
              omega
            clear hE
            go_wp2_with fail
            go_loopw [4, 9] (LoopU3 E X N w.heap.size w) (fun _ iv _ => N - (intOf iv).toNat)
            case atStart => exact ⟨0, rfl, Nat.zero_le _, by rw [List.take_zero, List.append_nil]; exact HOWN.out, HB.out⟩
            case round =>
              obtain ⟨k, rfl, hk, hown, hb⟩ := hrel
              have HOWN3 := Lib.hid hown
              have HB3 := Lib.hid hb
              clear hown hb
              obtain ⟨w5, hw5⟩ : ∃ w5 : World, w5 = wr := ⟨wr, rfl⟩
              subst hw5
              by_cases hkN : k < N
              · rcases (show k = 0 ∨ k = 1 ∨ k = 2 by omega) with rfl | rfl | rfl
                · (obtain ⟨x, hx⟩ : ∃ x, X / 65536 % 256 = x := ⟨_, rfl⟩
                   have e1 : IntKind.u8.wrap ((X : Int) / 65536) = (x : Int) := by rw [IntKind.wrap_u8]; omega
                   have e2 : (65536 : Nat) = 1 → IntKind.u8.wrap (X : Int) = (x : Int) := fun h => by rw [IntKind.wrap_u8]; omega
                   have HTK : Hid (E ++ (bsOf X).take (0 + 1) = (E ++ (bsOf X).take 0) ++ [x]) := Lib.hid (by
                     have h : (bsOf X).take (0 + 1) = (bsOf X).take 0 ++ [x] := by
                       rw [← hx]
                       first | rfl | (rw [Nat.div_one]; rfl)
                     rw [h, List.append_assoc])
                   have HOWN4 : Hid (∀ q, (w5.drewN q).ownsRow w.heap.size 5 1 u4 (E ++ (bsOf X).take 0).length (cellsD (E ++ (bsOf X).take 0))) := Lib.hid (fun q => HOWN3.out)
                   have HONE : Hid (∀ u ∈ (#[Value.int .u8 (x : Int)] : Array Value).toList, u.oneCell' = true) := Lib.hid (by
                     intro u hu
                     simp at hu
                     subst hu
                     rfl)
                   have HLEN : Hid ((E ++ (bsOf X).take 0).length + 1 ≤ 1073741834) := Lib.hid (by
                     rw [List.length_append, List.length_take]
                     have : min 0 (bsOf X).length ≤ 3 := Nat.min_le_right _ _
                     omega)
                   clear hx
                   go_wp2_with (at_builtin; refine stop_here ?_)
                   refine Lib.hid ?_
                   refine wpList_append_one _ rfl _ _ 73 rfl w.heap.size 5 i8 _ 1 1 Tryz.underlying73 HI.out.1 HI.out.2.1 HI.out.2.2.1 HI.out.2.2.2 rfl (by decide) _ _ (cellsD (E ++ (bsOf X).take 0)) rfl (HOWN3.out.alloc _) ⟨w5.heap.size, 0, none⟩ 1 _ rfl rfl (cell_new w5 _ _) HONE.out ?_ ?_ ?_ ?_
                   · unfold maxLen; have := HLEN.out; omega
                   · have := HLEN.out; omega
                   · have := HB3.out.size; simp <;> omega
                   intro v' w3 hap
                   have HAP := Lib.hid hap
                   clear hap
                   go_wp2_with fail
                   try go_simp
                   refine ⟨⟨0 + 1, by push_cast; rfl, by omega, ?_, ?_⟩, by simp [intOf] <;> omega⟩
                   · have h1 := HAP.out.owns
                     rw [HTK.out, cellsD_app, List.length_append]
                     exact h1
                   · exact Below.grown (Below.alloc HB3.out HB3.out.size _) HAP.out.grown (by have := HB3.out.size; simp; omega) (fun k hk => (HOWN3.out.lt k hk).1))
                · (obtain ⟨x, hx⟩ : ∃ x, X / 256 % 256 = x := ⟨_, rfl⟩
                   have e1 : IntKind.u8.wrap ((X : Int) / 256) = (x : Int) := by rw [IntKind.wrap_u8]; omega
                   have e2 : (256 : Nat) = 1 → IntKind.u8.wrap (X : Int) = (x : Int) := fun h => by rw [IntKind.wrap_u8]; omega
                   have HTK : Hid (E ++ (bsOf X).take (1 + 1) = (E ++ (bsOf X).take 1) ++ [x]) := Lib.hid (by
                     have h : (bsOf X).take (1 + 1) = (bsOf X).take 1 ++ [x] := by
                       rw [← hx]
                       first | rfl | (rw [Nat.div_one]; rfl)
                     rw [h, List.append_assoc])
                   have HOWN4 : Hid (∀ q, (w5.drewN q).ownsRow w.heap.size 5 1 u4 (E ++ (bsOf X).take 1).length (cellsD (E ++ (bsOf X).take 1))) := Lib.hid (fun q => HOWN3.out)
                   have HONE : Hid (∀ u ∈ (#[Value.int .u8 (x : Int)] : Array Value).toList, u.oneCell' = true) := Lib.hid (by
                     intro u hu
                     simp at hu
                     subst hu
                     rfl)
                   have HLEN : Hid ((E ++ (bsOf X).take 1).length + 1 ≤ 1073741834) := Lib.hid (by
                     rw [List.length_append, List.length_take]
                     have : min 1 (bsOf X).length ≤ 3 := Nat.min_le_right _ _
                     omega)
                   clear hx
                   go_wp2_with (at_builtin; refine stop_here ?_)
                   refine Lib.hid ?_
                   refine wpList_append_one _ rfl _ _ 73 rfl w.heap.size 5 i8 _ 1 1 Tryz.underlying73 HI.out.1 HI.out.2.1 HI.out.2.2.1 HI.out.2.2.2 rfl (by decide) _ _ (cellsD (E ++ (bsOf X).take 1)) rfl (HOWN3.out.alloc _) ⟨w5.heap.size, 0, none⟩ 1 _ rfl rfl (cell_new w5 _ _) HONE.out ?_ ?_ ?_ ?_
                   · unfold maxLen; have := HLEN.out; omega
                   · have := HLEN.out; omega
                   · have := HB3.out.size; simp <;> omega
                   intro v' w3 hap
                   have HAP := Lib.hid hap
                   clear hap
                   go_wp2_with fail
                   try go_simp
                   refine ⟨⟨1 + 1, by push_cast; rfl, by omega, ?_, ?_⟩, by simp [intOf] <;> omega⟩
                   · have h1 := HAP.out.owns
                     rw [HTK.out, cellsD_app, List.length_append]
                     exact h1
                   · exact Below.grown (Below.alloc HB3.out HB3.out.size _) HAP.out.grown (by have := HB3.out.size; simp; omega) (fun k hk => (HOWN3.out.lt k hk).1))
                · (obtain ⟨x, hx⟩ : ∃ x, X / 1 % 256 = x := ⟨_, rfl⟩
                   have e1 : IntKind.u8.wrap ((X : Int) / 1) = (x : Int) := by rw [IntKind.wrap_u8]; omega
                   have e2 : (1 : Nat) = 1 → IntKind.u8.wrap (X : Int) = (x : Int) := fun h => by rw [IntKind.wrap_u8]; omega
                   have HTK : Hid (E ++ (bsOf X).take (2 + 1) = (E ++ (bsOf X).take 2) ++ [x]) := Lib.hid (by
                     have h : (bsOf X).take (2 + 1) = (bsOf X).take 2 ++ [x] := by
                       rw [← hx]
                       first | rfl | (rw [Nat.div_one]; rfl)
                     rw [h, List.append_assoc])
                   have HOWN4 : Hid (∀ q, (w5.drewN q).ownsRow w.heap.size 5 1 u4 (E ++ (bsOf X).take 2).length (cellsD (E ++ (bsOf X).take 2))) := Lib.hid (fun q => HOWN3.out)
                   have HONE : Hid (∀ u ∈ (#[Value.int .u8 (x : Int)] : Array Value).toList, u.oneCell' = true) := Lib.hid (by
                     intro u hu
                     simp at hu
                     subst hu
                     rfl)
                   have HLEN : Hid ((E ++ (bsOf X).take 2).length + 1 ≤ 1073741834) := Lib.hid (by
                     rw [List.length_append, List.length_take]
                     have : min 2 (bsOf X).length ≤ 3 := Nat.min_le_right _ _
                     omega)
                   clear hx
                   go_wp2_with (at_builtin; refine stop_here ?_)
                   refine Lib.hid ?_
                   refine wpList_append_one _ rfl _ _ 73 rfl w.heap.size 5 i8 _ 1 1 Tryz.underlying73 HI.out.1 HI.out.2.1 HI.out.2.2.1 HI.out.2.2.2 rfl (by decide) _ _ (cellsD (E ++ (bsOf X).take 2)) rfl (HOWN3.out.alloc _) ⟨w5.heap.size, 0, none⟩ 1 _ rfl rfl (cell_new w5 _ _) HONE.out ?_ ?_ ?_ ?_
                   · unfold maxLen; have := HLEN.out; omega
                   · have := HLEN.out; omega
                   · have := HB3.out.size; simp <;> omega
                   intro v' w3 hap
                   have HAP := Lib.hid hap
                   clear hap
                   go_wp2_with fail
                   try go_simp
                   refine ⟨⟨2 + 1, by push_cast; rfl, by omega, ?_, ?_⟩, by simp [intOf] <;> omega⟩
                   · have h1 := HAP.out.owns
                     rw [HTK.out, cellsD_app, List.length_append]
                     exact h1
                   · exact Below.grown (Below.alloc HB3.out HB3.out.size _) HAP.out.grown (by have := HB3.out.size; simp; omega) (fun k hk => (HOWN3.out.lt k hk).1))
              · obtain rfl : k = N := by omega
                obtain ⟨t2, ht2⟩ : ∃ t2, t.extract 4 m = t2 := ⟨_, rfl⟩
                have hb2' : bytesN t2 = R' := by
                  rw [← ht2, Mb.bytesN_extract2, HTB.out, ← HM.out, List.take_length]
                  rfl
                have HT2 : Hid (t2 = numS R') := Lib.hid (bytes_inj (by rw [hb2', bytesN_numS' _ (fun y hy => HL2.out y (by rw [HUO'.out.eq]; exact List.mem_append_right _ hy))]))
                have hz2 : t2.size < t.size := by
                  have h1 := congrArg List.length hb2'
                  have h2 := HM.out
                  simp only [List.length_cons] at h2
                  rw [bytesN_len] at h1
                  omega
                clear hb2'
                go_wp2_with fail
                try go_simp
                refine ⟨⟨Q', pad', R', HUO'.out, congrArg Value.string HT2.out, ?_, HB3.out⟩, by simp [strLen] <;> omega⟩
                rw [HDEC.out]
                exact HOWN3.out
      · have hR0 : R = [] := List.length_eq_zero_iff.1 (by have := HM.out; omega)
        have hcv := owns_string HOWN.out
        have hUO := HUO.out
        rw [hR0] at hUO
        have hDl := decD_le (Q.map dc)
        rw [List.length_map] at hDl
        obtain ⟨E, hE⟩ : ∃ E, decD (Q.map dc) = E := ⟨_, rfl⟩
        rw [hE] at hcv hDl
        have HE := Lib.hid hE
        obtain ⟨z, hz⟩ : ∃ z, numS E = z := ⟨_, rfl⟩
        have hzl : z.size ≤ 1073741824 := by rw [← hz, numS_size]; omega
        rw [hz] at hcv
        have HZ := Lib.hid hz
        clear hz hE
        go_wp2_with fail
        refine (clean_any z (by omega) w1).mono ?_
        rintro e w2 ⟨b, rfl, hb2⟩
        have HB2 := Lib.hid (HB.out.trans (hb2.mono HB.out.size))
        cases b with
        | false =>
          go_wp2_with fail
          go_returns
          exact ⟨_, 2, rfl, HB2.out, .inl rfl⟩
        | true =>
          have hcv2 : (convert 73 9 u4).run Tryz.prog w2 = .ok (.string z) w2 := by
            have h := owns_string (own_keep HOWN.out hb2)
            rw [HE.out, HZ.out] at h
            exact h
          go_wp2_with fail
          go_returns
          refine ⟨z, 0, rfl, HB2.out, .inr ⟨rfl, _, ⟨Q, pad, ?_, hUO.let', hUO.m1, rfl⟩, ?_⟩⟩
          · rw [HLB.out, hUO.eq, List.append_nil]
          · rw [HE.out, HZ.out]
  · have g0 : ¬ ((s.size : Int)).tmod 4 = 0 := by rw [Int.tmod_eq_emod_of_nonneg (by omega)]; omega
    go_enter Tryz.func119, Tryz.ntmps119
    go_wp2_with fail
    go_returns
    exact ⟨_, 2, rfl, Below.refl _ _, .inl rfl⟩
end Go.Proofs.YtgjmgneppecfgaaGreatDoor.Fo
