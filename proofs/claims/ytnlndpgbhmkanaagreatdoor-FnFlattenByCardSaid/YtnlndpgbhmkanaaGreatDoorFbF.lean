/-
  THE WALK of the reference's Call of flatten with a depth.
-/
import Derived.Test.YtnlndpgbhmkanaaGreatDoorFbE
namespace Go.Proofs.YtnlndpgbhmkanaaGreatDoor.Va
open Go.RowKit
set_option linter.unusedVariables false
set_option linter.unusedSimpArgs false

def numV (h : Int) : V := .mk 3 h ⟨#[]⟩ [] [] []
theorem good_num (D : Int) (h0 : 0 ≤ D) (h1 : D ≤ 500) : Good (numV (2 * D)) := by
  rw [numV, Good]
  exact ⟨⟨by omega, by omega, .inl rfl, .inr rfl, .inr rfl, .inr rfl, rfl, by omega, by omega, by omega, Nat.zero_le _, (fun _ h => by cases h), by decide, (fun _ h => by cases h)⟩, by rw [GoodL]; trivial, trivial, by rw [GoodL]; trivial⟩
theorem size_num (h : Int) : (numV h).size = 1 := by rw [numV, V.size, sizeL]
theorem kv_num (h : Int) (w : World) : KV w (numV h) (.agg #[.int .i64 3, .int .i64 h, .string ⟨#[]⟩, .slice none 0 0, .slice none 0 0, .slice none 0 0]) := rv_flat 3 h ⟨#[]⟩ w _


set_option maxHeartbeats 8000000 in
set_option maxRecDepth 100000 in
theorem call1_flat (B : Nat) (l : List V) (n : Nat) (hn : l.length = n) (hsz : sizeL l ≤ 400) (a : Option Addr) (c : Nat) (w : World) (hl : RL w (fun b => b < B) l a) (hB : B ≤ w.heap.size) (hg : GoodL l) (h D : Int) (hh : h = 2 * D) (h0 : 0 ≤ D) (h1 : D ≤ 500) (bA : Nat)
    (hbA : w.heap[bA]? = some (.cells #[.int .i64 3, .int .i64 h, .string ⟨#[]⟩, .slice none 0 0, .slice none 0 0, .slice none 0 0] 27 (0, 0))) :
    Calls Tryz.prog 9 #[.string ⟨#[102, 108, 97, 116, 116, 101, 110]⟩, .agg #[.int .i64 5, .int .i64 0, .string ⟨#[]⟩, .slice a n c, .slice none 0 0, .slice none 0 0], .slice (some ⟨bA, 0, none⟩) 1 1] w (TupL B (flatL l D) w) := by
  have HL := Lib.hid hl
  have HN := Lib.hid hn
  have HG := Lib.hid hg
  have HA := Lib.hid hbA
  have HH := Lib.hid hh
  clear hl hn hg hbA hh
  go_enter Tryz.func9, Tryz.ntmps9
  go_wp2_with fail
  generalize hW : World.alloc (World.alloc w _) _ = W
  have b1 : Below w.heap.size w W := hW ▸ (by go_grown)
  have z4 : W.heap[w.heap.size]? = some (.cells #[.int .i64 5, .int .i64 0, .string ⟨#[]⟩, .slice a n c, .slice none 0 0, .slice none 0 0] 27 (0, 0)) := hW ▸ block_past (block_new w _ _) _
  have z : W.heap[w.heap.size + 1]? = some (.cells #[.int .i64 0, .int .i64 0, .string ⟨#[]⟩, .slice none 0 0, .slice none 0 0, .slice none 0 0] 27 (0, 0)) := hW ▸ block_top w _ _
  clear hW
  have hs1 := b1.size
  have hwlt := heap_lt z
  have hlW := RL.mono (Same.of_below b1 fun b (hb : b < B) => by omega) (fun _ h => h) _ _ HL.out
  refine (vague_good 401 (mkL l) (by rw [size_mkL]; omega) (by omega) (good_mkL HG.out) _ (fun b => b < W.heap.size) W (kv_mkL hlW n c HN.out) (fun _ h => h)).mono ?_
  rintro e w1 ⟨rfl, hb1⟩
  have hs11 := hb1.size
  have HB1 := Lib.hid (b1.trans (hb1.mono hs1))
  have HZ4 := Lib.hid (keep hb1 z4)
  have HZ1 := Lib.hid (keep hb1 z)
  have HA1 := Lib.hid (keep hb1 (keep b1 HA.out))
  have HL1 := Lib.hid (RL.mono (Same.of_below hb1 fun b (hb : b < B) => by omega) (fun _ h => h) _ _ hlW)
  clear hb1 b1 z4 z hlW
  go_wp2_with fail
  refine (sArray_any w1 (some ⟨bA, 0, none⟩) 1 1).mono ?_
  rintro e w2 ⟨rfl, hb2⟩
  have hs2 := hb2.size
  have HB2 := Lib.hid (HB1.out.trans (hb2.mono HB1.out.size))
  have HZ42 := Lib.hid (keep hb2 HZ4.out)
  have HZ2 := Lib.hid (keep hb2 HZ1.out)
  have HA2 := Lib.hid (keep hb2 HA1.out)
  have HL2 := Lib.hid (RL.mono (Same.of_below hb2 fun b (hb : b < B) => by omega) (fun _ h => h) _ _ HL1.out)
  clear hb2
  go_wp2_with fail
  refine (vague_good 401 (mkL [numV h]) (by rw [size_mkL, sizeL, sizeL, size_num]; omega) (by omega) (good_mkL (by rw [GoodL, GoodL, HH.out]; exact ⟨good_num D h0 h1, trivial⟩)) _ (fun b => b < w2.heap.size) w2 (kv_mkL (rl_one HA2.out (kv_num h w2)) 1 1 rfl) (fun _ h => h)).mono ?_
  rintro e w3 ⟨rfl, hb3⟩
  have hs3 := hb3.size
  have HB3 := Lib.hid (HB2.out.trans (hb3.mono HB2.out.size))
  have HZ43 := Lib.hid (keep hb3 HZ42.out)
  have HZ3 := Lib.hid (keep hb3 HZ2.out)
  have HA3 := Lib.hid (keep hb3 HA2.out)
  have HL3 := Lib.hid (RL.mono (Same.of_below hb3 fun b (hb : b < B) => by omega) (fun _ h => h) _ _ HL2.out)
  clear hb3
  go_upto_region 11 with fail
  refine wp_region_D (TwoBlocks w.heap.size bA (.cells #[.int .i64 5, .int .i64 0, .string ⟨#[]⟩, .slice a n c, .slice none 0 0, .slice none 0 0] 27 (0, 0)) (.cells #[.int .i64 3, .int .i64 h, .string ⟨#[]⟩, .slice none 0 0, .slice none 0 0, .slice none 0 0] 27 (0, 0))) [8, 9] (by kernel_rfl) ?_
  generalize hWd : World.drew w3 = W4
  have hS3 : TwoBlocks w.heap.size bA (.cells #[.int .i64 5, .int .i64 0, .string ⟨#[]⟩, .slice a n c, .slice none 0 0, .slice none 0 0] 27 (0, 0)) (.cells #[.int .i64 3, .int .i64 h, .string ⟨#[]⟩, .slice none 0 0, .slice none 0 0, .slice none 0 0] 27 (0, 0)) W4 := hWd ▸ ⟨HZ43.out, HA3.out⟩
  have b4 : Below w3.heap.size w3 W4 := hWd ▸ (Below.refl _ _).drew
  have hs4 := b4.size
  have HB4 := Lib.hid (HB3.out.trans (b4.mono HB3.out.size))
  have HZ_4 := Lib.hid (keep b4 HZ3.out)
  have HL4 := Lib.hid (RL.mono (Same.of_below b4 fun b (hb : b < B) => by omega) (fun _ h => h) _ _ HL3.out)
  clear hWd b4
  (refine wpAnyD_take (i := 0) (v := ?_) [5, 6, 7, 8, 9] [8, 9] rfl (by kernel_rfl) (by kernel_rfl) (by kernel_rfl) (fun _ _ _ h => h) (by kernel_rfl) (by kernel_rfl) (by kernel_rfl) (Or.inl ⟨?_, ?_⟩) hS3 ?_
   rotate_left
   focus rfl
   focus (intro w' hw'; have hw1 := cells6 hw'.1; have hw2 := cells6 hw'.2; clear hw'; go_simp; with_reducible rfl)
   try go_simp)
  (refine wpAnyD_take (i := 1) (v := ?_) [5, 6, 7, 8, 9] [8, 9] rfl (by kernel_rfl) (by kernel_rfl) (by kernel_rfl) (fun _ _ _ h => h) (by kernel_rfl) (by kernel_rfl) (by kernel_rfl) (Or.inl ⟨?_, ?_⟩) hS3 ?_
   rotate_left
   focus rfl
   focus (intro w' hw'; have hw1 := cells6 hw'.1; have hw2 := cells6 hw'.2; clear hw'; go_simp; with_reducible rfl)
   try go_simp)
  (refine wpAnyD_take (i := 2) (v := ?_) [3, 4, 5, 6, 7, 8, 9] [8, 9] rfl (by kernel_rfl) (by kernel_rfl) (by kernel_rfl) (fun _ _ _ h => h) (by kernel_rfl) (by kernel_rfl) (by kernel_rfl) (Or.inl ⟨?_, ?_⟩) hS3 ?_
   rotate_left
   focus rfl
   focus (intro w' hw'; have hw1 := cells6 hw'.1; have hw2 := cells6 hw'.2; clear hw'; go_simp; with_reducible rfl)
   try go_simp)
  (refine wpAnyD_take (i := 3) (v := ?_) [4, 5, 6, 7, 8, 9] [8, 9] rfl (by kernel_rfl) (by kernel_rfl) (by kernel_rfl) (fun _ _ _ h => h) (by kernel_rfl) (by kernel_rfl) (by kernel_rfl) (Or.inl ⟨?_, ?_⟩) hS3 ?_
   rotate_left
   focus rfl
   focus (intro w' hw'; have hw1 := cells6 hw'.1; have hw2 := cells6 hw'.2; clear hw'; go_simp; with_reducible rfl)
   try go_simp)
  (refine wpAnyD_take (i := 4) (v := ?_) [5, 6, 7, 8, 9] [8, 9] rfl (by kernel_rfl) (by kernel_rfl) (by kernel_rfl) (fun _ _ _ h => h) (by kernel_rfl) (by kernel_rfl) (by kernel_rfl) (Or.inl ⟨?_, ?_⟩) hS3 ?_
   rotate_left
   focus rfl
   focus (intro w' hw'; have hw1 := cells6 hw'.1; have hw2 := cells6 hw'.2; clear hw'; go_simp; with_reducible rfl)
   try go_simp)
  refine wpAnyD_ready (rs := [5]) (by kernel_rfl) (by simp) ?_
  refine AllReadyD.cons rfl (fun K hK => ?_) AllReadyD.nil
  go_simp
  refine (along_flat B l n HN.out hsz a c W4 HL4.out (by omega) h D HH.out h0 h1).mono ?_
  rintro e w5 ⟨a2, n2, c2, rfl, hn2, hrl, hb5⟩
  have hs5 := hb5.size
  have HN2 := Lib.hid hn2
  have HRL := Lib.hid hrl
  have HB5 := Lib.hid (HB4.out.trans (hb5.mono HB4.out.size))
  have HZ5 := Lib.hid (keep hb5 HZ_4.out)
  have hS5 : TwoBlocks w.heap.size bA (.cells #[.int .i64 5, .int .i64 0, .string ⟨#[]⟩, .slice a n c, .slice none 0 0, .slice none 0 0] 27 (0, 0)) (.cells #[.int .i64 3, .int .i64 h, .string ⟨#[]⟩, .slice none 0 0, .slice none 0 0, .slice none 0 0] 27 (0, 0)) w5 := ⟨keep hb5 hS3.1, keep hb5 hS3.2⟩
  refine hK.out _ _ (fun _ => hS5) ?_
  clear hK K hb5 hS3 hn2 hrl
  have hS3 := hS5
  clear hS5
  try go_simp
  (refine wpAnyD_take (i := 6) (v := ?_) [8, 9] [8, 9] rfl (by kernel_rfl) (by kernel_rfl) (by kernel_rfl) (fun _ _ _ h => h) (by kernel_rfl) (by kernel_rfl) (by kernel_rfl) (Or.inl ⟨?_, ?_⟩) hS3 ?_
   rotate_left
   focus rfl
   focus (intro w' hw'; have hw1 := cells6 hw'.1; have hw2 := cells6 hw'.2; clear hw'; go_simp; with_reducible rfl)
   try go_simp)
  (refine wpAnyD_take (i := 7) (v := ?_) [8, 9] [8, 9] rfl (by kernel_rfl) (by kernel_rfl) (by kernel_rfl) (fun _ _ _ h => h) (by kernel_rfl) (by kernel_rfl) (by kernel_rfl) (Or.inl ⟨?_, ?_⟩) hS3 ?_
   rotate_left
   focus rfl
   focus (intro w' hw'; have hw1 := cells6 hw'.1; have hw2 := cells6 hw'.2; clear hw'; go_simp; with_reducible rfl)
   try go_simp)
  refine wpAnyD_ready (rs := [8]) (by kernel_rfl) (by simp) ?_
  refine AllReadyD.cons rfl (fun K hK => ?_) AllReadyD.nil
  have zz := cells6 HZ5.out
  go_simp
  refine hK.out _ _ (fun h => absurd h (by decide)) ?_
  clear hK K
  try go_simp
  refine wpAnyD_ready (rs := [9]) (by kernel_rfl) (by simp) ?_
  refine AllReadyD.cons rfl (fun K hK => ?_) AllReadyD.nil
  go_simp
  refine hK.out _ _ (fun h => absurd h (by decide)) ?_
  clear hK K
  try go_simp
  refine wpAnyD_done (by kernel_rfl) ?_ _
  clear hS3
  go_wp2_with fail
  refine bodyPost_ret (v := .tuple #[.agg #[.int .i64 5, .int .i64 0, .string ⟨#[]⟩, .slice a2 n2 c2, .slice none 0 0, .slice none 0 0], .int .i64 0]) (by simp [results, Tryz.results9, go_sem, *]) rfl ⟨a2, n2, c2, rfl, HN2.out, ?_, ?_⟩
  · refine RL.mono (fun b hb => sets_other _ _ _ _ _ _ (by have := hb.1; omega)) (fun b hb => ?_) _ _ HRL.out
    have h1 := hb.1
    have h2 := hb.2
    simp only [World.size_setCell]
    omega
  · exact sets6 HB5.out (Nat.le_succ _) _ _ _ _ _ _

theorem number_flat (x : Int) (h0 : 0 ≤ x) (h1 : x ≤ 1000) (w : World) : Calls Tryz.prog 10 #[.int .i64 x] w (Ret (.agg #[.int .i64 3, .int .i64 (2 * x), .string ⟨#[]⟩, .slice none 0 0, .slice none 0 0, .slice none 0 0]) w) := by
  go_enter Tryz.func10, Tryz.ntmps10
  go_wp2_with fail
  go_returns
  exact ⟨rfl, by go_grown⟩

end Go.Proofs.YtnlndpgbhmkanaaGreatDoor.Va
