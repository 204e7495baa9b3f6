/-
  THE WALKS of the reference's call of flatten: with a depth; and Call itself.
-/
import Derived.Test.YtnlndpgbhmkanaaGreatDoorFbD
namespace Go.Proofs.YtnlndpgbhmkanaaGreatDoor.Va
open Go.RowKit
set_option linter.unusedVariables false
set_option linter.unusedSimpArgs false

set_option maxHeartbeats 1000000 in
theorem whole_any (h D : Int) (hh : h = 2 * D) (h0 : 0 ≤ D) (h1 : D ≤ 1000) (w : World) : Calls Tryz.prog 77 #[.agg #[.int .i64 3, .int .i64 h, .string ⟨#[]⟩, .slice none 0 0, .slice none 0 0, .slice none 0 0]] w (Ret (.tuple #[.int .i64 D, .bool true]) w) := by
  have e1 : h.tmod 2 = 0 := by subst hh; exact Int.mul_tmod_right 2 D
  have e2 : h / 2 = D := by omega
  have e3 : h.tdiv 2 = D := by rw [Int.tdiv_eq_ediv_of_nonneg (by omega)]; exact e2
  have e4 : h % 2 = 0 := by omega
  have hge : 0 ≤ h := by omega
  clear hh
  go_enter Tryz.func77, Tryz.ntmps77
  go_wp2_with fail
  go_returns
  exact ⟨by simp [e1, e2, e3], by go_grown⟩

section
variable (B : Nat) (l : List V) (n : Nat) (hn : l.length = n) (hsz : sizeL l ≤ 400) (a : Option Addr) (c : Nat) (w : World) (hl : RL w (fun b => b < B) l a) (hB : B ≤ w.heap.size)
include hn hsz hl hB

set_option maxHeartbeats 8000000 in
set_option maxRecDepth 100000 in
theorem along_flat (h D : Int) (hh : h = 2 * D) (h0 : 0 ≤ D) (h1 : D ≤ 500) : Calls Tryz.prog 35 #[.string ⟨#[102, 108, 97, 116, 116, 101, 110]⟩, .agg #[.int .i64 5, .int .i64 0, .string ⟨#[]⟩, .slice a n c, .slice none 0 0, .slice none 0 0], .agg #[.int .i64 3, .int .i64 h, .string ⟨#[]⟩, .slice none 0 0, .slice none 0 0, .slice none 0 0]] w (TupL B (flatL l D) w) := by
  have HL := Lib.hid hl
  have HN := Lib.hid hn
  have HH := Lib.hid hh
  clear hl hn hh
  go_enter Tryz.func35, Tryz.ntmps35
  go_wp2_with fail
  generalize hW : World.alloc (World.alloc (World.alloc w _) _) _ = W
  have b1 : Below w.heap.size w W := hW ▸ (by go_grown)
  have z4 : W.heap[w.heap.size]? = some (.cells #[.int .i64 5, .int .i64 0, .string ⟨#[]⟩, .slice a n c, .slice none 0 0, .slice none 0 0] 27 (0, 0)) := hW ▸ block_past (block_past (block_new w _ _) _) _
  have z : W.heap[w.heap.size + 2]? = some (.cells #[.int .i64 0, .int .i64 0, .string ⟨#[]⟩, .slice none 0 0, .slice none 0 0, .slice none 0 0] 27 (0, 0)) := hW ▸ (by have := block_top (w.alloc (.cells #[.int .i64 5, .int .i64 0, .string ⟨#[]⟩, .slice a n c, .slice none 0 0, .slice none 0 0] 27)) (.cells #[.int .i64 3, .int .i64 h, .string ⟨#[]⟩, .slice none 0 0, .slice none 0 0, .slice none 0 0] 27) #[.int .i64 0, .int .i64 0, .string ⟨#[]⟩, .slice none 0 0, .slice none 0 0, .slice none 0 0] (t := 27); rwa [World.size_alloc] at this)
  clear hW
  have hs1 := b1.size
  have hwlt := heap_lt z
  refine (whole_any h D HH.out h0 (by omega) W).mono ?_
  rintro e w1 ⟨rfl, hb1⟩
  have hs11 := hb1.size
  have HB1 := Lib.hid (b1.trans (hb1.mono hs1))
  have HZ4 := Lib.hid (keep hb1 z4)
  have HZ1 := Lib.hid (keep hb1 z)
  have hc4 := cells6 HZ4.out
  clear hb1 b1 z4 z
  go_wp2_with fail
  clear hc4
  refine (flatS_any 400 l D n HN.out hsz (by omega) (by omega) (by omega) (fun b => b < B) a c w1 (RL.mono (Same.of_below HB1.out fun b hb => by omega) (fun _ h => h) _ _ HL.out) (fun b hb => by omega)).mono ?_
  rintro e w2 ⟨ov, rfl, hr2, hb2⟩
  have hs2 := hb2.size
  obtain ⟨a2, c2, rfl, hrl⟩ := hr2.doneS (fun b hb => by omega)
  obtain ⟨n2, hn2⟩ : ∃ n2, (flatL l D).length = n2 := ⟨_, rfl⟩
  rw [hn2]
  have HN2 := Lib.hid hn2
  have HRL := Lib.hid hrl
  have HB2 := Lib.hid (HB1.out.trans (hb2.mono HB1.out.size))
  have HZ2 := Lib.hid (keep hb2 HZ1.out)
  clear hr2 hb2 hrl hn2
  go_wp2_with fail
  refine (sArray_any w2 a2 n2 c2).mono ?_
  rintro e w3 ⟨rfl, hb3⟩
  have hs3 := hb3.size
  have HB3 := Lib.hid (HB2.out.trans (hb3.mono HB2.out.size))
  have HRL3 := Lib.hid (RL.mono (Same.of_below hb3 fun b hb => hb.2) (fun _ h => h) _ _ HRL.out)
  have zz := cells6 (keep hb3 HZ2.out)
  clear hb3
  go_wp2_with fail
  refine bodyPost_ret (v := .tuple #[.agg #[.int .i64 5, .int .i64 0, .string ⟨#[]⟩, .slice a2 n2 c2, .slice none 0 0, .slice none 0 0], .int .i64 0]) (by simp [results, Tryz.results35, go_sem, *]) rfl ⟨a2, n2, c2, rfl, HN2.out, ?_, ?_⟩
  · refine RL.mono (fun b hb => sets_other _ _ _ _ _ _ (by have := hb.1; omega)) (fun b hb => ?_) _ _ HRL3.out
    have h1 := hb.1
    have h2 := hb.2
    simp only [World.size_setCell]
    omega
  · exact sets6 HB3.out (by omega) _ _ _ _ _ _

set_option maxHeartbeats 8000000 in
set_option maxRecDepth 100000 in
theorem call0_flat (hg : GoodL l) : Calls Tryz.prog 9 #[.string ⟨#[102, 108, 97, 116, 116, 101, 110]⟩, .agg #[.int .i64 5, .int .i64 0, .string ⟨#[]⟩, .slice a n c, .slice none 0 0, .slice none 0 0], .slice none 0 0] w (TupL B (flatL l (-1)) w) := by
  have HL := Lib.hid hl
  have HN := Lib.hid hn
  have HG := Lib.hid hg
  clear hl hn hg
  go_enter Tryz.func9, Tryz.ntmps9
  go_wp2_with fail
  generalize hW : World.alloc (World.alloc w _) _ = W
  have b1 : Below w.heap.size w W := hW ▸ (by go_grown)
  have z4 : W.heap[w.heap.size]? = some (.cells #[.int .i64 5, .int .i64 0, .string ⟨#[]⟩, .slice a n c, .slice none 0 0, .slice none 0 0] 27 (0, 0)) := hW ▸ block_past (block_new w _ _) _
  have z : W.heap[w.heap.size + 1]? = some (.cells #[.int .i64 0, .int .i64 0, .string ⟨#[]⟩, .slice none 0 0, .slice none 0 0, .slice none 0 0] 27 (0, 0)) := hW ▸ block_top w _ _
  clear hW
  have hs1 := b1.size
  have hwlt := heap_lt z
  have hlW := RL.mono (Same.of_below b1 fun b (hb : b < B) => by omega) (fun _ h => h) _ _ HL.out
  refine (vague_good 401 (mkL l) (by rw [size_mkL]; omega) (by omega) (good_mkL HG.out) _ (fun b => b < W.heap.size) W (kv_mkL hlW n c HN.out) (fun _ h => h)).mono ?_
  rintro e w1 ⟨rfl, hb1⟩
  have hs11 := hb1.size
  have HB1 := Lib.hid (b1.trans (hb1.mono hs1))
  have HZ4 := Lib.hid (keep hb1 z4)
  have HZ1 := Lib.hid (keep hb1 z)
  have HL1 := Lib.hid (RL.mono (Same.of_below hb1 fun b (hb : b < B) => by omega) (fun _ h => h) _ _ hlW)
  clear hb1 b1 z4 z hlW
  go_wp2_with fail
  refine (sArray_any w1 none 0 0).mono ?_
  rintro e w2 ⟨rfl, hb2⟩
  have hs2 := hb2.size
  have HB2 := Lib.hid (HB1.out.trans (hb2.mono HB1.out.size))
  have HZ42 := Lib.hid (keep hb2 HZ4.out)
  have HZ2 := Lib.hid (keep hb2 HZ1.out)
  have HL2 := Lib.hid (RL.mono (Same.of_below hb2 fun b (hb : b < B) => by omega) (fun _ h => h) _ _ HL1.out)
  clear hb2
  go_wp2_with fail
  refine (vague_good 401 (mkL []) (by rw [size_mkL, sizeL]; omega) (by omega) (good_mkL (by rw [GoodL]; trivial)) _ (fun b => b < w2.heap.size) w2 (kv_mkL (S := fun _ => False) (by rw [RL]; trivial) 0 0 rfl) (fun _ h => h)).mono ?_
  rintro e w3 ⟨rfl, hb3⟩
  have hs3 := hb3.size
  have HB3 := Lib.hid (HB2.out.trans (hb3.mono HB2.out.size))
  have HZ43 := Lib.hid (keep hb3 HZ42.out)
  have HZ3 := Lib.hid (keep hb3 HZ2.out)
  have HL3 := Lib.hid (RL.mono (Same.of_below hb3 fun b (hb : b < B) => by omega) (fun _ h => h) _ _ HL2.out)
  have hc4 := cells6 HZ43.out
  clear hb3
  go_wp2_with fail
  clear hc4
  refine (alone_flat B l n HN.out hsz a c w3 HL3.out (by omega)).mono ?_
  rintro e w4 ⟨a2, n2, c2, rfl, hn2, hrl, hb4⟩
  have hs4 := hb4.size
  have HN2 := Lib.hid hn2
  have HRL := Lib.hid hrl
  have HB4 := Lib.hid (HB3.out.trans (hb4.mono HB3.out.size))
  have zz := cells6 (keep hb4 HZ3.out)
  clear hb4 hrl hn2
  go_wp2_with fail
  refine bodyPost_ret (v := .tuple #[.agg #[.int .i64 5, .int .i64 0, .string ⟨#[]⟩, .slice a2 n2 c2, .slice none 0 0, .slice none 0 0], .int .i64 0]) (by simp [results, Tryz.results9, go_sem, *]) rfl ⟨a2, n2, c2, rfl, HN2.out, ?_, ?_⟩
  · refine RL.mono (fun b hb => sets_other _ _ _ _ _ _ (by have := hb.1; omega)) (fun b hb => ?_) _ _ HRL.out
    have h1 := hb.1
    have h2 := hb.2
    simp only [World.size_setCell]
    omega
  · exact sets6 HB4.out (Nat.le_succ _) _ _ _ _ _ _
end

end Go.Proofs.YtnlndpgbhmkanaaGreatDoor.Va
