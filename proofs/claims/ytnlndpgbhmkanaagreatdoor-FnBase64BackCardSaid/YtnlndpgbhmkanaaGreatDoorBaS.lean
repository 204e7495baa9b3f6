/-
  THE WALKS of spec.Str, text, FormatBase64 and FormatBase64D.
-/
import Derived.Test.YtnlndpgbhmkanaaGreatDoorBaE
import Derived.Test.YtnlndpgbhmkanaaGreatDoorVaX
import Derived.Test.YtnlndpgbhmkanaaGreatDoorVaW
import Derived.BigQuiet
namespace Go.Proofs.YtnlndpgbhmkanaaGreatDoor.Ba
open Go.RowKit Go.Proofs.YtnlndpgbhmkanaaGreatDoor.Va
set_option linter.unusedVariables false
set_option linter.unusedSimpArgs false

def strV (s : ByteArray) : V := .mk 4 0 s [] [] []
theorem rv_str (s : ByteArray) (w : World) (S : Nat → Prop) (la ka va : Option Addr) (lc kc vc : Nat) : RV w S (strV s) (.agg #[.int .i64 4, .int .i64 0, .string s, .slice la 0 lc, .slice ka 0 kc, .slice va 0 vc]) := by
  unfold strV
  rw [RV]
  exact ⟨la, lc, ka, kc, va, vc, rfl, by rw [RL]; trivial, trivial, by rw [RL]; trivial⟩
theorem rv_str_inv {s : ByteArray} {w : World} {S : Nat → Prop} {v : Value} (h : RV w S (strV s) v) : ∃ la lc ka kc va vc, v = .agg #[.int .i64 4, .int .i64 0, .string s, .slice la 0 lc, .slice ka 0 kc, .slice va 0 vc] := by
  unfold strV at h
  rw [RV] at h
  obtain ⟨la, lc, ka, kc, va, vc, e, _⟩ := h
  exact ⟨la, lc, ka, kc, va, vc, e⟩
theorem good_str (s : ByteArray) (h1 : s.size ≤ 2147483647) (h2 : Lib.validD s.data.toList = true) : Va.Good (strV s) := by
  unfold strV
  rw [Va.Good]
  exact ⟨⟨by omega, by omega, .inr rfl, .inl rfl, .inr rfl, .inr rfl, rfl, by omega, by omega, by omega, h1, (fun _ h => by cases h), h2, (fun _ h => by cases h)⟩, by rw [GoodL]; trivial, trivial, by rw [GoodL]; trivial⟩
theorem fg_str (s : ByteArray) : FG (strV s) := fun g S w hg _ => by
  unfold strV at hg ⊢
  rw [GV] at hg
  rcases hg with q | q | q | q | q | ⟨q, _⟩ | ⟨q, _⟩
  · omega
  · omega
  · omega
  · omega
  · rw [q.2]; exact fromGo_4 s w
  · omega
  · omega
theorem gv_str (s : ByteArray) (w : World) (S : Nat → Prop) : GV w S (strV s) (.iface 9 (.string s)) := by
  unfold strV
  rw [GV]
  exact .inr (.inr (.inr (.inr (.inl ⟨rfl, rfl⟩))))
theorem gv_str_inv {s : ByteArray} {w : World} {S : Nat → Prop} {g : Value} (hg : GV w S (strV s) g) : g = .iface 9 (.string s) := by
  unfold strV at hg
  rw [GV] at hg
  rcases hg with q | q | q | q | q | ⟨q, _⟩ | ⟨q, _⟩
  · omega
  · omega
  · omega
  · omega
  · exact q.2
  · omega
  · omega

set_option maxHeartbeats 400000 in
theorem mkStr_any (s : ByteArray) (w : World) : Calls Tryz.prog 21 #[.string s] w (Ret (flat 4 0 s) w) := by
  unfold flat
  go_enter Tryz.func21, Tryz.ntmps21
  go_wp2_with fail
  generalize hW : World.alloc w _ = W
  have b1 : Below w.heap.size w W := hW ▸ below_alloc w _
  have z := cells6 (hW ▸ block_new w _ _ : W.heap[w.heap.size]? = some (.cells #[.int .i64 4, .int .i64 0, .string s, .slice none 0 0, .slice none 0 0, .slice none 0 0] 27 (0, 0)))
  clear hW
  exact bodyPost_ret (v := .agg #[.int .i64 4, .int .i64 0, .string s, .slice none 0 0, .slice none 0 0, .slice none 0 0]) (by simp [results, Tryz.results21, go_sem, *]) rfl ⟨rfl, b1⟩
set_option maxHeartbeats 400000 in
theorem text_any (s : ByteArray) (la ka va : Option Addr) (lc kc vc : Nat) (w : World) : Calls Tryz.prog 19 #[.agg #[.int .i64 4, .int .i64 0, .string s, .slice la 0 lc, .slice ka 0 kc, .slice va 0 vc, .int .i64 0]] w (Ret (.tuple #[.string s, .bool true]) w) := by
  go_enter Tryz.func19, Tryz.ntmps19
  go_wp2_with fail
  generalize hW : World.alloc w _ = W
  have b1 := Lib.hid (hW ▸ below_alloc w _ : Below w.heap.size w W)
  have z := cells7 (hW ▸ block_new w _ _ : W.heap[w.heap.size]? = some (.cells #[.int .i64 4, .int .i64 0, .string s, .slice la 0 lc, .slice ka 0 kc, .slice va 0 vc, .int .i64 0] 35 (0, 0)))
  clear hW
  go_quiet (fail)
  go_wp2_with fail
  go_returns
  exact ⟨rfl, ⟨b1.out.os, b1.out.tape, b1.out.output, b1.out.size, b1.out.block⟩⟩
set_option maxHeartbeats 400000 in
theorem zzB64_any (s t : ByteArray) (H : ∀ w, Calls Tryz.prog 103 #[.iface 9 (.string s)] w (IfStr t w)) (w : World) : Calls Tryz.prog 50 #[.iface 9 (.string s)] w (IfStr t w) := by
  go_enter Tryz.func50, Tryz.ntmps50
  go_wp2_with fail
  refine (H w).mono ?_
  rintro e w1 ⟨rfl, hb1⟩
  have B1 := Lib.hid hb1
  clear hb1
  go_wp2_with fail
  go_returns
  exact ⟨rfl, B1.out⟩
set_option maxHeartbeats 400000 in
theorem zzB64D_any (s t : ByteArray) (H : ∀ w, Calls Tryz.prog 104 #[.iface 9 (.string s)] w (IfStr t w)) (w : World) : Calls Tryz.prog 51 #[.iface 9 (.string s)] w (IfStr t w) := by
  go_enter Tryz.func51, Tryz.ntmps51
  go_wp2_with fail
  refine (H w).mono ?_
  rintro e w1 ⟨rfl, hb1⟩
  have B1 := Lib.hid hb1
  clear hb1
  go_wp2_with fail
  go_returns
  exact ⟨rfl, B1.out⟩

set_option maxHeartbeats 2000000 in
theorem fmtB64_any (s t : ByteArray) (H : ∀ w, Calls Tryz.prog 103 #[.iface 9 (.string s)] w (IfStr t w)) (w : World) : Calls Tryz.prog 20 #[.agg #[.int .i64 4, .int .i64 0, .string s, .slice none 0 0, .slice none 0 0, .slice none 0 0]] w (Va.Result (strV t) w) := by
  have HZZ := Lib.hid (fun w1 => zzB64_any s t H w1)
  clear H
  go_enter Tryz.func20, Tryz.ntmps20
  go_wp2_with fail
  generalize hW : World.alloc (World.alloc w _) _ = W
  have b1 : Below w.heap.size w W := hW ▸ (by go_grown)
  have z : W.heap[w.heap.size + 1]? = some (.cells #[.int .i64 0, .int .i64 0, .string ⟨#[]⟩, .slice none 0 0, .slice none 0 0, .slice none 0 0, .int .i64 0] 35 (0, 0)) := hW ▸ (by have := block_new (w.alloc (.cells #[.int .i64 4, .int .i64 0, .string s, .slice none 0 0, .slice none 0 0, .slice none 0 0] 27)) #[.int .i64 0, .int .i64 0, .string ⟨#[]⟩, .slice none 0 0, .slice none 0 0, .slice none 0 0, .int .i64 0] 35; rwa [World.size_alloc] at this)
  clear hW
  have hs := b1.size
  refine (toGo_4 0 s [] [] [] none none none 0 0 0 0 0 0 W).mono ?_
  rintro e w2 ⟨g, rfl, hgv, hb2⟩
  obtain rfl := gv_str_inv hgv
  have HZ := Lib.hid (keep hb2 z)
  have HB := Lib.hid (b1.trans (hb2.mono b1.size))
  have hs2 := hb2.size
  have hwlt : w.heap.size + 1 < W.heap.size := heap_lt z
  clear hgv hb2 z b1
  go_wp2_with fail
  refine (HZZ.out _).mono ?_
  rintro e w3 ⟨rfl, hb3⟩
  have HZ3 := Lib.hid (keep hb3 HZ.out)
  have HB3 := Lib.hid (HB.out.trans (hb3.mono HB.out.size))
  have hs3 := hb3.size
  clear hb3
  have HRS := Lib.hid (result_any (strV t) (fg_str t) (.iface 9 (.string t)) (fun _ => False) w3 (gv_str t _ _) (fun b h => h.elim))
  go_wp2_with fail
  refine HRS.out.mono ?_
  rintro e w4 ⟨c0, c1, c2, c3, c4, c5, rfl, hv4, hb4⟩
  obtain ⟨la, lc, ka, kc, va, vc, e4⟩ := rv_str_inv hv4
  simp only [Value.agg.injEq, Array.mk.injEq, List.cons.injEq, and_true] at e4
  obtain ⟨rfl, rfl, rfl, rfl, rfl, rfl⟩ := e4
  have zz := cells7 (keep hb4 HZ3.out)
  have HB4 := Lib.hid (HB3.out.trans (hb4.mono HB3.out.size))
  clear hv4 hb4
  go_wp2_with fail
  refine bodyPost_ret (v := .agg #[.int .i64 4, .int .i64 0, .string t, .slice la 0 lc, .slice ka 0 kc, .slice va 0 vc, .int .i64 0]) (by simp [results, Tryz.results20, go_sem, *]) rfl ⟨_, _, _, _, _, _, rfl, rv_str _ _ _ _ _ _ _ _ _, ?_⟩
  exact sets7 HB4.out (Nat.le_succ _) _ _ _ _ _ _ _

set_option maxHeartbeats 2000000 in
theorem fmtB64D_any (s t : ByteArray) (H : ∀ w, Calls Tryz.prog 104 #[.iface 9 (.string s)] w (IfStr t w)) (w : World) : Calls Tryz.prog 23 #[.agg #[.int .i64 4, .int .i64 0, .string s, .slice none 0 0, .slice none 0 0, .slice none 0 0]] w (Va.Result (strV t) w) := by
  have HZZ := Lib.hid (fun w1 => zzB64D_any s t H w1)
  clear H
  go_enter Tryz.func23, Tryz.ntmps23
  go_wp2_with fail
  generalize hW : World.alloc (World.alloc w _) _ = W
  have b1 : Below w.heap.size w W := hW ▸ (by go_grown)
  have z : W.heap[w.heap.size + 1]? = some (.cells #[.int .i64 0, .int .i64 0, .string ⟨#[]⟩, .slice none 0 0, .slice none 0 0, .slice none 0 0, .int .i64 0] 35 (0, 0)) := hW ▸ (by have := block_new (w.alloc (.cells #[.int .i64 4, .int .i64 0, .string s, .slice none 0 0, .slice none 0 0, .slice none 0 0] 27)) #[.int .i64 0, .int .i64 0, .string ⟨#[]⟩, .slice none 0 0, .slice none 0 0, .slice none 0 0, .int .i64 0] 35; rwa [World.size_alloc] at this)
  clear hW
  have hs := b1.size
  refine (toGo_4 0 s [] [] [] none none none 0 0 0 0 0 0 W).mono ?_
  rintro e w2 ⟨g, rfl, hgv, hb2⟩
  obtain rfl := gv_str_inv hgv
  have HZ := Lib.hid (keep hb2 z)
  have HB := Lib.hid (b1.trans (hb2.mono b1.size))
  have hs2 := hb2.size
  have hwlt : w.heap.size + 1 < W.heap.size := heap_lt z
  clear hgv hb2 z b1
  go_wp2_with fail
  refine (HZZ.out _).mono ?_
  rintro e w3 ⟨rfl, hb3⟩
  have HZ3 := Lib.hid (keep hb3 HZ.out)
  have HB3 := Lib.hid (HB.out.trans (hb3.mono HB.out.size))
  have hs3 := hb3.size
  clear hb3
  have HRS := Lib.hid (result_any (strV t) (fg_str t) (.iface 9 (.string t)) (fun _ => False) w3 (gv_str t _ _) (fun b h => h.elim))
  go_wp2_with fail
  refine HRS.out.mono ?_
  rintro e w4 ⟨c0, c1, c2, c3, c4, c5, rfl, hv4, hb4⟩
  obtain ⟨la, lc, ka, kc, va, vc, e4⟩ := rv_str_inv hv4
  simp only [Value.agg.injEq, Array.mk.injEq, List.cons.injEq, and_true] at e4
  obtain ⟨rfl, rfl, rfl, rfl, rfl, rfl⟩ := e4
  have zz := cells7 (keep hb4 HZ3.out)
  have HB4 := Lib.hid (HB3.out.trans (hb4.mono HB3.out.size))
  clear hv4 hb4
  go_wp2_with fail
  refine bodyPost_ret (v := .agg #[.int .i64 4, .int .i64 0, .string t, .slice la 0 lc, .slice ka 0 kc, .slice va 0 vc, .int .i64 0]) (by simp [results, Tryz.results23, go_sem, *]) rfl ⟨_, _, _, _, _, _, rfl, rv_str _ _ _ _ _ _ _ _ _, ?_⟩
  exact sets7 HB4.out (Nat.le_succ _) _ _ _ _ _ _ _
end Go.Proofs.YtnlndpgbhmkanaaGreatDoor.Ba
