/-
  THE WALKS for ltrimstr: strings as values of the program and back.
-/
import Derived.Test.YtnlndpgbhmkanaaDoorRows
import Derived.WalkKit
import Derived.WalkSpells
import Derived.WalkLawsBesides
import Derived.Deep.QuietTactic
import Derived.BigQuiet
import Derived.Handy
import Derived.Lib.Hide
import Derived.Deep.DeepCutAuto
import Derived.Test.YtnlndpgbhmkanaaDoorTa
namespace Go.Proofs.YtnlndpgbhmkanaaDoor.Lt
open Go.RowKit
set_option linter.unusedVariables false
set_option linter.unusedSimpArgs false

/-- a string as a value of the thin package -/
def txt (s : ByteArray) : Value := .agg #[.int .i64 4, .int .i64 0, .string s, .slice none 0 0, .slice none 0 0, .slice none 0 0]
def Ret (v : Value) (w : World) (e : Ending) (w' : World) : Prop := e = .returned v ∧ Below w.heap.size w w'

set_option maxHeartbeats 400000 in
theorem str_any (s : ByteArray) (w : World) : Calls Tryd.prog 14 #[.string s] w (Ret (txt s) w) := by
  go_enter Tryd.func14, Tryd.ntmps14
  go_wp2
  go_returns
  exact ⟨rfl, by go_grown⟩

set_option maxHeartbeats 400000 in
theorem toGo_txt (s : ByteArray) (w : World) : Calls Tryd.prog 29 #[txt s] w (Ret (.tuple #[.iface 9 (.string s), .bool true]) w) := by
  unfold txt
  go_enter Tryd.func29, Tryd.ntmps29
  go_wp2
  go_returns
  exact ⟨rfl, by go_grown⟩

set_option maxHeartbeats 400000 in
set_option maxRecDepth 100000 in
theorem fromGo_txt (s : ByteArray) (w : World) : Calls Tryd.prog 39 #[.iface 9 (.string s)] w (Ret (.tuple #[txt s, .bool true]) w) := by
  unfold txt
  go_enter Tryd.func39, Tryd.ntmps39
  go_wp2
  go_returns
  exact ⟨rfl, by go_grown⟩


/-- does t stand at the beginning of s? -/
def beg (s t : ByteArray) : Bool := if t.size ≤ s.size then (s.extract 0 t.size).toList == t.toList else false

theorem begins_any (s t : ByteArray) (hs : s.size ≤ 2147483647) (ht : t.size ≤ 2147483647) (w : World) : Calls Tryd.prog 31 #[.string s, .string t] w fun e w' => e = .returned (.bool (beg s t)) ∧ w = w' := by
  unfold beg
  by_cases h : t.size ≤ s.size
  · go_enter Tryd.func31, Tryd.ntmps31
    go_wp2
    go_returns
    exact ⟨by simp [h], rfl⟩
  · go_enter Tryd.func31, Tryd.ntmps31
    go_wp2
    go_returns
    exact ⟨by simp [h], rfl⟩

theorem hasPrefix_any (s t : ByteArray) (hs : s.size ≤ 2147483647) (ht : t.size ≤ 2147483647) (w : World) : Calls Tryd.prog 68 #[.string s, .string t] w fun e w' => e = .returned (.bool (beg s t)) ∧ w = w' := by
  unfold beg
  by_cases h : t.size ≤ s.size
  · go_enter Tryd.func68, Tryd.ntmps68
    go_wp2
    go_returns
    exact ⟨by simp [h], rfl⟩
  · go_enter Tryd.func68, Tryd.ntmps68
    go_wp2
    go_returns
    exact ⟨by simp [h], rfl⟩

/-- s without t at its beginning -/
def cut (s t : ByteArray) : ByteArray := if beg s t then s.extract t.size s.size else s
theorem beg_le {s t : ByteArray} (h : beg s t = true) : t.size ≤ s.size := by
  unfold beg at h; split at h
  · assumption
  · cases h

theorem trim1_any (s t : ByteArray) (hs : s.size ≤ 2147483647) (ht : t.size ≤ 2147483647) (w : World) : Calls Tryd.prog 66 #[.string s, .string t] w fun e w' => e = .returned (.string (cut s t)) ∧ w = w' := by
  unfold cut
  obtain ⟨b, hb⟩ : ∃ b, Hid (beg s t = b) := ⟨_, Lib.hid rfl⟩
  rw [hb.out]
  cases b
  · go_enter Tryd.func66, Tryd.ntmps66
    go_wp2_with fail
    refine (hasPrefix_any s t hs ht _).mono ?_
    rintro e w' ⟨rfl, rfl⟩
    rw [hb.out]
    go_wp2_with fail
    go_returns
    exact ⟨rfl, rfl⟩
  · have hle := beg_le hb.out
    go_enter Tryd.func66, Tryd.ntmps66
    go_wp2_with fail
    refine (hasPrefix_any s t hs ht _).mono ?_
    rintro e w' ⟨rfl, rfl⟩
    rw [hb.out]
    go_wp2_with fail
    go_returns
    exact ⟨rfl, rfl⟩

theorem trim2_any (s t : ByteArray) (hs : s.size ≤ 2147483647) (ht : t.size ≤ 2147483647) (w : World) : Calls Tryd.prog 58 #[.string s, .string t] w fun e w' => e = .returned (.string (cut s t)) ∧ w = w' := by
  go_enter Tryd.func58, Tryd.ntmps58
  go_wp2_with fail
  refine (trim1_any s t hs ht _).mono ?_
  rintro e w' ⟨rfl, rfl⟩
  go_wp2_with fail
  go_returns
  exact ⟨rfl, rfl⟩

theorem funcLtrim_any (s t : ByteArray) (hs : s.size ≤ 2147483647) (ht : t.size ≤ 2147483647) (w : World) : Calls Tryd.prog 44 #[.iface 9 (.string s), .iface 9 (.string t)] w fun e w' => e = .returned (.iface 9 (.string (cut s t))) ∧ w = w' := by
  go_enter Tryd.func44, Tryd.ntmps44
  go_wp2_with fail
  refine (trim2_any s t hs ht _).mono ?_
  rintro e w' ⟨rfl, rfl⟩
  go_wp2_with fail
  go_returns
  exact ⟨rfl, rfl⟩

theorem zzLtrim_any (s t : ByteArray) (hs : s.size ≤ 2147483647) (ht : t.size ≤ 2147483647) (w : World) : Calls Tryd.prog 30 #[.iface 9 (.string s), .iface 9 (.string t)] w fun e w' => e = .returned (.iface 9 (.string (cut s t))) ∧ w = w' := by
  go_enter Tryd.func30, Tryd.ntmps30
  go_wp2_with fail
  refine (funcLtrim_any s t hs ht _).mono ?_
  rintro e w' ⟨rfl, rfl⟩
  go_wp2_with fail
  go_returns
  exact ⟨rfl, rfl⟩

theorem shortened_any (s t : ByteArray) (hs : s.size ≤ 2147483647) (ht : t.size ≤ 2147483647) (w : World) : Calls Tryd.prog 15 #[.string s, .string t, .bool true, .bool false] w fun e w' => e = .returned (.string (cut s t)) ∧ w = w' := by
  unfold cut
  obtain ⟨b, hb⟩ : ∃ b, Hid (beg s t = b) := ⟨_, Lib.hid rfl⟩
  rw [hb.out]
  cases b
  · go_enter Tryd.func15, Tryd.ntmps15
    go_wp2_with fail
    refine (begins_any s t hs ht _).mono ?_
    rintro e w' ⟨rfl, rfl⟩
    rw [hb.out]
    go_wp2_with fail
    go_returns
    exact ⟨rfl, rfl⟩
  · have hle := beg_le hb.out
    go_enter Tryd.func15, Tryd.ntmps15
    go_wp2_with fail
    refine (begins_any s t hs ht _).mono ?_
    rintro e w' ⟨rfl, rfl⟩
    rw [hb.out]
    go_wp2_with fail
    go_returns
    exact ⟨rfl, rfl⟩

theorem cell_of {w : World} {b : Nat} {cs : Array Value} {t : TypeId} {fz : Nat × Nat} (h : w.heap[b]? = some (.cells cs t fz)) (j : Nat) {v : Value} (hj : cs[j]? = some v) : w.cell? ⟨b, j, none⟩ = some v := by
  simp [World.cell?, h, hj]
theorem free_of {w : World} {b : Nat} {cs : Array Value} {t : TypeId} (h : w.heap[b]? = some (.cells cs t (0, 0))) (j : Nat) : w.frozen? ⟨b, j, none⟩ = false := by
  simp [World.frozen?, h]
theorem block_new (w : World) (cs : Array Value) (t : TypeId) : (w.alloc (.cells cs t)).heap[w.heap.size]? = some (.cells cs t (0, 0)) := heap_alloc_new w _
theorem block_past {w : World} {b : Nat} {o : Obj} (h : w.heap[b]? = some o) (o' : Obj) : (w.alloc o').heap[b]? = some o := by
  have hb : b < w.heap.size := by
    rcases Nat.lt_or_ge b w.heap.size with h' | h'
    · exact h'
    · rw [Array.getElem?_eq_none h'] at h; cases h
  rw [Below.heap_alloc w o' b hb, h]
theorem cells6 {w : World} {b : Nat} {a0 a1 a2 a3 a4 a5 : Value} {t : TypeId} (h : w.heap[b]? = some (.cells #[a0, a1, a2, a3, a4, a5] t (0, 0))) :
    (w.cell? ⟨b, 0, none⟩ = some a0 ∧ w.cell? ⟨b, 1, none⟩ = some a1 ∧ w.cell? ⟨b, 2, none⟩ = some a2 ∧ w.cell? ⟨b, 3, none⟩ = some a3 ∧ w.cell? ⟨b, 4, none⟩ = some a4 ∧ w.cell? ⟨b, 5, none⟩ = some a5) ∧
    w.frozen? ⟨b, 0, none⟩ = false ∧ w.frozen? ⟨b, 1, none⟩ = false ∧ w.frozen? ⟨b, 2, none⟩ = false ∧ w.frozen? ⟨b, 3, none⟩ = false ∧ w.frozen? ⟨b, 4, none⟩ = false ∧ w.frozen? ⟨b, 5, none⟩ = false :=
  ⟨⟨cell_of h 0 rfl, cell_of h 1 rfl, cell_of h 2 rfl, cell_of h 3 rfl, cell_of h 4 rfl, cell_of h 5 rfl⟩, free_of h 0, free_of h 1, free_of h 2, free_of h 3, free_of h 4, free_of h 5⟩
theorem cells7 {w : World} {b : Nat} {a0 a1 a2 a3 a4 a5 a6 : Value} {t : TypeId} (h : w.heap[b]? = some (.cells #[a0, a1, a2, a3, a4, a5, a6] t (0, 0))) :
    (w.cell? ⟨b, 0, none⟩ = some a0 ∧ w.cell? ⟨b, 1, none⟩ = some a1 ∧ w.cell? ⟨b, 2, none⟩ = some a2 ∧ w.cell? ⟨b, 3, none⟩ = some a3 ∧ w.cell? ⟨b, 4, none⟩ = some a4 ∧ w.cell? ⟨b, 5, none⟩ = some a5 ∧ w.cell? ⟨b, 6, none⟩ = some a6) ∧
    w.frozen? ⟨b, 0, none⟩ = false ∧ w.frozen? ⟨b, 1, none⟩ = false ∧ w.frozen? ⟨b, 2, none⟩ = false ∧ w.frozen? ⟨b, 3, none⟩ = false ∧ w.frozen? ⟨b, 4, none⟩ = false ∧ w.frozen? ⟨b, 5, none⟩ = false ∧ w.frozen? ⟨b, 6, none⟩ = false :=
  ⟨⟨cell_of h 0 rfl, cell_of h 1 rfl, cell_of h 2 rfl, cell_of h 3 rfl, cell_of h 4 rfl, cell_of h 5 rfl, cell_of h 6 rfl⟩, free_of h 0, free_of h 1, free_of h 2, free_of h 3, free_of h 4, free_of h 5, free_of h 6⟩
theorem sets7 {B b : Nat} {w0 w : World} (h : Below B w0 w) (hb : B ≤ b) (v0 v1 v2 v3 v4 v5 v6 : Value) :
    Below B w0 (((((((w.setCell ⟨b, 0, none⟩ v0).setCell ⟨b, 1, none⟩ v1).setCell ⟨b, 2, none⟩ v2).setCell ⟨b, 3, none⟩ v3).setCell ⟨b, 4, none⟩ v4).setCell ⟨b, 5, none⟩ v5).setCell ⟨b, 6, none⟩ v6) :=
  ((((((h.setCell hb _).setCell hb _).setCell hb _).setCell hb _).setCell hb _).setCell hb _).setCell hb _
theorem sets6 {B b : Nat} {w0 w : World} (h : Below B w0 w) (hb : B ≤ b) (v0 v1 v2 v3 v4 v5 : Value) :
    Below B w0 ((((((w.setCell ⟨b, 0, none⟩ v0).setCell ⟨b, 1, none⟩ v1).setCell ⟨b, 2, none⟩ v2).setCell ⟨b, 3, none⟩ v3).setCell ⟨b, 4, none⟩ v4).setCell ⟨b, 5, none⟩ v5) :=
  (((((h.setCell hb _).setCell hb _).setCell hb _).setCell hb _).setCell hb _).setCell hb _
/-- an answer that is a string -/
def resTxt (s : ByteArray) : Value := .agg #[.int .i64 4, .int .i64 0, .string s, .slice none 0 0, .slice none 0 0, .slice none 0 0, .int .i64 0]

set_option maxHeartbeats 400000 in
theorem result_txt (s : ByteArray) (w : World) : Calls Tryd.prog 25 #[.iface 9 (.string s)] w (Ret (resTxt s) w) := by
  unfold resTxt
  go_enter Tryd.func25, Tryd.ntmps25
  go_wp2_with fail
  refine (fromGo_txt s _).mono ?_
  rintro e w1 ⟨rfl, hb⟩
  have hB := (hb.block w.heap.size (by simp)).trans (block_new w _ _)
  have HB := Lib.hid ((((Below.refl w.heap.size w).alloc (Nat.le_refl _) _).trans (hb.mono (by simp))))
  clear hb
  unfold txt
  go_upto_region 5 with fail
  generalize hw2 : World.alloc w1 _ = w2
  have hB2 := block_past hB (.cells #[.int .i64 4, .int .i64 0, .string s, .slice none 0 0, .slice none 0 0, .slice none 0 0] 26)
  have hN2 := block_new w1 #[.int .i64 4, .int .i64 0, .string s, .slice none 0 0, .slice none 0 0, .slice none 0 0] 26
  rw [hw2] at hB2 hN2
  have HB2 := Lib.hid (HB.out.alloc (Below.size HB.out) (.cells #[.int .i64 4, .int .i64 0, .string s, .slice none 0 0, .slice none 0 0, .slice none 0 0] 26))
  rw [hw2] at HB2
  clear HB hB hw2
  have hB3 := cells7 hB2
  have hN3 := cells6 hN2
  clear hB2 hN2
  go_wp2_with fail
  refine bodyPost_ret (v := resTxt s) (by simp [results, Tryd.results25, go_sem, resTxt, *]) rfl ⟨rfl, ?_⟩
  exact sets7 HB2.out (Nat.le_refl _) _ _ _ _ _ _ _

theorem blk {B : Nat} {w w' : World} (h : Below B w w') {b : Nat} (hb : b < B) {o : Obj} (k : w.heap[b]? = some o) : w'.heap[b]? = some o := (h.block b hb).trans k
theorem lt_of_blk {w : World} {b : Nat} {o : Obj} (h : w.heap[b]? = some o) : b < w.heap.size := by
  rcases Nat.lt_or_ge b w.heap.size with h' | h'
  · exact h'
  · rw [Array.getElem?_eq_none h'] at h; cases h
/-- a contract's world holds the blocks that were there -/
theorem keep {w w' : World} (h : Below w.heap.size w w') {b : Nat} {o : Obj} (k : w.heap[b]? = some o) : w'.heap[b]? = some o := blk h (lt_of_blk k) k
theorem blocks3 (w : World) (A B C : Obj) : ((((w.alloc A).alloc B).alloc C).heap[w.heap.size]? = some A ∧ (((w.alloc A).alloc B).alloc C).heap[w.heap.size + 1]? = some B ∧ (((w.alloc A).alloc B).alloc C).heap[w.heap.size + 1 + 1]? = some C) ∧ Below w.heap.size w (((w.alloc A).alloc B).alloc C) := by
  have h2 := heap_alloc_new (w.alloc A) B
  have h3 := heap_alloc_new ((w.alloc A).alloc B) C
  rw [World.size_alloc] at h2
  rw [World.size_alloc, World.size_alloc] at h3
  exact ⟨⟨block_past (block_past (heap_alloc_new w A) _) _, block_past h2 _, h3⟩, by go_grown⟩

set_option maxHeartbeats 400000 in
theorem ltrim_any (s t : ByteArray) (hs : s.size ≤ 2147483647) (ht : t.size ≤ 2147483647) (w : World) : Calls Tryd.prog 13 #[txt s, txt t] w (Ret (resTxt (cut s t)) w) := by
  have U1 := Lib.hid (show txt s = .agg #[.int .i64 4, .int .i64 0, .string s, .slice none 0 0, .slice none 0 0, .slice none 0 0] from rfl)
  have U2 := Lib.hid (show txt t = .agg #[.int .i64 4, .int .i64 0, .string t, .slice none 0 0, .slice none 0 0, .slice none 0 0] from rfl)
  rw [U1.out, U2.out]
  go_enter Tryd.func13, Tryd.ntmps13
  go_wp2_with fail
  have Z := blocks3 w (.cells #[.int .i64 4, .int .i64 0, .string s, .slice none 0 0, .slice none 0 0, .slice none 0 0] 26) (.cells #[.int .i64 4, .int .i64 0, .string t, .slice none 0 0, .slice none 0 0, .slice none 0 0] 26) (.cells #[.int .i64 0, .int .i64 0, .string ⟨#[]⟩, .slice none 0 0, .slice none 0 0, .slice none 0 0, .int .i64 0] 30)
  generalize hW : World.alloc (World.alloc (World.alloc w _) _) _ = W
  rw [hW] at Z
  clear hW
  obtain ⟨⟨_, z1, z2⟩, z3⟩ := Z
  rw [← U1.out]
  refine (toGo_txt s _).mono ?_
  rintro e w1 ⟨rfl, hb1⟩
  have y1 := keep hb1 z1
  have y2 := keep hb1 z2
  have y3 := Lib.hid (z3.trans (hb1.mono z3.size))
  clear z1 z2 z3 hb1
  have cy := cells6 y1
  go_wp2_with fail
  rw [← U2.out]
  refine (toGo_txt t _).mono ?_
  rintro e w2 ⟨rfl, hb2⟩
  have x2 := keep hb2 y2
  have x3 := Lib.hid (y3.out.trans (hb2.mono y3.out.size))
  clear y1 y2 y3 hb2 cy
  go_wp2_with fail
  refine (zzLtrim_any s t hs ht _).mono ?_
  rintro e w' ⟨rfl, rfl⟩
  go_wp2_with fail
  refine (result_txt _ _).mono ?_
  rintro e w3 ⟨rfl, hb3⟩
  have v2 := keep hb3 x2
  have v3 := Lib.hid (x3.out.trans (hb3.mono x3.out.size))
  clear x2 x3 hb3
  have cv := cells7 v2
  clear v2
  unfold resTxt
  go_wp2_with fail
  refine bodyPost_ret (v := resTxt (cut s t)) (by simp [results, Tryd.results13, go_sem, resTxt, *]) rfl ⟨rfl, ?_⟩
  exact sets7 v3.out (by omega) _ _ _ _ _ _ _

end Go.Proofs.YtnlndpgbhmkanaaDoor.Lt
