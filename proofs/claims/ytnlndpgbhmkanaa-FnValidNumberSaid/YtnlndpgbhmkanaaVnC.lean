/-
  THE WALKS of newLexer, validNumber and the doors over them: tonumber's check of a text is the plain function 'vn'.
-/
import Derived.Test.YtnlndpgbhmkanaaVnB
import Derived.Deep.RegionWith
namespace Go.Proofs.Ytnlndpgbhmkanaa.Vn
open Go.RowKit

set_option maxHeartbeats 400000 in
theorem newLexer_any (s : ByteArray) (w : World) :
    Calls Try.prog 23 #[.string s] w fun e w' => e = .returned (.pointer (some ⟨w.heap.size, 0, none⟩)) ∧ LexAt w.heap.size s 0 w' ∧ Below w.heap.size w w' := by
  go_enter Try.func23, Try.ntmps23
  go_wp2
  go_ret
  exact ⟨rfl, ⟨by go_cell, by go_cell, by go_cell⟩, (Below.refl _ _).alloc (Nat.le_refl _) _⟩

theorem isNumber_is (c : Int) (x : Bool) (h : isNum c = x) (w : World) : Calls Try.prog 29 #[.int .u8 c] w fun e w' => e = .returned (.bool x) ∧ w' = w :=
  (isNumber_any c w).mono fun _ _ k => ⟨by rw [k.1, h], k.2.symm⟩

theorem LexAt.drawn {b : Nat} {s : ByteArray} {k : Nat} {w w' : World} (h : LexAt b s k w) (hd : Drawn w w') : LexAt b s k w' := by
  obtain ⟨n, rfl⟩ := hd
  exact h.drewN n
theorem below_drawn {B : Nat} {a w w' : World} (h : Below B a w) (hd : Drawn w w') : Below B a w' := by
  obtain ⟨n, rfl⟩ := hd
  exact below_drewN' h n

def VnEnd (b : Nat) (s : ByteArray) (w : World) (e : Ending) (w' : World) : Prop := e = .returned (.bool (vn s.data.toList)) ∧ Below b w w'
theorem vnEnd_of {b : Nat} {s : ByteArray} {w w' : World} {x : Bool} (hb : Below b w w') (h : vn s.data.toList = x) : VnEnd b s w (.returned (.bool x)) w' := ⟨by rw [h], hb⟩
theorem list_cons (s : ByteArray) (h : 0 < s.size) : s.data.toList = s[0] :: s.data.toList.drop 1 := drop_cons s 0 h

theorem vn_plain (s : ByteArray) (h : 0 < s.size) (c : Int) (hc : Hid (cI s[0] = c)) (hs : Hid (isSign c = false)) : vn s.data.toList = vnRest (s.data.toList.drop 0) := by
  unfold vn
  rw [list_cons s h]
  simp [dropSign, hc.out, hs.out]
theorem vn_signed (s : ByteArray) (h : 0 < s.size) (c : Int) (hc : Hid (cI s[0] = c)) (hs : Hid (isSign c = true)) : vn s.data.toList = vnRest (s.data.toList.drop 1) := by
  unfold vn
  rw [list_cons s h]
  simp [dropSign, hc.out, hs.out]
theorem vn_empty (s : ByteArray) (h : s.size ≤ 0) : vn s.data.toList = false := by
  have e : s.data.toList = [] := drop_end s 0 h
  rw [e]; rfl
theorem rest_end (s : ByteArray) (k : Nat) (h : s.size ≤ k) : vnRest (s.data.toList.drop k) = false := by rw [drop_end s k h]; rfl
theorem rest_num (s : ByteArray) (k : Nat) (h : k < s.size) (c : Int) (hc : Hid (cI s[k] = c)) (h46 : (c == 46) = false) (hn : isNum c = true) : vnRest (s.data.toList.drop k) = acc 0 (s.data.toList.drop k) := by
  rw [drop_cons s k h]; simp [vnRest, acc, hc.out, h46, hn]
theorem rest_not (s : ByteArray) (k : Nat) (h : k < s.size) (c : Int) (hc : Hid (cI s[k] = c)) (h46 : (c == 46) = false) (hn : isNum c = false) : vnRest (s.data.toList.drop k) = false := by
  rw [drop_cons s k h]; simp [vnRest, hc.out, h46, hn]
theorem rest_dotend (s : ByteArray) (k : Nat) (h : k < s.size) (c : Int) (hc : Hid (cI s[k] = c)) (h46 : (c == 46) = true) (h1 : s.size ≤ k + 1) : vnRest (s.data.toList.drop k) = false := by
  rw [drop_cons s k h, drop_end s (k + 1) h1]; simp [vnRest, hc.out, h46]
theorem rest_dotnum (s : ByteArray) (k : Nat) (h : k < s.size) (c : Int) (hc : Hid (cI s[k] = c)) (h46 : (c == 46) = true) (h1 : k + 1 < s.size) (d : Int) (hd : Hid (cI s[k + 1] = d)) (hn : isNum d = true) : vnRest (s.data.toList.drop k) = acc 1 (s.data.toList.drop (k + 1)) := by
  rw [drop_cons s k h, drop_cons s (k + 1) h1]; simp [vnRest, acc, hc.out, h46, hd.out, hn]
theorem rest_dotnot (s : ByteArray) (k : Nat) (h : k < s.size) (c : Int) (hc : Hid (cI s[k] = c)) (h46 : (c == 46) = true) (h1 : k + 1 < s.size) (d : Int) (hd : Hid (cI s[k + 1] = d)) (hn : isNum d = false) : vnRest (s.data.toList.drop k) = false := by
  rw [drop_cons s k h, drop_cons s (k + 1) h1]; simp [vnRest, hc.out, h46, hd.out, hn]

set_option maxHeartbeats 2000000 in
set_option maxRecDepth 100000 in
theorem vn0_end (b : Nat) (s : ByteArray) (hs : s.size ≤ 2147483647) (w : World) (hl0 : LexAt b s 0 w) (h0 : s.size ≤ 0) :
    Calls Try.prog 24 #[.pointer (some ⟨b, 0, none⟩)] w (VnEnd b s w) := by
  have hc0 := hl0.src
  have hc1 : w.cell? ⟨b, 1, none⟩ = some (.int .i64 0) := hl0.off
  have hcf := hl0.free
  have hb0 := Below.refl b w
  have hz : isNum 0 = false := rfl
  go_enter Try.func24, Try.ntmps24
  go_wp2_with fail
  refine (peek_end b s 0 (by omega) (by omega) _ (by go_cell) (by go_cell)).mono ?_
  rintro e w1 ⟨rfl, hd1⟩
  have hl1 : LexAt b s 0 w1 := hl0.drawn hd1
  have hb1 : Below b w w1 := below_drawn hb0 hd1
  clear hd1
  clear hc0 hc1 hcf
  have hc0 := hl1.src
  have hc1 : w1.cell? ⟨b, 1, none⟩ = some (.int .i64 0) := hl1.off
  have hcf := hl1.free
  go_wp2_with fail
  go_quiet ((go_at_call 29; exact Calls.quiet_of_same (isNumber_is 0 false (by assumption) _)))
  go_wp2
  go_ret
  exact vnEnd_of (below_drewN' hb1 _) (by rw [vn_empty s h0])

set_option maxHeartbeats 2000000 in
set_option maxRecDepth 100000 in
theorem vn0_num (b : Nat) (s : ByteArray) (hs : s.size ≤ 2147483647) (w : World) (hl0 : LexAt b s 0 w) (c : Int) (h0 : 0 < s.size) (hc_0 : Hid (cI s[0] = c)) (hsg : Hid (isSign c = false)) (h43 : (c == 43) = false) (h45 : (c == 45) = false) (h46 : (c == 46) = false) (hn : isNum c = true) :
    Calls Try.prog 24 #[.pointer (some ⟨b, 0, none⟩)] w (VnEnd b s w) := by
  have hc0 := hl0.src
  have hc1 : w.cell? ⟨b, 1, none⟩ = some (.int .i64 0) := hl0.off
  have hcf := hl0.free
  have hb0 := Below.refl b w
  have hz : isNum 0 = false := rfl
  go_enter Try.func24, Try.ntmps24
  go_wp2_with fail
  refine (peek_at b s 0 c h0 hc_0 hs _ (by go_cell) (by go_cell)).mono ?_
  rintro e w1 ⟨rfl, hd1⟩
  have hl1 : LexAt b s 0 w1 := hl0.drawn hd1
  have hb1 : Below b w w1 := below_drawn hb0 hd1
  clear hd1
  clear hc0 hc1 hcf
  have hc0 := hl1.src
  have hc1 : w1.cell? ⟨b, 1, none⟩ = some (.int .i64 0) := hl1.off
  have hcf := hl1.free
  go_wp2_with fail
  go_region_with (first | (go_at_call 29; refine (isNumber_any c _).mono ?_; rintro e w' ⟨rfl, rfl⟩) | (go_at_call 30; refine (scan_any b s 0 0 (by omega) hs (by omega) _ ⟨by go_cell, by go_cell, by go_cell⟩).mono ?_; rintro e w' ⟨n, rfl, hn0, ⟨k2, hl9⟩, hb9⟩; have hn2 := Lib.hid hn0; clear hn0; have hsrc9 := hl9.src))
  all_goals
    go_wp2
    go_ret
    exact vnEnd_of ((below_drewN' hb1 1).trans hb9) (by rw [vn_plain s h0 _ hc_0 hsg, rest_num s 0 h0 _ hc_0 h46 hn, ← hn2.out])

set_option maxHeartbeats 2000000 in
set_option maxRecDepth 100000 in
theorem vn0_not (b : Nat) (s : ByteArray) (hs : s.size ≤ 2147483647) (w : World) (hl0 : LexAt b s 0 w) (c : Int) (h0 : 0 < s.size) (hc_0 : Hid (cI s[0] = c)) (hsg : Hid (isSign c = false)) (h43 : (c == 43) = false) (h45 : (c == 45) = false) (h46 : (c == 46) = false) (hn : isNum c = false) :
    Calls Try.prog 24 #[.pointer (some ⟨b, 0, none⟩)] w (VnEnd b s w) := by
  have hc0 := hl0.src
  have hc1 : w.cell? ⟨b, 1, none⟩ = some (.int .i64 0) := hl0.off
  have hcf := hl0.free
  have hb0 := Below.refl b w
  have hz : isNum 0 = false := rfl
  go_enter Try.func24, Try.ntmps24
  go_wp2_with fail
  refine (peek_at b s 0 c h0 hc_0 hs _ (by go_cell) (by go_cell)).mono ?_
  rintro e w1 ⟨rfl, hd1⟩
  have hl1 : LexAt b s 0 w1 := hl0.drawn hd1
  have hb1 : Below b w w1 := below_drawn hb0 hd1
  clear hd1
  clear hc0 hc1 hcf
  have hc0 := hl1.src
  have hc1 : w1.cell? ⟨b, 1, none⟩ = some (.int .i64 0) := hl1.off
  have hcf := hl1.free
  go_wp2_with fail
  go_quiet ((go_at_call 29; exact Calls.quiet_of_same (isNumber_is c false (by assumption) _)))
  go_wp2
  go_ret
  exact vnEnd_of (below_drewN' hb1 _) (by rw [vn_plain s h0 _ hc_0 hsg, rest_not s 0 h0 _ hc_0 h46 hn])

set_option maxHeartbeats 2000000 in
set_option maxRecDepth 100000 in
theorem vn0_dotend (b : Nat) (s : ByteArray) (hs : s.size ≤ 2147483647) (w : World) (hl0 : LexAt b s 0 w) (c : Int) (h0 : 0 < s.size) (hc_0 : Hid (cI s[0] = c)) (hsg : Hid (isSign c = false)) (h43 : (c == 43) = false) (h45 : (c == 45) = false) (h46 : (c == 46) = true) (h1 : s.size ≤ 1) :
    Calls Try.prog 24 #[.pointer (some ⟨b, 0, none⟩)] w (VnEnd b s w) := by
  have hc0 := hl0.src
  have hc1 : w.cell? ⟨b, 1, none⟩ = some (.int .i64 0) := hl0.off
  have hcf := hl0.free
  have hb0 := Below.refl b w
  have hz : isNum 0 = false := rfl
  go_enter Try.func24, Try.ntmps24
  go_wp2_with fail
  refine (peek_at b s 0 c h0 hc_0 hs _ (by go_cell) (by go_cell)).mono ?_
  rintro e w1 ⟨rfl, hd1⟩
  have hl1 : LexAt b s 0 w1 := hl0.drawn hd1
  have hb1 : Below b w w1 := below_drawn hb0 hd1
  clear hd1
  clear hc0 hc1 hcf
  have hc0 := hl1.src
  have hc1 : w1.cell? ⟨b, 1, none⟩ = some (.int .i64 0) := hl1.off
  have hcf := hl1.free
  go_wp2_with fail
  refine (peek_end b s 1 (by omega) (by omega) _ (by go_cell) (by go_cell)).mono ?_
  rintro e w2 ⟨rfl, hd2⟩
  have hl2 : LexAt b s 1 w2 := (hl1.setK _ 1 rfl).drawn hd2
  have hb2 : Below b w w2 := below_drawn (hb1.setCell (Nat.le_refl _) _) hd2
  clear hd2
  clear hc0 hc1 hcf
  have hc0 := hl2.src
  have hc1 : w2.cell? ⟨b, 1, none⟩ = some (.int .i64 1) := hl2.off
  have hcf := hl2.free
  go_wp2_with fail
  go_quiet ((go_at_call 29; exact Calls.quiet_of_same (isNumber_is 0 false (by assumption) _)))
  go_wp2
  go_ret
  exact vnEnd_of (below_drewN' hb2 _) (by rw [vn_plain s h0 _ hc_0 hsg, rest_dotend s 0 h0 _ hc_0 h46 h1])

set_option maxHeartbeats 2000000 in
set_option maxRecDepth 100000 in
theorem vn0_dotnum (b : Nat) (s : ByteArray) (hs : s.size ≤ 2147483647) (w : World) (hl0 : LexAt b s 0 w) (c : Int) (h0 : 0 < s.size) (hc_0 : Hid (cI s[0] = c)) (hsg : Hid (isSign c = false)) (h43 : (c == 43) = false) (h45 : (c == 45) = false) (h46 : (c == 46) = true) (d : Int) (h1 : 1 < s.size) (hc_1 : Hid (cI s[1] = d)) (hn : isNum d = true) :
    Calls Try.prog 24 #[.pointer (some ⟨b, 0, none⟩)] w (VnEnd b s w) := by
  have hc0 := hl0.src
  have hc1 : w.cell? ⟨b, 1, none⟩ = some (.int .i64 0) := hl0.off
  have hcf := hl0.free
  have hb0 := Below.refl b w
  have hz : isNum 0 = false := rfl
  go_enter Try.func24, Try.ntmps24
  go_wp2_with fail
  refine (peek_at b s 0 c h0 hc_0 hs _ (by go_cell) (by go_cell)).mono ?_
  rintro e w1 ⟨rfl, hd1⟩
  have hl1 : LexAt b s 0 w1 := hl0.drawn hd1
  have hb1 : Below b w w1 := below_drawn hb0 hd1
  clear hd1
  clear hc0 hc1 hcf
  have hc0 := hl1.src
  have hc1 : w1.cell? ⟨b, 1, none⟩ = some (.int .i64 0) := hl1.off
  have hcf := hl1.free
  go_wp2_with fail
  refine (peek_at b s 1 d h1 hc_1 hs _ (by go_cell) (by go_cell)).mono ?_
  rintro e w2 ⟨rfl, hd2⟩
  have hl2 : LexAt b s 1 w2 := (hl1.setK _ 1 rfl).drawn hd2
  have hb2 : Below b w w2 := below_drawn (hb1.setCell (Nat.le_refl _) _) hd2
  clear hd2
  clear hc0 hc1 hcf
  have hc0 := hl2.src
  have hc1 : w2.cell? ⟨b, 1, none⟩ = some (.int .i64 1) := hl2.off
  have hcf := hl2.free
  go_wp2_with fail
  go_region_with (first | (go_at_call 29; refine (isNumber_any d _).mono ?_; rintro e w' ⟨rfl, rfl⟩) | (go_at_call 30; refine (scan_any b s 1 1 (by omega) hs (by omega) _ ⟨by go_cell, by go_cell, by go_cell⟩).mono ?_; rintro e w' ⟨n, rfl, hn0, ⟨k2, hl9⟩, hb9⟩; have hn2 := Lib.hid hn0; clear hn0; have hsrc9 := hl9.src))
  all_goals
    go_wp2
    go_ret
    exact vnEnd_of ((below_drewN' hb2 1).trans hb9) (by rw [vn_plain s h0 _ hc_0 hsg, rest_dotnum s 0 h0 _ hc_0 h46 h1 _ hc_1 hn, ← hn2.out])

set_option maxHeartbeats 2000000 in
set_option maxRecDepth 100000 in
theorem vn0_dotnot (b : Nat) (s : ByteArray) (hs : s.size ≤ 2147483647) (w : World) (hl0 : LexAt b s 0 w) (c : Int) (h0 : 0 < s.size) (hc_0 : Hid (cI s[0] = c)) (hsg : Hid (isSign c = false)) (h43 : (c == 43) = false) (h45 : (c == 45) = false) (h46 : (c == 46) = true) (d : Int) (h1 : 1 < s.size) (hc_1 : Hid (cI s[1] = d)) (hn : isNum d = false) :
    Calls Try.prog 24 #[.pointer (some ⟨b, 0, none⟩)] w (VnEnd b s w) := by
  have hc0 := hl0.src
  have hc1 : w.cell? ⟨b, 1, none⟩ = some (.int .i64 0) := hl0.off
  have hcf := hl0.free
  have hb0 := Below.refl b w
  have hz : isNum 0 = false := rfl
  go_enter Try.func24, Try.ntmps24
  go_wp2_with fail
  refine (peek_at b s 0 c h0 hc_0 hs _ (by go_cell) (by go_cell)).mono ?_
  rintro e w1 ⟨rfl, hd1⟩
  have hl1 : LexAt b s 0 w1 := hl0.drawn hd1
  have hb1 : Below b w w1 := below_drawn hb0 hd1
  clear hd1
  clear hc0 hc1 hcf
  have hc0 := hl1.src
  have hc1 : w1.cell? ⟨b, 1, none⟩ = some (.int .i64 0) := hl1.off
  have hcf := hl1.free
  go_wp2_with fail
  refine (peek_at b s 1 d h1 hc_1 hs _ (by go_cell) (by go_cell)).mono ?_
  rintro e w2 ⟨rfl, hd2⟩
  have hl2 : LexAt b s 1 w2 := (hl1.setK _ 1 rfl).drawn hd2
  have hb2 : Below b w w2 := below_drawn (hb1.setCell (Nat.le_refl _) _) hd2
  clear hd2
  clear hc0 hc1 hcf
  have hc0 := hl2.src
  have hc1 : w2.cell? ⟨b, 1, none⟩ = some (.int .i64 1) := hl2.off
  have hcf := hl2.free
  go_wp2_with fail
  go_quiet ((go_at_call 29; exact Calls.quiet_of_same (isNumber_is d false (by assumption) _)))
  go_wp2
  go_ret
  exact vnEnd_of (below_drewN' hb2 _) (by rw [vn_plain s h0 _ hc_0 hsg, rest_dotnot s 0 h0 _ hc_0 h46 h1 _ hc_1 hn])

set_option maxHeartbeats 2000000 in
set_option maxRecDepth 100000 in
theorem vn1P_end (b : Nat) (s : ByteArray) (hs : s.size ≤ 2147483647) (w : World) (hl0 : LexAt b s 0 w) (c : Int) (h0 : 0 < s.size) (hc_0 : Hid (cI s[0] = c)) (h43 : (c == 43) = true) (hsg : Hid (isSign c = true)) (h1 : s.size ≤ 1) :
    Calls Try.prog 24 #[.pointer (some ⟨b, 0, none⟩)] w (VnEnd b s w) := by
  have hc0 := hl0.src
  have hc1 : w.cell? ⟨b, 1, none⟩ = some (.int .i64 0) := hl0.off
  have hcf := hl0.free
  have hb0 := Below.refl b w
  have hz : isNum 0 = false := rfl
  go_enter Try.func24, Try.ntmps24
  go_wp2_with fail
  refine (peek_at b s 0 c h0 hc_0 hs _ (by go_cell) (by go_cell)).mono ?_
  rintro e w1 ⟨rfl, hd1⟩
  have hl1 : LexAt b s 0 w1 := hl0.drawn hd1
  have hb1 : Below b w w1 := below_drawn hb0 hd1
  clear hd1
  clear hc0 hc1 hcf
  have hc0 := hl1.src
  have hc1 : w1.cell? ⟨b, 1, none⟩ = some (.int .i64 0) := hl1.off
  have hcf := hl1.free
  go_wp2_with fail
  refine (peek_end b s 1 (by omega) (by omega) _ (by go_cell) (by go_cell)).mono ?_
  rintro e w2 ⟨rfl, hd2⟩
  have hl2 : LexAt b s 1 w2 := (hl1.setK _ 1 rfl).drawn hd2
  have hb2 : Below b w w2 := below_drawn (hb1.setCell (Nat.le_refl _) _) hd2
  clear hd2
  clear hc0 hc1 hcf
  have hc0 := hl2.src
  have hc1 : w2.cell? ⟨b, 1, none⟩ = some (.int .i64 1) := hl2.off
  have hcf := hl2.free
  go_wp2_with fail
  go_quiet ((go_at_call 29; exact Calls.quiet_of_same (isNumber_is 0 false (by assumption) _)))
  go_wp2
  go_ret
  exact vnEnd_of (below_drewN' hb2 _) (by rw [vn_signed s h0 _ hc_0 hsg, rest_end s 1 h1])

set_option maxHeartbeats 2000000 in
set_option maxRecDepth 100000 in
theorem vn1P_num (b : Nat) (s : ByteArray) (hs : s.size ≤ 2147483647) (w : World) (hl0 : LexAt b s 0 w) (c : Int) (h0 : 0 < s.size) (hc_0 : Hid (cI s[0] = c)) (h43 : (c == 43) = true) (hsg : Hid (isSign c = true)) (d : Int) (h1 : 1 < s.size) (hc_1 : Hid (cI s[1] = d)) (h46 : (d == 46) = false) (hn : isNum d = true) :
    Calls Try.prog 24 #[.pointer (some ⟨b, 0, none⟩)] w (VnEnd b s w) := by
  have hc0 := hl0.src
  have hc1 : w.cell? ⟨b, 1, none⟩ = some (.int .i64 0) := hl0.off
  have hcf := hl0.free
  have hb0 := Below.refl b w
  have hz : isNum 0 = false := rfl
  go_enter Try.func24, Try.ntmps24
  go_wp2_with fail
  refine (peek_at b s 0 c h0 hc_0 hs _ (by go_cell) (by go_cell)).mono ?_
  rintro e w1 ⟨rfl, hd1⟩
  have hl1 : LexAt b s 0 w1 := hl0.drawn hd1
  have hb1 : Below b w w1 := below_drawn hb0 hd1
  clear hd1
  clear hc0 hc1 hcf
  have hc0 := hl1.src
  have hc1 : w1.cell? ⟨b, 1, none⟩ = some (.int .i64 0) := hl1.off
  have hcf := hl1.free
  go_wp2_with fail
  refine (peek_at b s 1 d h1 hc_1 hs _ (by go_cell) (by go_cell)).mono ?_
  rintro e w2 ⟨rfl, hd2⟩
  have hl2 : LexAt b s 1 w2 := (hl1.setK _ 1 rfl).drawn hd2
  have hb2 : Below b w w2 := below_drawn (hb1.setCell (Nat.le_refl _) _) hd2
  clear hd2
  clear hc0 hc1 hcf
  have hc0 := hl2.src
  have hc1 : w2.cell? ⟨b, 1, none⟩ = some (.int .i64 1) := hl2.off
  have hcf := hl2.free
  go_wp2_with fail
  go_region_with (first | (go_at_call 29; refine (isNumber_any d _).mono ?_; rintro e w' ⟨rfl, rfl⟩) | (go_at_call 30; refine (scan_any b s 1 0 (by omega) hs (by omega) _ ⟨by go_cell, by go_cell, by go_cell⟩).mono ?_; rintro e w' ⟨n, rfl, hn0, ⟨k2, hl9⟩, hb9⟩; have hn2 := Lib.hid hn0; clear hn0; have hsrc9 := hl9.src))
  all_goals
    go_wp2
    go_ret
    exact vnEnd_of ((below_drewN' hb2 1).trans hb9) (by rw [vn_signed s h0 _ hc_0 hsg, rest_num s 1 h1 _ hc_1 h46 hn, ← hn2.out])

set_option maxHeartbeats 2000000 in
set_option maxRecDepth 100000 in
theorem vn1P_not (b : Nat) (s : ByteArray) (hs : s.size ≤ 2147483647) (w : World) (hl0 : LexAt b s 0 w) (c : Int) (h0 : 0 < s.size) (hc_0 : Hid (cI s[0] = c)) (h43 : (c == 43) = true) (hsg : Hid (isSign c = true)) (d : Int) (h1 : 1 < s.size) (hc_1 : Hid (cI s[1] = d)) (h46 : (d == 46) = false) (hn : isNum d = false) :
    Calls Try.prog 24 #[.pointer (some ⟨b, 0, none⟩)] w (VnEnd b s w) := by
  have hc0 := hl0.src
  have hc1 : w.cell? ⟨b, 1, none⟩ = some (.int .i64 0) := hl0.off
  have hcf := hl0.free
  have hb0 := Below.refl b w
  have hz : isNum 0 = false := rfl
  go_enter Try.func24, Try.ntmps24
  go_wp2_with fail
  refine (peek_at b s 0 c h0 hc_0 hs _ (by go_cell) (by go_cell)).mono ?_
  rintro e w1 ⟨rfl, hd1⟩
  have hl1 : LexAt b s 0 w1 := hl0.drawn hd1
  have hb1 : Below b w w1 := below_drawn hb0 hd1
  clear hd1
  clear hc0 hc1 hcf
  have hc0 := hl1.src
  have hc1 : w1.cell? ⟨b, 1, none⟩ = some (.int .i64 0) := hl1.off
  have hcf := hl1.free
  go_wp2_with fail
  refine (peek_at b s 1 d h1 hc_1 hs _ (by go_cell) (by go_cell)).mono ?_
  rintro e w2 ⟨rfl, hd2⟩
  have hl2 : LexAt b s 1 w2 := (hl1.setK _ 1 rfl).drawn hd2
  have hb2 : Below b w w2 := below_drawn (hb1.setCell (Nat.le_refl _) _) hd2
  clear hd2
  clear hc0 hc1 hcf
  have hc0 := hl2.src
  have hc1 : w2.cell? ⟨b, 1, none⟩ = some (.int .i64 1) := hl2.off
  have hcf := hl2.free
  go_wp2_with fail
  go_quiet ((go_at_call 29; exact Calls.quiet_of_same (isNumber_is d false (by assumption) _)))
  go_wp2
  go_ret
  exact vnEnd_of (below_drewN' hb2 _) (by rw [vn_signed s h0 _ hc_0 hsg, rest_not s 1 h1 _ hc_1 h46 hn])

set_option maxHeartbeats 2000000 in
set_option maxRecDepth 100000 in
theorem vn1P_dotend (b : Nat) (s : ByteArray) (hs : s.size ≤ 2147483647) (w : World) (hl0 : LexAt b s 0 w) (c : Int) (h0 : 0 < s.size) (hc_0 : Hid (cI s[0] = c)) (h43 : (c == 43) = true) (hsg : Hid (isSign c = true)) (d : Int) (h1 : 1 < s.size) (hc_1 : Hid (cI s[1] = d)) (h46 : (d == 46) = true) (h2 : s.size ≤ 2) :
    Calls Try.prog 24 #[.pointer (some ⟨b, 0, none⟩)] w (VnEnd b s w) := by
  have hc0 := hl0.src
  have hc1 : w.cell? ⟨b, 1, none⟩ = some (.int .i64 0) := hl0.off
  have hcf := hl0.free
  have hb0 := Below.refl b w
  have hz : isNum 0 = false := rfl
  go_enter Try.func24, Try.ntmps24
  go_wp2_with fail
  refine (peek_at b s 0 c h0 hc_0 hs _ (by go_cell) (by go_cell)).mono ?_
  rintro e w1 ⟨rfl, hd1⟩
  have hl1 : LexAt b s 0 w1 := hl0.drawn hd1
  have hb1 : Below b w w1 := below_drawn hb0 hd1
  clear hd1
  clear hc0 hc1 hcf
  have hc0 := hl1.src
  have hc1 : w1.cell? ⟨b, 1, none⟩ = some (.int .i64 0) := hl1.off
  have hcf := hl1.free
  go_wp2_with fail
  refine (peek_at b s 1 d h1 hc_1 hs _ (by go_cell) (by go_cell)).mono ?_
  rintro e w2 ⟨rfl, hd2⟩
  have hl2 : LexAt b s 1 w2 := (hl1.setK _ 1 rfl).drawn hd2
  have hb2 : Below b w w2 := below_drawn (hb1.setCell (Nat.le_refl _) _) hd2
  clear hd2
  clear hc0 hc1 hcf
  have hc0 := hl2.src
  have hc1 : w2.cell? ⟨b, 1, none⟩ = some (.int .i64 1) := hl2.off
  have hcf := hl2.free
  go_wp2_with fail
  refine (peek_end b s 2 (by omega) (by omega) _ (by go_cell) (by go_cell)).mono ?_
  rintro e w3 ⟨rfl, hd3⟩
  have hl3 : LexAt b s 2 w3 := (hl2.setK _ 2 rfl).drawn hd3
  have hb3 : Below b w w3 := below_drawn (hb2.setCell (Nat.le_refl _) _) hd3
  clear hd3
  clear hc0 hc1 hcf
  have hc0 := hl3.src
  have hc1 : w3.cell? ⟨b, 1, none⟩ = some (.int .i64 2) := hl3.off
  have hcf := hl3.free
  go_wp2_with fail
  go_quiet ((go_at_call 29; exact Calls.quiet_of_same (isNumber_is 0 false (by assumption) _)))
  go_wp2
  go_ret
  exact vnEnd_of (below_drewN' hb3 _) (by rw [vn_signed s h0 _ hc_0 hsg, rest_dotend s 1 h1 _ hc_1 h46 h2])

set_option maxHeartbeats 2000000 in
set_option maxRecDepth 100000 in
theorem vn1P_dotnum (b : Nat) (s : ByteArray) (hs : s.size ≤ 2147483647) (w : World) (hl0 : LexAt b s 0 w) (c : Int) (h0 : 0 < s.size) (hc_0 : Hid (cI s[0] = c)) (h43 : (c == 43) = true) (hsg : Hid (isSign c = true)) (d : Int) (h1 : 1 < s.size) (hc_1 : Hid (cI s[1] = d)) (h46 : (d == 46) = true) (f : Int) (h2 : 2 < s.size) (hc_2 : Hid (cI s[2] = f)) (hn : isNum f = true) :
    Calls Try.prog 24 #[.pointer (some ⟨b, 0, none⟩)] w (VnEnd b s w) := by
  have hc0 := hl0.src
  have hc1 : w.cell? ⟨b, 1, none⟩ = some (.int .i64 0) := hl0.off
  have hcf := hl0.free
  have hb0 := Below.refl b w
  have hz : isNum 0 = false := rfl
  go_enter Try.func24, Try.ntmps24
  go_wp2_with fail
  refine (peek_at b s 0 c h0 hc_0 hs _ (by go_cell) (by go_cell)).mono ?_
  rintro e w1 ⟨rfl, hd1⟩
  have hl1 : LexAt b s 0 w1 := hl0.drawn hd1
  have hb1 : Below b w w1 := below_drawn hb0 hd1
  clear hd1
  clear hc0 hc1 hcf
  have hc0 := hl1.src
  have hc1 : w1.cell? ⟨b, 1, none⟩ = some (.int .i64 0) := hl1.off
  have hcf := hl1.free
  go_wp2_with fail
  refine (peek_at b s 1 d h1 hc_1 hs _ (by go_cell) (by go_cell)).mono ?_
  rintro e w2 ⟨rfl, hd2⟩
  have hl2 : LexAt b s 1 w2 := (hl1.setK _ 1 rfl).drawn hd2
  have hb2 : Below b w w2 := below_drawn (hb1.setCell (Nat.le_refl _) _) hd2
  clear hd2
  clear hc0 hc1 hcf
  have hc0 := hl2.src
  have hc1 : w2.cell? ⟨b, 1, none⟩ = some (.int .i64 1) := hl2.off
  have hcf := hl2.free
  go_wp2_with fail
  refine (peek_at b s 2 f h2 hc_2 hs _ (by go_cell) (by go_cell)).mono ?_
  rintro e w3 ⟨rfl, hd3⟩
  have hl3 : LexAt b s 2 w3 := (hl2.setK _ 2 rfl).drawn hd3
  have hb3 : Below b w w3 := below_drawn (hb2.setCell (Nat.le_refl _) _) hd3
  clear hd3
  clear hc0 hc1 hcf
  have hc0 := hl3.src
  have hc1 : w3.cell? ⟨b, 1, none⟩ = some (.int .i64 2) := hl3.off
  have hcf := hl3.free
  go_wp2_with fail
  go_region_with (first | (go_at_call 29; refine (isNumber_any f _).mono ?_; rintro e w' ⟨rfl, rfl⟩) | (go_at_call 30; refine (scan_any b s 2 1 (by omega) hs (by omega) _ ⟨by go_cell, by go_cell, by go_cell⟩).mono ?_; rintro e w' ⟨n, rfl, hn0, ⟨k2, hl9⟩, hb9⟩; have hn2 := Lib.hid hn0; clear hn0; have hsrc9 := hl9.src))
  all_goals
    go_wp2
    go_ret
    exact vnEnd_of ((below_drewN' hb3 1).trans hb9) (by rw [vn_signed s h0 _ hc_0 hsg, rest_dotnum s 1 h1 _ hc_1 h46 h2 _ hc_2 hn, ← hn2.out])

set_option maxHeartbeats 2000000 in
set_option maxRecDepth 100000 in
theorem vn1P_dotnot (b : Nat) (s : ByteArray) (hs : s.size ≤ 2147483647) (w : World) (hl0 : LexAt b s 0 w) (c : Int) (h0 : 0 < s.size) (hc_0 : Hid (cI s[0] = c)) (h43 : (c == 43) = true) (hsg : Hid (isSign c = true)) (d : Int) (h1 : 1 < s.size) (hc_1 : Hid (cI s[1] = d)) (h46 : (d == 46) = true) (f : Int) (h2 : 2 < s.size) (hc_2 : Hid (cI s[2] = f)) (hn : isNum f = false) :
    Calls Try.prog 24 #[.pointer (some ⟨b, 0, none⟩)] w (VnEnd b s w) := by
  have hc0 := hl0.src
  have hc1 : w.cell? ⟨b, 1, none⟩ = some (.int .i64 0) := hl0.off
  have hcf := hl0.free
  have hb0 := Below.refl b w
  have hz : isNum 0 = false := rfl
  go_enter Try.func24, Try.ntmps24
  go_wp2_with fail
  refine (peek_at b s 0 c h0 hc_0 hs _ (by go_cell) (by go_cell)).mono ?_
  rintro e w1 ⟨rfl, hd1⟩
  have hl1 : LexAt b s 0 w1 := hl0.drawn hd1
  have hb1 : Below b w w1 := below_drawn hb0 hd1
  clear hd1
  clear hc0 hc1 hcf
  have hc0 := hl1.src
  have hc1 : w1.cell? ⟨b, 1, none⟩ = some (.int .i64 0) := hl1.off
  have hcf := hl1.free
  go_wp2_with fail
  refine (peek_at b s 1 d h1 hc_1 hs _ (by go_cell) (by go_cell)).mono ?_
  rintro e w2 ⟨rfl, hd2⟩
  have hl2 : LexAt b s 1 w2 := (hl1.setK _ 1 rfl).drawn hd2
  have hb2 : Below b w w2 := below_drawn (hb1.setCell (Nat.le_refl _) _) hd2
  clear hd2
  clear hc0 hc1 hcf
  have hc0 := hl2.src
  have hc1 : w2.cell? ⟨b, 1, none⟩ = some (.int .i64 1) := hl2.off
  have hcf := hl2.free
  go_wp2_with fail
  refine (peek_at b s 2 f h2 hc_2 hs _ (by go_cell) (by go_cell)).mono ?_
  rintro e w3 ⟨rfl, hd3⟩
  have hl3 : LexAt b s 2 w3 := (hl2.setK _ 2 rfl).drawn hd3
  have hb3 : Below b w w3 := below_drawn (hb2.setCell (Nat.le_refl _) _) hd3
  clear hd3
  clear hc0 hc1 hcf
  have hc0 := hl3.src
  have hc1 : w3.cell? ⟨b, 1, none⟩ = some (.int .i64 2) := hl3.off
  have hcf := hl3.free
  go_wp2_with fail
  go_quiet ((go_at_call 29; exact Calls.quiet_of_same (isNumber_is f false (by assumption) _)))
  go_wp2
  go_ret
  exact vnEnd_of (below_drewN' hb3 _) (by rw [vn_signed s h0 _ hc_0 hsg, rest_dotnot s 1 h1 _ hc_1 h46 h2 _ hc_2 hn])

set_option maxHeartbeats 2000000 in
set_option maxRecDepth 100000 in
theorem vn1M_end (b : Nat) (s : ByteArray) (hs : s.size ≤ 2147483647) (w : World) (hl0 : LexAt b s 0 w) (c : Int) (h0 : 0 < s.size) (hc_0 : Hid (cI s[0] = c)) (h43 : (c == 43) = false) (h45 : (c == 45) = true) (hsg : Hid (isSign c = true)) (h1 : s.size ≤ 1) :
    Calls Try.prog 24 #[.pointer (some ⟨b, 0, none⟩)] w (VnEnd b s w) := by
  have hc0 := hl0.src
  have hc1 : w.cell? ⟨b, 1, none⟩ = some (.int .i64 0) := hl0.off
  have hcf := hl0.free
  have hb0 := Below.refl b w
  have hz : isNum 0 = false := rfl
  go_enter Try.func24, Try.ntmps24
  go_wp2_with fail
  refine (peek_at b s 0 c h0 hc_0 hs _ (by go_cell) (by go_cell)).mono ?_
  rintro e w1 ⟨rfl, hd1⟩
  have hl1 : LexAt b s 0 w1 := hl0.drawn hd1
  have hb1 : Below b w w1 := below_drawn hb0 hd1
  clear hd1
  clear hc0 hc1 hcf
  have hc0 := hl1.src
  have hc1 : w1.cell? ⟨b, 1, none⟩ = some (.int .i64 0) := hl1.off
  have hcf := hl1.free
  go_wp2_with fail
  refine (peek_end b s 1 (by omega) (by omega) _ (by go_cell) (by go_cell)).mono ?_
  rintro e w2 ⟨rfl, hd2⟩
  have hl2 : LexAt b s 1 w2 := (hl1.setK _ 1 rfl).drawn hd2
  have hb2 : Below b w w2 := below_drawn (hb1.setCell (Nat.le_refl _) _) hd2
  clear hd2
  clear hc0 hc1 hcf
  have hc0 := hl2.src
  have hc1 : w2.cell? ⟨b, 1, none⟩ = some (.int .i64 1) := hl2.off
  have hcf := hl2.free
  go_wp2_with fail
  go_quiet ((go_at_call 29; exact Calls.quiet_of_same (isNumber_is 0 false (by assumption) _)))
  go_wp2
  go_ret
  exact vnEnd_of (below_drewN' hb2 _) (by rw [vn_signed s h0 _ hc_0 hsg, rest_end s 1 h1])

set_option maxHeartbeats 2000000 in
set_option maxRecDepth 100000 in
theorem vn1M_num (b : Nat) (s : ByteArray) (hs : s.size ≤ 2147483647) (w : World) (hl0 : LexAt b s 0 w) (c : Int) (h0 : 0 < s.size) (hc_0 : Hid (cI s[0] = c)) (h43 : (c == 43) = false) (h45 : (c == 45) = true) (hsg : Hid (isSign c = true)) (d : Int) (h1 : 1 < s.size) (hc_1 : Hid (cI s[1] = d)) (h46 : (d == 46) = false) (hn : isNum d = true) :
    Calls Try.prog 24 #[.pointer (some ⟨b, 0, none⟩)] w (VnEnd b s w) := by
  have hc0 := hl0.src
  have hc1 : w.cell? ⟨b, 1, none⟩ = some (.int .i64 0) := hl0.off
  have hcf := hl0.free
  have hb0 := Below.refl b w
  have hz : isNum 0 = false := rfl
  go_enter Try.func24, Try.ntmps24
  go_wp2_with fail
  refine (peek_at b s 0 c h0 hc_0 hs _ (by go_cell) (by go_cell)).mono ?_
  rintro e w1 ⟨rfl, hd1⟩
  have hl1 : LexAt b s 0 w1 := hl0.drawn hd1
  have hb1 : Below b w w1 := below_drawn hb0 hd1
  clear hd1
  clear hc0 hc1 hcf
  have hc0 := hl1.src
  have hc1 : w1.cell? ⟨b, 1, none⟩ = some (.int .i64 0) := hl1.off
  have hcf := hl1.free
  go_wp2_with fail
  refine (peek_at b s 1 d h1 hc_1 hs _ (by go_cell) (by go_cell)).mono ?_
  rintro e w2 ⟨rfl, hd2⟩
  have hl2 : LexAt b s 1 w2 := (hl1.setK _ 1 rfl).drawn hd2
  have hb2 : Below b w w2 := below_drawn (hb1.setCell (Nat.le_refl _) _) hd2
  clear hd2
  clear hc0 hc1 hcf
  have hc0 := hl2.src
  have hc1 : w2.cell? ⟨b, 1, none⟩ = some (.int .i64 1) := hl2.off
  have hcf := hl2.free
  go_wp2_with fail
  go_region_with (first | (go_at_call 29; refine (isNumber_any d _).mono ?_; rintro e w' ⟨rfl, rfl⟩) | (go_at_call 30; refine (scan_any b s 1 0 (by omega) hs (by omega) _ ⟨by go_cell, by go_cell, by go_cell⟩).mono ?_; rintro e w' ⟨n, rfl, hn0, ⟨k2, hl9⟩, hb9⟩; have hn2 := Lib.hid hn0; clear hn0; have hsrc9 := hl9.src))
  all_goals
    go_wp2
    go_ret
    exact vnEnd_of ((below_drewN' hb2 1).trans hb9) (by rw [vn_signed s h0 _ hc_0 hsg, rest_num s 1 h1 _ hc_1 h46 hn, ← hn2.out])

set_option maxHeartbeats 2000000 in
set_option maxRecDepth 100000 in
theorem vn1M_not (b : Nat) (s : ByteArray) (hs : s.size ≤ 2147483647) (w : World) (hl0 : LexAt b s 0 w) (c : Int) (h0 : 0 < s.size) (hc_0 : Hid (cI s[0] = c)) (h43 : (c == 43) = false) (h45 : (c == 45) = true) (hsg : Hid (isSign c = true)) (d : Int) (h1 : 1 < s.size) (hc_1 : Hid (cI s[1] = d)) (h46 : (d == 46) = false) (hn : isNum d = false) :
    Calls Try.prog 24 #[.pointer (some ⟨b, 0, none⟩)] w (VnEnd b s w) := by
  have hc0 := hl0.src
  have hc1 : w.cell? ⟨b, 1, none⟩ = some (.int .i64 0) := hl0.off
  have hcf := hl0.free
  have hb0 := Below.refl b w
  have hz : isNum 0 = false := rfl
  go_enter Try.func24, Try.ntmps24
  go_wp2_with fail
  refine (peek_at b s 0 c h0 hc_0 hs _ (by go_cell) (by go_cell)).mono ?_
  rintro e w1 ⟨rfl, hd1⟩
  have hl1 : LexAt b s 0 w1 := hl0.drawn hd1
  have hb1 : Below b w w1 := below_drawn hb0 hd1
  clear hd1
  clear hc0 hc1 hcf
  have hc0 := hl1.src
  have hc1 : w1.cell? ⟨b, 1, none⟩ = some (.int .i64 0) := hl1.off
  have hcf := hl1.free
  go_wp2_with fail
  refine (peek_at b s 1 d h1 hc_1 hs _ (by go_cell) (by go_cell)).mono ?_
  rintro e w2 ⟨rfl, hd2⟩
  have hl2 : LexAt b s 1 w2 := (hl1.setK _ 1 rfl).drawn hd2
  have hb2 : Below b w w2 := below_drawn (hb1.setCell (Nat.le_refl _) _) hd2
  clear hd2
  clear hc0 hc1 hcf
  have hc0 := hl2.src
  have hc1 : w2.cell? ⟨b, 1, none⟩ = some (.int .i64 1) := hl2.off
  have hcf := hl2.free
  go_wp2_with fail
  go_quiet ((go_at_call 29; exact Calls.quiet_of_same (isNumber_is d false (by assumption) _)))
  go_wp2
  go_ret
  exact vnEnd_of (below_drewN' hb2 _) (by rw [vn_signed s h0 _ hc_0 hsg, rest_not s 1 h1 _ hc_1 h46 hn])

set_option maxHeartbeats 2000000 in
set_option maxRecDepth 100000 in
theorem vn1M_dotend (b : Nat) (s : ByteArray) (hs : s.size ≤ 2147483647) (w : World) (hl0 : LexAt b s 0 w) (c : Int) (h0 : 0 < s.size) (hc_0 : Hid (cI s[0] = c)) (h43 : (c == 43) = false) (h45 : (c == 45) = true) (hsg : Hid (isSign c = true)) (d : Int) (h1 : 1 < s.size) (hc_1 : Hid (cI s[1] = d)) (h46 : (d == 46) = true) (h2 : s.size ≤ 2) :
    Calls Try.prog 24 #[.pointer (some ⟨b, 0, none⟩)] w (VnEnd b s w) := by
  have hc0 := hl0.src
  have hc1 : w.cell? ⟨b, 1, none⟩ = some (.int .i64 0) := hl0.off
  have hcf := hl0.free
  have hb0 := Below.refl b w
  have hz : isNum 0 = false := rfl
  go_enter Try.func24, Try.ntmps24
  go_wp2_with fail
  refine (peek_at b s 0 c h0 hc_0 hs _ (by go_cell) (by go_cell)).mono ?_
  rintro e w1 ⟨rfl, hd1⟩
  have hl1 : LexAt b s 0 w1 := hl0.drawn hd1
  have hb1 : Below b w w1 := below_drawn hb0 hd1
  clear hd1
  clear hc0 hc1 hcf
  have hc0 := hl1.src
  have hc1 : w1.cell? ⟨b, 1, none⟩ = some (.int .i64 0) := hl1.off
  have hcf := hl1.free
  go_wp2_with fail
  refine (peek_at b s 1 d h1 hc_1 hs _ (by go_cell) (by go_cell)).mono ?_
  rintro e w2 ⟨rfl, hd2⟩
  have hl2 : LexAt b s 1 w2 := (hl1.setK _ 1 rfl).drawn hd2
  have hb2 : Below b w w2 := below_drawn (hb1.setCell (Nat.le_refl _) _) hd2
  clear hd2
  clear hc0 hc1 hcf
  have hc0 := hl2.src
  have hc1 : w2.cell? ⟨b, 1, none⟩ = some (.int .i64 1) := hl2.off
  have hcf := hl2.free
  go_wp2_with fail
  refine (peek_end b s 2 (by omega) (by omega) _ (by go_cell) (by go_cell)).mono ?_
  rintro e w3 ⟨rfl, hd3⟩
  have hl3 : LexAt b s 2 w3 := (hl2.setK _ 2 rfl).drawn hd3
  have hb3 : Below b w w3 := below_drawn (hb2.setCell (Nat.le_refl _) _) hd3
  clear hd3
  clear hc0 hc1 hcf
  have hc0 := hl3.src
  have hc1 : w3.cell? ⟨b, 1, none⟩ = some (.int .i64 2) := hl3.off
  have hcf := hl3.free
  go_wp2_with fail
  go_quiet ((go_at_call 29; exact Calls.quiet_of_same (isNumber_is 0 false (by assumption) _)))
  go_wp2
  go_ret
  exact vnEnd_of (below_drewN' hb3 _) (by rw [vn_signed s h0 _ hc_0 hsg, rest_dotend s 1 h1 _ hc_1 h46 h2])

set_option maxHeartbeats 2000000 in
set_option maxRecDepth 100000 in
theorem vn1M_dotnum (b : Nat) (s : ByteArray) (hs : s.size ≤ 2147483647) (w : World) (hl0 : LexAt b s 0 w) (c : Int) (h0 : 0 < s.size) (hc_0 : Hid (cI s[0] = c)) (h43 : (c == 43) = false) (h45 : (c == 45) = true) (hsg : Hid (isSign c = true)) (d : Int) (h1 : 1 < s.size) (hc_1 : Hid (cI s[1] = d)) (h46 : (d == 46) = true) (f : Int) (h2 : 2 < s.size) (hc_2 : Hid (cI s[2] = f)) (hn : isNum f = true) :
    Calls Try.prog 24 #[.pointer (some ⟨b, 0, none⟩)] w (VnEnd b s w) := by
  have hc0 := hl0.src
  have hc1 : w.cell? ⟨b, 1, none⟩ = some (.int .i64 0) := hl0.off
  have hcf := hl0.free
  have hb0 := Below.refl b w
  have hz : isNum 0 = false := rfl
  go_enter Try.func24, Try.ntmps24
  go_wp2_with fail
  refine (peek_at b s 0 c h0 hc_0 hs _ (by go_cell) (by go_cell)).mono ?_
  rintro e w1 ⟨rfl, hd1⟩
  have hl1 : LexAt b s 0 w1 := hl0.drawn hd1
  have hb1 : Below b w w1 := below_drawn hb0 hd1
  clear hd1
  clear hc0 hc1 hcf
  have hc0 := hl1.src
  have hc1 : w1.cell? ⟨b, 1, none⟩ = some (.int .i64 0) := hl1.off
  have hcf := hl1.free
  go_wp2_with fail
  refine (peek_at b s 1 d h1 hc_1 hs _ (by go_cell) (by go_cell)).mono ?_
  rintro e w2 ⟨rfl, hd2⟩
  have hl2 : LexAt b s 1 w2 := (hl1.setK _ 1 rfl).drawn hd2
  have hb2 : Below b w w2 := below_drawn (hb1.setCell (Nat.le_refl _) _) hd2
  clear hd2
  clear hc0 hc1 hcf
  have hc0 := hl2.src
  have hc1 : w2.cell? ⟨b, 1, none⟩ = some (.int .i64 1) := hl2.off
  have hcf := hl2.free
  go_wp2_with fail
  refine (peek_at b s 2 f h2 hc_2 hs _ (by go_cell) (by go_cell)).mono ?_
  rintro e w3 ⟨rfl, hd3⟩
  have hl3 : LexAt b s 2 w3 := (hl2.setK _ 2 rfl).drawn hd3
  have hb3 : Below b w w3 := below_drawn (hb2.setCell (Nat.le_refl _) _) hd3
  clear hd3
  clear hc0 hc1 hcf
  have hc0 := hl3.src
  have hc1 : w3.cell? ⟨b, 1, none⟩ = some (.int .i64 2) := hl3.off
  have hcf := hl3.free
  go_wp2_with fail
  go_region_with (first | (go_at_call 29; refine (isNumber_any f _).mono ?_; rintro e w' ⟨rfl, rfl⟩) | (go_at_call 30; refine (scan_any b s 2 1 (by omega) hs (by omega) _ ⟨by go_cell, by go_cell, by go_cell⟩).mono ?_; rintro e w' ⟨n, rfl, hn0, ⟨k2, hl9⟩, hb9⟩; have hn2 := Lib.hid hn0; clear hn0; have hsrc9 := hl9.src))
  all_goals
    go_wp2
    go_ret
    exact vnEnd_of ((below_drewN' hb3 1).trans hb9) (by rw [vn_signed s h0 _ hc_0 hsg, rest_dotnum s 1 h1 _ hc_1 h46 h2 _ hc_2 hn, ← hn2.out])

set_option maxHeartbeats 2000000 in
set_option maxRecDepth 100000 in
theorem vn1M_dotnot (b : Nat) (s : ByteArray) (hs : s.size ≤ 2147483647) (w : World) (hl0 : LexAt b s 0 w) (c : Int) (h0 : 0 < s.size) (hc_0 : Hid (cI s[0] = c)) (h43 : (c == 43) = false) (h45 : (c == 45) = true) (hsg : Hid (isSign c = true)) (d : Int) (h1 : 1 < s.size) (hc_1 : Hid (cI s[1] = d)) (h46 : (d == 46) = true) (f : Int) (h2 : 2 < s.size) (hc_2 : Hid (cI s[2] = f)) (hn : isNum f = false) :
    Calls Try.prog 24 #[.pointer (some ⟨b, 0, none⟩)] w (VnEnd b s w) := by
  have hc0 := hl0.src
  have hc1 : w.cell? ⟨b, 1, none⟩ = some (.int .i64 0) := hl0.off
  have hcf := hl0.free
  have hb0 := Below.refl b w
  have hz : isNum 0 = false := rfl
  go_enter Try.func24, Try.ntmps24
  go_wp2_with fail
  refine (peek_at b s 0 c h0 hc_0 hs _ (by go_cell) (by go_cell)).mono ?_
  rintro e w1 ⟨rfl, hd1⟩
  have hl1 : LexAt b s 0 w1 := hl0.drawn hd1
  have hb1 : Below b w w1 := below_drawn hb0 hd1
  clear hd1
  clear hc0 hc1 hcf
  have hc0 := hl1.src
  have hc1 : w1.cell? ⟨b, 1, none⟩ = some (.int .i64 0) := hl1.off
  have hcf := hl1.free
  go_wp2_with fail
  refine (peek_at b s 1 d h1 hc_1 hs _ (by go_cell) (by go_cell)).mono ?_
  rintro e w2 ⟨rfl, hd2⟩
  have hl2 : LexAt b s 1 w2 := (hl1.setK _ 1 rfl).drawn hd2
  have hb2 : Below b w w2 := below_drawn (hb1.setCell (Nat.le_refl _) _) hd2
  clear hd2
  clear hc0 hc1 hcf
  have hc0 := hl2.src
  have hc1 : w2.cell? ⟨b, 1, none⟩ = some (.int .i64 1) := hl2.off
  have hcf := hl2.free
  go_wp2_with fail
  refine (peek_at b s 2 f h2 hc_2 hs _ (by go_cell) (by go_cell)).mono ?_
  rintro e w3 ⟨rfl, hd3⟩
  have hl3 : LexAt b s 2 w3 := (hl2.setK _ 2 rfl).drawn hd3
  have hb3 : Below b w w3 := below_drawn (hb2.setCell (Nat.le_refl _) _) hd3
  clear hd3
  clear hc0 hc1 hcf
  have hc0 := hl3.src
  have hc1 : w3.cell? ⟨b, 1, none⟩ = some (.int .i64 2) := hl3.off
  have hcf := hl3.free
  go_wp2_with fail
  go_quiet ((go_at_call 29; exact Calls.quiet_of_same (isNumber_is f false (by assumption) _)))
  go_wp2
  go_ret
  exact vnEnd_of (below_drewN' hb3 _) (by rw [vn_signed s h0 _ hc_0 hsg, rest_dotnot s 1 h1 _ hc_1 h46 h2 _ hc_2 hn])


end Go.Proofs.Ytnlndpgbhmkanaa.Vn
