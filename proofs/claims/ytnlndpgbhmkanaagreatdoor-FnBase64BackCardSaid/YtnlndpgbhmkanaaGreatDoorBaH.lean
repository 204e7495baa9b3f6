/-
  THE WALKS of BEPutUint32 and BEPutUint64.
-/
import Derived.Test.YtnlndpgbhmkanaaGreatDoorBaG
namespace Go.Proofs.YtnlndpgbhmkanaaGreatDoor.Ba
open Go.RowKit Go.Proofs.YtnlndpgbhmkanaaGreatDoor.Va
set_option linter.unusedVariables false
set_option linter.unusedSimpArgs false

theorem putF_nil (f : Nat → Value) (q j : Nat) : f j = putF f q [] j := by
  unfold putF
  rw [if_neg (by simp <;> omega)]
theorem putF_snoc (f : Nat → Value) (q j : Nat) (bs : List Nat) (x : Nat) : (if j = q + bs.length then .int .u8 (x : Int) else putF f q bs j) = putF f q (bs ++ [x]) j := by
  unfold putF
  by_cases c : j = q + bs.length
  · rw [if_pos c, if_pos (by simp; omega), c, show q + bs.length - q = bs.length by omega, List.getD, List.getElem?_append_right (Nat.le_refl _), Nat.sub_self]
    rfl
  · rw [if_neg c]
    by_cases d : q ≤ j ∧ j < q + bs.length
    · rw [if_pos d, if_pos (by simp; omega), List.getD, List.getD, List.getElem?_append_left (by omega)]
    · rw [if_neg d, if_neg (by simp; omega)]
theorem rowIs_putF {w : World} {db N q : Nat} {t : TypeId} {f : Nat → Value} {bs : List Nat} {x : Nat} {v : Value} (h : w.rowIs db t N (putF f q bs)) {m : Nat} (hm : m = q + bs.length) (hv : v = .int .u8 (x : Int)) : (w.setCell ⟨db, m, none⟩ v).rowIs db t N (putF f q (bs ++ [x])) := by
  subst hm
  subst hv
  exact (h.set _ _).congr fun j _ => putF_snoc f q j bs x
theorem gr_refl (w : World) (row : Option Nat) : w.grownBy w row := ⟨rfl, rfl, rfl, Nat.le_refl _, fun _ _ _ => rfl⟩
def PutEnd (w : World) (db N : Nat) (f : Nat → Value) (q : Nat) (bs : List Nat) (e : Ending) (w' : World) : Prop := e = .returned (.tuple #[]) ∧ w'.rowIs db 5 N (putF f q bs) ∧ w.grownBy w' (some db)

set_option maxHeartbeats 2000000 in
set_option maxRecDepth 100000 in
theorem put32_any (db q M Mc N V : Nat) (f : Nat → Value) (hV : V < 4294967296) (hM : 4 ≤ M) (hqM : q + M ≤ N) (w : World) (hd : w.rowIs db 5 N f) (hMc : M ≤ 2147483647) :
    Calls Tryz.prog 226 #[.slice (some ⟨db, q, none⟩) M Mc, .int .u32 (V : Int)] w (PutEnd w db N f q [V / 16777216, V / 65536 % 256, V / 256 % 256, V % 256]) := by
  have HD := Lib.hid hd
  obtain ⟨y0, hy0⟩ : ∃ y, f (q) = y := ⟨_, rfl⟩
  have o0 := hd.cell (i := q) (by omega)
  rw [hy0] at o0
  have f0 := hd.frozen (q)
  clear hy0
  obtain ⟨y1, hy1⟩ : ∃ y, f (q + 1) = y := ⟨_, rfl⟩
  have o1 := hd.cell (i := q + 1) (by omega)
  rw [hy1] at o1
  have f1 := hd.frozen (q + 1)
  clear hy1
  obtain ⟨y2, hy2⟩ : ∃ y, f (q + 2) = y := ⟨_, rfl⟩
  have o2 := hd.cell (i := q + 2) (by omega)
  rw [hy2] at o2
  have f2 := hd.frozen (q + 2)
  clear hy2
  obtain ⟨y3, hy3⟩ : ∃ y, f (q + 3) = y := ⟨_, rfl⟩
  have o3 := hd.cell (i := q + 3) (by omega)
  rw [hy3] at o3
  have f3 := hd.frozen (q + 3)
  clear hy3
  clear hd
  go_enter Tryz.func226, Tryz.ntmps226
  go_wp2_with fail
  go_returns
  exact ⟨rfl, (rowIs_putF (x := V % 256) (rowIs_putF (x := V / 256 % 256) (rowIs_putF (x := V / 65536 % 256) (rowIs_putF (x := V / 16777216) (HD.out.congr fun j _ => putF_nil f q j) rfl (by first | rfl | (congr 1; omega))) rfl (by first | rfl | (congr 1; omega))) rfl (by first | rfl | (congr 1; omega))) rfl (by first | rfl | (congr 1; omega))), (gr_set (gr_set (gr_set (gr_set (gr_refl w _) _ _) _ _) _ _) _ _)⟩
set_option maxHeartbeats 2000000 in
set_option maxRecDepth 100000 in
theorem put64_any (db q M Mc N V : Nat) (f : Nat → Value) (hV : V < 18446744073709551616) (hM : 8 ≤ M) (hqM : q + M ≤ N) (w : World) (hd : w.rowIs db 5 N f) (hMc : M ≤ 2147483647) :
    Calls Tryz.prog 223 #[.slice (some ⟨db, q, none⟩) M Mc, .int .u64 (V : Int)] w (PutEnd w db N f q [V / 72057594037927936, V / 281474976710656 % 256, V / 1099511627776 % 256, V / 4294967296 % 256, V / 16777216 % 256, V / 65536 % 256, V / 256 % 256, V % 256]) := by
  have HD := Lib.hid hd
  obtain ⟨y0, hy0⟩ : ∃ y, f (q) = y := ⟨_, rfl⟩
  have o0 := hd.cell (i := q) (by omega)
  rw [hy0] at o0
  have f0 := hd.frozen (q)
  clear hy0
  obtain ⟨y1, hy1⟩ : ∃ y, f (q + 1) = y := ⟨_, rfl⟩
  have o1 := hd.cell (i := q + 1) (by omega)
  rw [hy1] at o1
  have f1 := hd.frozen (q + 1)
  clear hy1
  obtain ⟨y2, hy2⟩ : ∃ y, f (q + 2) = y := ⟨_, rfl⟩
  have o2 := hd.cell (i := q + 2) (by omega)
  rw [hy2] at o2
  have f2 := hd.frozen (q + 2)
  clear hy2
  obtain ⟨y3, hy3⟩ : ∃ y, f (q + 3) = y := ⟨_, rfl⟩
  have o3 := hd.cell (i := q + 3) (by omega)
  rw [hy3] at o3
  have f3 := hd.frozen (q + 3)
  clear hy3
  obtain ⟨y4, hy4⟩ : ∃ y, f (q + 4) = y := ⟨_, rfl⟩
  have o4 := hd.cell (i := q + 4) (by omega)
  rw [hy4] at o4
  have f4 := hd.frozen (q + 4)
  clear hy4
  obtain ⟨y5, hy5⟩ : ∃ y, f (q + 5) = y := ⟨_, rfl⟩
  have o5 := hd.cell (i := q + 5) (by omega)
  rw [hy5] at o5
  have f5 := hd.frozen (q + 5)
  clear hy5
  obtain ⟨y6, hy6⟩ : ∃ y, f (q + 6) = y := ⟨_, rfl⟩
  have o6 := hd.cell (i := q + 6) (by omega)
  rw [hy6] at o6
  have f6 := hd.frozen (q + 6)
  clear hy6
  obtain ⟨y7, hy7⟩ : ∃ y, f (q + 7) = y := ⟨_, rfl⟩
  have o7 := hd.cell (i := q + 7) (by omega)
  rw [hy7] at o7
  have f7 := hd.frozen (q + 7)
  clear hy7
  clear hd
  go_enter Tryz.func223, Tryz.ntmps223
  go_wp2_with fail
  go_returns
  exact ⟨rfl, (rowIs_putF (x := V % 256) (rowIs_putF (x := V / 256 % 256) (rowIs_putF (x := V / 65536 % 256) (rowIs_putF (x := V / 16777216 % 256) (rowIs_putF (x := V / 4294967296 % 256) (rowIs_putF (x := V / 1099511627776 % 256) (rowIs_putF (x := V / 281474976710656 % 256) (rowIs_putF (x := V / 72057594037927936) (HD.out.congr fun j _ => putF_nil f q j) rfl (by first | rfl | (congr 1; omega))) rfl (by first | rfl | (congr 1; omega))) rfl (by first | rfl | (congr 1; omega))) rfl (by first | rfl | (congr 1; omega))) rfl (by first | rfl | (congr 1; omega))) rfl (by first | rfl | (congr 1; omega))) rfl (by first | rfl | (congr 1; omega))) rfl (by first | rfl | (congr 1; omega))), (gr_set (gr_set (gr_set (gr_set (gr_set (gr_set (gr_set (gr_set (gr_refl w _) _ _) _ _) _ _) _ _) _ _) _ _) _ _) _ _)⟩
end Go.Proofs.YtnlndpgbhmkanaaGreatDoor.Ba
