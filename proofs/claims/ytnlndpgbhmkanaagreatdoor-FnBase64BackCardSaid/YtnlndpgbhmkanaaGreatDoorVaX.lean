/-
  THE WALKS of told, given, array, zzFits1 and zzFits2.
-/
import Derived.Test.YtnlndpgbhmkanaaGreatDoorVaV
import Derived.Test.YtnlndpgbhmkanaaGreatDoorVaJ
namespace Go.Proofs.YtnlndpgbhmkanaaGreatDoor.Va
open Go.RowKit
set_option linter.unusedVariables false
set_option linter.unusedSimpArgs false

section
variable (t0 n0 : Int) (tx : ByteArray) (la ka va : Option Addr) (l1 l2 l3 lc kc vc : Nat) (t0' n0' : Int) (tx' : ByteArray) (la' ka' va' : Option Addr) (l1' l2' l3' lc' kc' vc' : Nat) (w : World)

set_option maxHeartbeats 1000000 in
/-- an answer that is a value, and that one -/
theorem told_fine (x : V) (H : CW x) (S : Nat → Prop) (h1 : RV w S x (.agg #[.int .i64 t0, .int .i64 n0, .string tx, .slice la l1 lc, .slice ka l2 kc, .slice va l3 vc])) (h2 : RV w S x (.agg #[.int .i64 t0', .int .i64 n0', .string tx', .slice la' l1' lc', .slice ka' l2' kc', .slice va' l3' vc'])) (hS : ∀ b, S b → b < w.heap.size) :
    Calls Tryz.prog 11 #[.agg #[.int .i64 t0, .int .i64 n0, .string tx, .slice la l1 lc, .slice ka l2 kc, .slice va l3 vc, .int .i64 0], .agg #[.int .i64 t0', .int .i64 n0', .string tx', .slice la' l1' lc', .slice ka' l2' kc', .slice va' l3' vc'], .int .i64 0] w (Ret (.bool true) w) := by
  have HH := Lib.hid H
  have HS := Lib.hid hS
  have H1 := Lib.hid h1
  have H2 := Lib.hid h2
  clear H hS h1 h2
  go_enter Tryz.func11, Tryz.ntmps11
  go_wp2_with fail
  generalize hW : World.alloc (World.alloc w _) _ = W
  have hb : Below w.heap.size w W := hW ▸ (by go_grown)
  clear hW
  refine (same_any x HH.out _ _ S W (RV.mono (Same.of_below hb HS.out) (fun _ h => h) _ _ H1.out) (RV.mono (Same.of_below hb HS.out) (fun _ h => h) _ _ H2.out) (fun b h => Nat.lt_of_lt_of_le (HS.out b h) hb.size)).mono ?_
  rintro e w' ⟨rfl, hb2⟩
  have HB := Lib.hid (hb.trans (hb2.mono hb.size))
  clear hb hb2
  go_wp2_with fail
  go_returns
  exact ⟨rfl, HB.out⟩

set_option maxHeartbeats 1000000 in
/-- an error, where one is asked for -/
theorem told_error : Calls Tryz.prog 11 #[.agg #[.int .i64 t0, .int .i64 n0, .string tx, .slice la l1 lc, .slice ka l2 kc, .slice va l3 vc, .int .i64 1], .agg #[.int .i64 t0', .int .i64 n0', .string tx', .slice la' l1' lc', .slice ka' l2' kc', .slice va' l3' vc'], .int .i64 1] w (Ret (.bool true) w) := by
  go_enter Tryz.func11, Tryz.ntmps11
  go_wp2_with fail
  go_returns
  exact ⟨rfl, by go_grown⟩

set_option maxHeartbeats 1000000 in
/-- what is not said -/
theorem told_silent (r : Int) : Calls Tryz.prog 11 #[.agg #[.int .i64 t0, .int .i64 n0, .string tx, .slice la l1 lc, .slice ka l2 kc, .slice va l3 vc, .int .i64 r], .agg #[.int .i64 t0', .int .i64 n0', .string tx', .slice la' l1' lc', .slice ka' l2' kc', .slice va' l3' vc'], .int .i64 2] w (Ret (.bool true) w) := by
  go_enter Tryz.func11, Tryz.ntmps11
  go_wp2_with fail
  go_returns
  exact ⟨rfl, by go_grown⟩

set_option maxHeartbeats 1000000 in
theorem given_fine (x : V) (H : CW x) (S : Nat → Prop) (h1 : RV w S x (.agg #[.int .i64 t0, .int .i64 n0, .string tx, .slice la l1 lc, .slice ka l2 kc, .slice va l3 vc])) (h2 : RV w S x (.agg #[.int .i64 t0', .int .i64 n0', .string tx', .slice la' l1' lc', .slice ka' l2' kc', .slice va' l3' vc'])) (hS : ∀ b, S b → b < w.heap.size) :
    Calls Tryz.prog 22 #[.agg #[.int .i64 t0, .int .i64 n0, .string tx, .slice la l1 lc, .slice ka l2 kc, .slice va l3 vc, .int .i64 0], .agg #[.int .i64 t0', .int .i64 n0', .string tx', .slice la' l1' lc', .slice ka' l2' kc', .slice va' l3' vc']] w (Ret (.bool true) w) := by
  have HH := Lib.hid H
  have HS := Lib.hid hS
  have H1 := Lib.hid h1
  have H2 := Lib.hid h2
  clear H hS h1 h2
  go_enter Tryz.func22, Tryz.ntmps22
  go_wp2_with fail
  generalize hW : World.alloc (World.alloc w _) _ = W
  have hb : Below w.heap.size w W := hW ▸ (by go_grown)
  clear hW
  refine (told_fine _ _ _ _ _ _ _ _ _ _ _ _ _ _ _ _ _ _ _ _ _ _ _ _ W x HH.out S (RV.mono (Same.of_below hb HS.out) (fun _ h => h) _ _ H1.out) (RV.mono (Same.of_below hb HS.out) (fun _ h => h) _ _ H2.out) (fun b h => Nat.lt_of_lt_of_le (HS.out b h) hb.size)).mono ?_
  rintro e w' ⟨rfl, hb2⟩
  have HB := Lib.hid (hb.trans (hb2.mono hb.size))
  clear hb hb2
  go_wp2_with fail
  go_returns
  exact ⟨rfl, HB.out⟩

set_option maxHeartbeats 400000 in
theorem array_any (a : Option Addr) (n c : Nat) : Calls Tryz.prog 8 #[.slice a n c] w (Ret (.agg #[.int .i64 5, .int .i64 0, .string ⟨#[]⟩, .slice a n c, .slice none 0 0, .slice none 0 0]) w) := by
  go_enter Tryz.func8, Tryz.ntmps8
  go_wp2_with fail
  go_returns
  exact ⟨rfl, by go_grown⟩
end

def LoopZ (n : Nat) (w : World) (i : Value) (wr : World) : Prop := ∃ k : Nat, i = .int .i64 k ∧ k ≤ n ∧ w = wr
def Bit (w : World) (e : Ending) (w' : World) : Prop := ∃ r : Bool, e = .returned (.bool r) ∧ w = w'
def BitB (w : World) (e : Ending) (w' : World) : Prop := ∃ r : Bool, e = .returned (.bool r) ∧ Below w.heap.size w w'

set_option maxHeartbeats 1000000 in
theorem zzFits2_any (l : List ByteArray) (n : Nat) (hn : l.length = n) (hq : n ≤ 140737488355328) (a : Option Addr) (c : Nat) (S : Nat → Prop) (w : World) (h : RK w S l a) : Calls Tryz.prog 41 #[.slice a n c] w (Bit w) := by
  have HN := Lib.hid hn
  have HR := Lib.hid h
  clear hn h
  go_enter Tryz.func41, Tryz.ntmps41
  by_cases hbig : (2147483647 : Int) < n
  · go_wp2_with fail
    go_returns
    exact ⟨_, rfl, rfl⟩
  go_wp2_with fail
  go_loopw [10] (LoopZ n w) (fun i _ => n - (intOf i).toNat)
  case atStart => exact ⟨0, rfl, Nat.zero_le _, rfl⟩
  case round =>
    obtain ⟨k, rfl, hk, rfl⟩ := hrel
    by_cases hlt : k < n
    · obtain ⟨b, o, rfl⟩ := HR.out.addr (by rw [HN.out]; omega)
      obtain ⟨_, hc⟩ := RK.at l b o HR.out k (by rw [HN.out]; exact hlt)
      obtain ⟨s, hs⟩ : ∃ s, Hid (l[k]'(by rw [HN.out]; exact hlt) = s) := ⟨_, Lib.hid rfl⟩
      rw [hs.out] at hc
      by_cases hsz : (2147483647 : Int) < s.size
      · go_wp2_with fail
        go_returns
        exact ⟨_, rfl, rfl⟩
      · go_wp2_with fail
        go_roundw
        case rel => exact ⟨k + 1, rfl, hlt, rfl⟩
        case measure => simp [intOf]; omega
    · obtain rfl : k = n := by omega
      go_wp2_with fail
      go_returns
      exact ⟨_, rfl, rfl⟩

set_option maxHeartbeats 1000000 in
theorem zzFits1_any (k h : Int) (t : ByteArray) (la ka va : Option Addr) (n1 lc n2 kc n3 vc : Nat) (ks : List ByteArray) (hn : ks.length = n2) (hq : n2 ≤ 140737488355328) (S : Nat → Prop) (w : World) (hk : RK w S ks ka) (hS : ∀ b, S b → b < w.heap.size) :
    Calls Tryz.prog 13 #[.agg #[.int .i64 k, .int .i64 h, .string t, .slice la n1 lc, .slice ka n2 kc, .slice va n3 vc]] w (BitB w) := by
  have HS := Lib.hid hS
  have HK := Lib.hid hk
  have HN := Lib.hid hn
  clear hS hk hn
  by_cases h1 : (2147483647 : Int) < t.size
  · go_enter Tryz.func13, Tryz.ntmps13
    go_wp2_with fail
    go_returns
    exact ⟨_, rfl, by go_grown⟩
  by_cases h2 : (2147483647 : Int) < n1
  · go_enter Tryz.func13, Tryz.ntmps13
    go_wp2_with fail
    go_returns
    exact ⟨_, rfl, by go_grown⟩
  go_enter Tryz.func13, Tryz.ntmps13
  go_wp2_with fail
  refine (zzFits2_any ks n2 HN.out hq ka _ S _ (RK.mono (Same.of_below (below_alloc w _) HS.out) (fun _ h => h) _ _ HK.out)).mono ?_
  rintro e w' ⟨r, rfl, rfl⟩
  cases r
  · go_wp2_with fail
    go_returns
    exact ⟨_, rfl, by go_grown⟩
  · by_cases h3 : (2147483647 : Int) < n3
    · go_wp2_with fail
      go_returns
      exact ⟨_, rfl, by go_grown⟩
    · go_wp2_with fail
      go_returns
      exact ⟨_, rfl, by go_grown⟩

end Go.Proofs.YtnlndpgbhmkanaaGreatDoor.Va
