/-
  Fit: what it lets by is right, and small.
-/
import Derived.Test.YtgjmgneppecfgaaGreatDoorQVaL
import Derived.Test.YtgjmgneppecfgaaGreatDoorQVaV
import Derived.Test.YtgjmgneppecfgaaGreatDoorQVaJ
import Derived.Test.YtgjmgneppecfgaaGreatDoorQPaP
import Derived.Test.YtgjmgneppecfgaaGreatDoorQ17
set_option linter.unusedVariables false
set_option linter.unusedSimpArgs false
namespace Go.Proofs.YtgjmgneppecfgaaGreatDoor.Va
open Go.RowKit
set_option linter.unusedVariables false
set_option linter.unusedSimpArgs false

theorem value_good : ∀ (n : Nat) (x : V), x.size ≤ n → Wf x → VW x
  | 0, x, h, _ => by have := size_pos x; omega
  | n + 1, .mk k h t ls ks vs, hsz, hwf => by
    intro w0 w L p b deep bad v S hv hS hT hw hL hlk hpb hd0 hd1
    rw [RV] at hv
    obtain ⟨la, lc, ka, kc, va, vc, rfl, h1, h2, h3⟩ := hv
    rw [V.size] at hsz
    rw [Wf] at hwf
    obtain ⟨q0, q1, q2, q3, q4, q5, q6⟩ := hwf
    exact value_any k h t ls ks vs (fun x hx => value_good n x (by have := size_mem hx; omega) (q5.mem x hx)) (fun x hx => value_good n x (by have := size_mem hx; omega) (q6.mem x hx)) _ _ _ rfl rfl rfl q1 q2 q0 q4
      la ka va lc kc vc w0 w L p b deep bad S h1 h2 h3 hS hT hw hL hlk hpb hd0 hd1

/-- what Fit returns -/
def FitEnd (x : V) (w : World) (e : Ending) (w' : World) : Prop := ∃ r : Bool, e = .returned (.bool r) ∧ Below w.heap.size w w' ∧ (r = true → Good x ∧ x.size ≤ 400)

set_option maxHeartbeats 1000000 in
theorem fit_any (x : V) (hx : Wf x) (S : Nat → Prop) (w : World) (v : Value) (hv : RV w S x v) (hS : ∀ b, S b → b < w.heap.size) (hT : Tabs w) : Calls Tryz.prog 14 #[v] w (FitEnd x w) := by
  obtain ⟨la, lc, ka, kc, va, vc, t0, n0, tx, n1, n2, n3, rfl, HV⟩ := RV.parts hv
  have HS := Lib.hid hS
  have HT := Lib.hid hT
  have HX := Lib.hid hx
  clear hv hS hT hx
  go_enter Tryz.func14, Tryz.ntmps14
  go_wp2_with fail
  generalize hW : World.alloc (World.alloc w _) _ = W
  have b1 := Lib.hid (hW ▸ (by go_grown) : Below w.heap.size w W)
  have z := Lib.hid (hW ▸ (by have := block_new (w.alloc (.cells #[.int .i64 t0, .int .i64 n0, .string tx, .slice la n1 lc, .slice ka n2 kc, .slice va n3 vc] 27)) #[.int .i64 0, .int .i64 0, .bool false] 69; rwa [World.size_alloc] at this) : LK (w.heap.size + 1) 0 0 false W)
  clear hW
  refine (value_good x.size x (Nat.le_refl _) HX.out w W (w.heap.size + 1) 0 0 0 false _ S HV.out HS.out HT.out b1.out (Nat.le_succ _) z.out (fun _ => by omega) (by omega) (by omega)).mono ?_
  rintro e w1 ⟨rfl, p', b', bad', hl, hg⟩
  have c := hl.1.cells
  have hb : Below w.heap.size w w1 := Below.grown b1.out hl.2 b1.out.size (fun j hj => by cases hj; exact Nat.le_succ _)
  have HB := Lib.hid hb
  have HG := Lib.hid hg
  clear hl hg hb
  go_wp2_with fail
  go_returns
  refine ⟨!bad', rfl, HB.out, fun h => ?_⟩
  obtain ⟨_, h1, h2, h3, _⟩ := HG.out (by simpa using h)
  exact ⟨h1, by omega⟩

end Go.Proofs.YtgjmgneppecfgaaGreatDoor.Va
/-
  THE WALKS of told, given, array, zzFits1 and zzFits2.
-/
namespace Go.Proofs.YtgjmgneppecfgaaGreatDoor.Va
open Go.RowKit
set_option linter.unusedVariables false
set_option linter.unusedSimpArgs false

section
variable (t0 n0 : Int) (tx : ByteArray) (la ka va : Option Addr) (l1 l2 l3 lc kc vc : Nat) (t0' n0' : Int) (tx' : ByteArray) (la' ka' va' : Option Addr) (l1' l2' l3' lc' kc' vc' : Nat) (w : World)

set_option maxHeartbeats 1000000 in
/-- an answer that is a value, and that one -/
theorem told_fine (x : V) (H : CW x) (S : Nat → Prop) (h1 : RV w S x (.agg #[.int .i64 t0, .int .i64 n0, .string tx, .slice la l1 lc, .slice ka l2 kc, .slice va l3 vc])) (h2 : RV w S x (.agg #[.int .i64 t0', .int .i64 n0', .string tx', .slice la' l1' lc', .slice ka' l2' kc', .slice va' l3' vc'])) (hS : ∀ b, S b → b < w.heap.size) :
    Calls Tryz.prog 11 #[.agg #[.int .i64 t0, .int .i64 n0, .string tx, .slice la l1 lc, .slice ka l2 kc, .slice va l3 vc, .int .i64 0], .agg #[.int .i64 t0', .int .i64 n0', .string tx', .slice la' l1' lc', .slice ka' l2' kc', .slice va' l3' vc'], .int .i64 0] w (Ret (.bool true) w) := by
  have HH := Lib.hid H
  have HS := Lib.hid hS
  have H1 := Lib.hid h1
  have H2 := Lib.hid h2
  clear H hS h1 h2
  go_enter Tryz.func11, Tryz.ntmps11
  go_wp2_with fail
  generalize hW : World.alloc (World.alloc w _) _ = W
  have hb : Below w.heap.size w W := hW ▸ (by go_grown)
  clear hW
  refine (same_any x HH.out _ _ S W (RV.mono (Same.of_below hb HS.out) (fun _ h => h) _ _ H1.out) (RV.mono (Same.of_below hb HS.out) (fun _ h => h) _ _ H2.out) (fun b h => Nat.lt_of_lt_of_le (HS.out b h) hb.size)).mono ?_
  rintro e w' ⟨rfl, hb2⟩
  have HB := Lib.hid (hb.trans (hb2.mono hb.size))
  clear hb hb2
  go_wp2_with fail
  go_returns
  exact ⟨rfl, HB.out⟩

set_option maxHeartbeats 1000000 in
/-- an error, where one is asked for -/
theorem told_error : Calls Tryz.prog 11 #[.agg #[.int .i64 t0, .int .i64 n0, .string tx, .slice la l1 lc, .slice ka l2 kc, .slice va l3 vc, .int .i64 1], .agg #[.int .i64 t0', .int .i64 n0', .string tx', .slice la' l1' lc', .slice ka' l2' kc', .slice va' l3' vc'], .int .i64 1] w (Ret (.bool true) w) := by
  go_enter Tryz.func11, Tryz.ntmps11
  go_wp2_with fail
  go_returns
  exact ⟨rfl, by go_grown⟩

set_option maxHeartbeats 1000000 in
/-- what is not said -/
theorem told_silent (r : Int) : Calls Tryz.prog 11 #[.agg #[.int .i64 t0, .int .i64 n0, .string tx, .slice la l1 lc, .slice ka l2 kc, .slice va l3 vc, .int .i64 r], .agg #[.int .i64 t0', .int .i64 n0', .string tx', .slice la' l1' lc', .slice ka' l2' kc', .slice va' l3' vc'], .int .i64 2] w (Ret (.bool true) w) := by
  go_enter Tryz.func11, Tryz.ntmps11
  go_wp2_with fail
  go_returns
  exact ⟨rfl, by go_grown⟩

set_option maxHeartbeats 1000000 in
theorem given_fine (x : V) (H : CW x) (S : Nat → Prop) (h1 : RV w S x (.agg #[.int .i64 t0, .int .i64 n0, .string tx, .slice la l1 lc, .slice ka l2 kc, .slice va l3 vc])) (h2 : RV w S x (.agg #[.int .i64 t0', .int .i64 n0', .string tx', .slice la' l1' lc', .slice ka' l2' kc', .slice va' l3' vc'])) (hS : ∀ b, S b → b < w.heap.size) :
    Calls Tryz.prog 22 #[.agg #[.int .i64 t0, .int .i64 n0, .string tx, .slice la l1 lc, .slice ka l2 kc, .slice va l3 vc, .int .i64 0], .agg #[.int .i64 t0', .int .i64 n0', .string tx', .slice la' l1' lc', .slice ka' l2' kc', .slice va' l3' vc']] w (Ret (.bool true) w) := by
  have HH := Lib.hid H
  have HS := Lib.hid hS
  have H1 := Lib.hid h1
  have H2 := Lib.hid h2
  clear H hS h1 h2
  go_enter Tryz.func22, Tryz.ntmps22
  go_wp2_with fail
  generalize hW : World.alloc (World.alloc w _) _ = W
  have hb : Below w.heap.size w W := hW ▸ (by go_grown)
  clear hW
  refine (told_fine _ _ _ _ _ _ _ _ _ _ _ _ _ _ _ _ _ _ _ _ _ _ _ _ W x HH.out S (RV.mono (Same.of_below hb HS.out) (fun _ h => h) _ _ H1.out) (RV.mono (Same.of_below hb HS.out) (fun _ h => h) _ _ H2.out) (fun b h => Nat.lt_of_lt_of_le (HS.out b h) hb.size)).mono ?_
  rintro e w' ⟨rfl, hb2⟩
  have HB := Lib.hid (hb.trans (hb2.mono hb.size))
  clear hb hb2
  go_wp2_with fail
  go_returns
  exact ⟨rfl, HB.out⟩

set_option maxHeartbeats 400000 in
theorem array_any (a : Option Addr) (n c : Nat) : Calls Tryz.prog 8 #[.slice a n c] w (Ret (.agg #[.int .i64 5, .int .i64 0, .string ⟨#[]⟩, .slice a n c, .slice none 0 0, .slice none 0 0]) w) := by
  go_enter Tryz.func8, Tryz.ntmps8
  go_wp2_with fail
  go_returns
  exact ⟨rfl, by go_grown⟩
end

def LoopZ (n : Nat) (w : World) (i : Value) (wr : World) : Prop := ∃ k : Nat, i = .int .i64 k ∧ k ≤ n ∧ w = wr
def Bit (w : World) (e : Ending) (w' : World) : Prop := ∃ r : Bool, e = .returned (.bool r) ∧ w = w'
def BitB (w : World) (e : Ending) (w' : World) : Prop := ∃ r : Bool, e = .returned (.bool r) ∧ Below w.heap.size w w'

set_option maxHeartbeats 1000000 in
theorem zzFits2_any (l : List ByteArray) (n : Nat) (hn : l.length = n) (hq : n ≤ 140737488355328) (a : Option Addr) (c : Nat) (S : Nat → Prop) (w : World) (h : RK w S l a) : Calls Tryz.prog 41 #[.slice a n c] w (Bit w) := by
  have HN := Lib.hid hn
  have HR := Lib.hid h
  clear hn h
  go_enter Tryz.func41, Tryz.ntmps41
  by_cases hbig : (2147483647 : Int) < n
  · go_wp2_with fail
    go_returns
    exact ⟨_, rfl, rfl⟩
  go_wp2_with fail
  go_loopw [10] (LoopZ n w) (fun i _ => n - (intOf i).toNat)
  case atStart => exact ⟨0, rfl, Nat.zero_le _, rfl⟩
  case round =>
    obtain ⟨k, rfl, hk, rfl⟩ := hrel
    by_cases hlt : k < n
    · obtain ⟨b, o, rfl⟩ := HR.out.addr (by rw [HN.out]; omega)
      obtain ⟨_, hc⟩ := RK.at l b o HR.out k (by rw [HN.out]; exact hlt)
      obtain ⟨s, hs⟩ : ∃ s, Hid (l[k]'(by rw [HN.out]; exact hlt) = s) := ⟨_, Lib.hid rfl⟩
      rw [hs.out] at hc
      by_cases hsz : (2147483647 : Int) < s.size
      · go_wp2_with fail
        go_returns
        exact ⟨_, rfl, rfl⟩
      · go_wp2_with fail
        go_roundw
        case rel => exact ⟨k + 1, rfl, hlt, rfl⟩
        case measure => simp [intOf]; omega
    · obtain rfl : k = n := by omega
      go_wp2_with fail
      go_returns
      exact ⟨_, rfl, rfl⟩

set_option maxHeartbeats 1000000 in
theorem zzFits1_any (k h : Int) (t : ByteArray) (la ka va : Option Addr) (n1 lc n2 kc n3 vc : Nat) (ks : List ByteArray) (hn : ks.length = n2) (hq : n2 ≤ 140737488355328) (S : Nat → Prop) (w : World) (hk : RK w S ks ka) (hS : ∀ b, S b → b < w.heap.size) :
    Calls Tryz.prog 13 #[.agg #[.int .i64 k, .int .i64 h, .string t, .slice la n1 lc, .slice ka n2 kc, .slice va n3 vc]] w (BitB w) := by
  have HS := Lib.hid hS
  have HK := Lib.hid hk
  have HN := Lib.hid hn
  clear hS hk hn
  by_cases h1 : (2147483647 : Int) < t.size
  · go_enter Tryz.func13, Tryz.ntmps13
    go_wp2_with fail
    go_returns
    exact ⟨_, rfl, by go_grown⟩
  by_cases h2 : (2147483647 : Int) < n1
  · go_enter Tryz.func13, Tryz.ntmps13
    go_wp2_with fail
    go_returns
    exact ⟨_, rfl, by go_grown⟩
  go_enter Tryz.func13, Tryz.ntmps13
  go_wp2_with fail
  refine (zzFits2_any ks n2 HN.out hq ka _ S _ (RK.mono (Same.of_below (below_alloc w _) HS.out) (fun _ h => h) _ _ HK.out)).mono ?_
  rintro e w' ⟨r, rfl, rfl⟩
  cases r
  · go_wp2_with fail
    go_returns
    exact ⟨_, rfl, by go_grown⟩
  · by_cases h3 : (2147483647 : Int) < n3
    · go_wp2_with fail
      go_returns
      exact ⟨_, rfl, by go_grown⟩
    · go_wp2_with fail
      go_returns
      exact ⟨_, rfl, by go_grown⟩

end Go.Proofs.YtgjmgneppecfgaaGreatDoor.Va
/-
  FnMarshalBack: the law's walk.
-/
namespace Go.Proofs.YtgjmgneppecfgaaGreatDoor.Pa
open Go.RowKit Go.Proofs.YtgjmgneppecfgaaGreatDoor.Va Go.Proofs.YtgjmgneppecfgaaGreatDoor.Ba Go.Proofs.YtgjmgneppecfgaaGreatDoor.Ma
set_option linter.unusedVariables false
set_option linter.unusedSimpArgs false

def LawEnd (w : World) (e : Ending) (w' : World) : Prop := e = .returned (.bool true) ∧ Below w.heap.size w w'
set_option maxHeartbeats 2000000 in
set_option maxRecDepth 100000 in
theorem marshalBack_law (x : V) (hx : Wf x) (v : Value) (S : Nat → Prop) (w : World) (hv : RV w S x v) (hS : ∀ b, S b → b < w.heap.size) (hT : Tabs w) : Calls Tryz.prog 4 #[v] w (LawEnd w) := by
  have HV0 := Lib.hid hv
  have HX := Lib.hid hx
  have HS := Lib.hid hS
  have HT := Lib.hid hT
  obtain ⟨k, h, t, la, lc, n1, ka, kc, ks, n2, va, vc, n3, hn2, hq2, hk, rfl⟩ : ∃ (k h : Int) (t : ByteArray) (la : Option Addr) (lc n1 : Nat) (ka : Option Addr) (kc : Nat) (ks : List ByteArray) (n2 : Nat) (va : Option Addr) (vc n3 : Nat), ks.length = n2 ∧ n2 ≤ 140737488355328 ∧ RK w S ks ka ∧ v = .agg #[.int .i64 k, .int .i64 h, .string t, .slice la n1 lc, .slice ka n2 kc, .slice va n3 vc] := by
    cases x with
    | mk k h t ls ks vs =>
      rw [RV] at hv
      rw [Wf] at hx
      obtain ⟨la, lc, ka, kc, va, vc, e, _, h2, _⟩ := hv
      exact ⟨k, h, t, la, lc, _, ka, kc, ks, _, va, vc, _, rfl, hx.2.2.1, h2, e⟩
  have HK := Lib.hid hk
  have HN := Lib.hid hn2
  clear hv hx hS hT hk hn2
  go_enter Tryz.func4, Tryz.ntmps4
  go_wp2_with fail
  generalize hW : World.alloc w _ = W
  have B1 := Lib.hid (hW ▸ below_alloc w _ : Below w.heap.size w W)
  have z : W.heap[w.heap.size]? = some (.cells #[.int .i64 k, .int .i64 h, .string t, .slice la n1 lc, .slice ka n2 kc, .slice va n3 vc] 27 (0, 0)) := hW ▸ block_new w _ _
  clear hW
  refine (zzFits1_any k h t la ka va n1 lc n2 kc n3 vc ks HN.out hq2 S W (RK.mono (Same.of_below B1.out HS.out) (fun _ h => h) _ _ HK.out) (fun b h => Nat.lt_of_lt_of_le (HS.out b h) B1.out.size)).mono ?_
  rintro e w1 ⟨r1, rfl, hb1⟩
  have B2 := Lib.hid (B1.out.trans (hb1.mono B1.out.size))
  have Z1 := Lib.hid (keep hb1 z)
  clear z hb1
  cases r1
  · go_wp2_with fail
    go_returns
    exact ⟨rfl, B2.out⟩
  · have hc := cells6 Z1.out
    go_wp2_with fail
    clear hc
    refine (fit_any x HX.out S w1 _ (RV.mono (Same.of_below B2.out HS.out) (fun _ h => h) _ _ HV0.out) (fun b h => Nat.lt_of_lt_of_le (HS.out b h) B2.out.size) (HT.out.below B2.out)).mono ?_
    rintro e w2 ⟨r2, rfl, hb2, hgood⟩
    have B3 := Lib.hid (B2.out.trans (hb2.mono B2.out.size))
    have Z2 := Lib.hid (keep hb2 Z1.out)
    clear hb2
    cases r2
    · go_wp2_with fail
      go_returns
      exact ⟨rfl, B3.out⟩
    · obtain ⟨hg, hsz⟩ := hgood rfl
      have HG := Lib.hid hg
      have hc := cells6 Z2.out
      clear hgood hg
      go_wp2_with fail
      clear hc
      refine (Mb.marshal_any x HG.out hsz _ S w2 (RV.mono (Same.of_below B3.out HS.out) (fun _ h => h) _ _ HV0.out) (fun b h => Nat.lt_of_lt_of_le (HS.out b h) B3.out.size) (HT.out.below B3.out)).mono ?_
      rintro e w3 ⟨rfl, hb3⟩
      have B4 := Lib.hid (B3.out.trans (hb3.mono B3.out.size))
      have Z3 := Lib.hid (keep hb3 Z2.out)
      clear hb3
      have HPA := Lib.hid (fun W => parse_any x HG.out hsz W)
      obtain ⟨js, hjs⟩ : ∃ js, numS (encJ x) = js := ⟨_, rfl⟩
      rw [hjs] at HPA ⊢
      clear hjs
      go_wp2_with fail
      refine (HPA.out w3).mono ?_
      rintro e w4 ⟨v4, y, how, rfl, hb4, hv4, hhow⟩
      obtain ⟨la4, lc4, ka4, kc4, va4, vc4, t4, m4, tx4, q1, q2, q3, rfl, HXV⟩ := RV.parts hv4
      have B5 := Lib.hid (B4.out.trans (hb4.mono B4.out.size))
      have Z4 := Lib.hid (keep hb4 Z3.out)
      have HXL := Lib.hid (RV.lt _ _ HXV.out)
      have HCMP := Lib.hid (cmp_good 400 x hsz (by omega) HG.out)
      clear hb4 hv4 HPA
      rcases hhow with rfl | ⟨rfl, rfl⟩
      · go_wp2_with fail
        go_returns
        exact ⟨rfl, B5.out.alloc B5.out.size _⟩
      · have c4 := cells6 (block_past Z4.out (.cells #[.int .i64 t4, .int .i64 m4, .string tx4, .slice la4 q1 lc4, .slice ka4 q2 kc4, .slice va4 q3 vc4] 27 (0, 0)))
        have hlt4 := heap_lt Z4.out
        have c5 := cells6 Z4.out
        go_wp2_with fail
        generalize hW5 : World.alloc w4 _ = W5
        have b5 := hW5 ▸ below_alloc w4 _
        have HV5 := Lib.hid (RV.mono (w' := W5) (T := fun r => r < W5.heap.size) (Same.of_below b5 fun b hb => hb.2) (fun b hb => Nat.lt_of_lt_of_le hb.2 b5.size) _ _ HXL.out)
        have B6 := Lib.hid (B5.out.trans (b5.mono B5.out.size))
        clear hW5 b5
        refine (same_any y HCMP.out _ _ (fun r => r < W5.heap.size) W5 HV5.out (RV.mono (Same.of_below B6.out HS.out) (fun b h => Nat.lt_of_lt_of_le (HS.out b h) B6.out.size) _ _ HV0.out) (fun b h => h)).mono ?_
        rintro e w6 ⟨rfl, hb6⟩
        have B7 := Lib.hid (B6.out.trans (hb6.mono B6.out.size))
        clear hb6 c4 c5
        go_wp2_with fail
        go_returns
        exact ⟨rfl, B7.out⟩
end Go.Proofs.YtgjmgneppecfgaaGreatDoor.Pa
