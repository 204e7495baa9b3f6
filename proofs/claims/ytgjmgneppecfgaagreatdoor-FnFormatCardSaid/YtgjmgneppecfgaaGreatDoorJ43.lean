/-
  FnFormat, texts VaP FoX FoY: lemmas for the law; the theorem stands in the last text.
-/
import Derived.Test.YtgjmgneppecfgaaGreatDoorJ17
import Derived.Test.YtgjmgneppecfgaaGreatDoorJ42
namespace Go.Proofs.YtgjmgneppecfgaaGreatDoor.Va
open Go.RowKit
set_option linter.unusedVariables false
set_option linter.unusedSimpArgs false

theorem value_good : ∀ (n : Nat) (x : V), x.size ≤ n → Wf x → VW x
  | 0, x, h, _ => by have := size_pos x; omega
  | n + 1, .mk k h t ls ks vs, hsz, hwf => by
    intro w0 w L p b deep bad v S hv hS hT hw hL hlk hpb hd0 hd1
    rw [RV] at hv
    obtain ⟨la, lc, ka, kc, va, vc, rfl, h1, h2, h3⟩ := hv
    rw [V.size] at hsz
    rw [Wf] at hwf
    obtain ⟨q0, q1, q2, q3, q4, q5, q6⟩ := hwf
    exact value_any k h t ls ks vs (fun x hx => value_good n x (by have := size_mem hx; omega) (q5.mem x hx)) (fun x hx => value_good n x (by have := size_mem hx; omega) (q6.mem x hx)) _ _ _ rfl rfl rfl q1 q2 q0 q4
      la ka va lc kc vc w0 w L p b deep bad S h1 h2 h3 hS hT hw hL hlk hpb hd0 hd1

/-- what Fit returns -/
def FitEnd (x : V) (w : World) (e : Ending) (w' : World) : Prop := ∃ r : Bool, e = .returned (.bool r) ∧ Below w.heap.size w w' ∧ (r = true → Good x ∧ x.size ≤ 400)

set_option maxHeartbeats 1000000 in
theorem fit_any (x : V) (hx : Wf x) (S : Nat → Prop) (w : World) (v : Value) (hv : RV w S x v) (hS : ∀ b, S b → b < w.heap.size) (hT : Tabs w) : Calls Tryz.prog 14 #[v] w (FitEnd x w) := by
  obtain ⟨la, lc, ka, kc, va, vc, t0, n0, tx, n1, n2, n3, rfl, HV⟩ := RV.parts hv
  have HS := Lib.hid hS
  have HT := Lib.hid hT
  have HX := Lib.hid hx
  clear hv hS hT hx
  go_enter Tryz.func14, Tryz.ntmps14
  go_wp2_with fail
  generalize hW : World.alloc (World.alloc w _) _ = W
  have b1 := Lib.hid (hW ▸ (by go_grown) : Below w.heap.size w W)
  have z := Lib.hid (hW ▸ (by have := block_new (w.alloc (.cells #[.int .i64 t0, .int .i64 n0, .string tx, .slice la n1 lc, .slice ka n2 kc, .slice va n3 vc] 27)) #[.int .i64 0, .int .i64 0, .bool false] 69; rwa [World.size_alloc] at this) : LK (w.heap.size + 1) 0 0 false W)
  clear hW
  refine (value_good x.size x (Nat.le_refl _) HX.out w W (w.heap.size + 1) 0 0 0 false _ S HV.out HS.out HT.out b1.out (Nat.le_succ _) z.out (fun _ => by omega) (by omega) (by omega)).mono ?_
  rintro e w1 ⟨rfl, p', b', bad', hl, hg⟩
  have c := hl.1.cells
  have hb : Below w.heap.size w w1 := Below.grown b1.out hl.2 b1.out.size (fun j hj => by cases hj; exact Nat.le_succ _)
  have HB := Lib.hid hb
  have HG := Lib.hid hg
  clear hl hg hb
  go_wp2_with fail
  go_returns
  refine ⟨!bad', rfl, HB.out, fun h => ?_⟩
  obtain ⟨_, h1, h2, h3, _⟩ := HG.out (by simpa using h)
  exact ⟨h1, by omega⟩

end Go.Proofs.YtgjmgneppecfgaaGreatDoor.Va
namespace Go.Proofs.YtgjmgneppecfgaaGreatDoor.Fo
open Go.RowKit Go.Proofs.YtgjmgneppecfgaaGreatDoor.Va Go.Proofs.YtgjmgneppecfgaaGreatDoor.Ba Go.Proofs.YtgjmgneppecfgaaGreatDoor.Ma Go.Proofs.YtgjmgneppecfgaaGreatDoor.Pa
set_option linter.unusedVariables false
set_option linter.unusedSimpArgs false

def AmongEnd (l : List ByteArray) (s : ByteArray) (w : World) (e : Ending) (w' : World) : Prop := ∃ b : Bool, e = .returned (.bool b) ∧ (b = true ↔ s ∈ l) ∧ w = w'
def LoopA (l : List ByteArray) (s : ByteArray) (w : World) (iv : Value) (wr : World) : Prop := ∃ i : Nat, iv = .int .i64 (i : Int) ∧ i ≤ l.length ∧ (∀ j (h : j < l.length), j < i → l[j] ≠ s) ∧ w = wr
set_option maxHeartbeats 2000000 in
theorem among_any (l : List ByteArray) (s : ByteArray) (n c : Nat) (hn : l.length = n) (hq : n ≤ 1000) (a : Option Addr) (S : Nat → Prop) (w : World) (hk : RK w S l a) : Calls Tryz.prog 26 #[.slice a n c, .string s] w (AmongEnd l s w) := by
  have HK := Lib.hid hk
  have HN := Lib.hid hn
  clear hk hn
  go_enter Tryz.func26, Tryz.ntmps26
  go_wp2_with fail
  go_loopw [5] (LoopA l s w) (fun iv _ => n - (intOf iv).toNat)
  case atStart => exact ⟨0, rfl, Nat.zero_le _, fun j h hj => by omega, rfl⟩
  case round =>
    obtain ⟨i, rfl, hi, hno, rfl⟩ := hrel
    rw [HN.out] at hi
    have HNO := Lib.hid hno
    clear hno
    by_cases hlt : i < n
    · have hil : i < l.length := by rw [HN.out]; exact hlt
      obtain ⟨b, o, rfl⟩ := HK.out.addr (by omega)
      obtain ⟨_, hc⟩ := RK.at l b o HK.out i hil
      obtain ⟨t, ht⟩ : ∃ t, l[i]'hil = t := ⟨_, rfl⟩
      have HTT := Lib.hid ht
      rw [ht] at hc
      clear ht
      by_cases heq : t = s
      · have hq2 := beq_yes heq
        go_wp2_with fail
        go_returns
        exact ⟨true, rfl, ⟨fun _ => by rw [← heq, ← HTT.out]; exact List.getElem_mem hil, fun _ => rfl⟩, rfl⟩
      · have hq2 := beq_no heq
        go_wp2_with fail
        try go_simp
        refine ⟨⟨i + 1, by push_cast; rfl, hil, fun j h hj => ?_, rfl⟩, by simp [intOf] <;> omega⟩
        by_cases hji : j = i
        · subst hji
          rw [HTT.out]; exact heq
        · exact HNO.out j h (by omega)
    · go_wp2_with fail
      go_returns
      refine ⟨false, rfl, ⟨fun h => (by cases h), fun h => ?_⟩, rfl⟩
      obtain ⟨j, hj, e⟩ := List.getElem_of_mem h
      exact absurd e (HNO.out j hj (by rw [HN.out] at hj; omega))
/-- the names that are asked for -/
def FM : List ByteArray := [⟨#[64, 116, 101, 120, 116]⟩, ⟨#[64, 106, 115, 111, 110]⟩, ⟨#[64, 104, 116, 109, 108]⟩, ⟨#[64, 117, 114, 105]⟩, ⟨#[64, 99, 115, 118]⟩, ⟨#[64, 116, 115, 118]⟩, ⟨#[64, 115, 104]⟩, ⟨#[64, 98, 97, 115, 101, 54, 52]⟩, ⟨#[64, 98, 97, 115, 101, 54, 52, 100]⟩]
theorem formats_any (w : World) : Calls Tryz.prog 27 #[] w (fun e w' => e = .returned (.slice (some ⟨w.heap.size, 0, none⟩) 9 9) ∧ RK w' (fun b => b = w.heap.size) FM (some ⟨w.heap.size, 0, none⟩) ∧ Below w.heap.size w w') := by
  go_enter Tryz.func27, Tryz.ntmps27
  go_wp2_with fail
  go_returns
  exact ⟨rfl, Mc.rk_of (block_new w _ _) FM (by kernel_rfl), below_alloc w _⟩
def LoopFi (x : V) (w : World) (iv : Value) (wr : World) : Prop := ∃ i : Nat, iv = .int .i64 (i : Int) ∧ i ≤ 1 ∧ Below w.heap.size w wr ∧ (0 < i → Va.Good x ∧ x.size ≤ 400)
set_option maxHeartbeats 2000000 in
theorem fine_any (x : V) (hx : Wf x) (S : Nat → Prop) (w : World) (k h : Int) (t : ByteArray) (la : Option Addr) (n1 lc : Nat) (ka : Option Addr) (n2 kc : Nat) (va : Option Addr) (n3 vc : Nat) (hv : RV w S x (.agg #[.int .i64 k, .int .i64 h, .string t, .slice la n1 lc, .slice ka n2 kc, .slice va n3 vc])) (hS : ∀ b, S b → b < w.heap.size) (hT : Tabs w) (b : Nat)
    (hb : w.heap[b]? = some (.cells #[.int .i64 k, .int .i64 h, .string t, .slice la n1 lc, .slice ka n2 kc, .slice va n3 vc] 27 (0, 0))) : Calls Tryz.prog 24 #[.slice (some ⟨b, 0, none⟩) 1 1] w (FitEnd x w) := by
  have HFIT := Lib.hid (fun (w1 : World) (hb1 : Below w.heap.size w w1) => fit_any x hx S w1 _ (RV.mono (Same.of_below hb1 hS) (fun _ h => h) _ _ hv) (fun b h => Nat.lt_of_lt_of_le (hS b h) hb1.size) (hT.below hb1))
  have HB := Lib.hid hb
  have htl : t.size ≤ 9223372036854775807 := by
    cases x with
    | mk k' h' t' ls ks vs =>
    rw [RV] at hv
    obtain ⟨la', lc', ka', kc', va', vc', e, _⟩ := hv
    simp only [Value.agg.injEq, Array.mk.injEq, List.cons.injEq, and_true, Value.string.injEq] at e
    rw [Wf] at hx
    have := hx.1
    rw [e.2.2.1]
    unfold Q at this
    omega
  clear hx hv hS hT hb
  go_enter Tryz.func24, Tryz.ntmps24
  go_wp2_with fail
  go_loopw [3] (LoopFi x w) (fun iv _ => 1 - (intOf iv).toNat)
  case atStart => exact ⟨0, rfl, Nat.zero_le _, Below.refl _ _, fun h => absurd h (by omega)⟩
  case round =>
    obtain ⟨i, rfl, hi, hbl, hgood⟩ := hrel
    have HBL := Lib.hid hbl
    have HGOOD := Lib.hid hgood
    have yy := cells6 (keep hbl HB.out)
    clear hbl hgood
    rcases (show i = 0 ∨ i = 1 by omega) with rfl | rfl
    · by_cases hbig : 4096 < t.size
      · go_wp2_with fail
        go_returns
        exact ⟨false, rfl, HBL.out, fun h => by cases h⟩
      · go_wp2_with fail
        refine (HFIT.out wr HBL.out).mono ?_
        rintro e w2 ⟨r2, rfl, hb2, hgd⟩
        have HB2 := Lib.hid (HBL.out.trans (hb2.mono HBL.out.size))
        have HGD := Lib.hid hgd
        clear hb2 yy hgd
        cases r2 with
        | false =>
          go_wp2_with fail
          go_returns
          exact ⟨false, rfl, HB2.out, fun h => by cases h⟩
        | true =>
          go_wp2_with fail
          try go_simp
          exact ⟨⟨1, rfl, Nat.le_refl _, HB2.out, fun _ => HGD.out (by trivial)⟩, by simp [intOf]⟩
    · go_wp2_with fail
      go_returns
      exact ⟨true, rfl, HBL.out, fun _ => HGOOD.out (by omega)⟩
end Go.Proofs.YtgjmgneppecfgaaGreatDoor.Fo
namespace Go.Proofs.YtgjmgneppecfgaaGreatDoor.Fo
open Go.RowKit Go.Proofs.YtgjmgneppecfgaaGreatDoor.Va Go.Proofs.YtgjmgneppecfgaaGreatDoor.Ba Go.Proofs.YtgjmgneppecfgaaGreatDoor.Ma Go.Proofs.YtgjmgneppecfgaaGreatDoor.Pa
open Go.Proofs.YtgjmgneppecfgaaGreatDoor.Mc (UrlTab ResEnd errV badV)
set_option linter.unusedVariables false
set_option linter.unusedSimpArgs false

def LawEnd (w : World) (e : Ending) (w' : World) : Prop := e = .returned (.bool true) ∧ Below w.heap.size w w'
set_option hygiene false in
/-
  the law up to the format's call
-/
def TwoB (a b : Nat) (x y : Obj) (w : World) : Prop := w.heap[a]? = some x ∧ w.heap[b]? = some y
theorem res_uni {P : ByteArray → Prop} {E : Prop} {w : World} {e : Ending} {w' : World} (h : ResEnd P E w e w') : ∃ (k0 : Int) (t0 : ByteArray) (la0 : Option Addr) (lc0 : Nat) (ka0 : Option Addr) (kc0 : Nat) (va0 : Option Addr) (vc0 : Nat) (r0 : Int), e = .returned (.agg #[.int .i64 k0, .int .i64 0, .string t0, .slice la0 0 lc0, .slice ka0 0 kc0, .slice va0 0 vc0, .int .i64 r0]) ∧ ((k0 = 4 ∧ r0 = 0 ∧ P t0) ∨ (E ∧ k0 = 0 ∧ r0 = 1)) ∧ Below w.heap.size w w' := by
  obtain ⟨⟨t, la, lc, ka, kc, va, vc, hP, rfl⟩ | ⟨hE, rfl⟩, hb⟩ := h
  · exact ⟨4, t, la, lc, ka, kc, va, vc, 0, rfl, .inl ⟨rfl, rfl, hP⟩, hb⟩
  · exact ⟨0, _, none, 0, none, 0, none, 0, 1, rfl, .inr ⟨hE, rfl, rfl⟩, hb⟩
/-- what the law needs of a name -/
def NameOk (name : ByteArray) (x : V) (P : ByteArray → Prop) (E : Prop) : Prop :=
  (∀ (v : Value) (S : Nat → Prop) (w : World), RV w S x v → (∀ b, S b → b < w.heap.size) → Tabs w → UrlTab w → Calls Tryz.prog 25 #[.string name, v] w (ResEnd P E w)) ∧
  (∀ (v : Value) (S : Nat → Prop) (w : World), RV w S x v → (∀ b, S b → b < w.heap.size) → Calls Tryz.prog 60 #[.string (name.extract 1 name.size), v] w (FmtEnd P E w))
set_option maxHeartbeats 8000000 in
set_option maxRecDepth 100000 in
theorem law_core (name : ByteArray) (hname : name.size ≤ 9223372036854775807) (hmem : name ∈ FM) (x : V) (hx : Wf x) (P : ByteArray → Prop) (E : Prop) (HNM : Va.Good x → x.size ≤ 400 → NameOk name x P E) (v : Value) (S : Nat → Prop) (w : World) (hv : RV w S x v) (hS : ∀ b, S b → b < w.heap.size) (hT : Tabs w) (hU : UrlTab w) : Calls Tryz.prog 6 #[.string name, v] w (LawEnd w) := by
  have HMEM := Lib.hid hmem
  clear hmem
  (have HV0 := Lib.hid hv
   have HX := Lib.hid hx
   have HS := Lib.hid hS
   have HT := Lib.hid hT
   have HU := Lib.hid hU
   obtain ⟨k, h, t, la, lc, n1, ka, kc, ks, n2, va, vc, n3, hn2, hq2, hk, rfl⟩ : ∃ (k h : Int) (t : ByteArray) (la : Option Addr) (lc n1 : Nat) (ka : Option Addr) (kc : Nat) (ks : List ByteArray) (n2 : Nat) (va : Option Addr) (vc n3 : Nat), ks.length = n2 ∧ n2 ≤ 140737488355328 ∧ RK w S ks ka ∧ v = .agg #[.int .i64 k, .int .i64 h, .string t, .slice la n1 lc, .slice ka n2 kc, .slice va n3 vc] := by
     cases x with
     | mk k h t ls ks vs =>
       rw [RV] at hv
       rw [Wf] at hx
       obtain ⟨la, lc, ka, kc, va, vc, e, _, h2, _⟩ := hv
       exact ⟨k, h, t, la, lc, _, ka, kc, ks, _, va, vc, _, rfl, hx.2.2.1, h2, e⟩
   have HK := Lib.hid hk
   have HN := Lib.hid hn2
   clear hv hx hS hT hU hk hn2
   obtain ⟨nn, hnn⟩ : ∃ nn, name.size = nn := ⟨_, rfl⟩
   have HNN := Lib.hid hnn
   rw [hnn] at hname
   go_enter Tryz.func6, Tryz.ntmps6
   by_cases hbig : 2147483647 < nn
   · go_wp2_with fail
     go_returns
     exact ⟨rfl, by go_grown⟩
   go_wp2_with fail
   generalize hW : World.alloc w _ = W
   have B1 := Lib.hid (hW ▸ below_alloc w _ : Below w.heap.size w W)
   have z : W.heap[w.heap.size]? = some (.cells #[.int .i64 k, .int .i64 h, .string t, .slice la n1 lc, .slice ka n2 kc, .slice va n3 vc] 27 (0, 0)) := hW ▸ block_new w _ _
   clear hW
   refine (zzFits1_any k h t la ka va n1 lc n2 kc n3 vc ks HN.out hq2 S W (RK.mono (Same.of_below B1.out HS.out) (fun _ h => h) _ _ HK.out) (fun b h => Nat.lt_of_lt_of_le (HS.out b h) B1.out.size)).mono ?_
   rintro e w1 ⟨r1, rfl, hb1⟩
   have B2 := Lib.hid (B1.out.trans (hb1.mono B1.out.size))
   have Z1 := Lib.hid (keep hb1 z)
   clear z hb1
   cases r1
   · go_wp2_with fail
     go_returns
     exact ⟨rfl, B2.out⟩
   have hc := cells6 Z1.out
   go_wp2_with fail
   generalize hW2 : World.alloc w1 _ = W2
   have hb2 : Below w1.heap.size w1 W2 := hW2 ▸ below_alloc w1 _
   have z2 : W2.heap[w1.heap.size]? = some (.cells #[.int .i64 k, .int .i64 h, .string t, .slice la n1 lc, .slice ka n2 kc, .slice va n3 vc] 27 (0, 0)) := hW2 ▸ block_new w1 _ _
   have B3 := Lib.hid (B2.out.trans (hb2.mono B2.out.size))
   have Z2 := Lib.hid (keep hb2 Z1.out)
   have HV2 := Lib.hid (RV.mono (Same.of_below B3.out HS.out) (fun _ h => h) _ _ HV0.out)
   clear hW2 hb2 hc
   refine (fine_any x HX.out S W2 k h t la n1 lc ka n2 kc va n3 vc HV2.out (fun b h => Nat.lt_of_lt_of_le (HS.out b h) B3.out.size) (HT.out.below B3.out) w1.heap.size z2).mono ?_
   rintro e w2 ⟨r2, rfl, hb2, hgood⟩
   have B4 := Lib.hid (B3.out.trans (hb2.mono B3.out.size))
   have Z3 := Lib.hid (keep hb2 Z2.out)
   clear hb2 z2
   cases r2
   · go_wp2_with fail
     go_returns
     exact ⟨rfl, B4.out⟩
   obtain ⟨hg, hsz⟩ := hgood rfl
   have HG := Lib.hid hg
   have hc := cells6 Z3.out
   clear hgood hg
   by_cases hn0 : nn < 1
   · go_wp2_with fail
     go_returns
     exact ⟨rfl, B4.out⟩
   by_cases hn20 : 20 < nn
   · go_wp2_with fail
     go_returns
     exact ⟨rfl, B4.out⟩
   have HV3 := Lib.hid (RV.mono (Same.of_below B4.out HS.out) (fun _ h => h) _ _ HV0.out)
   have HS3 : Hid (∀ b, S b → b < w2.heap.size) := Lib.hid (fun b h => Nat.lt_of_lt_of_le (HS.out b h) B4.out.size))
  obtain ⟨hfm, hsp⟩ := HNM HG.out hsz
  have HFM := Lib.hid (hfm _ S w2 HV3.out HS3.out (HT.out.below B4.out) (HU.out.below B4.out))
  have HSP := Lib.hid hsp
  rw [HNN.out] at HSP
  clear hfm hsp HNM
  go_wp2_with fail
  refine HFM.out.mono ?_
  rintro e w3 hres
  obtain ⟨k0, t0, la0, lc0, ka0, kc0, va0, vc0, r0, rfl, hr0, hb3⟩ := res_uni hres
  have B5 := Lib.hid (B4.out.trans (hb3.mono B4.out.size))
  have Z4 := Lib.hid (keep hb3 Z3.out)
  have HR0 := Lib.hid hr0
  clear hb3 hres hr0 hc
  (go_upto_region 6 with fail
   generalize hW5 : World.alloc w3 _ = W5
   have hb5 : Below w3.heap.size w3 W5 := hW5 ▸ below_alloc w3 _
   have r5 : W5.heap[w3.heap.size]? = some (.cells #[.int .i64 k0, .int .i64 0, .string t0, .slice la0 0 lc0, .slice ka0 0 kc0, .slice va0 0 vc0, .int .i64 r0] 35 (0, 0)) := hW5 ▸ block_new w3 _ _
   have B6 := Lib.hid (B5.out.trans (hb5.mono B5.out.size))
   have z5 := keep hb5 Z4.out
   clear hW5 hb5
   go_wp2_with fail
   refine (formats_any W5).mono ?_
   rintro e w6 ⟨rfl, hrk, hb6⟩
   have B7 := Lib.hid (B6.out.trans (hb6.mono B6.out.size))
   have Z6 := Lib.hid (keep hb6 z5)
   have R6 := Lib.hid (keep hb6 r5)
   have HRK := Lib.hid hrk
   clear hb6 z5 r5 hrk
   go_wp2_with fail
   refine (among_any FM name 9 9 rfl (by decide) _ _ w6 HRK.out).mono ?_
   rintro e w7 ⟨b, rfl, hbm, rfl⟩
   clear HRK)
  obtain rfl : b = true := hbm.2 HMEM.out
  have hnn1 : 1 ≤ nn := by omega
  have g1 : (1 : Int) ≤ (nn : Int) := by omega
  obtain ⟨nm, hnm⟩ : ∃ nm, name.extract 1 nn = nm := ⟨_, rfl⟩
  rw [hnm] at HSP
  have HFD := Lib.hid (fun (W : World) (hb : Below w.heap.size w W) => formatted_any nm P E x HG.out hsz _ S W (RV.mono (Same.of_below hb HS.out) (fun _ h => h) _ _ HV0.out) (fun b h => Nat.lt_of_lt_of_le (HS.out b h) hb.size) (fun w1 hb1 => HSP.out _ S w1 (RV.mono (Same.of_below (hb.trans (hb1.mono hb.size)) HS.out) (fun _ h => h) _ _ HV0.out) (fun b h => Nat.lt_of_lt_of_le (HS.out b h) (hb.trans (hb1.mono hb.size)).size)) k0 t0 la0 ka0 va0 lc0 kc0 vc0 r0 HR0.out)
  clear hbm HSP
  go_upto_region 8 with fail
  refine wp_region_D (TwoB w.heap.size w3.heap.size (.cells #[.int .i64 k, .int .i64 h, .string t, .slice la n1 lc, .slice ka n2 kc, .slice va n3 vc] 27 (0, 0)) (.cells #[.int .i64 k0, .int .i64 0, .string t0, .slice la0 0 lc0, .slice ka0 0 kc0, .slice va0 0 vc0, .int .i64 r0] 35 (0, 0))) [4, 5] (by kernel_rfl) ?_
  generalize hWd : World.drew w6 = W8
  have hS3 : TwoB w.heap.size w3.heap.size (.cells #[.int .i64 k, .int .i64 h, .string t, .slice la n1 lc, .slice ka n2 kc, .slice va n3 vc] 27 (0, 0)) (.cells #[.int .i64 k0, .int .i64 0, .string t0, .slice la0 0 lc0, .slice ka0 0 kc0, .slice va0 0 vc0, .int .i64 r0] 35 (0, 0)) W8 := hWd ▸ ⟨Z6.out, R6.out⟩
  have HB8 : Hid (Below w.heap.size w W8) := Lib.hid (hWd ▸ B7.out.drew)
  clear hWd
  (refine wpAnyD_take (i := 0) (v := ?_) [4, 5] [4, 5] rfl (by kernel_rfl) (by kernel_rfl) (by kernel_rfl) (fun _ _ _ h => h) (by kernel_rfl) (by kernel_rfl) (by kernel_rfl) (Or.inl ⟨?_, ?_⟩) hS3 ?_
   rotate_left
   focus rfl
   focus (intro w' hw'; have hw1 := cells6 hw'.1; have hw2 := cells7 hw'.2; clear hw'; go_simp; with_reducible rfl)
   try go_simp)
  (refine wpAnyD_take (i := 1) (v := ?_) [2, 4, 5] [4, 5] rfl (by kernel_rfl) (by kernel_rfl) (by kernel_rfl) (fun _ _ _ h => h) (by kernel_rfl) (by kernel_rfl) (by kernel_rfl) (Or.inl ⟨?_, ?_⟩) hS3 ?_
   rotate_left
   focus rfl
   focus (intro w' hw'; have hw1 := cells6 hw'.1; have hw2 := cells7 hw'.2; clear hw'; go_simp; with_reducible rfl)
   try go_simp)
  (refine wpAnyD_take (i := 2) (v := ?_) [4, 5] [4, 5] rfl (by kernel_rfl) (by kernel_rfl) (by kernel_rfl) (fun _ _ _ h => h) (by kernel_rfl) (by kernel_rfl) (by kernel_rfl) (Or.inl ⟨?_, ?_⟩) hS3 ?_
   rotate_left
   focus rfl
   focus (intro w' hw'; have hw1 := cells6 hw'.1; have hw2 := cells7 hw'.2; clear hw'; go_simp; with_reducible rfl)
   try go_simp)
  (refine wpAnyD_take (i := 3) (v := ?_) [4, 5] [4, 5] rfl (by kernel_rfl) (by kernel_rfl) (by kernel_rfl) (fun _ _ _ h => h) (by kernel_rfl) (by kernel_rfl) (by kernel_rfl) (Or.inl ⟨?_, ?_⟩) hS3 ?_
   rotate_left
   focus rfl
   focus (intro w' hw'; have hw1 := cells6 hw'.1; have hw2 := cells7 hw'.2; clear hw'; go_simp; with_reducible rfl)
   try go_simp)
  refine wpAnyD_ready (rs := [4]) (by kernel_rfl) (by simp) ?_
  refine AllReadyD.cons rfl (fun K hK => ?_) AllReadyD.nil
  go_simp
  refine (HFD.out W8 HB8.out).mono ?_
  rintro e w8 ⟨rfl, hb8⟩
  have B9 := Lib.hid (HB8.out.trans (hb8.mono HB8.out.size))
  refine hK.out _ _ (fun h => absurd h (by decide)) ?_
  clear hK K hb8
  try go_simp
  refine wpAnyD_ready (rs := [5]) (by kernel_rfl) (by simp) ?_
  refine AllReadyD.cons rfl (fun K hK => ?_) AllReadyD.nil
  go_simp
  refine hK.out _ _ (fun h => absurd h (by decide)) ?_
  clear hK K
  try go_simp
  refine wpAnyD_done (by kernel_rfl) ?_ _
  clear hS3
  go_wp2_with fail
  go_returns
  exact ⟨rfl, B9.out⟩
set_option maxHeartbeats 8000000 in
set_option maxRecDepth 100000 in
theorem law_urid (x : V) (hx : Wf x) (v : Value) (S : Nat → Prop) (w : World) (hv : RV w S x v) (hS : ∀ b, S b → b < w.heap.size) (hT : Tabs w) (hU : UrlTab w)
    (HNM : Va.Good x → x.size ≤ 400 → ∀ (v : Value) (S : Nat → Prop) (w : World), RV w S x v → (∀ b, S b → b < w.heap.size) → Tabs w → UrlTab w → Calls Tryz.prog 25 #[.string ⟨#[64, 117, 114, 105, 100]⟩, v] w (ResEnd (fun _ => True) True w)) : Calls Tryz.prog 6 #[.string ⟨#[64, 117, 114, 105, 100]⟩, v] w (LawEnd w) := by
  obtain ⟨name, hnm⟩ : ∃ name : ByteArray, (⟨#[64, 117, 114, 105, 100]⟩ : ByteArray) = name := ⟨_, rfl⟩
  have hname : name.size ≤ 9223372036854775807 := by rw [← hnm]; show 5 ≤ _; decide
  have hq : (name.toList == [64, 117, 114, 105, 100]) = true := by simpa using beq_yes hnm.symm
  have HMEM : Hid (¬ name ∈ FM) := Lib.hid (by rw [← hnm]; unfold FM; simp)
  rw [hnm] at HNM ⊢
  clear hnm
  (have HV0 := Lib.hid hv
   have HX := Lib.hid hx
   have HS := Lib.hid hS
   have HT := Lib.hid hT
   have HU := Lib.hid hU
   obtain ⟨k, h, t, la, lc, n1, ka, kc, ks, n2, va, vc, n3, hn2, hq2, hk, rfl⟩ : ∃ (k h : Int) (t : ByteArray) (la : Option Addr) (lc n1 : Nat) (ka : Option Addr) (kc : Nat) (ks : List ByteArray) (n2 : Nat) (va : Option Addr) (vc n3 : Nat), ks.length = n2 ∧ n2 ≤ 140737488355328 ∧ RK w S ks ka ∧ v = .agg #[.int .i64 k, .int .i64 h, .string t, .slice la n1 lc, .slice ka n2 kc, .slice va n3 vc] := by
     cases x with
     | mk k h t ls ks vs =>
       rw [RV] at hv
       rw [Wf] at hx
       obtain ⟨la, lc, ka, kc, va, vc, e, _, h2, _⟩ := hv
       exact ⟨k, h, t, la, lc, _, ka, kc, ks, _, va, vc, _, rfl, hx.2.2.1, h2, e⟩
   have HK := Lib.hid hk
   have HN := Lib.hid hn2
   clear hv hx hS hT hU hk hn2
   obtain ⟨nn, hnn⟩ : ∃ nn, name.size = nn := ⟨_, rfl⟩
   have HNN := Lib.hid hnn
   rw [hnn] at hname
   go_enter Tryz.func6, Tryz.ntmps6
   by_cases hbig : 2147483647 < nn
   · go_wp2_with fail
     go_returns
     exact ⟨rfl, by go_grown⟩
   go_wp2_with fail
   generalize hW : World.alloc w _ = W
   have B1 := Lib.hid (hW ▸ below_alloc w _ : Below w.heap.size w W)
   have z : W.heap[w.heap.size]? = some (.cells #[.int .i64 k, .int .i64 h, .string t, .slice la n1 lc, .slice ka n2 kc, .slice va n3 vc] 27 (0, 0)) := hW ▸ block_new w _ _
   clear hW
   refine (zzFits1_any k h t la ka va n1 lc n2 kc n3 vc ks HN.out hq2 S W (RK.mono (Same.of_below B1.out HS.out) (fun _ h => h) _ _ HK.out) (fun b h => Nat.lt_of_lt_of_le (HS.out b h) B1.out.size)).mono ?_
   rintro e w1 ⟨r1, rfl, hb1⟩
   have B2 := Lib.hid (B1.out.trans (hb1.mono B1.out.size))
   have Z1 := Lib.hid (keep hb1 z)
   clear z hb1
   cases r1
   · go_wp2_with fail
     go_returns
     exact ⟨rfl, B2.out⟩
   have hc := cells6 Z1.out
   go_wp2_with fail
   generalize hW2 : World.alloc w1 _ = W2
   have hb2 : Below w1.heap.size w1 W2 := hW2 ▸ below_alloc w1 _
   have z2 : W2.heap[w1.heap.size]? = some (.cells #[.int .i64 k, .int .i64 h, .string t, .slice la n1 lc, .slice ka n2 kc, .slice va n3 vc] 27 (0, 0)) := hW2 ▸ block_new w1 _ _
   have B3 := Lib.hid (B2.out.trans (hb2.mono B2.out.size))
   have Z2 := Lib.hid (keep hb2 Z1.out)
   have HV2 := Lib.hid (RV.mono (Same.of_below B3.out HS.out) (fun _ h => h) _ _ HV0.out)
   clear hW2 hb2 hc
   refine (fine_any x HX.out S W2 k h t la n1 lc ka n2 kc va n3 vc HV2.out (fun b h => Nat.lt_of_lt_of_le (HS.out b h) B3.out.size) (HT.out.below B3.out) w1.heap.size z2).mono ?_
   rintro e w2 ⟨r2, rfl, hb2, hgood⟩
   have B4 := Lib.hid (B3.out.trans (hb2.mono B3.out.size))
   have Z3 := Lib.hid (keep hb2 Z2.out)
   clear hb2 z2
   cases r2
   · go_wp2_with fail
     go_returns
     exact ⟨rfl, B4.out⟩
   obtain ⟨hg, hsz⟩ := hgood rfl
   have HG := Lib.hid hg
   have hc := cells6 Z3.out
   clear hgood hg
   by_cases hn0 : nn < 1
   · go_wp2_with fail
     go_returns
     exact ⟨rfl, B4.out⟩
   by_cases hn20 : 20 < nn
   · go_wp2_with fail
     go_returns
     exact ⟨rfl, B4.out⟩
   have HV3 := Lib.hid (RV.mono (Same.of_below B4.out HS.out) (fun _ h => h) _ _ HV0.out)
   have HS3 : Hid (∀ b, S b → b < w2.heap.size) := Lib.hid (fun b h => Nat.lt_of_lt_of_le (HS.out b h) B4.out.size))
  have HFM := Lib.hid (HNM HG.out hsz _ S w2 HV3.out HS3.out (HT.out.below B4.out) (HU.out.below B4.out))
  clear HNM
  go_wp2_with fail
  refine HFM.out.mono ?_
  rintro e w3 hres
  obtain ⟨k0, t0, la0, lc0, ka0, kc0, va0, vc0, r0, rfl, hr0, hb3⟩ := res_uni hres
  have B5 := Lib.hid (B4.out.trans (hb3.mono B4.out.size))
  have Z4 := Lib.hid (keep hb3 Z3.out)
  clear hb3 hres hr0 hc
  (go_upto_region 6 with fail
   generalize hW5 : World.alloc w3 _ = W5
   have hb5 : Below w3.heap.size w3 W5 := hW5 ▸ below_alloc w3 _
   have r5 : W5.heap[w3.heap.size]? = some (.cells #[.int .i64 k0, .int .i64 0, .string t0, .slice la0 0 lc0, .slice ka0 0 kc0, .slice va0 0 vc0, .int .i64 r0] 35 (0, 0)) := hW5 ▸ block_new w3 _ _
   have B6 := Lib.hid (B5.out.trans (hb5.mono B5.out.size))
   have z5 := keep hb5 Z4.out
   clear hW5 hb5
   go_wp2_with fail
   refine (formats_any W5).mono ?_
   rintro e w6 ⟨rfl, hrk, hb6⟩
   have B7 := Lib.hid (B6.out.trans (hb6.mono B6.out.size))
   have Z6 := Lib.hid (keep hb6 z5)
   have R6 := Lib.hid (keep hb6 r5)
   have HRK := Lib.hid hrk
   clear hb6 z5 r5 hrk
   go_wp2_with fail
   refine (among_any FM name 9 9 rfl (by decide) _ _ w6 HRK.out).mono ?_
   rintro e w7 ⟨b, rfl, hbm, rfl⟩
   clear HRK)
  obtain rfl : b = false := by
    cases b
    · rfl
    · exact absurd (hbm.1 rfl) HMEM.out
  have cc := cells7 R6.out
  go_wp2_with fail
  go_returns
  exact ⟨rfl, B7.out⟩
set_option maxHeartbeats 8000000 in
set_option maxRecDepth 100000 in
theorem law_other (name : ByteArray) (hname : name.size ≤ 9223372036854775807) (hno : ¬ name ∈ FM) (hnu : name ≠ ⟨#[64, 117, 114, 105, 100]⟩) (x : V) (hx : Wf x) (v : Value) (S : Nat → Prop) (w : World) (hv : RV w S x v) (hS : ∀ b, S b → b < w.heap.size) (hT : Tabs w) (hU : UrlTab w) : Calls Tryz.prog 6 #[.string name, v] w (LawEnd w) := by
  have HMEM := Lib.hid hno
  have HFO := Lib.hid (fun (k h : Int) (t : ByteArray) (la : Option Addr) (n1 lc : Nat) (ka : Option Addr) (n2 kc : Nat) (va : Option Addr) (n3 vc : Nat) (w : World) => Mc.format_other name (fun e => hno (by rw [e]; unfold FM; simp)) (fun e => hno (by rw [e]; unfold FM; simp)) (fun e => hno (by rw [e]; unfold FM; simp)) (fun e => hno (by rw [e]; unfold FM; simp)) hnu (fun e => hno (by rw [e]; unfold FM; simp)) (fun e => hno (by rw [e]; unfold FM; simp)) (fun e => hno (by rw [e]; unfold FM; simp)) (fun e => hno (by rw [e]; unfold FM; simp)) (fun e => hno (by rw [e]; unfold FM; simp)) k h t la n1 lc ka n2 kc va n3 vc w)
  have hq : (name.toList == [64, 117, 114, 105, 100]) = false := by simpa using beq_no hnu
  clear hno hnu
  (have HV0 := Lib.hid hv
   have HX := Lib.hid hx
   have HS := Lib.hid hS
   have HT := Lib.hid hT
   have HU := Lib.hid hU
   obtain ⟨k, h, t, la, lc, n1, ka, kc, ks, n2, va, vc, n3, hn2, hq2, hk, rfl⟩ : ∃ (k h : Int) (t : ByteArray) (la : Option Addr) (lc n1 : Nat) (ka : Option Addr) (kc : Nat) (ks : List ByteArray) (n2 : Nat) (va : Option Addr) (vc n3 : Nat), ks.length = n2 ∧ n2 ≤ 140737488355328 ∧ RK w S ks ka ∧ v = .agg #[.int .i64 k, .int .i64 h, .string t, .slice la n1 lc, .slice ka n2 kc, .slice va n3 vc] := by
     cases x with
     | mk k h t ls ks vs =>
       rw [RV] at hv
       rw [Wf] at hx
       obtain ⟨la, lc, ka, kc, va, vc, e, _, h2, _⟩ := hv
       exact ⟨k, h, t, la, lc, _, ka, kc, ks, _, va, vc, _, rfl, hx.2.2.1, h2, e⟩
   have HK := Lib.hid hk
   have HN := Lib.hid hn2
   clear hv hx hS hT hU hk hn2
   obtain ⟨nn, hnn⟩ : ∃ nn, name.size = nn := ⟨_, rfl⟩
   have HNN := Lib.hid hnn
   rw [hnn] at hname
   go_enter Tryz.func6, Tryz.ntmps6
   by_cases hbig : 2147483647 < nn
   · go_wp2_with fail
     go_returns
     exact ⟨rfl, by go_grown⟩
   go_wp2_with fail
   generalize hW : World.alloc w _ = W
   have B1 := Lib.hid (hW ▸ below_alloc w _ : Below w.heap.size w W)
   have z : W.heap[w.heap.size]? = some (.cells #[.int .i64 k, .int .i64 h, .string t, .slice la n1 lc, .slice ka n2 kc, .slice va n3 vc] 27 (0, 0)) := hW ▸ block_new w _ _
   clear hW
   refine (zzFits1_any k h t la ka va n1 lc n2 kc n3 vc ks HN.out hq2 S W (RK.mono (Same.of_below B1.out HS.out) (fun _ h => h) _ _ HK.out) (fun b h => Nat.lt_of_lt_of_le (HS.out b h) B1.out.size)).mono ?_
   rintro e w1 ⟨r1, rfl, hb1⟩
   have B2 := Lib.hid (B1.out.trans (hb1.mono B1.out.size))
   have Z1 := Lib.hid (keep hb1 z)
   clear z hb1
   cases r1
   · go_wp2_with fail
     go_returns
     exact ⟨rfl, B2.out⟩
   have hc := cells6 Z1.out
   go_wp2_with fail
   generalize hW2 : World.alloc w1 _ = W2
   have hb2 : Below w1.heap.size w1 W2 := hW2 ▸ below_alloc w1 _
   have z2 : W2.heap[w1.heap.size]? = some (.cells #[.int .i64 k, .int .i64 h, .string t, .slice la n1 lc, .slice ka n2 kc, .slice va n3 vc] 27 (0, 0)) := hW2 ▸ block_new w1 _ _
   have B3 := Lib.hid (B2.out.trans (hb2.mono B2.out.size))
   have Z2 := Lib.hid (keep hb2 Z1.out)
   have HV2 := Lib.hid (RV.mono (Same.of_below B3.out HS.out) (fun _ h => h) _ _ HV0.out)
   clear hW2 hb2 hc
   refine (fine_any x HX.out S W2 k h t la n1 lc ka n2 kc va n3 vc HV2.out (fun b h => Nat.lt_of_lt_of_le (HS.out b h) B3.out.size) (HT.out.below B3.out) w1.heap.size z2).mono ?_
   rintro e w2 ⟨r2, rfl, hb2, hgood⟩
   have B4 := Lib.hid (B3.out.trans (hb2.mono B3.out.size))
   have Z3 := Lib.hid (keep hb2 Z2.out)
   clear hb2 z2
   cases r2
   · go_wp2_with fail
     go_returns
     exact ⟨rfl, B4.out⟩
   obtain ⟨hg, hsz⟩ := hgood rfl
   have HG := Lib.hid hg
   have hc := cells6 Z3.out
   clear hgood hg
   by_cases hn0 : nn < 1
   · go_wp2_with fail
     go_returns
     exact ⟨rfl, B4.out⟩
   by_cases hn20 : 20 < nn
   · go_wp2_with fail
     go_returns
     exact ⟨rfl, B4.out⟩
   have HV3 := Lib.hid (RV.mono (Same.of_below B4.out HS.out) (fun _ h => h) _ _ HV0.out)
   have HS3 : Hid (∀ b, S b → b < w2.heap.size) := Lib.hid (fun b h => Nat.lt_of_lt_of_le (HS.out b h) B4.out.size))
  go_wp2_with fail
  refine (HFO.out k h t la n1 lc ka n2 kc va n3 vc w2).mono ?_
  unfold badV
  rintro e w3 ⟨rfl, hb3⟩
  have B5 := Lib.hid (B4.out.trans (hb3.mono B4.out.size))
  have Z4 := Lib.hid (keep hb3 Z3.out)
  clear hb3 hc
  (go_upto_region 6 with fail
   generalize hW5 : World.alloc w3 _ = W5
   have hb5 : Below w3.heap.size w3 W5 := hW5 ▸ below_alloc w3 _
   have r5 : W5.heap[w3.heap.size]? = some (.cells #[.int .i64 0, .int .i64 0, .string ⟨#[]⟩, .slice none 0 0, .slice none 0 0, .slice none 0 0, .int .i64 3] 35 (0, 0)) := hW5 ▸ block_new w3 _ _
   have B6 := Lib.hid (B5.out.trans (hb5.mono B5.out.size))
   have z5 := keep hb5 Z4.out
   clear hW5 hb5
   go_wp2_with fail
   refine (formats_any W5).mono ?_
   rintro e w6 ⟨rfl, hrk, hb6⟩
   have B7 := Lib.hid (B6.out.trans (hb6.mono B6.out.size))
   have Z6 := Lib.hid (keep hb6 z5)
   have R6 := Lib.hid (keep hb6 r5)
   have HRK := Lib.hid hrk
   clear hb6 z5 r5 hrk
   go_wp2_with fail
   refine (among_any FM name 9 9 rfl (by decide) _ _ w6 HRK.out).mono ?_
   rintro e w7 ⟨b, rfl, hbm, rfl⟩
   clear HRK)
  obtain rfl : b = false := by
    cases b
    · rfl
    · exact absurd (hbm.1 rfl) HMEM.out
  have cc := cells7 R6.out
  by_cases e1 : name = ⟨#[64, 98, 97, 115, 101, 51, 50]⟩
  · have q1 : (name.toList == [64, 98, 97, 115, 101, 51, 50]) = true := by simpa using beq_yes e1
    clear e1
    go_wp2_with fail
    go_returns
    exact ⟨rfl, B7.out⟩
  · have q1 : (name.toList == [64, 98, 97, 115, 101, 51, 50]) = false := by simpa using beq_no e1
    by_cases e2 : name = ⟨#[64, 98, 97, 115, 101, 51, 50, 100]⟩
    · have q2 : (name.toList == [64, 98, 97, 115, 101, 51, 50, 100]) = true := by simpa using beq_yes e2
      clear e1 e2
      go_wp2_with fail
      go_returns
      exact ⟨rfl, B7.out⟩
    · have q2 : (name.toList == [64, 98, 97, 115, 101, 51, 50, 100]) = false := by simpa using beq_no e2
      clear e1 e2
      go_wp2_with fail
      go_returns
      exact ⟨rfl, B7.out⟩
end Go.Proofs.YtgjmgneppecfgaaGreatDoor.Fo
