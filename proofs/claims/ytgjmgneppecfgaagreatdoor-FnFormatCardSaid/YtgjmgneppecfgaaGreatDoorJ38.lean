/-
  FnFormat, texts McX: lemmas for the law; the theorem stands in the last text.
-/
import Derived.Test.YtgjmgneppecfgaaGreatDoorJ36
import Derived.Test.YtgjmgneppecfgaaGreatDoorJ37
namespace Go.Proofs.YtgjmgneppecfgaaGreatDoor.Mc
open Go.RowKit Go.Proofs.YtgjmgneppecfgaaGreatDoor.Va Go.Proofs.YtgjmgneppecfgaaGreatDoor.Ba Go.Proofs.YtgjmgneppecfgaaGreatDoor.Ma Go.Proofs.YtgjmgneppecfgaaGreatDoor.Fo
set_option linter.unusedVariables false
set_option linter.unusedSimpArgs false

/-- a text, or an error -/
def FnEnd (P : ByteArray → Prop) (E : Prop) (w : World) (e : Ending) (w' : World) : Prop :=
  ((∃ t, P t ∧ e = .returned (.iface 9 (.string t))) ∨ (E ∧ ∃ T a, (T = 170 ∨ T = 250 ∨ T = 247) ∧ e = .returned (.iface T (.pointer (some a))))) ∧ Below w.heap.size w w'
/-- the answer that is an error -/
def errV : Value := .agg #[.int .i64 0, .int .i64 0, .string ⟨#[]⟩, .slice none 0 0, .slice none 0 0, .slice none 0 0, .int .i64 1]
def ResEnd (P : ByteArray → Prop) (E : Prop) (w : World) (e : Ending) (w' : World) : Prop :=
  ((∃ t la lc ka kc va vc, P t ∧ e = .returned (.agg #[.int .i64 4, .int .i64 0, .string t, .slice la 0 lc, .slice ka 0 kc, .slice va 0 vc, .int .i64 0])) ∨ (E ∧ e = .returned errV)) ∧ Below w.heap.size w w'
@[go_sem] theorem ta_wrap_err (v : Value) (w : World) : (Instr.typeAssert (.iface 170 v) 20 75 true).run Tryz.prog w = .ok (.tuple #[.iface 170 v, .bool true]) w := run_typeAssert_hasB Tryz.underlying75 (by kernel_rfl) v 20 w
@[go_sem] theorem ta_row_err (v : Value) (w : World) : (Instr.typeAssert (.iface 250 v) 20 75 true).run Tryz.prog w = .ok (.tuple #[.iface 250 v, .bool true]) w := run_typeAssert_hasB Tryz.underlying75 (by kernel_rfl) v 20 w
@[go_sem] theorem ta_type_err (v : Value) (w : World) : (Instr.typeAssert (.iface 247 v) 20 75 true).run Tryz.prog w = .ok (.tuple #[.iface 247 v, .bool true]) w := run_typeAssert_hasB Tryz.underlying75 (by kernel_rfl) v 20 w
set_option maxHeartbeats 400000 in
theorem result_errs (T : TypeId) (hT : T = 170 ∨ T = 250 ∨ T = 247) (a : Addr) (w : World) : Calls Tryz.prog 39 #[.iface T (.pointer (some a))] w (Ret errV w) := by
  unfold errV
  rcases hT with rfl | rfl | rfl
  all_goals
    go_enter Tryz.func39, Tryz.ntmps39
    go_wp2_with fail
    go_returns
    exact ⟨rfl, by go_grown⟩
/-- result at what a format's function returned -/
def GoV (P : ByteArray → Prop) (E : Prop) (g : Value) : Prop := (∃ t, P t ∧ g = .iface 9 (.string t)) ∨ (E ∧ ∃ T a, (T = 170 ∨ T = 250 ∨ T = 247) ∧ g = .iface T (.pointer (some a)))
theorem result_fmt (P : ByteArray → Prop) (E : Prop) (g : Value) (hg : GoV P E g) (w : World) : Calls Tryz.prog 39 #[g] w (fun e w' => ∃ k s la lc ka kc va vc r, e = .returned (.agg #[.int .i64 k, .int .i64 0, .string s, .slice la 0 lc, .slice ka 0 kc, .slice va 0 vc, .int .i64 r]) ∧ ((k = 4 ∧ r = 0 ∧ P s) ∨ (E ∧ k = 0 ∧ r = 1 ∧ s = ⟨#[]⟩ ∧ la = none ∧ lc = 0 ∧ ka = none ∧ kc = 0 ∧ va = none ∧ vc = 0)) ∧ Below w.heap.size w w') := by
  rcases hg with ⟨t, hP, rfl⟩ | ⟨hE, T, a, hT, rfl⟩
  · refine (result_any (strV t) (fg_str t) (.iface 9 (.string t)) (fun _ => False) w (Ba.gv_str t _ _) (fun b h => h.elim)).mono ?_
    rintro e w' ⟨c0, c1, c2, c3, c4, c5, rfl, hv, hb⟩
    obtain ⟨la, lc, ka, kc, va, vc, e4⟩ := rv_str_inv hv
    simp only [Value.agg.injEq, Array.mk.injEq, List.cons.injEq, and_true] at e4
    obtain ⟨rfl, rfl, rfl, rfl, rfl, rfl⟩ := e4
    exact ⟨4, t, la, lc, ka, kc, va, vc, 0, rfl, .inl ⟨rfl, rfl, hP⟩, hb⟩
  · refine (result_errs T hT a w).mono ?_
    rintro e w' ⟨rfl, hb⟩
    exact ⟨0, _, none, 0, none, 0, none, 0, 1, rfl, .inr ⟨hE, rfl, rfl, rfl, rfl, rfl, rfl, rfl, rfl, rfl⟩, hb⟩
/-- what holds of a format's function at a value -/
def FnW (f : FuncId) (x : V) (P : ByteArray → Prop) (E : Prop) : Prop := ∀ (g : Value) (S : Nat → Prop) (w : World), GV w S x g → (∀ b, S b → b < w.heap.size) → Tabs w → UrlTab w → Calls Tryz.prog f #[g] w (FnEnd P E w)
set_option maxHeartbeats 400000 in
theorem zzToString_w (P : ByteArray → Prop) (E : Prop) (g : Value) (w : World) (H : Calls Tryz.prog 155 #[g] w (FnEnd P E w)) : Calls Tryz.prog 105 #[g] w (fun e w' => (∃ r, GoV P E r ∧ e = .returned r) ∧ Below w.heap.size w w') := by
  have HH := Lib.hid H
  clear H
  go_enter Tryz.func105, Tryz.ntmps105
  go_wp2_with fail
  refine HH.out.mono ?_
  rintro e w1 ⟨⟨t, hP, rfl⟩ | ⟨hE, T, a, hT, rfl⟩, hb⟩
  · go_wp2_with fail
    go_returns
    exact ⟨⟨_, .inl ⟨_, hP, rfl⟩, rfl⟩, hb⟩
  · go_wp2_with fail
    go_returns
    exact ⟨⟨_, .inr ⟨hE, _, _, hT, rfl⟩, rfl⟩, hb⟩
set_option maxHeartbeats 2000000 in
theorem iToString_w (x : V) (hx : Va.Good x) (hsz : x.size ≤ 400) (P : ByteArray → Prop) (E : Prop) (HX : FnW 155 x P E) (v : Value) (S : Nat → Prop) (w : World) (hv : RV w S x v) (hS : ∀ b, S b → b < w.heap.size) (hT : Tabs w) (hU : UrlTab w) : Calls Tryz.prog 52 #[v] w (ResEnd P E w) := by
  have HZZ := Lib.hid (fun (g : Value) (S1 : Nat → Prop) (w1 : World) (h : GV w1 S1 x g) (hs : ∀ b, S1 b → b < w1.heap.size) (hb : Below w.heap.size w w1) => zzToString_w P E g w1 (HX g S1 w1 h hs (hT.below hb) (hU.below hb)))
  have HTG := Lib.hid (toGo_good 400 x hsz (by omega) hx)
  have HV := Lib.hid hv
  have HS := Lib.hid hS
  obtain ⟨k, h, t, la, n1, lc, ka, n2, kc, va, n3, vc, rfl⟩ : ∃ (k h : Int) (t : ByteArray) (la : Option Addr) (n1 lc : Nat) (ka : Option Addr) (n2 kc : Nat) (va : Option Addr) (n3 vc : Nat), v = .agg #[.int .i64 k, .int .i64 h, .string t, .slice la n1 lc, .slice ka n2 kc, .slice va n3 vc] := by
    cases x with
    | mk k h t ls ks vs =>
    rw [RV] at hv
    obtain ⟨la, lc, ka, kc, va, vc, e, _⟩ := hv
    exact ⟨_, _, _, _, _, _, _, _, _, _, _, _, e⟩
  clear hx hsz HX hv hS hT hU
  go_enter Tryz.func52, Tryz.ntmps52
  go_wp2_with fail
  generalize hW : World.alloc (World.alloc w _) _ = W
  have b1 : Below w.heap.size w W := hW ▸ (by go_grown)
  have z : W.heap[w.heap.size + 1]? = some (.cells #[.int .i64 0, .int .i64 0, .string ⟨#[]⟩, .slice none 0 0, .slice none 0 0, .slice none 0 0, .int .i64 0] 35 (0, 0)) := hW ▸ (by have := block_new (w.alloc (.cells #[.int .i64 k, .int .i64 h, .string t, .slice la n1 lc, .slice ka n2 kc, .slice va n3 vc] 27)) #[.int .i64 0, .int .i64 0, .string ⟨#[]⟩, .slice none 0 0, .slice none 0 0, .slice none 0 0, .int .i64 0] 35; rwa [World.size_alloc] at this)
  clear hW
  have hs := b1.size
  refine (HTG.out _ S W (RV.mono (Same.of_below b1 HS.out) (fun _ h => h) _ _ HV.out) (fun b h => Nat.lt_of_lt_of_le (HS.out b h) b1.size)).mono ?_
  rintro e w2 ⟨g, rfl, hgv, hb2⟩
  have HGV := Lib.hid (GV.lt x g hgv)
  have HZ := Lib.hid (keep hb2 z)
  have HB := Lib.hid (b1.trans (hb2.mono b1.size))
  have hs2 := hb2.size
  have hwlt : w.heap.size + 1 < W.heap.size := heap_lt z
  have HZ2 := Lib.hid (HZZ.out g _ w2 HGV.out (fun b h => h.2) HB.out)
  rcases Mb.gv_shape hgv with rfl | ⟨tv, xv, rfl⟩
  all_goals
    clear hgv hb2 z b1
    go_wp2_with fail
    refine HZ2.out.mono ?_
    rintro e w3 ⟨⟨r, hr, rfl⟩, hb3⟩
    have HZ3 := Lib.hid (keep hb3 HZ.out)
    have HB3 := Lib.hid (HB.out.trans (hb3.mono HB.out.size))
    have hs3 := hb3.size
    clear hb3
    have HRS := Lib.hid (result_fmt P E r hr w3)
    clear hr
    go_wp2_with fail
    refine HRS.out.mono ?_
    rintro e w4 ⟨k4, s4, la4, lc4, ka4, kc4, va4, vc4, r4, rfl, hres, hb4⟩
    have zz := cells7 (keep hb4 HZ3.out)
    have HB4 := Lib.hid (HB3.out.trans (hb4.mono HB3.out.size))
    have HRES := Lib.hid hres
    clear hb4 hres
    go_wp2_with fail
    refine bodyPost_ret (v := .agg #[.int .i64 k4, .int .i64 0, .string s4, .slice la4 0 lc4, .slice ka4 0 kc4, .slice va4 0 vc4, .int .i64 r4]) (by simp [results, Tryz.results52, go_sem, *]) rfl ⟨?_, sets7 HB4.out (Nat.le_succ _) _ _ _ _ _ _ _⟩
    rcases HRES.out with ⟨rfl, rfl, hP⟩ | ⟨hE, rfl, rfl, rfl, rfl, rfl, rfl, rfl, rfl, rfl⟩
    · exact .inl ⟨_, _, _, _, _, _, _, hP, rfl⟩
    · exact .inr ⟨hE, rfl⟩
set_option maxHeartbeats 400000 in
theorem zzToJSON_w (P : ByteArray → Prop) (E : Prop) (g : Value) (w : World) (H : Calls Tryz.prog 161 #[g] w (FnEnd P E w)) : Calls Tryz.prog 106 #[g] w (fun e w' => (∃ r, GoV P E r ∧ e = .returned r) ∧ Below w.heap.size w w') := by
  have HH := Lib.hid H
  clear H
  go_enter Tryz.func106, Tryz.ntmps106
  go_wp2_with fail
  refine HH.out.mono ?_
  rintro e w1 ⟨⟨t, hP, rfl⟩ | ⟨hE, T, a, hT, rfl⟩, hb⟩
  · go_wp2_with fail
    go_returns
    exact ⟨⟨_, .inl ⟨_, hP, rfl⟩, rfl⟩, hb⟩
  · go_wp2_with fail
    go_returns
    exact ⟨⟨_, .inr ⟨hE, _, _, hT, rfl⟩, rfl⟩, hb⟩
set_option maxHeartbeats 2000000 in
theorem iToJSON_w (x : V) (hx : Va.Good x) (hsz : x.size ≤ 400) (P : ByteArray → Prop) (E : Prop) (HX : FnW 161 x P E) (v : Value) (S : Nat → Prop) (w : World) (hv : RV w S x v) (hS : ∀ b, S b → b < w.heap.size) (hT : Tabs w) (hU : UrlTab w) : Calls Tryz.prog 53 #[v] w (ResEnd P E w) := by
  have HZZ := Lib.hid (fun (g : Value) (S1 : Nat → Prop) (w1 : World) (h : GV w1 S1 x g) (hs : ∀ b, S1 b → b < w1.heap.size) (hb : Below w.heap.size w w1) => zzToJSON_w P E g w1 (HX g S1 w1 h hs (hT.below hb) (hU.below hb)))
  have HTG := Lib.hid (toGo_good 400 x hsz (by omega) hx)
  have HV := Lib.hid hv
  have HS := Lib.hid hS
  obtain ⟨k, h, t, la, n1, lc, ka, n2, kc, va, n3, vc, rfl⟩ : ∃ (k h : Int) (t : ByteArray) (la : Option Addr) (n1 lc : Nat) (ka : Option Addr) (n2 kc : Nat) (va : Option Addr) (n3 vc : Nat), v = .agg #[.int .i64 k, .int .i64 h, .string t, .slice la n1 lc, .slice ka n2 kc, .slice va n3 vc] := by
    cases x with
    | mk k h t ls ks vs =>
    rw [RV] at hv
    obtain ⟨la, lc, ka, kc, va, vc, e, _⟩ := hv
    exact ⟨_, _, _, _, _, _, _, _, _, _, _, _, e⟩
  clear hx hsz HX hv hS hT hU
  go_enter Tryz.func53, Tryz.ntmps53
  go_wp2_with fail
  generalize hW : World.alloc (World.alloc w _) _ = W
  have b1 : Below w.heap.size w W := hW ▸ (by go_grown)
  have z : W.heap[w.heap.size + 1]? = some (.cells #[.int .i64 0, .int .i64 0, .string ⟨#[]⟩, .slice none 0 0, .slice none 0 0, .slice none 0 0, .int .i64 0] 35 (0, 0)) := hW ▸ (by have := block_new (w.alloc (.cells #[.int .i64 k, .int .i64 h, .string t, .slice la n1 lc, .slice ka n2 kc, .slice va n3 vc] 27)) #[.int .i64 0, .int .i64 0, .string ⟨#[]⟩, .slice none 0 0, .slice none 0 0, .slice none 0 0, .int .i64 0] 35; rwa [World.size_alloc] at this)
  clear hW
  have hs := b1.size
  refine (HTG.out _ S W (RV.mono (Same.of_below b1 HS.out) (fun _ h => h) _ _ HV.out) (fun b h => Nat.lt_of_lt_of_le (HS.out b h) b1.size)).mono ?_
  rintro e w2 ⟨g, rfl, hgv, hb2⟩
  have HGV := Lib.hid (GV.lt x g hgv)
  have HZ := Lib.hid (keep hb2 z)
  have HB := Lib.hid (b1.trans (hb2.mono b1.size))
  have hs2 := hb2.size
  have hwlt : w.heap.size + 1 < W.heap.size := heap_lt z
  have HZ2 := Lib.hid (HZZ.out g _ w2 HGV.out (fun b h => h.2) HB.out)
  rcases Mb.gv_shape hgv with rfl | ⟨tv, xv, rfl⟩
  all_goals
    clear hgv hb2 z b1
    go_wp2_with fail
    refine HZ2.out.mono ?_
    rintro e w3 ⟨⟨r, hr, rfl⟩, hb3⟩
    have HZ3 := Lib.hid (keep hb3 HZ.out)
    have HB3 := Lib.hid (HB.out.trans (hb3.mono HB.out.size))
    have hs3 := hb3.size
    clear hb3
    have HRS := Lib.hid (result_fmt P E r hr w3)
    clear hr
    go_wp2_with fail
    refine HRS.out.mono ?_
    rintro e w4 ⟨k4, s4, la4, lc4, ka4, kc4, va4, vc4, r4, rfl, hres, hb4⟩
    have zz := cells7 (keep hb4 HZ3.out)
    have HB4 := Lib.hid (HB3.out.trans (hb4.mono HB3.out.size))
    have HRES := Lib.hid hres
    clear hb4 hres
    go_wp2_with fail
    refine bodyPost_ret (v := .agg #[.int .i64 k4, .int .i64 0, .string s4, .slice la4 0 lc4, .slice ka4 0 kc4, .slice va4 0 vc4, .int .i64 r4]) (by simp [results, Tryz.results53, go_sem, *]) rfl ⟨?_, sets7 HB4.out (Nat.le_succ _) _ _ _ _ _ _ _⟩
    rcases HRES.out with ⟨rfl, rfl, hP⟩ | ⟨hE, rfl, rfl, rfl, rfl, rfl, rfl, rfl, rfl, rfl⟩
    · exact .inl ⟨_, _, _, _, _, _, _, hP, rfl⟩
    · exact .inr ⟨hE, rfl⟩
set_option maxHeartbeats 400000 in
theorem zzHTML_w (P : ByteArray → Prop) (E : Prop) (g : Value) (w : World) (H : Calls Tryz.prog 162 #[g] w (FnEnd P E w)) : Calls Tryz.prog 107 #[g] w (fun e w' => (∃ r, GoV P E r ∧ e = .returned r) ∧ Below w.heap.size w w') := by
  have HH := Lib.hid H
  clear H
  go_enter Tryz.func107, Tryz.ntmps107
  go_wp2_with fail
  refine HH.out.mono ?_
  rintro e w1 ⟨⟨t, hP, rfl⟩ | ⟨hE, T, a, hT, rfl⟩, hb⟩
  · go_wp2_with fail
    go_returns
    exact ⟨⟨_, .inl ⟨_, hP, rfl⟩, rfl⟩, hb⟩
  · go_wp2_with fail
    go_returns
    exact ⟨⟨_, .inr ⟨hE, _, _, hT, rfl⟩, rfl⟩, hb⟩
set_option maxHeartbeats 2000000 in
theorem fHTML_w (x : V) (hx : Va.Good x) (hsz : x.size ≤ 400) (P : ByteArray → Prop) (E : Prop) (HX : FnW 162 x P E) (v : Value) (S : Nat → Prop) (w : World) (hv : RV w S x v) (hS : ∀ b, S b → b < w.heap.size) (hT : Tabs w) (hU : UrlTab w) : Calls Tryz.prog 54 #[v] w (ResEnd P E w) := by
  have HZZ := Lib.hid (fun (g : Value) (S1 : Nat → Prop) (w1 : World) (h : GV w1 S1 x g) (hs : ∀ b, S1 b → b < w1.heap.size) (hb : Below w.heap.size w w1) => zzHTML_w P E g w1 (HX g S1 w1 h hs (hT.below hb) (hU.below hb)))
  have HTG := Lib.hid (toGo_good 400 x hsz (by omega) hx)
  have HV := Lib.hid hv
  have HS := Lib.hid hS
  obtain ⟨k, h, t, la, n1, lc, ka, n2, kc, va, n3, vc, rfl⟩ : ∃ (k h : Int) (t : ByteArray) (la : Option Addr) (n1 lc : Nat) (ka : Option Addr) (n2 kc : Nat) (va : Option Addr) (n3 vc : Nat), v = .agg #[.int .i64 k, .int .i64 h, .string t, .slice la n1 lc, .slice ka n2 kc, .slice va n3 vc] := by
    cases x with
    | mk k h t ls ks vs =>
    rw [RV] at hv
    obtain ⟨la, lc, ka, kc, va, vc, e, _⟩ := hv
    exact ⟨_, _, _, _, _, _, _, _, _, _, _, _, e⟩
  clear hx hsz HX hv hS hT hU
  go_enter Tryz.func54, Tryz.ntmps54
  go_wp2_with fail
  generalize hW : World.alloc (World.alloc w _) _ = W
  have b1 : Below w.heap.size w W := hW ▸ (by go_grown)
  have z : W.heap[w.heap.size + 1]? = some (.cells #[.int .i64 0, .int .i64 0, .string ⟨#[]⟩, .slice none 0 0, .slice none 0 0, .slice none 0 0, .int .i64 0] 35 (0, 0)) := hW ▸ (by have := block_new (w.alloc (.cells #[.int .i64 k, .int .i64 h, .string t, .slice la n1 lc, .slice ka n2 kc, .slice va n3 vc] 27)) #[.int .i64 0, .int .i64 0, .string ⟨#[]⟩, .slice none 0 0, .slice none 0 0, .slice none 0 0, .int .i64 0] 35; rwa [World.size_alloc] at this)
  clear hW
  have hs := b1.size
  refine (HTG.out _ S W (RV.mono (Same.of_below b1 HS.out) (fun _ h => h) _ _ HV.out) (fun b h => Nat.lt_of_lt_of_le (HS.out b h) b1.size)).mono ?_
  rintro e w2 ⟨g, rfl, hgv, hb2⟩
  have HGV := Lib.hid (GV.lt x g hgv)
  have HZ := Lib.hid (keep hb2 z)
  have HB := Lib.hid (b1.trans (hb2.mono b1.size))
  have hs2 := hb2.size
  have hwlt : w.heap.size + 1 < W.heap.size := heap_lt z
  have HZ2 := Lib.hid (HZZ.out g _ w2 HGV.out (fun b h => h.2) HB.out)
  rcases Mb.gv_shape hgv with rfl | ⟨tv, xv, rfl⟩
  all_goals
    clear hgv hb2 z b1
    go_wp2_with fail
    refine HZ2.out.mono ?_
    rintro e w3 ⟨⟨r, hr, rfl⟩, hb3⟩
    have HZ3 := Lib.hid (keep hb3 HZ.out)
    have HB3 := Lib.hid (HB.out.trans (hb3.mono HB.out.size))
    have hs3 := hb3.size
    clear hb3
    have HRS := Lib.hid (result_fmt P E r hr w3)
    clear hr
    go_wp2_with fail
    refine HRS.out.mono ?_
    rintro e w4 ⟨k4, s4, la4, lc4, ka4, kc4, va4, vc4, r4, rfl, hres, hb4⟩
    have zz := cells7 (keep hb4 HZ3.out)
    have HB4 := Lib.hid (HB3.out.trans (hb4.mono HB3.out.size))
    have HRES := Lib.hid hres
    clear hb4 hres
    go_wp2_with fail
    refine bodyPost_ret (v := .agg #[.int .i64 k4, .int .i64 0, .string s4, .slice la4 0 lc4, .slice ka4 0 kc4, .slice va4 0 vc4, .int .i64 r4]) (by simp [results, Tryz.results54, go_sem, *]) rfl ⟨?_, sets7 HB4.out (Nat.le_succ _) _ _ _ _ _ _ _⟩
    rcases HRES.out with ⟨rfl, rfl, hP⟩ | ⟨hE, rfl, rfl, rfl, rfl, rfl, rfl, rfl, rfl, rfl⟩
    · exact .inl ⟨_, _, _, _, _, _, _, hP, rfl⟩
    · exact .inr ⟨hE, rfl⟩
set_option maxHeartbeats 400000 in
theorem zzURI_w (P : ByteArray → Prop) (E : Prop) (g : Value) (w : World) (H : Calls Tryz.prog 163 #[g] w (FnEnd P E w)) : Calls Tryz.prog 108 #[g] w (fun e w' => (∃ r, GoV P E r ∧ e = .returned r) ∧ Below w.heap.size w w') := by
  have HH := Lib.hid H
  clear H
  go_enter Tryz.func108, Tryz.ntmps108
  go_wp2_with fail
  refine HH.out.mono ?_
  rintro e w1 ⟨⟨t, hP, rfl⟩ | ⟨hE, T, a, hT, rfl⟩, hb⟩
  · go_wp2_with fail
    go_returns
    exact ⟨⟨_, .inl ⟨_, hP, rfl⟩, rfl⟩, hb⟩
  · go_wp2_with fail
    go_returns
    exact ⟨⟨_, .inr ⟨hE, _, _, hT, rfl⟩, rfl⟩, hb⟩
set_option maxHeartbeats 2000000 in
theorem fURI_w (x : V) (hx : Va.Good x) (hsz : x.size ≤ 400) (P : ByteArray → Prop) (E : Prop) (HX : FnW 163 x P E) (v : Value) (S : Nat → Prop) (w : World) (hv : RV w S x v) (hS : ∀ b, S b → b < w.heap.size) (hT : Tabs w) (hU : UrlTab w) : Calls Tryz.prog 55 #[v] w (ResEnd P E w) := by
  have HZZ := Lib.hid (fun (g : Value) (S1 : Nat → Prop) (w1 : World) (h : GV w1 S1 x g) (hs : ∀ b, S1 b → b < w1.heap.size) (hb : Below w.heap.size w w1) => zzURI_w P E g w1 (HX g S1 w1 h hs (hT.below hb) (hU.below hb)))
  have HTG := Lib.hid (toGo_good 400 x hsz (by omega) hx)
  have HV := Lib.hid hv
  have HS := Lib.hid hS
  obtain ⟨k, h, t, la, n1, lc, ka, n2, kc, va, n3, vc, rfl⟩ : ∃ (k h : Int) (t : ByteArray) (la : Option Addr) (n1 lc : Nat) (ka : Option Addr) (n2 kc : Nat) (va : Option Addr) (n3 vc : Nat), v = .agg #[.int .i64 k, .int .i64 h, .string t, .slice la n1 lc, .slice ka n2 kc, .slice va n3 vc] := by
    cases x with
    | mk k h t ls ks vs =>
    rw [RV] at hv
    obtain ⟨la, lc, ka, kc, va, vc, e, _⟩ := hv
    exact ⟨_, _, _, _, _, _, _, _, _, _, _, _, e⟩
  clear hx hsz HX hv hS hT hU
  go_enter Tryz.func55, Tryz.ntmps55
  go_wp2_with fail
  generalize hW : World.alloc (World.alloc w _) _ = W
  have b1 : Below w.heap.size w W := hW ▸ (by go_grown)
  have z : W.heap[w.heap.size + 1]? = some (.cells #[.int .i64 0, .int .i64 0, .string ⟨#[]⟩, .slice none 0 0, .slice none 0 0, .slice none 0 0, .int .i64 0] 35 (0, 0)) := hW ▸ (by have := block_new (w.alloc (.cells #[.int .i64 k, .int .i64 h, .string t, .slice la n1 lc, .slice ka n2 kc, .slice va n3 vc] 27)) #[.int .i64 0, .int .i64 0, .string ⟨#[]⟩, .slice none 0 0, .slice none 0 0, .slice none 0 0, .int .i64 0] 35; rwa [World.size_alloc] at this)
  clear hW
  have hs := b1.size
  refine (HTG.out _ S W (RV.mono (Same.of_below b1 HS.out) (fun _ h => h) _ _ HV.out) (fun b h => Nat.lt_of_lt_of_le (HS.out b h) b1.size)).mono ?_
  rintro e w2 ⟨g, rfl, hgv, hb2⟩
  have HGV := Lib.hid (GV.lt x g hgv)
  have HZ := Lib.hid (keep hb2 z)
  have HB := Lib.hid (b1.trans (hb2.mono b1.size))
  have hs2 := hb2.size
  have hwlt : w.heap.size + 1 < W.heap.size := heap_lt z
  have HZ2 := Lib.hid (HZZ.out g _ w2 HGV.out (fun b h => h.2) HB.out)
  rcases Mb.gv_shape hgv with rfl | ⟨tv, xv, rfl⟩
  all_goals
    clear hgv hb2 z b1
    go_wp2_with fail
    refine HZ2.out.mono ?_
    rintro e w3 ⟨⟨r, hr, rfl⟩, hb3⟩
    have HZ3 := Lib.hid (keep hb3 HZ.out)
    have HB3 := Lib.hid (HB.out.trans (hb3.mono HB.out.size))
    have hs3 := hb3.size
    clear hb3
    have HRS := Lib.hid (result_fmt P E r hr w3)
    clear hr
    go_wp2_with fail
    refine HRS.out.mono ?_
    rintro e w4 ⟨k4, s4, la4, lc4, ka4, kc4, va4, vc4, r4, rfl, hres, hb4⟩
    have zz := cells7 (keep hb4 HZ3.out)
    have HB4 := Lib.hid (HB3.out.trans (hb4.mono HB3.out.size))
    have HRES := Lib.hid hres
    clear hb4 hres
    go_wp2_with fail
    refine bodyPost_ret (v := .agg #[.int .i64 k4, .int .i64 0, .string s4, .slice la4 0 lc4, .slice ka4 0 kc4, .slice va4 0 vc4, .int .i64 r4]) (by simp [results, Tryz.results55, go_sem, *]) rfl ⟨?_, sets7 HB4.out (Nat.le_succ _) _ _ _ _ _ _ _⟩
    rcases HRES.out with ⟨rfl, rfl, hP⟩ | ⟨hE, rfl, rfl, rfl, rfl, rfl, rfl, rfl, rfl, rfl⟩
    · exact .inl ⟨_, _, _, _, _, _, _, hP, rfl⟩
    · exact .inr ⟨hE, rfl⟩
set_option maxHeartbeats 400000 in
theorem zzURID_w (P : ByteArray → Prop) (E : Prop) (g : Value) (w : World) (H : Calls Tryz.prog 164 #[g] w (FnEnd P E w)) : Calls Tryz.prog 109 #[g] w (fun e w' => (∃ r, GoV P E r ∧ e = .returned r) ∧ Below w.heap.size w w') := by
  have HH := Lib.hid H
  clear H
  go_enter Tryz.func109, Tryz.ntmps109
  go_wp2_with fail
  refine HH.out.mono ?_
  rintro e w1 ⟨⟨t, hP, rfl⟩ | ⟨hE, T, a, hT, rfl⟩, hb⟩
  · go_wp2_with fail
    go_returns
    exact ⟨⟨_, .inl ⟨_, hP, rfl⟩, rfl⟩, hb⟩
  · go_wp2_with fail
    go_returns
    exact ⟨⟨_, .inr ⟨hE, _, _, hT, rfl⟩, rfl⟩, hb⟩
set_option maxHeartbeats 2000000 in
theorem fURID_w (x : V) (hx : Va.Good x) (hsz : x.size ≤ 400) (P : ByteArray → Prop) (E : Prop) (HX : FnW 164 x P E) (v : Value) (S : Nat → Prop) (w : World) (hv : RV w S x v) (hS : ∀ b, S b → b < w.heap.size) (hT : Tabs w) (hU : UrlTab w) : Calls Tryz.prog 56 #[v] w (ResEnd P E w) := by
  have HZZ := Lib.hid (fun (g : Value) (S1 : Nat → Prop) (w1 : World) (h : GV w1 S1 x g) (hs : ∀ b, S1 b → b < w1.heap.size) (hb : Below w.heap.size w w1) => zzURID_w P E g w1 (HX g S1 w1 h hs (hT.below hb) (hU.below hb)))
  have HTG := Lib.hid (toGo_good 400 x hsz (by omega) hx)
  have HV := Lib.hid hv
  have HS := Lib.hid hS
  obtain ⟨k, h, t, la, n1, lc, ka, n2, kc, va, n3, vc, rfl⟩ : ∃ (k h : Int) (t : ByteArray) (la : Option Addr) (n1 lc : Nat) (ka : Option Addr) (n2 kc : Nat) (va : Option Addr) (n3 vc : Nat), v = .agg #[.int .i64 k, .int .i64 h, .string t, .slice la n1 lc, .slice ka n2 kc, .slice va n3 vc] := by
    cases x with
    | mk k h t ls ks vs =>
    rw [RV] at hv
    obtain ⟨la, lc, ka, kc, va, vc, e, _⟩ := hv
    exact ⟨_, _, _, _, _, _, _, _, _, _, _, _, e⟩
  clear hx hsz HX hv hS hT hU
  go_enter Tryz.func56, Tryz.ntmps56
  go_wp2_with fail
  generalize hW : World.alloc (World.alloc w _) _ = W
  have b1 : Below w.heap.size w W := hW ▸ (by go_grown)
  have z : W.heap[w.heap.size + 1]? = some (.cells #[.int .i64 0, .int .i64 0, .string ⟨#[]⟩, .slice none 0 0, .slice none 0 0, .slice none 0 0, .int .i64 0] 35 (0, 0)) := hW ▸ (by have := block_new (w.alloc (.cells #[.int .i64 k, .int .i64 h, .string t, .slice la n1 lc, .slice ka n2 kc, .slice va n3 vc] 27)) #[.int .i64 0, .int .i64 0, .string ⟨#[]⟩, .slice none 0 0, .slice none 0 0, .slice none 0 0, .int .i64 0] 35; rwa [World.size_alloc] at this)
  clear hW
  have hs := b1.size
  refine (HTG.out _ S W (RV.mono (Same.of_below b1 HS.out) (fun _ h => h) _ _ HV.out) (fun b h => Nat.lt_of_lt_of_le (HS.out b h) b1.size)).mono ?_
  rintro e w2 ⟨g, rfl, hgv, hb2⟩
  have HGV := Lib.hid (GV.lt x g hgv)
  have HZ := Lib.hid (keep hb2 z)
  have HB := Lib.hid (b1.trans (hb2.mono b1.size))
  have hs2 := hb2.size
  have hwlt : w.heap.size + 1 < W.heap.size := heap_lt z
  have HZ2 := Lib.hid (HZZ.out g _ w2 HGV.out (fun b h => h.2) HB.out)
  rcases Mb.gv_shape hgv with rfl | ⟨tv, xv, rfl⟩
  all_goals
    clear hgv hb2 z b1
    go_wp2_with fail
    refine HZ2.out.mono ?_
    rintro e w3 ⟨⟨r, hr, rfl⟩, hb3⟩
    have HZ3 := Lib.hid (keep hb3 HZ.out)
    have HB3 := Lib.hid (HB.out.trans (hb3.mono HB.out.size))
    have hs3 := hb3.size
    clear hb3
    have HRS := Lib.hid (result_fmt P E r hr w3)
    clear hr
    go_wp2_with fail
    refine HRS.out.mono ?_
    rintro e w4 ⟨k4, s4, la4, lc4, ka4, kc4, va4, vc4, r4, rfl, hres, hb4⟩
    have zz := cells7 (keep hb4 HZ3.out)
    have HB4 := Lib.hid (HB3.out.trans (hb4.mono HB3.out.size))
    have HRES := Lib.hid hres
    clear hb4 hres
    go_wp2_with fail
    refine bodyPost_ret (v := .agg #[.int .i64 k4, .int .i64 0, .string s4, .slice la4 0 lc4, .slice ka4 0 kc4, .slice va4 0 vc4, .int .i64 r4]) (by simp [results, Tryz.results56, go_sem, *]) rfl ⟨?_, sets7 HB4.out (Nat.le_succ _) _ _ _ _ _ _ _⟩
    rcases HRES.out with ⟨rfl, rfl, hP⟩ | ⟨hE, rfl, rfl, rfl, rfl, rfl, rfl, rfl, rfl, rfl⟩
    · exact .inl ⟨_, _, _, _, _, _, _, hP, rfl⟩
    · exact .inr ⟨hE, rfl⟩
set_option maxHeartbeats 400000 in
theorem zzCSV_w (P : ByteArray → Prop) (E : Prop) (g : Value) (w : World) (H : Calls Tryz.prog 165 #[g] w (FnEnd P E w)) : Calls Tryz.prog 110 #[g] w (fun e w' => (∃ r, GoV P E r ∧ e = .returned r) ∧ Below w.heap.size w w') := by
  have HH := Lib.hid H
  clear H
  go_enter Tryz.func110, Tryz.ntmps110
  go_wp2_with fail
  refine HH.out.mono ?_
  rintro e w1 ⟨⟨t, hP, rfl⟩ | ⟨hE, T, a, hT, rfl⟩, hb⟩
  · go_wp2_with fail
    go_returns
    exact ⟨⟨_, .inl ⟨_, hP, rfl⟩, rfl⟩, hb⟩
  · go_wp2_with fail
    go_returns
    exact ⟨⟨_, .inr ⟨hE, _, _, hT, rfl⟩, rfl⟩, hb⟩
set_option maxHeartbeats 2000000 in
theorem fCSV_w (x : V) (hx : Va.Good x) (hsz : x.size ≤ 400) (P : ByteArray → Prop) (E : Prop) (HX : FnW 165 x P E) (v : Value) (S : Nat → Prop) (w : World) (hv : RV w S x v) (hS : ∀ b, S b → b < w.heap.size) (hT : Tabs w) (hU : UrlTab w) : Calls Tryz.prog 57 #[v] w (ResEnd P E w) := by
  have HZZ := Lib.hid (fun (g : Value) (S1 : Nat → Prop) (w1 : World) (h : GV w1 S1 x g) (hs : ∀ b, S1 b → b < w1.heap.size) (hb : Below w.heap.size w w1) => zzCSV_w P E g w1 (HX g S1 w1 h hs (hT.below hb) (hU.below hb)))
  have HTG := Lib.hid (toGo_good 400 x hsz (by omega) hx)
  have HV := Lib.hid hv
  have HS := Lib.hid hS
  obtain ⟨k, h, t, la, n1, lc, ka, n2, kc, va, n3, vc, rfl⟩ : ∃ (k h : Int) (t : ByteArray) (la : Option Addr) (n1 lc : Nat) (ka : Option Addr) (n2 kc : Nat) (va : Option Addr) (n3 vc : Nat), v = .agg #[.int .i64 k, .int .i64 h, .string t, .slice la n1 lc, .slice ka n2 kc, .slice va n3 vc] := by
    cases x with
    | mk k h t ls ks vs =>
    rw [RV] at hv
    obtain ⟨la, lc, ka, kc, va, vc, e, _⟩ := hv
    exact ⟨_, _, _, _, _, _, _, _, _, _, _, _, e⟩
  clear hx hsz HX hv hS hT hU
  go_enter Tryz.func57, Tryz.ntmps57
  go_wp2_with fail
  generalize hW : World.alloc (World.alloc w _) _ = W
  have b1 : Below w.heap.size w W := hW ▸ (by go_grown)
  have z : W.heap[w.heap.size + 1]? = some (.cells #[.int .i64 0, .int .i64 0, .string ⟨#[]⟩, .slice none 0 0, .slice none 0 0, .slice none 0 0, .int .i64 0] 35 (0, 0)) := hW ▸ (by have := block_new (w.alloc (.cells #[.int .i64 k, .int .i64 h, .string t, .slice la n1 lc, .slice ka n2 kc, .slice va n3 vc] 27)) #[.int .i64 0, .int .i64 0, .string ⟨#[]⟩, .slice none 0 0, .slice none 0 0, .slice none 0 0, .int .i64 0] 35; rwa [World.size_alloc] at this)
  clear hW
  have hs := b1.size
  refine (HTG.out _ S W (RV.mono (Same.of_below b1 HS.out) (fun _ h => h) _ _ HV.out) (fun b h => Nat.lt_of_lt_of_le (HS.out b h) b1.size)).mono ?_
  rintro e w2 ⟨g, rfl, hgv, hb2⟩
  have HGV := Lib.hid (GV.lt x g hgv)
  have HZ := Lib.hid (keep hb2 z)
  have HB := Lib.hid (b1.trans (hb2.mono b1.size))
  have hs2 := hb2.size
  have hwlt : w.heap.size + 1 < W.heap.size := heap_lt z
  have HZ2 := Lib.hid (HZZ.out g _ w2 HGV.out (fun b h => h.2) HB.out)
  rcases Mb.gv_shape hgv with rfl | ⟨tv, xv, rfl⟩
  all_goals
    clear hgv hb2 z b1
    go_wp2_with fail
    refine HZ2.out.mono ?_
    rintro e w3 ⟨⟨r, hr, rfl⟩, hb3⟩
    have HZ3 := Lib.hid (keep hb3 HZ.out)
    have HB3 := Lib.hid (HB.out.trans (hb3.mono HB.out.size))
    have hs3 := hb3.size
    clear hb3
    have HRS := Lib.hid (result_fmt P E r hr w3)
    clear hr
    go_wp2_with fail
    refine HRS.out.mono ?_
    rintro e w4 ⟨k4, s4, la4, lc4, ka4, kc4, va4, vc4, r4, rfl, hres, hb4⟩
    have zz := cells7 (keep hb4 HZ3.out)
    have HB4 := Lib.hid (HB3.out.trans (hb4.mono HB3.out.size))
    have HRES := Lib.hid hres
    clear hb4 hres
    go_wp2_with fail
    refine bodyPost_ret (v := .agg #[.int .i64 k4, .int .i64 0, .string s4, .slice la4 0 lc4, .slice ka4 0 kc4, .slice va4 0 vc4, .int .i64 r4]) (by simp [results, Tryz.results57, go_sem, *]) rfl ⟨?_, sets7 HB4.out (Nat.le_succ _) _ _ _ _ _ _ _⟩
    rcases HRES.out with ⟨rfl, rfl, hP⟩ | ⟨hE, rfl, rfl, rfl, rfl, rfl, rfl, rfl, rfl, rfl⟩
    · exact .inl ⟨_, _, _, _, _, _, _, hP, rfl⟩
    · exact .inr ⟨hE, rfl⟩
set_option maxHeartbeats 400000 in
theorem zzTSV_w (P : ByteArray → Prop) (E : Prop) (g : Value) (w : World) (H : Calls Tryz.prog 166 #[g] w (FnEnd P E w)) : Calls Tryz.prog 111 #[g] w (fun e w' => (∃ r, GoV P E r ∧ e = .returned r) ∧ Below w.heap.size w w') := by
  have HH := Lib.hid H
  clear H
  go_enter Tryz.func111, Tryz.ntmps111
  go_wp2_with fail
  refine HH.out.mono ?_
  rintro e w1 ⟨⟨t, hP, rfl⟩ | ⟨hE, T, a, hT, rfl⟩, hb⟩
  · go_wp2_with fail
    go_returns
    exact ⟨⟨_, .inl ⟨_, hP, rfl⟩, rfl⟩, hb⟩
  · go_wp2_with fail
    go_returns
    exact ⟨⟨_, .inr ⟨hE, _, _, hT, rfl⟩, rfl⟩, hb⟩
set_option maxHeartbeats 2000000 in
theorem fTSV_w (x : V) (hx : Va.Good x) (hsz : x.size ≤ 400) (P : ByteArray → Prop) (E : Prop) (HX : FnW 166 x P E) (v : Value) (S : Nat → Prop) (w : World) (hv : RV w S x v) (hS : ∀ b, S b → b < w.heap.size) (hT : Tabs w) (hU : UrlTab w) : Calls Tryz.prog 58 #[v] w (ResEnd P E w) := by
  have HZZ := Lib.hid (fun (g : Value) (S1 : Nat → Prop) (w1 : World) (h : GV w1 S1 x g) (hs : ∀ b, S1 b → b < w1.heap.size) (hb : Below w.heap.size w w1) => zzTSV_w P E g w1 (HX g S1 w1 h hs (hT.below hb) (hU.below hb)))
  have HTG := Lib.hid (toGo_good 400 x hsz (by omega) hx)
  have HV := Lib.hid hv
  have HS := Lib.hid hS
  obtain ⟨k, h, t, la, n1, lc, ka, n2, kc, va, n3, vc, rfl⟩ : ∃ (k h : Int) (t : ByteArray) (la : Option Addr) (n1 lc : Nat) (ka : Option Addr) (n2 kc : Nat) (va : Option Addr) (n3 vc : Nat), v = .agg #[.int .i64 k, .int .i64 h, .string t, .slice la n1 lc, .slice ka n2 kc, .slice va n3 vc] := by
    cases x with
    | mk k h t ls ks vs =>
    rw [RV] at hv
    obtain ⟨la, lc, ka, kc, va, vc, e, _⟩ := hv
    exact ⟨_, _, _, _, _, _, _, _, _, _, _, _, e⟩
  clear hx hsz HX hv hS hT hU
  go_enter Tryz.func58, Tryz.ntmps58
  go_wp2_with fail
  generalize hW : World.alloc (World.alloc w _) _ = W
  have b1 : Below w.heap.size w W := hW ▸ (by go_grown)
  have z : W.heap[w.heap.size + 1]? = some (.cells #[.int .i64 0, .int .i64 0, .string ⟨#[]⟩, .slice none 0 0, .slice none 0 0, .slice none 0 0, .int .i64 0] 35 (0, 0)) := hW ▸ (by have := block_new (w.alloc (.cells #[.int .i64 k, .int .i64 h, .string t, .slice la n1 lc, .slice ka n2 kc, .slice va n3 vc] 27)) #[.int .i64 0, .int .i64 0, .string ⟨#[]⟩, .slice none 0 0, .slice none 0 0, .slice none 0 0, .int .i64 0] 35; rwa [World.size_alloc] at this)
  clear hW
  have hs := b1.size
  refine (HTG.out _ S W (RV.mono (Same.of_below b1 HS.out) (fun _ h => h) _ _ HV.out) (fun b h => Nat.lt_of_lt_of_le (HS.out b h) b1.size)).mono ?_
  rintro e w2 ⟨g, rfl, hgv, hb2⟩
  have HGV := Lib.hid (GV.lt x g hgv)
  have HZ := Lib.hid (keep hb2 z)
  have HB := Lib.hid (b1.trans (hb2.mono b1.size))
  have hs2 := hb2.size
  have hwlt : w.heap.size + 1 < W.heap.size := heap_lt z
  have HZ2 := Lib.hid (HZZ.out g _ w2 HGV.out (fun b h => h.2) HB.out)
  rcases Mb.gv_shape hgv with rfl | ⟨tv, xv, rfl⟩
  all_goals
    clear hgv hb2 z b1
    go_wp2_with fail
    refine HZ2.out.mono ?_
    rintro e w3 ⟨⟨r, hr, rfl⟩, hb3⟩
    have HZ3 := Lib.hid (keep hb3 HZ.out)
    have HB3 := Lib.hid (HB.out.trans (hb3.mono HB.out.size))
    have hs3 := hb3.size
    clear hb3
    have HRS := Lib.hid (result_fmt P E r hr w3)
    clear hr
    go_wp2_with fail
    refine HRS.out.mono ?_
    rintro e w4 ⟨k4, s4, la4, lc4, ka4, kc4, va4, vc4, r4, rfl, hres, hb4⟩
    have zz := cells7 (keep hb4 HZ3.out)
    have HB4 := Lib.hid (HB3.out.trans (hb4.mono HB3.out.size))
    have HRES := Lib.hid hres
    clear hb4 hres
    go_wp2_with fail
    refine bodyPost_ret (v := .agg #[.int .i64 k4, .int .i64 0, .string s4, .slice la4 0 lc4, .slice ka4 0 kc4, .slice va4 0 vc4, .int .i64 r4]) (by simp [results, Tryz.results58, go_sem, *]) rfl ⟨?_, sets7 HB4.out (Nat.le_succ _) _ _ _ _ _ _ _⟩
    rcases HRES.out with ⟨rfl, rfl, hP⟩ | ⟨hE, rfl, rfl, rfl, rfl, rfl, rfl, rfl, rfl, rfl⟩
    · exact .inl ⟨_, _, _, _, _, _, _, hP, rfl⟩
    · exact .inr ⟨hE, rfl⟩
set_option maxHeartbeats 400000 in
theorem zzSh_w (P : ByteArray → Prop) (E : Prop) (g : Value) (w : World) (H : Calls Tryz.prog 167 #[g] w (FnEnd P E w)) : Calls Tryz.prog 112 #[g] w (fun e w' => (∃ r, GoV P E r ∧ e = .returned r) ∧ Below w.heap.size w w') := by
  have HH := Lib.hid H
  clear H
  go_enter Tryz.func112, Tryz.ntmps112
  go_wp2_with fail
  refine HH.out.mono ?_
  rintro e w1 ⟨⟨t, hP, rfl⟩ | ⟨hE, T, a, hT, rfl⟩, hb⟩
  · go_wp2_with fail
    go_returns
    exact ⟨⟨_, .inl ⟨_, hP, rfl⟩, rfl⟩, hb⟩
  · go_wp2_with fail
    go_returns
    exact ⟨⟨_, .inr ⟨hE, _, _, hT, rfl⟩, rfl⟩, hb⟩
set_option maxHeartbeats 2000000 in
theorem fSh_w (x : V) (hx : Va.Good x) (hsz : x.size ≤ 400) (P : ByteArray → Prop) (E : Prop) (HX : FnW 167 x P E) (v : Value) (S : Nat → Prop) (w : World) (hv : RV w S x v) (hS : ∀ b, S b → b < w.heap.size) (hT : Tabs w) (hU : UrlTab w) : Calls Tryz.prog 59 #[v] w (ResEnd P E w) := by
  have HZZ := Lib.hid (fun (g : Value) (S1 : Nat → Prop) (w1 : World) (h : GV w1 S1 x g) (hs : ∀ b, S1 b → b < w1.heap.size) (hb : Below w.heap.size w w1) => zzSh_w P E g w1 (HX g S1 w1 h hs (hT.below hb) (hU.below hb)))
  have HTG := Lib.hid (toGo_good 400 x hsz (by omega) hx)
  have HV := Lib.hid hv
  have HS := Lib.hid hS
  obtain ⟨k, h, t, la, n1, lc, ka, n2, kc, va, n3, vc, rfl⟩ : ∃ (k h : Int) (t : ByteArray) (la : Option Addr) (n1 lc : Nat) (ka : Option Addr) (n2 kc : Nat) (va : Option Addr) (n3 vc : Nat), v = .agg #[.int .i64 k, .int .i64 h, .string t, .slice la n1 lc, .slice ka n2 kc, .slice va n3 vc] := by
    cases x with
    | mk k h t ls ks vs =>
    rw [RV] at hv
    obtain ⟨la, lc, ka, kc, va, vc, e, _⟩ := hv
    exact ⟨_, _, _, _, _, _, _, _, _, _, _, _, e⟩
  clear hx hsz HX hv hS hT hU
  go_enter Tryz.func59, Tryz.ntmps59
  go_wp2_with fail
  generalize hW : World.alloc (World.alloc w _) _ = W
  have b1 : Below w.heap.size w W := hW ▸ (by go_grown)
  have z : W.heap[w.heap.size + 1]? = some (.cells #[.int .i64 0, .int .i64 0, .string ⟨#[]⟩, .slice none 0 0, .slice none 0 0, .slice none 0 0, .int .i64 0] 35 (0, 0)) := hW ▸ (by have := block_new (w.alloc (.cells #[.int .i64 k, .int .i64 h, .string t, .slice la n1 lc, .slice ka n2 kc, .slice va n3 vc] 27)) #[.int .i64 0, .int .i64 0, .string ⟨#[]⟩, .slice none 0 0, .slice none 0 0, .slice none 0 0, .int .i64 0] 35; rwa [World.size_alloc] at this)
  clear hW
  have hs := b1.size
  refine (HTG.out _ S W (RV.mono (Same.of_below b1 HS.out) (fun _ h => h) _ _ HV.out) (fun b h => Nat.lt_of_lt_of_le (HS.out b h) b1.size)).mono ?_
  rintro e w2 ⟨g, rfl, hgv, hb2⟩
  have HGV := Lib.hid (GV.lt x g hgv)
  have HZ := Lib.hid (keep hb2 z)
  have HB := Lib.hid (b1.trans (hb2.mono b1.size))
  have hs2 := hb2.size
  have hwlt : w.heap.size + 1 < W.heap.size := heap_lt z
  have HZ2 := Lib.hid (HZZ.out g _ w2 HGV.out (fun b h => h.2) HB.out)
  rcases Mb.gv_shape hgv with rfl | ⟨tv, xv, rfl⟩
  all_goals
    clear hgv hb2 z b1
    go_wp2_with fail
    refine HZ2.out.mono ?_
    rintro e w3 ⟨⟨r, hr, rfl⟩, hb3⟩
    have HZ3 := Lib.hid (keep hb3 HZ.out)
    have HB3 := Lib.hid (HB.out.trans (hb3.mono HB.out.size))
    have hs3 := hb3.size
    clear hb3
    have HRS := Lib.hid (result_fmt P E r hr w3)
    clear hr
    go_wp2_with fail
    refine HRS.out.mono ?_
    rintro e w4 ⟨k4, s4, la4, lc4, ka4, kc4, va4, vc4, r4, rfl, hres, hb4⟩
    have zz := cells7 (keep hb4 HZ3.out)
    have HB4 := Lib.hid (HB3.out.trans (hb4.mono HB3.out.size))
    have HRES := Lib.hid hres
    clear hb4 hres
    go_wp2_with fail
    refine bodyPost_ret (v := .agg #[.int .i64 k4, .int .i64 0, .string s4, .slice la4 0 lc4, .slice ka4 0 kc4, .slice va4 0 vc4, .int .i64 r4]) (by simp [results, Tryz.results59, go_sem, *]) rfl ⟨?_, sets7 HB4.out (Nat.le_succ _) _ _ _ _ _ _ _⟩
    rcases HRES.out with ⟨rfl, rfl, hP⟩ | ⟨hE, rfl, rfl, rfl, rfl, rfl, rfl, rfl, rfl, rfl⟩
    · exact .inl ⟨_, _, _, _, _, _, _, hP, rfl⟩
    · exact .inr ⟨hE, rfl⟩
set_option maxHeartbeats 400000 in
theorem ZzB64_w (P : ByteArray → Prop) (E : Prop) (g : Value) (w : World) (H : Calls Tryz.prog 103 #[g] w (FnEnd P E w)) : Calls Tryz.prog 50 #[g] w (fun e w' => (∃ r, GoV P E r ∧ e = .returned r) ∧ Below w.heap.size w w') := by
  have HH := Lib.hid H
  clear H
  go_enter Tryz.func50, Tryz.ntmps50
  go_wp2_with fail
  refine HH.out.mono ?_
  rintro e w1 ⟨⟨t, hP, rfl⟩ | ⟨hE, T, a, hT, rfl⟩, hb⟩
  · go_wp2_with fail
    go_returns
    exact ⟨⟨_, .inl ⟨_, hP, rfl⟩, rfl⟩, hb⟩
  · go_wp2_with fail
    go_returns
    exact ⟨⟨_, .inr ⟨hE, _, _, hT, rfl⟩, rfl⟩, hb⟩
set_option maxHeartbeats 2000000 in
theorem FormatB64_w (x : V) (hx : Va.Good x) (hsz : x.size ≤ 400) (P : ByteArray → Prop) (E : Prop) (HX : FnW 103 x P E) (v : Value) (S : Nat → Prop) (w : World) (hv : RV w S x v) (hS : ∀ b, S b → b < w.heap.size) (hT : Tabs w) (hU : UrlTab w) : Calls Tryz.prog 20 #[v] w (ResEnd P E w) := by
  have HZZ := Lib.hid (fun (g : Value) (S1 : Nat → Prop) (w1 : World) (h : GV w1 S1 x g) (hs : ∀ b, S1 b → b < w1.heap.size) (hb : Below w.heap.size w w1) => ZzB64_w P E g w1 (HX g S1 w1 h hs (hT.below hb) (hU.below hb)))
  have HTG := Lib.hid (toGo_good 400 x hsz (by omega) hx)
  have HV := Lib.hid hv
  have HS := Lib.hid hS
  obtain ⟨k, h, t, la, n1, lc, ka, n2, kc, va, n3, vc, rfl⟩ : ∃ (k h : Int) (t : ByteArray) (la : Option Addr) (n1 lc : Nat) (ka : Option Addr) (n2 kc : Nat) (va : Option Addr) (n3 vc : Nat), v = .agg #[.int .i64 k, .int .i64 h, .string t, .slice la n1 lc, .slice ka n2 kc, .slice va n3 vc] := by
    cases x with
    | mk k h t ls ks vs =>
    rw [RV] at hv
    obtain ⟨la, lc, ka, kc, va, vc, e, _⟩ := hv
    exact ⟨_, _, _, _, _, _, _, _, _, _, _, _, e⟩
  clear hx hsz HX hv hS hT hU
  go_enter Tryz.func20, Tryz.ntmps20
  go_wp2_with fail
  generalize hW : World.alloc (World.alloc w _) _ = W
  have b1 : Below w.heap.size w W := hW ▸ (by go_grown)
  have z : W.heap[w.heap.size + 1]? = some (.cells #[.int .i64 0, .int .i64 0, .string ⟨#[]⟩, .slice none 0 0, .slice none 0 0, .slice none 0 0, .int .i64 0] 35 (0, 0)) := hW ▸ (by have := block_new (w.alloc (.cells #[.int .i64 k, .int .i64 h, .string t, .slice la n1 lc, .slice ka n2 kc, .slice va n3 vc] 27)) #[.int .i64 0, .int .i64 0, .string ⟨#[]⟩, .slice none 0 0, .slice none 0 0, .slice none 0 0, .int .i64 0] 35; rwa [World.size_alloc] at this)
  clear hW
  have hs := b1.size
  refine (HTG.out _ S W (RV.mono (Same.of_below b1 HS.out) (fun _ h => h) _ _ HV.out) (fun b h => Nat.lt_of_lt_of_le (HS.out b h) b1.size)).mono ?_
  rintro e w2 ⟨g, rfl, hgv, hb2⟩
  have HGV := Lib.hid (GV.lt x g hgv)
  have HZ := Lib.hid (keep hb2 z)
  have HB := Lib.hid (b1.trans (hb2.mono b1.size))
  have hs2 := hb2.size
  have hwlt : w.heap.size + 1 < W.heap.size := heap_lt z
  have HZ2 := Lib.hid (HZZ.out g _ w2 HGV.out (fun b h => h.2) HB.out)
  rcases Mb.gv_shape hgv with rfl | ⟨tv, xv, rfl⟩
  all_goals
    clear hgv hb2 z b1
    go_wp2_with fail
    refine HZ2.out.mono ?_
    rintro e w3 ⟨⟨r, hr, rfl⟩, hb3⟩
    have HZ3 := Lib.hid (keep hb3 HZ.out)
    have HB3 := Lib.hid (HB.out.trans (hb3.mono HB.out.size))
    have hs3 := hb3.size
    clear hb3
    have HRS := Lib.hid (result_fmt P E r hr w3)
    clear hr
    go_wp2_with fail
    refine HRS.out.mono ?_
    rintro e w4 ⟨k4, s4, la4, lc4, ka4, kc4, va4, vc4, r4, rfl, hres, hb4⟩
    have zz := cells7 (keep hb4 HZ3.out)
    have HB4 := Lib.hid (HB3.out.trans (hb4.mono HB3.out.size))
    have HRES := Lib.hid hres
    clear hb4 hres
    go_wp2_with fail
    refine bodyPost_ret (v := .agg #[.int .i64 k4, .int .i64 0, .string s4, .slice la4 0 lc4, .slice ka4 0 kc4, .slice va4 0 vc4, .int .i64 r4]) (by simp [results, Tryz.results20, go_sem, *]) rfl ⟨?_, sets7 HB4.out (Nat.le_succ _) _ _ _ _ _ _ _⟩
    rcases HRES.out with ⟨rfl, rfl, hP⟩ | ⟨hE, rfl, rfl, rfl, rfl, rfl, rfl, rfl, rfl, rfl⟩
    · exact .inl ⟨_, _, _, _, _, _, _, hP, rfl⟩
    · exact .inr ⟨hE, rfl⟩
set_option maxHeartbeats 400000 in
theorem ZzB64D_w (P : ByteArray → Prop) (E : Prop) (g : Value) (w : World) (H : Calls Tryz.prog 104 #[g] w (FnEnd P E w)) : Calls Tryz.prog 51 #[g] w (fun e w' => (∃ r, GoV P E r ∧ e = .returned r) ∧ Below w.heap.size w w') := by
  have HH := Lib.hid H
  clear H
  go_enter Tryz.func51, Tryz.ntmps51
  go_wp2_with fail
  refine HH.out.mono ?_
  rintro e w1 ⟨⟨t, hP, rfl⟩ | ⟨hE, T, a, hT, rfl⟩, hb⟩
  · go_wp2_with fail
    go_returns
    exact ⟨⟨_, .inl ⟨_, hP, rfl⟩, rfl⟩, hb⟩
  · go_wp2_with fail
    go_returns
    exact ⟨⟨_, .inr ⟨hE, _, _, hT, rfl⟩, rfl⟩, hb⟩
set_option maxHeartbeats 2000000 in
theorem FormatB64D_w (x : V) (hx : Va.Good x) (hsz : x.size ≤ 400) (P : ByteArray → Prop) (E : Prop) (HX : FnW 104 x P E) (v : Value) (S : Nat → Prop) (w : World) (hv : RV w S x v) (hS : ∀ b, S b → b < w.heap.size) (hT : Tabs w) (hU : UrlTab w) : Calls Tryz.prog 23 #[v] w (ResEnd P E w) := by
  have HZZ := Lib.hid (fun (g : Value) (S1 : Nat → Prop) (w1 : World) (h : GV w1 S1 x g) (hs : ∀ b, S1 b → b < w1.heap.size) (hb : Below w.heap.size w w1) => ZzB64D_w P E g w1 (HX g S1 w1 h hs (hT.below hb) (hU.below hb)))
  have HTG := Lib.hid (toGo_good 400 x hsz (by omega) hx)
  have HV := Lib.hid hv
  have HS := Lib.hid hS
  obtain ⟨k, h, t, la, n1, lc, ka, n2, kc, va, n3, vc, rfl⟩ : ∃ (k h : Int) (t : ByteArray) (la : Option Addr) (n1 lc : Nat) (ka : Option Addr) (n2 kc : Nat) (va : Option Addr) (n3 vc : Nat), v = .agg #[.int .i64 k, .int .i64 h, .string t, .slice la n1 lc, .slice ka n2 kc, .slice va n3 vc] := by
    cases x with
    | mk k h t ls ks vs =>
    rw [RV] at hv
    obtain ⟨la, lc, ka, kc, va, vc, e, _⟩ := hv
    exact ⟨_, _, _, _, _, _, _, _, _, _, _, _, e⟩
  clear hx hsz HX hv hS hT hU
  go_enter Tryz.func23, Tryz.ntmps23
  go_wp2_with fail
  generalize hW : World.alloc (World.alloc w _) _ = W
  have b1 : Below w.heap.size w W := hW ▸ (by go_grown)
  have z : W.heap[w.heap.size + 1]? = some (.cells #[.int .i64 0, .int .i64 0, .string ⟨#[]⟩, .slice none 0 0, .slice none 0 0, .slice none 0 0, .int .i64 0] 35 (0, 0)) := hW ▸ (by have := block_new (w.alloc (.cells #[.int .i64 k, .int .i64 h, .string t, .slice la n1 lc, .slice ka n2 kc, .slice va n3 vc] 27)) #[.int .i64 0, .int .i64 0, .string ⟨#[]⟩, .slice none 0 0, .slice none 0 0, .slice none 0 0, .int .i64 0] 35; rwa [World.size_alloc] at this)
  clear hW
  have hs := b1.size
  refine (HTG.out _ S W (RV.mono (Same.of_below b1 HS.out) (fun _ h => h) _ _ HV.out) (fun b h => Nat.lt_of_lt_of_le (HS.out b h) b1.size)).mono ?_
  rintro e w2 ⟨g, rfl, hgv, hb2⟩
  have HGV := Lib.hid (GV.lt x g hgv)
  have HZ := Lib.hid (keep hb2 z)
  have HB := Lib.hid (b1.trans (hb2.mono b1.size))
  have hs2 := hb2.size
  have hwlt : w.heap.size + 1 < W.heap.size := heap_lt z
  have HZ2 := Lib.hid (HZZ.out g _ w2 HGV.out (fun b h => h.2) HB.out)
  rcases Mb.gv_shape hgv with rfl | ⟨tv, xv, rfl⟩
  all_goals
    clear hgv hb2 z b1
    go_wp2_with fail
    refine HZ2.out.mono ?_
    rintro e w3 ⟨⟨r, hr, rfl⟩, hb3⟩
    have HZ3 := Lib.hid (keep hb3 HZ.out)
    have HB3 := Lib.hid (HB.out.trans (hb3.mono HB.out.size))
    have hs3 := hb3.size
    clear hb3
    have HRS := Lib.hid (result_fmt P E r hr w3)
    clear hr
    go_wp2_with fail
    refine HRS.out.mono ?_
    rintro e w4 ⟨k4, s4, la4, lc4, ka4, kc4, va4, vc4, r4, rfl, hres, hb4⟩
    have zz := cells7 (keep hb4 HZ3.out)
    have HB4 := Lib.hid (HB3.out.trans (hb4.mono HB3.out.size))
    have HRES := Lib.hid hres
    clear hb4 hres
    go_wp2_with fail
    refine bodyPost_ret (v := .agg #[.int .i64 k4, .int .i64 0, .string s4, .slice la4 0 lc4, .slice ka4 0 kc4, .slice va4 0 vc4, .int .i64 r4]) (by simp [results, Tryz.results23, go_sem, *]) rfl ⟨?_, sets7 HB4.out (Nat.le_succ _) _ _ _ _ _ _ _⟩
    rcases HRES.out with ⟨rfl, rfl, hP⟩ | ⟨hE, rfl, rfl, rfl, rfl, rfl, rfl, rfl, rfl, rfl⟩
    · exact .inl ⟨_, _, _, _, _, _, _, hP, rfl⟩
    · exact .inr ⟨hE, rfl⟩
end Go.Proofs.YtgjmgneppecfgaaGreatDoor.Mc
