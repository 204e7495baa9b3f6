/-
  FnFormat, texts McY: lemmas for the law; the theorem stands in the last text.
-/
import Derived.Test.YtgjmgneppecfgaaGreatDoorJ38
namespace Go.Proofs.YtgjmgneppecfgaaGreatDoor.Mc
open Go.RowKit Go.Proofs.YtgjmgneppecfgaaGreatDoor.Va Go.Proofs.YtgjmgneppecfgaaGreatDoor.Ba Go.Proofs.YtgjmgneppecfgaaGreatDoor.Ma Go.Proofs.YtgjmgneppecfgaaGreatDoor.Pa Go.Proofs.YtgjmgneppecfgaaGreatDoor.Fo
set_option linter.unusedVariables false
set_option linter.unusedSimpArgs false

set_option maxHeartbeats 2000000 in
theorem format_iToString (x : V) (hx : Va.Good x) (hsz : x.size ≤ 400) (P : ByteArray → Prop) (E : Prop) (HX : FnW 155 x P E) (v : Value) (S : Nat → Prop) (w : World) (hv : RV w S x v) (hS : ∀ b, S b → b < w.heap.size) (hT : Tabs w) (hU : UrlTab w) : Calls Tryz.prog 25 #[.string ⟨#[64, 116, 101, 120, 116]⟩, v] w (ResEnd P E w) := by
  have HF := Lib.hid (fun (w1 : World) (hb : Below w.heap.size w w1) => iToString_w x hx hsz P E HX v S w1 (RV.mono (Same.of_below hb hS) (fun _ h => h) _ _ hv) (fun b h => Nat.lt_of_lt_of_le (hS b h) hb.size) (hT.below hb) (hU.below hb))
  obtain ⟨k, h, t, la, n1, lc, ka, n2, kc, va, n3, vc, rfl⟩ : ∃ (k h : Int) (t : ByteArray) (la : Option Addr) (n1 lc : Nat) (ka : Option Addr) (n2 kc : Nat) (va : Option Addr) (n3 vc : Nat), v = .agg #[.int .i64 k, .int .i64 h, .string t, .slice la n1 lc, .slice ka n2 kc, .slice va n3 vc] := by
    cases x with
    | mk k h t ls ks vs =>
    rw [RV] at hv
    obtain ⟨la, lc, ka, kc, va, vc, e, _⟩ := hv
    exact ⟨_, _, _, _, _, _, _, _, _, _, _, _, e⟩
  clear hx hsz HX hv hS hT hU
  go_enter Tryz.func25, Tryz.ntmps25
  go_upto_region 1 with fail
  generalize hW : World.alloc (World.alloc w _) _ = W
  have b1 : Below w.heap.size w W := hW ▸ (by go_grown)
  have z : W.heap[w.heap.size + 1]? = some (.cells #[.int .i64 0, .int .i64 0, .string ⟨#[]⟩, .slice none 0 0, .slice none 0 0, .slice none 0 0, .int .i64 0] 35 (0, 0)) := hW ▸ (by have := block_new (w.alloc (.cells #[.int .i64 k, .int .i64 h, .string t, .slice la n1 lc, .slice ka n2 kc, .slice va n3 vc] 27)) #[.int .i64 0, .int .i64 0, .string ⟨#[]⟩, .slice none 0 0, .slice none 0 0, .slice none 0 0, .int .i64 0] 35; rwa [World.size_alloc] at this)
  have y : W.heap[w.heap.size]? = some (.cells #[.int .i64 k, .int .i64 h, .string t, .slice la n1 lc, .slice ka n2 kc, .slice va n3 vc] 27 (0, 0)) := hW ▸ block_past (block_new w _ _) _
  clear hW
  have HZ := Lib.hid z
  have HB := Lib.hid b1
  have hwlt : w.heap.size + 1 < W.heap.size := heap_lt z
  have yy := cells6 y
  have HF1 := Lib.hid (HF.out W b1)
  clear z y b1 HF
  go_wp2_with fail
  refine HF1.out.mono ?_
  rintro e w4 ⟨hres, hb4⟩
  have HZ4 := Lib.hid (keep hb4 HZ.out)
  have zz := cells7 HZ4.out
  have HB4 := Lib.hid (HB.out.trans (hb4.mono HB.out.size))
  clear hb4 yy
  rcases hres with ⟨t4, la4, lc4, ka4, kc4, va4, vc4, hP, rfl⟩ | ⟨hE, rfl⟩
  · have HP := Lib.hid hP
    clear hP
    go_wp2_with fail
    refine bodyPost_ret (v := .agg #[.int .i64 4, .int .i64 0, .string t4, .slice la4 0 lc4, .slice ka4 0 kc4, .slice va4 0 vc4, .int .i64 0]) (by simp [results, Tryz.results25, go_sem, *]) rfl ⟨.inl ⟨_, _, _, _, _, _, _, HP.out, rfl⟩, sets7 HB4.out (Nat.le_succ _) _ _ _ _ _ _ _⟩
  · unfold errV
    go_wp2_with fail
    refine bodyPost_ret (v := .agg #[.int .i64 0, .int .i64 0, .string ⟨#[]⟩, .slice none 0 0, .slice none 0 0, .slice none 0 0, .int .i64 1]) (by simp [results, Tryz.results25, go_sem, *]) rfl ⟨.inr ⟨hE, rfl⟩, sets7 HB4.out (Nat.le_succ _) _ _ _ _ _ _ _⟩
set_option maxHeartbeats 2000000 in
theorem format_iToJSON (x : V) (hx : Va.Good x) (hsz : x.size ≤ 400) (P : ByteArray → Prop) (E : Prop) (HX : FnW 161 x P E) (v : Value) (S : Nat → Prop) (w : World) (hv : RV w S x v) (hS : ∀ b, S b → b < w.heap.size) (hT : Tabs w) (hU : UrlTab w) : Calls Tryz.prog 25 #[.string ⟨#[64, 106, 115, 111, 110]⟩, v] w (ResEnd P E w) := by
  have HF := Lib.hid (fun (w1 : World) (hb : Below w.heap.size w w1) => iToJSON_w x hx hsz P E HX v S w1 (RV.mono (Same.of_below hb hS) (fun _ h => h) _ _ hv) (fun b h => Nat.lt_of_lt_of_le (hS b h) hb.size) (hT.below hb) (hU.below hb))
  obtain ⟨k, h, t, la, n1, lc, ka, n2, kc, va, n3, vc, rfl⟩ : ∃ (k h : Int) (t : ByteArray) (la : Option Addr) (n1 lc : Nat) (ka : Option Addr) (n2 kc : Nat) (va : Option Addr) (n3 vc : Nat), v = .agg #[.int .i64 k, .int .i64 h, .string t, .slice la n1 lc, .slice ka n2 kc, .slice va n3 vc] := by
    cases x with
    | mk k h t ls ks vs =>
    rw [RV] at hv
    obtain ⟨la, lc, ka, kc, va, vc, e, _⟩ := hv
    exact ⟨_, _, _, _, _, _, _, _, _, _, _, _, e⟩
  clear hx hsz HX hv hS hT hU
  go_enter Tryz.func25, Tryz.ntmps25
  go_upto_region 1 with fail
  generalize hW : World.alloc (World.alloc w _) _ = W
  have b1 : Below w.heap.size w W := hW ▸ (by go_grown)
  have z : W.heap[w.heap.size + 1]? = some (.cells #[.int .i64 0, .int .i64 0, .string ⟨#[]⟩, .slice none 0 0, .slice none 0 0, .slice none 0 0, .int .i64 0] 35 (0, 0)) := hW ▸ (by have := block_new (w.alloc (.cells #[.int .i64 k, .int .i64 h, .string t, .slice la n1 lc, .slice ka n2 kc, .slice va n3 vc] 27)) #[.int .i64 0, .int .i64 0, .string ⟨#[]⟩, .slice none 0 0, .slice none 0 0, .slice none 0 0, .int .i64 0] 35; rwa [World.size_alloc] at this)
  have y : W.heap[w.heap.size]? = some (.cells #[.int .i64 k, .int .i64 h, .string t, .slice la n1 lc, .slice ka n2 kc, .slice va n3 vc] 27 (0, 0)) := hW ▸ block_past (block_new w _ _) _
  clear hW
  have HZ := Lib.hid z
  have HB := Lib.hid b1
  have hwlt : w.heap.size + 1 < W.heap.size := heap_lt z
  have yy := cells6 y
  have HF1 := Lib.hid (HF.out W b1)
  clear z y b1 HF
  go_wp2_with fail
  refine HF1.out.mono ?_
  rintro e w4 ⟨hres, hb4⟩
  have HZ4 := Lib.hid (keep hb4 HZ.out)
  have zz := cells7 HZ4.out
  have HB4 := Lib.hid (HB.out.trans (hb4.mono HB.out.size))
  clear hb4 yy
  rcases hres with ⟨t4, la4, lc4, ka4, kc4, va4, vc4, hP, rfl⟩ | ⟨hE, rfl⟩
  · have HP := Lib.hid hP
    clear hP
    go_wp2_with fail
    refine bodyPost_ret (v := .agg #[.int .i64 4, .int .i64 0, .string t4, .slice la4 0 lc4, .slice ka4 0 kc4, .slice va4 0 vc4, .int .i64 0]) (by simp [results, Tryz.results25, go_sem, *]) rfl ⟨.inl ⟨_, _, _, _, _, _, _, HP.out, rfl⟩, sets7 HB4.out (Nat.le_succ _) _ _ _ _ _ _ _⟩
  · unfold errV
    go_wp2_with fail
    refine bodyPost_ret (v := .agg #[.int .i64 0, .int .i64 0, .string ⟨#[]⟩, .slice none 0 0, .slice none 0 0, .slice none 0 0, .int .i64 1]) (by simp [results, Tryz.results25, go_sem, *]) rfl ⟨.inr ⟨hE, rfl⟩, sets7 HB4.out (Nat.le_succ _) _ _ _ _ _ _ _⟩
set_option maxHeartbeats 2000000 in
theorem format_fHTML (x : V) (hx : Va.Good x) (hsz : x.size ≤ 400) (P : ByteArray → Prop) (E : Prop) (HX : FnW 162 x P E) (v : Value) (S : Nat → Prop) (w : World) (hv : RV w S x v) (hS : ∀ b, S b → b < w.heap.size) (hT : Tabs w) (hU : UrlTab w) : Calls Tryz.prog 25 #[.string ⟨#[64, 104, 116, 109, 108]⟩, v] w (ResEnd P E w) := by
  have HF := Lib.hid (fun (w1 : World) (hb : Below w.heap.size w w1) => fHTML_w x hx hsz P E HX v S w1 (RV.mono (Same.of_below hb hS) (fun _ h => h) _ _ hv) (fun b h => Nat.lt_of_lt_of_le (hS b h) hb.size) (hT.below hb) (hU.below hb))
  obtain ⟨k, h, t, la, n1, lc, ka, n2, kc, va, n3, vc, rfl⟩ : ∃ (k h : Int) (t : ByteArray) (la : Option Addr) (n1 lc : Nat) (ka : Option Addr) (n2 kc : Nat) (va : Option Addr) (n3 vc : Nat), v = .agg #[.int .i64 k, .int .i64 h, .string t, .slice la n1 lc, .slice ka n2 kc, .slice va n3 vc] := by
    cases x with
    | mk k h t ls ks vs =>
    rw [RV] at hv
    obtain ⟨la, lc, ka, kc, va, vc, e, _⟩ := hv
    exact ⟨_, _, _, _, _, _, _, _, _, _, _, _, e⟩
  clear hx hsz HX hv hS hT hU
  go_enter Tryz.func25, Tryz.ntmps25
  go_upto_region 1 with fail
  generalize hW : World.alloc (World.alloc w _) _ = W
  have b1 : Below w.heap.size w W := hW ▸ (by go_grown)
  have z : W.heap[w.heap.size + 1]? = some (.cells #[.int .i64 0, .int .i64 0, .string ⟨#[]⟩, .slice none 0 0, .slice none 0 0, .slice none 0 0, .int .i64 0] 35 (0, 0)) := hW ▸ (by have := block_new (w.alloc (.cells #[.int .i64 k, .int .i64 h, .string t, .slice la n1 lc, .slice ka n2 kc, .slice va n3 vc] 27)) #[.int .i64 0, .int .i64 0, .string ⟨#[]⟩, .slice none 0 0, .slice none 0 0, .slice none 0 0, .int .i64 0] 35; rwa [World.size_alloc] at this)
  have y : W.heap[w.heap.size]? = some (.cells #[.int .i64 k, .int .i64 h, .string t, .slice la n1 lc, .slice ka n2 kc, .slice va n3 vc] 27 (0, 0)) := hW ▸ block_past (block_new w _ _) _
  clear hW
  have HZ := Lib.hid z
  have HB := Lib.hid b1
  have hwlt : w.heap.size + 1 < W.heap.size := heap_lt z
  have yy := cells6 y
  have HF1 := Lib.hid (HF.out W b1)
  clear z y b1 HF
  go_wp2_with fail
  refine HF1.out.mono ?_
  rintro e w4 ⟨hres, hb4⟩
  have HZ4 := Lib.hid (keep hb4 HZ.out)
  have zz := cells7 HZ4.out
  have HB4 := Lib.hid (HB.out.trans (hb4.mono HB.out.size))
  clear hb4 yy
  rcases hres with ⟨t4, la4, lc4, ka4, kc4, va4, vc4, hP, rfl⟩ | ⟨hE, rfl⟩
  · have HP := Lib.hid hP
    clear hP
    go_wp2_with fail
    refine bodyPost_ret (v := .agg #[.int .i64 4, .int .i64 0, .string t4, .slice la4 0 lc4, .slice ka4 0 kc4, .slice va4 0 vc4, .int .i64 0]) (by simp [results, Tryz.results25, go_sem, *]) rfl ⟨.inl ⟨_, _, _, _, _, _, _, HP.out, rfl⟩, sets7 HB4.out (Nat.le_succ _) _ _ _ _ _ _ _⟩
  · unfold errV
    go_wp2_with fail
    refine bodyPost_ret (v := .agg #[.int .i64 0, .int .i64 0, .string ⟨#[]⟩, .slice none 0 0, .slice none 0 0, .slice none 0 0, .int .i64 1]) (by simp [results, Tryz.results25, go_sem, *]) rfl ⟨.inr ⟨hE, rfl⟩, sets7 HB4.out (Nat.le_succ _) _ _ _ _ _ _ _⟩
set_option maxHeartbeats 2000000 in
theorem format_fURI (x : V) (hx : Va.Good x) (hsz : x.size ≤ 400) (P : ByteArray → Prop) (E : Prop) (HX : FnW 163 x P E) (v : Value) (S : Nat → Prop) (w : World) (hv : RV w S x v) (hS : ∀ b, S b → b < w.heap.size) (hT : Tabs w) (hU : UrlTab w) : Calls Tryz.prog 25 #[.string ⟨#[64, 117, 114, 105]⟩, v] w (ResEnd P E w) := by
  have HF := Lib.hid (fun (w1 : World) (hb : Below w.heap.size w w1) => fURI_w x hx hsz P E HX v S w1 (RV.mono (Same.of_below hb hS) (fun _ h => h) _ _ hv) (fun b h => Nat.lt_of_lt_of_le (hS b h) hb.size) (hT.below hb) (hU.below hb))
  obtain ⟨k, h, t, la, n1, lc, ka, n2, kc, va, n3, vc, rfl⟩ : ∃ (k h : Int) (t : ByteArray) (la : Option Addr) (n1 lc : Nat) (ka : Option Addr) (n2 kc : Nat) (va : Option Addr) (n3 vc : Nat), v = .agg #[.int .i64 k, .int .i64 h, .string t, .slice la n1 lc, .slice ka n2 kc, .slice va n3 vc] := by
    cases x with
    | mk k h t ls ks vs =>
    rw [RV] at hv
    obtain ⟨la, lc, ka, kc, va, vc, e, _⟩ := hv
    exact ⟨_, _, _, _, _, _, _, _, _, _, _, _, e⟩
  clear hx hsz HX hv hS hT hU
  go_enter Tryz.func25, Tryz.ntmps25
  go_upto_region 1 with fail
  generalize hW : World.alloc (World.alloc w _) _ = W
  have b1 : Below w.heap.size w W := hW ▸ (by go_grown)
  have z : W.heap[w.heap.size + 1]? = some (.cells #[.int .i64 0, .int .i64 0, .string ⟨#[]⟩, .slice none 0 0, .slice none 0 0, .slice none 0 0, .int .i64 0] 35 (0, 0)) := hW ▸ (by have := block_new (w.alloc (.cells #[.int .i64 k, .int .i64 h, .string t, .slice la n1 lc, .slice ka n2 kc, .slice va n3 vc] 27)) #[.int .i64 0, .int .i64 0, .string ⟨#[]⟩, .slice none 0 0, .slice none 0 0, .slice none 0 0, .int .i64 0] 35; rwa [World.size_alloc] at this)
  have y : W.heap[w.heap.size]? = some (.cells #[.int .i64 k, .int .i64 h, .string t, .slice la n1 lc, .slice ka n2 kc, .slice va n3 vc] 27 (0, 0)) := hW ▸ block_past (block_new w _ _) _
  clear hW
  have HZ := Lib.hid z
  have HB := Lib.hid b1
  have hwlt : w.heap.size + 1 < W.heap.size := heap_lt z
  have yy := cells6 y
  have HF1 := Lib.hid (HF.out W b1)
  clear z y b1 HF
  go_wp2_with fail
  refine HF1.out.mono ?_
  rintro e w4 ⟨hres, hb4⟩
  have HZ4 := Lib.hid (keep hb4 HZ.out)
  have zz := cells7 HZ4.out
  have HB4 := Lib.hid (HB.out.trans (hb4.mono HB.out.size))
  clear hb4 yy
  rcases hres with ⟨t4, la4, lc4, ka4, kc4, va4, vc4, hP, rfl⟩ | ⟨hE, rfl⟩
  · have HP := Lib.hid hP
    clear hP
    go_wp2_with fail
    refine bodyPost_ret (v := .agg #[.int .i64 4, .int .i64 0, .string t4, .slice la4 0 lc4, .slice ka4 0 kc4, .slice va4 0 vc4, .int .i64 0]) (by simp [results, Tryz.results25, go_sem, *]) rfl ⟨.inl ⟨_, _, _, _, _, _, _, HP.out, rfl⟩, sets7 HB4.out (Nat.le_succ _) _ _ _ _ _ _ _⟩
  · unfold errV
    go_wp2_with fail
    refine bodyPost_ret (v := .agg #[.int .i64 0, .int .i64 0, .string ⟨#[]⟩, .slice none 0 0, .slice none 0 0, .slice none 0 0, .int .i64 1]) (by simp [results, Tryz.results25, go_sem, *]) rfl ⟨.inr ⟨hE, rfl⟩, sets7 HB4.out (Nat.le_succ _) _ _ _ _ _ _ _⟩
set_option maxHeartbeats 2000000 in
theorem format_fURID (x : V) (hx : Va.Good x) (hsz : x.size ≤ 400) (P : ByteArray → Prop) (E : Prop) (HX : FnW 164 x P E) (v : Value) (S : Nat → Prop) (w : World) (hv : RV w S x v) (hS : ∀ b, S b → b < w.heap.size) (hT : Tabs w) (hU : UrlTab w) : Calls Tryz.prog 25 #[.string ⟨#[64, 117, 114, 105, 100]⟩, v] w (ResEnd P E w) := by
  have HF := Lib.hid (fun (w1 : World) (hb : Below w.heap.size w w1) => fURID_w x hx hsz P E HX v S w1 (RV.mono (Same.of_below hb hS) (fun _ h => h) _ _ hv) (fun b h => Nat.lt_of_lt_of_le (hS b h) hb.size) (hT.below hb) (hU.below hb))
  obtain ⟨k, h, t, la, n1, lc, ka, n2, kc, va, n3, vc, rfl⟩ : ∃ (k h : Int) (t : ByteArray) (la : Option Addr) (n1 lc : Nat) (ka : Option Addr) (n2 kc : Nat) (va : Option Addr) (n3 vc : Nat), v = .agg #[.int .i64 k, .int .i64 h, .string t, .slice la n1 lc, .slice ka n2 kc, .slice va n3 vc] := by
    cases x with
    | mk k h t ls ks vs =>
    rw [RV] at hv
    obtain ⟨la, lc, ka, kc, va, vc, e, _⟩ := hv
    exact ⟨_, _, _, _, _, _, _, _, _, _, _, _, e⟩
  clear hx hsz HX hv hS hT hU
  go_enter Tryz.func25, Tryz.ntmps25
  go_upto_region 1 with fail
  generalize hW : World.alloc (World.alloc w _) _ = W
  have b1 : Below w.heap.size w W := hW ▸ (by go_grown)
  have z : W.heap[w.heap.size + 1]? = some (.cells #[.int .i64 0, .int .i64 0, .string ⟨#[]⟩, .slice none 0 0, .slice none 0 0, .slice none 0 0, .int .i64 0] 35 (0, 0)) := hW ▸ (by have := block_new (w.alloc (.cells #[.int .i64 k, .int .i64 h, .string t, .slice la n1 lc, .slice ka n2 kc, .slice va n3 vc] 27)) #[.int .i64 0, .int .i64 0, .string ⟨#[]⟩, .slice none 0 0, .slice none 0 0, .slice none 0 0, .int .i64 0] 35; rwa [World.size_alloc] at this)
  have y : W.heap[w.heap.size]? = some (.cells #[.int .i64 k, .int .i64 h, .string t, .slice la n1 lc, .slice ka n2 kc, .slice va n3 vc] 27 (0, 0)) := hW ▸ block_past (block_new w _ _) _
  clear hW
  have HZ := Lib.hid z
  have HB := Lib.hid b1
  have hwlt : w.heap.size + 1 < W.heap.size := heap_lt z
  have yy := cells6 y
  have HF1 := Lib.hid (HF.out W b1)
  clear z y b1 HF
  go_wp2_with fail
  refine HF1.out.mono ?_
  rintro e w4 ⟨hres, hb4⟩
  have HZ4 := Lib.hid (keep hb4 HZ.out)
  have zz := cells7 HZ4.out
  have HB4 := Lib.hid (HB.out.trans (hb4.mono HB.out.size))
  clear hb4 yy
  rcases hres with ⟨t4, la4, lc4, ka4, kc4, va4, vc4, hP, rfl⟩ | ⟨hE, rfl⟩
  · have HP := Lib.hid hP
    clear hP
    go_wp2_with fail
    refine bodyPost_ret (v := .agg #[.int .i64 4, .int .i64 0, .string t4, .slice la4 0 lc4, .slice ka4 0 kc4, .slice va4 0 vc4, .int .i64 0]) (by simp [results, Tryz.results25, go_sem, *]) rfl ⟨.inl ⟨_, _, _, _, _, _, _, HP.out, rfl⟩, sets7 HB4.out (Nat.le_succ _) _ _ _ _ _ _ _⟩
  · unfold errV
    go_wp2_with fail
    refine bodyPost_ret (v := .agg #[.int .i64 0, .int .i64 0, .string ⟨#[]⟩, .slice none 0 0, .slice none 0 0, .slice none 0 0, .int .i64 1]) (by simp [results, Tryz.results25, go_sem, *]) rfl ⟨.inr ⟨hE, rfl⟩, sets7 HB4.out (Nat.le_succ _) _ _ _ _ _ _ _⟩
set_option maxHeartbeats 2000000 in
theorem format_fCSV (x : V) (hx : Va.Good x) (hsz : x.size ≤ 400) (P : ByteArray → Prop) (E : Prop) (HX : FnW 165 x P E) (v : Value) (S : Nat → Prop) (w : World) (hv : RV w S x v) (hS : ∀ b, S b → b < w.heap.size) (hT : Tabs w) (hU : UrlTab w) : Calls Tryz.prog 25 #[.string ⟨#[64, 99, 115, 118]⟩, v] w (ResEnd P E w) := by
  have HF := Lib.hid (fun (w1 : World) (hb : Below w.heap.size w w1) => fCSV_w x hx hsz P E HX v S w1 (RV.mono (Same.of_below hb hS) (fun _ h => h) _ _ hv) (fun b h => Nat.lt_of_lt_of_le (hS b h) hb.size) (hT.below hb) (hU.below hb))
  obtain ⟨k, h, t, la, n1, lc, ka, n2, kc, va, n3, vc, rfl⟩ : ∃ (k h : Int) (t : ByteArray) (la : Option Addr) (n1 lc : Nat) (ka : Option Addr) (n2 kc : Nat) (va : Option Addr) (n3 vc : Nat), v = .agg #[.int .i64 k, .int .i64 h, .string t, .slice la n1 lc, .slice ka n2 kc, .slice va n3 vc] := by
    cases x with
    | mk k h t ls ks vs =>
    rw [RV] at hv
    obtain ⟨la, lc, ka, kc, va, vc, e, _⟩ := hv
    exact ⟨_, _, _, _, _, _, _, _, _, _, _, _, e⟩
  clear hx hsz HX hv hS hT hU
  go_enter Tryz.func25, Tryz.ntmps25
  go_upto_region 1 with fail
  generalize hW : World.alloc (World.alloc w _) _ = W
  have b1 : Below w.heap.size w W := hW ▸ (by go_grown)
  have z : W.heap[w.heap.size + 1]? = some (.cells #[.int .i64 0, .int .i64 0, .string ⟨#[]⟩, .slice none 0 0, .slice none 0 0, .slice none 0 0, .int .i64 0] 35 (0, 0)) := hW ▸ (by have := block_new (w.alloc (.cells #[.int .i64 k, .int .i64 h, .string t, .slice la n1 lc, .slice ka n2 kc, .slice va n3 vc] 27)) #[.int .i64 0, .int .i64 0, .string ⟨#[]⟩, .slice none 0 0, .slice none 0 0, .slice none 0 0, .int .i64 0] 35; rwa [World.size_alloc] at this)
  have y : W.heap[w.heap.size]? = some (.cells #[.int .i64 k, .int .i64 h, .string t, .slice la n1 lc, .slice ka n2 kc, .slice va n3 vc] 27 (0, 0)) := hW ▸ block_past (block_new w _ _) _
  clear hW
  have HZ := Lib.hid z
  have HB := Lib.hid b1
  have hwlt : w.heap.size + 1 < W.heap.size := heap_lt z
  have yy := cells6 y
  have HF1 := Lib.hid (HF.out W b1)
  clear z y b1 HF
  go_wp2_with fail
  refine HF1.out.mono ?_
  rintro e w4 ⟨hres, hb4⟩
  have HZ4 := Lib.hid (keep hb4 HZ.out)
  have zz := cells7 HZ4.out
  have HB4 := Lib.hid (HB.out.trans (hb4.mono HB.out.size))
  clear hb4 yy
  rcases hres with ⟨t4, la4, lc4, ka4, kc4, va4, vc4, hP, rfl⟩ | ⟨hE, rfl⟩
  · have HP := Lib.hid hP
    clear hP
    go_wp2_with fail
    refine bodyPost_ret (v := .agg #[.int .i64 4, .int .i64 0, .string t4, .slice la4 0 lc4, .slice ka4 0 kc4, .slice va4 0 vc4, .int .i64 0]) (by simp [results, Tryz.results25, go_sem, *]) rfl ⟨.inl ⟨_, _, _, _, _, _, _, HP.out, rfl⟩, sets7 HB4.out (Nat.le_succ _) _ _ _ _ _ _ _⟩
  · unfold errV
    go_wp2_with fail
    refine bodyPost_ret (v := .agg #[.int .i64 0, .int .i64 0, .string ⟨#[]⟩, .slice none 0 0, .slice none 0 0, .slice none 0 0, .int .i64 1]) (by simp [results, Tryz.results25, go_sem, *]) rfl ⟨.inr ⟨hE, rfl⟩, sets7 HB4.out (Nat.le_succ _) _ _ _ _ _ _ _⟩
set_option maxHeartbeats 2000000 in
theorem format_fTSV (x : V) (hx : Va.Good x) (hsz : x.size ≤ 400) (P : ByteArray → Prop) (E : Prop) (HX : FnW 166 x P E) (v : Value) (S : Nat → Prop) (w : World) (hv : RV w S x v) (hS : ∀ b, S b → b < w.heap.size) (hT : Tabs w) (hU : UrlTab w) : Calls Tryz.prog 25 #[.string ⟨#[64, 116, 115, 118]⟩, v] w (ResEnd P E w) := by
  have HF := Lib.hid (fun (w1 : World) (hb : Below w.heap.size w w1) => fTSV_w x hx hsz P E HX v S w1 (RV.mono (Same.of_below hb hS) (fun _ h => h) _ _ hv) (fun b h => Nat.lt_of_lt_of_le (hS b h) hb.size) (hT.below hb) (hU.below hb))
  obtain ⟨k, h, t, la, n1, lc, ka, n2, kc, va, n3, vc, rfl⟩ : ∃ (k h : Int) (t : ByteArray) (la : Option Addr) (n1 lc : Nat) (ka : Option Addr) (n2 kc : Nat) (va : Option Addr) (n3 vc : Nat), v = .agg #[.int .i64 k, .int .i64 h, .string t, .slice la n1 lc, .slice ka n2 kc, .slice va n3 vc] := by
    cases x with
    | mk k h t ls ks vs =>
    rw [RV] at hv
    obtain ⟨la, lc, ka, kc, va, vc, e, _⟩ := hv
    exact ⟨_, _, _, _, _, _, _, _, _, _, _, _, e⟩
  clear hx hsz HX hv hS hT hU
  go_enter Tryz.func25, Tryz.ntmps25
  go_upto_region 1 with fail
  generalize hW : World.alloc (World.alloc w _) _ = W
  have b1 : Below w.heap.size w W := hW ▸ (by go_grown)
  have z : W.heap[w.heap.size + 1]? = some (.cells #[.int .i64 0, .int .i64 0, .string ⟨#[]⟩, .slice none 0 0, .slice none 0 0, .slice none 0 0, .int .i64 0] 35 (0, 0)) := hW ▸ (by have := block_new (w.alloc (.cells #[.int .i64 k, .int .i64 h, .string t, .slice la n1 lc, .slice ka n2 kc, .slice va n3 vc] 27)) #[.int .i64 0, .int .i64 0, .string ⟨#[]⟩, .slice none 0 0, .slice none 0 0, .slice none 0 0, .int .i64 0] 35; rwa [World.size_alloc] at this)
  have y : W.heap[w.heap.size]? = some (.cells #[.int .i64 k, .int .i64 h, .string t, .slice la n1 lc, .slice ka n2 kc, .slice va n3 vc] 27 (0, 0)) := hW ▸ block_past (block_new w _ _) _
  clear hW
  have HZ := Lib.hid z
  have HB := Lib.hid b1
  have hwlt : w.heap.size + 1 < W.heap.size := heap_lt z
  have yy := cells6 y
  have HF1 := Lib.hid (HF.out W b1)
  clear z y b1 HF
  go_wp2_with fail
  refine HF1.out.mono ?_
  rintro e w4 ⟨hres, hb4⟩
  have HZ4 := Lib.hid (keep hb4 HZ.out)
  have zz := cells7 HZ4.out
  have HB4 := Lib.hid (HB.out.trans (hb4.mono HB.out.size))
  clear hb4 yy
  rcases hres with ⟨t4, la4, lc4, ka4, kc4, va4, vc4, hP, rfl⟩ | ⟨hE, rfl⟩
  · have HP := Lib.hid hP
    clear hP
    go_wp2_with fail
    refine bodyPost_ret (v := .agg #[.int .i64 4, .int .i64 0, .string t4, .slice la4 0 lc4, .slice ka4 0 kc4, .slice va4 0 vc4, .int .i64 0]) (by simp [results, Tryz.results25, go_sem, *]) rfl ⟨.inl ⟨_, _, _, _, _, _, _, HP.out, rfl⟩, sets7 HB4.out (Nat.le_succ _) _ _ _ _ _ _ _⟩
  · unfold errV
    go_wp2_with fail
    refine bodyPost_ret (v := .agg #[.int .i64 0, .int .i64 0, .string ⟨#[]⟩, .slice none 0 0, .slice none 0 0, .slice none 0 0, .int .i64 1]) (by simp [results, Tryz.results25, go_sem, *]) rfl ⟨.inr ⟨hE, rfl⟩, sets7 HB4.out (Nat.le_succ _) _ _ _ _ _ _ _⟩
set_option maxHeartbeats 2000000 in
theorem format_fSh (x : V) (hx : Va.Good x) (hsz : x.size ≤ 400) (P : ByteArray → Prop) (E : Prop) (HX : FnW 167 x P E) (v : Value) (S : Nat → Prop) (w : World) (hv : RV w S x v) (hS : ∀ b, S b → b < w.heap.size) (hT : Tabs w) (hU : UrlTab w) : Calls Tryz.prog 25 #[.string ⟨#[64, 115, 104]⟩, v] w (ResEnd P E w) := by
  have HF := Lib.hid (fun (w1 : World) (hb : Below w.heap.size w w1) => fSh_w x hx hsz P E HX v S w1 (RV.mono (Same.of_below hb hS) (fun _ h => h) _ _ hv) (fun b h => Nat.lt_of_lt_of_le (hS b h) hb.size) (hT.below hb) (hU.below hb))
  obtain ⟨k, h, t, la, n1, lc, ka, n2, kc, va, n3, vc, rfl⟩ : ∃ (k h : Int) (t : ByteArray) (la : Option Addr) (n1 lc : Nat) (ka : Option Addr) (n2 kc : Nat) (va : Option Addr) (n3 vc : Nat), v = .agg #[.int .i64 k, .int .i64 h, .string t, .slice la n1 lc, .slice ka n2 kc, .slice va n3 vc] := by
    cases x with
    | mk k h t ls ks vs =>
    rw [RV] at hv
    obtain ⟨la, lc, ka, kc, va, vc, e, _⟩ := hv
    exact ⟨_, _, _, _, _, _, _, _, _, _, _, _, e⟩
  clear hx hsz HX hv hS hT hU
  go_enter Tryz.func25, Tryz.ntmps25
  go_upto_region 1 with fail
  generalize hW : World.alloc (World.alloc w _) _ = W
  have b1 : Below w.heap.size w W := hW ▸ (by go_grown)
  have z : W.heap[w.heap.size + 1]? = some (.cells #[.int .i64 0, .int .i64 0, .string ⟨#[]⟩, .slice none 0 0, .slice none 0 0, .slice none 0 0, .int .i64 0] 35 (0, 0)) := hW ▸ (by have := block_new (w.alloc (.cells #[.int .i64 k, .int .i64 h, .string t, .slice la n1 lc, .slice ka n2 kc, .slice va n3 vc] 27)) #[.int .i64 0, .int .i64 0, .string ⟨#[]⟩, .slice none 0 0, .slice none 0 0, .slice none 0 0, .int .i64 0] 35; rwa [World.size_alloc] at this)
  have y : W.heap[w.heap.size]? = some (.cells #[.int .i64 k, .int .i64 h, .string t, .slice la n1 lc, .slice ka n2 kc, .slice va n3 vc] 27 (0, 0)) := hW ▸ block_past (block_new w _ _) _
  clear hW
  have HZ := Lib.hid z
  have HB := Lib.hid b1
  have hwlt : w.heap.size + 1 < W.heap.size := heap_lt z
  have yy := cells6 y
  have HF1 := Lib.hid (HF.out W b1)
  clear z y b1 HF
  go_wp2_with fail
  refine HF1.out.mono ?_
  rintro e w4 ⟨hres, hb4⟩
  have HZ4 := Lib.hid (keep hb4 HZ.out)
  have zz := cells7 HZ4.out
  have HB4 := Lib.hid (HB.out.trans (hb4.mono HB.out.size))
  clear hb4 yy
  rcases hres with ⟨t4, la4, lc4, ka4, kc4, va4, vc4, hP, rfl⟩ | ⟨hE, rfl⟩
  · have HP := Lib.hid hP
    clear hP
    go_wp2_with fail
    refine bodyPost_ret (v := .agg #[.int .i64 4, .int .i64 0, .string t4, .slice la4 0 lc4, .slice ka4 0 kc4, .slice va4 0 vc4, .int .i64 0]) (by simp [results, Tryz.results25, go_sem, *]) rfl ⟨.inl ⟨_, _, _, _, _, _, _, HP.out, rfl⟩, sets7 HB4.out (Nat.le_succ _) _ _ _ _ _ _ _⟩
  · unfold errV
    go_wp2_with fail
    refine bodyPost_ret (v := .agg #[.int .i64 0, .int .i64 0, .string ⟨#[]⟩, .slice none 0 0, .slice none 0 0, .slice none 0 0, .int .i64 1]) (by simp [results, Tryz.results25, go_sem, *]) rfl ⟨.inr ⟨hE, rfl⟩, sets7 HB4.out (Nat.le_succ _) _ _ _ _ _ _ _⟩
set_option maxHeartbeats 2000000 in
theorem format_FormatB64 (x : V) (hx : Va.Good x) (hsz : x.size ≤ 400) (P : ByteArray → Prop) (E : Prop) (HX : FnW 103 x P E) (v : Value) (S : Nat → Prop) (w : World) (hv : RV w S x v) (hS : ∀ b, S b → b < w.heap.size) (hT : Tabs w) (hU : UrlTab w) : Calls Tryz.prog 25 #[.string ⟨#[64, 98, 97, 115, 101, 54, 52]⟩, v] w (ResEnd P E w) := by
  have HF := Lib.hid (fun (w1 : World) (hb : Below w.heap.size w w1) => FormatB64_w x hx hsz P E HX v S w1 (RV.mono (Same.of_below hb hS) (fun _ h => h) _ _ hv) (fun b h => Nat.lt_of_lt_of_le (hS b h) hb.size) (hT.below hb) (hU.below hb))
  obtain ⟨k, h, t, la, n1, lc, ka, n2, kc, va, n3, vc, rfl⟩ : ∃ (k h : Int) (t : ByteArray) (la : Option Addr) (n1 lc : Nat) (ka : Option Addr) (n2 kc : Nat) (va : Option Addr) (n3 vc : Nat), v = .agg #[.int .i64 k, .int .i64 h, .string t, .slice la n1 lc, .slice ka n2 kc, .slice va n3 vc] := by
    cases x with
    | mk k h t ls ks vs =>
    rw [RV] at hv
    obtain ⟨la, lc, ka, kc, va, vc, e, _⟩ := hv
    exact ⟨_, _, _, _, _, _, _, _, _, _, _, _, e⟩
  clear hx hsz HX hv hS hT hU
  go_enter Tryz.func25, Tryz.ntmps25
  go_upto_region 1 with fail
  generalize hW : World.alloc (World.alloc w _) _ = W
  have b1 : Below w.heap.size w W := hW ▸ (by go_grown)
  have z : W.heap[w.heap.size + 1]? = some (.cells #[.int .i64 0, .int .i64 0, .string ⟨#[]⟩, .slice none 0 0, .slice none 0 0, .slice none 0 0, .int .i64 0] 35 (0, 0)) := hW ▸ (by have := block_new (w.alloc (.cells #[.int .i64 k, .int .i64 h, .string t, .slice la n1 lc, .slice ka n2 kc, .slice va n3 vc] 27)) #[.int .i64 0, .int .i64 0, .string ⟨#[]⟩, .slice none 0 0, .slice none 0 0, .slice none 0 0, .int .i64 0] 35; rwa [World.size_alloc] at this)
  have y : W.heap[w.heap.size]? = some (.cells #[.int .i64 k, .int .i64 h, .string t, .slice la n1 lc, .slice ka n2 kc, .slice va n3 vc] 27 (0, 0)) := hW ▸ block_past (block_new w _ _) _
  clear hW
  have HZ := Lib.hid z
  have HB := Lib.hid b1
  have hwlt : w.heap.size + 1 < W.heap.size := heap_lt z
  have yy := cells6 y
  have HF1 := Lib.hid (HF.out W b1)
  clear z y b1 HF
  go_wp2_with fail
  refine HF1.out.mono ?_
  rintro e w4 ⟨hres, hb4⟩
  have HZ4 := Lib.hid (keep hb4 HZ.out)
  have zz := cells7 HZ4.out
  have HB4 := Lib.hid (HB.out.trans (hb4.mono HB.out.size))
  clear hb4 yy
  rcases hres with ⟨t4, la4, lc4, ka4, kc4, va4, vc4, hP, rfl⟩ | ⟨hE, rfl⟩
  · have HP := Lib.hid hP
    clear hP
    go_wp2_with fail
    refine bodyPost_ret (v := .agg #[.int .i64 4, .int .i64 0, .string t4, .slice la4 0 lc4, .slice ka4 0 kc4, .slice va4 0 vc4, .int .i64 0]) (by simp [results, Tryz.results25, go_sem, *]) rfl ⟨.inl ⟨_, _, _, _, _, _, _, HP.out, rfl⟩, sets7 HB4.out (Nat.le_succ _) _ _ _ _ _ _ _⟩
  · unfold errV
    go_wp2_with fail
    refine bodyPost_ret (v := .agg #[.int .i64 0, .int .i64 0, .string ⟨#[]⟩, .slice none 0 0, .slice none 0 0, .slice none 0 0, .int .i64 1]) (by simp [results, Tryz.results25, go_sem, *]) rfl ⟨.inr ⟨hE, rfl⟩, sets7 HB4.out (Nat.le_succ _) _ _ _ _ _ _ _⟩
set_option maxHeartbeats 2000000 in
theorem format_FormatB64D (x : V) (hx : Va.Good x) (hsz : x.size ≤ 400) (P : ByteArray → Prop) (E : Prop) (HX : FnW 104 x P E) (v : Value) (S : Nat → Prop) (w : World) (hv : RV w S x v) (hS : ∀ b, S b → b < w.heap.size) (hT : Tabs w) (hU : UrlTab w) : Calls Tryz.prog 25 #[.string ⟨#[64, 98, 97, 115, 101, 54, 52, 100]⟩, v] w (ResEnd P E w) := by
  have HF := Lib.hid (fun (w1 : World) (hb : Below w.heap.size w w1) => FormatB64D_w x hx hsz P E HX v S w1 (RV.mono (Same.of_below hb hS) (fun _ h => h) _ _ hv) (fun b h => Nat.lt_of_lt_of_le (hS b h) hb.size) (hT.below hb) (hU.below hb))
  obtain ⟨k, h, t, la, n1, lc, ka, n2, kc, va, n3, vc, rfl⟩ : ∃ (k h : Int) (t : ByteArray) (la : Option Addr) (n1 lc : Nat) (ka : Option Addr) (n2 kc : Nat) (va : Option Addr) (n3 vc : Nat), v = .agg #[.int .i64 k, .int .i64 h, .string t, .slice la n1 lc, .slice ka n2 kc, .slice va n3 vc] := by
    cases x with
    | mk k h t ls ks vs =>
    rw [RV] at hv
    obtain ⟨la, lc, ka, kc, va, vc, e, _⟩ := hv
    exact ⟨_, _, _, _, _, _, _, _, _, _, _, _, e⟩
  clear hx hsz HX hv hS hT hU
  go_enter Tryz.func25, Tryz.ntmps25
  go_upto_region 1 with fail
  generalize hW : World.alloc (World.alloc w _) _ = W
  have b1 : Below w.heap.size w W := hW ▸ (by go_grown)
  have z : W.heap[w.heap.size + 1]? = some (.cells #[.int .i64 0, .int .i64 0, .string ⟨#[]⟩, .slice none 0 0, .slice none 0 0, .slice none 0 0, .int .i64 0] 35 (0, 0)) := hW ▸ (by have := block_new (w.alloc (.cells #[.int .i64 k, .int .i64 h, .string t, .slice la n1 lc, .slice ka n2 kc, .slice va n3 vc] 27)) #[.int .i64 0, .int .i64 0, .string ⟨#[]⟩, .slice none 0 0, .slice none 0 0, .slice none 0 0, .int .i64 0] 35; rwa [World.size_alloc] at this)
  have y : W.heap[w.heap.size]? = some (.cells #[.int .i64 k, .int .i64 h, .string t, .slice la n1 lc, .slice ka n2 kc, .slice va n3 vc] 27 (0, 0)) := hW ▸ block_past (block_new w _ _) _
  clear hW
  have HZ := Lib.hid z
  have HB := Lib.hid b1
  have hwlt : w.heap.size + 1 < W.heap.size := heap_lt z
  have yy := cells6 y
  have HF1 := Lib.hid (HF.out W b1)
  clear z y b1 HF
  go_wp2_with fail
  refine HF1.out.mono ?_
  rintro e w4 ⟨hres, hb4⟩
  have HZ4 := Lib.hid (keep hb4 HZ.out)
  have zz := cells7 HZ4.out
  have HB4 := Lib.hid (HB.out.trans (hb4.mono HB.out.size))
  clear hb4 yy
  rcases hres with ⟨t4, la4, lc4, ka4, kc4, va4, vc4, hP, rfl⟩ | ⟨hE, rfl⟩
  · have HP := Lib.hid hP
    clear hP
    go_wp2_with fail
    refine bodyPost_ret (v := .agg #[.int .i64 4, .int .i64 0, .string t4, .slice la4 0 lc4, .slice ka4 0 kc4, .slice va4 0 vc4, .int .i64 0]) (by simp [results, Tryz.results25, go_sem, *]) rfl ⟨.inl ⟨_, _, _, _, _, _, _, HP.out, rfl⟩, sets7 HB4.out (Nat.le_succ _) _ _ _ _ _ _ _⟩
  · unfold errV
    go_wp2_with fail
    refine bodyPost_ret (v := .agg #[.int .i64 0, .int .i64 0, .string ⟨#[]⟩, .slice none 0 0, .slice none 0 0, .slice none 0 0, .int .i64 1]) (by simp [results, Tryz.results25, go_sem, *]) rfl ⟨.inr ⟨hE, rfl⟩, sets7 HB4.out (Nat.le_succ _) _ _ _ _ _ _ _⟩
def badV : Value := .agg #[.int .i64 0, .int .i64 0, .string ⟨#[]⟩, .slice none 0 0, .slice none 0 0, .slice none 0 0, .int .i64 3]
set_option maxHeartbeats 2000000 in
/-- a name that is none -/
theorem format_other (name : ByteArray) (h0 : name ≠ ⟨#[64, 116, 101, 120, 116]⟩) (h1 : name ≠ ⟨#[64, 106, 115, 111, 110]⟩) (h2 : name ≠ ⟨#[64, 104, 116, 109, 108]⟩) (h3 : name ≠ ⟨#[64, 117, 114, 105]⟩) (h4 : name ≠ ⟨#[64, 117, 114, 105, 100]⟩) (h5 : name ≠ ⟨#[64, 99, 115, 118]⟩) (h6 : name ≠ ⟨#[64, 116, 115, 118]⟩) (h7 : name ≠ ⟨#[64, 115, 104]⟩) (h8 : name ≠ ⟨#[64, 98, 97, 115, 101, 54, 52]⟩) (h9 : name ≠ ⟨#[64, 98, 97, 115, 101, 54, 52, 100]⟩) (k h : Int) (t : ByteArray) (la : Option Addr) (n1 lc : Nat) (ka : Option Addr) (n2 kc : Nat) (va : Option Addr) (n3 vc : Nat) (w : World) : Calls Tryz.prog 25 #[.string name, .agg #[.int .i64 k, .int .i64 h, .string t, .slice la n1 lc, .slice ka n2 kc, .slice va n3 vc]] w (Ret badV w) := by
  have q0 : (name.toList == [64, 116, 101, 120, 116]) = false := by simpa using beq_no h0
  have q1 : (name.toList == [64, 106, 115, 111, 110]) = false := by simpa using beq_no h1
  have q2 : (name.toList == [64, 104, 116, 109, 108]) = false := by simpa using beq_no h2
  have q3 : (name.toList == [64, 117, 114, 105]) = false := by simpa using beq_no h3
  have q4 : (name.toList == [64, 117, 114, 105, 100]) = false := by simpa using beq_no h4
  have q5 : (name.toList == [64, 99, 115, 118]) = false := by simpa using beq_no h5
  have q6 : (name.toList == [64, 116, 115, 118]) = false := by simpa using beq_no h6
  have q7 : (name.toList == [64, 115, 104]) = false := by simpa using beq_no h7
  have q8 : (name.toList == [64, 98, 97, 115, 101, 54, 52]) = false := by simpa using beq_no h8
  have q9 : (name.toList == [64, 98, 97, 115, 101, 54, 52, 100]) = false := by simpa using beq_no h9
  clear h0 h1 h2 h3 h4 h5 h6 h7 h8 h9
  unfold badV
  go_enter Tryz.func25, Tryz.ntmps25
  go_wp2_with fail
  go_returns
  exact ⟨rfl, by go_grown⟩
end Go.Proofs.YtgjmgneppecfgaaGreatDoor.Mc
