/-
  FnFormat, texts FoU: lemmas for the law; the theorem stands in the last text.
-/
import Derived.Test.YtgjmgneppecfgaaGreatDoorJ21
import Derived.Test.YtgjmgneppecfgaaGreatDoorJ22
import Derived.Test.YtgjmgneppecfgaaGreatDoorJ33
import Derived.Test.YtgjmgneppecfgaaGreatDoorJ39
import Derived.Test.YtgjmgneppecfgaaGreatDoorJ40
namespace Go.Proofs.YtgjmgneppecfgaaGreatDoor.Fo
open Go.RowKit Go.Proofs.YtgjmgneppecfgaaGreatDoor.Va Go.Proofs.YtgjmgneppecfgaaGreatDoor.Ba Go.Proofs.YtgjmgneppecfgaaGreatDoor.Ma Go.Proofs.YtgjmgneppecfgaaGreatDoor.Pa
open Go.Proofs.YtgjmgneppecfgaaGreatDoor.Mc (htmlQ csvQ tsvQ shQ csvU tsvU shU fieldZ Asc rowC_cons)
set_option linter.unusedVariables false
set_option linter.unusedSimpArgs false

/-- what the reference says of a format: nothing; a text, the program's; an error, and the program gives no text -/
def FmtEnd (P : ByteArray → Prop) (E : Prop) (w : World) (e : Ending) (w' : World) : Prop :=
  ∃ (s : ByteArray) (how : Int), e = .returned (.tuple #[.string s, .int .i64 how]) ∧ Below w.heap.size w w' ∧ (how = 2 ∨ (how = 0 ∧ ¬ E ∧ ∀ t, P t → t = s) ∨ (how = 1 ∧ ∀ t, ¬ P t))
def Ptext (x : V) (t : ByteArray) : Prop := t = numS (strX x)
def Etext (x : V) : Prop := False
def Pjson (x : V) (t : ByteArray) : Prop := t = numS (encJ x)
def Ejson (x : V) : Prop := False
def Phtml (x : V) (t : ByteArray) : Prop := t = numS (repl htmlQ (strX x))
def Ehtml (x : V) : Prop := False
def Puri (x : V) (t : ByteArray) : Prop := t = numS (uriL (strX x))
def Euri (x : V) : Prop := False
def Pcsv (x : V) (t : ByteArray) : Prop := x.kind = 5 ∧ (∀ y ∈ x.list, y.kind ≠ 5 ∧ y.kind ≠ 6) ∧ t = numS (rowC (fieldX csvU) 44 x.list).tail
def Ecsv (x : V) : Prop := x.kind ≠ 5 ∨ ∃ y ∈ x.list, y.kind = 5 ∨ y.kind = 6
def Ptsv (x : V) (t : ByteArray) : Prop := x.kind = 5 ∧ (∀ y ∈ x.list, y.kind ≠ 5 ∧ y.kind ≠ 6) ∧ t = numS (rowC (fieldX tsvU) 9 x.list).tail
def Etsv (x : V) : Prop := x.kind ≠ 5 ∨ ∃ y ∈ x.list, y.kind = 5 ∨ y.kind = 6
def Psh (x : V) (t : ByteArray) : Prop := (∀ y ∈ shL x, y.kind ≠ 5 ∧ y.kind ≠ 6) ∧ t = numS (rowC fieldZ 32 (shL x)).tail
def Esh (x : V) : Prop := ∃ y ∈ shL x, y.kind = 5 ∨ y.kind = 6
def Pbase64 (x : V) (t : ByteArray) : Prop := t = numS (encB (strX x))
def Ebase64 (x : V) : Prop := False
/-- what @base64d finds -/
def Dec (s : ByteArray) (ok : Bool) (out : List Nat) : Prop :=
  ∃ p, p ≤ s.size ∧ (Asc s → ∀ j, j < p → (bytesN s).getD j 0 ≠ 61) ∧ (Asc s → p = s.size ∨ (p < s.size ∧ (bytesN s).getD p 0 = 61)) ∧ runD ((bytesN s).take p) (((bytesN s).take p).length + 1) 0 [] = (out, ok)
def Pbase64d (x : V) (t : ByteArray) : Prop := ∃ out, Dec (numS (strX x)) true out ∧ t = numS out
def Ebase64d (x : V) : Prop := ∃ out, Dec (numS (strX x)) false out
theorem dec_plain {s : ByteArray} (D : List Nat) (h : Plain64 (bytesN s) D) (ok : Bool) (out : List Nat) (hd : Dec s ok out) : ok = true ∧ out = D := by
  obtain ⟨Q, pad, hL, hq, h4, rfl⟩ := h
  obtain ⟨p, hp, h1, h2, hr⟩ := hd
  have hn61 : ∀ c ∈ Q, c ≠ 61 := fun c hc e => by
    have := hq c hc
    rw [e] at this
    exact absurd this (by decide)
  have hA : Asc s := fun c hc => by
    rw [hL] at hc
    rcases List.mem_append.1 hc with hc | hc
    · have h6 := hq c hc
      have := lt_lt _ h6
      rw [lt_dc h6] at this
      exact this
    · obtain rfl := List.eq_of_mem_replicate hc
      decide
  have hpl : p ≤ (bytesN s).length := by rw [bytesN_len]; exact hp
  have h2' := h2 hA
  rw [← bytesN_len] at h2'
  have htw := take_while (bytesN s) p hpl (h1 hA) h2'
  have hw : (bytesN s).takeWhile (fun c => c != 61) = Q := by
    rw [hL]
    have hall : ∀ c ∈ Q, (fun c : Nat => c != 61) c = true := fun c hc => by simpa using hn61 c hc
    rw [List.takeWhile_append_of_pos hall]
    cases pad with
    | zero => simp
    | succ n => simp [List.replicate_succ, List.takeWhile_cons]
  rw [htw, hw, runD_letters hq Q.length 0 _ [] rfl (Nat.zero_le _) h4 (by omega)] at hr
  simp only [List.nil_append, List.drop_zero, Prod.mk.injEq] at hr
  exact ⟨hr.2.symm, hr.1.symm⟩
theorem repl_congr (P Q : List (Nat × List Nat)) : ∀ l : List Nat, (∀ c ∈ l, subB P c = subB Q c) → repl P l = repl Q l
  | [], _ => rfl
  | a :: l, h => by
    have ih := repl_congr P Q l (fun c hc => h c (List.mem_cons_of_mem _ hc))
    unfold repl at ih ⊢
    rw [List.flatMap_cons, List.flatMap_cons, ih, h a List.mem_cons_self]
theorem rowC_congr (F G : V → List Nat) (b : Nat) : ∀ l : List V, (∀ y ∈ l, F y = G y) → rowC F b l = rowC G b l
  | [], _ => rfl
  | a :: l, h => by rw [rowC_cons, rowC_cons, rowC_congr F G b l (fun y hy => h y (List.mem_cons_of_mem _ hy)), h a List.mem_cons_self]
theorem csv_all : ∀ c : Fin 256, c.1 ≠ 0 → subB csvQ c = subB csvP c := by decide +kernel
theorem tsv_all : ∀ c : Fin 256, c.1 ≠ 0 → subB tsvQ c = subB tsvP c := by decide +kernel
theorem sh_all : ∀ c : Fin 256, c.1 ≠ 0 → subB shQ c = subB shP c := by decide +kernel
def htmlP : List (Nat × List Nat) := [(60, [38, 108, 116, 59]), (62, [38, 103, 116, 59]), (38, [38, 97, 109, 112, 59]), (39, [38, 35, 51, 57, 59]), (34, [38, 113, 117, 111, 116, 59])]
theorem htmlP_ok : TabOk htmlP := ⟨by decide, by decide, by decide⟩
theorem html_all : ∀ c : Fin 256, c.1 ≠ 39 → subB htmlQ c = subB htmlP c := by decide +kernel
theorem html_same (c : Nat) (h : c < 256) (h9 : c ≠ 39) : subB htmlQ c = subB htmlP c := html_all ⟨c, h⟩ h9
theorem fieldX_csv (y : V) (h : ∀ c ∈ bytesN y.text, c ≠ 0) : fieldX csvU y = fieldX csvT y := by
  unfold fieldX
  split
  · unfold csvU csvT
    rw [repl_congr csvQ csvP _ (fun c hc => csv_all ⟨c, bytesN_lt _ c hc⟩ (h c hc))]
  · rfl
theorem fieldX_tsv (y : V) (h : ∀ c ∈ bytesN y.text, c ≠ 0) : fieldX tsvU y = fieldX tsvT y := by
  unfold fieldX
  split
  · unfold tsvU tsvT
    rw [repl_congr tsvQ tsvP _ (fun c hc => tsv_all ⟨c, bytesN_lt _ c hc⟩ (h c hc))]
  · rfl
theorem fieldX_sh (y : V) (h : ∀ c ∈ bytesN y.text, c ≠ 0) : fieldX shU y = fieldX shT y := by
  unfold fieldX
  split
  · unfold shU shT
    rw [repl_congr shQ shP _ (fun c hc => sh_all ⟨c, bytesN_lt _ c hc⟩ (h c hc))]
  · rfl
theorem fieldZ_S (y : V) (h : ∀ c ∈ bytesN y.text, c ≠ 0) : fieldZ y = fieldS y := by
  unfold fieldZ fieldS
  rw [fieldX_sh y h]
theorem nul_sh {x : V} (h : (∀ c ∈ bytesN x.text, c ≠ 0) ∧ ∀ y ∈ x.list, ∀ c ∈ bytesN y.text, c ≠ 0) : ∀ y ∈ shL x, ∀ c ∈ bytesN y.text, c ≠ 0 := by
  intro y hy c hc
  unfold shL at hy
  split at hy
  · exact h.2 y hy c hc
  · simp at hy
    rw [hy] at hc
    exact h.1 c hc
def RowE (F : V → List Nat) (b : Nat) (K : Prop) (ls : List V) (w : World) (e : Ending) (w' : World) : Prop :=
  ∃ (s : ByteArray) (how : Int), e = .returned (.tuple #[.string s, .int .i64 how]) ∧ Below w.heap.size w w' ∧
    (how = 2 ∨ (how = 0 ∧ K ∧ (∀ y ∈ ls, y.kind ≠ 5 ∧ y.kind ≠ 6) ∧ s = numS (rowC F b ls).tail) ∨ (how = 1 ∧ (¬ K ∨ ∃ y ∈ ls, y.kind = 5 ∨ y.kind = 6)))
set_option maxHeartbeats 1000000 in
theorem row_non (k h : Int) (t : ByteArray) (la : Option Addr) (n1 lc : Nat) (ka : Option Addr) (n2 kc : Nat) (va : Option Addr) (n3 vc : Nat) (hk : k ≠ 5) (form between : ByteArray) (w : World) :
    Calls Tryz.prog 114 #[.agg #[.int .i64 k, .int .i64 h, .string t, .slice la n1 lc, .slice ka n2 kc, .slice va n3 vc], .string form, .string between] w (fun e w' => e = .returned (.tuple #[.string ⟨#[]⟩, .int .i64 1]) ∧ Below w.heap.size w w') := by
  have q5 : (k == 5) = false := by simp; exact hk
  go_enter Tryz.func114, Tryz.ntmps114
  go_wp2_with fail
  go_returns
  exact ⟨rfl, by go_grown⟩
def LoopHt (L : List Nat) (w : World) (iv : Value) (wr : World) : Prop := ∃ i : Nat, iv = .int .i64 (i : Int) ∧ i ≤ L.length ∧ (∀ c ∈ L.take i, c ≠ 39) ∧ w = wr
set_option maxHeartbeats 2000000 in
theorem sfmt_text (x : V) (hx : Va.Good x) (hsz : x.size ≤ 400) (v : Value) (S : Nat → Prop) (w : World) (hv : RV w S x v) (hS : ∀ b, S b → b < w.heap.size) : Calls Tryz.prog 60 #[.string ⟨#[116, 101, 120, 116]⟩, v] w (FmtEnd (Ptext x) (Etext x) w) := by
  have HV := Lib.hid hv
  have HS := Lib.hid hS
  have HX := Lib.hid hx
  obtain ⟨k, h, t, la, n1, lc, ka, n2, kc, va, n3, vc, rfl⟩ : ∃ (k h : Int) (t : ByteArray) (la : Option Addr) (n1 lc : Nat) (ka : Option Addr) (n2 kc : Nat) (va : Option Addr) (n3 vc : Nat), v = .agg #[.int .i64 k, .int .i64 h, .string t, .slice la n1 lc, .slice ka n2 kc, .slice va n3 vc] := by
    cases x with
    | mk k h t ls ks vs =>
    rw [RV] at hv
    obtain ⟨la, lc, ka, kc, va, vc, e, _⟩ := hv
    exact ⟨_, _, _, _, _, _, _, _, _, _, _, _, e⟩
  clear hx hv hS
  go_enter Tryz.func60, Tryz.ntmps60
  go_upto_region 1 with fail
  generalize hW : World.alloc w _ = W
  have b1 : Below w.heap.size w W := hW ▸ below_alloc w _
  have y : W.heap[w.heap.size]? = some (.cells #[.int .i64 k, .int .i64 h, .string t, .slice la n1 lc, .slice ka n2 kc, .slice va n3 vc] 27 (0, 0)) := hW ▸ block_new w _ _
  have hwl : w.heap.size < W.heap.size := heap_lt y
  clear hW
  have HY := Lib.hid y
  have HB := Lib.hid b1
  have yy := cells6 y
  have HVW := Lib.hid (RV.mono (Same.of_below b1 HS.out) (fun _ h => h) _ _ HV.out)
  have HSW : Hid (∀ b, S b → b < W.heap.size) := Lib.hid (fun b h => Nat.lt_of_lt_of_le (HS.out b h) b1.size)
  clear y b1
  have HST := Lib.hid (sstring_any x HX.out hsz _ S W HVW.out HSW.out)
  go_wp2_with fail
  refine HST.out.mono ?_
  rintro e w2 ⟨s, how, rfl, hb2, hs, hhow⟩
  have HB2 := Lib.hid (HB.out.trans (hb2.mono HB.out.size))
  clear hb2 yy
  go_wp2_with fail
  go_returns
  refine ⟨s, how, rfl, HB2.out, ?_⟩
  rcases hhow with rfl | ⟨rfl, rfl⟩
  · exact .inl rfl
  · exact .inr (.inl ⟨rfl, fun h => h, fun t ht => ht⟩)
set_option maxHeartbeats 2000000 in
theorem sfmt_json (x : V) (hx : Va.Good x) (hsz : x.size ≤ 400) (v : Value) (S : Nat → Prop) (w : World) (hv : RV w S x v) (hS : ∀ b, S b → b < w.heap.size) : Calls Tryz.prog 60 #[.string ⟨#[106, 115, 111, 110]⟩, v] w (FmtEnd (Pjson x) (Ejson x) w) := by
  have HV := Lib.hid hv
  have HS := Lib.hid hS
  have HX := Lib.hid hx
  obtain ⟨k, h, t, la, n1, lc, ka, n2, kc, va, n3, vc, rfl⟩ : ∃ (k h : Int) (t : ByteArray) (la : Option Addr) (n1 lc : Nat) (ka : Option Addr) (n2 kc : Nat) (va : Option Addr) (n3 vc : Nat), v = .agg #[.int .i64 k, .int .i64 h, .string t, .slice la n1 lc, .slice ka n2 kc, .slice va n3 vc] := by
    cases x with
    | mk k h t ls ks vs =>
    rw [RV] at hv
    obtain ⟨la, lc, ka, kc, va, vc, e, _⟩ := hv
    exact ⟨_, _, _, _, _, _, _, _, _, _, _, _, e⟩
  clear hx hv hS
  go_enter Tryz.func60, Tryz.ntmps60
  go_upto_region 1 with fail
  generalize hW : World.alloc w _ = W
  have b1 : Below w.heap.size w W := hW ▸ below_alloc w _
  have y : W.heap[w.heap.size]? = some (.cells #[.int .i64 k, .int .i64 h, .string t, .slice la n1 lc, .slice ka n2 kc, .slice va n3 vc] 27 (0, 0)) := hW ▸ block_new w _ _
  have hwl : w.heap.size < W.heap.size := heap_lt y
  clear hW
  have HY := Lib.hid y
  have HB := Lib.hid b1
  have yy := cells6 y
  have HVW := Lib.hid (RV.mono (Same.of_below b1 HS.out) (fun _ h => h) _ _ HV.out)
  have HSW : Hid (∀ b, S b → b < W.heap.size) := Lib.hid (fun b h => Nat.lt_of_lt_of_le (HS.out b h) b1.size)
  clear y b1
  have HST := Lib.hid (sj_good 400 x hsz hsz HX.out _ S W HVW.out HSW.out)
  go_wp2_with fail
  refine HST.out.mono ?_
  rintro e w2 ⟨s, how, rfl, hb2, hs, hhow⟩
  have HB2 := Lib.hid (HB.out.trans (hb2.mono HB.out.size))
  clear hb2 yy
  go_wp2_with fail
  go_returns
  refine ⟨s, how, rfl, HB2.out, ?_⟩
  rcases hhow with rfl | ⟨rfl, rfl⟩
  · exact .inl rfl
  · exact .inr (.inl ⟨rfl, fun h => h, fun t ht => ht⟩)
set_option maxHeartbeats 2000000 in
theorem sfmt_html (x : V) (hx : Va.Good x) (hsz : x.size ≤ 400) (v : Value) (S : Nat → Prop) (w : World) (hv : RV w S x v) (hS : ∀ b, S b → b < w.heap.size) : Calls Tryz.prog 60 #[.string ⟨#[104, 116, 109, 108]⟩, v] w (FmtEnd (Phtml x) (Ehtml x) w) := by
  have HV := Lib.hid hv
  have HS := Lib.hid hS
  have HX := Lib.hid hx
  obtain ⟨k, h, t, la, n1, lc, ka, n2, kc, va, n3, vc, rfl⟩ : ∃ (k h : Int) (t : ByteArray) (la : Option Addr) (n1 lc : Nat) (ka : Option Addr) (n2 kc : Nat) (va : Option Addr) (n3 vc : Nat), v = .agg #[.int .i64 k, .int .i64 h, .string t, .slice la n1 lc, .slice ka n2 kc, .slice va n3 vc] := by
    cases x with
    | mk k h t ls ks vs =>
    rw [RV] at hv
    obtain ⟨la, lc, ka, kc, va, vc, e, _⟩ := hv
    exact ⟨_, _, _, _, _, _, _, _, _, _, _, _, e⟩
  clear hx hv hS
  go_enter Tryz.func60, Tryz.ntmps60
  go_upto_region 1 with fail
  generalize hW : World.alloc w _ = W
  have b1 : Below w.heap.size w W := hW ▸ below_alloc w _
  have y : W.heap[w.heap.size]? = some (.cells #[.int .i64 k, .int .i64 h, .string t, .slice la n1 lc, .slice ka n2 kc, .slice va n3 vc] 27 (0, 0)) := hW ▸ block_new w _ _
  have hwl : w.heap.size < W.heap.size := heap_lt y
  clear hW
  have HY := Lib.hid y
  have HB := Lib.hid b1
  have yy := cells6 y
  have HVW := Lib.hid (RV.mono (Same.of_below b1 HS.out) (fun _ h => h) _ _ HV.out)
  have HSW : Hid (∀ b, S b → b < W.heap.size) := Lib.hid (fun b h => Nat.lt_of_lt_of_le (HS.out b h) b1.size)
  clear y b1
  have HST := Lib.hid (sstring_any x HX.out hsz _ S W HVW.out HSW.out)
  go_wp2_with fail
  refine HST.out.mono ?_
  rintro e w2 ⟨s, how, rfl, hb2, hs, hhow⟩
  have HB2 := Lib.hid (HB.out.trans (hb2.mono HB.out.size))
  clear hb2 yy
  rcases hhow with rfl | ⟨rfl, rfl⟩
  · go_wp2_with fail
    go_returns
    exact ⟨_, 2, rfl, HB2.out, .inl rfl⟩
  · have hln := strX_len x HX.out hsz
    have hlt := strX_lt x
    have hbs := bytesN_numS' (strX x) hlt
    obtain ⟨L, hL⟩ : ∃ L, strX x = L := ⟨_, rfl⟩
    have HLX := Lib.hid hL
    rw [hL] at hln hbs hlt ⊢
    obtain ⟨u, hu⟩ : ∃ u, numS L = u := ⟨_, rfl⟩
    have hus : u.size = L.length := by rw [← hu, numS_size]
    rw [hu] at hbs
    rw [hu]
    have HBS := Lib.hid hbs
    have HLT := Lib.hid hlt
    clear hu hbs hL hlt
    go_wp2_with fail
    go_loopw [9] (LoopHt L w2) (fun iv _ => u.size - (intOf iv).toNat)
    case atStart => exact ⟨0, rfl, Nat.zero_le _, fun c hc => by simp at hc, rfl⟩
    case round =>
      obtain ⟨i, rfl, hi, hno, rfl⟩ := hrel
      rw [← hus] at hi
      have HNO := Lib.hid hno
      clear hno
      by_cases hlt : i < u.size
      · have hil : i < L.length := by rw [← hus]; exact hlt
        obtain ⟨c, hc⟩ : ∃ c, L[i] = c := ⟨_, rfl⟩
        have hbx : (u[i]'hlt).toNat = c := by rw [Ba.byte_at u i hlt, HBS.out, ← hc, List.getD, List.getElem?_eq_getElem hil]; rfl
        have HTK : Hid (L.take (i + 1) = L.take i ++ [c]) := Lib.hid (by rw [List.take_succ_eq_append_getElem hil, hc])
        clear hc
        by_cases h39 : c = 39
        · subst h39
          go_wp2_with fail
          go_returns
          exact ⟨_, 2, rfl, HB2.out, .inl rfl⟩
        · have h39b : ¬ (c : Int) = 39 := by omega
          have h39c : ((c : Int) == 39) = false := by simp; omega
          go_wp2_with fail
          try go_simp
          refine ⟨⟨i + 1, by push_cast; rfl, hil, fun y hy => ?_, rfl⟩, by simp [intOf] <;> omega⟩
          rw [HTK.out] at hy
          rcases List.mem_append.1 hy with hy | hy
          · exact HNO.out y hy
          · simp at hy; omega
      · obtain rfl : i = u.size := by omega
        have hall : Hid (∀ c ∈ L, c ≠ 39) := Lib.hid (fun c hc => HNO.out c (by rw [List.take_of_length_le (by rw [hus]; exact Nat.le_refl _)]; exact hc))
        go_wp2_with fail
        generalize hW3 : World.alloc _ _ = W3
        have hz3 := (hW3 ▸ block_new _ _ _ : W3.heap[w2.heap.size]? = some (.cells ((tabS htmlP).map Value.string).toArray 9 (0, 0)))
        have HB3 : Hid (Below w.heap.size w W3) := Lib.hid (HB2.out.trans ((hW3 ▸ below_alloc _ _ : Below w2.heap.size w2 W3).mono HB2.out.size))
        clear hW3
        refine (changed_any htmlP htmlP_ok u (by omega) (some ⟨w2.heap.size, 0, none⟩) 10 10 rfl (fun b => b = w2.heap.size) W3 (Mc.rk_of hz3 (tabS htmlP) rfl)).mono ?_
        rintro e w4 ⟨rfl, rfl⟩
        go_wp2_with fail
        go_returns
        refine ⟨_, 0, rfl, HB3.out, .inr (.inl ⟨rfl, fun h => h, fun t ht => ?_⟩)⟩
        rw [show t = numS (repl htmlQ (strX x)) from ht, HLX.out, HBS.out, repl_congr htmlQ htmlP L (fun c hc => html_same c (HLT.out c hc) (hall.out c hc))]
set_option maxHeartbeats 2000000 in
theorem sfmt_uri (x : V) (hx : Va.Good x) (hsz : x.size ≤ 400) (v : Value) (S : Nat → Prop) (w : World) (hv : RV w S x v) (hS : ∀ b, S b → b < w.heap.size) : Calls Tryz.prog 60 #[.string ⟨#[117, 114, 105]⟩, v] w (FmtEnd (Puri x) (Euri x) w) := by
  have HV := Lib.hid hv
  have HS := Lib.hid hS
  have HX := Lib.hid hx
  obtain ⟨k, h, t, la, n1, lc, ka, n2, kc, va, n3, vc, rfl⟩ : ∃ (k h : Int) (t : ByteArray) (la : Option Addr) (n1 lc : Nat) (ka : Option Addr) (n2 kc : Nat) (va : Option Addr) (n3 vc : Nat), v = .agg #[.int .i64 k, .int .i64 h, .string t, .slice la n1 lc, .slice ka n2 kc, .slice va n3 vc] := by
    cases x with
    | mk k h t ls ks vs =>
    rw [RV] at hv
    obtain ⟨la, lc, ka, kc, va, vc, e, _⟩ := hv
    exact ⟨_, _, _, _, _, _, _, _, _, _, _, _, e⟩
  clear hx hv hS
  go_enter Tryz.func60, Tryz.ntmps60
  go_upto_region 1 with fail
  generalize hW : World.alloc w _ = W
  have b1 : Below w.heap.size w W := hW ▸ below_alloc w _
  have y : W.heap[w.heap.size]? = some (.cells #[.int .i64 k, .int .i64 h, .string t, .slice la n1 lc, .slice ka n2 kc, .slice va n3 vc] 27 (0, 0)) := hW ▸ block_new w _ _
  have hwl : w.heap.size < W.heap.size := heap_lt y
  clear hW
  have HY := Lib.hid y
  have HB := Lib.hid b1
  have yy := cells6 y
  have HVW := Lib.hid (RV.mono (Same.of_below b1 HS.out) (fun _ h => h) _ _ HV.out)
  have HSW : Hid (∀ b, S b → b < W.heap.size) := Lib.hid (fun b h => Nat.lt_of_lt_of_le (HS.out b h) b1.size)
  clear y b1
  have HST := Lib.hid (sstring_any x HX.out hsz _ S W HVW.out HSW.out)
  go_wp2_with fail
  refine HST.out.mono ?_
  rintro e w2 ⟨s, how, rfl, hb2, hs, hhow⟩
  have HB2 := Lib.hid (HB.out.trans (hb2.mono HB.out.size))
  clear hb2 yy
  rcases hhow with rfl | ⟨rfl, rfl⟩
  · go_wp2_with fail
    go_returns
    exact ⟨_, 2, rfl, HB2.out, .inl rfl⟩
  · have hln := strX_len x HX.out hsz
    have HE := Lib.hid (escaped_any (numS (strX x)) (by rw [numS_size]; omega))
    have hbs := bytesN_numS' (strX x) (strX_lt x)
    obtain ⟨u, hu⟩ : ∃ u, numS (strX x) = u := ⟨_, rfl⟩
    rw [hu] at HE hbs
    rw [hu]
    have HBS := Lib.hid hbs
    clear hu hbs hln
    go_wp2_with fail
    refine (HE.out w2).mono ?_
    rintro e w3 ⟨rfl, hb3⟩
    have HB3 := Lib.hid (HB2.out.trans (hb3.mono HB2.out.size))
    clear hb3
    rw [HBS.out]
    go_wp2_with fail
    go_returns
    exact ⟨_, 0, rfl, HB3.out, .inr (.inl ⟨rfl, fun h => h, fun t ht => ht⟩)⟩
set_option maxHeartbeats 2000000 in
theorem sfmt_csv (x : V) (hx : Va.Good x) (hsz : x.size ≤ 400) (v : Value) (S : Nat → Prop) (w : World) (hv : RV w S x v) (hS : ∀ b, S b → b < w.heap.size) : Calls Tryz.prog 60 #[.string ⟨#[99, 115, 118]⟩, v] w (FmtEnd (Pcsv x) (Ecsv x) w) := by
  have HV := Lib.hid hv
  have HS := Lib.hid hS
  have HX := Lib.hid hx
  obtain ⟨k, h, t, la, n1, lc, ka, n2, kc, va, n3, vc, rfl⟩ : ∃ (k h : Int) (t : ByteArray) (la : Option Addr) (n1 lc : Nat) (ka : Option Addr) (n2 kc : Nat) (va : Option Addr) (n3 vc : Nat), v = .agg #[.int .i64 k, .int .i64 h, .string t, .slice la n1 lc, .slice ka n2 kc, .slice va n3 vc] := by
    cases x with
    | mk k h t ls ks vs =>
    rw [RV] at hv
    obtain ⟨la, lc, ka, kc, va, vc, e, _⟩ := hv
    exact ⟨_, _, _, _, _, _, _, _, _, _, _, _, e⟩
  clear hx hv hS
  go_enter Tryz.func60, Tryz.ntmps60
  go_upto_region 1 with fail
  generalize hW : World.alloc w _ = W
  have b1 : Below w.heap.size w W := hW ▸ below_alloc w _
  have y : W.heap[w.heap.size]? = some (.cells #[.int .i64 k, .int .i64 h, .string t, .slice la n1 lc, .slice ka n2 kc, .slice va n3 vc] 27 (0, 0)) := hW ▸ block_new w _ _
  have hwl : w.heap.size < W.heap.size := heap_lt y
  clear hW
  have HY := Lib.hid y
  have HB := Lib.hid b1
  have yy := cells6 y
  have HVW := Lib.hid (RV.mono (Same.of_below b1 HS.out) (fun _ h => h) _ _ HV.out)
  have HSW : Hid (∀ b, S b → b < W.heap.size) := Lib.hid (fun b h => Nat.lt_of_lt_of_le (HS.out b h) b1.size)
  clear y b1
  have HNU := Lib.hid (nul_any x HX.out hsz _ S W HVW.out HSW.out)
  go_wp2_with fail
  refine HNU.out.mono ?_
  rintro e w2 ⟨b, rfl, hb2, hnul⟩
  have HB2 := Lib.hid (HB.out.trans (hb2.mono HB.out.size))
  have HY2 := Lib.hid (keep hb2 HY.out)
  have HVX := Lib.hid (RV.mono (Same.of_below hb2 HSW.out) (fun _ h => h) _ _ HVW.out)
  have HSX : Hid (∀ b, S b → b < w2.heap.size) := Lib.hid (fun b h => Nat.lt_of_lt_of_le (HSW.out b h) hb2.size)
  have HNUL := Lib.hid hnul
  clear hb2 yy hnul
  have yy := cells6 HY2.out
  cases b with
  | true =>
    go_wp2_with fail
    go_returns
    exact ⟨_, 2, rfl, HB2.out, .inl rfl⟩
  | false =>
    have HNO := Lib.hid (HNUL.out rfl)
    clear HNUL
    have HROW : Hid (Calls Tryz.prog 114 #[.agg #[.int .i64 k, .int .i64 h, .string t, .slice la n1 lc, .slice ka n2 kc, .slice va n3 vc], .string ⟨#[99, 115, 118]⟩, .string ⟨#[44]⟩] w2 (RowE (fieldX csvT) 44 (x.kind = 5) x.list w2)) := Lib.hid (by
      by_cases hk : x.kind = 5
      · have hvx := HVX.out
        have hgx := HX.out
        cases x with
        | mk kk hh tt ls ks vs =>
        have hk' : kk = 5 := hk
        subst hk'
        refine (row_csv hh tt ls ks vs (by rw [Va.Good] at hgx; exact hgx.2.1) (by rw [V.size] at hsz; omega) _ S w2 hvx HSX.out).mono ?_
        rintro e w3 ⟨s, how, he, hb, h3⟩
        exact ⟨s, how, he, hb, h3.imp_right fun h3 => h3.imp (fun h => ⟨h.1, rfl, h.2⟩) fun h => ⟨h.1, .inr h.2⟩⟩
      · have hvx := HVX.out
        cases x with
        | mk kk hh tt ls ks vs =>
        rw [RV] at hvx
        obtain ⟨la', lc', ka', kc', va', vc', e, _⟩ := hvx
        simp only [Value.agg.injEq, Array.mk.injEq, List.cons.injEq, and_true, Value.int.injEq, true_and] at e
        have hk5 : k ≠ 5 := fun h => hk (by rw [← h]; exact e.1.symm)
        refine (row_non k h t la n1 lc ka n2 kc va n3 vc hk5 _ _ w2).mono ?_
        rintro e w3 ⟨rfl, hb⟩
        exact ⟨_, 1, rfl, hb, .inr (.inr ⟨rfl, .inl hk⟩)⟩)
    go_wp2_with fail
    refine HROW.out.mono ?_
    rintro e w3 ⟨s, how, rfl, hb3, h3⟩
    have HB3 := Lib.hid (HB2.out.trans (hb3.mono HB2.out.size))
    clear hb3
    go_wp2_with fail
    go_returns
    refine ⟨s, how, rfl, HB3.out, ?_⟩
    rcases h3 with h3 | ⟨h3, hk, hall, rfl⟩ | ⟨h3, hbad⟩
    · exact .inl h3
    · refine .inr (.inl ⟨h3, fun hE => ?_, fun t ht => ?_⟩)
      · rcases hE with hE | ⟨y, hy, hE⟩
        · exact hE hk
        · have := hall y hy; omega
      · rw [ht.2.2, rowC_congr (fieldX csvU) (fieldX csvT) 44 x.list (fun y hy => fieldX_csv y (fun c hc => HNO.out.2 y hy c hc))]
    · refine .inr (.inr ⟨h3, fun t ht => ?_⟩)
      rcases hbad with hE | ⟨y, hy, hE⟩
      · exact hE ht.1
      · have := ht.2.1 y hy; omega
set_option maxHeartbeats 2000000 in
theorem sfmt_tsv (x : V) (hx : Va.Good x) (hsz : x.size ≤ 400) (v : Value) (S : Nat → Prop) (w : World) (hv : RV w S x v) (hS : ∀ b, S b → b < w.heap.size) : Calls Tryz.prog 60 #[.string ⟨#[116, 115, 118]⟩, v] w (FmtEnd (Ptsv x) (Etsv x) w) := by
  have HV := Lib.hid hv
  have HS := Lib.hid hS
  have HX := Lib.hid hx
  obtain ⟨k, h, t, la, n1, lc, ka, n2, kc, va, n3, vc, rfl⟩ : ∃ (k h : Int) (t : ByteArray) (la : Option Addr) (n1 lc : Nat) (ka : Option Addr) (n2 kc : Nat) (va : Option Addr) (n3 vc : Nat), v = .agg #[.int .i64 k, .int .i64 h, .string t, .slice la n1 lc, .slice ka n2 kc, .slice va n3 vc] := by
    cases x with
    | mk k h t ls ks vs =>
    rw [RV] at hv
    obtain ⟨la, lc, ka, kc, va, vc, e, _⟩ := hv
    exact ⟨_, _, _, _, _, _, _, _, _, _, _, _, e⟩
  clear hx hv hS
  go_enter Tryz.func60, Tryz.ntmps60
  go_upto_region 1 with fail
  generalize hW : World.alloc w _ = W
  have b1 : Below w.heap.size w W := hW ▸ below_alloc w _
  have y : W.heap[w.heap.size]? = some (.cells #[.int .i64 k, .int .i64 h, .string t, .slice la n1 lc, .slice ka n2 kc, .slice va n3 vc] 27 (0, 0)) := hW ▸ block_new w _ _
  have hwl : w.heap.size < W.heap.size := heap_lt y
  clear hW
  have HY := Lib.hid y
  have HB := Lib.hid b1
  have yy := cells6 y
  have HVW := Lib.hid (RV.mono (Same.of_below b1 HS.out) (fun _ h => h) _ _ HV.out)
  have HSW : Hid (∀ b, S b → b < W.heap.size) := Lib.hid (fun b h => Nat.lt_of_lt_of_le (HS.out b h) b1.size)
  clear y b1
  have HNU := Lib.hid (nul_any x HX.out hsz _ S W HVW.out HSW.out)
  go_wp2_with fail
  refine HNU.out.mono ?_
  rintro e w2 ⟨b, rfl, hb2, hnul⟩
  have HB2 := Lib.hid (HB.out.trans (hb2.mono HB.out.size))
  have HY2 := Lib.hid (keep hb2 HY.out)
  have HVX := Lib.hid (RV.mono (Same.of_below hb2 HSW.out) (fun _ h => h) _ _ HVW.out)
  have HSX : Hid (∀ b, S b → b < w2.heap.size) := Lib.hid (fun b h => Nat.lt_of_lt_of_le (HSW.out b h) hb2.size)
  have HNUL := Lib.hid hnul
  clear hb2 yy hnul
  have yy := cells6 HY2.out
  cases b with
  | true =>
    go_wp2_with fail
    go_returns
    exact ⟨_, 2, rfl, HB2.out, .inl rfl⟩
  | false =>
    have HNO := Lib.hid (HNUL.out rfl)
    clear HNUL
    have HROW : Hid (Calls Tryz.prog 114 #[.agg #[.int .i64 k, .int .i64 h, .string t, .slice la n1 lc, .slice ka n2 kc, .slice va n3 vc], .string ⟨#[116, 115, 118]⟩, .string ⟨#[9]⟩] w2 (RowE (fieldX tsvT) 9 (x.kind = 5) x.list w2)) := Lib.hid (by
      by_cases hk : x.kind = 5
      · have hvx := HVX.out
        have hgx := HX.out
        cases x with
        | mk kk hh tt ls ks vs =>
        have hk' : kk = 5 := hk
        subst hk'
        refine (row_tsv hh tt ls ks vs (by rw [Va.Good] at hgx; exact hgx.2.1) (by rw [V.size] at hsz; omega) _ S w2 hvx HSX.out).mono ?_
        rintro e w3 ⟨s, how, he, hb, h3⟩
        exact ⟨s, how, he, hb, h3.imp_right fun h3 => h3.imp (fun h => ⟨h.1, rfl, h.2⟩) fun h => ⟨h.1, .inr h.2⟩⟩
      · have hvx := HVX.out
        cases x with
        | mk kk hh tt ls ks vs =>
        rw [RV] at hvx
        obtain ⟨la', lc', ka', kc', va', vc', e, _⟩ := hvx
        simp only [Value.agg.injEq, Array.mk.injEq, List.cons.injEq, and_true, Value.int.injEq, true_and] at e
        have hk5 : k ≠ 5 := fun h => hk (by rw [← h]; exact e.1.symm)
        refine (row_non k h t la n1 lc ka n2 kc va n3 vc hk5 _ _ w2).mono ?_
        rintro e w3 ⟨rfl, hb⟩
        exact ⟨_, 1, rfl, hb, .inr (.inr ⟨rfl, .inl hk⟩)⟩)
    go_wp2_with fail
    refine HROW.out.mono ?_
    rintro e w3 ⟨s, how, rfl, hb3, h3⟩
    have HB3 := Lib.hid (HB2.out.trans (hb3.mono HB2.out.size))
    clear hb3
    go_wp2_with fail
    go_returns
    refine ⟨s, how, rfl, HB3.out, ?_⟩
    rcases h3 with h3 | ⟨h3, hk, hall, rfl⟩ | ⟨h3, hbad⟩
    · exact .inl h3
    · refine .inr (.inl ⟨h3, fun hE => ?_, fun t ht => ?_⟩)
      · rcases hE with hE | ⟨y, hy, hE⟩
        · exact hE hk
        · have := hall y hy; omega
      · rw [ht.2.2, rowC_congr (fieldX tsvU) (fieldX tsvT) 9 x.list (fun y hy => fieldX_tsv y (fun c hc => HNO.out.2 y hy c hc))]
    · refine .inr (.inr ⟨h3, fun t ht => ?_⟩)
      rcases hbad with hE | ⟨y, hy, hE⟩
      · exact hE ht.1
      · have := ht.2.1 y hy; omega
set_option maxHeartbeats 2000000 in
theorem sfmt_sh (x : V) (hx : Va.Good x) (hsz : x.size ≤ 400) (v : Value) (S : Nat → Prop) (w : World) (hv : RV w S x v) (hS : ∀ b, S b → b < w.heap.size) : Calls Tryz.prog 60 #[.string ⟨#[115, 104]⟩, v] w (FmtEnd (Psh x) (Esh x) w) := by
  have HV := Lib.hid hv
  have HS := Lib.hid hS
  have HX := Lib.hid hx
  obtain ⟨k, h, t, la, n1, lc, ka, n2, kc, va, n3, vc, rfl⟩ : ∃ (k h : Int) (t : ByteArray) (la : Option Addr) (n1 lc : Nat) (ka : Option Addr) (n2 kc : Nat) (va : Option Addr) (n3 vc : Nat), v = .agg #[.int .i64 k, .int .i64 h, .string t, .slice la n1 lc, .slice ka n2 kc, .slice va n3 vc] := by
    cases x with
    | mk k h t ls ks vs =>
    rw [RV] at hv
    obtain ⟨la, lc, ka, kc, va, vc, e, _⟩ := hv
    exact ⟨_, _, _, _, _, _, _, _, _, _, _, _, e⟩
  clear hx hv hS
  go_enter Tryz.func60, Tryz.ntmps60
  go_upto_region 1 with fail
  generalize hW : World.alloc w _ = W
  have b1 : Below w.heap.size w W := hW ▸ below_alloc w _
  have y : W.heap[w.heap.size]? = some (.cells #[.int .i64 k, .int .i64 h, .string t, .slice la n1 lc, .slice ka n2 kc, .slice va n3 vc] 27 (0, 0)) := hW ▸ block_new w _ _
  have hwl : w.heap.size < W.heap.size := heap_lt y
  clear hW
  have HY := Lib.hid y
  have HB := Lib.hid b1
  have yy := cells6 y
  have HVW := Lib.hid (RV.mono (Same.of_below b1 HS.out) (fun _ h => h) _ _ HV.out)
  have HSW : Hid (∀ b, S b → b < W.heap.size) := Lib.hid (fun b h => Nat.lt_of_lt_of_le (HS.out b h) b1.size)
  clear y b1
  have HNU := Lib.hid (nul_any x HX.out hsz _ S W HVW.out HSW.out)
  go_wp2_with fail
  refine HNU.out.mono ?_
  rintro e w2 ⟨b, rfl, hb2, hnul⟩
  have HB2 := Lib.hid (HB.out.trans (hb2.mono HB.out.size))
  have HY2 := Lib.hid (keep hb2 HY.out)
  have HVX := Lib.hid (RV.mono (Same.of_below hb2 HSW.out) (fun _ h => h) _ _ HVW.out)
  have HSX : Hid (∀ b, S b → b < w2.heap.size) := Lib.hid (fun b h => Nat.lt_of_lt_of_le (HSW.out b h) hb2.size)
  have HNUL := Lib.hid hnul
  clear hb2 yy hnul
  have yy := cells6 HY2.out
  cases b with
  | true =>
    go_wp2_with fail
    go_returns
    exact ⟨_, 2, rfl, HB2.out, .inl rfl⟩
  | false =>
    have HNO := Lib.hid (HNUL.out rfl)
    clear HNUL
    have HROW := Lib.hid (shell_any x HX.out hsz _ S w2 HVX.out HSX.out)
    go_wp2_with fail
    refine HROW.out.mono ?_
    rintro e w3 ⟨s, how, rfl, hb3, h3⟩
    have HB3 := Lib.hid (HB2.out.trans (hb3.mono HB2.out.size))
    clear hb3
    go_wp2_with fail
    go_returns
    refine ⟨s, how, rfl, HB3.out, ?_⟩
    rcases h3 with h3 | ⟨h3, hall, rfl⟩ | ⟨h3, y, hy, hE⟩
    · exact .inl h3
    · refine .inr (.inl ⟨h3, fun hE => ?_, fun t ht => ?_⟩)
      · obtain ⟨y, hy, hE⟩ := hE
        have := hall y hy
        omega
      · rw [ht.2, rowC_congr fieldZ fieldS 32 (shL x) (fun y hy => fieldZ_S y (fun c hc => nul_sh HNO.out y hy c hc))]
    · refine .inr (.inr ⟨h3, fun t ht => ?_⟩)
      have := ht.1 y hy
      omega
set_option maxHeartbeats 2000000 in
theorem sfmt_base64 (x : V) (hx : Va.Good x) (hsz : x.size ≤ 400) (v : Value) (S : Nat → Prop) (w : World) (hv : RV w S x v) (hS : ∀ b, S b → b < w.heap.size) : Calls Tryz.prog 60 #[.string ⟨#[98, 97, 115, 101, 54, 52]⟩, v] w (FmtEnd (Pbase64 x) (Ebase64 x) w) := by
  have HV := Lib.hid hv
  have HS := Lib.hid hS
  have HX := Lib.hid hx
  obtain ⟨k, h, t, la, n1, lc, ka, n2, kc, va, n3, vc, rfl⟩ : ∃ (k h : Int) (t : ByteArray) (la : Option Addr) (n1 lc : Nat) (ka : Option Addr) (n2 kc : Nat) (va : Option Addr) (n3 vc : Nat), v = .agg #[.int .i64 k, .int .i64 h, .string t, .slice la n1 lc, .slice ka n2 kc, .slice va n3 vc] := by
    cases x with
    | mk k h t ls ks vs =>
    rw [RV] at hv
    obtain ⟨la, lc, ka, kc, va, vc, e, _⟩ := hv
    exact ⟨_, _, _, _, _, _, _, _, _, _, _, _, e⟩
  clear hx hv hS
  go_enter Tryz.func60, Tryz.ntmps60
  go_upto_region 1 with fail
  generalize hW : World.alloc w _ = W
  have b1 : Below w.heap.size w W := hW ▸ below_alloc w _
  have y : W.heap[w.heap.size]? = some (.cells #[.int .i64 k, .int .i64 h, .string t, .slice la n1 lc, .slice ka n2 kc, .slice va n3 vc] 27 (0, 0)) := hW ▸ block_new w _ _
  have hwl : w.heap.size < W.heap.size := heap_lt y
  clear hW
  have HY := Lib.hid y
  have HB := Lib.hid b1
  have yy := cells6 y
  have HVW := Lib.hid (RV.mono (Same.of_below b1 HS.out) (fun _ h => h) _ _ HV.out)
  have HSW : Hid (∀ b, S b → b < W.heap.size) := Lib.hid (fun b h => Nat.lt_of_lt_of_le (HS.out b h) b1.size)
  clear y b1
  have HST := Lib.hid (sstring_any x HX.out hsz _ S W HVW.out HSW.out)
  go_wp2_with fail
  refine HST.out.mono ?_
  rintro e w2 ⟨s, how, rfl, hb2, hs, hhow⟩
  have HB2 := Lib.hid (HB.out.trans (hb2.mono HB.out.size))
  clear hb2 yy
  rcases hhow with rfl | ⟨rfl, rfl⟩
  · go_wp2_with fail
    go_returns
    exact ⟨_, 2, rfl, HB2.out, .inl rfl⟩
  · have hln := strX_len x HX.out hsz
    have HE := Lib.hid (packed_any (numS (strX x)) (by rw [numS_size]; omega))
    have hbs := bytesN_numS' (strX x) (strX_lt x)
    obtain ⟨u, hu⟩ : ∃ u, numS (strX x) = u := ⟨_, rfl⟩
    rw [hu] at HE hbs
    rw [hu]
    have HBS := Lib.hid hbs
    clear hu hbs hln
    go_wp2_with fail
    refine (HE.out w2).mono ?_
    rintro e w3 ⟨rfl, rfl⟩
    rw [HBS.out]
    go_wp2_with fail
    go_returns
    exact ⟨_, 0, rfl, HB2.out, .inr (.inl ⟨rfl, fun h => h, fun t ht => ht⟩)⟩
set_option maxHeartbeats 2000000 in
theorem sfmt_base64d (x : V) (hx : Va.Good x) (hsz : x.size ≤ 400) (v : Value) (S : Nat → Prop) (w : World) (hv : RV w S x v) (hS : ∀ b, S b → b < w.heap.size) : Calls Tryz.prog 60 #[.string ⟨#[98, 97, 115, 101, 54, 52, 100]⟩, v] w (FmtEnd (Pbase64d x) (Ebase64d x) w) := by
  have HV := Lib.hid hv
  have HS := Lib.hid hS
  have HX := Lib.hid hx
  obtain ⟨k, h, t, la, n1, lc, ka, n2, kc, va, n3, vc, rfl⟩ : ∃ (k h : Int) (t : ByteArray) (la : Option Addr) (n1 lc : Nat) (ka : Option Addr) (n2 kc : Nat) (va : Option Addr) (n3 vc : Nat), v = .agg #[.int .i64 k, .int .i64 h, .string t, .slice la n1 lc, .slice ka n2 kc, .slice va n3 vc] := by
    cases x with
    | mk k h t ls ks vs =>
    rw [RV] at hv
    obtain ⟨la, lc, ka, kc, va, vc, e, _⟩ := hv
    exact ⟨_, _, _, _, _, _, _, _, _, _, _, _, e⟩
  clear hx hv hS
  go_enter Tryz.func60, Tryz.ntmps60
  go_upto_region 1 with fail
  generalize hW : World.alloc w _ = W
  have b1 : Below w.heap.size w W := hW ▸ below_alloc w _
  have y : W.heap[w.heap.size]? = some (.cells #[.int .i64 k, .int .i64 h, .string t, .slice la n1 lc, .slice ka n2 kc, .slice va n3 vc] 27 (0, 0)) := hW ▸ block_new w _ _
  have hwl : w.heap.size < W.heap.size := heap_lt y
  clear hW
  have HY := Lib.hid y
  have HB := Lib.hid b1
  have yy := cells6 y
  have HVW := Lib.hid (RV.mono (Same.of_below b1 HS.out) (fun _ h => h) _ _ HV.out)
  have HSW : Hid (∀ b, S b → b < W.heap.size) := Lib.hid (fun b h => Nat.lt_of_lt_of_le (HS.out b h) b1.size)
  clear y b1
  have HST := Lib.hid (sstring_any x HX.out hsz _ S W HVW.out HSW.out)
  go_wp2_with fail
  refine HST.out.mono ?_
  rintro e w2 ⟨s, how, rfl, hb2, hs, hhow⟩
  have HB2 := Lib.hid (HB.out.trans (hb2.mono HB.out.size))
  clear hb2 yy
  rcases hhow with rfl | ⟨rfl, rfl⟩
  · go_wp2_with fail
    go_returns
    exact ⟨_, 2, rfl, HB2.out, .inl rfl⟩
  · have hln := strX_len x HX.out hsz
    have hsu : (numS (strX x)).size ≤ 1073741824 := by rw [numS_size]; omega
    have HE := Lib.hid (unpacked_any (numS (strX x)) hsu)
    have HD := Lib.hid (dec_plain (s := numS (strX x)))
    obtain ⟨u, hu⟩ : ∃ u, numS (strX x) = u := ⟨_, rfl⟩
    have HUX := Lib.hid hu
    rw [hu] at HE HD ⊢
    clear hu hln hsu
    go_wp2_with fail
    refine (HE.out w2).mono ?_
    rintro e w3 ⟨t3, how, rfl, hb3, h3⟩
    have HB3 := Lib.hid (HB2.out.trans (hb3.mono HB2.out.size))
    clear hb3
    go_wp2_with fail
    go_returns
    refine ⟨t3, how, rfl, HB3.out, ?_⟩
    rcases h3 with h3 | ⟨h3, D, hD, rfl⟩
    · exact .inl h3
    · refine .inr (.inl ⟨h3, fun hE => ?_, fun t ht => ?_⟩)
      · obtain ⟨out, ho⟩ := hE
        rw [HUX.out] at ho
        exact absurd (HD.out D hD _ _ ho).1 (by decide)
      · obtain ⟨out, ho, rfl⟩ := ht
        rw [HUX.out] at ho
        rw [(HD.out D hD _ _ ho).2]
end Go.Proofs.YtgjmgneppecfgaaGreatDoor.Fo
