/-
  FnFormat, texts FoJ FoM FoO McN: lemmas for the law; the theorem stands in the last text.
-/
import Derived.Test.YtgjmgneppecfgaaGreatDoorJ19
import Derived.Test.YtgjmgneppecfgaaGreatDoorJ29
namespace Go.Proofs.YtgjmgneppecfgaaGreatDoor.Fo
open Go.RowKit Go.Proofs.YtgjmgneppecfgaaGreatDoor.Va Go.Proofs.YtgjmgneppecfgaaGreatDoor.Ba Go.Proofs.YtgjmgneppecfgaaGreatDoor.Ma Go.Proofs.YtgjmgneppecfgaaGreatDoor.Pa
set_option linter.unusedVariables false
set_option linter.unusedSimpArgs false

/-- what a row has of a value -/
def bareX (x : V) : List Nat := if x.kind = 0 then [] else strX x
theorem bareX_lt (x : V) : ∀ c ∈ bareX x, c < 256 := by
  unfold bareX
  split
  · simp
  · exact strX_lt x
def BareEnd (x : V) (w : World) (e : Ending) (w' : World) : Prop := ∃ (s : ByteArray) (how : Int), e = .returned (.tuple #[.string s, .int .i64 how]) ∧ Below w.heap.size w w' ∧ s.size ≤ 70368744177664 ∧ (how = 2 ∨ (how = 0 ∧ x.kind ≠ 5 ∧ x.kind ≠ 6 ∧ s = numS (bareX x)) ∨ (how = 1 ∧ (x.kind = 5 ∨ x.kind = 6)))
set_option maxHeartbeats 2000000 in
theorem bare_any (x : V) (hg : Va.Good x) (h4 : x.size ≤ 400) (v : Value) (S : Nat → Prop) (w : World) (hv : RV w S x v) (hS : ∀ b, S b → b < w.heap.size) : Calls Tryz.prog 168 #[v] w (BareEnd x w) := by
  have HJ := Lib.hid (fun W => sstring_any x hg h4 v S W)
  have HV := Lib.hid hv
  have HS := Lib.hid hS
  cases x with
  | mk k h t ls ks vs =>
  rw [RV] at hv
  obtain ⟨la, lc, ka, kc, va, vc, rfl, _⟩ := hv
  clear hg hS
  obtain ⟨n1, hn1⟩ : ∃ n, ls.length = n := ⟨_, rfl⟩
  obtain ⟨n2, hn2⟩ : ∃ n, ks.length = n := ⟨_, rfl⟩
  obtain ⟨n3, hn3⟩ : ∃ n, vs.length = n := ⟨_, rfl⟩
  rw [hn1, hn2, hn3] at HV HJ ⊢
  clear hn1 hn2 hn3
  by_cases hk5 : k = 5
  · subst hk5
    go_enter Tryz.func168, Tryz.ntmps168
    go_wp2_with fail
    go_returns
    exact ⟨⟨#[]⟩, 1, rfl, by go_grown, by show 0 ≤ _; omega, .inr (.inr ⟨rfl, .inl rfl⟩)⟩
  by_cases hk6 : k = 6
  · subst hk6
    go_enter Tryz.func168, Tryz.ntmps168
    go_wp2_with fail
    go_returns
    exact ⟨⟨#[]⟩, 1, rfl, by go_grown, by show 0 ≤ _; omega, .inr (.inr ⟨rfl, .inr rfl⟩)⟩
  by_cases hk0 : k = 0
  · subst hk0
    go_enter Tryz.func168, Tryz.ntmps168
    go_wp2_with fail
    go_returns
    exact ⟨⟨#[]⟩, 0, rfl, by go_grown, by show 0 ≤ _; omega, .inr (.inl ⟨rfl, by show (0 : Int) ≠ 5; decide, by show (0 : Int) ≠ 6; decide, rfl⟩)⟩
  have q5 : (k == 5) = false := by simp; exact hk5
  have q6 : (k == 6) = false := by simp; exact hk6
  have q0 : (k == 0) = false := by simp; exact hk0
  have HX : Hid (bareX (.mk k h t ls ks vs) = strX (.mk k h t ls ks vs)) := Lib.hid (by unfold bareX V.kind; rw [if_neg hk0])
  go_enter Tryz.func168, Tryz.ntmps168
  go_wp2_with fail
  generalize hW : World.alloc w _ = W
  have B1 := Lib.hid (hW ▸ below_alloc w _ : Below w.heap.size w W)
  clear hW
  refine (HJ.out W (RV.mono (Same.of_below B1.out HS.out) (fun _ h => h) _ _ HV.out) (fun b h => Nat.lt_of_lt_of_le (HS.out b h) B1.out.size)).mono ?_
  rintro e w2 ⟨s, how, rfl, hb2, hs, hhow⟩
  have B2 := Lib.hid (B1.out.trans (hb2.mono B1.out.size))
  have HH := Lib.hid hhow
  clear hb2 hhow
  go_wp2_with fail
  go_returns
  refine ⟨s, how, rfl, B2.out, hs, ?_⟩
  rcases HH.out with h | ⟨h1, h2⟩
  · exact .inl h
  · exact .inr (.inl ⟨h1, hk5, hk6, by rw [HX.out]; exact h2⟩)
end Go.Proofs.YtgjmgneppecfgaaGreatDoor.Fo
namespace Go.Proofs.YtgjmgneppecfgaaGreatDoor.Fo
open Go.RowKit Go.Proofs.YtgjmgneppecfgaaGreatDoor.Va Go.Proofs.YtgjmgneppecfgaaGreatDoor.Ba Go.Proofs.YtgjmgneppecfgaaGreatDoor.Ma Go.Proofs.YtgjmgneppecfgaaGreatDoor.Pa
set_option linter.unusedVariables false
set_option linter.unusedSimpArgs false

/-- the first i bytes have no 0 -/
def noNul (l : List Nat) (i : Nat) : Prop := ∀ j, j < i → l.getD j 1 ≠ 0
theorem noNul_all {l : List Nat} (h : noNul l l.length) : ∀ c ∈ l, c ≠ 0 := by
  intro c hc
  obtain ⟨j, hj, rfl⟩ := List.getElem_of_mem hc
  have := h j hj
  rwa [List.getD, List.getElem?_eq_getElem hj] at this
theorem noNul_succ {l : List Nat} {i : Nat} (h : noNul l i) (hi : l.getD i 1 ≠ 0) : noNul l (i + 1) := fun j hj => by
  rcases (show j < i ∨ j = i by omega) with h1 | rfl
  · exact h j h1
  · exact hi
def NulEnd (x : V) (w : World) (e : Ending) (w' : World) : Prop :=
  ∃ b : Bool, e = .returned (.bool b) ∧ Below w.heap.size w w' ∧ (b = false → (∀ c ∈ bytesN x.text, c ≠ 0) ∧ ∀ y ∈ x.list, ∀ c ∈ bytesN y.text, c ≠ 0)
def LoopN (l : List Nat) (n : Nat) (W : World) (iv : Value) (wr : World) : Prop := ∃ i : Nat, iv = .int .i64 (i : Int) ∧ i ≤ n ∧ noNul l i ∧ W = wr
def LoopN2 (ls : List V) (n : Nat) (W : World) (iv : Value) (wr : World) : Prop := ∃ i : Nat, iv = .int .i64 (i : Int) ∧ i ≤ n ∧ (∀ y ∈ ls.take i, ∀ c ∈ bytesN y.text, c ≠ 0) ∧ W = wr
set_option maxHeartbeats 4000000 in
set_option maxRecDepth 100000 in
theorem nul_any (x : V) (hg : Va.Good x) (h4 : x.size ≤ 400) (v : Value) (S : Nat → Prop) (w : World) (hv : RV w S x v) (hS : ∀ b, S b → b < w.heap.size) : Calls Tryz.prog 113 #[v] w (NulEnd x w) := by
  have HS := Lib.hid hS
  cases x with
  | mk k h t ls ks vs =>
  have HG : Hid (GoodL ls) := Lib.hid (by rw [Va.Good] at hg; exact hg.2.1)
  rw [Va.Good] at hg
  have htb := hg.1.tb
  have hll : ls.length ≤ 400 := by have := length_le ls; rw [V.size] at h4; omega
  rw [RV] at hv
  obtain ⟨la, lc, ka, kc, va, vc, rfl, hl, _⟩ := hv
  clear hg hS
  obtain ⟨n1, hn1⟩ : ∃ n, ls.length = n := ⟨_, rfl⟩
  obtain ⟨n2, hn2⟩ : ∃ n, ks.length = n := ⟨_, rfl⟩
  obtain ⟨n3, hn3⟩ : ∃ n, vs.length = n := ⟨_, rfl⟩
  have HN := Lib.hid hn1
  rw [hn1, hn2, hn3]
  rw [hn1] at hll
  have HL := Lib.hid hl
  clear hn1 hn2 hn3 hl
  go_enter Tryz.func113, Tryz.ntmps113
  go_wp2_with fail
  generalize hW : World.alloc w _ = W
  have B1 := Lib.hid (hW ▸ below_alloc w _ : Below w.heap.size w W)
  have hc := cells6 (hW ▸ block_new w _ _ : W.heap[w.heap.size]? = some (.cells #[.int .i64 k, .int .i64 h, .string t, .slice la n1 lc, .slice ka n2 kc, .slice va n3 vc] 27 (0, 0)))
  have HL1 := Lib.hid (RL.mono (Same.of_below B1.out HS.out) (fun _ h => h) _ _ HL.out)
  clear hW
  go_loopw [3] (LoopN (bytesN t) t.size W) (fun iv _ => t.size - (intOf iv).toNat)
  case atStart => exact ⟨0, rfl, Nat.zero_le _, fun j hj => absurd hj (Nat.not_lt_zero _), rfl⟩
  case round =>
    obtain ⟨i, rfl, hi, hno, rfl⟩ := hrel
    have HNO := Lib.hid hno
    clear hno
    by_cases hlt : i < t.size
    · obtain ⟨y, hy⟩ : ∃ y, (bytesN t).getD i 1 = y := ⟨_, rfl⟩
      have HY := Lib.hid hy
      have hby : (t[i]'hlt).toNat = y := by rw [Ba.byte_at t i hlt, ← hy, List.getD, List.getD, List.getElem?_eq_getElem (by rw [bytesN_len]; exact hlt)]; rfl
      clear hy
      by_cases hy0 : y = 0
      · subst hy0
        go_wp2_with fail
        go_returns
        exact ⟨true, rfl, B1.out, fun h => by cases h⟩
      · have hne : ((y : Int) == 0) = false := by simp; omega
        go_wp2_with fail
        go_roundw
        case rel => exact ⟨i + 1, by push_cast; rfl, hlt, noNul_succ HNO.out (by rw [HY.out]; exact hy0), rfl⟩
        case measure => simp [intOf]; omega
    · obtain rfl : i = t.size := by omega
      have HT : Hid (∀ c ∈ bytesN t, c ≠ 0) := Lib.hid (noNul_all (by rw [bytesN_len]; exact HNO.out))
      go_wp2_with fail
      go_loopw [4] (LoopN2 ls n1 W) (fun iv _ => n1 - (intOf iv).toNat)
      case atStart => exact ⟨0, rfl, Nat.zero_le _, fun y hy => by simp at hy, rfl⟩
      case round =>
        obtain ⟨i2, rfl, hi2, hno2, rfl⟩ := hrel
        have HNO2 := Lib.hid hno2
        clear hno2
        by_cases hlt2 : i2 < n1
        · have hkl : i2 < ls.length := by rw [HN.out]; exact hlt2
          obtain ⟨b, o, rfl⟩ := HL.out.addr (by omega)
          obtain ⟨hSb, c0, c1, c2, c3, c4, c5, h6, hv⟩ := RL.at ls b o HL1.out i2 hkl
          have HTK : Hid (ls.take (i2 + 1) = ls.take i2 ++ [ls[i2]]) := Lib.hid (List.take_succ_eq_append_getElem hkl)
          have hgy := HG.out.mem _ (List.getElem_mem hkl)
          obtain ⟨x', hxe⟩ : ∃ x, Hid (ls[i2] = x) := ⟨_, Lib.hid rfl⟩
          rw [hxe.out] at hv HTK hgy
          cases x' with
          | mk kk h' t' ls' ks' vs' =>
          rw [Va.Good] at hgy
          have htb' := hgy.1.tb
          rw [RV] at hv
          obtain ⟨la', lc', ka', kc', va', vc', e, _⟩ := hv
          simp only [Value.agg.injEq, Array.mk.injEq, List.cons.injEq, and_true] at e
          obtain ⟨rfl, rfl, rfl, rfl, rfl, rfl⟩ := e
          unfold Six at h6
          have h62 := h6.2.2.1
          clear hgy h6 hSb
          go_wp2_with fail
          go_loopw [5] (LoopN (bytesN t') t'.size W) (fun iv _ => t'.size - (intOf iv).toNat)
          case atStart => exact ⟨0, rfl, Nat.zero_le _, fun j hj => absurd hj (Nat.not_lt_zero _), rfl⟩
          case round =>
            obtain ⟨i, rfl, hi, hno, rfl⟩ := hrel
            have HNO := Lib.hid hno
            clear hno
            by_cases hlt : i < t'.size
            · obtain ⟨y, hy⟩ : ∃ y, (bytesN t').getD i 1 = y := ⟨_, rfl⟩
              have HY := Lib.hid hy
              have hby : (t'[i]'hlt).toNat = y := by rw [Ba.byte_at t' i hlt, ← hy, List.getD, List.getD, List.getElem?_eq_getElem (by rw [bytesN_len]; exact hlt)]; rfl
              clear hy
              by_cases hy0 : y = 0
              · subst hy0
                go_wp2_with fail
                go_returns
                exact ⟨true, rfl, B1.out, fun h => by cases h⟩
              · have hne : ((y : Int) == 0) = false := by simp; omega
                go_wp2_with fail
                try go_simp
                exact ⟨⟨i + 1, by push_cast; rfl, hlt, noNul_succ HNO.out (by rw [HY.out]; exact hy0), rfl⟩, by simp [intOf]; omega⟩
            · obtain rfl : i = t'.size := by omega
              have HT' : Hid (∀ c ∈ bytesN t', c ≠ 0) := Lib.hid (noNul_all (by rw [bytesN_len]; exact HNO.out))
              go_wp2_with fail
              try go_simp
              refine ⟨⟨i2 + 1, by push_cast; rfl, hlt2, ?_, rfl⟩, by simp [intOf]; omega⟩
              intro y hy
              rw [HTK.out] at hy
              rcases List.mem_append.1 hy with hy | hy
              · exact HNO2.out y hy
              · simp at hy; rw [hy]; exact HT'.out
        · obtain rfl : i2 = n1 := by omega
          go_wp2_with fail
          go_returns
          exact ⟨false, rfl, B1.out, fun _ => ⟨HT.out, fun y hy => HNO2.out y (by rw [List.take_of_length_le (by rw [HN.out]; exact Nat.le_refl _)]; exact hy)⟩⟩
end Go.Proofs.YtgjmgneppecfgaaGreatDoor.Fo
namespace Go.Proofs.YtgjmgneppecfgaaGreatDoor.Fo
open Go.RowKit Go.Proofs.YtgjmgneppecfgaaGreatDoor.Va Go.Proofs.YtgjmgneppecfgaaGreatDoor.Ba Go.Proofs.YtgjmgneppecfgaaGreatDoor.Ma Go.Proofs.YtgjmgneppecfgaaGreatDoor.Pa
set_option linter.unusedVariables false
set_option linter.unusedSimpArgs false

def csvP : List (Nat × List Nat) := [(34, [34, 34])]
def tsvP : List (Nat × List Nat) := [(10, [92, 110]), (13, [92, 114]), (9, [92, 116]), (92, [92, 92])]
def shP : List (Nat × List Nat) := [(39, [39, 92, 39, 39])]
theorem csvOk : TabOk csvP := ⟨by decide, by decide, by decide⟩
theorem tsvOk : TabOk tsvP := ⟨by decide, by decide, by decide⟩
theorem shOk : TabOk shP := ⟨by decide, by decide, by decide⟩
/-- what a row has of a value: with the text's form -/
def csvT (l : List Nat) : List Nat := 34 :: (repl csvP l ++ [34])
def tsvT (l : List Nat) : List Nat := repl tsvP l
def shT (l : List Nat) : List Nat := 39 :: (repl shP l ++ [39])
def fieldX (T : List Nat → List Nat) (x : V) : List Nat := if x.kind = 4 then T (bytesN x.text) else bareX x
def fieldS (x : V) : List Nat := if x.kind = 0 then [110, 117, 108, 108] else fieldX shT x
structure TextOk (T : List Nat → List Nat) : Prop where
  len : ∀ l, (∀ x ∈ l, x < 256) → (T l).length ≤ 8 * l.length + 2
  lt : ∀ l, (∀ x ∈ l, x < 256) → ∀ x ∈ T l, x < 256
theorem wrap_ok {P : List (Nat × List Nat)} (h : TabOk P) (q : Nat) (hq : q < 256) : TextOk (fun l => q :: (repl P l ++ [q])) where
  len := fun l hl => by have h := (repl_ok h.new l hl).1; simp; omega
  lt := fun l hl x hx => by
    rcases List.mem_cons.1 hx with rfl | hx
    · exact hq
    · rcases List.mem_append.1 hx with hx | hx
      · exact (repl_ok h.new l hl).2 x hx
      · simp at hx; omega
theorem csvT_ok : TextOk csvT := wrap_ok csvOk 34 (by decide)
theorem shT_ok : TextOk shT := wrap_ok shOk 39 (by decide)
theorem tsvT_ok : TextOk tsvT where
  len := fun l hl => by have h := (repl_ok tsvOk.new l hl).1; show (repl tsvP l).length ≤ _; omega
  lt := fun l hl => (repl_ok tsvOk.new l hl).2
theorem strX_len (x : V) (hg : Va.Good x) (h4 : x.size ≤ 400) : (strX x).length ≤ 26214400 := by
  unfold strX
  split
  · cases x with
    | mk k h t ls ks vs =>
    rw [Va.Good] at hg
    have := hg.1.tb
    rw [bytesN_len]
    show t.size ≤ _
    omega
  · exact encJ_small x hg h4
theorem bareX_len (x : V) (hg : Va.Good x) (h4 : x.size ≤ 400) : (bareX x).length ≤ 26214400 := by
  unfold bareX
  split
  · simp
  · exact strX_len x hg h4
theorem fieldX_ok {T : List Nat → List Nat} (hT : TextOk T) (x : V) (hg : Va.Good x) (h4 : x.size ≤ 400) : (fieldX T x).length ≤ 26214400 ∧ ∀ c ∈ fieldX T x, c < 256 := by
  unfold fieldX
  split
  · refine ⟨?_, hT.lt _ (bytesN_lt _)⟩
    have h := hT.len _ (bytesN_lt x.text)
    cases x with
    | mk k h t ls ks vs =>
    rw [Va.Good] at hg
    have := hg.1.tb
    rw [bytesN_len] at h
    change (T (bytesN t)).length ≤ _ at h
    show (T (bytesN t)).length ≤ _
    change (T (bytesN t)).length ≤ 8 * t.size + 2 at h
    omega
  · exact ⟨bareX_len x hg h4, bareX_lt x⟩
theorem fieldS_ok (x : V) (hg : Va.Good x) (h4 : x.size ≤ 400) : (fieldS x).length ≤ 26214400 ∧ ∀ c ∈ fieldS x, c < 256 := by
  unfold fieldS
  split
  · exact ⟨by decide, by decide⟩
  · exact fieldX_ok shT_ok x hg h4
/-- the fields, a byte ahead of each -/
def rowC (F : V → List Nat) (b : Nat) (ls : List V) : List Nat := ls.flatMap fun x => b :: F x
theorem rowC_snoc (F : V → List Nat) (b : Nat) (ls : List V) (x : V) : rowC F b (ls ++ [x]) = rowC F b ls ++ b :: F x := by
  unfold rowC
  rw [List.flatMap_append]
  simp
theorem row_next (F : V → List Nat) (b : Nat) (ls : List V) (x : V) : (rowC F b (ls ++ [x])).tail = (rowC F b ls).tail ++ (if ls = [] then [] else [b]) ++ F x := by
  rw [rowC_snoc]
  cases ls with
  | nil => rfl
  | cons y ys =>
    have e : rowC F b (y :: ys) = b :: (F y ++ rowC F b ys) := by unfold rowC; rw [List.flatMap_cons]; rfl
    rw [e, if_neg (by simp)]
    simp
theorem rowC_ok (F : V → List Nat) (b : Nat) (hb : b < 256) (ls : List V) (h : ∀ x ∈ ls, (F x).length ≤ 26214400 ∧ ∀ c ∈ F x, c < 256) : (rowC F b ls).length ≤ ls.length * 26214401 ∧ ∀ c ∈ rowC F b ls, c < 256 := by
  induction ls with
  | nil => exact ⟨by simp [rowC], fun x hx => by simp [rowC] at hx⟩
  | cons y ys ih =>
    have e : rowC F b (y :: ys) = b :: (F y ++ rowC F b ys) := by unfold rowC; rw [List.flatMap_cons]; rfl
    have h1 := h y List.mem_cons_self
    have h2 := ih (fun x hx => h x (List.mem_cons_of_mem _ hx))
    rw [e]
    refine ⟨by rw [List.length_cons, List.length_append, List.length_cons]; omega, fun x hx => ?_⟩
    rcases List.mem_cons.1 hx with rfl | hx
    · exact hb
    · rcases List.mem_append.1 hx with hx | hx
      · exact h1.2 x hx
      · exact h2.2 x hx
/-- what a row returns -/
def RowEnd (F : V → List Nat) (b : Nat) (ls : List V) (w : World) (e : Ending) (w' : World) : Prop :=
  ∃ (s : ByteArray) (how : Int), e = .returned (.tuple #[.string s, .int .i64 how]) ∧ Below w.heap.size w w' ∧
    (how = 2 ∨ (how = 0 ∧ (∀ y ∈ ls, y.kind ≠ 5 ∧ y.kind ≠ 6) ∧ s = numS (rowC F b ls).tail) ∨ (how = 1 ∧ ∃ y ∈ ls, y.kind = 5 ∨ y.kind = 6))
end Go.Proofs.YtgjmgneppecfgaaGreatDoor.Fo
namespace Go.Proofs.YtgjmgneppecfgaaGreatDoor.Mc
open Go.RowKit Go.Proofs.YtgjmgneppecfgaaGreatDoor.Va Go.Proofs.YtgjmgneppecfgaaGreatDoor.Ba Go.Proofs.YtgjmgneppecfgaaGreatDoor.Ma Go.Proofs.YtgjmgneppecfgaaGreatDoor.Fo
set_option linter.unusedVariables false
set_option linter.unusedSimpArgs false

theorem rk_block {w : World} {b : Nat} {cs : Array Value} {t : TypeId} (h : w.heap[b]? = some (.cells cs t (0, 0))) : ∀ (l : List ByteArray) (o : Nat), (∀ i (hi : i < l.length), cs[o + i]? = some (.string l[i])) → RK w (fun x => x = b) l (some ⟨b, o, none⟩)
  | [], _, _ => trivial
  | t :: ts, o, hc => ⟨b, o, rfl, rfl, cell_of h o (hc 0 (by simp)), rk_block h ts (o + 1) fun i hi => by
      have := hc (i + 1) (by simpa using hi)
      rwa [show o + (i + 1) = o + 1 + i by omega] at this⟩
theorem rk_of {w : World} {b : Nat} {cs : Array Value} {t : TypeId} (h : w.heap[b]? = some (.cells cs t (0, 0))) (l : List ByteArray) (e : cs = (l.map Value.string).toArray) : RK w (fun x => x = b) l (some ⟨b, 0, none⟩) :=
  rk_block h l 0 fun i hi => by
    rw [e, Nat.zero_add]
    simp [List.getElem?_eq_getElem hi]
/-- the program's tables -/
def htmlQ : List (Nat × List Nat) := [(60, [38, 108, 116, 59]), (62, [38, 103, 116, 59]), (38, [38, 97, 109, 112, 59]), (39, [38, 97, 112, 111, 115, 59]), (34, [38, 113, 117, 111, 116, 59])]
def csvQ : List (Nat × List Nat) := [(34, [34, 34]), (0, [92, 48])]
def tsvQ : List (Nat × List Nat) := [(9, [92, 116]), (13, [92, 114]), (10, [92, 110]), (92, [92, 92]), (0, [92, 48])]
def shQ : List (Nat × List Nat) := [(39, [39, 92, 39, 39]), (0, [92, 48])]
theorem htmlQ_ok : TabOk htmlQ := ⟨by decide, by decide, by decide⟩
theorem csvQ_ok : TabOk csvQ := ⟨by decide, by decide, by decide⟩
theorem tsvQ_ok : TabOk tsvQ := ⟨by decide, by decide, by decide⟩
theorem shQ_ok : TabOk shQ := ⟨by decide, by decide, by decide⟩
/-- a table that was made -/
def TabEnd (P : List (Nat × List Nat)) (n : Nat) (w : World) (e : Ending) (w' : World) : Prop :=
  e = .returned (.slice (some ⟨w.heap.size, 0, none⟩) n n) ∧ RK w' (fun b => b = w.heap.size) (tabS P) (some ⟨w.heap.size, 0, none⟩) ∧ w'.heap.size = w.heap.size + 1 ∧ Below w.heap.size w w'
theorem htmlEsc_any (w : World) : Calls Tryz.prog 193 #[] w (TabEnd htmlQ 10 w) := by
  go_enter Tryz.func193, Tryz.ntmps193
  go_wp2_with fail
  go_returns
  exact ⟨rfl, rk_of (block_new w _ _) (tabS htmlQ) (by kernel_rfl), by rw [World.size_alloc], below_alloc w _⟩
theorem csvEsc_any (w : World) : Calls Tryz.prog 200 #[] w (TabEnd csvQ 4 w) := by
  go_enter Tryz.func200, Tryz.ntmps200
  go_wp2_with fail
  go_returns
  exact ⟨rfl, rk_of (block_new w _ _) (tabS csvQ) (by kernel_rfl), by rw [World.size_alloc], below_alloc w _⟩
theorem tsvEsc_any (w : World) : Calls Tryz.prog 201 #[] w (TabEnd tsvQ 10 w) := by
  go_enter Tryz.func201, Tryz.ntmps201
  go_wp2_with fail
  go_returns
  exact ⟨rfl, rk_of (block_new w _ _) (tabS tsvQ) (by kernel_rfl), by rw [World.size_alloc], below_alloc w _⟩
theorem shEsc_any (w : World) : Calls Tryz.prog 203 #[] w (TabEnd shQ 4 w) := by
  go_enter Tryz.func203, Tryz.ntmps203
  go_wp2_with fail
  go_returns
  exact ⟨rfl, rk_of (block_new w _ _) (tabS shQ) (by kernel_rfl), by rw [World.size_alloc], below_alloc w _⟩
/-- the answer of a text's form -/
def TextEnd (l : List Nat) (w : World) (e : Ending) (w' : World) : Prop := e = .returned (.string (numS l)) ∧ Below w.heap.size w w'
set_option maxHeartbeats 1000000 in
theorem csv1_any (s : ByteArray) (hs : s.size ≤ 4096) (w : World) : Calls Tryz.prog 199 #[.string s] w (TextEnd (34 :: (repl csvQ (bytesN s) ++ [34])) w) := by
  have hro := repl_ok csvQ_ok.new (bytesN s) (bytesN_lt s)
  have hrl := hro.1
  rw [bytesN_len] at hrl
  obtain ⟨u, hu⟩ : ∃ u, numS (repl csvQ (bytesN s)) = u := ⟨_, rfl⟩
  have hus : u.size ≤ 8 * s.size := by rw [← hu, numS_size]; exact hrl
  have HU : Hid (numS (34 :: (repl csvQ (bytesN s) ++ [34])) = ((⟨#[34]⟩ : ByteArray) ++ u) ++ (⟨#[34]⟩ : ByteArray)) := Lib.hid (by
    have e1 : 34 :: (repl csvQ (bytesN s) ++ [34]) = [34] ++ repl csvQ (bytesN s) ++ [34] := rfl
    rw [e1, ← numS_app _ _ (fun y hy => by
      rcases List.mem_append.1 hy with hy | hy
      · simp at hy; omega
      · exact hro.2 y hy) (by decide), ← numS_app _ _ (by decide) hro.2, hu]
    rfl)
  have a1 : (⟨#[34]⟩ : ByteArray).size + u.size ≤ 140737488355328 := by show 1 + _ ≤ _; omega
  have s1 : ((⟨#[34]⟩ : ByteArray) ++ u).size = 1 + u.size := by rw [ByteArray.size_append]; rfl
  have a2 : ((⟨#[34]⟩ : ByteArray) ++ u).size + (⟨#[34]⟩ : ByteArray).size ≤ 140737488355328 := by rw [s1]; show _ + 1 ≤ _; omega
  have HUU := Lib.hid hu
  clear hro hrl hu
  go_enter Tryz.func199, Tryz.ntmps199
  go_wp2_with fail
  refine (csvEsc_any w).mono ?_
  rintro e w1 ⟨rfl, hk, hsz, hb1⟩
  have B1 := Lib.hid hb1
  have HK := Lib.hid hk
  have HSZ := Lib.hid hsz
  clear hb1 hk hsz
  go_wp2_with fail
  refine (replace_any csvQ csvQ_ok s (by omega) (some ⟨w.heap.size, 0, none⟩) 4 4 rfl (fun b => b = w.heap.size) w1 HK.out (fun b h => by rw [HSZ.out]; omega)).mono ?_
  rintro e w2 ⟨rfl, hb2⟩
  rw [HUU.out]
  have B2 := Lib.hid (B1.out.trans (hb2.mono B1.out.size))
  clear hb2
  go_wp2_with fail
  go_returns
  exact ⟨congrArg (fun x => Ending.returned (.string x)) HU.out.symm, B2.out⟩
set_option maxHeartbeats 1000000 in
theorem sh1_any (s : ByteArray) (hs : s.size ≤ 4096) (w : World) : Calls Tryz.prog 202 #[.string s] w (TextEnd (39 :: (repl shQ (bytesN s) ++ [39])) w) := by
  have hro := repl_ok shQ_ok.new (bytesN s) (bytesN_lt s)
  have hrl := hro.1
  rw [bytesN_len] at hrl
  obtain ⟨u, hu⟩ : ∃ u, numS (repl shQ (bytesN s)) = u := ⟨_, rfl⟩
  have hus : u.size ≤ 8 * s.size := by rw [← hu, numS_size]; exact hrl
  have HU : Hid (numS (39 :: (repl shQ (bytesN s) ++ [39])) = ((⟨#[39]⟩ : ByteArray) ++ u) ++ (⟨#[39]⟩ : ByteArray)) := Lib.hid (by
    have e1 : 39 :: (repl shQ (bytesN s) ++ [39]) = [39] ++ repl shQ (bytesN s) ++ [39] := rfl
    rw [e1, ← numS_app _ _ (fun y hy => by
      rcases List.mem_append.1 hy with hy | hy
      · simp at hy; omega
      · exact hro.2 y hy) (by decide), ← numS_app _ _ (by decide) hro.2, hu]
    rfl)
  have a1 : (⟨#[39]⟩ : ByteArray).size + u.size ≤ 140737488355328 := by show 1 + _ ≤ _; omega
  have s1 : ((⟨#[39]⟩ : ByteArray) ++ u).size = 1 + u.size := by rw [ByteArray.size_append]; rfl
  have a2 : ((⟨#[39]⟩ : ByteArray) ++ u).size + (⟨#[39]⟩ : ByteArray).size ≤ 140737488355328 := by rw [s1]; show _ + 1 ≤ _; omega
  have HUU := Lib.hid hu
  clear hro hrl hu
  go_enter Tryz.func202, Tryz.ntmps202
  go_wp2_with fail
  refine (shEsc_any w).mono ?_
  rintro e w1 ⟨rfl, hk, hsz, hb1⟩
  have B1 := Lib.hid hb1
  have HK := Lib.hid hk
  have HSZ := Lib.hid hsz
  clear hb1 hk hsz
  go_wp2_with fail
  refine (replace_any shQ shQ_ok s (by omega) (some ⟨w.heap.size, 0, none⟩) 4 4 rfl (fun b => b = w.heap.size) w1 HK.out (fun b h => by rw [HSZ.out]; omega)).mono ?_
  rintro e w2 ⟨rfl, hb2⟩
  rw [HUU.out]
  have B2 := Lib.hid (B1.out.trans (hb2.mono B1.out.size))
  clear hb2
  go_wp2_with fail
  go_returns
  exact ⟨congrArg (fun x => Ending.returned (.string x)) HU.out.symm, B2.out⟩
set_option maxHeartbeats 1000000 in
theorem toHTML_any (x : V) (hg : Va.Good x) (hsz : x.size ≤ 400) (g : Value) (S : Nat → Prop) (w : World) (hgv : GV w S x g) (hS : ∀ b, S b → b < w.heap.size) (hT : Tabs w) : Calls Tryz.prog 162 #[g] w (IStr (numS (repl htmlQ (strX x))) w) := by
  have HJ := Lib.hid (toString_any x hg hsz g S w hgv hS hT)
  have hln := strX_len x hg hsz
  have hb := bytesN_numS' (strX x) (strX_lt x)
  clear hg hgv hS hT
  obtain ⟨t, ht⟩ : ∃ t, numS (strX x) = t := ⟨_, rfl⟩
  have hts : t.size ≤ 26214400 := by rw [← ht, numS_size]; exact hln
  rw [ht] at HJ hb
  rw [← hb]
  clear ht hb hln
  go_enter Tryz.func162, Tryz.ntmps162
  go_wp2_with fail
  refine HJ.out.mono ?_
  rintro e w1 ⟨rfl, hb1⟩
  have B1 := Lib.hid hb1
  clear hb1 HJ
  go_wp2_with fail
  refine (htmlEsc_any w1).mono ?_
  rintro e w2 ⟨rfl, hk, hsz2, hb2⟩
  have B2 := Lib.hid (B1.out.trans (hb2.mono B1.out.size))
  have HK := Lib.hid hk
  have HSZ := Lib.hid hsz2
  clear hb2 hk hsz2
  go_wp2_with fail
  refine (replace_any htmlQ htmlQ_ok t (by omega) (some ⟨w1.heap.size, 0, none⟩) 10 10 rfl (fun b => b = w1.heap.size) w2 HK.out (fun b h => by rw [HSZ.out]; omega)).mono ?_
  rintro e w3 ⟨rfl, hb3⟩
  have B3 := Lib.hid (B2.out.trans (hb3.mono B2.out.size))
  clear hb3
  go_wp2_with fail
  go_returns
  exact ⟨rfl, B3.out⟩
end Go.Proofs.YtgjmgneppecfgaaGreatDoor.Mc
