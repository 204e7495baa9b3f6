/-
  FnFormat, texts FoV FoW: lemmas for the law; the theorem stands in the last text.
-/
import Derived.Test.YtgjmgneppecfgaaGreatDoorJ02
import Derived.Test.YtgjmgneppecfgaaGreatDoorJ21
import Derived.Test.YtgjmgneppecfgaaGreatDoorJ28
import Derived.Test.YtgjmgneppecfgaaGreatDoorJ36
import Derived.Test.YtgjmgneppecfgaaGreatDoorJ41
namespace Go.Proofs.YtgjmgneppecfgaaGreatDoor.Fo
open Go.RowKit Go.Proofs.YtgjmgneppecfgaaGreatDoor.Va Go.Proofs.YtgjmgneppecfgaaGreatDoor.Ba Go.Proofs.YtgjmgneppecfgaaGreatDoor.Ma Go.Proofs.YtgjmgneppecfgaaGreatDoor.Pa
set_option linter.unusedVariables false
set_option linter.unusedSimpArgs false

theorem wpList_append_b {P : Program} {w : World} {ops : Array Oper} {rest : List Oper} {o : Oper} {a : Act} {Q : Exit → Act → World → Prop} (hgd : o.guard = none) (s x : Operand) (t : TypeId)
    (ho : o.op = .call { callee := .builtin .append, args := #[s, x], argTypes := #[t, t] })
    (base : Nat) (e : TypeId) (i : TypeInfo) (z : Value) (size bytes : Nat) (ht : P.underlying t = some (.slice e)) (hi : P.info? e = some i) (hz : i.zero = some z)
    (hsize : i.size = size) (hby : i.bytes = bytes) (hzs : z.cells.size = size) (hsz : 0 < size)
    (v : Value) (n m : Nat) (xs : List Value) (hs : a.eval s = v) (hown : w.ownsRow base e size v n xs)
    (xv : Value) (news : List Value) (hx : a.eval x = xv) (hl : news.length = m * size) (hsrc : Src0 w xv m news) (h1 : ∀ u ∈ news, u.oneCell' = true)
    (h63 : n + m ≤ maxLen) (hbytes : (n + m) * bytes ≤ 140737488355328) (hbase : base ≤ w.heap.size)
    (h : ∀ v' w', AppA w base e size v n m (xs ++ news) v' w' → wpList P ops Q rest (a.put o.dst v') w') : wpList P ops Q (o :: rest) a w :=
  wpList_plain hgd fun _ hK => by
    obtain ⟨v', w', hr, h2⟩ := run_append_b (P := P) (w := w) base t o.type e i z size bytes ht hi hz hsize hby hzs hsz v n m xs hown xv news hl hsrc h1 h63 hbytes hbase
    unfold Oper.wp execOp
    simp only [ho, resolve, invoke, builtin, Sem.run_bind, Sem.run_pure, Result.andThen_ok, List.map_toArray, List.map_cons, List.map_nil, hs, hx, hr]
    exact hK _ _ (h v' w' h2)
theorem src0_rk {w : World} {S : Nat → Prop} {ks : List ByteArray} {ka : Option Addr} (h : RK w S ks ka) (c : Nat) : Src0 w (.slice ka ks.length c) ks.length (ks.map Value.string) := by
  cases ka with
  | none =>
    cases ks with
    | nil => exact .inl ⟨c, rfl, rfl, rfl⟩
    | cons x xs =>
      obtain ⟨b, o, e, _⟩ := h
      cases e
  | some ad =>
    refine .inr ⟨ad, c, rfl, fun j u hj => ?_⟩
    cases ks with
    | nil => simp at hj
    | cons x xs =>
      obtain ⟨b, o, he, hS, hc, hr⟩ := id h
      simp only [Option.some.injEq] at he
      subst he
      rw [List.getElem?_map] at hj
      cases hl : (x :: xs)[j]? with
      | none => rw [hl] at hj; simp at hj
      | some y =>
        rw [hl] at hj
        simp at hj
        obtain ⟨hlt, hg⟩ := List.getElem?_eq_some_iff.1 hl
        have h2 := (RK.at (x :: xs) b o h j hlt).2
        rw [hg] at h2
        rw [Lib.addr_add, ← hj]
        exact h2
/-- control gives some truth value -/
def CtlW (x : V) : Prop := ∀ (v : Value) (S : Nat → Prop) (w : World), RV w S x v → (∀ b, S b → b < w.heap.size) → Calls Tryz.prog 61 #[v] w (BitB w)
def LoopKc (n : Nat) (W : World) (iv : Value) (wr : World) : Prop := ∃ i : Nat, iv = .int .i64 (i : Int) ∧ i ≤ n ∧ W = wr
def LoopBc (n : Nat) (w : World) (iv : Value) (wr : World) : Prop := ∃ i : Nat, iv = .int .i64 (i : Int) ∧ i ≤ n ∧ Below w.heap.size w wr
set_option hygiene false in
/-
  the values of a list
-/
set_option maxHeartbeats 8000000 in
set_option maxRecDepth 100000 in
theorem control_step (k h : Int) (t : ByteArray) (ls : List V) (ks : List ByteArray) (vs : List V) (hg : Va.Good (.mk k h t ls ks vs)) (h4 : (V.mk k h t ls ks vs).size ≤ 400) (IH1 : ∀ x ∈ ls, CtlW x) (IH2 : ∀ x ∈ vs, CtlW x) : CtlW (.mk k h t ls ks vs) := by
  intro v S w hv hS
  obtain ⟨j0, hj, hy0, hy1, hy2⟩ := info_parts infoStr
  have HI := Lib.hid (And.intro hj (And.intro hy0 (And.intro hy1 hy2)))
  have HS := Lib.hid hS
  have HIH1 := Lib.hid IH1
  have HIH2 := Lib.hid IH2
  rw [RV] at hv
  obtain ⟨la, lc, ka, kc, va, vc, rfl, hl, hk, hvl⟩ := hv
  have HL1 := Lib.hid hl
  have HL2 := Lib.hid hvl
  rw [Va.Good] at hg
  have HKB : Hid (∀ s ∈ t :: ks, s.size ≤ 4096) := Lib.hid (fun s hs => by
    rcases List.mem_cons.1 hs with rfl | hs
    · exact hg.1.tb
    · exact hg.1.kb s hs)
  have hkl : ks.length ≤ 400 := by
    have h1 := hg.1.len
    have h2 := length_le vs
    rw [V.size] at h4
    omega
  have hll : ls.length ≤ 400 := by
    have h2 := length_le ls
    rw [V.size] at h4
    omega
  have hvl2 : vs.length ≤ 400 := by
    have h2 := length_le vs
    rw [V.size] at h4
    omega
  have HSRC := Lib.hid (fun (W : World) (hs : Same S w W) => src0_rk (RK.mono hs (fun _ h => h) ks ka hk) kc)
  obtain ⟨n1, hn1⟩ : ∃ n, ls.length = n := ⟨_, rfl⟩
  obtain ⟨n2, hn2⟩ : ∃ n, ks.length = n := ⟨_, rfl⟩
  obtain ⟨n3, hn3⟩ : ∃ n, vs.length = n := ⟨_, rfl⟩
  rw [hn2] at HSRC
  rw [hn1] at hll
  rw [hn2] at hkl
  rw [hn3] at hvl2
  rw [hn1, hn2, hn3]
  have HN1 := Lib.hid hn1
  have HN2 := Lib.hid hn2
  have HN3 := Lib.hid hn3
  clear hg hl hk hvl IH1 IH2 hS hj hy0 hy1 hy2 hn1 hn2 hn3 h4
  go_enter Tryz.func61, Tryz.ntmps61
  go_upto_region 1 with fail
  generalize hW : World.alloc w _ = W
  have hb1 : Below w.heap.size w W := hW ▸ below_alloc w _
  have y : W.heap[w.heap.size]? = some (.cells #[.int .i64 k, .int .i64 h, .string t, .slice la n1 lc, .slice ka n2 kc, .slice va n3 vc] 27 (0, 0)) := hW ▸ block_new w _ _
  clear hW
  have HB1 := Lib.hid hb1
  have HY1 := Lib.hid y
  have yy := cells6 y
  have hwl : w.heap.size < W.heap.size := heap_lt y
  clear y hb1
  have HROW0 : Hid ((W.alloc (.cells #[.string t] 9)).ownsRow W.heap.size 9 1 (.slice (some ⟨W.heap.size, 0, none⟩) 1 1) 1 [.string t]) := Lib.hid ⟨rfl, .inr ⟨_, 1, _, rfl, Nat.le_refl _, block_new W _ _, Nat.le_refl _, by decide, rfl, rfl⟩⟩
  have HBA : Hid (Below w.heap.size w (W.alloc (.cells #[.string t] 9))) := Lib.hid (HB1.out.trans ((below_alloc W _).mono HB1.out.size))
  go_wp2_with (at_builtin; refine stop_here ?_)
  refine Lib.hid ?_
  refine wpList_append_b (by rfl) (.tmp 10) (.tmp 12) 25 (by rfl) W.heap.size 9 j0 _ 1 16 Tryz.underlying25 HI.out.1 HI.out.2.1 HI.out.2.2.1 HI.out.2.2.2 rfl (by decide) (.slice (some ⟨W.heap.size, 0, none⟩) 1 1) 1 n2 [.string t] (by rfl) HROW0.out (.slice ka n2 kc) (ks.map Value.string) (by rfl) (by rw [List.length_map, HN2.out, Nat.mul_one]) (HSRC.out _ (Same.of_below HBA.out HS.out)) (fun u hu => by
    obtain ⟨s, _, rfl⟩ := List.mem_map.1 hu
    rfl) (by unfold maxLen; omega) (by omega) (below_alloc W (.cells #[.string t] 9)).size ?_
  intro v' w3 hap
  have hform := hap.owns
  have HB4 : Hid (Below w.heap.size w w3) := Lib.hid (app_below hap HROW0.out HBA.out HB1.out.size HBA.out.size)
  have HY4 : Hid (w3.heap[w.heap.size]? = some (.cells #[.int .i64 k, .int .i64 h, .string t, .slice la n1 lc, .slice ka n2 kc, .slice va n3 vc] 27 (0, 0))) := Lib.hid (by
    have hlt : w.heap.size < W.heap.size := heap_lt HY1.out
    have h1 := (below_alloc W (.cells #[.string t] 9)).block w.heap.size hlt
    have h2 := hap.grown.block w.heap.size (by rw [World.size_alloc]; omega) (by
      show some w.heap.size ≠ some W.heap.size
      intro e
      simp at e
      omega)
    rw [h2, h1, HY1.out])
  have HOWN := Lib.hid hap.owns
  rcases hap.owns.2 with ⟨_, h0⟩ | ⟨g, cap, cur, rfl, hgb, hblk, hnc, hcm, hcs, htk⟩
  · omega
  have HCELL : Hid (∀ j s, (t :: ks)[j]? = some s → w3.cell? ⟨g, j, none⟩ = some (.string s)) := Lib.hid (fun j s hj => by
    have h1 : ((.string t : Value) :: ks.map Value.string)[j]? = some (.string s) := by
      have : ((t :: ks).map Value.string)[j]? = some (.string s) := by rw [List.getElem?_map, hj]; rfl
      exact this
    have hjl := (List.getElem?_eq_some_iff.1 hj).1
    refine cell_of hblk j ?_
    have h2 : (cur.toList.take ((1 + n2) * 1))[j]? = some (.string s) := by rw [htk]; exact h1
    rw [List.getElem?_take_of_lt (by rw [List.length_cons, HN2.out] at hjl; omega)] at h2
    rw [← Array.getElem?_toList]
    exact h2)
  clear hap hform hblk hcs htk yy
  go_wp2_with fail
  go_loopw [15] (LoopKc (1 + n2) w3) (fun iv _ => 1 + n2 - (intOf iv).toNat)
  case atStart => exact ⟨0, rfl, Nat.zero_le _, rfl⟩
  case round =>
    obtain ⟨i, rfl, hi, rfl⟩ := hrel
    have yy := cells6 HY4.out
    by_cases hlt : i < 1 + n2
    · have hil : i < (t :: ks).length := by rw [List.length_cons, HN2.out]; omega
      obtain ⟨s, hs⟩ : ∃ s, (t :: ks)[i] = s := ⟨_, rfl⟩
      have hss : s.size ≤ 4096 := by rw [← hs]; exact HKB.out _ (List.getElem_mem hil)
      have hc := HCELL.out i s (by rw [List.getElem?_eq_getElem hil, hs])
      clear hs
      go_wp2_with fail
      go_loopw [5] (LoopKc s.size w3) (fun iv _ => s.size - (intOf iv).toNat)
      case atStart => exact ⟨0, rfl, Nat.zero_le _, rfl⟩
      case round =>
        obtain ⟨j, rfl, hj, rfl⟩ := hrel
        by_cases hjl : j < s.size
        · obtain ⟨c, hcc⟩ : ∃ c, (s[j]'hjl).toNat = c := ⟨_, rfl⟩
          have hc256 : c < 256 := by rw [← hcc]; exact (s[j]'hjl).toNat_lt
          by_cases h32 : c < 32
          · go_wp2_with fail
            go_returns
            exact ⟨_, rfl, HB4.out⟩
          · by_cases h127 : c = 127
            · subst h127
              go_wp2_with fail
              go_returns
              exact ⟨_, rfl, HB4.out⟩
            · have h127b : ¬ (c : Int) = 127 := by omega
              have h127c : ((c : Int) == 127) = false := by simp; omega
              go_wp2_with fail
              try go_simp
              exact ⟨⟨j + 1, by push_cast; rfl, hjl, rfl⟩, by simp [intOf] <;> omega⟩
        · go_wp2_with fail
          try go_simp
          exact ⟨⟨i + 1, by push_cast; rfl, hlt, rfl⟩, by simp [intOf] <;> omega⟩
    · go_wp2_with fail
      go_loopw [6] (LoopBc n1 w3) (fun iv _ => n1 - (intOf iv).toNat)
      case atStart => exact ⟨0, rfl, Nat.zero_le _, Below.refl _ _⟩
      case round =>
        obtain ⟨i, rfl, hi, hb⟩ := hrel
        have HB5 := Lib.hid hb
        have HY5 := Lib.hid (keep hb HY4.out)
        have yy := cells6 HY5.out
        clear hb
        by_cases hlt : i < n1
        · (have hil : i < (ls).length := by rw [HN1.out]; exact hlt
           obtain ⟨b, o, rfl⟩ := HL1.out.addr (by omega)
           have HB05 := Lib.hid (HB4.out.trans (HB5.out.mono HB4.out.size))
           have hsame : Same S w wr := Same.of_below HB05.out HS.out
           obtain ⟨hSb, c0, c1, c2, c3, c4, c5, h6, hx⟩ := RL.at ls b o (RL.mono hsame (fun _ h => h) _ _ HL1.out) i hil
           have HC := Lib.hid (HIH1.out _ (List.getElem_mem hil) _ S wr hx (fun b h => Nat.lt_of_lt_of_le (HS.out b h) HB05.out.size))
           unfold Six at h6
           clear hx hSb hsame
           go_wp2_with fail
           refine HC.out.mono ?_
           rintro e w6 ⟨bb, rfl, hb6⟩
           have HB6 := Lib.hid (HB5.out.trans (hb6.mono HB5.out.size))
           clear hb6 yy h6
           cases bb with
           | true =>
             go_wp2_with fail
             go_returns
             exact ⟨_, rfl, HB4.out.trans (HB6.out.mono HB4.out.size)⟩
           | false =>
             go_wp2_with fail
             try go_simp
             exact ⟨⟨i + 1, by push_cast; rfl, hlt, HB6.out⟩, by simp [intOf] <;> omega⟩)
        · go_wp2_with fail
          go_loopw [7] (LoopBc n3 w3) (fun iv _ => n3 - (intOf iv).toNat)
          case atStart => exact ⟨0, rfl, Nat.zero_le _, HB5.out⟩
          case round =>
            clear HB5 HY5 yy hlt hi
            obtain ⟨i, rfl, hi, hb⟩ := hrel
            have HB5 := Lib.hid hb
            have HY5 := Lib.hid (keep hb HY4.out)
            have yy := cells6 HY5.out
            clear hb
            by_cases hlt : i < n3
            · (have hil : i < (vs).length := by rw [HN3.out]; exact hlt
               obtain ⟨b, o, rfl⟩ := HL2.out.addr (by omega)
               have HB05 := Lib.hid (HB4.out.trans (HB5.out.mono HB4.out.size))
               have hsame : Same S w wr := Same.of_below HB05.out HS.out
               obtain ⟨hSb, c0, c1, c2, c3, c4, c5, h6, hx⟩ := RL.at vs b o (RL.mono hsame (fun _ h => h) _ _ HL2.out) i hil
               have HC := Lib.hid (HIH2.out _ (List.getElem_mem hil) _ S wr hx (fun b h => Nat.lt_of_lt_of_le (HS.out b h) HB05.out.size))
               unfold Six at h6
               clear hx hSb hsame
               go_wp2_with fail
               refine HC.out.mono ?_
               rintro e w6 ⟨bb, rfl, hb6⟩
               have HB6 := Lib.hid (HB5.out.trans (hb6.mono HB5.out.size))
               clear hb6 yy h6
               cases bb with
               | true =>
                 go_wp2_with fail
                 go_returns
                 exact ⟨_, rfl, HB4.out.trans (HB6.out.mono HB4.out.size)⟩
               | false =>
                 go_wp2_with fail
                 try go_simp
                 exact ⟨⟨i + 1, by push_cast; rfl, hlt, HB6.out⟩, by simp [intOf] <;> omega⟩)
            · go_wp2_with fail
              go_returns
              exact ⟨_, rfl, HB4.out.trans (HB5.out.mono HB4.out.size)⟩
theorem control_good : ∀ (m : Nat) (x : V), x.size ≤ m → x.size ≤ 400 → Va.Good x → CtlW x := by
  intro m
  induction m with
  | zero => intro x h; have := size_pos x; omega
  | succ m ih =>
    intro x h h4 hg
    cases x with
    | mk k hh t ls ks vs =>
    have hsz := h
    have hs4 := h4
    rw [V.size] at hsz hs4
    have hg' := hg
    rw [Va.Good] at hg'
    exact control_step k hh t ls ks vs hg h4
      (fun x hx => ih x (by have := size_mem hx; omega) (by have := size_mem hx; omega) (hg'.2.1.mem x hx))
      (fun x hx => ih x (by have := size_mem hx; omega) (by have := size_mem hx; omega) (hg'.2.2.2.mem x hx))
end Go.Proofs.YtgjmgneppecfgaaGreatDoor.Fo
namespace Go.Proofs.YtgjmgneppecfgaaGreatDoor.Fo
open Go.RowKit Go.Proofs.YtgjmgneppecfgaaGreatDoor.Va Go.Proofs.YtgjmgneppecfgaaGreatDoor.Ba Go.Proofs.YtgjmgneppecfgaaGreatDoor.Ma Go.Proofs.YtgjmgneppecfgaaGreatDoor.Pa
set_option linter.unusedVariables false
set_option linter.unusedSimpArgs false

theorem cw_str (t : ByteArray) : CW (strV t) := fun v1 v2 S w h1 h2 hS => by
  obtain ⟨la, lc, ka, kc, va, vc, rfl⟩ := rv_str_inv h1
  obtain ⟨la', lc', ka', kc', va', vc', rfl⟩ := rv_str_inv h2
  apply cmp_4
set_option maxHeartbeats 8000000 in
set_option maxRecDepth 100000 in
theorem formatted_any (nm : ByteArray) (P : ByteArray → Prop) (E : Prop) (x : V) (hx : Va.Good x) (hsz : x.size ≤ 400) (v : Value) (S : Nat → Prop) (w : World) (hv : RV w S x v) (hS : ∀ b, S b → b < w.heap.size)
    (HF : ∀ w1, Below w.heap.size w w1 → Calls Tryz.prog 60 #[.string nm, v] w1 (FmtEnd P E w1))
    (k0 : Int) (t0 : ByteArray) (la0 ka0 va0 : Option Addr) (lc0 kc0 vc0 : Nat) (r0 : Int) (hr : (k0 = 4 ∧ r0 = 0 ∧ P t0) ∨ (E ∧ k0 = 0 ∧ r0 = 1)) :
    Calls Tryz.prog 28 #[.agg #[.int .i64 k0, .int .i64 0, .string t0, .slice la0 0 lc0, .slice ka0 0 kc0, .slice va0 0 vc0, .int .i64 r0], .string nm, v] w (Ret (.bool true) w) := by
  have HCTL := Lib.hid (fun (w1 : World) (hb : Below w.heap.size w w1) => control_good 400 x hsz hsz hx v S w1 (RV.mono (Same.of_below hb hS) (fun _ h => h) _ _ hv) (fun b h => Nat.lt_of_lt_of_le (hS b h) hb.size))
  have HFF := Lib.hid HF
  obtain ⟨k, h, t, la, n1, lc, ka, n2, kc, va, n3, vc, rfl⟩ : ∃ (k h : Int) (t : ByteArray) (la : Option Addr) (n1 lc : Nat) (ka : Option Addr) (n2 kc : Nat) (va : Option Addr) (n3 vc : Nat), v = .agg #[.int .i64 k, .int .i64 h, .string t, .slice la n1 lc, .slice ka n2 kc, .slice va n3 vc] := by
    cases x with
    | mk k h t ls ks vs =>
    rw [RV] at hv
    obtain ⟨la, lc, ka, kc, va, vc, e, _⟩ := hv
    exact ⟨_, _, _, _, _, _, _, _, _, _, _, _, e⟩
  clear hx hsz hv hS HF
  go_enter Tryz.func28, Tryz.ntmps28
  go_upto_region 1 with fail
  generalize hW : World.alloc (World.alloc w _) _ = W
  have b1 : Below w.heap.size w W := hW ▸ (by go_grown)
  have z : W.heap[w.heap.size + 1]? = some (.cells #[.int .i64 k, .int .i64 h, .string t, .slice la n1 lc, .slice ka n2 kc, .slice va n3 vc] 27 (0, 0)) := hW ▸ (by have := block_new (w.alloc (.cells #[.int .i64 k0, .int .i64 0, .string t0, .slice la0 0 lc0, .slice ka0 0 kc0, .slice va0 0 vc0, .int .i64 r0] 35)) #[.int .i64 k, .int .i64 h, .string t, .slice la n1 lc, .slice ka n2 kc, .slice va n3 vc] 27; rwa [World.size_alloc] at this)
  have y : W.heap[w.heap.size]? = some (.cells #[.int .i64 k0, .int .i64 0, .string t0, .slice la0 0 lc0, .slice ka0 0 kc0, .slice va0 0 vc0, .int .i64 r0] 35 (0, 0)) := hW ▸ block_past (block_new w _ _) _
  clear hW
  have HB := Lib.hid b1
  have HZ := Lib.hid y
  have HY := Lib.hid z
  have yy := cells6 z
  have HF1 := Lib.hid (HFF.out W b1)
  clear z y b1 HFF
  go_wp2_with fail
  refine HF1.out.mono ?_
  rintro e w2 ⟨s, how, rfl, hb2, hhow⟩
  have HB2 := Lib.hid (HB.out.trans (hb2.mono HB.out.size))
  have HZ2 := Lib.hid (keep hb2 HZ.out)
  have HY2 := Lib.hid (keep hb2 HY.out)
  have HCTL2 := Lib.hid (HCTL.out w2 HB2.out)
  have HTOLD : Hid (∀ w7, Calls Tryz.prog 11 #[.agg #[.int .i64 k0, .int .i64 0, .string t0, .slice la0 0 lc0, .slice ka0 0 kc0, .slice va0 0 vc0, .int .i64 r0], .agg #[.int .i64 4, .int .i64 0, .string s, .slice none 0 0, .slice none 0 0, .slice none 0 0], .int .i64 how] w7 (Ret (.bool true) w7)) := Lib.hid (fun w7 => by
    rcases hhow with rfl | ⟨rfl, hE, hP⟩ | ⟨rfl, hP⟩
    · exact told_silent _ _ _ _ _ _ _ _ _ _ _ _ _ _ _ _ _ _ _ _ _ _ _ _ _ _
    · rcases hr with ⟨rfl, rfl, hp⟩ | ⟨he, _⟩
      · obtain rfl := hP _ hp
        exact told_fine _ _ _ _ _ _ _ _ _ _ _ _ _ _ _ _ _ _ _ _ _ _ _ _ _ (strV t0) (cw_str t0) (fun _ => False) (rv_str _ _ _ _ _ _ _ _ _) (rv_str _ _ _ _ _ _ _ _ _) (fun b h => h.elim)
      · exact absurd he hE
    · rcases hr with ⟨rfl, rfl, hp⟩ | ⟨he, rfl, rfl⟩
      · exact absurd hp (hP _)
      · exact told_error _ _ _ _ _ _ _ _ _ _ _ _ _ _ _ _ _ _ _ _ _ _ _ _ _)
  clear hb2 yy hhow HF1
  have yy := cells6 HY2.out
  by_cases hk4 : k = 4
  · subst hk4
    have HB3 := HB2
    have HZ3 := HZ2
    obtain ⟨w3, hw3⟩ : ∃ w3, w2 = w3 := ⟨_, rfl⟩
    rw [hw3] at HB3 HZ3 yy ⊢
    clear hw3
    go_upto_region 4 with fail
    (refine wp_region_D (fun w' => w'.heap[w.heap.size]? = some (.cells #[.int .i64 k0, .int .i64 0, .string t0, .slice la0 0 lc0, .slice ka0 0 kc0, .slice va0 0 vc0, .int .i64 r0] 35 (0, 0))) [4, 5] (by kernel_rfl) ?_
     generalize hWd : World.drew w3 = W5
     have hS3 : W5.heap[w.heap.size]? = some (.cells #[.int .i64 k0, .int .i64 0, .string t0, .slice la0 0 lc0, .slice ka0 0 kc0, .slice va0 0 vc0, .int .i64 r0] 35 (0, 0)) := hWd ▸ HZ3.out
     have HB5 : Hid (Below w.heap.size w W5) := Lib.hid (hWd ▸ HB3.out.drew)
     clear hWd
     (refine wpAnyD_take (i := 0) (v := ?_) [4, 5] [4, 5] rfl (by kernel_rfl) (by kernel_rfl) (by kernel_rfl) (fun _ _ _ h => h) (by kernel_rfl) (by kernel_rfl) (by kernel_rfl) (Or.inl ⟨?_, ?_⟩) hS3 ?_
      rotate_left
      focus rfl
      focus (intro w' hw'; have hw1 := cells7 hw'; clear hw'; go_simp; with_reducible rfl)
      try go_simp)
     (refine wpAnyD_take (i := 1) (v := ?_) [2, 4, 5] [4, 5] rfl (by kernel_rfl) (by kernel_rfl) (by kernel_rfl) (fun _ _ _ h => h) (by kernel_rfl) (by kernel_rfl) (by kernel_rfl) (Or.inl ⟨?_, ?_⟩) hS3 ?_
      rotate_left
      focus rfl
      focus (intro w' hw'; have hw1 := cells7 hw'; clear hw'; go_simp; with_reducible rfl)
      try go_simp)
     (refine wpAnyD_take (i := 3) (v := ?_) [4, 5] [4, 5] rfl (by kernel_rfl) (by kernel_rfl) (by kernel_rfl) (fun _ _ _ h => h) (by kernel_rfl) (by kernel_rfl) (by kernel_rfl) (Or.inl ⟨?_, ?_⟩) hS3 ?_
      rotate_left
      focus rfl
      focus (intro w' hw'; have hw1 := cells7 hw'; clear hw'; go_simp; with_reducible rfl)
      try go_simp)
     refine wpAnyD_ready (rs := [2]) (by kernel_rfl) (by simp) ?_
     refine AllReadyD.cons rfl (fun K hK => ?_) AllReadyD.nil
     go_simp
     refine (mkStr_any s W5).mono ?_
     rintro e w7 ⟨rfl, hb7⟩
     unfold flat
     have B7 := Lib.hid (HB5.out.trans (hb7.mono HB5.out.size))
     refine hK.out _ _ (fun _ => keep hb7 hS3) ?_
     clear hK K hb7
     try go_simp
     refine wpAnyD_ready (rs := [4]) (by kernel_rfl) (by simp) ?_
     refine AllReadyD.cons rfl (fun K hK => ?_) AllReadyD.nil
     go_simp
     refine (HTOLD.out w7).mono ?_
     rintro e w8 ⟨rfl, hb8⟩
     have B8 := Lib.hid (B7.out.trans (hb8.mono B7.out.size))
     refine hK.out _ _ (fun h => absurd h (by decide)) ?_
     clear hK K hb8
     try go_simp
     refine wpAnyD_ready (rs := [5]) (by kernel_rfl) (by simp) ?_
     refine AllReadyD.cons rfl (fun K hK => ?_) AllReadyD.nil
     go_simp
     refine hK.out _ _ (fun h => absurd h (by decide)) ?_
     clear hK K
     try go_simp
     refine wpAnyD_done (by kernel_rfl) ?_ _
     clear hS3
     go_wp2_with fail
     go_returns
     exact ⟨rfl, B8.out⟩)
  · have q4 : ¬ k = 4 := hk4
    have q4b : (k == 4) = false := by simp; exact hk4
    go_wp2_with fail
    refine HCTL2.out.mono ?_
    rintro e w3 ⟨bb, rfl, hb3⟩
    have HB3 := Lib.hid (HB2.out.trans (hb3.mono HB2.out.size))
    have HZ3 := Lib.hid (keep hb3 HZ2.out)
    clear hb3 yy
    cases bb with
    | false =>
      go_upto_region 4 with fail
      (refine wp_region_D (fun w' => w'.heap[w.heap.size]? = some (.cells #[.int .i64 k0, .int .i64 0, .string t0, .slice la0 0 lc0, .slice ka0 0 kc0, .slice va0 0 vc0, .int .i64 r0] 35 (0, 0))) [4, 5] (by kernel_rfl) ?_
       generalize hWd : World.drew w3 = W5
       have hS3 : W5.heap[w.heap.size]? = some (.cells #[.int .i64 k0, .int .i64 0, .string t0, .slice la0 0 lc0, .slice ka0 0 kc0, .slice va0 0 vc0, .int .i64 r0] 35 (0, 0)) := hWd ▸ HZ3.out
       have HB5 : Hid (Below w.heap.size w W5) := Lib.hid (hWd ▸ HB3.out.drew)
       clear hWd
       (refine wpAnyD_take (i := 0) (v := ?_) [4, 5] [4, 5] rfl (by kernel_rfl) (by kernel_rfl) (by kernel_rfl) (fun _ _ _ h => h) (by kernel_rfl) (by kernel_rfl) (by kernel_rfl) (Or.inl ⟨?_, ?_⟩) hS3 ?_
        rotate_left
        focus rfl
        focus (intro w' hw'; have hw1 := cells7 hw'; clear hw'; go_simp; with_reducible rfl)
        try go_simp)
       (refine wpAnyD_take (i := 1) (v := ?_) [2, 4, 5] [4, 5] rfl (by kernel_rfl) (by kernel_rfl) (by kernel_rfl) (fun _ _ _ h => h) (by kernel_rfl) (by kernel_rfl) (by kernel_rfl) (Or.inl ⟨?_, ?_⟩) hS3 ?_
        rotate_left
        focus rfl
        focus (intro w' hw'; have hw1 := cells7 hw'; clear hw'; go_simp; with_reducible rfl)
        try go_simp)
       (refine wpAnyD_take (i := 3) (v := ?_) [4, 5] [4, 5] rfl (by kernel_rfl) (by kernel_rfl) (by kernel_rfl) (fun _ _ _ h => h) (by kernel_rfl) (by kernel_rfl) (by kernel_rfl) (Or.inl ⟨?_, ?_⟩) hS3 ?_
        rotate_left
        focus rfl
        focus (intro w' hw'; have hw1 := cells7 hw'; clear hw'; go_simp; with_reducible rfl)
        try go_simp)
       refine wpAnyD_ready (rs := [2]) (by kernel_rfl) (by simp) ?_
       refine AllReadyD.cons rfl (fun K hK => ?_) AllReadyD.nil
       go_simp
       refine (mkStr_any s W5).mono ?_
       rintro e w7 ⟨rfl, hb7⟩
       unfold flat
       have B7 := Lib.hid (HB5.out.trans (hb7.mono HB5.out.size))
       refine hK.out _ _ (fun _ => keep hb7 hS3) ?_
       clear hK K hb7
       try go_simp
       refine wpAnyD_ready (rs := [4]) (by kernel_rfl) (by simp) ?_
       refine AllReadyD.cons rfl (fun K hK => ?_) AllReadyD.nil
       go_simp
       refine (HTOLD.out w7).mono ?_
       rintro e w8 ⟨rfl, hb8⟩
       have B8 := Lib.hid (B7.out.trans (hb8.mono B7.out.size))
       refine hK.out _ _ (fun h => absurd h (by decide)) ?_
       clear hK K hb8
       try go_simp
       refine wpAnyD_ready (rs := [5]) (by kernel_rfl) (by simp) ?_
       refine AllReadyD.cons rfl (fun K hK => ?_) AllReadyD.nil
       go_simp
       refine hK.out _ _ (fun h => absurd h (by decide)) ?_
       clear hK K
       try go_simp
       refine wpAnyD_done (by kernel_rfl) ?_ _
       clear hS3
       go_wp2_with fail
       go_returns
       exact ⟨rfl, B8.out⟩)
    | true =>
      by_cases e1 : nm = ⟨#[99, 115, 118]⟩
      · have g1 : (nm.toList == [99, 115, 118]) = true := by simpa using beq_yes e1
        clear e1
        go_upto_region 4 with fail
        (refine wp_region_D (fun w' => w'.heap[w.heap.size]? = some (.cells #[.int .i64 k0, .int .i64 0, .string t0, .slice la0 0 lc0, .slice ka0 0 kc0, .slice va0 0 vc0, .int .i64 r0] 35 (0, 0))) [4, 5] (by kernel_rfl) ?_
         generalize hWd : World.drew w3 = W5
         have hS3 : W5.heap[w.heap.size]? = some (.cells #[.int .i64 k0, .int .i64 0, .string t0, .slice la0 0 lc0, .slice ka0 0 kc0, .slice va0 0 vc0, .int .i64 r0] 35 (0, 0)) := hWd ▸ HZ3.out
         have HB5 : Hid (Below w.heap.size w W5) := Lib.hid (hWd ▸ HB3.out.drew)
         clear hWd
         (refine wpAnyD_take (i := 0) (v := ?_) [4, 5] [4, 5] rfl (by kernel_rfl) (by kernel_rfl) (by kernel_rfl) (fun _ _ _ h => h) (by kernel_rfl) (by kernel_rfl) (by kernel_rfl) (Or.inl ⟨?_, ?_⟩) hS3 ?_
          rotate_left
          focus rfl
          focus (intro w' hw'; have hw1 := cells7 hw'; clear hw'; go_simp; with_reducible rfl)
          try go_simp)
         (refine wpAnyD_take (i := 1) (v := ?_) [2, 4, 5] [4, 5] rfl (by kernel_rfl) (by kernel_rfl) (by kernel_rfl) (fun _ _ _ h => h) (by kernel_rfl) (by kernel_rfl) (by kernel_rfl) (Or.inl ⟨?_, ?_⟩) hS3 ?_
          rotate_left
          focus rfl
          focus (intro w' hw'; have hw1 := cells7 hw'; clear hw'; go_simp; with_reducible rfl)
          try go_simp)
         (refine wpAnyD_take (i := 3) (v := ?_) [4, 5] [4, 5] rfl (by kernel_rfl) (by kernel_rfl) (by kernel_rfl) (fun _ _ _ h => h) (by kernel_rfl) (by kernel_rfl) (by kernel_rfl) (Or.inl ⟨?_, ?_⟩) hS3 ?_
          rotate_left
          focus rfl
          focus (intro w' hw'; have hw1 := cells7 hw'; clear hw'; go_simp; with_reducible rfl)
          try go_simp)
         refine wpAnyD_ready (rs := [2]) (by kernel_rfl) (by simp) ?_
         refine AllReadyD.cons rfl (fun K hK => ?_) AllReadyD.nil
         go_simp
         refine (mkStr_any s W5).mono ?_
         rintro e w7 ⟨rfl, hb7⟩
         unfold flat
         have B7 := Lib.hid (HB5.out.trans (hb7.mono HB5.out.size))
         refine hK.out _ _ (fun _ => keep hb7 hS3) ?_
         clear hK K hb7
         try go_simp
         refine wpAnyD_ready (rs := [4]) (by kernel_rfl) (by simp) ?_
         refine AllReadyD.cons rfl (fun K hK => ?_) AllReadyD.nil
         go_simp
         refine (HTOLD.out w7).mono ?_
         rintro e w8 ⟨rfl, hb8⟩
         have B8 := Lib.hid (B7.out.trans (hb8.mono B7.out.size))
         refine hK.out _ _ (fun h => absurd h (by decide)) ?_
         clear hK K hb8
         try go_simp
         refine wpAnyD_ready (rs := [5]) (by kernel_rfl) (by simp) ?_
         refine AllReadyD.cons rfl (fun K hK => ?_) AllReadyD.nil
         go_simp
         refine hK.out _ _ (fun h => absurd h (by decide)) ?_
         clear hK K
         try go_simp
         refine wpAnyD_done (by kernel_rfl) ?_ _
         clear hS3
         go_wp2_with fail
         go_returns
         exact ⟨rfl, B8.out⟩)
      · have g1 : (nm.toList == [99, 115, 118]) = false := by simpa using beq_no e1
        by_cases e2 : nm = ⟨#[116, 115, 118]⟩
        · have g2 : (nm.toList == [116, 115, 118]) = true := by simpa using beq_yes e2
          clear e1 e2
          go_upto_region 4 with fail
          (refine wp_region_D (fun w' => w'.heap[w.heap.size]? = some (.cells #[.int .i64 k0, .int .i64 0, .string t0, .slice la0 0 lc0, .slice ka0 0 kc0, .slice va0 0 vc0, .int .i64 r0] 35 (0, 0))) [4, 5] (by kernel_rfl) ?_
           generalize hWd : World.drew w3 = W5
           have hS3 : W5.heap[w.heap.size]? = some (.cells #[.int .i64 k0, .int .i64 0, .string t0, .slice la0 0 lc0, .slice ka0 0 kc0, .slice va0 0 vc0, .int .i64 r0] 35 (0, 0)) := hWd ▸ HZ3.out
           have HB5 : Hid (Below w.heap.size w W5) := Lib.hid (hWd ▸ HB3.out.drew)
           clear hWd
           (refine wpAnyD_take (i := 0) (v := ?_) [4, 5] [4, 5] rfl (by kernel_rfl) (by kernel_rfl) (by kernel_rfl) (fun _ _ _ h => h) (by kernel_rfl) (by kernel_rfl) (by kernel_rfl) (Or.inl ⟨?_, ?_⟩) hS3 ?_
            rotate_left
            focus rfl
            focus (intro w' hw'; have hw1 := cells7 hw'; clear hw'; go_simp; with_reducible rfl)
            try go_simp)
           (refine wpAnyD_take (i := 1) (v := ?_) [2, 4, 5] [4, 5] rfl (by kernel_rfl) (by kernel_rfl) (by kernel_rfl) (fun _ _ _ h => h) (by kernel_rfl) (by kernel_rfl) (by kernel_rfl) (Or.inl ⟨?_, ?_⟩) hS3 ?_
            rotate_left
            focus rfl
            focus (intro w' hw'; have hw1 := cells7 hw'; clear hw'; go_simp; with_reducible rfl)
            try go_simp)
           (refine wpAnyD_take (i := 3) (v := ?_) [4, 5] [4, 5] rfl (by kernel_rfl) (by kernel_rfl) (by kernel_rfl) (fun _ _ _ h => h) (by kernel_rfl) (by kernel_rfl) (by kernel_rfl) (Or.inl ⟨?_, ?_⟩) hS3 ?_
            rotate_left
            focus rfl
            focus (intro w' hw'; have hw1 := cells7 hw'; clear hw'; go_simp; with_reducible rfl)
            try go_simp)
           refine wpAnyD_ready (rs := [2]) (by kernel_rfl) (by simp) ?_
           refine AllReadyD.cons rfl (fun K hK => ?_) AllReadyD.nil
           go_simp
           refine (mkStr_any s W5).mono ?_
           rintro e w7 ⟨rfl, hb7⟩
           unfold flat
           have B7 := Lib.hid (HB5.out.trans (hb7.mono HB5.out.size))
           refine hK.out _ _ (fun _ => keep hb7 hS3) ?_
           clear hK K hb7
           try go_simp
           refine wpAnyD_ready (rs := [4]) (by kernel_rfl) (by simp) ?_
           refine AllReadyD.cons rfl (fun K hK => ?_) AllReadyD.nil
           go_simp
           refine (HTOLD.out w7).mono ?_
           rintro e w8 ⟨rfl, hb8⟩
           have B8 := Lib.hid (B7.out.trans (hb8.mono B7.out.size))
           refine hK.out _ _ (fun h => absurd h (by decide)) ?_
           clear hK K hb8
           try go_simp
           refine wpAnyD_ready (rs := [5]) (by kernel_rfl) (by simp) ?_
           refine AllReadyD.cons rfl (fun K hK => ?_) AllReadyD.nil
           go_simp
           refine hK.out _ _ (fun h => absurd h (by decide)) ?_
           clear hK K
           try go_simp
           refine wpAnyD_done (by kernel_rfl) ?_ _
           clear hS3
           go_wp2_with fail
           go_returns
           exact ⟨rfl, B8.out⟩)
        · have g2 : (nm.toList == [116, 115, 118]) = false := by simpa using beq_no e2
          by_cases e3 : nm = ⟨#[115, 104]⟩
          · have g3 : (nm.toList == [115, 104]) = true := by simpa using beq_yes e3
            clear e1 e2 e3
            go_upto_region 4 with fail
            (refine wp_region_D (fun w' => w'.heap[w.heap.size]? = some (.cells #[.int .i64 k0, .int .i64 0, .string t0, .slice la0 0 lc0, .slice ka0 0 kc0, .slice va0 0 vc0, .int .i64 r0] 35 (0, 0))) [4, 5] (by kernel_rfl) ?_
             generalize hWd : World.drew w3 = W5
             have hS3 : W5.heap[w.heap.size]? = some (.cells #[.int .i64 k0, .int .i64 0, .string t0, .slice la0 0 lc0, .slice ka0 0 kc0, .slice va0 0 vc0, .int .i64 r0] 35 (0, 0)) := hWd ▸ HZ3.out
             have HB5 : Hid (Below w.heap.size w W5) := Lib.hid (hWd ▸ HB3.out.drew)
             clear hWd
             (refine wpAnyD_take (i := 0) (v := ?_) [4, 5] [4, 5] rfl (by kernel_rfl) (by kernel_rfl) (by kernel_rfl) (fun _ _ _ h => h) (by kernel_rfl) (by kernel_rfl) (by kernel_rfl) (Or.inl ⟨?_, ?_⟩) hS3 ?_
              rotate_left
              focus rfl
              focus (intro w' hw'; have hw1 := cells7 hw'; clear hw'; go_simp; with_reducible rfl)
              try go_simp)
             (refine wpAnyD_take (i := 1) (v := ?_) [2, 4, 5] [4, 5] rfl (by kernel_rfl) (by kernel_rfl) (by kernel_rfl) (fun _ _ _ h => h) (by kernel_rfl) (by kernel_rfl) (by kernel_rfl) (Or.inl ⟨?_, ?_⟩) hS3 ?_
              rotate_left
              focus rfl
              focus (intro w' hw'; have hw1 := cells7 hw'; clear hw'; go_simp; with_reducible rfl)
              try go_simp)
             (refine wpAnyD_take (i := 3) (v := ?_) [4, 5] [4, 5] rfl (by kernel_rfl) (by kernel_rfl) (by kernel_rfl) (fun _ _ _ h => h) (by kernel_rfl) (by kernel_rfl) (by kernel_rfl) (Or.inl ⟨?_, ?_⟩) hS3 ?_
              rotate_left
              focus rfl
              focus (intro w' hw'; have hw1 := cells7 hw'; clear hw'; go_simp; with_reducible rfl)
              try go_simp)
             refine wpAnyD_ready (rs := [2]) (by kernel_rfl) (by simp) ?_
             refine AllReadyD.cons rfl (fun K hK => ?_) AllReadyD.nil
             go_simp
             refine (mkStr_any s W5).mono ?_
             rintro e w7 ⟨rfl, hb7⟩
             unfold flat
             have B7 := Lib.hid (HB5.out.trans (hb7.mono HB5.out.size))
             refine hK.out _ _ (fun _ => keep hb7 hS3) ?_
             clear hK K hb7
             try go_simp
             refine wpAnyD_ready (rs := [4]) (by kernel_rfl) (by simp) ?_
             refine AllReadyD.cons rfl (fun K hK => ?_) AllReadyD.nil
             go_simp
             refine (HTOLD.out w7).mono ?_
             rintro e w8 ⟨rfl, hb8⟩
             have B8 := Lib.hid (B7.out.trans (hb8.mono B7.out.size))
             refine hK.out _ _ (fun h => absurd h (by decide)) ?_
             clear hK K hb8
             try go_simp
             refine wpAnyD_ready (rs := [5]) (by kernel_rfl) (by simp) ?_
             refine AllReadyD.cons rfl (fun K hK => ?_) AllReadyD.nil
             go_simp
             refine hK.out _ _ (fun h => absurd h (by decide)) ?_
             clear hK K
             try go_simp
             refine wpAnyD_done (by kernel_rfl) ?_ _
             clear hS3
             go_wp2_with fail
             go_returns
             exact ⟨rfl, B8.out⟩)
          · have g3 : (nm.toList == [115, 104]) = false := by simpa using beq_no e3
            clear e1 e2 e3
            go_wp2_with fail
            go_returns
            exact ⟨rfl, HB3.out⟩
end Go.Proofs.YtgjmgneppecfgaaGreatDoor.Fo
