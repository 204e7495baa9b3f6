/-
  THE WALK of With: a map with a key more (or with another value of it).
-/
import Derived.Test.YtgjmgneppecfgaaGreatDoorQ10
set_option linter.unusedVariables false
set_option linter.unusedSimpArgs false
namespace Go.Proofs.YtgjmgneppecfgaaGreatDoor.Pa
open Go.RowKit Go.Proofs.YtgjmgneppecfgaaGreatDoor.Va Go.Proofs.YtgjmgneppecfgaaGreatDoor.Ba Go.Proofs.YtgjmgneppecfgaaGreatDoor.Ma
set_option linter.unusedVariables false
set_option linter.unusedSimpArgs false

theorem elemS : Tryz.prog.elem 25 = 9 := by kernel_rfl
theorem elemV : Tryz.prog.elem 22 = 27 := by kernel_rfl
theorem sl1 : Tryz.prog.underlying 25 = some (.slice (Tryz.prog.elem 25)) := by rw [elemS]; exact Tryz.underlying25
theorem sl2 : Tryz.prog.underlying 22 = some (.slice (Tryz.prog.elem 22)) := by rw [elemV]; exact Tryz.underlying22
theorem sz1 (W : World) : (sizeOf (Tryz.prog.elem 25)).run Tryz.prog W = .ok 1 W := by rw [elemS]; exact Tryz.sizeOf9 W
theorem sz2 (W : World) : (sizeOf (Tryz.prog.elem 22)).run Tryz.prog W = .ok 6 W := by rw [elemV]; exact Tryz.sizeOf27 W

/-- three blocks stand -/
def Three (b1 b2 b3 : Nat) (o1 o2 o3 : Obj) (w : World) : Prop := w.heap[b1]? = some o1 ∧ w.heap[b2]? = some o2 ∧ w.heap[b3]? = some o3
theorem Three.keep {b1 b2 b3 B : Nat} {o1 o2 o3 : Obj} {w w' : World} (h : Three b1 b2 b3 o1 o2 o3 w) (hb : Below B w w') (h1 : b1 < B) (h2 : b2 < B) (h3 : b3 < B) : Three b1 b2 b3 o1 o2 o3 w' :=
  ⟨(hb.block b1 h1).trans h.1, (hb.block b2 h2).trans h.2.1, (hb.block b3 h3).trans h.2.2⟩
def MapV (kv vv : Value) : Value := .agg #[.int .i64 6, .int .i64 0, .string ⟨#[]⟩, .slice none 0 0, kv, vv]
def WithEnd (S : Nat → Prop) (ks : List ByteArray) (vs : List V) (key : ByteArray) (y : V) (w : World) (e : Ending) (w' : World) : Prop :=
  ∃ (i i' : Nat) (kv vv : Value), e = .returned (MapV kv vv) ∧ Below w.heap.size w w' ∧ MapR w' (fun r => S r ∨ w.heap.size ≤ r) (ks.take i ++ key :: ks.drop i') (vs.take i ++ y :: vs.drop i') kv vv ∧ ((∀ k ∈ ks, lessB k key = true) → i = ks.length ∧ i' = ks.length) ∧ i' ≤ i + 1 ∧ i ≤ ks.length ∧ i ≤ i' ∧ i' ≤ ks.length
/-- behind the keys' first part -/
def Aft3 (w2 : World) (n : Nat) (A : List Value) (W : World) : Prop :=
  ∃ kv, Below w2.heap.size w2 W ∧ w2.heap.size + 1 ≤ W.heap.size ∧ W.heap[w2.heap.size]? = some (.cells #[.int .i64 6, .int .i64 0, .string ⟨#[]⟩, .slice none 0 0, kv, .slice none 0 0] 27 (0, 0)) ∧ W.ownsRow (w2.heap.size + 1) 9 1 kv n A
def Aft4 (w2 : World) (n m : Nat) (A B : List Value) (W : World) : Prop :=
  ∃ kv vv, Below w2.heap.size w2 W ∧ w2.heap.size + 1 ≤ W.heap.size ∧ W.heap[w2.heap.size]? = some (.cells #[.int .i64 6, .int .i64 0, .string ⟨#[]⟩, .slice none 0 0, kv, vv] 27 (0, 0)) ∧ W.ownsRow (w2.heap.size + 1) 9 1 kv n A ∧ W.ownsRow (w2.heap.size + 1) 27 6 vv m B ∧ ∀ b, kv.ownBlock = some b → vv.ownBlock ≠ some b
theorem app_below {w w' a : World} {base size n m B : Nat} {e : TypeId} {v v' : Value} {xs zs : List Value} (h : AppA w base e size v n m xs v' w') (hown : w.ownsRow base e size v n zs) (hB : Below B a w) (hb : B ≤ base) (hw : B ≤ w.heap.size) : Below B a w' :=
  Below.grown hB h.grown hw (fun k hk => Nat.le_trans hb (hown.lt k hk).1)
theorem owns_set {w : World} {base size n q j : Nat} {e : TypeId} {v u : Value} {xs : List Value} (h : w.ownsRow base e size v n xs) (hq : q < base) : (w.setCell ⟨q, j, none⟩ u).ownsRow base e size v n xs :=
  ownsRow_same h fun b hb => set_other j u (by have := (h.lt b hb.symm).1; omega)
theorem owns_base {w : World} {base base' size n : Nat} {e : TypeId} {v : Value} {xs : List Value} (h : w.ownsRow base e size v n xs) (hb : base' ≤ base) : w.ownsRow base' e size v n xs := by
  refine ⟨h.1, ?_⟩
  rcases h.2 with h | ⟨g, cap, cur, e1, e2, rest⟩
  · exact .inl h
  · exact .inr ⟨g, cap, cur, e1, by omega, rest⟩
/-- the cell of a literal of one element -/
theorem src_new (w : World) (cs : Array Value) (t : TypeId) : Src (w.alloc (.cells cs t)) (.slice (some ⟨w.heap.size, 0, none⟩) 1 1) 1 cs.toList := .inr ⟨_, _, rfl, cell_new w cs t⟩
theorem src_keep {w w' : World} {q : Nat} {news : List Value} (hn : ∀ j u, news[j]? = some u → w.cell? ((⟨q, 0, none⟩ : Addr).add j) = some u) (h : w'.heap[q]? = w.heap[q]?) : Src w' (.slice (some ⟨q, 0, none⟩) 1 1) 1 news :=
  .inr ⟨_, _, rfl, fun j u hj => by
    have := hn j u hj
    rw [Lib.addr_add, Nat.zero_add] at this ⊢
    exact (World.cell?_of_block (w := w) h).trans this⟩
theorem ones_str {l : List ByteArray} : ∀ u ∈ l.map Value.string, u.oneCell' = true := by
  intro u hu
  obtain ⟨s, _, rfl⟩ := List.mem_map.1 hu
  rfl
theorem aft3_mk {w2 W4 Wc : World} {n : Nat} {A : List Value} {v2 u : Value} (h4 : Below w2.heap.size w2 W4) (h5 : Below (w2.heap.size + 1) W4 Wc) (ho : W4.heap.size = w2.heap.size + 1)
    (hc : Wc.heap[w2.heap.size]? = some (.cells #[.int .i64 6, .int .i64 0, .string ⟨#[]⟩, .slice none 0 0, u, .slice none 0 0] 27 (0, 0))) (h2 : Wc.ownsRow (w2.heap.size + 1) 9 1 v2 n A) : Aft3 w2 n A (Wc.setCell ⟨w2.heap.size, 4, none⟩ v2) := by
  have hs := h5.size
  refine ⟨v2, (h4.trans (h5.mono (Nat.le_succ _))).setCell (Nat.le_refl _) _, by rw [World.size_setCell]; omega, set_block hc 4 v2, owns_set h2 (Nat.lt_succ_self _)⟩
theorem aft4_mk {w2 W5 Wc : World} {n m : Nat} {A B : List Value} {kv v2 u : Value} (h4 : Below w2.heap.size w2 W5) (h5 : Below W5.heap.size W5 Wc) (hz : w2.heap.size + 1 ≤ W5.heap.size)
    (hc : Wc.heap[w2.heap.size]? = some (.cells #[.int .i64 6, .int .i64 0, .string ⟨#[]⟩, .slice none 0 0, kv, u] 27 (0, 0))) (hk : W5.ownsRow (w2.heap.size + 1) 9 1 kv n A) (h2 : Wc.ownsRow W5.heap.size 27 6 v2 m B) : Aft4 w2 n m A B (Wc.setCell ⟨w2.heap.size, 5, none⟩ v2) := by
  have hs := h5.size
  refine ⟨kv, v2, (h4.trans (h5.mono (by omega))).setCell (Nat.le_refl _) _, by rw [World.size_setCell]; omega, set_block hc 5 v2, ?_, owns_set (owns_base h2 (by omega)) (Nat.lt_succ_self _), fun b hb hv => ?_⟩
  · exact owns_set (ownsRow_same hk fun b hb => h5.block b (hk.lt b hb.symm).2) (Nat.lt_succ_self _)
  · have h1 := hk.lt b hb
    have h2' := h2.lt b hv
    omega
theorem set6_block {X : World} {q : Nat} {a0 a1 a2 a3 a4 a5 : Value} {t : TypeId} (h : X.heap[q]? = some (.cells #[a0, a1, a2, a3, a4, a5] t (0, 0))) (v0 v1 v2 v3 v4 v5 : Value) :
    ((((((X.setCell ⟨q, 0, none⟩ v0).setCell ⟨q, 1, none⟩ v1).setCell ⟨q, 2, none⟩ v2).setCell ⟨q, 3, none⟩ v3).setCell ⟨q, 4, none⟩ v4).setCell ⟨q, 5, none⟩ v5).heap[q]? = some (.cells #[v0, v1, v2, v3, v4, v5] t (0, 0)) :=
  set_block (set_block (set_block (set_block (set_block (set_block h 0 v0) 1 v1) 2 v2) 3 v3) 4 v4) 5 v5
theorem aft7_mk {w2 W Wc : World} {n m x : Nat} {A A' B : List Value} {kv vv v2 : Value} (hB : Below w2.heap.size w2 W) (hz : w2.heap.size + 1 ≤ W.heap.size)
    (hq : W.heap[w2.heap.size]? = some (.cells #[.int .i64 6, .int .i64 0, .string ⟨#[]⟩, .slice none 0 0, kv, vv] 27 (0, 0))) (hk : W.ownsRow (w2.heap.size + 1) 9 1 kv n A) (hv : W.ownsRow (w2.heap.size + 1) 27 6 vv m B)
    (hap : ∀ b, kv.ownBlock = some b → vv.ownBlock ≠ some b) (h : AppA W (w2.heap.size + 1) 9 1 kv n x A' v2 Wc) : Aft4 w2 (n + x) m A' B (Wc.setCell ⟨w2.heap.size, 4, none⟩ v2) := by
  have hs := h.grown.size
  refine ⟨v2, vv, ((app_below h hk hB (Nat.le_succ _) (by omega))).setCell (Nat.le_refl _) _, by rw [World.size_setCell]; omega, set_block ((h.grown.block _ (by omega) (fun e => by have := hk.lt _ e.symm; omega)).trans hq) 4 v2, owns_set h.owns (Nat.lt_succ_self _), ?_, fun b hb hb2 => ?_⟩
  · exact owns_set (ownsRow_same hv fun b hb => h.grown.block b (hv.lt b hb.symm).2 (fun e => hap b e.symm hb.symm)) (Nat.lt_succ_self _)
  · rcases h.wher with e | e
    · exact hap b (e ▸ hb) hb2
    · rw [e] at hb
      have := hv.lt b hb2
      cases hb
      omega
theorem aft8_mk {w2 W Wc : World} {n m x : Nat} {A B B' : List Value} {kv vv v2 : Value} (hB : Below w2.heap.size w2 W) (hz : w2.heap.size + 1 ≤ W.heap.size)
    (hq : W.heap[w2.heap.size]? = some (.cells #[.int .i64 6, .int .i64 0, .string ⟨#[]⟩, .slice none 0 0, kv, vv] 27 (0, 0))) (hk : W.ownsRow (w2.heap.size + 1) 9 1 kv n A) (hv : W.ownsRow (w2.heap.size + 1) 27 6 vv m B)
    (hap : ∀ b, kv.ownBlock = some b → vv.ownBlock ≠ some b) (h : AppA W (w2.heap.size + 1) 27 6 vv m x B' v2 Wc) : Aft4 w2 n (m + x) A B' (Wc.setCell ⟨w2.heap.size, 5, none⟩ v2) := by
  have hs := h.grown.size
  refine ⟨kv, v2, ((app_below h hv hB (Nat.le_succ _) (by omega))).setCell (Nat.le_refl _) _, by rw [World.size_setCell]; omega, set_block ((h.grown.block _ (by omega) (fun e => by have := hv.lt _ e.symm; omega)).trans hq) 5 v2, ?_, owns_set h.owns (Nat.lt_succ_self _), fun b hb hb2 => ?_⟩
  · exact owns_set (ownsRow_same hk fun b hb => h.grown.block b (hk.lt b hb.symm).2 (fun e => hap b hb.symm e.symm)) (Nat.lt_succ_self _)
  · rcases h.wher with e | e
    · exact hap b hb (e ▸ hb2)
    · rw [e] at hb2
      have := hk.lt b hb
      cases hb2
      omega
/-- the map that comes out -/
theorem with_done {S : Nat → Prop} {w w2 W : World} {ks : List ByteArray} {vs : List V} {key : ByteArray} {y : V} {cs : List Value} {c0 c1 c2 c3 c4 c5 kv vv : Value} {i i' n : Nat} (hn : ks.length = n) (hn2 : vs.length = n) (hS : ∀ b, S b → b < w.heap.size) (hBW : Below w.heap.size w W) (hw : w.heap.size ≤ w2.heap.size) (hi : i ≤ n) (hi' : i' ≤ n)
    (hk : W.ownsRow (w2.heap.size + 1) 9 1 kv (i + 1 + (n - i')) ((ks.map .string).take i ++ [.string key] ++ (ks.map .string).drop (i' * 1))) (hv : W.ownsRow (w2.heap.size + 1) 27 6 vv (i + 1 + (n - i')) (cs.take (i * 6) ++ [c0, c1, c2, c3, c4, c5] ++ cs.drop (i' * 6)))
    (hc : SixL w S vs cs) (hy : RV w S y (.agg #[c0, c1, c2, c3, c4, c5])) : MapR W (fun r => S r ∨ w2.heap.size + 1 ≤ r) (ks.take i ++ key :: ks.drop i') (vs.take i ++ y :: vs.drop i') kv vv := by
  have e1 : (ks.take i ++ key :: ks.drop i').length = i + 1 + (n - i') := by simp [hn]; omega
  have e2 : (vs.take i ++ y :: vs.drop i').length = i + 1 + (n - i') := by simp [hn2]; omega
  refine ⟨e1.trans e2.symm, ?_, cs.take (i * 6) ++ [c0, c1, c2, c3, c4, c5] ++ cs.drop (i' * 6), ?_, ?_⟩
  · have := RowR.of_owns (by omega) hk
    rw [e1]
    have e3 : (ks.take i ++ key :: ks.drop i').map Value.string = (ks.map .string).take i ++ [.string key] ++ (ks.map .string).drop (i' * 1) := by
      rw [Nat.mul_one, List.map_append, List.map_cons, List.map_take, List.map_drop]; simp
    rw [e3]
    exact this.mono (fun _ _ => rfl) (fun b hb => .inr (hk.lt b hb.symm).1)
  · have := RowR.of_owns (by omega) hv
    rw [e2]
    exact this.mono (fun _ _ => rfl) (fun b hb => .inr (hv.lt b hb.symm).1)
  · have h := (((hc.take i (by omega)).app (SixL.one hy)).app (hc.drop i' (by omega))).mono (w' := W) (T := fun r => S r ∨ w2.heap.size + 1 ≤ r) (Same.of_below hBW hS) (fun _ h => .inl h)
    have e4 : vs.take i ++ [y] ++ vs.drop i' = vs.take i ++ y :: vs.drop i' := by simp
    rw [e4] at h
    exact h.2
set_option maxHeartbeats 4000000 in
set_option maxRecDepth 100000 in
theorem with_any (k h : Int) (t key : ByteArray) (kv vv v : Value) (la : Option Addr) (n1 lc : Nat) (ks : List ByteArray) (vs : List V) (y : V) (S : Nat → Prop) (w : World) (hm : MapR w S ks vs kv vv) (hq : ks.length ≤ 1000) (hv : RV w S y v) (hS : ∀ b, S b → b < w.heap.size) :
    Calls Tryz.prog 127 #[.agg #[.int .i64 k, .int .i64 h, .string t, .slice la n1 lc, kv, vv], .string key, v] w (WithEnd S ks vs key y w) := by
  obtain ⟨la2, lc2, ka2, kc2, va2, vc2, t2, m2, tx2, a2, b2, d2, e, HVP⟩ := RV.parts hv
  subst e
  obtain ⟨hl, hkr, cs, hvr, hkids⟩ := hm
  obtain ⟨ka, kc, rfl, hk⟩ := hkr.rk
  obtain ⟨va, vc, rfl⟩ : ∃ va vc, vv = .slice va vs.length vc := by
    rcases hvr.2 with ⟨rfl, e⟩ | ⟨g, o, c, rfl, _⟩
    · exact ⟨none, 0, by rw [e]⟩
    · exact ⟨_, c, rfl⟩
  have HS := Lib.hid hS
  have HV := Lib.hid hv
  have HKR := Lib.hid hkr
  have HVR := Lib.hid hvr
  have HSIX : Hid (SixL w S vs cs) := Lib.hid ⟨hvr.1, hkids⟩
  have HRK := Lib.hid hk
  obtain ⟨n, hn⟩ : ∃ n, ks.length = n := ⟨_, rfl⟩
  have HN := Lib.hid hn
  have HN2 := Lib.hid (hl.symm.trans hn)
  rw [hl.symm.trans hn, hn]
  rw [hn] at hq
  clear hS hv hkids hvr hkr hl hn hk
  obtain ⟨i0, hi, hz0, hz1, hz2⟩ := info_parts infoStr
  obtain ⟨j0, hj, hy0, hy1, hy2⟩ := info_parts infoValue
  have HI := Lib.hid (And.intro hi (And.intro hz0 (And.intro hz1 hz2)))
  have HJ := Lib.hid (And.intro hj (And.intro hy0 (And.intro hy1 hy2)))
  clear hi hz0 hz1 hz2 hj hy0 hy1 hy2
  go_enter Tryz.func127, Tryz.ntmps127
  go_wp2_with fail
  generalize hW : World.alloc (World.alloc (World.alloc w _) _) _ = W
  have b1 : Below w.heap.size w W := hW ▸ (by go_grown)
  have zm : W.heap[w.heap.size]? = some (.cells #[.int .i64 k, .int .i64 h, .string t, .slice la n1 lc, .slice ka n kc, .slice va n vc] 27 (0, 0)) := hW ▸ block_past (block_past (block_new w _ _) _) _
  have zv : W.heap[w.heap.size + 1]? = some (.cells #[.int .i64 t2, .int .i64 m2, .string tx2, .slice la2 a2 lc2, .slice ka2 b2 kc2, .slice va2 d2 vc2] 27 (0, 0)) := hW ▸ (by
    refine block_past ?_ _
    have := block_new (w.alloc (.cells #[.int .i64 k, .int .i64 h, .string t, .slice la n1 lc, .slice ka n kc, .slice va n vc] 27)) #[.int .i64 t2, .int .i64 m2, .string tx2, .slice la2 a2 lc2, .slice ka2 b2 kc2, .slice va2 d2 vc2] 27
    rwa [World.size_alloc] at this)
  have zr : W.heap[w.heap.size + 1 + 1]? = some (.cells #[.int .i64 0, .int .i64 0, .string ⟨#[]⟩, .slice none 0 0, .slice none 0 0, .slice none 0 0] 27 (0, 0)) := hW ▸ (by
    have := block_new ((w.alloc (.cells #[.int .i64 k, .int .i64 h, .string t, .slice la n1 lc, .slice ka n kc, .slice va n vc] 27)).alloc (.cells #[.int .i64 t2, .int .i64 m2, .string tx2, .slice la2 a2 lc2, .slice ka2 b2 kc2, .slice va2 d2 vc2] 27)) #[.int .i64 0, .int .i64 0, .string ⟨#[]⟩, .slice none 0 0, .slice none 0 0, .slice none 0 0] 27
    rwa [World.size_alloc, World.size_alloc] at this)
  have hcm := cells6 zm
  have B1 := Lib.hid b1
  clear hW
  have ZM := Lib.hid zm
  have ZV := Lib.hid zv
  have ZR := Lib.hid zr
  clear b1 zm zv zr
  go_wp2_with fail
  refine (place_any k h t key la ka va n1 lc n kc n vc ks HN.out (by omega) S W (RK.mono (Same.of_below B1.out HS.out) (fun _ h => h) _ _ HRK.out) (fun b h => Nat.lt_of_lt_of_le (HS.out b h) B1.out.size)).mono ?_
  rintro e w2 ⟨i, is, rfl, hb2, hin, his, hall⟩
  rw [HN.out] at hin his
  have B2 := Lib.hid (B1.out.trans (hb2.mono B1.out.size))
  have ZM2 := Lib.hid (keep hb2 ZM.out)
  have ZV2 := Lib.hid (keep hb2 ZV.out)
  have ZR2 := Lib.hid (keep hb2 ZR.out)
  have hlt0 := heap_lt ZR2.out
  have HALL := Lib.hid hall
  rw [HN.out] at HALL
  clear hcm hb2 hall ZM ZV ZR B1
  go_upto_region 3 with fail
  obtain ⟨kx, hsk, hkx⟩ := slice_to 25 sl1 sz1 HKR.out i (by rw [HN.out]; exact hin)
  obtain ⟨vx, hsv, hvx⟩ := slice_to 22 sl2 sz2 HVR.out i (by rw [HN2.out]; exact hin)
  rw [HN.out] at hsk
  rw [HN2.out] at hsv
  have HKX := Lib.hid hkx
  have HVX := Lib.hid hvx
  have HSV := Lib.hid hsv
  clear hkx hvx hsv
  go_cut [] (fun wx => Aft3 w2 (i + 1) ((ks.map .string).take i ++ [.string key]) wx)
  case first =>
    generalize hW : World.alloc w2 _ = W3
    have b3 : Below w2.heap.size w2 W3 := hW ▸ below_alloc w2 _
    have zo : W3.heap[w2.heap.size]? = some (.cells #[.int .i64 6, .int .i64 0, .string ⟨#[]⟩, .slice none 0 0, .slice none 0 0, .slice none 0 0] 27 (0, 0)) := hW ▸ block_new w2 _ _
    have ho3 : W3.heap.size = w2.heap.size + 1 := by rw [← hW]; simp
    clear hW
    refine wp_region_D (Three w.heap.size (w.heap.size + 1) w2.heap.size (.cells #[.int .i64 k, .int .i64 h, .string t, .slice la n1 lc, .slice ka n kc, .slice va n vc] 27 (0, 0)) (.cells #[.int .i64 t2, .int .i64 m2, .string tx2, .slice la2 a2 lc2, .slice ka2 b2 kc2, .slice va2 d2 vc2] 27 (0, 0)) (.cells #[.int .i64 6, .int .i64 0, .string ⟨#[]⟩, .slice none 0 0, .slice none 0 0, .slice none 0 0] 27 (0, 0))) [9, 10, 11] (by kernel_rfl) ?_
    generalize hWd : World.drew W3 = W4
    have hS3 : Three w.heap.size (w.heap.size + 1) w2.heap.size (.cells #[.int .i64 k, .int .i64 h, .string t, .slice la n1 lc, .slice ka n kc, .slice va n vc] 27 (0, 0)) (.cells #[.int .i64 t2, .int .i64 m2, .string tx2, .slice la2 a2 lc2, .slice ka2 b2 kc2, .slice va2 d2 vc2] 27 (0, 0)) (.cells #[.int .i64 6, .int .i64 0, .string ⟨#[]⟩, .slice none 0 0, .slice none 0 0, .slice none 0 0] 27 (0, 0)) W4 := hWd ▸ ⟨keep b3 ZM2.out, keep b3 ZV2.out, zo⟩
    have hB4 : Below w2.heap.size w2 W4 := hWd ▸ b3.drew
    have ho4 : W4.heap.size = w2.heap.size + 1 := by rw [← hWd]; exact ho3
    clear hWd b3 zo ho3
    (refine wpAnyD_take (i := 0) (v := ?_) [1, 6, 9, 10, 11] [9, 10, 11] rfl (by kernel_rfl) (by kernel_rfl) (by kernel_rfl) (fun _ _ _ h => h) (by kernel_rfl) (by kernel_rfl) (by kernel_rfl) (Or.inl ⟨?_, ?_⟩) hS3 ?_
     rotate_left
     focus rfl
     focus (intro w' hw'; have hw1 := cells6 hw'.1; have hw2 := cells6 hw'.2.1; have hw3 := cells6 hw'.2.2; clear hw'; go_simp; with_reducible rfl)
     try go_simp)
    (refine wpAnyD_take (i := 1) (v := ?_) [6, 9, 10, 11] [9, 10, 11] rfl (by kernel_rfl) (by kernel_rfl) (by kernel_rfl) (fun _ _ _ h => h) (by kernel_rfl) (by kernel_rfl) (by kernel_rfl) (Or.inl ⟨?_, ?_⟩) hS3 ?_
     rotate_left
     focus rfl
     focus (intro w' hw'; have hw1 := cells6 hw'.1; have hw2 := cells6 hw'.2.1; have hw3 := cells6 hw'.2.2; clear hw'; go_simp; with_reducible rfl)
     try go_simp)
    (refine wpAnyD_take (i := 2) (v := ?_) [3, 5, 6, 9, 10, 11] [9, 10, 11] rfl (by kernel_rfl) (by kernel_rfl) (by kernel_rfl) (fun _ _ _ h => h) (by kernel_rfl) (by kernel_rfl) (by kernel_rfl) (Or.inl ⟨?_, ?_⟩) hS3 ?_
     rotate_left
     focus rfl
     focus (intro w' hw'; have hw1 := cells6 hw'.1; have hw2 := cells6 hw'.2.1; have hw3 := cells6 hw'.2.2; clear hw'; go_simp; with_reducible rfl)
     try go_simp)
    (refine wpAnyD_take (i := 3) (v := ?_) [5, 6, 9, 10, 11] [9, 10, 11] rfl (by kernel_rfl) (by kernel_rfl) (by kernel_rfl) (fun _ _ _ h => h) (by kernel_rfl) (by kernel_rfl) (by kernel_rfl) (Or.inl ⟨?_, ?_⟩) hS3 ?_
     rotate_left
     focus rfl
     focus (intro w' hw'; have hw1 := cells6 hw'.1; have hw2 := cells6 hw'.2.1; have hw3 := cells6 hw'.2.2; clear hw'; go_simp; with_reducible rfl)
     try go_simp)
    (refine wpAnyD_take (i := 4) (v := ?_) [5, 6, 9, 10, 11] [9, 10, 11] rfl (by kernel_rfl) (by kernel_rfl) (by kernel_rfl) (fun _ _ _ h => h) (by kernel_rfl) (by kernel_rfl) (by kernel_rfl) (Or.inl ⟨?_, ?_⟩) hS3 ?_
     rotate_left
     focus rfl
     focus (intro w' hw'; have hw1 := cells6 hw'.1; have hw2 := cells6 hw'.2.1; have hw3 := cells6 hw'.2.2; clear hw'; go_simp; with_reducible rfl)
     try go_simp)
    (refine wpAnyD_take (i := 5) (v := ?_) [6, 9, 10, 11] [9, 10, 11] rfl (by kernel_rfl) (by kernel_rfl) (by kernel_rfl) (fun _ _ _ h => h) (by kernel_rfl) (by kernel_rfl) (by kernel_rfl) (Or.inl ⟨?_, ?_⟩) hS3 ?_
     rotate_left
     focus rfl
     focus (intro w' hw'; have hw1 := cells6 hw'.1; have hw2 := cells6 hw'.2.1; have hw3 := cells6 hw'.2.2; clear hw'; go_simp; with_reducible rfl)
     try go_simp)
    (refine wpAnyD_take (i := 7) (v := ?_) [8, 9, 10, 11] [9, 10, 11] rfl (by kernel_rfl) (by kernel_rfl) (by kernel_rfl) (fun _ _ _ h => h) (by kernel_rfl) (by kernel_rfl) (by kernel_rfl) (Or.inl ⟨?_, ?_⟩) hS3 ?_
     rotate_left
     focus rfl
     focus (intro w' hw'; have hw1 := cells6 hw'.1; have hw2 := cells6 hw'.2.1; have hw3 := cells6 hw'.2.2; clear hw'; go_simp; with_reducible rfl)
     try go_simp)
    have hS3' := hS3
    have B4 := Lib.hid (B2.out.trans (hB4.mono B2.out.size))
    refine wpAnyD_ready (rs := [6, 8]) (by kernel_rfl) (by simp) ?_
    refine AllReadyD.cons rfl (fun K hK => ?_) (AllReadyD.cons rfl (fun K hK => ?_) AllReadyD.nil)
    · refine step_append_a rfl (.tmp 18) (.tmp 22) 25 rfl (w2.heap.size + 1) 9 i0 _ 1 16 Tryz.underlying25 HI.out.1 HI.out.2.1 HI.out.2.2.1 HI.out.2.2.2 rfl (by decide) (.slice none 0 0) 0 i [] (by rfl) (World.ownsRow_nil _ _ _ _) kx ((ks.map .string).take (i * 1)) (by rfl) (by rw [List.length_take, List.length_map, HN.out]; omega) (HKX.out _ ?_) (fun u hu => ones_str u (List.mem_of_mem_take hu)) ?_ ?_ ?_ ?_
      · exact (Same.of_below B4.out HS.out)
      · unfold maxLen; omega
      · omega
      · omega
      rintro v1 Wa h1
      have hb1 := app_below h1 (World.ownsRow_nil _ _ _ _) (Below.refl (w2.heap.size + 1) W4) (Nat.le_refl _) (by omega)
      have hsa := h1.grown.size
      have hS4 := hS3.keep hb1 (by omega) (by omega) (Nat.lt_succ_self _)
      refine hK.out _ _ (fun _ => hS4) ?_
      clear hK K hS3
      try go_simp
      refine wpAnyD_ready (rs := [8]) (by kernel_rfl) (by simp) ?_
      refine AllReadyD.cons rfl (fun K hK => ?_) AllReadyD.nil
      go_simp
      refine hK.out _ _ (fun _ => hS4.keep (below_alloc Wa _) (show w.heap.size < Wa.heap.size by omega) (show w.heap.size + 1 < Wa.heap.size by omega) (show w2.heap.size < Wa.heap.size by omega)) ?_
      clear hK K
      try go_simp
      have hb2 := hb1.trans ((below_alloc Wa (.cells #[.string key] 9)).mono (by omega))
      have ho2 := ownsRow_same h1.owns (fun b hb => (below_alloc Wa (.cells #[.string key] 9)).block b (h1.owns.lt b hb.symm).2)
      have hs2 := src_new Wa #[.string key] 9
      (refine wpAnyD_ready (rs := [9]) (by kernel_rfl) (by simp) ?_
       refine AllReadyD.cons rfl (fun K hK => ?_) AllReadyD.nil
       refine step_append_a (w := (Wa.alloc (.cells #[.string key] 9))) rfl (.tmp 23) (.tmp 25) 25 rfl (w2.heap.size + 1) 9 i0 _ 1 16 Tryz.underlying25 HI.out.1 HI.out.2.1 HI.out.2.2.1 HI.out.2.2.2 rfl (by decide) v1 (0 + i) 1 _ (by rfl) ho2 (.slice (some ⟨Wa.heap.size, 0, none⟩) 1 1) [.string key] (by rfl) rfl hs2 (by simp [Value.oneCell']) (by unfold maxLen; omega) (by omega) (by have := hb2.size; omega) ?_
       rintro v2 Wc h2
       have hb5 := app_below h2 ho2 hb2 (Nat.le_refl _) (by have := hb2.size; omega)
       have hS5 := hS3'.keep hb5 (by omega) (by omega) (Nat.lt_succ_self _)
       refine hK.out _ _ (fun h => absurd h (by decide)) ?_
       clear hK K
       try go_simp
       refine wpAnyD_ready (rs := [10]) (by kernel_rfl) (by simp) ?_
       refine AllReadyD.cons rfl (fun K hK => ?_) AllReadyD.nil
       go_simp
       refine hK.out _ _ (fun h => absurd h (by decide)) ?_
       clear hK K
       try go_simp
       have hcc := cells6 hS5.2.2
       obtain ⟨a9, c9, rfl⟩ := ownsRow_slice h2.owns
       refine wpAnyD_ready (rs := [11]) (by kernel_rfl) (by simp) ?_
       refine AllReadyD.cons rfl (fun K hK => ?_) AllReadyD.nil
       go_simp
       refine hK.out _ _ (fun h => absurd h (by decide)) ?_
       clear hK K
       try go_simp
       refine wpAnyD_done (by kernel_rfl) ?_ _
       go_wp2_with fail
       go_meet
       exact aft3_mk hB4 hb5 ho4 hS5.2.2 (by simpa [Nat.add_comm] using h2.owns))
    · go_simp
      have hba := below_alloc W4 (.cells #[.string key] 9)
      have hS4 := hS3.keep (hba.mono (show w2.heap.size + 1 ≤ W4.heap.size by omega)) (by omega) (by omega) (Nat.lt_succ_self _)
      refine hK.out _ _ (fun _ => hS4) ?_
      clear hK K hS3
      try go_simp
      refine wpAnyD_ready (rs := [6]) (by kernel_rfl) (by simp) ?_
      refine AllReadyD.cons rfl (fun K hK => ?_) AllReadyD.nil
      refine step_append_a rfl (.tmp 18) (.tmp 22) 25 rfl (w2.heap.size + 1) 9 i0 _ 1 16 Tryz.underlying25 HI.out.1 HI.out.2.1 HI.out.2.2.1 HI.out.2.2.2 rfl (by decide) (.slice none 0 0) 0 i [] (by rfl) (World.ownsRow_nil _ _ _ _) kx ((ks.map .string).take (i * 1)) (by rfl) (by rw [List.length_take, List.length_map, HN.out]; omega) (HKX.out _ ?_) (fun u hu => ones_str u (List.mem_of_mem_take hu)) ?_ ?_ ?_ ?_
      · exact (Same.of_below (B4.out.trans (hba.mono B4.out.size)) HS.out)
      · unfold maxLen; omega
      · omega
      · rw [World.size_alloc]; omega
      rintro v1 Wa h1
      have hb1 := app_below h1 (World.ownsRow_nil _ _ _ _) (hba.mono (show w2.heap.size + 1 ≤ W4.heap.size by omega)) (Nat.le_refl _) (by rw [World.size_alloc]; omega)
      have hs2 := src_keep (cell_new W4 #[.string key] 9) (h1.grown.block _ (by rw [World.size_alloc]; omega) (fun e => by cases e))
      have ho2 := h1.owns
      have hb2 := hb1
      refine hK.out _ _ (fun _ => hS3'.keep hb1 (by omega) (by omega) (Nat.lt_succ_self _)) ?_
      clear hK K
      try go_simp
      rw [ho4] at hs2
      (refine wpAnyD_ready (rs := [9]) (by kernel_rfl) (by simp) ?_
       refine AllReadyD.cons rfl (fun K hK => ?_) AllReadyD.nil
       refine step_append_a (w := Wa) rfl (.tmp 23) (.tmp 25) 25 rfl (w2.heap.size + 1) 9 i0 _ 1 16 Tryz.underlying25 HI.out.1 HI.out.2.1 HI.out.2.2.1 HI.out.2.2.2 rfl (by decide) v1 (0 + i) 1 _ (by rfl) ho2 (.slice (some ⟨(w2.heap.size + 1), 0, none⟩) 1 1) [.string key] (by rfl) rfl hs2 (by simp [Value.oneCell']) (by unfold maxLen; omega) (by omega) (by have := hb2.size; omega) ?_
       rintro v2 Wc h2
       have hb5 := app_below h2 ho2 hb2 (Nat.le_refl _) (by have := hb2.size; omega)
       have hS5 := hS3'.keep hb5 (by omega) (by omega) (Nat.lt_succ_self _)
       refine hK.out _ _ (fun h => absurd h (by decide)) ?_
       clear hK K
       try go_simp
       refine wpAnyD_ready (rs := [10]) (by kernel_rfl) (by simp) ?_
       refine AllReadyD.cons rfl (fun K hK => ?_) AllReadyD.nil
       go_simp
       refine hK.out _ _ (fun h => absurd h (by decide)) ?_
       clear hK K
       try go_simp
       have hcc := cells6 hS5.2.2
       obtain ⟨a9, c9, rfl⟩ := ownsRow_slice h2.owns
       refine wpAnyD_ready (rs := [11]) (by kernel_rfl) (by simp) ?_
       refine AllReadyD.cons rfl (fun K hK => ?_) AllReadyD.nil
       go_simp
       refine hK.out _ _ (fun h => absurd h (by decide)) ?_
       clear hK K
       try go_simp
       refine wpAnyD_done (by kernel_rfl) ?_ _
       go_wp2_with fail
       go_meet
       exact aft3_mk hB4 hb5 ho4 hS5.2.2 (by simpa [Nat.add_comm] using h2.owns))
  obtain ⟨kv, hB5, hz5, hq5, hk5⟩ := hcut
  have HK5 := Lib.hid hk5
  clear hk5
  go_upto_region 4 with fail
  go_cut [] (fun wx => Aft4 w2 (i + 1) (i + 1) ((ks.map .string).take i ++ [.string key]) (cs.take (i * 6) ++ [.int .i64 t2, .int .i64 m2, .string tx2, .slice la2 a2 lc2, .slice ka2 b2 kc2, .slice va2 d2 vc2]) wx)
  case first =>
    have hsv := HSV.out
    refine wp_region_D (Three w.heap.size (w.heap.size + 1) w2.heap.size (.cells #[.int .i64 k, .int .i64 h, .string t, .slice la n1 lc, .slice ka n kc, .slice va n vc] 27 (0, 0)) (.cells #[.int .i64 t2, .int .i64 m2, .string tx2, .slice la2 a2 lc2, .slice ka2 b2 kc2, .slice va2 d2 vc2] 27 (0, 0)) (.cells #[.int .i64 6, .int .i64 0, .string ⟨#[]⟩, .slice none 0 0, kv, .slice none 0 0] 27 (0, 0))) [9, 10, 11] (by kernel_rfl) ?_
    generalize hWd : World.drew wc = W5
    have hS3 : Three w.heap.size (w.heap.size + 1) w2.heap.size (.cells #[.int .i64 k, .int .i64 h, .string t, .slice la n1 lc, .slice ka n kc, .slice va n vc] 27 (0, 0)) (.cells #[.int .i64 t2, .int .i64 m2, .string tx2, .slice la2 a2 lc2, .slice ka2 b2 kc2, .slice va2 d2 vc2] 27 (0, 0)) (.cells #[.int .i64 6, .int .i64 0, .string ⟨#[]⟩, .slice none 0 0, kv, .slice none 0 0] 27 (0, 0)) W5 := hWd ▸ ⟨keep hB5 ZM2.out, keep hB5 ZV2.out, hq5⟩
    have hB5' : Below w2.heap.size w2 W5 := hWd ▸ hB5.drew
    have hz5' : w2.heap.size + 1 ≤ W5.heap.size := by rw [← hWd]; exact hz5
    have HK5' : Hid (W5.ownsRow (w2.heap.size + 1) 9 1 kv (i + 1) ((ks.map .string).take i ++ [.string key])) := Lib.hid (hWd ▸ HK5.out)
    have B5 := Lib.hid (B2.out.trans (hB5'.mono B2.out.size))
    clear hWd hB5 hz5 hq5
    (refine wpAnyD_take (i := 0) (v := ?_) [1, 6, 9, 10, 11] [9, 10, 11] rfl (by kernel_rfl) (by kernel_rfl) (by kernel_rfl) (fun _ _ _ h => h) (by kernel_rfl) (by kernel_rfl) (by kernel_rfl) (Or.inl ⟨?_, ?_⟩) hS3 ?_
     rotate_left
     focus rfl
     focus (intro w' hw'; have hw1 := cells6 hw'.1; have hw2 := cells6 hw'.2.1; have hw3 := cells6 hw'.2.2; clear hw'; go_simp; with_reducible rfl)
     try go_simp)
    (refine wpAnyD_take (i := 1) (v := ?_) [6, 9, 10, 11] [9, 10, 11] rfl (by kernel_rfl) (by kernel_rfl) (by kernel_rfl) (fun _ _ _ h => h) (by kernel_rfl) (by kernel_rfl) (by kernel_rfl) (Or.inl ⟨?_, ?_⟩) hS3 ?_
     rotate_left
     focus rfl
     focus (intro w' hw'; have hw1 := cells6 hw'.1; have hw2 := cells6 hw'.2.1; have hw3 := cells6 hw'.2.2; clear hw'; go_simp; with_reducible rfl)
     try go_simp)
    (refine wpAnyD_take (i := 2) (v := ?_) [3, 5, 6, 9, 10, 11] [9, 10, 11] rfl (by kernel_rfl) (by kernel_rfl) (by kernel_rfl) (fun _ _ _ h => h) (by kernel_rfl) (by kernel_rfl) (by kernel_rfl) (Or.inl ⟨?_, ?_⟩) hS3 ?_
     rotate_left
     focus rfl
     focus (intro w' hw'; have hw1 := cells6 hw'.1; have hw2 := cells6 hw'.2.1; have hw3 := cells6 hw'.2.2; clear hw'; go_simp; with_reducible rfl)
     try go_simp)
    (refine wpAnyD_take (i := 3) (v := ?_) [5, 6, 9, 10, 11] [9, 10, 11] rfl (by kernel_rfl) (by kernel_rfl) (by kernel_rfl) (fun _ _ _ h => h) (by kernel_rfl) (by kernel_rfl) (by kernel_rfl) (Or.inl ⟨?_, ?_⟩) hS3 ?_
     rotate_left
     focus rfl
     focus (intro w' hw'; have hw1 := cells6 hw'.1; have hw2 := cells6 hw'.2.1; have hw3 := cells6 hw'.2.2; clear hw'; go_simp; with_reducible rfl)
     try go_simp)
    (refine wpAnyD_take (i := 4) (v := ?_) [5, 6, 9, 10, 11] [9, 10, 11] rfl (by kernel_rfl) (by kernel_rfl) (by kernel_rfl) (fun _ _ _ h => h) (by kernel_rfl) (by kernel_rfl) (by kernel_rfl) (Or.inl ⟨?_, ?_⟩) hS3 ?_
     rotate_left
     focus rfl
     focus (intro w' hw'; have hw1 := cells6 hw'.1; have hw2 := cells6 hw'.2.1; have hw3 := cells6 hw'.2.2; clear hw'; go_simp; with_reducible rfl)
     try go_simp)
    (refine wpAnyD_take (i := 5) (v := ?_) [6, 9, 10, 11] [9, 10, 11] rfl (by kernel_rfl) (by kernel_rfl) (by kernel_rfl) (fun _ _ _ h => h) (by kernel_rfl) (by kernel_rfl) (by kernel_rfl) (Or.inl ⟨?_, ?_⟩) hS3 ?_
     rotate_left
     focus rfl
     focus (intro w' hw'; have hw1 := cells6 hw'.1; have hw2 := cells6 hw'.2.1; have hw3 := cells6 hw'.2.2; clear hw'; go_simp; with_reducible rfl)
     try go_simp)
    (refine wpAnyD_take (i := 7) (v := ?_) [8, 9, 10, 11] [9, 10, 11] rfl (by kernel_rfl) (by kernel_rfl) (by kernel_rfl) (fun _ _ _ h => h) (by kernel_rfl) (by kernel_rfl) (by kernel_rfl) (Or.inl ⟨?_, ?_⟩) hS3 ?_
     rotate_left
     focus rfl
     focus (intro w' hw'; have hw1 := cells6 hw'.1; have hw2 := cells6 hw'.2.1; have hw3 := cells6 hw'.2.2; clear hw'; go_simp; with_reducible rfl)
     try go_simp)
    have hS3' := hS3
    have hcl := HSIX.out.1
    refine wpAnyD_ready (rs := [6, 8]) (by kernel_rfl) (by simp) ?_
    refine AllReadyD.cons rfl (fun K hK => ?_) (AllReadyD.cons rfl (fun K hK => ?_) AllReadyD.nil)
    · refine step_append_a rfl (.tmp 29) (.tmp 33) 22 rfl W5.heap.size 27 j0 _ 6 104 Tryz.underlying22 HJ.out.1 HJ.out.2.1 HJ.out.2.2.1 HJ.out.2.2.2 rfl (by decide) (.slice none 0 0) 0 i [] (by rfl) (World.ownsRow_nil _ _ _ _) vx (cs.take (i * 6)) (by rfl) (by rw [List.length_take, hcl, HN2.out]; omega) (HVX.out _ ?_) (fun u hu => HSIX.out.ones u (List.mem_of_mem_take hu)) ?_ ?_ ?_ ?_
      · exact (Same.of_below B5.out HS.out)
      · unfold maxLen; omega
      · omega
      · omega
      rintro v1 Wa h1
      have hb1 := app_below h1 (World.ownsRow_nil _ _ _ _) (Below.refl W5.heap.size W5) (Nat.le_refl _) (Nat.le_refl _)
      have hsa := h1.grown.size
      have hS4 := hS3.keep hb1 (by omega) (by omega) (by omega)
      refine hK.out _ _ (fun _ => hS4) ?_
      clear hK K hS3
      try go_simp
      refine wpAnyD_ready (rs := [8]) (by kernel_rfl) (by simp) ?_
      refine AllReadyD.cons rfl (fun K hK => ?_) AllReadyD.nil
      go_simp
      refine hK.out _ _ (fun _ => hS4.keep (below_alloc Wa _) (show w.heap.size < Wa.heap.size by omega) (show w.heap.size + 1 < Wa.heap.size by omega) (show w2.heap.size < Wa.heap.size by omega)) ?_
      clear hK K
      try go_simp
      have hb2 := hb1.trans ((below_alloc Wa (.cells #[.int .i64 t2, .int .i64 m2, .string tx2, .slice la2 a2 lc2, .slice ka2 b2 kc2, .slice va2 d2 vc2] 27)).mono hsa)
      have ho2 := ownsRow_same h1.owns (fun b hb => (below_alloc Wa (.cells #[.int .i64 t2, .int .i64 m2, .string tx2, .slice la2 a2 lc2, .slice ka2 b2 kc2, .slice va2 d2 vc2] 27)).block b (h1.owns.lt b hb.symm).2)
      have hs2 := src_new Wa #[.int .i64 t2, .int .i64 m2, .string tx2, .slice la2 a2 lc2, .slice ka2 b2 kc2, .slice va2 d2 vc2] 27
      (refine wpAnyD_ready (rs := [9]) (by kernel_rfl) (by simp) ?_
       refine AllReadyD.cons rfl (fun K hK => ?_) AllReadyD.nil
       refine step_append_a (w := (Wa.alloc (.cells #[.int .i64 t2, .int .i64 m2, .string tx2, .slice la2 a2 lc2, .slice ka2 b2 kc2, .slice va2 d2 vc2] 27))) rfl (.tmp 34) (.tmp 36) 22 rfl W5.heap.size 27 j0 _ 6 104 Tryz.underlying22 HJ.out.1 HJ.out.2.1 HJ.out.2.2.1 HJ.out.2.2.2 rfl (by decide) v1 (0 + i) 1 _ (by rfl) ho2 (.slice (some ⟨Wa.heap.size, 0, none⟩) 1 1) [.int .i64 t2, .int .i64 m2, .string tx2, .slice la2 a2 lc2, .slice ka2 b2 kc2, .slice va2 d2 vc2] (by rfl) rfl hs2 (six_one _ _ _ _ _ _ _ _ _ _ _ _) (by unfold maxLen; omega) (by omega) (by have := hb2.size; omega) ?_
       rintro v2 Wc h2
       have hb5 := app_below h2 ho2 hb2 (Nat.le_refl _) (by have := hb2.size; omega)
       have hS5 := hS3'.keep hb5 (by omega) (by omega) (by omega)
       refine hK.out _ _ (fun h => absurd h (by decide)) ?_
       clear hK K
       try go_simp
       refine wpAnyD_ready (rs := [10]) (by kernel_rfl) (by simp) ?_
       refine AllReadyD.cons rfl (fun K hK => ?_) AllReadyD.nil
       go_simp
       refine hK.out _ _ (fun h => absurd h (by decide)) ?_
       clear hK K
       try go_simp
       have hcc := cells6 hS5.2.2
       obtain ⟨a9, c9, rfl⟩ := ownsRow_slice h2.owns
       refine wpAnyD_ready (rs := [11]) (by kernel_rfl) (by simp) ?_
       refine AllReadyD.cons rfl (fun K hK => ?_) AllReadyD.nil
       go_simp
       refine hK.out _ _ (fun h => absurd h (by decide)) ?_
       clear hK K
       try go_simp
       refine wpAnyD_done (by kernel_rfl) ?_ _
       go_wp2_with fail
       go_meet
       exact aft4_mk hB5' hb5 hz5' hS5.2.2 HK5'.out (by simpa [Nat.add_comm] using h2.owns))
    · go_simp
      have hba := below_alloc W5 (.cells #[.int .i64 t2, .int .i64 m2, .string tx2, .slice la2 a2 lc2, .slice ka2 b2 kc2, .slice va2 d2 vc2] 27)
      have hS4 := hS3.keep hba (by omega) (by omega) (by omega)
      refine hK.out _ _ (fun _ => hS4) ?_
      clear hK K hS3
      try go_simp
      refine wpAnyD_ready (rs := [6]) (by kernel_rfl) (by simp) ?_
      refine AllReadyD.cons rfl (fun K hK => ?_) AllReadyD.nil
      refine step_append_a rfl (.tmp 29) (.tmp 33) 22 rfl W5.heap.size 27 j0 _ 6 104 Tryz.underlying22 HJ.out.1 HJ.out.2.1 HJ.out.2.2.1 HJ.out.2.2.2 rfl (by decide) (.slice none 0 0) 0 i [] (by rfl) (World.ownsRow_nil _ _ _ _) vx (cs.take (i * 6)) (by rfl) (by rw [List.length_take, hcl, HN2.out]; omega) (HVX.out _ ?_) (fun u hu => HSIX.out.ones u (List.mem_of_mem_take hu)) ?_ ?_ ?_ ?_
      · exact (Same.of_below (B5.out.trans (hba.mono B5.out.size)) HS.out)
      · unfold maxLen; omega
      · omega
      · rw [World.size_alloc]; omega
      rintro v1 Wa h1
      have hb1 := app_below h1 (World.ownsRow_nil _ _ _ _) hba (Nat.le_refl _) (by rw [World.size_alloc]; omega)
      have hs2 := src_keep (cell_new W5 #[.int .i64 t2, .int .i64 m2, .string tx2, .slice la2 a2 lc2, .slice ka2 b2 kc2, .slice va2 d2 vc2] 27) (h1.grown.block _ (by rw [World.size_alloc]; omega) (fun e => by cases e))
      have ho2 := h1.owns
      have hb2 := hb1
      refine hK.out _ _ (fun _ => hS3'.keep hb1 (by omega) (by omega) (by omega)) ?_
      clear hK K
      try go_simp
      (refine wpAnyD_ready (rs := [9]) (by kernel_rfl) (by simp) ?_
       refine AllReadyD.cons rfl (fun K hK => ?_) AllReadyD.nil
       refine step_append_a (w := Wa) rfl (.tmp 34) (.tmp 36) 22 rfl W5.heap.size 27 j0 _ 6 104 Tryz.underlying22 HJ.out.1 HJ.out.2.1 HJ.out.2.2.1 HJ.out.2.2.2 rfl (by decide) v1 (0 + i) 1 _ (by rfl) ho2 (.slice (some ⟨W5.heap.size, 0, none⟩) 1 1) [.int .i64 t2, .int .i64 m2, .string tx2, .slice la2 a2 lc2, .slice ka2 b2 kc2, .slice va2 d2 vc2] (by rfl) rfl hs2 (six_one _ _ _ _ _ _ _ _ _ _ _ _) (by unfold maxLen; omega) (by omega) (by have := hb2.size; omega) ?_
       rintro v2 Wc h2
       have hb5 := app_below h2 ho2 hb2 (Nat.le_refl _) (by have := hb2.size; omega)
       have hS5 := hS3'.keep hb5 (by omega) (by omega) (by omega)
       refine hK.out _ _ (fun h => absurd h (by decide)) ?_
       clear hK K
       try go_simp
       refine wpAnyD_ready (rs := [10]) (by kernel_rfl) (by simp) ?_
       refine AllReadyD.cons rfl (fun K hK => ?_) AllReadyD.nil
       go_simp
       refine hK.out _ _ (fun h => absurd h (by decide)) ?_
       clear hK K
       try go_simp
       have hcc := cells6 hS5.2.2
       obtain ⟨a9, c9, rfl⟩ := ownsRow_slice h2.owns
       refine wpAnyD_ready (rs := [11]) (by kernel_rfl) (by simp) ?_
       refine AllReadyD.cons rfl (fun K hK => ?_) AllReadyD.nil
       go_simp
       refine hK.out _ _ (fun h => absurd h (by decide)) ?_
       clear hK K
       try go_simp
       refine wpAnyD_done (by kernel_rfl) ?_ _
       go_wp2_with fail
       go_meet
       exact aft4_mk hB5' hb5 hz5' hS5.2.2 HK5'.out (by simpa [Nat.add_comm] using h2.owns))
  obtain ⟨kv, vv, hB6, hz6, hq6, hk6, hv6, hap6⟩ := hcut
  have HK6 := Lib.hid hk6
  have HV6 := Lib.hid hv6
  clear hk6 hv6 HKX HVX HSV hsk HK5 hB5 hz5 hq5
  cases is
  · obtain ⟨kx2, hsk2, hkx2⟩ := slice_from 25 sl1 sz1 HKR.out i (by rw [HN.out]; exact hin)
    obtain ⟨vx2, hsv2, hvx2⟩ := slice_from 22 sl2 sz2 HVR.out i (by rw [HN2.out]; exact hin)
    rw [HN.out] at hsk2 hkx2
    rw [HN2.out] at hsv2 hvx2
    have HKX2 := Lib.hid hkx2
    have HVX2 := Lib.hid hvx2
    have HSV2 := Lib.hid hsv2
    clear hkx2 hvx2 hsv2 his
    (go_upto_region 7 with fail
     refine wp_region_D (Three w.heap.size (w.heap.size + 1) w2.heap.size (.cells #[.int .i64 k, .int .i64 h, .string t, .slice la n1 lc, .slice ka n kc, .slice va n vc] 27 (0, 0)) (.cells #[.int .i64 t2, .int .i64 m2, .string tx2, .slice la2 a2 lc2, .slice ka2 b2 kc2, .slice va2 d2 vc2] 27 (0, 0)) (.cells #[.int .i64 6, .int .i64 0, .string ⟨#[]⟩, .slice none 0 0, kv, vv] 27 (0, 0))) [6, 7, 8] (by kernel_rfl) ?_
     generalize hWd : World.drew wc = W7
     have hS3 : Three w.heap.size (w.heap.size + 1) w2.heap.size (.cells #[.int .i64 k, .int .i64 h, .string t, .slice la n1 lc, .slice ka n kc, .slice va n vc] 27 (0, 0)) (.cells #[.int .i64 t2, .int .i64 m2, .string tx2, .slice la2 a2 lc2, .slice ka2 b2 kc2, .slice va2 d2 vc2] 27 (0, 0)) (.cells #[.int .i64 6, .int .i64 0, .string ⟨#[]⟩, .slice none 0 0, kv, vv] 27 (0, 0)) W7 := hWd ▸ ⟨keep hB6 ZM2.out, keep hB6 ZV2.out, hq6⟩
     have hB7 : Below w2.heap.size w2 W7 := hWd ▸ hB6.drew
     have hz7 : w2.heap.size + 1 ≤ W7.heap.size := by rw [← hWd]; exact hz6
     have hk7 : W7.ownsRow (w2.heap.size + 1) 9 1 kv (i + 1) ((ks.map .string).take i ++ [.string key]) := hWd ▸ HK6.out
     have hv7 : W7.ownsRow (w2.heap.size + 1) 27 6 vv (i + 1) (cs.take (i * 6) ++ [.int .i64 t2, .int .i64 m2, .string tx2, .slice la2 a2 lc2, .slice ka2 b2 kc2, .slice va2 d2 vc2]) := hWd ▸ HV6.out
     have B7 := B2.out.trans (hB7.mono B2.out.size)
     clear hWd hB6 hz6 hq6
     (refine wpAnyD_take (i := 0) (v := ?_) [1, 6, 7, 8] [6, 7, 8] rfl (by kernel_rfl) (by kernel_rfl) (by kernel_rfl) (fun _ _ _ h => h) (by kernel_rfl) (by kernel_rfl) (by kernel_rfl) (Or.inl ⟨?_, ?_⟩) hS3 ?_
      rotate_left
      focus rfl
      focus (intro w' hw'; have hw1 := cells6 hw'.1; have hw2 := cells6 hw'.2.1; have hw3 := cells6 hw'.2.2; clear hw'; go_simp; with_reducible rfl)
      try go_simp)
     (refine wpAnyD_take (i := 1) (v := ?_) [6, 7, 8] [6, 7, 8] rfl (by kernel_rfl) (by kernel_rfl) (by kernel_rfl) (fun _ _ _ h => h) (by kernel_rfl) (by kernel_rfl) (by kernel_rfl) (Or.inl ⟨?_, ?_⟩) hS3 ?_
      rotate_left
      focus rfl
      focus (intro w' hw'; have hw1 := cells6 hw'.1; have hw2 := cells6 hw'.2.1; have hw3 := cells6 hw'.2.2; clear hw'; go_simp; with_reducible rfl)
      try go_simp)
     (refine wpAnyD_take (i := 2) (v := ?_) [3, 5, 6, 7, 8] [6, 7, 8] rfl (by kernel_rfl) (by kernel_rfl) (by kernel_rfl) (fun _ _ _ h => h) (by kernel_rfl) (by kernel_rfl) (by kernel_rfl) (Or.inl ⟨?_, ?_⟩) hS3 ?_
      rotate_left
      focus rfl
      focus (intro w' hw'; have hw1 := cells6 hw'.1; have hw2 := cells6 hw'.2.1; have hw3 := cells6 hw'.2.2; clear hw'; go_simp; with_reducible rfl)
      try go_simp)
     (refine wpAnyD_take (i := 3) (v := ?_) [5, 6, 7, 8] [6, 7, 8] rfl (by kernel_rfl) (by kernel_rfl) (by kernel_rfl) (fun _ _ _ h => h) (by kernel_rfl) (by kernel_rfl) (by kernel_rfl) (Or.inl ⟨?_, ?_⟩) hS3 ?_
      rotate_left
      focus rfl
      focus (intro w' hw'; have hw1 := cells6 hw'.1; have hw2 := cells6 hw'.2.1; have hw3 := cells6 hw'.2.2; clear hw'; go_simp; with_reducible rfl)
      try go_simp)
     (refine wpAnyD_take (i := 4) (v := ?_) [5, 6, 7, 8] [6, 7, 8] rfl (by kernel_rfl) (by kernel_rfl) (by kernel_rfl) (fun _ _ _ h => h) (by kernel_rfl) (by kernel_rfl) (by kernel_rfl) (Or.inl ⟨?_, ?_⟩) hS3 ?_
      rotate_left
      focus rfl
      focus (intro w' hw'; have hw1 := cells6 hw'.1; have hw2 := cells6 hw'.2.1; have hw3 := cells6 hw'.2.2; clear hw'; go_simp; with_reducible rfl)
      try go_simp)
     (refine wpAnyD_take (i := 5) (v := ?_) [6, 7, 8] [6, 7, 8] rfl (by kernel_rfl) (by kernel_rfl) (by kernel_rfl) (fun _ _ _ h => h) (by kernel_rfl) (by kernel_rfl) (by kernel_rfl) (Or.inl ⟨?_, ?_⟩) hS3 ?_
      rotate_left
      focus rfl
      focus (intro w' hw'; have hw1 := cells6 hw'.1; have hw2 := cells6 hw'.2.1; have hw3 := cells6 hw'.2.2; clear hw'; go_simp; with_reducible rfl)
      try go_simp)
     clear hsk2
     refine wpAnyD_ready (rs := [6]) (by kernel_rfl) (by simp) ?_
     refine AllReadyD.cons rfl (fun K hK => ?_) AllReadyD.nil
     refine step_append_a rfl (.tmp 43) (.tmp 47) 25 rfl (w2.heap.size + 1) 9 i0 _ 1 16 Tryz.underlying25 HI.out.1 HI.out.2.1 HI.out.2.2.1 HI.out.2.2.2 rfl (by decide) kv (i + 1) (n - i) _ (by rfl) hk7 kx2 ((ks.map .string).drop (i * 1)) (by rfl) (by rw [List.length_drop, List.length_map, HN.out]; omega) (HKX2.out _ (Same.of_below B7 HS.out)) (fun u hu => ones_str u (List.mem_of_mem_drop hu)) (by unfold maxLen; omega) (by omega) hz7 ?_
     rintro v8 W8 h8
     have hA8 := aft7_mk hB7 hz7 hS3.2.2 hk7 hv7 hap6 h8
     have hS8 := hS3.keep (app_below h8 hk7 (Below.refl (w2.heap.size + 1) W7) (Nat.le_refl _) hz7) (by omega) (by omega) (Nat.lt_succ_self _)
     obtain ⟨a8, c8, rfl⟩ := ownsRow_slice h8.owns
     clear h8 hk7 hv7 hap6 hB7 hz7 B7 hS3
     refine hK.out _ _ (fun h => absurd h (by decide)) ?_
     clear hK K
     try go_simp
     refine wpAnyD_ready (rs := [7]) (by kernel_rfl) (by simp) ?_
     refine AllReadyD.cons rfl (fun K hK => ?_) AllReadyD.nil
     go_simp
     refine hK.out _ _ (fun h => absurd h (by decide)) ?_
     clear hK K
     try go_simp
     have hcc := cells6 hS8.2.2
     refine wpAnyD_ready (rs := [8]) (by kernel_rfl) (by simp) ?_
     refine AllReadyD.cons rfl (fun K hK => ?_) AllReadyD.nil
     go_simp
     refine hK.out _ _ (fun h => absurd h (by decide)) ?_
     clear hK K
     try go_simp
     refine wpAnyD_done (by kernel_rfl) ?_ _
     clear hcc hS8
     generalize hW9 : World.setCell W8 _ _ = W9
     rw [hW9] at hA8
     clear hW9
     obtain ⟨kv9, vv9, hB9, hz9, hq9, hk9, hv9, hap9⟩ := hA8
     have hsv2 := HSV2.out
     go_upto_region 8 with fail
     refine wp_region_D (Three w.heap.size (w.heap.size + 1) w2.heap.size (.cells #[.int .i64 k, .int .i64 h, .string t, .slice la n1 lc, .slice ka n kc, .slice va n vc] 27 (0, 0)) (.cells #[.int .i64 t2, .int .i64 m2, .string tx2, .slice la2 a2 lc2, .slice ka2 b2 kc2, .slice va2 d2 vc2] 27 (0, 0)) (.cells #[.int .i64 6, .int .i64 0, .string ⟨#[]⟩, .slice none 0 0, kv9, vv9] 27 (0, 0))) [6, 7, 8] (by kernel_rfl) ?_
     generalize hWd : World.drew W9 = W7
     have hS3 : Three w.heap.size (w.heap.size + 1) w2.heap.size (.cells #[.int .i64 k, .int .i64 h, .string t, .slice la n1 lc, .slice ka n kc, .slice va n vc] 27 (0, 0)) (.cells #[.int .i64 t2, .int .i64 m2, .string tx2, .slice la2 a2 lc2, .slice ka2 b2 kc2, .slice va2 d2 vc2] 27 (0, 0)) (.cells #[.int .i64 6, .int .i64 0, .string ⟨#[]⟩, .slice none 0 0, kv9, vv9] 27 (0, 0)) W7 := hWd ▸ ⟨keep hB9 ZM2.out, keep hB9 ZV2.out, hq9⟩
     have hB7 : Below w2.heap.size w2 W7 := hWd ▸ hB9.drew
     have hz7 : w2.heap.size + 1 ≤ W7.heap.size := by rw [← hWd]; exact hz9
     have hk7 : W7.ownsRow (w2.heap.size + 1) 9 1 kv9 (i + 1 + (n - i)) ((ks.map .string).take i ++ [.string key] ++ (ks.map .string).drop (i * 1)) := hWd ▸ hk9
     have hv7 : W7.ownsRow (w2.heap.size + 1) 27 6 vv9 (i + 1) (cs.take (i * 6) ++ [.int .i64 t2, .int .i64 m2, .string tx2, .slice la2 a2 lc2, .slice ka2 b2 kc2, .slice va2 d2 vc2]) := hWd ▸ hv9
     have B7 := B2.out.trans (hB7.mono B2.out.size)
     have hcl := HSIX.out.1
     clear hWd hB9 hz9 hq9 hk9 hv9
     (refine wpAnyD_take (i := 0) (v := ?_) [1, 6, 7, 8] [6, 7, 8] rfl (by kernel_rfl) (by kernel_rfl) (by kernel_rfl) (fun _ _ _ h => h) (by kernel_rfl) (by kernel_rfl) (by kernel_rfl) (Or.inl ⟨?_, ?_⟩) hS3 ?_
      rotate_left
      focus rfl
      focus (intro w' hw'; have hw1 := cells6 hw'.1; have hw2 := cells6 hw'.2.1; have hw3 := cells6 hw'.2.2; clear hw'; go_simp; with_reducible rfl)
      try go_simp)
     (refine wpAnyD_take (i := 1) (v := ?_) [6, 7, 8] [6, 7, 8] rfl (by kernel_rfl) (by kernel_rfl) (by kernel_rfl) (fun _ _ _ h => h) (by kernel_rfl) (by kernel_rfl) (by kernel_rfl) (Or.inl ⟨?_, ?_⟩) hS3 ?_
      rotate_left
      focus rfl
      focus (intro w' hw'; have hw1 := cells6 hw'.1; have hw2 := cells6 hw'.2.1; have hw3 := cells6 hw'.2.2; clear hw'; go_simp; with_reducible rfl)
      try go_simp)
     (refine wpAnyD_take (i := 2) (v := ?_) [3, 5, 6, 7, 8] [6, 7, 8] rfl (by kernel_rfl) (by kernel_rfl) (by kernel_rfl) (fun _ _ _ h => h) (by kernel_rfl) (by kernel_rfl) (by kernel_rfl) (Or.inl ⟨?_, ?_⟩) hS3 ?_
      rotate_left
      focus rfl
      focus (intro w' hw'; have hw1 := cells6 hw'.1; have hw2 := cells6 hw'.2.1; have hw3 := cells6 hw'.2.2; clear hw'; go_simp; with_reducible rfl)
      try go_simp)
     (refine wpAnyD_take (i := 3) (v := ?_) [5, 6, 7, 8] [6, 7, 8] rfl (by kernel_rfl) (by kernel_rfl) (by kernel_rfl) (fun _ _ _ h => h) (by kernel_rfl) (by kernel_rfl) (by kernel_rfl) (Or.inl ⟨?_, ?_⟩) hS3 ?_
      rotate_left
      focus rfl
      focus (intro w' hw'; have hw1 := cells6 hw'.1; have hw2 := cells6 hw'.2.1; have hw3 := cells6 hw'.2.2; clear hw'; go_simp; with_reducible rfl)
      try go_simp)
     (refine wpAnyD_take (i := 4) (v := ?_) [5, 6, 7, 8] [6, 7, 8] rfl (by kernel_rfl) (by kernel_rfl) (by kernel_rfl) (fun _ _ _ h => h) (by kernel_rfl) (by kernel_rfl) (by kernel_rfl) (Or.inl ⟨?_, ?_⟩) hS3 ?_
      rotate_left
      focus rfl
      focus (intro w' hw'; have hw1 := cells6 hw'.1; have hw2 := cells6 hw'.2.1; have hw3 := cells6 hw'.2.2; clear hw'; go_simp; with_reducible rfl)
      try go_simp)
     (refine wpAnyD_take (i := 5) (v := ?_) [6, 7, 8] [6, 7, 8] rfl (by kernel_rfl) (by kernel_rfl) (by kernel_rfl) (fun _ _ _ h => h) (by kernel_rfl) (by kernel_rfl) (by kernel_rfl) (Or.inl ⟨?_, ?_⟩) hS3 ?_
      rotate_left
      focus rfl
      focus (intro w' hw'; have hw1 := cells6 hw'.1; have hw2 := cells6 hw'.2.1; have hw3 := cells6 hw'.2.2; clear hw'; go_simp; with_reducible rfl)
      try go_simp)
     clear hsv2
     refine wpAnyD_ready (rs := [6]) (by kernel_rfl) (by simp) ?_
     refine AllReadyD.cons rfl (fun K hK => ?_) AllReadyD.nil
     refine step_append_a rfl (.tmp 51) (.tmp 55) 22 rfl (w2.heap.size + 1) 27 j0 _ 6 104 Tryz.underlying22 HJ.out.1 HJ.out.2.1 HJ.out.2.2.1 HJ.out.2.2.2 rfl (by decide) vv9 (i + 1) (n - i) _ (by rfl) hv7 vx2 (cs.drop (i * 6)) (by rfl) (by rw [List.length_drop, hcl, HN2.out]; omega) (HVX2.out _ (Same.of_below B7 HS.out)) (fun u hu => HSIX.out.ones u (List.mem_of_mem_drop hu)) (by unfold maxLen; omega) (by omega) hz7 ?_
     rintro v8 W8 h8
     have hA8 := aft8_mk hB7 hz7 hS3.2.2 hk7 hv7 hap9 h8
     have hS8 := hS3.keep (app_below h8 hv7 (Below.refl (w2.heap.size + 1) W7) (Nat.le_refl _) hz7) (by omega) (by omega) (Nat.lt_succ_self _)
     obtain ⟨a8, c8, rfl⟩ := ownsRow_slice h8.owns
     clear h8 hk7 hv7 hap9 hB7 hz7 B7 hS3
     refine hK.out _ _ (fun h => absurd h (by decide)) ?_
     clear hK K
     try go_simp
     refine wpAnyD_ready (rs := [7]) (by kernel_rfl) (by simp) ?_
     refine AllReadyD.cons rfl (fun K hK => ?_) AllReadyD.nil
     go_simp
     refine hK.out _ _ (fun h => absurd h (by decide)) ?_
     clear hK K
     try go_simp
     have hcc := cells6 hS8.2.2
     refine wpAnyD_ready (rs := [8]) (by kernel_rfl) (by simp) ?_
     refine AllReadyD.cons rfl (fun K hK => ?_) AllReadyD.nil
     go_simp
     refine hK.out _ _ (fun h => absurd h (by decide)) ?_
     clear hK K
     try go_simp
     refine wpAnyD_done (by kernel_rfl) ?_ _
     clear hcc hS8
     generalize hW9 : World.setCell W8 _ _ = W10
     rw [hW9] at hA8
     clear hW9
     obtain ⟨kv10, vv10, hB10, hz10, hq10, hk10, hv10, hap10⟩ := hA8
     have BW := B2.out.trans (hB10.mono B2.out.size)
     have hM := with_done HN.out HN2.out HS.out BW B2.out.size hin (show i ≤ n by omega) hk10 hv10 HSIX.out HV.out
     have hcr := cells6 (keep hB10 ZR2.out)
     have hco := cells6 hq10
     obtain ⟨a10, c10, rfl⟩ := ownsRow_slice hk10
     obtain ⟨a11, c11, rfl⟩ := ownsRow_slice hv10
     have HM := Lib.hid hM
     have HBW := Lib.hid BW
     have hlt1 := heap_lt ZR2.out
     have hlt2 := B2.out.size
     clear hM BW hk10 hv10 hap10 hq10
     go_wp2_with fail
     have zz := (cells6 (set6_block (keep hB10 ZR2.out) (.int .i64 6) (.int .i64 0) (.string ⟨#[]⟩) (.slice none 0 0) (.slice a10 (i + 1 + (n - i)) c10) (.slice a11 (i + 1 + (n - i)) c11))).1
     have HF := Lib.hid (sets6 HBW.out (show w.heap.size ≤ w.heap.size + 1 + 1 by omega) (.int .i64 6) (.int .i64 0) (.string ⟨#[]⟩) (.slice none 0 0) (.slice a10 (i + 1 + (n - i)) c10) (.slice a11 (i + 1 + (n - i)) c11))
     have HMF := Lib.hid (HM.out.mono (w' := ((((((W10.setCell ⟨w.heap.size + 1 + 1, 0, none⟩ (.int .i64 6)).setCell ⟨w.heap.size + 1 + 1, 1, none⟩ (.int .i64 0)).setCell ⟨w.heap.size + 1 + 1, 2, none⟩ (.string ⟨#[]⟩)).setCell ⟨w.heap.size + 1 + 1, 3, none⟩ (.slice none 0 0)).setCell ⟨w.heap.size + 1 + 1, 4, none⟩ (.slice a10 (i + 1 + (n - i)) c10)).setCell ⟨w.heap.size + 1 + 1, 5, none⟩ (.slice a11 (i + 1 + (n - i)) c11))) (T := fun r => S r ∨ w.heap.size ≤ r) (fun b hb => sets_other _ _ _ _ _ _ (fun e => by
       rcases hb with hb | hb
       · have := HS.out b hb; omega
       · omega)) (fun b hb => by
       rcases hb with hb | hb
       · exact .inl hb
       · exact .inr (by omega)))
     clear hcr hco HM HBW
     generalize (((((World.setCell W10 _ _).setCell _ _).setCell _ _).setCell _ _).setCell _ _).setCell _ _ = WF at zz HF HMF ⊢
     obtain ⟨z0, z1, z2, z3, z4, z5⟩ := zz
     refine bodyPost_ret (v := MapV (.slice a10 (i + 1 + (n - i)) c10) (.slice a11 (i + 1 + (n - i)) c11)) (by simp [results, Tryz.results127, go_sem, z0, z1, z2, z3, z4, z5, MapV]) rfl ?_
     exact ⟨i, i, _, _, rfl, HF.out, HMF.out, fun q => by (first | exact ⟨(HALL.out q).1.trans HN.out.symm, (HALL.out q).1.trans HN.out.symm⟩ | exact absurd (HALL.out q).2 (by decide)), by omega, by rw [HN.out]; exact hin, by omega, by rw [HN.out]; omega⟩)
  · have hi1 := his rfl
    obtain ⟨kx2, hsk2, hkx2⟩ := slice_from 25 sl1 sz1 HKR.out (i + 1) (by rw [HN.out]; exact hi1)
    obtain ⟨vx2, hsv2, hvx2⟩ := slice_from 22 sl2 sz2 HVR.out (i + 1) (by rw [HN2.out]; exact hi1)
    rw [HN.out] at hsk2 hkx2
    rw [HN2.out] at hsv2 hvx2
    push_cast at hsk2 hsv2
    have HKX2 := Lib.hid hkx2
    have HVX2 := Lib.hid hvx2
    have HSV2 := Lib.hid hsv2
    clear hkx2 hvx2 hsv2 his
    (go_upto_region 7 with fail
     refine wp_region_D (Three w.heap.size (w.heap.size + 1) w2.heap.size (.cells #[.int .i64 k, .int .i64 h, .string t, .slice la n1 lc, .slice ka n kc, .slice va n vc] 27 (0, 0)) (.cells #[.int .i64 t2, .int .i64 m2, .string tx2, .slice la2 a2 lc2, .slice ka2 b2 kc2, .slice va2 d2 vc2] 27 (0, 0)) (.cells #[.int .i64 6, .int .i64 0, .string ⟨#[]⟩, .slice none 0 0, kv, vv] 27 (0, 0))) [6, 7, 8] (by kernel_rfl) ?_
     generalize hWd : World.drew wc = W7
     have hS3 : Three w.heap.size (w.heap.size + 1) w2.heap.size (.cells #[.int .i64 k, .int .i64 h, .string t, .slice la n1 lc, .slice ka n kc, .slice va n vc] 27 (0, 0)) (.cells #[.int .i64 t2, .int .i64 m2, .string tx2, .slice la2 a2 lc2, .slice ka2 b2 kc2, .slice va2 d2 vc2] 27 (0, 0)) (.cells #[.int .i64 6, .int .i64 0, .string ⟨#[]⟩, .slice none 0 0, kv, vv] 27 (0, 0)) W7 := hWd ▸ ⟨keep hB6 ZM2.out, keep hB6 ZV2.out, hq6⟩
     have hB7 : Below w2.heap.size w2 W7 := hWd ▸ hB6.drew
     have hz7 : w2.heap.size + 1 ≤ W7.heap.size := by rw [← hWd]; exact hz6
     have hk7 : W7.ownsRow (w2.heap.size + 1) 9 1 kv (i + 1) ((ks.map .string).take i ++ [.string key]) := hWd ▸ HK6.out
     have hv7 : W7.ownsRow (w2.heap.size + 1) 27 6 vv (i + 1) (cs.take (i * 6) ++ [.int .i64 t2, .int .i64 m2, .string tx2, .slice la2 a2 lc2, .slice ka2 b2 kc2, .slice va2 d2 vc2]) := hWd ▸ HV6.out
     have B7 := B2.out.trans (hB7.mono B2.out.size)
     clear hWd hB6 hz6 hq6
     (refine wpAnyD_take (i := 0) (v := ?_) [1, 6, 7, 8] [6, 7, 8] rfl (by kernel_rfl) (by kernel_rfl) (by kernel_rfl) (fun _ _ _ h => h) (by kernel_rfl) (by kernel_rfl) (by kernel_rfl) (Or.inl ⟨?_, ?_⟩) hS3 ?_
      rotate_left
      focus rfl
      focus (intro w' hw'; have hw1 := cells6 hw'.1; have hw2 := cells6 hw'.2.1; have hw3 := cells6 hw'.2.2; clear hw'; go_simp; with_reducible rfl)
      try go_simp)
     (refine wpAnyD_take (i := 1) (v := ?_) [6, 7, 8] [6, 7, 8] rfl (by kernel_rfl) (by kernel_rfl) (by kernel_rfl) (fun _ _ _ h => h) (by kernel_rfl) (by kernel_rfl) (by kernel_rfl) (Or.inl ⟨?_, ?_⟩) hS3 ?_
      rotate_left
      focus rfl
      focus (intro w' hw'; have hw1 := cells6 hw'.1; have hw2 := cells6 hw'.2.1; have hw3 := cells6 hw'.2.2; clear hw'; go_simp; with_reducible rfl)
      try go_simp)
     (refine wpAnyD_take (i := 2) (v := ?_) [3, 5, 6, 7, 8] [6, 7, 8] rfl (by kernel_rfl) (by kernel_rfl) (by kernel_rfl) (fun _ _ _ h => h) (by kernel_rfl) (by kernel_rfl) (by kernel_rfl) (Or.inl ⟨?_, ?_⟩) hS3 ?_
      rotate_left
      focus rfl
      focus (intro w' hw'; have hw1 := cells6 hw'.1; have hw2 := cells6 hw'.2.1; have hw3 := cells6 hw'.2.2; clear hw'; go_simp; with_reducible rfl)
      try go_simp)
     (refine wpAnyD_take (i := 3) (v := ?_) [5, 6, 7, 8] [6, 7, 8] rfl (by kernel_rfl) (by kernel_rfl) (by kernel_rfl) (fun _ _ _ h => h) (by kernel_rfl) (by kernel_rfl) (by kernel_rfl) (Or.inl ⟨?_, ?_⟩) hS3 ?_
      rotate_left
      focus rfl
      focus (intro w' hw'; have hw1 := cells6 hw'.1; have hw2 := cells6 hw'.2.1; have hw3 := cells6 hw'.2.2; clear hw'; go_simp; with_reducible rfl)
      try go_simp)
     (refine wpAnyD_take (i := 4) (v := ?_) [5, 6, 7, 8] [6, 7, 8] rfl (by kernel_rfl) (by kernel_rfl) (by kernel_rfl) (fun _ _ _ h => h) (by kernel_rfl) (by kernel_rfl) (by kernel_rfl) (Or.inl ⟨?_, ?_⟩) hS3 ?_
      rotate_left
      focus rfl
      focus (intro w' hw'; have hw1 := cells6 hw'.1; have hw2 := cells6 hw'.2.1; have hw3 := cells6 hw'.2.2; clear hw'; go_simp; with_reducible rfl)
      try go_simp)
     (refine wpAnyD_take (i := 5) (v := ?_) [6, 7, 8] [6, 7, 8] rfl (by kernel_rfl) (by kernel_rfl) (by kernel_rfl) (fun _ _ _ h => h) (by kernel_rfl) (by kernel_rfl) (by kernel_rfl) (Or.inl ⟨?_, ?_⟩) hS3 ?_
      rotate_left
      focus rfl
      focus (intro w' hw'; have hw1 := cells6 hw'.1; have hw2 := cells6 hw'.2.1; have hw3 := cells6 hw'.2.2; clear hw'; go_simp; with_reducible rfl)
      try go_simp)
     clear hsk2
     refine wpAnyD_ready (rs := [6]) (by kernel_rfl) (by simp) ?_
     refine AllReadyD.cons rfl (fun K hK => ?_) AllReadyD.nil
     refine step_append_a rfl (.tmp 43) (.tmp 47) 25 rfl (w2.heap.size + 1) 9 i0 _ 1 16 Tryz.underlying25 HI.out.1 HI.out.2.1 HI.out.2.2.1 HI.out.2.2.2 rfl (by decide) kv (i + 1) (n - (i + 1)) _ (by rfl) hk7 kx2 ((ks.map .string).drop ((i + 1) * 1)) (by rfl) (by rw [List.length_drop, List.length_map, HN.out]; omega) (HKX2.out _ (Same.of_below B7 HS.out)) (fun u hu => ones_str u (List.mem_of_mem_drop hu)) (by unfold maxLen; omega) (by omega) hz7 ?_
     rintro v8 W8 h8
     have hA8 := aft7_mk hB7 hz7 hS3.2.2 hk7 hv7 hap6 h8
     have hS8 := hS3.keep (app_below h8 hk7 (Below.refl (w2.heap.size + 1) W7) (Nat.le_refl _) hz7) (by omega) (by omega) (Nat.lt_succ_self _)
     obtain ⟨a8, c8, rfl⟩ := ownsRow_slice h8.owns
     clear h8 hk7 hv7 hap6 hB7 hz7 B7 hS3
     refine hK.out _ _ (fun h => absurd h (by decide)) ?_
     clear hK K
     try go_simp
     refine wpAnyD_ready (rs := [7]) (by kernel_rfl) (by simp) ?_
     refine AllReadyD.cons rfl (fun K hK => ?_) AllReadyD.nil
     go_simp
     refine hK.out _ _ (fun h => absurd h (by decide)) ?_
     clear hK K
     try go_simp
     have hcc := cells6 hS8.2.2
     refine wpAnyD_ready (rs := [8]) (by kernel_rfl) (by simp) ?_
     refine AllReadyD.cons rfl (fun K hK => ?_) AllReadyD.nil
     go_simp
     refine hK.out _ _ (fun h => absurd h (by decide)) ?_
     clear hK K
     try go_simp
     refine wpAnyD_done (by kernel_rfl) ?_ _
     clear hcc hS8
     generalize hW9 : World.setCell W8 _ _ = W9
     rw [hW9] at hA8
     clear hW9
     obtain ⟨kv9, vv9, hB9, hz9, hq9, hk9, hv9, hap9⟩ := hA8
     have hsv2 := HSV2.out
     go_upto_region 8 with fail
     refine wp_region_D (Three w.heap.size (w.heap.size + 1) w2.heap.size (.cells #[.int .i64 k, .int .i64 h, .string t, .slice la n1 lc, .slice ka n kc, .slice va n vc] 27 (0, 0)) (.cells #[.int .i64 t2, .int .i64 m2, .string tx2, .slice la2 a2 lc2, .slice ka2 b2 kc2, .slice va2 d2 vc2] 27 (0, 0)) (.cells #[.int .i64 6, .int .i64 0, .string ⟨#[]⟩, .slice none 0 0, kv9, vv9] 27 (0, 0))) [6, 7, 8] (by kernel_rfl) ?_
     generalize hWd : World.drew W9 = W7
     have hS3 : Three w.heap.size (w.heap.size + 1) w2.heap.size (.cells #[.int .i64 k, .int .i64 h, .string t, .slice la n1 lc, .slice ka n kc, .slice va n vc] 27 (0, 0)) (.cells #[.int .i64 t2, .int .i64 m2, .string tx2, .slice la2 a2 lc2, .slice ka2 b2 kc2, .slice va2 d2 vc2] 27 (0, 0)) (.cells #[.int .i64 6, .int .i64 0, .string ⟨#[]⟩, .slice none 0 0, kv9, vv9] 27 (0, 0)) W7 := hWd ▸ ⟨keep hB9 ZM2.out, keep hB9 ZV2.out, hq9⟩
     have hB7 : Below w2.heap.size w2 W7 := hWd ▸ hB9.drew
     have hz7 : w2.heap.size + 1 ≤ W7.heap.size := by rw [← hWd]; exact hz9
     have hk7 : W7.ownsRow (w2.heap.size + 1) 9 1 kv9 (i + 1 + (n - (i + 1))) ((ks.map .string).take i ++ [.string key] ++ (ks.map .string).drop ((i + 1) * 1)) := hWd ▸ hk9
     have hv7 : W7.ownsRow (w2.heap.size + 1) 27 6 vv9 (i + 1) (cs.take (i * 6) ++ [.int .i64 t2, .int .i64 m2, .string tx2, .slice la2 a2 lc2, .slice ka2 b2 kc2, .slice va2 d2 vc2]) := hWd ▸ hv9
     have B7 := B2.out.trans (hB7.mono B2.out.size)
     have hcl := HSIX.out.1
     clear hWd hB9 hz9 hq9 hk9 hv9
     (refine wpAnyD_take (i := 0) (v := ?_) [1, 6, 7, 8] [6, 7, 8] rfl (by kernel_rfl) (by kernel_rfl) (by kernel_rfl) (fun _ _ _ h => h) (by kernel_rfl) (by kernel_rfl) (by kernel_rfl) (Or.inl ⟨?_, ?_⟩) hS3 ?_
      rotate_left
      focus rfl
      focus (intro w' hw'; have hw1 := cells6 hw'.1; have hw2 := cells6 hw'.2.1; have hw3 := cells6 hw'.2.2; clear hw'; go_simp; with_reducible rfl)
      try go_simp)
     (refine wpAnyD_take (i := 1) (v := ?_) [6, 7, 8] [6, 7, 8] rfl (by kernel_rfl) (by kernel_rfl) (by kernel_rfl) (fun _ _ _ h => h) (by kernel_rfl) (by kernel_rfl) (by kernel_rfl) (Or.inl ⟨?_, ?_⟩) hS3 ?_
      rotate_left
      focus rfl
      focus (intro w' hw'; have hw1 := cells6 hw'.1; have hw2 := cells6 hw'.2.1; have hw3 := cells6 hw'.2.2; clear hw'; go_simp; with_reducible rfl)
      try go_simp)
     (refine wpAnyD_take (i := 2) (v := ?_) [3, 5, 6, 7, 8] [6, 7, 8] rfl (by kernel_rfl) (by kernel_rfl) (by kernel_rfl) (fun _ _ _ h => h) (by kernel_rfl) (by kernel_rfl) (by kernel_rfl) (Or.inl ⟨?_, ?_⟩) hS3 ?_
      rotate_left
      focus rfl
      focus (intro w' hw'; have hw1 := cells6 hw'.1; have hw2 := cells6 hw'.2.1; have hw3 := cells6 hw'.2.2; clear hw'; go_simp; with_reducible rfl)
      try go_simp)
     (refine wpAnyD_take (i := 3) (v := ?_) [5, 6, 7, 8] [6, 7, 8] rfl (by kernel_rfl) (by kernel_rfl) (by kernel_rfl) (fun _ _ _ h => h) (by kernel_rfl) (by kernel_rfl) (by kernel_rfl) (Or.inl ⟨?_, ?_⟩) hS3 ?_
      rotate_left
      focus rfl
      focus (intro w' hw'; have hw1 := cells6 hw'.1; have hw2 := cells6 hw'.2.1; have hw3 := cells6 hw'.2.2; clear hw'; go_simp; with_reducible rfl)
      try go_simp)
     (refine wpAnyD_take (i := 4) (v := ?_) [5, 6, 7, 8] [6, 7, 8] rfl (by kernel_rfl) (by kernel_rfl) (by kernel_rfl) (fun _ _ _ h => h) (by kernel_rfl) (by kernel_rfl) (by kernel_rfl) (Or.inl ⟨?_, ?_⟩) hS3 ?_
      rotate_left
      focus rfl
      focus (intro w' hw'; have hw1 := cells6 hw'.1; have hw2 := cells6 hw'.2.1; have hw3 := cells6 hw'.2.2; clear hw'; go_simp; with_reducible rfl)
      try go_simp)
     (refine wpAnyD_take (i := 5) (v := ?_) [6, 7, 8] [6, 7, 8] rfl (by kernel_rfl) (by kernel_rfl) (by kernel_rfl) (fun _ _ _ h => h) (by kernel_rfl) (by kernel_rfl) (by kernel_rfl) (Or.inl ⟨?_, ?_⟩) hS3 ?_
      rotate_left
      focus rfl
      focus (intro w' hw'; have hw1 := cells6 hw'.1; have hw2 := cells6 hw'.2.1; have hw3 := cells6 hw'.2.2; clear hw'; go_simp; with_reducible rfl)
      try go_simp)
     clear hsv2
     refine wpAnyD_ready (rs := [6]) (by kernel_rfl) (by simp) ?_
     refine AllReadyD.cons rfl (fun K hK => ?_) AllReadyD.nil
     refine step_append_a rfl (.tmp 51) (.tmp 55) 22 rfl (w2.heap.size + 1) 27 j0 _ 6 104 Tryz.underlying22 HJ.out.1 HJ.out.2.1 HJ.out.2.2.1 HJ.out.2.2.2 rfl (by decide) vv9 (i + 1) (n - (i + 1)) _ (by rfl) hv7 vx2 (cs.drop ((i + 1) * 6)) (by rfl) (by rw [List.length_drop, hcl, HN2.out]; omega) (HVX2.out _ (Same.of_below B7 HS.out)) (fun u hu => HSIX.out.ones u (List.mem_of_mem_drop hu)) (by unfold maxLen; omega) (by omega) hz7 ?_
     rintro v8 W8 h8
     have hA8 := aft8_mk hB7 hz7 hS3.2.2 hk7 hv7 hap9 h8
     have hS8 := hS3.keep (app_below h8 hv7 (Below.refl (w2.heap.size + 1) W7) (Nat.le_refl _) hz7) (by omega) (by omega) (Nat.lt_succ_self _)
     obtain ⟨a8, c8, rfl⟩ := ownsRow_slice h8.owns
     clear h8 hk7 hv7 hap9 hB7 hz7 B7 hS3
     refine hK.out _ _ (fun h => absurd h (by decide)) ?_
     clear hK K
     try go_simp
     refine wpAnyD_ready (rs := [7]) (by kernel_rfl) (by simp) ?_
     refine AllReadyD.cons rfl (fun K hK => ?_) AllReadyD.nil
     go_simp
     refine hK.out _ _ (fun h => absurd h (by decide)) ?_
     clear hK K
     try go_simp
     have hcc := cells6 hS8.2.2
     refine wpAnyD_ready (rs := [8]) (by kernel_rfl) (by simp) ?_
     refine AllReadyD.cons rfl (fun K hK => ?_) AllReadyD.nil
     go_simp
     refine hK.out _ _ (fun h => absurd h (by decide)) ?_
     clear hK K
     try go_simp
     refine wpAnyD_done (by kernel_rfl) ?_ _
     clear hcc hS8
     generalize hW9 : World.setCell W8 _ _ = W10
     rw [hW9] at hA8
     clear hW9
     obtain ⟨kv10, vv10, hB10, hz10, hq10, hk10, hv10, hap10⟩ := hA8
     have BW := B2.out.trans (hB10.mono B2.out.size)
     have hM := with_done HN.out HN2.out HS.out BW B2.out.size hin (show (i + 1) ≤ n by omega) hk10 hv10 HSIX.out HV.out
     have hcr := cells6 (keep hB10 ZR2.out)
     have hco := cells6 hq10
     obtain ⟨a10, c10, rfl⟩ := ownsRow_slice hk10
     obtain ⟨a11, c11, rfl⟩ := ownsRow_slice hv10
     have HM := Lib.hid hM
     have HBW := Lib.hid BW
     have hlt1 := heap_lt ZR2.out
     have hlt2 := B2.out.size
     clear hM BW hk10 hv10 hap10 hq10
     go_wp2_with fail
     have zz := (cells6 (set6_block (keep hB10 ZR2.out) (.int .i64 6) (.int .i64 0) (.string ⟨#[]⟩) (.slice none 0 0) (.slice a10 (i + 1 + (n - (i + 1))) c10) (.slice a11 (i + 1 + (n - (i + 1))) c11))).1
     have HF := Lib.hid (sets6 HBW.out (show w.heap.size ≤ w.heap.size + 1 + 1 by omega) (.int .i64 6) (.int .i64 0) (.string ⟨#[]⟩) (.slice none 0 0) (.slice a10 (i + 1 + (n - (i + 1))) c10) (.slice a11 (i + 1 + (n - (i + 1))) c11))
     have HMF := Lib.hid (HM.out.mono (w' := ((((((W10.setCell ⟨w.heap.size + 1 + 1, 0, none⟩ (.int .i64 6)).setCell ⟨w.heap.size + 1 + 1, 1, none⟩ (.int .i64 0)).setCell ⟨w.heap.size + 1 + 1, 2, none⟩ (.string ⟨#[]⟩)).setCell ⟨w.heap.size + 1 + 1, 3, none⟩ (.slice none 0 0)).setCell ⟨w.heap.size + 1 + 1, 4, none⟩ (.slice a10 (i + 1 + (n - (i + 1))) c10)).setCell ⟨w.heap.size + 1 + 1, 5, none⟩ (.slice a11 (i + 1 + (n - (i + 1))) c11))) (T := fun r => S r ∨ w.heap.size ≤ r) (fun b hb => sets_other _ _ _ _ _ _ (fun e => by
       rcases hb with hb | hb
       · have := HS.out b hb; omega
       · omega)) (fun b hb => by
       rcases hb with hb | hb
       · exact .inl hb
       · exact .inr (by omega)))
     clear hcr hco HM HBW
     generalize (((((World.setCell W10 _ _).setCell _ _).setCell _ _).setCell _ _).setCell _ _).setCell _ _ = WF at zz HF HMF ⊢
     obtain ⟨z0, z1, z2, z3, z4, z5⟩ := zz
     refine bodyPost_ret (v := MapV (.slice a10 (i + 1 + (n - (i + 1))) c10) (.slice a11 (i + 1 + (n - (i + 1))) c11)) (by simp [results, Tryz.results127, go_sem, z0, z1, z2, z3, z4, z5, MapV]) rfl ?_
     exact ⟨i, (i + 1), _, _, rfl, HF.out, HMF.out, fun q => by (first | exact ⟨(HALL.out q).1.trans HN.out.symm, (HALL.out q).1.trans HN.out.symm⟩ | exact absurd (HALL.out q).2 (by decide)), by omega, by rw [HN.out]; exact hin, by omega, by rw [HN.out]; omega⟩)
end Go.Proofs.YtgjmgneppecfgaaGreatDoor.Pa
