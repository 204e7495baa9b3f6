/-
  FnFormat, texts FoD FoE: lemmas for the law; the theorem stands in the last text.
-/
import Derived.Test.YtgjmgneppecfgaaGreatDoorJ15
import Derived.Test.YtgjmgneppecfgaaGreatDoorJ18
import Derived.Test.YtgjmgneppecfgaaGreatDoorJ24
import Derived.Test.YtgjmgneppecfgaaGreatDoorJ27
namespace Go.Proofs.YtgjmgneppecfgaaGreatDoor.Fo
open Go.RowKit Go.Proofs.YtgjmgneppecfgaaGreatDoor.Va Go.Proofs.YtgjmgneppecfgaaGreatDoor.Ba Go.Proofs.YtgjmgneppecfgaaGreatDoor.Ma Go.Proofs.YtgjmgneppecfgaaGreatDoor.Pa
set_option linter.unusedVariables false
set_option linter.unusedSimpArgs false

/-- what is read, a nil slice of whatever room too -/
def Src0 (w : World) (x : Value) (m : Nat) (news : List Value) : Prop := (∃ c, x = .slice none 0 c ∧ m = 0 ∧ news = []) ∨ ∃ ad c, x = .slice (some ad) m c ∧ ∀ j u, news[j]? = some u → w.cell? (ad.add j) = some u
section
variable {P : Program} {w : World}
theorem run_append_0 (base : Nat) (t ty e : TypeId) (i : TypeInfo) (size : Nat) (ht : P.underlying t = some (.slice e)) (hi : P.info? e = some i)
    (v : Value) (n c : Nat) (xs : List Value) (hown : w.ownsRow base e size v n xs) : (Builtin.append_ #[t, t] ty #[v, .slice none 0 c]).run P w = .ok v w := by
  rcases hown.2 with ⟨rfl, rfl⟩ | ⟨g, cap, cur, rfl, _, _, hnc, _⟩
  · simp [Builtin.append_, run_underlying ht, sizeOf, typeInfo, hi, Builtin.lenOf, Builtin.firstCells]
  · simp [Builtin.append_, run_underlying ht, sizeOf, typeInfo, hi, Builtin.lenOf, Builtin.firstCells, hnc, storeCells]
theorem run_append_b (base : Nat) (t ty e : TypeId) (i : TypeInfo) (z : Value) (size bytes : Nat) (ht : P.underlying t = some (.slice e)) (hi : P.info? e = some i) (hz : i.zero = some z)
    (hsize : i.size = size) (hby : i.bytes = bytes) (hzs : z.cells.size = size) (hsz : 0 < size) (v : Value) (n m : Nat) (xs : List Value) (hown : w.ownsRow base e size v n xs)
    (x : Value) (news : List Value) (hl : news.length = m * size) (hsrc : Src0 w x m news) (h1 : ∀ u ∈ news, u.oneCell' = true)
    (h63 : n + m ≤ maxLen) (hbytes : (n + m) * bytes ≤ 140737488355328) (hbase : base ≤ w.heap.size) :
    ∃ v' w', (Builtin.append_ #[t, t] ty #[v, x]).run P w = .ok v' w' ∧ AppA w base e size v n m (xs ++ news) v' w' := by
  rcases hsrc with ⟨c, rfl, rfl, rfl⟩ | h
  · exact ⟨v, w, run_append_0 base t ty e i size ht hi v n c xs hown, by simpa using hown, ⟨rfl, rfl, rfl, Nat.le_refl _, fun _ _ _ => rfl⟩, .inl rfl⟩
  · exact run_append_a (P := P) (w := w) base t ty e i z size bytes ht hi hz hsize hby hzs hsz v n m xs hown x news hl (.inr h) h1 h63 hbytes hbase
theorem app_below {w w' a : World} {base size n m B : Nat} {e : TypeId} {v v' : Value} {xs zs : List Value} (h : AppA w base e size v n m xs v' w') (hown : w.ownsRow base e size v n zs) (hB : Below B a w) (hb : B ≤ base) (hw : B ≤ w.heap.size) : Below B a w' :=
  Below.grown hB h.grown hw (fun k hk => Nat.le_trans hb (hown.lt k hk).1)
theorem step_append_b {ops : Array Oper} {Q : Exit → Act → World → Prop} {a : Act} {K : Act → World → Prop} {E : Prop} {o : Oper}
    (hg : o.guard = none) (s x : Operand) (t : TypeId) (hop : o.op = Op.call { callee := Callee.builtin Builtin.append, args := #[s, x], argTypes := #[t, t] })
    (base : Nat) (e : TypeId) (i : TypeInfo) (z : Value) (size bytes : Nat) (ht : P.underlying t = some (.slice e)) (hi : P.info? e = some i) (hz : i.zero = some z)
    (hsize : i.size = size) (hby : i.bytes = bytes) (hzs : z.cells.size = size) (hsz : 0 < size)
    (v : Value) (n m : Nat) (xs : List Value) (hs : a.eval s = v) (hown : w.ownsRow base e size v n xs)
    (xv : Value) (news : List Value) (hx : a.eval x = xv) (hl : news.length = m * size) (hsrc : Src0 w xv m news) (h1 : ∀ u ∈ news, u.oneCell' = true)
    (h63 : n + m ≤ maxLen) (hbytes : (n + m) * bytes ≤ 140737488355328) (hbase : base ≤ w.heap.size)
    (hK : ∀ v' w', AppA w base e size v n m (xs ++ news) v' w' → K (a.put o.dst v') w') :
    if Region.wanted o (yielded ops a.tmps) = true then Oper.wp P o a w K Q else E := by
  have hw : Region.wanted o (yielded ops a.tmps) = true := by simp [Region.wanted, hg]
  rw [if_pos hw]
  obtain ⟨v', w', hr, h2⟩ := run_append_b (P := P) (w := w) base t o.type e i z size bytes ht hi hz hsize hby hzs hsz v n m xs hown xv news hl hsrc h1 h63 hbytes hbase
  unfold Oper.wp execOp
  simp only [hop, resolve, invoke, builtin, Sem.run_bind, Sem.run_pure, Result.andThen_ok, List.map_toArray, List.map_cons, List.map_nil, hs, hx, hr]
  exact hK v' w' h2
end
/-- a list of values, as cells -/
theorem rl_six {w : World} {S : Nat → Prop} {ls : List V} {a : Option Addr} (h : RL w S ls a) (c : Nat) : ∃ cs, SixL w S ls cs ∧ ((a = none ∧ ls = []) ∨ (ls = [] ∧ cs = []) ∨ ∃ b o, a = some ⟨b, o, none⟩ ∧ S b ∧ ∀ j u, cs[j]? = some u → w.cell? ⟨b, o + j, none⟩ = some u) := by
  induction ls generalizing a with
  | nil => exact ⟨[], ⟨rfl, fun i hi => by simp at hi⟩, .inr (.inl ⟨rfl, rfl⟩)⟩
  | cons x xs ih =>
    rw [RL] at h
    obtain ⟨b, o, c0, c1, c2, c3, c4, c5, rfl, hS, ⟨h0, h1, h2, h3, h4, h5⟩, hx, hr⟩ := h
    obtain ⟨cs, hs, hc⟩ := ih hr
    refine ⟨[c0, c1, c2, c3, c4, c5] ++ cs, (SixL.one hx).app hs, .inr (.inr ⟨b, o, rfl, hS, fun j u hj => ?_⟩)⟩
    have hfirst : j < 6 → w.cell? ⟨b, o + j, none⟩ = some u := fun hj6 => by
      rcases (show j = 0 ∨ j = 1 ∨ j = 2 ∨ j = 3 ∨ j = 4 ∨ j = 5 by omega) with rfl | rfl | rfl | rfl | rfl | rfl <;> (simp at hj; subst hj; assumption)
    by_cases hj6 : j < 6
    · exact hfirst hj6
    · rw [List.getElem?_append_right (by simp; omega)] at hj
      have hj' : cs[j - 6]? = some u := by simpa using hj
      rcases hc with ⟨e, _⟩ | ⟨_, e⟩ | ⟨b', o', e, _, hc⟩
      · cases e
      · rw [e] at hj'; simp at hj'
      · cases e
        have := hc _ _ hj'
        rwa [show o + 6 + (j - 6) = o + j by omega] at this
theorem rl_src {w W : World} {S : Nat → Prop} {ls : List V} {a : Option Addr} {cs : List Value} (h : (a = none ∧ ls = []) ∨ (ls = [] ∧ cs = []) ∨ ∃ b o, a = some ⟨b, o, none⟩ ∧ S b ∧ ∀ j u, cs[j]? = some u → w.cell? ⟨b, o + j, none⟩ = some u) (hs : SixL w S ls cs) (hW : Same S w W) (c : Nat) : Src0 W (.slice a ls.length c) ls.length cs := by
  rcases h with ⟨rfl, rfl⟩ | ⟨rfl, rfl⟩ | ⟨b, o, rfl, hS, hc⟩
  · have : cs = [] := List.eq_nil_of_length_eq_zero hs.1
    subst this
    exact .inl ⟨c, rfl, rfl, rfl⟩
  · cases a with
    | none => exact .inl ⟨c, rfl, rfl, rfl⟩
    | some ad => exact .inr ⟨ad, c, rfl, fun j u hj => by simp at hj⟩
  · refine .inr ⟨_, c, rfl, fun j u hj => ?_⟩
    rw [Lib.addr_add]
    exact (hW.cell hS).trans (hc j u hj)
theorem bel_dn {B : Nat} {w w' : World} (h : Below B w w') (n : Nat) : Below B w (w'.drewN n) := ⟨h.os, h.tape, h.output, h.size, h.block⟩
/-- what JSON leaves -/
def JsonEnd (x : V) (w : World) (e : Ending) (w' : World) : Prop := ∃ (s : ByteArray) (how : Int), e = .returned (.tuple #[.string s, .int .i64 how]) ∧ Below w.heap.size w w' ∧ s.size ≤ 70368744177664 ∧ (how = 2 ∨ (how = 0 ∧ s = numS (encJ x)))
def SJ (x : V) : Prop := ∀ (v : Value) (S : Nat → Prop) (w : World), RV w S x v → (∀ b, S b → b < w.heap.size) → Calls Tryz.prog 65 #[v] w (JsonEnd x w)
set_option maxHeartbeats 2000000 in
set_option maxRecDepth 100000 in
theorem json_plain (k h : Int) (t : ByteArray) (ls : List V) (ks : List ByteArray) (vs : List V) (g : Good1 k h t ls ks vs) (hk : k ≤ 4) (w : World) (la ka va : Option Addr) (n1 lc n2 kc n3 vc : Nat) :
    Calls Tryz.prog 65 #[.agg #[.int .i64 k, .int .i64 h, .string t, .slice la n1 lc, .slice ka n2 kc, .slice va n3 vc]] w (JsonEnd (.mk k h t ls ks vs) w) := by
  have hk0 := g.k0
  have HF := Lib.hid (fun W => figures_any h g.lo g.hi W)
  have HQ := Lib.hid (fun W => quoted_any t (Nat.le_trans g.tb (by decide)) W)
  have htb := g.tb
  clear g
  rcases (show k = 0 ∨ k = 1 ∨ k = 2 ∨ k = 3 ∨ k = 4 by omega) with rfl | rfl | rfl | rfl | rfl
  · go_enter Tryz.func65, Tryz.ntmps65
    go_wp2_with fail
    go_returns
    exact ⟨⟨#[110, 117, 108, 108]⟩, 0, rfl, by go_grown, by decide, .inr ⟨rfl, by rw [encJ]; rfl⟩⟩
  · go_enter Tryz.func65, Tryz.ntmps65
    go_wp2_with fail
    go_returns
    exact ⟨⟨#[102, 97, 108, 115, 101]⟩, 0, rfl, by go_grown, by decide, .inr ⟨rfl, by rw [encJ]; rfl⟩⟩
  · go_enter Tryz.func65, Tryz.ntmps65
    go_wp2_with fail
    go_returns
    exact ⟨⟨#[116, 114, 117, 101]⟩, 0, rfl, by go_grown, by decide, .inr ⟨rfl, by rw [encJ]; rfl⟩⟩
  · go_enter Tryz.func65, Tryz.ntmps65
    go_wp2_with fail
    refine (HF.out _).mono ?_
    rintro e w1 ⟨s, how, rfl, rfl, hs, hhow⟩
    have HH := Lib.hid hhow
    clear hhow
    go_wp2_with fail
    go_returns
    exact ⟨s, how, rfl, by go_grown, by omega, by rw [encJ]; exact HH.out⟩
  · go_enter Tryz.func65, Tryz.ntmps65
    go_wp2_with fail
    refine (HQ.out _).mono ?_
    rintro e w1 ⟨s, how, rfl, ⟨nq, rfl⟩, hs, hhow⟩
    have HH := Lib.hid hhow
    clear hhow
    go_wp2_with fail
    go_returns
    exact ⟨s, how, rfl, bel_dn (by go_grown) _, by omega, by rw [encJ]; exact HH.out⟩
end Go.Proofs.YtgjmgneppecfgaaGreatDoor.Fo
namespace Go.Proofs.YtgjmgneppecfgaaGreatDoor.Fo
open Go.RowKit Go.Proofs.YtgjmgneppecfgaaGreatDoor.Va Go.Proofs.YtgjmgneppecfgaaGreatDoor.Ba Go.Proofs.YtgjmgneppecfgaaGreatDoor.Ma Go.Proofs.YtgjmgneppecfgaaGreatDoor.Pa
set_option linter.unusedVariables false
set_option linter.unusedSimpArgs false

def LoopJ (w : World) (o0 : Obj) (ls : List V) (n : Nat) (rv : Value) (cs : List Value) (ov iv : Value) (wr : World) : Prop :=
  ∃ (i : Nat) (o : ByteArray), ov = .string o ∧ iv = .int .i64 (i : Int) ∧ i ≤ n ∧ o = numS ((encC (ls.take i)).tail) ∧ Below w.heap.size w wr ∧ wr.heap[w.heap.size]? = some o0 ∧ wr.ownsRow (w.heap.size + 1) 27 6 rv n cs
theorem src0_nil (W : World) (a : Option Addr) (c : Nat) : Src0 W (.slice a 0 c) 0 [] := by
  cases a with
  | none => exact .inl ⟨c, rfl, rfl, rfl⟩
  | some ad => exact .inr ⟨ad, c, rfl, fun j u hj => by simp at hj⟩
theorem row_empty {W : World} {g : Nat} {e : TypeId} (h : W.heap[g]? = some (.cells #[] e (0, 0))) : W.ownsRow g e 6 (.slice (some ⟨g, 0, none⟩) 0 0) 0 [] :=
  ⟨rfl, .inr ⟨g, 0, #[], rfl, Nat.le_refl _, h, Nat.le_refl _, Nat.zero_le _, rfl, rfl⟩⟩
theorem owns_some {w : World} {base size n c : Nat} {e : TypeId} {a : Option Addr} {xs : List Value} (h : w.ownsRow base e size (.slice a n c) n xs) (hn : 0 < n) : ∃ g, a = some ⟨g, 0, none⟩ := by
  rcases h.2 with ⟨_, h0⟩ | ⟨g, cap, cur, e1, _⟩
  · omega
  · cases e1; exact ⟨g, rfl⟩
theorem owns_cap {w : World} {base size n c : Nat} {e : TypeId} {a : Option Addr} {xs : List Value} (h : w.ownsRow base e size (.slice a n c) n xs) (hn : 0 < n) : n ≤ c := by
  rcases h.2 with ⟨_, h0⟩ | ⟨g, cap, cur, e1, _, _, h1, _⟩
  · omega
  · cases e1; exact h1
theorem row_six {w : World} {base g n c : Nat} {cs : List Value} (h : w.ownsRow base 27 6 (.slice (some ⟨g, 0, none⟩) n c) n cs) {i : Nat} {c0 c1 c2 c3 c4 c5 : Value} (k : SixAt cs (i * 6) c0 c1 c2 c3 c4 c5) :
    w.cell? ⟨g, i * 6, none⟩ = some c0 ∧ w.cell? ⟨g, i * 6 + 1, none⟩ = some c1 ∧ w.cell? ⟨g, i * 6 + 2, none⟩ = some c2 ∧ w.cell? ⟨g, i * 6 + 3, none⟩ = some c3 ∧ w.cell? ⟨g, i * 6 + 4, none⟩ = some c4 ∧ w.cell? ⟨g, i * 6 + 5, none⟩ = some c5 := by
  obtain ⟨k0, k1, k2, k3, k4, k5⟩ := k
  exact ⟨(ownsRow_cell h _ k0).1, (ownsRow_cell h _ k1).1, (ownsRow_cell h _ k2).1, (ownsRow_cell h _ k3).1, (ownsRow_cell h _ k4).1, (ownsRow_cell h _ k5).1⟩
set_option maxHeartbeats 4000000 in
set_option maxRecDepth 100000 in
theorem json_list (ls : List V) (IH : ∀ y ∈ ls, SJ y) (hsm : (encJ (listV ls)).length ≤ 26214400) (n : Nat) (hn : ls.length = n) (hn2 : n ≤ 1000) (S : Nat → Prop) (w : World) (t : ByteArray) (h : Int) (la ka va : Option Addr) (lc kc vc : Nat) (hl : RL w S ls la) (hS : ∀ b, S b → b < w.heap.size) :
    Calls Tryz.prog 65 #[.agg #[.int .i64 5, .int .i64 h, .string t, .slice la n lc, .slice ka 0 kc, .slice va 0 vc]] w (JsonEnd (listV ls) w) := by
  obtain ⟨cs, hcs, hsrc⟩ := rl_six hl lc
  obtain ⟨j0, hj, hy0, hy1, hy2⟩ := info_parts infoValue
  have HJ := Lib.hid (And.intro hj (And.intro hy0 (And.intro hy1 hy2)))
  clear hj hy0 hy1 hy2
  have HIH := Lib.hid IH
  have HN := Lib.hid hn
  have HS := Lib.hid hS
  have HCS := Lib.hid hcs
  have HSR : Hid (∀ W, Same S w W → Src0 W (.slice la n lc) n cs) := Lib.hid (fun W hW => by rw [← hn]; exact rl_src hsrc hcs hW lc)
  have HSM := Lib.hid hsm
  have hcl : cs.length = n * 6 := by rw [hcs.1, hn]
  clear IH hn hS hcs hsrc hsm hl
  go_enter Tryz.func65, Tryz.ntmps65
  go_wp2_with fail
  generalize hW : World.alloc w _ = W
  have B1 := Lib.hid (hW ▸ below_alloc w _ : Below w.heap.size w W)
  have z : W.heap[w.heap.size]? = some (.cells #[.int .i64 5, .int .i64 h, .string t, .slice la n lc, .slice ka 0 kc, .slice va 0 vc] 27 (0, 0)) := hW ▸ block_new w _ _
  have hWs : W.heap.size = w.heap.size + 1 := by rw [← hW]; simp
  clear hW
  have c0 := cells6 z
  go_upto_region 17 with fail
  refine wp_region_D (fun W => W.heap[w.heap.size]? = some (.cells #[.int .i64 5, .int .i64 h, .string t, .slice la n lc, .slice ka 0 kc, .slice va 0 vc] 27 (0, 0))) [] (by kernel_rfl) ?_
  generalize hWd : World.drew W = W4
  have hS3 : W4.heap[w.heap.size]? = some (.cells #[.int .i64 5, .int .i64 h, .string t, .slice la n lc, .slice ka 0 kc, .slice va 0 vc] 27 (0, 0)) := hWd ▸ z
  have B4 : Below w.heap.size w W4 := hWd ▸ B1.out.drew
  have hW4 : W4.heap.size = w.heap.size + 1 := by rw [← hWd]; exact hWs
  clear hWd hWs B1 z c0
  (refine wpAnyD_take (i := 1) (v := ?_) [] [] rfl (by kernel_rfl) (by kernel_rfl) (by kernel_rfl) (fun _ _ _ h => h) (by kernel_rfl) (by kernel_rfl) (by kernel_rfl) (Or.inl ⟨?_, ?_⟩) hS3 ?_
   rotate_left
   focus rfl
   focus (intro w' hw'; have hw1 := cells6 hw'; clear hw'; go_simp; with_reducible rfl)
   try go_simp)
  (refine wpAnyD_take (i := 2) (v := ?_) [] [] rfl (by kernel_rfl) (by kernel_rfl) (by kernel_rfl) (fun _ _ _ h => h) (by kernel_rfl) (by kernel_rfl) (by kernel_rfl) (Or.inl ⟨?_, ?_⟩) hS3 ?_
   rotate_left
   focus rfl
   focus (intro w' hw'; have hw1 := cells6 hw'; clear hw'; go_simp; with_reducible rfl)
   try go_simp)
  (refine wpAnyD_take (i := 4) (v := ?_) [] [] rfl (by kernel_rfl) (by kernel_rfl) (by kernel_rfl) (fun _ _ _ h => h) (by kernel_rfl) (by kernel_rfl) (by kernel_rfl) (Or.inl ⟨?_, ?_⟩) hS3 ?_
   rotate_left
   focus rfl
   focus (intro w' hw'; have hw1 := cells6 hw'; clear hw'; go_simp; with_reducible rfl)
   try go_simp)
  (refine wpAnyD_take (i := 5) (v := ?_) [] [] rfl (by kernel_rfl) (by kernel_rfl) (by kernel_rfl) (fun _ _ _ h => h) (by kernel_rfl) (by kernel_rfl) (by kernel_rfl) (Or.inl ⟨?_, ?_⟩) hS3 ?_
   rotate_left
   focus rfl
   focus (intro w' hw'; have hw1 := cells6 hw'; clear hw'; go_simp; with_reducible rfl)
   try go_simp)
  (refine wpAnyD_take (i := 8) (v := ?_) [] [] rfl (by kernel_rfl) (by kernel_rfl) (by kernel_rfl) (fun _ _ _ h => h) (by kernel_rfl) (by kernel_rfl) (by kernel_rfl) (Or.inl ⟨?_, ?_⟩) hS3 ?_
   rotate_left
   focus rfl
   focus (intro w' hw'; have hw1 := cells6 hw'; clear hw'; go_simp; with_reducible rfl)
   try go_simp)
  refine wpAnyD_ready (rs := [0]) (by kernel_rfl) (by simp) ?_
  refine AllReadyD.cons rfl (fun K hK => ?_) AllReadyD.nil
  go_simp
  have q5 := block_new W4 #[] 27
  have b5 := below_alloc W4 (.cells #[] 27)
  refine hK.out _ _ (fun _ => keep b5 hS3) ?_
  clear hK K
  try go_simp
  generalize hW5 : World.alloc W4 _ = W5
  rw [hW5] at q5 b5
  have hW5s : W5.heap.size = w.heap.size + 1 + 1 := by rw [← hW5]; simp [hW4]
  clear hW5
  refine wpAnyD_ready (rs := [3]) (by kernel_rfl) (by simp) ?_
  refine AllReadyD.cons rfl (fun K hK => ?_) AllReadyD.nil
  rw [hW4] at q5
  have hrow := row_empty q5
  have hS5 := keep b5 hS3
  have hB5 := B4.trans (b5.mono B4.size)
  refine step_append_b rfl (.tmp 64) (.tmp 66) 22 rfl (w.heap.size + 1) 27 j0 _ 6 104 Tryz.underlying22 HJ.out.1 HJ.out.2.1 HJ.out.2.2.1 HJ.out.2.2.2 rfl (by decide) (.slice (some ⟨w.heap.size + 1, 0, none⟩) 0 0) 0 n [] (by rfl) hrow (.slice la n lc) cs (by rfl) hcl (HSR.out _ (Same.of_below hB5 HS.out)) HCS.out.ones (by unfold maxLen; omega) (by omega) (by omega) ?_
  rintro v6 W6 h6
  have hb6 := app_below h6 hrow (Below.refl (w.heap.size + 1) W5) (Nat.le_refl _) (by omega)
  have hS6 := (hb6.block w.heap.size (Nat.lt_succ_self _)).trans hS5
  have hB6 := hB5.trans (hb6.mono (Nat.le_succ _))
  have hs6 := hb6.size
  refine hK.out _ _ (fun _ => hS6) ?_
  clear hK K
  try go_simp
  refine wpAnyD_ready (rs := [6]) (by kernel_rfl) (by simp) ?_
  refine AllReadyD.cons rfl (fun K hK => ?_) AllReadyD.nil
  refine step_append_b rfl (.tmp 67) (.tmp 69) 22 rfl (w.heap.size + 1) 27 j0 _ 6 104 Tryz.underlying22 HJ.out.1 HJ.out.2.1 HJ.out.2.2.1 HJ.out.2.2.2 rfl (by decide) v6 (0 + n) 0 _ (by rfl) h6.owns (.slice va 0 vc) [] (by rfl) rfl (src0_nil _ _ _) (by simp) (by unfold maxLen; omega) (by omega) (by omega) ?_
  rintro v7 W7 h7
  have hb7 := app_below h7 h6.owns hb6 (Nat.le_refl _) (by omega)
  have hS7 := (hb7.block w.heap.size (Nat.lt_succ_self _)).trans hS5
  have hB7 := hB5.trans (hb7.mono (Nat.le_succ _))
  have hown : W7.ownsRow (w.heap.size + 1) 27 6 v7 n cs := by simpa using h7.owns
  obtain ⟨a7, c7, rfl⟩ := ownsRow_slice hown
  clear h6 h7 hb6 hb7 hS6 hB6 hS3 B4 b5 hrow q5
  refine hK.out _ _ (fun _ => hS7) ?_
  clear hK K
  try go_simp
  refine wpAnyD_ready (rs := [7]) (by kernel_rfl) (by simp) ?_
  refine AllReadyD.cons rfl (fun K hK => ?_) AllReadyD.nil
  go_simp
  refine hK.out _ _ (fun _ => hS7) ?_
  clear hK K
  try go_simp
  refine wpAnyD_done (by kernel_rfl) ?_ _
  have HB7 := Lib.hid hB7
  have HS7 := Lib.hid hS7
  have HOW := Lib.hid hown
  clear hB7 hS7 hown hS5 hB5 hs6 hW4 hW5s
  go_wp2_with fail
  go_loopw [4, 72] (LoopJ w (.cells #[.int .i64 5, .int .i64 h, .string t, .slice la n lc, .slice ka 0 kc, .slice va 0 vc] 27 (0, 0)) ls n (.slice a7 n c7) cs) (fun _ iv _ => n - (intOf iv).toNat)
  case atStart => exact ⟨0, ⟨#[]⟩, rfl, rfl, Nat.zero_le _, by rw [List.take_zero, encC]; rfl, HB7.out, HS7.out, HOW.out⟩
  case round =>
    obtain ⟨i, o, rfl, rfl, hi, ho, hb, hz, hown⟩ := hrel
    have HO := Lib.hid ho
    have HBW := Lib.hid hb
    have HZ := Lib.hid hz
    have HOWN := Lib.hid hown
    have c1 := cells6 hz
    clear ho hb hz hown
    by_cases hlt : i < n
    · obtain ⟨g, rfl⟩ := owns_some HOWN.out (by omega)
      have hlt' : i < ls.length := by rw [HN.out]; exact hlt
      obtain ⟨c0, c1', c2, c3, c4, c5, h6, hx⟩ := HCS.out.2 i hlt'
      obtain ⟨la2, lc2, ka2, kc2, va2, vc2, t2, m2, tx2, q1, q2, q3, e, HX⟩ := RV.parts hx
      simp only [Value.agg.injEq, Array.mk.injEq, List.cons.injEq, and_true] at e
      obtain ⟨rfl, rfl, rfl, rfl, rfl, rfl⟩ := e
      have hc := row_six HOWN.out h6
      have hwr := heap_lt HZ.out
      have hcap := owns_cap HOWN.out (by omega)
      have i0 : (0 : Int) ≤ (i : Int) := by omega
      have i1 : (i : Int) < (n : Int) := by omega
      have HIX := Lib.hid (HIH.out ls[i] (List.getElem_mem hlt'))
      obtain ⟨X, hX⟩ : ∃ X, ls[i] = X := ⟨_, rfl⟩
      have HXE := Lib.hid hX
      have hnext := encC_next hlt'
      rw [hX] at HIX HX hnext
      have HNX := Lib.hid hnext
      have hoE : encJ (listV ls) = 91 :: ((encC ls).tail ++ [93]) := by unfold listV; rw [encJ]; rfl
      have hspl : (encC ls).tail = (encC (ls.take (i + 1))).tail ++ encC (ls.drop (i + 1)) := by
        rw [← tail_append (encC_ne (by rw [List.length_take]; omega)), ← encC_append, List.take_append_drop]
      have hlen : ((encC (ls.take (i + 1))).tail).length + 2 ≤ 70368744177664 := by
        have := HSM.out
        rw [hoE, hspl] at this
        simp at this
        simp
        omega
      have hol : o.size = ((encC (ls.take i)).tail).length := by rw [HO.out, numS_size]
      have HLT := Lib.hid (encC_lt (ls.take i))
      have HLX := Lib.hid (encJ_lt X)
      by_cases h0 : 0 < i
      · have h0' : (0 : Int) < (i : Int) := by omega
        rw [hnext, if_pos h0, List.length_append, List.length_append] at hlen
        have a1 : o.size + (⟨#[44]⟩ : ByteArray).size ≤ 140737488355328 := by show o.size + 1 ≤ _; rw [hol]; omega
        have HS2 : Hid (o.size + 1 + (encJ X).length + 2 ≤ 70368744177664) := Lib.hid (by rw [hol]; simp at hlen ⊢; omega)
        have HO2 : Hid (o ++ ⟨#[44]⟩ = numS ((encC (ls.take i)).tail ++ [44])) := Lib.hid (app_num o [44] (by decide) rfl _ HO.out (fun x hx => HLT.out x (List.mem_of_mem_tail hx)))
        clear hX hx h6 hnext hoE hspl hlen hol
        go_wp2_with fail
        have HA9 : Hid ((o ++ ⟨#[44]⟩ : ByteArray).size + (encJ X).length ≤ 140737488355328) := Lib.hid (by rw [ByteArray.size_append]; show o.size + 1 + _ ≤ _; have := HS2.out; omega)
        have HN9 : Hid ((encC (ls.take (i + 1))).tail = ((encC (ls.take i)).tail ++ [44]) ++ encJ X) := Lib.hid (by rw [HNX.out, if_pos h0])
        (generalize hW9 : World.alloc wr _ = W9
         have b9 := hW9 ▸ below_alloc wr (.cells #[.int .i64 t2, .int .i64 m2, .string tx2, .slice la2 q1 lc2, .slice ka2 q2 kc2, .slice va2 q3 vc2] 27)
         clear hW9
         have HB9 := Lib.hid (HBW.out.trans (b9.mono HBW.out.size))
         have HZ9 := Lib.hid (keep b9 HZ.out)
         have HOW9 := Lib.hid (ownsRow_same HOWN.out (fun b hb => b9.block b (HOWN.out.lt b hb.symm).2))
         clear b9 c1 hc
         refine (HIX.out _ S W9 (RV.mono (Same.of_below HB9.out HS.out) (fun _ h => h) _ _ HX.out) (fun b h => Nat.lt_of_lt_of_le (HS.out b h) HB9.out.size)).mono ?_
         rintro e w10 ⟨s, how, rfl, hb10, hs10, hhow⟩
         have HB10 := Lib.hid (HB9.out.trans (hb10.mono HB9.out.size))
         have HZ10 := Lib.hid (keep hb10 HZ9.out)
         have HOW10 := Lib.hid (ownsRow_same HOW9.out (fun b hb => hb10.block b (HOW9.out.lt b hb.symm).2))
         clear hb10
         rcases hhow with rfl | ⟨rfl, hs⟩
         · go_wp2_with fail
           go_returns
           exact ⟨⟨#[]⟩, 2, rfl, HB10.out, by decide, .inl rfl⟩
         · have hsl : s.size = (encJ X).length := by rw [hs, numS_size]
           have a9 : ((o ++ ⟨#[44]⟩) : ByteArray).size + s.size ≤ 140737488355328 := by rw [hsl]; exact HA9.out
           have HSN := Lib.hid hs
           clear hs hsl
           go_wp2_with fail
           go_roundw
           case rel => exact ⟨i + 1, (o ++ ⟨#[44]⟩) ++ s, rfl, by push_cast; rfl, hlt, by rw [HN9.out]; exact app_num (o ++ ⟨#[44]⟩) (encJ X) HLX.out (by rw [HSN.out]; exact bytesN_numS' _ HLX.out) ((encC (ls.take i)).tail ++ [44]) HO2.out (by intro x hx; (try rcases List.mem_append.1 hx with hx | hx) <;> first | exact HLT.out x (List.mem_of_mem_tail hx) | (simp at hx; omega)), HB10.out, HZ10.out, HOW10.out⟩
           case measure => simp [intOf]; omega)
      · have h0' : ¬ (0 : Int) < (i : Int) := by omega
        rw [hnext, if_neg h0, List.nil_append] at hlen
        have HS2 : Hid (o.size + (encJ X).length + 2 ≤ 70368744177664) := Lib.hid (by
          obtain rfl : i = 0 := by omega
          rw [hol, List.take_zero, encC]
          simp
          omega)
        have HO2 : Hid (o = numS ((encC (ls.take i)).tail)) := HO
        have HT0 : Hid ((encC (ls.take i)).tail = []) := Lib.hid (by
          obtain rfl : i = 0 := by omega
          rw [List.take_zero, encC]; rfl)
        clear hX hx h6 hnext hoE hspl hlen hol
        go_wp2_with fail
        have HA9 : Hid (o.size + (encJ X).length ≤ 140737488355328) := Lib.hid (by have := HS2.out; omega)
        have HN9 : Hid ((encC (ls.take (i + 1))).tail = ((encC (ls.take i)).tail) ++ encJ X) := Lib.hid (by rw [HNX.out, if_neg h0, HT0.out])
        (generalize hW9 : World.alloc wr _ = W9
         have b9 := hW9 ▸ below_alloc wr (.cells #[.int .i64 t2, .int .i64 m2, .string tx2, .slice la2 q1 lc2, .slice ka2 q2 kc2, .slice va2 q3 vc2] 27)
         clear hW9
         have HB9 := Lib.hid (HBW.out.trans (b9.mono HBW.out.size))
         have HZ9 := Lib.hid (keep b9 HZ.out)
         have HOW9 := Lib.hid (ownsRow_same HOWN.out (fun b hb => b9.block b (HOWN.out.lt b hb.symm).2))
         clear b9 c1 hc
         refine (HIX.out _ S W9 (RV.mono (Same.of_below HB9.out HS.out) (fun _ h => h) _ _ HX.out) (fun b h => Nat.lt_of_lt_of_le (HS.out b h) HB9.out.size)).mono ?_
         rintro e w10 ⟨s, how, rfl, hb10, hs10, hhow⟩
         have HB10 := Lib.hid (HB9.out.trans (hb10.mono HB9.out.size))
         have HZ10 := Lib.hid (keep hb10 HZ9.out)
         have HOW10 := Lib.hid (ownsRow_same HOW9.out (fun b hb => hb10.block b (HOW9.out.lt b hb.symm).2))
         clear hb10
         rcases hhow with rfl | ⟨rfl, hs⟩
         · go_wp2_with fail
           go_returns
           exact ⟨⟨#[]⟩, 2, rfl, HB10.out, by decide, .inl rfl⟩
         · have hsl : s.size = (encJ X).length := by rw [hs, numS_size]
           have a9 : (o : ByteArray).size + s.size ≤ 140737488355328 := by rw [hsl]; exact HA9.out
           have HSN := Lib.hid hs
           clear hs hsl
           go_wp2_with fail
           go_roundw
           case rel => exact ⟨i + 1, o ++ s, rfl, by push_cast; rfl, hlt, by rw [HN9.out]; exact app_num o (encJ X) HLX.out (by rw [HSN.out]; exact bytesN_numS' _ HLX.out) ((encC (ls.take i)).tail) HO2.out (by intro x hx; (try rcases List.mem_append.1 hx with hx | hx) <;> first | exact HLT.out x (List.mem_of_mem_tail hx) | (simp at hx; omega)), HB10.out, HZ10.out, HOW10.out⟩
           case measure => simp [intOf]; omega)
    · obtain rfl : i = n := by omega
      have hoE : encJ (listV ls) = 91 :: ((encC ls).tail ++ [93]) := by unfold listV; rw [encJ]; rfl
      have hol : o = numS ((encC ls).tail) := by
        have := HO.out
        rwa [List.take_of_length_le (Nat.le_of_eq HN.out)] at this
      have hsz : o.size + 2 ≤ 70368744177664 := by
        have := HSM.out
        rw [hoE] at this
        rw [hol, numS_size]
        simp at this
        simp
        omega
      have HOE := Lib.hid hoE
      have HOL := Lib.hid hol
      have a1 : (⟨#[91]⟩ : ByteArray).size + o.size ≤ 140737488355328 := by show 1 + o.size ≤ _; omega
      have a2 : ((⟨#[91]⟩ : ByteArray) ++ o).size + (⟨#[93]⟩ : ByteArray).size ≤ 140737488355328 := by rw [ByteArray.size_append]; show 1 + o.size + 1 ≤ _; omega
      clear hoE hol
      go_wp2_with fail
      go_returns
      refine ⟨(⟨#[91]⟩ ++ o) ++ ⟨#[93]⟩, 0, rfl, HBW.out, by rw [ByteArray.size_append, ByteArray.size_append]; show 1 + o.size + 1 ≤ _; omega, .inr ⟨rfl, ?_⟩⟩
      have hlt2 := encC_lt ls
      apply bytes_inj
      rw [bytesN_app', bytesN_app', HOL.out, HOE.out, bytesN_numS' _ (fun x hx => hlt2 x (List.mem_of_mem_tail hx)), bytesN_numS' _ (fun x hx => by
        rcases List.mem_cons.1 hx with rfl | hx
        · omega
        · rcases List.mem_append.1 hx with hx | hx
          · exact hlt2 x (List.mem_of_mem_tail hx)
          · simp at hx; omega)]
      rfl
end Go.Proofs.YtgjmgneppecfgaaGreatDoor.Fo
