/-
  FnOptimize, joined: the parts' walks and the law on the pass.
-/
import Derived.Test.YtnlndpgbhmkanaaOpR
import Derived.Test.YtnlndpgbhmkanaaOpE
namespace Go.Proofs.Ytnlndpgbhmkanaa.Op
open Go.RowKit
set_option linter.unusedVariables false
set_option linter.unusedSimpArgs false

/-- what a run leaves is at most so high -/
def Bnd (s : Sta) : Res → Prop
  | .bad => True
  | .go s' => s'.st.length ≤ s.st.length + 1
  | .fin f => f.st = s.st
theorem bnd_if {s : Sta} {c : Prop} [Decidable c] {a b : Res} (ha : Bnd s a) (hb : Bnd s b) : Bnd s (if c then a else b) := by
  by_cases h : c
  · rw [if_pos h]; exact ha
  · rw [if_neg h]; exact hb
theorem exec_bnd (x : Ins) (s : Sta) : Bnd s (exec x s) := by
  obtain ⟨pc, st, vars, back⟩ := s
  unfold exec
  cases st <;> cases back <;> dsimp only
  all_goals
    repeat' apply bnd_if
  all_goals first
    | exact trivial
    | rfl
    | (simp only [Bnd, List.length_cons, List.length_nil]; done)
    | (simp only [Bnd, List.length_cons, List.length_nil]; omega)
theorem exec_high {x : Ins} {s s' : Sta} (h : exec x s = .go s') : s'.st.length ≤ s.st.length + 1 := by
  have := exec_bnd x s
  rw [h] at this
  exact this
theorem exec_fin {x : Ins} {s : Sta} {f : Fin} (h : exec x s = .fin f) : f.st = s.st := by
  have := exec_bnd x s
  rw [h] at this
  exact this
theorem run_high {l : List Ins} {f : Fin} : ∀ (n : Nat) (s : Sta), run l n s = some f → f.st.length ≤ s.st.length + n := by
  intro n
  induction n with
  | zero => intro s h; exact absurd h (by simp [run])
  | succ n ih =>
    intro s h
    obtain ⟨m, x, hm, hx, h2⟩ := run_some h
    obtain rfl : m = n := by omega
    rcases h2 with h2 | ⟨s', h2, hr⟩
    · rw [exec_fin h2]; omega
    · have := ih s' hr
      have := exec_high h2
      omega

/-- no jump leads below 0 -/
def NN (l : List Ins) : Prop := ∀ x ∈ l, jumps x → 0 ≤ x.a
theorem NN.set {l : List Ins} (h : NN l) {i : Nat} {v : Ins} (hv : jumps v → 0 ≤ v.a) : NN (l.set i v) := by
  intro x hx hj
  rcases List.mem_or_eq_of_mem_set hx with hx | rfl
  · exact h x hx hj
  · exact hv hj
theorem NN.stepCall {l : List Ins} (h : NN l) {i : Nat} {x : Ins} (hx : l[i]? = some x) (ho : x.op = 19) (pcs : List Nat) (sc : Nat → Option Bool) : NN (stepCall l i x pcs sc) := by
  have hxa := h x (List.mem_of_getElem? hx) (by unfold jumps; omega)
  unfold Op.stepCall
  split
  · exact h
  · split
    · split
      · exact h
      · split
        · split
          · exact h.set fun _ => by show (0 : Int) ≤ _ + 1; omega
          · exact h.set fun _ => hxa
        · exact h
    · exact h
theorem NN.callsFrom : ∀ (n i : Nat) (l : List Ins) (pcs : List Nat) (sc : Nat → Option Bool), NN l → NN (callsFrom n i l pcs sc)
  | 0, _, _, _, _, h => h
  | n + 1, i, l, pcs, sc, h => by
    unfold Op.callsFrom
    cases e : l[i]? with
    | none => exact h
    | some x =>
      dsimp only
      split
      · exact NN.callsFrom n _ _ _ _ h
      · split
        · rename_i ho
          exact NN.callsFrom n _ _ _ _ (h.stepCall e ho _ _)
        · split
          · split
            · exact h
            · exact NN.callsFrom n _ _ _ _ h
          · exact NN.callsFrom n _ _ _ _ h
theorem Inv.nn {l : List Ins} (h : Inv l) : NN l := by
  intro x hx hj
  obtain ⟨i, hi, rfl⟩ := List.getElem_of_mem hx
  exact (h.tgt i _ (List.getElem?_eq_getElem hi) hj).1
theorem ops_inv : ∀ (i : Nat) (l : List Ins), Inv l → Inv (opsFrom l i)
  | 0, _, h => h
  | i + 1, l, h => ops_inv i _ (stepOps_inv h i)
theorem NN.norm {l : List Ins} (h : NN l) : NN (l.map norm) := by
  intro x hx hj
  obtain ⟨y, hy, rfl⟩ := List.mem_map.1 hx
  unfold Op.norm at hj ⊢
  by_cases c : y.op = 0
  · rw [if_pos c] at hj
    unfold jumps at hj
    simp at hj
  · rw [if_neg c] at hj ⊢
    by_cases c2 : y.op = 23
    · rw [if_pos c2] at hj ⊢
      exact h y hy hj
    · rw [if_neg c2] at hj ⊢
      exact h y hy hj
theorem opt_nn {l : List Ins} (h : StepsOk l) (calls : Bool) : NN (opt l calls) := by
  unfold opt
  refine NN.norm ?_
  cases calls
  · exact (ops_inv _ _ h.inv).nn
  · exact NN.callsFrom _ _ _ _ _ h.inv.nn

/-- what the walk of Means says -/
def MeansLaw : Prop := ∀ (l : List Ins) (n : Nat), l.length = n → n ≤ 2147483647 → (∀ x ∈ l, jumps x → 0 ≤ x.a) → ∀ (a : Option Addr) (c : Nat) (S : Nat → Prop) (w : World), RI w S l a → (∀ b, S b → b < w.heap.size) →
    Calls Try.prog 9 #[.slice a n c] w (MeansEnd l w)

set_option maxHeartbeats 8000000 in
set_option maxRecDepth 100000 in
theorem law_any (HM : MeansLaw) (l : List Ins) (n : Nat) (hn : l.length = n) (calls : Bool) (a : Option Addr) (c : Nat) (S : Nat → Prop) (w : World) (h : RI w S l a) (hS : ∀ b, S b → b < w.heap.size) (hr : n ≤ 9223372036854775807) :
    Calls Try.prog 4 #[.slice a n c, .bool calls] w (Ret (.bool true) w) := by
  by_cases hbig : 2147483647 < n
  · go_enter Try.func4, Try.ntmps4
    have hb : (2147483647 : Int) < n := by omega
    go_wp2_with fail
    go_returns
    exact ⟨rfl, Below.refl _ _⟩
  have hq : n ≤ 2147483647 := by omega
  have HST := Lib.hid (steps_any l n hn hq a c S w h hS)
  have HL := Lib.hid h
  have HN := Lib.hid hn
  have HS := Lib.hid hS
  have HML := Lib.hid HM
  clear h hn hS HM hbig
  go_enter Try.func4, Try.ntmps4
  go_wp2_with fail
  refine HST.out.mono ?_
  rintro e w1 ⟨r, rfl, hb1, hok⟩
  have B1 := Lib.hid hb1
  clear hb1 HST
  cases r
  · clear hok
    go_wp2_with fail
    go_returns
    exact ⟨rfl, B1.out⟩
  have HO := Lib.hid (hok rfl)
  have h1 : 1 ≤ n := by
    obtain ⟨x, hx, _⟩ := HO.out.last
    have := (List.getElem?_eq_some_iff.1 hx).1
    have := HN.out
    omega
  clear hok
  go_wp2_with fail
  refine (HML.out l n HN.out hq HO.out.inv.nn a c S w1 (HL.out.keep HS.out B1.out) (fun b h => Nat.lt_of_lt_of_le (HS.out b h) B1.out.size)).mono ?_
  rintro e w2 ⟨v1, b1, rfl, hb2, hend⟩
  have B2 := Lib.hid (B1.out.trans (hb2.mono B1.out.size))
  have HE := Lib.hid hend
  obtain ⟨ca, cn, cc, ce, cm, cf, cr, rfl⟩ : ∃ a n c e m f r, v1 = .agg #[.slice a n c, .slice e m f, .bool r] := by
    rcases hend with ⟨_, _, hs⟩ | ⟨f, _, _, hf⟩
    · exact ⟨_, _, _, _, _, _, _, hs⟩
    · obtain ⟨ao, q, cap, gv, rfl, _⟩ := hf.parts
      exact ⟨_, _, _, _, _, _, _, rfl⟩
  clear hb2 hend
  have HIG := Lib.hid (opt_nn HO.out calls)
  go_upto_region 6 with fail
  generalize hW : World.alloc w2 _ = W
  have ba2 := Lib.hid (hW ▸ below_alloc w2 _ : Below w2.heap.size w2 W)
  have z1 := hW ▸ block_new w2 _ _
  have Z1 := Lib.hid z1
  have B3 := Lib.hid (hW ▸ B2.out.alloc B2.out.size _ : Below w.heap.size w W)
  have HE3 : Hid (b1 = false ∨ ∃ f, b1 = true ∧ run l 400 st0 = some f ∧ RF w1.heap.size f (.agg #[.slice ca cn cc, .slice ce cm cf, .bool cr]) W) := Lib.hid (by
    rcases HE.out with ⟨h, _⟩ | ⟨f, h, hr, hf⟩
    · exact .inl h
    · exact .inr ⟨f, h, hr, hf.keep (B := 0) ba2.out⟩)
  clear hW HE B2 z1
  go_wp2_with fail
  refine (optimize_any l HO.out n HN.out h1 calls a c S W (HL.out.keep HS.out B3.out) (fun b h => Nat.lt_of_lt_of_le (HS.out b h) B3.out.size)).mono ?_
  rintro e w4 ⟨g, cap, rfl, hml, hg, hb4, hri⟩
  have B4 := Lib.hid (B3.out.trans (hb4.mono B3.out.size))
  have HRI := Lib.hid hri
  have HG := Lib.hid hg
  have Z4 := Lib.hid (keep hb4 Z1.out)
  have HE4 : Hid (b1 = false ∨ ∃ f, b1 = true ∧ run l 400 st0 = some f ∧ RF w1.heap.size f (.agg #[.slice ca cn cc, .slice ce cm cf, .bool cr]) w4) := Lib.hid (by
    rcases HE3.out with h | ⟨f, h, hr, hf⟩
    · exact .inl h
    · exact .inr ⟨f, h, hr, hf.keep (B := 0) hb4⟩)
  have HML2 := Lib.hid hml
  have hne0 : ((n : Int) == 0) = false := by simp; omega
  clear hri hg hb4 hml HE3 B3 Z1
  go_wp2_with fail
  refine (HML.out (opt l calls) n HML2.out hq HIG.out (some ⟨g, 0, none⟩) cap (fun b => b = g) w4 HRI.out (fun b h => by subst h; exact HG.out)).mono ?_
  rintro e w5 ⟨v2, b2, rfl, hb5, hend⟩
  have B5 := Lib.hid (B4.out.trans (hb5.mono B4.out.size))
  have HE := Lib.hid hend
  have Z5 := Lib.hid (keep hb5 Z4.out)
  have HE5 : Hid (b1 = false ∨ ∃ f, b1 = true ∧ run l 400 st0 = some f ∧ RF w1.heap.size f (.agg #[.slice ca cn cc, .slice ce cm cf, .bool cr]) w5) := Lib.hid (by
    rcases HE4.out with h | ⟨f, h, hr, hf⟩
    · exact .inl h
    · exact .inr ⟨f, h, hr, hf.keep (B := 0) hb5⟩)
  obtain ⟨da, dn, dc, de, dm, df, dr, rfl⟩ : ∃ a n c e m f r, v2 = .agg #[.slice a n c, .slice e m f, .bool r] := by
    rcases hend with ⟨_, _, hs⟩ | ⟨f, _, _, hf⟩
    · exact ⟨_, _, _, _, _, _, _, hs⟩
    · obtain ⟨ao, q, cap, gv, rfl, _⟩ := hf.parts
      exact ⟨_, _, _, _, _, _, _, rfl⟩
  clear hb5 hend HE4 Z4 B4
  go_upto_region 10 with fail
  generalize hW : World.alloc w5 _ = W6
  have z6 := hW ▸ block_new w5 _ _
  have z7 := (hW ▸ keep (below_alloc w5 _) Z5.out)
  have hq6 := cells3 z6
  have hq7 := cells3 z7
  have B6 := Lib.hid (hW ▸ B5.out.alloc B5.out.size _ : Below w.heap.size w W6)
  have hbW : Hid (Below w5.heap.size w5 W6) := Lib.hid (hW ▸ below_alloc w5 _)
  clear hW z6 z7
  rcases HE5.out with hb1 | ⟨f, hb1, hrun, hf⟩
  · subst hb1
    go_wp2_with fail
    go_returns
    exact ⟨rfl, B6.out⟩
  · subst hb1
    have hrun2 := opt_law HO.out calls 400 [] (List.replicate 8 (false, 0)) f hrun
    rcases HE.out with ⟨_, hno, _⟩ | ⟨f2, hb2, hr2, hf2⟩
    · exact absurd (hno.symm.trans hrun2) (by simp)
    · obtain rfl : f = f2 := Option.some.inj (hrun2.symm.trans hr2)
      subst hb2
      have HF := Lib.hid (hf.keep (B := 0) hbW.out)
      have HF2 := Lib.hid (hf2.keep (B := 0) hbW.out)
      have HH := Lib.hid (run_high 400 st0 hrun)
      clear hf hf2 hrun hrun2 hr2
      go_wp2_with fail
      refine (same_any f _ _ _ _ W6 HF.out HF2.out (by have := HH.out; simp [st0] at this; omega)).mono ?_
      rintro e w7 ⟨rfl, hb7⟩
      have B7 := Lib.hid (B6.out.trans (hb7.mono B6.out.size))
      clear hb7
      go_wp2_with fail
      go_returns
      exact ⟨rfl, B7.out⟩
end Go.Proofs.Ytnlndpgbhmkanaa.Op
