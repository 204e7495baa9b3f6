/-
  FnFormat, texts McP McT: lemmas for the law; the theorem stands in the last text.
-/
import Derived.Test.YtgjmgneppecfgaaGreatDoorJ23
import Derived.Test.YtgjmgneppecfgaaGreatDoorJ31
import Derived.Test.YtgjmgneppecfgaaGreatDoorJ33
namespace Go.Proofs.YtgjmgneppecfgaaGreatDoor.Mc
open Go.RowKit Go.Proofs.YtgjmgneppecfgaaGreatDoor.Va Go.Proofs.YtgjmgneppecfgaaGreatDoor.Ba Go.Proofs.YtgjmgneppecfgaaGreatDoor.Ma Go.Proofs.YtgjmgneppecfgaaGreatDoor.Mb Go.Proofs.YtgjmgneppecfgaaGreatDoor.Pa Go.Proofs.YtgjmgneppecfgaaGreatDoor.Fo
set_option linter.unusedVariables false
set_option linter.unusedSimpArgs false

def csvU (l : List Nat) : List Nat := 34 :: (repl csvQ l ++ [34])
def tsvU (l : List Nat) : List Nat := repl tsvQ l
def shU (l : List Nat) : List Nat := 39 :: (repl shQ l ++ [39])
theorem csvU_ok : TextOk csvU := wrap_ok csvQ_ok 34 (by decide)
theorem shU_ok : TextOk shU := wrap_ok shQ_ok 39 (by decide)
theorem tsvU_ok : TextOk tsvU where
  len := fun l hl => by have h := (repl_ok tsvQ_ok.new l hl).1; show (repl tsvQ l).length ≤ _; omega
  lt := fun l hl => (repl_ok tsvQ_ok.new l hl).2
def fieldZ (x : V) : List Nat := if x.kind = 0 then [110, 117, 108, 108] else fieldX shU x
theorem fieldX_4 (T : List Nat → List Nat) (y : V) (h : y.kind = 4) : fieldX T y = T (bytesN y.text) := by unfold fieldX; rw [if_pos h]
theorem fieldX_0 (T : List Nat → List Nat) (y : V) (h : y.kind = 0) : fieldX T y = [] := by unfold fieldX; rw [if_neg (by omega)]; unfold bareX; rw [if_pos h]
theorem fieldX_x (T : List Nat → List Nat) (y : V) (h : y.kind ≠ 4) (h0 : y.kind ≠ 0) : fieldX T y = encJ y := by unfold fieldX; rw [if_neg h]; unfold bareX; rw [if_neg h0]; unfold strX; rw [if_neg h]
theorem fieldX_lt {T : List Nat → List Nat} (hT : TextOk T) (y : V) : ∀ c ∈ fieldX T y, c < 256 := by
  unfold fieldX
  split
  · exact hT.lt _ (bytesN_lt _)
  · exact bareX_lt y
theorem fieldZ_lt (y : V) : ∀ c ∈ fieldZ y, c < 256 := by
  unfold fieldZ
  split
  · decide
  · exact fieldX_lt shU_ok y
theorem fieldZ_len (y : V) (hg : Va.Good y) (h : y.size ≤ 400) : (fieldZ y).length ≤ 26214400 := by
  unfold fieldZ
  split
  · decide
  · exact (fieldX_ok shU_ok y hg h).1
/-- what a row's format returns: the row, or an error -/
def RowFn (F : V → List Nat) (b : Nat) (l : Bool) (ls : List V) (w : World) (e : Ending) (w' : World) : Prop :=
  ((l = true ∧ (∀ y ∈ ls, y.kind ≠ 5 ∧ y.kind ≠ 6) ∧ e = .returned (.iface 9 (.string (numS (rowC F b ls).tail)))) ∨
    ((l = false ∨ ∃ y ∈ ls, y.kind = 5 ∨ y.kind = 6) ∧ ((∃ a, e = .returned (.iface 250 (.pointer (some a)))) ∨ ∃ a, e = .returned (.iface 247 (.pointer (some a)))))) ∧ Below w.heap.size w w'
theorem RowFn.of_join {F : V → List Nat} {b : Nat} {ls : List V} {w w1 : World} {e : Ending} {w' : World} (h : JoinEnd F b ls w1 e w') (hb : Below w.heap.size w w1) : RowFn F b true ls w e w' := by
  obtain ⟨h1, h2⟩ := h
  refine ⟨?_, hb.trans (h2.mono hb.size)⟩
  rcases h1 with ⟨he, hk⟩ | ⟨he, hk⟩
  · exact .inl ⟨rfl, hk, he⟩
  · exact .inr ⟨.inr hk, .inl he⟩
def NonEnd (w : World) (e : Ending) (w' : World) : Prop := (∃ a, e = .returned (.iface 247 (.pointer (some a)))) ∧ Below w.heap.size w w'
theorem gv_list {w : World} {S : Nat → Prop} {hh : Int} {t : ByteArray} {ls vs : List V} {ks : List ByteArray} {g : Value} (h : GV w S (.mk 5 hh t ls ks vs) g) : ∃ a c, g = .iface 60 (.slice a ls.length c) ∧ GL w S ls a := by
  rw [GV] at h
  rcases h with q | q | q | q | q | ⟨_, h⟩ | q
  · exact absurd q.1 (by decide)
  · exact absurd q.1 (by decide)
  · exact absurd q.1 (by decide)
  · exact absurd q.1 (by decide)
  · exact absurd q.1 (by decide)
  · exact h
  · exact absurd q.1 (by decide)
set_option maxHeartbeats 2000000 in
/-- formatJoin at what is no array -/
theorem join_non (f : Value) (typ sep : ByteArray) (htz : typ.size ≤ 10) (g : Value) (x : V) (S : Nat → Prop) (w : World) (hgv : GV w S x g) (hk : x.kind ≠ 5) : Calls Tryz.prog 198 #[.string typ, g, .string sep, f] w (NonEnd w) := by
  have hcs := gv_7 hgv
  clear hgv
  have a1 : (⟨#[64]⟩ : ByteArray).size + typ.size ≤ 140737488355328 := by show 1 + _ ≤ _; omega
  rcases hcs with ⟨hk', rfl⟩ | ⟨hk', gv, rfl⟩ | ⟨hk', gv, rfl⟩ | ⟨hk', gv, rfl⟩ | ⟨hk', rfl⟩ | ⟨hk', gv, rfl⟩ | ⟨hk', gv, rfl⟩
  all_goals
    first
      | exact absurd hk' hk
      | (clear hk hk'
         go_enter Tryz.func198, Tryz.ntmps198
         go_wp2_with fail
         go_returns
         exact ⟨⟨_, rfl⟩, below_alloc w _⟩)
set_option maxHeartbeats 2000000 in
theorem toCSV_any (x : V) (hg : Va.Good x) (hsz : x.size ≤ 400) (g : Value) (S : Nat → Prop) (w : World) (hgv : GV w S x g) (hS : ∀ b, S b → b < w.heap.size) (hT : Tabs w) : Calls Tryz.prog 165 #[g] w (RowFn (fieldX csvU) 44 (decide (x.kind = 5)) x.list w) := by
  have HC := enters_of Tryz.func199 (by kernel_rfl) rfl
  by_cases hk : x.kind = 5
  · cases x with
    | mk k hh t ls ks vs =>
    have hk' : k = 5 := hk
    subst hk'
    obtain ⟨a, c, rfl, hl⟩ := gv_list hgv
    have HGL : GoodL ls := by rw [Va.Good] at hg; exact hg.2.1
    have hsl : sizeL ls ≤ 400 := by rw [V.size] at hsz; omega
    have HJ := Lib.hid (join_any 199 #[] csvU csvU_ok ⟨#[99, 115, 118]⟩ (by decide) 44 (by decide) (fieldX csvU) (fieldX_4 _) (fun y h => .inr ⟨by decide, fieldX_0 _ y h⟩) (fieldX_x _) (fun y h1 h2 => (fieldX_ok csvU_ok y h1 h2).1) (fieldX_lt csvU_ok) ls HGL hsl ls.length c a rfl S w hl hS hT HC (fun s w' hs _ => csv1_any s hs w'))
    have e5 : decide ((V.mk 5 hh t ls ks vs).kind = 5) = true := rfl
    rw [e5]
    show Calls _ _ _ _ (RowFn (fieldX csvU) 44 true ls w)
    obtain ⟨n, hn⟩ : ∃ n, ls.length = n := ⟨_, rfl⟩
    rw [hn] at HJ ⊢
    clear HGL hsl hg hsz hgv hS hT hl HC e5 hk hn
    go_enter Tryz.func165, Tryz.ntmps165
    go_wp2_with fail
    refine HJ.out.mono ?_
    rintro e w1 h
    have hr := Lib.hid (RowFn.of_join h (Below.refl _ _))
    rcases h.1 with ⟨rfl, _⟩ | ⟨⟨a1, rfl⟩, _⟩
    · go_wp2_with fail
      go_returns
      exact hr.out
    · go_wp2_with fail
      go_returns
      exact hr.out
  · have HN := Lib.hid (join_non (.func (.func 199) #[] #[]) ⟨#[99, 115, 118]⟩ ⟨#[44]⟩ (by decide) g x S w hgv hk)
    have e5 : decide (x.kind = 5) = false := by simpa using hk
    rw [e5]
    clear hg hsz hgv hS hT HC e5 hk
    go_enter Tryz.func165, Tryz.ntmps165
    go_wp2_with fail
    refine HN.out.mono ?_
    rintro e w1 ⟨⟨a, rfl⟩, hb⟩
    go_wp2_with fail
    go_returns
    exact ⟨.inr ⟨.inl rfl, .inr ⟨_, rfl⟩⟩, hb⟩
set_option maxHeartbeats 2000000 in
theorem toTSV_any (x : V) (hg : Va.Good x) (hsz : x.size ≤ 400) (g : Value) (S : Nat → Prop) (w : World) (hgv : GV w S x g) (hS : ∀ b, S b → b < w.heap.size) (hT : Tabs w) : Calls Tryz.prog 166 #[g] w (RowFn (fieldX tsvU) 9 (decide (x.kind = 5)) x.list w) := by
  have HC := enters_of Tryz.func194 (by kernel_rfl) rfl
  by_cases hk : x.kind = 5
  · cases x with
    | mk k hh t ls ks vs =>
    have hk' : k = 5 := hk
    subst hk'
    obtain ⟨a, c, rfl, hl⟩ := gv_list hgv
    have HGL : GoodL ls := by rw [Va.Good] at hg; exact hg.2.1
    have hsl : sizeL ls ≤ 400 := by rw [V.size] at hsz; omega
    have HJ := Lib.hid (fun (w1 : World) (hb1 : Below w.heap.size w w1) (hz1 : w1.heap.size = w.heap.size + 1) (hk1 : RK w1 (fun b => b = w.heap.size) (tabS tsvQ) (some ⟨w.heap.size, 0, none⟩)) => join_any 194 #[.slice (some ⟨w.heap.size, 0, none⟩) 10 10] tsvU tsvU_ok ⟨#[116, 115, 118]⟩ (by decide) 9 (by decide) (fieldX tsvU) (fieldX_4 _) (fun y h => .inr ⟨by decide, fieldX_0 _ y h⟩) (fieldX_x _) (fun y h1 h2 => (fieldX_ok tsvU_ok y h1 h2).1) (fieldX_lt tsvU_ok) ls HGL hsl ls.length c a rfl S w1 (GL.mono (Same.of_below hb1 hS) (fun _ h => h) _ _ hl) (fun b h => Nat.lt_of_lt_of_le (hS b h) hb1.size) (hT.below hb1) HC (fun s w' hs hb' => replace_any tsvQ tsvQ_ok s (by omega) (some ⟨w.heap.size, 0, none⟩) 10 10 rfl (fun b => b = w.heap.size) w' (RK.mono (Same.of_below hb' (fun b h => by rw [hz1]; omega)) (fun _ h => h) _ _ hk1) (fun b h => by have := hb'.size; omega)))
    have e5 : decide ((V.mk 5 hh t ls ks vs).kind = 5) = true := rfl
    rw [e5]
    show Calls _ _ _ _ (RowFn (fieldX tsvU) 9 true ls w)
    obtain ⟨n, hn⟩ : ∃ n, ls.length = n := ⟨_, rfl⟩
    rw [hn] at HJ ⊢
    clear HGL hsl hg hsz hgv hS hT hl HC e5 hk hn
    go_enter Tryz.func166, Tryz.ntmps166
    go_wp2_with fail
    refine (tsvEsc_any w).mono ?_
    rintro e w1 ⟨rfl, hk1, hz1, hb1⟩
    have HJ1 := Lib.hid (HJ.out w1 hb1 hz1 hk1)
    have B1 := Lib.hid hb1
    clear HJ hk1 hz1 hb1
    go_wp2_with fail
    refine HJ1.out.mono ?_
    rintro e w2 h
    have hr := Lib.hid (RowFn.of_join h B1.out)
    rcases h.1 with ⟨rfl, _⟩ | ⟨⟨a1, rfl⟩, _⟩
    · go_wp2_with fail
      go_returns
      exact hr.out
    · go_wp2_with fail
      go_returns
      exact hr.out
  · have HN := Lib.hid (fun (w1 : World) (hb1 : Below w.heap.size w w1) => join_non (.func (.func 194) #[.slice (some ⟨w.heap.size, 0, none⟩) 10 10] #[]) ⟨#[116, 115, 118]⟩ ⟨#[9]⟩ (by decide) g x S w1 (GV.mono (Same.of_below hb1 hS) (fun _ h => h) _ _ hgv) hk)
    have e5 : decide (x.kind = 5) = false := by simpa using hk
    rw [e5]
    clear hg hsz hgv hS hT HC e5 hk
    go_enter Tryz.func166, Tryz.ntmps166
    go_wp2_with fail
    refine (tsvEsc_any w).mono ?_
    rintro e w1 ⟨rfl, hk1, hz1, hb1⟩
    have HN1 := Lib.hid (HN.out w1 hb1)
    have B1 := Lib.hid hb1
    clear HN hk1 hz1 hb1
    go_wp2_with fail
    refine HN1.out.mono ?_
    rintro e w2 ⟨⟨a, rfl⟩, hb⟩
    go_wp2_with fail
    go_returns
    exact ⟨.inr ⟨.inl rfl, .inr ⟨_, rfl⟩⟩, B1.out.trans (hb.mono B1.out.size)⟩
theorem fieldZ_0 (y : V) (h : y.kind = 0) : fieldZ y = [110, 117, 108, 108] := by unfold fieldZ; rw [if_pos h]
theorem fieldZ_n (y : V) (h : y.kind ≠ 0) : fieldZ y = fieldX shU y := by unfold fieldZ; rw [if_neg h]
theorem join_sh (ls : List V) (hg : GoodL ls) (h4 : sizeL ls ≤ 400) (n c : Nat) (a : Option Addr) (hn : ls.length = n) (S : Nat → Prop) (w : World) (hgl : GL w S ls a) (hS : ∀ b, S b → b < w.heap.size) (hTb : Tabs w) :
    Calls Tryz.prog 198 #[.string ⟨#[115, 104]⟩, .iface 60 (.slice a n c), .string ⟨#[32]⟩, .func (.func 202) #[] #[]] w (JoinEnd fieldZ 32 ls w) :=
  join_any 202 #[] shU shU_ok ⟨#[115, 104]⟩ (by decide) 32 (by decide) fieldZ (fun y h => (fieldZ_n y (by omega)).trans (fieldX_4 _ y h)) (fun y h => .inl ⟨rfl, fieldZ_0 y h⟩) (fun y h h0 => (fieldZ_n y h0).trans (fieldX_x _ y h h0)) fieldZ_len fieldZ_lt ls hg h4 n c a hn S w hgl hS hTb (enters_of Tryz.func202 (by kernel_rfl) rfl) (fun s w' hs _ => sh1_any s hs w')
set_option maxHeartbeats 2000000 in
theorem toSh_any (x : V) (hg : Va.Good x) (hsz : x.size ≤ 400) (g : Value) (S : Nat → Prop) (w : World) (hgv : GV w S x g) (hS : ∀ b, S b → b < w.heap.size) (hT : Tabs w) : Calls Tryz.prog 167 #[g] w (RowFn fieldZ 32 true (shL x) w) := by
  by_cases hk : x.kind = 5
  · cases x with
    | mk k hh t ls ks vs =>
    have hk' : k = 5 := hk
    subst hk'
    obtain ⟨a, c, rfl, hl⟩ := gv_list hgv
    have HGL : GoodL ls := by rw [Va.Good] at hg; exact hg.2.1
    have hsl : sizeL ls ≤ 400 := by rw [V.size] at hsz; omega
    have HJ := Lib.hid (join_sh ls HGL hsl ls.length c a rfl S w hl hS hT)
    have e5 : shL (V.mk 5 hh t ls ks vs) = ls := by unfold shL; exact if_pos rfl
    rw [e5]
    obtain ⟨n, hn⟩ : ∃ n, ls.length = n := ⟨_, rfl⟩
    rw [hn] at HJ ⊢
    clear HGL hsl hg hsz hgv hS hT hl e5 hk hn
    go_enter Tryz.func167, Tryz.ntmps167
    go_wp2_with fail
    refine HJ.out.mono ?_
    rintro e w1 h
    have hr := Lib.hid (RowFn.of_join h (Below.refl _ _))
    rcases h.1 with ⟨rfl, _⟩ | ⟨⟨a1, rfl⟩, _⟩
    · go_wp2_with fail
      go_returns
      exact hr.out
    · go_wp2_with fail
      go_returns
      exact hr.out
  · have e5 : shL x = [x] := by unfold shL; exact if_neg hk
    rw [e5]
    obtain ⟨W, hW⟩ : ∃ W, w.alloc (.cells #[g] 20) = W := ⟨_, rfl⟩
    have hb : Below w.heap.size w W := hW ▸ below_alloc w _
    have hlt : w.heap.size < W.heap.size := by rw [← hW, World.size_alloc]; omega
    have hc : W.cell? ⟨w.heap.size, 0, none⟩ = some g := hW ▸ cell_of (block_new w #[g] 20) 0 rfl
    have HJ := Lib.hid (join_sh [x] (by rw [GoodL, GoodL]; exact ⟨hg, trivial⟩) (by rw [sizeL, sizeL]; omega) 1 1 (some ⟨w.heap.size, 0, none⟩) rfl (fun b => b < W.heap.size) W
      (by rw [GL]; exact ⟨_, _, g, rfl, hlt, hc, GV.mono (Same.of_below hb hS) (fun b h => Nat.lt_of_lt_of_le (hS b h) hb.size) _ _ hgv, by rw [GL]; trivial⟩) (fun b h => h) (hT.below hb))
    rw [← hW] at HJ
    clear hb hlt hc
    have hcs := gv_7 hgv
    clear hg hsz hgv hS hT e5 hW
    rcases hcs with ⟨hk', rfl⟩ | ⟨hk', gv, rfl⟩ | ⟨hk', gv, rfl⟩ | ⟨hk', gv, rfl⟩ | ⟨hk', rfl⟩ | ⟨hk', gv, rfl⟩ | ⟨hk', gv, rfl⟩
    all_goals
      first
        | exact absurd hk' hk
        | (clear hk hk'
           go_enter Tryz.func167, Tryz.ntmps167
           go_wp2_with fail
           refine HJ.out.mono ?_
           rintro e w1 h
           have hr := Lib.hid (RowFn.of_join h (below_alloc w _))
           rcases h.1 with ⟨rfl, _⟩ | ⟨⟨a1, rfl⟩, _⟩
           · go_wp2_with fail
             go_returns
             exact hr.out
           · go_wp2_with fail
             go_returns
             exact hr.out)
end Go.Proofs.YtgjmgneppecfgaaGreatDoor.Mc
namespace Go.Proofs.YtgjmgneppecfgaaGreatDoor.Mc
open Go.RowKit Go.Proofs.YtgjmgneppecfgaaGreatDoor.Va Go.Proofs.YtgjmgneppecfgaaGreatDoor.Ba Go.Proofs.YtgjmgneppecfgaaGreatDoor.Ma Go.Proofs.YtgjmgneppecfgaaGreatDoor.Pa Go.Proofs.YtgjmgneppecfgaaGreatDoor.Fo
set_option linter.unusedVariables false
set_option linter.unusedSimpArgs false

set_option maxHeartbeats 1000000 in
theorem toURI_any (x : V) (hg : Va.Good x) (hsz : x.size ≤ 400) (g : Value) (S : Nat → Prop) (w : World) (hgv : GV w S x g) (hS : ∀ b, S b → b < w.heap.size) (hT : Tabs w) (hU : UrlTab w) : Calls Tryz.prog 163 #[g] w (IStr (numS (uriL (strX x))) w) := by
  have HJ := Lib.hid (toString_any x hg hsz g S w hgv hS hT)
  have hln := strX_len x hg hsz
  have hlt := strX_lt x
  have hb := bytesN_numS' (strX x) hlt
  have HU := Lib.hid hU
  clear hg hgv hS hT hU
  obtain ⟨t, ht⟩ : ∃ t, numS (strX x) = t := ⟨_, rfl⟩
  have hts : t.size ≤ 26214400 := by rw [← ht, numS_size]; exact hln
  rw [ht] at HJ hb
  have hq := repl_query (strX x) hlt
  have hql := queryL_lt (strX x) hlt
  have hqn := queryL_len (strX x)
  have hcl := cntH_le (strX x)
  obtain ⟨u, hu⟩ : ∃ u, numS (queryL (strX x)) = u := ⟨_, rfl⟩
  have hus : u.size ≤ 1073741824 := by rw [← hu, numS_size, hqn]; omega
  have hub : bytesN u = queryL (strX x) := by rw [← hu, bytesN_numS' _ hql]
  have HQ := Lib.hid (query_any t (by omega))
  rw [hb, show StrB (queryL (strX x)) = fun w e w' => e = .returned (.string u) ∧ Below w.heap.size w w' by unfold StrB; rw [hu]] at HQ
  have HR := Lib.hid (fun w1 => zzReplaceAll_any u hus 43 (by decide) [37, 50, 48] ⟨by decide, by decide⟩ w1)
  have HEND : Hid (repl [(43, [37, 50, 48])] (bytesN u) = uriL (strX x)) := Lib.hid (by rw [hub, hq])
  clear ht hb hln hlt hq hql hqn hcl hu hub
  go_enter Tryz.func163, Tryz.ntmps163
  go_wp2_with fail
  refine HJ.out.mono ?_
  rintro e w1 ⟨rfl, hb1⟩
  have B1 := Lib.hid hb1
  have HQ1 := Lib.hid (HQ.out w1 (HU.out.below hb1))
  clear hb1 HJ HQ
  go_wp2_with fail
  refine HQ1.out.mono ?_
  rintro e w2 ⟨rfl, hb2⟩
  have B2 := Lib.hid (B1.out.trans (hb2.mono B1.out.size))
  clear hb2
  go_wp2_with fail
  refine (HR.out w2).mono ?_
  rintro e w3 ⟨rfl, hb3⟩
  have B3 := Lib.hid (B2.out.trans (hb3.mono B2.out.size))
  clear hb3
  rw [HEND.out]
  go_wp2_with fail
  go_returns
  exact ⟨rfl, B3.out⟩
end Go.Proofs.YtgjmgneppecfgaaGreatDoor.Mc
