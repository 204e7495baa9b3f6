/-
  THE WALKS of flatten and FlattenBy.
-/
import Derived.Test.YtnlndpgbhmkanaaGreatDoorVaU
import Derived.Test.YtnlndpgbhmkanaaGreatDoorVaX
import Derived.Test.YtnlndpgbhmkanaaGreatDoorVaE
namespace Go.Proofs.YtnlndpgbhmkanaaGreatDoor.Va
open Go.RowKit
set_option linter.unusedVariables false
set_option linter.unusedSimpArgs false

def one : Nat := 4607182418800017408
/-- a float that stands for a depth, and so many below it -/
def Dep : Nat → Nat → Int → Prop
  | 0, f, d => Op.floatEq .f64 f 0 = decide (d = 0)
  | n + 1, f, d => Op.floatEq .f64 f 0 = decide (d = 0) ∧ ∃ f', Ieee.double.sub f one = some f' ∧ Dep n f' (d - 1)
theorem Dep.eq {n f : Nat} {d : Int} (h : Dep n f d) : Op.floatEq .f64 f 0 = decide (d = 0) := by
  cases n with
  | zero => exact h
  | succ n => exact h.1

/-- a row of values of the program, that grows -/
def Rows1 (base : Nat) (S : Nat → Prop) (acc : List V) (ov : Value) (wr : World) : Prop :=
  ∃ gs : List Value, wr.ownsRow base 20 1 ov acc.length gs ∧ ∀ i (hi : i < acc.length), ∃ g, gs[i]? = some g ∧ GV wr S acc[i] g
theorem Rows1.same {base : Nat} {S : Nat → Prop} {acc : List V} {ov : Value} {w w' : World} (h : Rows1 base S acc ov w) (hS : ∀ b, S b → b < w.heap.size) (hs : Below w.heap.size w w') : Rows1 base S acc ov w' := by
  obtain ⟨gs, h1, h2⟩ := h
  refine ⟨gs, ownsRow_same h1 (fun b hb => hs.block b (h1.lt b hb.symm).2), fun i hi => ?_⟩
  obtain ⟨g, h3, h4⟩ := h2 i hi
  exact ⟨g, h3, GV.mono (fun b hb => hs.block b (hS b hb)) (fun _ h => h) _ _ h4⟩
theorem Rows1.next {base : Nat} {S : Nat → Prop} {acc : List V} {x : V} {ov ov' g : Value} {wr w' : World} {gs : List Value} (hS : ∀ b, S b → b < base) (hb : base ≤ wr.heap.size) (o : Obj)
    (hown : wr.ownsRow base 20 1 ov acc.length gs) (hch : ∀ i (hi : i < acc.length), ∃ g, gs[i]? = some g ∧ GV wr S acc[i] g) (hg : GV wr S x g) (ha : Appended (wr.alloc o) base 20 1 ov acc.length (gs ++ [g]) ov' w') :
    Rows1 base S (acc ++ [x]) ov' w' ∧ Below base wr w' := by
  have hlt := hown.lt
  have hBel : Below base wr w' := Below.grown ((below_alloc wr o).mono hb) ha.grown (by simp; omega) (fun j hj => (hlt j hj).1)
  have hsame : Same S wr w' := fun b hb => hBel.block b (hS b hb)
  refine ⟨⟨gs ++ [g], by simpa using ha.owns, fun i hi => ?_⟩, hBel⟩
  simp only [List.length_append, List.length_cons, List.length_nil] at hi
  have hl := hown.1
  by_cases c : i < acc.length
  · obtain ⟨g1, h3, h4⟩ := hch i c
    refine ⟨g1, by rw [List.getElem?_append_left (by omega)]; exact h3, ?_⟩
    rw [List.getElem_append_left c]
    exact GV.mono hsame (fun _ h => h) _ _ h4
  · obtain rfl : i = acc.length := by omega
    refine ⟨g, by rw [List.getElem?_append_right (by omega)]; simp [hl], ?_⟩
    rw [List.getElem_append_right (by omega)]
    simpa using GV.mono hsame (fun _ h => h) _ _ hg
theorem Rows1.done {base : Nat} {S : Nat → Prop} {acc : List V} {ov : Value} {w : World} (h : Rows1 base S acc ov w) : ∃ a c, ov = .slice a acc.length c ∧ GL w (fun r => S r ∨ base ≤ r) acc a := by
  obtain ⟨gs, h1, h2⟩ := h
  rcases h1.2 with ⟨rfl, h0⟩ | ⟨g, cap, cur, rfl, hb, hgg, hn, hm, hsz, htake⟩
  · have : acc = [] := List.length_eq_zero_iff.1 h0
    subst this
    exact ⟨none, 0, rfl, by rw [GL]; trivial⟩
  · refine ⟨_, _, rfl, GL.of acc g 0 (fun _ => .inr hb) fun i hi => ?_⟩
    obtain ⟨v, h3, h4⟩ := h2 i hi
    refine ⟨v, ?_, GV.mono (fun _ _ => rfl) (fun b hb => .inl hb) _ _ h4⟩
    rw [Nat.zero_add]
    refine cell_of hgg i ?_
    rw [← htake, List.getElem?_take] at h3
    split at h3
    · simpa using h3
    · cases h3

theorem sizeL_get (l : List V) (k : Nat) (hk : k < l.length) : sizeL (l.take k) + (l[k]).size ≤ sizeL l := by
  induction l generalizing k with
  | nil => simp at hk
  | cons x xs ih =>
    cases k with
    | zero => simp [sizeL]
    | succ k =>
      have := ih k (by simpa using hk)
      simp only [List.take_succ_cons, sizeL, List.getElem_cons_succ]
      omega
theorem flat_take (l : List V) (d : Int) (k : Nat) (hk : k < l.length) : flatL (l.take (k + 1)) d = flatL (l.take k) d ++ flat1 l[k] d := by
  rw [List.take_succ_eq_append_getElem hk, flatL_append, flatL_one]
theorem flat_len (l : List V) (d : Int) : (flatL l d).length ≤ sizeL l := Nat.le_trans (length_le _) (flatL_size l d)

/-- what flatten returns -/
def FlatPost (base : Nat) (S : Nat → Prop) (acc : List V) (w : World) (e : Ending) (w' : World) : Prop := ∃ ov, e = .returned ov ∧ Rows1 base S acc ov w' ∧ Below base w w'
/-- the loop's relation: the row so far, and the place -/
def LoopX (base n : Nat) (S : Nat → Prop) (acc l : List V) (d : Int) (w : World) (xs i : Value) (wr : World) : Prop :=
  ∃ k : Nat, i = .int .i64 k ∧ k ≤ n ∧ Rows1 base S (acc ++ flatL (l.take k) d) xs wr ∧ Below base w wr


set_option maxHeartbeats 4000000 in
set_option maxRecDepth 100000 in
theorem flatten_any : ∀ (m : Nat) (l acc : List V) (f : Nat) (d : Int) (n : Nat), l.length = n → sizeL l ≤ m → Dep m f d → acc.length + sizeL l ≤ 2147483647 → ∀ (base : Nat) (S : Nat → Prop) (a : Option Addr) (c : Nat) (ov : Value) (w : World), GL w S l a → (∀ b, S b → b < base) → base ≤ w.heap.size → Rows1 base S acc ov w →
    Calls Tryz.prog 87 #[ov, .slice a n c, .float .f64 f] w (FlatPost base S (acc ++ flatL l d) w) := by
  intro m
  induction m with
  | zero =>
    intro l acc f d n hn hsz hd hlen base S a c ov w hl hS hb hr
    obtain rfl : l = [] := by
      have := length_le l
      exact List.length_eq_zero_iff.1 (by omega)
    obtain rfl : n = 0 := hn.symm
    have HR := Lib.hid hr
    clear hr hd hlen
    go_enter Tryz.func87, Tryz.ntmps87
    go_wp2_with fail
    go_loopw [0, 13] (fun xs i wr => xs = ov ∧ i = .int .i64 0 ∧ wr = w) (fun _ _ _ => 0)
    case atStart => exact ⟨rfl, rfl, rfl⟩
    case round =>
      obtain ⟨rfl, rfl, rfl⟩ := hrel
      go_wp2_with fail
      go_returns
      exact ⟨_, rfl, by rw [flatL, List.append_nil]; exact HR.out, Below.refl _ _⟩
  | succ m ih =>
    intro l acc f d n hn hsz hd hlen base S a c ov w hl hS hb hr
    have HR := Lib.hid hr
    have HL := Lib.hid hl
    have HN := Lib.hid hn
    have HS := Lib.hid hS
    have HD := Lib.hid hd
    have HIH := Lib.hid ih
    obtain ⟨i0, hi, hz0, hz1, hz2⟩ := info_parts infoAny
    have HI := Lib.hid hi
    have HZ0 := Lib.hid hz0
    have HZ1 := Lib.hid hz1
    have HZ2 := Lib.hid hz2
    have hll := length_le l
    clear hr hl hn hS hd ih hi hz0 hz1 hz2
    rw [HN.out] at hll
    go_enter Tryz.func87, Tryz.ntmps87
    go_wp2_with fail
    go_loopw [0, 13] (LoopX base n S acc l d w) (fun _ i _ => n - (intOf i).toNat)
    case atStart => exact ⟨0, rfl, Nat.zero_le _, by rw [List.take_zero, flatL, List.append_nil]; exact HR.out, Below.refl _ _⟩
    case round =>
      obtain ⟨k, rfl, hk, hx, hbel⟩ := hrel
      have HX := Lib.hid hx
      have HB := Lib.hid hbel
      clear hx hbel
      by_cases hlt : k < n
      · have hkl : k < l.length := by rw [HN.out]; exact hlt
        obtain ⟨b, o, rfl⟩ := HL.out.addr (by omega)
        obtain ⟨hSb, g, hc, hg⟩ := GL.at l b o HL.out k hkl
        have hsame : Same S w wr := Same.of_below HB.out HS.out
        have hc' := (hsame.cell hSb).trans hc
        have HG := Lib.hid (GV.mono hsame (fun _ h => h) _ _ hg)
        have HFT := Lib.hid (flat_take l d k hkl)
        have hsz1 := sizeL_get l k hkl
        have hfl1 := flat_len (l.take k) d
        obtain ⟨x, hxe⟩ : ∃ x, Hid (l[k] = x) := ⟨_, Lib.hid rfl⟩
        rw [hxe.out] at HG HFT hsz1
        clear hc hg hsame
        cases x with
        | mk kk h t ls ks vs =>
        rw [V.size] at hsz1
        by_cases hkd : kk = 5 ∧ d ≠ 0
        · obtain ⟨rfl, hd0⟩ := hkd
          obtain ⟨a2, c2, rfl, HGL⟩ : ∃ a2 c2, g = .iface 60 (.slice a2 ls.length c2) ∧ Hid (GL wr S ls a2) := by
            have q := HG.out
            rw [GV] at q
            rcases q with q | q | q | q | q | ⟨_, a2, c2, e, hl⟩ | ⟨q, _⟩
            · omega
            · omega
            · omega
            · omega
            · omega
            · exact ⟨a2, c2, e, Lib.hid hl⟩
            · omega
          obtain ⟨hd1, f', hsub, hdep⟩ := HD.out
          have HDP := Lib.hid hdep
          clear hdep
          rw [decide_eq_false hd0] at hd1
          have hne : (FloatKind.f64.format.order f 0 != some Ordering.eq) = true := by
            simp only [Op.floatEq] at hd1
            rw [bne, hd1]; rfl
          have hsb : ∀ w : World, (binOp .sub 65 (.float .f64 f) (.float .f64 4607182418800017408)).run Tryz.prog w = .ok (.float .f64 f') w := fun w => run_float_arith w .sub 65 .f64 _ _ _ hsub
          clear hd1 hsub
          go_wp2_with fail
          refine (HIH.out ls (acc ++ flatL (l.take k) d) f' (d - 1) ls.length rfl (by omega) HDP.out (by rw [List.length_append]; omega) base S a2 c2 _ wr HGL.out HS.out (Nat.le_trans hb HB.out.size) HX.out).mono ?_
          rintro e w2 ⟨ov2, rfl, hr2, hb2⟩
          have HR2 := Lib.hid hr2
          have HB2 := Lib.hid (HB.out.trans hb2)
          clear hr2 hb2
          go_wp2_with fail
          go_roundw
          case rel =>
            refine ⟨k + 1, rfl, hlt, ?_, HB2.out⟩
            rw [HFT.out, flat1, if_pos ⟨rfl, hd0⟩, ← List.append_assoc]
            exact HR2.out
          case measure => simp [intOf]; omega
        · have HF1 : Hid (flat1 (.mk kk h t ls ks vs) d = [.mk kk h t ls ks vs]) := Lib.hid (by rw [flat1, if_neg hkd])
          have hne : d = 0 → (FloatKind.f64.format.order f 0 != some Ordering.eq) = false := by
            intro h0
            have hd1 := HD.out.eq
            rw [decide_eq_true h0] at hd1
            simp only [Op.floatEq] at hd1
            rw [bne, hd1]; rfl
          obtain ⟨gs, hown, hch⟩ := HX.out
          have HOWN := Lib.hid hown
          have HCH := Lib.hid hch
          have hal : (acc ++ flatL (l.take k) d).length ≤ 2147483646 := by rw [List.length_append]; omega
          have hbw := Nat.le_trans hb HB.out.size
          have hone : ∀ u ∈ [g], u.oneCell' = true := by
            intro u hu
            obtain rfl := List.mem_singleton.1 hu
            rcases HG.out.flat with rfl | ⟨_, _, rfl⟩ <;> rfl
          have HONE := Lib.hid hone
          have hkk : (∃ v, g = .iface 60 v) → d = 0 := by
            rintro ⟨v, rfl⟩
            have q := HG.out
            rw [GV] at q
            rcases q with q | q | q | q | q | ⟨q, a, c, e, _⟩ | ⟨q, r, es, cl, e, _⟩
            · exact absurd q.2 (by simp)
            · exact absurd q.2 (by simp)
            · exact absurd q.2 (by simp)
            · have := q.2
              unfold gnum at this
              split at this <;> simp at this
            · exact absurd q.2 (by simp)
            · exact Decidable.byContradiction fun h0 => hkd ⟨q, h0⟩
            · exact absurd e (by simp)
          have HK := Lib.hid hkk
          clear hown hch hone hkk
          rcases HG.out.kinds with rfl | ⟨gv, rfl⟩ | ⟨gv, rfl⟩ | ⟨gv, rfl⟩ | ⟨gv, rfl⟩ | ⟨gv, rfl⟩ | ⟨gv, rfl⟩
          · clear hne
            (go_wp2_with (at_builtin; refine wpList_append_one _ rfl _ _ 60 rfl base 20 i0 _ 1 16 Tryz.underlying60 HI.out HZ0.out HZ1.out HZ2.out rfl (by decide) _ _ gs rfl (HOWN.out.alloc _) ⟨wr.heap.size, 0, none⟩ 1 _ rfl rfl (cell_new wr _ _) HONE.out (by unfold maxLen; omega) (by omega) (by simp; omega) ?_; intro v' w3 hap
                          have F := Lib.hid (Rows1.next HS.out hbw _ HOWN.out HCH.out HG.out hap)
                          obtain ⟨vg, vcap, rfl⟩ := hap.made
                          clear hap)
             go_roundw
             case rel =>
               refine ⟨k + 1, rfl, hlt, ?_, HB.out.trans F.out.2⟩
               rw [HFT.out, HF1.out, ← List.append_assoc]
               have hf := F.out.1
               rwa [List.length_append] at hf
             case measure => simp [intOf]; omega)
          · clear hne
            (go_wp2_with (at_builtin; refine wpList_append_one _ rfl _ _ 60 rfl base 20 i0 _ 1 16 Tryz.underlying60 HI.out HZ0.out HZ1.out HZ2.out rfl (by decide) _ _ gs rfl (HOWN.out.alloc _) ⟨wr.heap.size, 0, none⟩ 1 _ rfl rfl (cell_new wr _ _) HONE.out (by unfold maxLen; omega) (by omega) (by simp; omega) ?_; intro v' w3 hap
                          have F := Lib.hid (Rows1.next HS.out hbw _ HOWN.out HCH.out HG.out hap)
                          obtain ⟨vg, vcap, rfl⟩ := hap.made
                          clear hap)
             go_roundw
             case rel =>
               refine ⟨k + 1, rfl, hlt, ?_, HB.out.trans F.out.2⟩
               rw [HFT.out, HF1.out, ← List.append_assoc]
               have hf := F.out.1
               rwa [List.length_append] at hf
             case measure => simp [intOf]; omega)
          · clear hne
            (go_wp2_with (at_builtin; refine wpList_append_one _ rfl _ _ 60 rfl base 20 i0 _ 1 16 Tryz.underlying60 HI.out HZ0.out HZ1.out HZ2.out rfl (by decide) _ _ gs rfl (HOWN.out.alloc _) ⟨wr.heap.size, 0, none⟩ 1 _ rfl rfl (cell_new wr _ _) HONE.out (by unfold maxLen; omega) (by omega) (by simp; omega) ?_; intro v' w3 hap
                          have F := Lib.hid (Rows1.next HS.out hbw _ HOWN.out HCH.out HG.out hap)
                          obtain ⟨vg, vcap, rfl⟩ := hap.made
                          clear hap)
             go_roundw
             case rel =>
               refine ⟨k + 1, rfl, hlt, ?_, HB.out.trans F.out.2⟩
               rw [HFT.out, HF1.out, ← List.append_assoc]
               have hf := F.out.1
               rwa [List.length_append] at hf
             case measure => simp [intOf]; omega)
          · clear hne
            (go_wp2_with (at_builtin; refine wpList_append_one _ rfl _ _ 60 rfl base 20 i0 _ 1 16 Tryz.underlying60 HI.out HZ0.out HZ1.out HZ2.out rfl (by decide) _ _ gs rfl (HOWN.out.alloc _) ⟨wr.heap.size, 0, none⟩ 1 _ rfl rfl (cell_new wr _ _) HONE.out (by unfold maxLen; omega) (by omega) (by simp; omega) ?_; intro v' w3 hap
                          have F := Lib.hid (Rows1.next HS.out hbw _ HOWN.out HCH.out HG.out hap)
                          obtain ⟨vg, vcap, rfl⟩ := hap.made
                          clear hap)
             go_roundw
             case rel =>
               refine ⟨k + 1, rfl, hlt, ?_, HB.out.trans F.out.2⟩
               rw [HFT.out, HF1.out, ← List.append_assoc]
               have hf := F.out.1
               rwa [List.length_append] at hf
             case measure => simp [intOf]; omega)
          · clear hne
            (go_wp2_with (at_builtin; refine wpList_append_one _ rfl _ _ 60 rfl base 20 i0 _ 1 16 Tryz.underlying60 HI.out HZ0.out HZ1.out HZ2.out rfl (by decide) _ _ gs rfl (HOWN.out.alloc _) ⟨wr.heap.size, 0, none⟩ 1 _ rfl rfl (cell_new wr _ _) HONE.out (by unfold maxLen; omega) (by omega) (by simp; omega) ?_; intro v' w3 hap
                          have F := Lib.hid (Rows1.next HS.out hbw _ HOWN.out HCH.out HG.out hap)
                          obtain ⟨vg, vcap, rfl⟩ := hap.made
                          clear hap)
             go_roundw
             case rel =>
               refine ⟨k + 1, rfl, hlt, ?_, HB.out.trans F.out.2⟩
               rw [HFT.out, HF1.out, ← List.append_assoc]
               have hf := F.out.1
               rwa [List.length_append] at hf
             case measure => simp [intOf]; omega)
          · have hne0 := hne (HK.out ⟨_, rfl⟩)
            clear hne
            (go_wp2_with (at_builtin; refine wpList_append_one _ rfl _ _ 60 rfl base 20 i0 _ 1 16 Tryz.underlying60 HI.out HZ0.out HZ1.out HZ2.out rfl (by decide) _ _ gs rfl (HOWN.out.alloc _) ⟨wr.heap.size, 0, none⟩ 1 _ rfl rfl (cell_new wr _ _) HONE.out (by unfold maxLen; omega) (by omega) (by simp; omega) ?_; intro v' w3 hap
                          have F := Lib.hid (Rows1.next HS.out hbw _ HOWN.out HCH.out HG.out hap)
                          obtain ⟨vg, vcap, rfl⟩ := hap.made
                          clear hap)
             go_roundw
             case rel =>
               refine ⟨k + 1, rfl, hlt, ?_, HB.out.trans F.out.2⟩
               rw [HFT.out, HF1.out, ← List.append_assoc]
               have hf := F.out.1
               rwa [List.length_append] at hf
             case measure => simp [intOf]; omega)
          · clear hne
            (go_wp2_with (at_builtin; refine wpList_append_one _ rfl _ _ 60 rfl base 20 i0 _ 1 16 Tryz.underlying60 HI.out HZ0.out HZ1.out HZ2.out rfl (by decide) _ _ gs rfl (HOWN.out.alloc _) ⟨wr.heap.size, 0, none⟩ 1 _ rfl rfl (cell_new wr _ _) HONE.out (by unfold maxLen; omega) (by omega) (by simp; omega) ?_; intro v' w3 hap
                          have F := Lib.hid (Rows1.next HS.out hbw _ HOWN.out HCH.out HG.out hap)
                          obtain ⟨vg, vcap, rfl⟩ := hap.made
                          clear hap)
             go_roundw
             case rel =>
               refine ⟨k + 1, rfl, hlt, ?_, HB.out.trans F.out.2⟩
               rw [HFT.out, HF1.out, ← List.append_assoc]
               have hf := F.out.1
               rwa [List.length_append] at hf
             case measure => simp [intOf]; omega)
      · obtain rfl : k = n := by omega
        go_wp2_with fail
        go_returns
        refine ⟨_, rfl, ?_, HB.out⟩
        have := HX.out
        rwa [List.take_of_length_le (by rw [HN.out]; exact Nat.le_refl _)] at this

theorem zzFlattenBy_any (m : Nat) (l : List V) (f : Nat) (d : Int) (n : Nat) (hn : l.length = n) (hsz : sizeL l ≤ m) (hd : Dep m f d) (hlen : sizeL l ≤ 2147483647) (S : Nat → Prop) (a : Option Addr) (c : Nat) (w : World) (hl : GL w S l a) (hS : ∀ b, S b → b < w.heap.size) :
    Calls Tryz.prog 40 #[.slice a n c, .float .f64 f] w (FlatPost w.heap.size S (flatL l d) w) := by
  have HL := Lib.hid hl
  have HS := Lib.hid hS
  have HD := Lib.hid hd
  have HN := Lib.hid hn
  clear hl hS hd hn
  go_enter Tryz.func40, Tryz.ntmps40
  go_wp2_with fail
  generalize hW : World.alloc w _ = W
  have b1 : Below w.heap.size w W := hW ▸ below_alloc w _
  have z : W.heap[w.heap.size]? = some (.cells #[] 20 (0, 0)) := hW ▸ block_new w _ _
  clear hW
  have hr : Rows1 w.heap.size S [] (.slice (some ⟨w.heap.size, 0, none⟩) 0 0) W := ⟨[], ⟨rfl, .inr ⟨w.heap.size, 0, #[], rfl, Nat.le_refl _, z, Nat.le_refl _, by unfold maxLen; omega, rfl, rfl⟩⟩, fun i hi => by simp at hi⟩
  refine (flatten_any m l [] f d n HN.out hsz HD.out (by simpa using hlen) w.heap.size S a c _ W (GL.mono (Same.of_below b1 HS.out) (fun _ h => h) _ _ HL.out) HS.out b1.size hr).mono ?_
  rintro e w2 ⟨ov, rfl, hr2, hb2⟩
  have HR2 := Lib.hid hr2
  have HB := Lib.hid (b1.trans hb2)
  obtain ⟨a2, c2, rfl, _⟩ := hr2.done
  clear b1 z hr hb2 hr2
  go_wp2_with fail
  go_returns
  exact ⟨_, rfl, by simpa using HR2.out, HB.out⟩

set_option maxHeartbeats 4000000 in
theorem flattenBy_any (l : List V) (hg : GoodL l) (hsz : sizeL l ≤ 399) (d : Int) (hd : Dep 400 (floatOfInt .f64 d) d) (S : Nat → Prop) (w : World) (v : Value) (hv : RV w S (mkL l) v) (hS : ∀ b, S b → b < w.heap.size) :
    Calls Tryz.prog 12 #[v, .int .i64 d] w (Result (mkL (flatL l d)) w) := by
  have HS := Lib.hid hS
  have HG := Lib.hid hg
  have HD := Lib.hid hd
  have hll := length_le l
  rw [mkL, RV] at hv
  obtain ⟨la, lc, ka, kc, va, vc, rfl, hl, _, _⟩ := hv
  have HL := Lib.hid hl
  obtain ⟨n, hn⟩ : ∃ n, l.length = n := ⟨_, rfl⟩
  have HN := Lib.hid hn
  rw [hn] at hll ⊢
  clear hS hg hd hl hn
  go_enter Tryz.func12, Tryz.ntmps12
  go_wp2_with fail
  generalize hW : World.alloc (World.alloc w _) _ = W
  have b1 : Below w.heap.size w W := hW ▸ (by go_grown)
  have z0 : W.heap[w.heap.size]? = some (.cells #[.int .i64 5, .int .i64 0, .string ⟨#[]⟩, .slice la n lc, .slice ka 0 kc, .slice va 0 vc] 27 (0, 0)) := hW ▸ block_past (block_new w _ _) _
  have z : W.heap[w.heap.size + 1]? = some (.cells #[.int .i64 0, .int .i64 0, .string ⟨#[]⟩, .slice none 0 0, .slice none 0 0, .slice none 0 0, .int .i64 0] 35 (0, 0)) := hW ▸ (by have := block_new (w.alloc (.cells #[.int .i64 5, .int .i64 0, .string ⟨#[]⟩, .slice la n lc, .slice ka 0 kc, .slice va 0 vc] 27)) #[.int .i64 0, .int .i64 0, .string ⟨#[]⟩, .slice none 0 0, .slice none 0 0, .slice none 0 0, .int .i64 0] 35; rwa [World.size_alloc] at this)
  clear hW
  have hc := listToGo_any l (fun x hx => toGo_good 400 x (by have := size_mem hx; omega) (by omega) (HG.out.mem x hx)) la lc S W (RL.mono (Same.of_below b1 HS.out) (fun _ h => h) _ _ HL.out) (fun b h => Nat.lt_of_lt_of_le (HS.out b h) b1.size) (by rw [HN.out]; omega)
  rw [HN.out] at hc
  refine hc.mono ?_
  rintro e w2 ⟨g, rfl, hgs, hgl, hb2⟩
  rw [HN.out]
  have hs1 := b1.size
  have hs2 := hb2.size
  have HGL := Lib.hid (GL.mono (T := fun r => W.heap.size ≤ r ∧ r < w2.heap.size) (fun _ _ => rfl) (fun _ h => h) _ _ (GL.lt _ _ hgl))
  have HB2 := Lib.hid (b1.trans (hb2.mono hs1))
  have HZ := Lib.hid (keep hb2 z)
  have c0 := cells6 (keep hb2 z0)
  have hwlt : w.heap.size + 1 < W.heap.size := heap_lt z
  clear hc hgl hb2 b1 z z0
  go_wp2_with fail
  refine (zzFlattenBy_any 400 l _ d n HN.out (by omega) HD.out (by omega) _ _ _ w2 HGL.out (fun b h => h.2)).mono ?_
  rintro e w3 ⟨ov, rfl, hr3, hb3⟩
  obtain ⟨a3, c3, rfl, hgl3⟩ := hr3.done
  have hfs := flatL_size l d
  have hlt3 : ∀ b, (fun r => (fun r => W.heap.size ≤ r ∧ r < w2.heap.size) r ∨ w2.heap.size ≤ r) b → W.heap.size ≤ b := by
    rintro b (h | h)
    · exact h.1
    · omega
  have HGL3 := Lib.hid (GL.mono (T := fun r => W.heap.size ≤ r ∧ r < w3.heap.size) (fun _ _ => rfl) (fun b h => ⟨hlt3 b h.1, h.2⟩) _ _ (GL.lt _ _ hgl3))
  have HB3 := Lib.hid (HB2.out.trans (hb3.mono HB2.out.size))
  have HZ3 := Lib.hid (keep hb3 HZ.out)
  have hs3 := hb3.size
  clear hr3 hb3 hgl3 hlt3 c0
  go_wp2_with fail
  refine (result_any (mkL (flatL l d)) (fromGo_good 400 _ (by rw [size_mkL]; omega) (by omega) (good_mkL (flatL_good _ _ HG.out))) _ (fun r => W.heap.size ≤ r ∧ r < w3.heap.size) w3 (by rw [mkL, GV]; exact .inr (.inr (.inr (.inr (.inr (.inl ⟨rfl, _, _, rfl, HGL3.out⟩)))))) (fun b h => h.2)).mono ?_
  rintro e w4 ⟨q0, q1, q2, q3, q4, q5, rfl, hv4, hb4⟩
  obtain ⟨la4, lc4, ka4, kc4, va4, vc4, t4, m4, tx4, l14, l24, l34, e4, HV4⟩ := RV.parts hv4
  simp only [Value.agg.injEq, Array.mk.injEq, List.cons.injEq, and_true] at e4
  obtain ⟨rfl, rfl, rfl, rfl, rfl, rfl⟩ := e4
  have zz := cells7 (keep hb4 HZ3.out)
  have HB4 := Lib.hid (HB3.out.trans (hb4.mono HB3.out.size))
  clear hv4 hb4
  go_wp2_with fail
  refine bodyPost_ret (v := .agg #[.int .i64 t4, .int .i64 m4, .string tx4, .slice la4 l14 lc4, .slice ka4 l24 kc4, .slice va4 l34 vc4, .int .i64 0]) (by simp [results, Tryz.results12, go_sem, *]) rfl ⟨_, _, _, _, _, _, rfl, ?_, ?_⟩
  · exact RV.mono (S := fun r => w3.heap.size ≤ r) (fun b hb => sets7_other _ _ _ _ _ _ _ (by omega)) (fun b hb => by show _ ≤ b; omega) _ _ HV4.out
  · exact sets7 HB4.out (Nat.le_succ _) _ _ _ _ _ _ _

end Go.Proofs.YtnlndpgbhmkanaaGreatDoor.Va
