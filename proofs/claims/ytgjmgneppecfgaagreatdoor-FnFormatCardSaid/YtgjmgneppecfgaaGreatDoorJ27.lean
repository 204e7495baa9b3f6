/-
  FnFormat, texts McD McK BlS PaK FoP: lemmas for the law; the theorem stands in the last text.
-/
import Derived.Deep.DeepCutAuto
import Derived.Shelf.Strings.BuilderK
import Derived.Shelf.Strings.OnBuilder
import Derived.Shelf.Strings.Builder2Cap
import Derived.Test.YtgjmgneppecfgaaGreatDoorProg
import Derived.Test.YtgjmgneppecfgaaGreatDoorJ08
import Derived.Test.YtgjmgneppecfgaaGreatDoorJ14
import Derived.Test.YtgjmgneppecfgaaGreatDoorJ15
import Derived.Test.YtgjmgneppecfgaaGreatDoorJ18
import Derived.Test.YtgjmgneppecfgaaGreatDoorJ24
import Derived.Test.YtgjmgneppecfgaaGreatDoorJ25
import Derived.Test.YtgjmgneppecfgaaGreatDoorJ26
namespace Go.Proofs.YtgjmgneppecfgaaGreatDoor.Mc
open Go.RowKit Go.Proofs.YtgjmgneppecfgaaGreatDoor.Va Go.Proofs.YtgjmgneppecfgaaGreatDoor.Ba Go.Proofs.YtgjmgneppecfgaaGreatDoor.Ma Go.Proofs.YtgjmgneppecfgaaGreatDoor.Mb
set_option linter.unusedVariables false
set_option linter.unusedSimpArgs false

def RetF (x : Nat) (w : World) (e : Ending) (w' : World) : Prop := e = .returned (.float .f64 x) ∧ w = w'
def RetBool (b : Bool) (w : World) (e : Ending) (w' : World) : Prop := e = .returned (.bool b) ∧ w = w'
set_option maxHeartbeats 1000000 in
theorem isNaN_any (x : Nat) (h : Ieee.double.order x x = some .eq) (w : World) : Calls Tryz.prog 181 #[.float .f64 x] w (RetBool false w) := by
  have o : (FloatKind.f64.format.order x x != some Ordering.eq) = false := by
    have : FloatKind.f64.format.order x x = some .eq := h
    rw [this]
    rfl
  go_enter Tryz.func181, Tryz.ntmps181
  go_wp2_with fail
  go_returns
  exact ⟨rfl, rfl⟩
theorem run_from (x : Nat) (w : World) : (callFunc 211 #[.int .u64 (x : Int)]).run Tryz.prog w = .ok (.value (.float .f64 x)) w := by
  rw [run_callFunc_extern (P := Tryz.prog) (f := 211) (fn := Tryz.f211) (e := Extern.MathFloatBits.float64frombits) (by kernel_rfl) (by kernel_rfl) (by kernel_rfl) (by kernel_rfl) (by kernel_rfl)]
  rfl
theorem andnot63 {x : Nat} (h : x < 18446744073709551616) : bits .andNot .u64 (x : Int) 9223372036854775808 = ((x % 9223372036854775808 : Nat) : Int) := by
  have e := u64_andNot_nat x 9223372036854775808 h (by decide)
  have h2 : x &&& (18446744073709551615 - 9223372036854775808) = x % 9223372036854775808 := Nat.and_two_pow_sub_one_eq_mod x 63
  rw [h2] at e
  exact e
set_option maxHeartbeats 1000000 in
theorem abs_any (x : Nat) (h : x < 18446744073709551616) (w : World) : Calls Tryz.prog 182 #[.float .f64 x] w (RetF (x % 9223372036854775808) w) := by
  have h1 := run_bits x
  have h2 := andnot63 h
  obtain ⟨y, hy⟩ : ∃ y, x % 9223372036854775808 = y := ⟨_, rfl⟩
  rw [hy] at h2 ⊢
  have h3 := run_from y
  clear hy
  go_enter Tryz.func182, Tryz.ntmps182
  go_wp2_with fail
  go_returns
  exact ⟨rfl, rfl⟩
theorem run_max {x y : Nat} (o : FloatKind.f64.format.order x y = some .gt) (a : Array TypeId) (t : TypeId) (w : World) : (Builtin.max_ a t #[.float .f64 x, .float .f64 y]).run Tryz.prog w = .ok (.float .f64 x) w := by
  show (Builtin.max2 (.float .f64 x) (.float .f64 y) >>= pure).run Tryz.prog w = _
  unfold Builtin.max2
  simp only [o]
  rfl
theorem run_min {x y : Nat} (o : FloatKind.f64.format.order x y = some .lt) (a : Array TypeId) (t : TypeId) (w : World) : (Builtin.min_ a t #[.float .f64 x, .float .f64 y]).run Tryz.prog w = .ok (.float .f64 x) w := by
  show (Builtin.min2 (.float .f64 x) (.float .f64 y) >>= pure).run Tryz.prog w = _
  unfold Builtin.min2
  simp only [o]
  rfl
/-- something was put into the encoder's own row -/
theorem St.put {B b E : Nat} {bs cs : List Nat} {w w' : World} {f : Nat → Value} (h : St B b E bs w) (h0 : f 0 = wv b) (hr : w'.rowIs E 118 65 (putR f (1 + 0) cs)) (hg : w.grownBy w' (some E)) : Wrote B b E bs w w' := by
  obtain ⟨hb, ⟨f', _, hr'⟩, hlt⟩ := h
  have hBE : B ≤ E := by
    rcases hb with hb | hb
    · have := hb.1; omega
    · have := hb.1; omega
  obtain ⟨ce, he, _⟩ := hr'
  have one : ∀ p, IsBp B b p bs w → IsBp B b p bs w' := by
    rintro p ⟨h1, v, h2, h3, h4⟩
    refine ⟨h1, v, (hg.block b (heap_lt h2) (fun e => by have := Option.some.inj e; omega)).trans h2, ownsRow_same h3 (fun q hq => hg.block q (h3.lt q hq.symm).2 (fun e => ?_)), h4⟩
    rcases h3.2 with ⟨rfl, _⟩ | ⟨g, cap, cur, rfl, _, c, _⟩
    · cases hq
    · cases hq
      have e2 : g = E := Option.some.inj e
      subst e2
      rw [c] at he
      cases he
  refine ⟨⟨?_, ⟨_, ?_, hr⟩, hlt⟩, ⟨hg.os, hg.tape, hg.output, hg.size, fun k hk => hg.block k ?_ (fun e => by have := Option.some.inj e; omega)⟩, fun k o hk _ hE _ => (hg.block k (heap_lt hk) (fun e => hE (Option.some.inj e))).trans hk⟩
  · rcases hb with hb | hb
    · exact .inl (one _ hb)
    · exact .inr (one _ hb)
  · unfold putR
    rw [if_neg (by omega)]
    exact h0
  · have := heap_lt he
    omega
set_option maxHeartbeats 4000000 in
set_option maxRecDepth 100000 in
theorem encFloat_any {h : Int} {s : Bool} {M k : Nat} (H : Half h s M k) (ho : h % 2 ≠ 0) (hb : h.natAbs < 9007199254740992) (B b E : Nat) (bs : List Nat) (w : World) (hst : St B b E bs w) (hB : B ≤ w.heap.size) (hlim : bs.length + 30 ≤ 140737488355328) :
    Calls Tryz.prog 148 #[.pointer (some ⟨E, 0, none⟩), .float .f64 (fl h)] w (EncEnd B b E (bs ++ numJ h) w) := by
  have HH := Lib.hid H
  have HST := Lib.hid hst
  have c0 := hst.cell
  obtain ⟨hx, hk, lo, hi⟩ := wd_parts H
  have hx64 : fl h < 18446744073709551616 := by rw [hx]; cases s <;> simp <;> omega
  have hrd := H.readL
  have habs := abs_word H
  have HC := Lib.hid (fun (g o k cap n : Nat) (t : TypeId) (f : Nat → Value) (w : World) => appFloat_any g o k cap n t f H ho hb w)
  have HJ := Lib.hid (numJ_len (h := h) (by omega))
  clear hst H hx
  obtain ⟨x, hx⟩ : ∃ x, fl h = x := ⟨_, rfl⟩
  rw [hx] at hx64 hrd habs HC ⊢
  obtain ⟨y, hy⟩ : ∃ y, x % 9223372036854775808 = y := ⟨_, rfl⟩
  rw [hy] at habs
  have HY := Lib.hid hy
  have HN := Lib.hid (isNaN_any x (ord_self hrd))
  have HA := Lib.hid (fun w => abs_any x hx64 w)
  have o1 : FloatKind.f64.format.order x 18442240474082181119 = some .gt := ord_min hrd hk hi
  have o2 : FloatKind.f64.format.order x 9218868437227405311 = some .lt := ord_max hrd hk hi
  have o3 : FloatKind.f64.format.order y 0 = some .gt := ord_zero habs hk lo
  have o4 : FloatKind.f64.format.order y 4517329193108106637 = some .gt := ord_tiny habs hk lo
  have o5 : FloatKind.f64.format.order y 4921056587992461136 = some .lt := ord_huge habs hk hi
  have p1 := run_max o1
  have p2 := run_min o2
  clear hx hy hrd habs ho o1 o2
  go_enter Tryz.func148, Tryz.ntmps148
  go_wp2_with fail
  refine (HN.out w).mono ?_
  rintro e w1 ⟨rfl, rfl⟩
  go_wp2_with fail
  refine (HA.out w).mono ?_
  rintro e w1 ⟨rfl, rfl⟩
  rw [HY.out]
  go_wp2_with fail
  obtain ⟨f, hf0, hfr⟩ := HST.out.enc
  have HF0 := Lib.hid hf0
  refine (HC.out E 1 0 64 65 118 f w hfr (by decide) (by decide)).mono ?_
  rintro e w2 ⟨rfl, hrow, hgr⟩
  have HR := Lib.hid hrow
  have W2 := Lib.hid (HST.out.put HF0.out hrow hgr)
  have c2 := W2.out.1.cell
  have hz2 := W2.out.2.1.size
  obtain ⟨l, hl⟩ : ∃ l, (numJ h).length = l := ⟨_, rfl⟩
  have HL := Lib.hid hl
  rw [hl]
  have hl30 : l ≤ 30 := by rw [← hl]; exact HJ.out
  clear hrow hgr hf0 hfr c0 hl
  go_wp2_with fail
  refine (write_any B b E E 1 l 64 bs (numJ h) w2 W2.out.1 (by omega) (by have := W2.out.1.lt; omega) HL.out (fun j hj => ?_) (by omega)).mono ?_
  · rw [HR.out.cell (by omega)]
    unfold putR
    rw [if_pos (by rw [HL.out]; omega), show 1 + j - (1 + 0) = j by omega]
  rintro e w3 ⟨rfl, h3⟩
  have W3 := Lib.hid (W2.out.trans h3)
  clear h3
  go_wp2_with fail
  go_returns
  exact ⟨rfl, W3.out⟩
end Go.Proofs.YtgjmgneppecfgaaGreatDoor.Mc
namespace Go.Proofs.YtgjmgneppecfgaaGreatDoor.Mc
open Go.RowKit Go.Proofs.YtgjmgneppecfgaaGreatDoor.Va Go.Proofs.YtgjmgneppecfgaaGreatDoor.Ba Go.Proofs.YtgjmgneppecfgaaGreatDoor.Ma Go.Proofs.YtgjmgneppecfgaaGreatDoor.Mb
set_option linter.unusedVariables false
set_option linter.unusedSimpArgs false

theorem encS_of {s : ByteArray} (hs : s.size ≤ 2147483647) (hv : Lib.validD s.data.toList = true) : EncS s := fun B b E bs w h hB hlim hT => encString_any B b E bs s w h hB hs hlim hv hT
/-- the shape of the encoder's own block, its first cell -/
def EHead (b E : Nat) (w : World) : Prop := w.cell? ⟨E, 0, none⟩ = some (.iface 241 (.pointer (some ⟨b, 0, none⟩)))
set_option maxHeartbeats 2000000 in
set_option maxRecDepth 100000 in
theorem encode_int (z : Int) (h0 : -9223372036854775808 ≤ z) (h1 : z ≤ 9223372036854775807) (B b E : Nat) (bs : List Nat) (w : World) (hst : St B b E bs w) (hB : B ≤ w.heap.size) (hlim : bs.length + 30 ≤ 140737488355328) :
    Calls Tryz.prog 92 #[.pointer (some ⟨E, 0, none⟩), .iface 3 (.int .i64 z)] w (EncEnd B b E (bs ++ itoa z) w) := by
  have HST := Lib.hid hst
  have c0 := hst.cell
  have HC := Lib.hid (fun (f : Nat → Value) (w : World) (hr : w.rowIs E 118 65 f) => appInt_any E 1 0 64 65 118 f z h0 h1 w hr (by decide) (by decide))
  have HLI := Lib.hid (itoa_len h0 h1)
  clear hst h0 h1
  go_enter Tryz.func92, Tryz.ntmps92
  go_upto_region 13 with fail
  refine wp_region_D (EHead b E) [12] (by kernel_rfl) ?_
  generalize hWd : World.drew w = w1
  have hS3 : EHead b E w1 := hWd ▸ c0
  have B1 : Below w.heap.size w w1 := hWd ▸ (Below.refl _ w).drew
  have W1 := Lib.hid ((Wrote.refl HST.out).quiet hB B1)
  clear hWd B1
  (refine wpAnyD_take (i := 0) (v := ?_) [1, 2, 3, 10, 11, 12] [12] rfl (by kernel_rfl) (by kernel_rfl) (by kernel_rfl) (fun _ _ _ h => h) (by kernel_rfl) (by kernel_rfl) (by kernel_rfl) (Or.inl ⟨?_, ?_⟩) hS3 ?_
   rotate_left
   focus rfl
   focus (intro w' hw'; unfold EHead at hw'; go_simp; with_reducible rfl)
   try go_simp)
  (refine wpAnyD_take (i := 1) (v := ?_) [2, 3, 10, 11, 12] [12] rfl (by kernel_rfl) (by kernel_rfl) (by kernel_rfl) (fun _ _ _ h => h) (by kernel_rfl) (by kernel_rfl) (by kernel_rfl) (Or.inl ⟨?_, ?_⟩) hS3 ?_
   rotate_left
   focus rfl
   focus (intro w' hw'; unfold EHead at hw'; go_simp; with_reducible rfl)
   try go_simp)
  (refine wpAnyD_take (i := 2) (v := ?_) [3, 10, 11, 12] [12] rfl (by kernel_rfl) (by kernel_rfl) (by kernel_rfl) (fun _ _ _ h => h) (by kernel_rfl) (by kernel_rfl) (by kernel_rfl) (Or.inl ⟨?_, ?_⟩) hS3 ?_
   rotate_left
   focus rfl
   focus (intro w' hw'; unfold EHead at hw'; go_simp; with_reducible rfl)
   try go_simp)
  (refine wpAnyD_take (i := 3) (v := ?_) [10, 11, 12] [12] rfl (by kernel_rfl) (by kernel_rfl) (by kernel_rfl) (fun _ _ _ h => h) (by kernel_rfl) (by kernel_rfl) (by kernel_rfl) (Or.inl ⟨?_, ?_⟩) hS3 ?_
   rotate_left
   focus rfl
   focus (intro w' hw'; unfold EHead at hw'; go_simp; with_reducible rfl)
   try go_simp)
  (refine wpAnyD_take (i := 10) (v := ?_) [11, 12] [12] rfl (by kernel_rfl) (by kernel_rfl) (by kernel_rfl) (fun _ _ _ h => h) (by kernel_rfl) (by kernel_rfl) (by kernel_rfl) (Or.inl ⟨?_, ?_⟩) hS3 ?_
   rotate_left
   focus rfl
   focus (intro w' hw'; unfold EHead at hw'; go_simp; with_reducible rfl)
   try go_simp)
  (refine wpAnyD_take (i := 11) (v := ?_) [12] [12] rfl (by kernel_rfl) (by kernel_rfl) (by kernel_rfl) (fun _ _ _ h => h) (by kernel_rfl) (by kernel_rfl) (by kernel_rfl) (Or.inl ⟨?_, ?_⟩) hS3 ?_
   rotate_left
   focus rfl
   focus (intro w' hw'; unfold EHead at hw'; go_simp; with_reducible rfl)
   try go_simp)
  (refine wpAnyD_take (i := 4) (v := ?_) [5, 6, 7, 9, 12] [12] rfl (by kernel_rfl) (by kernel_rfl) (by kernel_rfl) (fun _ _ _ h => h) (by kernel_rfl) (by kernel_rfl) (by kernel_rfl) (Or.inl ⟨?_, ?_⟩) hS3 ?_
   rotate_left
   focus rfl
   focus (intro w' hw'; unfold EHead at hw'; go_simp; with_reducible rfl)
   try go_simp)
  (refine wpAnyD_take (i := 5) (v := ?_) [6, 7, 9, 12] [12] rfl (by kernel_rfl) (by kernel_rfl) (by kernel_rfl) (fun _ _ _ h => h) (by kernel_rfl) (by kernel_rfl) (by kernel_rfl) (Or.inl ⟨?_, ?_⟩) hS3 ?_
   rotate_left
   focus rfl
   focus (intro w' hw'; unfold EHead at hw'; go_simp; with_reducible rfl)
   try go_simp)
  (refine wpAnyD_take (i := 6) (v := ?_) [7, 9, 12] [12] rfl (by kernel_rfl) (by kernel_rfl) (by kernel_rfl) (fun _ _ _ h => h) (by kernel_rfl) (by kernel_rfl) (by kernel_rfl) (Or.inl ⟨?_, ?_⟩) hS3 ?_
   rotate_left
   focus rfl
   focus (intro w' hw'; unfold EHead at hw'; go_simp; with_reducible rfl)
   try go_simp)
  (refine wpAnyD_take (i := 7) (v := ?_) [9, 12] [12] rfl (by kernel_rfl) (by kernel_rfl) (by kernel_rfl) (fun _ _ _ h => h) (by kernel_rfl) (by kernel_rfl) (by kernel_rfl) (Or.inl ⟨?_, ?_⟩) hS3 ?_
   rotate_left
   focus rfl
   focus (intro w' hw'; unfold EHead at hw'; go_simp; with_reducible rfl)
   try go_simp)
  (refine wpAnyD_take (i := 8) (v := ?_) [9, 12] [12] rfl (by kernel_rfl) (by kernel_rfl) (by kernel_rfl) (fun _ _ _ h => h) (by kernel_rfl) (by kernel_rfl) (by kernel_rfl) (Or.inl ⟨?_, ?_⟩) hS3 ?_
   rotate_left
   focus rfl
   focus (intro w' hw'; unfold EHead at hw'; go_simp; with_reducible rfl)
   try go_simp)
  refine wpAnyD_ready (rs := [9]) (by kernel_rfl) (by simp) ?_
  refine AllReadyD.cons rfl (fun K hK => ?_) AllReadyD.nil
  go_simp
  obtain ⟨f, hf0, hfr⟩ := W1.out.1.enc
  have HF0 := Lib.hid hf0
  refine (HC.out f w1 hfr).mono ?_
  rintro e w2 ⟨rfl, hrow, hgr⟩
  have HR := Lib.hid hrow
  have W2 := Lib.hid (W1.out.trans (W1.out.1.put HF0.out hrow hgr))
  have c2 := W2.out.1.cell
  have hz2 := W2.out.2.1.size
  obtain ⟨l, hl⟩ : ∃ l, (itoa z).length = l := ⟨_, rfl⟩
  have HL := Lib.hid hl
  rw [hl]
  have hl30 : l ≤ 30 := by have := HLI.out; omega
  refine hK.out _ _ (fun _ => c2) ?_
  clear hK K hrow hgr hf0 hfr c0 hl hS3
  have hS3 : EHead b E w2 := c2
  try go_simp
  refine wpAnyD_ready (rs := [12]) (by kernel_rfl) (by simp) ?_
  refine AllReadyD.cons rfl (fun K hK => ?_) AllReadyD.nil
  go_simp
  refine (write_any B b E E 1 l 64 bs (itoa z) w2 W2.out.1 (by omega) (by have := W2.out.1.lt; omega) HL.out (fun j hj => ?_) (by omega)).mono ?_
  · rw [HR.out.cell (by omega)]
    unfold putR
    rw [if_pos (by rw [HL.out]; omega), show 1 + j - (1 + 0) = j by omega]
  rintro e w3 ⟨rfl, h3⟩
  have W3 := Lib.hid (W2.out.trans h3)
  clear h3
  refine hK.out _ _ (fun h => absurd h (by decide)) ?_
  clear hK K
  try go_simp
  refine wpAnyD_done (by kernel_rfl) ?_ _
  clear hS3
  go_wp2_with fail
  go_returns
  exact ⟨rfl, W3.out⟩
set_option maxHeartbeats 4000000 in
set_option maxRecDepth 100000 in
theorem encode_of (x : V) (hg : Va.Good x) (HL : ∀ k h t ls ks vs, x = .mk k h t ls ks vs → (∀ y ∈ ls, EncW y) ∧ (∀ y ∈ vs, EncW y)) : EncW x := by
  obtain ⟨k, h, t, ls, ks, vs⟩ := x
  obtain ⟨H1, H2⟩ := HL _ _ _ _ _ _ rfl
  rw [Va.Good] at hg
  obtain ⟨g1, gl, gr, gv⟩ := hg
  intro B b E bs w g S hgv hS hst hB hlim hT
  rw [V.size] at hlim
  have hlim2 : bs.length + 40 ≤ 140737488355328 := by unfold NodeLen at hlim; omega
  have c0 := hst.cell
  have HST := Lib.hid hst
  have HLM := Lib.hid hlim
  have HT := Lib.hid hT
  rw [GV] at hgv
  rcases hgv with ⟨rfl, rfl⟩ | ⟨rfl, rfl⟩ | ⟨rfl, rfl⟩ | ⟨rfl, rfl⟩ | ⟨rfl, rfl⟩ | ⟨rfl, a, c, rfl, hl⟩ | ⟨rfl, r, es, clock, rfl, hr, hm, hst2, hgm⟩
  · clear H1 H2 HL g1 gl gr gv hS hlim hT
    go_enter Tryz.func92, Tryz.ntmps92
    go_wp2_with fail
    refine (writeString_any B b E bs _ w HST.out hB (by simp [ByteArray.size]; omega)).mono ?_
    rintro e w1 ⟨rfl, h1⟩
    have W1 := Lib.hid h1
    clear h1
    go_wp2_with fail
    go_returns
    exact ⟨rfl, by have := W1.out; rw [encJ]; exact this⟩
  · clear H1 H2 HL g1 gl gr gv hS hlim hT
    go_enter Tryz.func92, Tryz.ntmps92
    go_wp2_with fail
    refine (writeString_any B b E bs _ w HST.out hB (by simp [ByteArray.size]; omega)).mono ?_
    rintro e w1 ⟨rfl, h1⟩
    have W1 := Lib.hid h1
    clear h1
    go_wp2_with fail
    go_returns
    exact ⟨rfl, by have := W1.out; rw [encJ]; exact this⟩
  · clear H1 H2 HL g1 gl gr gv hS hlim hT
    go_enter Tryz.func92, Tryz.ntmps92
    go_wp2_with fail
    refine (writeString_any B b E bs _ w HST.out hB (by simp [ByteArray.size]; omega)).mono ?_
    rintro e w1 ⟨rfl, h1⟩
    have W1 := Lib.hid h1
    clear h1
    go_wp2_with fail
    go_returns
    exact ⟨rfl, by have := W1.out; rw [encJ]; exact this⟩
  · have hj : encJ (.mk 3 h t ls ks vs) = numJ h := by rw [encJ, if_neg (by decide), if_neg (by decide), if_neg (by decide), if_pos rfl]
    rw [hj]
    have b1 := g1.lo
    have b2 := g1.hi
    by_cases he : h % 2 = 0
    · rw [show gnum h = .iface 3 (.int .i64 (h / 2)) by unfold gnum; rw [if_pos he], numJ_even he]
      exact encode_int (h / 2) (by omega) (by omega) B b E bs w hst hB (by omega)
    · rw [show gnum h = .iface 65 (.float .f64 (fl h)) by unfold gnum; rw [if_neg he]]
      have ho := g1.odd
      obtain ⟨s, M, k, H⟩ := half_of h (by omega) (by unfold Va.B; omega)
      have HF := Lib.hid (encFloat_any H he (by omega) B b E bs w hst hB (by omega))
      obtain ⟨x, hx⟩ : ∃ x, fl h = x := ⟨_, rfl⟩
      rw [hx] at HF ⊢
      clear H1 H2 HL g1 gl gr gv hS hlim hT hst H hx
      go_enter Tryz.func92, Tryz.ntmps92
      go_wp2_with fail
      refine HF.out.mono ?_
      rintro e w1 ⟨rfl, h1⟩
      have W1 := Lib.hid h1
      clear h1
      go_wp2_with fail
      go_returns
      exact ⟨rfl, W1.out⟩
  · have hj : encJ (.mk 4 h t ls ks vs) = Ma.encStr (bytesN t) := by rw [encJ, if_neg (by decide), if_neg (by decide), if_neg (by decide), if_neg (by decide), if_pos rfl]
    rw [hj]
    have htb : t.size ≤ 2147483647 := Nat.le_trans g1.tb (by decide)
    have HF := Lib.hid (encS_of htb g1.tv B b E bs w hst hB (by unfold NodeLen at hlim; omega) hT)
    clear H1 H2 HL g1 gl gr gv hS hlim hT hst
    go_enter Tryz.func92, Tryz.ntmps92
    go_wp2_with fail
    refine HF.out.mono ?_
    rintro e w1 ⟨rfl, h1⟩
    have W1 := Lib.hid h1
    clear h1
    go_wp2_with fail
    go_returns
    exact ⟨rfl, W1.out⟩
  · have hj : encJ (.mk 5 h t ls ks vs) = 91 :: ((encC ls).tail ++ [93]) := by rw [encJ, if_neg (by decide), if_neg (by decide), if_neg (by decide), if_neg (by decide), if_neg (by decide), if_pos rfl]
    rw [hj]
    have hll := length_le ls
    obtain ⟨n, hn⟩ : ∃ n, ls.length = n := ⟨_, rfl⟩
    rw [hn] at hll ⊢
    have HF := Lib.hid (encArray_any ls H1 gl n c hn (by unfold NodeLen at hlim; omega) B b E bs a S w hl hS hst hB (Nat.le_trans (Nat.add_le_add_left (Nat.mul_le_mul_right _ (by omega)) _) hlim) hT)
    clear H1 H2 HL g1 gl gr gv hS hlim hT hst hl hn hll
    go_enter Tryz.func92, Tryz.ntmps92
    go_wp2_with fail
    refine HF.out.mono ?_
    rintro e w1 ⟨rfl, h1⟩
    have W1 := Lib.hid h1
    clear h1
    go_wp2_with fail
    go_returns
    exact ⟨rfl, W1.out⟩
  · have hj : encJ (.mk 6 h t ls ks vs) = 123 :: ((encM vs ks).tail ++ [125]) := by rw [encJ, if_neg (by decide), if_neg (by decide), if_neg (by decide), if_neg (by decide), if_neg (by decide), if_neg (by decide)]
    rw [hj]
    have hll := length_le vs
    obtain ⟨n, hn⟩ : ∃ n, vs.length = n := ⟨_, rfl⟩
    rw [hn] at hll
    have HF := Lib.hid (encObject_any ks vs H2 (fun s hs => encS_of (Nat.le_trans (g1.kb s hs) (by decide)) (g1.kv s hs)) gv (fun s hs => Nat.le_trans (g1.kb s hs) (by decide)) gr n (g1.len.trans hn) hn (by unfold NodeLen at hlim; omega) B b E r bs es clock S w hm hst2 hgm hr hS hst hB (Nat.le_trans (Nat.add_le_add_left (Nat.mul_le_mul_right _ (by omega)) _) hlim) hT)
    clear H1 H2 HL g1 gl gr gv hS hlim hT hst hm hst2 hgm hn hll hr
    go_enter Tryz.func92, Tryz.ntmps92
    go_wp2_with fail
    refine HF.out.mono ?_
    rintro e w1 ⟨rfl, h1⟩
    have W1 := Lib.hid h1
    clear h1
    go_wp2_with fail
    go_returns
    exact ⟨rfl, W1.out⟩
mutual
theorem encode_any : ∀ (x : V), Va.Good x → EncW x
  | .mk k h t ls ks vs, hg => encode_of _ hg (fun k' h' t' ls' ks' vs' e => by
      have h1 := encode_list ls (by rw [Va.Good] at hg; exact hg.2.1)
      have h2 := encode_list vs (by rw [Va.Good] at hg; exact hg.2.2.2)
      cases e
      exact ⟨h1, h2⟩)
theorem encode_list : ∀ (l : List V), GoodL l → ∀ y ∈ l, EncW y
  | [], _, _, h => by cases h
  | x :: xs, hg, y, h => by
    have h1 := encode_any x (by rw [GoodL] at hg; exact hg.1)
    have h2 := encode_list xs (by rw [GoodL] at hg; exact hg.2)
    rcases List.mem_cons.1 h with rfl | h
    · exact h1
    · exact h2 y h
end
end Go.Proofs.YtgjmgneppecfgaaGreatDoor.Mc
namespace Go.Proofs
open Go.Shelf
def Tryz.lays169_ren : Go.Shelf.Ren := ⟨fun | 169 => 227 | n => n, fun | 70 => 241 | 9 => 9 | 0 => 0 | 72 => 243 | 37 => 73 | 127 => 286 | 3 => 3 | 5 => 5 | n => n, fun | n => n⟩
theorem Tryz.lays169 : Go.Proofs.Lays.n169 Tryz.prog Tryz.lays169_ren := {
  mixed := by kernel_rfl
  f169 := Tryz.func227.trans (congrArg some (by kernel_rfl))
  t0 := Tryz.underlying0
  a0 := Tryz.isAgg0
  z0 := Tryz.sizeOf0
  v0 := Tryz.zeroValue0
  t3 := Tryz.underlying3
  a3 := Tryz.isAgg3
  z3 := Tryz.sizeOf3
  v3 := Tryz.zeroValue3
  t9 := Tryz.underlying9
  a9 := Tryz.isAgg9
  z9 := Tryz.sizeOf9
  v9 := Tryz.zeroValue9
  t37 := Tryz.underlying73
  a37 := Tryz.isAgg73
  z37 := Tryz.sizeOf73
  v37 := Tryz.zeroValue73
  t70 := Tryz.underlying241
  a70 := Tryz.isAgg241
  z70 := Tryz.sizeOf241
  v70 := Tryz.zeroValue241
  t72 := Tryz.underlying243
  a72 := Tryz.isAgg243
  z72 := Tryz.sizeOf243
  v72 := Tryz.zeroValue243
  t127 := Tryz.underlying286
  a127 := Tryz.isAgg286
  z127 := Tryz.sizeOf286
  v127 := Tryz.zeroValue286 }
def Tryz.lays156_ren : Go.Shelf.Ren := ⟨fun | 156 => 231 | 165 => 268 | 166 => 270 | 169 => 227 | 240 => 294 | 241 => 295 | 276 => 303 | 277 => 304 | n => n, fun | 31 => 25 | 9 => 9 | 3 => 3 | 4 => 4 | 0 => 0 | 20 => 20 | 72 => 243 | 76 => 153 | 70 => 241 | 37 => 73 | 75 => 75 | 127 => 286 | 164 => 219 | 5 => 5 | 80 => 122 | n => n, fun | n => n⟩
theorem Tryz.lays156 : Go.Proofs.Lays.n156 Tryz.prog Tryz.lays156_ren := {
  mixed := by kernel_rfl
  f156 := Tryz.func231.trans (congrArg some (by kernel_rfl))
  f165 := Tryz.func268.trans (congrArg some (by kernel_rfl))
  f166 := Tryz.func270.trans (congrArg some (by kernel_rfl))
  f169 := Tryz.func227.trans (congrArg some (by kernel_rfl))
  f240 := Tryz.func294.trans (congrArg some (by kernel_rfl))
  f241 := Tryz.func295.trans (congrArg some (by kernel_rfl))
  f276 := Tryz.func303.trans (congrArg some (by kernel_rfl))
  f277 := Tryz.func304.trans (congrArg some (by kernel_rfl))
  t0 := Tryz.underlying0
  a0 := Tryz.isAgg0
  z0 := Tryz.sizeOf0
  v0 := Tryz.zeroValue0
  t3 := Tryz.underlying3
  a3 := Tryz.isAgg3
  z3 := Tryz.sizeOf3
  v3 := Tryz.zeroValue3
  t4 := Tryz.underlying4
  a4 := Tryz.isAgg4
  z4 := Tryz.sizeOf4
  v4 := Tryz.zeroValue4
  t9 := Tryz.underlying9
  a9 := Tryz.isAgg9
  z9 := Tryz.sizeOf9
  v9 := Tryz.zeroValue9
  t20 := Tryz.underlying20
  a20 := Tryz.isAgg20
  z20 := Tryz.sizeOf20
  v20 := Tryz.zeroValue20
  t31 := Tryz.underlying25
  a31 := Tryz.isAgg25
  z31 := Tryz.sizeOf25
  v31 := Tryz.zeroValue25
  t37 := Tryz.underlying73
  a37 := Tryz.isAgg73
  z37 := Tryz.sizeOf73
  v37 := Tryz.zeroValue73
  t70 := Tryz.underlying241
  a70 := Tryz.isAgg241
  z70 := Tryz.sizeOf241
  v70 := Tryz.zeroValue241
  t72 := Tryz.underlying243
  a72 := Tryz.isAgg243
  z72 := Tryz.sizeOf243
  v72 := Tryz.zeroValue243
  t75 := Tryz.underlying75
  a75 := Tryz.isAgg75
  z75 := Tryz.sizeOf75
  v75 := Tryz.zeroValue75
  t76 := Tryz.underlying153
  a76 := Tryz.isAgg153
  z76 := Tryz.sizeOf153
  v76 := Tryz.zeroValue153
  t127 := Tryz.underlying286
  a127 := Tryz.isAgg286
  z127 := Tryz.sizeOf286
  v127 := Tryz.zeroValue286
  t164 := Tryz.underlying219
  a164 := Tryz.isAgg219
  z164 := Tryz.sizeOf219
  v164 := Tryz.zeroValue219 }
def Tryz.lays165_ren : Go.Shelf.Ren := ⟨fun | 165 => 268 | 240 => 294 | 241 => 295 | 276 => 303 | 277 => 304 | n => n, fun | 70 => 241 | 3 => 3 | 0 => 0 | 4 => 4 | 9 => 9 | 20 => 20 | 72 => 243 | 37 => 73 | 164 => 219 | 5 => 5 | n => n, fun | n => n⟩
theorem Tryz.lays165 : Go.Proofs.Lays.n165 Tryz.prog Tryz.lays165_ren := {
  mixed := by kernel_rfl
  f165 := Tryz.func268.trans (congrArg some (by kernel_rfl))
  f240 := Tryz.func294.trans (congrArg some (by kernel_rfl))
  f241 := Tryz.func295.trans (congrArg some (by kernel_rfl))
  f276 := Tryz.func303.trans (congrArg some (by kernel_rfl))
  f277 := Tryz.func304.trans (congrArg some (by kernel_rfl))
  t0 := Tryz.underlying0
  a0 := Tryz.isAgg0
  z0 := Tryz.sizeOf0
  v0 := Tryz.zeroValue0
  t3 := Tryz.underlying3
  a3 := Tryz.isAgg3
  z3 := Tryz.sizeOf3
  v3 := Tryz.zeroValue3
  t4 := Tryz.underlying4
  a4 := Tryz.isAgg4
  z4 := Tryz.sizeOf4
  v4 := Tryz.zeroValue4
  t9 := Tryz.underlying9
  a9 := Tryz.isAgg9
  z9 := Tryz.sizeOf9
  v9 := Tryz.zeroValue9
  t20 := Tryz.underlying20
  a20 := Tryz.isAgg20
  z20 := Tryz.sizeOf20
  v20 := Tryz.zeroValue20
  t37 := Tryz.underlying73
  a37 := Tryz.isAgg73
  z37 := Tryz.sizeOf73
  v37 := Tryz.zeroValue73
  t70 := Tryz.underlying241
  a70 := Tryz.isAgg241
  z70 := Tryz.sizeOf241
  v70 := Tryz.zeroValue241
  t72 := Tryz.underlying243
  a72 := Tryz.isAgg243
  z72 := Tryz.sizeOf243
  v72 := Tryz.zeroValue243
  t164 := Tryz.underlying219
  a164 := Tryz.isAgg219
  z164 := Tryz.sizeOf219
  v164 := Tryz.zeroValue219 }
end Go.Proofs
namespace Go.Proofs.YtgjmgneppecfgaaGreatDoor.Pa
open Go.RowKit Go.Proofs.YtgjmgneppecfgaaGreatDoor.Va Go.Proofs.YtgjmgneppecfgaaGreatDoor.Ba Go.Proofs.YtgjmgneppecfgaaGreatDoor.Ma
set_option linter.unusedVariables false
set_option linter.unusedSimpArgs false

/-- a byte of a word -/
def wordB (c : Nat) : Bool := (decide (97 ≤ c) && decide (c ≤ 122)) || (decide (48 ≤ c) && decide (c ≤ 57)) || c == 45 || c == 46
theorem numJ_word (h : Int) : ∀ x ∈ numJ h, wordB x = true := by
  intro x hx
  unfold numJ at hx
  rcases List.mem_append.1 hx with hx | hx
  · split at hx
    · simp at hx; subst hx; rfl
    · cases hx
  · rcases List.mem_append.1 hx with hx | hx
    · have := digs_range _ x hx
      unfold wordB
      simp
      omega
    · split at hx
      · cases hx
      · simp at hx
        rcases hx with rfl | rfl <;> rfl
end Go.Proofs.YtgjmgneppecfgaaGreatDoor.Pa
namespace Go.Proofs.YtgjmgneppecfgaaGreatDoor.Fo
open Go.RowKit Go.Proofs.YtgjmgneppecfgaaGreatDoor.Va Go.Proofs.YtgjmgneppecfgaaGreatDoor.Ba Go.Proofs.YtgjmgneppecfgaaGreatDoor.Ma Go.Proofs.YtgjmgneppecfgaaGreatDoor.Pa
set_option linter.unusedVariables false
set_option linter.unusedSimpArgs false

def listV (ls : List V) : V := .mk 5 0 ⟨#[]⟩ ls [] []
def mapV (ks : List ByteArray) (vs : List V) : V := .mk 6 0 ⟨#[]⟩ [] ks vs
theorem good_text0 {k h : Int} {t : ByteArray} {ls : List V} {ks : List ByteArray} {vs : List V} (g : Good1 k h t ls ks vs) (hk : k ≠ 4) : t = ⟨#[]⟩ := by
  rcases g.txt with e | e
  · exact absurd e hk
  · exact bytes_inj (List.eq_nil_of_length_eq_zero (by rw [bytesN_len]; exact e))
theorem good_ls0 {k h : Int} {t : ByteArray} {ls : List V} {ks : List ByteArray} {vs : List V} (g : Good1 k h t ls ks vs) (hk : k ≠ 5) : ls = [] := by
  rcases g.lst with e | e
  · exact absurd e hk
  · exact List.eq_nil_of_length_eq_zero e
theorem good_ks0 {k h : Int} {t : ByteArray} {ls : List V} {ks : List ByteArray} {vs : List V} (g : Good1 k h t ls ks vs) (hk : k ≠ 6) : ks = [] ∧ vs = [] := by
  rcases g.map with e | e
  · exact absurd e hk
  · exact ⟨List.eq_nil_of_length_eq_zero e, List.eq_nil_of_length_eq_zero (by rw [← g.len]; exact e)⟩
theorem good_h0 {k h : Int} {t : ByteArray} {ls : List V} {ks : List ByteArray} {vs : List V} (g : Good1 k h t ls ks vs) (hk : k ≠ 3) : h = 0 := by
  rcases g.num with e | e
  · exact absurd e hk
  · exact e
theorem wordB_cases {c : Nat} (h : wordB c = true) : (97 ≤ c ∧ c ≤ 122) ∨ (48 ≤ c ∧ c ≤ 57) ∨ c = 45 ∨ c = 46 := by
  unfold wordB at h
  simp at h
  omega
theorem numJ_lt (h : Int) : ∀ c ∈ numJ h, c < 256 := by
  intro c hc
  have := numJ_word h c hc
  have := wordB_cases this
  omega
mutual
theorem encJ_lt : ∀ x : V, ∀ c ∈ encJ x, c < 256
  | .mk k h t ls ks vs => by
    rw [encJ]
    intro c hc
    have h1 := encC_lt ls
    have h2 := encM_lt vs ks
    repeat' split at hc
    · simp at hc; omega
    · simp at hc; omega
    · simp at hc; omega
    · exact numJ_lt h c hc
    · exact encStr_lt (bytesN_lt t) c hc
    · rcases List.mem_cons.1 hc with e | hc
      · omega
      · rcases List.mem_append.1 hc with hc | hc
        · exact h1 c (List.mem_of_mem_tail hc)
        · simp at hc; omega
    · rcases List.mem_cons.1 hc with e | hc
      · omega
      · rcases List.mem_append.1 hc with hc | hc
        · exact h2 c (List.mem_of_mem_tail hc)
        · simp at hc; omega
theorem encC_lt : ∀ ls : List V, ∀ c ∈ encC ls, c < 256
  | [] => by rw [encC]; intro c hc; cases hc
  | x :: xs => by
    rw [encC]
    intro c hc
    rcases List.mem_cons.1 hc with e | hc
    · omega
    · rcases List.mem_append.1 hc with hc | hc
      · exact encJ_lt x c hc
      · exact encC_lt xs c hc
theorem encM_lt : ∀ (vs : List V) (ks : List ByteArray), ∀ c ∈ encM vs ks, c < 256
  | [], _ => by rw [encM]; intro c hc; cases hc
  | _ :: _, [] => by rw [encM]; intro c hc; cases hc
  | v :: vs, k :: ks => by
    rw [encM]
    intro c hc
    rcases List.mem_cons.1 hc with e | hc
    · omega
    · rcases List.mem_append.1 hc with hc | hc
      · exact encStr_lt (bytesN_lt k) c hc
      · rcases List.mem_cons.1 hc with e | hc
        · omega
        · rcases List.mem_append.1 hc with hc | hc
          · exact encJ_lt v c hc
          · exact encM_lt vs ks c hc
end
/-- how long a text is: with texts and keys of at most 4096 bytes -/
def Node2 : Nat := 65536
mutual
theorem encJ_len2 : ∀ (x : V), Va.Good x → (encJ x).length + 32768 ≤ x.size * Node2
  | .mk k h t ls ks vs, hg => by
    rw [Va.Good] at hg
    obtain ⟨g, gl, _, gv⟩ := hg
    have h1 := encC_len2 ls gl
    have h2 := encM_len2 vs ks g.kb gv
    have h3 := encStr_len (bytesN t)
    have h4 := numJ_len (h := h) (by have := g.lo; have := g.hi; omega)
    have ht := g.tb
    rw [bytesN_len] at h3
    rw [encJ, V.size]
    unfold Node2 at *
    repeat' split
    all_goals (try simp only [List.length_cons, List.length_append, List.length_nil, List.length_tail])
    all_goals omega
theorem encC_len2 : ∀ (l : List V), GoodL l → (encC l).length ≤ sizeL l * Node2
  | [], _ => by rw [encC]; simp
  | x :: xs, hg => by
    rw [GoodL] at hg
    have h1 := encJ_len2 x hg.1
    have h2 := encC_len2 xs hg.2
    rw [encC, sizeL]
    unfold Node2 at *
    simp only [List.length_cons, List.length_append]
    omega
theorem encM_len2 : ∀ (l : List V) (ks : List ByteArray), (∀ s ∈ ks, s.size ≤ 4096) → GoodL l → (encM l ks).length ≤ sizeL l * Node2
  | [], _, _, _ => by rw [encM]; simp
  | _ :: _, [], _, _ => by rw [encM]; simp
  | x :: xs, k :: ks, hk, hg => by
    rw [GoodL] at hg
    have h1 := encJ_len2 x hg.1
    have h2 := encM_len2 xs ks (fun s hs => hk s (List.mem_cons_of_mem _ hs)) hg.2
    have h3 := encStr_len (bytesN k)
    have h4 := hk k List.mem_cons_self
    rw [bytesN_len] at h3
    rw [encM, sizeL]
    unfold Node2 at *
    simp only [List.length_cons, List.length_append]
    omega
end
theorem encJ_small (x : V) (hg : Va.Good x) (h : x.size ≤ 400) : (encJ x).length ≤ 26214400 := by
  have h1 := encJ_len2 x hg
  have h2 := Nat.mul_le_mul_right Node2 h
  unfold Node2 at h1 h2
  omega
end Go.Proofs.YtgjmgneppecfgaaGreatDoor.Fo
