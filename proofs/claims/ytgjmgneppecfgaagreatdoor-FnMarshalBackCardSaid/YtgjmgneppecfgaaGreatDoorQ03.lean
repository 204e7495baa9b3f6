/-
  DERIVED: THE SHELF's CONTRACTS AT THIS DUMP, IN PLAIN WORDS (tools/lay-plain.mjs out of 'TryzShelf.lean', which tools/lay-shelf.mjs wrote): THE SAME DECLARATIONS UNDER THE SAME NAMES: 'import', 'namespace', 'open', 'def', 'theorem' AND NOTHING ELSE: no command of the shelf's: FOR A HAND-IN. Each laying: the table of numbers ('.._ren') and one theorem, a field a fact of the dump's own or the kernel's comparison; each contract: ONE APPLICATION.
-/
import Derived.Shelf.Unicode.ValidAny
import Derived.Test.YtgjmgneppecfgaaGreatDoorProg
import Derived.Test.YtgjmgneppecfgaaGreatDoorQVaJ
set_option linter.unusedVariables false
set_option linter.unusedSimpArgs false
namespace Go.Proofs
open Go.Shelf
def Tryz.laysValid_ren : Go.Shelf.Ren := ⟨fun | 196 => 18 | 259 => 49 | n => n, fun | 9 => 9 | 4 => 4 | 3 => 3 | 5 => 5 | 12 => 12 | 119 => 83 | 0 => 0 | 46 => 87 | 139 => 86 | 138 => 85 | 53 => 129 | n => n, fun | 3 => 0 | 4 => 1 | n => n⟩
theorem Tryz.laysValid : Go.Proofs.Lays.n196 Tryz.prog Tryz.laysValid_ren := {
  mixed := by kernel_rfl
  f196 := Tryz.func18.trans (congrArg some (by kernel_rfl))
  f259 := Tryz.func49.trans (congrArg some (by kernel_rfl))
  t0 := Tryz.underlying0
  a0 := Tryz.isAgg0
  z0 := Tryz.sizeOf0
  v0 := Tryz.zeroValue0
  t3 := Tryz.underlying3
  a3 := Tryz.isAgg3
  z3 := Tryz.sizeOf3
  v3 := Tryz.zeroValue3
  t4 := Tryz.underlying4
  a4 := Tryz.isAgg4
  z4 := Tryz.sizeOf4
  v4 := Tryz.zeroValue4
  t5 := Tryz.underlying5
  a5 := Tryz.isAgg5
  z5 := Tryz.sizeOf5
  v5 := Tryz.zeroValue5
  t9 := Tryz.underlying9
  a9 := Tryz.isAgg9
  z9 := Tryz.sizeOf9
  v9 := Tryz.zeroValue9
  t12 := Tryz.underlying12
  a12 := Tryz.isAgg12
  z12 := Tryz.sizeOf12
  v12 := Tryz.zeroValue12
  t46 := Tryz.underlying87
  a46 := Tryz.isAgg87
  z46 := Tryz.sizeOf87
  v46 := Tryz.zeroValue87
  t53 := Tryz.underlying129
  a53 := Tryz.isAgg129
  z53 := Tryz.sizeOf129
  v53 := Tryz.zeroValue129
  t119 := Tryz.underlying83
  a119 := Tryz.isAgg83
  z119 := Tryz.sizeOf83
  t138 := Tryz.underlying85
  a138 := Tryz.isAgg85
  z138 := Tryz.sizeOf85
  v138 := Tryz.zeroValue85
  t139 := Tryz.underlying86
  a139 := Tryz.isAgg86
  z139 := Tryz.sizeOf86
  v139 := Tryz.zeroValue86
  g3 := by kernel_rfl
  g4 := by kernel_rfl }
theorem Tryz.utf8_ValidString (s : ByteArray) (w : World) (hs : s.size ≤ 9223372036854775807) (hT : Lib.Utf8Tabs (Tryz.laysValid_ren.g 3) (Tryz.laysValid_ren.g 4) w) :
    Calls Tryz.prog 18 #[.string s] w fun e w' => e = .returned (.bool (Lib.validD s.data.toList)) ∧ RowKit.Below w.heap.size w w' := Any.utf8_ValidString Tryz.laysValid s w hs hT
end Go.Proofs
/-
  THE WALKS of the looker: want, part, str.
-/
namespace Go.Proofs.YtgjmgneppecfgaaGreatDoor.Va
open Go.RowKit
set_option linter.unusedVariables false
set_option linter.unusedSimpArgs false

/-- utf8's two tables lie as their initialisers lay them -/
def Tabs (w : World) : Prop := Lib.Utf8Tabs (Tryz.laysValid_ren.g 3) (Tryz.laysValid_ren.g 4) w
theorem Tabs.below {w w' : World} (h : Tabs w) (hb : Below w.heap.size w w') : Tabs w' := Utf8Tabs_below h hb

/-- the looker, in memory -/
def LK (L : Nat) (p b : Int) (bad : Bool) (w : World) : Prop := w.heap[L]? = some (.cells #[.int .i64 p, .int .i64 b, .bool bad] 69 (0, 0))
theorem cells3 {w : World} {b : Nat} {a0 a1 a2 : Value} {t : TypeId} (h : w.heap[b]? = some (.cells #[a0, a1, a2] t (0, 0))) :
    (w.cell? ⟨b, 0, none⟩ = some a0 ∧ w.cell? ⟨b, 1, none⟩ = some a1 ∧ w.cell? ⟨b, 2, none⟩ = some a2) ∧ w.frozen? ⟨b, 0, none⟩ = false ∧ w.frozen? ⟨b, 1, none⟩ = false ∧ w.frozen? ⟨b, 2, none⟩ = false :=
  ⟨⟨cell_of h 0 rfl, cell_of h 1 rfl, cell_of h 2 rfl⟩, free_of h 0, free_of h 1, free_of h 2⟩
theorem LK.cells {L : Nat} {p b : Int} {bad : Bool} {w : World} (h : LK L p b bad w) :
    (w.cell? ⟨L, 0, none⟩ = some (.int .i64 p) ∧ w.cell? ⟨L, 1, none⟩ = some (.int .i64 b) ∧ w.cell? ⟨L, 2, none⟩ = some (.bool bad)) ∧ w.frozen? ⟨L, 0, none⟩ = false ∧ w.frozen? ⟨L, 1, none⟩ = false ∧ w.frozen? ⟨L, 2, none⟩ = false := cells3 h
theorem LK.lt {L : Nat} {p b : Int} {bad : Bool} {w : World} (h : LK L p b bad w) : L < w.heap.size := heap_lt h
theorem LK.set0 {L : Nat} {p b : Int} {bad : Bool} {w : World} (h : LK L p b bad w) (q : Int) : LK L q b bad (w.setCell ⟨L, 0, none⟩ (.int .i64 q)) := set_block h 0 _
theorem LK.set1 {L : Nat} {p b : Int} {bad : Bool} {w : World} (h : LK L p b bad w) (q : Int) : LK L p q bad (w.setCell ⟨L, 1, none⟩ (.int .i64 q)) := set_block h 1 _
theorem LK.set2 {L : Nat} {p b : Int} {bad : Bool} {w : World} (h : LK L p b bad w) (q : Bool) : LK L p b q (w.setCell ⟨L, 2, none⟩ (.bool q)) := set_block h 2 _

theorem gr_refl (w : World) (r : Option Nat) : w.grownBy w r := ⟨rfl, rfl, rfl, Nat.le_refl _, fun _ _ _ => rfl⟩
theorem gr_trans {a b c : World} {r : Option Nat} (h : a.grownBy b r) (k : b.grownBy c r) : a.grownBy c r :=
  ⟨k.os.trans h.os, k.tape.trans h.tape, k.output.trans h.output, Nat.le_trans h.size k.size, fun i hi hr => (k.block i (Nat.lt_of_lt_of_le hi h.size) hr).trans (h.block i hi hr)⟩
theorem gr_below {a b : World} {r : Option Nat} (h : Below a.heap.size a b) : a.grownBy b r := ⟨h.os, h.tape, h.output, h.size, fun i hi _ => h.block i hi⟩
theorem gr_set (w : World) (L j : Nat) (v : Value) : w.grownBy (w.setCell ⟨L, j, none⟩ v) (some L) := ⟨rfl, rfl, rfl, by simp, fun k _ hk => set_other j v (fun e => hk (by rw [e]))⟩

/-- what a walk over the looker leaves: nothing else is turned -/
def Looked (L : Nat) (p b : Int) (bad : Bool) (w w' : World) : Prop := LK L p b bad w' ∧ w.grownBy w' (some L)

set_option maxHeartbeats 400000 in
theorem want_any {L : Nat} {p b : Int} {bad : Bool} (ok : Bool) {w : World} (h : LK L p b bad w) :
    Calls Tryz.prog 89 #[.pointer (some ⟨L, 0, none⟩), .bool ok] w fun e w' => e = .returned (.tuple #[]) ∧ Looked L p b (bad || !ok) w w' := by
  have c := h.cells
  have H := Lib.hid h
  clear h
  cases bad
  · go_enter Tryz.func89, Tryz.ntmps89
    go_wp2_with fail
    go_returns
    exact ⟨rfl, H.out.set2 _, gr_set _ _ _ _⟩
  · go_enter Tryz.func89, Tryz.ntmps89
    go_wp2_with fail
    go_returns
    exact ⟨rfl, H.out.set2 _, gr_set _ _ _ _⟩

/-- what part returns -/
def Part (L : Nat) (p b : Int) (bad : Bool) (deep : Int) (w : World) (e : Ending) (w' : World) : Prop :=
  ∃ bad' : Bool, e = .returned (.bool (!bad')) ∧ Looked L (wrap64 (p + 1)) b bad' w w' ∧ (bad' = false → bad = false ∧ wrap64 (p + 1) ≤ 400 ∧ b ≤ 2000 ∧ deep ≤ 60)

set_option maxHeartbeats 1000000 in
theorem part_any {L : Nat} {p b : Int} {bad : Bool} (deep : Int) {w : World} (h : LK L p b bad w) : Calls Tryz.prog 88 #[.pointer (some ⟨L, 0, none⟩), .int .i64 deep] w (Part L p b bad deep w) := by
  have c := h.cells
  have H := Lib.hid h
  clear h
  by_cases hd : deep ≤ 60
  all_goals
    go_enter Tryz.func88, Tryz.ntmps88
    go_wp2_with fail
    all_goals
      generalize hW : World.setCell w _ _ = W
      have HQ := Lib.hid (hW ▸ H.out.set0 _ : LK L (wrap64 (p + 1)) b bad W)
      have HGr := Lib.hid (hW ▸ gr_set w L 0 _ : w.grownBy W (some L))
      clear hW c
      refine (want_any _ HQ.out).mono ?_
      rintro e w2 ⟨rfl, hl⟩
      have HL := Lib.hid hl
      clear hl
      have c2 := HL.out.1.cells
      try simp only [Bool.not_false, Bool.not_true, Bool.or_true, Bool.or_false] at c2
      go_wp2_with fail
      go_returns
      first
        | exact ⟨true, rfl, ⟨by have := HL.out.1; simpa using this, gr_trans HGr.out HL.out.2⟩, fun h => by cases h⟩
        | exact ⟨bad, rfl, ⟨by have := HL.out.1; simpa using this, gr_trans HGr.out HL.out.2⟩, fun h => ⟨h, by omega, by omega, by omega⟩⟩

/-- what str leaves -/
def Str (L : Nat) (p b : Int) (bad : Bool) (s : ByteArray) (w : World) (e : Ending) (w' : World) : Prop :=
  e = .returned (.tuple #[]) ∧ ∃ bad' : Bool, Looked L p (wrap64 (b + s.size)) bad' w w' ∧ (bad' = false → bad = false ∧ wrap64 (b + s.size) ≤ 2000 ∧ Lib.validD s.data.toList = true)

set_option maxHeartbeats 1000000 in
theorem str_any {L : Nat} {p b : Int} {bad : Bool} (s : ByteArray) (hs : s.size ≤ 4611686018427387904) {w0 w : World} (hT : Tabs w0) (hw : Below w0.heap.size w0 w) (hL : w0.heap.size ≤ L) (h : LK L p b bad w) :
    Calls Tryz.prog 90 #[.pointer (some ⟨L, 0, none⟩), .string s] w (Str L p b bad s w) := by
  have c := h.cells
  have H := Lib.hid h
  have HT := Lib.hid hT
  have HW := Lib.hid hw
  clear h hT hw
  obtain ⟨vd, hv⟩ : ∃ v, Hid (Lib.validD s.data.toList = v) := ⟨_, Lib.hid rfl⟩
  have hvc : ∀ W : World, Tabs W → Calls Tryz.prog 18 #[.string s] W fun e w' => e = .returned (.bool vd) ∧ Below W.heap.size W w' := fun W hW => by
    have := Tryz.utf8_ValidString s W (by omega) hW
    rwa [hv.out] at this
  have HVC := Lib.hid hvc
  clear hvc
  cases vd
  all_goals
    go_enter Tryz.func90, Tryz.ntmps90
    go_upto_region 1 with fail
    generalize hW : World.setCell w _ _ = W
    have HQ := Lib.hid (hW ▸ H.out.set1 _ : LK L p (wrap64 (b + s.size)) bad W)
    have HGr := Lib.hid (hW ▸ gr_set w L 1 _ : w.grownBy W (some L))
    have HW2 := Lib.hid (hW ▸ HW.out.setCell hL _ : Below w0.heap.size w0 W)
    clear hW c
    have cq := HQ.out.cells
    obtain ⟨sb, hsb⟩ : ∃ q, Hid (wrap64 (b + s.size) = q) := ⟨_, Lib.hid rfl⟩
    rw [hsb.out] at HQ cq ⊢
    go_wp2_with fail
  · refine (HVC.out _ (HT.out.below HW2.out)).mono ?_
    rintro e w2 ⟨rfl, hb2⟩
    have HB2 := Lib.hid hb2
    go_wp2_with fail
    refine (want_any _ (keep hb2 HQ.out : LK L p sb bad w2)).mono ?_
    rintro e w3 ⟨rfl, hl⟩
    have HL := Lib.hid hl
    clear hl hb2
    go_wp2_with fail
    go_returns
    exact ⟨rfl, true, ⟨by have := HL.out.1; simpa [hsb.out] using this, gr_trans HGr.out (gr_trans (gr_below HB2.out) HL.out.2)⟩, fun h => by cases h⟩
  · refine (want_any _ HQ.out).mono ?_
    rintro e w3 ⟨rfl, hl⟩
    have HL := Lib.hid hl
    clear hl
    go_wp2_with fail
    go_returns
    exact ⟨rfl, true, ⟨by have := HL.out.1; simpa [hsb.out] using this, gr_trans HGr.out HL.out.2⟩, fun h => by cases h⟩
  · refine (HVC.out _ (HT.out.below HW2.out)).mono ?_
    rintro e w2 ⟨rfl, hb2⟩
    have HB2 := Lib.hid hb2
    go_wp2_with fail
    refine (want_any _ (keep hb2 HQ.out : LK L p sb bad w2)).mono ?_
    rintro e w3 ⟨rfl, hl⟩
    have HL := Lib.hid hl
    clear hl hb2
    go_wp2_with fail
    go_returns
    exact ⟨rfl, bad, ⟨by have := HL.out.1; simpa [hsb.out] using this, gr_trans HGr.out (gr_trans (gr_below HB2.out) HL.out.2)⟩, fun h => ⟨h, by rw [hsb.out]; omega, hv.out⟩⟩
  · refine (want_any _ HQ.out).mono ?_
    rintro e w3 ⟨rfl, hl⟩
    have HL := Lib.hid hl
    clear hl
    go_wp2_with fail
    go_returns
    exact ⟨rfl, true, ⟨by have := HL.out.1; simpa [hsb.out] using this, gr_trans HGr.out HL.out.2⟩, fun h => by cases h⟩

end Go.Proofs.YtgjmgneppecfgaaGreatDoor.Va
