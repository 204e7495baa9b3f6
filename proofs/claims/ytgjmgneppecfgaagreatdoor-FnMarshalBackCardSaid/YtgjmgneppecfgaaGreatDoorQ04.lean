/-
  BASE64, as plain data: letters and their numbers.
-/
import Derived.Test.YtgjmgneppecfgaaGreatDoorQVaV
import Derived.Deep.OwnRows
import Derived.Lib.LazyBuf
import Derived.Lib.BufferWrite
import Derived.Lib.SlBuf
import Derived.Laws.BytesArg
import Derived.Laws.IdiomStrings
import Derived.Laws.BitsAllLaws
set_option linter.unusedVariables false
set_option linter.unusedSimpArgs false
namespace Go.Proofs.YtgjmgneppecfgaaGreatDoor.Ba
open Go.RowKit
set_option linter.unusedVariables false
set_option linter.unusedSimpArgs false

/-- the letters -/
def abc : ByteArray := ⟨#[65, 66, 67, 68, 69, 70, 71, 72, 73, 74, 75, 76, 77, 78, 79, 80, 81, 82, 83, 84, 85, 86, 87, 88, 89, 90, 97, 98, 99, 100, 101, 102, 103, 104, 105, 106, 107, 108, 109, 110, 111, 112, 113, 114, 115, 116, 117, 118, 119, 120, 121, 122, 48, 49, 50, 51, 52, 53, 54, 55, 56, 57, 43, 47]⟩
/-- the letter of a number -/
def lt (i : Nat) : Nat := if i < 26 then 65 + i else if i < 52 then 71 + i else if i < 62 then i - 4 else if i = 62 then 43 else 47
/-- the number of a letter, 255 of what is none -/
def dc (c : Nat) : Nat := if 65 ≤ c ∧ c ≤ 90 then c - 65 else if 97 ≤ c ∧ c ≤ 122 then c - 71 else if 48 ≤ c ∧ c ≤ 57 then c + 4 else if c = 43 then 62 else if c = 47 then 63 else 255
theorem dc_lt {i : Nat} (h : i < 64) : dc (lt i) = i := by
  unfold lt dc
  repeat' (first | split | omega)
theorem lt_lt (i : Nat) (h : i < 64) : lt i < 128 := by
  unfold lt
  repeat' (first | split | omega)
theorem dc_le (c : Nat) : dc c < 64 ∨ dc c = 255 := by
  unfold dc
  repeat' (first | split | omega)
theorem lt_dc {c : Nat} (h : dc c < 64) : lt (dc c) = c := by
  have h5 : dc c ≠ 255 := by omega
  clear h
  unfold dc at h5 ⊢
  unfold lt
  repeat' (first | split | omega)
  all_goals (exfalso; apply h5; simp_all)
theorem abc_at : ∀ i : Fin 64, (abc.data[i.val]!).toNat = lt i.val := by decide
theorem abc_size : abc.size = 64 := by decide
theorem abc_get (i : Nat) (h : i < 64) : (abc[i]'(by rw [abc_size]; exact h)).toNat = lt i := by
  have := abc_at ⟨i, h⟩
  rw [← this]
  have hs : i < abc.data.size := by rw [show abc.data.size = 64 from abc_size]; exact h
  rw [getElem!_pos abc.data i hs]
  rfl
end Go.Proofs.YtgjmgneppecfgaaGreatDoor.Ba
/-
  THE WALK of base64.NewEncoding at the letters of RFC 4648.
-/
namespace Go.Proofs.YtgjmgneppecfgaaGreatDoor.Ba
open Go.RowKit Go.Proofs.YtgjmgneppecfgaaGreatDoor.Va
set_option linter.unusedVariables false
set_option linter.unusedSimpArgs false

/-- a copy of a string into a row -/
theorem copy_row {P : Program} {w : World} {g n : Nat} {t : TypeId} {f : Nat → Value} (h : w.rowIs g t n f) (o dLen dCap : Nat) (s : ByteArray) (dT sT ty elem : TypeId) (hu : P.underlying dT = some (.slice elem)) (hs : (P.info? elem).map (·.size) = some 1)
    (hle : s.size ≤ dLen) (hfit : o + s.size ≤ n) : ∃ w', (Builtin.copy_ #[dT, sT] ty #[.slice (some ⟨g, o, none⟩) dLen dCap, .string s]).run P w = .ok (goInt s.size) w' ∧
      w'.rowIs g t n (fun j => if o ≤ j ∧ j < o + s.size then .int .u8 ((s.data.toList.getD (j - o) 0).toNat : Int) else f j) ∧ w.grownBy w' (some g) := by
  obtain ⟨cur, h1, h2, h3⟩ := h
  have hr := Lib.run_copy_row_string (P := P) w dT sT ty elem g o dLen dCap s cur t hu hs h1 hle (by omega)
  refine ⟨_, hr, ⟨_, setRow_heap w g _ _ _ _ h1, ?_, fun i hi => ?_⟩, ⟨rfl, rfl, rfl, by simp, fun k _ hk => setRow_other _ _ _ _ (fun e => hk (by rw [e]))⟩⟩
  · have hsz : s.data.toList.length = s.size := (Lib.size_eq s).symm
    simp [Lib.byteCells, hsz]
    omega
  · have hsz : s.data.toList.length = s.size := (Lib.size_eq s).symm
    have hbl : (Lib.byteCells s.data.toList).length = s.size := by rw [Lib.byteCells_length, hsz]
    have htl : (cur.toList.take o).length = o := by simp; omega
    rw [List.getElem?_toArray]
    show _ = some (if o ≤ i ∧ i < o + s.size then Value.int .u8 ((s.data.toList.getD (i - o) 0).toNat : Int) else f i)
    by_cases c1 : i < o
    · rw [if_neg (by omega), List.getElem?_append_left (by rw [List.length_append, htl]; omega), List.getElem?_append_left (by rw [htl]; exact c1), List.getElem?_take, if_pos c1]
      have := h3 i hi
      simpa using this
    · by_cases c2 : i < o + s.size
      · rw [if_pos ⟨by omega, c2⟩, List.getElem?_append_left (by rw [List.length_append, htl, hbl]; omega), List.getElem?_append_right (by rw [htl]; omega), htl]
        unfold Lib.byteCells
        rw [List.getElem?_map, List.getElem?_eq_getElem (by omega)]
        simp [List.getD, List.getElem?_eq_getElem (show i - o < s.data.toList.length by omega)]
      · rw [if_neg (by omega), List.getElem?_append_right (by rw [List.length_append, htl, hbl]; omega), List.length_append, htl, hbl, List.getElem?_drop]
        have := h3 i hi
        rw [show o + s.size + (i - (o + s.size)) = i by omega]
        simpa using this

/-- an encoding's cells as they are made -/
def encZ : Array Value := ((Array.replicate 320 (Value.int .u8 0)).push (.int .i32 0)).push (.bool false)
theorem encZ_eq : Tryz.zeroCells197 = encZ := by kernel_rfl
def encZf (j : Nat) : Value := if j < 320 then .int .u8 0 else if j = 320 then .int .i32 0 else .bool false
theorem encZ_at (i : Nat) (h : i < 322) : encZ[i]? = some (encZf i) := by
  unfold encZ encZf
  rw [Array.getElem?_push, Array.getElem?_push]
  simp only [Array.size_push, Array.size_replicate]
  by_cases c : i = 321
  · subst c; rfl
  · rw [if_neg c]
    by_cases d : i = 320
    · subst d; rfl
    · rw [if_neg d, if_pos (by omega), Array.getElem?_replicate, if_pos (by omega)]
theorem encZ_row (w : World) : (w.alloc (.cells Tryz.zeroCells197 197)).rowIs w.heap.size 197 322 encZf := by
  rw [encZ_eq]
  have h := World.rowIs_alloc w encZ 197 encZf (fun i hi => encZ_at i (by simpa [encZ] using hi))
  rwa [show encZ.size = 322 by simp [encZ]] at h
/-- an encoding's cells: its letters, the first k of them with their numbers -/
def encF (k : Nat) (pad : Int) (j : Nat) : Value :=
  if j < 64 then .int .u8 (lt j) else if j < 320 then .int .u8 (if dc (j - 64) < k then dc (j - 64) else 255 : Nat) else if j = 320 then .int .i32 pad else .bool false
def ff : ByteArray := ⟨(List.replicate 256 255).toArray⟩
theorem ff_size : ff.size = 256 := by
  show ((List.replicate 256 (255 : UInt8)).toArray).size = 256
  rw [List.size_toArray, List.length_replicate]
theorem ff_at (j : Nat) (h : j < 256) : (ff.data.toList.getD j 0).toNat = 255 := by
  show ((List.replicate 256 (255 : UInt8)).getD j 0).toNat = 255
  rw [List.getD, List.getElem?_replicate, if_pos h]
  rfl
theorem abc_toList (j : Nat) (h : j < 64) : (abc.data.toList.getD j 0).toNat = lt j := by
  have := abc_at ⟨j, h⟩
  rw [← this]
  have hs : j < abc.data.size := by rw [show abc.data.size = 64 from abc_size]; exact h
  rw [getElem!_pos abc.data j hs, List.getD, Array.getElem?_toList, Array.getElem?_eq_getElem hs]
  rfl
def NewEnd (w : World) (e : Ending) (w' : World) : Prop := e = .returned (.pointer (some ⟨w.heap.size, 0, none⟩)) ∧ Below w.heap.size w w' ∧ w'.rowIs w.heap.size 197 322 (encF 64 61)
def LoopN (w : World) (i : Value) (wr : World) : Prop := ∃ k : Nat, i = .int .i64 k ∧ k ≤ 64 ∧ Below w.heap.size w wr ∧ wr.rowIs w.heap.size 197 322 (encF k 61)

set_option maxHeartbeats 2000000 in
set_option maxRecDepth 100000 in
theorem new_any (w : World) : Calls Tryz.prog 156 #[.string abc] w (NewEnd w) := by
  have hsz := abc_size
  go_enter Tryz.func156, Tryz.ntmps156
  go_upto_region 4 with fail
  generalize hW : World.alloc w _ = W
  have h0 := hW ▸ encZ_row w
  have B0 := Lib.hid (hW ▸ below_alloc w _ : Below w.heap.size w W)
  clear hW
  have H0 := Lib.hid h0
  have hc : W.cell? ⟨w.heap.size, 320, none⟩ = some (.int .i32 0) := h0.cell (i := 320) (by decide)
  have hf := h0.frozen 320
  clear h0
  go_upto_region 5 with fail
  generalize hW : World.setCell W _ _ = W1
  have H1 := Lib.hid (hW ▸ H0.out.set 320 (.int .i32 61))
  have B1 := Lib.hid (hW ▸ B0.out.setCell (Nat.le_refl _) _ : Below w.heap.size w W1)
  clear hW H0 B0 hc hf
  obtain ⟨W2, hr2, h2, hg2⟩ := copy_row (P := Tryz.prog) H1.out 0 64 64 abc 73 9 3 5 Tryz.underlying73 (by kernel_rfl) (by rw [hsz]; exact Nat.le_refl _) (by rw [hsz]; decide)
  have B2 := Lib.hid (B1.out.grown hg2 B1.out.size (fun k e => by obtain rfl := Option.some.inj e; exact Nat.le_refl _))
  obtain ⟨W3, hr3, h3, hg3⟩ := copy_row (P := Tryz.prog) h2 64 256 256 ff 73 9 3 5 Tryz.underlying73 (by kernel_rfl) (by rw [ff_size]; exact Nat.le_refl _) (by rw [ff_size]; decide)
  have B3 := Lib.hid (B2.out.grown hg3 B2.out.size (fun k e => by obtain rfl := Option.some.inj e; exact Nat.le_refl _))
  have H3 : Hid (W3.rowIs w.heap.size 197 322 (encF 0 61)) := Lib.hid (h3.congr fun i hi => by
    show (if 64 ≤ i ∧ i < 64 + ff.size then _ else if 0 ≤ i ∧ i < 0 + abc.size then _ else if i = 320 then _ else encZf i) = encF 0 61 i
    rw [ff_size, abc_size]
    unfold encF
    by_cases c1 : i < 64
    · rw [if_neg (by omega), if_pos (by omega), if_pos c1, Nat.sub_zero, abc_toList i c1]
    · by_cases c2 : i < 320
      · rw [if_pos (by omega), if_neg c1, if_pos c2, ff_at (i - 64) (by omega), if_neg (by omega)]
      · rw [if_neg (by omega), if_neg (by omega), if_neg c1, if_neg c2]
        by_cases c3 : i = 320
        · rw [if_pos c3, if_pos c3]
        · rw [if_neg c3, if_neg c3]
          unfold encZf
          rw [if_neg c2, if_neg c3])
  clear h2 h3 hg2 hg3 H1 B1
  go_upto_region 6 with (refine Lib.wpList_copy_run _ rfl (.tmp 16) (.tmp 17) 73 9 rfl _ _ rfl rfl hr2 ?_)
  clear hr2
  go_upto_region 7 with (refine Lib.wpList_copy_run _ rfl (.tmp 22) _ 73 9 rfl _ _ rfl rfl hr3 ?_)
  clear hr3
  go_wp2_with fail
  go_loopw [4] (LoopN w) (fun i _ => 64 - (intOf i).toNat)
  case atStart => exact ⟨0, rfl, by omega, B3.out, H3.out⟩
  case round =>
    clear B2 B3 H3
    obtain ⟨k, rfl, hk, hb, hrow⟩ := hrel
    have HB := Lib.hid hb
    have HR := Lib.hid hrow
    clear hb hrow
    by_cases hlt : k < 64
    · obtain ⟨x, hx⟩ : ∃ x, lt k = x := ⟨_, rfl⟩
      have hb : (abc[k]'(by rw [abc_size]; exact hlt)).toNat = x := (abc_get k hlt).trans hx
      have hxl : 43 ≤ x ∧ x < 123 := by
        rw [← hx]; unfold lt
        repeat' (first | split | omega)
      have hxl1 := hxl.1
      have hxl2 := hxl.2
      have h10 : ((x : Int) == 10) = false := by simp; omega
      have h13 : ((x : Int) == 13) = false := by simp; omega
      have HX := Lib.hid hx
      have hc : wr.cell? ⟨w.heap.size, 64 + x, none⟩ = some (.int .u8 255) := by
        rw [HR.out.cell (i := 64 + x) (by omega)]
        unfold encF
        rw [if_neg (by omega), if_pos (by omega), show 64 + x - 64 = x by omega, ← hx, dc_lt hlt, if_neg (by omega)]
        rfl
      have hf := HR.out.frozen (64 + x)
      have R : Hid (∀ w', w'.rowIs w.heap.size 197 322 (fun j => if j = 64 + x then .int .u8 (k : Int) else encF k 61 j) → Below w.heap.size w w' → LoopN w (.int .i64 ((k : Int) + 1)) w') := Lib.hid fun w' h hb => by
        refine ⟨k + 1, rfl, hlt, hb, h.congr fun j hj => ?_⟩
        show (if j = 64 + x then _ else encF k 61 j) = encF (k + 1) 61 j
        have hx := HX.out
        by_cases e : j = 64 + x
        · rw [if_pos e, e]
          unfold encF
          rw [if_neg (by omega), if_pos (by omega), show 64 + x - 64 = x by omega, ← hx, dc_lt hlt, if_pos (by omega)]
        · rw [if_neg e]
          unfold encF
          by_cases c1 : j < 64
          · rw [if_pos c1, if_pos c1]
          · rw [if_neg c1, if_neg c1]
            by_cases c2 : j < 320
            · rw [if_pos c2, if_pos c2]
              have hne : dc (j - 64) ≠ k := fun q => by
                have := lt_dc (c := j - 64) (by omega)
                rw [q, hx] at this
                omega
              by_cases c3 : dc (j - 64) < k
              · rw [if_pos c3, if_pos (by omega)]
              · rw [if_neg c3, if_neg (by omega)]
            · rw [if_neg c2, if_neg c2]
      clear hx hxl
      go_wp2_with fail
      go_quiet (fail)
      go_wp2_with fail
      go_region
      (try simp only [Exit.inBlock, Exit.then])
      go_at_K
      go_wp2_with fail
      go_roundw
      case rel => exact R.out _ (HR.out.set _ _) (Below.setCell (HB.out.trans (⟨rfl, rfl, rfl, Nat.le_refl _, fun _ _ => rfl⟩ : Below w.heap.size wr (wr.drewN _))) (by exact Nat.le_refl _) _)
      case measure => simp [intOf]; omega
    · obtain rfl : k = 64 := by omega
      go_wp2_with fail
      go_returns
      exact ⟨rfl, HB.out, HR.out⟩
end Go.Proofs.YtgjmgneppecfgaaGreatDoor.Ba
/-
  MEMORY: a part of a row is loaded. THE WALKS of WithPadding, EncodedLen, DecodedLen.
-/
namespace Go.Proofs.YtgjmgneppecfgaaGreatDoor.Ba
open Go.RowKit Go.Proofs.YtgjmgneppecfgaaGreatDoor.Va
set_option linter.unusedVariables false
set_option linter.unusedSimpArgs false

theorem run_load_part {P : Program} {w : World} {g n : Nat} {t ty : TypeId} {f : Nat → Value} (h : w.rowIs g t n f) (o m : Nat) (hfit : o + m ≤ n) (d : TypeDesc)
    (hu : P.underlying ty = some d) (hd : (match d with | .struct _ | .array _ _ => true | _ => false) = true) (hi : (P.info? ty).map (·.size) = some m) :
    (loadVar ty ⟨g, o, none⟩).run P w = .ok (.agg ((List.range m).map fun i => f (o + i)).toArray) w := by
  have hl : (loadCells ⟨g, o, none⟩ ((List.range m).map fun i => f (o + i)).length).run P w = .ok ((List.range m).map fun i => f (o + i)).toArray w :=
    run_loadCells_list (P := P) w ⟨g, o, none⟩ _ (fun j v hv => by
      have hadd : (⟨g, o, none⟩ : Addr).add j = ⟨g, o + j, none⟩ := by unfold Addr.add; split <;> simp_all
      rw [List.getElem?_map] at hv
      by_cases hj : j < m
      · rw [List.getElem?_range hj] at hv
        rw [hadd, h.cell (by omega)]
        simpa using hv
      · rw [List.getElem?_eq_none (by simp; omega)] at hv
        cases hv)
  cases hq : P.info? ty with
  | none => simp [hq] at hi
  | some i =>
    have hs : i.size = m := by simpa [hq] using hi
    have hagg : (isAgg ty).run P w = .ok true w := by
      unfold isAgg
      rw [Sem.run_bind, run_underlying hu w]
      cases d <;> simp_all
    rw [List.length_map, List.length_range] at hl
    simp [loadVar, Sem.run_bind, hagg, sizeOf, typeInfo, hq, hs, hl]
theorem wpList_load_part {P : Program} {ops : Array Oper} {rest : List Oper} {o : Oper} {a : Act} {w : World} {Q : Exit → Act → World → Prop} (hgd : o.guard = none) (ty : TypeId) (x : Operand) (ho : o.op = .load ty x)
    (g off m n : Nat) (hx : a.eval x = .pointer (some ⟨g, off, none⟩)) (t : TypeId) (f : Nat → Value) (hr : w.rowIs g t n f) (hfit : off + m ≤ n) (d : TypeDesc)
    (hu : P.underlying ty = some d) (hd : (match d with | .struct _ | .array _ _ => true | _ => false) = true) (hi : (P.info? ty).map (·.size) = some m)
    (h : ∀ cs : Array Value, (∀ i, i < m → cs[i]? = some (f (off + i))) → cs.size = m → wpList P ops Q rest (a.put o.dst (.agg cs)) w) : wpList P ops Q (o :: rest) a w :=
  wpList_plain hgd fun _ hK => by
    unfold Oper.wp execOp
    simp only [ho, hx, Instr.loadAt, Instr.sureAddr, Sem.run_bind, Sem.run_pure, Result.andThen_ok, run_load_part hr off m hfit d hu hd hi]
    exact hK _ _ (h _ (fun i hi => by simp [hi]) (by simp))

def PtrRow (N : Nat) (f : Nat → Value) (w : World) (e : Ending) (w' : World) : Prop := ∃ b, e = .returned (.pointer (some ⟨b, 0, none⟩)) ∧ w.heap.size ≤ b ∧ Below w.heap.size w w' ∧ w'.rowIs b 197 N f
set_option maxHeartbeats 1000000 in
set_option maxRecDepth 100000 in
theorem pad_any (cs : Array Value) (hsz : cs.size = 322) (hcs : ∀ i, i < 322 → cs[i]? = some (encF 64 61 i)) (w : World) : Calls Tryz.prog 159 #[.agg cs, .int .i32 (-1)] w (PtrRow 322 (encF 64 (-1)) w) := by
  have H0 : Hid ((w.alloc (.cells cs 197)).rowIs w.heap.size 197 322 (encF 64 61)) := Lib.hid (by
    have := World.rowIs_alloc w cs 197 (encF 64 61) (fun i hi => hcs i (by omega))
    rwa [hsz] at this)
  have hc := H0.out.cell (i := 320) (by decide)
  have hf := H0.out.frozen 320
  rw [show encF 64 61 320 = .int .i32 61 by rfl] at hc
  have HCS : Hid (∀ i, i < 322 → (cs.setIfInBounds 320 (.int .i32 (-1)))[i]? = some (encF 64 (-1) i)) := Lib.hid fun i hi => by
    unfold encF
    by_cases c3 : i = 320
    · subst c3
      rw [Array.getElem?_setIfInBounds_self_of_lt (by omega)]
      rfl
    · rw [Array.getElem?_setIfInBounds_ne (by omega), hcs i hi]
      unfold encF
      by_cases c1 : i < 64
      · rw [if_pos c1, if_pos c1]
      · rw [if_neg c1, if_neg c1]
        by_cases c2 : i < 320
        · rw [if_pos c2, if_pos c2]
        · rw [if_neg c2, if_neg c2, if_neg c3, if_neg c3]
  clear hcs
  go_enter Tryz.func159, Tryz.ntmps159
  go_wp2_with fail
  go_returns
  refine ⟨_, rfl, Nat.le_refl _, below_alloc w _, ?_⟩
  have := World.rowIs_alloc w (cs.setIfInBounds 320 (.int .i32 (-1))) 197 (encF 64 (-1)) (fun i hi => HCS.out i (by simpa [hsz] using hi))
  rwa [show (cs.setIfInBounds 320 (Value.int .i32 (-1))).size = 322 by simpa using hsz] at this

def RetI (n : Int) (w : World) (e : Ending) (w' : World) : Prop := e = .returned (.int .i64 n) ∧ w = w'
theorem encLen_any (b n : Nat) (w : World) (h : w.rowIs b 197 322 (encF 64 61)) (hn : n ≤ 2147483647) : Calls Tryz.prog 188 #[.pointer (some ⟨b, 0, none⟩), .int .i64 n] w (RetI (((n + 2) / 3 * 4 : Nat) : Int) w) := by
  have hc := h.cell (i := 320) (by decide)
  rw [show encF 64 61 320 = .int .i32 61 by rfl] at hc
  clear h
  go_enter Tryz.func188, Tryz.ntmps188
  go_wp2_with fail
  go_returns
  exact ⟨by norm_cast, rfl⟩
theorem decLen_any (b n : Nat) (w : World) (h : w.rowIs b 197 322 (encF 64 (-1))) (hn : n ≤ 2147483647) : Calls Tryz.prog 190 #[.pointer (some ⟨b, 0, none⟩), .int .i64 n] w (RetI ((n / 4 * 3 + n % 4 * 6 / 8 : Nat) : Int) w) := by
  have hc := h.cell (i := 320) (by decide)
  rw [show encF 64 (-1) 320 = .int .i32 (-1) by rfl] at hc
  clear h
  go_enter Tryz.func190, Tryz.ntmps190
  go_wp2
  go_returns
  exact ⟨by norm_cast, rfl⟩
end Go.Proofs.YtgjmgneppecfgaaGreatDoor.Ba
/-
  THE PLAIN LAW of base 64: what was packed is unpacked again.
-/
namespace Go.Proofs.YtgjmgneppecfgaaGreatDoor.Ba
set_option linter.unusedVariables false
set_option linter.unusedSimpArgs false

/-- bytes as numbers below 64 -/
def encD : List Nat → List Nat
  | a :: b :: c :: r => a / 4 :: (a % 4 * 16 + b / 16) :: (b % 16 * 4 + c / 64) :: c % 64 :: encD r
  | [a, b] => [a / 4, a % 4 * 16 + b / 16, b % 16 * 4]
  | [a] => [a / 4, a % 4 * 16]
  | [] => []
/-- numbers below 64 as bytes -/
def decD : List Nat → List Nat
  | a :: b :: c :: d :: r => (a * 4 + b / 16) :: (b % 16 * 16 + c / 4) :: (c % 4 * 64 + d) :: decD r
  | [a, b, c] => [a * 4 + b / 16, b % 16 * 16 + c / 4]
  | [a, b] => [a * 4 + b / 16]
  | _ => []
theorem decD_encD : ∀ (s : List Nat), (∀ x ∈ s, x < 256) → decD (encD s) = s
  | a :: b :: c :: r, h => by
    have ha := h a (by simp)
    have hb := h b (by simp)
    have hc := h c (by simp)
    rw [encD, decD, decD_encD r (fun x hx => h x (by simp [hx]))]
    congr 1
    · omega
    · congr 1
      · omega
      · congr 1
        omega
  | [a, b], h => by
    have ha := h a (by simp)
    have hb := h b (by simp)
    rw [encD, decD]
    congr 1
    · omega
    · congr 1
      omega
  | [a], h => by
    have ha := h a (by simp)
    rw [encD, decD]
    congr 1
    omega
  | [], _ => rfl
theorem encD_lt : ∀ (s : List Nat), (∀ x ∈ s, x < 256) → ∀ d ∈ encD s, d < 64
  | a :: b :: c :: r, h, d, hd => by
    have ha := h a (by simp)
    have hb := h b (by simp)
    have hc := h c (by simp)
    rw [encD] at hd
    simp only [List.mem_cons] at hd
    rcases hd with rfl | rfl | rfl | rfl | hd
    · omega
    · omega
    · omega
    · omega
    · exact encD_lt r (fun x hx => h x (by simp [hx])) d hd
  | [a, b], h, d, hd => by
    have ha := h a (by simp)
    have hb := h b (by simp)
    simp only [encD, List.mem_cons, List.not_mem_nil, or_false] at hd
    omega
  | [a], h, d, hd => by
    have ha := h a (by simp)
    simp only [encD, List.mem_cons, List.not_mem_nil, or_false] at hd
    omega
  | [], _, d, hd => by cases hd
theorem encD_len : ∀ (s : List Nat), (encD s).length = s.length / 3 * 4 + (if s.length % 3 = 0 then 0 else s.length % 3 + 1)
  | a :: b :: c :: r => by
    rw [encD]
    simp only [List.length_cons]
    rw [encD_len r, show (r.length + 1 + 1 + 1) / 3 = r.length / 3 + 1 by omega, show (r.length + 1 + 1 + 1) % 3 = r.length % 3 by omega]
    omega
  | [a, b] => by simp [encD]
  | [a] => by simp [encD]
  | [] => by simp [encD]
/-- how many signs = there are -/
def padN (n : Nat) : Nat := if n % 3 = 0 then 0 else 3 - n % 3
/-- the text in base 64 -/
def encB (s : List Nat) : List Nat := (encD s).map lt ++ List.replicate (padN s.length) 61
theorem encB_len (s : List Nat) : (encB s).length = (s.length + 2) / 3 * 4 := by
  unfold encB padN
  rw [List.length_append, List.length_map, List.length_replicate, encD_len]
  split <;> omega
theorem encB_cons (a b c : Nat) (r : List Nat) : encB (a :: b :: c :: r) = lt (a / 4) :: lt (a % 4 * 16 + b / 16) :: lt (b % 16 * 4 + c / 64) :: lt (c % 64) :: encB r := by
  unfold encB padN
  rw [encD]
  simp only [List.length_cons, List.map_cons, List.cons_append]
  rw [show (r.length + 1 + 1 + 1) % 3 = r.length % 3 by omega]
theorem encB_drop : ∀ (k : Nat) (s : List Nat), 3 * k ≤ s.length → (encB s).drop (4 * k) = encB (s.drop (3 * k))
  | 0, _, _ => rfl
  | k + 1, s, h => by
    match s, h with
    | a :: b :: c :: r, h =>
      rw [encB_cons, show 4 * (k + 1) = 4 * k + 1 + 1 + 1 + 1 by omega, show 3 * (k + 1) = 3 * k + 1 + 1 + 1 by omega]
      simp only [List.drop_succ_cons]
      exact encB_drop k r (by simp at h; omega)
    | [], h => simp at h
    | [_], h => exact absurd h (by simp; omega)
    | [_, _], h => exact absurd h (by simp; omega)
theorem encB_at (k i : Nat) (s : List Nat) (h : 3 * k ≤ s.length) : (encB s)[4 * k + i]? = (encB (s.drop (3 * k)))[i]? := by
  rw [← encB_drop k s h, List.getElem?_drop]
/-- the text as far as the first sign = -/
theorem take_enc (s : List Nat) (h : ∀ x ∈ s, x < 256) : (encB s).takeWhile (fun c => c != 61) = (encD s).map lt := by
  unfold encB
  have hl : ∀ c ∈ (encD s).map lt, (c != 61) = true := by
    intro c hc
    obtain ⟨d, hd, rfl⟩ := List.mem_map.1 hc
    have := encD_lt s h d hd
    have h61 : lt d ≠ 61 := by
      unfold lt
      repeat' (first | split | omega)
    simpa using h61
  rw [List.takeWhile_append_of_pos hl]
  cases padN s.length with
  | zero => simp
  | succ n => rw [List.replicate_succ, List.takeWhile_cons]; simp
end Go.Proofs.YtgjmgneppecfgaaGreatDoor.Ba
