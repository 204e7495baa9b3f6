/-
  THE WALK of base64.NewEncoding at the letters of RFC 4648.
-/
import Derived.Test.YtnlndpgbhmkanaaGreatDoorBaA
namespace Go.Proofs.YtnlndpgbhmkanaaGreatDoor.Ba
open Go.RowKit Go.Proofs.YtnlndpgbhmkanaaGreatDoor.Va
set_option linter.unusedVariables false
set_option linter.unusedSimpArgs false

/-- a copy of a string into a row -/
theorem copy_row {P : Program} {w : World} {g n : Nat} {t : TypeId} {f : Nat → Value} (h : w.rowIs g t n f) (o dLen dCap : Nat) (s : ByteArray) (dT sT ty elem : TypeId) (hu : P.underlying dT = some (.slice elem)) (hs : (P.info? elem).map (·.size) = some 1)
    (hle : s.size ≤ dLen) (hfit : o + s.size ≤ n) : ∃ w', (Builtin.copy_ #[dT, sT] ty #[.slice (some ⟨g, o, none⟩) dLen dCap, .string s]).run P w = .ok (goInt s.size) w' ∧
      w'.rowIs g t n (fun j => if o ≤ j ∧ j < o + s.size then .int .u8 ((s.data.toList.getD (j - o) 0).toNat : Int) else f j) ∧ w.grownBy w' (some g) := by
  obtain ⟨cur, h1, h2, h3⟩ := h
  have hr := Lib.run_copy_row_string (P := P) w dT sT ty elem g o dLen dCap s cur t hu hs h1 hle (by omega)
  refine ⟨_, hr, ⟨_, setRow_heap w g _ _ _ _ h1, ?_, fun i hi => ?_⟩, ⟨rfl, rfl, rfl, by simp, fun k _ hk => setRow_other _ _ _ _ (fun e => hk (by rw [e]))⟩⟩
  · have hsz : s.data.toList.length = s.size := (Lib.size_eq s).symm
    simp [Lib.byteCells, hsz]
    omega
  · have hsz : s.data.toList.length = s.size := (Lib.size_eq s).symm
    have hbl : (Lib.byteCells s.data.toList).length = s.size := by rw [Lib.byteCells_length, hsz]
    have htl : (cur.toList.take o).length = o := by simp; omega
    rw [List.getElem?_toArray]
    show _ = some (if o ≤ i ∧ i < o + s.size then Value.int .u8 ((s.data.toList.getD (i - o) 0).toNat : Int) else f i)
    by_cases c1 : i < o
    · rw [if_neg (by omega), List.getElem?_append_left (by rw [List.length_append, htl]; omega), List.getElem?_append_left (by rw [htl]; exact c1), List.getElem?_take, if_pos c1]
      have := h3 i hi
      simpa using this
    · by_cases c2 : i < o + s.size
      · rw [if_pos ⟨by omega, c2⟩, List.getElem?_append_left (by rw [List.length_append, htl, hbl]; omega), List.getElem?_append_right (by rw [htl]; omega), htl]
        unfold Lib.byteCells
        rw [List.getElem?_map, List.getElem?_eq_getElem (by omega)]
        simp [List.getD, List.getElem?_eq_getElem (show i - o < s.data.toList.length by omega)]
      · rw [if_neg (by omega), List.getElem?_append_right (by rw [List.length_append, htl, hbl]; omega), List.length_append, htl, hbl, List.getElem?_drop]
        have := h3 i hi
        rw [show o + s.size + (i - (o + s.size)) = i by omega]
        simpa using this

/-- an encoding's cells as they are made -/
def encZ : Array Value := ((Array.replicate 320 (Value.int .u8 0)).push (.int .i32 0)).push (.bool false)
theorem encZ_eq : Tryz.zeroCells197 = encZ := by kernel_rfl
def encZf (j : Nat) : Value := if j < 320 then .int .u8 0 else if j = 320 then .int .i32 0 else .bool false
theorem encZ_at (i : Nat) (h : i < 322) : encZ[i]? = some (encZf i) := by
  unfold encZ encZf
  rw [Array.getElem?_push, Array.getElem?_push]
  simp only [Array.size_push, Array.size_replicate]
  by_cases c : i = 321
  · subst c; rfl
  · rw [if_neg c]
    by_cases d : i = 320
    · subst d; rfl
    · rw [if_neg d, if_pos (by omega), Array.getElem?_replicate, if_pos (by omega)]
theorem encZ_row (w : World) : (w.alloc (.cells Tryz.zeroCells197 197)).rowIs w.heap.size 197 322 encZf := by
  rw [encZ_eq]
  have h := World.rowIs_alloc w encZ 197 encZf (fun i hi => encZ_at i (by simpa [encZ] using hi))
  rwa [show encZ.size = 322 by simp [encZ]] at h
/-- an encoding's cells: its letters, the first k of them with their numbers -/
def encF (k : Nat) (pad : Int) (j : Nat) : Value :=
  if j < 64 then .int .u8 (lt j) else if j < 320 then .int .u8 (if dc (j - 64) < k then dc (j - 64) else 255 : Nat) else if j = 320 then .int .i32 pad else .bool false
def ff : ByteArray := ⟨(List.replicate 256 255).toArray⟩
theorem ff_size : ff.size = 256 := by
  show ((List.replicate 256 (255 : UInt8)).toArray).size = 256
  rw [List.size_toArray, List.length_replicate]
theorem ff_at (j : Nat) (h : j < 256) : (ff.data.toList.getD j 0).toNat = 255 := by
  show ((List.replicate 256 (255 : UInt8)).getD j 0).toNat = 255
  rw [List.getD, List.getElem?_replicate, if_pos h]
  rfl
theorem abc_toList (j : Nat) (h : j < 64) : (abc.data.toList.getD j 0).toNat = lt j := by
  have := abc_at ⟨j, h⟩
  rw [← this]
  have hs : j < abc.data.size := by rw [show abc.data.size = 64 from abc_size]; exact h
  rw [getElem!_pos abc.data j hs, List.getD, Array.getElem?_toList, Array.getElem?_eq_getElem hs]
  rfl
def NewEnd (w : World) (e : Ending) (w' : World) : Prop := e = .returned (.pointer (some ⟨w.heap.size, 0, none⟩)) ∧ Below w.heap.size w w' ∧ w'.rowIs w.heap.size 197 322 (encF 64 61)
def LoopN (w : World) (i : Value) (wr : World) : Prop := ∃ k : Nat, i = .int .i64 k ∧ k ≤ 64 ∧ Below w.heap.size w wr ∧ wr.rowIs w.heap.size 197 322 (encF k 61)

set_option maxHeartbeats 2000000 in
set_option maxRecDepth 100000 in
theorem new_any (w : World) : Calls Tryz.prog 156 #[.string abc] w (NewEnd w) := by
  have hsz := abc_size
  go_enter Tryz.func156, Tryz.ntmps156
  go_upto_region 4 with fail
  generalize hW : World.alloc w _ = W
  have h0 := hW ▸ encZ_row w
  have B0 := Lib.hid (hW ▸ below_alloc w _ : Below w.heap.size w W)
  clear hW
  have H0 := Lib.hid h0
  have hc : W.cell? ⟨w.heap.size, 320, none⟩ = some (.int .i32 0) := h0.cell (i := 320) (by decide)
  have hf := h0.frozen 320
  clear h0
  go_upto_region 5 with fail
  generalize hW : World.setCell W _ _ = W1
  have H1 := Lib.hid (hW ▸ H0.out.set 320 (.int .i32 61))
  have B1 := Lib.hid (hW ▸ B0.out.setCell (Nat.le_refl _) _ : Below w.heap.size w W1)
  clear hW H0 B0 hc hf
  obtain ⟨W2, hr2, h2, hg2⟩ := copy_row (P := Tryz.prog) H1.out 0 64 64 abc 73 9 3 5 Tryz.underlying73 (by kernel_rfl) (by rw [hsz]; exact Nat.le_refl _) (by rw [hsz]; decide)
  have B2 := Lib.hid (B1.out.grown hg2 B1.out.size (fun k e => by obtain rfl := Option.some.inj e; exact Nat.le_refl _))
  obtain ⟨W3, hr3, h3, hg3⟩ := copy_row (P := Tryz.prog) h2 64 256 256 ff 73 9 3 5 Tryz.underlying73 (by kernel_rfl) (by rw [ff_size]; exact Nat.le_refl _) (by rw [ff_size]; decide)
  have B3 := Lib.hid (B2.out.grown hg3 B2.out.size (fun k e => by obtain rfl := Option.some.inj e; exact Nat.le_refl _))
  have H3 : Hid (W3.rowIs w.heap.size 197 322 (encF 0 61)) := Lib.hid (h3.congr fun i hi => by
    show (if 64 ≤ i ∧ i < 64 + ff.size then _ else if 0 ≤ i ∧ i < 0 + abc.size then _ else if i = 320 then _ else encZf i) = encF 0 61 i
    rw [ff_size, abc_size]
    unfold encF
    by_cases c1 : i < 64
    · rw [if_neg (by omega), if_pos (by omega), if_pos c1, Nat.sub_zero, abc_toList i c1]
    · by_cases c2 : i < 320
      · rw [if_pos (by omega), if_neg c1, if_pos c2, ff_at (i - 64) (by omega), if_neg (by omega)]
      · rw [if_neg (by omega), if_neg (by omega), if_neg c1, if_neg c2]
        by_cases c3 : i = 320
        · rw [if_pos c3, if_pos c3]
        · rw [if_neg c3, if_neg c3]
          unfold encZf
          rw [if_neg c2, if_neg c3])
  clear h2 h3 hg2 hg3 H1 B1
  go_upto_region 6 with (refine Lib.wpList_copy_run _ rfl (.tmp 16) (.tmp 17) 73 9 rfl _ _ rfl rfl hr2 ?_)
  clear hr2
  go_upto_region 7 with (refine Lib.wpList_copy_run _ rfl (.tmp 22) _ 73 9 rfl _ _ rfl rfl hr3 ?_)
  clear hr3
  go_wp2_with fail
  go_loopw [4] (LoopN w) (fun i _ => 64 - (intOf i).toNat)
  case atStart => exact ⟨0, rfl, by omega, B3.out, H3.out⟩
  case round =>
    clear B2 B3 H3
    obtain ⟨k, rfl, hk, hb, hrow⟩ := hrel
    have HB := Lib.hid hb
    have HR := Lib.hid hrow
    clear hb hrow
    by_cases hlt : k < 64
    · obtain ⟨x, hx⟩ : ∃ x, lt k = x := ⟨_, rfl⟩
      have hb : (abc[k]'(by rw [abc_size]; exact hlt)).toNat = x := (abc_get k hlt).trans hx
      have hxl : 43 ≤ x ∧ x < 123 := by
        rw [← hx]; unfold lt
        repeat' (first | split | omega)
      have hxl1 := hxl.1
      have hxl2 := hxl.2
      have h10 : ((x : Int) == 10) = false := by simp; omega
      have h13 : ((x : Int) == 13) = false := by simp; omega
      have HX := Lib.hid hx
      have hc : wr.cell? ⟨w.heap.size, 64 + x, none⟩ = some (.int .u8 255) := by
        rw [HR.out.cell (i := 64 + x) (by omega)]
        unfold encF
        rw [if_neg (by omega), if_pos (by omega), show 64 + x - 64 = x by omega, ← hx, dc_lt hlt, if_neg (by omega)]
        rfl
      have hf := HR.out.frozen (64 + x)
      have R : Hid (∀ w', w'.rowIs w.heap.size 197 322 (fun j => if j = 64 + x then .int .u8 (k : Int) else encF k 61 j) → Below w.heap.size w w' → LoopN w (.int .i64 ((k : Int) + 1)) w') := Lib.hid fun w' h hb => by
        refine ⟨k + 1, rfl, hlt, hb, h.congr fun j hj => ?_⟩
        show (if j = 64 + x then _ else encF k 61 j) = encF (k + 1) 61 j
        have hx := HX.out
        by_cases e : j = 64 + x
        · rw [if_pos e, e]
          unfold encF
          rw [if_neg (by omega), if_pos (by omega), show 64 + x - 64 = x by omega, ← hx, dc_lt hlt, if_pos (by omega)]
        · rw [if_neg e]
          unfold encF
          by_cases c1 : j < 64
          · rw [if_pos c1, if_pos c1]
          · rw [if_neg c1, if_neg c1]
            by_cases c2 : j < 320
            · rw [if_pos c2, if_pos c2]
              have hne : dc (j - 64) ≠ k := fun q => by
                have := lt_dc (c := j - 64) (by omega)
                rw [q, hx] at this
                omega
              by_cases c3 : dc (j - 64) < k
              · rw [if_pos c3, if_pos (by omega)]
              · rw [if_neg c3, if_neg (by omega)]
            · rw [if_neg c2, if_neg c2]
      clear hx hxl
      go_wp2_with fail
      go_quiet (fail)
      go_wp2_with fail
      go_region
      (try simp only [Exit.inBlock, Exit.then])
      go_at_K
      go_wp2_with fail
      go_roundw
      case rel => exact R.out _ (HR.out.set _ _) (Below.setCell (HB.out.trans (⟨rfl, rfl, rfl, Nat.le_refl _, fun _ _ => rfl⟩ : Below w.heap.size wr (wr.drewN _))) (by exact Nat.le_refl _) _)
      case measure => simp [intOf]; omega
    · obtain rfl : k = 64 := by omega
      go_wp2_with fail
      go_returns
      exact ⟨rfl, HB.out, HR.out⟩
end Go.Proofs.YtnlndpgbhmkanaaGreatDoor.Ba
