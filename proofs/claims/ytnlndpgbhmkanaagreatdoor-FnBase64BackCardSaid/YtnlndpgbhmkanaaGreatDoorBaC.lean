/-
  MEMORY: a part of a row is loaded. THE WALKS of WithPadding, EncodedLen, DecodedLen.
-/
import Derived.Test.YtnlndpgbhmkanaaGreatDoorBaB
namespace Go.Proofs.YtnlndpgbhmkanaaGreatDoor.Ba
open Go.RowKit Go.Proofs.YtnlndpgbhmkanaaGreatDoor.Va
set_option linter.unusedVariables false
set_option linter.unusedSimpArgs false

theorem run_load_part {P : Program} {w : World} {g n : Nat} {t ty : TypeId} {f : Nat → Value} (h : w.rowIs g t n f) (o m : Nat) (hfit : o + m ≤ n) (d : TypeDesc)
    (hu : P.underlying ty = some d) (hd : (match d with | .struct _ | .array _ _ => true | _ => false) = true) (hi : (P.info? ty).map (·.size) = some m) :
    (loadVar ty ⟨g, o, none⟩).run P w = .ok (.agg ((List.range m).map fun i => f (o + i)).toArray) w := by
  have hl : (loadCells ⟨g, o, none⟩ ((List.range m).map fun i => f (o + i)).length).run P w = .ok ((List.range m).map fun i => f (o + i)).toArray w :=
    run_loadCells_list (P := P) w ⟨g, o, none⟩ _ (fun j v hv => by
      have hadd : (⟨g, o, none⟩ : Addr).add j = ⟨g, o + j, none⟩ := by unfold Addr.add; split <;> simp_all
      rw [List.getElem?_map] at hv
      by_cases hj : j < m
      · rw [List.getElem?_range hj] at hv
        rw [hadd, h.cell (by omega)]
        simpa using hv
      · rw [List.getElem?_eq_none (by simp; omega)] at hv
        cases hv)
  cases hq : P.info? ty with
  | none => simp [hq] at hi
  | some i =>
    have hs : i.size = m := by simpa [hq] using hi
    have hagg : (isAgg ty).run P w = .ok true w := by
      unfold isAgg
      rw [Sem.run_bind, run_underlying hu w]
      cases d <;> simp_all
    rw [List.length_map, List.length_range] at hl
    simp [loadVar, Sem.run_bind, hagg, sizeOf, typeInfo, hq, hs, hl]
theorem wpList_load_part {P : Program} {ops : Array Oper} {rest : List Oper} {o : Oper} {a : Act} {w : World} {Q : Exit → Act → World → Prop} (hgd : o.guard = none) (ty : TypeId) (x : Operand) (ho : o.op = .load ty x)
    (g off m n : Nat) (hx : a.eval x = .pointer (some ⟨g, off, none⟩)) (t : TypeId) (f : Nat → Value) (hr : w.rowIs g t n f) (hfit : off + m ≤ n) (d : TypeDesc)
    (hu : P.underlying ty = some d) (hd : (match d with | .struct _ | .array _ _ => true | _ => false) = true) (hi : (P.info? ty).map (·.size) = some m)
    (h : ∀ cs : Array Value, (∀ i, i < m → cs[i]? = some (f (off + i))) → cs.size = m → wpList P ops Q rest (a.put o.dst (.agg cs)) w) : wpList P ops Q (o :: rest) a w :=
  wpList_plain hgd fun _ hK => by
    unfold Oper.wp execOp
    simp only [ho, hx, Instr.loadAt, Instr.sureAddr, Sem.run_bind, Sem.run_pure, Result.andThen_ok, run_load_part hr off m hfit d hu hd hi]
    exact hK _ _ (h _ (fun i hi => by simp [hi]) (by simp))

def PtrRow (N : Nat) (f : Nat → Value) (w : World) (e : Ending) (w' : World) : Prop := ∃ b, e = .returned (.pointer (some ⟨b, 0, none⟩)) ∧ w.heap.size ≤ b ∧ Below w.heap.size w w' ∧ w'.rowIs b 197 N f
set_option maxHeartbeats 1000000 in
set_option maxRecDepth 100000 in
theorem pad_any (cs : Array Value) (hsz : cs.size = 322) (hcs : ∀ i, i < 322 → cs[i]? = some (encF 64 61 i)) (w : World) : Calls Tryz.prog 159 #[.agg cs, .int .i32 (-1)] w (PtrRow 322 (encF 64 (-1)) w) := by
  have H0 : Hid ((w.alloc (.cells cs 197)).rowIs w.heap.size 197 322 (encF 64 61)) := Lib.hid (by
    have := World.rowIs_alloc w cs 197 (encF 64 61) (fun i hi => hcs i (by omega))
    rwa [hsz] at this)
  have hc := H0.out.cell (i := 320) (by decide)
  have hf := H0.out.frozen 320
  rw [show encF 64 61 320 = .int .i32 61 by rfl] at hc
  have HCS : Hid (∀ i, i < 322 → (cs.setIfInBounds 320 (.int .i32 (-1)))[i]? = some (encF 64 (-1) i)) := Lib.hid fun i hi => by
    unfold encF
    by_cases c3 : i = 320
    · subst c3
      rw [Array.getElem?_setIfInBounds_self_of_lt (by omega)]
      rfl
    · rw [Array.getElem?_setIfInBounds_ne (by omega), hcs i hi]
      unfold encF
      by_cases c1 : i < 64
      · rw [if_pos c1, if_pos c1]
      · rw [if_neg c1, if_neg c1]
        by_cases c2 : i < 320
        · rw [if_pos c2, if_pos c2]
        · rw [if_neg c2, if_neg c2, if_neg c3, if_neg c3]
  clear hcs
  go_enter Tryz.func159, Tryz.ntmps159
  go_wp2_with fail
  go_returns
  refine ⟨_, rfl, Nat.le_refl _, below_alloc w _, ?_⟩
  have := World.rowIs_alloc w (cs.setIfInBounds 320 (.int .i32 (-1))) 197 (encF 64 (-1)) (fun i hi => HCS.out i (by simpa [hsz] using hi))
  rwa [show (cs.setIfInBounds 320 (Value.int .i32 (-1))).size = 322 by simpa using hsz] at this

def RetI (n : Int) (w : World) (e : Ending) (w' : World) : Prop := e = .returned (.int .i64 n) ∧ w = w'
theorem encLen_any (b n : Nat) (w : World) (h : w.rowIs b 197 322 (encF 64 61)) (hn : n ≤ 2147483647) : Calls Tryz.prog 188 #[.pointer (some ⟨b, 0, none⟩), .int .i64 n] w (RetI (((n + 2) / 3 * 4 : Nat) : Int) w) := by
  have hc := h.cell (i := 320) (by decide)
  rw [show encF 64 61 320 = .int .i32 61 by rfl] at hc
  clear h
  go_enter Tryz.func188, Tryz.ntmps188
  go_wp2_with fail
  go_returns
  exact ⟨by norm_cast, rfl⟩
theorem decLen_any (b n : Nat) (w : World) (h : w.rowIs b 197 322 (encF 64 (-1))) (hn : n ≤ 2147483647) : Calls Tryz.prog 190 #[.pointer (some ⟨b, 0, none⟩), .int .i64 n] w (RetI ((n / 4 * 3 + n % 4 * 6 / 8 : Nat) : Int) w) := by
  have hc := h.cell (i := 320) (by decide)
  rw [show encF 64 (-1) 320 = .int .i32 (-1) by rfl] at hc
  clear h
  go_enter Tryz.func190, Tryz.ntmps190
  go_wp2
  go_returns
  exact ⟨by norm_cast, rfl⟩
end Go.Proofs.YtnlndpgbhmkanaaGreatDoor.Ba
