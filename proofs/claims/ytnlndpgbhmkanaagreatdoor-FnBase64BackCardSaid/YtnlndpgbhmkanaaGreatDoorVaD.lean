/-
  THE WALK of mapToGo: given that toGo serves each value, the map.
-/
import Derived.Test.YtnlndpgbhmkanaaGreatDoorVaM
namespace Go.Proofs.YtnlndpgbhmkanaaGreatDoor.Va
open Go.RowKit
open Go.MapKept (Stamped IsKey)
set_option linter.unusedVariables false
set_option linter.unusedSimpArgs false

theorem cells6 {w : World} {b : Nat} {a0 a1 a2 a3 a4 a5 : Value} {t : TypeId} (h : w.heap[b]? = some (.cells #[a0, a1, a2, a3, a4, a5] t (0, 0))) :
    (w.cell? ⟨b, 0, none⟩ = some a0 ∧ w.cell? ⟨b, 1, none⟩ = some a1 ∧ w.cell? ⟨b, 2, none⟩ = some a2 ∧ w.cell? ⟨b, 3, none⟩ = some a3 ∧ w.cell? ⟨b, 4, none⟩ = some a4 ∧ w.cell? ⟨b, 5, none⟩ = some a5) ∧
    w.frozen? ⟨b, 0, none⟩ = false ∧ w.frozen? ⟨b, 1, none⟩ = false ∧ w.frozen? ⟨b, 2, none⟩ = false ∧ w.frozen? ⟨b, 3, none⟩ = false ∧ w.frozen? ⟨b, 4, none⟩ = false ∧ w.frozen? ⟨b, 5, none⟩ = false :=
  ⟨⟨cell_of h 0 rfl, cell_of h 1 rfl, cell_of h 2 rfl, cell_of h 3 rfl, cell_of h 4 rfl, cell_of h 5 rfl⟩, free_of h 0, free_of h 1, free_of h 2, free_of h 3, free_of h 4, free_of h 5⟩

/-- what mapToGo returns -/
def MapToGo (ks : List ByteArray) (vs : List V) (w : World) (e : Ending) (w' : World) : Prop :=
  ∃ r es clock, e = .returned (.tuple #[.map (some r), .bool true]) ∧ w.heap.size ≤ r ∧ w'.heap[r]? = some (.map es clock) ∧ Stamped es clock ∧ GM w' (fun b => w.heap.size ≤ b) vs ks es.toList ∧ Below w.heap.size w w'

def LoopM (cs : Array Value) (ks : List ByteArray) (vs : List V) (w : World) (i : Value) (wr : World) : Prop :=
  ∃ k : Nat, i = .int .i64 k ∧ k ≤ ks.length ∧ wr.heap[w.heap.size]? = some (.cells cs 27 (0, 0)) ∧ MadeM ks vs (w.heap.size + 1) k wr ∧ Below w.heap.size w wr

theorem loopM_start (cs : Array Value) (ks : List ByteArray) (vs : List V) (w : World) : LoopM cs ks vs w (.int .i64 0) ((w.alloc (.cells cs 27)).alloc (.map #[] 0)) :=
  ⟨0, rfl, Nat.zero_le _, block_past (block_new w cs _) _, ⟨#[], 0, by have := heap_alloc_new (w.alloc (.cells cs 27)) (.map #[] 0); rwa [World.size_alloc] at this, MapKept.stamped_empty 0, rfl, fun i h => absurd h (by omega)⟩, by go_grown⟩
theorem loopM_next {cs : Array Value} {ks : List ByteArray} {vs : List V} {k : Nat} (hk : k < ks.length) {w w2 w3 : World} (hb : w2.heap[w.heap.size]? = some (.cells cs 27 (0, 0))) (hm : MadeM ks vs (w.heap.size + 1) (k + 1) w3) (hB : Below w.heap.size w w2) (hg : w2.grownBy w3 (some (w.heap.size + 1))) : LoopM cs ks vs w (.int .i64 ((k : Int) + 1)) w3 :=
  ⟨k + 1, rfl, hk, by rw [hg.block _ (heap_lt hb) (by simp)]; exact hb, hm, Below.grown hB hg (Nat.le_of_lt (heap_lt hb)) (fun j hj => by cases hj; omega)⟩

theorem run_len (w : World) (n : Nat) : (Instr.makeMap 106 (some (.int .i64 (n : Int)))).run Tryz.prog w = .ok (.map (some w.heap.size)) (w.alloc (.map #[] 0)) := by
  simp [Instr.makeMap, run_underlying Tryz.underlying106, asInt, asIntOf, Result.andThen]


set_option maxHeartbeats 2000000 in
set_option maxRecDepth 100000 in
theorem mapToGo_any (ks : List ByteArray) (vs : List V) (H : ∀ x ∈ vs, TG x) (hr : Rising ks) (n : Nat) (hkn : ks.length = n) (hvn : vs.length = n) (hn : n ≤ 2147483647) (k0 h0 : Int) (t0 : ByteArray) (la ka va : Option Addr) (nl lc kc vc : Nat) (S : Nat → Prop) (w : World) (hk : RK w S ks ka) (hv : RL w S vs va) (hS : ∀ b, S b → b < w.heap.size) :
    Calls Tryz.prog 91 #[.agg #[.int .i64 k0, .int .i64 h0, .string t0, .slice la nl lc, .slice ka n kc, .slice va n vc]] w (MapToGo ks vs w) := by
  have HH := Lib.hid H
  have HS := Lib.hid hS
  have HK := Lib.hid hk
  have HV := Lib.hid hv
  have HR := Lib.hid hr
  have HKN := Lib.hid hkn
  have HVN := Lib.hid hvn
  have hmk := fun w => run_len w n
  clear H hS hk hv hr hkn hvn
  go_enter Tryz.func91, Tryz.ntmps91
  go_wp2_with fail
  go_loopw [23] (LoopM #[.int .i64 k0, .int .i64 h0, .string t0, .slice la nl lc, .slice ka n kc, .slice va n vc] ks vs w) (fun i _ => n - (intOf i).toNat)
  case atStart => exact loopM_start _ ks vs w
  case round =>
    obtain ⟨k, rfl, hk, hbox, hm, hb⟩ := hrel
    have HM := Lib.hid hm
    have HB := Lib.hid hb
    clear hm hb
    have hc6 := cells6 hbox
    have HX := Lib.hid hbox
    clear hbox
    rw [HKN.out] at hk
    by_cases hlt : k < n
    · obtain ⟨bk, ok, rfl⟩ := HK.out.addr (by rw [HKN.out]; omega)
      obtain ⟨bv, ov, rfl⟩ := HV.out.addr (by rw [HVN.out]; omega)
      obtain ⟨hSk, hck⟩ := RK.at ks bk ok HK.out k (by rw [HKN.out]; exact hlt)
      obtain ⟨hSv, c0, c1, c2, c3, c4, c5, h6, hx⟩ := RL.at vs bv ov HV.out k (by rw [HVN.out]; exact hlt)
      have hsame : Same S w wr := Same.of_below HB.out HS.out
      have h6' := Six.mono hsame hSv h6
      have hck' := (hsame.cell hSk).trans hck
      have hx' := RV.mono hsame (fun _ h => h) _ _ hx
      obtain ⟨s, hs⟩ : ∃ s, Hid (ks[k]'(by rw [HKN.out]; exact hlt) = s) := ⟨_, Lib.hid rfl⟩
      rw [hs.out] at hck'
      obtain ⟨la, lc, ka, kc, va, vc, t1, n1, tx, ls, ks', vs', e, HX'⟩ := RV.parts hx'
      simp only [Value.agg.injEq, Array.mk.injEq, List.cons.injEq, and_true] at e
      obtain ⟨rfl, rfl, rfl, rfl, rfl, rfl⟩ := e
      have HSA := Lib.hid hsame
      clear hck hx hx' h6 hsame
      unfold Six at h6'
      have hb2 : (w.heap.size + 1 < wr.heap.size) := HM.out.lt
      rcases Nat.eq_zero_or_pos k with rfl | hpos
      · simp only [Nat.add_zero, Nat.zero_mul] at hck' h6'
        go_wp2_with fail
        (refine (HH.out _ (List.getElem_mem (by rw [HVN.out]; exact hlt)) _ S wr HX'.out (fun b h => Nat.lt_of_lt_of_le (HS.out b h) HB.out.size)).mono ?_
         rintro e w2 ⟨g, rfl, hg, hb2⟩
         have HG := Lib.hid (GV.mono (T := fun r => w.heap.size + 1 < r) (fun _ _ => rfl) (fun b (h : wr.heap.size ≤ b) => by show _ < b; omega) _ _ hg)
         have HM2 := HM.out.keep hb2
         have HB2 := HB.out.trans (hb2.mono HB.out.size)
         have hbox2 := keep hb2 HX.out
         obtain ⟨w3, hrun, hm3, hgr⟩ := HM2.put (P := Tryz.prog) (mty := 106) Tryz.underlying106 Tryz.underlying9 HR.out (by rw [HKN.out]; exact hlt) (by rw [HVN.out]; exact hlt) HG.out
         rw [hs.out] at hrun
         have L := Lib.hid (loopM_next (by rw [HKN.out]; exact hlt) hbox2 hm3 HB2 hgr)
         clear hg hb2 HG HM2 HB2 hbox2 hm3 hgr
         go_wp2_with fail
         go_roundw
         case rel => exact L.out
         case measure => simp [intOf]; omega)
      · obtain ⟨m, rfl⟩ : ∃ m, k = m + 1 := ⟨k - 1, by omega⟩
        obtain ⟨_, hck0⟩ := RK.at ks bk ok HK.out m (by rw [HKN.out]; omega)
        have hckp := (HSA.out.cell hSk).trans hck0
        clear hck0
        have hless := HR.out.less m (m + 1) (by rw [HKN.out]; exact hlt) (by omega)
        rw [hs.out, ← ByteArray.toList_eq, ← ByteArray.toList_eq] at hless
        obtain ⟨p, hp⟩ : ∃ p, Hid (ks[m]'(by rw [HKN.out]; omega) = p) := ⟨_, Lib.hid rfl⟩
        rw [hp.out] at hless hckp
        go_wp2_with fail
        (refine (HH.out _ (List.getElem_mem (by rw [HVN.out]; exact hlt)) _ S wr HX'.out (fun b h => Nat.lt_of_lt_of_le (HS.out b h) HB.out.size)).mono ?_
         rintro e w2 ⟨g, rfl, hg, hb2⟩
         have HG := Lib.hid (GV.mono (T := fun r => w.heap.size + 1 < r) (fun _ _ => rfl) (fun b (h : wr.heap.size ≤ b) => by show _ < b; omega) _ _ hg)
         have HM2 := HM.out.keep hb2
         have HB2 := HB.out.trans (hb2.mono HB.out.size)
         have hbox2 := keep hb2 HX.out
         obtain ⟨w3, hrun, hm3, hgr⟩ := HM2.put (P := Tryz.prog) (mty := 106) Tryz.underlying106 Tryz.underlying9 HR.out (by rw [HKN.out]; exact hlt) (by rw [HVN.out]; exact hlt) HG.out
         rw [hs.out] at hrun
         have L := Lib.hid (loopM_next (by rw [HKN.out]; exact hlt) hbox2 hm3 HB2 hgr)
         clear hg hb2 HG HM2 HB2 hbox2 hm3 hgr
         go_wp2_with fail
         go_roundw
         case rel => exact L.out
         case measure => simp [intOf]; omega)
    · obtain rfl : k = n := by omega
      have HD := Lib.hid (HM.out)
      rw [← HKN.out] at HD
      obtain ⟨es, cl, e1, e2, e3⟩ := HD.out.done (HKN.out.trans HVN.out.symm)
      have R := Lib.hid (show MapToGo ks vs w (.returned (.tuple #[.map (some (w.heap.size + 1)), .bool true])) wr from ⟨_, es, cl, rfl, Nat.le_succ _, e1, e2, GM.mono (fun _ _ => rfl) (fun b (hb : w.heap.size + 1 ≤ b) => by show _ ≤ b; omega) _ _ _ e3, HB.out⟩)
      clear HD e1 e2 e3
      go_wp2_with fail
      go_returns
      exact R.out

end Go.Proofs.YtnlndpgbhmkanaaGreatDoor.Va
