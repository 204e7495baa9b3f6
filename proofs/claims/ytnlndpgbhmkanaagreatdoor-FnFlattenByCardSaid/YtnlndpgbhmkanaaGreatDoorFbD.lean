/-
  THE WALKS of the reference's call of flatten.
-/
import Derived.Test.YtnlndpgbhmkanaaGreatDoorFbB
import Derived.Test.YtnlndpgbhmkanaaGreatDoorFbC
import Derived.Test.YtnlndpgbhmkanaaGreatDoorFbN
namespace Go.Proofs.YtnlndpgbhmkanaaGreatDoor.Va
open Go.RowKit
set_option linter.unusedVariables false
set_option linter.unusedSimpArgs false

theorem RowsS.doneS {base : Nat} {S : Nat → Prop} {acc : List V} {ov : Value} {w : World} (h : RowsS base S acc ov w) (hS : ∀ b, S b → b < w.heap.size) : ∃ a c, ov = .slice a acc.length c ∧ RL w (fun r => (S r ∨ base ≤ r) ∧ r < w.heap.size) acc a := by
  obtain ⟨⟨cs, h1, h2⟩, _⟩ := h
  rcases h1.2 with ⟨rfl, h0⟩ | ⟨g, cap, cur, rfl, hb, hgg, hn, hm, hsz, htake⟩
  · have : acc = [] := List.length_eq_zero_iff.1 h0
    subst this
    exact ⟨none, 0, rfl, by rw [RL]; trivial⟩
  · have hlt := heap_lt hgg
    refine ⟨_, _, rfl, RL.of acc g 0 (fun _ => ⟨.inr hb, hlt⟩) fun i hi => ?_⟩
    obtain ⟨c0, c1, c2, c3, c4, c5, ⟨h60, h61, h62, h63, h64, h65⟩, hx⟩ := h2 i hi
    have hcell : ∀ j v, cs[j]? = some v → w.cell? ⟨g, j, none⟩ = some v := by
      intro j v hj
      refine cell_of hgg j ?_
      rw [← htake, List.getElem?_take] at hj
      split at hj
      · simpa using hj
      · cases hj
    refine ⟨c0, c1, c2, c3, c4, c5, ?_, RV.mono (fun _ _ => rfl) (fun b hb => ⟨.inl hb, hS b hb⟩) _ _ hx⟩
    rw [Nat.zero_add]
    exact ⟨hcell _ _ h60, hcell _ _ h61, hcell _ _ h62, hcell _ _ h63, hcell _ _ h64, hcell _ _ h65⟩

theorem sArray_any (w : World) (a : Option Addr) (n c : Nat) : Calls Tryz.prog 33 #[.slice a n c] w (Ret (.agg #[.int .i64 5, .int .i64 0, .string ⟨#[]⟩, .slice a n c, .slice none 0 0, .slice none 0 0]) w) := by
  go_enter Tryz.func33, Tryz.ntmps33
  go_wp2_with fail
  go_returns
  exact ⟨rfl, by go_grown⟩

/-- a reference's answer that is a list -/
def TupL (B : Nat) (l : List V) (w : World) (e : Ending) (w' : World) : Prop :=
  ∃ (la : Option Addr) (n lc : Nat), e = .returned (.tuple #[.agg #[.int .i64 5, .int .i64 0, .string ⟨#[]⟩, .slice la n lc, .slice none 0 0, .slice none 0 0], .int .i64 0]) ∧ l.length = n ∧ RL w' (fun r => (r < B ∨ w.heap.size ≤ r) ∧ r < w'.heap.size) l la ∧ Below w.heap.size w w'

section
variable (B : Nat) (l : List V) (n : Nat) (hn : l.length = n) (hsz : sizeL l ≤ 400) (a : Option Addr) (c : Nat) (w : World) (hl : RL w (fun b => b < B) l a) (hB : B ≤ w.heap.size)
include hn hsz hl hB

set_option maxHeartbeats 8000000 in
set_option maxRecDepth 100000 in
theorem sarray_flat : Calls Tryz.prog 71 #[.string ⟨#[102, 108, 97, 116, 116, 101, 110]⟩, .agg #[.int .i64 5, .int .i64 0, .string ⟨#[]⟩, .slice a n c, .slice none 0 0, .slice none 0 0]] w (TupL B (flatL l (-1)) w) := by
  have HL := Lib.hid hl
  have HN := Lib.hid hn
  clear hl hn
  go_enter Tryz.func71, Tryz.ntmps71
  go_wp2_with fail
  generalize hW : World.alloc (World.alloc w _) _ = W
  have b1 : Below w.heap.size w W := hW ▸ (by go_grown)
  have z : W.heap[w.heap.size + 1]? = some (.cells #[.int .i64 0, .int .i64 0, .string ⟨#[]⟩, .slice none 0 0, .slice none 0 0, .slice none 0 0] 27 (0, 0)) := hW ▸ block_top w _ _
  clear hW
  have hs1 := b1.size
  have hwlt := heap_lt z
  refine (flatS_any 400 l (-1) n HN.out hsz (by omega) (by omega) (by omega) (fun b => b < B) a c W (RL.mono (Same.of_below b1 fun b hb => by omega) (fun _ h => h) _ _ HL.out) (fun b hb => by omega)).mono ?_
  rintro e w2 ⟨ov, rfl, hr2, hb2⟩
  have hs2 := hb2.size
  obtain ⟨a2, c2, rfl, hrl⟩ := hr2.doneS (fun b hb => by omega)
  obtain ⟨n2, hn2⟩ : ∃ n2, (flatL l (-1)).length = n2 := ⟨_, rfl⟩
  rw [hn2]
  have HN2 := Lib.hid hn2
  have HRL := Lib.hid hrl
  have HB2 := Lib.hid (b1.trans (hb2.mono hs1))
  have HZ := Lib.hid (keep hb2 z)
  clear hr2 hb2 hrl hn2 b1 z
  go_wp2_with fail
  refine (sArray_any w2 a2 n2 c2).mono ?_
  rintro e w3 ⟨rfl, hb3⟩
  have hs3 := hb3.size
  have HB3 := Lib.hid (HB2.out.trans (hb3.mono HB2.out.size))
  have HRL3 := Lib.hid (RL.mono (Same.of_below hb3 fun b hb => hb.2) (fun _ h => h) _ _ HRL.out)
  have zz := cells6 (keep hb3 HZ.out)
  clear hb3
  go_wp2_with fail
  refine bodyPost_ret (v := .tuple #[.agg #[.int .i64 5, .int .i64 0, .string ⟨#[]⟩, .slice a2 n2 c2, .slice none 0 0, .slice none 0 0], .int .i64 0]) (by simp [results, Tryz.results71, go_sem, *]) rfl ⟨a2, n2, c2, rfl, HN2.out, ?_, ?_⟩
  · refine RL.mono (fun b hb => sets_other _ _ _ _ _ _ (by have := hb.1; omega)) (fun b hb => ?_) _ _ HRL3.out
    have h1 := hb.1
    have h2 := hb.2
    simp only [World.size_setCell]
    omega
  · exact sets6 HB3.out (Nat.le_succ _) _ _ _ _ _ _

set_option maxHeartbeats 8000000 in
set_option maxRecDepth 100000 in
theorem alone_flat : Calls Tryz.prog 34 #[.string ⟨#[102, 108, 97, 116, 116, 101, 110]⟩, .agg #[.int .i64 5, .int .i64 0, .string ⟨#[]⟩, .slice a n c, .slice none 0 0, .slice none 0 0]] w (TupL B (flatL l (-1)) w) := by
  have HL := Lib.hid hl
  have HN := Lib.hid hn
  clear hl hn
  go_enter Tryz.func34, Tryz.ntmps34
  go_wp2_with fail
  generalize hW : World.alloc (World.alloc w _) _ = W
  have b1 : Below w.heap.size w W := hW ▸ (by go_grown)
  have z : W.heap[w.heap.size + 1]? = some (.cells #[.int .i64 0, .int .i64 0, .string ⟨#[]⟩, .slice none 0 0, .slice none 0 0, .slice none 0 0] 27 (0, 0)) := hW ▸ block_top w _ _
  clear hW
  have hs1 := b1.size
  have hwlt := heap_lt z
  refine (sarray_flat B l n HN.out hsz a c W (RL.mono (Same.of_below b1 fun b hb => by omega) (fun _ h => h) _ _ HL.out) (by omega)).mono ?_
  rintro e w2 ⟨a2, n2, c2, rfl, hn2, hrl, hb2⟩
  have hs2 := hb2.size
  have HN2 := Lib.hid hn2
  have HRL := Lib.hid hrl
  have HB2 := Lib.hid (b1.trans (hb2.mono hs1))
  have zz := cells6 (keep hb2 z)
  clear hb2 hrl hn2 b1
  go_wp2_with fail
  refine bodyPost_ret (v := .tuple #[.agg #[.int .i64 5, .int .i64 0, .string ⟨#[]⟩, .slice a2 n2 c2, .slice none 0 0, .slice none 0 0], .int .i64 0]) (by simp [results, Tryz.results34, go_sem, *]) rfl ⟨a2, n2, c2, rfl, HN2.out, ?_, ?_⟩
  · refine RL.mono (fun b hb => sets_other _ _ _ _ _ _ (by have := hb.1; omega)) (fun b hb => ?_) _ _ HRL.out
    have h1 := hb.1
    have h2 := hb.2
    simp only [World.size_setCell]
    omega
  · exact sets6 HB2.out (Nat.le_succ _) _ _ _ _ _ _
end

end Go.Proofs.YtnlndpgbhmkanaaGreatDoor.Va
