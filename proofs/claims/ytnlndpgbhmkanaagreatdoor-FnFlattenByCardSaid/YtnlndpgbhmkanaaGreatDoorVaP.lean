/-
  Fit: what it lets by is right, and small.
-/
import Derived.Test.YtnlndpgbhmkanaaGreatDoorVaL
namespace Go.Proofs.YtnlndpgbhmkanaaGreatDoor.Va
open Go.RowKit
set_option linter.unusedVariables false
set_option linter.unusedSimpArgs false

theorem value_good : ∀ (n : Nat) (x : V), x.size ≤ n → Wf x → VW x
  | 0, x, h, _ => by have := size_pos x; omega
  | n + 1, .mk k h t ls ks vs, hsz, hwf => by
    intro w0 w L p b deep bad v S hv hS hT hw hL hlk hpb hd0 hd1
    rw [RV] at hv
    obtain ⟨la, lc, ka, kc, va, vc, rfl, h1, h2, h3⟩ := hv
    rw [V.size] at hsz
    rw [Wf] at hwf
    obtain ⟨q0, q1, q2, q3, q4, q5, q6⟩ := hwf
    exact value_any k h t ls ks vs (fun x hx => value_good n x (by have := size_mem hx; omega) (q5.mem x hx)) (fun x hx => value_good n x (by have := size_mem hx; omega) (q6.mem x hx)) _ _ _ rfl rfl rfl q1 q2 q0 q4
      la ka va lc kc vc w0 w L p b deep bad S h1 h2 h3 hS hT hw hL hlk hpb hd0 hd1

/-- what Fit returns -/
def FitEnd (x : V) (w : World) (e : Ending) (w' : World) : Prop := ∃ r : Bool, e = .returned (.bool r) ∧ Below w.heap.size w w' ∧ (r = true → Good x ∧ x.size ≤ 400)

set_option maxHeartbeats 1000000 in
theorem fit_any (x : V) (hx : Wf x) (S : Nat → Prop) (w : World) (v : Value) (hv : RV w S x v) (hS : ∀ b, S b → b < w.heap.size) (hT : Tabs w) : Calls Tryz.prog 14 #[v] w (FitEnd x w) := by
  obtain ⟨la, lc, ka, kc, va, vc, t0, n0, tx, n1, n2, n3, rfl, HV⟩ := RV.parts hv
  have HS := Lib.hid hS
  have HT := Lib.hid hT
  have HX := Lib.hid hx
  clear hv hS hT hx
  go_enter Tryz.func14, Tryz.ntmps14
  go_wp2_with fail
  generalize hW : World.alloc (World.alloc w _) _ = W
  have b1 := Lib.hid (hW ▸ (by go_grown) : Below w.heap.size w W)
  have z := Lib.hid (hW ▸ (by have := block_new (w.alloc (.cells #[.int .i64 t0, .int .i64 n0, .string tx, .slice la n1 lc, .slice ka n2 kc, .slice va n3 vc] 27)) #[.int .i64 0, .int .i64 0, .bool false] 69; rwa [World.size_alloc] at this) : LK (w.heap.size + 1) 0 0 false W)
  clear hW
  refine (value_good x.size x (Nat.le_refl _) HX.out w W (w.heap.size + 1) 0 0 0 false _ S HV.out HS.out HT.out b1.out (Nat.le_succ _) z.out (fun _ => by omega) (by omega) (by omega)).mono ?_
  rintro e w1 ⟨rfl, p', b', bad', hl, hg⟩
  have c := hl.1.cells
  have hb : Below w.heap.size w w1 := Below.grown b1.out hl.2 b1.out.size (fun j hj => by cases hj; exact Nat.le_succ _)
  have HB := Lib.hid hb
  have HG := Lib.hid hg
  clear hl hg hb
  go_wp2_with fail
  go_returns
  refine ⟨!bad', rfl, HB.out, fun h => ?_⟩
  obtain ⟨_, h1, h2, h3, _⟩ := HG.out (by simpa using h)
  exact ⟨h1, by omega⟩

end Go.Proofs.YtnlndpgbhmkanaaGreatDoor.Va
