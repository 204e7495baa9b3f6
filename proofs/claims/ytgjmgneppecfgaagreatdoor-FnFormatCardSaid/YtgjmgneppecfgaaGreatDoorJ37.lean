/-
  FnFormat, texts BaS: lemmas for the law; the theorem stands in the last text.
-/
import Derived.BigQuiet
import Derived.Test.YtgjmgneppecfgaaGreatDoorJ03
import Derived.Test.YtgjmgneppecfgaaGreatDoorJ36
namespace Go.Proofs.YtgjmgneppecfgaaGreatDoor.Ba
open Go.RowKit Go.Proofs.YtgjmgneppecfgaaGreatDoor.Va
set_option linter.unusedVariables false
set_option linter.unusedSimpArgs false

def strV (s : ByteArray) : V := .mk 4 0 s [] [] []
theorem rv_str (s : ByteArray) (w : World) (S : Nat → Prop) (la ka va : Option Addr) (lc kc vc : Nat) : RV w S (strV s) (.agg #[.int .i64 4, .int .i64 0, .string s, .slice la 0 lc, .slice ka 0 kc, .slice va 0 vc]) := by
  unfold strV
  rw [RV]
  exact ⟨la, lc, ka, kc, va, vc, rfl, by rw [RL]; trivial, trivial, by rw [RL]; trivial⟩
theorem rv_str_inv {s : ByteArray} {w : World} {S : Nat → Prop} {v : Value} (h : RV w S (strV s) v) : ∃ la lc ka kc va vc, v = .agg #[.int .i64 4, .int .i64 0, .string s, .slice la 0 lc, .slice ka 0 kc, .slice va 0 vc] := by
  unfold strV at h
  rw [RV] at h
  obtain ⟨la, lc, ka, kc, va, vc, e, _⟩ := h
  exact ⟨la, lc, ka, kc, va, vc, e⟩
theorem fg_str (s : ByteArray) : FG (strV s) := fun g S w hg _ => by
  unfold strV at hg ⊢
  rw [GV] at hg
  rcases hg with q | q | q | q | q | ⟨q, _⟩ | ⟨q, _⟩
  · omega
  · omega
  · omega
  · omega
  · rw [q.2]; exact fromGo_4 s w
  · omega
  · omega
theorem gv_str (s : ByteArray) (w : World) (S : Nat → Prop) : GV w S (strV s) (.iface 9 (.string s)) := by
  unfold strV
  rw [GV]
  exact .inr (.inr (.inr (.inr (.inl ⟨rfl, rfl⟩))))
set_option maxHeartbeats 400000 in
theorem mkStr_any (s : ByteArray) (w : World) : Calls Tryz.prog 21 #[.string s] w (Ret (flat 4 0 s) w) := by
  unfold flat
  go_enter Tryz.func21, Tryz.ntmps21
  go_wp2_with fail
  generalize hW : World.alloc w _ = W
  have b1 : Below w.heap.size w W := hW ▸ below_alloc w _
  have z := cells6 (hW ▸ block_new w _ _ : W.heap[w.heap.size]? = some (.cells #[.int .i64 4, .int .i64 0, .string s, .slice none 0 0, .slice none 0 0, .slice none 0 0] 27 (0, 0)))
  clear hW
  exact bodyPost_ret (v := .agg #[.int .i64 4, .int .i64 0, .string s, .slice none 0 0, .slice none 0 0, .slice none 0 0]) (by simp [results, Tryz.results21, go_sem, *]) rfl ⟨rfl, b1⟩
end Go.Proofs.YtgjmgneppecfgaaGreatDoor.Ba
