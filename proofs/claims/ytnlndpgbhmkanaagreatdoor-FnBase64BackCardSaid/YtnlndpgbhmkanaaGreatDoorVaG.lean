/-
  THE WALKS of half and fromGo at a value that is neither list nor map.
-/
import Derived.Test.YtnlndpgbhmkanaaGreatDoorVaE
import Derived.Laws.Externs
import Derived.Laws.FloatArith
namespace Go.Proofs.YtnlndpgbhmkanaaGreatDoor.Va
open Go.RowKit
set_option linter.unusedVariables false
set_option linter.unusedSimpArgs false

/-- a value with nothing in it but its kind, its number and its text -/
def flat (k h : Int) (t : ByteArray) : Value := .agg #[.int .i64 k, .int .i64 h, .string t, .slice none 0 0, .slice none 0 0, .slice none 0 0]
def Ret (v : Value) (w : World) (e : Ending) (w' : World) : Prop := e = .returned v ∧ Below w.heap.size w w'

theorem run_arch {h : Int} {s M k} (H : Half h s M k) (w : World) : (callFunc 205 #[.float .f64 (fi h)]).run Tryz.prog w = .ok (.value (.float .f64 (fi h))) w := by
  rw [run_callFunc_extern (P := Tryz.prog) (f := 205) (fn := Tryz.f205) (e := Extern.MathFloor.toIntegral "math.archTrunc" .zero) (by kernel_rfl) (by kernel_rfl) (by kernel_rfl) (by kernel_rfl) (by kernel_rfl)]
  have e1 : FloatKind.f64.decode (fi h) = .number s M (-k) := H.readI
  have e2 := trunc_fi H
  change (Sem.run Tryz.prog (Extern.MathFloor.toIntegral.match_1 (fun _ => Sem Value) (FloatKind.f64.decode (fi h)) _ (fun d => pure (.float .f64 (FloatKind.f64.encode (d.integral .zero))))) w).andThen _ = _
  rw [e1] at e2 ⊢
  simp only [e2]
  rfl

set_option maxHeartbeats 400000 in
theorem trunc_any {h : Int} {s M k} (H : Half h s M k) (w : World) : Calls Tryz.prog 177 #[.float .f64 (fi h)] w fun e w' => e = .returned (.float .f64 (fi h)) ∧ w = w' := by
  have hd := run_arch H
  obtain ⟨f, hf⟩ : ∃ f, Hid (fi h = f) := ⟨_, Lib.hid rfl⟩
  rw [hf.out] at hd ⊢
  clear H
  go_enter Tryz.func177, Tryz.ntmps177
  go_wp2_with fail
  go_returns
  exact ⟨rfl, rfl⟩

set_option maxHeartbeats 400000 in
theorem half_any {h : Int} {s M k} (H : Half h s M k) (hb : h.natAbs < 2 * B) (w : World) : Calls Tryz.prog 144 #[.float .f64 (fi h)] w (Ret (.tuple #[flat 3 h ⟨#[]⟩, .bool true]) w) := by
  have hc := trunc_any H
  have o1 := order_self H
  have o2 := order_low H
  have o3 := order_high H
  have hcv : ∀ w : World, (convert 65 3 (.float .f64 (fi h))).run Tryz.prog w = .ok (.int .i64 h) w := fun w => run_convert_float_int w 65 3 .f64 .i64 (fi h) h (by kernel_rfl) (by kernel_rfl) (by
    unfold floatToIntVal
    rw [toInt_fi H]
    have h1 : IntKind.i64.min ≤ h := by show (-9223372036854775808 : Int) ≤ h; unfold B at hb; omega
    have h2 : h ≤ IntKind.i64.max := by show h ≤ (9223372036854775807 : Int); unfold B at hb; omega
    have h3 : h ≤ 9223372036854775807 := h2
    simp [h1, h2, h3])
  obtain ⟨f, hf⟩ : ∃ f, Hid (fi h = f) := ⟨_, Lib.hid rfl⟩
  rw [hf.out] at hc o1 o2 o3 hcv ⊢
  unfold low62 at o2
  unfold high62 at o3
  have HC := Lib.hid hc
  have c1 : (FloatKind.f64.format.order f f != some .eq) = false := by show (Ieee.double.order f f != some .eq) = false; rw [o1]; rfl
  have c2 : FloatKind.f64.format.order f 14109777632551763968 = some .gt := o2
  have c3 : FloatKind.f64.format.order f 4886405595696988160 = some .lt := o3
  clear o1 o2 o3
  clear H hc hb
  go_enter Tryz.func144, Tryz.ntmps144
  go_wp2_with fail
  refine (HC.out _).mono ?_
  rintro e w' ⟨rfl, rfl⟩
  go_wp2_with fail
  go_returns
  exact ⟨rfl, by go_grown⟩

theorem sets6 {B b : Nat} {w0 w : World} (h : Below B w0 w) (hb : B ≤ b) (v0 v1 v2 v3 v4 v5 : Value) :
    Below B w0 ((((((w.setCell ⟨b, 0, none⟩ v0).setCell ⟨b, 1, none⟩ v1).setCell ⟨b, 2, none⟩ v2).setCell ⟨b, 3, none⟩ v3).setCell ⟨b, 4, none⟩ v4).setCell ⟨b, 5, none⟩ v5) :=
  (((((h.setCell hb _).setCell hb _).setCell hb _).setCell hb _).setCell hb _).setCell hb _

/-- what fromGo returns -/
def FromGo (x : V) (w : World) (e : Ending) (w' : World) : Prop :=
  ∃ v, e = .returned (.tuple #[v, .bool true]) ∧ RV w' (fun r => w.heap.size ≤ r) x v ∧ Below w.heap.size w w'

theorem rv_flat (k h : Int) (t : ByteArray) (w : World) (S : Nat → Prop) : RV w S (.mk k h t [] [] []) (flat k h t) := by
  rw [RV]
  exact ⟨none, 0, none, 0, none, 0, rfl, by rw [RL]; trivial, trivial, by rw [RL]; trivial⟩

set_option maxHeartbeats 400000 in
theorem fromGo_0 (w : World) : Calls Tryz.prog 86 #[.nilIface] w (FromGo (.mk 0 0 ⟨#[]⟩ [] [] []) w) := by
  go_enter Tryz.func86, Tryz.ntmps86
  go_wp2_with fail
  go_returns
  exact ⟨_, rfl, rv_flat _ _ _ _ _, by go_grown⟩
set_option maxHeartbeats 400000 in
theorem fromGo_1 (w : World) : Calls Tryz.prog 86 #[.iface 4 (.bool false)] w (FromGo (.mk 1 0 ⟨#[]⟩ [] [] []) w) := by
  go_enter Tryz.func86, Tryz.ntmps86
  go_wp2_with fail
  go_returns
  exact ⟨_, rfl, rv_flat _ _ _ _ _, by go_grown⟩
set_option maxHeartbeats 400000 in
theorem fromGo_2 (w : World) : Calls Tryz.prog 86 #[.iface 4 (.bool true)] w (FromGo (.mk 2 0 ⟨#[]⟩ [] [] []) w) := by
  go_enter Tryz.func86, Tryz.ntmps86
  go_wp2_with fail
  go_returns
  exact ⟨_, rfl, rv_flat _ _ _ _ _, by go_grown⟩
set_option maxHeartbeats 400000 in
theorem fromGo_4 (t : ByteArray) (w : World) : Calls Tryz.prog 86 #[.iface 9 (.string t)] w (FromGo (.mk 4 0 t [] [] []) w) := by
  go_enter Tryz.func86, Tryz.ntmps86
  go_wp2_with fail
  go_returns
  exact ⟨_, rfl, rv_flat _ _ _ _ _, by go_grown⟩
set_option maxHeartbeats 400000 in
theorem fromGo_int (n : Int) (hlo : -9007199254740992 ≤ n) (hhi : n ≤ 9007199254740992) (w : World) : Calls Tryz.prog 86 #[.iface 3 (.int .i64 n)] w (FromGo (.mk 3 (2 * n) ⟨#[]⟩ [] [] []) w) := by
  have hw : wrap64 (2 * n) = 2 * n := by unfold wrap64; omega
  have g1 : -4611686018427387904 ≤ n := by omega
  have g2 : n ≤ 4611686018427387903 := by omega
  go_enter Tryz.func86, Tryz.ntmps86
  go_wp2_with fail
  go_returns
  exact ⟨_, rfl, rv_flat _ _ _ _ _, by go_grown⟩
set_option maxHeartbeats 400000 in
theorem fromGo_float {h : Int} {s M k} (H : Half h s M k) (hb : h.natAbs < 2 * B) (w : World) : Calls Tryz.prog 86 #[.iface 65 (.float .f64 (fl h))] w (FromGo (.mk 3 h ⟨#[]⟩ [] [] []) w) := by
  have hq : ∀ w : World, (binOp .mul 65 (.float .f64 4611686018427387904) (.float .f64 (fl h))).run Tryz.prog w = .ok (.float .f64 (fi h)) w := fun w => run_float_arith w .mul 65 .f64 _ _ _ (mul_two H)
  have HC := Lib.hid (half_any H hb)
  have F := Lib.hid (fun w S => rv_flat 3 h ⟨#[]⟩ w S)
  unfold flat at HC F
  obtain ⟨f, hf⟩ : ∃ f, Hid (fi h = f) := ⟨_, Lib.hid rfl⟩
  rw [hf.out] at hq HC
  obtain ⟨f2, hf2⟩ : ∃ f, Hid (fl h = f) := ⟨_, Lib.hid rfl⟩
  rw [hf2.out] at hq ⊢
  clear H hb
  go_enter Tryz.func86, Tryz.ntmps86
  go_wp2_with fail
  refine (HC.out _).mono ?_
  rintro e w1 ⟨rfl, hb⟩
  have hB := (hb.block w.heap.size (by simp)).trans (block_new w _ _)
  have HB := Lib.hid ((((Below.refl w.heap.size w).alloc (Nat.le_refl _) _).trans (hb.mono (by simp))))
  have c6 := cells6 hB
  clear hb hB
  go_wp2_with fail
  refine bodyPost_ret (v := .tuple #[.agg #[.int .i64 3, .int .i64 h, .string ⟨#[]⟩, .slice none 0 0, .slice none 0 0, .slice none 0 0], .bool true]) (by simp [results, Tryz.results86, go_sem, *]) rfl ⟨_, rfl, F.out _ _, ?_⟩
  exact sets6 HB.out (Nat.le_refl _) _ _ _ _ _ _

end Go.Proofs.YtnlndpgbhmkanaaGreatDoor.Va
