/-
  THE WALKS of EncodeToString, and of @base64 at a text.
-/
import Derived.Test.YtnlndpgbhmkanaaGreatDoorBaD
import Derived.Lib.ConvBytes
namespace Go.Proofs.YtnlndpgbhmkanaaGreatDoor.Ba
open Go.RowKit Go.Proofs.YtnlndpgbhmkanaaGreatDoor.Va
set_option linter.unusedVariables false
set_option linter.unusedSimpArgs false

/-- numbers as a text -/
def numS (l : List Nat) : ByteArray := strOfNums (l.map fun x : Nat => (x : Int))
def StrEnd (s : ByteArray) (w : World) (e : Ending) (w' : World) : Prop := e = .returned (.string s) ∧ Below w.heap.size w w'
theorem info8 : (Tryz.prog.info? 5).map (fun i => (i.zero, i.size, i.bytes)) = some (some (.int .u8 0), 1, 1) := by kernel_rfl

def Done (w : World) (e : Ending) (w' : World) : Prop := e = .returned (.tuple #[]) ∧ w = w'
set_option maxRecDepth 100000 in
theorem enc_none (p d : Value) (a : Option Addr) (c : Nat) (w : World) : Calls Tryz.prog 189 #[p, d, .slice a 0 c] w (Done w) := by
  go_enter Tryz.func189, Tryz.ntmps189
  go_wp2_with fail
  go_returns
  exact ⟨rfl, rfl⟩

set_option maxHeartbeats 1000000 in
set_option maxRecDepth 100000 in
theorem encS_any (be sb so n sc : Nat) (l : List Nat) (hl : l.length = n) (h256 : ∀ x ∈ l, x < 256) (hn : n ≤ 2147483647) (hsc : n ≤ sc) (hsc2 : sc ≤ 9223372036854775807) (w : World)
    (he : w.rowIs be 197 322 (encF 64 61)) (hs : ∀ i, i < n → w.cell? ⟨sb, so + i, none⟩ = some (.int .u8 ((l.getD i 0 : Nat) : Int))) (hslt : sb < w.heap.size) :
    Calls Tryz.prog 157 #[.pointer (some ⟨be, 0, none⟩), .slice (some ⟨sb, so, none⟩) n sc] w (StrEnd (numS (encB l)) w) := by
  have hmk := run_make_row' (P := Tryz.prog) 73 5 (.int .u8 0) 1 Tryz.underlying73 info8 rfl .i64 .i64 ((n + 2) / 3 * 4) (by omega) (by omega)
  have HMK := Lib.hid hmk
  have HEN := Lib.hid (encLen_any be n w he hn)
  have HE := Lib.hid he
  have HSR := Lib.hid hs
  have HLL := Lib.hid hl
  have H256 := Lib.hid h256
  have HNN : Hid ((encB l).length = (n + 2) / 3 * 4) := Lib.hid (by rw [encB_len, hl])
  clear hmk he hs hl h256
  obtain ⟨N, hN⟩ : ∃ N, (n + 2) / 3 * 4 = N := ⟨_, rfl⟩
  rw [hN] at HMK HEN HNN
  have HNV := Lib.hid hN
  clear hN
  go_enter Tryz.func157, Tryz.ntmps157
  go_wp2_with fail
  refine HEN.out.mono ?_
  rintro e w1 ⟨rfl, rfl⟩
  have hmk := HMK.out
  go_upto_region 2 with fail
  clear hmk
  generalize hW : World.alloc w _ = W
  have HD : Hid (W.rowIs w.heap.size 5 N (fun _ => .int .u8 0)) := Lib.hid (hW ▸ World.rowIs_made w (.int .u8 0) N 5)
  have BW := Lib.hid (hW ▸ below_alloc w _ : Below w.heap.size w W)
  clear hW HMK HEN
  by_cases h0 : n = 0
  · subst h0
    obtain rfl : N = 0 := by have := HNV.out; omega
    obtain rfl : l = [] := List.eq_nil_of_length_eq_zero HLL.out
    have g := run_convert_bytes_arg (P := Tryz.prog) W 73 5 Tryz.underlying73 Tryz.underlying5 w.heap.size 0 0 0 [] rfl (fun i hi => absurd hi (by omega)) 9 Tryz.underlying9
    go_wp2_with fail
    refine (enc_none _ _ _ _ W).mono ?_
    rintro e w2 ⟨rfl, rfl⟩
    go_wp2_with fail
    go_returns
    exact ⟨rfl, BW.out⟩
  · go_wp2_with fail
    refine (enc_any be sb w.heap.size so n N sc l HLL.out H256.out HNV.out.symm hn (by omega) hsc hsc2 W (HE.out.of_block (BW.out.block be HE.out.lt)) (fun i hi => (BW.out.cell (by exact hslt)).trans (HSR.out i hi)) HD.out (by have := HE.out.lt; omega) (by omega) (Nat.lt_of_lt_of_le hslt BW.out.size)).mono ?_
    rintro e w2 ⟨rfl, hrow, hgr⟩
    have g := run_convert_bytes_arg (P := Tryz.prog) w2 73 5 Tryz.underlying73 Tryz.underlying5 w.heap.size 0 N N ((encB l).map fun x : Nat => (x : Int)) (by rw [List.length_map]; exact HNN.out)
      (fun i hi => by
        rw [Nat.zero_add, hrow.cell hi]
        unfold outF
        rw [if_pos hi]
        simp [List.getD, List.getElem?_eq_getElem (show i < (encB l).length by rw [HNN.out]; exact hi)]) 9 Tryz.underlying9
    have B2 : Hid (Below w.heap.size w w2) := Lib.hid (BW.out.grown hgr BW.out.size (fun k e => by obtain rfl := Option.some.inj e; exact Nat.le_refl _))
    clear hrow hgr
    go_wp2_with fail
    go_returns
    exact ⟨rfl, B2.out⟩

def IfStr (s : ByteArray) (w : World) (e : Ending) (w' : World) : Prop := e = .returned (.iface 9 (.string s)) ∧ Below w.heap.size w w'
theorem toStr_str (s : ByteArray) (w : World) : Calls Tryz.prog 155 #[.iface 9 (.string s)] w (IfStr s w) := by
  go_enter Tryz.func155, Tryz.ntmps155
  go_wp2_with fail
  go_returns
  exact ⟨rfl, Below.refl _ _⟩
/-- a text's bytes -/
def bytesN (s : ByteArray) : List Nat := s.data.toList.map (·.toNat)
theorem bytesN_len (s : ByteArray) : (bytesN s).length = s.size := by
  unfold bytesN
  rw [List.length_map, ← Lib.size_eq]
theorem bytesN_lt (s : ByteArray) : ∀ x ∈ bytesN s, x < 256 := by
  intro x hx
  obtain ⟨b, _, rfl⟩ := List.mem_map.1 hx
  exact b.toNat_lt
theorem below_bytes (w : World) (t : TypeId) (s : ByteArray) : Below w.heap.size w (Lib.bytesWorld w t s) :=
  ⟨rfl, rfl, rfl, by rw [Lib.bytesWorld_size]; omega, fun k hk => Lib.bytesWorld_at_old w t s k hk⟩
theorem bytesN_at (s : ByteArray) (i : Nat) (hi : i < s.size) : (((s.data.toList.getD i 0).toNat : Nat) : Int) = (((bytesN s).getD i 0 : Nat) : Int) := by
  have hl : i < s.data.toList.length := by rw [← Lib.size_eq]; exact hi
  unfold bytesN
  simp [List.getD, List.getElem?_map, List.getElem?_eq_getElem hl]

set_option maxHeartbeats 1000000 in
set_option maxRecDepth 100000 in
theorem toB64_any (s : ByteArray) (hs : s.size ≤ 2147483647) (w : World) : Calls Tryz.prog 103 #[.iface 9 (.string s)] w (IfStr (numS (encB (bytesN s))) w) := by
  go_enter Tryz.func103, Tryz.ntmps103
  go_wp2_with fail
  refine (toStr_str s w).mono ?_
  rintro e w1 ⟨rfl, hb1⟩
  have B1 := Lib.hid hb1
  clear hb1
  go_wp2_with fail
  refine (new_any w1).mono ?_
  rintro e w2 ⟨rfl, hb2, hr2⟩
  have B2 := Lib.hid (B1.out.trans (hb2.mono B1.out.size))
  have HR := Lib.hid hr2
  have HW1 := Lib.hid hr2.lt
  clear hb2 hr2
  have hcv := Lib.run_convert_string_bytes (P := Tryz.prog) w2 9 73 5 s Tryz.underlying9 Tryz.underlying73 Tryz.underlying5
  obtain ⟨cap, hcap⟩ : ∃ cap, grownCap w2 s.size 0 5 = cap := ⟨_, rfl⟩
  have hge := grownCap_ge w2 s.size 0 5
  have hle := grownCap_le_maxLen w2 s.size 0 5 (by unfold maxLen; omega)
  rw [hcap] at hcv hge hle
  unfold maxLen at hle
  clear hcap
  go_wp2_with fail
  clear hcv
  refine (encS_any w1.heap.size w2.heap.size 0 s.size cap (bytesN s) (bytesN_len s) (bytesN_lt s) hs hge hle _ (HR.out.of_block (Lib.bytesWorld_at_old _ _ _ _ HW1.out)) (fun i hi => ?_) (by rw [Lib.bytesWorld_size]; omega)).mono ?_
  · rw [Nat.zero_add, Lib.bytesWorld_cell w2 5 s i hi, bytesN_at s i hi]
  rintro e w3 ⟨rfl, hb3⟩
  have B3 := Lib.hid (B2.out.trans (((below_bytes w2 5 s).trans (hb3.mono (below_bytes w2 5 s).size)).mono B2.out.size))
  clear hb3
  go_wp2_with fail
  go_returns
  exact ⟨rfl, B3.out⟩
end Go.Proofs.YtnlndpgbhmkanaaGreatDoor.Ba
