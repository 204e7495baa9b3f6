/-
  THE WALKS of assemble32, assemble64, BEPutUint32, BEPutUint64.
-/
import Derived.Test.YtnlndpgbhmkanaaGreatDoorBaF
namespace Go.Proofs.YtnlndpgbhmkanaaGreatDoor.Ba
open Go.RowKit Go.Proofs.YtnlndpgbhmkanaaGreatDoor.Va
set_option linter.unusedVariables false
set_option linter.unusedSimpArgs false

theorem or255 : ∀ x : Fin 256, x.val ||| 255 = 255 ∧ 255 ||| x.val = 255 := by decide +kernel
/-- a number below 64, or 255 -/
def Dg (a : Nat) : Prop := a < 64 ∨ a = 255
theorem or_dg {a b : Nat} (ha : Dg a) (hb : Dg b) : bits .or .u8 (a : Int) (b : Int) = ((a ||| b : Nat) : Int) ∧ Dg (a ||| b) ∧ ((a ||| b) = 255 ↔ a = 255 ∨ b = 255) := by
  have ha2 : a < 256 := by rcases ha with h | h <;> omega
  have hb2 : b < 256 := by rcases hb with h | h <;> omega
  refine ⟨u8_or_nat a b ha2 hb2, ?_⟩
  rcases hb with hb | rfl
  · rcases ha with ha | rfl
    · have : a ||| b < 2 ^ 6 := Nat.or_lt_two_pow ha hb
      exact ⟨.inl this, by omega⟩
    · have := (or255 ⟨b, hb2⟩).2
      exact ⟨.inr this, by simp [this]⟩
  · have := (or255 ⟨a, ha2⟩).1
    exact ⟨.inr this, by simp [this]⟩
def All4 (a b c d : Nat) : Prop := a ≠ 255 ∧ b ≠ 255 ∧ c ≠ 255 ∧ d ≠ 255
theorem or4 {a b c d : Nat} (ha : Dg a) (hb : Dg b) (hc : Dg c) (hd : Dg d) : ∃ o, bits .or .u8 (bits .or .u8 (bits .or .u8 (a : Int) (b : Int)) (c : Int)) (d : Int) = ((o : Nat) : Int) ∧ Dg o ∧ (o = 255 ↔ a = 255 ∨ b = 255 ∨ c = 255 ∨ d = 255) := by
  obtain ⟨e1, d1, i1⟩ := or_dg ha hb
  obtain ⟨e2, d2, i2⟩ := or_dg d1 hc
  obtain ⟨e3, d3, i3⟩ := or_dg d2 hd
  refine ⟨((a ||| b) ||| c) ||| d, by rw [e1, e2, e3], d3, ?_⟩
  rw [i3, i2, i1]
  simp only [or_assoc]
theorem or8 {a b c d a' b' c' d' : Nat} (ha : Dg a) (hb : Dg b) (hc : Dg c) (hd : Dg d) (ha' : Dg a') (hb' : Dg b') (hc' : Dg c') (hd' : Dg d') :
    ∃ o, bits .or .u8 (bits .or .u8 (bits .or .u8 (bits .or .u8 (bits .or .u8 (bits .or .u8 (bits .or .u8 (a : Int) (b : Int)) (c : Int)) (d : Int)) (a' : Int)) (b' : Int)) (c' : Int)) (d' : Int) = ((o : Nat) : Int) ∧
      (o = 255 ↔ a = 255 ∨ b = 255 ∨ c = 255 ∨ d = 255 ∨ a' = 255 ∨ b' = 255 ∨ c' = 255 ∨ d' = 255) := by
  obtain ⟨o, e0, d0, i0⟩ := or4 ha hb hc hd
  obtain ⟨e1, d1, i1⟩ := or_dg d0 ha'
  obtain ⟨e2, d2, i2⟩ := or_dg d1 hb'
  obtain ⟨e3, d3, i3⟩ := or_dg d2 hc'
  obtain ⟨e4, d4, i4⟩ := or_dg d3 hd'
  refine ⟨(((o ||| a') ||| b') ||| c') ||| d', by rw [e0, e1, e2, e3, e4], ?_⟩
  rw [i4, i3, i2, i1, i0]
  simp only [or_assoc]
def Ret2 (k : IntKind) (v : Int) (b : Bool) (w : World) (e : Ending) (w' : World) : Prop := e = .returned (.tuple #[.int k v, .bool b]) ∧ w = w'
set_option maxRecDepth 100000 in
theorem val4u {a b c d : Nat} (ha : a < 64) (hb : b < 64) (hc : c < 64) (hd : d < 64) : bits .or .u32 (bits .or .u32 (bits .or .u32 ((a : Int) * 67108864) ((b : Int) * 1048576)) ((c : Int) * 16384)) ((d : Int) * 256) = (((a * 262144 + b * 4096 + c * 64 + d) * 256 : Nat) : Int) := by
  have o1 : a * 67108864 ||| b * 1048576 = a * 67108864 + b * 1048576 := or_add a (b * 1048576) 26 (by omega)
  have o2 : (a * 67108864 + b * 1048576) ||| c * 16384 = a * 67108864 + b * 1048576 + c * 16384 := by
    have h := or_add (a * 64 + b) (c * 16384) 20 (by omega)
    have e : (a * 64 + b) * 2 ^ 20 = a * 67108864 + b * 1048576 := by omega
    rwa [e] at h
  have o3 : (a * 67108864 + b * 1048576 + c * 16384) ||| d * 256 = a * 67108864 + b * 1048576 + c * 16384 + d * 256 := by
    have h := or_add (a * 4096 + b * 64 + c) (d * 256) 14 (by omega)
    have e : (a * 4096 + b * 64 + c) * 2 ^ 14 = a * 67108864 + b * 1048576 + c * 16384 := by omega
    rwa [e] at h
  have h1 := u32_or_nat (a * 67108864) (b * 1048576) (by omega) (by omega)
  have h2 := u32_or_nat (a * 67108864 + b * 1048576) (c * 16384) (by omega) (by omega)
  have h3 := u32_or_nat (a * 67108864 + b * 1048576 + c * 16384) (d * 256) (by omega) (by omega)
  rw [o1] at h1
  rw [o2] at h2
  rw [o3] at h3
  have ea : (a : Int) * 67108864 = ((a * 67108864 : Nat) : Int) := by omega
  have eb : (b : Int) * 1048576 = ((b * 1048576 : Nat) : Int) := by omega
  have ec : (c : Int) * 16384 = ((c * 16384 : Nat) : Int) := by omega
  have ed : (d : Int) * 256 = ((d * 256 : Nat) : Int) := by omega
  have e : (a * 262144 + b * 4096 + c * 64 + d) * 256 = a * 67108864 + b * 1048576 + c * 16384 + d * 256 := by omega
  rw [ea, eb, ec, ed, h1, h2, h3, e]
set_option maxRecDepth 100000 in
theorem as32_yes (a b c d : Nat) (ha : a < 64) (hb : b < 64) (hc : c < 64) (hd : d < 64) (w : World) : Calls Tryz.prog 225 #[.int .u8 a, .int .u8 b, .int .u8 c, .int .u8 d] w (Ret2 .u32 (((a * 262144 + b * 4096 + c * 64 + d) * 256 : Nat) : Int) true w) := by
  obtain ⟨o, ho, hd2, hi⟩ := or4 (.inl ha) (.inl hb) (.inl hc) (.inl hd)
  have hne : ((o : Int) == 255) = false := by
    have : o ≠ 255 := fun q => by have := hi.1 q; omega
    simp; omega
  have hV := val4u ha hb hc hd
  obtain ⟨V, hVe⟩ : ∃ V, (a * 262144 + b * 4096 + c * 64 + d) * 256 = V := ⟨_, rfl⟩
  rw [hVe] at hV ⊢
  clear hi hd2 hVe
  go_enter Tryz.func225, Tryz.ntmps225
  go_wp2_with fail
  go_returns
  exact ⟨rfl, rfl⟩
set_option maxRecDepth 100000 in
theorem as32_no (a b c d : Nat) (ha : Dg a) (hb : Dg b) (hc : Dg c) (hd : Dg d) (h : a = 255 ∨ b = 255 ∨ c = 255 ∨ d = 255) (w : World) : Calls Tryz.prog 225 #[.int .u8 a, .int .u8 b, .int .u8 c, .int .u8 d] w (Ret2 .u32 0 false w) := by
  obtain ⟨o, ho, hd2, hi⟩ := or4 ha hb hc hd
  obtain rfl : o = 255 := hi.2 h
  clear hi hd2 ha hb hc hd h
  go_enter Tryz.func225, Tryz.ntmps225
  go_wp2_with fail
  go_returns
  exact ⟨rfl, rfl⟩
set_option maxRecDepth 100000 in
theorem val8u {a b c d a' b' c' d' : Nat} (ha : a < 64) (hb : b < 64) (hc : c < 64) (hd : d < 64) (ha' : a' < 64) (hb' : b' < 64) (hc' : c' < 64) (hd' : d' < 64) : bits .or .u64 (bits .or .u64 (bits .or .u64 (bits .or .u64 (bits .or .u64 (bits .or .u64 (bits .or .u64 ((a : Int) * 288230376151711744) ((b : Int) * 4503599627370496)) ((c : Int) * 70368744177664)) ((d : Int) * 1099511627776)) ((a' : Int) * 17179869184)) ((b' : Int) * 268435456)) ((c' : Int) * 4194304)) ((d' : Int) * 65536) = ((a * 288230376151711744 + b * 4503599627370496 + c * 70368744177664 + d * 1099511627776 + a' * 17179869184 + b' * 268435456 + c' * 4194304 + d' * 65536 : Nat) : Int) := by
  have o1 : (a * 288230376151711744) ||| b * 4503599627370496 = a * 288230376151711744 + b * 4503599627370496 := by
    have h := or_add (a) (b * 4503599627370496) 58 (by omega)
    have e : (a) * 2 ^ 58 = a * 288230376151711744 := by omega
    rwa [e] at h
  have h1 := u64_or_nat (a * 288230376151711744) (b * 4503599627370496) (by omega) (by omega)
  rw [o1] at h1
  have o2 : (a * 288230376151711744 + b * 4503599627370496) ||| c * 70368744177664 = a * 288230376151711744 + b * 4503599627370496 + c * 70368744177664 := by
    have h := or_add (a * 64 + b) (c * 70368744177664) 52 (by omega)
    have e : (a * 64 + b) * 2 ^ 52 = a * 288230376151711744 + b * 4503599627370496 := by omega
    rwa [e] at h
  have h2 := u64_or_nat (a * 288230376151711744 + b * 4503599627370496) (c * 70368744177664) (by omega) (by omega)
  rw [o2] at h2
  have o3 : (a * 288230376151711744 + b * 4503599627370496 + c * 70368744177664) ||| d * 1099511627776 = a * 288230376151711744 + b * 4503599627370496 + c * 70368744177664 + d * 1099511627776 := by
    have h := or_add (a * 4096 + b * 64 + c) (d * 1099511627776) 46 (by omega)
    have e : (a * 4096 + b * 64 + c) * 2 ^ 46 = a * 288230376151711744 + b * 4503599627370496 + c * 70368744177664 := by omega
    rwa [e] at h
  have h3 := u64_or_nat (a * 288230376151711744 + b * 4503599627370496 + c * 70368744177664) (d * 1099511627776) (by omega) (by omega)
  rw [o3] at h3
  have o4 : (a * 288230376151711744 + b * 4503599627370496 + c * 70368744177664 + d * 1099511627776) ||| a' * 17179869184 = a * 288230376151711744 + b * 4503599627370496 + c * 70368744177664 + d * 1099511627776 + a' * 17179869184 := by
    have h := or_add (a * 262144 + b * 4096 + c * 64 + d) (a' * 17179869184) 40 (by omega)
    have e : (a * 262144 + b * 4096 + c * 64 + d) * 2 ^ 40 = a * 288230376151711744 + b * 4503599627370496 + c * 70368744177664 + d * 1099511627776 := by omega
    rwa [e] at h
  have h4 := u64_or_nat (a * 288230376151711744 + b * 4503599627370496 + c * 70368744177664 + d * 1099511627776) (a' * 17179869184) (by omega) (by omega)
  rw [o4] at h4
  have o5 : (a * 288230376151711744 + b * 4503599627370496 + c * 70368744177664 + d * 1099511627776 + a' * 17179869184) ||| b' * 268435456 = a * 288230376151711744 + b * 4503599627370496 + c * 70368744177664 + d * 1099511627776 + a' * 17179869184 + b' * 268435456 := by
    have h := or_add (a * 16777216 + b * 262144 + c * 4096 + d * 64 + a') (b' * 268435456) 34 (by omega)
    have e : (a * 16777216 + b * 262144 + c * 4096 + d * 64 + a') * 2 ^ 34 = a * 288230376151711744 + b * 4503599627370496 + c * 70368744177664 + d * 1099511627776 + a' * 17179869184 := by omega
    rwa [e] at h
  have h5 := u64_or_nat (a * 288230376151711744 + b * 4503599627370496 + c * 70368744177664 + d * 1099511627776 + a' * 17179869184) (b' * 268435456) (by omega) (by omega)
  rw [o5] at h5
  have o6 : (a * 288230376151711744 + b * 4503599627370496 + c * 70368744177664 + d * 1099511627776 + a' * 17179869184 + b' * 268435456) ||| c' * 4194304 = a * 288230376151711744 + b * 4503599627370496 + c * 70368744177664 + d * 1099511627776 + a' * 17179869184 + b' * 268435456 + c' * 4194304 := by
    have h := or_add (a * 1073741824 + b * 16777216 + c * 262144 + d * 4096 + a' * 64 + b') (c' * 4194304) 28 (by omega)
    have e : (a * 1073741824 + b * 16777216 + c * 262144 + d * 4096 + a' * 64 + b') * 2 ^ 28 = a * 288230376151711744 + b * 4503599627370496 + c * 70368744177664 + d * 1099511627776 + a' * 17179869184 + b' * 268435456 := by omega
    rwa [e] at h
  have h6 := u64_or_nat (a * 288230376151711744 + b * 4503599627370496 + c * 70368744177664 + d * 1099511627776 + a' * 17179869184 + b' * 268435456) (c' * 4194304) (by omega) (by omega)
  rw [o6] at h6
  have o7 : (a * 288230376151711744 + b * 4503599627370496 + c * 70368744177664 + d * 1099511627776 + a' * 17179869184 + b' * 268435456 + c' * 4194304) ||| d' * 65536 = a * 288230376151711744 + b * 4503599627370496 + c * 70368744177664 + d * 1099511627776 + a' * 17179869184 + b' * 268435456 + c' * 4194304 + d' * 65536 := by
    have h := or_add (a * 68719476736 + b * 1073741824 + c * 16777216 + d * 262144 + a' * 4096 + b' * 64 + c') (d' * 65536) 22 (by omega)
    have e : (a * 68719476736 + b * 1073741824 + c * 16777216 + d * 262144 + a' * 4096 + b' * 64 + c') * 2 ^ 22 = a * 288230376151711744 + b * 4503599627370496 + c * 70368744177664 + d * 1099511627776 + a' * 17179869184 + b' * 268435456 + c' * 4194304 := by omega
    rwa [e] at h
  have h7 := u64_or_nat (a * 288230376151711744 + b * 4503599627370496 + c * 70368744177664 + d * 1099511627776 + a' * 17179869184 + b' * 268435456 + c' * 4194304) (d' * 65536) (by omega) (by omega)
  rw [o7] at h7
  have e0 : (a : Int) * 288230376151711744 = ((a * 288230376151711744 : Nat) : Int) := by omega
  have e1 : (b : Int) * 4503599627370496 = ((b * 4503599627370496 : Nat) : Int) := by omega
  have e2 : (c : Int) * 70368744177664 = ((c * 70368744177664 : Nat) : Int) := by omega
  have e3 : (d : Int) * 1099511627776 = ((d * 1099511627776 : Nat) : Int) := by omega
  have e4 : (a' : Int) * 17179869184 = ((a' * 17179869184 : Nat) : Int) := by omega
  have e5 : (b' : Int) * 268435456 = ((b' * 268435456 : Nat) : Int) := by omega
  have e6 : (c' : Int) * 4194304 = ((c' * 4194304 : Nat) : Int) := by omega
  have e7 : (d' : Int) * 65536 = ((d' * 65536 : Nat) : Int) := by omega
  rw [e0, e1, e2, e3, e4, e5, e6, e7, h1, h2, h3, h4, h5, h6, h7]
set_option maxRecDepth 100000 in
theorem as64_yes (a b c d a' b' c' d' : Nat) (ha : a < 64) (hb : b < 64) (hc : c < 64) (hd : d < 64) (ha' : a' < 64) (hb' : b' < 64) (hc' : c' < 64) (hd' : d' < 64) (w : World) : Calls Tryz.prog 222 #[.int .u8 a, .int .u8 b, .int .u8 c, .int .u8 d, .int .u8 a', .int .u8 b', .int .u8 c', .int .u8 d'] w (Ret2 .u64 ((a * 288230376151711744 + b * 4503599627370496 + c * 70368744177664 + d * 1099511627776 + a' * 17179869184 + b' * 268435456 + c' * 4194304 + d' * 65536 : Nat) : Int) true w) := by
  obtain ⟨o, ho, hi⟩ := or8 (.inl ha) (.inl hb) (.inl hc) (.inl hd) (.inl ha') (.inl hb') (.inl hc') (.inl hd')
  have hne : ((o : Int) == 255) = false := by
    have : o ≠ 255 := fun q => by have := hi.1 q; omega
    simp; omega
  have hV := val8u ha hb hc hd ha' hb' hc' hd'
  obtain ⟨V, hVe⟩ : ∃ V, a * 288230376151711744 + b * 4503599627370496 + c * 70368744177664 + d * 1099511627776 + a' * 17179869184 + b' * 268435456 + c' * 4194304 + d' * 65536 = V := ⟨_, rfl⟩
  rw [hVe] at hV ⊢
  clear hi hVe
  go_enter Tryz.func222, Tryz.ntmps222
  go_wp2_with fail
  go_returns
  exact ⟨rfl, rfl⟩
set_option maxRecDepth 100000 in
theorem as64_no (a b c d a' b' c' d' : Nat) (ha : Dg a) (hb : Dg b) (hc : Dg c) (hd : Dg d) (ha' : Dg a') (hb' : Dg b') (hc' : Dg c') (hd' : Dg d') (h : a = 255 ∨ b = 255 ∨ c = 255 ∨ d = 255 ∨ a' = 255 ∨ b' = 255 ∨ c' = 255 ∨ d' = 255) (w : World) : Calls Tryz.prog 222 #[.int .u8 a, .int .u8 b, .int .u8 c, .int .u8 d, .int .u8 a', .int .u8 b', .int .u8 c', .int .u8 d'] w (Ret2 .u64 0 false w) := by
  obtain ⟨o, ho, hi⟩ := or8 ha hb hc hd ha' hb' hc' hd'
  obtain rfl : o = 255 := hi.2 h
  clear hi ha hb hc hd ha' hb' hc' hd' h
  go_enter Tryz.func222, Tryz.ntmps222
  go_wp2_with fail
  go_returns
  exact ⟨rfl, rfl⟩
end Go.Proofs.YtnlndpgbhmkanaaGreatDoor.Ba
