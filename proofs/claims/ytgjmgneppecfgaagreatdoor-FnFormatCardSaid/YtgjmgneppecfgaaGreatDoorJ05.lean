/-
  FnFormat, texts BaG BaH BaI: lemmas for the law; the theorem stands in the last text.
-/
import Derived.Test.YtgjmgneppecfgaaGreatDoorJ04
namespace Go.Proofs.YtgjmgneppecfgaaGreatDoor.Ba
open Go.RowKit Go.Proofs.YtgjmgneppecfgaaGreatDoor.Va
set_option linter.unusedVariables false
set_option linter.unusedSimpArgs false

theorem or255 : ∀ x : Fin 256, x.val ||| 255 = 255 ∧ 255 ||| x.val = 255 := by decide +kernel
/-- a number below 64, or 255 -/
def Dg (a : Nat) : Prop := a < 64 ∨ a = 255
theorem or_dg {a b : Nat} (ha : Dg a) (hb : Dg b) : bits .or .u8 (a : Int) (b : Int) = ((a ||| b : Nat) : Int) ∧ Dg (a ||| b) ∧ ((a ||| b) = 255 ↔ a = 255 ∨ b = 255) := by
  have ha2 : a < 256 := by rcases ha with h | h <;> omega
  have hb2 : b < 256 := by rcases hb with h | h <;> omega
  refine ⟨u8_or_nat a b ha2 hb2, ?_⟩
  rcases hb with hb | rfl
  · rcases ha with ha | rfl
    · have : a ||| b < 2 ^ 6 := Nat.or_lt_two_pow ha hb
      exact ⟨.inl this, by omega⟩
    · have := (or255 ⟨b, hb2⟩).2
      exact ⟨.inr this, by simp [this]⟩
  · have := (or255 ⟨a, ha2⟩).1
    exact ⟨.inr this, by simp [this]⟩
theorem or4 {a b c d : Nat} (ha : Dg a) (hb : Dg b) (hc : Dg c) (hd : Dg d) : ∃ o, bits .or .u8 (bits .or .u8 (bits .or .u8 (a : Int) (b : Int)) (c : Int)) (d : Int) = ((o : Nat) : Int) ∧ Dg o ∧ (o = 255 ↔ a = 255 ∨ b = 255 ∨ c = 255 ∨ d = 255) := by
  obtain ⟨e1, d1, i1⟩ := or_dg ha hb
  obtain ⟨e2, d2, i2⟩ := or_dg d1 hc
  obtain ⟨e3, d3, i3⟩ := or_dg d2 hd
  refine ⟨((a ||| b) ||| c) ||| d, by rw [e1, e2, e3], d3, ?_⟩
  rw [i3, i2, i1]
  simp only [or_assoc]
theorem or8 {a b c d a' b' c' d' : Nat} (ha : Dg a) (hb : Dg b) (hc : Dg c) (hd : Dg d) (ha' : Dg a') (hb' : Dg b') (hc' : Dg c') (hd' : Dg d') :
    ∃ o, bits .or .u8 (bits .or .u8 (bits .or .u8 (bits .or .u8 (bits .or .u8 (bits .or .u8 (bits .or .u8 (a : Int) (b : Int)) (c : Int)) (d : Int)) (a' : Int)) (b' : Int)) (c' : Int)) (d' : Int) = ((o : Nat) : Int) ∧
      (o = 255 ↔ a = 255 ∨ b = 255 ∨ c = 255 ∨ d = 255 ∨ a' = 255 ∨ b' = 255 ∨ c' = 255 ∨ d' = 255) := by
  obtain ⟨o, e0, d0, i0⟩ := or4 ha hb hc hd
  obtain ⟨e1, d1, i1⟩ := or_dg d0 ha'
  obtain ⟨e2, d2, i2⟩ := or_dg d1 hb'
  obtain ⟨e3, d3, i3⟩ := or_dg d2 hc'
  obtain ⟨e4, d4, i4⟩ := or_dg d3 hd'
  refine ⟨(((o ||| a') ||| b') ||| c') ||| d', by rw [e0, e1, e2, e3, e4], ?_⟩
  rw [i4, i3, i2, i1, i0]
  simp only [or_assoc]
def Ret2 (k : IntKind) (v : Int) (b : Bool) (w : World) (e : Ending) (w' : World) : Prop := e = .returned (.tuple #[.int k v, .bool b]) ∧ w = w'
set_option maxRecDepth 100000 in
theorem val4u {a b c d : Nat} (ha : a < 64) (hb : b < 64) (hc : c < 64) (hd : d < 64) : bits .or .u32 (bits .or .u32 (bits .or .u32 ((a : Int) * 67108864) ((b : Int) * 1048576)) ((c : Int) * 16384)) ((d : Int) * 256) = (((a * 262144 + b * 4096 + c * 64 + d) * 256 : Nat) : Int) := by
  have o1 : a * 67108864 ||| b * 1048576 = a * 67108864 + b * 1048576 := or_add a (b * 1048576) 26 (by omega)
  have o2 : (a * 67108864 + b * 1048576) ||| c * 16384 = a * 67108864 + b * 1048576 + c * 16384 := by
    have h := or_add (a * 64 + b) (c * 16384) 20 (by omega)
    have e : (a * 64 + b) * 2 ^ 20 = a * 67108864 + b * 1048576 := by omega
    rwa [e] at h
  have o3 : (a * 67108864 + b * 1048576 + c * 16384) ||| d * 256 = a * 67108864 + b * 1048576 + c * 16384 + d * 256 := by
    have h := or_add (a * 4096 + b * 64 + c) (d * 256) 14 (by omega)
    have e : (a * 4096 + b * 64 + c) * 2 ^ 14 = a * 67108864 + b * 1048576 + c * 16384 := by omega
    rwa [e] at h
  have h1 := u32_or_nat (a * 67108864) (b * 1048576) (by omega) (by omega)
  have h2 := u32_or_nat (a * 67108864 + b * 1048576) (c * 16384) (by omega) (by omega)
  have h3 := u32_or_nat (a * 67108864 + b * 1048576 + c * 16384) (d * 256) (by omega) (by omega)
  rw [o1] at h1
  rw [o2] at h2
  rw [o3] at h3
  have ea : (a : Int) * 67108864 = ((a * 67108864 : Nat) : Int) := by omega
  have eb : (b : Int) * 1048576 = ((b * 1048576 : Nat) : Int) := by omega
  have ec : (c : Int) * 16384 = ((c * 16384 : Nat) : Int) := by omega
  have ed : (d : Int) * 256 = ((d * 256 : Nat) : Int) := by omega
  have e : (a * 262144 + b * 4096 + c * 64 + d) * 256 = a * 67108864 + b * 1048576 + c * 16384 + d * 256 := by omega
  rw [ea, eb, ec, ed, h1, h2, h3, e]
set_option maxRecDepth 100000 in
theorem as32_yes (a b c d : Nat) (ha : a < 64) (hb : b < 64) (hc : c < 64) (hd : d < 64) (w : World) : Calls Tryz.prog 225 #[.int .u8 a, .int .u8 b, .int .u8 c, .int .u8 d] w (Ret2 .u32 (((a * 262144 + b * 4096 + c * 64 + d) * 256 : Nat) : Int) true w) := by
  obtain ⟨o, ho, hd2, hi⟩ := or4 (.inl ha) (.inl hb) (.inl hc) (.inl hd)
  have hne : ((o : Int) == 255) = false := by
    have : o ≠ 255 := fun q => by have := hi.1 q; omega
    simp; omega
  have hV := val4u ha hb hc hd
  obtain ⟨V, hVe⟩ : ∃ V, (a * 262144 + b * 4096 + c * 64 + d) * 256 = V := ⟨_, rfl⟩
  rw [hVe] at hV ⊢
  clear hi hd2 hVe
  go_enter Tryz.func225, Tryz.ntmps225
  go_wp2_with fail
  go_returns
  exact ⟨rfl, rfl⟩
set_option maxRecDepth 100000 in
theorem as32_no (a b c d : Nat) (ha : Dg a) (hb : Dg b) (hc : Dg c) (hd : Dg d) (h : a = 255 ∨ b = 255 ∨ c = 255 ∨ d = 255) (w : World) : Calls Tryz.prog 225 #[.int .u8 a, .int .u8 b, .int .u8 c, .int .u8 d] w (Ret2 .u32 0 false w) := by
  obtain ⟨o, ho, hd2, hi⟩ := or4 ha hb hc hd
  obtain rfl : o = 255 := hi.2 h
  clear hi hd2 ha hb hc hd h
  go_enter Tryz.func225, Tryz.ntmps225
  go_wp2_with fail
  go_returns
  exact ⟨rfl, rfl⟩
set_option maxRecDepth 100000 in
theorem val8u {a b c d a' b' c' d' : Nat} (ha : a < 64) (hb : b < 64) (hc : c < 64) (hd : d < 64) (ha' : a' < 64) (hb' : b' < 64) (hc' : c' < 64) (hd' : d' < 64) : bits .or .u64 (bits .or .u64 (bits .or .u64 (bits .or .u64 (bits .or .u64 (bits .or .u64 (bits .or .u64 ((a : Int) * 288230376151711744) ((b : Int) * 4503599627370496)) ((c : Int) * 70368744177664)) ((d : Int) * 1099511627776)) ((a' : Int) * 17179869184)) ((b' : Int) * 268435456)) ((c' : Int) * 4194304)) ((d' : Int) * 65536) = ((a * 288230376151711744 + b * 4503599627370496 + c * 70368744177664 + d * 1099511627776 + a' * 17179869184 + b' * 268435456 + c' * 4194304 + d' * 65536 : Nat) : Int) := by
  have o1 : (a * 288230376151711744) ||| b * 4503599627370496 = a * 288230376151711744 + b * 4503599627370496 := by
    have h := or_add (a) (b * 4503599627370496) 58 (by omega)
    have e : (a) * 2 ^ 58 = a * 288230376151711744 := by omega
    rwa [e] at h
  have h1 := u64_or_nat (a * 288230376151711744) (b * 4503599627370496) (by omega) (by omega)
  rw [o1] at h1
  have o2 : (a * 288230376151711744 + b * 4503599627370496) ||| c * 70368744177664 = a * 288230376151711744 + b * 4503599627370496 + c * 70368744177664 := by
    have h := or_add (a * 64 + b) (c * 70368744177664) 52 (by omega)
    have e : (a * 64 + b) * 2 ^ 52 = a * 288230376151711744 + b * 4503599627370496 := by omega
    rwa [e] at h
  have h2 := u64_or_nat (a * 288230376151711744 + b * 4503599627370496) (c * 70368744177664) (by omega) (by omega)
  rw [o2] at h2
  have o3 : (a * 288230376151711744 + b * 4503599627370496 + c * 70368744177664) ||| d * 1099511627776 = a * 288230376151711744 + b * 4503599627370496 + c * 70368744177664 + d * 1099511627776 := by
    have h := or_add (a * 4096 + b * 64 + c) (d * 1099511627776) 46 (by omega)
    have e : (a * 4096 + b * 64 + c) * 2 ^ 46 = a * 288230376151711744 + b * 4503599627370496 + c * 70368744177664 := by omega
    rwa [e] at h
  have h3 := u64_or_nat (a * 288230376151711744 + b * 4503599627370496 + c * 70368744177664) (d * 1099511627776) (by omega) (by omega)
  rw [o3] at h3
  have o4 : (a * 288230376151711744 + b * 4503599627370496 + c * 70368744177664 + d * 1099511627776) ||| a' * 17179869184 = a * 288230376151711744 + b * 4503599627370496 + c * 70368744177664 + d * 1099511627776 + a' * 17179869184 := by
    have h := or_add (a * 262144 + b * 4096 + c * 64 + d) (a' * 17179869184) 40 (by omega)
    have e : (a * 262144 + b * 4096 + c * 64 + d) * 2 ^ 40 = a * 288230376151711744 + b * 4503599627370496 + c * 70368744177664 + d * 1099511627776 := by omega
    rwa [e] at h
  have h4 := u64_or_nat (a * 288230376151711744 + b * 4503599627370496 + c * 70368744177664 + d * 1099511627776) (a' * 17179869184) (by omega) (by omega)
  rw [o4] at h4
  have o5 : (a * 288230376151711744 + b * 4503599627370496 + c * 70368744177664 + d * 1099511627776 + a' * 17179869184) ||| b' * 268435456 = a * 288230376151711744 + b * 4503599627370496 + c * 70368744177664 + d * 1099511627776 + a' * 17179869184 + b' * 268435456 := by
    have h := or_add (a * 16777216 + b * 262144 + c * 4096 + d * 64 + a') (b' * 268435456) 34 (by omega)
    have e : (a * 16777216 + b * 262144 + c * 4096 + d * 64 + a') * 2 ^ 34 = a * 288230376151711744 + b * 4503599627370496 + c * 70368744177664 + d * 1099511627776 + a' * 17179869184 := by omega
    rwa [e] at h
  have h5 := u64_or_nat (a * 288230376151711744 + b * 4503599627370496 + c * 70368744177664 + d * 1099511627776 + a' * 17179869184) (b' * 268435456) (by omega) (by omega)
  rw [o5] at h5
  have o6 : (a * 288230376151711744 + b * 4503599627370496 + c * 70368744177664 + d * 1099511627776 + a' * 17179869184 + b' * 268435456) ||| c' * 4194304 = a * 288230376151711744 + b * 4503599627370496 + c * 70368744177664 + d * 1099511627776 + a' * 17179869184 + b' * 268435456 + c' * 4194304 := by
    have h := or_add (a * 1073741824 + b * 16777216 + c * 262144 + d * 4096 + a' * 64 + b') (c' * 4194304) 28 (by omega)
    have e : (a * 1073741824 + b * 16777216 + c * 262144 + d * 4096 + a' * 64 + b') * 2 ^ 28 = a * 288230376151711744 + b * 4503599627370496 + c * 70368744177664 + d * 1099511627776 + a' * 17179869184 + b' * 268435456 := by omega
    rwa [e] at h
  have h6 := u64_or_nat (a * 288230376151711744 + b * 4503599627370496 + c * 70368744177664 + d * 1099511627776 + a' * 17179869184 + b' * 268435456) (c' * 4194304) (by omega) (by omega)
  rw [o6] at h6
  have o7 : (a * 288230376151711744 + b * 4503599627370496 + c * 70368744177664 + d * 1099511627776 + a' * 17179869184 + b' * 268435456 + c' * 4194304) ||| d' * 65536 = a * 288230376151711744 + b * 4503599627370496 + c * 70368744177664 + d * 1099511627776 + a' * 17179869184 + b' * 268435456 + c' * 4194304 + d' * 65536 := by
    have h := or_add (a * 68719476736 + b * 1073741824 + c * 16777216 + d * 262144 + a' * 4096 + b' * 64 + c') (d' * 65536) 22 (by omega)
    have e : (a * 68719476736 + b * 1073741824 + c * 16777216 + d * 262144 + a' * 4096 + b' * 64 + c') * 2 ^ 22 = a * 288230376151711744 + b * 4503599627370496 + c * 70368744177664 + d * 1099511627776 + a' * 17179869184 + b' * 268435456 + c' * 4194304 := by omega
    rwa [e] at h
  have h7 := u64_or_nat (a * 288230376151711744 + b * 4503599627370496 + c * 70368744177664 + d * 1099511627776 + a' * 17179869184 + b' * 268435456 + c' * 4194304) (d' * 65536) (by omega) (by omega)
  rw [o7] at h7
  have e0 : (a : Int) * 288230376151711744 = ((a * 288230376151711744 : Nat) : Int) := by omega
  have e1 : (b : Int) * 4503599627370496 = ((b * 4503599627370496 : Nat) : Int) := by omega
  have e2 : (c : Int) * 70368744177664 = ((c * 70368744177664 : Nat) : Int) := by omega
  have e3 : (d : Int) * 1099511627776 = ((d * 1099511627776 : Nat) : Int) := by omega
  have e4 : (a' : Int) * 17179869184 = ((a' * 17179869184 : Nat) : Int) := by omega
  have e5 : (b' : Int) * 268435456 = ((b' * 268435456 : Nat) : Int) := by omega
  have e6 : (c' : Int) * 4194304 = ((c' * 4194304 : Nat) : Int) := by omega
  have e7 : (d' : Int) * 65536 = ((d' * 65536 : Nat) : Int) := by omega
  rw [e0, e1, e2, e3, e4, e5, e6, e7, h1, h2, h3, h4, h5, h6, h7]
set_option maxRecDepth 100000 in
theorem as64_yes (a b c d a' b' c' d' : Nat) (ha : a < 64) (hb : b < 64) (hc : c < 64) (hd : d < 64) (ha' : a' < 64) (hb' : b' < 64) (hc' : c' < 64) (hd' : d' < 64) (w : World) : Calls Tryz.prog 222 #[.int .u8 a, .int .u8 b, .int .u8 c, .int .u8 d, .int .u8 a', .int .u8 b', .int .u8 c', .int .u8 d'] w (Ret2 .u64 ((a * 288230376151711744 + b * 4503599627370496 + c * 70368744177664 + d * 1099511627776 + a' * 17179869184 + b' * 268435456 + c' * 4194304 + d' * 65536 : Nat) : Int) true w) := by
  obtain ⟨o, ho, hi⟩ := or8 (.inl ha) (.inl hb) (.inl hc) (.inl hd) (.inl ha') (.inl hb') (.inl hc') (.inl hd')
  have hne : ((o : Int) == 255) = false := by
    have : o ≠ 255 := fun q => by have := hi.1 q; omega
    simp; omega
  have hV := val8u ha hb hc hd ha' hb' hc' hd'
  obtain ⟨V, hVe⟩ : ∃ V, a * 288230376151711744 + b * 4503599627370496 + c * 70368744177664 + d * 1099511627776 + a' * 17179869184 + b' * 268435456 + c' * 4194304 + d' * 65536 = V := ⟨_, rfl⟩
  rw [hVe] at hV ⊢
  clear hi hVe
  go_enter Tryz.func222, Tryz.ntmps222
  go_wp2_with fail
  go_returns
  exact ⟨rfl, rfl⟩
set_option maxRecDepth 100000 in
theorem as64_no (a b c d a' b' c' d' : Nat) (ha : Dg a) (hb : Dg b) (hc : Dg c) (hd : Dg d) (ha' : Dg a') (hb' : Dg b') (hc' : Dg c') (hd' : Dg d') (h : a = 255 ∨ b = 255 ∨ c = 255 ∨ d = 255 ∨ a' = 255 ∨ b' = 255 ∨ c' = 255 ∨ d' = 255) (w : World) : Calls Tryz.prog 222 #[.int .u8 a, .int .u8 b, .int .u8 c, .int .u8 d, .int .u8 a', .int .u8 b', .int .u8 c', .int .u8 d'] w (Ret2 .u64 0 false w) := by
  obtain ⟨o, ho, hi⟩ := or8 ha hb hc hd ha' hb' hc' hd'
  obtain rfl : o = 255 := hi.2 h
  clear hi ha hb hc hd ha' hb' hc' hd' h
  go_enter Tryz.func222, Tryz.ntmps222
  go_wp2_with fail
  go_returns
  exact ⟨rfl, rfl⟩
end Go.Proofs.YtgjmgneppecfgaaGreatDoor.Ba
namespace Go.Proofs.YtgjmgneppecfgaaGreatDoor.Ba
open Go.RowKit Go.Proofs.YtgjmgneppecfgaaGreatDoor.Va
set_option linter.unusedVariables false
set_option linter.unusedSimpArgs false

theorem putF_nil (f : Nat → Value) (q j : Nat) : f j = putF f q [] j := by
  unfold putF
  rw [if_neg (by simp <;> omega)]
theorem putF_snoc (f : Nat → Value) (q j : Nat) (bs : List Nat) (x : Nat) : (if j = q + bs.length then .int .u8 (x : Int) else putF f q bs j) = putF f q (bs ++ [x]) j := by
  unfold putF
  by_cases c : j = q + bs.length
  · rw [if_pos c, if_pos (by simp; omega), c, show q + bs.length - q = bs.length by omega, List.getD, List.getElem?_append_right (Nat.le_refl _), Nat.sub_self]
    rfl
  · rw [if_neg c]
    by_cases d : q ≤ j ∧ j < q + bs.length
    · rw [if_pos d, if_pos (by simp; omega), List.getD, List.getD, List.getElem?_append_left (by omega)]
    · rw [if_neg d, if_neg (by simp; omega)]
theorem rowIs_putF {w : World} {db N q : Nat} {t : TypeId} {f : Nat → Value} {bs : List Nat} {x : Nat} {v : Value} (h : w.rowIs db t N (putF f q bs)) {m : Nat} (hm : m = q + bs.length) (hv : v = .int .u8 (x : Int)) : (w.setCell ⟨db, m, none⟩ v).rowIs db t N (putF f q (bs ++ [x])) := by
  subst hm
  subst hv
  exact (h.set _ _).congr fun j _ => putF_snoc f q j bs x
theorem gr_refl (w : World) (row : Option Nat) : w.grownBy w row := ⟨rfl, rfl, rfl, Nat.le_refl _, fun _ _ _ => rfl⟩
def PutEnd (w : World) (db N : Nat) (f : Nat → Value) (q : Nat) (bs : List Nat) (e : Ending) (w' : World) : Prop := e = .returned (.tuple #[]) ∧ w'.rowIs db 5 N (putF f q bs) ∧ w.grownBy w' (some db)

set_option maxHeartbeats 2000000 in
set_option maxRecDepth 100000 in
theorem put32_any (db q M Mc N V : Nat) (f : Nat → Value) (hV : V < 4294967296) (hM : 4 ≤ M) (hqM : q + M ≤ N) (w : World) (hd : w.rowIs db 5 N f) (hMc : M ≤ 2147483647) :
    Calls Tryz.prog 226 #[.slice (some ⟨db, q, none⟩) M Mc, .int .u32 (V : Int)] w (PutEnd w db N f q [V / 16777216, V / 65536 % 256, V / 256 % 256, V % 256]) := by
  have HD := Lib.hid hd
  obtain ⟨y0, hy0⟩ : ∃ y, f (q) = y := ⟨_, rfl⟩
  have o0 := hd.cell (i := q) (by omega)
  rw [hy0] at o0
  have f0 := hd.frozen (q)
  clear hy0
  obtain ⟨y1, hy1⟩ : ∃ y, f (q + 1) = y := ⟨_, rfl⟩
  have o1 := hd.cell (i := q + 1) (by omega)
  rw [hy1] at o1
  have f1 := hd.frozen (q + 1)
  clear hy1
  obtain ⟨y2, hy2⟩ : ∃ y, f (q + 2) = y := ⟨_, rfl⟩
  have o2 := hd.cell (i := q + 2) (by omega)
  rw [hy2] at o2
  have f2 := hd.frozen (q + 2)
  clear hy2
  obtain ⟨y3, hy3⟩ : ∃ y, f (q + 3) = y := ⟨_, rfl⟩
  have o3 := hd.cell (i := q + 3) (by omega)
  rw [hy3] at o3
  have f3 := hd.frozen (q + 3)
  clear hy3
  clear hd
  go_enter Tryz.func226, Tryz.ntmps226
  go_wp2_with fail
  go_returns
  exact ⟨rfl, (rowIs_putF (x := V % 256) (rowIs_putF (x := V / 256 % 256) (rowIs_putF (x := V / 65536 % 256) (rowIs_putF (x := V / 16777216) (HD.out.congr fun j _ => putF_nil f q j) rfl (by first | rfl | (congr 1; omega))) rfl (by first | rfl | (congr 1; omega))) rfl (by first | rfl | (congr 1; omega))) rfl (by first | rfl | (congr 1; omega))), (gr_set (gr_set (gr_set (gr_set (gr_refl w _) _ _) _ _) _ _) _ _)⟩
set_option maxHeartbeats 2000000 in
set_option maxRecDepth 100000 in
theorem put64_any (db q M Mc N V : Nat) (f : Nat → Value) (hV : V < 18446744073709551616) (hM : 8 ≤ M) (hqM : q + M ≤ N) (w : World) (hd : w.rowIs db 5 N f) (hMc : M ≤ 2147483647) :
    Calls Tryz.prog 223 #[.slice (some ⟨db, q, none⟩) M Mc, .int .u64 (V : Int)] w (PutEnd w db N f q [V / 72057594037927936, V / 281474976710656 % 256, V / 1099511627776 % 256, V / 4294967296 % 256, V / 16777216 % 256, V / 65536 % 256, V / 256 % 256, V % 256]) := by
  have HD := Lib.hid hd
  obtain ⟨y0, hy0⟩ : ∃ y, f (q) = y := ⟨_, rfl⟩
  have o0 := hd.cell (i := q) (by omega)
  rw [hy0] at o0
  have f0 := hd.frozen (q)
  clear hy0
  obtain ⟨y1, hy1⟩ : ∃ y, f (q + 1) = y := ⟨_, rfl⟩
  have o1 := hd.cell (i := q + 1) (by omega)
  rw [hy1] at o1
  have f1 := hd.frozen (q + 1)
  clear hy1
  obtain ⟨y2, hy2⟩ : ∃ y, f (q + 2) = y := ⟨_, rfl⟩
  have o2 := hd.cell (i := q + 2) (by omega)
  rw [hy2] at o2
  have f2 := hd.frozen (q + 2)
  clear hy2
  obtain ⟨y3, hy3⟩ : ∃ y, f (q + 3) = y := ⟨_, rfl⟩
  have o3 := hd.cell (i := q + 3) (by omega)
  rw [hy3] at o3
  have f3 := hd.frozen (q + 3)
  clear hy3
  obtain ⟨y4, hy4⟩ : ∃ y, f (q + 4) = y := ⟨_, rfl⟩
  have o4 := hd.cell (i := q + 4) (by omega)
  rw [hy4] at o4
  have f4 := hd.frozen (q + 4)
  clear hy4
  obtain ⟨y5, hy5⟩ : ∃ y, f (q + 5) = y := ⟨_, rfl⟩
  have o5 := hd.cell (i := q + 5) (by omega)
  rw [hy5] at o5
  have f5 := hd.frozen (q + 5)
  clear hy5
  obtain ⟨y6, hy6⟩ : ∃ y, f (q + 6) = y := ⟨_, rfl⟩
  have o6 := hd.cell (i := q + 6) (by omega)
  rw [hy6] at o6
  have f6 := hd.frozen (q + 6)
  clear hy6
  obtain ⟨y7, hy7⟩ : ∃ y, f (q + 7) = y := ⟨_, rfl⟩
  have o7 := hd.cell (i := q + 7) (by omega)
  rw [hy7] at o7
  have f7 := hd.frozen (q + 7)
  clear hy7
  clear hd
  go_enter Tryz.func223, Tryz.ntmps223
  go_wp2_with fail
  go_returns
  exact ⟨rfl, (rowIs_putF (x := V % 256) (rowIs_putF (x := V / 256 % 256) (rowIs_putF (x := V / 65536 % 256) (rowIs_putF (x := V / 16777216 % 256) (rowIs_putF (x := V / 4294967296 % 256) (rowIs_putF (x := V / 1099511627776 % 256) (rowIs_putF (x := V / 281474976710656 % 256) (rowIs_putF (x := V / 72057594037927936) (HD.out.congr fun j _ => putF_nil f q j) rfl (by first | rfl | (congr 1; omega))) rfl (by first | rfl | (congr 1; omega))) rfl (by first | rfl | (congr 1; omega))) rfl (by first | rfl | (congr 1; omega))) rfl (by first | rfl | (congr 1; omega))) rfl (by first | rfl | (congr 1; omega))) rfl (by first | rfl | (congr 1; omega))) rfl (by first | rfl | (congr 1; omega))), (gr_set (gr_set (gr_set (gr_set (gr_set (gr_set (gr_set (gr_set (gr_refl w _) _ _) _ _) _ _) _ _) _ _) _ _) _ _) _ _)⟩
end Go.Proofs.YtgjmgneppecfgaaGreatDoor.Ba
namespace Go.Proofs.YtgjmgneppecfgaaGreatDoor.Ba
open Go.RowKit Go.Proofs.YtgjmgneppecfgaaGreatDoor.Va
set_option linter.unusedVariables false
set_option linter.unusedSimpArgs false

/-- what has been decoded so far: from place s on it goes on -/
structure DS (l : List Nat) (n N db : Nat) (w : World) (s : Nat) (out : List Nat) (wr : World) : Prop where
  le : s ≤ n
  few : 4 * out.length ≤ 3 * s
  run : ∃ F, n + 1 ≤ s + F ∧ runD l (n + 1) 0 [] = runD l F s out
  row : ∃ g, wr.rowIs db 5 N g ∧ ∀ j, j < out.length → g j = .int .u8 ((out.getD j 0 : Nat) : Int)
  grown : w.grownBy wr (some db)
def DecEnd (l : List Nat) (n N db : Nat) (w : World) (e : Ending) (w' : World) : Prop :=
  ∃ (out : List Nat) (ok : Bool) (ev : Value), runD l (n + 1) 0 [] = (out, ok) ∧ out.length ≤ N ∧ e = .returned (.tuple #[.int .i64 ((out.length : Nat) : Int), ev]) ∧ ((ok = true ∧ ev = .nilIface) ∨ (ok = false ∧ ∃ v, ev = .iface 285 v)) ∧
    (∃ g, w'.rowIs db 5 N g ∧ ∀ j, j < out.length → g j = .int .u8 ((out.getD j 0 : Nat) : Int)) ∧ w.grownBy w' (some db)
def LoopD (l : List Nat) (n N db : Nat) (w : World) (nv ev sv : Value) (wr : World) : Prop :=
  ∃ (s : Nat) (out : List Nat), nv = .int .i64 ((out.length : Nat) : Int) ∧ ev = .nilIface ∧ sv = .int .i64 (s : Int) ∧ DS l n N db w s out wr
theorem gr_trans {a b c : World} {row : Option Nat} (h : a.grownBy b row) (k : b.grownBy c row) : a.grownBy c row :=
  ⟨k.os.trans h.os, k.tape.trans h.tape, k.output.trans h.output, Nat.le_trans h.size k.size, fun i hi hne => (k.block i (Nat.lt_of_lt_of_le hi h.size) hne).trans (h.block i hi hne)⟩
section
variable {l : List Nat} {n N db s : Nat} {out : List Nat} {w wr w' : World}
theorem DS.room (h : DS l n N db w s out wr) (hN : N = n / 4 * 3 + n % 4 * 6 / 8) : out.length ≤ N := by
  have h1 := h.few
  have h2 := h.le
  omega
/-- enough room for what a quantum gives -/
theorem DS.fit (h : DS l n N db w s out wr) (hl : l.length = n) (hN : N = n / 4 * 3 + n % 4 * 6 / 8) : ∀ s' ds', quant l (n + 2 - s) s [] = .done s' ds' → ds'.length ≤ N - out.length + 1 := by
  intro s' ds' hq
  have := quant_ok l (n + 2 - s) s [] (by rw [hl]; exact h.le) (by simp) (by simp)
  rw [hq] at this
  obtain ⟨a1, a2, _, a4, a5, _⟩ := this
  have h1 := h.few
  have h2 := h.le
  simp at a1
  omega
theorem DS.step (h : DS l n N db w s out wr) (hl : l.length = n) (hs : s < n) {s' : Nat} {ds : List Nat} (hq : quant l (n + 2 - s) s [] = .done s' ds) : (∃ F, n + 1 ≤ s' + F ∧ runD l (n + 1) 0 [] = runD l F s' (out ++ decD ds)) ∧ s + ds.length ≤ s' ∧ s' ≤ n ∧ 2 ≤ ds.length ∧ ds.length ≤ 4 := by
  have := quant_ok l (n + 2 - s) s [] (by rw [hl]; exact h.le) (by simp) (by simp)
  rw [hq] at this
  obtain ⟨a1, a2, _, a4, a5, _⟩ := this
  simp at a1
  obtain ⟨F, hF, hr⟩ := h.run
  obtain ⟨f, rfl⟩ : ∃ f, F = f + 1 := ⟨F - 1, by omega⟩
  refine ⟨⟨f, by omega, ?_⟩, a1, by omega, a4, a5⟩
  rw [hr, runD_step (by omega) (by rw [hl]; exact hq)]
theorem decD_len {ds : List Nat} (h : 2 ≤ ds.length) (h4 : ds.length ≤ 4) : (decD ds).length = ds.length - 1 := by
  match ds, h, h4 with
  | [a, b], _, _ => rfl
  | [a, b, c], _, _ => rfl
  | [a, b, c, d], _, _ => rfl
theorem out_more {g : Nat → Value} {out bs : List Nat} (h : ∀ j, j < out.length → g j = .int .u8 ((out.getD j 0 : Nat) : Int)) : ∀ j, j < (out ++ bs).length → putF g out.length bs j = .int .u8 (((out ++ bs).getD j 0 : Nat) : Int) := by
  intro j hj
  rw [List.length_append] at hj
  unfold putF
  by_cases c : j < out.length
  · rw [if_neg (by omega), h j c, List.getD, List.getD, List.getElem?_append_left c]
  · rw [if_pos (by omega), List.getD, List.getD, List.getElem?_append_right (by omega)]
/-- a quantum was decoded -/
theorem DS.done (h : DS l n N db w s out wr) (hl : l.length = n) (hs : s < n) {s' : Nat} {ds : List Nat} (hq : quant l (n + 2 - s) s [] = .done s' ds) {g : Nat → Value} (hrow : w'.rowIs db 5 N (putF g out.length (decD ds)))
    (hg : ∀ j, j < out.length → g j = .int .u8 ((out.getD j 0 : Nat) : Int)) (hgr : wr.grownBy w' (some db)) : DS l n N db w s' (out ++ decD ds) w' := by
  obtain ⟨hr, a1, a2, a3, a4⟩ := h.step hl hs hq
  have hf := h.few
  exact ⟨a2, by rw [List.length_append, decD_len a3 a4]; omega, hr, ⟨_, hrow, out_more hg⟩, gr_trans h.grown hgr⟩
theorem DS.nothing (h : DS l n N db w s out wr) (hl : l.length = n) (hs : s < n) {s' : Nat} (hq : quant l (n + 2 - s) s [] = .nothing s') {g : Nat → Value} (hrow : w'.rowIs db 5 N g)
    (hg : ∀ j, j < out.length → g j = .int .u8 ((out.getD j 0 : Nat) : Int)) (hgr : wr.grownBy w' (some db)) : DS l n N db w s' out w' := by
  have := quant_ok l (n + 2 - s) s [] (by rw [hl]; exact h.le) (by simp) (by simp)
  rw [hq] at this
  obtain ⟨a1, a2, _⟩ := this
  obtain ⟨F, hF, hr⟩ := h.run
  obtain ⟨f, rfl⟩ : ∃ f, F = f + 1 := ⟨F - 1, by omega⟩
  have hf := h.few
  refine ⟨by omega, by omega, ⟨f, by omega, ?_⟩, ⟨g, hrow, hg⟩, gr_trans h.grown hgr⟩
  rw [hr]
  conv => lhs; unfold runD
  rw [if_neg (by omega), hl, hq]
theorem DS.bad (h : DS l n N db w s out wr) (hl : l.length = n) (hs : s < n) {s' : Nat} (hq : quant l (n + 2 - s) s [] = .bad s') : runD l (n + 1) 0 [] = (out, false) := by
  obtain ⟨F, hF, hr⟩ := h.run
  obtain ⟨f, rfl⟩ : ∃ f, F = f + 1 := ⟨F - 1, by omega⟩
  rw [hr]
  unfold runD
  rw [if_neg (by omega), hl, hq]
theorem DS.end (h : DS l n N db w s out wr) (hl : l.length = n) (hs : n ≤ s) : runD l (n + 1) 0 [] = (out, true) := by
  obtain ⟨F, hF, hr⟩ := h.run
  have := h.le
  obtain ⟨f, rfl⟩ : ∃ f, F = f + 1 := ⟨F - 1, by omega⟩
  rw [hr, runD_end (by omega)]
/-- four letters -/
theorem DS.four (h : DS l n N db w s out wr) (hl : l.length = n) {a b c d : Nat} (ha : l[s]? = some a) (hb : l[s + 1]? = some b) (hc : l[s + 2]? = some c) (hd : l[s + 3]? = some d) (h0 : dc a < 64) (h1 : dc b < 64) (h2 : dc c < 64) (h3 : dc d < 64) :
    (∃ F, n + 1 ≤ s + 4 + F ∧ runD l (n + 1) 0 [] = runD l F (s + 4) (out ++ decD [dc a, dc b, dc c, dc d])) ∧ s + 4 ≤ n := by
  have hs : s + 3 < l.length := (List.getElem?_eq_some_iff.1 hd).1
  obtain ⟨hr, _, a2, _⟩ := h.step hl (by omega) (quant_4 ha hb hc hd h0 h1 h2 h3 (by omega))
  exact ⟨hr, a2⟩
theorem run_four (h : ∃ F, n + 1 ≤ s + F ∧ runD l (n + 1) 0 [] = runD l F s out) (hl : l.length = n) {a b c d : Nat} (ha : l[s]? = some a) (hb : l[s + 1]? = some b) (hc : l[s + 2]? = some c) (hd : l[s + 3]? = some d) (h0 : dc a < 64) (h1 : dc b < 64) (h2 : dc c < 64) (h3 : dc d < 64) :
    ∃ F, n + 1 ≤ s + 4 + F ∧ runD l (n + 1) 0 [] = runD l F (s + 4) (out ++ decD [dc a, dc b, dc c, dc d]) := by
  have hs : s + 3 < l.length := (List.getElem?_eq_some_iff.1 hd).1
  obtain ⟨F, hF, hr⟩ := h
  obtain ⟨f, rfl⟩ : ∃ f, F = f + 1 := ⟨F - 1, by omega⟩
  exact ⟨f, by omega, by rw [hr, runD_step (by omega) (quant_4 ha hb hc hd h0 h1 h2 h3 (by omega))]⟩
/-- the row as far as it counts -/
theorem out_put {g : Nat → Value} {out bs cs : List Nat} (h : ∀ j, j < out.length → g j = .int .u8 ((out.getD j 0 : Nat) : Int)) : ∀ j, j < (out ++ bs).length → putF g out.length (bs ++ cs) j = .int .u8 (((out ++ bs).getD j 0 : Nat) : Int) := by
  intro j hj
  have := out_more (bs := bs ++ cs) h j (by simp only [List.length_append] at hj ⊢; omega)
  rw [this, ← List.append_assoc, List.getD, List.getD, List.getElem?_append_left hj]
end
theorem DS.start (l : List Nat) (n N db : Nat) (w : World) (g : Nat → Value) (h : w.rowIs db 5 N g) : DS l n N db w 0 [] w :=
  ⟨Nat.zero_le _, by simp, ⟨n + 1, by omega, rfl⟩, ⟨g, h, fun j hj => absurd hj (by simp)⟩, gr_refl w _⟩
end Go.Proofs.YtgjmgneppecfgaaGreatDoor.Ba
