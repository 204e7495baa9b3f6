/-
  THE PLAIN LAW: what @base64 writes, @base64d reads back.
-/
import Derived.Test.YtnlndpgbhmkanaaGreatDoorBaQ
import Derived.Test.YtnlndpgbhmkanaaGreatDoorBaE
namespace Go.Proofs.YtnlndpgbhmkanaaGreatDoor.Ba
open Go.RowKit
set_option linter.unusedVariables false
set_option linter.unusedSimpArgs false

theorem bytesN_numS (l : List Nat) (h : ∀ x ∈ l, x < 256) : bytesN (numS l) = l := by
  unfold bytesN numS
  rw [strOfNums_data, List.map_map, List.map_map]
  conv => rhs; rw [← List.map_id l]
  refine List.map_congr_left fun x hx => ?_
  have := h x hx
  show (UInt8.ofNat ((x : Int)).toNat).toNat = x
  rw [Int.toNat_natCast, UInt8.toNat_ofNat']
  omega
theorem numS_bytesN (s : ByteArray) : numS (bytesN s) = s := by
  apply ByteArray.ext
  apply Array.ext'
  unfold bytesN numS
  rw [strOfNums_data, List.map_map, List.map_map]
  conv => rhs; rw [← List.map_id s.data.toList]
  refine List.map_congr_left fun x hx => ?_
  show UInt8.ofNat ((x.toNat : Int)).toNat = x
  rw [Int.toNat_natCast, UInt8.ofNat_toNat]
theorem take_while : ∀ (l : List Nat) (p : Nat), p ≤ l.length → (∀ j, j < p → l.getD j 0 ≠ 61) → (p = l.length ∨ (p < l.length ∧ l.getD p 0 = 61)) → l.take p = l.takeWhile (fun c => c != 61)
  | [], p, h, _, _ => by
    have : p = 0 := by simpa using h
    subst this
    rfl
  | x :: xs, 0, h, _, h2 => by
    have hx : x = 61 := by
      rcases h2 with q | ⟨_, q⟩
      · simp at q
      · simpa using q
    subst hx
    rfl
  | x :: xs, p + 1, h, h1, h2 => by
    have hx : x ≠ 61 := by simpa using h1 0 (by omega)
    rw [List.take_succ_cons, List.takeWhile_cons, if_pos (by simpa using hx)]
    congr 1
    refine take_while xs p (by simpa using h) (fun j hj => by simpa using h1 (j + 1) (by omega)) ?_
    rcases h2 with q | ⟨q, r⟩
    · exact .inl (by simpa using q)
    · exact .inr ⟨by simpa using q, by simpa using r⟩
theorem encB_lt (l : List Nat) (h : ∀ x ∈ l, x < 256) : ∀ x ∈ encB l, x < 128 := by
  intro x hx
  unfold encB at hx
  rcases List.mem_append.1 hx with q | q
  · obtain ⟨d, hd, rfl⟩ := List.mem_map.1 q
    exact lt_lt d (encD_lt l h d hd)
  · obtain rfl := List.eq_of_mem_replicate q
    decide
theorem back (l : List Nat) (h : ∀ x ∈ l, x < 256) (p : Nat) (out : List Nat) (ok : Bool) (hp : p ≤ (encB l).length) (h1 : ∀ j, j < p → (encB l).getD j 0 ≠ 61) (h2 : p = (encB l).length ∨ (p < (encB l).length ∧ (encB l).getD p 0 = 61))
    (hr : runD ((encB l).take p) (((encB l).take p).length + 1) 0 [] = (out, ok)) : ok = true ∧ out = l := by
  rw [take_while _ p hp h1 h2, take_enc l h] at hr
  have hd : ∀ c ∈ (encD l).map lt, dc c < 64 := by
    intro c hc
    obtain ⟨d, hd, rfl⟩ := List.mem_map.1 hc
    rw [dc_lt (encD_lt l h d hd)]
    exact encD_lt l h d hd
  have hlen : ((encD l).map lt).length % 4 ≠ 1 := by
    rw [List.length_map, encD_len]
    split <;> omega
  rw [runD_letters hd _ 0 _ [] rfl (Nat.zero_le _) (by simpa using hlen) (by omega)] at hr
  have hm : (((encD l).map lt).drop 0).map dc = encD l := by
    rw [List.drop_zero, List.map_map]
    conv => rhs; rw [← List.map_id (encD l)]
    exact List.map_congr_left fun d hd => dc_lt (encD_lt l h d hd)
  rw [hm, decD_encD l h] at hr
  simp only [List.nil_append, Prod.mk.injEq] at hr
  exact ⟨hr.2.symm, hr.1.symm⟩
end Go.Proofs.YtnlndpgbhmkanaaGreatDoor.Ba
