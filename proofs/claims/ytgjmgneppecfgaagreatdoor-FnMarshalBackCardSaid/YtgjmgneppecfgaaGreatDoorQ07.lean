/-
  THE WALK of newDecimal.
-/
import Derived.Test.YtgjmgneppecfgaaGreatDoorQ06
import Derived.Test.YtgjmgneppecfgaaGreatDoorQ01
set_option linter.unusedVariables false
set_option linter.unusedSimpArgs false
namespace Go.Proofs.YtgjmgneppecfgaaGreatDoor.Ma
open Go.RowKit Go.Proofs.YtgjmgneppecfgaaGreatDoor.Va Go.Proofs.YtgjmgneppecfgaaGreatDoor.Ba
set_option linter.unusedVariables false
set_option linter.unusedSimpArgs false

theorem owns_base {w : World} {base base' : Nat} {v : Value} {n : Nat} {xs : List Value} (h : w.ownsRow base 5 1 v n xs) (hb : base' ≤ base) : w.ownsRow base' 5 1 v n xs := by
  obtain ⟨h1, h2⟩ := h
  refine ⟨h1, ?_⟩
  rcases h2 with h2 | ⟨g, cap, cur, a, b, c⟩
  · exact .inl h2
  · exact .inr ⟨g, cap, cur, a, Nat.le_trans hb b, c⟩
theorem IsDec.base {base base' b : Nat} {d : List Nat} {dp : Int} {w : World} (h : IsDec base b d dp w) (hb : base' ≤ base) : IsDec base' b d dp w := by
  obtain ⟨v, h1, h2, h3⟩ := h
  exact ⟨v, h1, owns_base h2 hb, h3⟩
/-- the digits of a text -/
def valsD (l : List Nat) : List Nat := l.map (· - 48)
def LoopN (l : List Nat) (b sb base : Nat) (w : World) (iv : Value) (wr : World) : Prop :=
  ∃ i : Nat, iv = .int .i64 (i : Int) ∧ i ≤ l.length ∧ IsDec base b (valsD (l.take i)) 0 wr ∧ base ≤ wr.heap.size ∧ (∀ j, j < l.length → wr.cell? ⟨sb, j, none⟩ = some (.int .u8 ((l.getD j 0 : Nat) : Int))) ∧ Below b w wr
theorem owns_block {w : World} {base : Nat} {v : Value} {n : Nat} {xs : List Value} (h : w.ownsRow base 5 1 v n xs) : ∀ g, v.ownBlock = some g → base ≤ g := by
  intro g hg
  rcases h.2 with ⟨rfl, _⟩ | ⟨g', cap, cur, rfl, hb, _⟩
  · simp [Value.ownBlock] at hg
  · have : g' = g := by simpa [Value.ownBlock] using hg
    omega
/-- one digit more -/
theorem dec_push {base b : Nat} {d : List Nat} {dp : Int} {x : Nat} {wr w3 : World} {o : Obj} {v v' : Value} (h1 : wr.heap[b]? = some (.cells #[v, .int .i64 dp] 267 (0, 0))) (hown : wr.ownsRow base 5 1 v d.length (cellsD d)) (hb : b < base) (hbase : base ≤ wr.heap.size)
    (hap : Appended (wr.alloc o) base 5 1 v d.length (cellsD d ++ [.int .u8 (x : Int)]) v' w3) :
    (∀ k, k < base → w3.heap[k]? = wr.heap[k]?) ∧ base ≤ w3.heap.size ∧ IsDec base b (d ++ [x]) dp (w3.setCell ⟨b, 0, none⟩ v') := by
  have hk : ∀ k, k < base → w3.heap[k]? = wr.heap[k]? := fun k hk => by
    have hlt : k < (wr.alloc o).heap.size := by rw [World.size_alloc]; omega
    rw [hap.grown.block k hlt (fun e => by have := owns_block hown k (by rw [e]); omega)]
    exact (below_alloc wr o).block k (by omega)
  have hsz : base ≤ w3.heap.size := by
    have := hap.grown.size
    rw [World.size_alloc] at this
    omega
  have hne : v'.ownBlock ≠ some b := fun e => by have := owns_block hap.owns b e; omega
  refine ⟨hk, hsz, v', ?_, ?_, hne⟩
  · exact set_block (w := w3) (b := b) ((hk b hb).trans h1) 0 v'
  · refine owns_other (w := w3) ?_ (fun g hg => set_other _ _ (fun e => hne (by rw [hg, e])))
    have := hap.owns
    rw [List.length_append, List.length_singleton]
    have e : cellsD (d ++ [x]) = cellsD d ++ [.int .u8 (x : Int)] := by simp [cellsD]
    rw [e]
    exact this
theorem info8g : ∃ i z, Tryz.prog.info? 5 = some i ∧ i.zero = some z ∧ i.size = 1 ∧ i.bytes = 1 ∧ z.cells.size = 1 := by
  have h := info8
  cases hq : Tryz.prog.info? 5 with
  | none => rw [hq] at h; cases h
  | some i =>
    rw [hq] at h
    simp only [Option.map_some, Option.some.injEq, Prod.mk.injEq] at h
    exact ⟨i, _, rfl, h.1, h.2.1, h.2.2, rfl⟩
theorem digs_range (n : Nat) : ∀ x ∈ digs n, 48 ≤ x ∧ x < 58 := by
  have h0 : ∀ (m k : Nat), k < m → ∀ x ∈ digs0 k, 48 ≤ x ∧ x < 58 := by
    intro m
    induction m with
    | zero => intro k hk; omega
    | succ m ih =>
      intro k hk x hx
      rw [digs0] at hx
      split at hx
      · cases hx
      · rcases List.mem_append.1 hx with q | q
        · exact ih (k / 10) (by omega) x q
        · rw [List.mem_singleton] at q; omega
  intro x hx
  unfold digs at hx
  rcases List.mem_append.1 hx with q | q
  · exact h0 _ _ (Nat.lt_succ_self _) x q
  · rw [List.mem_singleton] at q; omega
def NewEndD (n : Nat) (w : World) (e : Ending) (w' : World) : Prop :=
  e = .returned (.pointer (some ⟨w.heap.size, 0, none⟩)) ∧ IsDec (w.heap.size + 1) w.heap.size (stripZ (valsD (digs n))) (trimP (valsD (digs n)) ((digs n).length : Int)) w' ∧ Below w.heap.size w w'
set_option maxHeartbeats 2000000 in
set_option maxRecDepth 100000 in
theorem newDec_any (n : Nat) (hn : n < 18446744073709551616) (w : World) : Calls Tryz.prog 239 #[.int .u64 (n : Int)] w (NewEndD n w) := by
  obtain ⟨i8, z8, hi0, hi1, hi2, hi3, hi4⟩ := info8g
  have HI0 := Lib.hid hi0
  have HI1 := Lib.hid hi1
  have HI2 := Lib.hid hi2
  have HI3 := Lib.hid hi3
  have HI4 := Lib.hid hi4
  clear hi0 hi1 hi2 hi3 hi4
  go_enter Tryz.func239, Tryz.ntmps239
  go_wp2_with fail
  generalize hW : World.alloc w _ = W
  have B0 := Lib.hid (hW ▸ below_alloc w _ : Below w.heap.size w W)
  have HB := Lib.hid (hW ▸ block_new w _ _ : W.heap[w.heap.size]? = some (.cells #[.slice none 0 0, .int .i64 0] 267 (0, 0)))
  clear hW
  refine (fmtUint_any n hn W).mono ?_
  rintro e w1 ⟨rfl, hb1⟩
  have HB1 := Lib.hid (keep hb1 HB.out)
  have B1 := Lib.hid (B0.out.trans (hb1.mono B0.out.size))
  clear hb1
  have hcv := Lib.run_convert_string_bytes (P := Tryz.prog) w1 9 73 5 (numS (digs n)) Tryz.underlying9 Tryz.underlying73 Tryz.underlying5
  obtain ⟨cap, hcap⟩ : ∃ cap, grownCap w1 (numS (digs n)).size 0 5 = cap := ⟨_, rfl⟩
  obtain ⟨k, hk⟩ : ∃ k, (digs n).length = k := ⟨_, rfl⟩
  have HK := Lib.hid hk
  have hk20 : k ≤ 20 := hk ▸ digs_len hn
  rw [hcap, numS_size, hk] at hcv
  clear hcap hk
  go_upto_region 3 with fail
  clear hcv
  generalize hW2 : Lib.bytesWorld w1 _ _ = W2
  have B2 := Lib.hid (B1.out.trans ((hW2 ▸ below_bytes w1 5 (numS (digs n))).mono B1.out.size) : Below w.heap.size w W2)
  have HB2 := Lib.hid (hW2 ▸ keep (below_bytes w1 5 (numS (digs n))) HB1.out : W2.heap[w.heap.size]? = some (.cells #[.slice none 0 0, .int .i64 0] 267 (0, 0)))
  have HSZ : Hid (W2.heap.size = w1.heap.size + 1) := Lib.hid (hW2 ▸ by rw [Lib.bytesWorld_size])
  have HC : Hid (∀ j, j < (digs n).length → W2.cell? ⟨w1.heap.size, j, none⟩ = some (.int .u8 (((digs n).getD j 0 : Nat) : Int))) := Lib.hid (fun j hj => by
    have hs : j < (numS (digs n)).size := by rw [numS_size]; exact hj
    rw [← hW2, Lib.bytesWorld_cell w1 5 _ j hs, bytesN_at _ j hs, bytesN_numS' _ (digs_lt n)])
  clear hW2
  go_wp2_with fail
  go_loopw [10] (LoopN (digs n) w.heap.size w1.heap.size W2.heap.size w) (fun a _ => k - (intOf a).toNat)
  case atStart => exact ⟨0, rfl, Nat.zero_le _, ⟨.slice none 0 0, HB2.out, ⟨rfl, .inl ⟨rfl, rfl⟩⟩, by simp [Value.ownBlock]⟩, Nat.le_refl _, HC.out, B2.out⟩
  case round =>
    obtain ⟨i, rfl, hi, ⟨v, h1, h2, h3⟩, hbase, hc, hb⟩ := hrel
    have hlenD : (valsD ((digs n).take i)).length = i := by unfold valsD; rw [List.length_map, List.length_take]; omega
    have HLD := Lib.hid hlenD
    have H2 := Lib.hid h2
    obtain ⟨a, cap2, rfl, _, _⟩ := owns_digs h2
    rw [hlenD] at h1 h2 h3 H2
    have HOWN := Lib.hid h2
    have H1 := Lib.hid h1
    have HBS := Lib.hid hbase
    have HCC := Lib.hid hc
    have HBB := Lib.hid hb
    have c := cells2 h1
    have hik : i ≤ k := by rw [HK.out] at hi; exact hi
    have hbb : w.heap.size < w1.heap.size := heap_lt HB1.out
    have H3 := Lib.hid h3
    clear h1 h2 h3 hbase hb hlenD hi
    by_cases hlt : i < k
    · have hx := hc i (by rw [HK.out]; exact hlt)
      have hr := digs_range n _ (getD_mem (l := digs n) (i := i) (by rw [HK.out]; exact hlt))
      have HTK : Hid (valsD ((digs n).take (i + 1)) = valsD ((digs n).take i) ++ [(digs n).getD i 0 - 48]) := Lib.hid (by
        unfold valsD
        rw [List.take_succ_eq_append_getElem (by rw [HK.out]; exact hlt), List.map_append]
        simp [List.getD, List.getElem?_eq_getElem (show i < (digs n).length by rw [HK.out]; exact hlt)])
      obtain ⟨x, hx0⟩ : ∃ x, (digs n).getD i 0 = x := ⟨_, rfl⟩
      rw [hx0] at hx hr HTK
      have hw : IntKind.u8.wrap ((x : Int) - 48) = ((x - 48 : Nat) : Int) := by rw [IntKind.wrap_u8]; omega
      have HONE : Hid (∀ u ∈ (#[Value.int .u8 ((x - 48 : Nat) : Int)] : Array Value).toList, u.oneCell' = true) := Lib.hid (by
        intro u hu
        have e : u = .int .u8 ((x - 48 : Nat) : Int) := by simpa using hu
        rw [e]
        rfl)
      clear hc hx0
      go_wp2_with (at_builtin; refine wpList_append_one _ rfl _ _ 73 rfl W2.heap.size 5 i8 _ 1 1 Tryz.underlying73 HI0.out HI1.out HI2.out HI3.out HI4.out (by decide) _ _ (cellsD (valsD ((digs n).take i))) rfl (HOWN.out.alloc _) ⟨wr.heap.size, 0, none⟩ 1 _ rfl rfl (cell_new wr _ _) HONE.out (by unfold maxLen; omega) (by omega) (by have := HBS.out; simp; omega) ?_; intro v' w3 hap
                   have F := Lib.hid (dec_push (d := valsD ((digs n).take i)) (x := x - 48) H1.out (by rw [HLD.out]; exact HOWN.out) (by have := HSZ.out; omega) HBS.out (by rw [HLD.out]; exact hap))
                   have G := Lib.hid hap.grown
                   obtain ⟨vg, vcap, rfl⟩ := hap.made
                   clear hap
                   have c3 := cells2 ((F.out.1 w.heap.size (by have := HSZ.out; omega)).trans H1.out))
      go_roundw
      case rel =>
        refine ⟨i + 1, rfl, by rw [HK.out]; exact hlt, by rw [HTK.out]; exact F.out.2.2, by simpa using F.out.2.1, fun j hj => ?_, ?_⟩
        · refine Eq.trans ?_ (HCC.out j hj)
          refine World.cell?_of_block ?_
          rw [set_other _ _ (by show w1.heap.size ≠ _; omega), F.out.1 _ (by have := HSZ.out; show w1.heap.size < _; omega)]
        · refine Below.setCell (Below.grown (HBB.out.alloc HBB.out.size _) G.out ?_ ?_) (Nat.le_refl _) _
          · exact (HBB.out.alloc HBB.out.size _).size
          · intro q e
            have := owns_block HOWN.out q e
            have := HSZ.out
            omega
      case measure => simp [intOf]; omega
    · obtain rfl : i = k := by omega
      have hall : (digs n).take i = digs n := List.take_of_length_le (by rw [HK.out]; exact Nat.le_refl _)
      have hvl : (valsD (digs n)).length = i := by unfold valsD; rw [List.length_map, HK.out]
      have HFIN : Hid (IsDec W2.heap.size w.heap.size (valsD (digs n)) 0 wr) := Lib.hid ⟨_, H1.out, by rw [hvl]; have := HOWN.out; rw [hall] at this; exact this, H3.out⟩
      have HVL := Lib.hid hvl
      clear hall hvl hc
      go_wp2_with fail
      refine (trim_any W2.heap.size w.heap.size (valsD (digs n)) (i : Int) (by rw [HVL.out]; omega) _ (HFIN.out.setDp rfl)).mono ?_
      rintro e w4 ⟨rfl, hd4, hg4⟩
      have HD4 := Lib.hid hd4
      have HB4 : Hid (Below w.heap.size w w4) := Lib.hid (Below.grown (Below.setCell HBB.out (Nat.le_refl _) _) hg4 (Below.setCell HBB.out (Nat.le_refl _) _).size (fun q e => by obtain rfl := Option.some.inj e; exact Nat.le_refl _))
      clear hd4 hg4
      go_wp2_with fail
      go_returns
      refine ⟨rfl, ?_, HB4.out⟩
      rw [HK.out]
      exact HD4.out.base (by have := HSZ.out; omega)
end Go.Proofs.YtgjmgneppecfgaaGreatDoor.Ma
/-
  Plain: half: a number's digits divided by 2 to the power k.
-/
namespace Go.Proofs.YtgjmgneppecfgaaGreatDoor.Ma
set_option linter.unusedVariables false

/-- the number of a row of digits -/
def numD (l : List Nat) : Nat := l.foldl (fun a x => 10 * a + x) 0
/-- the number of the first i digits, zeros behind the end -/
def preD (d : List Nat) : Nat → Nat
  | 0 => 0
  | i + 1 => 10 * preD d i + d.getD i 0
theorem numD_snoc (l : List Nat) (x : Nat) : numD (l ++ [x]) = 10 * numD l + x := by
  unfold numD
  rw [List.foldl_append]
  rfl
theorem preD_take (d : List Nat) : ∀ i, i ≤ d.length → preD d i = numD (d.take i)
  | 0, _ => by rw [List.take_zero]; rfl
  | i + 1, h => by
    rw [preD, preD_take d i (by omega), List.take_succ_eq_append_getElem (by omega), numD_snoc]
    simp [List.getD, List.getElem?_eq_getElem (show i < d.length by omega)]
theorem preD_all (d : List Nat) : preD d d.length = numD d := by rw [preD_take d _ (Nat.le_refl _), List.take_length]
theorem preD_more (d : List Nat) : ∀ j, preD d (d.length + j) = numD d * 10 ^ j
  | 0 => by rw [Nat.add_zero, preD_all, Nat.pow_zero, Nat.mul_one]
  | j + 1 => by
    rw [← Nat.add_assoc, preD, preD_more d j, List.getD, List.getElem?_eq_none (by omega), Nat.pow_succ]
    simp only [Option.getD_none, Nat.add_zero]
    rw [Nat.mul_comm 10, Nat.mul_assoc]
/-- one round of the second loop -/
theorem half_round {d : List Nat} {out : List Nat} {k i n : Nat} (h : preD d i = numD out * 2 ^ k * 10 + n) :
    preD d (i + 1) = numD (out ++ [n / 2 ^ k]) * 2 ^ k * 10 + (n % 2 ^ k * 10 + d.getD i 0) := by
  rw [preD, h, numD_snoc]
  have e := Nat.div_add_mod n (2 ^ k)
  generalize 2 ^ k = q at e ⊢
  generalize n / q = a at e ⊢
  generalize n % q = r at e ⊢
  generalize numD out = m
  subst e
  simp only [Nat.mul_add, Nat.add_mul]
  have h1 : 10 * (m * q * 10) = 10 * m * q * 10 := by simp only [Nat.mul_assoc]
  have h2 : 10 * (q * a) = a * q * 10 := by rw [Nat.mul_comm q a, Nat.mul_comm 10]
  omega
/-- behind the end of the digits what is left is divided by 2 once more in each round -/
theorem half_left {n k t : Nat} (h : 2 ^ t ∣ n) (ht : t ≤ k) : 2 ^ (t + 1) ∣ n % 2 ^ k * 10 := by
  have h1 : 2 ^ t ∣ n % 2 ^ k := (Nat.dvd_mod_iff (Nat.pow_dvd_pow 2 ht)).2 h
  obtain ⟨c, hc⟩ := h1
  exact ⟨c * 5, by rw [hc, Nat.pow_succ]; simp only [Nat.mul_assoc]; congr 1; omega⟩
theorem half_gone {n k : Nat} (h : 2 ^ k ∣ n) : n % 2 ^ k * 10 = 0 := by
  rw [Nat.mod_eq_zero_of_dvd h]
end Go.Proofs.YtgjmgneppecfgaaGreatDoor.Ma
/-
  Plain: the digits of a number; what half leaves.
-/
namespace Go.Proofs.YtgjmgneppecfgaaGreatDoor.Ma
set_option linter.unusedVariables false

/-- the digits of a number -/
def dg (n : Nat) : List Nat := valsD (digs n)
theorem valsD_app (a b : List Nat) : valsD (a ++ b) = valsD a ++ valsD b := List.map_append
theorem dg_small {n : Nat} (h : n < 10) : dg n = [n] := by
  unfold dg digs
  rw [show n / 10 = 0 by omega, digs0_zero]
  simp [valsD]
  omega
theorem dg_ge {n : Nat} (h : 10 ≤ n) : dg n = dg (n / 10) ++ [n % 10] := by
  unfold dg
  rw [digs, digs0_pos (by omega), valsD_app]
  simp [valsD]
theorem dg_ind {P : Nat → Prop} (h0 : ∀ n, n < 10 → P n) (h1 : ∀ n, 10 ≤ n → P (n / 10) → P n) : ∀ n, P n := by
  have : ∀ m n, n < m → P n := by
    intro m
    induction m with
    | zero => intro n hn; omega
    | succ m ih =>
      intro n hn
      by_cases h : n < 10
      · exact h0 n h
      · exact h1 n (by omega) (ih _ (by omega))
  exact fun n => this (n + 1) n (Nat.lt_succ_self _)
theorem dg_len_pos (n : Nat) : 0 < (dg n).length := by
  by_cases h : n < 10
  · rw [dg_small h]; exact Nat.one_pos
  · rw [dg_ge (by omega), List.length_append]; simp
theorem numD_dg : ∀ n, numD (dg n) = n := by
  apply dg_ind
  · intro n h; rw [dg_small h]; simp [numD]
  · intro n h ih; rw [dg_ge h, numD_snoc, ih]; omega
theorem dg_all : ∀ n, ∀ x ∈ dg n, x < 10 := by
  apply dg_ind
  · intro n h x hx; rw [dg_small h, List.mem_singleton] at hx; omega
  · intro n h ih x hx
    rw [dg_ge h] at hx
    rcases List.mem_append.1 hx with q | q
    · exact ih x q
    · rw [List.mem_singleton] at q; omega
theorem getD_app_left {a b : List Nat} {i : Nat} (h : i < a.length) : (a ++ b).getD i 0 = a.getD i 0 := by
  rw [List.getD, List.getD, List.getElem?_append_left h]
theorem dg_head : ∀ n, 0 < n → (dg n).getD 0 0 ≠ 0 := by
  apply dg_ind
  · intro n h h0; rw [dg_small h]; simp; omega
  · intro n h ih h0; rw [dg_ge h, getD_app_left (dg_len_pos _)]; exact ih (by omega)
theorem dg_mul {n : Nat} (h : 0 < n) : dg (n * 10) = dg n ++ [0] := by
  rw [dg_ge (by omega), Nat.mul_div_cancel _ (by decide), Nat.mul_mod_left]
theorem dg_pow {n : Nat} (h : 0 < n) : ∀ j, dg (n * 10 ^ j) = dg n ++ List.replicate j 0
  | 0 => by simp
  | j + 1 => by
    rw [Nat.pow_succ, ← Nat.mul_assoc, dg_mul (Nat.mul_pos h (Nat.pow_pos (by decide))), dg_pow h j, List.append_assoc, ← List.replicate_succ']
theorem numD_lt : ∀ (l : List Nat), (∀ x ∈ l, x < 10) → numD l < 10 ^ l.length := by
  have h : ∀ (r : List Nat), (∀ x ∈ r, x < 10) → numD r.reverse < 10 ^ r.length := by
    intro r
    induction r with
    | nil => intro _; simp [numD]
    | cons x r ih =>
      intro hx
      have := ih (fun y hy => hx y (List.mem_cons_of_mem _ hy))
      have h9 := hx x List.mem_cons_self
      rw [List.reverse_cons, numD_snoc, List.length_cons, Nat.pow_succ]
      omega
  intro l hl
  have := h l.reverse (fun x hx => hl x (List.mem_reverse.1 hx))
  rwa [List.reverse_reverse, List.length_reverse] at this
theorem numD_ge : ∀ (l : List Nat), 0 < l.length → l.getD 0 0 ≠ 0 → 10 ^ (l.length - 1) ≤ numD l := by
  have h : ∀ (r : List Nat), 0 < r.length → r.reverse.getD 0 0 ≠ 0 → 10 ^ (r.length - 1) ≤ numD r.reverse := by
    intro r
    induction r with
    | nil => intro h; cases h
    | cons x r ih =>
      intro _ hx
      rw [List.reverse_cons] at hx ⊢
      rw [numD_snoc]
      by_cases hr : r = []
      · subst hr
        simp at hx
        simp [numD]
        omega
      · have hl : 0 < r.length := List.length_pos_iff.2 hr
        rw [getD_app_left (by rw [List.length_reverse]; exact hl)] at hx
        have := ih hl hx
        have e : (x :: r).length - 1 = (r.length - 1) + 1 := by rw [List.length_cons]; omega
        rw [e, Nat.pow_succ]
        omega
  intro l hl h0
  have := h l.reverse (by rwa [List.length_reverse]) (by rwa [List.reverse_reverse])
  rwa [List.reverse_reverse, List.length_reverse] at this
theorem numD_pos {l : List Nat} (h : 0 < l.length) (h0 : l.getD 0 0 ≠ 0) : 0 < numD l := Nat.lt_of_lt_of_le (Nat.pow_pos (by decide)) (numD_ge l h h0)
theorem dg_numD : ∀ (l : List Nat), 0 < l.length → l.getD 0 0 ≠ 0 → (∀ x ∈ l, x < 10) → dg (numD l) = l := by
  have h : ∀ (r : List Nat), 0 < r.length → r.reverse.getD 0 0 ≠ 0 → (∀ x ∈ r, x < 10) → dg (numD r.reverse) = r.reverse := by
    intro r
    induction r with
    | nil => intro h; cases h
    | cons x r ih =>
      intro _ hx h10
      have h9 := h10 x List.mem_cons_self
      rw [List.reverse_cons] at hx ⊢
      rw [numD_snoc]
      by_cases hr : r = []
      · subst hr
        simp [numD]
        exact dg_small h9
      · have hl : 0 < r.length := List.length_pos_iff.2 hr
        rw [getD_app_left (by rw [List.length_reverse]; exact hl)] at hx
        have hp := numD_pos (by rw [List.length_reverse]; exact hl) hx
        rw [dg_ge (by omega), show (10 * numD r.reverse + x) / 10 = numD r.reverse by omega, show (10 * numD r.reverse + x) % 10 = x by omega,
          ih hl hx (fun y hy => h10 y (List.mem_cons_of_mem _ hy))]
  intro l hl h0 h10
  have := h l.reverse (by rwa [List.length_reverse]) (by rwa [List.reverse_reverse]) (fun x hx => h10 x (List.mem_reverse.1 hx))
  rwa [List.reverse_reverse] at this
theorem stripZ_rep (l : List Nat) : ∀ j, stripZ (l ++ List.replicate j 0) = stripZ l
  | 0 => by simp
  | j + 1 => by rw [List.replicate_succ', ← List.append_assoc, stripZ_snoc, stripZ_rep l j]
theorem stripZ_dec (l : List Nat) : ∃ z, l = stripZ l ++ List.replicate z 0 := by
  induction l with
  | nil => exact ⟨0, rfl⟩
  | cons x xs ih =>
    obtain ⟨z, hz⟩ := ih
    rw [stripZ]
    split
    · rename_i h
      refine ⟨z + 1, ?_⟩
      rw [h.1, List.nil_append] at hz
      rw [h.2, hz, List.nil_append, List.replicate_succ]
    · exact ⟨z, by rw [List.cons_append, ← hz]⟩
/-- the digits without the zeros at the end -/
def canD (n : Nat) : List Nat := stripZ (dg n)
theorem canD_pow {n : Nat} (h : 0 < n) (j : Nat) : canD (n * 10 ^ j) = canD n := by
  unfold canD
  rw [dg_pow h, stripZ_rep]
theorem len_pow {n : Nat} (h : 0 < n) (j : Nat) : (dg (n * 10 ^ j)).length = (dg n).length + j := by
  rw [dg_pow h, List.length_append, List.length_replicate]
theorem pow_split (k : Nat) : 2 ^ k * 5 ^ k = 10 ^ k := by rw [← Nat.mul_pow]
/-- what half ends with -/
theorem half_fin {d out : List Nat} {k i : Nat} (hd : 0 < numD d) (h : preD d i = numD out * 2 ^ k * 10) (hi : d.length ≤ i) (ho : 0 < out.length) (h0 : out.getD 0 0 ≠ 0) (h10 : ∀ x ∈ out, x < 10) :
    stripZ out = canD (numD d * 5 ^ k) ∧ out.length + (k + 1) + d.length = (dg (numD d * 5 ^ k)).length + i := by
  obtain ⟨j, rfl⟩ : ∃ j, i = d.length + j := ⟨i - d.length, by omega⟩
  rw [preD_more] at h
  have hp : 0 < numD d * 5 ^ k := Nat.mul_pos hd (Nat.pow_pos (by decide))
  have e : numD d * 5 ^ k * 10 ^ j = numD out * 10 ^ (k + 1) := by
    rw [Nat.mul_right_comm, h, Nat.mul_right_comm, Nat.mul_assoc (numD out), pow_split, Nat.pow_succ, Nat.mul_assoc]
  have e1 := dg_pow hp j
  have e2 := dg_pow (numD_pos ho h0) (k + 1)
  rw [e, e2, dg_numD out ho h0 h10] at e1
  constructor
  · unfold canD
    rw [← stripZ_rep out (k + 1), e1, stripZ_rep]
  · have := congrArg List.length e1
    rw [List.length_append, List.length_append, List.length_replicate, List.length_replicate] at this
    omega
/-- what is left to divide, behind the end of the digits -/
def Left (d : List Nat) (k i n : Nat) : Prop := d.length ≤ i → (i ≤ d.length + k ∧ 2 ^ (i - d.length) ∣ n) ∨ n = 0
theorem Left.next {d : List Nat} {k i n : Nat} (h : Left d k i n) (hn : i < d.length ∨ 0 < n) : Left d k (i + 1) (n % 2 ^ k * 10 + d.getD i 0) := by
  intro hi
  by_cases he : i + 1 = d.length
  · exact .inl ⟨by omega, by rw [he, Nat.sub_self, Nat.pow_zero]; exact Nat.one_dvd _⟩
  · have hz : d.getD i 0 = 0 := by rw [List.getD, List.getElem?_eq_none (by omega)]; rfl
    rw [hz, Nat.add_zero]
    rcases h (by omega) with ⟨h1, h2⟩ | h1
    · by_cases hk : i = d.length + k
      · right
        exact half_gone (by rw [show k = i - d.length by omega]; exact h2)
      · left
        refine ⟨by omega, ?_⟩
        rw [show i + 1 - d.length = (i - d.length) + 1 by omega]
        exact half_left h2 (by omega)
    · omega
theorem left_start {d : List Nat} {k i : Nat} (hd : 0 < numD d) (hlt : preD d i < 10 * 2 ^ k) : Left d k i (preD d i) := by
  intro hi
  obtain ⟨j, rfl⟩ : ∃ j, i = d.length + j := ⟨i - d.length, by omega⟩
  rw [preD_more] at hlt ⊢
  left
  constructor
  · by_cases hj : j ≤ k
    · omega
    · have h1 : 10 ^ (k + 1) ≤ 10 ^ j := Nat.pow_le_pow_right (by decide) (by omega)
      have h2 : 2 ^ k ≤ 10 ^ k := Nat.pow_le_pow_left (by decide) k
      have h3 : 10 ^ j ≤ numD d * 10 ^ j := Nat.le_mul_of_pos_left _ hd
      rw [Nat.pow_succ] at h1
      omega
  · rw [Nat.add_sub_cancel_left]
    exact Nat.dvd_mul_left_of_dvd (by rw [← pow_split]; exact Nat.dvd_mul_right _ _) _
end Go.Proofs.YtgjmgneppecfgaaGreatDoor.Ma
