/-
  THE WALKS of half and fromGo at a value that is neither list nor map.
-/
import Derived.Test.YtgjmgneppecfgaaGreatDoorQ00
import Derived.Laws.Externs
import Derived.Laws.FloatArith
import Derived.Laws.AppendOwn
import Derived.OrdersHeld
import Derived.RegionTactic
set_option linter.unusedVariables false
set_option linter.unusedSimpArgs false
namespace Go.Proofs.YtgjmgneppecfgaaGreatDoor.Va
open Go.RowKit
set_option linter.unusedVariables false
set_option linter.unusedSimpArgs false

/-- a value with nothing in it but its kind, its number and its text -/
def flat (k h : Int) (t : ByteArray) : Value := .agg #[.int .i64 k, .int .i64 h, .string t, .slice none 0 0, .slice none 0 0, .slice none 0 0]
def Ret (v : Value) (w : World) (e : Ending) (w' : World) : Prop := e = .returned v ∧ Below w.heap.size w w'

theorem run_arch {h : Int} {s M k} (H : Half h s M k) (w : World) : (callFunc 205 #[.float .f64 (fi h)]).run Tryz.prog w = .ok (.value (.float .f64 (fi h))) w := by
  rw [run_callFunc_extern (P := Tryz.prog) (f := 205) (fn := Tryz.f205) (e := Extern.MathFloor.toIntegral "math.archTrunc" .zero) (by kernel_rfl) (by kernel_rfl) (by kernel_rfl) (by kernel_rfl) (by kernel_rfl)]
  have e1 : FloatKind.f64.decode (fi h) = .number s M (-k) := H.readI
  have e2 := trunc_fi H
  change (Sem.run Tryz.prog (Extern.MathFloor.toIntegral.match_1 (fun _ => Sem Value) (FloatKind.f64.decode (fi h)) _ (fun d => pure (.float .f64 (FloatKind.f64.encode (d.integral .zero))))) w).andThen _ = _
  rw [e1] at e2 ⊢
  simp only [e2]
  rfl

set_option maxHeartbeats 400000 in
theorem trunc_any {h : Int} {s M k} (H : Half h s M k) (w : World) : Calls Tryz.prog 177 #[.float .f64 (fi h)] w fun e w' => e = .returned (.float .f64 (fi h)) ∧ w = w' := by
  have hd := run_arch H
  obtain ⟨f, hf⟩ : ∃ f, Hid (fi h = f) := ⟨_, Lib.hid rfl⟩
  rw [hf.out] at hd ⊢
  clear H
  go_enter Tryz.func177, Tryz.ntmps177
  go_wp2_with fail
  go_returns
  exact ⟨rfl, rfl⟩

set_option maxHeartbeats 400000 in
theorem half_any {h : Int} {s M k} (H : Half h s M k) (hb : h.natAbs < 2 * B) (w : World) : Calls Tryz.prog 144 #[.float .f64 (fi h)] w (Ret (.tuple #[flat 3 h ⟨#[]⟩, .bool true]) w) := by
  have hc := trunc_any H
  have o1 := order_self H
  have o2 := order_low H
  have o3 := order_high H
  have hcv : ∀ w : World, (convert 65 3 (.float .f64 (fi h))).run Tryz.prog w = .ok (.int .i64 h) w := fun w => run_convert_float_int w 65 3 .f64 .i64 (fi h) h (by kernel_rfl) (by kernel_rfl) (by
    unfold floatToIntVal
    rw [toInt_fi H]
    have h1 : IntKind.i64.min ≤ h := by show (-9223372036854775808 : Int) ≤ h; unfold B at hb; omega
    have h2 : h ≤ IntKind.i64.max := by show h ≤ (9223372036854775807 : Int); unfold B at hb; omega
    have h3 : h ≤ 9223372036854775807 := h2
    simp [h1, h2, h3])
  obtain ⟨f, hf⟩ : ∃ f, Hid (fi h = f) := ⟨_, Lib.hid rfl⟩
  rw [hf.out] at hc o1 o2 o3 hcv ⊢
  unfold low62 at o2
  unfold high62 at o3
  have HC := Lib.hid hc
  have c1 : (FloatKind.f64.format.order f f != some .eq) = false := by show (Ieee.double.order f f != some .eq) = false; rw [o1]; rfl
  have c2 : FloatKind.f64.format.order f 14109777632551763968 = some .gt := o2
  have c3 : FloatKind.f64.format.order f 4886405595696988160 = some .lt := o3
  clear o1 o2 o3
  clear H hc hb
  go_enter Tryz.func144, Tryz.ntmps144
  go_wp2_with fail
  refine (HC.out _).mono ?_
  rintro e w' ⟨rfl, rfl⟩
  go_wp2_with fail
  go_returns
  exact ⟨rfl, by go_grown⟩

theorem sets6 {B b : Nat} {w0 w : World} (h : Below B w0 w) (hb : B ≤ b) (v0 v1 v2 v3 v4 v5 : Value) :
    Below B w0 ((((((w.setCell ⟨b, 0, none⟩ v0).setCell ⟨b, 1, none⟩ v1).setCell ⟨b, 2, none⟩ v2).setCell ⟨b, 3, none⟩ v3).setCell ⟨b, 4, none⟩ v4).setCell ⟨b, 5, none⟩ v5) :=
  (((((h.setCell hb _).setCell hb _).setCell hb _).setCell hb _).setCell hb _).setCell hb _

/-- what fromGo returns -/
def FromGo (x : V) (w : World) (e : Ending) (w' : World) : Prop :=
  ∃ v, e = .returned (.tuple #[v, .bool true]) ∧ RV w' (fun r => w.heap.size ≤ r) x v ∧ Below w.heap.size w w'

theorem rv_flat (k h : Int) (t : ByteArray) (w : World) (S : Nat → Prop) : RV w S (.mk k h t [] [] []) (flat k h t) := by
  rw [RV]
  exact ⟨none, 0, none, 0, none, 0, rfl, by rw [RL]; trivial, trivial, by rw [RL]; trivial⟩

set_option maxHeartbeats 400000 in
theorem fromGo_0 (w : World) : Calls Tryz.prog 86 #[.nilIface] w (FromGo (.mk 0 0 ⟨#[]⟩ [] [] []) w) := by
  go_enter Tryz.func86, Tryz.ntmps86
  go_wp2_with fail
  go_returns
  exact ⟨_, rfl, rv_flat _ _ _ _ _, by go_grown⟩
set_option maxHeartbeats 400000 in
theorem fromGo_1 (w : World) : Calls Tryz.prog 86 #[.iface 4 (.bool false)] w (FromGo (.mk 1 0 ⟨#[]⟩ [] [] []) w) := by
  go_enter Tryz.func86, Tryz.ntmps86
  go_wp2_with fail
  go_returns
  exact ⟨_, rfl, rv_flat _ _ _ _ _, by go_grown⟩
set_option maxHeartbeats 400000 in
theorem fromGo_2 (w : World) : Calls Tryz.prog 86 #[.iface 4 (.bool true)] w (FromGo (.mk 2 0 ⟨#[]⟩ [] [] []) w) := by
  go_enter Tryz.func86, Tryz.ntmps86
  go_wp2_with fail
  go_returns
  exact ⟨_, rfl, rv_flat _ _ _ _ _, by go_grown⟩
set_option maxHeartbeats 400000 in
theorem fromGo_4 (t : ByteArray) (w : World) : Calls Tryz.prog 86 #[.iface 9 (.string t)] w (FromGo (.mk 4 0 t [] [] []) w) := by
  go_enter Tryz.func86, Tryz.ntmps86
  go_wp2_with fail
  go_returns
  exact ⟨_, rfl, rv_flat _ _ _ _ _, by go_grown⟩
set_option maxHeartbeats 400000 in
theorem fromGo_int (n : Int) (hlo : -9007199254740992 ≤ n) (hhi : n ≤ 9007199254740992) (w : World) : Calls Tryz.prog 86 #[.iface 3 (.int .i64 n)] w (FromGo (.mk 3 (2 * n) ⟨#[]⟩ [] [] []) w) := by
  have hw : wrap64 (2 * n) = 2 * n := by unfold wrap64; omega
  have g1 : -4611686018427387904 ≤ n := by omega
  have g2 : n ≤ 4611686018427387903 := by omega
  go_enter Tryz.func86, Tryz.ntmps86
  go_wp2_with fail
  go_returns
  exact ⟨_, rfl, rv_flat _ _ _ _ _, by go_grown⟩
set_option maxHeartbeats 400000 in
theorem fromGo_float {h : Int} {s M k} (H : Half h s M k) (hb : h.natAbs < 2 * B) (w : World) : Calls Tryz.prog 86 #[.iface 65 (.float .f64 (fl h))] w (FromGo (.mk 3 h ⟨#[]⟩ [] [] []) w) := by
  have hq : ∀ w : World, (binOp .mul 65 (.float .f64 4611686018427387904) (.float .f64 (fl h))).run Tryz.prog w = .ok (.float .f64 (fi h)) w := fun w => run_float_arith w .mul 65 .f64 _ _ _ (mul_two H)
  have HC := Lib.hid (half_any H hb)
  have F := Lib.hid (fun w S => rv_flat 3 h ⟨#[]⟩ w S)
  unfold flat at HC F
  obtain ⟨f, hf⟩ : ∃ f, Hid (fi h = f) := ⟨_, Lib.hid rfl⟩
  rw [hf.out] at hq HC
  obtain ⟨f2, hf2⟩ : ∃ f, Hid (fl h = f) := ⟨_, Lib.hid rfl⟩
  rw [hf2.out] at hq ⊢
  clear H hb
  go_enter Tryz.func86, Tryz.ntmps86
  go_wp2_with fail
  refine (HC.out _).mono ?_
  rintro e w1 ⟨rfl, hb⟩
  have hB := (hb.block w.heap.size (by simp)).trans (block_new w _ _)
  have HB := Lib.hid ((((Below.refl w.heap.size w).alloc (Nat.le_refl _) _).trans (hb.mono (by simp))))
  have c6 := cells6 hB
  clear hb hB
  go_wp2_with fail
  refine bodyPost_ret (v := .tuple #[.agg #[.int .i64 3, .int .i64 h, .string ⟨#[]⟩, .slice none 0 0, .slice none 0 0, .slice none 0 0], .bool true]) (by simp [results, Tryz.results86, go_sem, *]) rfl ⟨_, rfl, F.out _ _, ?_⟩
  exact sets6 HB.out (Nat.le_refl _) _ _ _ _ _ _

end Go.Proofs.YtgjmgneppecfgaaGreatDoor.Va
/-
  ROWS THAT GROW: append of one element, with the block in which the row then lies; rows of values.
-/
namespace Go.Proofs.YtgjmgneppecfgaaGreatDoor.Va
open Go.RowKit
set_option linter.unusedVariables false
set_option linter.unusedSimpArgs false

section
variable {P : Program} (w : World)
theorem append_where (base : Nat) (t ty e : TypeId) (i : TypeInfo) (z : Value) (size bytes : Nat) (ht : P.underlying t = some (.slice e)) (hi : P.info? e = some i) (hz : i.zero = some z)
    (hsize : i.size = size) (hby : i.bytes = bytes) (v : Value) (n : Nat) (xs : List Value) (hown : w.ownsRow base e size v n xs)
    (a : Addr) (c : Nat) (news : List Value) (hl : news.length = size) (hnews : ∀ j u, news[j]? = some u → w.cell? (a.add j) = some u) (h1 : ∀ u ∈ news, u.oneCell' = true)
    (h63 : n + 1 ≤ maxLen) (hbytes : (n + 1) * bytes ≤ 140737488355328) (v' : Value) (w' : World) (hr : (Builtin.append_ #[t, t] ty #[v, .slice (some a) 1 c]).run P w = .ok v' w') :
    (v'.ownBlock = v.ownBlock ∨ v'.ownBlock = some w.heap.size) ∧ ∃ g cap, v' = .slice (some ⟨g, 0, none⟩) (n + 1) cap := by
  subst hsize
  subst hby
  have hsmall : n + 1 ≤ 9223372036854775807 := by simp only [maxLen] at h63; omega
  rcases hown.2 with ⟨rfl, rfl⟩ | ⟨g, cap, cur, rfl, hbg, hg, hnc, hcm, hcs, htake⟩
  · have hh := run_append_nil (P := P) w t ty e i z ht hi hz a 1 c news (by omega) hnews (by omega) (by omega) (by simp only [Nat.zero_add] at hbytes; omega)
    rw [hh] at hr
    cases hr
    exact ⟨.inr rfl, _, _, rfl⟩
  · by_cases hroom : n + 1 ≤ cap
    · have hfit : n * i.size + news.length ≤ cur.size := by
        rw [hl, hcs, ← Nat.succ_mul]; exact Nat.mul_le_mul_right _ hroom
      have hh := run_append_room (P := P) w t ty e i ht hi g n cap cur hg a 1 c news (by omega) hnews h1 hroom hfit
      rw [hh] at hr
      cases hr
      exact ⟨.inl rfl, _, _, rfl⟩
    · have holds : ∀ j u, xs[j]? = some u → w.cell? ((⟨g, 0, none⟩ : Addr).add j) = some u := hown.cells (g := g) rfl
      have hh := run_append_grow (P := P) w t ty e i z ht hi hz ⟨g, 0, none⟩ n cap xs hown.1 holds a 1 c news (by omega) hnews (by omega) (by omega) (growslice_fits (by omega) hbytes)
      rw [hh] at hr
      cases hr
      exact ⟨.inr rfl, _, _, rfl⟩

/-- what an append of one element leaves -/
structure Appended (w : World) (base : Nat) (e : TypeId) (size : Nat) (v : Value) (n : Nat) (xs : List Value) (v' : Value) (w' : World) : Prop where
  owns : w'.ownsRow base e size v' (n + 1) xs
  grown : w.grownBy w' v.ownBlock
  wher : v'.ownBlock = v.ownBlock ∨ v'.ownBlock = some w.heap.size
  made : ∃ g cap, v' = .slice (some ⟨g, 0, none⟩) (n + 1) cap

theorem run_append_one (base : Nat) (t ty e : TypeId) (i : TypeInfo) (z : Value) (size bytes : Nat) (ht : P.underlying t = some (.slice e)) (hi : P.info? e = some i) (hz : i.zero = some z)
    (hsize : i.size = size) (hby : i.bytes = bytes) (hzs : z.cells.size = size) (hsz : 0 < size) (v : Value) (n : Nat) (xs : List Value) (hown : w.ownsRow base e size v n xs)
    (a : Addr) (c : Nat) (news : List Value) (hl : news.length = size) (hnews : ∀ j u, news[j]? = some u → w.cell? (a.add j) = some u) (h1 : ∀ u ∈ news, u.oneCell' = true)
    (h63 : n + 1 ≤ maxLen) (hbytes : (n + 1) * bytes ≤ 140737488355328) (hbase : base ≤ w.heap.size) :
    ∃ v' w', (Builtin.append_ #[t, t] ty #[v, .slice (some a) 1 c]).run P w = .ok v' w' ∧ Appended w base e size v n (xs ++ news) v' w' := by
  obtain ⟨v', w', hr, h2, h3, _⟩ := run_append_own (P := P) w base t ty e i z size bytes ht hi hz hsize hby hzs hsz v n xs hown a 1 c news (by omega) hnews h1 h63 hbytes hbase
  obtain ⟨h4, h5⟩ := append_where (P := P) w base t ty e i z size bytes ht hi hz hsize hby v n xs hown a c news hl hnews h1 h63 hbytes v' w' hr
  exact ⟨v', w', hr, h2, h3, h4, h5⟩

theorem wpList_append_one {ops : Array Oper} {rest : List Oper} {o : Oper} {a : Act} {Q : Exit → Act → World → Prop} (hgd : o.guard = none) (s x : Operand) (t : TypeId)
    (ho : o.op = .call { callee := .builtin .append, args := #[s, x], argTypes := #[t, t] })
    (base : Nat) (e : TypeId) (i : TypeInfo) (z : Value) (size bytes : Nat) (ht : P.underlying t = some (.slice e)) (hi : P.info? e = some i) (hz : i.zero = some z)
    (hsize : i.size = size) (hby : i.bytes = bytes) (hzs : z.cells.size = size) (hsz : 0 < size)
    (v : Value) (n : Nat) (xs : List Value) (hs : a.eval s = v) (hown : w.ownsRow base e size v n xs)
    (ad : Addr) (c : Nat) (news : List Value) (hx : a.eval x = .slice (some ad) 1 c) (hl : news.length = size) (hnews : ∀ j u, news[j]? = some u → w.cell? (ad.add j) = some u) (h1 : ∀ u ∈ news, u.oneCell' = true)
    (h63 : n + 1 ≤ maxLen) (hbytes : (n + 1) * bytes ≤ 140737488355328) (hbase : base ≤ w.heap.size)
    (h : ∀ v' w', Appended w base e size v n (xs ++ news) v' w' → wpList P ops Q rest (a.put o.dst v') w') : wpList P ops Q (o :: rest) a w :=
  wpList_plain hgd fun _ hK => by
    obtain ⟨v', w', hr, h2⟩ := run_append_one (P := P) w base t o.type e i z size bytes ht hi hz hsize hby hzs hsz v n xs hown ad c news hl hnews h1 h63 hbytes hbase
    unfold Oper.wp execOp
    simp only [ho, resolve, invoke, builtin, Sem.run_bind, Sem.run_pure, Result.andThen_ok, List.map_toArray, List.map_cons, List.map_nil, hs, hx, hr]
    exact hK _ _ (h v' w' h2)
end

theorem cell_new (w : World) (cs : Array Value) (t : TypeId) : ∀ j u, cs.toList[j]? = some u → (w.alloc (.cells cs t)).cell? ((⟨w.heap.size, 0, none⟩ : Addr).add j) = some u := by
  intro j u hu
  have hadd : (⟨w.heap.size, 0, none⟩ : Addr).add j = ⟨w.heap.size, j, none⟩ := by unfold Addr.add; split <;> simp_all
  rw [hadd]
  exact cell_of (block_new w cs t) j (by simpa using hu)

/-! ### rows of values -/
/-- six cells at a place of a list of cells -/
def SixAt (cs : List Value) (o : Nat) (c0 c1 c2 c3 c4 c5 : Value) : Prop := cs[o]? = some c0 ∧ cs[o + 1]? = some c1 ∧ cs[o + 2]? = some c2 ∧ cs[o + 3]? = some c3 ∧ cs[o + 4]? = some c4 ∧ cs[o + 5]? = some c5
theorem app_some {cs news : List Value} {j : Nat} {v : Value} (h : cs[j]? = some v) : (cs ++ news)[j]? = some v := by
  obtain ⟨hj, _⟩ := List.getElem?_eq_some_iff.1 h
  rw [List.getElem?_append_left hj, h]
theorem SixAt.old {cs news : List Value} {o : Nat} {c0 c1 c2 c3 c4 c5 : Value} (h : SixAt cs o c0 c1 c2 c3 c4 c5) : SixAt (cs ++ news) o c0 c1 c2 c3 c4 c5 := by
  obtain ⟨h0, h1, h2, h3, h4, h5⟩ := h
  exact ⟨app_some h0, app_some h1, app_some h2, app_some h3, app_some h4, app_some h5⟩
theorem SixAt.new {cs : List Value} {o : Nat} (ho : cs.length = o) (c0 c1 c2 c3 c4 c5 : Value) : SixAt (cs ++ [c0, c1, c2, c3, c4, c5]) o c0 c1 c2 c3 c4 c5 := by
  subst ho
  refine ⟨?_, ?_, ?_, ?_, ?_, ?_⟩
  · simp
  all_goals
    rw [List.getElem?_append_right (by omega)]
    simp

/-- the row of the first k values of l -/
def Rows (base : Nat) (l : List V) (k : Nat) (ov : Value) (wr : World) : Prop :=
  ∃ cs : List Value, wr.ownsRow base 27 6 ov k cs ∧ ∀ i (hi : i < k) (hl : i < l.length), ∃ c0 c1 c2 c3 c4 c5, SixAt cs (i * 6) c0 c1 c2 c3 c4 c5 ∧ RV wr (fun r => base ≤ r ∧ some r ≠ ov.ownBlock) l[i] (.agg #[c0, c1, c2, c3, c4, c5])
theorem Rows.nil (base : Nat) (l : List V) (wr : World) : Rows base l 0 (.slice none 0 0) wr :=
  ⟨[], World.ownsRow_nil _ _ _ _, fun i hi => absurd hi (by omega)⟩
theorem ownsRow_same {w w' : World} {base : Nat} {e : TypeId} {size : Nat} {v : Value} {n : Nat} {xs : List Value} (h : w.ownsRow base e size v n xs) (hs : ∀ b, some b = v.ownBlock → w'.heap[b]? = w.heap[b]?) : w'.ownsRow base e size v n xs := by
  refine ⟨h.1, ?_⟩
  rcases h.2 with hn | ⟨g, cap, cur, rfl, hb, hgg, rest⟩
  · exact .inl hn
  · exact .inr ⟨g, cap, cur, rfl, hb, (hs g rfl).trans hgg, rest⟩
theorem Rows.same {base : Nat} {l : List V} {k : Nat} {ov : Value} {w w' : World} (h : Rows base l k ov w) (hs : ∀ b, base ≤ b → b < w.heap.size → w'.heap[b]? = w.heap[b]?) : Rows base l k ov w' := by
  obtain ⟨cs, h1, h2⟩ := h
  refine ⟨cs, ownsRow_same h1 (fun b hb => by have := h1.lt b hb.symm; exact hs b this.1 this.2), fun i hi hl => ?_⟩
  obtain ⟨c0, c1, c2, c3, c4, c5, h6, hx⟩ := h2 i hi hl
  exact ⟨c0, c1, c2, c3, c4, c5, h6, RV.mono (S := fun r => (base ≤ r ∧ some r ≠ ov.ownBlock) ∧ r < w.heap.size) (fun b hb => hs b hb.1.1 hb.2) (fun b hb => hb.1) _ _ (RV.lt _ _ hx)⟩
theorem Rows.keep {base : Nat} {l : List V} {k : Nat} {ov : Value} {w w' : World} (h : Rows base l k ov w) (hb : Below w.heap.size w w') : Rows base l k ov w' := h.same fun b _ hlt => hb.block b hlt
theorem Rows.lt {base : Nat} {l : List V} {k : Nat} {ov : Value} {w : World} (h : Rows base l k ov w) : ∀ b, ov.ownBlock = some b → base ≤ b ∧ b < w.heap.size := by
  obtain ⟨cs, h1, h2⟩ := h
  exact h1.lt
/-- one element more -/
theorem Rows.next {base : Nat} {l : List V} {k : Nat} {ov ov' : Value} {wr wa w' : World} (hk : k < l.length) {c0 c1 c2 c3 c4 c5 : Value} {cs : List Value}
    (hown : wr.ownsRow base 27 6 ov k cs) (hch : ∀ i (hi : i < k) (hl : i < l.length), ∃ c0 c1 c2 c3 c4 c5, SixAt cs (i * 6) c0 c1 c2 c3 c4 c5 ∧ RV wr (fun r => base ≤ r ∧ some r ≠ ov.ownBlock) l[i] (.agg #[c0, c1, c2, c3, c4, c5]))
    (hB : Below wr.heap.size wr wa) (hbase : base ≤ wr.heap.size) (hx : RV wa (fun r => wr.heap.size ≤ r) l[k] (.agg #[c0, c1, c2, c3, c4, c5])) (ha : Appended wa base 27 6 ov k (cs ++ [c0, c1, c2, c3, c4, c5]) ov' w') : Rows base l (k + 1) ov' w' := by
  have hlt := hown.lt
  refine ⟨_, ha.owns, fun i hi hl => ?_⟩
  have hs : Same (fun r => some r ≠ ov.ownBlock ∧ r < wa.heap.size) wa w' := fun b hb => ha.grown.block b hb.2 hb.1
  have hS : ∀ r, base ≤ r → some r ≠ ov.ownBlock → r < wa.heap.size → some r ≠ ov'.ownBlock := by
    intro r _ h1 h2
    rcases ha.wher with e | e
    · rw [e]; exact h1
    · rw [e]; simp; omega
  by_cases c : i = k
  · subst c
    refine ⟨c0, c1, c2, c3, c4, c5, SixAt.new hown.1 .., ?_⟩
    refine RV.mono (S := fun r => (some r ≠ ov.ownBlock ∧ r < wa.heap.size) ∧ base ≤ r) (fun b hb => hs b hb.1) (fun b hb => ⟨hb.2, hS b hb.2 hb.1.1 hb.1.2⟩) _ _ ?_
    exact RV.mono (S := fun r => wr.heap.size ≤ r ∧ r < wa.heap.size) (fun _ _ => rfl) (fun b hb => ⟨⟨fun e => by have := hlt b e.symm; omega, hb.2⟩, by omega⟩) _ _ (RV.lt _ _ hx)
  · obtain ⟨d0, d1, d2, d3, d4, d5, h6, hx'⟩ := hch i (by omega) hl
    refine ⟨d0, d1, d2, d3, d4, d5, h6.old, ?_⟩
    have hw : RV wa (fun r => ((base ≤ r ∧ some r ≠ ov.ownBlock) ∧ r < wr.heap.size)) l[i] (.agg #[d0, d1, d2, d3, d4, d5]) :=
      RV.mono (Same.of_below hB fun b hb => hb.2) (fun _ h => h) _ _ (RV.lt _ _ hx')
    have hsz := hB.size
    exact RV.mono (fun b hb => hs b ⟨hb.1.2, by omega⟩) (fun b hb => ⟨hb.1.1, hS b hb.1.1 hb.1.2 (by omega)⟩) _ _ hw
/-- a value's six cells -/
def six (t1 n1 : Int) (tx : ByteArray) (la : Option Addr) (l1 lc : Nat) (ka : Option Addr) (l2 kc : Nat) (va : Option Addr) (l3 vc : Nat) : List Value := [.int .i64 t1, .int .i64 n1, .string tx, .slice la l1 lc, .slice ka l2 kc, .slice va l3 vc]
theorem six_one (t1 n1 : Int) (tx : ByteArray) (la : Option Addr) (l1 lc : Nat) (ka : Option Addr) (l2 kc : Nat) (va : Option Addr) (l3 vc : Nat) : ∀ u ∈ six t1 n1 tx la l1 lc ka l2 kc va l3 vc, u.oneCell' = true := by
  intro u hu
  simp only [six, List.mem_cons, List.not_mem_nil, or_false] at hu
  rcases hu with rfl | rfl | rfl | rfl | rfl | rfl <;> rfl
/-- the list, read in memory -/
theorem Rows.done {base : Nat} {l : List V} {ov : Value} {w : World} (h : Rows base l l.length ov w) : ∃ a c, ov = .slice a l.length c ∧ RL w (fun r => base ≤ r) l a := by
  obtain ⟨cs, h1, h2⟩ := h
  rcases h1.2 with ⟨rfl, h0⟩ | ⟨g, cap, cur, rfl, hb, hgg, hn, hm, hsz, htake⟩
  · have : l = [] := List.length_eq_zero_iff.1 h0
    subst this
    exact ⟨none, 0, rfl, by rw [RL]; trivial⟩
  · refine ⟨_, _, rfl, RL.of l g 0 (fun _ => hb) fun i hi => ?_⟩
    obtain ⟨c0, c1, c2, c3, c4, c5, ⟨h60, h61, h62, h63, h64, h65⟩, hx⟩ := h2 i hi hi
    have hcell : ∀ j v, cs[j]? = some v → w.cell? ⟨g, j, none⟩ = some v := by
      intro j v hj
      refine cell_of hgg j ?_
      rw [← htake, List.getElem?_take] at hj
      split at hj
      · simpa using hj
      · cases hj
    refine ⟨c0, c1, c2, c3, c4, c5, ?_, RV.mono (fun _ _ => rfl) (fun b hb => hb.1) _ _ hx⟩
    rw [Nat.zero_add]
    exact ⟨hcell _ _ h60, hcell _ _ h61, hcell _ _ h62, hcell _ _ h63, hcell _ _ h64, hcell _ _ h65⟩

end Go.Proofs.YtgjmgneppecfgaaGreatDoor.Va
/-
  THE WALK of listFromGo: given that fromGo serves each element.
-/
namespace Go.Proofs.YtgjmgneppecfgaaGreatDoor.Va
open Go.RowKit
set_option linter.unusedVariables false
set_option linter.unusedSimpArgs false

theorem sets_other {w : World} {b b' : Nat} (v0 v1 v2 v3 v4 v5 : Value) (h : b' ≠ b) :
    ((((((w.setCell ⟨b, 0, none⟩ v0).setCell ⟨b, 1, none⟩ v1).setCell ⟨b, 2, none⟩ v2).setCell ⟨b, 3, none⟩ v3).setCell ⟨b, 4, none⟩ v4).setCell ⟨b, 5, none⟩ v5).heap[b']? = w.heap[b']? := by
  rw [set_other _ _ h, set_other _ _ h, set_other _ _ h, set_other _ _ h, set_other _ _ h, set_other _ _ h]

/-- fromGo serves x -/
def FG (x : V) : Prop := ∀ (g : Value) (S : Nat → Prop) (w : World), GV w S x g → (∀ b, S b → b < w.heap.size) → Calls Tryz.prog 86 #[g] w (FromGo x w)

theorem infoValue : (Tryz.prog.info? 27).map (fun i => (i.zero, i.size, i.bytes)) = some (some (.agg #[.int .i64 0, .int .i64 0, .string ⟨#[]⟩, .slice none 0 0, .slice none 0 0, .slice none 0 0]), 6, 104) := by kernel_rfl

def zero6 : Array Value := #[.int .i64 0, .int .i64 0, .string ⟨#[]⟩, .slice none 0 0, .slice none 0 0, .slice none 0 0]
def LoopF (l : List V) (w : World) (i : Value) (wr : World) : Prop :=
  ∃ (k : Nat) (ov : Value), i = .int .i64 k ∧ k ≤ l.length ∧ wr.heap[w.heap.size]? = some (.cells #[.int .i64 0, .int .i64 0, .string ⟨#[]⟩, .slice none 0 0, .slice none 0 0, .slice none 0 0] 27 (0, 0)) ∧
    wr.heap[w.heap.size + 1]? = some (.cells #[.int .i64 5, .int .i64 0, .string ⟨#[]⟩, ov, .slice none 0 0, .slice none 0 0] 27 (0, 0)) ∧ Rows (w.heap.size + 2) l k ov wr ∧ Below w.heap.size w wr

theorem loopF_start (l : List V) (w : World) : LoopF l w (.int .i64 0) ((w.alloc (.cells #[.int .i64 0, .int .i64 0, .string ⟨#[]⟩, .slice none 0 0, .slice none 0 0, .slice none 0 0] 27)).alloc (.cells #[.int .i64 5, .int .i64 0, .string ⟨#[]⟩, .slice none 0 0, .slice none 0 0, .slice none 0 0] 27)) :=
  ⟨0, _, rfl, Nat.zero_le _, block_past (block_new w _ _) _, by have := heap_alloc_new (w.alloc (.cells #[.int .i64 0, .int .i64 0, .string ⟨#[]⟩, .slice none 0 0, .slice none 0 0, .slice none 0 0] 27)) (.cells #[.int .i64 5, .int .i64 0, .string ⟨#[]⟩, .slice none 0 0, .slice none 0 0, .slice none 0 0] 27); rwa [World.size_alloc] at this, Rows.nil _ _ _, by go_grown⟩

/-- what listFromGo returns -/
def ListFromGo (l : List V) (w : World) (e : Ending) (w' : World) : Prop :=
  ∃ a c, e = .returned (.tuple #[.agg #[.int .i64 5, .int .i64 0, .string ⟨#[]⟩, .slice a l.length c, .slice none 0 0, .slice none 0 0], .bool true]) ∧ RL w' (fun r => w.heap.size ≤ r) l a ∧ Below w.heap.size w w'

theorem listFrom_tail {l : List V} {k : Nat} (hk : k < l.length) {ov v' : Value} {w wr W2 w3 : World} {zs : Array Value} {cs : List Value} {c0 c1 c2 c3 c4 c5 q0 q1 q2 q3 q4 q5 : Value}
    (h0 : W2.heap[w.heap.size]? = some (.cells zs 27 (0, 0))) (h1 : W2.heap[w.heap.size + 1]? = some (.cells #[q0, q1, q2, q3, q4, q5] 27 (0, 0)))
    (hown2 : W2.ownsRow (w.heap.size + 2) 27 6 ov k cs) (hch : ∀ i (hi : i < k) (hl : i < l.length), ∃ c0 c1 c2 c3 c4 c5, SixAt cs (i * 6) c0 c1 c2 c3 c4 c5 ∧ RV wr (fun r => w.heap.size + 2 ≤ r ∧ some r ≠ ov.ownBlock) l[i] (.agg #[c0, c1, c2, c3, c4, c5]))
    (hown : wr.ownsRow (w.heap.size + 2) 27 6 ov k cs) (hB : Below w.heap.size w wr) (hBW : Below wr.heap.size wr W2) (hbase : w.heap.size + 2 ≤ wr.heap.size)
    (hx : RV W2 (fun r => wr.heap.size ≤ r) l[k] (.agg #[c0, c1, c2, c3, c4, c5])) {o : Obj}
    (ha : Appended (W2.alloc o) (w.heap.size + 2) 27 6 ov k (cs ++ [c0, c1, c2, c3, c4, c5]) v' w3) :
    Hid (w3.heap[w.heap.size]? = some (.cells zs 27 (0, 0)) ∧ w3.heap[w.heap.size + 1]? = some (.cells #[q0, q1, q2, q3, q4, q5] 27 (0, 0)) ∧ Rows (w.heap.size + 2) l (k + 1) v' w3 ∧ Below w.heap.size w w3) ∧
      w3.cell? ⟨w.heap.size + 1, 3, none⟩ = some q3 ∧ w3.frozen? ⟨w.heap.size + 1, 3, none⟩ = false := by
  have hlt := hown.lt
  have hBa : Below wr.heap.size wr (W2.alloc o) := hBW.alloc hBW.size o
  have g0 : w3.heap[w.heap.size]? = some (.cells zs 27 (0, 0)) := (ha.grown.block _ (by simp; have := heap_lt h0; omega) (fun e => by have := hlt _ e.symm; omega)).trans (block_past h0 o)
  have g1 : w3.heap[w.heap.size + 1]? = some (.cells #[q0, q1, q2, q3, q4, q5] 27 (0, 0)) := (ha.grown.block _ (by simp; have := heap_lt h1; omega) (fun e => by have := hlt _ e.symm; omega)).trans (block_past h1 o)
  refine ⟨Lib.hid ⟨g0, g1, Rows.next hk hown hch hBa hbase (RV.mono (S := fun r => wr.heap.size ≤ r ∧ r < W2.heap.size) (Same.of_below (below_alloc W2 o) fun b hb => hb.2) (fun b hb => hb.1) _ _ (RV.lt _ _ hx)) ha, ?_⟩, cell_of g1 3 rfl, free_of g1 3⟩
  have hsz := hBa.size
  exact Below.grown (hB.trans (hBa.mono (by omega))) ha.grown (by omega) (fun j hj => by have := hlt j hj; omega)
theorem loopF_next {l : List V} {k : Nat} (hk : k < l.length) {v' q3 : Value} {w w3 : World}
    (h : w3.heap[w.heap.size]? = some (.cells #[.int .i64 0, .int .i64 0, .string ⟨#[]⟩, .slice none 0 0, .slice none 0 0, .slice none 0 0] 27 (0, 0)) ∧ w3.heap[w.heap.size + 1]? = some (.cells #[.int .i64 5, .int .i64 0, .string ⟨#[]⟩, q3, .slice none 0 0, .slice none 0 0] 27 (0, 0)) ∧ Rows (w.heap.size + 2) l (k + 1) v' w3 ∧ Below w.heap.size w w3) :
    LoopF l w (.int .i64 ((k : Int) + 1)) (w3.setCell ⟨w.heap.size + 1, 3, none⟩ v') := by
  obtain ⟨h0, h1, h2, h3⟩ := h
  exact ⟨k + 1, v', rfl, hk, (set_other 3 v' (by omega)).trans h0, set_block h1 3 v', h2.same (fun b hb _ => set_other 3 v' (by omega)), h3.setCell (Nat.le_succ _) _⟩

set_option maxHeartbeats 2000000 in
set_option maxRecDepth 100000 in
theorem listFromGo_any (l : List V) (H : ∀ x ∈ l, FG x) (n : Nat) (hn : l.length = n) (hmax : n ≤ 2147483647) (a : Option Addr) (c : Nat) (S : Nat → Prop) (w : World) (hl : GL w S l a) (hS : ∀ b, S b → b < w.heap.size) :
    Calls Tryz.prog 145 #[.slice a n c] w (ListFromGo l w) := by
  obtain ⟨i0, hi, hz0, hz1, hz2⟩ := info_parts infoValue
  have HI := Lib.hid hi
  have HZ0 := Lib.hid hz0
  have HZ1 := Lib.hid hz1
  have HZ2 := Lib.hid hz2
  have HL := Lib.hid hl
  have HS := Lib.hid hS
  have HH := Lib.hid H
  have HN := Lib.hid hn
  clear hi hz0 hz1 hz2 hl hS H hn
  go_enter Tryz.func145, Tryz.ntmps145
  go_wp2_with fail
  go_loopw [12] (LoopF l w) (fun i _ => n - (intOf i).toNat)
  case atStart => exact loopF_start l w
  case round =>
    obtain ⟨k, ov, rfl, hk, hb0, hb1, hr, hb⟩ := hrel
    have HR := Lib.hid hr
    have HB := Lib.hid hb
    have HB0 := Lib.hid hb0
    have HB1 := Lib.hid hb1
    rw [HN.out] at hk
    clear hr hb
    by_cases hlt : k < n
    · clear hb0 hb1
      obtain ⟨b, o, rfl⟩ := HL.out.addr (by rw [HN.out]; omega)
      obtain ⟨hSb, g, hc, hg⟩ := GL.at l b o HL.out k (by rw [HN.out]; exact hlt)
      have hsame : Same S w wr := Same.of_below HB.out HS.out
      have hc' := (hsame.cell hSb).trans hc
      have hg' := Lib.hid (GV.mono hsame (fun _ h => h) _ _ hg)
      have HSz := Lib.hid (fun b h => Nat.lt_of_lt_of_le (HS.out b h) HB.out.size)
      clear hc hg hsame
      go_wp2_with fail
      refine (HH.out _ (List.getElem_mem (by rw [HN.out]; exact hlt)) g S wr hg'.out HSz.out).mono ?_
      rintro e w2 ⟨v, rfl, hv, hb2⟩
      obtain ⟨la, lc, ka, kc, va, vc, t1, n1, tx, ls, ks', vs', rfl, HX⟩ := RV.parts hv
      have HB1' := Lib.hid (keep hb2 HB1.out)
      have HB0' := Lib.hid (keep hb2 HB0.out)
      have HB2 := Lib.hid hb2
      have hs2 := hb2.size
      have hsz : w.heap.size + 1 < wr.heap.size := heap_lt HB1.out
      clear hv hb2 hc'
      go_upto_region 8 with fail
      generalize hW : World.alloc w2 _ = W2
      have b1 := Lib.hid (hW ▸ below_alloc w2 _ : Below w2.heap.size w2 W2)
      have hN : W2.heap[w2.heap.size]? = _ := hW ▸ block_new w2 _ _
      have hN6 := cells6 hN
      have HB1'' := Lib.hid (keep b1.out HB1'.out)
      have HB0'' := Lib.hid (keep b1.out HB0'.out)
      have hO6 := cells6 HB1''.out
      have hs3 := b1.out.size
      obtain ⟨cs, hown, hch⟩ := HR.out
      have HOWN := Lib.hid hown
      have HCH := Lib.hid hch
      have BW := Lib.hid (HB2.out.trans (b1.out.mono hs2) : Below wr.heap.size wr W2)
      have HOW2 := Lib.hid (ownsRow_same hown (fun b hb => BW.out.block b (hown.lt b hb.symm).2))
      have HXW := Lib.hid (RV.mono (Same.of_below b1.out fun b hb => hb.2) (fun b hb => hb.1) _ _ (RV.lt _ _ HX.out))
      clear hW hN hown hch
      go_wp2_with (at_builtin; refine wpList_append_one _ rfl _ _ 22 rfl (w.heap.size + 2) 27 i0 _ 6 104 Tryz.underlying22 HI.out HZ0.out HZ1.out HZ2.out rfl (by decide) _ _ _ rfl (HOW2.out.alloc _) ⟨W2.heap.size, 0, none⟩ 1 (six t1 n1 tx la ls lc ka ks' kc va vs' vc) rfl rfl (cell_new W2 _ _) (six_one _ _ _ _ _ _ _ _ _ _ _ _) (by unfold maxLen; omega) (by omega) (by simp; omega) ?_; intro v' w3 hap
                   obtain ⟨F, hf0, hf1⟩ := listFrom_tail (by rw [HN.out]; exact hlt) HB0''.out HB1''.out HOW2.out HCH.out HOWN.out HB.out BW.out (by omega) HXW.out hap
                   obtain ⟨vg, vcap, rfl⟩ := hap.made
                   clear hap)
      go_roundw
      case rel => exact loopF_next (by rw [HN.out]; exact hlt) F.out
      case measure => simp [intOf]; omega
    · obtain rfl : k = n := by omega
      have HRD := Lib.hid HR.out
      rw [← HN.out] at HRD
      obtain ⟨ra, rc, rfl, HD⟩ := HRD.out.done
      have HD' := Lib.hid HD
      have c0 := cells6 hb0
      have c1 := cells6 hb1
      clear hb0 hb1 HD
      go_wp2_with fail
      refine bodyPost_ret (v := .tuple #[.agg #[.int .i64 5, .int .i64 0, .string ⟨#[]⟩, .slice ra l.length rc, .slice none 0 0, .slice none 0 0], .bool true]) (by simp [results, Tryz.results145, go_sem, *]) rfl ⟨ra, rc, rfl, ?_, ?_⟩
      · refine RL.mono (S := fun r => w.heap.size + 2 ≤ r) (fun b hb => ?_) (fun b hb => by show _ ≤ b; omega) _ _ HD'.out
        exact sets_other _ _ _ _ _ _ (by omega)
      · exact sets6 HB.out (Nat.le_refl _) _ _ _ _ _ _

end Go.Proofs.YtgjmgneppecfgaaGreatDoor.Va
/-
  A REGION THAT DRAWS ITS ORDER: a load may be taken ahead of the others where what may come before it leaves a condition S standing; behind the operations of D (they wait for the load) S need not stand.
-/
namespace Go.Proofs.YtgjmgneppecfgaaGreatDoor.Va
open Go.RowKit
set_option linter.unusedVariables false

section
variable {P : Program} {ops : Array Oper} {Q : Exit → Act → World → Prop} {md : Region.Mode} {S : World → Prop} {D : Nat → Bool}

/-- whatever order is picked: behind each operation that is none of D the condition stands -/
def wpAnyD (P : Program) (md : Region.Mode) (ops : Array Oper) (Q : Exit → Act → World → Prop) (S : World → Prop) (D : Nat → Bool) : Nat → Array Bool → Act → World → Prop
  | 0, listed, a, w => Region.ready md ops listed = [] ∧ Q .normal a w
  | fuel + 1, listed, a, w =>
    (Region.ready md ops listed = [] → Q .normal a w) ∧
    ∀ i ∈ Region.ready md ops listed, wpOp P ops Q i (fun a' w' => (D i = false → S w') ∧ wpAnyD P md ops Q S D fuel (listed.setIfInBounds i true) a' w') a w

theorem wpAny_of_D : ∀ (fuel : Nat) (listed : Array Bool) (a : Act) (w : World), wpAnyD P md ops Q S D fuel listed a w → wpAny P md ops Q fuel listed a w
  | 0, _, _, _, h => h
  | fuel + 1, _, _, _, h => ⟨h.1, fun i hi => wpOp_mono (fun a' w' h' => wpAny_of_D fuel _ a' w' h'.2) (h.2 i hi)⟩

theorem wpAnyD_first {i : Nat} {oi : Oper} {v : Value} (hi : ops[i]? = some oi) (hsel : ∀ (j : Nat) (o : Oper) cs b, ops[j]? = some o → o.op ≠ .select cs b)
    (hQ : ∀ c a w, Q (.panic c) (a.put oi.dst v) w → Q (.panic c) a w) (bl : Nat → Bool) (hD : ∀ j, D j = true → bl j = true)
    (hbl : ∀ j oj, ops[j]? = some oj → bl j = true → ∃ e ∈ oj.after, Region.binds md e = true ∧ (e.on = i ∨ bl e.on = true)) :
    ∀ (fuel : Nat) (listed : Array Bool) (a : Act) (w : World),
      (∀ j oj, ops[j]? = some oj → j ≠ i → listed.getD j true = false → (∀ e ∈ oj.after, Region.binds md e = true → e.on ≠ i) → oi.apart ops oj = true) →
      (∀ j, bl j = true → listed.getD j false = false) → i ∈ Region.ready md ops listed → YieldsIf P ops S oi v a → S w →
      wpAnyD P md ops Q S D fuel (listed.setIfInBounds i true) (a.put oi.dst v) w → wpAnyD P md ops Q S D (fuel + 1) listed a w := by
  intro fuel
  induction fuel with
  | zero =>
    intro listed a w _ _ hr hy hS H
    refine ⟨fun h => (by rw [h] at hr; cases hr), fun j hj => ?_⟩
    by_cases hji : j = i
    · subst hji; exact hy.wpOp hi hS ⟨fun _ => hS, H⟩
    · have := ready_mono hj hji
      rw [H.1] at this
      cases this
  | succ fuel ih =>
    intro listed a w hfree hub hr hy hS H
    have hiun : listed.getD i false = false := by
      have h0 := (mem_ready.1 hr).1
      rcases Nat.lt_or_ge i listed.size with h' | h'
      · simpa [h'] using h0
      · simp [h'] at h0
    refine ⟨fun h => (by rw [h] at hr; cases hr), fun j hj => ?_⟩
    by_cases hji : j = i
    · subst hji; exact hy.wpOp hi hS ⟨fun _ => hS, H⟩
    · obtain ⟨hjun, oj, hoj, hall⟩ := mem_ready.1 hj
      have hjbl : bl j = false := by
        cases hb : bl j with
        | false => rfl
        | true =>
          obtain ⟨e, he, hbi, hon⟩ := hbl j oj hoj hb
          have h1 := hall e he hbi
          rcases hon with rfl | hon
          · rw [hiun] at h1; cases h1
          · rw [hub _ hon] at h1; cases h1
      have hjD : D j = false := by
        cases hd : D j with
        | false => rfl
        | true => rw [hD j hd] at hjbl; cases hjbl
      have hnot : ∀ e ∈ oj.after, Region.binds md e = true → e.on ≠ i := fun e he hb heq => by
        have h1 := hall e he hb
        rw [heq, hiun] at h1
        cases h1
      have h2 := wpOp_putIf hoj (hfree j oj hoj hji hjun hnot) (fun cs b => hsel i oi cs b hi) (fun cs b => hsel j oj cs b hoj) hQ hy (H.2 j (ready_mono hj hji))
      refine wpOp_mono (fun a' w' h3 => ⟨h3.2.1, ih (listed.setIfInBounds j true) a' w' (fun k ok hk hki hun hno => ?_) (fun k hk => ?_) (ready_mono hr (Ne.symm hji)) h3.1 (h3.2.1 hjD) ?_⟩) h2
      · refine hfree k ok hk hki ?_ hno
        by_cases hjk : j = k
        · subst hjk; exact hjun
        · rw [getD_set_ne true hjk] at hun; exact hun
      · have hjk : j ≠ k := fun e => by rw [e, hk] at hjbl; cases hjbl
        rw [getD_set_ne false hjk]; exact hub k hk
      · rw [Array.setIfInBounds_comm _ _ hji]
        exact h3.2.2

/-- is it one of the list? -/
def inL (dl : List Nat) (j : Nat) : Bool := dl.contains j
/-- two blocks hold these -/
def TwoBlocks (b1 b2 : Nat) (o1 o2 : Obj) (w : World) : Prop := w.heap[b1]? = some o1 ∧ w.heap[b2]? = some o2
theorem TwoBlocks.alloc {b1 b2 : Nat} {o1 o2 : Obj} {w : World} (h : TwoBlocks b1 b2 o1 o2 w) (o : Obj) : TwoBlocks b1 b2 o1 o2 (w.alloc o) := ⟨block_past h.1 o, block_past h.2 o⟩
theorem TwoBlocks.grown {b1 b2 : Nat} {o1 o2 : Obj} {w w' : World} {row : Option Nat} (h : TwoBlocks b1 b2 o1 o2 w) (hg : w.grownBy w' row) (h1 : some b1 ≠ row) (h2 : some b2 ≠ row) : TwoBlocks b1 b2 o1 o2 w' :=
  ⟨(hg.block b1 (heap_lt h.1) h1).trans h.1, (hg.block b2 (heap_lt h.2) h2).trans h.2⟩

/-- does each operation of bl wait for i, or for one of bl? -/
def waits (md : Region.Mode) (ops : Array Oper) (i : Nat) (bl : List Nat) : Bool :=
  bl.all fun j => match ops[j]? with
    | some oj => oj.after.any fun e => Region.binds md e && (e.on == i || bl.contains e.on)
    | none => true
theorem waits_spec {i : Nat} {bl : List Nat} (h : waits md ops i bl = true) : ∀ j oj, ops[j]? = some oj → bl.contains j = true → ∃ e ∈ oj.after, Region.binds md e = true ∧ (e.on = i ∨ bl.contains e.on = true) := by
  intro j oj hoj hj
  have := List.all_eq_true.1 h j (by simpa using hj)
  simp only [hoj] at this
  obtain ⟨e, he, h1⟩ := Array.any_eq_true'.1 this
  simp only [Bool.and_eq_true, Bool.or_eq_true, beq_iff_eq] at h1
  exact ⟨e, he, h1.1, h1.2⟩

/-- take number i first -/
theorem wpAnyD_take {i : Nat} {oi : Oper} {v : Value} {fuel : Nat} {listed : Array Bool} {a : Act} {w : World} (bl dl : List Nat) (hi : ops[i]? = some oi)
    (hs : Region.noSelect ops = true) (hf : Region.free md ops listed i = true) (hr : (Region.ready md ops listed).contains i = true)
    (hQ : ∀ c a w, Q (.panic c) (a.put oi.dst v) w → Q (.panic c) a w) (hw : waits md ops i bl = true) (hd : (dl.all fun j => bl.contains j) = true) (hu : (bl.all fun j => !listed.getD j false) = true)
    (hy : YieldsIf P ops S oi v a) (hS : S w)
    (h : wpAnyD P md ops Q S (inL dl) fuel (listed.setIfInBounds i true) (a.put oi.dst v) w) : wpAnyD P md ops Q S (inL dl) (fuel + 1) listed a w :=
  wpAnyD_first hi (Region.noSelect_spec hs) hQ (fun j => bl.contains j) (fun j hj => List.all_eq_true.1 hd j (by simpa [inL] using hj)) (waits_spec hw) fuel listed a w (Region.free_spec hi hf)
    (fun j hj => by have := List.all_eq_true.1 hu j (by simpa using hj); simpa using this) (by simpa using hr) hy hS h
/-- what yields in whatever world -/
theorem wpAnyD_any {i : Nat} {oi : Oper} {v : Value} {fuel : Nat} {listed : Array Bool} {a : Act} {w : World} (dl : List Nat) (hi : ops[i]? = some oi)
    (hs : Region.noSelect ops = true) (hr : Region.ready md ops listed = [i])
    (hy : Yields P ops oi v a) (hS : dl.contains i = false → S w)
    (h : wpAnyD P md ops Q S (inL dl) fuel (listed.setIfInBounds i true) (a.put oi.dst v) w) : wpAnyD P md ops Q S (inL dl) (fuel + 1) listed a w :=
  ⟨fun h0 => absurd (hr ▸ h0) (by simp), by
    rw [hr]
    intro j hj
    obtain rfl : j = i := by simpa using hj
    exact (Yields.yieldsIf (S := fun _ => True) hy).wpOp hi trivial ⟨hS, h⟩⟩

def AllReadyD (P : Program) (md : Region.Mode) (ops : Array Oper) (Q : Exit → Act → World → Prop) (S : World → Prop) (D : Nat → Bool) (fuel : Nat) (listed : Array Bool) (a : Act) (w : World) (rs : List Nat) : Prop :=
  ∀ i ∈ rs, wpOp P ops Q i (fun a' w' => (D i = false → S w') ∧ wpAnyD P md ops Q S D fuel (listed.setIfInBounds i true) a' w') a w
theorem AllReadyD.nil {fuel : Nat} {listed : Array Bool} {a : Act} {w : World} : AllReadyD P md ops Q S D fuel listed a w [] := fun _ h => by cases h
theorem AllReadyD.cons {fuel : Nat} {listed : Array Bool} {a : Act} {w : World} {i : Nat} {o : Oper} {rs : List Nat} (ho : ops[i]? = some o)
    (h : ∀ K' : Act → World → Prop, Hid (∀ a w, (D i = false → S w) → wpAnyD P md ops Q S D fuel (listed.setIfInBounds i true) a w → K' a w) → if Region.wanted o (yielded ops a.tmps) = true then Oper.wp P o a w K' Q else K' (a.put o.dst undef) w)
    (hs : AllReadyD P md ops Q S D fuel listed a w rs) : AllReadyD P md ops Q S D fuel listed a w (i :: rs) := fun j hj => by
  rcases List.mem_cons.1 hj with rfl | hj
  · exact wpOp_step ho fun K' hK => h K' (Lib.hid fun a w h1 h2 => hK a w ⟨h1, h2⟩)
  · exact hs j hj
theorem wpAnyD_ready {rs : List Nat} {fuel : Nat} {listed : Array Bool} {a : Act} {w : World} (hr : Region.ready md ops listed = rs) (hne : rs ≠ [])
    (h : AllReadyD P md ops Q S D fuel listed a w rs) : wpAnyD P md ops Q S D (fuel + 1) listed a w := ⟨fun h0 => absurd (hr ▸ h0) hne, hr ▸ h⟩
theorem wpAnyD_done {listed : Array Bool} {a : Act} {w : World} (hr : Region.ready md ops listed = []) (h : Q .normal a w) : ∀ fuel, wpAnyD P md ops Q S D fuel listed a w
  | 0 => ⟨hr, h⟩
  | _ + 1 => ⟨fun _ => h, by rw [hr]; simp⟩
theorem wp_region_D {id : Nat} {a : Act} {w : World} (S : World → Prop) (dl : List Nat) (hm : P.follows .mixedOrders = true)
    (h : wpAnyD P .any ops Q S (inL dl) ops.size (Array.replicate ops.size false) a w.drew) : (Code.region id ops true).wp P Q a w :=
  wp_region_any hm (wpAny_of_D _ _ _ _ h)

/-- an append of one element, as one step of a region that draws -/
theorem step_append_one {a : Act} {w : World} {K : Act → World → Prop} {E : Prop} {o : Oper}
    (hg : o.guard = none) (s x : Operand) (t : TypeId) (hop : o.op = Op.call { callee := Callee.builtin Builtin.append, args := #[s, x], argTypes := #[t, t] })
    (base : Nat) (e : TypeId) (i : TypeInfo) (z : Value) (size bytes : Nat) (ht : P.underlying t = some (.slice e)) (hi : P.info? e = some i) (hz : i.zero = some z)
    (hsize : i.size = size) (hby : i.bytes = bytes) (hzs : z.cells.size = size) (hsz : 0 < size)
    (v : Value) (n : Nat) (xs : List Value) (hs : a.eval s = v) (hown : w.ownsRow base e size v n xs)
    (ad : Addr) (c : Nat) (news : List Value) (hx : a.eval x = .slice (some ad) 1 c) (hl : news.length = size) (hnews : ∀ j u, news[j]? = some u → w.cell? (ad.add j) = some u) (h1 : ∀ u ∈ news, u.oneCell' = true)
    (h63 : n + 1 ≤ maxLen) (hbytes : (n + 1) * bytes ≤ 140737488355328) (hbase : base ≤ w.heap.size)
    (hK : ∀ v' w', Appended w base e size v n (xs ++ news) v' w' → K (a.put o.dst v') w') :
    if Region.wanted o (yielded ops a.tmps) = true then Oper.wp P o a w K Q else E := by
  have hw : Region.wanted o (yielded ops a.tmps) = true := by simp [Region.wanted, hg]
  rw [if_pos hw]
  obtain ⟨v', w', hr, h2⟩ := run_append_one (P := P) w base t o.type e i z size bytes ht hi hz hsize hby hzs hsz v n xs hown ad c news hl hnews h1 h63 hbytes hbase
  unfold Oper.wp execOp
  simp only [hop, resolve, invoke, builtin, Sem.run_bind, Sem.run_pure, Result.andThen_ok, List.map_toArray, List.map_cons, List.map_nil, hs, hx, hr]
  exact hK v' w' h2
end

end Go.Proofs.YtgjmgneppecfgaaGreatDoor.Va
