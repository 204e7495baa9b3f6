/-
  FnFormat, texts VaS MbI MbJ MbP MbC VaN VaI: lemmas for the law; the theorem stands in the last text.
-/
import Derived.Test.YtgjmgneppecfgaaGreatDoorProg
import Derived.StringKeys
import Derived.Maps.RangeWalk
import Derived.Shelf.Unicode.DecodeAny
import Derived.Lib.ValidU
import Derived.Deep.RegionLaw
import Derived.Test.YtgjmgneppecfgaaGreatDoorJ02
import Derived.Test.YtgjmgneppecfgaaGreatDoorJ13
import Derived.Test.YtgjmgneppecfgaaGreatDoorJ14
namespace Go.Proofs.YtgjmgneppecfgaaGreatDoor.Va
open Go.RowKit
open Go.MapKept (Stamped IsKey)
open Go.WideElems (Fit rd rg rd_mk rg_of)
set_option linter.unusedVariables false
set_option linter.unusedSimpArgs false

theorem GM.lens {w : World} {S : Nat → Prop} : ∀ (vs : List V) (ks : List ByteArray) (es : List MapEntry), GM w S vs ks es → ks.length = vs.length ∧ es.length = vs.length ∧ es.map (·.key) = ks.map .string
  | [], ks, es, h => by rw [GM] at h; obtain ⟨rfl, rfl⟩ := h; exact ⟨rfl, rfl, rfl⟩
  | x :: xs, ks, es, h => by
    rw [GM] at h
    obtain ⟨k, ks', e, es', rfl, rfl, hk, hx, hr⟩ := h
    obtain ⟨h1, h2, h3⟩ := GM.lens xs ks' es' hr
    exact ⟨by simp [h1], by simp [h2], by simp [hk, h3]⟩
theorem GM.at {w : World} {S : Nat → Prop} : ∀ (vs : List V) (ks : List ByteArray) (es : List MapEntry), GM w S vs ks es → ∀ i (h1 : i < ks.length) (h2 : i < vs.length), ∃ e, es[i]? = some e ∧ e.key = .string ks[i] ∧ GV w S vs[i] e.val
  | [], ks, es, h, i, h1, h2 => by simp at h2
  | x :: xs, ks, es, h, i, h1, h2 => by
    rw [GM] at h
    obtain ⟨k, ks', e, es', rfl, rfl, hk, hx, hr⟩ := h
    cases i with
    | zero => exact ⟨e, rfl, hk, hx⟩
    | succ i =>
      obtain ⟨e', he, hk', hx'⟩ := GM.at xs ks' es' hr i (by simpa using h1) (by simpa using h2)
      exact ⟨e', by simpa using he, hk', hx'⟩

theorem ownsRow_slice {w : World} {base : Nat} {e : TypeId} {size : Nat} {v : Value} {n : Nat} {xs : List Value} (h : w.ownsRow base e size v n xs) : ∃ a c, v = .slice a n c := by
  rcases h.2 with ⟨rfl, rfl⟩ | ⟨g, cap, cur, rfl, _⟩
  · exact ⟨_, _, rfl⟩
  · exact ⟨_, _, rfl⟩
end Go.Proofs.YtgjmgneppecfgaaGreatDoor.Va
namespace Go.Proofs.YtgjmgneppecfgaaGreatDoor.Mb
open Go.RowKit Go.Proofs.YtgjmgneppecfgaaGreatDoor.Va Go.Proofs.YtgjmgneppecfgaaGreatDoor.Ba Go.Proofs.YtgjmgneppecfgaaGreatDoor.Ma
set_option linter.unusedVariables false
set_option linter.unusedSimpArgs false

/-- an entry as it is put into the row -/
def kvE (e : MapEntry) : KV := (match e.key with | .string s => s | _ => ⟨#[]⟩, if h : e.val.oneCell' = true then ⟨e.val, h⟩ else ⟨.nilIface, rfl⟩)
theorem gv_one {w : World} {S : Nat → Prop} {x : V} {g : Value} (h : GV w S x g) : g.oneCell' = true := by
  cases x with
  | mk k h' t ls ks vs =>
    rw [GV] at h
    rcases h with ⟨_, rfl⟩ | ⟨_, rfl⟩ | ⟨_, rfl⟩ | ⟨_, rfl⟩ | ⟨_, rfl⟩ | ⟨_, a, c, rfl, _⟩ | ⟨_, r, es, cl, rfl, _⟩
    · rfl
    · rfl
    · rfl
    · unfold gnum; split <;> rfl
    · rfl
    · rfl
    · rfl
theorem gm_kv {w : World} {S : Nat → Prop} {vs : List V} {ks : List ByteArray} {es : List MapEntry} (h : GM w S vs ks es) : (es.map kvE).map (·.1) = ks ∧ ∀ i (hi : i < (es.map kvE).length) (h2 : i < vs.length), GV w S vs[i] ((es.map kvE)[i]).2.1 := by
  obtain ⟨l1, l2, l3⟩ := GM.lens vs ks es h
  refine ⟨?_, fun i hi h2 => ?_⟩
  · rw [List.map_map]
    have := congrArg (List.map fun v => match v with | Value.string s => s | _ => (⟨#[]⟩ : ByteArray)) l3
    rw [List.map_map, List.map_map] at this
    refine Eq.trans (Eq.trans ?_ this) ?_
    · rfl
    · conv => rhs; rw [← List.map_id ks]
      rfl
  · obtain ⟨e, he, hk, hv⟩ := GM.at vs ks es h i (by omega) h2
    rw [List.getElem_map]
    have : es[i]'(by rw [List.length_map] at hi; exact hi) = e := by
      have := List.getElem?_eq_getElem (l := es) (i := i) (by rw [List.length_map] at hi; exact hi)
      rw [this] at he
      exact Option.some.inj he
    rw [this]
    unfold kvE
    rw [dif_pos (gv_one hv)]
    exact hv
/-- the row's cells -/
def KvRow (blk n : Nat) (L : List KV) (w : World) : Prop :=
  ∃ cs : Array Value, w.heap[blk]? = some (.cells cs 194 (0, 0)) ∧ cs.size = n * 2 ∧ L.length ≤ n ∧ ∀ j (hj : j < L.length), cs[j * 2]? = some (.string L[j].1) ∧ cs[j * 2 + 1]? = some L[j].2.1
theorem KvRow.same {blk n : Nat} {L : List KV} {w w' : World} (h : KvRow blk n L w) (hk : w'.heap[blk]? = w.heap[blk]?) : KvRow blk n L w' := by
  obtain ⟨cs, h1, h2⟩ := h
  exact ⟨cs, hk.trans h1, h2⟩
theorem KvRow.push {blk n : Nat} {L : List KV} {w : World} {x : KV} (h : KvRow blk n L w) (hn : L.length < n) : KvRow blk n (L ++ [x]) ((w.setCell ⟨blk, L.length * 2, none⟩ (.string x.1)).setCell ⟨blk, L.length * 2 + 1, none⟩ x.2.1) := by
  obtain ⟨cs, h1, h2, h3, h4⟩ := h
  have q1 := set_block h1 (L.length * 2) (.string x.1)
  have q2 := set_block q1 (L.length * 2 + 1) x.2.1
  refine ⟨_, q2, by simp [h2], by simp; omega, fun j hj => ?_⟩
  rw [List.length_append, List.length_singleton] at hj
  by_cases hjl : j < L.length
  · have e : (L ++ [x])[j]'(by simp; omega) = L[j] := List.getElem_append_left hjl
    rw [e, Array.getElem?_setIfInBounds, Array.getElem?_setIfInBounds, if_neg (by omega), if_neg (by omega), Array.getElem?_setIfInBounds, Array.getElem?_setIfInBounds, if_neg (by omega), if_neg (by omega)]
    exact h4 j hjl
  · obtain rfl : j = L.length := by omega
    have e : (L ++ [x])[L.length]'(by simp) = x := by simp
    rw [e, Array.getElem?_setIfInBounds, Array.getElem?_setIfInBounds, if_neg (by omega), if_pos rfl, if_pos (by omega), Array.getElem?_setIfInBounds, if_pos rfl, if_pos (by simp; omega)]
    exact ⟨rfl, rfl⟩
theorem KvRow.cell {blk n : Nat} {L : List KV} {w : World} (h : KvRow blk n L w) {j : Nat} (hj : j < L.length) : w.cell? ⟨blk, j * 2, none⟩ = some (.string L[j].1) ∧ w.cell? ⟨blk, j * 2 + 1, none⟩ = some L[j].2.1 := by
  obtain ⟨cs, h1, h2, h3, h4⟩ := h
  exact ⟨cell_of h1 _ (h4 j hj).1, cell_of h1 _ (h4 j hj).2⟩
theorem KvRow.slot {blk n : Nat} {L : List KV} {w : World} (h : KvRow blk n L w) {j : Nat} (hj : j < n) : (∃ v, w.cell? ⟨blk, j * 2, none⟩ = some v) ∧ (∃ v, w.cell? ⟨blk, j * 2 + 1, none⟩ = some v) ∧ w.frozen? ⟨blk, j * 2, none⟩ = false ∧ w.frozen? ⟨blk, j * 2 + 1, none⟩ = false := by
  obtain ⟨cs, h1, h2, h3, h4⟩ := h
  exact ⟨⟨_, cell_of h1 _ (Array.getElem?_eq_getElem (by omega))⟩, ⟨_, cell_of h1 _ (Array.getElem?_eq_getElem (by omega))⟩, free_of h1 _, free_of h1 _⟩
theorem KvRow.holds {blk n : Nat} {L : List KV} {w : World} (h : KvRow blk n L w) (hn : L.length = n) : Sort.HoldsK encKV 2 w blk 0 L.toArray := by
  intro t ht
  rw [Sort.size_flatK, List.size_toArray] at ht
  have hj : t / 2 < L.length := by omega
  obtain ⟨c1, c2⟩ := h.cell hj
  have hL : L.toArray[t / 2]! = L[t / 2] := by simp [hj]
  rw [Sort.get_flatK _ _ _ _ (by rw [List.size_toArray]; exact ht), hL, Nat.zero_add]
  obtain ⟨cs, h1, _⟩ := h
  refine ⟨?_, free_of h1 _⟩
  rcases Nat.mod_two_eq_zero_or_one t with q | q
  · rw [q]
    have e : t = t / 2 * 2 := by omega
    exact (congrArg (fun u => w.cell? ⟨blk, u, none⟩) e).trans c1
  · rw [q]
    have e : t = t / 2 * 2 + 1 := by omega
    exact (congrArg (fun u => w.cell? ⟨blk, u, none⟩) e).trans c2
/-- .. and back, behind the sort -/
theorem KvRow.of_holds {blk n : Nat} {d : Array KV} {w : World} {cs : Array Value} (hb : w.heap[blk]? = some (.cells cs 194 (0, 0))) (hs : Sort.HoldsK encKV 2 w blk 0 d) (i : Nat) (hi : i < d.toList.length) :
    w.cell? ⟨blk, i * 2, none⟩ = some (.string (d.toList[i]).1) ∧ w.cell? ⟨blk, i * 2 + 1, none⟩ = some (d.toList[i]).2.1 := by
  have hi' : i < d.size := hi
  have h0 := (hs.cell (i := i) (c := 0) hi' (by decide)).1
  have h1 := (hs.cell (i := i) (c := 1) hi' (by decide)).1
  have e : d[i]! = d.toList[i] := by rw [getElem!_pos d i hi']; rfl
  rw [e] at h0 h1
  rw [Nat.zero_add, Nat.add_zero] at h0
  rw [Nat.zero_add] at h1
  exact ⟨h0, h1⟩
/-- sorted by the keys, which are apart, the entries stand in their order -/
theorem sorted_is {T l : List KV} (hp : l.Perm T) (hs : ∀ i j (hi : i < j) (hj : j < l.length), ltKV l[j] (l[i]'(by omega)) = false) (hr : Rising (T.map (·.1))) : l = T := by
  have hT : ∀ i j (hi : i < j) (hj : j < T.length), ltKV (T[i]'(by omega)) T[j] = true := fun i j hi hj => by
    have := Rising.less hr i j (by simpa using hj) hi
    simpa [ltKV] using this
  refine List.Perm.eq_of_pairwise (le := fun a b => ltKV b a = false) ?_ ?_ ?_ hp
  · intro a b ha hb h1 h2
    obtain ⟨i, hi, rfl⟩ := List.getElem_of_mem (hp.mem_iff.1 ha)
    obtain ⟨j, hj, rfl⟩ := List.getElem_of_mem hb
    rcases Nat.lt_trichotomy i j with q | q | q
    · have := hT i j q hj
      rw [this] at h2
      cases h2
    · subst q; rfl
    · have := hT j i q hi
      rw [this] at h1
      cases h1
  · rw [List.pairwise_iff_getElem]
    intro i j hi hj hij
    exact hs i j hij hj
  · rw [List.pairwise_iff_getElem]
    intro i j hi hj hij
    have h1 := hT i j hij hj
    have := swo_kv.trans (T[i]) (T[j]) (T[i]) h1
    cases q : ltKV T[j] T[i] with
    | false => rfl
    | true => rw [swo_kv.irrefl] at this; exact (this q).symm
end Go.Proofs.YtgjmgneppecfgaaGreatDoor.Mb
namespace Go.Proofs.YtgjmgneppecfgaaGreatDoor.Mb
open Go.RowKit Go.Proofs.YtgjmgneppecfgaaGreatDoor.Va Go.Proofs.YtgjmgneppecfgaaGreatDoor.Ba Go.Proofs.YtgjmgneppecfgaaGreatDoor.Ma
set_option linter.unusedVariables false
set_option linter.unusedSimpArgs false

theorem gv_shape {w : World} {S : Nat → Prop} {x : V} {g : Value} (h : GV w S x g) : g = .nilIface ∨ ∃ t x, g = .iface t x := by
  cases x with
  | mk k h' t ls ks vs =>
    rw [GV] at h
    rcases h with ⟨_, rfl⟩ | ⟨_, rfl⟩ | ⟨_, rfl⟩ | ⟨_, rfl⟩ | ⟨_, rfl⟩ | ⟨_, a, c, rfl, _⟩ | ⟨_, r, es, cl, rfl, _⟩
    · exact .inl rfl
    · exact .inr ⟨_, _, rfl⟩
    · exact .inr ⟨_, _, rfl⟩
    · unfold gnum; split <;> exact .inr ⟨_, _, rfl⟩
    · exact .inr ⟨_, _, rfl⟩
    · exact .inr ⟨_, _, rfl⟩
    · exact .inr ⟨_, _, rfl⟩
end Go.Proofs.YtgjmgneppecfgaaGreatDoor.Mb
namespace Go.Proofs.YtgjmgneppecfgaaGreatDoor.Mb
open Go.RowKit Go.Proofs.YtgjmgneppecfgaaGreatDoor.Va Go.Proofs.YtgjmgneppecfgaaGreatDoor.Ba Go.Proofs.YtgjmgneppecfgaaGreatDoor.Ma
set_option linter.unusedVariables false
set_option linter.unusedSimpArgs false

/-- well-formed from here on -/
def Val (l : List UInt8) : Prop := ∃ n, l.length ≤ n ∧ Lib.validGoD n l = true
theorem val_of {l : List UInt8} (h : Lib.validD l = true) : Val l := ⟨l.length, Nat.le_refl _, h⟩
theorem get_list (l : List UInt8) (k : Nat) : (⟨l.toArray⟩ : ByteArray).get! k = l.getD k 0 := by
  unfold ByteArray.get!
  simp [getElem!_def, List.getD]
  rfl
theorem extract_drop (s : ByteArray) (i : Nat) : s.extract i s.size = ⟨(s.data.toList.drop i).toArray⟩ := by
  apply ByteArray.ext
  rw [ByteArray.data_extract]
  apply Array.ext'
  rw [Array.toList_extract]
  show (s.data.toList.drop i).take (s.size - i) = s.data.toList.drop i
  exact List.take_of_length_le (by rw [List.length_drop]; exact Nat.le_refl _)
theorem decodeN_spec (n b0 b1 b2 b3 : Nat) (h0 : 128 ≤ b0) : Lib.decodeN n b0 b1 b2 b3 = (65533, 1) ∨ ((Lib.decodeN n b0 b1 b2 b3).2 = 2 ∧ 1 < n ∧ b1 / 64 = 2) ∨ ((Lib.decodeN n b0 b1 b2 b3).2 = 3 ∧ 2 < n ∧ b1 / 64 = 2 ∧ b2 / 64 = 2) ∨
    ((Lib.decodeN n b0 b1 b2 b3).2 = 4 ∧ 3 < n ∧ b1 / 64 = 2 ∧ b2 / 64 = 2 ∧ b3 / 64 = 2) := by
  unfold Lib.decodeN
  rw [if_neg (by omega)]
  repeat' split
  all_goals simp_all
theorem bytesN_drop (s : ByteArray) (i k : Nat) : ((s.data.toList.drop i).getD k 0).toNat = (bytesN s).getD (i + k) 0 := by
  unfold bytesN
  rw [List.getD, List.getD, List.getElem?_drop, List.getElem?_map]
  cases s.data.toList[i + k]? <;> rfl
/-- one character -/
theorem dec_step (s : ByteArray) (i : Nat) (hi : i < s.size) (hv : Val (s.data.toList.drop i)) :
    1 ≤ (Lib.decodeGo (s.extract i s.size)).2 ∧ i + (Lib.decodeGo (s.extract i s.size)).2 ≤ s.size ∧ Val (s.data.toList.drop (i + (Lib.decodeGo (s.extract i s.size)).2)) ∧
      ((bytesN s).getD i 0 < 128 → (Lib.decodeGo (s.extract i s.size)).2 = 1) ∧
      (128 ≤ (bytesN s).getD i 0 → 2 ≤ (Lib.decodeGo (s.extract i s.size)).2 ∧ ∀ j, i ≤ j → j < i + (Lib.decodeGo (s.extract i s.size)).2 → 128 ≤ (bytesN s).getD j 0) := by
  have hlen : s.data.toList.length = s.size := rfl
  have hd : Lib.decodeGo (s.extract i s.size) = Lib.decodeL (s.data.toList.drop i) := by
    unfold Lib.decodeGo Lib.decodeL
    rw [extract_drop, if_neg]
    show ¬ (s.data.toList.drop i).toArray.size = 0
    simp
    omega
  have hN : Lib.decodeL (s.data.toList.drop i) = Lib.decodeN (s.size - i) ((bytesN s).getD i 0) ((bytesN s).getD (i + 1) 0) ((bytesN s).getD (i + 2) 0) ((bytesN s).getD (i + 3) 0) := by
    unfold Lib.decodeL
    rw [Lib.decode_at, get_list, get_list, get_list, get_list, bytesN_drop, bytesN_drop, bytesN_drop, bytesN_drop]
    congr 1
    show (s.data.toList.drop i).toArray.size - 0 = s.size - i
    simp
  rw [hd]
  obtain ⟨n, hn, hv⟩ := hv
  rw [List.length_drop] at hn
  obtain ⟨m, rfl⟩ : ∃ m, n = m + 1 := ⟨n - 1, by omega⟩
  rw [Lib.validGoD] at hv
  have hne : s.data.toList.drop i ≠ [] := fun e => by have := congrArg List.length e; rw [List.length_drop] at this; simp at this; omega
  rw [if_neg hne] at hv
  split at hv
  · cases hv
  rename_i hgood
  rw [List.drop_drop] at hv
  rw [hN] at hv hgood ⊢
  by_cases h0 : (bytesN s).getD i 0 < 128
  · have e : Lib.decodeN (s.size - i) ((bytesN s).getD i 0) ((bytesN s).getD (i + 1) 0) ((bytesN s).getD (i + 2) 0) ((bytesN s).getD (i + 3) 0) = ((bytesN s).getD i 0, 1) := by
      unfold Lib.decodeN; rw [if_pos h0]
    rw [e] at hv ⊢
    refine ⟨Nat.le_refl _, hi, ⟨m, ?_, hv⟩, fun _ => rfl, fun q => by omega⟩
    rw [List.length_drop]
    show _ - (i + 1) ≤ _
    omega
  · rcases decodeN_spec (s.size - i) _ ((bytesN s).getD (i + 1) 0) ((bytesN s).getD (i + 2) 0) ((bytesN s).getD (i + 3) 0) (show 128 ≤ (bytesN s).getD i 0 by omega) with e | ⟨e, q1, q2⟩ | ⟨e, q1, q2, q3⟩ | ⟨e, q1, q2, q3, q4⟩
    · exact absurd ⟨by rw [e], by rw [e]⟩ hgood
    all_goals
      rw [e] at hv ⊢
      refine ⟨by decide, by omega, ⟨m, by rw [List.length_drop]; omega, hv⟩, fun q => by omega, fun _ => ⟨by decide, fun j h1 h2 => ?_⟩⟩
      rcases (show j = i ∨ j = i + 1 ∨ j = i + 2 ∨ j = i + 3 by omega) with rfl | rfl | rfl | rfl
      all_goals omega
theorem val_one (s : ByteArray) (i : Nat) (hi : i < s.size) (hv : Val (s.data.toList.drop i)) (h : (bytesN s).getD i 0 < 128) : Val (s.data.toList.drop (i + 1)) := by
  obtain ⟨_, _, h1, h2, _⟩ := dec_step s i hi hv
  rwa [h2 h] at h1
/-- bytes that stand for themselves -/
theorem escL_plain : ∀ (l : List Nat), (∀ x ∈ l, plainB x = true) → escL l = l
  | [], _ => rfl
  | x :: xs, h => by
    have h1 := h x List.mem_cons_self
    have h2 := escL_plain xs (fun y hy => h y (List.mem_cons_of_mem _ hy))
    unfold escL at *
    rw [List.flatMap_cons, h2]
    unfold escB
    rw [if_pos h1]
    rfl
theorem escL_app (a b : List Nat) : escL (a ++ b) = escL a ++ escL b := by unfold escL; rw [List.flatMap_append]
theorem bytesN_extract2 (s : ByteArray) (a b : Nat) : bytesN (s.extract a b) = ((bytesN s).take b).drop a := by
  unfold bytesN
  rw [ByteArray.data_extract, Array.toList_extract]
  simp [List.extract, List.map_drop, List.map_take, List.drop_take]
/-- a part that stands for itself -/
theorem escL_part {l : List Nat} {a b : Nat} (hab : a ≤ b) (hb : b ≤ l.length) (h : ∀ j, a ≤ j → j < b → plainB (l.getD j 0) = true) : escL (l.take b) = escL (l.take a) ++ (l.take b).drop a := by
  have e : l.take b = l.take a ++ (l.take b).drop a := by
    have := List.take_append_drop a (l.take b)
    rw [List.take_take, Nat.min_eq_left hab] at this
    exact this.symm
  conv => lhs; rw [e, escL_app]
  rw [escL_plain ((l.take b).drop a)]
  intro x hx
  obtain ⟨j, hj, rfl⟩ := List.getElem_of_mem hx
  rw [List.length_drop, List.length_take] at hj
  have := h (a + j) (by omega) (by omega)
  rw [List.getD, List.getElem?_eq_getElem (by omega)] at this
  simpa using this
theorem esc_mid (s : ByteArray) (st i : Nat) (hst : st ≤ i) (hi : i ≤ s.size) (h : ∀ j, st ≤ j → j < i → plainB ((bytesN s).getD j 0) = true) : escL ((bytesN s).take i) = escL ((bytesN s).take st) ++ bytesN (s.extract st i) := by
  rw [escL_part hst (by rw [bytesN_len]; exact hi) h, bytesN_extract2]
theorem take_all (s : ByteArray) : (bytesN s).take s.size = bytesN s := List.take_of_length_le (by rw [bytesN_len]; exact Nat.le_refl _)
theorem esc_len (s : ByteArray) (i : Nat) (hi : i ≤ s.size) : (escL ((bytesN s).take i)).length ≤ 6 * i := by
  have := escL_len ((bytesN s).take i)
  rw [List.length_take, bytesN_len] at this
  omega
theorem esc_next (s : ByteArray) (i x : Nat) (hi : i < s.size) (hx : (bytesN s).getD i 0 = x) : escL ((bytesN s).take (i + 1)) = escL ((bytesN s).take i) ++ escB x := by
  rw [List.take_succ_eq_append_getElem (by rw [bytesN_len]; exact hi), escL_app]
  congr 1
  have e : (bytesN s)[i]'(by rw [bytesN_len]; exact hi) = x := by
    rw [← hx, List.getD, List.getElem?_eq_getElem (by rw [bytesN_len]; exact hi)]
    rfl
  rw [e]
  unfold escL
  simp
theorem extract_size (s : ByteArray) (a b : Nat) (hb : b ≤ s.size) : (s.extract a b).size = b - a := by
  have := bytesN_len (s.extract a b)
  rw [bytesN_extract2, List.length_drop, List.length_take, bytesN_len] at this
  omega
end Go.Proofs.YtgjmgneppecfgaaGreatDoor.Mb
namespace Go.Proofs.YtgjmgneppecfgaaGreatDoor.Mb
open Go.RowKit Go.Proofs.YtgjmgneppecfgaaGreatDoor.Va Go.Proofs.YtgjmgneppecfgaaGreatDoor.Ba Go.Proofs.YtgjmgneppecfgaaGreatDoor.Ma
open Ieee
set_option linter.unusedVariables false
set_option linter.unusedSimpArgs false

theorem read_max : Ieee.double.read 9218868437227405311 = .number false 9007199254740991 971 := by rfl
theorem read_min : Ieee.double.read 18442240474082181119 = .number true 9007199254740991 971 := by rfl
theorem read_zero : Ieee.double.read 0 = .number false 0 (-1074) := by rfl
theorem read_tiny : Ieee.double.read 4517329193108106637 = .number false 4722366482869645 (-72) := by rfl
theorem read_huge : Ieee.double.read 4921056587992461136 = .number false 7629394531250000 17 := by rfl
theorem ord_gt {x y : Nat} {s t : Bool} {M N : Nat} {i j : Int} (hx : Ieee.double.read x = .number s M i) (hy : Ieee.double.read y = .number t N j)
    (h : signed t N (j - min i j).toNat < signed s M (i - min i j).toNat) : Ieee.double.order x y = some .gt := by
  rw [Ieee.Format.order, hx, hy]
  simp only [Datum.order]
  exact congrArg some (cmp_gt h)
theorem ord_lt {x y : Nat} {s t : Bool} {M N : Nat} {i j : Int} (hx : Ieee.double.read x = .number s M i) (hy : Ieee.double.read y = .number t N j)
    (h : signed s M (i - min i j).toNat < signed t N (j - min i j).toNat) : Ieee.double.order x y = some .lt := by
  rw [Ieee.Format.order, hx, hy]
  simp only [Datum.order]
  exact congrArg some (cmp_lt h)
section
variable {x k M : Nat} {s : Bool}
theorem mul_pow_le {M N a : Nat} (h : M < N) : M < N * 2 ^ a := Nat.lt_of_lt_of_le h (Nat.le_mul_of_pos_right _ (Nat.pow_pos (by decide)))
theorem ord_max (hx : Ieee.double.read x = .number s M (-1 - k)) (hk : k ≤ 52) (hi : M < 9007199254740992) : Ieee.double.order x 9218868437227405311 = some .lt := by
  refine ord_lt hx read_max ?_
  have e1 : ((-1 - (k : Int)) - min (-1 - (k : Int)) 971).toNat = 0 := by omega
  have e2 : ((971 : Int) - min (-1 - (k : Int)) 971).toNat = 1 + (971 + k) := by omega
  rw [e1, e2]
  unfold signed
  rw [Nat.shiftLeft_zero, Nat.shiftLeft_eq, Nat.pow_add, ← Nat.mul_assoc]
  have := mul_pow_le (M := M) (N := 9007199254740991 * 2 ^ 1) (a := 971 + k) (by omega)
  generalize 9007199254740991 * 2 ^ 1 * 2 ^ (971 + k) = q at *
  cases s <;> simp <;> omega
theorem ord_min (hx : Ieee.double.read x = .number s M (-1 - k)) (hk : k ≤ 52) (hi : M < 9007199254740992) : Ieee.double.order x 18442240474082181119 = some .gt := by
  refine ord_gt hx read_min ?_
  have e1 : ((-1 - (k : Int)) - min (-1 - (k : Int)) 971).toNat = 0 := by omega
  have e2 : ((971 : Int) - min (-1 - (k : Int)) 971).toNat = 1 + (971 + k) := by omega
  rw [e1, e2]
  unfold signed
  rw [Nat.shiftLeft_zero, Nat.shiftLeft_eq, Nat.pow_add, ← Nat.mul_assoc]
  have := mul_pow_le (M := M) (N := 9007199254740991 * 2 ^ 1) (a := 971 + k) (by omega)
  generalize 9007199254740991 * 2 ^ 1 * 2 ^ (971 + k) = q at *
  cases s <;> simp <;> omega
theorem ord_self (hx : Ieee.double.read x = .number s M (-1 - k)) : Ieee.double.order x x = some .eq := by
  rw [Ieee.Format.order, hx]
  simp only [Datum.order, cmp_self]
theorem ord_zero (hx : Ieee.double.read x = .number false M (-1 - k)) (hk : k ≤ 52) (lo : 4503599627370496 ≤ M) : Ieee.double.order x 0 = some .gt := by
  refine ord_gt hx read_zero ?_
  have e1 : ((-1 - (k : Int)) - min (-1 - (k : Int)) (-1074)).toNat = 1073 - k := by omega
  have e2 : ((-1074 : Int) - min (-1 - (k : Int)) (-1074)).toNat = 0 := by omega
  rw [e1, e2]
  unfold signed
  rw [Nat.shiftLeft_zero, Nat.shiftLeft_eq]
  have := mul_pow_le (M := 0) (N := M) (a := 1073 - k) (by omega)
  generalize M * 2 ^ (1073 - k) = q at *
  simp
  omega
theorem ord_tiny (hx : Ieee.double.read x = .number false M (-1 - k)) (hk : k ≤ 52) (lo : 4503599627370496 ≤ M) : Ieee.double.order x 4517329193108106637 = some .gt := by
  refine ord_gt hx read_tiny ?_
  have e1 : ((-1 - (k : Int)) - min (-1 - (k : Int)) (-72)).toNat = 1 + (70 - k) := by omega
  have e2 : ((-72 : Int) - min (-1 - (k : Int)) (-72)).toNat = 0 := by omega
  rw [e1, e2]
  unfold signed
  rw [Nat.shiftLeft_zero, Nat.shiftLeft_eq, Nat.pow_add, ← Nat.mul_assoc]
  have := mul_pow_le (M := 4722366482869645) (N := M * 2 ^ 1) (a := 70 - k) (by omega)
  generalize M * 2 ^ 1 * 2 ^ (70 - k) = q at *
  simp
  omega
theorem ord_huge (hx : Ieee.double.read x = .number false M (-1 - k)) (hk : k ≤ 52) (hi : M < 9007199254740992) : Ieee.double.order x 4921056587992461136 = some .lt := by
  refine ord_lt hx read_huge ?_
  have e1 : ((-1 - (k : Int)) - min (-1 - (k : Int)) 17).toNat = 0 := by omega
  have e2 : ((17 : Int) - min (-1 - (k : Int)) 17).toNat = 1 + (17 + k) := by omega
  rw [e1, e2]
  unfold signed
  rw [Nat.shiftLeft_zero, Nat.shiftLeft_eq, Nat.pow_add, ← Nat.mul_assoc]
  have := mul_pow_le (M := M) (N := 7629394531250000 * 2 ^ 1) (a := 17 + k) (by omega)
  generalize 7629394531250000 * 2 ^ 1 * 2 ^ (17 + k) = q at *
  simp
  omega
end
/-- the word without its sign -/
theorem abs_word {h : Int} {s : Bool} {M k : Nat} (H : Half h s M k) : Ieee.double.read (fl h % 9223372036854775808) = .number false M (-1 - k) := by
  obtain ⟨h1, h2, h3, h4⟩ := wd_parts H
  have hB : B = 4503599627370496 := by unfold B; decide
  have e : fl h % 9223372036854775808 = wd false M (-1 - k) := by
    unfold wd
    rw [word_eq, hB, show (-1 - (k : Int) + 1074).toNat = 1073 - k by omega]
    rw [h1]
    have hp : 1074 - k = (1073 - k) + 1 := by omega
    rw [hp]
    cases s <;> simp <;> omega
  rw [e]
  exact read_wd false M _ (by rw [hB]; exact h3) (by rw [hB]; omega) (by omega) (by omega)
end Go.Proofs.YtgjmgneppecfgaaGreatDoor.Mb
namespace Go.Proofs.YtgjmgneppecfgaaGreatDoor.Va
open Go.RowKit
set_option linter.unusedVariables false
set_option linter.unusedSimpArgs false

/-- the values' part: each of the first k values is read out of the cells cs, in blocks that are neither row's -/
def Kids (base : Nat) (vs : List V) (k : Nat) (kv vv : Value) (cs : List Value) (w : World) : Prop :=
  ∀ i (hi : i < k) (hl : i < vs.length), ∃ c0 c1 c2 c3 c4 c5, SixAt cs (i * 6) c0 c1 c2 c3 c4 c5 ∧ RV w (fun r => base ≤ r ∧ some r ≠ kv.ownBlock ∧ some r ≠ vv.ownBlock) vs[i] (.agg #[c0, c1, c2, c3, c4, c5])
structure MRows (base : Nat) (ks : List ByteArray) (vs : List V) (k : Nat) (kv vv : Value) (cs : List Value) (w : World) : Prop where
  keys : w.ownsRow base 9 1 kv k ((ks.take k).map .string)
  vals : w.ownsRow base 27 6 vv k cs
  apart : ∀ b, kv.ownBlock = some b → vv.ownBlock ≠ some b
  kids : Kids base vs k kv vv cs w
/-- a row of texts, read in memory -/
theorem RK.of {w : World} {S : Nat → Prop} : ∀ (l : List ByteArray) (b o : Nat), (0 < l.length → S b) → (∀ i (hi : i < l.length), w.cell? ⟨b, o + i, none⟩ = some (.string l[i])) → RK w S l (some ⟨b, o, none⟩)
  | [], b, o, _, _ => trivial
  | x :: xs, b, o, hS, h => ⟨b, o, rfl, hS (by simp), h 0 (by simp), RK.of xs b (o + 1) (fun _ => hS (by simp)) fun i hi => by
      have := h (i + 1) (by simpa using hi)
      rw [show o + 1 + i = o + (i + 1) by omega]
      exact this⟩
theorem ownsRow_cell {w : World} {base : Nat} {e : TypeId} {size g n c : Nat} {xs : List Value} (h : w.ownsRow base e size (.slice (some ⟨g, 0, none⟩) n c) n xs) (j : Nat) {v : Value} (hj : xs[j]? = some v) : w.cell? ⟨g, j, none⟩ = some v ∧ w.frozen? ⟨g, j, none⟩ = false := by
  rcases h.2 with ⟨h0, _⟩ | ⟨g', cap, cur, e, _, hg, _, _, _, htake⟩
  · cases h0
  · cases e
    refine ⟨cell_of hg j ?_, free_of hg j⟩
    rw [← htake, List.getElem?_take] at hj
    split at hj
    · simpa using hj
    · cases hj
end Go.Proofs.YtgjmgneppecfgaaGreatDoor.Va
namespace Go.Proofs.YtgjmgneppecfgaaGreatDoor.Va
open Go.RowKit
open Go.MapKept (Stamped IsKey)
set_option linter.unusedVariables false
set_option linter.unusedSimpArgs false

theorem infoStr : (Tryz.prog.info? 9).map (fun i => (i.zero, i.size, i.bytes)) = some (some (.string ⟨#[]⟩), 1, 16) := by kernel_rfl

theorem MRows.ne {base : Nat} {ks : List ByteArray} {vs : List V} {k : Nat} {kv vv : Value} {cs : List Value} {w : World} (h : MRows base ks vs k kv vv cs w) : vv.ownBlock = none ∨ vv.ownBlock ≠ kv.ownBlock := by
  cases e : vv.ownBlock with
  | none => exact .inl rfl
  | some b => exact .inr fun f => h.apart b f.symm e
end Go.Proofs.YtgjmgneppecfgaaGreatDoor.Va
