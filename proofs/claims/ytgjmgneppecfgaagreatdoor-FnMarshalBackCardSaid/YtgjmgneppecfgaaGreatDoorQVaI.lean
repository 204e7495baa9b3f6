/-
  THE WALK of mapFromGo: given that fromGo serves each value.
-/
import Derived.Test.YtgjmgneppecfgaaGreatDoorQ02
import Derived.Deep.RegionLaw
set_option linter.unusedVariables false
set_option linter.unusedSimpArgs false
namespace Go.Proofs.YtgjmgneppecfgaaGreatDoor.Va
open Go.RowKit
open Go.MapKept (Stamped IsKey)
set_option linter.unusedVariables false
set_option linter.unusedSimpArgs false

theorem infoStr : (Tryz.prog.info? 9).map (fun i => (i.zero, i.size, i.bytes)) = some (some (.string ⟨#[]⟩), 1, 16) := by kernel_rfl

/-- what mapFromGo returns -/
def MapFromGo (ks : List ByteArray) (vs : List V) (w : World) (e : Ending) (w' : World) : Prop :=
  ∃ ka kc va vc, e = .returned (.tuple #[.agg #[.int .i64 6, .int .i64 0, .string ⟨#[]⟩, .slice none 0 0, .slice ka ks.length kc, .slice va vs.length vc], .bool true]) ∧ RK w' (fun r => w.heap.size ≤ r) ks ka ∧ RL w' (fun r => w.heap.size ≤ r) vs va ∧ Below w.heap.size w w'

def LoopG (sa : Option Addr) (n sc base : Nat) (ks : List ByteArray) (vs : List V) (w : World) (i : Value) (wr : World) : Prop :=
  ∃ (k : Nat) (kv vv : Value) (cs : List Value), i = .int .i64 k ∧ k ≤ n ∧ wr.heap[w.heap.size]? = some (.cells #[.int .i64 0, .int .i64 0, .string ⟨#[]⟩, .slice none 0 0, .slice none 0 0, .slice none 0 0] 27 (0, 0)) ∧
    wr.heap[w.heap.size + 1]? = some (.cells #[.int .i64 6, .int .i64 0, .string ⟨#[]⟩, .slice none 0 0, kv, vv] 27 (0, 0)) ∧ wr.ownsRow (w.heap.size + 2) 9 1 (.slice sa n sc) n (ks.map .string) ∧ (∀ b, (Value.slice sa n sc).ownBlock = some b → b < base) ∧ base ≤ wr.heap.size ∧ w.heap.size + 2 ≤ base ∧
    MRows base ks vs k kv vv cs wr ∧ Below w.heap.size w wr

theorem blocks2 (w : World) (A B : Obj) : (((w.alloc A).alloc B).heap[w.heap.size]? = some A ∧ ((w.alloc A).alloc B).heap[w.heap.size + 1]? = some B) ∧ Below w.heap.size w ((w.alloc A).alloc B) ∧ ((w.alloc A).alloc B).heap.size = w.heap.size + 1 + 1 := by
  have h2 := heap_alloc_new (w.alloc A) B
  rw [World.size_alloc] at h2
  exact ⟨⟨block_past (heap_alloc_new w A) _, h2⟩, by go_grown, by simp⟩
theorem ownsRow_addr {w : World} {base : Nat} {e : TypeId} {size n c : Nat} {a : Option Addr} {xs : List Value} (h : w.ownsRow base e size (.slice a n c) n xs) (hn : 0 < n) : ∃ g, a = some ⟨g, 0, none⟩ := by
  rcases h.2 with ⟨_, h0⟩ | ⟨g, cap, cur, e, _⟩
  · omega
  · cases e; exact ⟨g, rfl⟩
theorem GM.isKey {w : World} {S : Nat → Prop} {vs : List V} {ks : List ByteArray} {es : List MapEntry} (h : GM w S vs ks es) : ∀ x ∈ es, IsKey .string x.key := by
  intro x hx
  have : x.key ∈ es.map (·.key) := List.mem_map.2 ⟨x, hx, rfl⟩
  rw [(GM.lens vs ks es h).2.2] at this
  obtain ⟨s, _, e⟩ := List.mem_map.1 this
  rw [← e]; trivial
theorem loopG_start {sa : Option Addr} {n sc : Nat} {ks : List ByteArray} {vs : List V} {w w1 : World} (h0 : w1.heap[w.heap.size]? = some (.cells #[.int .i64 0, .int .i64 0, .string ⟨#[]⟩, .slice none 0 0, .slice none 0 0, .slice none 0 0] 27 (0, 0)))
    (h1 : w1.heap[w.heap.size + 1]? = some (.cells #[.int .i64 6, .int .i64 0, .string ⟨#[]⟩, .slice none 0 0, .slice none 0 0, .slice none 0 0] 27 (0, 0))) (hrow : w1.ownsRow (w.heap.size + 1 + 1 + 1) 9 1 (.slice sa n sc) n (ks.map .string)) (hsz : w.heap.size + 2 ≤ w1.heap.size) (hB : Below w.heap.size w w1) :
    LoopG sa n sc w1.heap.size ks vs w (.int .i64 0) w1 :=
  ⟨0, _, _, [], rfl, Nat.zero_le _, h0, h1, ⟨hrow.1, hrow.2.imp id fun ⟨g, cap, cur, a, b, c⟩ => ⟨g, cap, cur, a, by omega, c⟩⟩, fun b hb => (hrow.lt b hb).2, Nat.le_refl _, hsz, MRows.nil _ _ _ _, hB⟩


theorem cells_in {w : World} {b : Nat} {cs : Array Value} {t : TypeId} (h : w.heap[b]? = some (.cells cs t (0, 0))) : ∀ j u, cs.toList[j]? = some u → w.cell? ((⟨b, 0, none⟩ : Addr).add j) = some u := by
  intro j u hu
  have hadd : (⟨b, 0, none⟩ : Addr).add j = ⟨b, j, none⟩ := by unfold Addr.add; split <;> simp_all
  rw [hadd]
  exact cell_of h j (by simpa using hu)
theorem block_top (w : World) (o : Obj) (cs : Array Value) {t : TypeId} : ((w.alloc o).alloc (.cells cs t)).heap[w.heap.size + 1]? = some (.cells cs t (0, 0)) := by
  have := block_new (w.alloc o) cs t
  rwa [World.size_alloc] at this
theorem MRows.ne {base : Nat} {ks : List ByteArray} {vs : List V} {k : Nat} {kv vv : Value} {cs : List Value} {w : World} (h : MRows base ks vs k kv vv cs w) : vv.ownBlock = none ∨ vv.ownBlock ≠ kv.ownBlock := by
  cases e : vv.ownBlock with
  | none => exact .inl rfl
  | some b => exact .inr fun f => h.apart b f.symm e
theorem loopG_fin {sa : Option Addr} {n sc base : Nat} {ks : List ByteArray} {vs : List V} {w wr wa wb wc wd : World} {k : Nat} {kv vv kv' vv' : Value} {cs : List Value} {s : ByteArray} {c0 c1 c2 c3 c4 c5 : Value} (hk : k < ks.length) (hv : k < vs.length) (hn : k < n) (hs : ks[k] = s)
    (h0 : wr.heap[w.heap.size]? = some (.cells #[.int .i64 0, .int .i64 0, .string ⟨#[]⟩, .slice none 0 0, .slice none 0 0, .slice none 0 0] 27 (0, 0))) (hrow : wr.ownsRow (w.heap.size + 2) 9 1 (.slice sa n sc) n (ks.map .string)) (hsb : ∀ b, (Value.slice sa n sc).ownBlock = some b → b < base)
    (hwb : w.heap.size + 2 ≤ base) (hbase : base ≤ wr.heap.size) (hm : MRows base ks vs k kv vv cs wr) (hB : Below w.heap.size w wr)
    (hBa : Below wr.heap.size wr wa) (hx : RV wa (fun r => wr.heap.size ≤ r) vs[k] (.agg #[c0, c1, c2, c3, c4, c5])) (ha : Appended wa base 9 1 kv k ((ks.take k).map .string ++ [.string s]) kv' wb) (hBc : Below wb.heap.size wb wc)
    (hd : Appended wc base 27 6 vv k (cs ++ [c0, c1, c2, c3, c4, c5]) vv' wd) (h1 : wd.heap[w.heap.size + 1]? = some (.cells #[.int .i64 6, .int .i64 0, .string ⟨#[]⟩, .slice none 0 0, kv, vv] 27 (0, 0))) :
    Hid (LoopG sa n sc base ks vs w (.int .i64 ((k : Int) + 1)) ((wd.setCell ⟨w.heap.size + 1, 4, none⟩ kv').setCell ⟨w.heap.size + 1, 5, none⟩ vv')) ∧
      (wd.cell? ⟨w.heap.size + 1, 4, none⟩ = some kv ∧ wd.cell? ⟨w.heap.size + 1, 5, none⟩ = some vv) ∧ wd.frozen? ⟨w.heap.size + 1, 4, none⟩ = false ∧ wd.frozen? ⟨w.heap.size + 1, 5, none⟩ = false := by
  subst hs
  obtain ⟨hm', hBd⟩ := hm.next hk hv hbase hBa hx ha hBc hd
  refine ⟨Lib.hid ⟨k + 1, kv', vv', _, rfl, hn, ?_, ?_, ?_, hsb, ?_, hwb, hm'.same fun b hb _ => ?_, ?_⟩, ⟨cell_of h1 4 rfl, cell_of h1 5 rfl⟩, free_of h1 4, free_of h1 5⟩
  · rw [set_other 5 vv' (by omega), set_other 4 kv' (by omega)]
    exact (hBd.block _ (by omega)).trans h0
  · exact set_block (set_block h1 4 kv') 5 vv'
  · refine ownsRow_same hrow fun b hb => ?_
    have hbb := hsb b hb.symm
    have hbl := (hrow.lt b hb.symm).1
    rw [set_other 5 vv' (by omega), set_other 4 kv' (by omega)]
    exact hBd.block _ hbb
  · have := hBd.size
    simp only [World.size_setCell]; omega
  · rw [set_other 5 vv' (by omega), set_other 4 kv' (by omega)]
  · exact ((hB.trans (hBd.mono (by omega))).setCell (Nat.le_succ _) _).setCell (Nat.le_succ _) _


set_option maxHeartbeats 2000000 in
set_option maxRecDepth 100000 in
theorem mapFromGo_any (ks : List ByteArray) (vs : List V) (H : ∀ x ∈ vs, FG x) (hrise : Rising ks) (hkb : ∀ k ∈ ks, k.size ≤ maxLen) (n : Nat) (hkn : ks.length = n) (hvn : vs.length = n) (hmax : n ≤ 2147483647)
    (r cl : Nat) (es : Array MapEntry) (S : Nat → Prop) (w : World) (hb : w.heap[r]? = some (.map es cl)) (hst : Stamped es cl) (hgm : GM w S vs ks es.toList) (hS : ∀ b, S b → b < w.heap.size) :
    Calls Tryz.prog 146 #[.map (some r)] w (MapFromGo ks vs w) := by
  obtain ⟨i0, hi, hz0, hz1, hz2⟩ := info_parts infoValue
  obtain ⟨j0, hj, hy0, hy1, hy2⟩ := info_parts infoStr
  have HI := Lib.hid hi
  have HZ0 := Lib.hid hz0
  have HZ1 := Lib.hid hz1
  have HZ2 := Lib.hid hz2
  have HJ := Lib.hid hj
  have HY0 := Lib.hid hy0
  have HY1 := Lib.hid hy1
  have HY2 := Lib.hid hy2
  have HS := Lib.hid hS
  have HH := Lib.hid H
  have HR := Lib.hid hrise
  have HKB := Lib.hid hkb
  have HKN := Lib.hid hkn
  have HVN := Lib.hid hvn
  have HB := Lib.hid hb
  have HST := Lib.hid hst
  have HGM := Lib.hid hgm
  clear hi hz0 hz1 hz2 hj hy0 hy1 hy2 hS H hrise hkb hkn hvn hb hst hgm
  go_enter Tryz.func146, Tryz.ntmps146
  go_wp2_with fail
  refine (keys_any r _).mono ?_
  rintro e w1 ⟨rfl, rfl⟩
  go_wp2_with fail
  have Z := blocks2 w (.cells #[.int .i64 0, .int .i64 0, .string ⟨#[]⟩, .slice none 0 0, .slice none 0 0, .slice none 0 0] 27) (.cells #[.int .i64 6, .int .i64 0, .string ⟨#[]⟩, .slice none 0 0, .slice none 0 0, .slice none 0 0] 27)
  generalize hW : World.alloc (World.alloc w _) _ = W
  rw [hW] at Z
  clear hW
  obtain ⟨⟨z0, z1⟩, z2, z3⟩ := Z
  have hsame : Same S w W := Same.of_below z2 HS.out
  have hrl : r < w.heap.size := heap_lt HB.out
  have hlens := GM.lens vs ks es.toList HGM.out
  have hc := sorted_any (W := W) ((z2.block r hrl).trans HB.out) HST.out hlens.2.2 HKB.out (by rw [HKN.out]; exact hmax) HR.out
  rw [z3] at hc
  refine hc.mono ?_
  rintro e w1 ⟨sa, sc, rfl, hrow, hb1⟩
  rw [HKN.out, z3] at hrow
  rw [HKN.out]
  have h0 := Lib.hid (keep hb1 z0)
  have h1 := Lib.hid (keep hb1 z1)
  have hB := Lib.hid (z2.trans (hb1.mono z2.size))
  have hROW := Lib.hid hrow
  have hszW : w.heap.size + 2 ≤ w1.heap.size := by have := hb1.size; omega
  clear hc z0 z1 z2 hsame hlens hrow hb1
  go_wp2_with fail
  go_loopw [14] (LoopG sa n sc w1.heap.size ks vs w) (fun i _ => n - (intOf i).toNat)
  case atStart => exact loopG_start h0.out h1.out hROW.out hszW hB.out
  case round =>
    obtain ⟨k, kv, vv, cs, rfl, hk, hb0, hb1, hrow, hsb, hbase, hwb, hm, hb⟩ := hrel
    have HROW := Lib.hid hrow
    have HSB := Lib.hid hsb
    have HM := Lib.hid hm
    have HBW := Lib.hid hb
    have HB0 := Lib.hid hb0
    have HB1 := Lib.hid hb1
    clear hrow hsb hm hb h0 h1 hB hROW
    by_cases hlt : k < n
    · clear hb0 hb1
      obtain ⟨sg, rfl⟩ := ownsRow_addr HROW.out (by omega)
      obtain ⟨s, hs⟩ : ∃ s, Hid (ks[k]'(by rw [HKN.out]; exact hlt) = s) := ⟨_, Lib.hid rfl⟩
      have hck := ownsRow_cell HROW.out k (v := .string s) (by rw [← hs.out]; simp [HKN.out, hlt])
      obtain ⟨en, he1, he2, he3⟩ := GM.at vs ks es.toList HGM.out k (by rw [HKN.out]; exact hlt) (by rw [HVN.out]; exact hlt)
      rw [hs.out] at he2
      have hsame : Same S w wr := Same.of_below HBW.out HS.out
      have hx := Lib.hid (GV.mono hsame (fun _ h => h) _ _ he3)
      have HSz := Lib.hid (fun b h => Nat.lt_of_lt_of_le (HS.out b h) HBW.out.size)
      have hlook := run_look (P := Tryz.prog) (w := wr) (mty := 106) Tryz.underlying106 Tryz.underlying9 ((HBW.out.block r hrl).trans HB.out) HST.out (GM.isKey HGM.out) he1 he2
      obtain ⟨g, hg⟩ : ∃ g, Hid (en.val = g) := ⟨_, Lib.hid rfl⟩
      rw [hg.out] at hlook hx
      clear he1 he2 he3 hsame
      go_wp2_with fail
      refine (HH.out _ (List.getElem_mem (by rw [HVN.out]; exact hlt)) g S wr hx.out HSz.out).mono ?_
      rintro e w2 ⟨v, rfl, hv, hb2⟩
      obtain ⟨la, lc, ka, kc, va, vc, t1, n1, tx, ls, ks', vs', rfl, HX⟩ := RV.parts hv
      have HB1' := Lib.hid (keep hb2 HB1.out)
      have HB0' := Lib.hid (keep hb2 HB0.out)
      have HB2 := Lib.hid hb2
      have hs2 := hb2.size
      clear hv hb2 hck hlook
      go_upto_region 8 with fail
      generalize hW : World.alloc w2 _ = W2
      have b1 := Lib.hid (hW ▸ below_alloc w2 _ : Below w2.heap.size w2 W2)
      have hN := Lib.hid (hW ▸ block_new w2 _ _ : W2.heap[w2.heap.size]? = some (.cells #[.int .i64 t1, .int .i64 n1, .string tx, .slice la ls lc, .slice ka ks' kc, .slice va vs' vc] 27 (0, 0)))
      have HO := Lib.hid (keep b1.out HB1'.out)
      have BW := Lib.hid (HB2.out.trans (b1.out.mono hs2) : Below wr.heap.size wr W2)
      have HXW := Lib.hid (RV.mono (Same.of_below b1.out fun b hb => hb.2) (fun b hb => hb.1) _ _ (RV.lt _ _ HX.out))
      clear hW
      refine wp_region_D (TwoBlocks (w.heap.size + 1) w2.heap.size (.cells #[.int .i64 6, .int .i64 0, .string ⟨#[]⟩, .slice none 0 0, kv, vv] 27 (0, 0)) (.cells #[.int .i64 t1, .int .i64 n1, .string tx, .slice la ls lc, .slice ka ks' kc, .slice va vs' vc] 27 (0, 0))) [11, 12, 13] (by kernel_rfl) ?_
      generalize hWd : World.drew W2 = W3
      have hS3 : TwoBlocks (w.heap.size + 1) w2.heap.size (.cells #[.int .i64 6, .int .i64 0, .string ⟨#[]⟩, .slice none 0 0, kv, vv] 27 (0, 0)) (.cells #[.int .i64 t1, .int .i64 n1, .string tx, .slice la ls lc, .slice ka ks' kc, .slice va vs' vc] 27 (0, 0)) W3 := by rw [← hWd]; exact ⟨HO.out, hN.out⟩
      have BW3 := Lib.hid (show Below wr.heap.size wr W3 from hWd ▸ BW.out.drew)
      have hkv : k < vs.length := by rw [HVN.out]; exact hlt
      have HX3 := Lib.hid (show RV W3 (fun r => wr.heap.size ≤ r) (vs[k]'hkv) (.agg #[.int .i64 t1, .int .i64 n1, .string tx, .slice la ls lc, .slice ka ks' kc, .slice va vs' vc]) by
        rw [← hWd]; exact RV.mono (w := W2) (w' := W2.drew) (fun _ _ => rfl) (fun _ h => h) _ _ HXW.out)
      clear hWd b1 hN HO BW HXW
      (refine wpAnyD_take (i := 0) (v := ?_) [1, 4, 9, 11, 12, 13] [11, 12, 13] rfl (by kernel_rfl) (by kernel_rfl) (by kernel_rfl) (fun _ _ _ h => h) (by kernel_rfl) (by kernel_rfl) (by kernel_rfl) (Or.inl ⟨?_, ?_⟩) hS3 ?_
       rotate_left
       focus rfl
       focus (intro w' hw'; have hw1 := cells6 hw'.1; have hw2 := cells6 hw'.2; clear hw'; go_simp; with_reducible rfl)
       try go_simp)
      (refine wpAnyD_take (i := 2) (v := ?_) [3, 4, 9, 11, 12, 13] [11, 12, 13] rfl (by kernel_rfl) (by kernel_rfl) (by kernel_rfl) (fun _ _ _ h => h) (by kernel_rfl) (by kernel_rfl) (by kernel_rfl) (Or.inl ⟨?_, ?_⟩) hS3 ?_
       rotate_left
       focus rfl
       focus (intro w' hw'; have hw1 := cells6 hw'.1; have hw2 := cells6 hw'.2; clear hw'; go_simp; with_reducible rfl)
       try go_simp)
      (refine wpAnyD_take (i := 5) (v := ?_) [6, 9, 11, 12, 13] [11, 12, 13] rfl (by kernel_rfl) (by kernel_rfl) (by kernel_rfl) (fun _ _ _ h => h) (by kernel_rfl) (by kernel_rfl) (by kernel_rfl) (Or.inl ⟨?_, ?_⟩) hS3 ?_
       rotate_left
       focus rfl
       focus (intro w' hw'; have hw1 := cells6 hw'.1; have hw2 := cells6 hw'.2; clear hw'; go_simp; with_reducible rfl)
       try go_simp)
      (refine wpAnyD_take (i := 1) (v := ?_) [4, 9, 11, 12, 13] [11, 12, 13] rfl (by kernel_rfl) (by kernel_rfl) (by kernel_rfl) (fun _ _ _ h => h) (by kernel_rfl) (by kernel_rfl) (by kernel_rfl) (Or.inl ⟨?_, ?_⟩) hS3 ?_
       rotate_left
       focus rfl
       focus (intro w' hw'; have hw1 := cells6 hw'.1; have hw2 := cells6 hw'.2; clear hw'; go_simp; with_reducible rfl)
       try go_simp)
      (refine wpAnyD_take (i := 6) (v := ?_) [9, 11, 12, 13] [11, 12, 13] rfl (by kernel_rfl) (by kernel_rfl) (by kernel_rfl) (fun _ _ _ h => h) (by kernel_rfl) (by kernel_rfl) (by kernel_rfl) (Or.inl ⟨?_, ?_⟩) hS3 ?_
       rotate_left
       focus rfl
       focus (intro w' hw'; have hw1 := cells6 hw'.1; have hw2 := cells6 hw'.2; clear hw'; go_simp; with_reducible rfl)
       try go_simp)
      (refine wpAnyD_take (i := 7) (v := ?_) [8, 9, 11, 12, 13] [11, 12, 13] rfl (by kernel_rfl) (by kernel_rfl) (by kernel_rfl) (fun _ _ _ h => h) (by kernel_rfl) (by kernel_rfl) (by kernel_rfl) (Or.inl ⟨?_, ?_⟩) hS3 ?_
       rotate_left
       focus rfl
       focus (intro w' hw'; have hw1 := cells6 hw'.1; have hw2 := cells6 hw'.2; clear hw'; go_simp; with_reducible rfl)
       try go_simp)
      have b3 := BW3.out.size
      have hsg : w.heap.size + 1 < wr.heap.size := by omega
      have HK3 := Lib.hid (ownsRow_same HM.out.keys fun b hb => BW3.out.block b (HM.out.keys.lt b hb.symm).2)
      have HV3 := Lib.hid (ownsRow_same HM.out.vals fun b hb => BW3.out.block b (HM.out.vals.lt b hb.symm).2)
      have n1' : ∀ b, some b = kv.ownBlock → w1.heap.size ≤ b := fun b hb => (HM.out.keys.lt b hb.symm).1
      have n2' : ∀ b, some b = vv.ownBlock → w1.heap.size ≤ b := fun b hb => (HM.out.vals.lt b hb.symm).1
      have m1' : ∀ b, some b = kv.ownBlock → b < wr.heap.size := fun b hb => (HM.out.keys.lt b hb.symm).2
      have m2' : ∀ b, some b = vv.ownBlock → b < wr.heap.size := fun b hb => (HM.out.vals.lt b hb.symm).2
      have N1 := Lib.hid (fun (e : some (w.heap.size + 1) = kv.ownBlock) => (by have := n1' _ e; omega : False))
      have N2 := Lib.hid (fun (e : some (w.heap.size + 1) = vv.ownBlock) => (by have := n2' _ e; omega : False))
      have M1 := Lib.hid (fun (e : some w2.heap.size = kv.ownBlock) => (by have := m1' _ e; omega : False))
      have M2 := Lib.hid (fun (e : some w2.heap.size = vv.ownBlock) => (by have := m2' _ e; omega : False))
      have M3 : ∀ q, wr.heap.size ≤ q → some q ≠ kv.ownBlock := fun q hq e => by have := m1' _ e; omega
      clear n1' n2' m1' m2'
      refine wpAnyD_ready (rs := [3, 8]) (by kernel_rfl) (by simp) ?_
      refine AllReadyD.cons rfl (fun K hK => ?_) (AllReadyD.cons rfl (fun K hK => ?_) AllReadyD.nil)
      · (go_simp
         refine hK.out _ _ (fun _ => (hS3.alloc _)) ?_
         clear hK K
         try go_simp)
        refine wpAnyD_ready (rs := [4, 8]) (by kernel_rfl) (by simp) ?_
        refine AllReadyD.cons rfl (fun K hK => ?_) (AllReadyD.cons rfl (fun K hK => ?_) AllReadyD.nil)
        · refine step_append_one rfl (.tmp 29) (.tmp 31) 25 rfl w1.heap.size 9 j0 _ 1 16 Tryz.underlying25 HJ.out HY0.out HY1.out HY2.out rfl (by decide) _ _ _ rfl (HK3.out.alloc _) ⟨W3.heap.size, 0, none⟩ 1 [.string s] rfl rfl (cells_in (block_new W3 _ _)) (by simp [Value.oneCell']) (by unfold maxLen; omega) (by omega) (by (try simp only [World.size_alloc] at *; try omega)) ?_
          intro kv' wb hap
          have hSb := (hS3.alloc _).grown hap.grown N1.out M1.out
          have hszb := hap.grown.size
          obtain ⟨kg, kcap, rfl⟩ := hap.made
          refine hK.out _ _ (fun _ => hSb) ?_
          clear hK K
          try go_simp
          (refine wpAnyD_take (i := 10) (v := ?_) [11, 12, 13] [11, 12, 13] rfl (by kernel_rfl) (by kernel_rfl) (by kernel_rfl) (fun _ _ _ h => h) (by kernel_rfl) (by kernel_rfl) (by kernel_rfl) (Or.inl ⟨?_, ?_⟩) hSb ?_
           rotate_left
           focus rfl
           focus (intro w' hw'; have hw1 := cells6 hw'.1; have hw2 := cells6 hw'.2; clear hw'; go_simp; with_reducible rfl)
           try go_simp)
          refine wpAnyD_ready (rs := [8]) (by kernel_rfl) (by simp) ?_
          refine AllReadyD.cons rfl (fun K hK => ?_) AllReadyD.nil
          (go_simp
           refine hK.out _ _ (fun _ => (hSb.alloc _)) ?_
           clear hK K
           try go_simp)
          refine wpAnyD_ready (rs := [9]) (by kernel_rfl) (by simp) ?_
          refine AllReadyD.cons rfl (fun K hK => ?_) AllReadyD.nil
          refine step_append_one rfl (.tmp 34) (.tmp 36) 22 rfl w1.heap.size 27 i0 _ 6 104 Tryz.underlying22 HI.out HZ0.out HZ1.out HZ2.out rfl (by decide) _ _ _ rfl (((HV3.out.alloc _).kept hap.grown HM.out.ne).alloc _) ⟨wb.heap.size, 0, none⟩ 1 (six t1 n1 tx la ls lc ka ks' kc va vs' vc) rfl rfl (cells_in (block_new wb _ _)) (six_one _ _ _ _ _ _ _ _ _ _ _ _) (by unfold maxLen; omega) (by omega) (by (try simp only [World.size_alloc] at *; try omega)) ?_
          intro vv' wd had
          have hSd := (hSb.alloc _).grown had.grown N2.out M2.out
          obtain ⟨vg, vcap, rfl⟩ := had.made
          obtain ⟨F, hcd⟩ := loopG_fin (by rw [HKN.out]; exact hlt) hkv hlt hs.out HB0.out HROW.out HSB.out hwb hbase HM.out HBW.out (BW3.out.alloc BW3.out.size _) (RV.mono (Same.of_below (below_alloc W3 _) fun b hb => hb.2) (fun b hb => hb.1) _ _ (RV.lt _ _ HX3.out)) hap (below_alloc wb _) had hSd.1
          refine hK.out _ _ (fun _ => hSd) ?_
          clear hK K hap had
          try go_simp
          (refine wpAnyD_ready (rs := [11]) (by kernel_rfl) (by simp) ?_
           refine AllReadyD.cons rfl (fun K hK => ?_) AllReadyD.nil
           go_simp
           refine hK.out _ _ (fun h => absurd h (by decide)) ?_
           clear hK K
           try go_simp
           refine wpAnyD_ready (rs := [12]) (by kernel_rfl) (by simp) ?_
           refine AllReadyD.cons rfl (fun K hK => ?_) AllReadyD.nil
           go_simp
           refine hK.out _ _ (fun h => absurd h (by decide)) ?_
           clear hK K
           try go_simp
           refine wpAnyD_ready (rs := [13]) (by kernel_rfl) (by simp) ?_
           refine AllReadyD.cons rfl (fun K hK => ?_) AllReadyD.nil
           go_simp
           refine hK.out _ _ (fun h => absurd h (by decide)) ?_
           clear hK K
           try go_simp
           refine wpAnyD_done (by kernel_rfl) ?_ _
           go_wp2_with fail
           go_roundw
           case rel => exact F.out
           case measure => simp [intOf]; omega)
        · (go_simp
           refine hK.out _ _ (fun _ => ((hS3.alloc _).alloc _)) ?_
           clear hK K
           try go_simp)
          refine wpAnyD_ready (rs := [4]) (by kernel_rfl) (by simp) ?_
          refine AllReadyD.cons rfl (fun K hK => ?_) AllReadyD.nil
          refine step_append_one rfl (.tmp 29) (.tmp 31) 25 rfl w1.heap.size 9 j0 _ 1 16 Tryz.underlying25 HJ.out HY0.out HY1.out HY2.out rfl (by decide) _ _ _ rfl ((HK3.out.alloc _).alloc _) ⟨W3.heap.size, 0, none⟩ 1 [.string s] rfl rfl (cells_in (block_past (block_new W3 _ _) _)) (by simp [Value.oneCell']) (by unfold maxLen; omega) (by omega) (by (try simp only [World.size_alloc] at *; try omega)) ?_
          intro kv' wb hap
          have hSb := ((hS3.alloc _).alloc _).grown hap.grown N1.out M1.out
          have hszb := hap.grown.size
          obtain ⟨kg, kcap, rfl⟩ := hap.made
          refine hK.out _ _ (fun _ => hSb) ?_
          clear hK K
          try go_simp
          (refine wpAnyD_take (i := 10) (v := ?_) [11, 12, 13] [11, 12, 13] rfl (by kernel_rfl) (by kernel_rfl) (by kernel_rfl) (fun _ _ _ h => h) (by kernel_rfl) (by kernel_rfl) (by kernel_rfl) (Or.inl ⟨?_, ?_⟩) hSb ?_
           rotate_left
           focus rfl
           focus (intro w' hw'; have hw1 := cells6 hw'.1; have hw2 := cells6 hw'.2; clear hw'; go_simp; with_reducible rfl)
           try go_simp)
          refine wpAnyD_ready (rs := [9]) (by kernel_rfl) (by simp) ?_
          refine AllReadyD.cons rfl (fun K hK => ?_) AllReadyD.nil
          have hq := (hap.grown.block (W3.heap.size + 1) (by simp) (M3 _ (by omega))).trans (block_top W3 _ _)
          refine step_append_one rfl (.tmp 34) (.tmp 36) 22 rfl w1.heap.size 27 i0 _ 6 104 Tryz.underlying22 HI.out HZ0.out HZ1.out HZ2.out rfl (by decide) _ _ _ rfl (((HV3.out.alloc _).alloc _).kept hap.grown HM.out.ne) ⟨W3.heap.size + 1, 0, none⟩ 1 (six t1 n1 tx la ls lc ka ks' kc va vs' vc) rfl rfl (cells_in hq) (six_one _ _ _ _ _ _ _ _ _ _ _ _) (by unfold maxLen; omega) (by omega) (by (try simp only [World.size_alloc] at *; try omega)) ?_
          intro vv' wd had
          have hSd := (hSb).grown had.grown N2.out M2.out
          obtain ⟨vg, vcap, rfl⟩ := had.made
          obtain ⟨F, hcd⟩ := loopG_fin (by rw [HKN.out]; exact hlt) hkv hlt hs.out HB0.out HROW.out HSB.out hwb hbase HM.out HBW.out ((BW3.out.alloc BW3.out.size _).alloc (by simp; omega) _) (RV.mono (Same.of_below ((below_alloc W3 _).alloc (by simp) _) fun b hb => hb.2) (fun b hb => hb.1) _ _ (RV.lt _ _ HX3.out)) hap (Below.refl _ _) had hSd.1
          refine hK.out _ _ (fun _ => hSd) ?_
          clear hK K hap had
          try go_simp
          (refine wpAnyD_ready (rs := [11]) (by kernel_rfl) (by simp) ?_
           refine AllReadyD.cons rfl (fun K hK => ?_) AllReadyD.nil
           go_simp
           refine hK.out _ _ (fun h => absurd h (by decide)) ?_
           clear hK K
           try go_simp
           refine wpAnyD_ready (rs := [12]) (by kernel_rfl) (by simp) ?_
           refine AllReadyD.cons rfl (fun K hK => ?_) AllReadyD.nil
           go_simp
           refine hK.out _ _ (fun h => absurd h (by decide)) ?_
           clear hK K
           try go_simp
           refine wpAnyD_ready (rs := [13]) (by kernel_rfl) (by simp) ?_
           refine AllReadyD.cons rfl (fun K hK => ?_) AllReadyD.nil
           go_simp
           refine hK.out _ _ (fun h => absurd h (by decide)) ?_
           clear hK K
           try go_simp
           refine wpAnyD_done (by kernel_rfl) ?_ _
           go_wp2_with fail
           go_roundw
           case rel => exact F.out
           case measure => simp [intOf]; omega)
      · (go_simp
         refine hK.out _ _ (fun _ => (hS3.alloc _)) ?_
         clear hK K
         try go_simp)
        refine wpAnyD_ready (rs := [3]) (by kernel_rfl) (by simp) ?_
        refine AllReadyD.cons rfl (fun K hK => ?_) AllReadyD.nil
        (go_simp
         refine hK.out _ _ (fun _ => ((hS3.alloc _).alloc _)) ?_
         clear hK K
         try go_simp)
        refine wpAnyD_ready (rs := [4]) (by kernel_rfl) (by simp) ?_
        refine AllReadyD.cons rfl (fun K hK => ?_) AllReadyD.nil
        refine step_append_one rfl (.tmp 29) (.tmp 31) 25 rfl w1.heap.size 9 j0 _ 1 16 Tryz.underlying25 HJ.out HY0.out HY1.out HY2.out rfl (by decide) _ _ _ rfl ((HK3.out.alloc _).alloc _) ⟨W3.heap.size + 1, 0, none⟩ 1 [.string s] rfl rfl (cells_in (block_top W3 _ _)) (by simp [Value.oneCell']) (by unfold maxLen; omega) (by omega) (by (try simp only [World.size_alloc] at *; try omega)) ?_
        intro kv' wb hap
        have hSb := ((hS3.alloc _).alloc _).grown hap.grown N1.out M1.out
        have hszb := hap.grown.size
        obtain ⟨kg, kcap, rfl⟩ := hap.made
        refine hK.out _ _ (fun _ => hSb) ?_
        clear hK K
        try go_simp
        (refine wpAnyD_take (i := 10) (v := ?_) [11, 12, 13] [11, 12, 13] rfl (by kernel_rfl) (by kernel_rfl) (by kernel_rfl) (fun _ _ _ h => h) (by kernel_rfl) (by kernel_rfl) (by kernel_rfl) (Or.inl ⟨?_, ?_⟩) hSb ?_
         rotate_left
         focus rfl
         focus (intro w' hw'; have hw1 := cells6 hw'.1; have hw2 := cells6 hw'.2; clear hw'; go_simp; with_reducible rfl)
         try go_simp)
        refine wpAnyD_ready (rs := [9]) (by kernel_rfl) (by simp) ?_
        refine AllReadyD.cons rfl (fun K hK => ?_) AllReadyD.nil
        have hq := (hap.grown.block W3.heap.size (by simp; omega) (M3 _ (by omega))).trans (block_past (block_new W3 _ _) _)
        refine step_append_one rfl (.tmp 34) (.tmp 36) 22 rfl w1.heap.size 27 i0 _ 6 104 Tryz.underlying22 HI.out HZ0.out HZ1.out HZ2.out rfl (by decide) _ _ _ rfl (((HV3.out.alloc _).alloc _).kept hap.grown HM.out.ne) ⟨W3.heap.size, 0, none⟩ 1 (six t1 n1 tx la ls lc ka ks' kc va vs' vc) rfl rfl (cells_in hq) (six_one _ _ _ _ _ _ _ _ _ _ _ _) (by unfold maxLen; omega) (by omega) (by (try simp only [World.size_alloc] at *; try omega)) ?_
        intro vv' wd had
        have hSd := (hSb).grown had.grown N2.out M2.out
        obtain ⟨vg, vcap, rfl⟩ := had.made
        obtain ⟨F, hcd⟩ := loopG_fin (by rw [HKN.out]; exact hlt) hkv hlt hs.out HB0.out HROW.out HSB.out hwb hbase HM.out HBW.out ((BW3.out.alloc BW3.out.size _).alloc (by simp; omega) _) (RV.mono (Same.of_below ((below_alloc W3 _).alloc (by simp) _) fun b hb => hb.2) (fun b hb => hb.1) _ _ (RV.lt _ _ HX3.out)) hap (Below.refl _ _) had hSd.1
        refine hK.out _ _ (fun _ => hSd) ?_
        clear hK K hap had
        try go_simp
        (refine wpAnyD_ready (rs := [11]) (by kernel_rfl) (by simp) ?_
         refine AllReadyD.cons rfl (fun K hK => ?_) AllReadyD.nil
         go_simp
         refine hK.out _ _ (fun h => absurd h (by decide)) ?_
         clear hK K
         try go_simp
         refine wpAnyD_ready (rs := [12]) (by kernel_rfl) (by simp) ?_
         refine AllReadyD.cons rfl (fun K hK => ?_) AllReadyD.nil
         go_simp
         refine hK.out _ _ (fun h => absurd h (by decide)) ?_
         clear hK K
         try go_simp
         refine wpAnyD_ready (rs := [13]) (by kernel_rfl) (by simp) ?_
         refine AllReadyD.cons rfl (fun K hK => ?_) AllReadyD.nil
         go_simp
         refine hK.out _ _ (fun h => absurd h (by decide)) ?_
         clear hK K
         try go_simp
         refine wpAnyD_done (by kernel_rfl) ?_ _
         go_wp2_with fail
         go_roundw
         case rel => exact F.out
         case measure => simp [intOf]; omega)
    · obtain rfl : k = n := by omega
      have HMD := HM.out
      rw [← HKN.out] at HMD
      obtain ⟨dka, dkc, dva, dvc, rfl, rfl, dk, dv⟩ := HMD.done (HKN.out.trans HVN.out.symm)
      have HDK := Lib.hid dk
      have HDV := Lib.hid dv
      have c0 := cells6 hb0
      have c1 := cells6 hb1
      clear hb0 hb1 dk dv HMD
      go_wp2_with fail
      refine bodyPost_ret (v := .tuple #[.agg #[.int .i64 6, .int .i64 0, .string ⟨#[]⟩, .slice none 0 0, .slice dka ks.length dkc, .slice dva vs.length dvc], .bool true]) (by simp [results, Tryz.results146, go_sem, *]) rfl ⟨dka, dkc, dva, dvc, rfl, ?_, ?_, ?_⟩
      · refine RK.mono (S := fun r => w1.heap.size ≤ r) (fun b hb => ?_) (fun b hb => by show _ ≤ b; omega) _ _ HDK.out
        exact sets_other _ _ _ _ _ _ (by omega)
      · refine RL.mono (S := fun r => w1.heap.size ≤ r) (fun b hb => ?_) (fun b hb => by show _ ≤ b; omega) _ _ HDV.out
        exact sets_other _ _ _ _ _ _ (by omega)
      · exact sets6 HBW.out (Nat.le_refl _) _ _ _ _ _ _

end Go.Proofs.YtgjmgneppecfgaaGreatDoor.Va
