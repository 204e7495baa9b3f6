/-
  fromGo serves every value that is right; result.
-/
import Derived.Test.YtgjmgneppecfgaaGreatDoorQVaI
set_option linter.unusedVariables false
set_option linter.unusedSimpArgs false
namespace Go.Proofs.YtgjmgneppecfgaaGreatDoor.Va
open Go.RowKit
open Go.MapKept (Stamped IsKey)
set_option linter.unusedVariables false
set_option linter.unusedSimpArgs false

set_option maxHeartbeats 400000 in
theorem fromGo_5 (ls : List V) (H : ∀ x ∈ ls, FG x) (n c : Nat) (hn : ls.length = n) (hmax : n ≤ 2147483647) (a : Option Addr) (S : Nat → Prop) (w : World) (hl : GL w S ls a) (hS : ∀ b, S b → b < w.heap.size) :
    Calls Tryz.prog 86 #[.iface 60 (.slice a n c)] w (FromGo (.mk 5 0 ⟨#[]⟩ ls [] []) w) := by
  have HL := Lib.hid hl
  have HS := Lib.hid hS
  have HH := Lib.hid H
  have HN := Lib.hid hn
  clear hl hS H hn
  go_enter Tryz.func86, Tryz.ntmps86
  go_wp2_with fail
  generalize hW : World.alloc w _ = W
  have b1 : Below w.heap.size w W := hW ▸ below_alloc w _
  have z : W.heap[w.heap.size]? = some (.cells #[.int .i64 0, .int .i64 0, .string ⟨#[]⟩, .slice none 0 0, .slice none 0 0, .slice none 0 0] 27 (0, 0)) := hW ▸ block_new w _ _
  clear hW
  have hs := b1.size
  refine (listFromGo_any ls HH.out n HN.out hmax a c S W (GL.mono (Same.of_below b1 HS.out) (fun _ h => h) _ _ HL.out) (fun b h => Nat.lt_of_lt_of_le (HS.out b h) b1.size)).mono ?_
  rintro e w2 ⟨ra, rc, rfl, hrl, hb2⟩
  have z2 := cells6 (keep hb2 z)
  have hwlt : w.heap.size < W.heap.size := heap_lt z
  have HRL := Lib.hid hrl
  have HB := Lib.hid (b1.trans (hb2.mono b1.size))
  clear hrl hb2 z b1
  go_wp2_with fail
  refine bodyPost_ret (v := .tuple #[.agg #[.int .i64 5, .int .i64 0, .string ⟨#[]⟩, .slice ra ls.length rc, .slice none 0 0, .slice none 0 0], .bool true]) (by simp [results, Tryz.results86, go_sem, *]) rfl ⟨_, rfl, ?_, ?_⟩
  · rw [RV]
    refine ⟨ra, rc, none, 0, none, 0, rfl, ?_, trivial, by rw [RL]; trivial⟩
    exact RL.mono (S := fun r => W.heap.size ≤ r) (fun b hb => sets_other _ _ _ _ _ _ (by omega)) (fun b hb => by show _ ≤ b; omega) _ _ HRL.out
  · exact sets6 HB.out (Nat.le_refl _) _ _ _ _ _ _

set_option maxHeartbeats 400000 in
theorem fromGo_6 (ks : List ByteArray) (vs : List V) (H : ∀ x ∈ vs, FG x) (hrise : Rising ks) (hkb : ∀ k ∈ ks, k.size ≤ maxLen) (hlen : ks.length = vs.length) (hmax : ks.length ≤ 2147483647)
    (r cl : Nat) (es : Array MapEntry) (S : Nat → Prop) (w : World) (hb : w.heap[r]? = some (.map es cl)) (hst : Stamped es cl) (hgm : GM w S vs ks es.toList) (hS : ∀ b, S b → b < w.heap.size) :
    Calls Tryz.prog 86 #[.iface 106 (.map (some r))] w (FromGo (.mk 6 0 ⟨#[]⟩ [] ks vs) w) := by
  have HS := Lib.hid hS
  have HH := Lib.hid H
  have HR := Lib.hid hrise
  have HKB := Lib.hid hkb
  have HL := Lib.hid hlen
  have HM := Lib.hid hmax
  have HB0 := Lib.hid hb
  have HG := Lib.hid hgm
  have HST := Lib.hid hst
  clear hS H hrise hkb hlen hmax hb hgm hst
  go_enter Tryz.func86, Tryz.ntmps86
  go_wp2_with fail
  generalize hW : World.alloc w _ = W
  have b1 : Below w.heap.size w W := hW ▸ below_alloc w _
  have z : W.heap[w.heap.size]? = some (.cells #[.int .i64 0, .int .i64 0, .string ⟨#[]⟩, .slice none 0 0, .slice none 0 0, .slice none 0 0] 27 (0, 0)) := hW ▸ block_new w _ _
  clear hW
  have hs := b1.size
  refine (mapFromGo_any ks vs HH.out HR.out HKB.out _ rfl HL.out.symm HM.out r cl es S W (keep b1 HB0.out) HST.out (GM.mono (Same.of_below b1 HS.out) (fun _ h => h) _ _ _ HG.out) (fun b h => Nat.lt_of_lt_of_le (HS.out b h) b1.size)).mono ?_
  rintro e w2 ⟨ka, kc, va, vc, rfl, hk, hv, hb2⟩
  have z2 := cells6 (keep hb2 z)
  have hwlt : w.heap.size < W.heap.size := heap_lt z
  have HK := Lib.hid hk
  have HV := Lib.hid hv
  have HB := Lib.hid (b1.trans (hb2.mono b1.size))
  clear hk hv hb2 z b1
  go_wp2_with fail
  refine bodyPost_ret (v := .tuple #[.agg #[.int .i64 6, .int .i64 0, .string ⟨#[]⟩, .slice none 0 0, .slice ka ks.length kc, .slice va vs.length vc], .bool true]) (by simp [results, Tryz.results86, go_sem, *]) rfl ⟨_, rfl, ?_, ?_⟩
  · rw [RV]
    refine ⟨none, 0, ka, kc, va, vc, rfl, by rw [RL]; trivial, ?_, ?_⟩
    · exact RK.mono (S := fun r => W.heap.size ≤ r) (fun b hb => sets_other _ _ _ _ _ _ (by omega)) (fun b hb => by show _ ≤ b; omega) _ _ HK.out
    · exact RL.mono (S := fun r => W.heap.size ≤ r) (fun b hb => sets_other _ _ _ _ _ _ (by omega)) (fun b hb => by show _ ≤ b; omega) _ _ HV.out
  · exact sets6 HB.out (Nat.le_refl _) _ _ _ _ _ _

theorem bytes_nil {t : ByteArray} (h : t.size = 0) : t = ⟨#[]⟩ := by
  cases t with
  | mk a =>
    have : a = #[] := Array.eq_empty_of_size_eq_zero h
    rw [this]

theorem fromGo_good : ∀ (n : Nat) (x : V), x.size ≤ n → n ≤ 2147483647 → Good x → FG x
  | 0, x, h, _, _ => by have := size_pos x; omega
  | n + 1, .mk k h t ls ks vs, hsz, hn, hg => by
    intro g S w hv hS
    rw [GV] at hv
    rw [Good] at hg
    obtain ⟨g1, gl, gr, gv⟩ := hg
    rw [V.size] at hsz
    have hls := length_le ls
    have hvs := length_le vs
    have hll := g1.len
    have noh : k ≠ 3 → h = 0 := fun q => g1.num.resolve_left q
    have not : k ≠ 4 → t = ⟨#[]⟩ := fun q => bytes_nil (g1.txt.resolve_left q)
    have nol : k ≠ 5 → ls = [] := fun q => List.length_eq_zero_iff.1 (g1.lst.resolve_left q)
    have nok : k ≠ 6 → ks = [] := fun q => List.length_eq_zero_iff.1 (g1.map.resolve_left q)
    have nov : k ≠ 6 → vs = [] := fun q => List.length_eq_zero_iff.1 (by have := nok q; subst this; simpa using hll.symm)
    rcases hv with ⟨rfl, rfl⟩ | ⟨rfl, rfl⟩ | ⟨rfl, rfl⟩ | ⟨rfl, rfl⟩ | ⟨rfl, rfl⟩ | ⟨rfl, a, c, rfl, hl⟩ | ⟨rfl, r, es, cl, rfl, hr, hb, hst, hm⟩
    · rw [noh (by decide), not (by decide), nol (by decide), nok (by decide), nov (by decide)]; exact fromGo_0 w
    · rw [noh (by decide), not (by decide), nol (by decide), nok (by decide), nov (by decide)]; exact fromGo_1 w
    · rw [noh (by decide), not (by decide), nol (by decide), nok (by decide), nov (by decide)]; exact fromGo_2 w
    · rw [not (by decide), nol (by decide), nok (by decide), nov (by decide)]
      have lo := g1.lo
      have hi := g1.hi
      by_cases he : h % 2 = 0
      · rw [gnum, if_pos he]
        have := fromGo_int (h / 2) (by omega) (by omega) w
        rwa [show 2 * (h / 2) = h by omega] at this
      · rw [gnum, if_neg he]
        have ho := g1.odd
        obtain ⟨s, M, q, H⟩ := half_of h (by omega) (by unfold B; omega)
        exact fromGo_float H (by unfold B; omega) w
    · rw [noh (by decide), nol (by decide), nok (by decide), nov (by decide)]; exact fromGo_4 t w
    · rw [noh (by decide), not (by decide), nok (by decide), nov (by decide)]
      exact fromGo_5 ls (fun x hx => fromGo_good n x (by have := size_mem hx; omega) (by omega) (gl.mem x hx)) _ c rfl (by omega) a S w hl hS
    · rw [noh (by decide), not (by decide), nol (by decide)]
      exact fromGo_6 ks vs (fun x hx => fromGo_good n x (by have := size_mem hx; omega) (by omega) (gv.mem x hx)) gr (fun s hs => Nat.le_trans (g1.kb s hs) (by unfold maxLen; omega)) hll (by omega) r cl es S w hb hst hm hS

theorem sets7_other {w : World} {b b' : Nat} (v0 v1 v2 v3 v4 v5 v6 : Value) (h : b' ≠ b) :
    (((((((w.setCell ⟨b, 0, none⟩ v0).setCell ⟨b, 1, none⟩ v1).setCell ⟨b, 2, none⟩ v2).setCell ⟨b, 3, none⟩ v3).setCell ⟨b, 4, none⟩ v4).setCell ⟨b, 5, none⟩ v5).setCell ⟨b, 6, none⟩ v6).heap[b']? = w.heap[b']? := by
  rw [set_other _ _ h, sets_other _ _ _ _ _ _ h]
theorem cells7 {w : World} {b : Nat} {a0 a1 a2 a3 a4 a5 a6 : Value} {t : TypeId} (h : w.heap[b]? = some (.cells #[a0, a1, a2, a3, a4, a5, a6] t (0, 0))) :
    (w.cell? ⟨b, 0, none⟩ = some a0 ∧ w.cell? ⟨b, 1, none⟩ = some a1 ∧ w.cell? ⟨b, 2, none⟩ = some a2 ∧ w.cell? ⟨b, 3, none⟩ = some a3 ∧ w.cell? ⟨b, 4, none⟩ = some a4 ∧ w.cell? ⟨b, 5, none⟩ = some a5 ∧ w.cell? ⟨b, 6, none⟩ = some a6) ∧
    w.frozen? ⟨b, 0, none⟩ = false ∧ w.frozen? ⟨b, 1, none⟩ = false ∧ w.frozen? ⟨b, 2, none⟩ = false ∧ w.frozen? ⟨b, 3, none⟩ = false ∧ w.frozen? ⟨b, 4, none⟩ = false ∧ w.frozen? ⟨b, 5, none⟩ = false ∧ w.frozen? ⟨b, 6, none⟩ = false :=
  ⟨⟨cell_of h 0 rfl, cell_of h 1 rfl, cell_of h 2 rfl, cell_of h 3 rfl, cell_of h 4 rfl, cell_of h 5 rfl, cell_of h 6 rfl⟩, free_of h 0, free_of h 1, free_of h 2, free_of h 3, free_of h 4, free_of h 5, free_of h 6⟩
/-- what result returns for a value -/
def Result (x : V) (w : World) (e : Ending) (w' : World) : Prop :=
  ∃ c0 c1 c2 c3 c4 c5, e = .returned (.agg #[c0, c1, c2, c3, c4, c5, .int .i64 0]) ∧ RV w' (fun r => w.heap.size ≤ r) x (.agg #[c0, c1, c2, c3, c4, c5]) ∧ Below w.heap.size w w'

theorem sets7 {B b : Nat} {w0 w : World} (h : Below B w0 w) (hb : B ≤ b) (v0 v1 v2 v3 v4 v5 v6 : Value) :
    Below B w0 (((((((w.setCell ⟨b, 0, none⟩ v0).setCell ⟨b, 1, none⟩ v1).setCell ⟨b, 2, none⟩ v2).setCell ⟨b, 3, none⟩ v3).setCell ⟨b, 4, none⟩ v4).setCell ⟨b, 5, none⟩ v5).setCell ⟨b, 6, none⟩ v6) :=
  (sets6 h hb v0 v1 v2 v3 v4 v5).setCell hb _

theorem GV.kinds {w : World} {S : Nat → Prop} {x : V} {g : Value} (h : GV w S x g) : g = .nilIface ∨ (∃ v, g = .iface 4 v) ∨ (∃ v, g = .iface 3 v) ∨ (∃ v, g = .iface 65 v) ∨ (∃ v, g = .iface 9 v) ∨ (∃ v, g = .iface 60 v) ∨ (∃ v, g = .iface 106 v) := by
  cases x with
  | mk k hh t ls ks vs =>
    rw [GV] at h
    rcases h with q | q | q | q | q | ⟨q, a, c, e, hl⟩ | ⟨q, r, es, cl, e, _⟩
    · exact .inl q.2
    · exact .inr (.inl ⟨_, q.2⟩)
    · exact .inr (.inl ⟨_, q.2⟩)
    · obtain ⟨_, rfl⟩ := q
      unfold gnum
      split
      · exact .inr (.inr (.inl ⟨_, rfl⟩))
      · exact .inr (.inr (.inr (.inl ⟨_, rfl⟩)))
    · exact .inr (.inr (.inr (.inr (.inl ⟨_, q.2⟩))))
    · exact .inr (.inr (.inr (.inr (.inr (.inl ⟨_, e⟩)))))
    · exact .inr (.inr (.inr (.inr (.inr (.inr ⟨_, e⟩)))))


set_option maxHeartbeats 4000000 in
theorem result_any (x : V) (H : FG x) (g : Value) (S : Nat → Prop) (w : World) (hg : GV w S x g) (hS : ∀ b, S b → b < w.heap.size) : Calls Tryz.prog 39 #[g] w (Result x w) := by
  have HX := Lib.hid H
  have HS := Lib.hid hS
  have HG := Lib.hid hg
  clear H hS hg
  rcases HG.out.kinds with rfl | ⟨gv, rfl⟩ | ⟨gv, rfl⟩ | ⟨gv, rfl⟩ | ⟨gv, rfl⟩ | ⟨gv, rfl⟩ | ⟨gv, rfl⟩
  · (go_enter Tryz.func39, Tryz.ntmps39
     go_wp2_with fail
     generalize hW : World.alloc w _ = W
     have b1 : Below w.heap.size w W := hW ▸ below_alloc w _
     have z : W.heap[w.heap.size]? = some (.cells #[.int .i64 0, .int .i64 0, .string ⟨#[]⟩, .slice none 0 0, .slice none 0 0, .slice none 0 0, .int .i64 0] 35 (0, 0)) := hW ▸ block_new w _ _
     clear hW
     have hs := b1.size
     refine (HX.out _ S W (GV.mono (Same.of_below b1 HS.out) (fun _ h => h) _ _ HG.out) (fun b h => Nat.lt_of_lt_of_le (HS.out b h) b1.size)).mono ?_
     rintro e w2 ⟨v, rfl, hv, hb2⟩
     obtain ⟨la, lc, ka, kc, va, vc, t1, n1, tx, l1, l2, l3, rfl, HV⟩ := RV.parts hv
     have hwlt : w.heap.size < W.heap.size := heap_lt z
     have HZ := Lib.hid (keep hb2 z)
     have HB := Lib.hid (b1.trans (hb2.mono b1.size))
     have hs2 := hb2.size
     clear hv hb2 z b1
     go_upto_region 7 with fail
     generalize hW3 : World.alloc w2 _ = W3
     have b3 := Lib.hid (hW3 ▸ below_alloc w2 _ : Below w2.heap.size w2 W3)
     have zz := cells7 (keep b3.out HZ.out)
     have zn := cells6 (hW3 ▸ block_new w2 _ _ : W3.heap[w2.heap.size]? = some (.cells #[.int .i64 t1, .int .i64 n1, .string tx, .slice la l1 lc, .slice ka l2 kc, .slice va l3 vc] 27 (0, 0)))
     have HB3 := Lib.hid (HB.out.trans (b3.out.mono (by omega)))
     have HV3 := Lib.hid (RV.mono (Same.of_below b3.out fun b hb => hb.2) (fun b hb => hb.1) _ _ (RV.lt _ _ HV.out))
     clear hW3
     go_wp2_with fail
     refine bodyPost_ret (v := .agg #[.int .i64 t1, .int .i64 n1, .string tx, .slice la l1 lc, .slice ka l2 kc, .slice va l3 vc, .int .i64 0]) (by simp [results, Tryz.results39, go_sem, *]) rfl ⟨_, _, _, _, _, _, rfl, ?_, ?_⟩
     · exact RV.mono (S := fun r => W.heap.size ≤ r) (fun b hb => sets7_other _ _ _ _ _ _ _ (by omega)) (fun b hb => by show _ ≤ b; omega) _ _ HV3.out
     · exact sets7 HB3.out (Nat.le_refl _) _ _ _ _ _ _ _)
  · (go_enter Tryz.func39, Tryz.ntmps39
     go_wp2_with fail
     generalize hW : World.alloc w _ = W
     have b1 : Below w.heap.size w W := hW ▸ below_alloc w _
     have z : W.heap[w.heap.size]? = some (.cells #[.int .i64 0, .int .i64 0, .string ⟨#[]⟩, .slice none 0 0, .slice none 0 0, .slice none 0 0, .int .i64 0] 35 (0, 0)) := hW ▸ block_new w _ _
     clear hW
     have hs := b1.size
     refine (HX.out _ S W (GV.mono (Same.of_below b1 HS.out) (fun _ h => h) _ _ HG.out) (fun b h => Nat.lt_of_lt_of_le (HS.out b h) b1.size)).mono ?_
     rintro e w2 ⟨v, rfl, hv, hb2⟩
     obtain ⟨la, lc, ka, kc, va, vc, t1, n1, tx, l1, l2, l3, rfl, HV⟩ := RV.parts hv
     have hwlt : w.heap.size < W.heap.size := heap_lt z
     have HZ := Lib.hid (keep hb2 z)
     have HB := Lib.hid (b1.trans (hb2.mono b1.size))
     have hs2 := hb2.size
     clear hv hb2 z b1
     go_upto_region 7 with fail
     generalize hW3 : World.alloc w2 _ = W3
     have b3 := Lib.hid (hW3 ▸ below_alloc w2 _ : Below w2.heap.size w2 W3)
     have zz := cells7 (keep b3.out HZ.out)
     have zn := cells6 (hW3 ▸ block_new w2 _ _ : W3.heap[w2.heap.size]? = some (.cells #[.int .i64 t1, .int .i64 n1, .string tx, .slice la l1 lc, .slice ka l2 kc, .slice va l3 vc] 27 (0, 0)))
     have HB3 := Lib.hid (HB.out.trans (b3.out.mono (by omega)))
     have HV3 := Lib.hid (RV.mono (Same.of_below b3.out fun b hb => hb.2) (fun b hb => hb.1) _ _ (RV.lt _ _ HV.out))
     clear hW3
     go_wp2_with fail
     refine bodyPost_ret (v := .agg #[.int .i64 t1, .int .i64 n1, .string tx, .slice la l1 lc, .slice ka l2 kc, .slice va l3 vc, .int .i64 0]) (by simp [results, Tryz.results39, go_sem, *]) rfl ⟨_, _, _, _, _, _, rfl, ?_, ?_⟩
     · exact RV.mono (S := fun r => W.heap.size ≤ r) (fun b hb => sets7_other _ _ _ _ _ _ _ (by omega)) (fun b hb => by show _ ≤ b; omega) _ _ HV3.out
     · exact sets7 HB3.out (Nat.le_refl _) _ _ _ _ _ _ _)
  · (go_enter Tryz.func39, Tryz.ntmps39
     go_wp2_with fail
     generalize hW : World.alloc w _ = W
     have b1 : Below w.heap.size w W := hW ▸ below_alloc w _
     have z : W.heap[w.heap.size]? = some (.cells #[.int .i64 0, .int .i64 0, .string ⟨#[]⟩, .slice none 0 0, .slice none 0 0, .slice none 0 0, .int .i64 0] 35 (0, 0)) := hW ▸ block_new w _ _
     clear hW
     have hs := b1.size
     refine (HX.out _ S W (GV.mono (Same.of_below b1 HS.out) (fun _ h => h) _ _ HG.out) (fun b h => Nat.lt_of_lt_of_le (HS.out b h) b1.size)).mono ?_
     rintro e w2 ⟨v, rfl, hv, hb2⟩
     obtain ⟨la, lc, ka, kc, va, vc, t1, n1, tx, l1, l2, l3, rfl, HV⟩ := RV.parts hv
     have hwlt : w.heap.size < W.heap.size := heap_lt z
     have HZ := Lib.hid (keep hb2 z)
     have HB := Lib.hid (b1.trans (hb2.mono b1.size))
     have hs2 := hb2.size
     clear hv hb2 z b1
     go_upto_region 7 with fail
     generalize hW3 : World.alloc w2 _ = W3
     have b3 := Lib.hid (hW3 ▸ below_alloc w2 _ : Below w2.heap.size w2 W3)
     have zz := cells7 (keep b3.out HZ.out)
     have zn := cells6 (hW3 ▸ block_new w2 _ _ : W3.heap[w2.heap.size]? = some (.cells #[.int .i64 t1, .int .i64 n1, .string tx, .slice la l1 lc, .slice ka l2 kc, .slice va l3 vc] 27 (0, 0)))
     have HB3 := Lib.hid (HB.out.trans (b3.out.mono (by omega)))
     have HV3 := Lib.hid (RV.mono (Same.of_below b3.out fun b hb => hb.2) (fun b hb => hb.1) _ _ (RV.lt _ _ HV.out))
     clear hW3
     go_wp2_with fail
     refine bodyPost_ret (v := .agg #[.int .i64 t1, .int .i64 n1, .string tx, .slice la l1 lc, .slice ka l2 kc, .slice va l3 vc, .int .i64 0]) (by simp [results, Tryz.results39, go_sem, *]) rfl ⟨_, _, _, _, _, _, rfl, ?_, ?_⟩
     · exact RV.mono (S := fun r => W.heap.size ≤ r) (fun b hb => sets7_other _ _ _ _ _ _ _ (by omega)) (fun b hb => by show _ ≤ b; omega) _ _ HV3.out
     · exact sets7 HB3.out (Nat.le_refl _) _ _ _ _ _ _ _)
  · (go_enter Tryz.func39, Tryz.ntmps39
     go_wp2_with fail
     generalize hW : World.alloc w _ = W
     have b1 : Below w.heap.size w W := hW ▸ below_alloc w _
     have z : W.heap[w.heap.size]? = some (.cells #[.int .i64 0, .int .i64 0, .string ⟨#[]⟩, .slice none 0 0, .slice none 0 0, .slice none 0 0, .int .i64 0] 35 (0, 0)) := hW ▸ block_new w _ _
     clear hW
     have hs := b1.size
     refine (HX.out _ S W (GV.mono (Same.of_below b1 HS.out) (fun _ h => h) _ _ HG.out) (fun b h => Nat.lt_of_lt_of_le (HS.out b h) b1.size)).mono ?_
     rintro e w2 ⟨v, rfl, hv, hb2⟩
     obtain ⟨la, lc, ka, kc, va, vc, t1, n1, tx, l1, l2, l3, rfl, HV⟩ := RV.parts hv
     have hwlt : w.heap.size < W.heap.size := heap_lt z
     have HZ := Lib.hid (keep hb2 z)
     have HB := Lib.hid (b1.trans (hb2.mono b1.size))
     have hs2 := hb2.size
     clear hv hb2 z b1
     go_upto_region 7 with fail
     generalize hW3 : World.alloc w2 _ = W3
     have b3 := Lib.hid (hW3 ▸ below_alloc w2 _ : Below w2.heap.size w2 W3)
     have zz := cells7 (keep b3.out HZ.out)
     have zn := cells6 (hW3 ▸ block_new w2 _ _ : W3.heap[w2.heap.size]? = some (.cells #[.int .i64 t1, .int .i64 n1, .string tx, .slice la l1 lc, .slice ka l2 kc, .slice va l3 vc] 27 (0, 0)))
     have HB3 := Lib.hid (HB.out.trans (b3.out.mono (by omega)))
     have HV3 := Lib.hid (RV.mono (Same.of_below b3.out fun b hb => hb.2) (fun b hb => hb.1) _ _ (RV.lt _ _ HV.out))
     clear hW3
     go_wp2_with fail
     refine bodyPost_ret (v := .agg #[.int .i64 t1, .int .i64 n1, .string tx, .slice la l1 lc, .slice ka l2 kc, .slice va l3 vc, .int .i64 0]) (by simp [results, Tryz.results39, go_sem, *]) rfl ⟨_, _, _, _, _, _, rfl, ?_, ?_⟩
     · exact RV.mono (S := fun r => W.heap.size ≤ r) (fun b hb => sets7_other _ _ _ _ _ _ _ (by omega)) (fun b hb => by show _ ≤ b; omega) _ _ HV3.out
     · exact sets7 HB3.out (Nat.le_refl _) _ _ _ _ _ _ _)
  · (go_enter Tryz.func39, Tryz.ntmps39
     go_wp2_with fail
     generalize hW : World.alloc w _ = W
     have b1 : Below w.heap.size w W := hW ▸ below_alloc w _
     have z : W.heap[w.heap.size]? = some (.cells #[.int .i64 0, .int .i64 0, .string ⟨#[]⟩, .slice none 0 0, .slice none 0 0, .slice none 0 0, .int .i64 0] 35 (0, 0)) := hW ▸ block_new w _ _
     clear hW
     have hs := b1.size
     refine (HX.out _ S W (GV.mono (Same.of_below b1 HS.out) (fun _ h => h) _ _ HG.out) (fun b h => Nat.lt_of_lt_of_le (HS.out b h) b1.size)).mono ?_
     rintro e w2 ⟨v, rfl, hv, hb2⟩
     obtain ⟨la, lc, ka, kc, va, vc, t1, n1, tx, l1, l2, l3, rfl, HV⟩ := RV.parts hv
     have hwlt : w.heap.size < W.heap.size := heap_lt z
     have HZ := Lib.hid (keep hb2 z)
     have HB := Lib.hid (b1.trans (hb2.mono b1.size))
     have hs2 := hb2.size
     clear hv hb2 z b1
     go_upto_region 7 with fail
     generalize hW3 : World.alloc w2 _ = W3
     have b3 := Lib.hid (hW3 ▸ below_alloc w2 _ : Below w2.heap.size w2 W3)
     have zz := cells7 (keep b3.out HZ.out)
     have zn := cells6 (hW3 ▸ block_new w2 _ _ : W3.heap[w2.heap.size]? = some (.cells #[.int .i64 t1, .int .i64 n1, .string tx, .slice la l1 lc, .slice ka l2 kc, .slice va l3 vc] 27 (0, 0)))
     have HB3 := Lib.hid (HB.out.trans (b3.out.mono (by omega)))
     have HV3 := Lib.hid (RV.mono (Same.of_below b3.out fun b hb => hb.2) (fun b hb => hb.1) _ _ (RV.lt _ _ HV.out))
     clear hW3
     go_wp2_with fail
     refine bodyPost_ret (v := .agg #[.int .i64 t1, .int .i64 n1, .string tx, .slice la l1 lc, .slice ka l2 kc, .slice va l3 vc, .int .i64 0]) (by simp [results, Tryz.results39, go_sem, *]) rfl ⟨_, _, _, _, _, _, rfl, ?_, ?_⟩
     · exact RV.mono (S := fun r => W.heap.size ≤ r) (fun b hb => sets7_other _ _ _ _ _ _ _ (by omega)) (fun b hb => by show _ ≤ b; omega) _ _ HV3.out
     · exact sets7 HB3.out (Nat.le_refl _) _ _ _ _ _ _ _)
  · (go_enter Tryz.func39, Tryz.ntmps39
     go_wp2_with fail
     generalize hW : World.alloc w _ = W
     have b1 : Below w.heap.size w W := hW ▸ below_alloc w _
     have z : W.heap[w.heap.size]? = some (.cells #[.int .i64 0, .int .i64 0, .string ⟨#[]⟩, .slice none 0 0, .slice none 0 0, .slice none 0 0, .int .i64 0] 35 (0, 0)) := hW ▸ block_new w _ _
     clear hW
     have hs := b1.size
     refine (HX.out _ S W (GV.mono (Same.of_below b1 HS.out) (fun _ h => h) _ _ HG.out) (fun b h => Nat.lt_of_lt_of_le (HS.out b h) b1.size)).mono ?_
     rintro e w2 ⟨v, rfl, hv, hb2⟩
     obtain ⟨la, lc, ka, kc, va, vc, t1, n1, tx, l1, l2, l3, rfl, HV⟩ := RV.parts hv
     have hwlt : w.heap.size < W.heap.size := heap_lt z
     have HZ := Lib.hid (keep hb2 z)
     have HB := Lib.hid (b1.trans (hb2.mono b1.size))
     have hs2 := hb2.size
     clear hv hb2 z b1
     go_upto_region 7 with fail
     generalize hW3 : World.alloc w2 _ = W3
     have b3 := Lib.hid (hW3 ▸ below_alloc w2 _ : Below w2.heap.size w2 W3)
     have zz := cells7 (keep b3.out HZ.out)
     have zn := cells6 (hW3 ▸ block_new w2 _ _ : W3.heap[w2.heap.size]? = some (.cells #[.int .i64 t1, .int .i64 n1, .string tx, .slice la l1 lc, .slice ka l2 kc, .slice va l3 vc] 27 (0, 0)))
     have HB3 := Lib.hid (HB.out.trans (b3.out.mono (by omega)))
     have HV3 := Lib.hid (RV.mono (Same.of_below b3.out fun b hb => hb.2) (fun b hb => hb.1) _ _ (RV.lt _ _ HV.out))
     clear hW3
     go_wp2_with fail
     refine bodyPost_ret (v := .agg #[.int .i64 t1, .int .i64 n1, .string tx, .slice la l1 lc, .slice ka l2 kc, .slice va l3 vc, .int .i64 0]) (by simp [results, Tryz.results39, go_sem, *]) rfl ⟨_, _, _, _, _, _, rfl, ?_, ?_⟩
     · exact RV.mono (S := fun r => W.heap.size ≤ r) (fun b hb => sets7_other _ _ _ _ _ _ _ (by omega)) (fun b hb => by show _ ≤ b; omega) _ _ HV3.out
     · exact sets7 HB3.out (Nat.le_refl _) _ _ _ _ _ _ _)
  · (go_enter Tryz.func39, Tryz.ntmps39
     go_wp2_with fail
     generalize hW : World.alloc w _ = W
     have b1 : Below w.heap.size w W := hW ▸ below_alloc w _
     have z : W.heap[w.heap.size]? = some (.cells #[.int .i64 0, .int .i64 0, .string ⟨#[]⟩, .slice none 0 0, .slice none 0 0, .slice none 0 0, .int .i64 0] 35 (0, 0)) := hW ▸ block_new w _ _
     clear hW
     have hs := b1.size
     refine (HX.out _ S W (GV.mono (Same.of_below b1 HS.out) (fun _ h => h) _ _ HG.out) (fun b h => Nat.lt_of_lt_of_le (HS.out b h) b1.size)).mono ?_
     rintro e w2 ⟨v, rfl, hv, hb2⟩
     obtain ⟨la, lc, ka, kc, va, vc, t1, n1, tx, l1, l2, l3, rfl, HV⟩ := RV.parts hv
     have hwlt : w.heap.size < W.heap.size := heap_lt z
     have HZ := Lib.hid (keep hb2 z)
     have HB := Lib.hid (b1.trans (hb2.mono b1.size))
     have hs2 := hb2.size
     clear hv hb2 z b1
     go_upto_region 7 with fail
     generalize hW3 : World.alloc w2 _ = W3
     have b3 := Lib.hid (hW3 ▸ below_alloc w2 _ : Below w2.heap.size w2 W3)
     have zz := cells7 (keep b3.out HZ.out)
     have zn := cells6 (hW3 ▸ block_new w2 _ _ : W3.heap[w2.heap.size]? = some (.cells #[.int .i64 t1, .int .i64 n1, .string tx, .slice la l1 lc, .slice ka l2 kc, .slice va l3 vc] 27 (0, 0)))
     have HB3 := Lib.hid (HB.out.trans (b3.out.mono (by omega)))
     have HV3 := Lib.hid (RV.mono (Same.of_below b3.out fun b hb => hb.2) (fun b hb => hb.1) _ _ (RV.lt _ _ HV.out))
     clear hW3
     go_wp2_with fail
     refine bodyPost_ret (v := .agg #[.int .i64 t1, .int .i64 n1, .string tx, .slice la l1 lc, .slice ka l2 kc, .slice va l3 vc, .int .i64 0]) (by simp [results, Tryz.results39, go_sem, *]) rfl ⟨_, _, _, _, _, _, rfl, ?_, ?_⟩
     · exact RV.mono (S := fun r => W.heap.size ≤ r) (fun b hb => sets7_other _ _ _ _ _ _ _ (by omega)) (fun b hb => by show _ ≤ b; omega) _ _ HV3.out
     · exact sets7 HB3.out (Nat.le_refl _) _ _ _ _ _ _ _)

end Go.Proofs.YtgjmgneppecfgaaGreatDoor.Va
