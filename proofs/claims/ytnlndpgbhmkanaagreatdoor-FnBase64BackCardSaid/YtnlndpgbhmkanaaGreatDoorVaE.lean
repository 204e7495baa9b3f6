/-
  toGo serves every value that is right.
-/
import Derived.Test.YtnlndpgbhmkanaaGreatDoorVaD
namespace Go.Proofs.YtnlndpgbhmkanaaGreatDoor.Va
open Go.RowKit
open Go.MapKept (Stamped IsKey)
set_option linter.unusedVariables false
set_option linter.unusedSimpArgs false

section
variable (h : Int) (t : ByteArray) (ls : List V) (ks : List ByteArray) (vs : List V) (la ka va : Option Addr) (n1 lc n2 kc n3 vc : Nat) (w : World)

set_option maxHeartbeats 400000 in
theorem toGo_5 (H : ∀ x ∈ ls, TG x) (hn1 : ls.length = n1) (hn : n1 ≤ 2147483647) (S : Nat → Prop) (hl : RL w S ls la) (hS : ∀ b, S b → b < w.heap.size) : Calls Tryz.prog 43 #[.agg #[.int .i64 5, .int .i64 h, .string t, .slice la n1 lc, .slice ka n2 kc, .slice va n3 vc]] w (ToGo (.mk 5 h t ls ks vs) w) := by
  have HL := Lib.hid hl
  have HS := Lib.hid hS
  have HH := Lib.hid H
  have HN := Lib.hid hn1
  clear hl hS H hn1
  go_enter Tryz.func43, Tryz.ntmps43
  go_wp2_with fail
  generalize hW : World.alloc w _ = W
  have b1 : Below w.heap.size w W := hW ▸ below_alloc w _
  clear hW
  have c := listToGo_any ls HH.out la lc S W (RL.mono (Same.of_below b1 HS.out) (fun _ h => h) _ _ HL.out) (fun b h => Nat.lt_of_lt_of_le (HS.out b h) b1.size) (by rw [HN.out]; exact hn)
  rw [HN.out] at c
  refine c.mono ?_
  rintro e w2 ⟨g, rfl, hg, hgl, hb2⟩
  have hs := b1.size
  have R : Hid (GV w2 (fun r => w.heap.size ≤ r) (.mk 5 h t ls ks vs) (.iface 60 (.slice (some ⟨g, 0, none⟩) n1 n1)) ∧ Below w.heap.size w w2) := Lib.hid ⟨by
    rw [GV, ← HN.out]
    exact .inr (.inr (.inr (.inr (.inr (.inl ⟨rfl, _, _, rfl, GL.mono (fun _ _ => rfl) (fun b (hb : W.heap.size ≤ b) => by show _ ≤ b; omega) _ _ hgl⟩))))), b1.trans (hb2.mono b1.size)⟩
  clear c hg hgl hb2 hs b1
  rw [HN.out]
  go_wp2_with fail
  go_returns
  exact ⟨_, rfl, R.out.1, R.out.2⟩

set_option maxHeartbeats 400000 in
theorem toGo_6 (H : ∀ x ∈ vs, TG x) (hr : Rising ks) (hn2 : ks.length = n2) (hn3 : vs.length = n2) (hn : n2 ≤ 2147483647) (S : Nat → Prop) (hk : RK w S ks ka) (hv : RL w S vs va) (hS : ∀ b, S b → b < w.heap.size) : Calls Tryz.prog 43 #[.agg #[.int .i64 6, .int .i64 h, .string t, .slice la n1 lc, .slice ka n2 kc, .slice va n2 vc]] w (ToGo (.mk 6 h t ls ks vs) w) := by
  have HK := Lib.hid hk
  have HV := Lib.hid hv
  have HS := Lib.hid hS
  have HH := Lib.hid H
  have HN := Lib.hid hn2
  have HN3 := Lib.hid hn3
  clear hk hv hS H hn2 hn3
  go_enter Tryz.func43, Tryz.ntmps43
  go_wp2_with fail
  generalize hW : World.alloc w _ = W
  have b1 : Below w.heap.size w W := hW ▸ below_alloc w _
  clear hW
  have hs := b1.size
  refine (mapToGo_any ks vs HH.out hr n2 HN.out HN3.out hn _ _ _ _ _ _ _ _ _ _ S W (RK.mono (Same.of_below b1 HS.out) (fun _ h => h) _ _ HK.out) (RL.mono (Same.of_below b1 HS.out) (fun _ h => h) _ _ HV.out) (fun b h => Nat.lt_of_lt_of_le (HS.out b h) b1.size)).mono ?_
  rintro e w2 ⟨r, es, cl, rfl, hg, hb, hst, hgm, hb2⟩
  have R : Hid (GV w2 (fun r => w.heap.size ≤ r) (.mk 6 h t ls ks vs) (.iface 106 (.map (some r))) ∧ Below w.heap.size w w2) := Lib.hid ⟨by
    rw [GV]
    exact .inr (.inr (.inr (.inr (.inr (.inr ⟨rfl, _, _, _, rfl, by show _ ≤ r; omega, hb, hst, GM.mono (fun _ _ => rfl) (fun b (hb : W.heap.size ≤ b) => by show _ ≤ b; omega) _ _ _ hgm⟩))))), b1.trans (hb2.mono b1.size)⟩
  clear hg hgm hb2 hs b1 hst hb
  go_wp2_with fail
  go_returns
  exact ⟨_, rfl, R.out.1, R.out.2⟩
end

theorem toGo_good : ∀ (n : Nat) (x : V), x.size ≤ n → n ≤ 2147483647 → Good x → TG x
  | 0, x, h, _, _ => by have := size_pos x; omega
  | n + 1, .mk k h t ls ks vs, hsz, hn, hg => by
    intro v S w hv hS
    rw [RV] at hv
    rw [Good] at hg
    obtain ⟨g1, gl, gr, gv⟩ := hg
    rw [V.size] at hsz
    obtain ⟨la, lc, ka, kc, va, vc, rfl, h1, h2, h3⟩ := hv
    have hls := length_le ls
    have hvs := length_le vs
    have hll := g1.len
    have k0 := g1.k0
    have k6 := g1.k6
    obtain rfl | rfl | rfl | rfl | rfl | rfl | rfl : k = 0 ∨ k = 1 ∨ k = 2 ∨ k = 3 ∨ k = 4 ∨ k = 5 ∨ k = 6 := by omega
    · exact toGo_0 _ _ _ _ _ _ _ _ _ _ _ _ _ _ _
    · exact toGo_1 _ _ _ _ _ _ _ _ _ _ _ _ _ _ _
    · exact toGo_2 _ _ _ _ _ _ _ _ _ _ _ _ _ _ _
    · by_cases he : h % 2 = 0
      · exact toGo_3e _ _ _ _ _ _ _ _ _ _ _ _ _ _ _ g1.lo g1.hi he
      · have := g1.odd
        exact toGo_3o _ _ _ _ _ _ _ _ _ _ _ _ _ _ _ (by omega) (by omega) he
    · exact toGo_4 _ _ _ _ _ _ _ _ _ _ _ _ _ _ _
    · exact toGo_5 _ _ _ _ _ _ _ _ _ _ _ _ _ _ _ (fun x hx => toGo_good n x (by have := size_mem hx; omega) (by omega) (gl.mem x hx)) rfl (by omega) S h1 hS
    · rw [← hll]
      exact toGo_6 _ _ _ _ _ _ _ _ _ _ _ _ _ _ (fun x hx => toGo_good n x (by have := size_mem hx; omega) (by omega) (gv.mem x hx)) gr rfl hll.symm (by omega) S h2 h3 hS

end Go.Proofs.YtnlndpgbhmkanaaGreatDoor.Va
