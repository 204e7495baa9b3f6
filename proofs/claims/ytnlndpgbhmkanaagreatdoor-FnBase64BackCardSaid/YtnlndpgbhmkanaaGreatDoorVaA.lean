/-
  THE VALUES: a value of the thin package as data (V); what it is to read it in memory (RV); what it is to be its value of the program (GV).
-/
import Derived.Test.YtnlndpgbhmkanaaGreatDoorRows
import Derived.Below
import Derived.OwnWalk
import Derived.Laws.Rows
import Derived.MapKept
import Derived.Lib.ValidU
import Derived.Test.YtnlndpgbhmkanaaGreatDoorVaF
namespace Go.Proofs.YtnlndpgbhmkanaaGreatDoor.Va
open Go.RowKit

/-- a value of the thin package, as data: its kind, twice its number, its text, its list, its keys and their values -/
inductive V where
  | mk (kind half : Int) (text : ByteArray) (list : List V) (keys : List ByteArray) (vals : List V)
def V.kind : V → Int | .mk k _ _ _ _ _ => k
def V.half : V → Int | .mk _ h _ _ _ _ => h
def V.text : V → ByteArray | .mk _ _ t _ _ _ => t
def V.list : V → List V | .mk _ _ _ l _ _ => l
def V.keys : V → List ByteArray | .mk _ _ _ _ k _ => k
def V.vals : V → List V | .mk _ _ _ _ _ v => v

mutual
def V.size : V → Nat
  | .mk _ _ _ l _ vs => 1 + sizeL l + sizeL vs
def sizeL : List V → Nat
  | [] => 0
  | x :: xs => x.size + sizeL xs
end
theorem size_mem {l : List V} {x : V} (h : x ∈ l) : x.size ≤ sizeL l := by
  induction l with
  | nil => cases h
  | cons y ys ih =>
    rw [sizeL]
    rcases List.mem_cons.1 h with rfl | h
    · omega
    · have := ih h; omega
theorem size_pos (x : V) : 1 ≤ x.size := by cases x; rw [V.size]; omega
theorem length_le (l : List V) : l.length ≤ sizeL l := by
  induction l with
  | nil => simp
  | cons y ys ih => rw [sizeL, List.length_cons]; have := size_pos y; omega

/-! ### reading a list of texts, values, lists of values: every cell that is read lies in a block of S -/
def RK (w : World) (S : Nat → Prop) : List ByteArray → Option Addr → Prop
  | [], _ => True
  | t :: ts, a => ∃ b o, a = some ⟨b, o, none⟩ ∧ S b ∧ w.cell? ⟨b, o, none⟩ = some (.string t) ∧ RK w S ts (some ⟨b, o + 1, none⟩)
/-- the six cells of a value at a place -/
def Six (w : World) (b o : Nat) (c0 c1 c2 c3 c4 c5 : Value) : Prop :=
  w.cell? ⟨b, o, none⟩ = some c0 ∧ w.cell? ⟨b, o + 1, none⟩ = some c1 ∧ w.cell? ⟨b, o + 2, none⟩ = some c2 ∧ w.cell? ⟨b, o + 3, none⟩ = some c3 ∧ w.cell? ⟨b, o + 4, none⟩ = some c4 ∧ w.cell? ⟨b, o + 5, none⟩ = some c5
mutual
def RV (w : World) (S : Nat → Prop) : V → Value → Prop
  | .mk k h t ls ks vs, v => ∃ la lc ka kc va vc, v = .agg #[.int .i64 k, .int .i64 h, .string t, .slice la ls.length lc, .slice ka ks.length kc, .slice va vs.length vc] ∧ RL w S ls la ∧ RK w S ks ka ∧ RL w S vs va
def RL (w : World) (S : Nat → Prop) : List V → Option Addr → Prop
  | [], _ => True
  | x :: xs, a => ∃ b o c0 c1 c2 c3 c4 c5, a = some ⟨b, o, none⟩ ∧ S b ∧ Six w b o c0 c1 c2 c3 c4 c5 ∧ RV w S x (.agg #[c0, c1, c2, c3, c4, c5]) ∧ RL w S xs (some ⟨b, o + 6, none⟩)
end

/-- a world in which the blocks of S are as they were -/
def Same (S : Nat → Prop) (w w' : World) : Prop := ∀ b, S b → w'.heap[b]? = w.heap[b]?
theorem Same.cell {S : Nat → Prop} {w w' : World} (h : Same S w w') {b o : Nat} (hb : S b) : w'.cell? ⟨b, o, none⟩ = w.cell? ⟨b, o, none⟩ := World.cell?_of_block (w := w) (h b hb)
theorem Same.of_below {w w' : World} {B : Nat} (h : Below B w w') {S : Nat → Prop} (hS : ∀ b, S b → b < B) : Same S w w' := fun b hb => h.block b (hS b hb)
theorem Same.trans {S : Nat → Prop} {a b c : World} (h : Same S a b) (k : Same S b c) : Same S a c := fun x hx => (k x hx).trans (h x hx)
theorem Same.mono {S T : Nat → Prop} {a b : World} (h : Same S a b) (hT : ∀ x, T x → S x) : Same T a b := fun x hx => h x (hT x hx)

theorem RK.mono {w w' : World} {S T : Nat → Prop} (h : Same S w w') (hT : ∀ b, S b → T b) : ∀ l a, RK w S l a → RK w' T l a
  | [], _, _ => trivial
  | t :: ts, a, ⟨b, o, ha, hb, hc, hr⟩ => ⟨b, o, ha, hT b hb, (h.cell hb).trans hc, RK.mono h hT ts _ hr⟩
theorem Six.mono {w w' : World} {S : Nat → Prop} (h : Same S w w') {b o : Nat} (hb : S b) {c0 c1 c2 c3 c4 c5 : Value} (k : Six w b o c0 c1 c2 c3 c4 c5) : Six w' b o c0 c1 c2 c3 c4 c5 := by
  obtain ⟨k0, k1, k2, k3, k4, k5⟩ := k
  exact ⟨(h.cell hb).trans k0, (h.cell hb).trans k1, (h.cell hb).trans k2, (h.cell hb).trans k3, (h.cell hb).trans k4, (h.cell hb).trans k5⟩
mutual
theorem RV.mono {w w' : World} {S T : Nat → Prop} (h : Same S w w') (hT : ∀ b, S b → T b) : ∀ x v, RV w S x v → RV w' T x v
  | .mk k hh t ls ks vs, v, hv => by
    rw [RV] at hv ⊢
    obtain ⟨la, lc, ka, kc, va, vc, e, h1, h2, h3⟩ := hv
    exact ⟨la, lc, ka, kc, va, vc, e, RL.mono h hT ls la h1, RK.mono h hT ks ka h2, RL.mono h hT vs va h3⟩
theorem RL.mono {w w' : World} {S T : Nat → Prop} (h : Same S w w') (hT : ∀ b, S b → T b) : ∀ l a, RL w S l a → RL w' T l a
  | [], a, _ => by rw [RL]; trivial
  | x :: xs, a, hl => by
    rw [RL] at hl ⊢
    obtain ⟨b, o, c0, c1, c2, c3, c4, c5, ha, hb, h6, hx, hr⟩ := hl
    exact ⟨b, o, c0, c1, c2, c3, c4, c5, ha, hT b hb, Six.mono h hb h6, RV.mono h hT x _ hx, RL.mono h hT xs _ hr⟩
end

/-- the element at a place of a list -/
theorem RL.at {w : World} {S : Nat → Prop} : ∀ (l : List V) (b o : Nat), RL w S l (some ⟨b, o, none⟩) → ∀ i (hi : i < l.length), S b ∧ ∃ c0 c1 c2 c3 c4 c5, Six w b (o + i * 6) c0 c1 c2 c3 c4 c5 ∧ RV w S l[i] (.agg #[c0, c1, c2, c3, c4, c5])
  | [], b, o, _, i, hi => by simp at hi
  | x :: xs, b, o, hl, i, hi => by
    rw [RL] at hl
    obtain ⟨b', o', c0, c1, c2, c3, c4, c5, ha, hb, h6, hx, hr⟩ := hl
    simp only [Option.some.injEq, Addr.mk.injEq, and_true] at ha
    obtain ⟨rfl, rfl⟩ := ha
    cases i with
    | zero => exact ⟨hb, c0, c1, c2, c3, c4, c5, by simpa using h6, hx⟩
    | succ i =>
      obtain ⟨_, d0, d1, d2, d3, d4, d5, k6, kx⟩ := RL.at xs b (o + 6) hr i (by simpa using hi)
      exact ⟨hb, d0, d1, d2, d3, d4, d5, by rw [show o + (i + 1) * 6 = o + 6 + i * 6 by omega]; exact k6, kx⟩
theorem RL.addr {w : World} {S : Nat → Prop} {l : List V} {a : Option Addr} (h : RL w S l a) (hl : 0 < l.length) : ∃ b o, a = some ⟨b, o, none⟩ := by
  cases l with
  | nil => simp at hl
  | cons x xs =>
    rw [RL] at h
    obtain ⟨b, o, _, _, _, _, _, _, ha, _⟩ := h
    exact ⟨b, o, ha⟩
theorem RK.at {w : World} {S : Nat → Prop} : ∀ (l : List ByteArray) (b o : Nat), RK w S l (some ⟨b, o, none⟩) → ∀ i (hi : i < l.length), S b ∧ w.cell? ⟨b, o + i, none⟩ = some (.string l[i])
  | [], b, o, _, i, hi => by simp at hi
  | x :: xs, b, o, ⟨b', o', ha, hb, hc, hr⟩, i, hi => by
    simp only [Option.some.injEq, Addr.mk.injEq, and_true] at ha
    obtain ⟨rfl, rfl⟩ := ha
    cases i with
    | zero => exact ⟨hb, by simpa using hc⟩
    | succ i =>
      obtain ⟨_, k⟩ := RK.at xs b (o + 1) hr i (by simpa using hi)
      exact ⟨hb, by rw [show o + (i + 1) = o + 1 + i by omega]; exact k⟩
theorem RK.addr {w : World} {S : Nat → Prop} {l : List ByteArray} {a : Option Addr} (h : RK w S l a) (hl : 0 < l.length) : ∃ b o, a = some ⟨b, o, none⟩ := by
  cases l with
  | nil => simp at hl
  | cons x xs => obtain ⟨b, o, ha, _⟩ := h; exact ⟨b, o, ha⟩

/-! ### the values of the program -/
/-- a number: an int, or (a half) a float64 -/
def gnum (h : Int) : Value := if h % 2 = 0 then .iface 3 (.int .i64 (h / 2)) else .iface 65 (.float .f64 (fl h))
mutual
/-- g is the program's value of x; every block that it leads to is one of S -/
def GV (w : World) (S : Nat → Prop) : V → Value → Prop
  | .mk k h t ls ks vs, g =>
    (k = 0 ∧ g = .nilIface) ∨ (k = 1 ∧ g = .iface 4 (.bool false)) ∨ (k = 2 ∧ g = .iface 4 (.bool true)) ∨ (k = 3 ∧ g = gnum h) ∨ (k = 4 ∧ g = .iface 9 (.string t)) ∨
    (k = 5 ∧ ∃ a c, g = .iface 60 (.slice a ls.length c) ∧ GL w S ls a) ∨
    (k = 6 ∧ ∃ r es clock, g = .iface 106 (.map (some r)) ∧ S r ∧ w.heap[r]? = some (.map es clock) ∧ MapKept.Stamped es clock ∧ GM w S vs ks es.toList)
def GL (w : World) (S : Nat → Prop) : List V → Option Addr → Prop
  | [], _ => True
  | x :: xs, a => ∃ b o g, a = some ⟨b, o, none⟩ ∧ S b ∧ w.cell? ⟨b, o, none⟩ = some g ∧ GV w S x g ∧ GL w S xs (some ⟨b, o + 1, none⟩)
def GM (w : World) (S : Nat → Prop) : List V → List ByteArray → List MapEntry → Prop
  | [], ks, es => ks = [] ∧ es = []
  | x :: xs, ks, es => ∃ k ks' e es', ks = k :: ks' ∧ es = e :: es' ∧ e.key = .string k ∧ GV w S x e.val ∧ GM w S xs ks' es'
end

mutual
theorem GV.mono {w w' : World} {S T : Nat → Prop} (h : Same S w w') (hT : ∀ b, S b → T b) : ∀ x g, GV w S x g → GV w' T x g
  | .mk k hh t ls ks vs, g, hg => by
    rw [GV] at hg ⊢
    rcases hg with q | q | q | q | q | ⟨q, a, c, e, hl⟩ | ⟨q, r, es, cl, e, hr, hb, hst, hm⟩
    · exact .inl q
    · exact .inr (.inl q)
    · exact .inr (.inr (.inl q))
    · exact .inr (.inr (.inr (.inl q)))
    · exact .inr (.inr (.inr (.inr (.inl q))))
    · exact .inr (.inr (.inr (.inr (.inr (.inl ⟨q, a, c, e, GL.mono h hT ls a hl⟩)))))
    · exact .inr (.inr (.inr (.inr (.inr (.inr ⟨q, r, es, cl, e, hT r hr, (h r hr).trans hb, hst, GM.mono h hT vs ks es.toList hm⟩)))))
theorem GL.mono {w w' : World} {S T : Nat → Prop} (h : Same S w w') (hT : ∀ b, S b → T b) : ∀ l a, GL w S l a → GL w' T l a
  | [], a, _ => by rw [GL]; trivial
  | x :: xs, a, hl => by
    rw [GL] at hl ⊢
    obtain ⟨b, o, g, ha, hb, hc, hx, hr⟩ := hl
    exact ⟨b, o, g, ha, hT b hb, (h.cell hb).trans hc, GV.mono h hT x _ hx, GL.mono h hT xs _ hr⟩
theorem GM.mono {w w' : World} {S T : Nat → Prop} (h : Same S w w') (hT : ∀ b, S b → T b) : ∀ vs ks es, GM w S vs ks es → GM w' T vs ks es
  | [], ks, es, hm => by rw [GM] at hm ⊢; exact hm
  | x :: xs, ks, es, hm => by
    rw [GM] at hm ⊢
    obtain ⟨k, ks', e, es', h1, h2, h3, hx, hr⟩ := hm
    exact ⟨k, ks', e, es', h1, h2, h3, GV.mono h hT x _ hx, GM.mono h hT xs _ _ hr⟩
end

/-- what is read lies in blocks that are there -/
theorem cell_lt {w : World} {b o : Nat} {v : Value} (h : w.cell? ⟨b, o, none⟩ = some v) : b < w.heap.size := by
  rcases Nat.lt_or_ge b w.heap.size with h' | h'
  · exact h'
  · simp [World.cell?, Array.getElem?_eq_none h'] at h
theorem heap_lt {w : World} {b : Nat} {v : Obj} (h : w.heap[b]? = some v) : b < w.heap.size := by
  rcases Nat.lt_or_ge b w.heap.size with h' | h'
  · exact h'
  · rw [Array.getElem?_eq_none h'] at h; cases h
mutual
theorem GV.lt {w : World} {S : Nat → Prop} : ∀ x g, GV w S x g → GV w (fun b => S b ∧ b < w.heap.size) x g
  | .mk k hh t ls ks vs, g, hg => by
    rw [GV] at hg ⊢
    rcases hg with q | q | q | q | q | ⟨q, a, c, e, hl⟩ | ⟨q, r, es, cl, e, hr, hb, hst, hm⟩
    · exact .inl q
    · exact .inr (.inl q)
    · exact .inr (.inr (.inl q))
    · exact .inr (.inr (.inr (.inl q)))
    · exact .inr (.inr (.inr (.inr (.inl q))))
    · exact .inr (.inr (.inr (.inr (.inr (.inl ⟨q, a, c, e, GL.lt ls a hl⟩)))))
    · exact .inr (.inr (.inr (.inr (.inr (.inr ⟨q, r, es, cl, e, ⟨hr, heap_lt hb⟩, hb, hst, GM.lt vs ks es.toList hm⟩)))))
theorem GL.lt {w : World} {S : Nat → Prop} : ∀ l a, GL w S l a → GL w (fun b => S b ∧ b < w.heap.size) l a
  | [], a, _ => by rw [GL]; trivial
  | x :: xs, a, hl => by
    rw [GL] at hl ⊢
    obtain ⟨b, o, g, ha, hb, hc, hx, hr⟩ := hl
    exact ⟨b, o, g, ha, ⟨hb, cell_lt hc⟩, hc, GV.lt x _ hx, GL.lt xs _ hr⟩
theorem GM.lt {w : World} {S : Nat → Prop} : ∀ vs ks es, GM w S vs ks es → GM w (fun b => S b ∧ b < w.heap.size) vs ks es
  | [], ks, es, hm => by rw [GM] at hm ⊢; exact hm
  | x :: xs, ks, es, hm => by
    rw [GM] at hm ⊢
    obtain ⟨k, ks', e, es', h1, h2, h3, hx, hr⟩ := hm
    exact ⟨k, ks', e, es', h1, h2, h3, GV.lt x _ hx, GM.lt xs _ _ hr⟩
end
theorem RK.lt {w : World} {S : Nat → Prop} : ∀ l a, RK w S l a → RK w (fun b => S b ∧ b < w.heap.size) l a
  | [], _, _ => trivial
  | t :: ts, a, ⟨b, o, ha, hb, hc, hr⟩ => ⟨b, o, ha, ⟨hb, cell_lt hc⟩, hc, RK.lt ts _ hr⟩
mutual
theorem RV.lt {w : World} {S : Nat → Prop} : ∀ x v, RV w S x v → RV w (fun b => S b ∧ b < w.heap.size) x v
  | .mk k hh t ls ks vs, v, hv => by
    rw [RV] at hv ⊢
    obtain ⟨la, lc, ka, kc, va, vc, e, h1, h2, h3⟩ := hv
    exact ⟨la, lc, ka, kc, va, vc, e, RL.lt ls la h1, RK.lt ks ka h2, RL.lt vs va h3⟩
theorem RL.lt {w : World} {S : Nat → Prop} : ∀ l a, RL w S l a → RL w (fun b => S b ∧ b < w.heap.size) l a
  | [], a, _ => by rw [RL]; trivial
  | x :: xs, a, hl => by
    rw [RL] at hl ⊢
    obtain ⟨b, o, c0, c1, c2, c3, c4, c5, ha, hb, h6, hx, hr⟩ := hl
    exact ⟨b, o, c0, c1, c2, c3, c4, c5, ha, ⟨hb, cell_lt h6.1⟩, h6, RV.lt x _ hx, RL.lt xs _ hr⟩
end

theorem GL.at {w : World} {S : Nat → Prop} : ∀ (l : List V) (b o : Nat), GL w S l (some ⟨b, o, none⟩) → ∀ i (hi : i < l.length), S b ∧ ∃ g, w.cell? ⟨b, o + i, none⟩ = some g ∧ GV w S l[i] g
  | [], b, o, _, i, hi => by simp at hi
  | x :: xs, b, o, hl, i, hi => by
    rw [GL] at hl
    obtain ⟨b', o', g, ha, hb, hc, hx, hr⟩ := hl
    simp only [Option.some.injEq, Addr.mk.injEq, and_true] at ha
    obtain ⟨rfl, rfl⟩ := ha
    cases i with
    | zero => exact ⟨hb, g, by simpa using hc, hx⟩
    | succ i =>
      obtain ⟨_, d, kc, kx⟩ := GL.at xs b (o + 1) hr i (by simpa using hi)
      exact ⟨hb, d, by rw [show o + (i + 1) = o + 1 + i by omega]; exact kc, kx⟩
theorem GL.addr {w : World} {S : Nat → Prop} {l : List V} {a : Option Addr} (h : GL w S l a) (hl : 0 < l.length) : ∃ b o, a = some ⟨b, o, none⟩ := by
  cases l with
  | nil => simp at hl
  | cons x xs =>
    rw [GL] at h
    obtain ⟨b, o, _, ha, _⟩ := h
    exact ⟨b, o, ha⟩
/-- a list out of its elements -/
theorem GL.of {w : World} {S : Nat → Prop} : ∀ (l : List V) (b o : Nat), (0 < l.length → S b) → (∀ i (hi : i < l.length), ∃ g, w.cell? ⟨b, o + i, none⟩ = some g ∧ GV w S l[i] g) → GL w S l (some ⟨b, o, none⟩)
  | [], b, o, _, _ => by rw [GL]; trivial
  | x :: xs, b, o, hS, h => by
    rw [GL]
    obtain ⟨g, hc, hx⟩ := h 0 (by simp)
    exact ⟨b, o, g, rfl, hS (by simp), hc, hx, GL.of xs b (o + 1) (fun _ => hS (by simp)) fun i hi => by
      obtain ⟨d, kc, kx⟩ := h (i + 1) (by simpa using hi)
      exact ⟨d, by rw [show o + 1 + i = o + (i + 1) by omega]; exact kc, kx⟩⟩
theorem RL.of {w : World} {S : Nat → Prop} : ∀ (l : List V) (b o : Nat), (0 < l.length → S b) → (∀ i (hi : i < l.length), ∃ c0 c1 c2 c3 c4 c5, Six w b (o + i * 6) c0 c1 c2 c3 c4 c5 ∧ RV w S l[i] (.agg #[c0, c1, c2, c3, c4, c5])) → RL w S l (some ⟨b, o, none⟩)
  | [], b, o, _, _ => by rw [RL]; trivial
  | x :: xs, b, o, hS, h => by
    rw [RL]
    obtain ⟨c0, c1, c2, c3, c4, c5, h6, hx⟩ := h 0 (by simp)
    exact ⟨b, o, c0, c1, c2, c3, c4, c5, rfl, hS (by simp), by simpa using h6, hx, RL.of xs b (o + 6) (fun _ => hS (by simp)) fun i hi => by
      obtain ⟨d0, d1, d2, d3, d4, d5, k6, kx⟩ := h (i + 1) (by simpa using hi)
      exact ⟨d0, d1, d2, d3, d4, d5, by rw [show o + 6 + i * 6 = o + (i + 1) * 6 by omega]; exact k6, kx⟩⟩

/-! ### the values that are right -/
/-- two texts in their order -/
def Rising : List ByteArray → Prop
  | a :: b :: r => Op.bytesLess a.data.toList b.data.toList = true ∧ Rising (b :: r)
  | _ => True
structure Good1 (k h : Int) (t : ByteArray) (ls : List V) (ks : List ByteArray) (vs : List V) : Prop where
  k0 : 0 ≤ k
  k6 : k ≤ 6
  num : k = 3 ∨ h = 0
  txt : k = 4 ∨ t.size = 0
  lst : k = 5 ∨ ls.length = 0
  map : k = 6 ∨ ks.length = 0
  len : ks.length = vs.length
  lo : -18014398509481984 ≤ h
  hi : h ≤ 18014398509481984
  odd : h % 2 = 0 ∨ (-9007199254740992 < h ∧ h < 9007199254740992)
  tb : t.size ≤ 2147483647
  kb : ∀ s ∈ ks, s.size ≤ 2147483647
  tv : Lib.validD t.data.toList = true
  kv : ∀ s ∈ ks, Lib.validD s.data.toList = true
mutual
def Good : V → Prop
  | .mk k h t ls ks vs => Good1 k h t ls ks vs ∧ GoodL ls ∧ Rising ks ∧ GoodL vs
def GoodL : List V → Prop
  | [] => True
  | x :: xs => Good x ∧ GoodL xs
end
theorem GoodL.mem {l : List V} (h : GoodL l) : ∀ x ∈ l, Good x := by
  induction l with
  | nil => intro x hx; cases hx
  | cons y ys ih =>
    intro x hx
    rw [GoodL] at h
    rcases List.mem_cons.1 hx with rfl | hx
    · exact h.1
    · exact ih h.2 x hx

end Go.Proofs.YtnlndpgbhmkanaaGreatDoor.Va
