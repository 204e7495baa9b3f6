/-
  FnFormat, texts McO: lemmas for the law; the theorem stands in the last text.
-/
import Derived.Test.YtgjmgneppecfgaaGreatDoorJ15
import Derived.Test.YtgjmgneppecfgaaGreatDoorJ30
namespace Go.Proofs.YtgjmgneppecfgaaGreatDoor.Mc
open Go.RowKit Go.Proofs.YtgjmgneppecfgaaGreatDoor.Va Go.Proofs.YtgjmgneppecfgaaGreatDoor.Ba Go.Proofs.YtgjmgneppecfgaaGreatDoor.Ma Go.Proofs.YtgjmgneppecfgaaGreatDoor.Mb Go.Proofs.YtgjmgneppecfgaaGreatDoor.Pa Go.Proofs.YtgjmgneppecfgaaGreatDoor.Fo
set_option linter.unusedVariables false
set_option linter.unusedSimpArgs false

def elt (ls : List V) (j : Nat) : V := (ls[j]?).getD (.mk 0 0 ⟨#[]⟩ [] [] [])
/-- the cells of the row: the first i are filled -/
def cellF (F : V → List Nat) (ls : List V) (i j : Nat) : Value := .string (if j < i then numS (F (elt ls j)) else ⟨#[]⟩)
theorem cellF_start (F : V → List Nat) (ls : List V) (j : Nat) : cellF F ls 0 j = .string ⟨#[]⟩ := by
  unfold cellF; rw [if_neg (by omega)]
theorem cellF_next (F : V → List Nat) (ls : List V) (i j : Nat) : (if j = i then .string (numS (F (elt ls i))) else cellF F ls i j) = cellF F ls (i + 1) j := by
  unfold cellF
  by_cases h : j = i
  · subst h; rw [if_pos rfl, if_pos (by omega)]
  · rw [if_neg h]
    by_cases h2 : j < i
    · rw [if_pos h2, if_pos (by omega)]
    · rw [if_neg h2, if_neg (by omega)]
theorem elt_at (ls : List V) (i : Nat) (h : i < ls.length) : elt ls i = ls[i] := by unfold elt; rw [List.getElem?_eq_getElem h]; rfl
theorem rowC_cons (F : V → List Nat) (b : Nat) (x : V) (xs : List V) : rowC F b (x :: xs) = b :: (F x ++ rowC F b xs) := by unfold rowC; rw [List.flatMap_cons]; rfl
/-- what strings.Join makes -/
theorem flat_join (F : V → List Nat) (hF : ∀ y, ∀ c ∈ F y, c < 256) (b : Nat) (hb : b < 256) : ∀ ls : List V, bytesN ⟨(Lib.joinTail (numS [b]).data.toList ((ls.map fun y => numS (F y)).map (·.data.toList))).toArray⟩ = rowC F b ls
  | [] => rfl
  | x :: xs => by
    have ih := flat_join F hF b hb xs
    unfold bytesN Lib.joinTail at ih ⊢
    rw [List.map_cons, List.map_cons, List.map_cons, List.flatten_cons, rowC_cons]
    simp only [] at ih ⊢
    rw [List.map_append, ih, List.map_append]
    have e1 : (numS [b]).data.toList.map (·.toNat) = [b] := bytesN_numS' [b] (fun y hy => by simp at hy; omega)
    have e2 : (numS (F x)).data.toList.map (·.toNat) = F x := bytesN_numS' (F x) (hF x)
    rw [e1, e2]
    rfl
theorem join_row (F : V → List Nat) (hF : ∀ y, ∀ c ∈ F y, c < 256) (b : Nat) (hb : b < 256) (ls : List V) : (⟨(Lib.join ((ls.map fun y => numS (F y)).map (·.data.toList)) (numS [b]).data.toList).toArray⟩ : ByteArray) = numS (rowC F b ls).tail := by
  have hlt : ∀ l : List V, ∀ c ∈ rowC F b l, c < 256 := fun l c hc => by
    induction l with
    | nil => cases hc
    | cons x xs ih =>
      rw [rowC_cons] at hc
      rcases List.mem_cons.1 hc with rfl | hc
      · exact hb
      · rcases List.mem_append.1 hc with hc | hc
        · exact hF x c hc
        · exact ih hc
  apply bytes_inj
  rw [bytesN_numS' _ (fun c hc => hlt ls c (List.mem_of_mem_tail hc))]
  cases ls with
  | nil => rfl
  | cons x xs =>
    rw [List.map_cons, List.map_cons, Lib.join_cons, rowC_cons, List.tail_cons]
    have h := flat_join F hF b hb xs
    unfold bytesN at h ⊢
    simp only [] at h ⊢
    rw [List.map_append, h]
    have e2 : (numS (F x)).data.toList.map (·.toNat) = F x := bytesN_numS' (F x) (hF x)
    rw [e2]
theorem numJ_ne (h : Int) : numS (numJ h) ≠ ⟨#[110, 117, 108, 108]⟩ := by
  intro e
  have hl : ∀ x ∈ numJ h, x < 58 := by
    intro x hx
    unfold numJ at hx
    rcases List.mem_append.1 hx with hx | hx
    · split at hx
      · simp at hx; omega
      · cases hx
    · rcases List.mem_append.1 hx with hx | hx
      · have := (digs_range _ x hx).2; omega
      · split at hx
        · cases hx
        · simp at hx; omega
  have e2 := congrArg bytesN e
  rw [bytesN_numS' _ (fun x hx => by have := hl x hx; omega)] at e2
  have h3 : (110 : Nat) ∈ numJ h := by
    rw [e2]
    show (110 : Nat) ∈ [110, 117, 108, 108]
    simp
  have := hl _ h3
  omega
theorem encJ_ne (x : V) (h : x.kind = 1 ∨ x.kind = 2 ∨ x.kind = 3) : numS (encJ x) ≠ ⟨#[110, 117, 108, 108]⟩ := by
  cases x with
  | mk k hh t ls ks vs =>
  have h' : k = 1 ∨ k = 2 ∨ k = 3 := h
  rcases h' with rfl | rfl | rfl
  · show numS [102, 97, 108, 115, 101] ≠ _
    intro e
    have := congrArg ByteArray.size e
    rw [numS_size] at this
    exact absurd this (by decide)
  · show numS [116, 114, 117, 101] ≠ _
    intro e
    have := congrArg bytesN e
    rw [bytesN_numS' _ (by decide)] at this
    exact absurd this (by decide)
  · show numS (numJ hh) ≠ _
    exact numJ_ne hh
theorem gv_7 {w : World} {S : Nat → Prop} {x : V} {g : Value} (h : GV w S x g) : (x.kind = 0 ∧ g = .nilIface) ∨ ((x.kind = 1 ∨ x.kind = 2 ∨ x.kind = 3) ∧ ∃ v, g = .iface 4 v) ∨ ((x.kind = 1 ∨ x.kind = 2 ∨ x.kind = 3) ∧ ∃ v, g = .iface 3 v) ∨ ((x.kind = 1 ∨ x.kind = 2 ∨ x.kind = 3) ∧ ∃ v, g = .iface 65 v) ∨ (x.kind = 4 ∧ g = .iface 9 (.string x.text)) ∨ (x.kind = 5 ∧ ∃ v, g = .iface 60 v) ∨ (x.kind = 6 ∧ ∃ v, g = .iface 106 v) := by
  cases x with
  | mk k hh t ls ks vs =>
  rw [GV] at h
  show (k = 0 ∧ _) ∨ ((k = 1 ∨ k = 2 ∨ k = 3) ∧ _) ∨ ((k = 1 ∨ k = 2 ∨ k = 3) ∧ _) ∨ ((k = 1 ∨ k = 2 ∨ k = 3) ∧ _) ∨ (k = 4 ∧ _) ∨ (k = 5 ∧ _) ∨ (k = 6 ∧ _)
  rcases h with q | q | q | q | q | ⟨q, a, c, e, _⟩ | ⟨q, r, es, cl, e, _⟩
  · exact .inl q
  · exact .inr (.inl ⟨.inl q.1, _, q.2⟩)
  · exact .inr (.inl ⟨.inr (.inl q.1), _, q.2⟩)
  · obtain ⟨rfl, rfl⟩ := q
    unfold gnum
    split
    · exact .inr (.inr (.inl ⟨.inr (.inr rfl), _, rfl⟩))
    · exact .inr (.inr (.inr (.inl ⟨.inr (.inr rfl), _, rfl⟩)))
  · exact .inr (.inr (.inr (.inr (.inl q))))
  · exact .inr (.inr (.inr (.inr (.inr (.inl ⟨q, _, e⟩)))))
  · exact .inr (.inr (.inr (.inr (.inr (.inr ⟨q, _, e⟩)))))
theorem cellF_null (F : V → List Nat) (ls : List V) (i j : Nat) (h : F (elt ls i) = []) : cellF F ls i j = cellF F ls (i + 1) j := by
  rw [← cellF_next, h]
  by_cases e : j = i
  · subst e
    rw [if_pos rfl]
    unfold cellF
    rw [if_neg (by omega)]
    rfl
  · rw [if_neg e]
theorem bX2 : Builder.Extra Tryz.prog Tryz.lays156_ren where
  sizeBuilder := by kernel_rfl
  liesBuilder := by kernel_rfl
  t5 := Tryz.underlying5
  a5 := Tryz.isAgg5
  z5 := Tryz.sizeOf5
  v5 := Tryz.zeroValue5
  infoByte := by kernel_rfl
  cellsByte := by kernel_rfl
  sizeByte := by kernel_rfl
  neB5 := by decide
def JoinEnd (F : V → List Nat) (b : Nat) (ls : List V) (w : World) (e : Ending) (w' : World) : Prop :=
  ((e = .returned (.iface 9 (.string (numS (rowC F b ls).tail))) ∧ ∀ y ∈ ls, y.kind ≠ 5 ∧ y.kind ≠ 6) ∨ ((∃ a, e = .returned (.iface 250 (.pointer (some a)))) ∧ ∃ y ∈ ls, y.kind = 5 ∨ y.kind = 6)) ∧ Below w.heap.size w w'
def LoopJ (F : V → List Nat) (ls : List V) (n g : Nat) (w : World) (iv : Value) (wr : World) : Prop :=
  ∃ i : Nat, iv = .int .i64 (i : Int) ∧ i ≤ n ∧ wr.rowIs g 9 n (cellF F ls i) ∧ (∀ y ∈ ls.take i, y.kind ≠ 5 ∧ y.kind ≠ 6) ∧ Below w.heap.size w wr
set_option hygiene false in
/-
  after the element's text is known: its cell is written
-/
set_option maxHeartbeats 8000000 in
set_option maxRecDepth 100000 in
theorem join_any (f : FuncId) (first : Array Value) (T : List Nat → List Nat) (hT : TextOk T) (typ : ByteArray) (htz : typ.size ≤ 10) (sb : Nat) (hsb : sb < 256) (F : V → List Nat)
    (hF4 : ∀ y, y.kind = 4 → F y = T (bytesN y.text)) (hF0 : ∀ y, y.kind = 0 → (typ = ⟨#[115, 104]⟩ ∧ F y = [110, 117, 108, 108]) ∨ (typ ≠ ⟨#[115, 104]⟩ ∧ F y = [])) (hFx : ∀ y, y.kind ≠ 4 → y.kind ≠ 0 → F y = encJ y)
    (hFok : ∀ y, Va.Good y → y.size ≤ 400 → (F y).length ≤ 26214400) (hFlt : ∀ y, ∀ c ∈ F y, c < 256)
    (ls : List V) (hg : GoodL ls) (h4 : sizeL ls ≤ 400) (n c : Nat) (a : Option Addr) (hn : ls.length = n) (S : Nat → Prop) (w : World) (hgl : GL w S ls a) (hS : ∀ b, S b → b < w.heap.size) (hTb : Tabs w)
    (HC : ∀ args w', (callFunc f args).run Tryz.prog w' = .ok (.enter f args) w')
    (HE : ∀ s w', s.size ≤ 4096 → Below w.heap.size w w' → Calls Tryz.prog f (first.push (.string s)) w' (TextEnd (T (bytesN s)) w')) :
    Calls Tryz.prog 198 #[.string typ, .iface 60 (.slice a n c), .string (numS [sb]), .func (.func f) first #[]] w (JoinEnd F sb ls w) := by
  obtain ⟨j0, hj, hy0, hy1, hy2⟩ := info_parts infoStr
  have hnl : n ≤ 400 := by have := length_le ls; omega
  have hmk : ∀ w : World, (Instr.makeSlice 25 (.int .i64 (n : Int)) (.int .i64 (n : Int))).run Tryz.prog w = .ok (.slice (some ⟨w.heap.size, 0, none⟩) n n) (w.alloc (.cells (madeCells #[.string ⟨#[]⟩] n) 9)) := by
    intro w
    have := run_make (P := Tryz.prog) w 25 9 j0 (.string ⟨#[]⟩) Tryz.underlying25 hj hy0 .i64 .i64 n n (by omega) (by omega) (by rw [hy2]; omega) (by omega)
    rw [hy1] at this
    simpa [Value.cells] using this
  have HG := Lib.hid hg
  have HN := Lib.hid hn
  have HGL := Lib.hid hgl
  have HS := Lib.hid hS
  have HTB := Lib.hid hTb
  have HEE := Lib.hid HE
  have HF4 := Lib.hid hF4
  have HF0 := Lib.hid hF0
  have HFX := Lib.hid hFx
  have HFOK := Lib.hid hFok
  have HFLT := Lib.hid hFlt
  have HTO := Lib.hid hT
  clear hj hy0 hy1 hy2 hg hn hgl hS hTb HE hF4 hF0 hFx hFok hFlt hT
  obtain ⟨sep, hsep⟩ : ∃ sep, numS [sb] = sep := ⟨_, rfl⟩
  have HSEP := Lib.hid hsep
  rw [hsep]
  clear hsep
  go_enter Tryz.func198, Tryz.ntmps198
  go_wp2_with fail
  have HR0 := Lib.hid (World.rowIs_made w (.string ⟨#[]⟩) n 9)
  go_loopw [36] (LoopJ F ls n w.heap.size w) (fun iv _ => n - (intOf iv).toNat)
  case atStart => exact ⟨0, rfl, Nat.zero_le _, HR0.out.congr fun j _ => (cellF_start F ls j).symm, fun y hy => by simp at hy, below_alloc w _⟩
  case round =>
    obtain ⟨i, rfl, hi, hrow, hks, hb⟩ := hrel
    have HROW := Lib.hid hrow
    have HKS := Lib.hid hks
    have HB := Lib.hid hb
    clear hrow hks hb
    by_cases hlt : i < n
    · have hil : i < ls.length := by rw [HN.out]; exact hlt
      obtain ⟨ga, go, rfl⟩ := HGL.out.addr (by omega)
      obtain ⟨hs, g, hcell, hgv0⟩ := GL.at ls ga go HGL.out i hil
      have hsame : Same S w wr := Same.of_below HB.out HS.out
      have hcx : wr.cell? ⟨ga, go + i, none⟩ = some g := (hsame.cell hs).trans hcell
      have hgv := GV.mono hsame (fun _ h => h) _ _ hgv0
      have helt := elt_at ls i hil
      have hmem := List.getElem_mem hil
      have htk := List.take_succ_eq_append_getElem hil
      obtain ⟨x, hx⟩ : ∃ x, ls[i]'hil = x := ⟨_, rfl⟩
      rw [hx] at hgv helt hmem htk
      have HEL := Lib.hid helt
      have HTK := Lib.hid htk
      have hgx := HG.out.mem x hmem
      have hxs : x.size ≤ 400 := by have := size_mem hmem; omega
      have HJ := Lib.hid (jsonMarshal_any x hgx hxs g S wr hgv (fun b h => Nat.lt_of_lt_of_le (HS.out b h) HB.out.size) (HTB.out.below HB.out))
      have HMEM := Lib.hid hmem
      have hcs := gv_7 hgv
      have htx : x.text.size ≤ 4096 := by
        cases x with
        | mk k hh t ls ks vs =>
        rw [Va.Good] at hgx
        exact hgx.1.tb
      clear hs hcell hgv0 hsame hgv helt hmem htk hx hgx hxs
      rcases hcs with ⟨hk, rfl⟩ | ⟨hk, gv, rfl⟩ | ⟨hk, gv, rfl⟩ | ⟨hk, gv, rfl⟩ | ⟨hk, rfl⟩ | ⟨hk, gv, rfl⟩ | ⟨hk, gv, rfl⟩
      · have h0 := HF0.out x hk
        have hel : encJ x = [110, 117, 108, 108] := by
          cases x with
          | mk k hh t ls ks vs =>
          have hk' : k = 0 := hk
          subst hk'
          rfl
        have hu : numS [110, 117, 108, 108] = ⟨#[110, 117, 108, 108]⟩ := rfl
        rw [hel, hu] at HJ
        have HK56 : Hid (x.kind ≠ 5 ∧ x.kind ≠ 6) := Lib.hid (by omega)
        clear hel hu
        (go_wp2_with fail
         refine HJ.out.mono ?_
         rintro e w2 ⟨rfl, hb2⟩
         have HROW2 := Lib.hid (HROW.out.of_block (hb2.block w.heap.size HROW.out.lt))
         have HB2 := Lib.hid (HB.out.trans (hb2.mono HB.out.size))
         have o0 := HROW2.out.cell (i := i) hlt
         have f0 := HROW2.out.frozen i
         obtain ⟨y0, hy0⟩ : ∃ y, cellF F ls i i = y := ⟨_, rfl⟩
         rw [hy0] at o0
         clear hb2 hy0)
        rcases h0 with ⟨ht, hf⟩ | ⟨ht, hf⟩
        · have HFU : Hid (numS (F x) = ⟨#[110, 117, 108, 108]⟩) := Lib.hid (by rw [hf]; rfl)
          have hq : (typ.toList == [115, 104]) = true := by simpa using beq_yes ht
          clear ht hf
          go_wp2_with fail
          (try go_simp
           refine ⟨⟨i + 1, by push_cast; rfl, hlt, ?_, ?_, HB2.out.setCell (Nat.le_refl _) _⟩, by simp [intOf] <;> omega⟩
           · refine (World.rowIs.set HROW2.out i _).congr fun j _ => ?_
             rw [← cellF_next, HEL.out, HFU.out]
           · intro y hy
             rw [HTK.out] at hy
             rcases List.mem_append.1 hy with hy | hy
             · exact HKS.out y hy
             · simp at hy
               rw [hy]
               exact HK56.out)
        · have HFN : Hid (F (elt ls i) = []) := Lib.hid (by rw [HEL.out]; exact hf)
          have hq : (typ.toList == [115, 104]) = false := by simpa using beq_no ht
          clear ht hf
          go_wp2_with fail
          try go_simp
          refine ⟨⟨i + 1, by push_cast; rfl, hlt, ?_, ?_, HB2.out⟩, by simp [intOf] <;> omega⟩
          · exact HROW2.out.congr fun j _ => cellF_null F ls i j HFN.out
          · intro y hy
            rw [HTK.out] at hy
            rcases List.mem_append.1 hy with hy | hy
            · exact HKS.out y hy
            · simp at hy
              rw [hy]
              exact HK56.out
      · have hne := encJ_ne x hk
        have HFU : Hid (numS (F x) = numS (encJ x)) := Lib.hid (by rw [HFX.out x (by omega) (by omega)])
        have HK56 : Hid (x.kind ≠ 5 ∧ x.kind ≠ 6) := Lib.hid (by omega)
        obtain ⟨u, hu⟩ : ∃ u, numS (encJ x) = u := ⟨_, rfl⟩
        rw [hu] at HJ hne HFU
        have hq : ¬ u.toList = [110, 117, 108, 108] := by simpa using beq_no hne
        clear hu hne
        (go_wp2_with fail
         refine HJ.out.mono ?_
         rintro e w2 ⟨rfl, hb2⟩
         have HROW2 := Lib.hid (HROW.out.of_block (hb2.block w.heap.size HROW.out.lt))
         have HB2 := Lib.hid (HB.out.trans (hb2.mono HB.out.size))
         have o0 := HROW2.out.cell (i := i) hlt
         have f0 := HROW2.out.frozen i
         obtain ⟨y0, hy0⟩ : ∃ y, cellF F ls i i = y := ⟨_, rfl⟩
         rw [hy0] at o0
         clear hb2 hy0)
        go_wp2_with fail
        (try go_simp
         refine ⟨⟨i + 1, by push_cast; rfl, hlt, ?_, ?_, HB2.out.setCell (Nat.le_refl _) _⟩, by simp [intOf] <;> omega⟩
         · refine (World.rowIs.set HROW2.out i _).congr fun j _ => ?_
           rw [← cellF_next, HEL.out, HFU.out]
         · intro y hy
           rw [HTK.out] at hy
           rcases List.mem_append.1 hy with hy | hy
           · exact HKS.out y hy
           · simp at hy
             rw [hy]
             exact HK56.out)
      · have hne := encJ_ne x hk
        have HFU : Hid (numS (F x) = numS (encJ x)) := Lib.hid (by rw [HFX.out x (by omega) (by omega)])
        have HK56 : Hid (x.kind ≠ 5 ∧ x.kind ≠ 6) := Lib.hid (by omega)
        obtain ⟨u, hu⟩ : ∃ u, numS (encJ x) = u := ⟨_, rfl⟩
        rw [hu] at HJ hne HFU
        have hq : ¬ u.toList = [110, 117, 108, 108] := by simpa using beq_no hne
        clear hu hne
        (go_wp2_with fail
         refine HJ.out.mono ?_
         rintro e w2 ⟨rfl, hb2⟩
         have HROW2 := Lib.hid (HROW.out.of_block (hb2.block w.heap.size HROW.out.lt))
         have HB2 := Lib.hid (HB.out.trans (hb2.mono HB.out.size))
         have o0 := HROW2.out.cell (i := i) hlt
         have f0 := HROW2.out.frozen i
         obtain ⟨y0, hy0⟩ : ∃ y, cellF F ls i i = y := ⟨_, rfl⟩
         rw [hy0] at o0
         clear hb2 hy0)
        go_wp2_with fail
        (try go_simp
         refine ⟨⟨i + 1, by push_cast; rfl, hlt, ?_, ?_, HB2.out.setCell (Nat.le_refl _) _⟩, by simp [intOf] <;> omega⟩
         · refine (World.rowIs.set HROW2.out i _).congr fun j _ => ?_
           rw [← cellF_next, HEL.out, HFU.out]
         · intro y hy
           rw [HTK.out] at hy
           rcases List.mem_append.1 hy with hy | hy
           · exact HKS.out y hy
           · simp at hy
             rw [hy]
             exact HK56.out)
      · have hne := encJ_ne x hk
        have HFU : Hid (numS (F x) = numS (encJ x)) := Lib.hid (by rw [HFX.out x (by omega) (by omega)])
        have HK56 : Hid (x.kind ≠ 5 ∧ x.kind ≠ 6) := Lib.hid (by omega)
        obtain ⟨u, hu⟩ : ∃ u, numS (encJ x) = u := ⟨_, rfl⟩
        rw [hu] at HJ hne HFU
        have hq : ¬ u.toList = [110, 117, 108, 108] := by simpa using beq_no hne
        clear hu hne
        (go_wp2_with fail
         refine HJ.out.mono ?_
         rintro e w2 ⟨rfl, hb2⟩
         have HROW2 := Lib.hid (HROW.out.of_block (hb2.block w.heap.size HROW.out.lt))
         have HB2 := Lib.hid (HB.out.trans (hb2.mono HB.out.size))
         have o0 := HROW2.out.cell (i := i) hlt
         have f0 := HROW2.out.frozen i
         obtain ⟨y0, hy0⟩ : ∃ y, cellF F ls i i = y := ⟨_, rfl⟩
         rw [hy0] at o0
         clear hb2 hy0)
        go_wp2_with fail
        (try go_simp
         refine ⟨⟨i + 1, by push_cast; rfl, hlt, ?_, ?_, HB2.out.setCell (Nat.le_refl _) _⟩, by simp [intOf] <;> omega⟩
         · refine (World.rowIs.set HROW2.out i _).congr fun j _ => ?_
           rw [← cellF_next, HEL.out, HFU.out]
         · intro y hy
           rw [HTK.out] at hy
           rcases List.mem_append.1 hy with hy | hy
           · exact HKS.out y hy
           · simp at hy
             rw [hy]
             exact HK56.out)
      · have HFU : Hid (numS (F x) = numS (T (bytesN x.text))) := Lib.hid (by rw [HF4.out x hk])
        have HK56 : Hid (x.kind ≠ 5 ∧ x.kind ≠ 6) := Lib.hid (by omega)
        have HJ := Lib.hid (HEE.out x.text wr htx HB.out)
        obtain ⟨s, hs⟩ : ∃ s, x.text = s := ⟨_, rfl⟩
        rw [hs] at HJ HFU hcx
        obtain ⟨u, hu⟩ : ∃ u, numS (T (bytesN s)) = u := ⟨_, rfl⟩
        rw [hu] at HFU
        have HU := Lib.hid hu
        clear hs hu
        (go_wp2_with fail
         refine HJ.out.mono ?_
         rintro e w2 ⟨rfl, hb2⟩
         have HROW2 := Lib.hid (HROW.out.of_block (hb2.block w.heap.size HROW.out.lt))
         have HB2 := Lib.hid (HB.out.trans (hb2.mono HB.out.size))
         have o0 := HROW2.out.cell (i := i) hlt
         have f0 := HROW2.out.frozen i
         obtain ⟨y0, hy0⟩ : ∃ y, cellF F ls i i = y := ⟨_, rfl⟩
         rw [hy0] at o0
         clear hb2 hy0)
        rw [HU.out]
        go_wp2_with fail
        (try go_simp
         refine ⟨⟨i + 1, by push_cast; rfl, hlt, ?_, ?_, HB2.out.setCell (Nat.le_refl _) _⟩, by simp [intOf] <;> omega⟩
         · refine (World.rowIs.set HROW2.out i _).congr fun j _ => ?_
           rw [← cellF_next, HEL.out, HFU.out]
         · intro y hy
           rw [HTK.out] at hy
           rcases List.mem_append.1 hy with hy | hy
           · exact HKS.out y hy
           · simp at hy
             rw [hy]
             exact HK56.out)
      · go_wp2_with fail
        go_returns
        exact ⟨.inr ⟨⟨_, rfl⟩, x, HMEM.out, .inl hk⟩, HB.out.trans ((below_alloc wr _).mono HB.out.size)⟩
      · go_wp2_with fail
        go_returns
        exact ⟨.inr ⟨⟨_, rfl⟩, x, HMEM.out, .inr hk⟩, HB.out.trans ((below_alloc wr _).mono HB.out.size)⟩
    · obtain rfl : i = n := by omega
      have HALL : Hid (ls.take i = ls) := Lib.hid (List.take_of_length_le (by rw [HN.out]; exact Nat.le_refl _))
      rw [HALL.out] at HKS
      have hjr := join_row F HFLT.out sb hsb ls
      rw [HSEP.out] at hjr
      have hgl : ∀ y ∈ ls, (F y).length ≤ 26214400 ∧ ∀ c ∈ F y, c < 256 := fun y hy => ⟨HFOK.out y (HG.out.mem y hy) (by have := size_mem hy; omega), HFLT.out y⟩
      have hro := (rowC_ok F sb hsb ls hgl).1
      have hxl : (ls.map fun y => numS (F y)).length = i := by rw [List.length_map]; exact HN.out
      have hjl : (Lib.join ((ls.map fun y => numS (F y)).map (·.data.toList)) sep.data.toList).length ≤ 140737488355328 := by
        have h1 := congrArg ByteArray.size hjr
        rw [numS_size, List.length_tail] at h1
        have h2 : (Lib.join ((ls.map fun y => numS (F y)).map (·.data.toList)) sep.data.toList).length = (rowC F sb ls).length - 1 := h1
        have h3 : ls.length * 26214401 ≤ 400 * 26214401 := Nat.mul_le_mul_right _ (by rw [HN.out]; exact hnl)
        omega
      have HJN := Lib.hid (Any.strings_Join Tryz.lays156 bX2 w.heap.size 0 i (ls.map fun y => numS (F y)) sep wr (fun j x hx => by
        rw [List.getElem?_map] at hx
        cases hl : ls[j]? with
        | none => rw [hl] at hx; simp at hx
        | some y =>
          rw [hl] at hx
          simp at hx
          have hj : j < i := by rw [← HN.out]; exact (List.getElem?_eq_some_iff.1 hl).1
          rw [Nat.zero_add, HROW.out.cell hj, ← hx]
          unfold cellF elt
          rw [if_pos hj, hl]
          rfl) (Nat.lt_of_lt_of_le (HROW.out.lt) (Nat.le_refl _)) (by rw [hxl]; omega) (by rw [hxl]; exact Nat.le_refl _) hjl)
      rw [hxl, hjr] at HJN
      clear hjr hgl hro hxl hjl
      go_wp2_with fail
      refine HJN.out.mono ?_
      rintro e w2 ⟨rfl, hb2⟩
      go_wp2_with fail
      go_returns
      exact ⟨.inl ⟨rfl, HKS.out⟩, HB.out.trans (hb2.mono HB.out.size)⟩
end Go.Proofs.YtgjmgneppecfgaaGreatDoor.Mc
