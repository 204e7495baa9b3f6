/-
  FnFormat, texts FoZ FzC: lemmas for the law; the theorem stands in the last text.
-/
import Derived.Test.YtgjmgneppecfgaaGreatDoorRows
import Derived.Test.YtgjmgneppecfgaaGreatDoorProg
import Derived.JoinedOf
import Derived.ProofKit
import Derived.Test.YtgjmgneppecfgaaGreatDoorJ43
namespace Go.Proofs.YtgjmgneppecfgaaGreatDoor.Fo
open Go.RowKit Go.Proofs.YtgjmgneppecfgaaGreatDoor.Va Go.Proofs.YtgjmgneppecfgaaGreatDoor.Ba Go.Proofs.YtgjmgneppecfgaaGreatDoor.Ma Go.Proofs.YtgjmgneppecfgaaGreatDoor.Pa
open Go.Proofs.YtgjmgneppecfgaaGreatDoor.Mc (UrlTab ResEnd errV badV FnW FnEnd csvU tsvU shU fieldZ RowFn)
set_option linter.unusedVariables false
set_option linter.unusedSimpArgs false

theorem fnw_text (x : V) (hx : Va.Good x) (hsz : x.size ≤ 400) : FnW 155 x (Ptext x) (Etext x) := fun g S w hg hS hT hU =>
  (Mc.toString_any x hx hsz g S w hg hS hT).mono fun e w' ⟨he, hb⟩ => ⟨.inl ⟨_, rfl, he⟩, hb⟩
theorem fnw_json (x : V) (hx : Va.Good x) (hsz : x.size ≤ 400) : FnW 161 x (Pjson x) (Ejson x) := fun g S w hg hS hT hU =>
  (Mc.toJSON_any x hx hsz g S w hg hS hT).mono fun e w' ⟨he, hb⟩ => ⟨.inl ⟨_, rfl, he⟩, hb⟩
theorem fnw_html (x : V) (hx : Va.Good x) (hsz : x.size ≤ 400) : FnW 162 x (Phtml x) (Ehtml x) := fun g S w hg hS hT hU =>
  (Mc.toHTML_any x hx hsz g S w hg hS hT).mono fun e w' ⟨he, hb⟩ => ⟨.inl ⟨_, rfl, he⟩, hb⟩
theorem fnw_uri (x : V) (hx : Va.Good x) (hsz : x.size ≤ 400) : FnW 163 x (Puri x) (Euri x) := fun g S w hg hS hT hU =>
  (Mc.toURI_any x hx hsz g S w hg hS hT hU).mono fun e w' ⟨he, hb⟩ => ⟨.inl ⟨_, rfl, he⟩, hb⟩
theorem fnw_urid (x : V) (hx : Va.Good x) (hsz : x.size ≤ 400) : FnW 164 x (fun _ => True) True := fun g S w hg hS hT hU =>
  (Mc.toURId_any x hx hsz g S w hg hS hT hU).mono fun e w' ⟨he, hb⟩ => ⟨he.imp (fun ⟨t, h⟩ => ⟨t, trivial, h⟩) (fun ⟨a, h⟩ => ⟨trivial, _, a, .inl rfl, h⟩), hb⟩
theorem fnw_csv (x : V) (hx : Va.Good x) (hsz : x.size ≤ 400) : FnW 165 x (Pcsv x) (Ecsv x) := fun g S w hg hS hT hU =>
  (Mc.toCSV_any x hx hsz g S w hg hS hT).mono fun e w' ⟨h, hb⟩ => ⟨h.imp (fun ⟨h1, h2, h3⟩ => ⟨_, ⟨of_decide_eq_true h1, h2, rfl⟩, h3⟩) (fun ⟨h1, h2⟩ => ⟨h1.imp (fun h => of_decide_eq_false h) id, by
    rcases h2 with ⟨a, h⟩ | ⟨a, h⟩
    · exact ⟨_, a, .inr (.inl rfl), h⟩
    · exact ⟨_, a, .inr (.inr rfl), h⟩⟩), hb⟩
theorem fnw_tsv (x : V) (hx : Va.Good x) (hsz : x.size ≤ 400) : FnW 166 x (Ptsv x) (Etsv x) := fun g S w hg hS hT hU =>
  (Mc.toTSV_any x hx hsz g S w hg hS hT).mono fun e w' ⟨h, hb⟩ => ⟨h.imp (fun ⟨h1, h2, h3⟩ => ⟨_, ⟨of_decide_eq_true h1, h2, rfl⟩, h3⟩) (fun ⟨h1, h2⟩ => ⟨h1.imp (fun h => of_decide_eq_false h) id, by
    rcases h2 with ⟨a, h⟩ | ⟨a, h⟩
    · exact ⟨_, a, .inr (.inl rfl), h⟩
    · exact ⟨_, a, .inr (.inr rfl), h⟩⟩), hb⟩
theorem fnw_sh (x : V) (hx : Va.Good x) (hsz : x.size ≤ 400) : FnW 167 x (Psh x) (Esh x) := fun g S w hg hS hT hU =>
  (Mc.toSh_any x hx hsz g S w hg hS hT).mono fun e w' ⟨h, hb⟩ => ⟨h.imp (fun ⟨h1, h2, h3⟩ => ⟨_, ⟨h2, rfl⟩, h3⟩) (fun ⟨h1, h2⟩ => ⟨h1.resolve_left (by decide), by
    rcases h2 with ⟨a, h⟩ | ⟨a, h⟩
    · exact ⟨_, a, .inr (.inl rfl), h⟩
    · exact ⟨_, a, .inr (.inr rfl), h⟩⟩), hb⟩
theorem fnw_base64 (x : V) (hx : Va.Good x) (hsz : x.size ≤ 400) : FnW 103 x (Pbase64 x) (Ebase64 x) := fun g S w hg hS hT hU =>
  (Mc.toB64_v (numS (strX x)) (by rw [numS_size]; have := strX_len x hx hsz; omega) g w (Lib.hid (Mc.toString_any x hx hsz g S w hg hS hT))).mono fun e w' ⟨he, hb⟩ => ⟨.inl ⟨_, by
    rw [bytesN_numS' _ (strX_lt x)] at he
    exact ⟨rfl, he⟩⟩, hb⟩
theorem fnw_base64d (x : V) (hx : Va.Good x) (hsz : x.size ≤ 400) : FnW 104 x (Pbase64d x) (Ebase64d x) := fun g S w hg hS hT hU =>
  (Mc.fromB64_v (numS (strX x)) (by rw [numS_size]; have := strX_len x hx hsz; omega) g (Mb.gv_shape hg) w (Lib.hid (Mc.toString_any x hx hsz g S w hg hS hT))).mono fun e w' ⟨p, out, ok, h1, h2, h3, h4, he, hb⟩ => by
    refine ⟨?_, hb⟩
    rcases he with ⟨rfl, he⟩ | ⟨rfl, a, he⟩
    · exact .inl ⟨_, ⟨out, ⟨p, h1, h2, h3, h4⟩, rfl⟩, he⟩
    · exact .inr ⟨⟨out, p, h1, h2, h3, h4⟩, _, a, .inl rfl, he⟩
theorem name_tail (a b : ByteArray) (h : (bytesN a).tail = bytesN b) : a.extract 1 a.size = b := by
  apply bytes_inj
  rw [Mb.bytesN_extract2, ← bytesN_len, List.take_length, ← h, List.drop_one]
theorem name_ok (name nm : ByteArray) (h : (bytesN name).tail = bytesN nm) (x : V) (P : ByteArray → Prop) (E : Prop)
    (h1 : ∀ (v : Value) (S : Nat → Prop) (w : World), RV w S x v → (∀ b, S b → b < w.heap.size) → Tabs w → UrlTab w → Calls Tryz.prog 25 #[.string name, v] w (ResEnd P E w))
    (h2 : ∀ (v : Value) (S : Nat → Prop) (w : World), RV w S x v → (∀ b, S b → b < w.heap.size) → Calls Tryz.prog 60 #[.string nm, v] w (FmtEnd P E w)) : NameOk name x P E :=
  ⟨h1, by rw [name_tail name nm h]; exact h2⟩
theorem format_law (name : ByteArray) (hname : name.size ≤ 9223372036854775807) (x : V) (hx : Wf x) (v : Value) (S : Nat → Prop) (w : World) (hv : RV w S x v) (hS : ∀ b, S b → b < w.heap.size) (hT : Tabs w) (hU : UrlTab w) : Calls Tryz.prog 6 #[.string name, v] w (LawEnd w) := by
  by_cases hm : name ∈ FM
  · have hm2 := hm
    unfold FM at hm2
    simp only [List.mem_cons, List.not_mem_nil, or_false] at hm2
    rcases hm2 with rfl | rfl | rfl | rfl | rfl | rfl | rfl | rfl | rfl
    · exact law_core _ hname hm x hx _ _ (fun hg hz => name_ok _ ⟨#[116, 101, 120, 116]⟩ rfl x _ _ (fun v S w => Mc.format_iToString x hg hz _ _ (fnw_text x hg hz) v S w) (fun v S w => sfmt_text x hg hz v S w)) v S w hv hS hT hU
    · exact law_core _ hname hm x hx _ _ (fun hg hz => name_ok _ ⟨#[106, 115, 111, 110]⟩ rfl x _ _ (fun v S w => Mc.format_iToJSON x hg hz _ _ (fnw_json x hg hz) v S w) (fun v S w => sfmt_json x hg hz v S w)) v S w hv hS hT hU
    · exact law_core _ hname hm x hx _ _ (fun hg hz => name_ok _ ⟨#[104, 116, 109, 108]⟩ rfl x _ _ (fun v S w => Mc.format_fHTML x hg hz _ _ (fnw_html x hg hz) v S w) (fun v S w => sfmt_html x hg hz v S w)) v S w hv hS hT hU
    · exact law_core _ hname hm x hx _ _ (fun hg hz => name_ok _ ⟨#[117, 114, 105]⟩ rfl x _ _ (fun v S w => Mc.format_fURI x hg hz _ _ (fnw_uri x hg hz) v S w) (fun v S w => sfmt_uri x hg hz v S w)) v S w hv hS hT hU
    · exact law_core _ hname hm x hx _ _ (fun hg hz => name_ok _ ⟨#[99, 115, 118]⟩ rfl x _ _ (fun v S w => Mc.format_fCSV x hg hz _ _ (fnw_csv x hg hz) v S w) (fun v S w => sfmt_csv x hg hz v S w)) v S w hv hS hT hU
    · exact law_core _ hname hm x hx _ _ (fun hg hz => name_ok _ ⟨#[116, 115, 118]⟩ rfl x _ _ (fun v S w => Mc.format_fTSV x hg hz _ _ (fnw_tsv x hg hz) v S w) (fun v S w => sfmt_tsv x hg hz v S w)) v S w hv hS hT hU
    · exact law_core _ hname hm x hx _ _ (fun hg hz => name_ok _ ⟨#[115, 104]⟩ rfl x _ _ (fun v S w => Mc.format_fSh x hg hz _ _ (fnw_sh x hg hz) v S w) (fun v S w => sfmt_sh x hg hz v S w)) v S w hv hS hT hU
    · exact law_core _ hname hm x hx _ _ (fun hg hz => name_ok _ ⟨#[98, 97, 115, 101, 54, 52]⟩ rfl x _ _ (fun v S w => Mc.format_FormatB64 x hg hz _ _ (fnw_base64 x hg hz) v S w) (fun v S w => sfmt_base64 x hg hz v S w)) v S w hv hS hT hU
    · exact law_core _ hname hm x hx _ _ (fun hg hz => name_ok _ ⟨#[98, 97, 115, 101, 54, 52, 100]⟩ rfl x _ _ (fun v S w => Mc.format_FormatB64D x hg hz _ _ (fnw_base64d x hg hz) v S w) (fun v S w => sfmt_base64d x hg hz v S w)) v S w hv hS hT hU
  · by_cases hu : name = ⟨#[64, 117, 114, 105, 100]⟩
    · subst hu
      exact law_urid x hx v S w hv hS hT hU (fun hg hz v S w hv hS hT hU => Mc.format_fURID x hg hz _ _ (fnw_urid x hg hz) v S w hv hS hT hU)
    · exact law_other name hname hm hu x hx v S w hv hS hT hU
end Go.Proofs.YtgjmgneppecfgaaGreatDoor.Fo
namespace Go.Proofs.YtgjmgneppecfgaaGreatDoor.Fo
open Go.ChangeShapes Go.WideShapes Go.ChangeAt Go.RowKit

set_option maxHeartbeats 16000000 in
set_option maxRecDepth 100000 in
theorem closed : joinedFacts Tryz.pinned.checked.prog 6 Tryz.f6 Rows.fnFormatSpec Rows.fnFormatRow = true := by
  unfold joinedFacts
  simp only [Bool.and_eq_true]
  repeat' apply And.intro
  all_goals (as_aux_lemma => kernel_rfl)
end Go.Proofs.YtgjmgneppecfgaaGreatDoor.Fo
