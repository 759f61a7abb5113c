/-
  The proof of Rows.FnAnyOfMarksAgreesWithOneRowGridSetSaid, in the frame of the kit's shells, typed for slices of bools and of integers.
-/
import Derived.Test.Qxb6601612aRows
import Derived.Test.Qxb6601612aFrame
import Derived.Test.Qxb6601612aAgreesLaw
import Derived.WalkKit
import Derived.ProofKit
import Derived.OpenShut
import Derived.ChangeOld
import Derived.Below
namespace Go.Proofs.Qxb6601612a.fnAnyOfMarksAgreesWithOneRowGridSet
open Go.ChangeShapes Go.WideShapes Go.ChangeAt Go.RowKit
set_option linter.unusedVariables false

theorem walk (kk : Int) (am ao a : Option Addr) (lm cm lo co l c : Nat) (fm : Nat → Bool) (fo f : Nat → Int) (w : World) (hfm : ReadsB w am lm fm) (hfo : Reads w ao lo fo) (hf : Reads w a l f)
    (nm : am = none → lm = 0 ∧ cm = 0) (no : ao = none → lo = 0 ∧ co = 0) (n : a = none → l = 0 ∧ c = 0) :
    Calls Try.prog 7 #[.slice am lm cm, .slice ao lo co, .int .i64 kk, .slice a l c] w fun e w' => e = .returned (.bool true) ∧ Below w.heap.size w w' := by
  by_cases h : bytes3 lm lo l = false ∨ 65536 < lm ∨ 32768 < lo ∨ 65536 < l
  · exact agrees_early kk am ao a lm cm lo co l c w h
  · simp only [not_or, Bool.not_eq_false] at h
    obtain ⟨h1, h2, h3, h4⟩ := h
    exact agrees_main kk am ao a lm cm lo co l c fm fo f w h1 (by omega) (by omega) (by omega) (by rw [decide_eq_false_iff_not]; omega) (by rw [decide_eq_false_iff_not]; omega) (by rw [decide_eq_false_iff_not]; omega) nm no n hfm hfo hf

set_option maxRecDepth 100000 in
theorem lifted (os : Os) (started : os.Started) (H : Type) (enc : TypeId × Value → H) :
    ReturnsInHanded {} Try.checked os 7 .any (Rows.fnAnyOfMarksAgreesWithOneRowGridSetSpec.pre6 enc Try.prog Try.f7 Rows.fnAnyOfMarksAgreesWithOneRowGridSetRow.domain false) (Rows.fnAnyOfMarksAgreesWithOneRowGridSetSpec.post enc Try.prog Try.f7 false true false false) := by
  refine returnsInHanded_of_change (C := Try.checked) fr_own started (by kernel_rfl) Try.func7
    (ChangeSpec.witness6 (enc := enc) (C := Try.checked) false ⟨#[], #[.slice none 0 0, .slice none 0 0, .int .i64 0, .slice none 0 0], []⟩ 8 (by kernel_rfl) (by kernel_rfl) (by kernel_rfl) (by kernel_rfl)) ?_
  intro W base args ds gs before hval0 hW hcnd _
  have hval : ∀ (j : Nat) t v, Try.f7.params[j]? = some t → args[j]? = some v → Value.okWide Try.prog W .any base t v := hval0
  have hW' := hW
  obtain ⟨p, q, hA0, hV, rfl, hfz, hnd⟩ := hW
  have hA : DataW.TrodAll enc Try.prog W 0 (fun _ => true) true Try.f7.params.toList args.toList ds p := hA0
  rw [Try.params7] at hA hval
  obtain ⟨v0, vs0, d0, ds0, p0, q0, hargs, rfl, rfl, h0, r0⟩ := trodAll_cons hA
  obtain ⟨v1, vs1, d1, ds1, p1, q1, rfl, rfl, rfl, h1, r1⟩ := trodAll_cons r0
  obtain ⟨v2, vs2, d2, ds2, p2, q2, rfl, rfl, rfl, h2, r2⟩ := trodAll_cons r1
  obtain ⟨v3, vs3, d3, ds3, p3, q3, rfl, rfl, rfl, h3, r3⟩ := trodAll_cons r2
  obtain ⟨rfl, rfl, rfl⟩ := trodAll_nil r3
  obtain rfl : args = #[v0, v1, v2, v3] := by cases args; simp_all
  obtain ⟨rfl, rfl⟩ := trodVars_none hV
  obtain ⟨a0, len0, cap0, rfl⟩ := okWide_slice Try.underlying26 (hval 0 26 v0 rfl rfl)
  have k0 := h0
  have lt0 : ∀ x ∈ p0, x.block < W.heap.size := by obtain ⟨m, hm⟩ := k0; exact DataW.trod_lt m _ _ _ hm
  obtain ⟨⟨f0, rd0⟩, n0⟩ : (∃ f, ReadsB W a0 len0 f) ∧ (a0 = none → len0 = 0 ∧ cap0 = 0) := by obtain ⟨fuel, hf⟩ := h0; exact open_bools hf
  obtain ⟨a1, len1, cap1, rfl⟩ := okWide_slice Try.underlying22 (hval 1 22 v1 rfl rfl)
  have k1 := h1
  have lt1 : ∀ x ∈ p1, x.block < W.heap.size := by obtain ⟨m, hm⟩ := k1; exact DataW.trod_lt m _ _ _ hm
  obtain ⟨⟨f1, rd1⟩, n1⟩ : (∃ f, Reads W a1 len1 f) ∧ (a1 = none → len1 = 0 ∧ cap1 = 0) := by obtain ⟨fuel, hf⟩ := h1; exact open_nums hf
  obtain ⟨a2, rfl, rfl, rfl, w2⟩ := open_int Try.underlying3 (hval 2 3 v2 rfl rfl) h2
  obtain ⟨a3, len3, cap3, rfl⟩ := okWide_slice Try.underlying22 (hval 3 22 v3 rfl rfl)
  have k3 := h3
  have lt3 : ∀ x ∈ p3, x.block < W.heap.size := by obtain ⟨m, hm⟩ := k3; exact DataW.trod_lt m _ _ _ hm
  obtain ⟨⟨f3, rd3⟩, n3⟩ : (∃ f, Reads W a3 len3 f) ∧ (a3 = none → len3 = 0 ∧ cap3 = 0) := by obtain ⟨fuel, hf⟩ := h3; exact open_nums hf
  clear hA0 hval0
  refine (walk a2 a0 a1 a3 len0 cap0 len1 cap1 len3 cap3 f0 f1 f3 W rd0 rd1 rd3 n0 n1 n3).mono fun e W' ⟨he, bel⟩ => ?_
  subst he
  exact ⟨_, rfl, _, _, _, [], _, [], hW', trodAll_mk1 (shut_bool Try.underlying4 _), (trodAll_cons_mk (Below.trod fr_laidOut (by kernel_rfl) (of_decide_eq_true (by kernel_rfl)) k0 bel lt0) (trodAll_cons_mk (Below.trod fr_laidOut (by kernel_rfl) (of_decide_eq_true (by kernel_rfl)) k1 bel lt1) (trodAll_cons_mk (shut_int Try.underlying3 w2) (trodAll_cons_mk (Below.trod fr_laidOut (by kernel_rfl) (of_decide_eq_true (by kernel_rfl)) k3 bel lt3) trodAll_mk0)))), rfl, bel.frame _, fun h => by cases h⟩

theorem over : Rows.fnAnyOfMarksAgreesWithOneRowGridSetRow.holds Try.pinned (OpenSpec.ofChange Rows.fnAnyOfMarksAgreesWithOneRowGridSetSpec) :=
  OpenClaim.holds_of_wide 7 Try.f7 rfl rfl rfl rfl rfl rfl rfl ⟨rfl, rfl, rfl, rfl, rfl⟩ rfl rfl rfl rfl rfl (by kernel_rfl) Try.func7 (by kernel_rfl)
    (of_decide_eq_true (by kernel_rfl)) (by unfold Func.isWrapper; first | (rw [if_pos (by decide +kernel)]; kernel_rfl) | (rw [if_neg (by decide +kernel)]; exact ⟨rfl, rfl⟩))
    (fun os started H enc _ => lifted os started H enc)

/-- THE STATEMENT -/
theorem proved : Rows.FnAnyOfMarksAgreesWithOneRowGridSetSaid := over
end Go.Proofs.Qxb6601612a.fnAnyOfMarksAgreesWithOneRowGridSet
