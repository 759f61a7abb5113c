/-
  The proof of Rows.FnLinkFacesSubsequenceOfLinksSaid, in the frame of the kit's shells, typed for two slices of floats and two of integers.
-/
import Derived.Test.Qxb6000855aRows
import Derived.Test.Qxb6000855aLfFrame
import Derived.Test.Qxb6000855aSubLaw
import Derived.WalkKit
import Derived.ProofKit
import Derived.OpenShut
import Derived.ChangeOld
import Derived.Below
namespace Go.Proofs.Qxb6000855a.fnLinkFacesSubsequenceOfLinks
open Go.ChangeShapes Go.WideShapes Go.ChangeAt Go.RowKit
set_option linter.unusedVariables false

theorem walk (a a' b b' : Option Addr) (lx c ly c' lu d lv d' : Nat) (X Y : Nat → Nat) (f g : Nat → Int) (w : World) (hX : ReadsF w a lx X) (hY : ReadsF w a' ly Y) (hf : Reads w b lu f) (hg : Reads w b' lv g)
    (na : a = none → lx = 0 ∧ c = 0) (na' : a' = none → ly = 0 ∧ c' = 0) (nb : b = none → lu = 0 ∧ d = 0) (nb' : b' = none → lv = 0 ∧ d' = 0) :
    Calls Try.prog 10 #[.slice a lx c, .slice a' ly c', .slice b lu d, .slice b' lv d'] w fun e w' => e = .returned (.bool true) ∧ Below w.heap.size w w' := by
  by_cases h : bytes4 lx ly lu lv = false ∨ 131072 < lx ∨ 131072 < ly ∨ 131072 < lu ∨ 131072 < lv ∨ 1048576 < 8 * (lx + ly + lu + lv) ∨ allIn (min lx ly : Nat) f g (min lu lv) = false
  · exact subLaw_early a a' b b' lx c ly c' lu d lv d' f g w hf hg h
  · simp only [not_or, Bool.not_eq_false] at h
    obtain ⟨h1, h2, h3, h4, h5, h6, h7⟩ := h
    exact subLaw_main a a' b b' lx c ly c' lu d lv d' X Y f g w hX hY hf hg na na' nb nb' h1 (by omega) (by omega) (by omega) (by omega) (by omega) h7

set_option maxRecDepth 100000 in
theorem lifted (os : Os) (started : os.Started) (H : Type) (enc : TypeId × Value → H) :
    ReturnsInHanded {} Try.checked os 10 .any (Rows.fnLinkFacesSubsequenceOfLinksSpec.pre6 enc Try.prog Try.f10 Rows.fnLinkFacesSubsequenceOfLinksRow.domain false) (Rows.fnLinkFacesSubsequenceOfLinksSpec.post enc Try.prog Try.f10 false true false false) := by
  refine returnsInHanded_of_change (C := Try.checked) lf_own started (by kernel_rfl) Try.func10
    (ChangeSpec.witness6 (enc := enc) (C := Try.checked) false ⟨#[], #[.slice none 0 0, .slice none 0 0, .slice none 0 0, .slice none 0 0], []⟩ 8 (by kernel_rfl) (by kernel_rfl) (by kernel_rfl) (by kernel_rfl)) ?_
  intro W base args ds gs before hval0 hW hcnd _
  have hval : ∀ (j : Nat) t v, Try.f10.params[j]? = some t → args[j]? = some v → Value.okWide Try.prog W .any base t v := hval0
  have hW' := hW
  obtain ⟨p, q, hA0, hV, rfl, hfz, hnd⟩ := hW
  have hA : DataW.TrodAll enc Try.prog W 0 (fun _ => true) true Try.f10.params.toList args.toList ds p := hA0
  rw [Try.params10] at hA hval
  obtain ⟨v0, vs0, d0, ds0, p0, q0, hargs, rfl, rfl, h0, r0⟩ := trodAll_cons hA
  obtain ⟨v1, vs1, d1, ds1, p1, q1, rfl, rfl, rfl, h1, r1⟩ := trodAll_cons r0
  obtain ⟨v2, vs2, d2, ds2, p2, q2, rfl, rfl, rfl, h2, r2⟩ := trodAll_cons r1
  obtain ⟨v3, vs3, d3, ds3, p3, q3, rfl, rfl, rfl, h3, r3⟩ := trodAll_cons r2
  obtain ⟨rfl, rfl, rfl⟩ := trodAll_nil r3
  obtain rfl : args = #[v0, v1, v2, v3] := by cases args; simp_all
  obtain ⟨rfl, rfl⟩ := trodVars_none hV
  obtain ⟨a0, len0, cap0, rfl⟩ := okWide_slice Try.underlying40 (hval 0 40 v0 rfl rfl)
  have k0 := h0
  have lt0 : ∀ x ∈ p0, x.block < W.heap.size := by obtain ⟨m, hm⟩ := k0; exact DataW.trod_lt m _ _ _ hm
  obtain ⟨⟨X, hX⟩, n0⟩ : (∃ X, ReadsF W a0 len0 X) ∧ (a0 = none → len0 = 0 ∧ cap0 = 0) := by obtain ⟨fuel, hf⟩ := h0; exact open_floats hf
  obtain ⟨a1, len1, cap1, rfl⟩ := okWide_slice Try.underlying40 (hval 1 40 v1 rfl rfl)
  have k1 := h1
  have lt1 : ∀ x ∈ p1, x.block < W.heap.size := by obtain ⟨m, hm⟩ := k1; exact DataW.trod_lt m _ _ _ hm
  obtain ⟨⟨Y, hY⟩, n1⟩ : (∃ X, ReadsF W a1 len1 X) ∧ (a1 = none → len1 = 0 ∧ cap1 = 0) := by obtain ⟨fuel, hf⟩ := h1; exact open_floats hf
  obtain ⟨a2, len2, cap2, rfl⟩ := okWide_slice Try.underlying27 (hval 2 27 v2 rfl rfl)
  have k2 := h2
  have lt2 : ∀ x ∈ p2, x.block < W.heap.size := by obtain ⟨m, hm⟩ := k2; exact DataW.trod_lt m _ _ _ hm
  obtain ⟨⟨f, hf⟩, n2⟩ : (∃ f, Reads W a2 len2 f) ∧ (a2 = none → len2 = 0 ∧ cap2 = 0) := by obtain ⟨fuel, hf⟩ := h2; exact open_nums hf
  obtain ⟨a3, len3, cap3, rfl⟩ := okWide_slice Try.underlying27 (hval 3 27 v3 rfl rfl)
  have k3 := h3
  have lt3 : ∀ x ∈ p3, x.block < W.heap.size := by obtain ⟨m, hm⟩ := k3; exact DataW.trod_lt m _ _ _ hm
  obtain ⟨⟨g, hg⟩, n3⟩ : (∃ f, Reads W a3 len3 f) ∧ (a3 = none → len3 = 0 ∧ cap3 = 0) := by obtain ⟨fuel, hf⟩ := h3; exact open_nums hf
  clear hA0 hval0
  refine (walk a0 a1 a2 a3 len0 cap0 len1 cap1 len2 cap2 len3 cap3 X Y f g W hX hY hf hg n0 n1 n2 n3).mono fun e W' ⟨he, bel⟩ => ?_
  subst he
  exact ⟨_, rfl, _, _, _, [], _, [], hW', trodAll_mk1 (shut_bool Try.underlying4 _), (trodAll_cons_mk (Below.trod lf_laidOut (by kernel_rfl) (of_decide_eq_true (by kernel_rfl)) k0 bel lt0) (trodAll_cons_mk (Below.trod lf_laidOut (by kernel_rfl) (of_decide_eq_true (by kernel_rfl)) k1 bel lt1) (trodAll_cons_mk (Below.trod lf_laidOut (by kernel_rfl) (of_decide_eq_true (by kernel_rfl)) k2 bel lt2) (trodAll_cons_mk (Below.trod lf_laidOut (by kernel_rfl) (of_decide_eq_true (by kernel_rfl)) k3 bel lt3) trodAll_mk0)))), rfl, bel.frame _, fun h => by cases h⟩

theorem over : Rows.fnLinkFacesSubsequenceOfLinksRow.holds Try.pinned (OpenSpec.ofChange Rows.fnLinkFacesSubsequenceOfLinksSpec) :=
  OpenClaim.holds_of_wide 10 Try.f10 rfl rfl rfl rfl rfl rfl rfl ⟨rfl, rfl, rfl, rfl, rfl⟩ rfl rfl rfl rfl rfl (by kernel_rfl) Try.func10 (by kernel_rfl)
    (of_decide_eq_true (by kernel_rfl)) (by unfold Func.isWrapper; first | (rw [if_pos (by decide +kernel)]; kernel_rfl) | (rw [if_neg (by decide +kernel)]; exact ⟨rfl, rfl⟩))
    (fun os started H enc _ => lifted os started H enc)

/-- THE STATEMENT -/
theorem proved : Rows.FnLinkFacesSubsequenceOfLinksSaid := over
end Go.Proofs.Qxb6000855a.fnLinkFacesSubsequenceOfLinks
