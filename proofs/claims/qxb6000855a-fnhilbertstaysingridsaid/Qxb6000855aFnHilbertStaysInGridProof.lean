/-
  The proof of Rows.FnHilbertStaysInGridSaid, in the frame that the kit's shell gives.
-/
import Derived.Test.Qxb6000855aRows
import Derived.Test.Qxb6000855aHilWalk
import Derived.WalkKit
import Derived.ProofKit
import Derived.OpenShut
import Derived.ShutString
namespace Go.Proofs.Qxb6000855a.fnHilbertStaysInGrid
open Go.ChangeShapes Go.WideShapes Go.ChangeAt Go.RowKit
open Go.ChangeMaps (open_string shut_string)
set_option linter.unusedVariables false      -- a walk need not use every 'w<i>' (that an integer argument fits its kind)

theorem own : ownKnob Try.prog.godebug = none := by kernel_rfl

theorem not_both (a : Int) (h : ¬ 65536 ≤ a) : decide ((65536 : Int) ≤ a) = false := by simpa using h

theorem core (x y d : Nat) (w : World) (b0 : decide ((65536 : Int) ≤ x) = false) (b1 : decide ((65536 : Int) ≤ y) = false) (h1 : decide ((4294967296 : Int) ≤ d) = false)
    (hx : Hid (x < 65536)) (hy : Hid (y < 65536)) (HD : Hid (d = Hil.hil 16 x y))
    (hz : ((d : Int) == 0) = true ∧ ((x : Int) == 0) = true ∧ ((y : Int) == 0) = true ∨ ((d : Int) == 0) = false ∧ ((x : Int) == 0) = false ∨ ((d : Int) == 0) = false ∧ ((x : Int) == 0) = true ∧ ((y : Int) == 0) = false) :
    Calls Try.prog 3 #[.int .u32 x, .int .u32 y] w fun e w' => e = .returned (.bool true) ∧ Grown w w' := by
  rcases hz with ⟨z0, z1, z2⟩ | ⟨z0, z1⟩ | ⟨z0, z1, z2⟩
  all_goals
    go_enter Try.func3, Try.ntmps3
    go_wp2_with (go_at_call 11; refine (zz_hilbert_of _ _ _ _ hx hy HD).mono ?_; rintro e w' ⟨rfl, n, rfl⟩)
    go_ret
    exact ⟨rfl, grown_drewN _ _⟩

/-! ### STEP 1: THE WALK -/
theorem walk (a0 : Int) (a1 : Int) (w0 : (Lit.int .u32 a0).wf = true) (w1 : (Lit.int .u32 a1).wf = true) (w : World) :
    Calls Try.prog 3 #[.int .u32 a0, .int .u32 a1] w fun e w' => e = .returned (.bool true) ∧ Grown w w' := by
  obtain ⟨l0, u0⟩ := bounds_u32 w0
  obtain ⟨l1, u1⟩ := bounds_u32 w1
  clear w0 w1
  by_cases c0 : 65536 ≤ a0
  · go_enter Try.func3, Try.ntmps3
    go_wp2
    go_ret
    exact ⟨rfl, Grown.refl _⟩
  · by_cases c1 : 65536 ≤ a1
    · have b0 := not_both a0 c0
      clear c0
      go_enter Try.func3, Try.ntmps3
      go_wp2
      go_ret
      exact ⟨rfl, Grown.refl _⟩
    · obtain ⟨x, rfl⟩ := Int.eq_ofNat_of_zero_le l0
      obtain ⟨y, rfl⟩ := Int.eq_ofNat_of_zero_le l1
      have hx : x < 65536 := by omega
      have hy : y < 65536 := by omega
      have hlt := Hil.hil_lt 16 x y (by omega) (by omega)
      have hz := Hil.hil_zero 16
      have hi := Hil.hil_inj 16 x y 0 0 (by omega) (by omega) (by omega) (by omega)
      obtain ⟨d, hd⟩ : ∃ d, d = Hil.hil 16 x y := ⟨_, rfl⟩
      have h0 : x = 0 ∧ y = 0 → d = 0 := by rintro ⟨rfl, rfl⟩; rw [hd, hz]
      rw [hz] at hi
      rw [← hd] at hlt hi
      have h1 : decide ((4294967296 : Int) ≤ d) = false := by simp; omega
      refine core x y d w (not_both _ c0) (not_both _ c1) h1 hx hy hd ?_
      simp only [beq_iff_eq, beq_eq_false_iff_ne]
      by_cases e : x = 0 ∧ y = 0
      · have := h0 e; omega
      · have : d ≠ 0 := fun h => e (hi h)
        omega

/-! ### THE ROW's STEP: WRITTEN OUT: LEAVE IT -/
set_option maxRecDepth 100000 in
theorem lifted (os : Os) (started : os.Started) (H : Type) (enc : TypeId × Value → H) :
    ReturnsInHanded {} Try.checked os 3 .any (Rows.fnHilbertStaysInGridSpec.pre6 enc Try.prog Try.f3 Rows.fnHilbertStaysInGridRow.domain false) (Rows.fnHilbertStaysInGridSpec.post enc Try.prog Try.f3 false true false false) := by
  refine returnsInHanded_of_change (C := Try.checked) own started (by kernel_rfl) Try.func3
    (ChangeSpec.witness6 (enc := enc) (C := Try.checked) false ⟨#[], #[.int .u32 0, .int .u32 0], []⟩ 8 (by kernel_rfl) (by kernel_rfl) (by kernel_rfl) (by kernel_rfl)) ?_
  intro W base args ds gs before hval0 hW hcnd _
  have hval : ∀ (j : Nat) t v, Try.f3.params[j]? = some t → args[j]? = some v → Value.okWide Try.prog W .any base t v := hval0
  have hW' := hW
  obtain ⟨p, q, hA0, hV, rfl, hfz, hnd⟩ := hW
  have hA : DataW.TrodAll enc Try.prog W 0 (fun _ => true) true Try.f3.params.toList args.toList ds p := hA0
  rw [Try.params3] at hA hval
  obtain ⟨v0, vs0, d0, ds0, p0, q0, hargs, rfl, rfl, h0, r0⟩ := trodAll_cons hA
  obtain ⟨v1, vs1, d1, ds1, p1, q1, rfl, rfl, rfl, h1, r1⟩ := trodAll_cons r0
  obtain ⟨rfl, rfl, rfl⟩ := trodAll_nil r1
  obtain rfl : args = #[v0, v1] := by cases args; simp_all
  obtain ⟨rfl, rfl⟩ := trodVars_none hV
  obtain ⟨a0, rfl, rfl, rfl, w0⟩ := open_int Try.underlying22 (hval 0 22 v0 rfl rfl) h0
  obtain ⟨a1, rfl, rfl, rfl, w1⟩ := open_int Try.underlying22 (hval 1 22 v1 rfl rfl) h1
  clear hA0 hval0
  simp only [List.append_nil] at hW'
  refine (walk a0 a1 w0 w1 W).mono fun e W' ⟨he, hg⟩ => ?_
  subst he
  exact ⟨_, rfl, post_of_same (pa := []) (pv := []) hW' (fun _ _ _ => (trodAll_cons_mk (shut_bool Try.underlying4 _) trodAll_mk0)) (fun sp _ => (trodAll_cons_mk (shut_int Try.underlying22 w0) (trodAll_cons_mk (shut_int Try.underlying22 w1) trodAll_mk0))) (fun _ _ => rfl) rfl
    (hg.frame _) hg.2.1 (ok_one (by kernel_rfl) rfl (okWide_bool_mk Try.underlying4 _))⟩

theorem over : Rows.fnHilbertStaysInGridRow.holds Try.pinned (OpenSpec.ofChange Rows.fnHilbertStaysInGridSpec) :=
  OpenClaim.holds_of_wide 3 Try.f3 rfl rfl rfl rfl rfl rfl rfl ⟨rfl, rfl, rfl, rfl, rfl⟩ rfl rfl rfl rfl rfl (by kernel_rfl) Try.func3 (by kernel_rfl)
    (of_decide_eq_true (by kernel_rfl)) (by unfold Func.isWrapper; first | (rw [if_pos (by decide +kernel)]; kernel_rfl) | (rw [if_neg (by decide +kernel)]; exact ⟨rfl, rfl⟩))
    (fun os started H enc _ => lifted os started H enc)

/-- ████ THE STATEMENT ████ -/
theorem proved : Rows.FnHilbertStaysInGridSaid :=
  over
end Go.Proofs.Qxb6000855a.fnHilbertStaysInGrid
