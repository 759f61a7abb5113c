/-
  The proof of Rows.FnHilbertNextIsNeighbourSaid, in the frame that the kit's shell gives.
-/
import Derived.Test.Qxb6000855aRows
import Derived.Test.Qxb6000855aHilWalk
import Derived.WalkKit
import Derived.ProofKit
import Derived.OpenShut
import Derived.ShutString
namespace Go.Proofs.Qxb6000855a.fnHilbertNextIsNeighbour
open Go.ChangeShapes Go.WideShapes Go.ChangeAt Go.RowKit
open Go.ChangeMaps (open_string shut_string)
set_option linter.unusedVariables false      -- a walk need not use every 'w<i>' (that an integer argument fits its kind)

theorem own : ownKnob Try.prog.godebug = none := by kernel_rfl

/-- the place of the cell a, b of the grid -/
def D (a b : Int) : Int := (Hil.hil 16 a.toNat b.toNat : Nat)

theorem zz_any (a b : Int) (w : World) (h1 : 0 ≤ a) (h2 : a < 65536) (h3 : 0 ≤ b) (h4 : b < 65536) :
    Calls Try.prog 11 #[.int .u32 a, .int .u32 b] w fun e w' => e = .returned (.int .u64 (D a b)) ∧ ∃ n, w' = w.drewN n := by
  obtain ⟨x, rfl⟩ := Int.eq_ofNat_of_zero_le h1
  obtain ⟨y, rfl⟩ := Int.eq_ofNat_of_zero_le h3
  exact zz_hilbert x y w (by omega) (by omega)

theorem D_nonneg (a b : Int) : 0 ≤ D a b := Int.natCast_nonneg _

theorem D_inj (a b a' b' : Int) (h1 : 0 ≤ a) (h2 : a < 65536) (h3 : 0 ≤ b) (h4 : b < 65536) (g1 : 0 ≤ a') (g2 : a' < 65536) (g3 : 0 ≤ b') (g4 : b' < 65536)
    (h : D a b = D a' b') : a = a' ∧ b = b' := by
  have := Hil.hil_inj 16 a.toNat b.toNat a'.toNat b'.toNat (by omega) (by omega) (by omega) (by omega) (by unfold D at h; omega)
  omega

/-- one of the four neighbours: e says whether it lies in the grid and holds the next place -/
def At (d : Int) (a b : Int) (e : Bool) : Prop :=
  (0 ≤ a ∧ a < 65536 ∧ 0 ≤ b ∧ b < 65536 ∧ (D a b == d + 1) = e) ∨ (¬ (0 ≤ a ∧ a < 65536 ∧ 0 ≤ b ∧ b < 65536) ∧ e = false)

theorem at_ex (d a b : Int) : ∃ e, At d a b e := by
  by_cases h : 0 ≤ a ∧ a < 65536 ∧ 0 ≤ b ∧ b < 65536
  · exact ⟨_, Or.inl ⟨h.1, h.2.1, h.2.2.1, h.2.2.2, rfl⟩⟩
  · exact ⟨_, Or.inr ⟨h, rfl⟩⟩

/-- two neighbours that both hold the next place are one -/
theorem at_one {d a b a' b' : Int} (h : At d a b true) (h' : At d a' b' true) : a = a' ∧ b = b' := by
  rcases h with ⟨h1, h2, h3, h4, h5⟩ | ⟨_, h⟩
  · rcases h' with ⟨g1, g2, g3, g4, g5⟩ | ⟨_, h⟩
    · rw [beq_iff_eq] at h5 g5
      exact D_inj a b a' b' h1 h2 h3 h4 g1 g2 g3 g4 (by omega)
    · cases h
  · cases h

theorem at_true {d a b : Int} {e : Bool} (h : At d a b e) (h1 : 0 ≤ a) (h2 : a < 65536) (h3 : 0 ≤ b) (h4 : b < 65536) (h5 : D a b = d + 1) : e = true := by
  rcases h with ⟨_, _, _, _, h⟩ | ⟨h, _⟩
  · rw [← h]; exact beq_iff_eq.2 h5
  · exact absurd ⟨h1, h2, h3, h4⟩ h

theorem some_next (x y : Int) (x0 : 0 ≤ x) (x1 : x < 65536) (y0 : 0 ≤ y) (y1 : y < 65536) (h : D x y < 4294967295) (e1 e2 e3 e4 : Bool)
    (s1 : At (D x y) (x + 1) y e1) (s2 : At (D x y) (x - 1) y e2) (s3 : At (D x y) x (y + 1) e3) (s4 : At (D x y) x (y - 1) e4) :
    e1.toNat + e2.toNat + e3.toNat + e4.toNat = 1 := by
  have hn := Hil.hil_next 16 x.toNat y.toNat (by omega) (by omega) (by unfold D at h; omega)
  have some : e1 = true ∨ e2 = true ∨ e3 = true ∨ e4 = true := by
    obtain ⟨x', y', hx', hy', ha, hv⟩ := hn
    have hv' : D x' y' = D x y + 1 := by show ((Hil.hil 16 x' y' : Nat) : Int) = ((Hil.hil 16 x.toNat y.toNat : Nat) : Int) + 1; omega
    rcases ha with ⟨p, q⟩ | ⟨p, q⟩ | ⟨p, q⟩ | ⟨p, q⟩
    · have ex : (x' : Int) = x + 1 := by omega
      have ey : (y' : Int) = y := by omega
      rw [ex, ey] at hv'
      exact Or.inl (at_true s1 (by omega) (by omega) (by omega) (by omega) hv')
    · have ex : (x' : Int) = x - 1 := by omega
      have ey : (y' : Int) = y := by omega
      rw [ex, ey] at hv'
      exact Or.inr (Or.inl (at_true s2 (by omega) (by omega) (by omega) (by omega) hv'))
    · have ex : (x' : Int) = x := by omega
      have ey : (y' : Int) = y + 1 := by omega
      rw [ex, ey] at hv'
      exact Or.inr (Or.inr (Or.inl (at_true s3 (by omega) (by omega) (by omega) (by omega) hv')))
    · have ex : (x' : Int) = x := by omega
      have ey : (y' : Int) = y - 1 := by omega
      rw [ex, ey] at hv'
      exact Or.inr (Or.inr (Or.inr (at_true s4 (by omega) (by omega) (by omega) (by omega) hv')))
  have n12 : e1 = true → e2 = true → False := by rintro rfl rfl; have := at_one s1 s2; omega
  have n13 : e1 = true → e3 = true → False := by rintro rfl rfl; have := at_one s1 s3; omega
  have n14 : e1 = true → e4 = true → False := by rintro rfl rfl; have := at_one s1 s4; omega
  have n23 : e2 = true → e3 = true → False := by rintro rfl rfl; have := at_one s2 s3; omega
  have n24 : e2 = true → e4 = true → False := by rintro rfl rfl; have := at_one s2 s4; omega
  have n34 : e3 = true → e4 = true → False := by rintro rfl rfl; have := at_one s3 s4; omega
  clear s1 s2 s3 s4 hn
  cases e1 <;> cases e2 <;> cases e3 <;> cases e4 <;> simp at *

theorem at_hi {d a b : Int} {e : Bool} (h : At d a b e) (h1 : 0 ≤ a) (h3 : 0 ≤ b) (h4 : b < 65536) : (a < 65536 ∧ (D a b == d + 1) = e) ∨ (decide (a < 65536) = false ∧ e = false) := by
  rcases h with ⟨_, h, _, _, h'⟩ | ⟨h, h'⟩
  · exact Or.inl ⟨h, h'⟩
  · exact Or.inr ⟨by simp; omega, h'⟩
theorem at_lo {d a b : Int} {e : Bool} (h : At d (a - 1) b e) (h1 : a < 65536) (h3 : 0 ≤ b) (h4 : b < 65536) : (0 < a ∧ (D (a - 1) b == d + 1) = e) ∨ (decide (0 < a) = false ∧ e = false) := by
  rcases h with ⟨h, _, _, _, h'⟩ | ⟨h, h'⟩
  · exact Or.inl ⟨by omega, h'⟩
  · exact Or.inr ⟨by simp; omega, h'⟩
theorem at_hi' {d a b : Int} {e : Bool} (h : At d a b e) (h1 : 0 ≤ b) (h3 : 0 ≤ a) (h4 : a < 65536) : (b < 65536 ∧ (D a b == d + 1) = e) ∨ (decide (b < 65536) = false ∧ e = false) := by
  rcases h with ⟨_, _, _, h, h'⟩ | ⟨h, h'⟩
  · exact Or.inl ⟨h, h'⟩
  · exact Or.inr ⟨by simp; omega, h'⟩
theorem at_lo' {d a b : Int} {e : Bool} (h : At d a (b - 1) e) (h1 : b < 65536) (h3 : 0 ≤ a) (h4 : a < 65536) : (0 < b ∧ (D a (b - 1) == d + 1) = e) ∨ (decide (0 < b) = false ∧ e = false) := by
  rcases h with ⟨_, _, h, _, h'⟩ | ⟨h, h'⟩
  · exact Or.inl ⟨by omega, h'⟩
  · exact Or.inr ⟨by simp; omega, h'⟩

theorem zz_of (F : Int → Int → Int) (hF : Hid (F = D)) (a b : Int) (w : World) (h1 : 0 ≤ a) (h2 : a < 65536) (h3 : 0 ≤ b) (h4 : b < 65536) :
    Calls Try.prog 11 #[.int .u32 a, .int .u32 b] w fun e w' => e = .returned (.int .u64 (F a b)) ∧ ∃ n, w' = w.drewN n := by
  rw [hF.out]; exact zz_any a b w h1 h2 h3 h4

set_option maxHeartbeats 4000000 in
theorem core (D : Int → Int → Int) (HD : Hid (D = fnHilbertNextIsNeighbour.D)) (x y : Int) (w : World) (x0 : 0 ≤ x) (x1 : x < 65536) (y0 : 0 ≤ y) (y1 : y < 65536) (d0 : 0 ≤ D x y) (h1 : D x y < 4294967295) (e1 e2 e3 e4 : Bool)
    (s1 : (x + 1 < 65536 ∧ (D (x + 1) y == D x y + 1) = e1) ∨ (decide (x + 1 < 65536) = false ∧ e1 = false))
    (s2 : (0 < x ∧ (D (x - 1) y == D x y + 1) = e2) ∨ (decide (0 < x) = false ∧ e2 = false))
    (s3 : (y + 1 < 65536 ∧ (D x (y + 1) == D x y + 1) = e3) ∨ (decide (y + 1 < 65536) = false ∧ e3 = false))
    (s4 : (0 < y ∧ (D x (y - 1) == D x y + 1) = e4) ∨ (decide (0 < y) = false ∧ e4 = false))
    (hs : e1.toNat + e2.toNat + e3.toNat + e4.toNat = 1) :
    Calls Try.prog 5 #[.int .u32 x, .int .u32 y] w fun e w' => e = .returned (.bool true) ∧ Grown w w' := by
  rcases s1 with ⟨a1, a5⟩ | ⟨a1, a5⟩ <;> rcases s2 with ⟨b1, b5⟩ | ⟨b1, b5⟩ <;> rcases s3 with ⟨c1, c5⟩ | ⟨c1, c5⟩ <;> rcases s4 with ⟨f1, f5⟩ | ⟨f1, f5⟩ <;>
    cases e1 <;> cases e2 <;> cases e3 <;> cases e4 <;> first | (exfalso; revert hs; decide) | (exfalso; revert a5 b5 c5 f5; simp; done) | skip
  all_goals clear hs
  all_goals
    go_enter Try.func5, Try.ntmps5
    go_wp2_with (go_at_call 11; refine (zz_of D HD _ _ _ (by omega) (by omega) (by omega) (by omega)).mono ?_; rintro e w' ⟨rfl, n, rfl⟩)
    go_ret
    exact ⟨rfl, grown_drewN _ _⟩

theorem last (D : Int → Int → Int) (HD : Hid (D = fnHilbertNextIsNeighbour.D)) (x y : Int) (w : World) (x0 : 0 ≤ x) (x1 : x < 65536) (y0 : 0 ≤ y) (y1 : y < 65536) (h1 : 4294967295 ≤ D x y) :
    Calls Try.prog 5 #[.int .u32 x, .int .u32 y] w fun e w' => e = .returned (.bool true) ∧ Grown w w' := by
  go_enter Try.func5, Try.ntmps5
  go_wp2_with (go_at_call 11; refine (zz_of D HD _ _ _ (by omega) (by omega) (by omega) (by omega)).mono ?_; rintro e w' ⟨rfl, n, rfl⟩)
  go_ret
  exact ⟨rfl, grown_drewN _ _⟩

/-! ### STEP 1: THE WALK: the Go text returns true. 'Grown w w'': the world has at most new blocks (Derived/RowKit3.lean). Part the cases AHEAD of 'go_enter' where a test parts the walk; take each callee by a contract of your own. -/
theorem walk (a0 : Int) (a1 : Int) (w0 : (Lit.int .u32 a0).wf = true) (w1 : (Lit.int .u32 a1).wf = true) (w : World) :
    Calls Try.prog 5 #[.int .u32 a0, .int .u32 a1] w fun e w' => e = .returned (.bool true) ∧ Grown w w' := by
  obtain ⟨l0, u0⟩ := bounds_u32 w0
  obtain ⟨l1, u1⟩ := bounds_u32 w1
  clear w0 w1
  by_cases c0 : 65536 ≤ a0
  · go_enter Try.func5, Try.ntmps5
    go_wp2
    go_ret
    exact ⟨rfl, Grown.refl _⟩
  · by_cases c1 : 65536 ≤ a1
    · go_enter Try.func5, Try.ntmps5
      go_wp2
      go_ret
      exact ⟨rfl, Grown.refl _⟩
    · by_cases c2 : 4294967295 ≤ D a0 a1
      · exact last D rfl a0 a1 w l0 (by omega) l1 (by omega) c2
      · obtain ⟨e1, s1⟩ := at_ex (D a0 a1) (a0 + 1) a1
        obtain ⟨e2, s2⟩ := at_ex (D a0 a1) (a0 - 1) a1
        obtain ⟨e3, s3⟩ := at_ex (D a0 a1) a0 (a1 + 1)
        obtain ⟨e4, s4⟩ := at_ex (D a0 a1) a0 (a1 - 1)
        exact core D rfl a0 a1 w l0 (by omega) l1 (by omega) (D_nonneg _ _) (by omega) e1 e2 e3 e4 (at_hi s1 (by omega) (by omega) (by omega)) (at_lo s2 (by omega) (by omega) (by omega)) (at_hi' s3 (by omega) (by omega) (by omega)) (at_lo' s4 (by omega) (by omega) (by omega)) (some_next a0 a1 l0 (by omega) l1 (by omega) (by omega) e1 e2 e3 e4 s1 s2 s3 s4)

/-! ### THE ROW's STEP: WRITTEN OUT: LEAVE IT -/
set_option maxRecDepth 100000 in
theorem lifted (os : Os) (started : os.Started) (H : Type) (enc : TypeId × Value → H) :
    ReturnsInHanded {} Try.checked os 5 .any (Rows.fnHilbertNextIsNeighbourSpec.pre6 enc Try.prog Try.f5 Rows.fnHilbertNextIsNeighbourRow.domain false) (Rows.fnHilbertNextIsNeighbourSpec.post enc Try.prog Try.f5 false true false false) := by
  refine returnsInHanded_of_change (C := Try.checked) own started (by kernel_rfl) Try.func5
    (ChangeSpec.witness6 (enc := enc) (C := Try.checked) false ⟨#[], #[.int .u32 0, .int .u32 0], []⟩ 8 (by kernel_rfl) (by kernel_rfl) (by kernel_rfl) (by kernel_rfl)) ?_
  intro W base args ds gs before hval0 hW hcnd _
  have hval : ∀ (j : Nat) t v, Try.f5.params[j]? = some t → args[j]? = some v → Value.okWide Try.prog W .any base t v := hval0
  have hW' := hW
  obtain ⟨p, q, hA0, hV, rfl, hfz, hnd⟩ := hW
  have hA : DataW.TrodAll enc Try.prog W 0 (fun _ => true) true Try.f5.params.toList args.toList ds p := hA0
  rw [Try.params5] at hA hval
  obtain ⟨v0, vs0, d0, ds0, p0, q0, hargs, rfl, rfl, h0, r0⟩ := trodAll_cons hA
  obtain ⟨v1, vs1, d1, ds1, p1, q1, rfl, rfl, rfl, h1, r1⟩ := trodAll_cons r0
  obtain ⟨rfl, rfl, rfl⟩ := trodAll_nil r1
  obtain rfl : args = #[v0, v1] := by cases args; simp_all
  obtain ⟨rfl, rfl⟩ := trodVars_none hV
  obtain ⟨a0, rfl, rfl, rfl, w0⟩ := open_int Try.underlying22 (hval 0 22 v0 rfl rfl) h0
  obtain ⟨a1, rfl, rfl, rfl, w1⟩ := open_int Try.underlying22 (hval 1 22 v1 rfl rfl) h1
  clear hA0 hval0
  simp only [List.append_nil] at hW'
  refine (walk a0 a1 w0 w1 W).mono fun e W' ⟨he, hg⟩ => ?_
  subst he
  exact ⟨_, rfl, post_of_same (pa := []) (pv := []) hW' (fun _ _ _ => (trodAll_cons_mk (shut_bool Try.underlying4 _) trodAll_mk0)) (fun sp _ => (trodAll_cons_mk (shut_int Try.underlying22 w0) (trodAll_cons_mk (shut_int Try.underlying22 w1) trodAll_mk0))) (fun _ _ => rfl) rfl
    (hg.frame _) hg.2.1 (ok_one (by kernel_rfl) rfl (okWide_bool_mk Try.underlying4 _))⟩

theorem over : Rows.fnHilbertNextIsNeighbourRow.holds Try.pinned (OpenSpec.ofChange Rows.fnHilbertNextIsNeighbourSpec) :=
  OpenClaim.holds_of_wide 5 Try.f5 rfl rfl rfl rfl rfl rfl rfl ⟨rfl, rfl, rfl, rfl, rfl⟩ rfl rfl rfl rfl rfl (by kernel_rfl) Try.func5 (by kernel_rfl)
    (of_decide_eq_true (by kernel_rfl)) (by unfold Func.isWrapper; first | (rw [if_pos (by decide +kernel)]; kernel_rfl) | (rw [if_neg (by decide +kernel)]; exact ⟨rfl, rfl⟩))
    (fun os started H enc _ => lifted os started H enc)

/-- ████ THE STATEMENT ████ -/
theorem proved : Rows.FnHilbertNextIsNeighbourSaid :=
  over
end Go.Proofs.Qxb6000855a.fnHilbertNextIsNeighbour
