/-
  The walks of FnLinkFacesKeepLinksWhereNoPlaceShared and FnLinkFacesSubsequenceOfLinks: where a bound is not kept.
-/
import Derived.Test.Qxb6000855aLinkFaces
import Derived.OpenShut
namespace Go.Proofs.Qxb6000855a
open Go.RowKit

theorem wrap_small4 (n : Int) (h : -1000000000 ≤ n ∧ n ≤ 1000000000) : wrap64 n = n := by unfold wrap64; omega

/-- the lengths are within the laws' first bound -/
def bytes4 (lx ly lu lv : Nat) : Bool := decide (lx + ly + lu + lv ≤ 1048576)

set_option maxRecDepth 100000 in
set_option maxHeartbeats 1000000 in
theorem zzBytes_keep (a a' b b' : Option Addr) (lx c ly c' lu d lv d' : Nat) (w : World) :
    Calls Try.prog 22 #[.slice a lx c, .slice a' ly c', .slice b lu d, .slice b' lv d'] w fun e w' => e = .returned (.bool (bytes4 lx ly lu lv)) ∧ w = w' := by
  by_cases h0 : lx ≤ 1048576
  · have b0 : decide ((1048576 : Int) < (lx : Int)) = false := by simp; omega
    have e0 : wrap64 (lx : Int) = (lx : Int) := wrap_small4 _ (by omega)
    by_cases h1 : ly ≤ 1048576
    · have b1 : decide ((1048576 : Int) < (ly : Int)) = false := by simp; omega
      have e2 : wrap64 ((lx : Int) + (ly : Int)) = (lx : Int) + (ly : Int) := wrap_small4 _ (by omega)
      by_cases h2 : lx + ly ≤ 1048576
      · have b2 : decide ((1048576 : Int) < (lx : Int) + (ly : Int)) = false := by simp; omega
        by_cases h3 : lu ≤ 1048576
        · have b3 : decide ((1048576 : Int) < (lu : Int)) = false := by simp; omega
          have e4 : wrap64 ((lx : Int) + (ly : Int) + (lu : Int)) = (lx : Int) + (ly : Int) + (lu : Int) := wrap_small4 _ (by omega)
          by_cases h4 : lx + ly + lu ≤ 1048576
          · have b4 : decide ((1048576 : Int) < (lx : Int) + (ly : Int) + (lu : Int)) = false := by simp; omega
            by_cases h5 : lv ≤ 1048576
            · have b5 : decide ((1048576 : Int) < (lv : Int)) = false := by simp; omega
              have e6 : wrap64 ((lx : Int) + (ly : Int) + (lu : Int) + (lv : Int)) = (lx : Int) + (ly : Int) + (lu : Int) + (lv : Int) := wrap_small4 _ (by omega)
              by_cases h6 : lx + ly + lu + lv ≤ 1048576
              · have b6 : decide ((1048576 : Int) < (lx : Int) + (ly : Int) + (lu : Int) + (lv : Int)) = false := by simp; omega
                have H : Hid (true = bytes4 lx ly lu lv) := by unfold Hid bytes4; simp; omega
                clear h0 h1 h2 h3 h4 h5 h6
                go_enter Try.func22, Try.ntmps22
                go_wp2
                go_ret
                exact ⟨ret_bool H.out, rfl⟩
              · have b6 : decide ((1048576 : Int) < (lx : Int) + (ly : Int) + (lu : Int) + (lv : Int)) = true := by simp; omega
                have H : Hid (false = bytes4 lx ly lu lv) := by unfold Hid bytes4; simp; omega
                clear h0 h1 h2 h3 h4 h5 h6
                go_enter Try.func22, Try.ntmps22
                go_wp2
                go_ret
                exact ⟨ret_bool H.out, rfl⟩
            · have b5 : decide ((1048576 : Int) < (lv : Int)) = true := by simp; omega
              have H : Hid (false = bytes4 lx ly lu lv) := by unfold Hid bytes4; simp; omega
              clear h0 h1 h2 h3 h4 h5
              go_enter Try.func22, Try.ntmps22
              go_wp2
              go_ret
              exact ⟨ret_bool H.out, rfl⟩
          · have b4 : decide ((1048576 : Int) < (lx : Int) + (ly : Int) + (lu : Int)) = true := by simp; omega
            have H : Hid (false = bytes4 lx ly lu lv) := by unfold Hid bytes4; simp; omega
            clear h0 h1 h2 h3 h4
            go_enter Try.func22, Try.ntmps22
            go_wp2
            go_ret
            exact ⟨ret_bool H.out, rfl⟩
        · have b3 : decide ((1048576 : Int) < (lu : Int)) = true := by simp; omega
          have H : Hid (false = bytes4 lx ly lu lv) := by unfold Hid bytes4; simp; omega
          clear h0 h1 h2 h3
          go_enter Try.func22, Try.ntmps22
          go_wp2
          go_ret
          exact ⟨ret_bool H.out, rfl⟩
      · have b2 : decide ((1048576 : Int) < (lx : Int) + (ly : Int)) = true := by simp; omega
        have H : Hid (false = bytes4 lx ly lu lv) := by unfold Hid bytes4; simp; omega
        clear h0 h1 h2
        go_enter Try.func22, Try.ntmps22
        go_wp2
        go_ret
        exact ⟨ret_bool H.out, rfl⟩
    · have b1 : decide ((1048576 : Int) < (ly : Int)) = true := by simp; omega
      have H : Hid (false = bytes4 lx ly lu lv) := by unfold Hid bytes4; simp; omega
      clear h0 h1
      go_enter Try.func22, Try.ntmps22
      go_wp2
      go_ret
      exact ⟨ret_bool H.out, rfl⟩
  · have b0 : decide ((1048576 : Int) < (lx : Int)) = true := by simp; omega
    have H : Hid (false = bytes4 lx ly lu lv) := by unfold Hid bytes4; simp; omega
    clear h0
    go_enter Try.func22, Try.ntmps22
    go_wp2
    go_ret
    exact ⟨ret_bool H.out, rfl⟩

set_option maxRecDepth 100000 in
set_option maxHeartbeats 1000000 in
theorem zzBytes_sub (a a' b b' : Option Addr) (lx c ly c' lu d lv d' : Nat) (w : World) :
    Calls Try.prog 28 #[.slice a lx c, .slice a' ly c', .slice b lu d, .slice b' lv d'] w fun e w' => e = .returned (.bool (bytes4 lx ly lu lv)) ∧ w = w' := by
  by_cases h0 : lx ≤ 1048576
  · have b0 : decide ((1048576 : Int) < (lx : Int)) = false := by simp; omega
    have e0 : wrap64 (lx : Int) = (lx : Int) := wrap_small4 _ (by omega)
    by_cases h1 : ly ≤ 1048576
    · have b1 : decide ((1048576 : Int) < (ly : Int)) = false := by simp; omega
      have e2 : wrap64 ((lx : Int) + (ly : Int)) = (lx : Int) + (ly : Int) := wrap_small4 _ (by omega)
      by_cases h2 : lx + ly ≤ 1048576
      · have b2 : decide ((1048576 : Int) < (lx : Int) + (ly : Int)) = false := by simp; omega
        by_cases h3 : lu ≤ 1048576
        · have b3 : decide ((1048576 : Int) < (lu : Int)) = false := by simp; omega
          have e4 : wrap64 ((lx : Int) + (ly : Int) + (lu : Int)) = (lx : Int) + (ly : Int) + (lu : Int) := wrap_small4 _ (by omega)
          by_cases h4 : lx + ly + lu ≤ 1048576
          · have b4 : decide ((1048576 : Int) < (lx : Int) + (ly : Int) + (lu : Int)) = false := by simp; omega
            by_cases h5 : lv ≤ 1048576
            · have b5 : decide ((1048576 : Int) < (lv : Int)) = false := by simp; omega
              have e6 : wrap64 ((lx : Int) + (ly : Int) + (lu : Int) + (lv : Int)) = (lx : Int) + (ly : Int) + (lu : Int) + (lv : Int) := wrap_small4 _ (by omega)
              by_cases h6 : lx + ly + lu + lv ≤ 1048576
              · have b6 : decide ((1048576 : Int) < (lx : Int) + (ly : Int) + (lu : Int) + (lv : Int)) = false := by simp; omega
                have H : Hid (true = bytes4 lx ly lu lv) := by unfold Hid bytes4; simp; omega
                clear h0 h1 h2 h3 h4 h5 h6
                go_enter Try.func28, Try.ntmps28
                go_wp2
                go_ret
                exact ⟨ret_bool H.out, rfl⟩
              · have b6 : decide ((1048576 : Int) < (lx : Int) + (ly : Int) + (lu : Int) + (lv : Int)) = true := by simp; omega
                have H : Hid (false = bytes4 lx ly lu lv) := by unfold Hid bytes4; simp; omega
                clear h0 h1 h2 h3 h4 h5 h6
                go_enter Try.func28, Try.ntmps28
                go_wp2
                go_ret
                exact ⟨ret_bool H.out, rfl⟩
            · have b5 : decide ((1048576 : Int) < (lv : Int)) = true := by simp; omega
              have H : Hid (false = bytes4 lx ly lu lv) := by unfold Hid bytes4; simp; omega
              clear h0 h1 h2 h3 h4 h5
              go_enter Try.func28, Try.ntmps28
              go_wp2
              go_ret
              exact ⟨ret_bool H.out, rfl⟩
          · have b4 : decide ((1048576 : Int) < (lx : Int) + (ly : Int) + (lu : Int)) = true := by simp; omega
            have H : Hid (false = bytes4 lx ly lu lv) := by unfold Hid bytes4; simp; omega
            clear h0 h1 h2 h3 h4
            go_enter Try.func28, Try.ntmps28
            go_wp2
            go_ret
            exact ⟨ret_bool H.out, rfl⟩
        · have b3 : decide ((1048576 : Int) < (lu : Int)) = true := by simp; omega
          have H : Hid (false = bytes4 lx ly lu lv) := by unfold Hid bytes4; simp; omega
          clear h0 h1 h2 h3
          go_enter Try.func28, Try.ntmps28
          go_wp2
          go_ret
          exact ⟨ret_bool H.out, rfl⟩
      · have b2 : decide ((1048576 : Int) < (lx : Int) + (ly : Int)) = true := by simp; omega
        have H : Hid (false = bytes4 lx ly lu lv) := by unfold Hid bytes4; simp; omega
        clear h0 h1 h2
        go_enter Try.func28, Try.ntmps28
        go_wp2
        go_ret
        exact ⟨ret_bool H.out, rfl⟩
    · have b1 : decide ((1048576 : Int) < (ly : Int)) = true := by simp; omega
      have H : Hid (false = bytes4 lx ly lu lv) := by unfold Hid bytes4; simp; omega
      clear h0 h1
      go_enter Try.func28, Try.ntmps28
      go_wp2
      go_ret
      exact ⟨ret_bool H.out, rfl⟩
  · have b0 : decide ((1048576 : Int) < (lx : Int)) = true := by simp; omega
    have H : Hid (false = bytes4 lx ly lu lv) := by unfold Hid bytes4; simp; omega
    clear h0
    go_enter Try.func28, Try.ntmps28
    go_wp2
    go_ret
    exact ⟨ret_bool H.out, rfl⟩

set_option maxRecDepth 100000 in
set_option maxHeartbeats 2000000 in
/-- where one of the law's bounds is not kept -/
theorem keepLaw_early (a a' b b' : Option Addr) (lx c ly c' lu d lv d' : Nat) (f g : Nat → Int) (w : World) (hf : Reads w b lu f) (hg : Reads w b' lv g)
    (h : bytes4 lx ly lu lv = false ∨ 131072 < lx ∨ 131072 < ly ∨ 131072 < lu ∨ 131072 < lv ∨ 1048576 < 8 * (lx + ly + lu + lv) ∨ allIn (min lx ly : Nat) f g (min lu lv) = false) :
    Calls Try.prog 9 #[.slice a lx c, .slice a' ly c', .slice b lu d, .slice b' lv d'] w fun e w' => e = .returned (.bool true) ∧ Below w.heap.size w w' := by
  have HF : Hid (Reads w b lu f) := hf
  have HG : Hid (Reads w b' lv g) := hg
  have HH : Hid _ := h
  clear hf hg h
  cases hb : bytes4 lx ly lu lv
  · have H : Hid (bytes4 lx ly lu lv = false) := hb
    clear hb HH
    go_enter Try.func9, Try.ntmps9
    go_wp2_with (go_at_call 22; refine (zzBytes_keep _ _ _ _ _ _ _ _ _ _ _ _ _).mono ?_; rintro e w' ⟨rfl, rfl⟩; rw [H.out])
    go_ret
    exact ⟨rfl, Below.refl _ _⟩
  · have H : Hid (bytes4 lx ly lu lv = true) := hb
    have hbd : lx + ly + lu + lv ≤ 1048576 := by unfold bytes4 at hb; simpa using hb
    clear hb
    have e1 : wrap64 ((lx : Int) + (ly : Int)) = (lx : Int) + (ly : Int) := wrap_small4 _ (by omega)
    have e2 : wrap64 ((lx : Int) + (ly : Int) + (lu : Int)) = (lx : Int) + (ly : Int) + (lu : Int) := wrap_small4 _ (by omega)
    have e3 : wrap64 ((lx : Int) + (ly : Int) + (lu : Int) + (lv : Int)) = (lx : Int) + (ly : Int) + (lu : Int) + (lv : Int) := wrap_small4 _ (by omega)
    have e4 : wrap64 (8 * ((lx : Int) + (ly : Int) + (lu : Int) + (lv : Int))) = 8 * ((lx : Int) + (ly : Int) + (lu : Int) + (lv : Int)) := wrap_small4 _ (by omega)
    have HB : Hid (lu ≤ 1048576) := by unfold Hid; omega
    clear hbd
    by_cases c0 : lx ≤ 131072
    · have b0 : decide ((131072 : Int) < (lx : Int)) = false := by simp; omega
      by_cases c1 : ly ≤ 131072
      · have b1 : decide ((131072 : Int) < (ly : Int)) = false := by simp; omega
        by_cases c2 : lu ≤ 131072
        · have b2 : decide ((131072 : Int) < (lu : Int)) = false := by simp; omega
          by_cases c3 : lv ≤ 131072
          · have b3 : decide ((131072 : Int) < (lv : Int)) = false := by simp; omega
            by_cases c4 : 8 * (lx + ly + lu + lv) ≤ 1048576
            · have b4 : decide ((1048576 : Int) < 8 * ((lx : Int) + (ly : Int) + (lu : Int) + (lv : Int))) = false := by simp; omega
              have H2 : Hid (allIn (min lx ly : Nat) f g (min lu lv) = false) := by
                rcases HH with h | h | h | h | h | h | h
                · rw [H.out] at h; cases h
                · omega
                · omega
                · omega
                · omega
                · omega
                · exact h
              clear HH c0 c1 c2 c3 c4
              go_enter Try.func9, Try.ntmps9
              go_wp2_with (first | (go_at_call 22; refine (zzBytes_keep _ _ _ _ _ _ _ _ _ _ _ _ _).mono ?_; rintro e w' ⟨rfl, rfl⟩; rw [H.out]) | (go_at_call 23; refine (nodeCount_any _ _ _ _ _ _ _).mono ?_; rintro e w' ⟨rfl, rfl⟩) | (go_at_call 13; refine (edgesInRange_any _ _ _ _ _ _ _ f g _ HB.out HF HG).mono ?_; rintro e w' ⟨rfl, rfl⟩; rw [H2.out]))
              go_ret
              exact ⟨rfl, Below.refl _ _⟩
            · have b4 : decide ((1048576 : Int) < 8 * ((lx : Int) + (ly : Int) + (lu : Int) + (lv : Int))) = true := by simp; omega
              clear HH HB c0 c1 c2 c3 c4
              go_enter Try.func9, Try.ntmps9
              go_wp2_with (go_at_call 22; refine (zzBytes_keep _ _ _ _ _ _ _ _ _ _ _ _ _).mono ?_; rintro e w' ⟨rfl, rfl⟩; rw [H.out])
              go_ret
              exact ⟨rfl, Below.refl _ _⟩
          · have b3 : decide ((131072 : Int) < (lv : Int)) = true := by simp; omega
            clear HH HB c0 c1 c2 c3
            go_enter Try.func9, Try.ntmps9
            go_wp2_with (go_at_call 22; refine (zzBytes_keep _ _ _ _ _ _ _ _ _ _ _ _ _).mono ?_; rintro e w' ⟨rfl, rfl⟩; rw [H.out])
            go_ret
            exact ⟨rfl, Below.refl _ _⟩
        · have b2 : decide ((131072 : Int) < (lu : Int)) = true := by simp; omega
          clear HH HB c0 c1 c2
          go_enter Try.func9, Try.ntmps9
          go_wp2_with (go_at_call 22; refine (zzBytes_keep _ _ _ _ _ _ _ _ _ _ _ _ _).mono ?_; rintro e w' ⟨rfl, rfl⟩; rw [H.out])
          go_ret
          exact ⟨rfl, Below.refl _ _⟩
      · have b1 : decide ((131072 : Int) < (ly : Int)) = true := by simp; omega
        clear HH HB c0 c1
        go_enter Try.func9, Try.ntmps9
        go_wp2_with (go_at_call 22; refine (zzBytes_keep _ _ _ _ _ _ _ _ _ _ _ _ _).mono ?_; rintro e w' ⟨rfl, rfl⟩; rw [H.out])
        go_ret
        exact ⟨rfl, Below.refl _ _⟩
    · have b0 : decide ((131072 : Int) < (lx : Int)) = true := by simp; omega
      clear HH HB c0
      go_enter Try.func9, Try.ntmps9
      go_wp2_with (go_at_call 22; refine (zzBytes_keep _ _ _ _ _ _ _ _ _ _ _ _ _).mono ?_; rintro e w' ⟨rfl, rfl⟩; rw [H.out])
      go_ret
      exact ⟨rfl, Below.refl _ _⟩

set_option maxRecDepth 100000 in
set_option maxHeartbeats 2000000 in
/-- where one of the law's bounds is not kept -/
theorem subLaw_early (a a' b b' : Option Addr) (lx c ly c' lu d lv d' : Nat) (f g : Nat → Int) (w : World) (hf : Reads w b lu f) (hg : Reads w b' lv g)
    (h : bytes4 lx ly lu lv = false ∨ 131072 < lx ∨ 131072 < ly ∨ 131072 < lu ∨ 131072 < lv ∨ 1048576 < 8 * (lx + ly + lu + lv) ∨ allIn (min lx ly : Nat) f g (min lu lv) = false) :
    Calls Try.prog 10 #[.slice a lx c, .slice a' ly c', .slice b lu d, .slice b' lv d'] w fun e w' => e = .returned (.bool true) ∧ Below w.heap.size w w' := by
  have HF : Hid (Reads w b lu f) := hf
  have HG : Hid (Reads w b' lv g) := hg
  have HH : Hid _ := h
  clear hf hg h
  cases hb : bytes4 lx ly lu lv
  · have H : Hid (bytes4 lx ly lu lv = false) := hb
    clear hb HH
    go_enter Try.func10, Try.ntmps10
    go_wp2_with (go_at_call 28; refine (zzBytes_sub _ _ _ _ _ _ _ _ _ _ _ _ _).mono ?_; rintro e w' ⟨rfl, rfl⟩; rw [H.out])
    go_ret
    exact ⟨rfl, Below.refl _ _⟩
  · have H : Hid (bytes4 lx ly lu lv = true) := hb
    have hbd : lx + ly + lu + lv ≤ 1048576 := by unfold bytes4 at hb; simpa using hb
    clear hb
    have e1 : wrap64 ((lx : Int) + (ly : Int)) = (lx : Int) + (ly : Int) := wrap_small4 _ (by omega)
    have e2 : wrap64 ((lx : Int) + (ly : Int) + (lu : Int)) = (lx : Int) + (ly : Int) + (lu : Int) := wrap_small4 _ (by omega)
    have e3 : wrap64 ((lx : Int) + (ly : Int) + (lu : Int) + (lv : Int)) = (lx : Int) + (ly : Int) + (lu : Int) + (lv : Int) := wrap_small4 _ (by omega)
    have e4 : wrap64 (8 * ((lx : Int) + (ly : Int) + (lu : Int) + (lv : Int))) = 8 * ((lx : Int) + (ly : Int) + (lu : Int) + (lv : Int)) := wrap_small4 _ (by omega)
    have HB : Hid (lu ≤ 1048576) := by unfold Hid; omega
    clear hbd
    by_cases c0 : lx ≤ 131072
    · have b0 : decide ((131072 : Int) < (lx : Int)) = false := by simp; omega
      by_cases c1 : ly ≤ 131072
      · have b1 : decide ((131072 : Int) < (ly : Int)) = false := by simp; omega
        by_cases c2 : lu ≤ 131072
        · have b2 : decide ((131072 : Int) < (lu : Int)) = false := by simp; omega
          by_cases c3 : lv ≤ 131072
          · have b3 : decide ((131072 : Int) < (lv : Int)) = false := by simp; omega
            by_cases c4 : 8 * (lx + ly + lu + lv) ≤ 1048576
            · have b4 : decide ((1048576 : Int) < 8 * ((lx : Int) + (ly : Int) + (lu : Int) + (lv : Int))) = false := by simp; omega
              have H2 : Hid (allIn (min lx ly : Nat) f g (min lu lv) = false) := by
                rcases HH with h | h | h | h | h | h | h
                · rw [H.out] at h; cases h
                · omega
                · omega
                · omega
                · omega
                · omega
                · exact h
              clear HH c0 c1 c2 c3 c4
              go_enter Try.func10, Try.ntmps10
              go_wp2_with (first | (go_at_call 28; refine (zzBytes_sub _ _ _ _ _ _ _ _ _ _ _ _ _).mono ?_; rintro e w' ⟨rfl, rfl⟩; rw [H.out]) | (go_at_call 23; refine (nodeCount_any _ _ _ _ _ _ _).mono ?_; rintro e w' ⟨rfl, rfl⟩) | (go_at_call 13; refine (edgesInRange_any _ _ _ _ _ _ _ f g _ HB.out HF HG).mono ?_; rintro e w' ⟨rfl, rfl⟩; rw [H2.out]))
              go_ret
              exact ⟨rfl, Below.refl _ _⟩
            · have b4 : decide ((1048576 : Int) < 8 * ((lx : Int) + (ly : Int) + (lu : Int) + (lv : Int))) = true := by simp; omega
              clear HH HB c0 c1 c2 c3 c4
              go_enter Try.func10, Try.ntmps10
              go_wp2_with (go_at_call 28; refine (zzBytes_sub _ _ _ _ _ _ _ _ _ _ _ _ _).mono ?_; rintro e w' ⟨rfl, rfl⟩; rw [H.out])
              go_ret
              exact ⟨rfl, Below.refl _ _⟩
          · have b3 : decide ((131072 : Int) < (lv : Int)) = true := by simp; omega
            clear HH HB c0 c1 c2 c3
            go_enter Try.func10, Try.ntmps10
            go_wp2_with (go_at_call 28; refine (zzBytes_sub _ _ _ _ _ _ _ _ _ _ _ _ _).mono ?_; rintro e w' ⟨rfl, rfl⟩; rw [H.out])
            go_ret
            exact ⟨rfl, Below.refl _ _⟩
        · have b2 : decide ((131072 : Int) < (lu : Int)) = true := by simp; omega
          clear HH HB c0 c1 c2
          go_enter Try.func10, Try.ntmps10
          go_wp2_with (go_at_call 28; refine (zzBytes_sub _ _ _ _ _ _ _ _ _ _ _ _ _).mono ?_; rintro e w' ⟨rfl, rfl⟩; rw [H.out])
          go_ret
          exact ⟨rfl, Below.refl _ _⟩
      · have b1 : decide ((131072 : Int) < (ly : Int)) = true := by simp; omega
        clear HH HB c0 c1
        go_enter Try.func10, Try.ntmps10
        go_wp2_with (go_at_call 28; refine (zzBytes_sub _ _ _ _ _ _ _ _ _ _ _ _ _).mono ?_; rintro e w' ⟨rfl, rfl⟩; rw [H.out])
        go_ret
        exact ⟨rfl, Below.refl _ _⟩
    · have b0 : decide ((131072 : Int) < (lx : Int)) = true := by simp; omega
      clear HH HB c0
      go_enter Try.func10, Try.ntmps10
      go_wp2_with (go_at_call 28; refine (zzBytes_sub _ _ _ _ _ _ _ _ _ _ _ _ _).mono ?_; rintro e w' ⟨rfl, rfl⟩; rw [H.out])
      go_ret
      exact ⟨rfl, Below.refl _ _⟩

end Go.Proofs.Qxb6000855a
