/-
  The gates of the laws: zzGridFitsB1 and the zzBytes.
-/
import Derived.Test.Qxb6601612aWalks
import Derived.OpenShut
namespace Go.Proofs.Qxb6601612a
open Go.RowKit

theorem wrap_small (n : Int) (h : -1000000000 ≤ n ∧ n ≤ 1000000000) : wrap64 n = n := by unfold wrap64; omega

/-- the grid's sizes are within the law's bound -/
def fitsB (r c : Int) : Bool := decide (0 ≤ r ∧ 0 ≤ c ∧ r ≤ 65536 ∧ c ≤ 65536 ∧ (0 < c → r ≤ 65536 / c))

theorem prod_fits {r c : Int} (h : fitsB r c = true) : ∃ q : Nat, r * c = (q : Int) ∧ q ≤ 65536 := by
  unfold fitsB at h
  rw [decide_eq_true_eq] at h
  obtain ⟨h1, h2, _, _, h3⟩ := h
  by_cases h0 : 0 < c
  · have h4 : r * c ≤ 65536 := (Int.le_ediv_iff_mul_le h0).1 (h3 h0)
    have h5 : 0 ≤ r * c := Int.mul_nonneg h1 (by omega)
    exact ⟨(r * c).toNat, by omega, by omega⟩
  · obtain rfl : c = 0 := by omega
    exact ⟨0, by simp, by omega⟩

set_option maxHeartbeats 1000000 in
theorem fits_any (r c : Int) (w : World) :
    Calls Try.prog 10 #[.int .i64 r, .int .i64 c] w fun e w' => e = .returned (.bool (fitsB r c)) ∧ w = w' := by
  by_cases c0 : r < 0
  · have H : Hid (false = fitsB r c) := by unfold Hid fitsB; symm; rw [decide_eq_false_iff_not]; omega
    go_enter Try.func10, Try.ntmps10
    go_wp2
    go_ret
    exact ⟨ret_bool H.out, rfl⟩
  · have c0' : decide (r < 0) = false := decide_eq_false c0
    by_cases c1 : c < 0
    · have H : Hid (false = fitsB r c) := by unfold Hid fitsB; symm; rw [decide_eq_false_iff_not]; omega
      go_enter Try.func10, Try.ntmps10
      go_wp2
      go_ret
      exact ⟨ret_bool H.out, rfl⟩
    · have c1' : decide (c < 0) = false := decide_eq_false c1
      by_cases c2 : 65536 < r
      · have H : Hid (false = fitsB r c) := by unfold Hid fitsB; symm; rw [decide_eq_false_iff_not]; omega
        go_enter Try.func10, Try.ntmps10
        go_wp2
        go_ret
        exact ⟨ret_bool H.out, rfl⟩
      · have c2' : decide (65536 < r) = false := decide_eq_false c2
        by_cases c3 : 65536 < c
        · have H : Hid (false = fitsB r c) := by unfold Hid fitsB; symm; rw [decide_eq_false_iff_not]; omega
          go_enter Try.func10, Try.ntmps10
          go_wp2
          go_ret
          exact ⟨ret_bool H.out, rfl⟩
        · have c3' : decide (65536 < c) = false := decide_eq_false c3
          by_cases c5 : 0 < c
          · by_cases c6 : 65536 / c < r
            · have H : Hid (false = fitsB r c) := by unfold Hid fitsB; symm; rw [decide_eq_false_iff_not]; rintro ⟨_, _, _, _, h⟩; exact absurd (h c5) (by omega)
              have c6' : decide (65536 / c < r) = true := decide_eq_true c6
              go_enter Try.func10, Try.ntmps10
              go_wp2
              go_ret
              exact ⟨ret_bool H.out, rfl⟩
            · have H : Hid (true = fitsB r c) := by unfold Hid fitsB; symm; rw [decide_eq_true_eq]; exact ⟨by omega, by omega, by omega, by omega, fun _ => by omega⟩
              have c6' : decide (65536 / c < r) = false := decide_eq_false c6
              go_enter Try.func10, Try.ntmps10
              go_wp2
              go_ret
              exact ⟨ret_bool H.out, rfl⟩
          · have H : Hid (true = fitsB r c) := by unfold Hid fitsB; symm; rw [decide_eq_true_eq]; exact ⟨by omega, by omega, by omega, by omega, fun h => absurd h c5⟩
            go_enter Try.func10, Try.ntmps10
            go_wp2
            go_ret
            exact ⟨ret_bool H.out, rfl⟩

/-- the lengths are within the laws' first bound -/
def bytes1 (l : Nat) : Bool := decide (l ≤ 1048576)
def bytes3 (l l' l'' : Nat) : Bool := decide (l + l' + l'' ≤ 1048576)
def bytes4 (l l' l'' l3 : Nat) : Bool := decide (l + l' + l'' + l3 ≤ 1048576)

set_option maxRecDepth 100000 in
set_option maxHeartbeats 2000000 in
theorem bytes14 (x0 x1 x2 x3 : Int) (a : Option Addr) (l c : Nat) (w : World) :
    Calls Try.prog 14 #[.int .i64 x0, .int .i64 x1, .int .i64 x2, .int .i64 x3, .slice a l c] w fun e w' => e = .returned (.bool (bytes1 l)) ∧ w = w' := by
  by_cases h0 : l ≤ 1048576
  · have b0 : decide ((1048576 : Int) < (l : Int)) = false := by simp; omega
    have e0 : wrap64 ((l : Int)) = (l : Int) := wrap_small _ (by omega)
    have H : Hid (true = bytes1 l) := by unfold Hid bytes1; simp; omega
    clear h0
    go_enter Try.func14, Try.ntmps14
    go_wp2
    go_ret
    exact ⟨ret_bool H.out, rfl⟩
  · have b0 : decide ((1048576 : Int) < (l : Int)) = true := by simp; omega
    have H : Hid (false = bytes1 l) := by unfold Hid bytes1; simp; omega
    clear h0
    go_enter Try.func14, Try.ntmps14
    go_wp2
    go_ret
    exact ⟨ret_bool H.out, rfl⟩

set_option maxRecDepth 100000 in
set_option maxHeartbeats 2000000 in
theorem bytes17 (x : Int) (am ao a : Option Addr) (lm cm lo co l c : Nat) (w : World) :
    Calls Try.prog 17 #[.slice am lm cm, .slice ao lo co, .int .i64 x, .slice a l c] w fun e w' => e = .returned (.bool (bytes3 lm lo l)) ∧ w = w' := by
  by_cases h0 : lm ≤ 1048576
  · have b0 : decide ((1048576 : Int) < (lm : Int)) = false := by simp; omega
    have e0 : wrap64 ((lm : Int)) = (lm : Int) := wrap_small _ (by omega)
    by_cases h1 : lo ≤ 1048576
    · have b1 : decide ((1048576 : Int) < (lo : Int)) = false := by simp; omega
      have e1 : wrap64 ((lm : Int) + (lo : Int)) = (lm : Int) + (lo : Int) := wrap_small _ (by omega)
      by_cases k1 : lm + lo ≤ 1048576
      · have d1 : decide ((1048576 : Int) < (lm : Int) + (lo : Int)) = false := by simp; omega
        by_cases h2 : l ≤ 1048576
        · have b2 : decide ((1048576 : Int) < (l : Int)) = false := by simp; omega
          have e2 : wrap64 ((lm : Int) + (lo : Int) + (l : Int)) = (lm : Int) + (lo : Int) + (l : Int) := wrap_small _ (by omega)
          by_cases k2 : lm + lo + l ≤ 1048576
          · have d2 : decide ((1048576 : Int) < (lm : Int) + (lo : Int) + (l : Int)) = false := by simp; omega
            have H : Hid (true = bytes3 lm lo l) := by unfold Hid bytes3; simp; omega
            clear h0 h1 k1 h2 k2
            go_enter Try.func17, Try.ntmps17
            go_wp2
            go_ret
            exact ⟨ret_bool H.out, rfl⟩
          · have d2 : decide ((1048576 : Int) < (lm : Int) + (lo : Int) + (l : Int)) = true := by simp; omega
            have H : Hid (false = bytes3 lm lo l) := by unfold Hid bytes3; simp; omega
            clear h0 h1 k1 h2 k2
            go_enter Try.func17, Try.ntmps17
            go_wp2
            go_ret
            exact ⟨ret_bool H.out, rfl⟩
        · have b2 : decide ((1048576 : Int) < (l : Int)) = true := by simp; omega
          have H : Hid (false = bytes3 lm lo l) := by unfold Hid bytes3; simp; omega
          clear h0 h1 k1 h2
          go_enter Try.func17, Try.ntmps17
          go_wp2
          go_ret
          exact ⟨ret_bool H.out, rfl⟩
      · have d1 : decide ((1048576 : Int) < (lm : Int) + (lo : Int)) = true := by simp; omega
        have H : Hid (false = bytes3 lm lo l) := by unfold Hid bytes3; simp; omega
        clear h0 h1 k1
        go_enter Try.func17, Try.ntmps17
        go_wp2
        go_ret
        exact ⟨ret_bool H.out, rfl⟩
    · have b1 : decide ((1048576 : Int) < (lo : Int)) = true := by simp; omega
      have H : Hid (false = bytes3 lm lo l) := by unfold Hid bytes3; simp; omega
      clear h0 h1
      go_enter Try.func17, Try.ntmps17
      go_wp2
      go_ret
      exact ⟨ret_bool H.out, rfl⟩
  · have b0 : decide ((1048576 : Int) < (lm : Int)) = true := by simp; omega
    have H : Hid (false = bytes3 lm lo l) := by unfold Hid bytes3; simp; omega
    clear h0
    go_enter Try.func17, Try.ntmps17
    go_wp2
    go_ret
    exact ⟨ret_bool H.out, rfl⟩

set_option maxRecDepth 100000 in
set_option maxHeartbeats 2000000 in
theorem bytes20 (x : Int) (am ao a a' : Option Addr) (lm cm lo co l c l' c' : Nat) (w : World) :
    Calls Try.prog 20 #[.slice am lm cm, .slice ao lo co, .int .i64 x, .slice a l c, .slice a' l' c'] w fun e w' => e = .returned (.bool (bytes4 lm lo l l')) ∧ w = w' := by
  by_cases h0 : lm ≤ 1048576
  · have b0 : decide ((1048576 : Int) < (lm : Int)) = false := by simp; omega
    have e0 : wrap64 ((lm : Int)) = (lm : Int) := wrap_small _ (by omega)
    by_cases h1 : lo ≤ 1048576
    · have b1 : decide ((1048576 : Int) < (lo : Int)) = false := by simp; omega
      have e1 : wrap64 ((lm : Int) + (lo : Int)) = (lm : Int) + (lo : Int) := wrap_small _ (by omega)
      by_cases k1 : lm + lo ≤ 1048576
      · have d1 : decide ((1048576 : Int) < (lm : Int) + (lo : Int)) = false := by simp; omega
        by_cases h2 : l ≤ 1048576
        · have b2 : decide ((1048576 : Int) < (l : Int)) = false := by simp; omega
          have e2 : wrap64 ((lm : Int) + (lo : Int) + (l : Int)) = (lm : Int) + (lo : Int) + (l : Int) := wrap_small _ (by omega)
          by_cases k2 : lm + lo + l ≤ 1048576
          · have d2 : decide ((1048576 : Int) < (lm : Int) + (lo : Int) + (l : Int)) = false := by simp; omega
            by_cases h3 : l' ≤ 1048576
            · have b3 : decide ((1048576 : Int) < (l' : Int)) = false := by simp; omega
              have e3 : wrap64 ((lm : Int) + (lo : Int) + (l : Int) + (l' : Int)) = (lm : Int) + (lo : Int) + (l : Int) + (l' : Int) := wrap_small _ (by omega)
              by_cases k3 : lm + lo + l + l' ≤ 1048576
              · have d3 : decide ((1048576 : Int) < (lm : Int) + (lo : Int) + (l : Int) + (l' : Int)) = false := by simp; omega
                have H : Hid (true = bytes4 lm lo l l') := by unfold Hid bytes4; simp; omega
                clear h0 h1 k1 h2 k2 h3 k3
                go_enter Try.func20, Try.ntmps20
                go_wp2
                go_ret
                exact ⟨ret_bool H.out, rfl⟩
              · have d3 : decide ((1048576 : Int) < (lm : Int) + (lo : Int) + (l : Int) + (l' : Int)) = true := by simp; omega
                have H : Hid (false = bytes4 lm lo l l') := by unfold Hid bytes4; simp; omega
                clear h0 h1 k1 h2 k2 h3 k3
                go_enter Try.func20, Try.ntmps20
                go_wp2
                go_ret
                exact ⟨ret_bool H.out, rfl⟩
            · have b3 : decide ((1048576 : Int) < (l' : Int)) = true := by simp; omega
              have H : Hid (false = bytes4 lm lo l l') := by unfold Hid bytes4; simp; omega
              clear h0 h1 k1 h2 k2 h3
              go_enter Try.func20, Try.ntmps20
              go_wp2
              go_ret
              exact ⟨ret_bool H.out, rfl⟩
          · have d2 : decide ((1048576 : Int) < (lm : Int) + (lo : Int) + (l : Int)) = true := by simp; omega
            have H : Hid (false = bytes4 lm lo l l') := by unfold Hid bytes4; simp; omega
            clear h0 h1 k1 h2 k2
            go_enter Try.func20, Try.ntmps20
            go_wp2
            go_ret
            exact ⟨ret_bool H.out, rfl⟩
        · have b2 : decide ((1048576 : Int) < (l : Int)) = true := by simp; omega
          have H : Hid (false = bytes4 lm lo l l') := by unfold Hid bytes4; simp; omega
          clear h0 h1 k1 h2
          go_enter Try.func20, Try.ntmps20
          go_wp2
          go_ret
          exact ⟨ret_bool H.out, rfl⟩
      · have d1 : decide ((1048576 : Int) < (lm : Int) + (lo : Int)) = true := by simp; omega
        have H : Hid (false = bytes4 lm lo l l') := by unfold Hid bytes4; simp; omega
        clear h0 h1 k1
        go_enter Try.func20, Try.ntmps20
        go_wp2
        go_ret
        exact ⟨ret_bool H.out, rfl⟩
    · have b1 : decide ((1048576 : Int) < (lo : Int)) = true := by simp; omega
      have H : Hid (false = bytes4 lm lo l l') := by unfold Hid bytes4; simp; omega
      clear h0 h1
      go_enter Try.func20, Try.ntmps20
      go_wp2
      go_ret
      exact ⟨ret_bool H.out, rfl⟩
  · have b0 : decide ((1048576 : Int) < (lm : Int)) = true := by simp; omega
    have H : Hid (false = bytes4 lm lo l l') := by unfold Hid bytes4; simp; omega
    clear h0
    go_enter Try.func20, Try.ntmps20
    go_wp2
    go_ret
    exact ⟨ret_bool H.out, rfl⟩

end Go.Proofs.Qxb6601612a
