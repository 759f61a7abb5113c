/-
  The walk of FnHopsIsShortestPathDistance: where a bound is not kept.
-/
import Derived.Test.Qxb6000855aHopsWalk
import Derived.OpenShut
namespace Go.Proofs.Qxb6000855a
open Go.RowKit
open Bfs (upd upd_same upd_other)
open Csr (darts outs off)

theorem edgeOK_true (a b : Int) (w : World) (ha : a ≤ 1000000) (h : okB a b = true) : Calls Try.prog 19 #[.int .i64 a, .int .i64 b] w fun e w' => e = .returned (.bool true) ∧ w' = w := by
  refine (edgeOK_any a b w ha).mono ?_
  rintro e w' ⟨rfl, rfl⟩
  exact ⟨by rw [h], rfl⟩

/-- the lengths are within the law's first bound -/
def bytesOK (l l' : Nat) : Bool := decide (l ≤ 1048576 ∧ l' ≤ 1048576 ∧ l + l' ≤ 1048576)

theorem wrap_small (n : Int) (h : -1000000000 ≤ n ∧ n ≤ 1000000000) : wrap64 n = n := by unfold wrap64; omega

set_option maxHeartbeats 400000 in
theorem zzBytes_hops (n s : Int) (a a' : Option Addr) (l c l' c' : Nat) (w : World) :
    Calls Try.prog 12 #[.int .i64 n, .slice a l c, .slice a' l' c', .int .i64 s] w fun e w' => e = .returned (.bool (bytesOK l l')) ∧ w = w' := by
  by_cases h1 : l ≤ 1048576
  · have b1 : decide ((1048576 : Int) < (l : Int)) = false := by simp; omega
    have e1 : wrap64 (l : Int) = (l : Int) := wrap_small _ (by omega)
    by_cases h2 : l' ≤ 1048576
    · have b2 : decide ((1048576 : Int) < (l' : Int)) = false := by simp; omega
      have e2 : wrap64 ((l : Int) + (l' : Int)) = (l : Int) + (l' : Int) := wrap_small _ (by omega)
      by_cases h3 : l + l' ≤ 1048576
      · have b3 : decide ((1048576 : Int) < (l : Int) + (l' : Int)) = false := by simp; omega
        have H : Hid (true = bytesOK l l') := by unfold Hid bytesOK; simp; omega
        clear h1 h2 h3
        go_enter Try.func12, Try.ntmps12
        go_wp2
        go_ret
        exact ⟨ret_bool H.out, rfl⟩
      · have b3 : decide ((1048576 : Int) < (l : Int) + (l' : Int)) = true := by simp; omega
        have H : Hid (false = bytesOK l l') := by unfold Hid bytesOK; simp; omega
        clear h1 h2 h3
        go_enter Try.func12, Try.ntmps12
        go_wp2
        go_ret
        exact ⟨ret_bool H.out, rfl⟩
    · have b2 : decide ((1048576 : Int) < (l' : Int)) = true := by simp; omega
      have H : Hid (false = bytesOK l l') := by unfold Hid bytesOK; simp; omega
      clear h1 h2
      go_enter Try.func12, Try.ntmps12
      go_wp2
      go_ret
      exact ⟨ret_bool H.out, rfl⟩
  · have b1 : decide ((1048576 : Int) < (l : Int)) = true := by simp; omega
    have H : Hid (false = bytesOK l l') := by unfold Hid bytesOK; simp; omega
    clear h1
    go_enter Try.func12, Try.ntmps12
    go_wp2
    go_ret
    exact ⟨ret_bool H.out, rfl⟩

set_option maxRecDepth 100000 in
set_option maxHeartbeats 1000000 in
/-- where one of the law's bounds is not kept -/
theorem hopsLaw_early (n s : Int) (a a' : Option Addr) (l c l' c' : Nat) (f g : Nat → Int) (w : World) (hf : Reads w a l f) (hg : Reads w a' l' g)
    (h : bytesOK l l' = false ∨ 131072 < l ∨ 131072 < l' ∨ 1048576 < 8 * (l + l') ∨ n < 1 ∨ 65536 < n ∨ s < 0 ∨ n ≤ s ∨ allIn n f g (min l l') = false) :
    Calls Try.prog 6 #[.int .i64 n, .slice a l c, .slice a' l' c', .int .i64 s] w fun e w' => e = .returned (.bool true) ∧ Below w.heap.size w w' := by
  have HF : Hid (Reads w a l f) := hf
  have HG : Hid (Reads w a' l' g) := hg
  have HH : Hid _ := h
  clear hf hg h
  cases hb : bytesOK l l'
  · have H : Hid (bytesOK l l' = false) := hb
    clear hb HH
    go_enter Try.func6, Try.ntmps6
    go_wp2_with (go_at_call 12; refine (zzBytes_hops _ _ _ _ _ _ _ _ _).mono ?_; rintro e w' ⟨rfl, rfl⟩; rw [H.out])
    go_ret
    exact ⟨rfl, Below.refl _ _⟩
  · have H : Hid (bytesOK l l' = true) := hb
    have hbd : l ≤ 1048576 ∧ l' ≤ 1048576 ∧ l + l' ≤ 1048576 := by unfold bytesOK at hb; simpa using hb
    clear hb
    have e2 : wrap64 ((l : Int) + (l' : Int)) = (l : Int) + (l' : Int) := wrap_small _ (by omega)
    have e3 : wrap64 (8 * ((l : Int) + (l' : Int))) = 8 * ((l : Int) + (l' : Int)) := wrap_small _ (by omega)
    have HB : Hid _ := hbd
    clear hbd
    by_cases c1 : l ≤ 131072
    · have b1 : decide ((131072 : Int) < (l : Int)) = false := by simp; omega
      by_cases c2 : l' ≤ 131072
      · have b2 : decide ((131072 : Int) < (l' : Int)) = false := by simp; omega
        by_cases c3 : 8 * (l + l') ≤ 1048576
        · have b3 : decide ((1048576 : Int) < 8 * ((l : Int) + (l' : Int))) = false := by simp; omega
          have HH2 : Hid (n < 1 ∨ 65536 < n ∨ s < 0 ∨ n ≤ s ∨ allIn n f g (min l l') = false) := by
            rcases HH with h | h | h | h | h
            · rw [H.out] at h; cases h
            · omega
            · omega
            · omega
            · exact h
          clear HH c1 c2 c3
          by_cases d1 : n < 1
          · clear HH2 HB
            go_enter Try.func6, Try.ntmps6
            go_wp2_with (go_at_call 12; refine (zzBytes_hops _ _ _ _ _ _ _ _ _).mono ?_; rintro e w' ⟨rfl, rfl⟩; rw [H.out])
            go_ret
            exact ⟨rfl, Below.refl _ _⟩
          · by_cases d2 : 65536 < n
            · clear HH2 HB
              go_enter Try.func6, Try.ntmps6
              go_wp2_with (go_at_call 12; refine (zzBytes_hops _ _ _ _ _ _ _ _ _).mono ?_; rintro e w' ⟨rfl, rfl⟩; rw [H.out])
              go_ret
              exact ⟨rfl, Below.refl _ _⟩
            · by_cases d3 : s < 0
              · clear HH2 HB
                go_enter Try.func6, Try.ntmps6
                go_wp2_with (go_at_call 12; refine (zzBytes_hops _ _ _ _ _ _ _ _ _).mono ?_; rintro e w' ⟨rfl, rfl⟩; rw [H.out])
                go_ret
                exact ⟨rfl, Below.refl _ _⟩
              · by_cases d4 : n ≤ s
                · clear HH2 HB
                  go_enter Try.func6, Try.ntmps6
                  go_wp2_with (go_at_call 12; refine (zzBytes_hops _ _ _ _ _ _ _ _ _).mono ?_; rintro e w' ⟨rfl, rfl⟩; rw [H.out])
                  go_ret
                  exact ⟨rfl, Below.refl _ _⟩
                · have H2 : Hid (allIn n f g (min l l') = false) := by
                    rcases HH2 with h | h | h | h | h
                    · omega
                    · omega
                    · omega
                    · omega
                    · exact h
                  clear HH2
                  go_enter Try.func6, Try.ntmps6
                  go_wp2_with (first | (go_at_call 12; refine (zzBytes_hops _ _ _ _ _ _ _ _ _).mono ?_; rintro e w' ⟨rfl, rfl⟩; rw [H.out]) | (go_at_call 13; refine (edgesInRange_any _ _ _ _ _ _ _ f g _ HB.out.1 HF HG).mono ?_; rintro e w' ⟨rfl, rfl⟩; rw [H2.out]))
                  go_ret
                  exact ⟨rfl, Below.refl _ _⟩
        · have b3 : decide ((1048576 : Int) < 8 * ((l : Int) + (l' : Int))) = true := by simp; omega
          clear HH c1 c2 c3 HB
          go_enter Try.func6, Try.ntmps6
          go_wp2_with (go_at_call 12; refine (zzBytes_hops _ _ _ _ _ _ _ _ _).mono ?_; rintro e w' ⟨rfl, rfl⟩; rw [H.out])
          go_ret
          exact ⟨rfl, Below.refl _ _⟩
      · have b2 : decide ((131072 : Int) < (l' : Int)) = true := by simp; omega
        clear HH c1 c2 HB
        go_enter Try.func6, Try.ntmps6
        go_wp2_with (go_at_call 12; refine (zzBytes_hops _ _ _ _ _ _ _ _ _).mono ?_; rintro e w' ⟨rfl, rfl⟩; rw [H.out])
        go_ret
        exact ⟨rfl, Below.refl _ _⟩
    · have b1 : decide ((131072 : Int) < (l : Int)) = true := by simp; omega
      clear HH c1 HB
      go_enter Try.func6, Try.ntmps6
      go_wp2_with (go_at_call 12; refine (zzBytes_hops _ _ _ _ _ _ _ _ _).mono ?_; rintro e w' ⟨rfl, rfl⟩; rw [H.out])
      go_ret
      exact ⟨rfl, Below.refl _ _⟩

end Go.Proofs.Qxb6000855a
