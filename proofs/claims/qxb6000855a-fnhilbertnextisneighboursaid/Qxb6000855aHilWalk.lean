/-
  The walk of hilbert: the Go text computes Hil.hil 16.
-/
import Derived.Test.Qxb6000855aRows
import Derived.Test.Qxb6000855aHil
import Derived.WalkKit
import Derived.WalkSpells
import Derived.Deep.QuietTactic
import Derived.BigQuiet
import Derived.Laws.BitsAllLaws
import Derived.Deep.Light
namespace Go.Proofs.Qxb6000855a
open Go.RowKit
open Hil (hil)

/-- what holds at each round's head -/
def HilAt (x0 y0 x y d s : Nat) : Prop := ∃ j, j ≤ 16 ∧ s = 2 ^ j / 2 ∧ x < 2 ^ j ∧ y < 2 ^ j ∧ d + hil j x y = hil 16 x0 y0

theorem hilAt_start (x y : Nat) (hx : x < 65536) (hy : y < 65536) : HilAt x y x y 0 32768 :=
  ⟨16, Nat.le_refl _, by decide, by omega, by omega, by omega⟩

theorem and_pow_lo (x j : Nat) (h : x < 2 ^ j) : x &&& 2 ^ j = 0 := by
  rw [nat_bit, Nat.div_eq_of_lt h]; simp
theorem and_pow_hi (x j : Nat) (h : 2 ^ j ≤ x) (h2 : x < 2 * 2 ^ j) : x &&& 2 ^ j = 2 ^ j := by
  rw [nat_bit, Nat.div_eq_of_lt_le (k := 1) (by omega) (by omega)]; simp

theorem hilAt_end {x0 y0 x y d s : Nat} (h0 : s = 0) (h : HilAt x0 y0 x y d s) : d = hil 16 x0 y0 := by
  subst h0
  obtain ⟨j, _, hs, _, _, he⟩ := h
  match j, hs, he with
  | 0, _, he => have e : hil 0 x y = 0 := rfl
                omega
  | i + 1, hs, _ => rw [Nat.pow_succ] at hs; have := Nat.two_pow_pos i; omega

theorem hilAt_facts {x0 y0 x y d s : Nat} (hx : x0 < 65536) (hy : y0 < 65536) (h : HilAt x0 y0 x y d s) (hs : 0 < s) :
    s ≤ 32768 ∧ x < 2 * s ∧ y < 2 * s ∧ d ≤ 4294967295 ∧ (y < s → bits .and .u32 (y : Int) (s : Int) = 0) ∧ (¬ y < s → bits .and .u32 (y : Int) (s : Int) = s) ∧
      (x < s → bits .and .u32 (x : Int) (s : Int) = 0) ∧ (¬ x < s → bits .and .u32 (x : Int) (s : Int) = s) := by
  obtain ⟨j, hj, es, hx1, hy1, he⟩ := h
  have hl := Hil.hil_lt 16 x0 y0 (by omega) (by omega)
  match j, hj, es, hx1, hy1, he with
  | 0, _, es, _, _, _ => simp at es; omega
  | i + 1, hj, es, hx1, hy1, he =>
    have e : s = 2 ^ i := by rw [Nat.pow_succ] at es; omega
    have hb : 2 ^ i ≤ 2 ^ 15 := Nat.pow_le_pow_right (by decide) (by omega)
    rw [Nat.pow_succ] at hx1 hy1
    refine ⟨by omega, by omega, by omega, by omega, ?_, ?_, ?_, ?_⟩
    · intro h; rw [u32_and_nat _ _ (by omega) (by omega), e, and_pow_lo _ _ (by omega)]; rfl
    · intro h; rw [u32_and_nat _ _ (by omega) (by omega), e, and_pow_hi _ _ (by omega) (by omega)]
    · intro h; rw [u32_and_nat _ _ (by omega) (by omega), e, and_pow_lo _ _ (by omega)]; rfl
    · intro h; rw [u32_and_nat _ _ (by omega) (by omega), e, and_pow_hi _ _ (by omega) (by omega)]

theorem hil_succ (j x y : Nat) : hil (j + 1) x y = if y < 2 ^ j then (if x < 2 ^ j then hil j y x else 3 * (2 ^ j * 2 ^ j) + hil j (2 ^ j - 1 - y) (2 * 2 ^ j - 1 - x))
    else if x < 2 ^ j then 2 ^ j * 2 ^ j + hil j x (y - 2 ^ j) else 2 * (2 ^ j * 2 ^ j) + hil j (x - 2 ^ j) (y - 2 ^ j) := rfl

/-- one round: the four quarters -/
theorem hilAt_step {x0 y0 x y d s : Nat} (h : HilAt x0 y0 x y d s) (hs : 0 < s) :
    (y < s → x < s → HilAt x0 y0 y x d (s / 2)) ∧
    (y < s → ¬ x < s → HilAt x0 y0 (s - 1 - y) (2 * s - 1 - x) (d + 3 * (s * s)) (s / 2)) ∧
    (¬ y < s → x < s → HilAt x0 y0 x (y - s) (d + s * s) (s / 2)) ∧
    (¬ y < s → ¬ x < s → HilAt x0 y0 (x - s) (y - s) (d + 2 * (s * s)) (s / 2)) := by
  obtain ⟨j, hj, es, hx1, hy1, he⟩ := h
  match j, hj, es, hx1, hy1, he with
  | 0, _, es, _, _, _ => simp at es; omega
  | i + 1, hj, es, hx1, hy1, he =>
    have e : s = 2 ^ i := by rw [Nat.pow_succ] at es; omega
    rw [Nat.pow_succ] at hx1 hy1
    rw [hil_succ i x y] at he
    clear es
    subst e
    refine ⟨fun h1 h2 => ⟨i, by omega, rfl, by omega, by omega, ?_⟩, fun h1 h2 => ⟨i, by omega, rfl, by omega, by omega, ?_⟩, fun h1 h2 => ⟨i, by omega, rfl, by omega, by omega, ?_⟩, fun h1 h2 => ⟨i, by omega, rfl, by omega, by omega, ?_⟩⟩
    · rw [if_pos h1, if_pos h2] at he; exact he
    · rw [if_pos h1, if_neg h2] at he; omega
    · rw [if_neg h1, if_pos h2] at he; omega
    · rw [if_neg h1, if_neg h2] at he; omega

theorem xor00 : bits .xor .u32 0 0 = 0 := by decide
theorem xor30 : bits .xor .u32 3 0 = 3 := by decide
theorem xor01 : bits .xor .u32 0 1 = 1 := by decide
theorem xor31 : bits .xor .u32 3 1 = 2 := by decide

theorem emod_lo (a s : Nat) (h : a < s) : (a : Int) % (s : Int) = (a : Int) := Int.emod_eq_of_lt (by omega) (by omega)
theorem emod_hi (a s : Nat) (h : ¬ a < s) (h2 : a < 2 * s) : (a : Int) % (s : Int) = (a : Int) - (s : Int) := by
  rw [show (a : Int) = ((a : Int) - s) + s by omega, Int.add_emod_right, Int.emod_eq_of_lt (by omega) (by omega)]; omega

theorem ret_u64 {a b : Int} (h : a = b) : Ending.returned (.int .u64 a) = .returned (.int .u64 b) := by rw [h]
theorem u32_eq {a b : Int} (h : a = b) : Value.int .u32 a = Value.int .u32 b := by rw [h]
theorem u64_eq {a b : Int} (h : a = b) : Value.int .u64 a = Value.int .u64 b := by rw [h]

set_option maxHeartbeats 1000000 in
theorem hilbert_any (x y : Nat) (w : World) (hx : x < 65536) (hy : y < 65536) :
    Calls Try.prog 29 #[.int .u32 x, .int .u32 y] w fun e w' => e = .returned (.int .u64 (hil 16 x y : Nat)) ∧ ∃ n, w' = w.drewN n := by
  have h0 := hilAt_start x y hx hy
  go_enter Try.func29, Try.ntmps29
  go_wp2
  go_loopw [0, 1, 5, 6] (fun a b c s wr => ∃ (xn yn dn sn n : Nat), a = .int .u32 xn ∧ b = .int .u32 yn ∧ c = .int .u64 dn ∧ s = .int .u32 sn ∧ HilAt x y xn yn dn sn ∧ wr = w.drewN n)
    (fun _ _ _ s _ => (intOf s).toNat)
  case atStart => exact ⟨x, y, 0, 32768, 0, rfl, rfl, rfl, rfl, h0, rfl⟩
  case round =>
    obtain ⟨xn, yn, dn, sn, n, rfl, rfl, rfl, rfl, hat, rfl⟩ := hrel
    by_cases hs : 0 < sn
    · obtain ⟨hs1, hx2, hy2, hd2, f1, f2, f3, f4⟩ := hilAt_facts hx hy hat hs
      obtain ⟨g1, g2, g3, g4⟩ := hilAt_step hat hs
      obtain ⟨q, hq⟩ : ∃ q : Nat, q = sn * sn := ⟨_, rfl⟩
      have hq1 : q ≤ 1073741824 := by rw [hq]; exact Nat.mul_le_mul hs1 hs1
      have hq2 : IntKind.u64.wrap ((sn : Int) * (sn : Int)) = (q : Int) := by
        rw [IntKind.wrap_u64, hq]; have : (sn * sn : Nat) ≤ 1073741824 := by omega
        omega
      rw [← hq] at g2 g3 g4
      clear h0 hat hq
      have hne : ((sn : Int) != 0) = true := by rw [bne_iff_ne]; omega
      have k1 := xor00
      have k2 := xor30
      have k3 := xor01
      have k4 := xor31
      by_cases h1 : yn < sn
      · have b1 := f1 h1
        have m1 := emod_lo yn sn h1
        by_cases h2 : xn < sn
        · have b2 := f3 h2
          have G := g1 h1 h2
          have m2 := emod_lo xn sn h2
          clear f1 f2 f3 f4 g1 g2 g3 g4
          go_wp2
          go_quiet (fail)
          go_wp2
          go_roundw
          case rel => exact ⟨yn, xn, dn, sn / 2, n + nq, u32_eq (by omega), u32_eq (by omega), rfl, u32_eq (by omega), G, rfl⟩
          case measure => go_light; simp [intOf]; omega
        · have b2 := f4 h2
          have G := g2 h1 h2
          have m2 := emod_hi xn sn h2 hx2
          clear f1 f2 f3 f4 g1 g2 g3 g4
          go_wp2
          go_quiet (fail)
          go_wp2
          go_quiet (fail)
          go_wp2
          go_roundw
          case rel =>
            go_light
            have e1 : ((sn : Int) - 1 - yn) % (sn : Int) = (sn : Int) - 1 - yn := Int.emod_eq_of_lt (by omega) (by omega)
            have e2 : ((sn : Int) - 1 - ((xn : Int) - sn)) % (sn : Int) = (sn : Int) - 1 - ((xn : Int) - sn) := Int.emod_eq_of_lt (by omega) (by omega)
            exact ⟨sn - 1 - yn, 2 * sn - 1 - xn, dn + 3 * q, sn / 2, _, u32_eq (by omega), u32_eq (by omega), u64_eq (by omega), u32_eq (by omega), G, rfl⟩
          case measure => go_light; simp [intOf]; omega
      · have b1 := f2 h1
        have m1 := emod_hi yn sn h1 hy2
        by_cases h2 : xn < sn
        · have b2 := f3 h2
          have G := g3 h1 h2
          have m2 := emod_lo xn sn h2
          clear f1 f2 f3 f4 g1 g2 g3 g4
          go_wp2
          go_quiet (fail)
          go_wp2
          go_roundw
          case rel =>
            go_light
            exact ⟨xn, yn - sn, dn + q, sn / 2, n + nq, u32_eq (by omega), u32_eq (by omega), u64_eq (by omega), u32_eq (by omega), G, rfl⟩
          case measure => go_light; simp [intOf]; omega
        · have b2 := f4 h2
          have G := g4 h1 h2
          have m2 := emod_hi xn sn h2 hx2
          clear f1 f2 f3 f4 g1 g2 g3 g4
          go_wp2
          go_quiet (fail)
          go_wp2
          go_roundw
          case rel =>
            go_light
            exact ⟨xn - sn, yn - sn, dn + 2 * q, sn / 2, n + nq, u32_eq (by omega), u32_eq (by omega), u64_eq (by omega), u32_eq (by omega), G, rfl⟩
          case measure => go_light; simp [intOf]; omega
    · have hfin : Hid (dn = hil 16 x y) := hilAt_end (by omega) hat
      clear hat h0
      go_wp2
      go_ret
      exact ⟨ret_u64 (by rw [hfin.out]), n, rfl⟩

theorem grown_drewN (w : World) : ∀ n, Grown w (w.drewN n)
  | 0 => Grown.refl _
  | n + 1 => Grown.drew (grown_drewN w n)

theorem zz_hilbert (x y : Nat) (w : World) (hx : x < 65536) (hy : y < 65536) :
    Calls Try.prog 11 #[.int .u32 x, .int .u32 y] w fun e w' => e = .returned (.int .u64 (Hil.hil 16 x y : Nat)) ∧ ∃ n, w' = w.drewN n := by
  go_enter Try.func11, Try.ntmps11
  go_wp2_with (go_at_call 29; refine (hilbert_any x y _ hx hy).mono ?_; rintro e w' ⟨rfl, n, rfl⟩)
  go_ret
  exact ⟨rfl, n, rfl⟩

theorem zz_hilbert_of (x y d : Nat) (w : World) (hx : Hid (x < 65536)) (hy : Hid (y < 65536)) (hd : Hid (d = Hil.hil 16 x y)) :
    Calls Try.prog 11 #[.int .u32 x, .int .u32 y] w fun e w' => e = .returned (.int .u64 (d : Nat)) ∧ ∃ n, w' = w.drewN n := by
  rw [hd.out]; exact zz_hilbert x y w hx.out hy.out

end Go.Proofs.Qxb6000855a
