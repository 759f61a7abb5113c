/-
  The walk of FnGridSetIsFirstOccurrencesInRange.
-/
import Derived.Test.Qxb6601612aGate
namespace Go.Proofs.Qxb6601612a
open Go.RowKit
open Plain (mkd firsts inR FirstFrom)

set_option maxRecDepth 100000 in
set_option maxHeartbeats 1000000 in
theorem grid_early (r c d x : Int) (a : Option Addr) (l cp : Nat) (w : World) (h : bytes1 l = false ∨ 65536 < l ∨ fitsB r c = false) :
    Calls Try.prog 5 #[.int .i64 r, .int .i64 c, .int .i64 d, .int .i64 x, .slice a l cp] w fun e w' => e = .returned (.bool true) ∧ Below w.heap.size w w' := by
  cases h1 : bytes1 l
  · have H : Hid (bytes1 l = false) := h1
    clear h h1
    go_enter Try.func5, Try.ntmps5
    go_wp2_with (go_at_call 14; refine (bytes14 _ _ _ _ _ _ _ _).mono ?_; rintro e w' ⟨rfl, rfl⟩; rw [H.out])
    go_ret
    exact ⟨rfl, Below.refl _ _⟩
  · have H : Hid (bytes1 l = true) := h1
    by_cases h2 : 65536 < l
    · have d2 : decide ((65536 : Int) < (l : Int)) = true := by simp; omega
      clear h h1 h2
      go_enter Try.func5, Try.ntmps5
      go_wp2_with (go_at_call 14; refine (bytes14 _ _ _ _ _ _ _ _).mono ?_; rintro e w' ⟨rfl, rfl⟩; rw [H.out])
      go_ret
      exact ⟨rfl, Below.refl _ _⟩
    · have d2 : decide ((65536 : Int) < (l : Int)) = false := by simp; omega
      have H2 : Hid (fitsB r c = false) := by
        rcases h with h | h | h
        · rw [h1] at h; cases h
        · exact absurd h h2
        · exact h
      clear h h1 h2
      go_enter Try.func5, Try.ntmps5
      go_wp2_with (first | (go_at_call 14; refine (bytes14 _ _ _ _ _ _ _ _).mono ?_; rintro e w' ⟨rfl, rfl⟩; rw [H.out]) | (go_at_call 10; refine (fits_any _ _ _).mono ?_; rintro e w' ⟨rfl, rfl⟩; rw [H2.out]))
      go_ret
      exact ⟨rfl, Below.refl _ _⟩

set_option maxRecDepth 100000 in
set_option maxHeartbeats 4000000 in
theorem grid_main (r c d x : Int) (q : Nat) (a : Option Addr) (l cp : Nat) (f : Nat → Int) (w : World) (hq : r * c = (q : Int)) (hfit : fitsB r c = true) (hq1 : q ≤ 1048576) (hl : l ≤ 1048576) (hl2 : decide ((65536 : Int) < (l : Int)) = false)
    (hn : a = none → l = 0 ∧ cp = 0) (hf : Reads w a l f) :
    Calls Try.prog 5 #[.int .i64 r, .int .i64 c, .int .i64 d, .int .i64 x, .slice a l cp] w fun e w' => e = .returned (.bool true) ∧ Below w.heap.size w w' := by
  have hmk := run_make_row' (P := Try.prog) 22 3 (.int .i64 0) 8 Try.underlying22 Try.info3 rfl .i64 .i64 q (by omega) (by omega)
  have HF : Hid (Reads w a l f) := hf
  have HN : Hid (a = none → l = 0 ∧ cp = 0) := hn
  have H1 : Hid (bytes1 l = true) := by unfold Hid bytes1; simpa using hl
  have H2 : Hid (fitsB r c = true) := hfit
  have HQ : Hid (r * c = (q : Int)) := hq
  clear hf hn hfit
  go_enter Try.func5, Try.ntmps5
  go_wp2_with (first
    | (go_at_call 14; refine (bytes14 _ _ _ _ _ _ _ _).mono ?_; rintro e w' ⟨rfl, rfl⟩; rw [H1.out])
    | (go_at_call 10; refine (fits_any _ _ _).mono ?_; rintro e w' ⟨rfl, rfl⟩; rw [H2.out])
    | (go_at_call 11; refine (cloneInts_any a l cp f _ hl HN.out HF.out).mono ?_; rintro e w1 ⟨a1, c1, rfl, h1, h2⟩; have HF1 : Hid (Reads w1 a1 l f) := h1; have HB1 : Hid (Below w.heap.size w w1) := h2; clear h1 h2)
    | (go_at_call 15; refine (zzSet_any r c d x q a1 l c1 f _ HQ.out hq1 hl HF1.out).mono ?_; rintro e w2 ⟨a2, c2, rfl, h1, h2, h3⟩; have HG2 : Hid _ := h1; have HN2 : Hid _ := h2; have HB2 : Hid _ := h3; clear h1 h2 h3))
  obtain ⟨M, hM⟩ : ∃ M, M = (firsts q f l).length := ⟨_, rfl⟩
  have HM : Hid (M = (firsts q f l).length) := hM
  have hMl : M ≤ l := by rw [hM]; exact Plain.firsts_len q f l
  rw [← hM] at HG2 HN2 ⊢
  clear hM hmk
  go_loopw [14] (fun i wr => ∃ (k : Nat) (G : Nat → Int), k ≤ l ∧ i = .int .i64 ((k : Int) - 1) ∧ IR wr w2.heap.size q G ∧ FirstFrom q l f G k ∧ Below w2.heap.size w2 wr) (fun i _ => (intOf i + 1).toNat)
  case atStart => exact ⟨l, _, Nat.le_refl _, rfl, IR_made w2 q, Plain.firstFrom_end _ _ _ _, (Below.refl _ _).alloc (Nat.le_refl _) _⟩
  case round =>
    obtain ⟨k, G, hk, rfl, hrow, hff, hbel⟩ := hrel
    have HF2 : Hid (Reads w2 a1 l f) := HF1.out.kept HB2.out (Nat.le_refl _)
    match k, hk, hff with
    | m + 1, hk, hff =>
      have em : ((m + 1 : Nat) : Int) - 1 = (m : Int) := by omega
      rw [em]
      clear em
      obtain ⟨b, o, i1, g1, _⟩ := HF2.out.elem (c := c1) hbel (Nat.le_refl _) (show m < l by omega) (Nat.le_refl _)
      obtain ⟨y, hy⟩ : ∃ y, y = f m := ⟨_, rfl⟩
      rw [← hy] at g1
      by_cases d1 : 0 ≤ y
      · by_cases d2 : y < (q : Int)
        · obtain ⟨s, rfl⟩ := Int.eq_ofNat_of_zero_le d1
          have hs : s < q := by omega
          have g2 := World.rowIs.cell hrow hs
          have g3 := World.rowIs.frozen hrow s
          have hr : inR q f m = true := by unfold inR; rw [decide_eq_true_eq]; omega
          have R1 : Hid (IR (wr.setCell ⟨w2.heap.size, s, none⟩ (.int .i64 (m : Nat))) w2.heap.size q (upd G s (m : Nat))) := hrow.set s (m : Nat)
          have R2 : Hid (FirstFrom q l f (upd G s (m : Nat)) m) := Plain.firstFrom_set hff hr (by rw [← hy]; exact upd_same _ _ _) (fun j hj => upd_other _ _ (by rw [← hy] at hj; exact hj))
          have R3 : Hid (Below w2.heap.size w2 (wr.setCell ⟨w2.heap.size, s, none⟩ (.int .i64 (m : Nat)))) := hbel.setCell (Nat.le_refl _) _
          clear hrow hff hbel hr hy
          go_wp2
          go_roundw
          case rel => exact ⟨m, _, by omega, rfl, R1, R2, R3⟩
          case measure => go_light; simp [intOf]
        · have d2' : decide (y < (q : Int)) = false := decide_eq_false d2
          have R2 : Hid (FirstFrom q l f G m) := Plain.firstFrom_skip hff (by unfold inR; rw [decide_eq_false_iff_not]; omega)
          clear hff hy
          go_wp2
          go_roundw
          case rel => exact ⟨m, _, by omega, rfl, hrow, R2, hbel⟩
          case measure => go_light; simp [intOf]
      · have d1' : decide (0 ≤ y) = false := decide_eq_false d1
        have R2 : Hid (FirstFrom q l f G m) := Plain.firstFrom_skip hff (by unfold inR; rw [decide_eq_false_iff_not]; omega)
        clear hff hy
        go_wp2
        go_roundw
        case rel => exact ⟨m, _, by omega, rfl, hrow, R2, hbel⟩
        case measure => go_light; simp [intOf]
    | 0, hk, hff =>
      have em : ((0 : Nat) : Int) - 1 = -1 := by omega
      rw [em]
      clear em
      have HR : Hid (IR wr w2.heap.size q G) := hrow
      have HFF : Hid (FirstFrom q l f G 0) := hff
      have HB3 : Hid (Below w2.heap.size w2 wr) := hbel
      clear hrow hff hbel
      go_wp2
      go_loopw [17, 16] (fun i v wq => ∃ k : Nat, k ≤ l ∧ i = .int .i64 k ∧ v = .int .i64 ((firsts q f k).length : Nat) ∧ wr = wq) (fun i _ _ => l - (intOf i).toNat)
      case atStart => exact ⟨0, Nat.zero_le _, rfl, rfl, rfl⟩
      case round =>
        obtain ⟨k, hk2, rfl, rfl, rfl⟩ := hrel
        by_cases hlt : k < l
        · obtain ⟨b, o, i1, g1, _⟩ := HF2.out.elem (c := c1) HB3.out (Nat.le_refl _) hlt (Nat.le_refl _)
          obtain ⟨y, hy⟩ : ∃ y, y = f k := ⟨_, rfl⟩
          rw [← hy] at g1
          have HY : Hid (y = f k) := hy
          obtain ⟨N, hN⟩ : ∃ N, N = (firsts q f k).length := ⟨_, rfl⟩
          have hNl : N ≤ k := by rw [hN]; exact Plain.firsts_len q f k
          have HNN : Hid (N = (firsts q f k).length) := hN
          rw [← hN]
          clear hN
          by_cases d1 : y < 0
          · have el : Hid ((firsts q f (k + 1)).length = N) := by unfold Hid; rw [Plain.firsts_no (Or.inl (by unfold inR; rw [decide_eq_false_iff_not]; omega)), HNN.out]
            clear hy
            go_wp2
            go_roundw
            case rel => exact ⟨k + 1, by omega, by go_num, by rw [el.out], by first | rfl | trivial⟩
            case measure => go_light; simp [intOf]; omega
          · have d1' : decide (y < 0) = false := decide_eq_false d1
            by_cases d2 : (q : Int) ≤ y
            · have el : Hid ((firsts q f (k + 1)).length = N) := by unfold Hid; rw [Plain.firsts_no (Or.inl (by unfold inR; rw [decide_eq_false_iff_not]; omega)), HNN.out]
              clear hy
              go_wp2
              go_roundw
              case rel => exact ⟨k + 1, by omega, by go_num, by rw [el.out], by first | rfl | trivial⟩
              case measure => go_light; simp [intOf]; omega
            · have d2' : decide ((q : Int) ≤ y) = false := decide_eq_false d2
              obtain ⟨s, rfl⟩ := Int.eq_ofNat_of_zero_le (show 0 ≤ y by omega)
              have hs : s < q := by omega
              have hr : inR q f k = true := by unfold inR; rw [decide_eq_true_eq]; omega
              have es : (f k).toNat = s := by rw [← hy]; rfl
              have g2 : wr.cell? ⟨w2.heap.size, s, none⟩ = some (.int .i64 (G s)) := World.rowIs.cell HR.out hs
              have hfi := Plain.first_iff HFF.out hlt hr
              rw [es] at hfi
              by_cases d3 : G s = (k : Int)
              · rw [d3] at g2
                have hm : mkd f k (f k).toNat = false := by rw [es]; exact hfi.1 d3
                obtain ⟨fa, fb⟩ := Plain.firsts_at hlt hr hm
                rw [← HNN.out, ← HM.out] at fa
                rw [← HNN.out, es] at fb
                have el : Hid ((firsts q f (k + 1)).length = N + 1) := by unfold Hid; rw [Plain.firsts_yes hr hm, HNN.out]; simp
                obtain ⟨b2, o2, i2, g4, _⟩ := Reads.elem HG2.out (c := c2) HB3.out (Nat.le_refl _) fa (Nat.le_refl _)
                rw [fb] at g4
                have d4 : decide ((M : Int) ≤ (N : Int)) = false := by rw [decide_eq_false_iff_not]; omega
                clear hy hfi d3 hr es hm fb
                go_wp2
                go_roundw
                case rel => exact ⟨k + 1, by omega, by go_num, by rw [el.out]; go_num, by first | rfl | trivial⟩
                case measure => go_light; simp [intOf]; omega
              · have hm : mkd f k (f k).toNat = true := by
                  rw [es]; cases hc : mkd f k s
                  · exact absurd (hfi.2 hc) d3
                  · rfl
                have el : Hid ((firsts q f (k + 1)).length = N) := by unfold Hid; rw [Plain.firsts_no (Or.inr hm), HNN.out]
                have d3' : decide (G s = (k : Int)) = false := decide_eq_false d3
                clear hy hfi hr es hm
                go_wp2
                go_roundw
                case rel => exact ⟨k + 1, by omega, by go_num, by rw [el.out], by first | rfl | trivial⟩
                case measure => go_light; simp [intOf]; omega
        · have eM : (firsts q f k).length = M := by rw [HM.out, show k = l by omega]
          rw [eM]
          clear eM
          have HBB : Hid (Below w.heap.size w wr) := HB1.out.trans ((HB2.out.mono HB1.out.size).trans (HB3.out.mono (Nat.le_trans HB1.out.size HB2.out.size)))
          have hnil := fun w => Lib.run_eql_slice_nil (P := Try.prog) w 22 3 a2 M c2 0 0 Try.underlying22
          cases a2 with
          | none =>
            have e0 : M = 0 := HN2.out.1 rfl
            subst e0
            go_wp2
            go_ret
            exact ⟨rfl, HBB⟩
          | some a2 =>
            have e0 : M ≠ 0 := fun e => by cases HN2.out.2 e
            have e1 : decide ((M : Int) = 0) = false := by rw [decide_eq_false_iff_not]; omega
            go_wp2
            go_ret
            exact ⟨ret_bool (by rw [Bool.not_eq_true', beq_eq_false_iff_ne]; omega), HBB⟩
end Go.Proofs.Qxb6601612a
