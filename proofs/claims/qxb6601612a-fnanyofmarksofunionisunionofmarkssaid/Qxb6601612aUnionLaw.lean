/-
  The walk of FnAnyOfMarksOfUnionIsUnionOfMarks.
-/
import Derived.Test.Qxb6601612aGate
import Derived.OpenShut
namespace Go.Proofs.Qxb6601612a
open Go.RowKit
open Plain (mkd firsts inR cnt)

/-- one list behind the other -/
def joinF (ls : Nat) (f g : Nat → Int) : Nat → Int := fun j => if j < ls then f j else g (j - ls)

theorem mkd_join (ls le : Nat) (f g : Nat → Int) (v : Nat) : mkd (joinF ls f g) (ls + le) v = (mkd f ls v || mkd g le v) := by
  rw [Bool.eq_iff_iff, Bool.or_eq_true, Plain.mk_iff, Plain.mk_iff, Plain.mk_iff]
  unfold joinF
  constructor
  · rintro ⟨e, he, h⟩
    by_cases c : e < ls
    · rw [if_pos c] at h; exact Or.inl ⟨e, c, h⟩
    · rw [if_neg c] at h; exact Or.inr ⟨e - ls, by omega, h⟩
  · rintro (⟨e, he, h⟩ | ⟨e, he, h⟩)
    · exact ⟨e, by omega, by rw [if_pos he]; exact h⟩
    · exact ⟨ls + e, by omega, by rw [if_neg (by omega), show ls + e - ls = e by omega]; exact h⟩

/-- the joined list, filled up to its place k -/
def fillF (ls : Nat) (f g : Nat → Int) (k : Nat) : Nat → Int := fun j => if j < k then joinF ls f g j else 0

theorem fill_step {w : World} {b J ls k : Nat} {f g : Nat → Int} {y : Int} (h : IR w b J (fillF ls f g k)) (hy : y = joinF ls f g k) : IR (w.setCell ⟨b, k, none⟩ (.int .i64 y)) b J (fillF ls f g (k + 1)) := by
  refine (h.set k y).congr (fun j _ => ?_)
  unfold upd fillF
  by_cases e : j = k
  · subst e; simp [hy]
  · by_cases e2 : j < k
    · simp [e, e2, show j < k + 1 by omega]
    · simp [e, e2, show ¬ j < k + 1 by omega]

theorem BR.drewN {w : World} {b n : Nat} {f : Nat → Bool} (h : BR w b n f) (k : Nat) : BR (w.drewN k) b n f := h

set_option maxRecDepth 100000 in
set_option maxHeartbeats 1000000 in
theorem union_early (kk : Int) (am ao a a' : Option Addr) (lm cm lo co l c l' c' : Nat) (w : World) (h : bytes4 lm lo l l' = false ∨ 65536 < lm ∨ 32768 < lo ∨ 32768 < l ∨ 32768 < l') :
    Calls Try.prog 8 #[.slice am lm cm, .slice ao lo co, .int .i64 kk, .slice a l c, .slice a' l' c'] w fun e w' => e = .returned (.bool true) ∧ Below w.heap.size w w' := by
  cases h1 : bytes4 lm lo l l'
  · have H : Hid (bytes4 lm lo l l' = false) := h1
    clear h h1
    go_enter Try.func8, Try.ntmps8
    go_wp2_with (go_at_call 20; refine (bytes20 _ _ _ _ _ _ _ _ _ _ _ _ _ _).mono ?_; rintro e w' ⟨rfl, rfl⟩; rw [H.out])
    go_ret
    exact ⟨rfl, Below.refl _ _⟩
  · have H : Hid (bytes4 lm lo l l' = true) := h1
    by_cases t0 : 65536 < lm
    · have d0 : decide ((65536 : Int) < (lm : Int)) = true := by rw [decide_eq_true_eq]; omega
      clear h h1 t0
      go_enter Try.func8, Try.ntmps8
      go_wp2_with (go_at_call 20; refine (bytes20 _ _ _ _ _ _ _ _ _ _ _ _ _ _).mono ?_; rintro e w' ⟨rfl, rfl⟩; rw [H.out])
      go_ret
      exact ⟨rfl, Below.refl _ _⟩
    · have d0 : decide ((65536 : Int) < (lm : Int)) = false := by rw [decide_eq_false_iff_not]; omega
      by_cases t1 : 32768 < lo
      · have d1 : decide ((32768 : Int) < (lo : Int)) = true := by rw [decide_eq_true_eq]; omega
        clear h h1 t0 t1
        go_enter Try.func8, Try.ntmps8
        go_wp2_with (go_at_call 20; refine (bytes20 _ _ _ _ _ _ _ _ _ _ _ _ _ _).mono ?_; rintro e w' ⟨rfl, rfl⟩; rw [H.out])
        go_ret
        exact ⟨rfl, Below.refl _ _⟩
      · have d1 : decide ((32768 : Int) < (lo : Int)) = false := by rw [decide_eq_false_iff_not]; omega
        by_cases t2 : 32768 < l
        · have d2 : decide ((32768 : Int) < (l : Int)) = true := by rw [decide_eq_true_eq]; omega
          clear h h1 t0 t1 t2
          go_enter Try.func8, Try.ntmps8
          go_wp2_with (go_at_call 20; refine (bytes20 _ _ _ _ _ _ _ _ _ _ _ _ _ _).mono ?_; rintro e w' ⟨rfl, rfl⟩; rw [H.out])
          go_ret
          exact ⟨rfl, Below.refl _ _⟩
        · have d2 : decide ((32768 : Int) < (l : Int)) = false := by rw [decide_eq_false_iff_not]; omega
          have t3 : 32768 < l' := by
            rw [h1] at h
            simp only [Bool.true_eq_false, false_or] at h
            omega
          have d3 : decide ((32768 : Int) < (l' : Int)) = true := by rw [decide_eq_true_eq]; omega
          clear h h1 t0 t1 t2 t3
          go_enter Try.func8, Try.ntmps8
          go_wp2_with (go_at_call 20; refine (bytes20 _ _ _ _ _ _ _ _ _ _ _ _ _ _).mono ?_; rintro e w' ⟨rfl, rfl⟩; rw [H.out])
          go_ret
          exact ⟨rfl, Below.refl _ _⟩

set_option maxRecDepth 100000 in
set_option maxHeartbeats 4000000 in
theorem union_main (kk : Int) (am ao a a' : Option Addr) (lm cm lo co l c l' c' : Nat) (fm : Nat → Bool) (fo f g : Nat → Int) (w : World) (hb : bytes4 lm lo l l' = true)
    (hlm : lm ≤ 1048576) (hlo : lo ≤ 1048576) (hl : l ≤ 500000) (hl' : l' ≤ 500000) (d1 : decide ((65536 : Int) < (lm : Int)) = false) (d2 : decide ((32768 : Int) < (lo : Int)) = false) (d3 : decide ((32768 : Int) < (l : Int)) = false) (d4 : decide ((32768 : Int) < (l' : Int)) = false)
    (nm : am = none → lm = 0 ∧ cm = 0) (no : ao = none → lo = 0 ∧ co = 0) (n : a = none → l = 0 ∧ c = 0) (n' : a' = none → l' = 0 ∧ c' = 0) (hfm : ReadsB w am lm fm) (hfo : Reads w ao lo fo) (hf : Reads w a l f) (hg : Reads w a' l' g) :
    Calls Try.prog 8 #[.slice am lm cm, .slice ao lo co, .int .i64 kk, .slice a l c, .slice a' l' c'] w fun e w' => e = .returned (.bool true) ∧ Below w.heap.size w w' := by
  obtain ⟨J, hJ⟩ : ∃ J : Nat, (l : Int) + (l' : Int) = (J : Int) := ⟨l + l', by omega⟩
  have hJb : J ≤ 1048576 := by omega
  have HJ : Hid (J = l + l') := by unfold Hid; omega
  have hmk := run_make_row' (P := Try.prog) 22 3 (.int .i64 0) 8 Try.underlying22 Try.info3 rfl .i64 .i64 J (by omega) (by omega)
  have H1 : Hid (bytes4 lm lo l l' = true) := hb
  have HM : Hid (ReadsB w am lm fm) := hfm
  have HO : Hid (Reads w ao lo fo) := hfo
  have HF : Hid (Reads w a l f) := hf
  have HG : Hid (Reads w a' l' g) := hg
  have NM : Hid (am = none → lm = 0 ∧ cm = 0) := nm
  have NO : Hid (ao = none → lo = 0 ∧ co = 0) := no
  have NF : Hid (a = none → l = 0 ∧ c = 0) := n
  have NG : Hid (a' = none → l' = 0 ∧ c' = 0) := n'
  have hl1 : l ≤ 1048576 := by omega
  have hl1' : l' ≤ 1048576 := by omega
  clear hb hfm hfo hf hg nm no n n'
  go_enter Try.func8, Try.ntmps8
  go_wp2_with (first
    | (go_at_call 20; refine (bytes20 _ _ _ _ _ _ _ _ _ _ _ _ _ _).mono ?_; rintro e w' ⟨rfl, rfl⟩; rw [H1.out])
    | (go_at_call 18; refine (cloneBools_any am lm cm fm _ hlm NM.out HM.out).mono ?_; rintro e w1 ⟨m1, e1, rfl, h1, h2⟩; have HB1 : Hid (Below w.heap.size w w1) := h2; clear h1 h2)
    | (go_at_call 11; refine (cloneInts_any a' l' c' g _ hl1' NG.out (HG.out.kept HB3.out (Nat.le_refl _))).mono ?_; rintro e w4 ⟨x1, e4, rfl, h1, h2⟩; have HB4 : Hid (Below w.heap.size w w4) := HB3.out.trans (h2.mono HB3.out.size); have HF4 : Hid (Reads w4 s1 l f) := HF3.out.kept h2 (Nat.le_refl _); have HG4 : Hid (Reads w4 x1 l' g) := h1; clear h1 h2)
    | (go_at_call 11; refine (cloneInts_any a l c f _ hl1 NF.out (HF.out.kept HB2.out (Nat.le_refl _))).mono ?_; rintro e w3 ⟨s1, e3, rfl, h1, h2⟩; have HB3 : Hid (Below w.heap.size w w3) := HB2.out.trans (h2.mono HB2.out.size); have HF3 : Hid (Reads w3 s1 l f) := h1; clear h1 h2)
    | (go_at_call 11; refine (cloneInts_any ao lo co fo _ hlo NO.out (HO.out.kept HB1.out (Nat.le_refl _))).mono ?_; rintro e w2 ⟨o1, e2, rfl, h1, h2⟩; have HB2 : Hid (Below w.heap.size w w2) := HB1.out.trans (h2.mono HB1.out.size); clear h1 h2))
  go_loopw [13] (fun i wr => ∃ k : Nat, k ≤ l ∧ i = .int .i64 k ∧ IR wr w4.heap.size J (fillF l f g k) ∧ Below w4.heap.size w4 wr) (fun i _ => l - (intOf i).toNat)
  case atStart => exact ⟨0, Nat.zero_le _, rfl, (IR_made w4 J).congr (fun _ _ => rfl), (Below.refl _ _).alloc (Nat.le_refl _) _⟩
  case round =>
    clear hmk
    obtain ⟨k, hk, rfl, hrow, hbel⟩ := hrel
    by_cases hlt : k < l
    · obtain ⟨b, o, i1, g1, _⟩ := HF4.out.elem (c := e3) hbel (Nat.le_refl _) hlt (Nat.le_refl _)
      have hkJ : k < J := by rw [HJ.out]; omega
      have g2 := World.rowIs.cell hrow hkJ
      have g3 := World.rowIs.frozen hrow k
      have R1 : Hid (IR (wr.setCell ⟨w4.heap.size, k, none⟩ (.int .i64 (f k))) w4.heap.size J (fillF l f g (k + 1))) := fill_step hrow (by unfold joinF; rw [if_pos hlt])
      have R2 : Hid (Below w4.heap.size w4 (wr.setCell ⟨w4.heap.size, k, none⟩ (.int .i64 (f k)))) := hbel.setCell (Nat.le_refl _) _
      clear hrow hbel
      go_wp2
      go_roundw
      case rel => exact ⟨k + 1, by omega, by go_num, R1, R2⟩
      case measure => go_light; simp [intOf]; omega
    · have HR : Hid (IR wr w4.heap.size J (fillF l f g (l + 0))) := by rw [show l + 0 = k by omega]; exact hrow
      have HBr : Hid (Below w4.heap.size w4 wr) := hbel
      clear hrow hbel
      go_wp2
      go_loopw [14] (fun i wq => ∃ k : Nat, k ≤ l' ∧ i = .int .i64 k ∧ IR wq w4.heap.size J (fillF l f g (l + k)) ∧ Below w4.heap.size w4 wq) (fun i _ => l' - (intOf i).toNat)
      case atStart => exact ⟨0, Nat.zero_le _, rfl, HR, HBr⟩
      case round =>
        obtain ⟨k2, hk2, rfl, hrow, hbel⟩ := hrel
        by_cases hlt2 : k2 < l'
        · obtain ⟨b, o, i1, g1, _⟩ := HG4.out.elem (c := e4) hbel (Nat.le_refl _) hlt2 (Nat.le_refl _)
          obtain ⟨t, ht⟩ : ∃ t : Nat, (l : Int) + (k2 : Int) = (t : Int) := ⟨l + k2, by omega⟩
          have htJ : t < J := by rw [HJ.out]; omega
          have ht2 : l + k2 = t := by omega
          rw [ht2] at hrow
          have g2 := World.rowIs.cell hrow htJ
          have g3 := World.rowIs.frozen hrow t
          have R1 : Hid (IR (wr.setCell ⟨w4.heap.size, t, none⟩ (.int .i64 (g k2))) w4.heap.size J (fillF l f g (l + (k2 + 1)))) := by
            rw [show l + (k2 + 1) = t + 1 by omega]
            exact fill_step hrow (by unfold joinF; rw [if_neg (by omega), show t - l = k2 by omega])
          have R2 : Hid (Below w4.heap.size w4 (wr.setCell ⟨w4.heap.size, t, none⟩ (.int .i64 (g k2)))) := hbel.setCell (Nat.le_refl _) _
          clear hrow hbel ht2
          go_wp2
          go_roundw
          case rel => exact ⟨k2 + 1, by omega, by go_num, R1, R2⟩
          case measure => go_light; simp [intOf]; omega
        · have HR2 : Hid (IR wr w4.heap.size J (joinF l f g)) := hrow.congr (fun j hj => by unfold fillF; rw [if_pos (by have := HJ.out; omega)])
          have HB5 : Hid (Below w4.heap.size w4 wr) := hbel
          clear hrow hbel
          obtain ⟨w5, rfl⟩ : ∃ w5 : World, w5 = wr := ⟨_, rfl⟩
          have HF5 : Hid (Reads w5 s1 l f) := HF4.out.kept HB5.out (Nat.le_refl _)
          have HG5 : Hid (Reads w5 x1 l' g) := HG4.out.kept HB5.out (Nat.le_refl _)
          have HH5 : Hid (Reads w5 (some ⟨w4.heap.size, 0, none⟩) J (joinF l f g)) := HR2.out.reads
          have HB05 : Hid (Below w.heap.size w w5) := HB4.out.trans (HB5.out.mono HB4.out.size)
          go_wp2_with (first
            | (go_at_call 19; refine (zzMarks_any m1 o1 (some ⟨w4.heap.size, 0, none⟩) lm e1 lo e2 J J kk (joinF l f g) _ hlm hJb (HH5.out.kept HB7.out (Nat.le_refl _))).mono ?_; rintro e w8 ⟨rfl, h1, h2, h3⟩; have HK8 : Hid (BR w8 (w7.heap.size + 1) lm (mkd (joinF l f g) J)) := h1; have HB8 : Hid (Below w7.heap.size w7 w8) := h2; clear h1 h2 h3)
            | (go_at_call 19; refine (zzMarks_any m1 o1 x1 lm e1 lo e2 l' e4 kk g _ hlm hl1' (HG5.out.kept HB6.out (Nat.le_refl _))).mono ?_; rintro e w7 ⟨rfl, h1, h2, h3⟩; have HK7 : Hid (BR w7 (w6.heap.size + 1) lm (mkd g l')) := h1; have HB67 : Hid (Below w6.heap.size w6 w7) := h2; have HB7 : Hid (Below w5.heap.size w5 w7) := HB6.out.trans (h2.mono HB6.out.size); have HS7 : Hid (w7.heap.size = w6.heap.size + 2) := h3; clear h1 h2 h3)
            | (go_at_call 19; refine (zzMarks_any m1 o1 s1 lm e1 lo e2 l e3 kk f _ hlm hl1 HF5.out).mono ?_; rintro e w6 ⟨rfl, h1, h2, h3⟩; have HK6 : Hid (BR w6 (w5.heap.size + 1) lm (mkd f l)) := h1; have HB6 : Hid (Below w5.heap.size w5 w6) := h2; have HS6 : Hid (w6.heap.size = w5.heap.size + 2) := h3; clear h1 h2 h3))
          have K1 : Hid (BR w8 (w5.heap.size + 1) lm (mkd f l)) := (HK6.out.kept HB67.out (by rw [HS6.out]; omega)).kept HB8.out (by rw [HS7.out, HS6.out]; omega)
          have K2 : Hid (BR w8 (w6.heap.size + 1) lm (mkd g l')) := HK7.out.kept HB8.out (by rw [HS7.out]; omega)
          have HB : Hid (Below w.heap.size w w8) := HB05.out.trans ((HB7.out.mono HB05.out.size).trans (HB8.out.mono (Nat.le_trans HB05.out.size HB7.out.size)))
          go_loopw [18] (fun i wr => ∃ k nq : Nat, k ≤ lm ∧ i = .int .i64 k ∧ wr = w8.drewN nq) (fun i _ => lm - (intOf i).toNat)
          case atStart => exact ⟨0, 0, Nat.zero_le _, rfl, rfl⟩
          case round =>
            obtain ⟨k3, nq, hk3, rfl, rfl⟩ := hrel
            by_cases hlt3 : k3 < lm
            · have g1 : w8.cell? ⟨w5.heap.size + 1, k3, none⟩ = some (.bool (mkd f l k3)) := World.rowIs.cell K1.out hlt3
              have g2 : w8.cell? ⟨w6.heap.size + 1, k3, none⟩ = some (.bool (mkd g l' k3)) := World.rowIs.cell K2.out hlt3
              have g3 : w8.cell? ⟨w7.heap.size + 1, k3, none⟩ = some (.bool (mkd (joinF l f g) J k3)) := World.rowIs.cell HK8.out hlt3
              have hj : mkd (joinF l f g) J k3 = (mkd f l k3 || mkd g l' k3) := by rw [HJ.out]; exact mkd_join l l' f g k3
              rw [hj] at g3
              clear hj
              generalize mkd f l k3 = p1 at g1 g3
              generalize mkd g l' k3 = p2 at g2 g3
              cases p1
              · cases p2
                · simp only [Bool.or_false] at g3
                  go_wp2
                  go_quiet (fail)
                  go_wp2
                  go_roundw
                  case rel => exact ⟨k3 + 1, _, by omega, by go_num, rfl⟩
                  case measure => go_light; simp [intOf]; omega
                · simp only [Bool.or_true] at g3
                  go_wp2
                  go_quiet (fail)
                  go_wp2
                  go_roundw
                  case rel => exact ⟨k3 + 1, _, by omega, by go_num, rfl⟩
                  case measure => go_light; simp [intOf]; omega
              · simp only [Bool.true_or] at g3
                go_wp2
                go_quiet (fail)
                go_wp2
                go_roundw
                case rel => exact ⟨k3 + 1, _, by omega, by go_num, rfl⟩
                case measure => go_light; simp [intOf]; omega
            · go_wp2
              go_ret
              exact ⟨rfl, below_drewN HB.out _⟩

end Go.Proofs.Qxb6601612a
