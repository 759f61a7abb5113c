/-
  The walk of FnAnyOfMarksAgreesWithOneRowGridSet.
-/
import Derived.Test.Qxb6601612aGate
import Derived.OpenShut
namespace Go.Proofs.Qxb6601612a
open Go.RowKit
open Plain (mkd firsts inR cnt)

theorem firsts_elem {N l k : Nat} {f : Nat → Int} (h : k < (firsts N f l).length) : (firsts N f l).getD k 0 < N ∧ mkd f l ((firsts N f l).getD k 0) = true := by
  refine (Plain.mem_firsts N f _ l).1 ?_
  rw [List.getD_eq_getElem?_getD, List.getElem?_eq_getElem h]
  exact List.getElem_mem h

set_option maxRecDepth 100000 in
set_option maxHeartbeats 1000000 in
theorem agrees_early (kk : Int) (am ao a : Option Addr) (lm cm lo co l c : Nat) (w : World) (h : bytes3 lm lo l = false ∨ 65536 < lm ∨ 32768 < lo ∨ 65536 < l) :
    Calls Try.prog 7 #[.slice am lm cm, .slice ao lo co, .int .i64 kk, .slice a l c] w fun e w' => e = .returned (.bool true) ∧ Below w.heap.size w w' := by
  cases h1 : bytes3 lm lo l
  · have H : Hid (bytes3 lm lo l = false) := h1
    clear h h1
    go_enter Try.func7, Try.ntmps7
    go_wp2_with (go_at_call 17; refine (bytes17 _ _ _ _ _ _ _ _ _ _ _).mono ?_; rintro e w' ⟨rfl, rfl⟩; rw [H.out])
    go_ret
    exact ⟨rfl, Below.refl _ _⟩
  · have H : Hid (bytes3 lm lo l = true) := h1
    by_cases t0 : 65536 < lm
    · have d0 : decide ((65536 : Int) < (lm : Int)) = true := by rw [decide_eq_true_eq]; omega
      clear h h1 t0
      go_enter Try.func7, Try.ntmps7
      go_wp2_with (go_at_call 17; refine (bytes17 _ _ _ _ _ _ _ _ _ _ _).mono ?_; rintro e w' ⟨rfl, rfl⟩; rw [H.out])
      go_ret
      exact ⟨rfl, Below.refl _ _⟩
    · have d0 : decide ((65536 : Int) < (lm : Int)) = false := by rw [decide_eq_false_iff_not]; omega
      by_cases t1 : 32768 < lo
      · have d1 : decide ((32768 : Int) < (lo : Int)) = true := by rw [decide_eq_true_eq]; omega
        clear h h1 t0 t1
        go_enter Try.func7, Try.ntmps7
        go_wp2_with (go_at_call 17; refine (bytes17 _ _ _ _ _ _ _ _ _ _ _).mono ?_; rintro e w' ⟨rfl, rfl⟩; rw [H.out])
        go_ret
        exact ⟨rfl, Below.refl _ _⟩
      · have d1 : decide ((32768 : Int) < (lo : Int)) = false := by rw [decide_eq_false_iff_not]; omega
        have t2 : 65536 < l := by
          rw [h1] at h
          simp only [Bool.true_eq_false, false_or] at h
          omega
        have d2 : decide ((65536 : Int) < (l : Int)) = true := by rw [decide_eq_true_eq]; omega
        clear h h1 t0 t1 t2
        go_enter Try.func7, Try.ntmps7
        go_wp2_with (go_at_call 17; refine (bytes17 _ _ _ _ _ _ _ _ _ _ _).mono ?_; rintro e w' ⟨rfl, rfl⟩; rw [H.out])
        go_ret
        exact ⟨rfl, Below.refl _ _⟩

set_option maxRecDepth 100000 in
set_option maxHeartbeats 4000000 in
theorem agrees_main (kk : Int) (am ao a : Option Addr) (lm cm lo co l c : Nat) (fm : Nat → Bool) (fo f : Nat → Int) (w : World) (hb : bytes3 lm lo l = true)
    (hlm : lm ≤ 1048576) (hlo : lo ≤ 1048576) (hl : l ≤ 1048576) (d1 : decide ((65536 : Int) < (lm : Int)) = false) (d2 : decide ((32768 : Int) < (lo : Int)) = false) (d3 : decide ((65536 : Int) < (l : Int)) = false)
    (nm : am = none → lm = 0 ∧ cm = 0) (no : ao = none → lo = 0 ∧ co = 0) (n : a = none → l = 0 ∧ c = 0) (hfm : ReadsB w am lm fm) (hfo : Reads w ao lo fo) (hf : Reads w a l f) :
    Calls Try.prog 7 #[.slice am lm cm, .slice ao lo co, .int .i64 kk, .slice a l c] w fun e w' => e = .returned (.bool true) ∧ Below w.heap.size w w' := by
  have H1 : Hid (bytes3 lm lo l = true) := hb
  have HM : Hid (ReadsB w am lm fm) := hfm
  have HO : Hid (Reads w ao lo fo) := hfo
  have HF : Hid (Reads w a l f) := hf
  have NM : Hid (am = none → lm = 0 ∧ cm = 0) := nm
  have NO : Hid (ao = none → lo = 0 ∧ co = 0) := no
  have NF : Hid (a = none → l = 0 ∧ c = 0) := n
  clear hb hfm hfo hf nm no n
  go_enter Try.func7, Try.ntmps7
  go_wp2_with (first
    | (go_at_call 17; refine (bytes17 _ _ _ _ _ _ _ _ _ _ _).mono ?_; rintro e w' ⟨rfl, rfl⟩; rw [H1.out])
    | (go_at_call 18; refine (cloneBools_any am lm cm fm _ hlm NM.out HM.out).mono ?_; rintro e w1 ⟨m1, e1, rfl, h1, h2⟩; have HB1 : Hid (Below w.heap.size w w1) := h2; clear h1 h2)
    | (go_at_call 11; refine (cloneInts_any a l c f _ hl NF.out ((HF.out.kept HB1.out (Nat.le_refl _)).kept HB2.out (Nat.le_refl _))).mono ?_; rintro e w3 ⟨s1, e3, rfl, h1, h2⟩; have HB3 : Hid (Below w2.heap.size w2 w3) := h2; have HF3 : Hid (Reads w3 s1 l f) := h1; clear h1 h2)
    | (go_at_call 11; refine (cloneInts_any ao lo co fo _ hlo NO.out (HO.out.kept HB1.out (Nat.le_refl _))).mono ?_; rintro e w2 ⟨o1, e2, rfl, h1, h2⟩; have HB2 : Hid (Below w1.heap.size w1 w2) := h2; clear h1 h2)
    | (go_at_call 19; refine (zzMarks_any m1 o1 s1 lm e1 lo e2 l e3 kk f _ hlm hl HF3.out).mono ?_; rintro e w4 ⟨rfl, h1, h2, h3⟩; have HK4 : Hid (BR w4 (w3.heap.size + 1) lm (mkd f l)) := h1; have HB4 : Hid (Below w3.heap.size w3 w4) := h2; have HS4 : Hid (w4.heap.size = w3.heap.size + 2) := h3; clear h1 h2 h3)
    | (go_at_call 15; refine (zzSet_any 1 (lm : Int) 0 0 lm s1 l e3 f _ (Int.one_mul _) hlm hl (HF3.out.kept HB4.out (Nat.le_refl _))).mono ?_; rintro e w5 ⟨g1, e5, rfl, h1, h2, h3⟩; have HG5 : Hid (Reads w5 g1 (firsts lm f l).length (fun i => ((firsts lm f l).getD i 0 : Nat))) := h1; have HB5 : Hid (Below w4.heap.size w4 w5) := h3; clear h1 h2 h3))
  have HK5 : Hid (BR w5 (w3.heap.size + 1) lm (mkd f l)) := HK4.out.kept HB5.out (by rw [HS4.out]; omega)
  have HB : Hid (Below w.heap.size w w5) := HB1.out.trans ((HB2.out.mono HB1.out.size).trans ((HB3.out.mono (Nat.le_trans HB1.out.size HB2.out.size)).trans ((HB4.out.mono (Nat.le_trans HB1.out.size (Nat.le_trans HB2.out.size HB3.out.size))).trans (HB5.out.mono (Nat.le_trans HB1.out.size (Nat.le_trans HB2.out.size (Nat.le_trans HB3.out.size HB4.out.size)))))))
  obtain ⟨M, hM⟩ : ∃ M, M = (firsts lm f l).length := ⟨_, rfl⟩
  have HMM : Hid (M = (firsts lm f l).length) := hM
  have hMl : M ≤ l := by rw [hM]; exact Plain.firsts_len lm f l
  rw [← hM] at HG5 ⊢
  clear hM
  go_loopw [12] (fun i wr => ∃ k : Nat, k ≤ M ∧ i = .int .i64 k ∧ w5 = wr) (fun i _ => M - (intOf i).toNat)
  case atStart => exact ⟨0, Nat.zero_le _, rfl, by first | rfl | trivial⟩
  case round =>
    obtain ⟨k, hk, rfl, rfl⟩ := hrel
    by_cases hlt : k < M
    · obtain ⟨b, o, i1, g1, _⟩ := Reads.elem HG5.out (c := e5) (Below.refl _ _) (Nat.le_refl _) hlt (Nat.le_refl _)
      have hfe := firsts_elem (N := lm) (f := f) (l := l) (k := k) (by rw [← HMM.out]; exact hlt)
      obtain ⟨v, hv⟩ : ∃ v, v = (firsts lm f l).getD k 0 := ⟨_, rfl⟩
      rw [← hv] at g1 hfe
      obtain ⟨hvl, hvm⟩ := hfe
      have g2 : w5.cell? ⟨w3.heap.size + 1, v, none⟩ = some (.bool (mkd f l v)) := World.rowIs.cell HK5.out hvl
      rw [hvm] at g2
      have t1 : decide ((lm : Int) ≤ (v : Int)) = false := by rw [decide_eq_false_iff_not]; omega
      clear hv hvm
      go_wp2
      go_roundw
      case rel => exact ⟨k + 1, by omega, by go_num, by first | rfl | trivial⟩
      case measure => go_light; simp [intOf]; omega
    · go_wp2
      go_loopw [15, 14] (fun i v wr => ∃ k : Nat, k ≤ lm ∧ i = .int .i64 k ∧ v = .int .i64 (cnt (mkd f l) k : Nat) ∧ w5 = wr) (fun i _ _ => lm - (intOf i).toNat)
      case atStart => exact ⟨0, Nat.zero_le _, rfl, rfl, by first | rfl | trivial⟩
      case round =>
        obtain ⟨k2, hk2, rfl, rfl, rfl⟩ := hrel
        by_cases hlt2 : k2 < lm
        · obtain ⟨C, hC⟩ : ∃ C, C = cnt (mkd f l) k2 := ⟨_, rfl⟩
          have hCl : C ≤ k2 := by rw [hC]; exact Plain.cnt_le _ _
          have HC : Hid (C = cnt (mkd f l) k2) := hC
          rw [← hC]
          clear hC
          have g2 : w5.cell? ⟨w3.heap.size + 1, k2, none⟩ = some (.bool (mkd f l k2)) := World.rowIs.cell HK5.out hlt2
          cases hm : mkd f l k2
          · rw [hm] at g2
            have el : Hid (cnt (mkd f l) (k2 + 1) = C) := by unfold Hid; rw [HC.out]; simp [cnt, hm]
            clear hm
            go_wp2
            go_roundw
            case rel => exact ⟨k2 + 1, by omega, by go_num, by rw [el.out], by first | rfl | trivial⟩
            case measure => go_light; simp [intOf]; omega
          · rw [hm] at g2
            have el : Hid (cnt (mkd f l) (k2 + 1) = C + 1) := by unfold Hid; rw [HC.out]; simp [cnt, hm]
            clear hm
            go_wp2
            go_roundw
            case rel => exact ⟨k2 + 1, by omega, by go_num, by rw [el.out]; go_num, by first | rfl | trivial⟩
            case measure => go_light; simp [intOf]; omega
        · have eM : cnt (mkd f l) k2 = M := by rw [HMM.out, show k2 = lm by omega]; exact Plain.cnt_marks lm f l
          rw [eM]
          clear eM
          go_wp2
          go_ret
          exact ⟨by first | rfl | simp, HB⟩

end Go.Proofs.Qxb6601612a
