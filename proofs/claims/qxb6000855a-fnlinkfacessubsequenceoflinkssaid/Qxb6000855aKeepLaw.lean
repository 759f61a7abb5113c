/-
  The walk of FnLinkFacesKeepLinksWhereNoPlaceShared: where every bound is kept.
-/
import Derived.Test.Qxb6000855aLfEarly
namespace Go.Proofs.Qxb6000855a
open Go.RowKit
open Bfs (upd upd_same upd_other)
open Csr (darts outs off)

set_option maxHeartbeats 400000 in
theorem zzLinkFaces_any {w : World} {g p n T bN bF bA : Nat} {X Y F A : Nat → Nat} {nb : Nat → List Nat} (h : Gab w g p n T bN bF bA X Y F A (.slice none 0 0) (.slice none 0 0)) (hr : Csr.Rows n T nb F A) (hn : n ≤ 1048576) (hT : T ≤ 2097152) :
    Calls Try.prog 26 #[.pointer (some ⟨g, 0, none⟩)] w fun e w' => e = .returned (.tuple #[]) ∧ ∃ (bf : Nat) (a : Option Addr) (c : Nat),
      Gab w' g p n T bN bF bA X Y F A (.slice (some ⟨bf, 0, none⟩) (n + 1) (n + 1)) (.slice a (Faces.flat nb (samePl X Y) n).length c) ∧ IR w' bf (n + 1) (fun j => ((Faces.flat nb (samePl X Y) j).length : Nat)) ∧
      Reads w' a (Faces.flat nb (samePl X Y) n).length (fun i => (((Faces.flat nb (samePl X Y) n).getD i 0 : Nat) : Int)) ∧ Below g w w' := by
  have H : Hid (Gab w g p n T bN bF bA X Y F A (.slice none 0 0) (.slice none 0 0)) := h
  have HR : Hid (Csr.Rows n T nb F A) := hr
  clear h hr
  go_enter Try.func26, Try.ntmps26
  go_wp2_with fail
  refine (linkFaces_any H.out HR.out hn hT).mono ?_
  rintro e w1 ⟨rfl, bf, a, c, h1, h2, h3, h4⟩
  have H1 : Hid _ := h1
  have H2 : Hid _ := h2
  have H3 : Hid _ := h3
  have H4 : Hid _ := h4
  clear h1 h2 h3 h4
  go_wp2
  go_end0
  exact ⟨rfl, bf, a, c, H1, H2, H3, H4⟩

theorem sum_facts {lx ly lu lv : Nat} (k1 : lx ≤ 131072) (k2 : ly ≤ 131072) (k3 : lu ≤ 131072) (k4 : lv ≤ 131072) (k5 : 8 * (lx + ly + lu + lv) ≤ 1048576) :
    wrap64 ((lx : Int) + (ly : Int)) = (lx : Int) + (ly : Int) ∧ wrap64 ((lx : Int) + (ly : Int) + (lu : Int)) = (lx : Int) + (ly : Int) + (lu : Int) ∧
    wrap64 ((lx : Int) + (ly : Int) + (lu : Int) + (lv : Int)) = (lx : Int) + (ly : Int) + (lu : Int) + (lv : Int) ∧ wrap64 (8 * ((lx : Int) + (ly : Int) + (lu : Int) + (lv : Int))) = 8 * ((lx : Int) + (ly : Int) + (lu : Int) + (lv : Int)) ∧
    decide ((131072 : Int) < (lx : Int)) = false ∧ decide ((131072 : Int) < (ly : Int)) = false ∧ decide ((131072 : Int) < (lu : Int)) = false ∧ decide ((131072 : Int) < (lv : Int)) = false ∧
    decide ((1048576 : Int) < 8 * ((lx : Int) + (ly : Int) + (lu : Int) + (lv : Int))) = false :=
  ⟨wrap_small4 _ (by omega), wrap_small4 _ (by omega), wrap_small4 _ (by omega), wrap_small4 _ (by omega), decide_eq_false (by omega), decide_eq_false (by omega), decide_eq_false (by omega), decide_eq_false (by omega), decide_eq_false (by omega)⟩

/-- of the first k links none joins two nodes at one place -/
def Apart (X Y : Nat → Nat) (f g : Nat → Nat) (k : Nat) : Prop := ∀ e, e < k → f e ≠ g e → samePl X Y (f e) (g e) = false

theorem apart_nb {X Y f g : Nat → Nat} {m : Nat} (h : Apart X Y f g m) : ∀ i j, j ∈ outs (darts f g m) i → samePl X Y i j = false := by
  intro i j hj
  obtain ⟨e, he, hne, h3⟩ := (Csr.mem_darts f g i j m).1 (Csr.mem_outs.1 hj)
  have := h e he hne
  rcases h3 with ⟨rfl, rfl⟩ | ⟨rfl, rfl⟩
  · exact this
  · unfold samePl at *; rw [feq_symm, feq_symm (Y (g e))]; exact this
theorem apart_step {X Y f g : Nat → Nat} {k : Nat} (h : Apart X Y f g k) (hk : f k ≠ g k → samePl X Y (f k) (g k) = false) : Apart X Y f g (k + 1) := by
  intro e he hne
  by_cases e' : e = k
  · subst e'; exact hk hne
  · exact h e (by omega) hne

set_option maxRecDepth 100000 in
set_option maxHeartbeats 4000000 in
theorem keepLaw_main (a a' b b' : Option Addr) (lx c ly c' lu d lv d' : Nat) (X Y : Nat → Nat) (f g : Nat → Int) (w : World) (hX : ReadsF w a lx X) (hY : ReadsF w a' ly Y) (hf : Reads w b lu f) (hg : Reads w b' lv g)
    (na : a = none → lx = 0 ∧ c = 0) (na' : a' = none → ly = 0 ∧ c' = 0) (nb : b = none → lu = 0 ∧ d = 0) (nb' : b' = none → lv = 0 ∧ d' = 0)
    (hb : bytes4 lx ly lu lv = true) (k1 : lx ≤ 131072) (k2 : ly ≤ 131072) (k3 : lu ≤ 131072) (k4 : lv ≤ 131072) (k5 : 8 * (lx + ly + lu + lv) ≤ 1048576) (hall : allIn (min lx ly : Nat) f g (min lu lv) = true) :
    Calls Try.prog 9 #[.slice a lx c, .slice a' ly c', .slice b lu d, .slice b' lv d'] w fun e w' => e = .returned (.bool true) ∧ Below w.heap.size w w' := by
  have H : Hid (bytes4 lx ly lu lv = true) := hb
  obtain ⟨n, hn⟩ : ∃ n, n = min lx ly := ⟨_, rfl⟩
  obtain ⟨m, hm⟩ : ∃ m, m = min lu lv := ⟨_, rfl⟩
  rw [← hn, ← hm] at hall
  have H2 : Hid (allIn (n : Nat) f g m = true) := hall
  have hA := allIn_true hall
  have HX : Hid (ReadsF w a lx X) := hX
  have HY : Hid (ReadsF w a' ly Y) := hY
  have HF : Hid (Reads w b lu f) := hf
  have HG : Hid (Reads w b' lv g) := hg
  have HS : Hid _ := sum_facts k1 k2 k3 k4 k5
  obtain ⟨f', hf'⟩ : ∃ f' : Nat → Nat, f' = fun e => (f e).toNat := ⟨_, rfl⟩
  obtain ⟨g', hg'⟩ : ∃ g' : Nat → Nat, g' = fun e => (g e).toNat := ⟨_, rfl⟩
  have HE : Hid (∀ e, e < m → f e = (f' e : Nat) ∧ g e = (g' e : Nat)) := fun e he => by
    have := hA e he
    rw [hf', hg']; show f e = (((f e).toNat : Nat) : Int) ∧ g e = (((g e).toNat : Nat) : Int); omega
  have HR : Hid (∀ e, e < m → f' e < n ∧ g' e < n) := fun e he => by
    have := hA e he
    rw [hf', hg']; show (f e).toNat < n ∧ (g e).toNat < n; omega
  have HN : Hid (n = min lx ly) := hn
  have HM : Hid (m = min lu lv) := hm
  have HB : Hid (lx ≤ 1048576 ∧ ly ≤ 1048576 ∧ lu ≤ 1048576 ∧ lv ≤ 1048576 ∧ n ≤ 1048576 ∧ m ≤ 1048576 ∧ n ≤ lx ∧ n ≤ ly ∧ m ≤ lu ∧ m ≤ lv) := by unfold Hid; omega
  have Na : Hid (a = none → lx = 0 ∧ c = 0) := na
  have Na' : Hid (a' = none → ly = 0 ∧ c' = 0) := na'
  have Nb : Hid (b = none → lu = 0 ∧ d = 0) := nb
  have Nb' : Hid (b' = none → lv = 0 ∧ d' = 0) := nb'
  clear hb hall hX hY hf hg k1 k2 k3 k4 k5 hA na na' nb nb' hf' hg' hn hm
  obtain ⟨e1, e2, e3, e4, b1, b2, b3, b4, b5⟩ := HS.out
  clear HS
  go_enter Try.func9, Try.ntmps9
  go_wp2_with (first | (go_at_call 22; refine (zzBytes_keep _ _ _ _ _ _ _ _ _ _ _ _ _).mono ?_; rintro e w' ⟨rfl, rfl⟩; rw [H.out]) | (go_at_call 23; refine (nodeCount_any _ _ _ _ _ _ _).mono ?_; rintro e w' ⟨rfl, rfl⟩; rw [← HN.out]) | (go_at_call 13; refine (edgesInRange_any _ _ _ _ _ _ _ f g _ HB.out.2.2.1 HF HG).mono ?_; rintro e w' ⟨rfl, rfl⟩; rw [← HM.out, H2.out]) | (go_at_call 18; refine (pairCount_any _ _ _ _ _ _ _).mono ?_; rintro e w' ⟨rfl, rfl⟩; rw [← HM.out]))
  clear e1 e2 e3 e4 b1 b2 b3 b4 b5 H H2
  obtain ⟨hlx, hly, hlu, hlv, hn, hm, hnx, hny, hmu, hmv⟩ := HB.out
  go_loopw [11] (fun i wr => ∃ k nq : Nat, k ≤ m ∧ i = .int .i64 k ∧ Apart X Y f' g' k ∧ wr = w.drewN nq) (fun i _ => m - (intOf i).toNat)
  case atStart => exact ⟨0, 0, Nat.zero_le _, rfl, fun e he => by omega, rfl⟩
  case round =>
    obtain ⟨k, nq, hk, rfl, hAp, rfl⟩ := hrel
    have HAp : Hid (Apart X Y f' g' k) := hAp
    clear hAp
    by_cases hlt : k < m
    · have hB0 : Below w.heap.size w w := Below.refl _ _
      obtain ⟨o1, q1, i1, g1, _⟩ := HF.out.elem (c := d) hB0 (Nat.le_refl _) (show k < lu by omega) (Nat.le_refl _)
      obtain ⟨o2, q2, i2, g2, _⟩ := HG.out.elem (c := d') hB0 (Nat.le_refl _) (show k < lv by omega) (Nat.le_refl _)
      rw [(HE.out k hlt).1] at g1
      rw [(HE.out k hlt).2] at g2
      have hxy := HR.out k hlt
      obtain ⟨o3, q3, i3, g3, _⟩ := HX.out.elem (c := c) hB0 (Nat.le_refl _) (show f' k < lx by omega) (Nat.le_refl _)
      obtain ⟨o4, q4, i4, g4, _⟩ := HX.out.elem (c := c) hB0 (Nat.le_refl _) (show g' k < lx by omega) (Nat.le_refl _)
      obtain ⟨o5, q5, i5, g5, _⟩ := HY.out.elem (c := c') hB0 (Nat.le_refl _) (show f' k < ly by omega) (Nat.le_refl _)
      obtain ⟨o6, q6, i6, g6, _⟩ := HY.out.elem (c := c') hB0 (Nat.le_refl _) (show g' k < ly by omega) (Nat.le_refl _)
      clear hB0
      by_cases e : f' k = g' k
      · have HA2 : Hid (Apart X Y f' g' (k + 1)) := apart_step HAp.out (fun h => absurd e h)
        rw [← e] at g2
        clear e hxy i3 i4 i5 i6 g3 g4 g5 g6
        go_wp2
        go_quiet (fail)
        go_wp2
        go_roundw
        case rel => exact ⟨k + 1, _, by omega, by go_num, HA2, rfl⟩
        case measure => go_light; simp [intOf]; omega
      · have hne : ((f' k : Int) != (g' k : Int)) = true := by rw [bne_iff_ne]; omega
        cases fX : feq (X (f' k)) (X (g' k))
        · have HA2 : Hid (Apart X Y f' g' (k + 1)) := apart_step HAp.out (fun _ => by unfold samePl; rw [fX]; rfl)
          have fX' : (FloatKind.f64.format.order (X (f' k)) (X (g' k)) == some .eq) = false := fX
          clear fX e
          generalize X (f' k) = xu at *
          generalize X (g' k) = xv at *
          generalize Y (f' k) = yu at *
          generalize Y (g' k) = yv at *
          generalize f' k = u at *
          generalize g' k = v at *
          go_wp2
          go_quiet (fail)
          go_wp2
          go_roundw
          case rel => exact ⟨k + 1, _, by omega, by go_num, HA2, rfl⟩
          case measure => go_light; simp [intOf]; omega
        · have fX' : (FloatKind.f64.format.order (X (f' k)) (X (g' k)) == some .eq) = true := fX
          cases fY : feq (Y (f' k)) (Y (g' k))
          · have HA2 : Hid (Apart X Y f' g' (k + 1)) := apart_step HAp.out (fun _ => by unfold samePl; rw [fX, fY]; rfl)
            have fY' : (FloatKind.f64.format.order (Y (f' k)) (Y (g' k)) == some .eq) = false := fY
            clear fX fY e
            generalize X (f' k) = xu at *
            generalize X (g' k) = xv at *
            generalize Y (f' k) = yu at *
            generalize Y (g' k) = yv at *
            generalize f' k = u at *
            generalize g' k = v at *
            go_wp2
            go_quiet (fail)
            go_wp2
            go_roundw
            case rel => exact ⟨k + 1, _, by omega, by go_num, HA2, rfl⟩
            case measure => go_light; simp [intOf]; omega
          · have fY' : (FloatKind.f64.format.order (Y (f' k)) (Y (g' k)) == some .eq) = true := fY
            clear fX fY e
            generalize X (f' k) = xu at *
            generalize X (g' k) = xv at *
            generalize Y (f' k) = yu at *
            generalize Y (g' k) = yv at *
            generalize f' k = u at *
            generalize g' k = v at *
            go_wp2
            go_quiet (fail)
            go_wp2
            go_ret
            exact ⟨rfl, below_drewN (below_drewN (Below.refl _ _) _) _⟩
    · have HAm : Hid (Apart X Y f' g' m) := by rw [show m = k by omega]; exact HAp
      clear HAp
      go_wp2_with fail
      have B0 : Hid (Below w.heap.size w (w.drewN nq)) := below_drewN (Below.refl _ _) nq
      refine (cloneFloats_any a lx c X _ hlx Na.out (HX.out.kept B0.out (Nat.le_refl _))).mono ?_
      rintro e w1 ⟨a1, c1, rfl, r1, bel1⟩
      have R1 : Hid (ReadsF w1 a1 lx X) := r1
      have B1 : Hid (Below w.heap.size w w1) := B0.out.trans (bel1.mono B0.out.size)
      clear r1 bel1 B0
      go_wp2_with fail
      refine (cloneFloats_any a' ly c' Y _ hly Na'.out (HY.out.kept B1.out (Nat.le_refl _))).mono ?_
      rintro e w2 ⟨a2, c2, rfl, r2, bel2⟩
      have R1' : Hid (ReadsF w2 a1 lx X) := R1.out.kept bel2 (Nat.le_refl _)
      have R2 : Hid (ReadsF w2 a2 ly Y) := r2
      have B2 : Hid (Below w.heap.size w w2) := B1.out.trans (bel2.mono B1.out.size)
      clear r2 bel2 R1 B1
      go_wp2_with fail
      refine (cloneInts_any b lu d f _ hlu Nb.out (HF.out.kept B2.out (Nat.le_refl _))).mono ?_
      rintro e w3 ⟨a3, c3, rfl, r3, bel3⟩
      have Q1 : Hid (ReadsF w3 a1 lx X) := R1'.out.kept bel3 (Nat.le_refl _)
      have Q2 : Hid (ReadsF w3 a2 ly Y) := R2.out.kept bel3 (Nat.le_refl _)
      have Q3 : Hid (Reads w3 a3 lu f) := r3
      have B3 : Hid (Below w.heap.size w w3) := B2.out.trans (bel3.mono B2.out.size)
      clear r3 bel3 R1' R2 B2
      go_wp2_with fail
      refine (cloneInts_any b' lv d' g _ hlv Nb'.out (HG.out.kept B3.out (Nat.le_refl _))).mono ?_
      rintro e w4 ⟨a4, c4, rfl, r4, bel4⟩
      have S1 : Hid (ReadsF w4 a1 n X) := (Q1.out.kept bel4 (Nat.le_refl _)).less hnx
      have S2 : Hid (ReadsF w4 a2 n Y) := (Q2.out.kept bel4 (Nat.le_refl _)).less hny
      have S3 : Hid (Reads w4 a3 m (fun e => (f' e : Nat))) := (Q3.out.kept bel4 (Nat.le_refl _)).congr hmu (fun i hi => (HE.out i hi).1)
      have S4 : Hid (Reads w4 a4 m (fun e => (g' e : Nat))) := r4.congr hmv (fun i hi => (HE.out i hi).2)
      have B4 : Hid (Below w.heap.size w w4) := B3.out.trans (bel4.mono B3.out.size)
      clear r4 bel4 Q1 Q2 Q3 B3 HX HY HF HG Na Na' Nb Nb'
      go_wp2_with fail
      refine (builtGabriel_any a1 a2 a3 a4 lx c1 ly c2 lu c3 lv c4 n m X Y f' g' _ hn hlu HN.out HM.out S1.out S2.out S3.out S4.out HR.out).mono ?_
      rintro e w5 ⟨A, T, q, p, bN, bF, bA, rfl, hgab, hrows, hT, bel5, hwq, hsz5⟩
      have hT' : T ≤ 2097152 := by omega
      have G5 : Hid (Gab w5 q p n T bN bF bA X Y (off (darts f' g' m)) A (.slice none 0 0) (.slice none 0 0)) := hgab
      have C5 : Hid (Csr.Rows n T (outs (darts f' g' m)) (off (darts f' g' m)) A) := hrows
      have hq4 : w4.heap.size ≤ q := hwq
      have B5 : Hid (Below w.heap.size w w5) := B4.out.trans (bel5.mono B4.out.size)
      have hqw : w.heap.size ≤ q := Nat.le_trans B4.out.size hwq
      clear hgab hrows bel5 hwq hsz5 S1 S2 S3 S4 B4
      go_wp2_with fail
      refine (zzLinkFaces_any G5.out C5.out hn hT').mono ?_
      rintro e w6 ⟨rfl, bf, af, cf, hg6, hi6, hr6, bel6⟩
      have G6 : Hid (Gab w6 q p n T bN bF bA X Y (off (darts f' g' m)) A (.slice (some ⟨bf, 0, none⟩) (n + 1) (n + 1)) (.slice af (Faces.flat (outs (darts f' g' m)) (samePl X Y) n).length cf)) := hg6
      have I6 : Hid (IR w6 bf (n + 1) (fun j => ((Faces.flat (outs (darts f' g' m)) (samePl X Y) j).length : Nat))) := hi6
      have R6 : Hid (Reads w6 af (Faces.flat (outs (darts f' g' m)) (samePl X Y) n).length (fun i => (((Faces.flat (outs (darts f' g' m)) (samePl X Y) n).getD i 0 : Nat) : Int))) := hr6
      have B6 : Hid (Below w.heap.size w w6) := B5.out.trans (bel6.mono hqw)
      clear hg6 hi6 hr6 bel6 G5 B5
      have hself := Faces.flat_self C5.out (fun i _ j hj => apart_nb HAm.out i j hj)
      have hfn := (hself n (Nat.le_refl _)).1
      rw [C5.out.last] at hfn
      have I7 : Hid (IR w6 bf (n + 1) (fun j => (off (darts f' g' m) j : Nat))) := I6.out.congr (fun j hj => by rw [(hself j (by omega)).1])
      have R7 : Hid (Reads w6 af T (fun i => (A i : Nat))) := by
        have := R6.out
        rw [hfn] at this
        exact this.congr (Nat.le_refl _) (fun i hi => by rw [(hself n (Nat.le_refl _)).2 i (by rw [C5.out.last]; exact hi)])
      rw [hfn] at G6
      clear hself hfn I6 R6 C5
      go_wp2_with fail
      refine (faces_any q _ _ _ _ _ _ _ G6.out.c3 G6.out.c4).mono ?_
      rintro e w7 ⟨rfl, nq2, rfl⟩
      go_wp2
      go_loopw [19] (fun i wr => ∃ k nq : Nat, k ≤ n + 1 ∧ i = .int .i64 k ∧ wr = w6.drewN nq) (fun i _ => (n + 1) - (intOf i).toNat)
      case atStart => exact ⟨0, nq2, Nat.zero_le _, rfl, rfl⟩
      case round =>
        obtain ⟨k7, nq7, hk7, rfl, rfl⟩ := hrel
        by_cases hlt7 : k7 < n + 1
        · have t1 : w6.cell? ⟨bf, k7, none⟩ = some (.int .i64 (off (darts f' g' m) k7 : Nat)) := World.rowIs.cell I7.out hlt7
          have t2 : w6.cell? ⟨bF, k7, none⟩ = some (.int .i64 (off (darts f' g' m) k7 : Nat)) := World.rowIs.cell G6.out.net.firsts hlt7
          generalize off (darts f' g' m) k7 = x at t1 t2
          have hk8 : (k7 : Int) < ((n + 1 : Nat) : Int) := by omega
          have hk9 : (k7 : Int) < (n : Int) + 1 := by omega
          go_wp2
          go_quiet (fail)
          go_wp2
          go_roundw
          case rel => exact ⟨k7 + 1, _, by omega, by go_num, rfl⟩
          case measure => go_light; simp [intOf]; omega
        · go_wp2
          go_loopw [20] (fun i wr => ∃ k nq : Nat, k ≤ T ∧ i = .int .i64 k ∧ wr = w6.drewN nq) (fun i _ => T - (intOf i).toNat)
          case atStart => exact ⟨0, nq7, Nat.zero_le _, rfl, rfl⟩
          case round =>
            obtain ⟨k8, nq8, hk8, rfl, rfl⟩ := hrel
            by_cases hlt8 : k8 < T
            · obtain ⟨o1, q1, i1, g1, _⟩ := R7.out.elem (c := cf) (Below.refl w6.heap.size w6) (Nat.le_refl _) hlt8 (Nat.le_refl _)
              have t2 : w6.cell? ⟨bA, k8, none⟩ = some (.int .i64 (A k8 : Nat)) := World.rowIs.cell G6.out.net.adjs hlt8
              generalize A k8 = x at g1 t2
              have hk9 : (k8 : Int) < (T : Int) := by omega
              go_wp2
              go_quiet (fail)
              go_wp2
              go_roundw
              case rel => exact ⟨k8 + 1, _, by omega, by go_num, rfl⟩
              case measure => go_light; simp [intOf]; omega
            · go_wp2
              go_ret
              exact ⟨rfl, below_drewN B6.out _⟩

end Go.Proofs.Qxb6000855a
