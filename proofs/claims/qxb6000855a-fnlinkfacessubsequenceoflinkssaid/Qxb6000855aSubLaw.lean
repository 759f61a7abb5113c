/-
  The walk of FnLinkFacesSubsequenceOfLinks: where every bound is kept.
-/
import Derived.Test.Qxb6000855aKeepLaw
namespace Go.Proofs.Qxb6000855a
open Go.RowKit
open Bfs (upd upd_same upd_other)
open Csr (darts outs off)

/-! ### lists -/
theorem drop_at {L : List Nat} {s : Nat} (h : s < L.length) : L.drop s = L.getD s 0 :: L.drop (s + 1) := by
  rw [List.drop_eq_getElem_cons h, List.getD, List.getElem?_eq_getElem h]; rfl
theorem sub_ne {x y : Nat} {r L : List Nat} (h : (x :: r).Sublist (y :: L)) (hne : y ≠ x) : (x :: r).Sublist L := by
  cases h with
  | cons _ h => exact h
  | cons_cons => exact absurd rfl hne
theorem sub_eq {x : Nat} {r L : List Nat} (h : (x :: r).Sublist (x :: L)) : r.Sublist L := List.cons_sublist_cons.1 h
theorem flat_split {nb : Nat → List Nat} {same : Nat → Nat → Bool} (i : Nat) : ∀ d, ∃ R, Faces.flat nb same (i + 1 + d) = Faces.flat nb same i ++ (Faces.face nb same i ++ R)
  | 0 => ⟨[], by rw [List.append_nil]; rfl⟩
  | d + 1 => by
    obtain ⟨R, h⟩ := flat_split (nb := nb) (same := same) i d
    refine ⟨R ++ Faces.face nb same (i + 1 + d), ?_⟩
    show Faces.flat nb same (i + 1 + d) ++ Faces.face nb same (i + 1 + d) = _
    rw [h]; simp
theorem flat_at {nb : Nat → List Nat} {same : Nat → Nat → Bool} {i n t : Nat} (hi : i < n) (ht : t < (Faces.face nb same i).length) :
    (Faces.flat nb same n).getD ((Faces.flat nb same i).length + t) 0 = (Faces.face nb same i).getD t 0 ∧ (Faces.flat nb same i).length + t < (Faces.flat nb same n).length := by
  obtain ⟨R, h⟩ := flat_split (nb := nb) (same := same) i (n - (i + 1))
  rw [show i + 1 + (n - (i + 1)) = n by omega] at h
  rw [h]
  refine ⟨?_, by rw [List.length_append, List.length_append]; omega⟩
  simp only [List.getD]
  rw [List.getElem?_append_right (by omega), show (Faces.flat nb same i).length + t - (Faces.flat nb same i).length = t by omega, List.getElem?_append_left ht]

set_option maxRecDepth 100000 in
set_option maxHeartbeats 4000000 in
theorem subLaw_main (a a' b b' : Option Addr) (lx c ly c' lu d lv d' : Nat) (X Y : Nat → Nat) (f g : Nat → Int) (w : World) (hX : ReadsF w a lx X) (hY : ReadsF w a' ly Y) (hf : Reads w b lu f) (hg : Reads w b' lv g)
    (na : a = none → lx = 0 ∧ c = 0) (na' : a' = none → ly = 0 ∧ c' = 0) (nb : b = none → lu = 0 ∧ d = 0) (nb' : b' = none → lv = 0 ∧ d' = 0)
    (hb : bytes4 lx ly lu lv = true) (k1 : lx ≤ 131072) (k2 : ly ≤ 131072) (k3 : lu ≤ 131072) (k4 : lv ≤ 131072) (k5 : 8 * (lx + ly + lu + lv) ≤ 1048576) (hall : allIn (min lx ly : Nat) f g (min lu lv) = true) :
    Calls Try.prog 10 #[.slice a lx c, .slice a' ly c', .slice b lu d, .slice b' lv d'] w fun e w' => e = .returned (.bool true) ∧ Below w.heap.size w w' := by
  have H : Hid (bytes4 lx ly lu lv = true) := hb
  obtain ⟨n, hn⟩ : ∃ n, n = min lx ly := ⟨_, rfl⟩
  obtain ⟨m, hm⟩ : ∃ m, m = min lu lv := ⟨_, rfl⟩
  rw [← hn, ← hm] at hall
  have H2 : Hid (allIn (n : Nat) f g m = true) := hall
  have hA := allIn_true hall
  have HX : Hid (ReadsF w a lx X) := hX
  have HY : Hid (ReadsF w a' ly Y) := hY
  have HF : Hid (Reads w b lu f) := hf
  have HG : Hid (Reads w b' lv g) := hg
  have HS : Hid _ := sum_facts k1 k2 k3 k4 k5
  obtain ⟨f', hf'⟩ : ∃ f' : Nat → Nat, f' = fun e => (f e).toNat := ⟨_, rfl⟩
  obtain ⟨g', hg'⟩ : ∃ g' : Nat → Nat, g' = fun e => (g e).toNat := ⟨_, rfl⟩
  have HE : Hid (∀ e, e < m → f e = (f' e : Nat) ∧ g e = (g' e : Nat)) := fun e he => by
    have := hA e he
    rw [hf', hg']; show f e = (((f e).toNat : Nat) : Int) ∧ g e = (((g e).toNat : Nat) : Int); omega
  have HR : Hid (∀ e, e < m → f' e < n ∧ g' e < n) := fun e he => by
    have := hA e he
    rw [hf', hg']; show (f e).toNat < n ∧ (g e).toNat < n; omega
  have HN : Hid (n = min lx ly) := hn
  have HM : Hid (m = min lu lv) := hm
  have HB : Hid (lx ≤ 1048576 ∧ ly ≤ 1048576 ∧ lu ≤ 1048576 ∧ lv ≤ 1048576 ∧ n ≤ 1048576 ∧ m ≤ 1048576 ∧ n ≤ lx ∧ n ≤ ly ∧ m ≤ lu ∧ m ≤ lv) := by unfold Hid; omega
  have Na : Hid (a = none → lx = 0 ∧ c = 0) := na
  have Na' : Hid (a' = none → ly = 0 ∧ c' = 0) := na'
  have Nb : Hid (b = none → lu = 0 ∧ d = 0) := nb
  have Nb' : Hid (b' = none → lv = 0 ∧ d' = 0) := nb'
  clear hb hall hX hY hf hg k1 k2 k3 k4 k5 hA na na' nb nb' hf' hg' hn hm
  obtain ⟨e1, e2, e3, e4, b1, b2, b3, b4, b5⟩ := HS.out
  clear HS
  go_enter Try.func10, Try.ntmps10
  go_wp2_with (first | (go_at_call 28; refine (zzBytes_sub _ _ _ _ _ _ _ _ _ _ _ _ _).mono ?_; rintro e w' ⟨rfl, rfl⟩; rw [H.out]) | (go_at_call 23; refine (nodeCount_any _ _ _ _ _ _ _).mono ?_; rintro e w' ⟨rfl, rfl⟩; rw [← HN.out]) | (go_at_call 13; refine (edgesInRange_any _ _ _ _ _ _ _ f g _ HB.out.2.2.1 HF HG).mono ?_; rintro e w' ⟨rfl, rfl⟩; rw [← HM.out, H2.out]))
  clear e1 e2 e3 e4 b1 b2 b3 b4 b5 H H2
  obtain ⟨hlx, hly, hlu, hlv, hn, hm, hnx, hny, hmu, hmv⟩ := HB.out
  have B0 : Hid (Below w.heap.size w w) := Below.refl _ _
  refine (cloneFloats_any a lx c X _ hlx Na.out (HX.out.kept B0.out (Nat.le_refl _))).mono ?_
  rintro e w1 ⟨a1, c1, rfl, r1, bel1⟩
  have R1 : Hid (ReadsF w1 a1 lx X) := r1
  have B1 : Hid (Below w.heap.size w w1) := B0.out.trans (bel1.mono B0.out.size)
  clear r1 bel1 B0
  go_wp2_with fail
  refine (cloneFloats_any a' ly c' Y _ hly Na'.out (HY.out.kept B1.out (Nat.le_refl _))).mono ?_
  rintro e w2 ⟨a2, c2, rfl, r2, bel2⟩
  have R1' : Hid (ReadsF w2 a1 lx X) := R1.out.kept bel2 (Nat.le_refl _)
  have R2 : Hid (ReadsF w2 a2 ly Y) := r2
  have B2 : Hid (Below w.heap.size w w2) := B1.out.trans (bel2.mono B1.out.size)
  clear r2 bel2 R1 B1
  go_wp2_with fail
  refine (cloneInts_any b lu d f _ hlu Nb.out (HF.out.kept B2.out (Nat.le_refl _))).mono ?_
  rintro e w3 ⟨a3, c3, rfl, r3, bel3⟩
  have Q1 : Hid (ReadsF w3 a1 lx X) := R1'.out.kept bel3 (Nat.le_refl _)
  have Q2 : Hid (ReadsF w3 a2 ly Y) := R2.out.kept bel3 (Nat.le_refl _)
  have Q3 : Hid (Reads w3 a3 lu f) := r3
  have B3 : Hid (Below w.heap.size w w3) := B2.out.trans (bel3.mono B2.out.size)
  clear r3 bel3 R1' R2 B2
  go_wp2_with fail
  refine (cloneInts_any b' lv d' g _ hlv Nb'.out (HG.out.kept B3.out (Nat.le_refl _))).mono ?_
  rintro e w4 ⟨a4, c4, rfl, r4, bel4⟩
  have S1 : Hid (ReadsF w4 a1 n X) := (Q1.out.kept bel4 (Nat.le_refl _)).less hnx
  have S2 : Hid (ReadsF w4 a2 n Y) := (Q2.out.kept bel4 (Nat.le_refl _)).less hny
  have S3 : Hid (Reads w4 a3 m (fun e => (f' e : Nat))) := (Q3.out.kept bel4 (Nat.le_refl _)).congr hmu (fun i hi => (HE.out i hi).1)
  have S4 : Hid (Reads w4 a4 m (fun e => (g' e : Nat))) := r4.congr hmv (fun i hi => (HE.out i hi).2)
  have B4 : Hid (Below w.heap.size w w4) := B3.out.trans (bel4.mono B3.out.size)
  clear r4 bel4 Q1 Q2 Q3 B3 HX HY HF HG Na Na' Nb Nb'
  go_wp2_with fail
  refine (builtGabriel_any a1 a2 a3 a4 lx c1 ly c2 lu c3 lv c4 n m X Y f' g' _ hn hlu HN.out HM.out S1.out S2.out S3.out S4.out HR.out).mono ?_
  rintro e w5 ⟨A, T, q, p, bN, bF, bA, rfl, hgab, hrows, hT, bel5, hwq, hsz5⟩
  have hT' : T ≤ 2097152 := by omega
  have G5 : Hid (Gab w5 q p n T bN bF bA X Y (off (darts f' g' m)) A (.slice none 0 0) (.slice none 0 0)) := hgab
  have C5 : Hid (Csr.Rows n T (outs (darts f' g' m)) (off (darts f' g' m)) A) := hrows
  have hq4 : w4.heap.size ≤ q := hwq
  have B5 : Hid (Below w.heap.size w w5) := B4.out.trans (bel5.mono B4.out.size)
  have hqw : w.heap.size ≤ q := Nat.le_trans B4.out.size hwq
  clear hgab hrows bel5 hwq hsz5 S1 S2 S3 S4 B4
  go_wp2_with fail
  refine (zzLinkFaces_any G5.out C5.out hn hT').mono ?_
  rintro e w6 ⟨rfl, bf, af, cf, hg6, hi6, hr6, bel6⟩
  have G6 : Hid (Gab w6 q p n T bN bF bA X Y (off (darts f' g' m)) A (.slice (some ⟨bf, 0, none⟩) (n + 1) (n + 1)) (.slice af (Faces.flat (outs (darts f' g' m)) (samePl X Y) n).length cf)) := hg6
  have I6 : Hid (IR w6 bf (n + 1) (fun j => ((Faces.flat (outs (darts f' g' m)) (samePl X Y) j).length : Nat))) := hi6
  have R6 : Hid (Reads w6 af (Faces.flat (outs (darts f' g' m)) (samePl X Y) n).length (fun i => (((Faces.flat (outs (darts f' g' m)) (samePl X Y) n).getD i 0 : Nat) : Int))) := hr6
  have B6 : Hid (Below w.heap.size w w6) := B5.out.trans (bel6.mono hqw)
  clear hg6 hi6 hr6 bel6 G5 B5
  go_wp2_with fail
  refine (faces_any q _ _ _ _ _ _ _ G6.out.c3 G6.out.c4).mono ?_
  rintro e w7 ⟨rfl, nq2, rfl⟩
  generalize outs (darts f' g' m) = nb at *
  generalize off (darts f' g' m) = F at *
  clear HE HR HN HM
  obtain ⟨N, hN⟩ : ∃ N, N = (Faces.flat nb (samePl X Y) n).length := ⟨_, rfl⟩
  have HNN : Hid (N = (Faces.flat nb (samePl X Y) n).length) := hN
  rw [← hN]
  have t0 : w6.cell? ⟨bf, 0, none⟩ = some (.int .i64 0) := World.rowIs.cell I6.out (show 0 < n + 1 by omega)
  have tn : w6.cell? ⟨bf, n, none⟩ = some (.int .i64 (N : Nat)) := by rw [hN]; exact World.rowIs.cell I6.out (show n < n + 1 by omega)
  clear hN
  go_wp2
  go_loopw [15] (fun i wr => ∃ k nq : Nat, k ≤ n ∧ i = .int .i64 k ∧ wr = w6.drewN nq) (fun i _ => n - (intOf i).toNat)
  case atStart => exact ⟨0, nq2, Nat.zero_le _, rfl, rfl⟩
  case round =>
    clear t0 tn
    obtain ⟨k, nq, hk, rfl, rfl⟩ := hrel
    by_cases hlt : k < n
    · have t1 : w6.cell? ⟨bf, k, none⟩ = some (.int .i64 ((Faces.flat nb (samePl X Y) k).length : Nat)) := World.rowIs.cell I6.out (show k < n + 1 by omega)
      have t2 : w6.cell? ⟨bf, k + 1, none⟩ = some (.int .i64 ((Faces.flat nb (samePl X Y) (k + 1)).length : Nat)) := World.rowIs.cell I6.out (show k + 1 < n + 1 by omega)
      have hle : (Faces.flat nb (samePl X Y) k).length ≤ (Faces.flat nb (samePl X Y) (k + 1)).length := by
        show _ ≤ (Faces.flat nb (samePl X Y) k ++ Faces.face nb (samePl X Y) k).length
        rw [List.length_append]; omega
      generalize (Faces.flat nb (samePl X Y) k).length = x1 at t1 hle
      generalize (Faces.flat nb (samePl X Y) (k + 1)).length = x2 at t2 hle
      have hk8 : (k : Int) < ((n + 1 : Nat) : Int) := by omega
      have hk9 : (k : Int) < (n : Int) + 1 := by omega
      have hk7 : (k : Int) + 1 < (n : Int) + 1 := by omega
      have hng : decide ((x2 : Int) < (x1 : Int)) = false := decide_eq_false (by omega)
      go_wp2
      go_quiet (fail)
      go_wp2
      go_roundw
      case rel => exact ⟨k + 1, _, by omega, by go_num, rfl⟩
      case measure => go_light; simp [intOf]; omega
    · go_wp2
      clear hlt hk
      go_loopw [16] (fun i wr => ∃ k nq : Nat, k ≤ n ∧ i = .int .i64 k ∧ wr = w6.drewN nq) (fun i _ => n - (intOf i).toNat)
      case atStart => exact ⟨0, nq, Nat.zero_le _, rfl, rfl⟩
      case round =>
        obtain ⟨i, nqi, hi, rfl, rfl⟩ := hrel
        by_cases hlt : i < n
        · obtain ⟨fi, hfi⟩ : ∃ x, x = (Faces.flat nb (samePl X Y) i).length := ⟨_, rfl⟩
          obtain ⟨fl, hfl⟩ : ∃ x, x = (Faces.face nb (samePl X Y) i).length := ⟨_, rfl⟩
          obtain ⟨Fi, hFi⟩ : ∃ x, x = F i := ⟨_, rfl⟩
          obtain ⟨d, hd⟩ : ∃ x, x = (nb i).length := ⟨_, rfl⟩
          have t1 : w6.cell? ⟨bf, i, none⟩ = some (.int .i64 (fi : Nat)) := by rw [hfi]; exact World.rowIs.cell I6.out (show i < n + 1 by omega)
          have t2 : w6.cell? ⟨bf, i + 1, none⟩ = some (.int .i64 ((fi + fl : Nat) : Int)) := by
            rw [hfi, hfl, ← List.length_append]; exact World.rowIs.cell I6.out (show i + 1 < n + 1 by omega)
          have t3 : w6.cell? ⟨bF, i, none⟩ = some (.int .i64 (Fi : Nat)) := by rw [hFi]; exact World.rowIs.cell G6.out.net.firsts (show i < n + 1 by omega)
          have t4 : w6.cell? ⟨bF, i + 1, none⟩ = some (.int .i64 ((Fi + d : Nat) : Int)) := by
            rw [hFi, hd, ← C5.out.step i hlt]; exact World.rowIs.cell G6.out.net.firsts (show i + 1 < n + 1 by omega)
          have hFd : Fi + d ≤ T := by
            have h1 := C5.out.step i hlt
            have h2 := Csr.rows_mono C5.out (show i + 1 ≤ n by omega) (Nat.le_refl _)
            rw [C5.out.last] at h2
            omega
          have hfN : fi + fl ≤ 4194304 := by
            have h1 := Faces.flat_len (same := samePl X Y) C5.out i (by omega)
            have h2 := Faces.face_len (nb := nb) (same := samePl X Y) i
            omega
          have HFI : Hid (fi = (Faces.flat nb (samePl X Y) i).length) := hfi
          have HFL : Hid (fl = (Faces.face nb (samePl X Y) i).length) := hfl
          have HFi : Hid (Fi = F i) := hFi
          have HD : Hid (d = (nb i).length) := hd
          have S0 : Hid (((Faces.face nb (samePl X Y) i).drop 0).Sublist ((nb i).drop 0)) := Faces.face_sub i
          clear hfi hfl hFi hd
          have hk8 : (i : Int) < ((n + 1 : Nat) : Int) := by omega
          have hk9 : (i : Int) < (n : Int) + 1 := by omega
          have hk7 : (i : Int) + 1 < (n : Int) + 1 := by omega
          go_wp2
          go_loopw [18, 17] (fun fv kv wr => ∃ t s fn kn nq : Nat, fv = .int .i64 fn ∧ kv = .int .i64 kn ∧ Hid (fn = fi + t) ∧ Hid (kn = Fi + s) ∧ t ≤ fl ∧ s ≤ d ∧ Hid (((Faces.face nb (samePl X Y) i).drop t).Sublist ((nb i).drop s)) ∧ wr = w6.drewN nq) (fun fv _ _ => fi + fl - (intOf fv).toNat)
          case atStart => exact ⟨0, 0, fi, Fi, _, rfl, rfl, rfl, rfl, Nat.zero_le _, Nat.zero_le _, S0, rfl⟩
          case round =>
            clear S0 t1 t3
            obtain ⟨t, s, fn, kn, nq3, rfl, rfl, hfn, hkn, ht, hs, hsub, rfl⟩ := hrel
            by_cases hlt3 : t < fl
            · have hfn1 : fn < fi + fl := by have := hfn.out; omega
              obtain ⟨x, hx⟩ : ∃ x, x = (Faces.face nb (samePl X Y) i).getD t 0 := ⟨_, rfl⟩
              have hat := flat_at (nb := nb) (same := samePl X Y) (i := i) (n := n) (t := t) hlt (by rw [← HFL.out]; exact hlt3)
              rw [← HFI.out, ← hfn.out, ← HNN.out, ← hx] at hat
              obtain ⟨o1, q1, i1, g1, _⟩ := R6.out.elem (c := cf) (k := fn) (Below.refl w6.heap.size w6) (Nat.le_refl _) (by rw [← HNN.out]; exact hat.2) (Nat.le_refl _)
              rw [← HNN.out] at i1
              have g2 : w6.cell? ⟨o1, q1 + fn, none⟩ = some (.int .i64 (x : Nat)) := by rw [g1, ← hat.1]
              have hdrop : Hid ((Faces.face nb (samePl X Y) i).drop t = x :: (Faces.face nb (samePl X Y) i).drop (t + 1)) := by
                unfold Hid; rw [hx]; exact drop_at (by rw [← HFL.out]; exact hlt3)
              clear g1 hat hx
              have hsub1 : Hid ((x :: (Faces.face nb (samePl X Y) i).drop (t + 1)).Sublist ((nb i).drop s)) := by unfold Hid; rw [← hdrop.out]; exact hsub.out
              clear hsub hdrop
              go_wp2
              go_loopw [17] (fun kv wr => ∃ s kn nq : Nat, kv = .int .i64 kn ∧ Hid (kn = Fi + s) ∧ s ≤ d ∧ Hid ((x :: (Faces.face nb (samePl X Y) i).drop (t + 1)).Sublist ((nb i).drop s)) ∧ wr = w6.drewN nq) (fun kv _ => Fi + d - (intOf kv).toNat)
              case atStart => exact ⟨s, kn, nq3, rfl, hkn, hs, hsub1, rfl⟩
              case round =>
                clear hsub1 hkn hs
                obtain ⟨s, kn, nq4, rfl, hkn, hs, hsub, rfl⟩ := hrel
                have hsd : s < d := by
                  apply Classical.byContradiction
                  intro hge
                  have h0 := hsub.out
                  rw [List.drop_of_length_le (l := nb i) (i := s) (by rw [← HD.out]; omega)] at h0
                  cases h0
                have hkn1 : kn < Fi + d := by have := hkn.out; omega
                have hkn2 : (kn : Int) < (Fi : Int) + (d : Int) := by omega
                have hkT : (kn : Int) < (T : Int) := by omega
                obtain ⟨y, hy⟩ : ∃ y, y = (nb i).getD s 0 := ⟨_, rfl⟩
                have e1 : w6.cell? ⟨bA, kn, none⟩ = some (.int .i64 (y : Nat)) := by
                  rw [World.rowIs.cell G6.out.net.adjs (show kn < T by omega)]
                  show some (Value.int .i64 ((A kn : Nat) : Int)) = _
                  rw [hkn.out, HFi.out, C5.out.at_ i hlt s (by rw [← HD.out]; exact hsd), hy]
                have hnd : Hid ((nb i).drop s = y :: (nb i).drop (s + 1)) := by
                  unfold Hid; rw [hy]; exact drop_at (by rw [← HD.out]; exact hsd)
                clear hy
                have hsub2 : Hid ((x :: (Faces.face nb (samePl X Y) i).drop (t + 1)).Sublist (y :: (nb i).drop (s + 1))) := by unfold Hid; rw [← hnd.out]; exact hsub.out
                clear hsub hnd
                by_cases hyx : y = x
                · obtain rfl : x = y := hyx.symm
                  have hne : ((x : Int) != (x : Int)) = false := by simp
                  have hs3 : Hid (((Faces.face nb (samePl X Y) i).drop (t + 1)).Sublist ((nb i).drop (s + 1))) := sub_eq hsub2.out
                  have hf1 : Hid (fn + 1 = fi + (t + 1)) := by have := hfn.out; unfold Hid; omega
                  have hk1 : Hid (kn + 1 = Fi + (s + 1)) := by have := hkn.out; unfold Hid; omega
                  clear hsub2 hyx
                  go_wp2
                  go_quiet (fail)
                  go_wp2
                  go_roundw
                  case rel => exact ⟨t + 1, s + 1, fn + 1, kn + 1, _, by go_num, by go_num, hf1, hk1, by omega, by omega, hs3, rfl⟩
                  case measure => go_light; simp [intOf]; omega
                · have hne : ((y : Int) != (x : Int)) = true := by rw [bne_iff_ne]; omega
                  have hs3 : Hid ((x :: (Faces.face nb (samePl X Y) i).drop (t + 1)).Sublist ((nb i).drop (s + 1))) := sub_ne hsub2.out hyx
                  have hk1 : Hid (kn + 1 = Fi + (s + 1)) := by have := hkn.out; unfold Hid; omega
                  clear hsub2 hyx
                  go_wp2
                  go_quiet (fail)
                  go_wp2
                  go_roundw
                  case rel => exact ⟨s + 1, kn + 1, _, by go_num, hk1, by omega, hs3, rfl⟩
                  case measure => go_light; simp [intOf]; omega
            · have hfn1 : fi + fl ≤ fn := by have := hfn.out; omega
              go_wp2
              go_roundw
              case rel => exact ⟨i + 1, _, by omega, by go_num, rfl⟩
              case measure => go_light; simp [intOf]; omega
        · go_wp2
          go_ret
          exact ⟨rfl, below_drewN B6.out _⟩

end Go.Proofs.Qxb6000855a
