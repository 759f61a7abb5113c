/-
  The walk of FnHopsIsShortestPathDistance: where every bound is kept.
-/
import Derived.Test.Qxb6000855aHopsEarly
namespace Go.Proofs.Qxb6000855a
open Go.RowKit
open Bfs (upd upd_same upd_other)
open Csr (darts outs off)

/-- the links that have been looked at have marked the nodes that have a nearer neighbour -/
def Marked (d : Nat → Int) (f g : Nat → Nat) (P : Nat → Bool) (k : Nat) : Prop :=
  ∀ e, e < k → f e ≠ g e → (0 < d (g e) → d (f e) = d (g e) - 1 → P (g e) = true) ∧ (0 < d (f e) → d (g e) = d (f e) - 1 → P (f e) = true)

theorem marked_all {n m s : Nat} {f g : Nat → Nat} {d : Nat → Int} {P : Nat → Bool} (h : Bfs.Dist n (outs (darts f g m)) s d) (hP : Marked d f g P m) {v : Nat} (hv : v < n) (h0 : 0 < d v) : P v = true := by
  obtain ⟨u, _, hm, hd⟩ := h.pred v hv h0
  obtain ⟨e, he, hne, h3⟩ := (Csr.mem_darts f g u v m).1 (Csr.mem_outs.1 hm)
  have := hP e he hne
  rcases h3 with ⟨rfl, rfl⟩ | ⟨rfl, rfl⟩
  · exact this.1 h0 (by omega)
  · exact this.2 h0 (by omega)

theorem marked_same {d : Nat → Int} {f g : Nat → Nat} {P : Nat → Bool} {k : Nat} (h : Marked d f g P k) (he : f k = g k) : Marked d f g P (k + 1) := by
  intro e h1 h2
  by_cases e' : e = k
  · subst e'; exact absurd he h2
  · exact h e (by omega) h2
theorem marked_step {d : Nat → Int} {f g : Nat → Nat} {P P' : Nat → Bool} {k : Nat} (h : Marked d f g P k) (hm : ∀ v, P v = true → P' v = true)
    (h1 : 0 < d (g k) → d (f k) = d (g k) - 1 → P' (g k) = true) (h2 : 0 < d (f k) → d (g k) = d (f k) - 1 → P' (f k) = true) : Marked d f g P' (k + 1) := by
  intro e he hne
  by_cases e' : e = k
  · subst e'; exact ⟨h1, h2⟩
  · have := h e (by omega) hne
    exact ⟨fun a b => hm _ (this.1 a b), fun a b => hm _ (this.2 a b)⟩

theorem edge_ok {n m s : Nat} {f g : Nat → Nat} {d : Nat → Int} (h : Bfs.Dist n (outs (darts f g m)) s d) {k : Nat} (hk : k < m) (hr : f k < n ∧ g k < n) (hne : f k ≠ g k) :
    okB (d (f k)) (d (g k)) = true ∧ okB (d (g k)) (d (f k)) = true := by
  have m1 : g k ∈ outs (darts f g m) (f k) := Csr.mem_outs.2 ((Csr.mem_darts f g _ _ m).2 ⟨k, hk, hne, Or.inl ⟨rfl, rfl⟩⟩)
  have m2 : f k ∈ outs (darts f g m) (g k) := Csr.mem_outs.2 ((Csr.mem_darts f g _ _ m).2 ⟨k, hk, hne, Or.inr ⟨rfl, rfl⟩⟩)
  have h1 := h.edge _ _ hr.1 hr.2 m1
  have h2 := h.edge _ _ hr.2 hr.1 m2
  unfold okB
  constructor
  · simp only [decide_eq_true_eq]; omega
  · simp only [decide_eq_true_eq]; omega

theorem upd_true {P : Nat → Bool} (i v : Nat) (h : P v = true) : upd P i true v = true := by unfold upd; split <;> simp [h]

theorem mark_none {P : Nat → Bool} {Q : (Nat → Bool) → Prop} {du dv : Int} {x y : Nat}
    (h : Hid (∀ P' : Nat → Bool, (∀ v, P v = true → P' v = true) → (0 < dv → du = dv - 1 → P' y = true) → (0 < du → dv = du - 1 → P' x = true) → Q P'))
    (n1 : Hid (0 < dv → du = dv - 1 → False)) (n2 : Hid (0 < du → dv = du - 1 → False)) : Q P :=
  h.out P (fun _ h => h) (fun a b => (n1.out a b).elim) (fun a b => (n2.out a b).elim)
theorem mark_snd {P : Nat → Bool} {Q : (Nat → Bool) → Prop} {du dv : Int} {x y : Nat}
    (h : Hid (∀ P' : Nat → Bool, (∀ v, P v = true → P' v = true) → (0 < dv → du = dv - 1 → P' y = true) → (0 < du → dv = du - 1 → P' x = true) → Q P'))
    (n2 : Hid (0 < du → dv = du - 1 → False)) : Q (upd P y true) :=
  h.out _ (fun v h => upd_true y v h) (fun _ _ => upd_same _ _ _) (fun a b => (n2.out a b).elim)
theorem mark_fst {P : Nat → Bool} {Q : (Nat → Bool) → Prop} {du dv : Int} {x y : Nat}
    (h : Hid (∀ P' : Nat → Bool, (∀ v, P v = true → P' v = true) → (0 < dv → du = dv - 1 → P' y = true) → (0 < du → dv = du - 1 → P' x = true) → Q P'))
    (n1 : Hid (0 < dv → du = dv - 1 → False)) : Q (upd P x true) :=
  h.out _ (fun v h => upd_true x v h) (fun a b => (n1.out a b).elim) (fun _ _ => upd_same _ _ _)

set_option maxRecDepth 100000 in
set_option maxHeartbeats 4000000 in
theorem hopsLaw_main (n s : Nat) (a a' : Option Addr) (l c l' c' : Nat) (f g : Nat → Int) (w : World) (hf : Reads w a l f) (hg : Reads w a' l' g) (hna : a = none → l = 0 ∧ c = 0) (hna' : a' = none → l' = 0 ∧ c' = 0)
    (hb : bytesOK l l' = true) (c1 : l ≤ 131072) (c2 : l' ≤ 131072) (c3 : 8 * (l + l') ≤ 1048576) (hn1 : 1 ≤ n) (hn2 : n ≤ 65536) (hs : s < n) (hall : allIn n f g (min l l') = true) :
    Calls Try.prog 6 #[.int .i64 n, .slice a l c, .slice a' l' c', .int .i64 s] w fun e w' => e = .returned (.bool true) ∧ Below w.heap.size w w' := by
  have H : Hid (bytesOK l l' = true) := hb
  have H2 : Hid (allIn n f g (min l l') = true) := hall
  have HF : Hid (Reads w a l f) := hf
  have HG : Hid (Reads w a' l' g) := hg
  have HB : Hid (l ≤ 1048576 ∧ l' ≤ 1048576 ∧ n ≤ 1048576 ∧ 1 ≤ n) := ⟨by omega, by omega, by omega, hn1⟩
  have HN6 : Hid (n ≤ 65536) := hn2
  have e2 : wrap64 ((l : Int) + (l' : Int)) = (l : Int) + (l' : Int) := wrap_small _ (by omega)
  have e3 : wrap64 (8 * ((l : Int) + (l' : Int))) = 8 * ((l : Int) + (l' : Int)) := wrap_small _ (by omega)
  have b1 : decide ((131072 : Int) < (l : Int)) = false := by simp; omega
  have b2 : decide ((131072 : Int) < (l' : Int)) = false := by simp; omega
  have b3 : decide ((1048576 : Int) < 8 * ((l : Int) + (l' : Int))) = false := by simp; omega
  have b4 : decide ((n : Int) < 1) = false := by simp; omega
  have b5 : decide ((65536 : Int) < (n : Int)) = false := by simp; omega
  have b6 : decide ((n : Int) ≤ (s : Int)) = false := by simp; omega
  have hA := allIn_true hall
  have HA : Hid (∀ e, e < min l l' → 0 ≤ f e ∧ f e < n ∧ 0 ≤ g e ∧ g e < n) := hA
  have HNa : Hid (a = none → l = 0 ∧ c = 0) := hna
  have HNa' : Hid (a' = none → l' = 0 ∧ c' = 0) := hna'
  clear hb hall hf hg c1 c2 c3 hn1 hn2 hA hna hna'
  go_enter Try.func6, Try.ntmps6
  go_wp2_with (first | (go_at_call 12; refine (zzBytes_hops _ _ _ _ _ _ _ _ _).mono ?_; rintro e w' ⟨rfl, rfl⟩; rw [H.out]) | (go_at_call 13; refine (edgesInRange_any _ _ _ _ _ _ _ f g _ HB.out.1 HF HG).mono ?_; rintro e w' ⟨rfl, rfl⟩; rw [H2.out]))
  clear b1 b2 b3 b4 b5 b6 e2 e3 H H2
  obtain ⟨hl, hl', hn, hn1⟩ := HB.out
  refine (cloneInts_any a l c f _ hl HNa.out HF.out).mono ?_
  rintro e w1 ⟨a1, k1, rfl, r1, bel1⟩
  have R1 : Hid (Reads w1 a1 l f) := r1
  have B1 : Hid (Below w.heap.size w w1) := bel1
  clear r1 bel1
  go_wp2_with fail
  refine (cloneInts_any a' l' c' g _ hl' HNa'.out (HG.out.kept B1.out (Nat.le_refl _))).mono ?_
  rintro e w2 ⟨a2, k2, rfl, r2, bel2⟩
  have R2 : Hid (Reads w2 a2 l' g) := r2
  have R1' : Hid (Reads w2 a1 l f) := R1.out.kept bel2 (Nat.le_refl _)
  have B2 : Hid (Below w.heap.size w w2) := B1.out.trans (bel2.mono B1.out.size)
  clear r2 bel2 R1 B1 HF HG HNa HNa'
  obtain ⟨m, hm⟩ : ∃ m, m = min l l' := ⟨_, rfl⟩
  obtain ⟨f', hf'⟩ : ∃ f' : Nat → Nat, f' = fun e => (f e).toNat := ⟨_, rfl⟩
  obtain ⟨g', hg'⟩ : ∃ g' : Nat → Nat, g' = fun e => (g e).toNat := ⟨_, rfl⟩
  have hml : m ≤ l := by omega
  have hml' : m ≤ l' := by omega
  have RF : Hid (Reads w2 a1 m (fun e => (f' e : Nat))) := R1'.out.congr hml (fun i hi => by
    have := HA.out i (by omega)
    rw [hf']; show f i = (((f i).toNat : Nat) : Int); omega)
  have RG : Hid (Reads w2 a2 m (fun e => (g' e : Nat))) := R2.out.congr hml' (fun i hi => by
    have := HA.out i (by omega)
    rw [hg']; show g i = (((g i).toNat : Nat) : Int); omega)
  have HR : Hid (∀ e, e < m → f' e < n ∧ g' e < n) := fun e he => by
    have := HA.out e (by omega)
    rw [hf', hg']; show (f e).toNat < n ∧ (g e).toNat < n; omega
  have HM : Hid (m = min l l') := hm
  clear hm hf' hg' R1' R2 HA
  go_wp2_with fail
  refine (plainNetwork_any n a1 a2 l k1 l' k2 m f' g' _ hn hl HM.out RF.out RG.out HR.out).mono ?_
  rintro e w3 ⟨A, T, p, bN, bF, bA, rfl, hnet, hrows, hT, bel3⟩
  have hT' : T ≤ 2097152 := by omega
  have N3 : Hid (Net w3 p n T bN bF bA (off (darts f' g' m)) A) := hnet
  have C3 : Hid (Csr.Rows n T (outs (darts f' g' m)) (off (darts f' g' m)) A) := hrows
  have B3 : Hid (Below w2.heap.size w2 w3) := bel3
  clear hnet hrows bel3
  go_wp2_with fail
  refine (allNodes_any n _ hn).mono ?_
  rintro e w4 ⟨rfl, hid, bel4, hsz4⟩
  have I4 : Hid (IR w4 w3.heap.size n (fun i => (i : Int))) := hid
  have B4 : Hid (Below w3.heap.size w3 w4) := bel4
  clear hid bel4 hsz4
  go_wp2_with fail
  refine (hops_any s hs (N3.out.kept B4.out (Nat.le_refl _)) C3.out hn hT' I4.out).mono ?_
  rintro e w5 ⟨d, b, rfl, hd, hdist, bel5⟩
  have D5 : Hid (Bfs.Dist n (outs (darts f' g' m)) s d) := hdist
  have I5 : Hid (IR w5 b n d) := hd
  have B25 : Hid (Below w2.heap.size w2 w5) := (B3.out.trans (B4.out.mono B3.out.size)).trans (bel5.mono (Nat.le_trans B3.out.size B4.out.size))
  have B5 : Hid (Below w.heap.size w w5) := B2.out.trans (B25.out.mono B2.out.size)
  clear hd hdist bel5 N3 C3 I4 B3 B4
  have hmkB := run_make_row' (P := Try.prog) 35 4 (.bool false) 1 Try.underlying35 Try.info4 rfl .i64 .i64 n (by omega) (by omega)
  go_wp2
  go_loop [11] (fun i => ∃ k : Nat, k ≤ n ∧ i = .int .i64 k) (fun i => n - (intOf i).toNat)
  case atStart => exact ⟨0, Nat.zero_le _, rfl⟩
  case round =>
    obtain ⟨k, hk, rfl⟩ := hrel
    by_cases hlt : k < n
    · have c1 : w5.cell? ⟨b, k, none⟩ = some (.int .i64 (d k)) := World.rowIs.cell I5.out hlt
      have l1 := D5.out.low k hlt
      have l2 := D5.out.zero k hlt
      have l3 : ((d k == 0) = true ∧ ((k : Int) == (s : Int)) = true) ∨ ((d k == 0) = false ∧ ((k : Int) == (s : Int)) = false) := by
        simp only [beq_iff_eq, beq_eq_false_iff_ne]; omega
      clear l2 hmkB
      generalize d k = x at *
      rcases l3 with ⟨l3, l4⟩ | ⟨l3, l4⟩
      all_goals
        go_wp2
        go_round
        case rel => exact ⟨k + 1, by omega, by go_num⟩
        case measure => go_light; simp [intOf]; omega
    · go_wp2_with (go_at_call 18; refine (pairCount_any _ _ _ _ _ _ _).mono ?_; rintro e w' ⟨rfl, rfl⟩; rw [← HM.out])
      clear hmkB hlt hk
      go_loopw [14] (fun i wr => ∃ (k : Nat) (P : Nat → Bool), k ≤ m ∧ i = .int .i64 k ∧ BR wr w5.heap.size n P ∧ Marked d f' g' P k ∧ Below w5.heap.size w5 wr) (fun i _ => m - (intOf i).toNat)
      case atStart => exact ⟨0, fun _ => false, Nat.zero_le _, rfl, BR_made w5 n, fun e he => by omega, (Below.refl _ _).alloc (Nat.le_refl _) _⟩
      case round =>
        obtain ⟨k7, P, hk7, rfl, hP, hMk, hbel⟩ := hrel
        have hb5 : b < w5.heap.size := World.rowIs.lt I5.out
        by_cases hlt7 : k7 < m
        · have B2r : Hid (Below w2.heap.size w2 wr) := B25.out.trans (hbel.mono B25.out.size)
          obtain ⟨o1, q1, i1, g1, _⟩ := RF.out.elem (c := k1) B2r.out (Nat.le_refl _) hlt7 hml
          obtain ⟨o2, q2, i2, g2, _⟩ := RG.out.elem (c := k2) B2r.out (Nat.le_refl _) hlt7 hml'
          have hxy := HR.out k7 hlt7
          by_cases e : f' k7 = g' k7
          · have M1 : Hid (Marked d f' g' P (k7 + 1)) := marked_same hMk e
            have P1 : Hid (BR wr w5.heap.size n P) := hP
            rw [← e] at g2
            clear hMk hP e hxy
            go_wp2
            go_roundw
            case rel => exact ⟨k7 + 1, P, by omega, by go_num, P1, M1, hbel⟩
            case measure => go_light; simp [intOf]; omega
          · obtain ⟨ok1, ok2⟩ := edge_ok D5.out hlt7 hxy e
            have Irow := I5.out.kept hbel hb5
            have d1 : wr.cell? ⟨b, f' k7, none⟩ = some (.int .i64 (d (f' k7))) := World.rowIs.cell Irow hxy.1
            have d2 : wr.cell? ⟨b, g' k7, none⟩ = some (.int .i64 (d (g' k7))) := World.rowIs.cell Irow hxy.2
            have t1 := World.rowIs.cell hP hxy.1
            have t2 := World.rowIs.cell hP hxy.2
            have z1 := World.rowIs.frozen hP (f' k7)
            have z2 := World.rowIs.frozen hP (g' k7)
            have bd1 := D5.out.low _ hxy.1
            have bd2 := D5.out.high _ hxy.1
            have bd3 := D5.out.low _ hxy.2
            have bd4 := D5.out.high _ hxy.2
            have bd5 : d (f' k7) ≤ 1000000 := by have := HN6.out; omega
            have bd6 : d (g' k7) ≤ 1000000 := by have := HN6.out; omega
            have HP : Hid (BR wr w5.heap.size n P) := hP
            have HMk : Hid (∀ P' : Nat → Bool, (∀ v, P v = true → P' v = true) → (0 < d (g' k7) → d (f' k7) = d (g' k7) - 1 → P' (g' k7) = true) → (0 < d (f' k7) → d (g' k7) = d (f' k7) - 1 → P' (f' k7) = true) → Marked d f' g' P' (k7 + 1)) :=
              fun P' h0 h1 h2 => marked_step hMk h0 h1 h2
            clear hP hMk Irow
            generalize d (f' k7) = du at *
            generalize d (g' k7) = dv at *
            generalize f' k7 = x at *
            generalize g' k7 = y at *
            have hne : ((x : Int) == (y : Int)) = false := beq_eq_false_iff_ne.2 (by omega)
            have hx1 : (x : Int) < (n : Int) := by omega
            have hy1 : (y : Int) < (n : Int) := by omega
            go_wp2
            go_quiet ((go_at_call 19; exact Calls.quiet_of_same (edgeOK_true _ _ _ (by omega) (by assumption))))
            go_wp2
            by_cases p1 : 0 < dv
            · cases q1 : (du == dv - 1)
              · have n1 : Hid (0 < dv → du = dv - 1 → False) := fun _ h => (beq_eq_false_iff_ne.1 q1) h
                go_quiet (fail)
                go_wp2
                by_cases p2 : 0 < du
                · cases q2 : (dv == du - 1)
                  · have n2 : Hid (0 < du → dv = du - 1 → False) := fun _ h => (beq_eq_false_iff_ne.1 q2) h
                    go_quiet (fail)
                    go_wp2
                    go_roundw
                    case rel => exact ⟨k7 + 1, P, by omega, by go_num, HP, mark_none HMk n1 n2, below_drewN hbel _⟩
                    case measure => go_light; simp [intOf]; omega
                  · go_quiet (fail)
                    go_wp2
                    go_roundw
                    case rel => exact ⟨k7 + 1, upd P x true, by omega, by go_num, HP.out.set x true, mark_fst HMk n1, below_drewN (hbel.setCell (Nat.le_refl _) _) _⟩
                    case measure => go_light; simp [intOf]; omega
                · have p2' : decide (0 < du) = false := by simpa using p2
                  have n2 : Hid (0 < du → dv = du - 1 → False) := fun h _ => p2 h
                  go_quiet (fail)
                  go_wp2
                  go_roundw
                  case rel => exact ⟨k7 + 1, P, by omega, by go_num, HP, mark_none HMk n1 n2, below_drewN hbel _⟩
                  case measure => go_light; simp [intOf]; omega
              · have n2 : Hid (0 < du → dv = du - 1 → False) := fun _ h => by have := beq_iff_eq.1 q1; omega
                go_quiet (fail)
                go_wp2
                by_cases p2 : 0 < du
                · have q2 : (dv == du - 1) = false := beq_eq_false_iff_ne.2 (fun h => n2 p2 h)
                  go_quiet (fail)
                  go_wp2
                  go_roundw
                  case rel => exact ⟨k7 + 1, upd P y true, by omega, by go_num, HP.out.set y true, mark_snd HMk n2, below_drewN ((below_drewN hbel _).setCell (Nat.le_refl _) _) _⟩
                  case measure => go_light; simp [intOf]; omega
                · have p2' : decide (0 < du) = false := by simpa using p2
                  go_quiet (fail)
                  go_wp2
                  go_roundw
                  case rel => exact ⟨k7 + 1, upd P y true, by omega, by go_num, HP.out.set y true, mark_snd HMk n2, below_drewN ((below_drewN hbel _).setCell (Nat.le_refl _) _) _⟩
                  case measure => go_light; simp [intOf]; omega
            · have p1' : decide (0 < dv) = false := by simpa using p1
              have n1 : Hid (0 < dv → du = dv - 1 → False) := fun h _ => p1 h
              go_quiet (fail)
              go_wp2
              by_cases p2 : 0 < du
              · cases q2 : (dv == du - 1)
                · have n2 : Hid (0 < du → dv = du - 1 → False) := fun _ h => (beq_eq_false_iff_ne.1 q2) h
                  go_quiet (fail)
                  go_wp2
                  go_roundw
                  case rel => exact ⟨k7 + 1, P, by omega, by go_num, HP, mark_none HMk n1 n2, below_drewN hbel _⟩
                  case measure => go_light; simp [intOf]; omega
                · go_quiet (fail)
                  go_wp2
                  go_roundw
                  case rel => exact ⟨k7 + 1, upd P x true, by omega, by go_num, HP.out.set x true, mark_fst HMk n1, below_drewN (hbel.setCell (Nat.le_refl _) _) _⟩
                  case measure => go_light; simp [intOf]; omega
              · have p2' : decide (0 < du) = false := by simpa using p2
                have n2 : Hid (0 < du → dv = du - 1 → False) := fun h _ => p2 h
                go_quiet (fail)
                go_wp2
                go_roundw
                case rel => exact ⟨k7 + 1, P, by omega, by go_num, HP, mark_none HMk n1 n2, below_drewN hbel _⟩
                case measure => go_light; simp [intOf]; omega
        · have HP : Hid (BR wr w5.heap.size n P) := hP
          have HMk : Hid (Marked d f' g' P m) := by rw [show m = k7 by omega]; exact hMk
          clear hP hMk
          obtain ⟨w6, rfl⟩ : ∃ w6 : World, w6 = wr := ⟨_, rfl⟩
          have I6 : Hid (IR w6 b n d) := I5.out.kept hbel hb5
          have B6 : Hid (Below w.heap.size w w6) := B5.out.trans (hbel.mono B5.out.size)
          go_wp2
          go_loop [17] (fun i => ∃ k : Nat, k ≤ n ∧ i = .int .i64 k) (fun i => n - (intOf i).toNat)
          case atStart => exact ⟨0, Nat.zero_le _, rfl⟩
          case round =>
            obtain ⟨k8, hk8, rfl⟩ := hrel
            by_cases hlt8 : k8 < n
            · have c1 : w6.cell? ⟨b, k8, none⟩ = some (.int .i64 (d k8)) := World.rowIs.cell I6.out hlt8
              by_cases h0 : 0 < d k8
              · have c2 : w6.cell? ⟨w5.heap.size, k8, none⟩ = some (.bool true) := (World.rowIs.cell HP.out hlt8).trans (by rw [marked_all D5.out HMk.out hlt8 h0])
                generalize d k8 = x at *
                go_wp2
                go_round
                case rel => exact ⟨k8 + 1, by omega, by go_num⟩
                case measure => go_light; simp [intOf]; omega
              · have h0' : decide (0 < d k8) = false := by simpa using h0
                generalize d k8 = x at *
                go_wp2
                go_round
                case rel => exact ⟨k8 + 1, by omega, by go_num⟩
                case measure => go_light; simp [intOf]; omega
            · go_wp2
              go_ret
              exact ⟨rfl, B6⟩

end Go.Proofs.Qxb6000855a
