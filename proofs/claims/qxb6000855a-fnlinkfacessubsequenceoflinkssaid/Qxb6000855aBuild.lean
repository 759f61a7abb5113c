/-
  The walk of buildCSR.
-/
import Derived.Test.Qxb6000855aSmall
import Derived.RegionTactic
namespace Go.Proofs.Qxb6000855a
open Go.RowKit
open Bfs (upd upd_same upd_other)
open Csr (darts outs off count sums fills Laid)

theorem index_of {a : Option Addr} {b o l c k : Nat} (h : a = some ⟨b, o, none⟩) (hk : k < l) :
    ∀ w, (Instr.indexAt 27 (.slice a l c) (.int .i64 (k : Int))).run Try.prog w = .ok (.pointer (some ⟨b, o + k, none⟩)) w := by
  subst h
  intro w
  rw [run_indexAt_slice w 27 ⟨b, o, none⟩ l c .i64 k Try.underlying27, if_pos (by omega)]
  have hs : (sizeOf (Try.prog.elem 27)).run Try.prog w = .ok 1 w := by kernel_rfl
  rw [hs]
  simp [Result.andThen, Addr.add]

/-- an element of a slice, as the walk asks for it in a later world -/
theorem Reads.elem {w wr : World} {a : Option Addr} {m l c k B : Nat} {f : Nat → Int} (h : Reads w a m f) (hb : Below B w wr) (hB : w.heap.size ≤ B) (hk : k < m) (hl : m ≤ l) :
    ∃ b o, (∀ w, (Instr.indexAt 27 (.slice a l c) (.int .i64 (k : Int))).run Try.prog w = .ok (.pointer (some ⟨b, o + k, none⟩)) w) ∧ wr.cell? ⟨b, o + k, none⟩ = some (.int .i64 (f k)) ∧ b < w.heap.size := by
  obtain ⟨b, o, ea, hlt, hc⟩ := h (by omega)
  exact ⟨b, o, index_of ea (by omega), (hb.cell (p := ⟨b, o + k, none⟩) (by show b < B; omega)).trans (hc k hk), hlt⟩

/-- the first loop's round, at a link between two nodes -/
theorem count_round {w : World} {B n : Nat} {f g : Nat → Nat} {k : Nat} (h : IR w B n (count (darts f g k))) (hne : f k ≠ g k) :
    IR ((w.setCell ⟨B, f k + 1, none⟩ (.int .i64 (count (darts f g k) (f k + 1) + 1))).setCell ⟨B, g k + 1, none⟩ (.int .i64 (count (darts f g k) (g k + 1) + 1))) B n (count (darts f g (k + 1))) := by
  have h1 := h.set (f k + 1) (count (darts f g k) (f k + 1) + 1)
  rw [Csr.count_add _ _ (g k)] at h1
  have h2 := h1.set (g k + 1) (count (darts f g k ++ [(f k, g k)]) (g k + 1) + 1)
  rw [Csr.count_add _ _ (f k), ← Csr.darts_two f g hne] at h2
  have e : count (darts f g k ++ [(f k, g k)]) (g k + 1) = count (darts f g k) (g k + 1) := by
    rw [← Csr.count_add _ _ (g k), upd_other _ _ (by omega)]
  rw [e] at h2
  exact h2

theorem IR.other {w : World} {b n : Nat} {f : Nat → Int} (h : IR w b n f) {p : Addr} (hne : b ≠ p.block) (v : Value) : IR (w.setCell p v) b n f := World.rowIs.setOther h hne v
theorem BR.other {w : World} {b n : Nat} {f : Nat → Bool} (h : BR w b n f) {p : Addr} (hne : b ≠ p.block) (v : Value) : BR (w.setCell p v) b n f := World.rowIs.setOther h hne v
theorem IR.alloc {w : World} {b n : Nat} {f : Nat → Int} (h : IR w b n f) (o : Obj) : IR (w.alloc o) b n f := World.rowIs.alloc h o
theorem BR.alloc {w : World} {b n : Nat} {f : Nat → Bool} (h : BR w b n f) (o : Obj) : BR (w.alloc o) b n f := World.rowIs.alloc h o

/-- the numbers of the last loop's round -/
theorem fill_nums {n m k : Nat} {f g : Nat → Nat} {L : List (Nat × Nat)} (hL : L = darts f g m) (hk : k < m) (hr : ∀ e, e < m → f e < n ∧ g e < n) (hne : f k ≠ g k) :
    ∃ p1 p2 : Nat, fills L (darts f g k) (f k) = (p1 : Nat) ∧ fills L (darts f g k) (g k) = (p2 : Nat) ∧ p1 < off L n ∧ p2 < off L n ∧ p1 ≠ p2 := by
  obtain ⟨R, hR⟩ := Csr.darts_at f g hk hne
  rw [← hL] at hR
  have h1 := Csr.fills_lt hR (hr k hk).1
  have hR2 : L = (darts f g k ++ [(f k, g k)]) ++ (g k, f k) :: R := by rw [hR]; simp
  have h2 := Csr.fills_lt hR2 (hr k hk).2
  have e : fills L (darts f g k ++ [(f k, g k)]) (g k) = fills L (darts f g k) (g k) := by
    rw [← Csr.fills_add, upd_other _ _ (fun e => hne e.symm)]
  rw [e] at h2
  have f1 := Csr.fits hR
  have f2 := Csr.fits hR2
  have f3 : (outs (darts f g k) (g k)).length ≤ (outs (darts f g k ++ [(f k, g k)]) (g k)).length := by rw [Csr.outs_app]; simp
  unfold fills at h1 h2 ⊢
  refine ⟨off L (f k) + (outs (darts f g k) (f k)).length, off L (g k) + (outs (darts f g k) (g k)).length, by omega, by omega, by omega, by omega, fun e => ?_⟩
  rcases Nat.lt_or_gt_of_ne hne with hlt | hlt
  · have := Csr.off_next L hlt; omega
  · have := Csr.off_next L hlt; omega

/-- the last loop's round, at a link between two nodes -/
theorem fill_round {w : World} {C D T n m k p1 p2 : Nat} {f g A : Nat → Nat} {L : List (Nat × Nat)} (hCD : C ≠ D) (hL : L = darts f g m) (hk : k < m) (hne : f k ≠ g k)
    (hA : IR w C T (fun j => (A j : Nat))) (hF : IR w D n (fills L (darts f g k))) (hlaid : Laid n L (darts f g k) A)
    (h1 : fills L (darts f g k) (f k) = (p1 : Nat)) (h2 : fills L (darts f g k) (g k) = (p2 : Nat)) :
    ∃ A' : Nat → Nat, IR ((((w.setCell ⟨C, p1, none⟩ (.int .i64 (g k : Nat))).setCell ⟨D, f k, none⟩ (.int .i64 ((p1 : Int) + 1))).setCell ⟨C, p2, none⟩ (.int .i64 (f k : Nat))).setCell ⟨D, g k, none⟩ (.int .i64 ((p2 : Int) + 1))) C T (fun j => (A' j : Nat)) ∧
      IR ((((w.setCell ⟨C, p1, none⟩ (.int .i64 (g k : Nat))).setCell ⟨D, f k, none⟩ (.int .i64 ((p1 : Int) + 1))).setCell ⟨C, p2, none⟩ (.int .i64 (f k : Nat))).setCell ⟨D, g k, none⟩ (.int .i64 ((p2 : Int) + 1))) D n (fills L (darts f g (k + 1))) ∧
      Laid n L (darts f g (k + 1)) A' := by
  obtain ⟨R, hR⟩ := Csr.darts_at f g hk hne
  rw [← hL] at hR
  have hR2 : L = (darts f g k ++ [(f k, g k)]) ++ (g k, f k) :: R := by rw [hR]; simp
  have e : fills L (darts f g k ++ [(f k, g k)]) (g k) = fills L (darts f g k) (g k) := by
    rw [← Csr.fills_add, upd_other _ _ (fun e => hne e.symm)]
  refine ⟨upd (upd A p1 (g k)) p2 (f k), ?_, ?_, ?_⟩
  · have s1 := hA.set p1 (g k : Nat)
    have s2 := (s1.other (p := ⟨D, f k, none⟩) hCD (.int .i64 ((p1 : Int) + 1))).set p2 (f k : Nat)
    refine (s2.other (p := ⟨D, g k, none⟩) hCD (.int .i64 ((p2 : Int) + 1))).congr (fun j _ => ?_)
    unfold upd
    by_cases c1 : j = p2
    · rw [if_pos c1, if_pos c1]
    · rw [if_neg c1, if_neg c1]
      by_cases c2 : j = p1
      · rw [if_pos c2, if_pos c2]
      · rw [if_neg c2, if_neg c2]
  · have s1 := (hF.other (p := ⟨C, p1, none⟩) (fun e => hCD e.symm) (.int .i64 (g k : Nat))).set (f k) ((p1 : Int) + 1)
    rw [← h1, Csr.fills_add L _ _ (g k)] at s1
    have s2 := (s1.other (p := ⟨C, p2, none⟩) (fun e => hCD e.symm) (.int .i64 (f k : Nat))).set (g k) ((p2 : Int) + 1)
    rw [← h2, ← e, Csr.fills_add L _ _ (f k), ← Csr.darts_two f g hne, e] at s2
    rw [← h1, ← h2]
    exact s2
  · have s1 := Csr.laid_add hR hlaid
    have s2 := Csr.laid_add hR2 s1
    rw [e, h1, h2, ← Csr.darts_two f g hne] at s2
    exact s2

set_option maxHeartbeats 4000000 in
theorem buildCSR_any (n : Nat) (a a' : Option Addr) (l c l' c' m : Nat) (f g : Nat → Nat) (w : World) (hn : n ≤ 1048576) (hl : l ≤ 1048576) (hm : m = min l l')
    (hf : Reads w a m (fun e => (f e : Nat))) (hg : Reads w a' m (fun e => (g e : Nat))) (hr : ∀ e, e < m → f e < n ∧ g e < n) :
    Calls Try.prog 30 #[.int .i64 n, .slice a l c, .slice a' l' c'] w fun e w' => ∃ A : Nat → Nat, ∃ T : Nat,
      e = .returned (.tuple #[.slice (some ⟨w.heap.size, 0, none⟩) (n + 1) (n + 1), .slice (some ⟨w.heap.size + 1, 0, none⟩) T T]) ∧
      IR w' w.heap.size (n + 1) (fun i => (off (darts f g m) i : Nat)) ∧ IR w' (w.heap.size + 1) T (fun i => (A i : Nat)) ∧
      Csr.Rows n T (outs (darts f g m)) (off (darts f g m)) A ∧ T ≤ 2 * m ∧ Below w.heap.size w w' ∧ w'.heap.size = w.heap.size + 3 := by
  have hm1 : m ≤ l := by omega
  have hm2 : m ≤ l' := by omega
  have HM : Hid (m = min l l') := hm
  clear hm
  have hmk := run_make_row' (P := Try.prog) 27 3 (.int .i64 0) 8 Try.underlying27 Try.info3 rfl .i64 .i64 (n + 1) (by omega) (by omega)
  have ec : ((n + 1 : Nat) : Int) = (n : Int) + 1 := by omega
  rw [ec] at hmk
  clear ec
  have HR : Hid (∀ e, e < m → f e < n ∧ g e < n) := hr
  have HF : Hid (Reads w a m (fun e => (f e : Nat))) := hf
  have HG : Hid (Reads w a' m (fun e => (g e : Nat))) := hg
  clear hr hf hg
  obtain ⟨B, HB⟩ : ∃ B, Hid (w.heap.size = B) := ⟨_, rfl⟩
  go_enter Try.func30, Try.ntmps30
  go_wp2_with (go_at_call 18; refine (pairCount_any _ _ _ _ _ _ _).mono ?_; rintro e w' ⟨rfl, rfl⟩; rw [← HM.out])
  go_loopw [10] (fun i wr => ∃ k : Nat, k ≤ m ∧ i = .int .i64 k ∧ IR wr w.heap.size (n + 1) (count (darts f g k)) ∧ Below w.heap.size w wr ∧ wr.heap.size = w.heap.size + 1) (fun i _ => m - (intOf i).toNat)
  case atStart => exact ⟨0, Nat.zero_le _, rfl, (IR_made w (n + 1)).congr (fun j _ => by simp [count, darts, outs]), (Below.refl _ _).alloc (Nat.le_refl _) _, by simp⟩
  case round =>
    obtain ⟨k, hk, rfl, hrow, hbel, hsz⟩ := hrel
    by_cases hlt : k < m
    · obtain ⟨b, o, i1, g1, hb⟩ := HF.out.elem (c := c) hbel (Nat.le_refl _) hlt hm1
      obtain ⟨b', o', i2, g2, hb'⟩ := HG.out.elem (c := c') hbel (Nat.le_refl _) hlt hm2
      have hxy := HR.out k hlt
      by_cases e : f k = g k
      · have R1 : Hid (IR wr w.heap.size (n + 1) (count (darts f g (k + 1)))) := by rw [Csr.darts_same f g e]; exact hrow
        rw [← e] at g2
        have R3 : Hid (wr.heap.size = w.heap.size + 1) := hsz
        clear hrow e hsz hmk hxy
        go_wp2
        go_roundw
        case rel => exact ⟨k + 1, by omega, by go_num, R1, hbel, R3⟩
        case measure => go_light; simp [intOf]; omega
      · have R1 : Hid _ := count_round hrow e
        have c1 := World.rowIs.cell hrow (show f k + 1 < n + 1 by omega)
        have c2 := World.rowIs.cell hrow (show g k + 1 < n + 1 by omega)
        have z1 := World.rowIs.frozen hrow (f k + 1)
        have z2 := World.rowIs.frozen hrow (g k + 1)
        have bd1 := Csr.count_bd (darts f g k) (f k + 1)
        have bd2 := Csr.count_bd (darts f g k) (g k + 1)
        have bd3 := Csr.darts_len f g k
        generalize count (darts f g k) (f k + 1) = x1 at *
        generalize count (darts f g k) (g k + 1) = x2 at *
        generalize f k = x at *
        generalize g k = y at *
        have R2 : Hid _ := (hbel.setCell (p := ⟨w.heap.size, x + 1, none⟩) (Nat.le_refl _) (.int .i64 (x1 + 1))).setCell (p := ⟨w.heap.size, y + 1, none⟩) (Nat.le_refl _) (.int .i64 (x2 + 1))
        have R3 : Hid (wr.heap.size = w.heap.size + 1) := hsz
        have hne : ((x : Int) == (y : Int)) = false := beq_eq_false_iff_ne.2 (by omega)
        clear hrow hbel hsz hmk
        go_wp2
        go_roundw
        case rel => exact ⟨k + 1, by omega, by go_num, R1, R2, by simpa [World.setCell] using R3.out⟩
        case measure => go_light; simp [intOf]; omega
    · have R1 : Hid (IR wr w.heap.size (n + 1) (sums (darts f g m) 0)) := by rw [Csr.sums_zero, show m = k by omega]; exact hrow
      have R3 : Hid (wr.heap.size = w.heap.size + 1) := hsz
      obtain ⟨L, hL⟩ : ∃ L, L = darts f g m := ⟨_, rfl⟩
      have HL : Hid (L = darts f g m) := hL
      have hLl : L.length ≤ 2 * m := by rw [hL]; exact Csr.darts_len f g m
      rw [← hL] at R1
      clear hrow hsz hmk hL
      go_wp2
      obtain ⟨w1, rfl⟩ : ∃ w1 : World, w1 = wr := ⟨_, rfl⟩
      go_loopw [13] (fun i wr => ∃ k : Nat, k ≤ n ∧ i = .int .i64 k ∧ IR wr w.heap.size (n + 1) (sums L k) ∧ Below w.heap.size w wr ∧ wr.heap.size = w.heap.size + 1) (fun i _ => n - (intOf i).toNat)
      case atStart => exact ⟨0, Nat.zero_le _, rfl, R1, hbel, R3⟩
      case round =>
        clear R1 R3 hbel hlt hk
        obtain ⟨k2, hk2, rfl, hrow, hbel, hsz⟩ := hrel
        by_cases hlt : k2 < n
        · have R1 : Hid _ := hrow.set (k2 + 1) (sums L k2 (k2 + 1) + sums L k2 k2)
          rw [Csr.sums_step] at R1
          have c1 := World.rowIs.cell hrow (show k2 + 1 < n + 1 by omega)
          have c2 := World.rowIs.cell hrow (show k2 < n + 1 by omega)
          have z1 := World.rowIs.frozen hrow (k2 + 1)
          have bd1 := Csr.sums_bd L k2 (k2 + 1)
          have bd2 := Csr.sums_bd L k2 k2
          generalize sums L k2 (k2 + 1) = x1 at *
          generalize sums L k2 k2 = x2 at *
          have R2 : Hid _ := hbel.setCell (p := ⟨w.heap.size, k2 + 1, none⟩) (Nat.le_refl _) (.int .i64 (x1 + x2))
          have R3 : Hid (wr.heap.size = w.heap.size + 1) := hsz
          clear hrow hbel hsz
          go_wp2
          go_region
          all_goals go_wp2
          all_goals
            go_roundw
            case rel => exact ⟨k2 + 1, by omega, by go_num, R1, R2.out.drew, by simpa [World.setCell] using R3.out⟩
            case measure => go_light; simp [intOf]; omega
        · obtain ⟨w2, rfl⟩ : ∃ w2 : World, w2 = wr := ⟨_, rfl⟩
          have R1 : IR w2 w.heap.size (n + 1) (fun j => (off L j : Nat)) := hrow.congr (fun j hj => by
            rw [show k2 = n by omega]; exact Csr.sums_all L n j (by omega))
          have R3 : Hid (w2.heap.size = w.heap.size + 1) := hsz
          have hlt2 : w.heap.size < w2.heap.size := by omega
          have c1 : w2.cell? ⟨w.heap.size, n, none⟩ = some (.int .i64 (off L n : Nat)) := World.rowIs.cell R1 (show n < n + 1 by omega)
          have hT := Csr.off_le n L
          obtain ⟨T, hTe⟩ : ∃ T, T = off L n := ⟨_, rfl⟩
          have HT : Hid (T = off L n) := hTe
          rw [← hTe] at c1 hT
          clear hTe hrow hsz
          have hmkT := run_make_row' (P := Try.prog) 27 3 (.int .i64 0) 8 Try.underlying27 Try.info3 rfl .i64 .i64 T (by omega) (by omega)
          have hmkn := run_make_row' (P := Try.prog) 27 3 (.int .i64 0) 8 Try.underlying27 Try.info3 rfl .i64 .i64 n (by omega) (by omega)
          have HR1 : Hid (IR w2 w.heap.size (n + 1) (fun j => (off L j : Nat))) := R1
          clear R1
          go_wp2
          have hmade := IR_made (w2.alloc (.cells (madeCells #[.int .i64 0] T) 3)) n
          rw [show (w2.alloc (.cells (madeCells #[.int .i64 0] T) 3)).heap.size = w2.heap.size + 1 by simp] at hmade
          have s1 : Hid (IR ((w2.alloc (.cells (madeCells #[.int .i64 0] T) 3)).alloc (.cells (madeCells #[.int .i64 0] n) 3)) (w2.heap.size + 1) n (fun j => if j < 0 then (off L j : Nat) else 0)) := hmade.congr (fun _ _ => rfl)
          have s2 : Hid (IR ((w2.alloc (.cells (madeCells #[.int .i64 0] T) 3)).alloc (.cells (madeCells #[.int .i64 0] n) 3)) w2.heap.size T (fun _ => 0)) := (IR_made w2 T).alloc _
          have s3 : Hid (IR ((w2.alloc (.cells (madeCells #[.int .i64 0] T) 3)).alloc (.cells (madeCells #[.int .i64 0] n) 3)) w.heap.size (n + 1) (fun j => (off L j : Nat))) := (HR1.out.alloc _).alloc _
          have s4 : Hid (Below w.heap.size w ((w2.alloc (.cells (madeCells #[.int .i64 0] T) 3)).alloc (.cells (madeCells #[.int .i64 0] n) 3))) := (hbel.alloc (by omega) _).alloc (by simp; omega) _
          clear hmade hmkT hmkn c1 HR1 hbel
          go_loopw [16] (fun i wr => ∃ k : Nat, k ≤ n ∧ i = .int .i64 k ∧ IR wr w.heap.size (n + 1) (fun j => (off L j : Nat)) ∧ IR wr w2.heap.size T (fun _ => 0) ∧
            IR wr (w2.heap.size + 1) n (fun j => if j < k then (off L j : Nat) else 0) ∧ Below w.heap.size w wr ∧ wr.heap.size = w2.heap.size + 2) (fun i _ => n - (intOf i).toNat)
          case atStart => exact ⟨0, Nat.zero_le _, rfl, s3, s2, s1, s4, by simp⟩
          case round =>
            clear s1 s2 s3 s4 hlt
            obtain ⟨k3, hk3, rfl, hF, hA, hG, hbel, hsz⟩ := hrel
            by_cases hlt : k3 < n
            · have c1 := World.rowIs.cell hF (show k3 < n + 1 by omega)
              have c2 := World.rowIs.cell hG hlt
              have z2 := World.rowIs.frozen hG k3
              have r1 : Hid _ := hF.other (p := ⟨w2.heap.size + 1, k3, none⟩) (by show w.heap.size ≠ w2.heap.size + 1; omega) (.int .i64 (off L k3 : Nat))
              have r2 : Hid _ := hA.other (p := ⟨w2.heap.size + 1, k3, none⟩) (by show w2.heap.size ≠ w2.heap.size + 1; omega) (.int .i64 (off L k3 : Nat))
              have r3 : Hid (IR (wr.setCell ⟨w2.heap.size + 1, k3, none⟩ (.int .i64 (off L k3 : Nat))) (w2.heap.size + 1) n (fun j => if j < k3 + 1 then (off L j : Nat) else 0)) :=
                (hG.set k3 (off L k3 : Nat)).congr (fun j _ => by
                  unfold upd
                  by_cases e : j = k3
                  · subst e; simp
                  · by_cases e2 : j < k3
                    · simp [e, e2, show j < k3 + 1 by omega]
                    · simp [e, e2, show ¬ j < k3 + 1 by omega])
              have r4 : Hid _ := hbel.setCell (p := ⟨w2.heap.size + 1, k3, none⟩) (by show w.heap.size ≤ w2.heap.size + 1; omega) (.int .i64 (off L k3 : Nat))
              have r5 : Hid (wr.heap.size = w2.heap.size + 2) := hsz
              clear hF hA hG hbel hsz
              go_wp2
              go_roundw
              case rel => exact ⟨k3 + 1, by omega, by go_num, r1, r2, r3, r4, by simpa [World.setCell] using r5.out⟩
              case measure => go_light; simp [intOf]; omega
            · obtain ⟨w3, rfl⟩ : ∃ w3 : World, w3 = wr := ⟨_, rfl⟩
              have s1 : Hid (IR w3 (w2.heap.size + 1) n (fills L (darts f g 0))) := hG.congr (fun j hj => by
                rw [if_pos (by omega)]; exact (Csr.fills_nil L j).symm)
              have s2 : Hid (IR w3 w2.heap.size T (fun j => ((fun _ => 0 : Nat → Nat) j : Nat))) := hA
              have s3 : Hid (IR w3 w.heap.size (n + 1) (fun j => (off L j : Nat))) := hF
              have s4 : Hid (Below w.heap.size w w3) := hbel
              have s5 : Hid (w3.heap.size = w2.heap.size + 2) := hsz
              clear hF hA hG hbel hsz
              go_wp2
              go_loopw [17] (fun i wr => ∃ k : Nat, ∃ A : Nat → Nat, k ≤ m ∧ i = .int .i64 k ∧ IR wr w.heap.size (n + 1) (fun j => (off L j : Nat)) ∧ IR wr w2.heap.size T (fun j => (A j : Nat)) ∧
                IR wr (w2.heap.size + 1) n (fills L (darts f g k)) ∧ Laid n L (darts f g k) A ∧ Below w.heap.size w wr ∧ wr.heap.size = w2.heap.size + 2) (fun i _ => m - (intOf i).toNat)
              case atStart => exact ⟨0, fun _ => 0, Nat.zero_le _, rfl, s3, s2, s1, Csr.laid_nil n L _, s4, s5⟩
              case round =>
                clear s1 s2 s3 s4 s5 hlt
                obtain ⟨k4, A, hk4, rfl, hF, hA, hG, hlaid, hbel, hsz⟩ := hrel
                by_cases hlt : k4 < m
                · obtain ⟨b, o, i1, g1, hb⟩ := HF.out.elem (c := c) hbel (Nat.le_refl _) hlt hm1
                  obtain ⟨b', o', i2, g2, hb'⟩ := HG.out.elem (c := c') hbel (Nat.le_refl _) hlt hm2
                  have hxy := HR.out k4 hlt
                  by_cases e : f k4 = g k4
                  · have r1 : Hid (IR wr (w2.heap.size + 1) n (fills L (darts f g (k4 + 1)))) := by rw [Csr.darts_same f g e]; exact hG
                    have r2 : Hid (Laid n L (darts f g (k4 + 1)) A) := by rw [Csr.darts_same f g e]; exact hlaid
                    rw [← e] at g2
                    have r3 : Hid (IR wr w2.heap.size T (fun j => (A j : Nat))) := hA
                    have r4 : Hid (IR wr w.heap.size (n + 1) (fun j => (off L j : Nat))) := hF
                    have r5 : Hid (wr.heap.size = w2.heap.size + 2) := hsz
                    clear hF hA hG hlaid e hsz hxy
                    go_wp2
                    go_roundw
                    case rel => exact ⟨k4 + 1, A, by omega, by go_num, r4, r3, r1, r2, hbel, r5⟩
                    case measure => go_light; simp [intOf]; omega
                  · obtain ⟨p1, p2, e1, e2, l1, l2, hp⟩ := fill_nums HL.out hlt HR.out e
                    rw [← HT.out] at l1 l2
                    obtain ⟨A', r1, r2, r3⟩ := fill_round (show w2.heap.size ≠ w2.heap.size + 1 by omega) HL.out hlt e hA hG hlaid e1 e2
                    have c1 := World.rowIs.cell hG (show f k4 < n by omega)
                    have c2 := World.rowIs.cell hG (show g k4 < n by omega)
                    rw [e1] at c1
                    rw [e2] at c2
                    have z1 := World.rowIs.frozen hG (f k4)
                    have z2 := World.rowIs.frozen hG (g k4)
                    have c3 := World.rowIs.cell hA l1
                    have c4 := World.rowIs.cell hA l2
                    have z3 := World.rowIs.frozen hA p1
                    have z4 := World.rowIs.frozen hA p2
                    have R4 : Hid _ := (((hF.other (p := ⟨w2.heap.size, p1, none⟩) (by show w.heap.size ≠ w2.heap.size; omega) (.int .i64 (g k4 : Nat))).other (p := ⟨w2.heap.size + 1, f k4, none⟩) (by show w.heap.size ≠ w2.heap.size + 1; omega) (.int .i64 ((p1 : Int) + 1))).other
                      (p := ⟨w2.heap.size, p2, none⟩) (by show w.heap.size ≠ w2.heap.size; omega) (.int .i64 (f k4 : Nat))).other (p := ⟨w2.heap.size + 1, g k4, none⟩) (by show w.heap.size ≠ w2.heap.size + 1; omega) (.int .i64 ((p2 : Int) + 1))
                    have R5 : Hid _ := (((hbel.setCell (p := ⟨w2.heap.size, p1, none⟩) (by show w.heap.size ≤ w2.heap.size; omega) (.int .i64 (g k4 : Nat))).setCell (p := ⟨w2.heap.size + 1, f k4, none⟩) (by show w.heap.size ≤ w2.heap.size + 1; omega) (.int .i64 ((p1 : Int) + 1))).setCell
                      (p := ⟨w2.heap.size, p2, none⟩) (by show w.heap.size ≤ w2.heap.size; omega) (.int .i64 (f k4 : Nat))).setCell (p := ⟨w2.heap.size + 1, g k4, none⟩) (by show w.heap.size ≤ w2.heap.size + 1; omega) (.int .i64 ((p2 : Int) + 1))
                    have R1 : Hid _ := r1
                    have R2 : Hid _ := r2
                    have R3 : Hid _ := r3
                    have R6 : Hid (wr.heap.size = w2.heap.size + 2) := hsz
                    clear hF hA hG hlaid hbel hsz r1 r2 r3 e1 e2
                    generalize f k4 = x at *
                    generalize g k4 = y at *
                    have hne : ((x : Int) == (y : Int)) = false := beq_eq_false_iff_ne.2 (by omega)
                    go_wp2
                    go_roundw
                    case rel => exact ⟨k4 + 1, A', by omega, by go_num, R4, R1, R2, R3, R5, by simpa [World.setCell] using R6.out⟩
                    case measure => go_light; simp [intOf]; omega
                · have hfin : Hid (Csr.Rows n T (outs (darts f g m)) (off (darts f g m)) A) := by
                    have h1 : k4 = m := by omega
                    rw [h1, HL.out] at hlaid
                    have h2 := Csr.rows_of HR.out hlaid
                    rw [HT.out, HL.out]
                    exact h2
                  have r3 : Hid (IR wr w2.heap.size T (fun j => (A j : Nat))) := hA
                  have r4 : Hid (IR wr w.heap.size (n + 1) (fun j => (off (darts f g m) j : Nat))) := by rw [← HL.out]; exact hF
                  have r5 : Hid (wr.heap.size = w2.heap.size + 2) := hsz
                  clear hF hA hG hlaid hsz
                  go_wp2
                  go_ret2
                  have h3 := R3.out
                  refine ⟨A, T, ?_, r4, ?_, hfin, by omega, hbel, by rw [r5.out, h3]⟩
                  · rw [h3]; rfl
                  · rw [← h3]; exact r3

end Go.Proofs.Qxb6000855a
