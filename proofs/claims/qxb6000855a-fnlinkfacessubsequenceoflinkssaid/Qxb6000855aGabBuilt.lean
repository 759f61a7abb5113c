/-
  The walk of builtGabriel.
-/
import Derived.Test.Qxb6000855aGab
namespace Go.Proofs.Qxb6000855a
open Go.RowKit
open Bfs (upd upd_same upd_other)
open Csr (darts outs off)
attribute [local go_sem] run_store_float

/-- of the first k nodes the cells are laid -/
def NodesTo (w : World) (b n k : Nat) (X Y : Nat → Nat) : Prop := ∃ F, w.rowIs b 56 (n * 4) F ∧ ∀ i, i < k * 4 → F i = nodeCells X Y i

theorem gab_made {w : World} {q p n T bN bF bA : Nat} {X Y F A : Nat → Nat} (h : Net w p n T bN bF bA F A) (h2 : Nodes w bN n X Y) (hq : w.heap.size = q) (l1 : p < q) (l2 : bN < q) (l3 : bF < q) (l4 : bA < q) :
    Gab (w.alloc (.cells #[.pointer (some ⟨p, 0, none⟩), .slice (some ⟨bF, 0, none⟩) (n + 1) (n + 1), .slice (some ⟨bA, 0, none⟩) T T, .slice none 0 0, .slice none 0 0] 62)) q p n T bN bF bA X Y F A (.slice none 0 0) (.slice none 0 0) := by
  subst hq
  have hb : Below w.heap.size w (w.alloc (.cells #[.pointer (some ⟨p, 0, none⟩), .slice (some ⟨bF, 0, none⟩) (n + 1) (n + 1), .slice (some ⟨bA, 0, none⟩) T T, .slice none 0 0, .slice none 0 0] 62)) := (Below.refl _ _).alloc (Nat.le_refl _) _
  refine ⟨World.rowIs_alloc w #[.pointer (some ⟨p, 0, none⟩), .slice (some ⟨bF, 0, none⟩) (n + 1) (n + 1), .slice (some ⟨bA, 0, none⟩) T T, .slice none 0 0, .slice none 0 0] 62 _ (fun i hi => ?_), h.kept hb (Nat.le_refl _), h2.kept hb l2, l1, l2, l3, l4⟩
  match i, hi with
  | 0, _ => rfl
  | 1, _ => rfl
  | 2, _ => rfl
  | 3, _ => rfl
  | 4, _ => rfl

theorem nodes_step {w : World} {b n k : Nat} {X Y : Nat → Nat} {G : Nat → Value} (hG : w.rowIs b 56 (n * 4) G) (hGk : ∀ i, i < k * 4 → G i = nodeCells X Y i) :
    NodesTo ((((w.setCell ⟨b, k * 4, none⟩ (.int .i64 (k : Int))).setCell ⟨b, k * 4 + 1, none⟩ (.float .f64 (X k))).setCell ⟨b, k * 4 + 2, none⟩ (.float .f64 (Y k))).setCell ⟨b, k * 4 + 3, none⟩ (.float .f64 0)) b n (k + 1) X Y := by
  refine ⟨_, World.rowIs.set (World.rowIs.set (World.rowIs.set (World.rowIs.set hG (k * 4) _) (k * 4 + 1) _) (k * 4 + 2) _) (k * 4 + 3) _, fun i hi => ?_⟩
  by_cases e3 : i = k * 4 + 3
  · rw [if_pos e3]; unfold nodeCells; rw [if_neg (by omega), if_neg (by omega), if_neg (by omega)]
  · rw [if_neg e3]
    by_cases e2 : i = k * 4 + 2
    · rw [if_pos e2]; unfold nodeCells; rw [if_neg (by omega), if_neg (by omega), if_pos (by omega), show i / 4 = k by omega]
    · rw [if_neg e2]
      by_cases e1 : i = k * 4 + 1
      · rw [if_pos e1]; unfold nodeCells; rw [if_neg (by omega), if_pos (by omega), show i / 4 = k by omega]
      · rw [if_neg e1]
        by_cases e0 : i = k * 4
        · rw [if_pos e0]; unfold nodeCells; rw [if_pos (by omega), show i / 4 = k by omega]
        · rw [if_neg e0]; exact hGk i (by omega)

set_option maxHeartbeats 2000000 in
theorem builtGabriel_any (a a' b b' : Option Addr) (l c l' c' r d r' d' n m : Nat) (X Y f g : Nat → Nat) (w : World) (hn : n ≤ 1048576) (hr : r ≤ 1048576) (hnn : n = min l l') (hm : m = min r r')
    (hX : ReadsF w a n X) (hY : ReadsF w a' n Y) (hf : Reads w b m (fun e => (f e : Nat))) (hg : Reads w b' m (fun e => (g e : Nat))) (hR : ∀ e, e < m → f e < n ∧ g e < n) :
    Calls Try.prog 25 #[.slice a l c, .slice a' l' c', .slice b r d, .slice b' r' d'] w fun e w' => ∃ (A : Nat → Nat) (T q p bN bF bA : Nat),
      e = .returned (.tuple #[.pointer (some ⟨q, 0, none⟩), .slice (some ⟨bF, 0, none⟩) (n + 1) (n + 1), .slice (some ⟨bA, 0, none⟩) T T]) ∧
      Gab w' q p n T bN bF bA X Y (off (darts f g m)) A (.slice none 0 0) (.slice none 0 0) ∧ Csr.Rows n T (outs (darts f g m)) (off (darts f g m)) A ∧ T ≤ 2 * m ∧ Below w.heap.size w w' ∧ w.heap.size ≤ q ∧ w'.heap.size = q + 1 := by
  have hmk := make_nodes n hn
  have hn1 : n ≤ l := by omega
  have hn2 : n ≤ l' := by omega
  have HN : Hid (n = min l l') := hnn
  have HM : Hid (m = min r r') := hm
  have HR : Hid (∀ e, e < m → f e < n ∧ g e < n) := hR
  have HF : Hid (Reads w b m (fun e => (f e : Nat))) := hf
  have HG : Hid (Reads w b' m (fun e => (g e : Nat))) := hg
  have HX : Hid (ReadsF w a n X) := hX
  have HY : Hid (ReadsF w a' n Y) := hY
  clear hf hg hR hm hnn hX hY
  go_enter Try.func25, Try.ntmps25
  go_wp2_with (go_at_call 23; refine (nodeCount_any _ _ _ _ _ _ _).mono ?_; rintro e w' ⟨rfl, rfl⟩; rw [← HN.out])
  refine (buildCSR_any n b b' r d r' d' m f g _ hn hr HM.out HF.out HG.out HR.out).mono ?_
  rintro e w1 ⟨A, T, rfl, h1, h2, h3, h4, h5, h6⟩
  have hB : w.heap.size + 3 ≤ w1.heap.size := by omega
  have H1 : Hid (IR w1 w.heap.size (n + 1) (fun i => (off (darts f g m) i : Nat))) := h1
  have H2 : Hid (IR w1 (w.heap.size + 1) T (fun i => (A i : Nat))) := h2
  have H3 : Hid (Csr.Rows n T (outs (darts f g m)) (off (darts f g m)) A) := h3
  have H5 : Hid (Below w.heap.size w w1) := h5
  clear h1 h2 h3 h5 h6
  go_wp2
  go_loopw [15] (fun i wr => ∃ k : Nat, k ≤ n ∧ i = .int .i64 k ∧ NodesTo wr w1.heap.size n k X Y ∧ Below w1.heap.size w1 wr ∧ wr.heap.size = w1.heap.size + 1) (fun i _ => n - (intOf i).toNat)
  case atStart =>
    obtain ⟨F, hF⟩ := nodes_made w1 n #[.int .i64 0, .float .f64 0, .float .f64 0, .float .f64 0]
    exact ⟨0, Nat.zero_le _, rfl, ⟨F, hF, fun i hi => by omega⟩, (Below.refl _ _).alloc (Nat.le_refl _) _, by simp⟩
  case round =>
    clear hmk
    obtain ⟨k, hk, rfl, ⟨G, hG, hGk⟩, hbel, hsz⟩ := hrel
    by_cases hlt : k < n
    · have B2 : Hid (Below w.heap.size w wr) := H5.out.trans (hbel.mono (by omega))
      obtain ⟨o1, q1, i1, g1, _⟩ := HX.out.elem (c := c) B2.out (Nat.le_refl _) hlt hn1
      obtain ⟨o2, q2, i2, g2, _⟩ := HY.out.elem (c := c') B2.out (Nat.le_refl _) hlt hn2
      have c0 := World.rowIs.cell hG (show k * 4 < n * 4 by omega)
      have c1 := World.rowIs.cell hG (show k * 4 + 1 < n * 4 by omega)
      have c2 := World.rowIs.cell hG (show k * 4 + 2 < n * 4 by omega)
      have c3 := World.rowIs.cell hG (show k * 4 + 3 < n * 4 by omega)
      have z0 := World.rowIs.frozen hG (k * 4)
      have z1 := World.rowIs.frozen hG (k * 4 + 1)
      have z2 := World.rowIs.frozen hG (k * 4 + 2)
      have z3 := World.rowIs.frozen hG (k * 4 + 3)
      have hk1 : (k : Int) < (n : Int) := by omega
      have R1 : Hid _ := nodes_step hG hGk
      have R2 : Hid _ := (((hbel.setCell (p := ⟨w1.heap.size, k * 4, none⟩) (Nat.le_refl _) (.int .i64 (k : Int))).setCell (p := ⟨w1.heap.size, k * 4 + 1, none⟩) (Nat.le_refl _) (.float .f64 (X k))).setCell (p := ⟨w1.heap.size, k * 4 + 2, none⟩) (Nat.le_refl _) (.float .f64 (Y k))).setCell (p := ⟨w1.heap.size, k * 4 + 3, none⟩) (Nat.le_refl _) (.float .f64 0)
      have R3 : Hid (wr.heap.size = w1.heap.size + 1) := hsz
      clear hG hGk hbel hsz
      go_wp2
      go_region
      all_goals go_wp2
      all_goals
        go_roundw
        case rel => exact ⟨k + 1, by omega, by go_num, R1, R2.out.drew, by simpa [World.setCell] using R3.out⟩
        case measure => go_light; simp [intOf]; omega
    · have R1 : Hid (Nodes wr w1.heap.size n X Y) := World.rowIs.congr hG (fun i hi => hGk i (by omega))
      have R3 : Hid (wr.heap.size = w1.heap.size + 1) := hsz
      clear hG hGk hsz
      go_wp2_with (first | (go_at_call 31; refine (newNetwork_any _ _ _ _ _ _).mono ?_; rintro e w2 ⟨rfl, rfl⟩) | (go_at_call 33; refine (newGabriel_any _ _ _ _ _ _).mono ?_; rintro e w2 ⟨rfl, rfl⟩))
      go_ret3
      have hA : wr.heap.size = w1.heap.size + 1 := R3.out
      have hnet : Net (wr.alloc (.cells #[.slice (some ⟨w1.heap.size, 0, none⟩) n n, .float .f64 0, .slice (some ⟨w.heap.size, 0, none⟩) (n + 1) (n + 1), .slice (some ⟨w.heap.size + 1, 0, none⟩) T T] 59)) wr.heap.size n T w1.heap.size w.heap.size (w.heap.size + 1) (off (darts f g m)) A :=
        net_made (H1.out.kept hbel (by omega)) (H2.out.kept hbel (by omega))
      have hnod : Nodes (wr.alloc (.cells #[.slice (some ⟨w1.heap.size, 0, none⟩) n n, .float .f64 0, .slice (some ⟨w.heap.size, 0, none⟩) (n + 1) (n + 1), .slice (some ⟨w.heap.size + 1, 0, none⟩) T T] 59)) w1.heap.size n X Y := World.rowIs.alloc R1.out _
      refine ⟨A, T, wr.heap.size + 1, wr.heap.size, w1.heap.size, w.heap.size, w.heap.size + 1, rfl, gab_made hnet hnod (by simp) (by omega) (by omega) (by omega) (by omega), H3, h4, ?_, by omega, by simp⟩
      exact ((H5.out.trans (hbel.mono (by omega))).alloc (by omega) _).alloc (by simp; omega) _

end Go.Proofs.Qxb6000855a
