/-
  The walks of ZZB1NewNetwork, plainNetwork and (Network).Neighbours.
-/
import Derived.Test.Qxb6000855aBuild
namespace Go.Proofs.Qxb6000855a
open Go.RowKit
open Bfs (upd upd_same upd_other)
open Csr (darts outs off)

theorem Try.info56 : (Try.prog.info? 56).map (fun i => (i.zero, i.size, i.bytes)) = some (some (.agg #[.int .i64 0, .float .f64 0, .float .f64 0, .float .f64 0]), 4, 32) := by kernel_rfl

/-- make([]Node, n) -/
theorem make_nodes (n : Nat) (hn : n ≤ 1048576) (w : World) : (Instr.makeSlice 52 (.int .i64 (n : Int)) (.int .i64 (n : Int))).run Try.prog w =
    .ok (.slice (some ⟨w.heap.size, 0, none⟩) n n) (w.alloc (.cells (madeCells #[.int .i64 0, .float .f64 0, .float .f64 0, .float .f64 0] (n * 4)) 56)) := by
  obtain ⟨i, hi, hzz⟩ := Option.map_eq_some_iff.1 Try.info56
  simp only [Prod.mk.injEq] at hzz
  obtain ⟨hz, hs, hb⟩ := hzz
  have h := run_make (P := Try.prog) w 52 56 i _ Try.underlying52 hi hz .i64 .i64 n n (by omega) (Int.le_refl _) (by rw [hb]; omega) (by omega)
  rw [h, hs, Int.toNat_natCast]
  rfl

/-- a row of n nodes, whatever they hold -/
def NodesAt (w : World) (b n : Nat) : Prop := ∃ F, w.rowIs b 56 (n * 4) F
theorem nodes_made (w : World) (n : Nat) (z : Array Value) : NodesAt (w.alloc (.cells (madeCells z (n * 4)) 56)) w.heap.size n := by
  have h := World.rowIs_alloc w (madeCells z (n * 4)) 56 (fun i => (madeCells z (n * 4)).getD i (.bool false)) (fun i hi => by simp [Array.getD, hi])
  rw [size_madeCells] at h
  exact ⟨_, h⟩

/-- a network in memory -/
structure Net (w : World) (p n T bN bF bA : Nat) (F A : Nat → Nat) : Prop where
  lt : p < w.heap.size
  nodes : w.cell? ⟨p, 0, none⟩ = some (.slice (some ⟨bN, 0, none⟩) n n)
  first : w.cell? ⟨p, 2, none⟩ = some (.slice (some ⟨bF, 0, none⟩) (n + 1) (n + 1))
  adj : w.cell? ⟨p, 3, none⟩ = some (.slice (some ⟨bA, 0, none⟩) T T)
  firsts : IR w bF (n + 1) (fun i => (F i : Nat))
  adjs : IR w bA T (fun i => (A i : Nat))

theorem Net.kept {w w' : World} {p n T bN bF bA B : Nat} {F A : Nat → Nat} (h : Net w p n T bN bF bA F A) (hb : Below B w w') (hB : w.heap.size ≤ B) : Net w' p n T bN bF bA F A := by
  have h1 := h.lt
  have h2 := World.rowIs.lt h.firsts
  have h3 := World.rowIs.lt h.adjs
  exact ⟨Nat.lt_of_lt_of_le h.lt hb.size, (hb.cell (p := ⟨p, 0, none⟩) (by show p < B; omega)).trans h.nodes, (hb.cell (p := ⟨p, 2, none⟩) (by show p < B; omega)).trans h.first,
    (hb.cell (p := ⟨p, 3, none⟩) (by show p < B; omega)).trans h.adj, h.firsts.kept hb (by omega), h.adjs.kept hb (by omega)⟩

theorem new_cell {w : World} {xs : Array Value} {t : TypeId} {i : Nat} {v : Value} (h : xs[i]? = some v) : (w.alloc (.cells xs t)).cell? ⟨w.heap.size, i, none⟩ = some v := by
  unfold World.cell?
  rw [Deep.blk_alloc_new]
  exact h

theorem ret_slice {a : Option Addr} {n n' : Nat} (h : n = n') : Ending.returned (.slice a n n) = .returned (.slice a n' n') := by rw [h]

theorem net_made {w : World} {bN bF bA n T : Nat} {F A : Nat → Nat} (h1 : IR w bF (n + 1) (fun i => (F i : Nat))) (h2 : IR w bA T (fun i => (A i : Nat))) :
    Net (w.alloc (.cells #[.slice (some ⟨bN, 0, none⟩) n n, .float .f64 0, .slice (some ⟨bF, 0, none⟩) (n + 1) (n + 1), .slice (some ⟨bA, 0, none⟩) T T] 59)) w.heap.size n T bN bF bA F A :=
  ⟨by simp, new_cell rfl, new_cell rfl, new_cell rfl, h1.alloc _, h2.alloc _⟩

set_option maxHeartbeats 400000 in
theorem newNetwork_any (bN bF bA n T : Nat) (w : World) :
    Calls Try.prog 31 #[.slice (some ⟨bN, 0, none⟩) n n, .slice (some ⟨bF, 0, none⟩) (n + 1) (n + 1), .slice (some ⟨bA, 0, none⟩) T T] w fun e w' => e = .returned (.pointer (some ⟨w.heap.size, 0, none⟩)) ∧
      w' = w.alloc (.cells #[.slice (some ⟨bN, 0, none⟩) n n, .float .f64 0, .slice (some ⟨bF, 0, none⟩) (n + 1) (n + 1), .slice (some ⟨bA, 0, none⟩) T T] 59) := by
  go_enter Try.func31, Try.ntmps31
  go_wp2
  go_ret
  exact ⟨rfl, rfl⟩

set_option maxHeartbeats 2000000 in
theorem plainNetwork_any (n : Nat) (a a' : Option Addr) (l c l' c' m : Nat) (f g : Nat → Nat) (w : World) (hn : n ≤ 1048576) (hl : l ≤ 1048576) (hm : m = min l l')
    (hf : Reads w a m (fun e => (f e : Nat))) (hg : Reads w a' m (fun e => (g e : Nat))) (hr : ∀ e, e < m → f e < n ∧ g e < n) :
    Calls Try.prog 15 #[.int .i64 n, .slice a l c, .slice a' l' c'] w fun e w' => ∃ (A : Nat → Nat) (T p bN bF bA : Nat),
      e = .returned (.pointer (some ⟨p, 0, none⟩)) ∧ Net w' p n T bN bF bA (off (darts f g m)) A ∧ Csr.Rows n T (outs (darts f g m)) (off (darts f g m)) A ∧ T ≤ 2 * m ∧ Below w.heap.size w w' := by
  have hmk := make_nodes n hn
  have HM : Hid (m = min l l') := hm
  have HR : Hid (∀ e, e < m → f e < n ∧ g e < n) := hr
  have HF : Hid (Reads w a m (fun e => (f e : Nat))) := hf
  have HG : Hid (Reads w a' m (fun e => (g e : Nat))) := hg
  clear hf hg hr hm
  go_enter Try.func15, Try.ntmps15
  go_wp2_with fail
  refine (buildCSR_any n a a' l c l' c' m f g _ hn hl HM.out HF.out HG.out HR.out).mono ?_
  rintro e w1 ⟨A, T, rfl, h1, h2, h3, h4, h5, h6⟩
  have hB : w.heap.size + 3 ≤ w1.heap.size := by omega
  have H1 : Hid (IR w1 w.heap.size (n + 1) (fun i => (off (darts f g m) i : Nat))) := h1
  have H2 : Hid (IR w1 (w.heap.size + 1) T (fun i => (A i : Nat))) := h2
  have H3 : Hid (Csr.Rows n T (outs (darts f g m)) (off (darts f g m)) A) := h3
  have H5 : Hid (Below w.heap.size w w1) := h5
  clear h1 h2 h3 h5 h6
  go_wp2
  go_loopw [10] (fun i wr => ∃ k : Nat, k ≤ n ∧ i = .int .i64 k ∧ NodesAt wr w1.heap.size n ∧ Below w1.heap.size w1 wr ∧ wr.heap.size = w1.heap.size + 1) (fun i _ => n - (intOf i).toNat)
  case atStart => exact ⟨0, Nat.zero_le _, rfl, nodes_made w1 n _, (Below.refl _ _).alloc (Nat.le_refl _) _, by simp⟩
  case round =>
    clear hmk
    obtain ⟨k, hk, rfl, hN, hbel, hsz⟩ := hrel
    by_cases hlt : k < n
    · obtain ⟨G, hG⟩ := hN
      have c1 := World.rowIs.cell hG (show k * 4 < n * 4 by omega)
      have z1 := World.rowIs.frozen hG (k * 4)
      have R1 : Hid (NodesAt (wr.setCell ⟨w1.heap.size, k * 4, none⟩ (.int .i64 k)) w1.heap.size n) := ⟨_, World.rowIs.set hG (k * 4) (.int .i64 k)⟩
      have R2 : Hid _ := hbel.setCell (p := ⟨w1.heap.size, k * 4, none⟩) (Nat.le_refl _) (.int .i64 k)
      have R3 : Hid (wr.heap.size = w1.heap.size + 1) := hsz
      clear hG hbel hsz
      go_wp2
      go_roundw
      case rel => exact ⟨k + 1, by omega, by go_num, R1, R2, by simpa [World.setCell] using R3.out⟩
      case measure => go_light; simp [intOf]; omega
    · have R3 : Hid (wr.heap.size = w1.heap.size + 1) := hsz
      clear hsz
      go_wp2_with (go_at_call 31; refine (newNetwork_any _ _ _ _ _ _).mono ?_; rintro e w2 ⟨rfl, rfl⟩)
      go_ret
      have hA : wr.heap.size = w1.heap.size + 1 := R3.out
      refine ⟨A, T, wr.heap.size, w1.heap.size, w.heap.size, w.heap.size + 1, rfl, net_made (H1.out.kept hbel (by omega)) (H2.out.kept hbel (by omega)), H3, h4, ?_⟩
      exact (H5.out.trans (hbel.mono (by omega))).alloc (by omega) _

set_option maxHeartbeats 2000000 in
theorem neighbours_any {w : World} {p n T bN bF bA : Nat} {nb : Nat → List Nat} {F A : Nat → Nat} (h : Net w p n T bN bF bA F A) (hr : Csr.Rows n T nb F A) (hn : n ≤ 1048576) (_hT : T ≤ 2097152) (i : Nat) (hi : i < n) :
    Calls Try.prog 32 #[.pointer (some ⟨p, 0, none⟩), .int .i64 i] w fun e w' => (∃ x, e = .returned (.slice (some ⟨bA, x, none⟩) (nb i).length (nb i).length) ∧ (0 < (nb i).length → x = F i)) ∧ ∃ k, w' = w.drewN k := by
  have c1 := h.first
  have c2 := h.adj
  have c3 : w.cell? ⟨bF, i, none⟩ = some (.int .i64 (F i : Nat)) := World.rowIs.cell h.firsts (show i < n + 1 by omega)
  have c4 : w.cell? ⟨bF, i + 1, none⟩ = some (.int .i64 (F (i + 1) : Nat)) := World.rowIs.cell h.firsts (show i + 1 < n + 1 by omega)
  have e1 := hr.step i hi
  have e2 := Csr.rows_mono hr (show i + 1 ≤ n by omega) (Nat.le_refl _)
  rw [hr.last] at e2
  generalize F (i + 1) = x2 at *
  generalize F i = x1 at *
  generalize (nb i).length = d at *
  subst e1
  clear h hr
  by_cases hd : d = 0
  · subst hd
    go_enter Try.func32, Try.ntmps32
    go_wp2
    go_quiet (fail)
    go_wp2
    go_ret
    exact ⟨⟨0, rfl, fun h => by omega⟩, _, rfl⟩
  · go_enter Try.func32, Try.ntmps32
    go_wp2
    go_quiet (fail)
    go_wp2
    go_ret
    exact ⟨⟨x1, ret_slice (by omega), fun _ => rfl⟩, _, rfl⟩

end Go.Proofs.Qxb6000855a
