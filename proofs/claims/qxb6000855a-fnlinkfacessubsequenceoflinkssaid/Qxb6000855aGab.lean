/-
  The walks of Len, Node, samePlace, (Gabriel).Neighbours, ZZB1NewGabriel, ZZB1Faces and builtGabriel.
-/
import Derived.Test.Qxb6000855aFloats
namespace Go.Proofs.Qxb6000855a
open Go.RowKit
open Bfs (upd upd_same upd_other)
open Csr (darts outs off)
attribute [local go_sem] run_store_float

/-- the cells of a row of nodes at the places X, Y -/
def nodeCells (X Y : Nat → Nat) (i : Nat) : Value :=
  if i % 4 = 0 then .int .i64 ((i / 4 : Nat) : Int) else if i % 4 = 1 then .float .f64 (X (i / 4)) else if i % 4 = 2 then .float .f64 (Y (i / 4)) else .float .f64 0
/-- a row of n nodes at the places X, Y -/
def Nodes (w : World) (b n : Nat) (X Y : Nat → Nat) : Prop := w.rowIs b 56 (n * 4) (nodeCells X Y)
theorem Nodes.cells {w : World} {b n : Nat} {X Y : Nat → Nat} (h : Nodes w b n X Y) {i : Nat} (hi : i < n) :
    w.cell? ⟨b, i * 4, none⟩ = some (.int .i64 (i : Int)) ∧ w.cell? ⟨b, i * 4 + 1, none⟩ = some (.float .f64 (X i)) ∧ w.cell? ⟨b, i * 4 + 2, none⟩ = some (.float .f64 (Y i)) ∧ w.cell? ⟨b, i * 4 + 3, none⟩ = some (.float .f64 0) := by
  refine ⟨(World.rowIs.cell h (show i * 4 < n * 4 by omega)).trans ?_, (World.rowIs.cell h (show i * 4 + 1 < n * 4 by omega)).trans ?_, (World.rowIs.cell h (show i * 4 + 2 < n * 4 by omega)).trans ?_, (World.rowIs.cell h (show i * 4 + 3 < n * 4 by omega)).trans ?_⟩
  · unfold nodeCells; rw [if_pos (by omega), show i * 4 / 4 = i by omega]
  · unfold nodeCells; rw [if_neg (by omega), if_pos (by omega), show (i * 4 + 1) / 4 = i by omega]
  · unfold nodeCells; rw [if_neg (by omega), if_neg (by omega), if_pos (by omega), show (i * 4 + 2) / 4 = i by omega]
  · unfold nodeCells; rw [if_neg (by omega), if_neg (by omega), if_neg (by omega)]

set_option maxHeartbeats 400000 in
theorem len_any (p bN n : Nat) (w : World) (h : w.cell? ⟨p, 0, none⟩ = some (.slice (some ⟨bN, 0, none⟩) n n)) :
    Calls Try.prog 35 #[.pointer (some ⟨p, 0, none⟩)] w fun e w' => e = .returned (.int .i64 n) ∧ w = w' := by
  go_enter Try.func35, Try.ntmps35
  go_wp2
  go_ret
  exact ⟨rfl, rfl⟩

set_option maxHeartbeats 400000 in
theorem node_any (p bN n i x y : Nat) (w : World) (h : w.cell? ⟨p, 0, none⟩ = some (.slice (some ⟨bN, 0, none⟩) n n)) (hi : i < n) (hp : p < w.heap.size) (hb : bN < w.heap.size)
    (c0 : w.cell? ⟨bN, i * 4, none⟩ = some (.int .i64 (i : Int))) (c1 : w.cell? ⟨bN, i * 4 + 1, none⟩ = some (.float .f64 x)) (c2 : w.cell? ⟨bN, i * 4 + 2, none⟩ = some (.float .f64 y)) (c3 : w.cell? ⟨bN, i * 4 + 3, none⟩ = some (.float .f64 0)) :
    Calls Try.prog 38 #[.pointer (some ⟨p, 0, none⟩), .int .i64 i] w fun e w' => e = .returned (.agg #[.int .i64 i, .float .f64 x, .float .f64 y, .float .f64 0]) ∧ ∃ o, w' = w.alloc o := by
  go_enter Try.func38, Try.ntmps38
  go_wp2
  exact bodyPost_ret (v := .agg #[.int .i64 i, .float .f64 x, .float .f64 y, .float .f64 0]) (by simp [results, Try.results38, go_sem]) rfl ⟨rfl, _, rfl⟩

set_option maxHeartbeats 400000 in
theorem samePlace_any (x y z x' y' z' : Nat) (w : World) :
    Calls Try.prog 37 #[.agg #[.float .f64 x, .float .f64 y, .float .f64 z], .agg #[.float .f64 x', .float .f64 y', .float .f64 z']] w fun e w' => e = .returned (.bool (feq x x' && feq y y')) ∧ ∃ o o', w' = (w.alloc o).alloc o' := by
  cases h1 : feq x x'
  · have f1 : (FloatKind.f64.format.order x x' == some .eq) = false := h1
    clear h1
    go_enter Try.func37, Try.ntmps37
    go_wp2
    go_ret
    exact ⟨rfl, _, _, rfl⟩
  · have f1 : (FloatKind.f64.format.order x x' == some .eq) = true := h1
    cases h2 : feq y y'
    · have f2 : (FloatKind.f64.format.order y y' == some .eq) = false := h2
      clear h1 h2
      go_enter Try.func37, Try.ntmps37
      go_wp2
      go_ret
      exact ⟨rfl, _, _, rfl⟩
    · have f2 : (FloatKind.f64.format.order y y' == some .eq) = true := h2
      clear h1 h2
      go_enter Try.func37, Try.ntmps37
      go_wp2
      go_ret
      exact ⟨rfl, _, _, rfl⟩

/-- the cells of a Gabriel graph -/
def gabCells (p bF bA n T : Nat) (ff fc : Value) (i : Nat) : Value :=
  if i = 0 then .pointer (some ⟨p, 0, none⟩) else if i = 1 then .slice (some ⟨bF, 0, none⟩) (n + 1) (n + 1) else if i = 2 then .slice (some ⟨bA, 0, none⟩) T T else if i = 3 then ff else fc

/-- a Gabriel graph in memory -/
structure Gab (w : World) (g p n T bN bF bA : Nat) (X Y F A : Nat → Nat) (ff fc : Value) : Prop where
  row : w.rowIs g 62 5 (gabCells p bF bA n T ff fc)
  net : Net w p n T bN bF bA F A
  nodes : Nodes w bN n X Y
  lp : p < g
  lN : bN < g
  lF : bF < g
  lA : bA < g

theorem Gab.c0 {w : World} {g p n T bN bF bA : Nat} {X Y F A : Nat → Nat} {ff fc : Value} (h : Gab w g p n T bN bF bA X Y F A ff fc) : w.cell? ⟨g, 0, none⟩ = some (.pointer (some ⟨p, 0, none⟩)) := World.rowIs.cell h.row (show 0 < 5 by omega)
theorem Gab.c1 {w : World} {g p n T bN bF bA : Nat} {X Y F A : Nat → Nat} {ff fc : Value} (h : Gab w g p n T bN bF bA X Y F A ff fc) : w.cell? ⟨g, 1, none⟩ = some (.slice (some ⟨bF, 0, none⟩) (n + 1) (n + 1)) := World.rowIs.cell h.row (show 1 < 5 by omega)
theorem Gab.c2 {w : World} {g p n T bN bF bA : Nat} {X Y F A : Nat → Nat} {ff fc : Value} (h : Gab w g p n T bN bF bA X Y F A ff fc) : w.cell? ⟨g, 2, none⟩ = some (.slice (some ⟨bA, 0, none⟩) T T) := World.rowIs.cell h.row (show 2 < 5 by omega)
theorem Gab.c3 {w : World} {g p n T bN bF bA : Nat} {X Y F A : Nat → Nat} {ff fc : Value} (h : Gab w g p n T bN bF bA X Y F A ff fc) : w.cell? ⟨g, 3, none⟩ = some ff := World.rowIs.cell h.row (show 3 < 5 by omega)
theorem Gab.c4 {w : World} {g p n T bN bF bA : Nat} {X Y F A : Nat → Nat} {ff fc : Value} (h : Gab w g p n T bN bF bA X Y F A ff fc) : w.cell? ⟨g, 4, none⟩ = some fc := World.rowIs.cell h.row (show 4 < 5 by omega)

theorem Nodes.kept {w w' : World} {b n B : Nat} {X Y : Nat → Nat} (h : Nodes w b n X Y) (hb : Below B w w') (hB : b < B) : Nodes w' b n X Y := World.rowIs.of_block h (hb.block b hB)
theorem Gab.kept {w w' : World} {g p n T bN bF bA B : Nat} {X Y F A : Nat → Nat} {ff fc : Value} (h : Gab w g p n T bN bF bA X Y F A ff fc) (hb : Below B w w') (hB : g < B) : Gab w' g p n T bN bF bA X Y F A ff fc := by
  have hN := h.net
  have h1 := h.lp
  have h2 := h.lF
  have h3 := h.lA
  have h4 := h.lN
  have h5 := World.rowIs.lt h.row
  have hs := hb.size
  refine ⟨World.rowIs.of_block h.row (hb.block g hB), ⟨by omega, ?_, ?_, ?_, hN.firsts.kept hb (by omega), hN.adjs.kept hb (by omega)⟩, h.nodes.kept hb (by omega), h1, h4, h2, h3⟩
  · exact (hb.cell (p := ⟨p, 0, none⟩) (by show p < B; omega)).trans hN.nodes
  · exact (hb.cell (p := ⟨p, 2, none⟩) (by show p < B; omega)).trans hN.first
  · exact (hb.cell (p := ⟨p, 3, none⟩) (by show p < B; omega)).trans hN.adj

/-- a store into the graph's last two fields -/
theorem Gab.set3 {w : World} {g p n T bN bF bA : Nat} {X Y F A : Nat → Nat} {ff fc : Value} (h : Gab w g p n T bN bF bA X Y F A ff fc) (v : Value) : Gab (w.setCell ⟨g, 3, none⟩ v) g p n T bN bF bA X Y F A v fc := by
  have h1 := h.lp
  have h2 := h.lF
  have h3 := h.lA
  have h4 := h.lN
  have hb : Below g w (w.setCell ⟨g, 3, none⟩ v) := (Below.refl g w).setCell (p := ⟨g, 3, none⟩) (Nat.le_refl g) v
  have hN := h.net
  refine ⟨World.rowIs.congr (World.rowIs.set h.row 3 v) (fun i hi => ?_), ⟨by have := hN.lt; have := hb.size; omega, ?_, ?_, ?_, hN.firsts.kept hb h2, hN.adjs.kept hb h3⟩, h.nodes.kept hb h4, h1, h4, h2, h3⟩
  · unfold gabCells
    by_cases e0 : i = 0
    · subst e0; simp
    · by_cases e1 : i = 1
      · subst e1; simp
      · by_cases e2 : i = 2
        · subst e2; simp
        · by_cases e3 : i = 3
          · subst e3; simp
          · simp [e0, e1, e2, e3]
  · exact (hb.cell (p := ⟨p, 0, none⟩) h1).trans hN.nodes
  · exact (hb.cell (p := ⟨p, 2, none⟩) h1).trans hN.first
  · exact (hb.cell (p := ⟨p, 3, none⟩) h1).trans hN.adj
theorem Gab.set4 {w : World} {g p n T bN bF bA : Nat} {X Y F A : Nat → Nat} {ff fc : Value} (h : Gab w g p n T bN bF bA X Y F A ff fc) (v : Value) : Gab (w.setCell ⟨g, 4, none⟩ v) g p n T bN bF bA X Y F A ff v := by
  have h1 := h.lp
  have h2 := h.lF
  have h3 := h.lA
  have h4 := h.lN
  have hb : Below g w (w.setCell ⟨g, 4, none⟩ v) := (Below.refl g w).setCell (p := ⟨g, 4, none⟩) (Nat.le_refl g) v
  have hN := h.net
  refine ⟨World.rowIs.congr (World.rowIs.set h.row 4 v) (fun i hi => ?_), ⟨by have := hN.lt; have := hb.size; omega, ?_, ?_, ?_, hN.firsts.kept hb h2, hN.adjs.kept hb h3⟩, h.nodes.kept hb h4, h1, h4, h2, h3⟩
  · unfold gabCells
    by_cases e0 : i = 0
    · subst e0; simp
    · by_cases e1 : i = 1
      · subst e1; simp
      · by_cases e2 : i = 2
        · subst e2; simp
        · by_cases e3 : i = 3
          · subst e3; simp
          · have e4 : i = 4 := by omega
            subst e4; simp
  · exact (hb.cell (p := ⟨p, 0, none⟩) h1).trans hN.nodes
  · exact (hb.cell (p := ⟨p, 2, none⟩) h1).trans hN.first
  · exact (hb.cell (p := ⟨p, 3, none⟩) h1).trans hN.adj

set_option maxHeartbeats 2000000 in
theorem gneighbours_any {w : World} {g p n T bN bF bA : Nat} {X Y F A : Nat → Nat} {ff fc : Value} {nb : Nat → List Nat} (h : Gab w g p n T bN bF bA X Y F A ff fc) (hr : Csr.Rows n T nb F A) (hn : n ≤ 1048576) (_hT : T ≤ 2097152) (i : Nat) (hi : i < n) :
    Calls Try.prog 36 #[.pointer (some ⟨g, 0, none⟩), .int .i64 i] w fun e w' => (∃ x, e = .returned (.slice (some ⟨bA, x, none⟩) (nb i).length (nb i).length) ∧ (0 < (nb i).length → x = F i)) ∧ ∃ k, w' = w.drewN k := by
  have c1 := h.c1
  have c2 := h.c2
  have c3 : w.cell? ⟨bF, i, none⟩ = some (.int .i64 (F i : Nat)) := World.rowIs.cell h.net.firsts (show i < n + 1 by omega)
  have c4 : w.cell? ⟨bF, i + 1, none⟩ = some (.int .i64 (F (i + 1) : Nat)) := World.rowIs.cell h.net.firsts (show i + 1 < n + 1 by omega)
  have e1 := hr.step i hi
  have e2 := Csr.rows_mono hr (show i + 1 ≤ n by omega) (Nat.le_refl _)
  rw [hr.last] at e2
  generalize F (i + 1) = x2 at *
  generalize F i = x1 at *
  generalize (nb i).length = d at *
  subst e1
  clear h hr
  by_cases hd : d = 0
  · subst hd
    go_enter Try.func36, Try.ntmps36
    go_wp2
    go_quiet (fail)
    go_wp2
    go_ret
    exact ⟨⟨0, rfl, fun h => by omega⟩, _, rfl⟩
  · go_enter Try.func36, Try.ntmps36
    go_wp2
    go_quiet (fail)
    go_wp2
    go_ret
    exact ⟨⟨x1, ret_slice (by omega), fun _ => rfl⟩, _, rfl⟩

set_option maxHeartbeats 400000 in
theorem newGabriel_any (p bF bA n T : Nat) (w : World) :
    Calls Try.prog 33 #[.pointer (some ⟨p, 0, none⟩), .slice (some ⟨bF, 0, none⟩) (n + 1) (n + 1), .slice (some ⟨bA, 0, none⟩) T T] w fun e w' => e = .returned (.pointer (some ⟨w.heap.size, 0, none⟩)) ∧
      w' = w.alloc (.cells #[.pointer (some ⟨p, 0, none⟩), .slice (some ⟨bF, 0, none⟩) (n + 1) (n + 1), .slice (some ⟨bA, 0, none⟩) T T, .slice none 0 0, .slice none 0 0] 62) := by
  go_enter Try.func33, Try.ntmps33
  go_wp2
  go_ret
  exact ⟨rfl, rfl⟩

set_option maxHeartbeats 400000 in
theorem faces_any (g : Nat) (w : World) (a a' : Option Addr) (l c l' c' : Nat) (h1 : w.cell? ⟨g, 3, none⟩ = some (.slice a l c)) (h2 : w.cell? ⟨g, 4, none⟩ = some (.slice a' l' c')) :
    Calls Try.prog 27 #[.pointer (some ⟨g, 0, none⟩)] w fun e w' => e = .returned (.tuple #[.slice a l c, .slice a' l' c']) ∧ ∃ k, w' = w.drewN k := by
  go_enter Try.func27, Try.ntmps27
  go_wp2
  go_quiet (fail)
  go_wp2
  go_ret2
  exact ⟨rfl, _, rfl⟩

end Go.Proofs.Qxb6000855a
