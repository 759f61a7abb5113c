/-
  The walk of (Gabriel).linkFaces.
-/
import Derived.Test.Qxb6000855aGabBuilt
import Derived.Deep.RegionHeld3
import Derived.Deep.AppendLies
import Derived.Deep.DrawnRows
import Derived.Deep.RegionLaw
namespace Go.Proofs.Qxb6000855a
open Go.RowKit
open Bfs (upd upd_same upd_other)
attribute [local go_sem] run_store_float

/-- two nodes at one place -/
def samePl (X Y : Nat → Nat) (i j : Nat) : Bool := feq (X i) (X j) && feq (Y i) (Y j)

theorem node_of {w w' : World} {g p n T bN bF bA B : Nat} {X Y F A : Nat → Nat} {ff fc : Value} (h : Gab w g p n T bN bF bA X Y F A ff fc) (hb : Below B w w') (hB : g < B) (i : Nat) (hi : i < n) :
    Calls Try.prog 38 #[.pointer (some ⟨p, 0, none⟩), .int .i64 i] w' fun e w'' => e = .returned (.agg #[.int .i64 i, .float .f64 (X i), .float .f64 (Y i), .float .f64 0]) ∧ ∃ o, w'' = w'.alloc o := by
  have h' := h.kept hb hB
  have c := h'.nodes.cells hi
  have l1 := h'.net.lt
  have l2 := World.rowIs.lt h'.nodes
  exact node_any p bN n i (X i) (Y i) w' h'.net.nodes hi l1 l2 c.1 c.2.1 c.2.2.1 c.2.2.2

theorem field_point (i : Int) (x y z : Nat) (w : World) : (Instr.field 56 (.agg #[.int .i64 i, .float .f64 x, .float .f64 y, .float .f64 z]) 1).run Try.prog w = .ok (.agg #[.float .f64 x, .float .f64 y, .float .f64 z]) w := by kernel_rfl
attribute [local go_sem] field_point

theorem ld_round {nb : Nat → List Nat} {same : Nat → Nat → Bool} {k x : Nat} (h : Faces.ld nb same k = x) (i : Nat) :
    upd (fun j => if j < k then ((Faces.ld nb same j : Nat) : Int) else 0) k (x : Int) i = if i < k + 1 then ((Faces.ld nb same i : Nat) : Int) else 0 := by
  unfold upd
  by_cases e : i = k
  · subst e; simp [h]
  · by_cases e2 : i < k
    · simp [e, e2, show i < k + 1 by omega]
    · simp [e, e2, show ¬ i < k + 1 by omega]

theorem IR_alloc4 {w : World} {b n : Nat} {f : Nat → Int} (h : IR w b n f) (o1 o2 o3 o4 : Obj) : IR ((((w.alloc o1).alloc o2).alloc o3).alloc o4).drew b n f := IR.alloc (IR.alloc (IR.alloc (IR.alloc h o1) o2) o3) o4
theorem IR_alloc4_set {w : World} {b n : Nat} {f : Nat → Int} (h : IR w b n f) (o1 o2 o3 o4 : Obj) (k : Nat) (x : Int) : IR (((((w.alloc o1).alloc o2).alloc o3).alloc o4).setCell ⟨b, k, none⟩ (.int .i64 x)).drew b n (upd f k x) := IR.set (IR.alloc (IR.alloc (IR.alloc (IR.alloc h o1) o2) o3) o4) k x
theorem below_alloc4 {B : Nat} {w W : World} (h : Below B w W) (hB : B ≤ W.heap.size) (o1 o2 o3 o4 : Obj) : Below B w ((((W.alloc o1).alloc o2).alloc o3).alloc o4).drew :=
  ((((h.alloc hB o1).alloc (by simp; omega) o2).alloc (by simp; omega) o3).alloc (by simp; omega) o4).drew
theorem below_alloc4_set {B : Nat} {w W : World} (h : Below B w W) (hB : B ≤ W.heap.size) (o1 o2 o3 o4 : Obj) (k : Nat) (v : Value) : Below B w (((((W.alloc o1).alloc o2).alloc o3).alloc o4).setCell ⟨B, k, none⟩ v).drew :=
  (((((h.alloc hB o1).alloc (by simp; omega) o2).alloc (by simp; omega) o3).alloc (by simp; omega) o4).setCell (p := ⟨B, k, none⟩) (Nat.le_refl _) v).drew
theorem upd_upd (f : Nat → Int) (k : Nat) (x y : Int) (i : Nat) : upd (upd f k x) k y i = upd f k y i := by unfold upd; split <;> rfl

theorem keepS {W w' : World} {a1 a2 : Addr} {v1 v2 : Value} (h : w'.cell? a1 = some v1 ∧ w'.cell? a2 = some v2 ∧ Below W.heap.size W w') (o : Obj) :
    (w'.alloc o).cell? a1 = some v1 ∧ (w'.alloc o).cell? a2 = some v2 ∧ Below W.heap.size W (w'.alloc o) :=
  ⟨(World.cell?_alloc_some w' a1 o (by rw [h.1]; rfl)).trans h.1, (World.cell?_alloc_some w' a2 o (by rw [h.2.1]; rfl)).trans h.2.1, h.2.2.alloc h.2.2.size _⟩

theorem keepF {wr : World} {a1 a2 : Addr} {v1 v2 : Value} (h : wr.cell? a1 = some v1 ∧ wr.cell? a2 = some v2 ∧ wr.frozen? a1 = false) (o : Obj) :
    (wr.alloc o).cell? a1 = some v1 ∧ (wr.alloc o).cell? a2 = some v2 ∧ (wr.alloc o).frozen? a1 = false := by
  have hb : Below wr.heap.size wr (wr.alloc o) := (Below.refl _ _).alloc (Nat.le_refl _) _
  exact ⟨(hb.cell (World.block_lt_of_cell? wr a1 h.1)).trans h.1, (hb.cell (World.block_lt_of_cell? wr a2 h.2.1)).trans h.2.1, (hb.frozen (World.block_lt_of_cell? wr a1 h.1)).trans h.2.2⟩

theorem keepDr {W w' : World} {a1 a2 : Addr} {v1 v2 : Value} (h : w'.cell? a1 = some v1 ∧ w'.cell? a2 = some v2 ∧ Below W.heap.size W w') :
    w'.drew.cell? a1 = some v1 ∧ w'.drew.cell? a2 = some v2 ∧ Below W.heap.size W w'.drew := ⟨h.1, h.2.1, h.2.2.drew⟩

/-- the state of the second loop: what has been gathered, and where it lies -/
structure Fac (w w1 wr : World) (g p n T bN bF bA : Nat) (X Y F A : Nat → Nat) (lead : Nat → Nat) (L : List Nat) (a : Option Addr) (c : Nat) (ffr : Nat → Int) : Prop where
  gab : Gab wr g p n T bN bF bA X Y F A (.slice (some ⟨w1.heap.size, 0, none⟩) (n + 1) (n + 1)) (.slice a L.length c)
  lead : IR wr w.heap.size n (fun j => (lead j : Nat))
  ffs : IR wr w1.heap.size (n + 1) ffr
  own : wr.ownsRow (w1.heap.size + 1) 3 1 (.slice a L.length c) L.length (L.map (fun j => .int .i64 (j : Nat)))
  below : Below g w wr
  size : w1.heap.size + 1 ≤ wr.heap.size
  lg : g < w.heap.size
  lw : w.heap.size < w1.heap.size

variable {w w1 wr : World} {g p n T bN bF bA : Nat} {X Y F A : Nat → Nat} {lead : Nat → Nat} {L : List Nat} {a : Option Addr} {c : Nat} {ffr : Nat → Int}

theorem Fac.grown (h : Fac w w1 wr g p n T bN bF bA X Y F A lead L a c ffr) {Wa w2 : World} (hb1 : Below wr.heap.size wr Wa) (hg : Wa.grownBy w2 (Value.slice a L.length c).ownBlock) : Below (w1.heap.size + 1) wr w2 := by
  have h1 := h.size
  have h2 := hb1.size
  exact (hb1.mono h1).grown hg (by omega) (fun k e => (h.own.lt k e).1)

theorem Fac.f1 (h : Fac w w1 wr g p n T bN bF bA X Y F A lead L a c ffr) {w2 : World} (hb : Below (w1.heap.size + 1) wr w2) : w2.cell? ⟨g, 4, none⟩ = some (.slice a L.length c) := by
  have h1 := h.lg
  have h2 := h.lw
  exact (hb.cell (p := ⟨g, 4, none⟩) (by show g < w1.heap.size + 1; omega)).trans h.gab.c4
theorem Fac.f2 (h : Fac w w1 wr g p n T bN bF bA X Y F A lead L a c ffr) {w2 : World} (hb : Below (w1.heap.size + 1) wr w2) : w2.frozen? ⟨g, 4, none⟩ = false := by
  have h1 := h.lg
  have h2 := h.lw
  exact (hb.frozen (p := ⟨g, 4, none⟩) (by show g < w1.heap.size + 1; omega)).trans (World.rowIs.frozen h.gab.row 4)

theorem Fac.app (h : Fac w w1 wr g p n T bN bF bA X Y F A lead L a c ffr) {w2 : World} (hb : Below (w1.heap.size + 1) wr w2) {x gg cap : Nat}
    (ho : w2.ownsRow (w1.heap.size + 1) 3 1 (.slice (some ⟨gg, 0, none⟩) (L.length + 1) cap) (L.length + 1) (L.map (fun j => .int .i64 (j : Nat)) ++ [.int .i64 (x : Nat)])) :
    Fac w w1 (w2.setCell ⟨g, 4, none⟩ (.slice (some ⟨gg, 0, none⟩) (L.length + 1) cap)) g p n T bN bF bA X Y F A lead (L ++ [x]) (some ⟨gg, 0, none⟩) cap ffr := by
  have h1 := h.lg
  have h2 := h.lw
  have h3 := h.size
  have e : (L ++ [x]).length = L.length + 1 := by simp
  have e2 : (L ++ [x]).map (fun j => Value.int .i64 (j : Nat)) = L.map (fun j => .int .i64 (j : Nat)) ++ [.int .i64 (x : Nat)] := by simp
  refine ⟨?_, IR.other (h.lead.kept hb (by omega)) (by show w.heap.size ≠ g; omega) _, IR.other (h.ffs.kept hb (by omega)) (by show w1.heap.size ≠ g; omega) _, ?_, ?_, ?_, h1, h2⟩
  · rw [e]; exact (h.gab.kept hb (by omega)).set4 _
  · rw [e, e2]; exact ownsRow_setCell_below ho (by show g < w1.heap.size + 1; omega) _
  · exact (h.below.trans (hb.mono (by omega))).setCell (p := ⟨g, 4, none⟩) (Nat.le_refl _) _
  · have := hb.size
    have e3 : (w2.setCell ⟨g, 4, none⟩ (.slice (some ⟨gg, 0, none⟩) (L.length + 1) cap)).heap.size = w2.heap.size := by simp [World.setCell]
    omega

theorem Fac.drewN (h : Fac w w1 wr g p n T bN bF bA X Y F A lead L a c ffr) (k : Nat) : Fac w w1 (wr.drewN k) g p n T bN bF bA X Y F A lead L a c ffr :=
  ⟨h.gab.kept (below_drewN (Below.refl (g + 1) wr) k) (by omega), h.lead, h.ffs, h.own, below_drewN h.below k, h.size, h.lg, h.lw⟩

/-- the row's start of the next node -/
theorem Fac.first (h : Fac w w1 wr g p n T bN bF bA X Y F A lead L a c ffr) (i : Nat) (x : Int) : Fac w w1 (wr.setCell ⟨w1.heap.size, i, none⟩ (.int .i64 x)) g p n T bN bF bA X Y F A lead L a c (upd ffr i x) := by
  have h1 := h.lg
  have h2 := h.lw
  have h3 := h.size
  have hb : Below w1.heap.size wr (wr.setCell ⟨w1.heap.size, i, none⟩ (.int .i64 x)) := (Below.refl _ wr).setCell (p := ⟨w1.heap.size, i, none⟩) (Nat.le_refl _) _
  refine ⟨h.gab.kept hb (by omega), IR.other h.lead (by show w.heap.size ≠ w1.heap.size; omega) _, IR.set h.ffs i x, ownsRow_setCell_below h.own (by show w1.heap.size < w1.heap.size + 1; omega) _, ?_, by simpa [World.setCell] using h3, h1, h2⟩
  exact h.below.setCell (p := ⟨w1.heap.size, i, none⟩) (by show g ≤ w1.heap.size; omega) _

theorem reads_own {w : World} {base : Nat} {L : List Nat} {a : Option Addr} {c : Nat} (h : w.ownsRow base 3 1 (.slice a L.length c) L.length (L.map (fun j => .int .i64 (j : Nat)))) : Reads w a L.length (fun i => ((L.getD i 0 : Nat) : Int)) := by
  intro hn
  obtain ⟨_, h⟩ := h
  rcases h with ⟨h1, h2⟩ | ⟨g, cap, cur, hv, hb, hg, h1, h2, h3, h4⟩
  · omega
  · simp only [Value.slice.injEq] at hv
    obtain ⟨rfl, _, rfl⟩ := hv
    have hlt : g < w.heap.size := by
      rcases Nat.lt_or_ge g w.heap.size with hlt | hge
      · exact hlt
      · rw [Array.getElem?_eq_none hge] at hg; cases hg
    refine ⟨g, 0, rfl, hlt, fun i hi => ?_⟩
    unfold World.cell?
    rw [hg]
    show cur[0 + i]? = some (Value.int .i64 ((L.getD i 0 : Nat) : Int))
    have e := congrArg (fun l : List Value => l[i]?) h4
    simp only [Nat.mul_one, List.getElem?_take, hi, if_true, List.getElem?_map] at e
    rw [Nat.zero_add, ← Array.getElem?_toList, e, List.getElem?_eq_getElem hi]
    simp [List.getD, List.getElem?_eq_getElem hi]

/-- the end of a round of the second loop -/
theorem Fac.next {nb : Nat → List Nat} {same : Nat → Nat → Bool} {k : Nat} (h : Fac w w1 wr g p n T bN bF bA X Y F A lead L a c (fun j => if j ≤ k then ((Faces.flat nb same j).length : Nat) else 0)) (hL : L = Faces.flat nb same (k + 1)) (x : Int) (hx : x = (L.length : Nat)) :
    Fac w w1 (wr.setCell ⟨w1.heap.size, k + 1, none⟩ (.int .i64 x)).drew g p n T bN bF bA X Y F A lead (Faces.flat nb same (k + 1)) a c (fun j => if j ≤ k + 1 then ((Faces.flat nb same j).length : Nat) else 0) := by
  have h' := (h.first (k + 1) x).drewN 1
  subst hL
  refine ⟨h'.gab, h'.lead, h'.ffs.congr (fun j _ => ?_), h'.own, h'.below, h'.size, h'.lg, h'.lw⟩
  unfold upd
  by_cases e : j = k + 1
  · subst e; simp [hx]
  · by_cases e2 : j ≤ k
    · simp [e, e2, show j ≤ k + 1 by omega]
    · simp [e, e2, show ¬ j ≤ k + 1 by omega]

set_option maxRecDepth 100000 in
set_option maxHeartbeats 4000000 in
theorem linkFaces_any {nb : Nat → List Nat} (h : Gab w g p n T bN bF bA X Y F A (.slice none 0 0) (.slice none 0 0)) (hr : Csr.Rows n T nb F A) (hn : n ≤ 1048576) (hT : T ≤ 2097152) :
    Calls Try.prog 34 #[.pointer (some ⟨g, 0, none⟩)] w fun e w' => e = .returned (.tuple #[]) ∧ ∃ (bf : Nat) (a : Option Addr) (c : Nat),
      Gab w' g p n T bN bF bA X Y F A (.slice (some ⟨bf, 0, none⟩) (n + 1) (n + 1)) (.slice a (Faces.flat nb (samePl X Y) n).length c) ∧ IR w' bf (n + 1) (fun j => ((Faces.flat nb (samePl X Y) j).length : Nat)) ∧
      Reads w' a (Faces.flat nb (samePl X Y) n).length (fun i => (((Faces.flat nb (samePl X Y) n).getD i 0 : Nat) : Int)) ∧ Below g w w' := by
  have hmk := run_make_row' (P := Try.prog) 27 3 (.int .i64 0) 8 Try.underlying27 Try.info3 rfl .i64 .i64 n (by omega) (by omega)
  have HG : Hid (Gab w g p n T bN bF bA X Y F A (.slice none 0 0) (.slice none 0 0)) := h
  have HR : Hid (Csr.Rows n T nb F A) := hr
  have c0 := h.c0
  have hg : g < w.heap.size := World.rowIs.lt h.row
  have hp := h.lp
  clear h hr
  go_enter Try.func34, Try.ntmps34
  go_wp2_with (go_at_call 35; refine (len_any _ _ _ _ HG.out.net.nodes).mono ?_; rintro e w' ⟨rfl, rfl⟩)
  go_loopw [18] (fun i wr => ∃ k : Nat, k ≤ n ∧ i = .int .i64 k ∧ IR wr w.heap.size n (fun j => if j < k then (Faces.ld nb (samePl X Y) j : Nat) else 0) ∧ Below w.heap.size w wr) (fun i _ => n - (intOf i).toNat)
  case atStart => exact ⟨0, Nat.zero_le _, rfl, (IR_made w n).congr (fun _ _ => rfl), (Below.refl _ _).alloc (Nat.le_refl _) _⟩
  case round =>
    clear hmk c0
    obtain ⟨k, hk, rfl, hrow, hbel⟩ := hrel
    by_cases hlt : k < n
    · have c1 := World.rowIs.cell hrow hlt
      have z1 := World.rowIs.frozen hrow k
      have R1 := hrow.set k k
      have R2 := hbel.setCell (p := ⟨w.heap.size, k, none⟩) (Nat.le_refl _) (.int .i64 k)
      have HR1 : Hid _ := R1
      have HR2 : Hid _ := R2
      have hsz : w.heap.size < wr.heap.size := World.rowIs.lt hrow
      clear hrow hbel R1 R2
      go_wp2_with fail
      refine (gneighbours_any (HG.out.kept HR2.out hg) HR.out hn hT k hlt).mono ?_
      rintro e w3 ⟨⟨x, rfl, hx⟩, nq, rfl⟩
      obtain ⟨d, hd⟩ : ∃ d, d = (nb k).length := ⟨_, rfl⟩
      have HD : Hid (d = (nb k).length) := hd
      rw [← hd] at hx ⊢
      clear hd
      by_cases hd0 : 0 < d
      · have hxe := hx hd0
        subst hxe
        clear hx
        obtain ⟨j, hj⟩ : ∃ j, j = (nb k).getD 0 0 := ⟨_, rfl⟩
        have HJ : Hid (j = (nb k).getD 0 0) := hj
        have hjn : j < n := (HR.out.lt k hlt j (by rw [hj]; exact Faces.getD_mem (by rw [← HD.out]; exact hd0))).1
        clear hj
        have hG' := HG.out.kept HR2.out hg
        have d0 : (wr.setCell ⟨w.heap.size, k, none⟩ (.int .i64 k)).cell? ⟨g, 0, none⟩ = some (.pointer (some ⟨p, 0, none⟩)) := hG'.c0
        have d1 : (wr.setCell ⟨w.heap.size, k, none⟩ (.int .i64 k)).cell? ⟨bA, F k, none⟩ = some (.int .i64 (j : Nat)) := by
          have h1 := HR.out.step k hlt
          have h2 := Csr.rows_mono HR.out (show k + 1 ≤ n by omega) (Nat.le_refl _)
          rw [HR.out.last, h1, ← HD.out] at h2
          rw [World.rowIs.cell hG'.net.adjs (show F k < T by omega)]
          show some (Value.int .i64 ((A (F k) : Nat) : Int)) = _
          have h3 := HR.out.at_ k hlt 0 (by rw [← HD.out]; exact hd0)
          rw [Nat.add_zero] at h3
          rw [h3, HJ.out]
        have e0 : ((wr.setCell ⟨w.heap.size, k, none⟩ (.int .i64 k)).drewN nq).cell? ⟨g, 0, none⟩ = some (.pointer (some ⟨p, 0, none⟩)) := d0
        have e1 : ((wr.setCell ⟨w.heap.size, k, none⟩ (.int .i64 k)).drewN nq).cell? ⟨bA, F k, none⟩ = some (.int .i64 (j : Nat)) := d1
        have e2 : Hid (IR ((wr.setCell ⟨w.heap.size, k, none⟩ (.int .i64 k)).drewN nq) w.heap.size n (upd (fun j => if j < k then (Faces.ld nb (samePl X Y) j : Nat) else 0) k k)) := HR1
        have e3 : Hid (Below w.heap.size w ((wr.setCell ⟨w.heap.size, k, none⟩ (.int .i64 k)).drewN nq)) := below_drewN HR2.out nq
        clear hG' d0 d1 HR1 HR2
        have hgW : g < ((wr.setCell ⟨w.heap.size, k, none⟩ (.int .i64 k)).drewN nq).heap.size := Nat.lt_of_lt_of_le hg e3.out.size
        generalize (wr.setCell ⟨w.heap.size, k, none⟩ (.int .i64 k)).drewN nq = W at *
        have HG' : Hid (Gab W g p n T bN bF bA X Y F A (.slice none 0 0) (.slice none 0 0)) := HG.out.kept e3.out hg
        have hbA : bA < W.heap.size := World.rowIs.lt HG'.out.net.adjs
        have hd1 : (0 : Int) < (d : Int) := by omega
        have c1 := World.rowIs.cell e2.out hlt
        have z1 := World.rowIs.frozen e2.out k
        have hszW : w.heap.size < W.heap.size := World.rowIs.lt e2.out
        cases hsp : samePl X Y k j
        · have hsp' : (feq (X k) (X j) && feq (Y k) (Y j)) = false := hsp
          have L : Hid (Faces.ld nb (samePl X Y) k = k) := by
            unfold Hid Faces.ld
            rw [← HJ.out, hsp]; simp
          clear hsp c1 z1
          go_wp2
          go_region_held3 (fun w' => w'.cell? ⟨g, 0, none⟩ = some (.pointer (some ⟨p, 0, none⟩)) ∧ w'.cell? ⟨bA, F k, none⟩ = some (.int .i64 (j : Nat)) ∧ Below W.heap.size W w')
            ((repeat (first | exact ⟨e0, e1, Below.refl _ _⟩ | refine keepDr ?_ | refine keepS ?_ _)))
            (first | (go_at_call 38; refine (node_of HG'.out (by repeat (first | exact Below.refl _ _ | assumption | refine Below.drew ?_ | refine Below.alloc ?_ (by simp) _)) hgW _ (by omega)).mono ?_; rintro e w2 ⟨rfl, o, rfl⟩) | (go_at_call 37; refine (samePlace_any _ _ _ _ _ _ _).mono ?_; rintro e w2 ⟨rfl, o, o', rfl⟩))
          go_wp2
          go_roundw
          case rel =>
            exact ⟨k + 1, by omega, by go_num, IR.congr (IR_alloc4 e2.out _ _ _ _) (fun i _ => ld_round L.out i), below_alloc4 e3.out (by omega) _ _ _ _⟩
          case measure => go_light; simp [intOf]; omega
        · have hsp' : (feq (X k) (X j) && feq (Y k) (Y j)) = true := hsp
          have L : Hid (Faces.ld nb (samePl X Y) k = min k j) := by
            unfold Hid Faces.ld
            rw [← HJ.out, hsp, ← HD.out]; simp [hd0]
          have hf4 : ∀ o1 o2 o3 o4, ((((W.alloc o1).alloc o2).alloc o3).alloc o4).frozen? ⟨w.heap.size, k, none⟩ = false := fun o1 o2 o3 o4 => World.rowIs.frozen ((((e2.out.alloc o1).alloc o2).alloc o3).alloc o4) k
          have hc4 : ∀ o1 o2 o3 o4, ((((W.alloc o1).alloc o2).alloc o3).alloc o4).cell? ⟨w.heap.size, k, none⟩ = some (.int .i64 (upd (fun j => if j < k then ((Faces.ld nb (samePl X Y) j : Nat) : Int) else 0) k k k)) := fun o1 o2 o3 o4 => World.rowIs.cell ((((e2.out.alloc o1).alloc o2).alloc o3).alloc o4) hlt
          clear hsp
          go_wp2
          go_region_held3 (fun w' => w'.cell? ⟨g, 0, none⟩ = some (.pointer (some ⟨p, 0, none⟩)) ∧ w'.cell? ⟨bA, F k, none⟩ = some (.int .i64 (j : Nat)) ∧ Below W.heap.size W w')
            ((repeat (first | exact ⟨e0, e1, Below.refl _ _⟩ | refine keepDr ?_ | refine keepS ?_ _)))
            (first | (go_at_call 38; refine (node_of HG'.out (by repeat (first | exact Below.refl _ _ | assumption | refine Below.drew ?_ | refine Below.alloc ?_ (by simp) _)) hgW _ (by omega)).mono ?_; rintro e w2 ⟨rfl, o, rfl⟩) | (go_at_call 37; refine (samePlace_any _ _ _ _ _ _ _).mono ?_; rintro e w2 ⟨rfl, o, o', rfl⟩))
          go_wp2
          have hmin : Hid ((if j < k then (j : Int) else (k : Int)) = ((min k j : Nat) : Int)) := by
            unfold Hid; split <;> omega
          go_roundw
          case rel =>
            rw [hmin.out]
            exact ⟨k + 1, by omega, by go_num, IR.congr (IR_alloc4_set e2.out _ _ _ _ k _) (fun i _ => (upd_upd _ k _ _ i).trans (ld_round L.out i)), below_alloc4_set e3.out (by omega) _ _ _ _ _ _⟩
          case measure => go_light; simp [intOf]; omega
      · have L : Hid (Faces.ld nb (samePl X Y) k = k) := by
          unfold Hid Faces.ld
          rw [if_neg (fun h => hd0 (by rw [HD.out]; exact h.1))]
        have hz : decide ((0 : Int) < (d : Int)) = false := by simp; omega
        clear hx
        go_wp2
        go_quiet (fail)
        go_wp2
        go_roundw
        case rel => exact ⟨k + 1, by omega, by go_num, IR.congr (show IR _ _ _ _ from HR1.out) (fun i _ => ld_round L.out i), below_drewN HR2.out _⟩
        case measure => go_light; simp [intOf]; omega
    · obtain ⟨w1, rfl⟩ : ∃ w1 : World, w1 = wr := ⟨_, rfl⟩
      have R1 : Hid (IR w1 w.heap.size n (fun j => (Faces.ld nb (samePl X Y) j : Nat))) := hrow.congr (fun j hj => by rw [if_pos (by omega)])
      have R2 : Hid (Below w.heap.size w w1) := hbel
      have hsz : w.heap.size < w1.heap.size := World.rowIs.lt hrow
      clear hrow hbel
      have hmk1 := run_make_row' (P := Try.prog) 27 3 (.int .i64 0) 8 Try.underlying27 Try.info3 rfl .i64 .i64 (n + 1) (by omega) (by omega)
      have ec : ((n + 1 : Nat) : Int) = (n : Int) + 1 := by omega
      rw [ec] at hmk1
      clear ec
      have G1 : Hid (Gab w1 g p n T bN bF bA X Y F A (.slice none 0 0) (.slice none 0 0)) := HG.out.kept R2.out hg
      have c3 : w1.cell? ⟨g, 3, none⟩ = some (.slice none 0 0) := G1.out.c3
      have z3 : w1.frozen? ⟨g, 3, none⟩ = false := World.rowIs.frozen G1.out.row 3
      have hg1 : g < w1.heap.size := by omega
      go_wp2
      have F0 : Hid (Fac w w1 ((w1.setCell ⟨g, 3, none⟩ (.slice (some ⟨w1.heap.size, 0, none⟩) (n + 1) (n + 1))).alloc (.cells (madeCells #[.int .i64 0] (n + 1)) 3)) g p n T bN bF bA X Y F A (Faces.ld nb (samePl X Y)) (Faces.flat nb (samePl X Y) 0) none 0
          (fun j => if j ≤ 0 then ((Faces.flat nb (samePl X Y) j).length : Nat) else 0)) := by
        have esz : (w1.setCell ⟨g, 3, none⟩ (.slice (some ⟨w1.heap.size, 0, none⟩) (n + 1) (n + 1))).heap.size = w1.heap.size := by simp [World.setCell]
        have hb : Below w1.heap.size (w1.setCell ⟨g, 3, none⟩ (.slice (some ⟨w1.heap.size, 0, none⟩) (n + 1) (n + 1))) ((w1.setCell ⟨g, 3, none⟩ (.slice (some ⟨w1.heap.size, 0, none⟩) (n + 1) (n + 1))).alloc (.cells (madeCells #[.int .i64 0] (n + 1)) 3)) :=
          (Below.refl _ _).alloc (by rw [esz]; exact Nat.le_refl _) _
        refine ⟨(G1.out.set3 _).kept hb hg1, IR.alloc (IR.other R1.out (by show w.heap.size ≠ g; omega) _) _, ?_, World.ownsRow_nil _ _ _ _, ?_, by simp [World.setCell], hg, hsz⟩
        · have := IR_made (w1.setCell ⟨g, 3, none⟩ (.slice (some ⟨w1.heap.size, 0, none⟩) (n + 1) (n + 1))) (n + 1)
          rw [esz] at this
          refine this.congr (fun j _ => ?_)
          by_cases e : j ≤ 0
          · rw [if_pos e, show j = 0 by omega]; rfl
          · rw [if_neg e]
        · exact ((R2.out.mono (show g ≤ w.heap.size by omega)).setCell (p := ⟨g, 3, none⟩) (Nat.le_refl _) _).alloc (by rw [esz]; omega) _
      clear c3 z3 hmk1 R1 R2 G1
      go_loopw [66] (fun i wr => ∃ (k : Nat) (a : Option Addr) (c : Nat), k ≤ n ∧ i = .int .i64 k ∧ Fac w w1 wr g p n T bN bF bA X Y F A (Faces.ld nb (samePl X Y)) (Faces.flat nb (samePl X Y) k) a c (fun j => if j ≤ k then ((Faces.flat nb (samePl X Y) j).length : Nat) else 0)) (fun i _ => n - (intOf i).toNat)
      case atStart => exact ⟨0, none, 0, Nat.zero_le _, rfl, F0⟩
      case round =>
        clear F0 hlt hk
        obtain ⟨k, a, c, hk, rfl, hF⟩ := hrel
        by_cases hlt : k < n
        · obtain ⟨y, hy⟩ : ∃ y, y = Faces.ld nb (samePl X Y) k := ⟨_, rfl⟩
          have c1 : wr.cell? ⟨w.heap.size, k, none⟩ = some (.int .i64 (y : Nat)) := by rw [hy]; exact World.rowIs.cell hF.lead hlt
          have hlen := Faces.flat_len (same := samePl X Y) HR.out k (by omega)
          have hFT : F k ≤ T := by
            have := Csr.rows_mono HR.out (show k ≤ n by omega) (Nat.le_refl _)
            rw [HR.out.last] at this; exact this
          have HF : Hid (Fac w w1 wr g p n T bN bF bA X Y F A (Faces.ld nb (samePl X Y)) (Faces.flat nb (samePl X Y) k) a c (fun j => if j ≤ k then ((Faces.flat nb (samePl X Y) j).length : Nat) else 0)) := hF
          have HY : Hid (y = Faces.ld nb (samePl X Y) k) := hy
          obtain ⟨M, hM⟩ : ∃ M, M = (Faces.flat nb (samePl X Y) k).length := ⟨_, rfl⟩
          have HM : Hid (M = (Faces.flat nb (samePl X Y) k).length) := hM
          rw [← hM] at hlen
          have hbase : w1.heap.size + 1 ≤ wr.heap.size := hF.size
          have hgr : g < wr.heap.size := by omega
          have hwr : w.heap.size < wr.heap.size := by omega
          obtain ⟨i0, hi0, hz0, hz1, hz2⟩ := info_parts Try.info3
          by_cases hyk : y = k
          · obtain rfl : k = y := hyk.symm
            have HKK : Hid (Faces.ld nb (samePl X Y) k = k) := HY.out.symm
            clear hF hy hM hyk HY
            go_wp2_with fail
            refine (gneighbours_any HF.out.gab HR.out hn hT k hlt).mono ?_
            rintro e w3 ⟨⟨x, rfl, hx⟩, nq, rfl⟩
            obtain ⟨d, hd⟩ : ∃ d, d = (nb k).length := ⟨_, rfl⟩
            have HD : Hid (d = (nb k).length) := hd
            have HX : Hid (0 < d → x = F k) := by rw [hd]; exact hx
            have hdT : d ≤ T := by
              have h1 := HR.out.step k hlt
              have h2 := Csr.rows_mono HR.out (show k + 1 ≤ n by omega) (Nat.le_refl _)
              rw [HR.out.last] at h2
              omega
            rw [← hd]
            have F1 : Hid (Fac w w1 (wr.drewN nq) g p n T bN bF bA X Y F A (Faces.ld nb (samePl X Y)) (Faces.flat nb (samePl X Y) k ++ Faces.part nb (samePl X Y) k 0) a c (fun j => if j ≤ k then ((Faces.flat nb (samePl X Y) j).length : Nat) else 0)) := by
              rw [Faces.part_zero, List.append_nil]; exact HF.out.drewN nq
            clear hd hx c1 HF
            go_wp2
            obtain ⟨w3, rfl⟩ : ∃ w3 : World, w3 = wr := ⟨_, rfl⟩
            clear hgr hwr hbase
            go_loopw [92] (fun i wi => ∃ (t : Nat) (a : Option Addr) (c : Nat), t ≤ d ∧ i = .int .i64 t ∧ Fac w w1 wi g p n T bN bF bA X Y F A (Faces.ld nb (samePl X Y)) (Faces.flat nb (samePl X Y) k ++ Faces.part nb (samePl X Y) k t) a c (fun j => if j ≤ k then ((Faces.flat nb (samePl X Y) j).length : Nat) else 0)) (fun i _ => d - (intOf i).toNat)
            case atStart => exact ⟨0, a, c, Nat.zero_le _, rfl, F1⟩
            case round =>
              clear F1
              obtain ⟨t, a2, c2, ht, rfl, hF⟩ := hrel
              have HF : Hid (Fac w w1 wr g p n T bN bF bA X Y F A (Faces.ld nb (samePl X Y)) (Faces.flat nb (samePl X Y) k ++ Faces.part nb (samePl X Y) k t) a2 c2 (fun j => if j ≤ k then ((Faces.flat nb (samePl X Y) j).length : Nat) else 0)) := hF
              obtain ⟨N, hN⟩ : ∃ N, N = (Faces.flat nb (samePl X Y) k ++ Faces.part nb (samePl X Y) k t).length := ⟨_, rfl⟩
              have HN : Hid (N = (Faces.flat nb (samePl X Y) k ++ Faces.part nb (samePl X Y) k t).length) := hN
              have hNl : N ≤ M + t := by
                rw [hN, List.length_append, HM.out]
                have := Faces.part_len (nb := nb) (same := samePl X Y) k t
                omega
              have hbase : w1.heap.size + 1 ≤ wr.heap.size := hF.size
              have hgr : g < wr.heap.size := by omega
              have hwr : w.heap.size < wr.heap.size := by omega
              by_cases hlt4 : t < d
              · obtain ⟨j, hj⟩ : ∃ j, j = (nb k).getD t 0 := ⟨_, rfl⟩
                have htl : t < (nb k).length := by rw [← HD.out]; exact hlt4
                have hjm : j ∈ nb k := by rw [hj]; exact Faces.getD_mem htl
                have hjn : j < n := (HR.out.lt k hlt j hjm).1
                have e1 : wr.cell? ⟨bA, x + t, none⟩ = some (.int .i64 (j : Nat)) := by
                  have h1 := HR.out.step k hlt
                  have h2 := Csr.rows_mono HR.out (show k + 1 ≤ n by omega) (Nat.le_refl _)
                  rw [HR.out.last] at h2
                  rw [HX.out (by omega), World.rowIs.cell hF.gab.net.adjs (show F k + t < T by omega)]
                  show some (Value.int .i64 ((A (F k + t) : Nat) : Int)) = _
                  rw [HR.out.at_ k hlt t htl, hj]
                obtain ⟨y, hy⟩ : ∃ y, y = Faces.ld nb (samePl X Y) j := ⟨_, rfl⟩
                have e2 : wr.cell? ⟨w.heap.size, j, none⟩ = some (.int .i64 (y : Nat)) := by rw [hy]; exact World.rowIs.cell hF.lead hjn
                have d4 : wr.cell? ⟨g, 4, none⟩ = some (.slice a2 N c2) := by rw [hN]; exact hF.gab.c4
                have HJ : Hid (j = (nb k).getD t 0) := hj
                have HY : Hid (y = Faces.ld nb (samePl X Y) j) := hy
                have hown : wr.ownsRow (w1.heap.size + 1) 3 1 (.slice a2 N c2) N ((Faces.flat nb (samePl X Y) k ++ Faces.part nb (samePl X Y) k t).map (fun j => .int .i64 (j : Nat))) := by rw [hN]; exact hF.own
                have q1 : Hid ((wr.alloc (.cells #[.int .i64 (j : Nat)] 3)).ownsRow (w1.heap.size + 1) 3 1 (.slice a2 N c2) N ((Faces.flat nb (samePl X Y) k ++ Faces.part nb (samePl X Y) k t).map (fun j => .int .i64 (j : Nat)))) := hown.alloc _
                have q2 : Hid (∀ i u, ([.int .i64 (j : Nat)] : List Value)[i]? = some u → (wr.alloc (.cells #[.int .i64 (j : Nat)] 3)).cell? ((⟨wr.heap.size, 0, none⟩ : Addr).add i) = some u) :=
                  World.news_of_block (cs := #[.int .i64 (j : Nat)]) (t := 3) (fr := (0, 0)) (heap_alloc_new wr _)
                have q3 : Hid (w1.heap.size + 1 ≤ (wr.alloc (.cells #[.int .i64 (j : Nat)] 3)).heap.size) := by unfold Hid; rw [World.size_alloc]; omega
                have q4 : Hid ((wr.alloc (.cells #[.int .i64 (j : Nat)] 3)).heap.size = wr.heap.size + 1) := World.size_alloc _ _
                have q5 : Hid (N + 1 ≤ maxLen) := by unfold Hid maxLen; omega
                have q6 : Hid ((N + 1) * 8 ≤ 140737488355328) := by unfold Hid; omega
                have q7 : Hid (∀ u ∈ ([.int .i64 (j : Nat)] : List Value), u.oneCell' = true) := by unfold Hid; simp [Value.oneCell']
                have q8 : Hid (∀ w2, (wr.alloc (.cells #[.int .i64 (j : Nat)] 3)).grownBy w2 (Value.slice a2 N c2).ownBlock → Below (w1.heap.size + 1) wr w2) := fun w2 hgr =>
                  HF.out.grown (Wa := wr.alloc (.cells #[.int .i64 (j : Nat)] 3)) ((Below.refl _ _).alloc (Nat.le_refl _) _) (by rw [← HN.out]; exact hgr)
                have q9 : Hid (∀ w2, Below (w1.heap.size + 1) wr w2 → w2.cell? ⟨g, 4, none⟩ = some (.slice a2 N c2)) := fun w2 h2 => by rw [HN.out]; exact HF.out.f1 h2
                have q10 : Hid (∀ w2, Below (w1.heap.size + 1) wr w2 → w2.frozen? ⟨g, 4, none⟩ = false) := fun w2 h2 => HF.out.f2 h2
                have hyes : Hid (Faces.pick nb (samePl X Y) k j = true → Faces.flat nb (samePl X Y) k ++ Faces.part nb (samePl X Y) k t ++ [j] = Faces.flat nb (samePl X Y) k ++ Faces.part nb (samePl X Y) k (t + 1)) := fun h => by
                  rw [hj] at h ⊢
                  rw [Faces.part_yes htl h, List.append_assoc]
                have hno : Hid (Faces.pick nb (samePl X Y) k j = false → Faces.part nb (samePl X Y) k (t + 1) = Faces.part nb (samePl X Y) k t) := fun h => by
                  rw [hj] at h
                  exact Faces.part_no htl h
                clear hF hown hj hy hjm htl hN
                rcases (show y = j ∨ (y ≠ j ∧ y = k) ∨ (y ≠ j ∧ y ≠ k) by omega) with h1 | ⟨h1, h2⟩ | ⟨h1, h2⟩
                · have hb1 : ((y : Int) == (j : Int)) = true := beq_iff_eq.2 (by omega)
                  have hp : Hid (Faces.pick nb (samePl X Y) k j = true) := by unfold Hid Faces.pick; rw [← HY.out, h1]; simp
                  clear h1
                  go_wp2_with (at_builtin; refine wpList_append_lies _ rfl (.tmp 114) (.tmp 116) 27 rfl (w1.heap.size + 1) 3 i0 (.int .i64 0) 1 8 Try.underlying27 hi0 hz0 hz1 hz2 rfl Nat.one_pos (.slice a2 N c2) N ((Faces.flat nb (samePl X Y) k ++ Faces.part nb (samePl X Y) k t).map (fun j => .int .i64 (j : Nat))) rfl q1.out ⟨wr.heap.size, 0, none⟩ 1 1 [.int .i64 (j : Nat)] rfl rfl q2.out q7.out Nat.one_pos q5.out q6.out q3.out (wr.heap.size + 1) q4.out ?_; intro gg cap w2 hown1 hgrow hat hlt2; have hB2 := q8.out w2 hgrow; have f1 := q9.out w2 hB2; have f2 := q10.out w2 hB2; have HB2 : Hid (Below (w1.heap.size + 1) wr w2) := hB2; have HO1 : Hid (w2.ownsRow (w1.heap.size + 1) 3 1 (.slice (some ⟨gg, 0, none⟩) (N + 1) cap) (N + 1) ((Faces.flat nb (samePl X Y) k ++ Faces.part nb (samePl X Y) k t).map (fun j => .int .i64 (j : Nat)) ++ [.int .i64 (j : Nat)])) := hown1; clear hown1 hgrow hat hlt2 hB2)
                  go_roundw
                  case rel =>
                    have FA := HF.out.app HB2.out (x := j) (gg := gg) (cap := cap) (by rw [← HN.out]; exact HO1.out)
                    rw [← HN.out, hyes.out hp.out] at FA
                    exact ⟨t + 1, _, _, by omega, by go_num, FA⟩
                  case measure => go_light; simp [intOf]; omega
                · have hb1 : ((y : Int) == (j : Int)) = false := beq_eq_false_iff_ne.2 (by omega)
                  have hb2 : ((y : Int) == (k : Int)) = true := beq_iff_eq.2 (by omega)
                  have hp : Hid (Faces.pick nb (samePl X Y) k j = true) := by unfold Hid Faces.pick; rw [← HY.out, h2]; simp
                  clear h1 h2
                  go_wp2_with (at_builtin; refine wpList_append_lies _ rfl (.tmp 114) (.tmp 116) 27 rfl (w1.heap.size + 1) 3 i0 (.int .i64 0) 1 8 Try.underlying27 hi0 hz0 hz1 hz2 rfl Nat.one_pos (.slice a2 N c2) N ((Faces.flat nb (samePl X Y) k ++ Faces.part nb (samePl X Y) k t).map (fun j => .int .i64 (j : Nat))) rfl q1.out ⟨wr.heap.size, 0, none⟩ 1 1 [.int .i64 (j : Nat)] rfl rfl q2.out q7.out Nat.one_pos q5.out q6.out q3.out (wr.heap.size + 1) q4.out ?_; intro gg cap w2 hown1 hgrow hat hlt2; have hB2 := q8.out w2 hgrow; have f1 := q9.out w2 hB2; have f2 := q10.out w2 hB2; have HB2 : Hid (Below (w1.heap.size + 1) wr w2) := hB2; have HO1 : Hid (w2.ownsRow (w1.heap.size + 1) 3 1 (.slice (some ⟨gg, 0, none⟩) (N + 1) cap) (N + 1) ((Faces.flat nb (samePl X Y) k ++ Faces.part nb (samePl X Y) k t).map (fun j => .int .i64 (j : Nat)) ++ [.int .i64 (j : Nat)])) := hown1; clear hown1 hgrow hat hlt2 hB2)
                  go_roundw
                  case rel =>
                    have FA := HF.out.app HB2.out (x := j) (gg := gg) (cap := cap) (by rw [← HN.out]; exact HO1.out)
                    rw [← HN.out, hyes.out hp.out] at FA
                    exact ⟨t + 1, _, _, by omega, by go_num, FA⟩
                  case measure => go_light; simp [intOf]; omega
                · have hb1 : ((y : Int) == (j : Int)) = false := beq_eq_false_iff_ne.2 (by omega)
                  have hb2 : ((y : Int) == (k : Int)) = false := beq_eq_false_iff_ne.2 (by omega)
                  have hp : Hid (Faces.pick nb (samePl X Y) k j = false) := by unfold Hid Faces.pick; rw [← HY.out]; simp [h1, h2]
                  clear h1 h2 q1 q2 q3 q4 q5 q6 q7 q8 q9 q10
                  go_wp2
                  go_roundw
                  case rel =>
                    refine ⟨t + 1, a2, c2, by omega, by go_num, ?_⟩
                    rw [hno.out hp.out]; exact HF
                  case measure => go_light; simp [intOf]; omega
              · have hflat : Hid (Faces.flat nb (samePl X Y) k ++ Faces.part nb (samePl X Y) k t = Faces.flat nb (samePl X Y) (k + 1)) := by
                  show _ = Faces.flat nb (samePl X Y) k ++ Faces.face nb (samePl X Y) k
                  rw [Faces.part_all (by rw [← HD.out]; omega) HKK.out]
                have d3 := hF.gab.c3
                have d5 : wr.cell? ⟨g, 4, none⟩ = some (.slice a2 N c2) := by rw [hN]; exact hF.gab.c4
                have t1 := World.rowIs.cell hF.ffs (show k + 1 < n + 1 by omega)
                have zt := World.rowIs.frozen hF.ffs (k + 1)
                have FN : Hid _ := hF.next hflat.out (N : Int) (by rw [hN])
                clear hF hN HF
                go_wp2
                go_region
                all_goals go_wp2
                all_goals
                  go_roundw
                  case rel => exact ⟨k + 1, _, _, by omega, by go_num, FN⟩
                  case measure => go_light; simp [intOf]; omega
          · have hne : ((y : Int) != (k : Int)) = true := by rw [bne_iff_ne]; omega
            have hown : wr.ownsRow (w1.heap.size + 1) 3 1 (.slice a M c) M ((Faces.flat nb (samePl X Y) k).map (fun j => .int .i64 (j : Nat))) := by rw [hM]; exact hF.own
            have d4 : wr.cell? ⟨g, 4, none⟩ = some (.slice a M c) := by rw [hM]; exact hF.gab.c4
            have z4 : wr.frozen? ⟨g, 4, none⟩ = false := World.rowIs.frozen hF.gab.row 4
            clear hF hy hM
            have q1 : Hid ((wr.alloc (.cells #[.int .i64 (y : Nat)] 3)).drew.ownsRow (w1.heap.size + 1) 3 1 (.slice a M c) M ((Faces.flat nb (samePl X Y) k).map (fun j => .int .i64 (j : Nat)))) := (hown.alloc _).drew
            have q2 : Hid (∀ j u, ([.int .i64 (y : Nat)] : List Value)[j]? = some u → (wr.alloc (.cells #[.int .i64 (y : Nat)] 3)).drew.cell? ((⟨wr.heap.size, 0, none⟩ : Addr).add j) = some u) :=
              World.news_of_block (cs := #[.int .i64 (y : Nat)]) (t := 3) (fr := (0, 0)) (heap_alloc_new wr _)
            have q3 : Hid (w1.heap.size + 1 ≤ (wr.alloc (.cells #[.int .i64 (y : Nat)] 3)).drew.heap.size) := by
              show w1.heap.size + 1 ≤ (wr.alloc (.cells #[.int .i64 (y : Nat)] 3)).heap.size
              rw [World.size_alloc]; omega
            have q4 : Hid ((wr.alloc (.cells #[.int .i64 (y : Nat)] 3)).drew.heap.size = wr.heap.size + 1) := World.size_alloc _ _
            have q5 : Hid (M + 1 ≤ maxLen) := by unfold Hid maxLen; omega
            have q6 : Hid ((M + 1) * 8 ≤ 140737488355328) := by unfold Hid; omega
            have q7 : Hid (∀ u ∈ ([.int .i64 (y : Nat)] : List Value), u.oneCell' = true) := by unfold Hid; simp [Value.oneCell']
            have q8 : Hid (∀ w2, (wr.alloc (.cells #[.int .i64 (y : Nat)] 3)).drew.grownBy w2 (Value.slice a M c).ownBlock → Below (w1.heap.size + 1) wr w2) := fun w2 hgr =>
              HF.out.grown (Wa := (wr.alloc (.cells #[.int .i64 (y : Nat)] 3)).drew) (((Below.refl _ _).alloc (Nat.le_refl _) _).drew) (by rw [← HM.out]; exact hgr)
            have q9 : Hid (∀ w2, Below (w1.heap.size + 1) wr w2 → w2.cell? ⟨g, 4, none⟩ = some (.slice a M c)) := fun w2 h2 => by rw [HM.out]; exact HF.out.f1 h2
            have q10 : Hid (∀ w2, Below (w1.heap.size + 1) wr w2 → w2.frozen? ⟨g, 4, none⟩ = false) := fun w2 h2 => HF.out.f2 h2
            clear hown
            have hk1 : (k : Int) < (n : Int) := by omega
            go_wp2
            go_region_law (refine step_append_lies _ (by rfl) _ _ _ (by rfl) (w1.heap.size + 1) 3 i0 (.int .i64 0) 1 8 Try.underlying27 hi0 hz0 hz1 hz2 rfl Nat.one_pos (.slice a M c) M ((Faces.flat nb (samePl X Y) k).map (fun j => .int .i64 (j : Nat))) (by rfl) q1.out ⟨wr.heap.size, 0, none⟩ 1 1 [.int .i64 (y : Nat)] (by rfl) (by rfl) q2.out q7.out Nat.one_pos q5.out q6.out q3.out (wr.heap.size + 1) q4.out ?_; intro gg cap w2 hown1 hgrow hat hlt2; have hB2 := q8.out w2 hgrow; have f1 := q9.out w2 hB2; have f2 := q10.out w2 hB2)
            all_goals
              have FA := HF.out.app hB2 (x := y) (gg := gg) (cap := cap) (by rw [← HM.out]; exact hown1)
              rw [← HM.out] at FA
              have hflat : Hid (Faces.flat nb (samePl X Y) k ++ [y] = Faces.flat nb (samePl X Y) (k + 1)) := by
                show _ = Faces.flat nb (samePl X Y) k ++ Faces.face nb (samePl X Y) k
                unfold Faces.face
                rw [← HY.out, if_neg hyk]
              have hlen2 : Hid ((Faces.flat nb (samePl X Y) k ++ [y]).length = M + 1) := by unfold Hid; rw [HM.out]; simp
              clear hown1 hgrow hat hlt2 hB2 f1 f2
              generalize w2.setCell ⟨g, 4, none⟩ (.slice (some ⟨gg, 0, none⟩) (M + 1) cap) = W at *
              have d3 := FA.gab.c3
              have d5 : W.cell? ⟨g, 4, none⟩ = some (.slice (some ⟨gg, 0, none⟩) (M + 1) cap) := by rw [FA.gab.c4, hlen2.out]
              have t1 := World.rowIs.cell FA.ffs (show k + 1 < n + 1 by omega)
              have zt := World.rowIs.frozen FA.ffs (k + 1)
              have FN : Hid _ := FA.next hflat.out ((M : Int) + 1) (by rw [hlen2.out]; omega)
              clear FA q1 q2 q3 q4 q5 q6 q7 q8 q9 q10 HF d4 z4 c1
              go_wp2
              go_region
              all_goals go_wp2
              all_goals
                go_roundw
                case rel => exact ⟨k + 1, _, _, by omega, by go_num, FN⟩
                case measure => go_light; simp [intOf]; omega
        · have hkn : k = n := by omega
          have P1 : Hid (Gab wr g p n T bN bF bA X Y F A (.slice (some ⟨w1.heap.size, 0, none⟩) (n + 1) (n + 1)) (.slice a (Faces.flat nb (samePl X Y) n).length c)) := by rw [← hkn]; rw [hkn]; have := hF.gab; rw [hkn] at this; exact this
          have P2 : Hid (IR wr w1.heap.size (n + 1) (fun j => ((Faces.flat nb (samePl X Y) j).length : Nat))) := hF.ffs.congr (fun j hj => by rw [if_pos (by omega)])
          have P3 : Hid (Reads wr a (Faces.flat nb (samePl X Y) n).length (fun i => (((Faces.flat nb (samePl X Y) n).getD i 0 : Nat) : Int))) := by
            have := hF.own
            rw [hkn] at this
            exact reads_own this
          have P4 : Hid (Below g w wr) := hF.below
          clear hF hkn
          go_wp2
          go_end0
          exact ⟨rfl, _, _, _, P1, P2, P3, P4⟩

end Go.Proofs.Qxb6000855a
