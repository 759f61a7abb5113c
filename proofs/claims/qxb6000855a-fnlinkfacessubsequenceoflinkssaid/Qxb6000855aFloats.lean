/-
  The walks of the helpers over slices of floats: nodeCount, cloneFloats; equality of floats.
-/
import Derived.Test.Qxb6000855aNet
import Derived.Test.Qxb6000855aFaces
namespace Go.Proofs.Qxb6000855a
open Go.RowKit
open Bfs (upd upd_same upd_other)

theorem Try.info43 : (Try.prog.info? 43).map (fun i => (i.zero, i.size, i.bytes)) = some (some (.float .f64 0), 1, 8) := by kernel_rfl

/-- '==' on two float64, by their bits -/
def feq (a b : Nat) : Bool := FloatKind.f64.format.order a b == some .eq

theorem order_eq (d e : Ieee.Datum) (h : d.order e = some .eq) : e.order d = some .eq := by
  cases d with
  | nan => cases h
  | infinity s =>
    cases e with
    | nan => cases h
    | infinity t => cases s <;> cases t <;> first | rfl | cases h
    | number t n j => cases s <;> cases h
  | number s m i =>
    cases e with
    | nan => cases h
    | infinity t => cases t <;> cases h
    | number t n j =>
      simp only [Ieee.Datum.order, Option.some.injEq, Std.LawfulEqCmp.compare_eq_iff_eq] at h ⊢
      rw [show min j i = min i j by omega]; exact h.symm

theorem feq_symm (a b : Nat) : feq a b = feq b a := by
  unfold feq
  rw [Bool.eq_iff_iff, beq_iff_eq, beq_iff_eq]
  exact ⟨order_eq _ _, order_eq _ _⟩

/-- a slice of n floats, read by the index -/
def ReadsF (w : World) (a : Option Addr) (n : Nat) (f : Nat → Nat) : Prop :=
  0 < n → ∃ b o, a = some ⟨b, o, none⟩ ∧ b < w.heap.size ∧ ∀ i, i < n → w.cell? ⟨b, o + i, none⟩ = some (.float .f64 (f i))

theorem ReadsF.kept {w w' : World} {a : Option Addr} {n : Nat} {f : Nat → Nat} {B : Nat} (h : ReadsF w a n f) (hb : Below B w w') (hB : w.heap.size ≤ B) : ReadsF w' a n f := by
  intro hn
  obtain ⟨b, o, rfl, hlt, hc⟩ := h hn
  exact ⟨b, o, rfl, Nat.lt_of_lt_of_le hlt hb.size, fun i hi => (hb.cell (p := ⟨b, o + i, none⟩) (by show b < B; omega)).trans (hc i hi)⟩

theorem ReadsF.less {w : World} {a : Option Addr} {n m : Nat} {f : Nat → Nat} (h : ReadsF w a n f) (hm : m ≤ n) : ReadsF w a m f := by
  intro hm0
  obtain ⟨b, o, rfl, hlt, hc⟩ := h (by omega)
  exact ⟨b, o, rfl, hlt, fun i hi => hc i (by omega)⟩

theorem index_ofF {a : Option Addr} {b o l c k : Nat} (h : a = some ⟨b, o, none⟩) (hk : k < l) :
    ∀ w, (Instr.indexAt 40 (.slice a l c) (.int .i64 (k : Int))).run Try.prog w = .ok (.pointer (some ⟨b, o + k, none⟩)) w := by
  subst h
  intro w
  rw [run_indexAt_slice w 40 ⟨b, o, none⟩ l c .i64 k Try.underlying40, if_pos (by omega)]
  have hs : (sizeOf (Try.prog.elem 40)).run Try.prog w = .ok 1 w := by kernel_rfl
  rw [hs]
  simp [Result.andThen, Addr.add]

theorem ReadsF.elem {w wr : World} {a : Option Addr} {m l c k B : Nat} {f : Nat → Nat} (h : ReadsF w a m f) (hb : Below B w wr) (hB : w.heap.size ≤ B) (hk : k < m) (hl : m ≤ l) :
    ∃ b o, (∀ w, (Instr.indexAt 40 (.slice a l c) (.int .i64 (k : Int))).run Try.prog w = .ok (.pointer (some ⟨b, o + k, none⟩)) w) ∧ wr.cell? ⟨b, o + k, none⟩ = some (.float .f64 (f k)) ∧ b < w.heap.size := by
  obtain ⟨b, o, ea, hlt, hc⟩ := h (by omega)
  exact ⟨b, o, index_ofF ea (by omega), (hb.cell (p := ⟨b, o + k, none⟩) (by show b < B; omega)).trans (hc k hk), hlt⟩

/-- a row of floats of the call's own -/
def FR (w : World) (b n : Nat) (f : Nat → Nat) : Prop := w.rowIs b 43 n (fun i => .float .f64 (f i))
theorem FR.reads {w : World} {b n : Nat} {f : Nat → Nat} (h : FR w b n f) : ReadsF w (some ⟨b, 0, none⟩) n f :=
  fun _ => ⟨b, 0, rfl, World.rowIs.lt h, fun i hi => by rw [Nat.zero_add]; exact World.rowIs.cell h hi⟩
theorem FR.congr {w : World} {b n : Nat} {f g : Nat → Nat} (h : FR w b n f) (e : ∀ i, i < n → f i = g i) : FR w b n g := World.rowIs.congr h (fun i hi => by rw [e i hi])
theorem FR.set {w : World} {b n : Nat} {f : Nat → Nat} (h : FR w b n f) (i : Nat) (x : Nat) : FR (w.setCell ⟨b, i, none⟩ (.float .f64 x)) b n (upd f i x) :=
  World.rowIs.congr (World.rowIs.set h i (.float .f64 x)) (fun j _ => by unfold upd; split <;> rfl)
theorem FR_made (w : World) (n : Nat) : FR (w.alloc (.cells (madeCells #[.float .f64 0] n) 43)) w.heap.size n (fun _ => 0) := World.rowIs_made w (.float .f64 0) n 43

theorem run_store_float (W : World) (p : Addr) (m : Mode) (x : Nat) : (store p (.float .f64 x) m).run Try.prog W = stored Try.prog W p (.float .f64 x) m := run_store Try.prog W p _ m rfl
attribute [local go_sem] run_store_float

set_option maxHeartbeats 400000 in
theorem nodeCount_any (a a' : Option Addr) (l c l' c' : Nat) (w : World) :
    Calls Try.prog 23 #[.slice a l c, .slice a' l' c'] w fun e w' => e = .returned (.int .i64 (min l l' : Nat)) ∧ w = w' := by
  by_cases h : l' < l
  · have e : Hid (min l l' = l') := Nat.min_eq_right (by omega)
    go_enter Try.func23, Try.ntmps23
    go_wp2
    go_ret
    exact ⟨ret_i64 (by rw [e.out]), rfl⟩
  · have e : Hid (min l l' = l) := Nat.min_eq_left (by omega)
    go_enter Try.func23, Try.ntmps23
    go_wp2
    go_ret
    exact ⟨ret_i64 (by rw [e.out]), rfl⟩

set_option maxHeartbeats 1000000 in
theorem cloneFloats_some (b o l c : Nat) (f : Nat → Nat) (w : World) (hl : l ≤ 1048576) (hb : b < w.heap.size)
    (hf : ∀ i, i < l → w.cell? ⟨b, o + i, none⟩ = some (.float .f64 (f i))) :
    Calls Try.prog 24 #[.slice (some ⟨b, o, none⟩) l c] w fun e w' => e = .returned (.slice (some ⟨w.heap.size, 0, none⟩) l l) ∧ FR w' w.heap.size l f ∧ Below w.heap.size w w' ∧ w'.heap.size = w.heap.size + 1 := by
  have hmk := run_make_row' (P := Try.prog) 40 43 (.float .f64 0) 8 Try.underlying40 Try.info43 rfl .i64 .i64 l (by omega) (by omega)
  have hnil := fun w => Lib.run_eql_slice_nil (P := Try.prog) w 40 43 (some ⟨b, o, none⟩) l c 0 0 Try.underlying40
  go_enter Try.func24, Try.ntmps24
  go_wp2
  go_loopw [4] (fun i wr => ∃ k : Nat, k ≤ l ∧ i = .int .i64 k ∧ FR wr w.heap.size l (fun j => if j < k then f j else 0) ∧ Below w.heap.size w wr ∧ wr.heap.size = w.heap.size + 1) (fun i _ => l - (intOf i).toNat)
  case atStart => exact ⟨0, Nat.zero_le _, rfl, (FR_made w l).congr (fun _ _ => rfl), (Below.refl _ _).alloc (Nat.le_refl _) _, by simp⟩
  case round =>
    obtain ⟨k, hk, rfl, hrow, hbel, hsz⟩ := hrel
    by_cases hlt : k < l
    · have g1 := (hbel.cell (p := ⟨b, o + k, none⟩) hb).trans (hf k hlt)
      have g2 := World.rowIs.cell hrow hlt
      have g3 := World.rowIs.frozen hrow k
      have R1 : Hid (FR (wr.setCell ⟨w.heap.size, k, none⟩ (.float .f64 (f k))) w.heap.size l (fun j => if j < k + 1 then f j else 0)) :=
        (hrow.set k (f k)).congr (fun j _ => by
          unfold upd
          by_cases e : j = k
          · subst e; simp
          · by_cases e2 : j < k
            · simp [e, e2, show j < k + 1 by omega]
            · simp [e, e2, show ¬ j < k + 1 by omega])
      have R2 : Hid (Below w.heap.size w (wr.setCell ⟨w.heap.size, k, none⟩ (.float .f64 (f k)))) := hbel.setCell (Nat.le_refl _) _
      have R3 : Hid (wr.heap.size = w.heap.size + 1) := hsz
      clear hrow hbel hf hsz hmk hnil
      go_wp2
      go_roundw
      case rel => exact ⟨k + 1, by omega, by go_num, R1, R2, by simpa [World.setCell] using R3.out⟩
      case measure => go_light; simp [intOf]; omega
    · have R1 : Hid (FR wr w.heap.size l f) := hrow.congr (fun j hj => by rw [if_pos (by omega)])
      have R3 : Hid (wr.heap.size = w.heap.size + 1) := hsz
      clear hrow hf hsz hmk hnil
      go_wp2
      go_ret
      exact ⟨rfl, R1, hbel, R3⟩

set_option maxHeartbeats 1000000 in
theorem cloneFloats_zero (x : Addr) (l c : Nat) (h0 : l ≤ 0) (w : World) :
    Calls Try.prog 24 #[.slice (some x) l c] w fun e w' => e = .returned (.slice (some ⟨w.heap.size, 0, none⟩) l l) ∧ Below w.heap.size w w' := by
  have hmk := run_make_row' (P := Try.prog) 40 43 (.float .f64 0) 8 Try.underlying40 Try.info43 rfl .i64 .i64 l (by omega) (by omega)
  have hnil := fun w => Lib.run_eql_slice_nil (P := Try.prog) w 40 43 (some x) l c 0 0 Try.underlying40
  go_enter Try.func24, Try.ntmps24
  go_wp2
  go_loopw [4] (fun i wr => i = .int .i64 0 ∧ Below w.heap.size w wr) (fun _ _ => 0)
  case atStart => exact ⟨rfl, (Below.refl _ _).alloc (Nat.le_refl _) _⟩
  case round =>
    obtain ⟨rfl, hbel⟩ := hrel
    go_wp2
    go_ret
    exact ⟨rfl, hbel⟩

set_option maxHeartbeats 400000 in
theorem cloneFloats_nil (w : World) : Calls Try.prog 24 #[.slice none 0 0] w fun e w' => e = .returned (.slice none 0 0) ∧ w = w' := by
  have hnil := fun w => Lib.run_eql_slice_nil (P := Try.prog) w 40 43 none 0 0 0 0 Try.underlying40
  go_enter Try.func24, Try.ntmps24
  go_wp2
  go_ret
  exact ⟨rfl, rfl⟩

theorem cloneFloats_any (a : Option Addr) (l c : Nat) (f : Nat → Nat) (w : World) (hl : l ≤ 1048576) (hn : a = none → l = 0 ∧ c = 0) (hf : ReadsF w a l f) :
    Calls Try.prog 24 #[.slice a l c] w fun e w' => ∃ a' c', e = .returned (.slice a' l c') ∧ ReadsF w' a' l f ∧ Below w.heap.size w w' := by
  match a, hn, hf with
  | none, hn, hf =>
    obtain ⟨rfl, rfl⟩ := hn rfl
    refine (cloneFloats_nil w).mono ?_
    rintro e w' ⟨rfl, rfl⟩
    exact ⟨none, 0, rfl, fun h => by omega, Below.refl _ _⟩
  | some x, _, hf =>
    by_cases h0 : l = 0
    · refine (cloneFloats_zero x l c (by omega) w).mono ?_
      rintro e w' ⟨rfl, hb⟩
      exact ⟨_, l, rfl, fun h => by omega, hb⟩
    · obtain ⟨b, o, hx, hb, hc⟩ := hf (by omega)
      cases hx
      refine (cloneFloats_some b o l c f w hl hb hc).mono ?_
      rintro e w' ⟨rfl, hr, hbel, _⟩
      exact ⟨_, l, rfl, hr.reads, hbel⟩

end Go.Proofs.Qxb6000855a
