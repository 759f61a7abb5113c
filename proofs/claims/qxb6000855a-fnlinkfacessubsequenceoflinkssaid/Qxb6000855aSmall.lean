/-
  The walks of the small helpers: pairCount, edgeOK, edgesInRange, cloneInts, allNodes.
-/
import Derived.Test.Qxb6000855aRows
import Derived.Test.Qxb6000855aCsr
import Derived.WalkKit
import Derived.WalkSpells
import Derived.WalkLawsBesides
import Derived.Deep.QuietTactic
import Derived.BigQuiet
import Derived.Deep.OwnRows
import Derived.Deep.Light
namespace Go.Proofs.Qxb6000855a
open Go.RowKit
open Bfs (upd upd_same upd_other)

theorem Try.info3 : (Try.prog.info? 3).map (fun i => (i.zero, i.size, i.bytes)) = some (some (.int .i64 0), 1, 8) := by kernel_rfl
theorem Try.info4 : (Try.prog.info? 4).map (fun i => (i.zero, i.size, i.bytes)) = some (some (.bool false), 1, 1) := by kernel_rfl

/-- a slice of n integers, read by the index -/
def Reads (w : World) (a : Option Addr) (n : Nat) (f : Nat → Int) : Prop :=
  0 < n → ∃ b o, a = some ⟨b, o, none⟩ ∧ b < w.heap.size ∧ ∀ i, i < n → w.cell? ⟨b, o + i, none⟩ = some (.int .i64 (f i))

theorem Reads.kept {w w' : World} {a : Option Addr} {n : Nat} {f : Nat → Int} {B : Nat} (h : Reads w a n f) (hb : Below B w w') (hB : w.heap.size ≤ B) : Reads w' a n f := by
  intro hn
  obtain ⟨b, o, rfl, hlt, hc⟩ := h hn
  exact ⟨b, o, rfl, Nat.lt_of_lt_of_le hlt hb.size, fun i hi => (hb.cell (p := ⟨b, o + i, none⟩) (by show b < B; omega)).trans (hc i hi)⟩

theorem Reads.congr {w : World} {a : Option Addr} {n m : Nat} {f g : Nat → Int} (h : Reads w a n f) (hm : m ≤ n) (e : ∀ i, i < m → f i = g i) : Reads w a m g := by
  intro hm0
  obtain ⟨b, o, rfl, hlt, hc⟩ := h (by omega)
  exact ⟨b, o, rfl, hlt, fun i hi => by rw [hc i (by omega), e i hi]⟩

/-- a row of integers of the call's own -/
def IR (w : World) (b n : Nat) (f : Nat → Int) : Prop := w.rowIs b 3 n (fun i => .int .i64 (f i))
/-- a row of bools of the call's own -/
def BR (w : World) (b n : Nat) (f : Nat → Bool) : Prop := w.rowIs b 4 n (fun i => .bool (f i))

theorem IR.reads {w : World} {b n : Nat} {f : Nat → Int} (h : IR w b n f) : Reads w (some ⟨b, 0, none⟩) n f :=
  fun _ => ⟨b, 0, rfl, World.rowIs.lt h, fun i hi => by rw [Nat.zero_add]; exact World.rowIs.cell h hi⟩
theorem IR.congr {w : World} {b n : Nat} {f g : Nat → Int} (h : IR w b n f) (e : ∀ i, i < n → f i = g i) : IR w b n g := World.rowIs.congr h (fun i hi => by rw [e i hi])
theorem IR.set {w : World} {b n : Nat} {f : Nat → Int} (h : IR w b n f) (i : Nat) (x : Int) : IR (w.setCell ⟨b, i, none⟩ (.int .i64 x)) b n (upd f i x) :=
  World.rowIs.congr (World.rowIs.set h i (.int .i64 x)) (fun j _ => by unfold upd; split <;> rfl)
theorem BR.set {w : World} {b n : Nat} {f : Nat → Bool} (h : BR w b n f) (i : Nat) (x : Bool) : BR (w.setCell ⟨b, i, none⟩ (.bool x)) b n (upd f i x) :=
  World.rowIs.congr (World.rowIs.set h i (.bool x)) (fun j _ => by unfold upd; split <;> rfl)
theorem IR.kept {w w' : World} {b n B : Nat} {f : Nat → Int} (h : IR w b n f) (hb : Below B w w') (hB : b < B) : IR w' b n f := World.rowIs.of_block h (hb.block b hB)
theorem BR.kept {w w' : World} {b n B : Nat} {f : Nat → Bool} (h : BR w b n f) (hb : Below B w w') (hB : b < B) : BR w' b n f := World.rowIs.of_block h (hb.block b hB)

theorem ret_i64 {a b : Int} (h : a = b) : Ending.returned (.int .i64 a) = .returned (.int .i64 b) := by rw [h]
theorem ret_bool {a b : Bool} (h : a = b) : Ending.returned (.bool a) = .returned (.bool b) := by rw [h]
theorem i64_eq {a b : Int} (h : a = b) : Value.int .i64 a = Value.int .i64 b := by rw [h]

set_option maxHeartbeats 400000 in
theorem pairCount_any (a a' : Option Addr) (l c l' c' : Nat) (w : World) :
    Calls Try.prog 18 #[.slice a l c, .slice a' l' c'] w fun e w' => e = .returned (.int .i64 (min l l' : Nat)) ∧ w = w' := by
  by_cases h : l' < l
  · have e : Hid (min l l' = l') := Nat.min_eq_right (by omega)
    go_enter Try.func18, Try.ntmps18
    go_wp2
    go_ret
    exact ⟨ret_i64 (by rw [e.out]), rfl⟩
  · have e : Hid (min l l' = l) := Nat.min_eq_left (by omega)
    go_enter Try.func18, Try.ntmps18
    go_wp2
    go_ret
    exact ⟨ret_i64 (by rw [e.out]), rfl⟩

/-- what edgeOK answers -/
def okB (a b : Int) : Bool := decide (a < 0 ∨ (0 ≤ b ∧ b ≤ a + 1))
set_option maxHeartbeats 400000 in
theorem edgeOK_any (a b : Int) (w : World) (ha : a ≤ 1000000) : Calls Try.prog 19 #[.int .i64 a, .int .i64 b] w fun e w' => e = .returned (.bool (okB a b)) ∧ w = w' := by
  by_cases h : a < 0
  · have e : Hid (true = okB a b) := by unfold Hid okB; simp; omega
    go_enter Try.func19, Try.ntmps19
    go_wp2
    go_ret
    exact ⟨ret_bool e.out, rfl⟩
  · by_cases h2 : 0 ≤ b
    · by_cases h3 : b ≤ a + 1
      · have e : Hid (true = okB a b) := by unfold Hid okB; simp; omega
        go_enter Try.func19, Try.ntmps19
        go_wp2
        go_ret
        exact ⟨ret_bool e.out, rfl⟩
      · have e : Hid (false = okB a b) := by unfold Hid okB; simp; omega
        have h3' : decide (b ≤ a + 1) = false := by simpa using h3
        go_enter Try.func19, Try.ntmps19
        go_wp2
        go_ret
        exact ⟨ret_bool e.out, rfl⟩
    · have e : Hid (false = okB a b) := by unfold Hid okB; simp; omega
      have h2' : decide (0 ≤ b) = false := by simpa using h2
      go_enter Try.func19, Try.ntmps19
      go_wp2
      go_ret
      exact ⟨ret_bool e.out, rfl⟩

/-- one link lies in [0, n) -/
def inB (n a b : Int) : Bool := decide (0 ≤ a ∧ a < n ∧ 0 ≤ b ∧ b < n)
/-- the first m links lie in [0, n) -/
def allIn (n : Int) (f g : Nat → Int) : Nat → Bool
  | 0 => true
  | m + 1 => allIn n f g m && inB n (f m) (g m)
theorem allIn_false {n : Int} {f g : Nat → Int} {k m : Nat} (h : k < m) (hk : inB n (f k) (g k) = false) : allIn n f g m = false := by
  induction m with
  | zero => omega
  | succ m ih =>
    unfold allIn
    by_cases e : k = m
    · subst e; rw [hk]; simp
    · rw [ih (by omega)]; rfl
theorem allIn_true {n : Int} {f g : Nat → Int} {m : Nat} (h : allIn n f g m = true) : ∀ e, e < m → 0 ≤ f e ∧ f e < n ∧ 0 ≤ g e ∧ g e < n := by
  induction m with
  | zero => intro e he; omega
  | succ m ih =>
    unfold allIn at h
    rw [Bool.and_eq_true] at h
    intro e he
    by_cases e' : e = m
    · subst e'; have := h.2; unfold inB at this; simpa using this
    · exact ih h.1 e (by omega)

set_option maxHeartbeats 1000000 in
theorem edgesInRange_some (n : Int) (b o l c b' o' l' c' : Nat) (f g : Nat → Int) (w : World) (hl : l ≤ 1048576)
    (hf : ∀ i, i < l → w.cell? ⟨b, o + i, none⟩ = some (.int .i64 (f i))) (hg : ∀ i, i < l' → w.cell? ⟨b', o' + i, none⟩ = some (.int .i64 (g i))) :
    Calls Try.prog 13 #[.int .i64 n, .slice (some ⟨b, o, none⟩) l c, .slice (some ⟨b', o', none⟩) l' c'] w fun e w' => e = .returned (.bool (allIn n f g (min l l'))) ∧ w = w' := by
  obtain ⟨m, hm⟩ : ∃ m, m = min l l' := ⟨_, rfl⟩
  have h1 : m ≤ l := by omega
  have h2 : m ≤ l' := by omega
  have HM : Hid (m = min l l') := hm
  rw [← hm]
  clear hm
  go_enter Try.func13, Try.ntmps13
  go_wp2_with (go_at_call 18; refine (pairCount_any _ _ _ _ _ _ _).mono ?_; rintro e w' ⟨rfl, rfl⟩; rw [← HM.out])
  go_loop [8] (fun i => ∃ k : Nat, k ≤ m ∧ i = .int .i64 k ∧ Hid (allIn n f g k = true)) (fun i => m - (intOf i).toNat)
  case atStart => exact ⟨0, Nat.zero_le _, rfl, rfl⟩
  case round =>
    obtain ⟨k, hk, rfl, hA⟩ := hrel
    by_cases hlt : k < m
    · have g1 := hf k (by omega)
      have g2 := hg k (by omega)
      generalize hx : f k = x at g1
      generalize hy : g k = y at g2
      have HX : Hid (f k = x) := hx
      have HY : Hid (g k = y) := hy
      clear hx hy hf hg
      by_cases c1 : x < 0
      · have hfin : Hid (allIn n f g m = false) := allIn_false hlt (by rw [HX.out]; unfold inB; simp; omega)
        go_wp2
        go_ret
        exact ⟨ret_bool (by rw [hfin.out]), rfl⟩
      · by_cases c2 : n ≤ x
        · have hfin : Hid (allIn n f g m = false) := allIn_false hlt (by rw [HX.out]; unfold inB; simp; omega)
          go_wp2
          go_ret
          exact ⟨ret_bool (by rw [hfin.out]), rfl⟩
        · by_cases c3 : y < 0
          · have hfin : Hid (allIn n f g m = false) := allIn_false hlt (by rw [HY.out]; unfold inB; simp; omega)
            go_wp2
            go_ret
            exact ⟨ret_bool (by rw [hfin.out]), rfl⟩
          · by_cases c4 : n ≤ y
            · have hfin : Hid (allIn n f g m = false) := allIn_false hlt (by rw [HY.out]; unfold inB; simp; omega)
              go_wp2
              go_ret
              exact ⟨ret_bool (by rw [hfin.out]), rfl⟩
            · have hnx : Hid (allIn n f g (k + 1) = true) := by
                show (allIn n f g k && inB n (f k) (g k)) = true
                rw [hA.out, HX.out, HY.out]; unfold inB; simp; omega
              go_wp2
              go_round
              case rel => exact ⟨k + 1, by omega, by go_num, hnx⟩
              case measure => go_light; simp [intOf]; omega
    · have hfin : Hid (allIn n f g m = true) := by
        have : k = m := by omega
        rw [← this]; exact hA
      clear hf hg
      go_wp2
      go_ret
      exact ⟨ret_bool (by rw [hfin.out]), rfl⟩

set_option maxHeartbeats 400000 in
theorem edgesInRange_none (n : Int) (a a' : Option Addr) (l c l' c' : Nat) (f g : Nat → Int) (w : World) (h0 : min l l' = 0) :
    Calls Try.prog 13 #[.int .i64 n, .slice a l c, .slice a' l' c'] w fun e w' => e = .returned (.bool (allIn n f g (min l l'))) ∧ w = w' := by
  rw [h0]
  have H0 : Hid (min l l' = 0) := h0
  clear h0
  go_enter Try.func13, Try.ntmps13
  go_wp2_with (go_at_call 18; refine (pairCount_any _ _ _ _ _ _ _).mono ?_; rintro e w' ⟨rfl, rfl⟩; rw [H0.out])
  go_loop [8] (fun i => i = .int .i64 0) (fun _ => 0)
  case atStart => rfl
  case round =>
    obtain rfl := hrel
    go_wp2
    go_ret
    exact ⟨rfl, rfl⟩

theorem edgesInRange_any (n : Int) (a a' : Option Addr) (l c l' c' : Nat) (f g : Nat → Int) (w : World) (hl : l ≤ 1048576) (hf : Reads w a l f) (hg : Reads w a' l' g) :
    Calls Try.prog 13 #[.int .i64 n, .slice a l c, .slice a' l' c'] w fun e w' => e = .returned (.bool (allIn n f g (min l l'))) ∧ w = w' := by
  by_cases h0 : min l l' = 0
  · exact edgesInRange_none n a a' l c l' c' f g w h0
  · obtain ⟨b, o, rfl, _, hc⟩ := hf (by omega)
    obtain ⟨b', o', rfl, _, hc'⟩ := hg (by omega)
    exact edgesInRange_some n b o l c b' o' l' c' f g w hl hc hc'

theorem IR_made (w : World) (n : Nat) : IR (w.alloc (.cells (madeCells #[.int .i64 0] n) 3)) w.heap.size n (fun _ => 0) := World.rowIs_made w (.int .i64 0) n 3
theorem BR_made (w : World) (n : Nat) : BR (w.alloc (.cells (madeCells #[.bool false] n) 4)) w.heap.size n (fun _ => false) := World.rowIs_made w (.bool false) n 4

set_option maxHeartbeats 1000000 in
theorem cloneInts_some (b o l c : Nat) (f : Nat → Int) (w : World) (hl : l ≤ 1048576) (hb : b < w.heap.size)
    (hf : ∀ i, i < l → w.cell? ⟨b, o + i, none⟩ = some (.int .i64 (f i))) :
    Calls Try.prog 14 #[.slice (some ⟨b, o, none⟩) l c] w fun e w' => e = .returned (.slice (some ⟨w.heap.size, 0, none⟩) l l) ∧ IR w' w.heap.size l f ∧ Below w.heap.size w w' ∧ w'.heap.size = w.heap.size + 1 := by
  have hmk := run_make_row' (P := Try.prog) 27 3 (.int .i64 0) 8 Try.underlying27 Try.info3 rfl .i64 .i64 l (by omega) (by omega)
  have hnil := fun w => Lib.run_eql_slice_nil (P := Try.prog) w 27 3 (some ⟨b, o, none⟩) l c 0 0 Try.underlying27
  go_enter Try.func14, Try.ntmps14
  go_wp2
  go_loopw [4] (fun i wr => ∃ k : Nat, k ≤ l ∧ i = .int .i64 k ∧ IR wr w.heap.size l (fun j => if j < k then f j else 0) ∧ Below w.heap.size w wr ∧ wr.heap.size = w.heap.size + 1) (fun i _ => l - (intOf i).toNat)
  case atStart => exact ⟨0, Nat.zero_le _, rfl, (IR_made w l).congr (fun _ _ => rfl), (Below.refl _ _).alloc (Nat.le_refl _) _, by simp⟩
  case round =>
    obtain ⟨k, hk, rfl, hrow, hbel, hsz⟩ := hrel
    by_cases hlt : k < l
    · have g1 := (hbel.cell (p := ⟨b, o + k, none⟩) hb).trans (hf k hlt)
      have g2 := World.rowIs.cell hrow hlt
      have g3 := World.rowIs.frozen hrow k
      have R1 : Hid (IR (wr.setCell ⟨w.heap.size, k, none⟩ (.int .i64 (f k))) w.heap.size l (fun j => if j < k + 1 then f j else 0)) :=
        (hrow.set k (f k)).congr (fun j _ => by
          unfold upd
          by_cases e : j = k
          · subst e; simp
          · by_cases e2 : j < k
            · simp [e, e2, show j < k + 1 by omega]
            · simp [e, e2, show ¬ j < k + 1 by omega])
      have R2 : Hid (Below w.heap.size w (wr.setCell ⟨w.heap.size, k, none⟩ (.int .i64 (f k)))) := hbel.setCell (Nat.le_refl _) _
      have R3 : Hid (wr.heap.size = w.heap.size + 1) := hsz
      clear hrow hbel hf hsz hmk
      go_wp2
      go_roundw
      case rel => exact ⟨k + 1, by omega, by go_num, R1, R2, by simpa [World.setCell] using R3.out⟩
      case measure => go_light; simp [intOf]; omega
    · have R1 : Hid (IR wr w.heap.size l f) := hrow.congr (fun j hj => by rw [if_pos (by omega)])
      have R3 : Hid (wr.heap.size = w.heap.size + 1) := hsz
      clear hrow hf hsz hmk
      go_wp2
      go_ret
      exact ⟨rfl, R1, hbel, R3⟩

set_option maxHeartbeats 1000000 in
theorem cloneInts_zero (x : Addr) (l c : Nat) (h0 : l ≤ 0) (w : World) :
    Calls Try.prog 14 #[.slice (some x) l c] w fun e w' => e = .returned (.slice (some ⟨w.heap.size, 0, none⟩) l l) ∧ Below w.heap.size w w' := by
  have hmk := run_make_row' (P := Try.prog) 27 3 (.int .i64 0) 8 Try.underlying27 Try.info3 rfl .i64 .i64 l (by omega) (by omega)
  have hnil := fun w => Lib.run_eql_slice_nil (P := Try.prog) w 27 3 (some x) l c 0 0 Try.underlying27
  go_enter Try.func14, Try.ntmps14
  go_wp2
  go_loopw [4] (fun i wr => i = .int .i64 0 ∧ Below w.heap.size w wr) (fun _ _ => 0)
  case atStart => exact ⟨rfl, (Below.refl _ _).alloc (Nat.le_refl _) _⟩
  case round =>
    obtain ⟨rfl, hbel⟩ := hrel
    go_wp2
    go_ret
    exact ⟨rfl, hbel⟩

set_option maxHeartbeats 400000 in
theorem cloneInts_nil (w : World) : Calls Try.prog 14 #[.slice none 0 0] w fun e w' => e = .returned (.slice none 0 0) ∧ w = w' := by
  have hnil := fun w => Lib.run_eql_slice_nil (P := Try.prog) w 27 3 none 0 0 0 0 Try.underlying27
  go_enter Try.func14, Try.ntmps14
  go_wp2
  go_ret
  exact ⟨rfl, rfl⟩

/-- a clone reads as what was cloned; the world has new blocks alone -/
theorem cloneInts_any (a : Option Addr) (l c : Nat) (f : Nat → Int) (w : World) (hl : l ≤ 1048576) (hn : a = none → l = 0 ∧ c = 0) (hf : Reads w a l f) :
    Calls Try.prog 14 #[.slice a l c] w fun e w' => ∃ a' c', e = .returned (.slice a' l c') ∧ Reads w' a' l f ∧ Below w.heap.size w w' := by
  match a, hn, hf with
  | none, hn, hf =>
    obtain ⟨rfl, rfl⟩ := hn rfl
    refine (cloneInts_nil w).mono ?_
    rintro e w' ⟨rfl, rfl⟩
    exact ⟨none, 0, rfl, fun h => by omega, Below.refl _ _⟩
  | some x, _, hf =>
    by_cases h0 : l = 0
    · refine (cloneInts_zero x l c (by omega) w).mono ?_
      rintro e w' ⟨rfl, hb⟩
      exact ⟨_, l, rfl, fun h => by omega, hb⟩
    · obtain ⟨b, o, hx, hb, hc⟩ := hf (by omega)
      cases hx
      refine (cloneInts_some b o l c f w hl hb hc).mono ?_
      rintro e w' ⟨rfl, hr, hbel, _⟩
      exact ⟨_, l, rfl, hr.reads, hbel⟩

set_option maxHeartbeats 1000000 in
theorem allNodes_any (n : Nat) (w : World) (hn : n ≤ 1048576) :
    Calls Try.prog 17 #[.int .i64 n] w fun e w' => e = .returned (.slice (some ⟨w.heap.size, 0, none⟩) n n) ∧ IR w' w.heap.size n (fun i => (i : Int)) ∧ Below w.heap.size w w' ∧ w'.heap.size = w.heap.size + 1 := by
  have hmk := run_make_row' (P := Try.prog) 27 3 (.int .i64 0) 8 Try.underlying27 Try.info3 rfl .i64 .i64 n (by omega) (by omega)
  go_enter Try.func17, Try.ntmps17
  go_wp2
  go_loopw [4] (fun i wr => ∃ k : Nat, k ≤ n ∧ i = .int .i64 k ∧ IR wr w.heap.size n (fun j => if j < k then (j : Int) else 0) ∧ Below w.heap.size w wr ∧ wr.heap.size = w.heap.size + 1) (fun i _ => n - (intOf i).toNat)
  case atStart => exact ⟨0, Nat.zero_le _, rfl, (IR_made w n).congr (fun _ _ => rfl), (Below.refl _ _).alloc (Nat.le_refl _) _, by simp⟩
  case round =>
    obtain ⟨k, hk, rfl, hrow, hbel, hsz⟩ := hrel
    by_cases hlt : k < n
    · have g2 := World.rowIs.cell hrow hlt
      have g3 := World.rowIs.frozen hrow k
      have R1 : Hid (IR (wr.setCell ⟨w.heap.size, k, none⟩ (.int .i64 k)) w.heap.size n (fun j => if j < k + 1 then (j : Int) else 0)) :=
        (hrow.set k k).congr (fun j _ => by
          unfold upd
          by_cases e : j = k
          · subst e; simp
          · by_cases e2 : j < k
            · simp [e, e2, show j < k + 1 by omega]
            · simp [e, e2, show ¬ j < k + 1 by omega])
      have R2 : Hid (Below w.heap.size w (wr.setCell ⟨w.heap.size, k, none⟩ (.int .i64 k))) := hbel.setCell (Nat.le_refl _) _
      have R3 : Hid (wr.heap.size = w.heap.size + 1) := hsz
      clear hrow hbel hsz hmk
      go_wp2
      go_roundw
      case rel => exact ⟨k + 1, by omega, by go_num, R1, R2, by simpa [World.setCell] using R3.out⟩
      case measure => go_light; simp [intOf]; omega
    · have R1 : Hid (IR wr w.heap.size n (fun i => (i : Int))) := hrow.congr (fun j hj => by rw [if_pos (by omega)])
      have R3 : Hid (wr.heap.size = w.heap.size + 1) := hsz
      clear hrow hsz hmk
      go_wp2
      go_ret
      exact ⟨rfl, R1, hbel, R3⟩

end Go.Proofs.Qxb6000855a
