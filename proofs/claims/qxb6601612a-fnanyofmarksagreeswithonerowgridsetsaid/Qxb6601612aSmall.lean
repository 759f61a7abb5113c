/-
  The walks of the small helpers: zzCloneIntsB1, zzCloneBoolsB1.
-/
import Derived.Test.Qxb6601612aRows
import Derived.WalkKit
import Derived.WalkSpells
import Derived.WalkLawsBesides
import Derived.Deep.QuietTactic
import Derived.BigQuiet
import Derived.Deep.OwnRows
import Derived.Deep.Light
namespace Go.Proofs.Qxb6601612a
open Go.RowKit

def upd {α : Type} (f : Nat → α) (i : Nat) (x : α) : Nat → α := fun j => if j = i then x else f j
theorem upd_same {α : Type} (f : Nat → α) (i : Nat) (x : α) : upd f i x i = x := if_pos rfl
theorem upd_other {α : Type} (f : Nat → α) {i j : Nat} (x : α) (h : j ≠ i) : upd f i x j = f j := if_neg h

theorem Try.info3 : (Try.prog.info? 3).map (fun i => (i.zero, i.size, i.bytes)) = some (some (.int .i64 0), 1, 8) := by kernel_rfl
theorem Try.info4 : (Try.prog.info? 4).map (fun i => (i.zero, i.size, i.bytes)) = some (some (.bool false), 1, 1) := by kernel_rfl

/-- a slice of n integers, read by the index -/
def Reads (w : World) (a : Option Addr) (n : Nat) (f : Nat → Int) : Prop :=
  0 < n → ∃ b o, a = some ⟨b, o, none⟩ ∧ b < w.heap.size ∧ ∀ i, i < n → w.cell? ⟨b, o + i, none⟩ = some (.int .i64 (f i))

theorem Reads.kept {w w' : World} {a : Option Addr} {n : Nat} {f : Nat → Int} {B : Nat} (h : Reads w a n f) (hb : Below B w w') (hB : w.heap.size ≤ B) : Reads w' a n f := by
  intro hn
  obtain ⟨b, o, rfl, hlt, hc⟩ := h hn
  exact ⟨b, o, rfl, Nat.lt_of_lt_of_le hlt hb.size, fun i hi => (hb.cell (p := ⟨b, o + i, none⟩) (by show b < B; omega)).trans (hc i hi)⟩

theorem Reads.congr {w : World} {a : Option Addr} {n m : Nat} {f g : Nat → Int} (h : Reads w a n f) (hm : m ≤ n) (e : ∀ i, i < m → f i = g i) : Reads w a m g := by
  intro hm0
  obtain ⟨b, o, rfl, hlt, hc⟩ := h (by omega)
  exact ⟨b, o, rfl, hlt, fun i hi => by rw [hc i (by omega), e i hi]⟩

/-- a row of integers of the call's own -/
def IR (w : World) (b n : Nat) (f : Nat → Int) : Prop := w.rowIs b 3 n (fun i => .int .i64 (f i))
/-- a row of bools of the call's own -/
def BR (w : World) (b n : Nat) (f : Nat → Bool) : Prop := w.rowIs b 4 n (fun i => .bool (f i))

theorem IR.reads {w : World} {b n : Nat} {f : Nat → Int} (h : IR w b n f) : Reads w (some ⟨b, 0, none⟩) n f :=
  fun _ => ⟨b, 0, rfl, World.rowIs.lt h, fun i hi => by rw [Nat.zero_add]; exact World.rowIs.cell h hi⟩
theorem IR.congr {w : World} {b n : Nat} {f g : Nat → Int} (h : IR w b n f) (e : ∀ i, i < n → f i = g i) : IR w b n g := World.rowIs.congr h (fun i hi => by rw [e i hi])
theorem IR.set {w : World} {b n : Nat} {f : Nat → Int} (h : IR w b n f) (i : Nat) (x : Int) : IR (w.setCell ⟨b, i, none⟩ (.int .i64 x)) b n (upd f i x) :=
  World.rowIs.congr (World.rowIs.set h i (.int .i64 x)) (fun j _ => by unfold upd; split <;> rfl)
theorem BR.set {w : World} {b n : Nat} {f : Nat → Bool} (h : BR w b n f) (i : Nat) (x : Bool) : BR (w.setCell ⟨b, i, none⟩ (.bool x)) b n (upd f i x) :=
  World.rowIs.congr (World.rowIs.set h i (.bool x)) (fun j _ => by unfold upd; split <;> rfl)
theorem IR.kept {w w' : World} {b n B : Nat} {f : Nat → Int} (h : IR w b n f) (hb : Below B w w') (hB : b < B) : IR w' b n f := World.rowIs.of_block h (hb.block b hB)
theorem BR.kept {w w' : World} {b n B : Nat} {f : Nat → Bool} (h : BR w b n f) (hb : Below B w w') (hB : b < B) : BR w' b n f := World.rowIs.of_block h (hb.block b hB)

theorem ret_i64 {a b : Int} (h : a = b) : Ending.returned (.int .i64 a) = .returned (.int .i64 b) := by rw [h]
theorem ret_bool {a b : Bool} (h : a = b) : Ending.returned (.bool a) = .returned (.bool b) := by rw [h]
theorem i64_eq {a b : Int} (h : a = b) : Value.int .i64 a = Value.int .i64 b := by rw [h]

theorem IR_made (w : World) (n : Nat) : IR (w.alloc (.cells (madeCells #[.int .i64 0] n) 3)) w.heap.size n (fun _ => 0) := World.rowIs_made w (.int .i64 0) n 3
theorem BR_made (w : World) (n : Nat) : BR (w.alloc (.cells (madeCells #[.bool false] n) 4)) w.heap.size n (fun _ => false) := World.rowIs_made w (.bool false) n 4

set_option maxHeartbeats 1000000 in
theorem cloneInts_some (b o l c : Nat) (f : Nat → Int) (w : World) (hl : l ≤ 1048576) (hb : b < w.heap.size)
    (hf : ∀ i, i < l → w.cell? ⟨b, o + i, none⟩ = some (.int .i64 (f i))) :
    Calls Try.prog 11 #[.slice (some ⟨b, o, none⟩) l c] w fun e w' => e = .returned (.slice (some ⟨w.heap.size, 0, none⟩) l l) ∧ IR w' w.heap.size l f ∧ Below w.heap.size w w' ∧ w'.heap.size = w.heap.size + 1 := by
  have hmk := run_make_row' (P := Try.prog) 22 3 (.int .i64 0) 8 Try.underlying22 Try.info3 rfl .i64 .i64 l (by omega) (by omega)
  have hnil := fun w => Lib.run_eql_slice_nil (P := Try.prog) w 22 3 (some ⟨b, o, none⟩) l c 0 0 Try.underlying22
  go_enter Try.func11, Try.ntmps11
  go_wp2
  go_loopw [4] (fun i wr => ∃ k : Nat, k ≤ l ∧ i = .int .i64 k ∧ IR wr w.heap.size l (fun j => if j < k then f j else 0) ∧ Below w.heap.size w wr ∧ wr.heap.size = w.heap.size + 1) (fun i _ => l - (intOf i).toNat)
  case atStart => exact ⟨0, Nat.zero_le _, rfl, (IR_made w l).congr (fun _ _ => rfl), (Below.refl _ _).alloc (Nat.le_refl _) _, by simp⟩
  case round =>
    obtain ⟨k, hk, rfl, hrow, hbel, hsz⟩ := hrel
    by_cases hlt : k < l
    · have g1 := (hbel.cell (p := ⟨b, o + k, none⟩) hb).trans (hf k hlt)
      have g2 := World.rowIs.cell hrow hlt
      have g3 := World.rowIs.frozen hrow k
      have R1 : Hid (IR (wr.setCell ⟨w.heap.size, k, none⟩ (.int .i64 (f k))) w.heap.size l (fun j => if j < k + 1 then f j else 0)) :=
        (hrow.set k (f k)).congr (fun j _ => by
          unfold upd
          by_cases e : j = k
          · subst e; simp
          · by_cases e2 : j < k
            · simp [e, e2, show j < k + 1 by omega]
            · simp [e, e2, show ¬ j < k + 1 by omega])
      have R2 : Hid (Below w.heap.size w (wr.setCell ⟨w.heap.size, k, none⟩ (.int .i64 (f k)))) := hbel.setCell (Nat.le_refl _) _
      have R3 : Hid (wr.heap.size = w.heap.size + 1) := hsz
      clear hrow hbel hf hsz hmk
      go_wp2
      go_roundw
      case rel => exact ⟨k + 1, by omega, by go_num, R1, R2, by simpa [World.setCell] using R3.out⟩
      case measure => go_light; simp [intOf]; omega
    · have R1 : Hid (IR wr w.heap.size l f) := hrow.congr (fun j hj => by rw [if_pos (by omega)])
      have R3 : Hid (wr.heap.size = w.heap.size + 1) := hsz
      clear hrow hf hsz hmk
      go_wp2
      go_ret
      exact ⟨rfl, R1, hbel, R3⟩

set_option maxHeartbeats 1000000 in
theorem cloneInts_zero (x : Addr) (l c : Nat) (h0 : l ≤ 0) (w : World) :
    Calls Try.prog 11 #[.slice (some x) l c] w fun e w' => e = .returned (.slice (some ⟨w.heap.size, 0, none⟩) l l) ∧ Below w.heap.size w w' := by
  have hmk := run_make_row' (P := Try.prog) 22 3 (.int .i64 0) 8 Try.underlying22 Try.info3 rfl .i64 .i64 l (by omega) (by omega)
  have hnil := fun w => Lib.run_eql_slice_nil (P := Try.prog) w 22 3 (some x) l c 0 0 Try.underlying22
  go_enter Try.func11, Try.ntmps11
  go_wp2
  go_loopw [4] (fun i wr => i = .int .i64 0 ∧ Below w.heap.size w wr) (fun _ _ => 0)
  case atStart => exact ⟨rfl, (Below.refl _ _).alloc (Nat.le_refl _) _⟩
  case round =>
    obtain ⟨rfl, hbel⟩ := hrel
    go_wp2
    go_ret
    exact ⟨rfl, hbel⟩

set_option maxHeartbeats 400000 in
theorem cloneInts_nil (w : World) : Calls Try.prog 11 #[.slice none 0 0] w fun e w' => e = .returned (.slice none 0 0) ∧ w = w' := by
  have hnil := fun w => Lib.run_eql_slice_nil (P := Try.prog) w 22 3 none 0 0 0 0 Try.underlying22
  go_enter Try.func11, Try.ntmps11
  go_wp2
  go_ret
  exact ⟨rfl, rfl⟩

/-- a clone reads as what was cloned; the world has new blocks alone -/
theorem cloneInts_any (a : Option Addr) (l c : Nat) (f : Nat → Int) (w : World) (hl : l ≤ 1048576) (hn : a = none → l = 0 ∧ c = 0) (hf : Reads w a l f) :
    Calls Try.prog 11 #[.slice a l c] w fun e w' => ∃ a' c', e = .returned (.slice a' l c') ∧ Reads w' a' l f ∧ Below w.heap.size w w' := by
  match a, hn, hf with
  | none, hn, hf =>
    obtain ⟨rfl, rfl⟩ := hn rfl
    refine (cloneInts_nil w).mono ?_
    rintro e w' ⟨rfl, rfl⟩
    exact ⟨none, 0, rfl, fun h => by omega, Below.refl _ _⟩
  | some x, _, hf =>
    by_cases h0 : l = 0
    · refine (cloneInts_zero x l c (by omega) w).mono ?_
      rintro e w' ⟨rfl, hb⟩
      exact ⟨_, l, rfl, fun h => by omega, hb⟩
    · obtain ⟨b, o, hx, hb, hc⟩ := hf (by omega)
      cases hx
      refine (cloneInts_some b o l c f w hl hb hc).mono ?_
      rintro e w' ⟨rfl, hr, hbel, _⟩
      exact ⟨_, l, rfl, hr.reads, hbel⟩

/-- a slice of n bools, read by the index -/
def ReadsB (w : World) (a : Option Addr) (n : Nat) (f : Nat → Bool) : Prop :=
  0 < n → ∃ b o, a = some ⟨b, o, none⟩ ∧ b < w.heap.size ∧ ∀ i, i < n → w.cell? ⟨b, o + i, none⟩ = some (.bool (f i))
theorem ReadsB.kept {w w' : World} {a : Option Addr} {n : Nat} {f : Nat → Bool} {B : Nat} (h : ReadsB w a n f) (hb : Below B w w') (hB : w.heap.size ≤ B) : ReadsB w' a n f := by
  intro hn
  obtain ⟨b, o, rfl, hlt, hc⟩ := h hn
  exact ⟨b, o, rfl, Nat.lt_of_lt_of_le hlt hb.size, fun i hi => (hb.cell (p := ⟨b, o + i, none⟩) (by show b < B; omega)).trans (hc i hi)⟩
theorem BR.congr {w : World} {b n : Nat} {f g : Nat → Bool} (h : BR w b n f) (e : ∀ i, i < n → f i = g i) : BR w b n g := World.rowIs.congr h (fun i hi => by rw [e i hi])
theorem BR.reads {w : World} {b n : Nat} {f : Nat → Bool} (h : BR w b n f) : ReadsB w (some ⟨b, 0, none⟩) n f :=
  fun _ => ⟨b, 0, rfl, World.rowIs.lt h, fun i hi => by rw [Nat.zero_add]; exact World.rowIs.cell h hi⟩

set_option maxHeartbeats 1000000 in
theorem cloneBools_some (b o l c : Nat) (f : Nat → Bool) (w : World) (hl : l ≤ 1048576) (hb : b < w.heap.size)
    (hf : ∀ i, i < l → w.cell? ⟨b, o + i, none⟩ = some (.bool (f i))) :
    Calls Try.prog 18 #[.slice (some ⟨b, o, none⟩) l c] w fun e w' => e = .returned (.slice (some ⟨w.heap.size, 0, none⟩) l l) ∧ BR w' w.heap.size l f ∧ Below w.heap.size w w' ∧ w'.heap.size = w.heap.size + 1 := by
  have hmk := run_make_row' (P := Try.prog) 26 4 (.bool false) 1 Try.underlying26 Try.info4 rfl .i64 .i64 l (by omega) (by omega)
  have hnil := fun w => Lib.run_eql_slice_nil (P := Try.prog) w 26 4 (some ⟨b, o, none⟩) l c 0 0 Try.underlying26
  go_enter Try.func18, Try.ntmps18
  go_wp2
  go_loopw [4] (fun i wr => ∃ k : Nat, k ≤ l ∧ i = .int .i64 k ∧ BR wr w.heap.size l (fun j => if j < k then f j else false) ∧ Below w.heap.size w wr ∧ wr.heap.size = w.heap.size + 1) (fun i _ => l - (intOf i).toNat)
  case atStart => exact ⟨0, Nat.zero_le _, rfl, BR.congr (BR_made w l) (fun _ _ => rfl), (Below.refl _ _).alloc (Nat.le_refl _) _, by simp⟩
  case round =>
    obtain ⟨k, hk, rfl, hrow, hbel, hsz⟩ := hrel
    by_cases hlt : k < l
    · have g1 := (hbel.cell (p := ⟨b, o + k, none⟩) hb).trans (hf k hlt)
      have g2 := World.rowIs.cell hrow hlt
      have g3 := World.rowIs.frozen hrow k
      have R1 : Hid (BR (wr.setCell ⟨w.heap.size, k, none⟩ (.bool (f k))) w.heap.size l (fun j => if j < k + 1 then f j else false)) :=
        BR.congr (hrow.set k (f k)) (fun j _ => by
          unfold upd
          by_cases e : j = k
          · subst e; simp
          · by_cases e2 : j < k
            · simp [e, e2, show j < k + 1 by omega]
            · simp [e, e2, show ¬ j < k + 1 by omega])
      have R2 : Hid (Below w.heap.size w (wr.setCell ⟨w.heap.size, k, none⟩ (.bool (f k)))) := hbel.setCell (Nat.le_refl _) _
      have R3 : Hid (wr.heap.size = w.heap.size + 1) := hsz
      clear hrow hbel hf hsz hmk
      go_wp2
      go_roundw
      case rel => exact ⟨k + 1, by omega, by go_num, R1, R2, by simpa [World.setCell] using R3.out⟩
      case measure => go_light; simp [intOf]; omega
    · have R1 : Hid (BR wr w.heap.size l f) := BR.congr hrow (fun j hj => by rw [if_pos (by omega)])
      have R3 : Hid (wr.heap.size = w.heap.size + 1) := hsz
      clear hrow hf hsz hmk
      go_wp2
      go_ret
      exact ⟨rfl, R1, hbel, R3⟩

set_option maxHeartbeats 1000000 in
theorem cloneBools_zero (x : Addr) (l c : Nat) (h0 : l ≤ 0) (w : World) :
    Calls Try.prog 18 #[.slice (some x) l c] w fun e w' => e = .returned (.slice (some ⟨w.heap.size, 0, none⟩) l l) ∧ Below w.heap.size w w' := by
  have hmk := run_make_row' (P := Try.prog) 26 4 (.bool false) 1 Try.underlying26 Try.info4 rfl .i64 .i64 l (by omega) (by omega)
  have hnil := fun w => Lib.run_eql_slice_nil (P := Try.prog) w 26 4 (some x) l c 0 0 Try.underlying26
  go_enter Try.func18, Try.ntmps18
  go_wp2
  go_loopw [4] (fun i wr => i = .int .i64 0 ∧ Below w.heap.size w wr) (fun _ _ => 0)
  case atStart => exact ⟨rfl, (Below.refl _ _).alloc (Nat.le_refl _) _⟩
  case round =>
    obtain ⟨rfl, hbel⟩ := hrel
    go_wp2
    go_ret
    exact ⟨rfl, hbel⟩

set_option maxHeartbeats 400000 in
theorem cloneBools_nil (w : World) : Calls Try.prog 18 #[.slice none 0 0] w fun e w' => e = .returned (.slice none 0 0) ∧ w = w' := by
  have hnil := fun w => Lib.run_eql_slice_nil (P := Try.prog) w 26 4 none 0 0 0 0 Try.underlying26
  go_enter Try.func18, Try.ntmps18
  go_wp2
  go_ret
  exact ⟨rfl, rfl⟩

/-- a clone reads as what was cloned; the world has new blocks alone -/
theorem cloneBools_any (a : Option Addr) (l c : Nat) (f : Nat → Bool) (w : World) (hl : l ≤ 1048576) (hn : a = none → l = 0 ∧ c = 0) (hf : ReadsB w a l f) :
    Calls Try.prog 18 #[.slice a l c] w fun e w' => ∃ a' c', e = .returned (.slice a' l c') ∧ ReadsB w' a' l f ∧ Below w.heap.size w w' := by
  match a, hn, hf with
  | none, hn, hf =>
    obtain ⟨rfl, rfl⟩ := hn rfl
    refine (cloneBools_nil w).mono ?_
    rintro e w' ⟨rfl, rfl⟩
    exact ⟨none, 0, rfl, fun h => by omega, Below.refl _ _⟩
  | some x, _, hf =>
    by_cases h0 : l = 0
    · refine (cloneBools_zero x l c (by omega) w).mono ?_
      rintro e w' ⟨rfl, hb⟩
      exact ⟨_, l, rfl, fun h => by omega, hb⟩
    · obtain ⟨b, o, hx, hb, hc⟩ := hf (by omega)
      cases hx
      refine (cloneBools_some b o l c f w hl hb hc).mono ?_
      rintro e w' ⟨rfl, hr, hbel, _⟩
      exact ⟨_, l, rfl, hr.reads, hbel⟩

theorem index_of {a : Option Addr} {b o l c k : Nat} (h : a = some ⟨b, o, none⟩) (hk : k < l) :
    ∀ w, (Instr.indexAt 22 (.slice a l c) (.int .i64 (k : Int))).run Try.prog w = .ok (.pointer (some ⟨b, o + k, none⟩)) w := by
  subst h
  intro w
  rw [run_indexAt_slice w 22 ⟨b, o, none⟩ l c .i64 k Try.underlying22, if_pos (by omega)]
  have hs : (sizeOf (Try.prog.elem 22)).run Try.prog w = .ok 1 w := by kernel_rfl
  rw [hs]
  simp [Result.andThen, Addr.add]

/-- an element of a slice, as the walk asks for it in a later world -/
theorem Reads.elem {w wr : World} {a : Option Addr} {m l c k B : Nat} {f : Nat → Int} (h : Reads w a m f) (hb : Below B w wr) (hB : w.heap.size ≤ B) (hk : k < m) (hl : m ≤ l) :
    ∃ b o, (∀ w, (Instr.indexAt 22 (.slice a l c) (.int .i64 (k : Int))).run Try.prog w = .ok (.pointer (some ⟨b, o + k, none⟩)) w) ∧ wr.cell? ⟨b, o + k, none⟩ = some (.int .i64 (f k)) ∧ b < w.heap.size := by
  obtain ⟨b, o, ea, hlt, hc⟩ := h (by omega)
  exact ⟨b, o, index_of ea (by omega), (hb.cell (p := ⟨b, o + k, none⟩) (by show b < B; omega)).trans (hc k hk), hlt⟩

theorem IR.other {w : World} {b n : Nat} {f : Nat → Int} (h : IR w b n f) {p : Addr} (hne : b ≠ p.block) (v : Value) : IR (w.setCell p v) b n f := World.rowIs.setOther h hne v
theorem BR.other {w : World} {b n : Nat} {f : Nat → Bool} (h : BR w b n f) {p : Addr} (hne : b ≠ p.block) (v : Value) : BR (w.setCell p v) b n f := World.rowIs.setOther h hne v
theorem IR.alloc {w : World} {b n : Nat} {f : Nat → Int} (h : IR w b n f) (o : Obj) : IR (w.alloc o) b n f := World.rowIs.alloc h o
theorem BR.alloc {w : World} {b n : Nat} {f : Nat → Bool} (h : BR w b n f) (o : Obj) : BR (w.alloc o) b n f := World.rowIs.alloc h o

theorem new_cell {w : World} {xs : Array Value} {t : TypeId} {i : Nat} {v : Value} (h : xs[i]? = some v) : (w.alloc (.cells xs t)).cell? ⟨w.heap.size, i, none⟩ = some v := by
  unfold World.cell?
  rw [Deep.blk_alloc_new]
  exact h

end Go.Proofs.Qxb6601612a
