/-
  What the rows' frames over slices of bools and of integers want.
-/
import Derived.Test.Qxb6601612aGate
import Derived.WalkKit
import Derived.ProofKit
import Derived.OpenShut
import Derived.ChangeOld
import Derived.Below
import Derived.Deep.Slices
namespace Go.Proofs.Qxb6601612a
open Go.ChangeShapes Go.WideShapes Go.ChangeAt Go.RowKit
open Go.Deep (open_slice1)

theorem fr_own : ownKnob Try.prog.godebug = none := by kernel_rfl
theorem fr_laidOut : laidOutB Try.prog = true := by kernel_rfl

variable {H : Type} {enc : TypeId × Value → H}

theorem trod_bool1 {w : World} {base : Nat} {spare : Nat → Bool} {held : Bool} {fuel : Nat} {v : Value} {x : DataW H × List MemPlace} (h : DataW.trod enc Try.prog w base spare held fuel 4 [v] = some x) : ∃ b, v = .bool b := by
  obtain ⟨b, hb, _⟩ := DataW.trod_bool Try.underlying4 h
  exact ⟨b, by simpa using hb⟩

theorem lt_of_cell {w : World} {b o : Nat} {v : Value} (h : w.cell? ⟨b, o, none⟩ = some v) : b < w.heap.size := World.block_lt_of_cell? w ⟨b, o, none⟩ h

/-- a slice of bools that came in -/
theorem open_bools {w : World} {base : Nat} {spare : Nat → Bool} {held : Bool} {fuel : Nat} {a : Option Addr} {len cap : Nat} {x : DataW H × List MemPlace}
    (h : DataW.trod enc Try.prog w base spare held fuel 26 (Value.slice a len cap).cells.toList = some x) : (∃ X, ReadsB w a len X) ∧ (a = none → len = 0 ∧ cap = 0) := by
  rcases open_slice1 Try.underlying26 (by kernel_rfl) h with ⟨hcs, _⟩ | ⟨y, l, c, m, n, V, D, Pl, hcs, _, hl, hm, hmm, _, hx⟩
  · simp [Value.cells] at hcs
    obtain ⟨rfl, rfl, rfl⟩ := hcs
    exact ⟨⟨fun _ => false, fun h => by omega⟩, fun _ => ⟨rfl, rfl⟩⟩
  · simp [Value.cells] at hcs
    obtain ⟨rfl, rfl, rfl⟩ := hcs
    refine ⟨?_, fun h => by cases h⟩
    have hlm : len ≤ m := by rw [hmm]; split <;> omega
    refine ⟨fun i => match V i with | .bool b => b | _ => false, fun h0 => ?_⟩
    obtain ⟨b, o, sp⟩ := y
    have hsp : sp = none := by simpa [Addr.add] using World.cell?_spot (hx 0 (by omega)).1
    subst hsp
    have hc : ∀ i, i < len → w.cell? ⟨b, o + i, none⟩ = some (.bool (match V i with | .bool b => b | _ => false)) := fun i hi => by
      obtain ⟨h1, h2⟩ := hx i (by omega)
      obtain ⟨z, hz⟩ := trod_bool1 h2
      rw [add_plain, hz] at h1
      rw [h1, hz]
    exact ⟨b, o, rfl, lt_of_cell (hc 0 h0), hc⟩

/-- a slice of integers that came in -/
theorem open_nums {w : World} {base : Nat} {spare : Nat → Bool} {held : Bool} {fuel : Nat} {a : Option Addr} {len cap : Nat} {x : DataW H × List MemPlace}
    (h : DataW.trod enc Try.prog w base spare held fuel 22 (Value.slice a len cap).cells.toList = some x) : (∃ f, Reads w a len f) ∧ (a = none → len = 0 ∧ cap = 0) := by
  rcases open_ints Try.underlying22 Try.underlying3 (by kernel_rfl) h with ⟨hcs, _⟩ | ⟨y, l, c, zs, hcs, _, hl, hm, hz, _, hcell, hwz⟩
  · simp [Value.cells] at hcs
    obtain ⟨rfl, rfl, rfl⟩ := hcs
    exact ⟨⟨fun _ => 0, fun h => by omega⟩, fun _ => ⟨rfl, rfl⟩⟩
  · simp [Value.cells] at hcs
    obtain ⟨rfl, rfl, rfl⟩ := hcs
    refine ⟨?_, fun h => by cases h⟩
    have hlm : len ≤ zs.length := by rw [hz]; split <;> omega
    refine ⟨fun i => zs.getD i 0, fun h0 => ?_⟩
    obtain ⟨b, o, sp⟩ := y
    have hsp : sp = none := by simpa [Addr.add] using World.cell?_spot (hcell 0 (by omega))
    subst hsp
    have hc : ∀ i, i < len → w.cell? ⟨b, o + i, none⟩ = some (.int .i64 (zs.getD i 0)) := fun i hi => by rw [← add_plain]; exact hcell i (by omega)
    exact ⟨b, o, rfl, lt_of_cell (hc 0 h0), hc⟩

end Go.Proofs.Qxb6601612a
