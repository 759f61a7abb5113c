/-
  The face links, the plain law: no Go in sight. nb lists the neighbours, same says whether two nodes share a place.
-/
import Derived.Test.Qxb6000855aCsr
namespace Go.Proofs.Qxb6000855a.Faces
open Bfs (upd upd_same upd_other)

/-- the first node at the place of i, as far as i's first neighbour tells -/
def ld (nb : Nat → List Nat) (same : Nat → Nat → Bool) (i : Nat) : Nat :=
  if 0 < (nb i).length ∧ same i ((nb i).getD 0 0) = true then min i ((nb i).getD 0 0) else i

/-- is the link from i to j a face link? -/
def pick (nb : Nat → List Nat) (same : Nat → Nat → Bool) (i j : Nat) : Bool := ld nb same j == j || ld nb same j == i

def face (nb : Nat → List Nat) (same : Nat → Nat → Bool) (i : Nat) : List Nat :=
  if ld nb same i = i then (nb i).filter (pick nb same i) else [ld nb same i]

def flat (nb : Nat → List Nat) (same : Nat → Nat → Bool) : Nat → List Nat
  | 0 => []
  | i + 1 => flat nb same i ++ face nb same i

variable {nb : Nat → List Nat} {same : Nat → Nat → Bool}

theorem getD_mem {L : List Nat} {t : Nat} (h : t < L.length) : L.getD t 0 ∈ L := by
  rw [List.getD, List.getElem?_eq_getElem h]; exact List.getElem_mem h

theorem ld_le (i : Nat) : ld nb same i ≤ i := by unfold ld; split <;> omega
theorem ld_other {i : Nat} (h : ld nb same i ≠ i) : 0 < (nb i).length ∧ ld nb same i = (nb i).getD 0 0 := by
  unfold ld at *
  split at h
  · rename_i hc; rw [if_pos hc]; exact ⟨hc.1, by omega⟩
  · exact absurd rfl h

theorem face_sub (i : Nat) : (face nb same i).Sublist (nb i) := by
  unfold face
  split
  · exact List.filter_sublist
  · rename_i h
    obtain ⟨h1, h2⟩ := ld_other h
    rw [h2, List.singleton_sublist]; exact getD_mem h1
theorem face_len (i : Nat) : (face nb same i).length ≤ (nb i).length := (face_sub i).length_le

theorem flat_len {n T : Nat} {F A : Nat → Nat} (h : Csr.Rows n T nb F A) : ∀ i, i ≤ n → (flat nb same i).length ≤ F i
  | 0, _ => by rw [h.first]; exact Nat.le_refl _
  | i + 1, hi => by
    have := flat_len h i (by omega)
    have := face_len (same := same) (nb := nb) i
    have := h.step i (by omega)
    unfold flat; rw [List.length_append]; omega

/-- the inner loop: of the first t neighbours -/
def part (nb : Nat → List Nat) (same : Nat → Nat → Bool) (i t : Nat) : List Nat := ((nb i).take t).filter (pick nb same i)
theorem part_zero (i : Nat) : part nb same i 0 = [] := by simp [part]
theorem part_yes {i t : Nat} (ht : t < (nb i).length) (h : pick nb same i ((nb i).getD t 0) = true) : part nb same i (t + 1) = part nb same i t ++ [(nb i).getD t 0] := by
  unfold part
  rw [List.take_succ_eq_append_getElem ht, List.filter_append]
  have e : (nb i)[t] = (nb i).getD t 0 := by rw [List.getD, List.getElem?_eq_getElem ht]; rfl
  rw [e]; generalize (nb i).getD t 0 = j at *; simp [h]
theorem part_no {i t : Nat} (ht : t < (nb i).length) (h : pick nb same i ((nb i).getD t 0) = false) : part nb same i (t + 1) = part nb same i t := by
  unfold part
  rw [List.take_succ_eq_append_getElem ht, List.filter_append]
  have e : (nb i)[t] = (nb i).getD t 0 := by rw [List.getD, List.getElem?_eq_getElem ht]; rfl
  rw [e]; generalize (nb i).getD t 0 = j at *; simp [h]
theorem part_all {i t : Nat} (ht : (nb i).length ≤ t) (h : ld nb same i = i) : part nb same i t = face nb same i := by
  unfold part face; rw [if_pos h, List.take_of_length_le ht]
theorem part_len (i t : Nat) : (part nb same i t).length ≤ t := by
  unfold part
  have := List.length_filter_le (pick nb same i) ((nb i).take t)
  have := List.length_take_le t (nb i)
  omega
theorem part_len' (i t : Nat) : (part nb same i t).length ≤ (nb i).length := by
  unfold part
  have := List.length_filter_le (pick nb same i) ((nb i).take t)
  have : ((nb i).take t).length ≤ (nb i).length := List.length_take_le' _ _
  omega

/-! ### where no place is shared along a link -/
theorem ld_self {n : Nat} (hs : ∀ i, i < n → ∀ j, j ∈ nb i → same i j = false) {i : Nat} (hi : i < n) : ld nb same i = i := by
  unfold ld
  split
  · rename_i hc
    have := hs i hi _ (getD_mem hc.1)
    rw [hc.2] at this; cases this
  · rfl
theorem face_self {n T : Nat} {F A : Nat → Nat} (h : Csr.Rows n T nb F A) (hs : ∀ i, i < n → ∀ j, j ∈ nb i → same i j = false) {i : Nat} (hi : i < n) : face nb same i = nb i := by
  unfold face
  rw [if_pos (ld_self hs hi), List.filter_eq_self]
  intro j hj
  unfold pick
  rw [ld_self hs (h.lt i hi j hj).1]; simp
theorem flat_self {n T : Nat} {F A : Nat → Nat} (h : Csr.Rows n T nb F A) (hs : ∀ i, i < n → ∀ j, j ∈ nb i → same i j = false) :
    ∀ i, i ≤ n → (flat nb same i).length = F i ∧ ∀ k, k < F i → (flat nb same i).getD k 0 = A k
  | 0, _ => by rw [h.first]; exact ⟨rfl, fun k hk => by omega⟩
  | i + 1, hi => by
    obtain ⟨h1, h2⟩ := flat_self h hs i (by omega)
    have e := h.step i (by omega)
    have hf := face_self h hs (i := i) (by omega)
    unfold flat
    rw [hf]
    refine ⟨by rw [List.length_append]; omega, fun k hk => ?_⟩
    by_cases c : k < F i
    · rw [← h2 k c]; simp only [List.getD]; rw [List.getElem?_append_left (by omega)]
    · have := h.at_ i (by omega) (k - F i) (by omega)
      rw [show F i + (k - F i) = k by omega] at this
      rw [this]; simp only [List.getD]; rw [List.getElem?_append_right (by omega), h1]

end Go.Proofs.Qxb6000855a.Faces
