/-
  The layout of links in rows (compressed rows), the plain law: no Go in sight.
-/
import Derived.Test.Qxb6000855aBfs
namespace Go.Proofs.Qxb6000855a.Csr
open Bfs (upd upd_same upd_other)

/-- where the darts from i lead, in their order -/
def outs (L : List (Nat × Nat)) (i : Nat) : List Nat := (L.filter (fun p => p.1 == i)).map (·.2)
theorem outs_nil (i : Nat) : outs [] i = [] := rfl
theorem outs_app (L R : List (Nat × Nat)) (i : Nat) : outs (L ++ R) i = outs L i ++ outs R i := by simp [outs]
theorem outs_one (a b i : Nat) : outs [(a, b)] i = if a = i then [b] else [] := by
  unfold outs; by_cases h : a = i <;> simp [h]
theorem mem_outs {L : List (Nat × Nat)} {i j : Nat} : j ∈ outs L i ↔ (i, j) ∈ L := by
  unfold outs
  simp only [List.mem_map, List.mem_filter, beq_iff_eq]
  constructor
  · rintro ⟨⟨a, b⟩, ⟨h, rfl⟩, rfl⟩; exact h
  · intro h; exact ⟨(i, j), ⟨h, rfl⟩, rfl⟩

/-- where the row of i begins -/
def off (L : List (Nat × Nat)) : Nat → Nat
  | 0 => 0
  | i + 1 => off L i + (outs L i).length
theorem off_mono (L : List (Nat × Nat)) {i j : Nat} (h : i ≤ j) : off L i ≤ off L j := by
  induction j with
  | zero => obtain rfl : i = 0 := by omega
            exact Nat.le_refl _
  | succ j ih =>
    by_cases e : i = j + 1
    · subst e; exact Nat.le_refl _
    · have := ih (by omega); have e2 : off L (j + 1) = off L j + (outs L j).length := rfl
      omega
theorem off_next (L : List (Nat × Nat)) {i j : Nat} (h : i < j) : off L i + (outs L i).length ≤ off L j := off_mono L (i := i + 1) h

theorem off_cons (a b : Nat) (L : List (Nat × Nat)) : ∀ n, off ((a, b) :: L) n = off L n + if a < n then 1 else 0
  | 0 => rfl
  | n + 1 => by
    have e : outs ((a, b) :: L) n = outs [(a, b)] n ++ outs L n := outs_app [(a, b)] L n
    unfold off
    rw [off_cons a b L n, e, outs_one]
    by_cases h : a = n
    · subst h; simp; omega
    · by_cases h2 : a < n
      · simp [h, h2, show a < n + 1 by omega]; omega
      · simp [h, h2, show ¬ a < n + 1 by omega]
theorem off_le (n : Nat) : ∀ L : List (Nat × Nat), off L n ≤ L.length
  | [] => by
    have : ∀ n, off [] n = 0 := fun n => by
      induction n with
      | zero => rfl
      | succ n ih => unfold off; rw [ih, outs_nil]; rfl
    rw [this]; exact Nat.zero_le _
  | (a, b) :: L => by rw [off_cons]; have := off_le n L; simp only [List.length_cons]; split <;> omega

/-- the darts of the first m links -/
def darts (f g : Nat → Nat) : Nat → List (Nat × Nat)
  | 0 => []
  | m + 1 => darts f g m ++ if f m = g m then [] else [(f m, g m), (g m, f m)]
theorem darts_len (f g : Nat → Nat) : ∀ m, (darts f g m).length ≤ 2 * m
  | 0 => Nat.le_refl _
  | m + 1 => by unfold darts; rw [List.length_append]; have := darts_len f g m; split <;> simp <;> omega
theorem mem_darts (f g : Nat → Nat) (i j : Nat) : ∀ m, (i, j) ∈ darts f g m ↔ ∃ e, e < m ∧ f e ≠ g e ∧ (i = f e ∧ j = g e ∨ i = g e ∧ j = f e)
  | 0 => by simp [darts]
  | m + 1 => by
    unfold darts
    rw [List.mem_append, mem_darts f g i j m]
    constructor
    · rintro (⟨e, h1, h2, h3⟩ | h)
      · exact ⟨e, by omega, h2, h3⟩
      · by_cases e : f m = g m
        · simp [e] at h
        · simp [e] at h; exact ⟨m, by omega, e, h⟩
    · rintro ⟨e, h1, h2, h3⟩
      by_cases he : e = m
      · subst he; right; simp [h2, h3]
      · left; exact ⟨e, by omega, h2, h3⟩
theorem darts_lt {f g : Nat → Nat} {n m : Nat} (h : ∀ e, e < m → f e < n ∧ g e < n) {i j : Nat} (hm : (i, j) ∈ darts f g m) : i < n ∧ j < n ∧ i ≠ j := by
  obtain ⟨e, he, hne, h3⟩ := (mem_darts f g i j m).1 hm
  have := h e he
  omega
/-- the darts of the first m links are a head of all -/
theorem darts_split (f g : Nat → Nat) (m : Nat) : ∀ d, ∃ R, darts f g (m + d) = darts f g m ++ R
  | 0 => ⟨[], by simp⟩
  | d + 1 => by
    obtain ⟨R, h⟩ := darts_split f g m d
    refine ⟨R ++ if f (m + d) = g (m + d) then [] else [(f (m + d), g (m + d)), (g (m + d), f (m + d))], ?_⟩
    show darts f g (m + d + 1) = _
    rw [← List.append_assoc, ← h]; rfl
theorem darts_at (f g : Nat → Nat) {e m : Nat} (he : e < m) (hne : f e ≠ g e) : ∃ R, darts f g m = darts f g e ++ (f e, g e) :: (g e, f e) :: R := by
  obtain ⟨R, h⟩ := darts_split f g (e + 1) (m - (e + 1))
  rw [show e + 1 + (m - (e + 1)) = m by omega] at h
  refine ⟨R, ?_⟩
  rw [h]; simp [darts, hne]
theorem darts_same (f g : Nat → Nat) {e : Nat} (h : f e = g e) : darts f g (e + 1) = darts f g e := by simp [darts, h]
theorem darts_two (f g : Nat → Nat) {e : Nat} (h : f e ≠ g e) : darts f g (e + 1) = (darts f g e ++ [(f e, g e)]) ++ [(g e, f e)] := by simp [darts, h]

/-! ### the first loop: how many darts leave each node, one place on -/
def count (P : List (Nat × Nat)) : Nat → Int := fun j => if j = 0 then 0 else ((outs P (j - 1)).length : Nat)
theorem count_add (P : List (Nat × Nat)) (a b : Nat) : upd (count P) (a + 1) (count P (a + 1) + 1) = count (P ++ [(a, b)]) := by
  funext j
  unfold count
  by_cases h : j = a + 1
  · subst h; rw [upd_same]; simp [outs_app, outs_one]
  · rw [upd_other _ _ h]
    by_cases h0 : j = 0
    · simp [h0]
    · have : ¬ a = j - 1 := by omega
      simp [h0, outs_app, outs_one, this]
theorem count_bd (P : List (Nat × Nat)) (j : Nat) : 0 ≤ count P j ∧ count P j ≤ P.length := by
  unfold count
  split
  · omega
  · have : (outs P (j - 1)).length ≤ P.length := by unfold outs; rw [List.length_map]; exact List.length_filter_le _ _
    omega

/-! ### the second loop: the sums -/
def sums (L : List (Nat × Nat)) (i : Nat) : Nat → Int := fun j => if j ≤ i then (off L j : Nat) else count L j
theorem sums_zero (L : List (Nat × Nat)) : sums L 0 = count L := by
  funext j
  unfold sums
  by_cases h : j = 0
  · subst h; rfl
  · rw [if_neg (by omega)]
theorem sums_step (L : List (Nat × Nat)) (i : Nat) : upd (sums L i) (i + 1) (sums L i (i + 1) + sums L i i) = sums L (i + 1) := by
  funext j
  by_cases h : j = i + 1
  · subst h; rw [upd_same]; simp [sums, count, off]; omega
  · rw [upd_other _ _ h]
    unfold sums
    by_cases h2 : j ≤ i
    · rw [if_pos h2, if_pos (by omega)]
    · rw [if_neg h2, if_neg (by omega)]
theorem sums_bd (L : List (Nat × Nat)) (i j : Nat) : 0 ≤ sums L i j ∧ sums L i j ≤ L.length := by
  unfold sums
  split
  · have := off_le j L; omega
  · exact count_bd L j
theorem sums_all (L : List (Nat × Nat)) (n j : Nat) (h : j ≤ n) : sums L n j = (off L j : Nat) := by unfold sums; rw [if_pos h]

/-! ### the last loop: each dart into the row of its node -/
def fills (L P : List (Nat × Nat)) : Nat → Int := fun i => (off L i : Nat) + ((outs P i).length : Nat)
theorem fills_nil (L : List (Nat × Nat)) (i : Nat) : fills L [] i = (off L i : Nat) := by simp [fills, outs]
theorem fills_add (L P : List (Nat × Nat)) (a b : Nat) : upd (fills L P) a (fills L P a + 1) = fills L (P ++ [(a, b)]) := by
  funext j
  unfold fills
  by_cases h : j = a
  · subst h; rw [upd_same]; simp [outs_app, outs_one]; omega
  · rw [upd_other _ _ h]
    have : ¬ a = j := fun e => h e.symm
    simp [outs_app, outs_one, this]

/-- what has been laid: the darts of P -/
def Laid (n : Nat) (L P : List (Nat × Nat)) (A : Nat → Nat) : Prop := ∀ i, i < n → ∀ t, t < (outs P i).length → A (off L i + t) = (outs P i).getD t 0

theorem laid_nil (n : Nat) (L : List (Nat × Nat)) (A : Nat → Nat) : Laid n L [] A := fun i _ t h => by simp [outs] at h

theorem fits {L P R : List (Nat × Nat)} {a b : Nat} (hL : L = P ++ (a, b) :: R) : (outs P a).length < (outs L a).length := by
  rw [hL, outs_app, show (a, b) :: R = [(a, b)] ++ R from rfl, outs_app, outs_one]; simp
theorem le_outs {L P R : List (Nat × Nat)} (hL : L = P ++ R) (i : Nat) : (outs P i).length ≤ (outs L i).length := by rw [hL, outs_app]; simp
theorem fills_lt {L P R : List (Nat × Nat)} {n a b : Nat} (hL : L = P ++ (a, b) :: R) (ha : a < n) : 0 ≤ fills L P a ∧ fills L P a < (off L n : Nat) := by
  have := fits hL
  have := off_next L ha
  unfold fills; omega
theorem laid_add {n : Nat} {L P R : List (Nat × Nat)} {A : Nat → Nat} {a b : Nat} (hL : L = P ++ (a, b) :: R) (h : Laid n L P A) :
    Laid n L (P ++ [(a, b)]) (upd A (fills L P a).toNat b) := by
  have e : (fills L P a).toNat = off L a + (outs P a).length := by unfold fills; omega
  rw [e]
  have h1 := fits hL
  intro i hi t ht
  by_cases hia : a = i
  · subst hia
    rw [outs_app, outs_one, if_pos rfl] at ht ⊢
    by_cases htl : t = (outs P a).length
    · subst htl; rw [upd_same]; simp [List.getD]
    · have ht' : t < (outs P a).length := by simp at ht; omega
      rw [upd_other _ _ (by omega), h a hi t ht']
      simp [List.getD, List.getElem?_append_left ht']
  · rw [outs_app, outs_one, if_neg hia, List.append_nil] at ht ⊢
    rw [upd_other, h i hi t ht]
    have h2 := le_outs hL i
    intro e2
    rcases Nat.lt_or_gt_of_ne hia with hlt | hlt
    · have := off_next L hlt; omega
    · have := off_next L hlt; omega

/-- the rows, when all is laid -/
structure Rows (n T : Nat) (nb : Nat → List Nat) (F A : Nat → Nat) : Prop where
  first : F 0 = 0
  step : ∀ i, i < n → F (i + 1) = F i + (nb i).length
  last : F n = T
  at_ : ∀ i, i < n → ∀ t, t < (nb i).length → A (F i + t) = (nb i).getD t 0
  lt : ∀ i, i < n → ∀ v, v ∈ nb i → v < n ∧ v ≠ i

theorem rows_mono {n T : Nat} {nb : Nat → List Nat} {F A : Nat → Nat} (h : Rows n T nb F A) {i j : Nat} (hij : i ≤ j) (hj : j ≤ n) : F i ≤ F j := by
  induction j with
  | zero => obtain rfl : i = 0 := by omega
            exact Nat.le_refl _
  | succ j ih =>
    by_cases e : i = j + 1
    · subst e; exact Nat.le_refl _
    · have := ih (by omega) (by omega); have := h.step j (by omega); omega

theorem rows_of {f g : Nat → Nat} {n m : Nat} (h : ∀ e, e < m → f e < n ∧ g e < n) {A : Nat → Nat} (hA : Laid n (darts f g m) (darts f g m) A) :
    Rows n (off (darts f g m) n) (outs (darts f g m)) (off (darts f g m)) A :=
  ⟨rfl, fun _ _ => rfl, rfl, hA, fun _ _ _ hv => ⟨(darts_lt h (mem_outs.1 hv)).2.1, fun e => (darts_lt h (mem_outs.1 hv)).2.2 e.symm⟩⟩

end Go.Proofs.Qxb6000855a.Csr
