/-
  Breadth-first search, the plain law: no Go in sight. A queue is a function q with a length l; the hops are a function H (below 0: not reached); nb v lists the neighbours of v.
-/
namespace Go.Proofs.Qxb6000855a.Bfs

def upd {α : Type} (f : Nat → α) (i : Nat) (x : α) : Nat → α := fun j => if j = i then x else f j
theorem upd_same {α : Type} (f : Nat → α) (i : Nat) (x : α) : upd f i x i = x := if_pos rfl
theorem upd_other {α : Type} (f : Nat → α) {i j : Nat} (x : α) (h : j ≠ i) : upd f i x j = f j := if_neg h

/-- how many below n have p -/
def cnt (p : Nat → Bool) : Nat → Nat
  | 0 => 0
  | n + 1 => cnt p n + (p n).toNat
theorem cnt_le (p : Nat → Bool) : ∀ n, cnt p n ≤ n
  | 0 => Nat.le_refl _
  | n + 1 => by have := cnt_le p n; have := Bool.toNat_le (p n); unfold cnt; omega
theorem cnt_lt (p : Nat → Bool) : ∀ n v, v < n → p v = false → cnt p n < n
  | 0, _, h, _ => by omega
  | n + 1, v, h, hv => by
    unfold cnt
    by_cases e : v = n
    · subst e; have := cnt_le p v; rw [hv]; simp; omega
    · have := cnt_lt p n v (by omega) hv; have := Bool.toNat_le (p n); omega
theorem cnt_congr (p q : Nat → Bool) : ∀ n, (∀ v, v < n → p v = q v) → cnt p n = cnt q n
  | 0, _ => rfl
  | n + 1, h => by unfold cnt; rw [cnt_congr p q n (fun v hv => h v (by omega)), h n (by omega)]
theorem cnt_add (p q : Nat → Bool) (j : Nat) : ∀ n, j < n → p j = false → q j = true → (∀ v, v < n → v ≠ j → p v = q v) → cnt q n = cnt p n + 1
  | 0, h, _, _, _ => by omega
  | n + 1, h, hp, hq, hr => by
    unfold cnt
    by_cases e : j = n
    · subst e; rw [cnt_congr p q j (fun v hv => hr v (by omega) (by omega)), hp, hq]; simp
    · rw [cnt_add p q j n (by omega) hp hq (fun v hv hne => hr v (by omega) hne), hr n (by omega) (by omega)]; omega
theorem cnt_none (p : Nat → Bool) : ∀ n, (∀ v, v < n → p v = false) → cnt p n = 0
  | 0, _ => rfl
  | n + 1, h => by unfold cnt; rw [cnt_none p n (fun v hv => h v (by omega)), h n (by omega)]; rfl

def live (H : Nat → Int) : Nat → Bool := fun v => decide (0 ≤ H v)

structure State (n : Nat) (nb : Nat → List Nat) (s : Nat) (H : Nat → Int) (q : Nat → Nat) (l k t : Nat) : Prop where
  slt : s < n
  src : H s = 0
  low : ∀ v, v < n → -1 ≤ H v
  num : cnt (live H) n = l
  mem : ∀ i, i < l → q i < n ∧ 0 ≤ H (q i) ∧ H (q i) ≤ i
  has : ∀ v, v < n → 0 ≤ H v → ∃ i, i < l ∧ q i = v
  zero : ∀ v, v < n → H v = 0 → v = s
  mono : ∀ i j, i ≤ j → j < l → H (q i) ≤ H (q j)
  near : ∀ i, i < l → k < l → H (q i) ≤ H (q k) + 1
  done : ∀ i, i < k → i < l → ∀ v, v ∈ nb (q i) → 0 ≤ H v ∧ H v ≤ H (q i) + 1
  part : k < l → ∀ v, v ∈ (nb (q k)).take t → 0 ≤ H v ∧ H v ≤ H (q k) + 1
  pred : ∀ v, v < n → 0 < H v → ∃ u, u < n ∧ v ∈ nb u ∧ H v = H u + 1

theorem start (n : Nat) (nb : Nat → List Nat) (s : Nat) (q : Nat → Nat) (hs : s < n) : State n nb s (upd (fun _ => -1) s 0) (upd q 0 s) 1 0 0 := by
  have hv : ∀ v, v ≠ s → upd (fun _ => (-1 : Int)) s 0 v = -1 := fun v h => upd_other _ _ h
  have hs0 : upd (fun _ => (-1 : Int)) s 0 s = 0 := upd_same _ _ _
  have h0 : upd q 0 s 0 = s := upd_same _ _ _
  have hall : ∀ v, upd (fun _ => (-1 : Int)) s 0 v = 0 ∧ v = s ∨ upd (fun _ => (-1 : Int)) s 0 v = -1 := fun v => by
    by_cases e : v = s
    · subst e; exact Or.inl ⟨hs0, rfl⟩
    · exact Or.inr (hv v e)
  refine ⟨hs, hs0, ?_, ?_, ?_, ?_, ?_, ?_, ?_, ?_, ?_, ?_⟩
  · intro v _; have := hall v; omega
  · rw [cnt_add (fun _ => false) _ s n hs rfl (by simp [live, hs0]) (fun v _ hne => by simp [live, hv v hne]), cnt_none _ _ (fun _ _ => rfl)]
  · intro i hi; obtain rfl : i = 0 := by omega
    rw [h0, hs0]; exact ⟨hs, by omega, by omega⟩
  · intro v _ h; have := hall v; exact ⟨0, by omega, by rw [h0]; omega⟩
  · intro v _ h; have := hall v; omega
  · intro i j hij hj; obtain rfl : i = j := by omega
    exact Int.le_refl _
  · intro i hi _; obtain rfl : i = 0 := by omega
    omega
  · intro i hi; omega
  · intro _ v hv; simp at hv
  · intro v _ h; have := hall v; omega

variable {n : Nat} {nb : Nat → List Nat} {s : Nat} {H : Nat → Int} {q : Nat → Nat} {l k t : Nat}

theorem take_succ_mem {L : List Nat} {t : Nat} (ht : t < L.length) {v : Nat} (h : v ∈ L.take (t + 1)) : v ∈ L.take t ∨ v = L.getD t 0 := by
  rw [List.take_succ_eq_append_getElem ht] at h
  rcases List.mem_append.1 h with h | h
  · exact Or.inl h
  · simp at h; right; rw [h]; simp [List.getD, ht]

/-- a neighbour that was reached already -/
theorem skip (h : State n nb s H q l k t) (hk : k < l) (ht : t < (nb (q k)).length) (hlt : (nb (q k)).getD t 0 < n) (hj : 0 ≤ H ((nb (q k)).getD t 0)) : State n nb s H q l k (t + 1) := by
  refine { h with part := fun _ v hv => ?_ }
  rcases take_succ_mem ht hv with hv | rfl
  · exact h.part hk v hv
  · obtain ⟨i, hi, e⟩ := h.has _ hlt hj
    have := h.near i hi hk
    rw [e] at this
    exact ⟨hj, this⟩

/-- a new neighbour -/
theorem add (h : State n nb s H q l k t) (hk : k < l) (ht : t < (nb (q k)).length) (hlt : (nb (q k)).getD t 0 < n) (hj : ¬ 0 ≤ H ((nb (q k)).getD t 0)) :
    l < n ∧ State n nb s (upd H ((nb (q k)).getD t 0) (H (q k) + 1)) (upd q l ((nb (q k)).getD t 0)) (l + 1) k (t + 1) := by
  obtain ⟨j, ej⟩ : ∃ j, j = (nb (q k)).getD t 0 := ⟨_, rfl⟩
  rw [← ej] at hlt hj ⊢
  have hln : l < n := by rw [← h.num]; exact cnt_lt _ _ j hlt (by simp [live]; omega)
  refine ⟨hln, ?_⟩
  have hq : ∀ i, i < l → upd q l j i = q i := fun i hi => upd_other _ _ (by omega)
  have hql : upd q l j l = j := upd_same _ _ _
  have hH : ∀ v, v ≠ j → upd H j (H (q k) + 1) v = H v := fun v hv => upd_other _ _ hv
  have hHj : upd H j (H (q k) + 1) j = H (q k) + 1 := upd_same _ _ _
  have hne : ∀ i, i < l → q i ≠ j := fun i hi e => by have := h.mem i hi; rw [e] at this; omega
  have hHq : ∀ i, i < l → upd H j (H (q k) + 1) (upd q l j i) = H (q i) := fun i hi => by rw [hq i hi, hH _ (hne i hi)]
  have hHl : upd H j (H (q k) + 1) (upd q l j l) = H (q k) + 1 := by rw [hql, hHj]
  have hk0 := h.mem k hk
  have hlive : ∀ v, 0 ≤ H v → v ≠ j := fun v hv e => by rw [e] at hv; exact hj hv
  refine ⟨h.slt, ?_, ?_, ?_, ?_, ?_, ?_, ?_, ?_, ?_, ?_, ?_⟩
  · rw [hH _ (hlive s (by rw [h.src]; omega)), h.src]
  · intro v hv
    by_cases e : v = j
    · subst e; rw [hHj]; omega
    · rw [hH v e]; exact h.low v hv
  · rw [cnt_add (live H) _ j n hlt (by simp [live]; omega) (by simp [live, hHj]; omega) (fun v _ hv => by simp [live, hH v hv]), h.num]
  · intro i hi
    by_cases e : i = l
    · subst e; rw [hHl, hql]; exact ⟨hlt, by omega, by omega⟩
    · rw [hHq i (by omega), hq i (by omega)]; exact h.mem i (by omega)
  · intro v hv hv0
    by_cases e : v = j
    · exact ⟨l, by omega, by rw [hql, e]⟩
    · rw [hH v e] at hv0
      obtain ⟨i, hi, hqi⟩ := h.has v hv hv0
      exact ⟨i, by omega, by rw [hq i hi, hqi]⟩
  · intro v hv hv0
    by_cases e : v = j
    · subst e; rw [hHj] at hv0; omega
    · rw [hH v e] at hv0; exact h.zero v hv hv0
  · intro a b hab hb
    by_cases e : b = l
    · subst e; rw [hHl]
      by_cases e2 : a = b
      · subst e2; rw [hHl]; exact Int.le_refl _
      · rw [hHq a (by omega)]; exact h.near a (by omega) hk
    · rw [hHq a (by omega), hHq b (by omega)]; exact h.mono a b hab (by omega)
  · intro i hi _
    rw [hHq k hk]
    by_cases e : i = l
    · subst e; rw [hHl]; exact Int.le_refl _
    · rw [hHq i (by omega)]; exact h.near i (by omega) hk
  · intro i hi hil v hv
    rw [hHq i (by omega)]
    rw [hq i (by omega)] at hv
    have := h.done i hi (by omega) v hv
    rw [hH v (hlive v this.1)]; exact this
  · intro _ v hv
    rw [hHq k hk]
    rw [hq k hk] at hv
    rcases take_succ_mem ht hv with hv | e
    · have := h.part hk v hv
      rw [hH v (hlive v this.1)]; exact this
    · rw [← ej] at e; subst e; rw [hHj]; exact ⟨by omega, Int.le_refl _⟩
  · intro v hv hv0
    by_cases e : v = j
    · subst e; rw [hHj]
      refine ⟨q k, hk0.1, ?_, ?_⟩
      · rw [ej]; simp only [List.getD, List.getElem?_eq_getElem ht, Option.getD_some]; exact List.getElem_mem ht
      · rw [hH _ (hne k hk)]
    · rw [hH v e] at hv0 ⊢
      obtain ⟨u, hu, hm, hd⟩ := h.pred v hv hv0
      exact ⟨u, hu, hm, by rw [hH u (hlive u (by omega))]; exact hd⟩

/-- all neighbours of the k-th have been looked at -/
theorem next (h : State n nb s H q l k t) (hk : k < l) (ht : (nb (q k)).length ≤ t) : State n nb s H q l (k + 1) 0 := by
  refine { h with near := fun i hi hk1 => ?_, done := fun i hi hil v hv => ?_, part := fun _ v hv => by simp at hv }
  · have := h.near i hi hk
    have := h.mono k (k + 1) (by omega) hk1
    omega
  · by_cases e : i = k
    · subst e; exact h.part hk v (by rw [List.take_of_length_le ht]; exact hv)
    · exact h.done i (by omega) hil v hv

/-- what the search has found -/
structure Dist (n : Nat) (nb : Nat → List Nat) (s : Nat) (d : Nat → Int) : Prop where
  low : ∀ v, v < n → -1 ≤ d v
  high : ∀ v, v < n → d v ≤ n
  zero : ∀ v, v < n → (d v = 0 ↔ v = s)
  edge : ∀ u v, u < n → v < n → v ∈ nb u → 0 ≤ d u → 0 ≤ d v ∧ d v ≤ d u + 1
  pred : ∀ v, v < n → 0 < d v → ∃ u, u < n ∧ v ∈ nb u ∧ d v = d u + 1

theorem fin (h : State n nb s H q l k 0) (hstop : l ≤ k ∨ n ≤ l) : Dist n nb s H := by
  have hl : l ≤ n := by rw [← h.num]; exact cnt_le _ _
  refine ⟨h.low, fun v hv => ?_, fun v hv => ⟨h.zero v hv, fun e => by rw [e]; exact h.src⟩, fun u v hu hv hm hu0 => ?_, h.pred⟩
  · by_cases e : 0 ≤ H v
    · obtain ⟨i, hi, e'⟩ := h.has v hv e
      have := h.mem i hi; rw [e'] at this; omega
    · omega
  · obtain ⟨i, hi, e⟩ := h.has u hu hu0
    subst e
    by_cases hik : i < k
    · exact h.done i hik hi v hm
    · have hv0 : 0 ≤ H v := by
        apply Classical.byContradiction
        intro hv0
        have := cnt_lt (live H) n v hv (by simp [live]; omega)
        rw [h.num] at this; omega
      refine ⟨hv0, ?_⟩
      obtain ⟨j, hj, e⟩ := h.has v hv hv0
      subst e
      have := h.near j hj (by omega)
      have := h.mono k i (by omega) hi
      omega

end Go.Proofs.Qxb6000855a.Bfs
