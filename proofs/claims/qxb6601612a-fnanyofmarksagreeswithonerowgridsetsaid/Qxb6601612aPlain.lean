/-
  Marks and first occurrences, the plain law: no Go in sight. A list of servers is a function f with a length.
-/
namespace Go.Proofs.Qxb6601612a.Plain

/-- is j among the first k? -/
def mkd (f : Nat → Int) : Nat → Nat → Bool
  | 0, _ => false
  | k + 1, j => mkd f k j || decide (f k = (j : Nat))
theorem mk_succ (f : Nat → Int) (k j : Nat) : mkd f (k + 1) j = (mkd f k j || decide (f k = (j : Nat))) := rfl
theorem mk_iff (f : Nat → Int) (j : Nat) : ∀ k, mkd f k j = true ↔ ∃ e, e < k ∧ f e = (j : Nat)
  | 0 => by simp [mkd]
  | k + 1 => by
    unfold mkd
    rw [Bool.or_eq_true, mk_iff f j k, decide_eq_true_eq]
    constructor
    · rintro (⟨e, h1, h2⟩ | h)
      · exact ⟨e, by omega, h2⟩
      · exact ⟨k, by omega, h⟩
    · rintro ⟨e, h1, h2⟩
      by_cases c : e = k
      · subst c; exact Or.inr h2
      · exact Or.inl ⟨e, by omega, h2⟩
theorem mk_false (f : Nat → Int) (j k : Nat) : mkd f k j = false ↔ ∀ e, e < k → f e ≠ (j : Nat) := by
  rw [← Bool.not_eq_true, mk_iff]
  constructor
  · intro h e he hf; exact h ⟨e, he, hf⟩
  · rintro h ⟨e, he, hf⟩; exact h e he hf

/-- does the k-th server lie in [0, N)? -/
def inR (N : Nat) (f : Nat → Int) (k : Nat) : Bool := decide (0 ≤ f k ∧ f k < (N : Nat))

/-- the servers in [0, N) among the first k, each where it occurs first -/
def firsts (N : Nat) (f : Nat → Int) : Nat → List Nat
  | 0 => []
  | k + 1 => if inR N f k = true ∧ mkd f k (f k).toNat = false then firsts N f k ++ [(f k).toNat] else firsts N f k

theorem firsts_succ (N : Nat) (f : Nat → Int) (k : Nat) : firsts N f (k + 1) = if inR N f k = true ∧ mkd f k (f k).toNat = false then firsts N f k ++ [(f k).toNat] else firsts N f k := rfl
theorem firsts_len (N : Nat) (f : Nat → Int) : ∀ k, (firsts N f k).length ≤ k
  | 0 => Nat.le_refl _
  | k + 1 => by
    have := firsts_len N f k
    unfold firsts; split
    · simp; omega
    · omega
theorem mem_firsts (N : Nat) (f : Nat → Int) (j : Nat) : ∀ k, j ∈ firsts N f k ↔ j < N ∧ mkd f k j = true
  | 0 => by simp [firsts, mkd]
  | k + 1 => by
    have ih := mem_firsts N f j k
    rw [firsts_succ, mk_succ]
    by_cases h : inR N f k = true ∧ mkd f k (f k).toNat = false
    · rw [if_pos h, List.mem_append, ih]
      have h1 : 0 ≤ f k ∧ f k < (N : Nat) := by have := h.1; unfold inR at this; simpa using this
      simp only [List.mem_singleton, Bool.or_eq_true, decide_eq_true_eq]
      constructor
      · rintro (⟨a, b⟩ | c)
        · exact ⟨a, Or.inl b⟩
        · exact ⟨by omega, Or.inr (by omega)⟩
      · rintro ⟨a, b | c⟩
        · exact Or.inl ⟨a, b⟩
        · exact Or.inr (by omega)
    · rw [if_neg h, ih]
      simp only [Bool.or_eq_true, decide_eq_true_eq]
      constructor
      · rintro ⟨a, b⟩; exact ⟨a, Or.inl b⟩
      · rintro ⟨a, b | c⟩
        · exact ⟨a, b⟩
        · refine ⟨a, ?_⟩
          apply Classical.byContradiction
          intro hm
          apply h
          have e : (f k).toNat = j := by omega
          refine ⟨by unfold inR; rw [decide_eq_true_eq]; omega, by rw [e]; simpa using hm⟩
theorem firsts_nodup (N : Nat) (f : Nat → Int) : ∀ k, (firsts N f k).Nodup
  | 0 => by simp [firsts]
  | k + 1 => by
    unfold firsts
    split
    · rename_i h
      rw [List.nodup_append]
      refine ⟨firsts_nodup N f k, by simp, ?_⟩
      intro a ha b hb
      simp at hb
      subst hb
      intro e
      subst e
      have := (mem_firsts N f _ k).1 ha
      rw [h.2] at this
      exact absurd this.2 (by simp)
    · exact firsts_nodup N f k
/-- what is gathered early lies ahead -/
theorem firsts_split (N : Nat) (f : Nat → Int) (k : Nat) : ∀ d, ∃ R, firsts N f (k + d) = firsts N f k ++ R
  | 0 => ⟨[], by simp⟩
  | d + 1 => by
    obtain ⟨R, h⟩ := firsts_split N f k d
    show ∃ R, firsts N f (k + d + 1) = _
    rw [firsts_succ]
    split
    · exact ⟨R ++ [(f (k + d)).toNat], by rw [h, List.append_assoc]⟩
    · exact ⟨R, h⟩
theorem firsts_yes {N : Nat} {f : Nat → Int} {k : Nat} (h : inR N f k = true) (h2 : mkd f k (f k).toNat = false) : firsts N f (k + 1) = firsts N f k ++ [(f k).toNat] := by
  show (if _ then _ else _) = _
  rw [if_pos ⟨h, h2⟩]
theorem firsts_no {N : Nat} {f : Nat → Int} {k : Nat} (h : inR N f k = false ∨ mkd f k (f k).toNat = true) : firsts N f (k + 1) = firsts N f k := by
  show (if _ then _ else _) = _
  rw [if_neg]
  rintro ⟨a, b⟩
  rcases h with h | h
  · rw [h] at a; cases a
  · rw [h] at b; cases b
theorem firsts_at {N : Nat} {f : Nat → Int} {k l : Nat} (hk : k < l) (h : inR N f k = true) (h2 : mkd f k (f k).toNat = false) :
    (firsts N f k).length < (firsts N f l).length ∧ (firsts N f l).getD (firsts N f k).length 0 = (f k).toNat := by
  obtain ⟨R, hR⟩ := firsts_split N f (k + 1) (l - (k + 1))
  rw [show k + 1 + (l - (k + 1)) = l by omega, firsts_yes h h2] at hR
  rw [hR]
  refine ⟨by simp, by simp [List.getD]⟩

/-! ### how many are marked -/
def cnt (p : Nat → Bool) : Nat → Nat
  | 0 => 0
  | n + 1 => cnt p n + (p n).toNat
theorem cnt_le (p : Nat → Bool) : ∀ n, cnt p n ≤ n
  | 0 => Nat.le_refl _
  | n + 1 => by have := cnt_le p n; have := Bool.toNat_le (p n); unfold cnt; omega
theorem cnt_congr (p q : Nat → Bool) : ∀ n, (∀ v, v < n → p v = q v) → cnt p n = cnt q n
  | 0, _ => rfl
  | n + 1, h => by unfold cnt; rw [cnt_congr p q n (fun v hv => h v (by omega)), h n (by omega)]
theorem cnt_add (p q : Nat → Bool) (j : Nat) : ∀ n, j < n → p j = false → q j = true → (∀ v, v < n → v ≠ j → p v = q v) → cnt q n = cnt p n + 1
  | 0, h, _, _, _ => by omega
  | n + 1, h, hp, hq, hr => by
    unfold cnt
    by_cases e : j = n
    · subst e; rw [cnt_congr p q j (fun v hv => hr v (by omega) (by omega)), hp, hq]; simp
    · rw [cnt_add p q j n (by omega) hp hq (fun v hv hne => hr v (by omega) hne), hr n (by omega) (by omega)]; omega
theorem cnt_none (p : Nat → Bool) : ∀ n, (∀ v, v < n → p v = false) → cnt p n = 0
  | 0, _ => rfl
  | n + 1, h => by unfold cnt; rw [cnt_none p n (fun v hv => h v (by omega)), h n (by omega)]; rfl
/-- as many are marked as are gathered -/
theorem cnt_marks (N : Nat) (f : Nat → Int) : ∀ k, cnt (mkd f k) N = (firsts N f k).length
  | 0 => cnt_none _ _ (fun _ _ => rfl)
  | k + 1 => by
    have ih := cnt_marks N f k
    by_cases h : inR N f k = true ∧ mkd f k (f k).toNat = false
    · rw [firsts_yes h.1 h.2, List.length_append, ← ih]
      have h1 : 0 ≤ f k ∧ f k < (N : Nat) := by have := h.1; unfold inR at this; simpa using this
      refine cnt_add _ _ (f k).toNat N (by omega) h.2 ?_ (fun v _ hne => ?_)
      · rw [mk_succ, Bool.or_eq_true, decide_eq_true_eq]; right; omega
      · show mkd f k v = (mkd f k v || decide (f k = (v : Nat)))
        rw [decide_eq_false (by omega)]; simp
    · rw [firsts_no (by
        cases a : inR N f k
        · exact Or.inl rfl
        · cases b : mkd f k (f k).toNat
          · exact absurd ⟨a, b⟩ h
          · exact Or.inr rfl), ← ih]
      refine cnt_congr _ _ _ (fun v hv => ?_)
      show (mkd f k v || decide (f k = (v : Nat))) = mkd f k v
      by_cases e : f k = (v : Nat)
      · have e2 : (f k).toNat = v := by omega
        have : mkd f k v = true := by
          apply Classical.byContradiction
          intro hm
          apply h
          refine ⟨by unfold inR; rw [decide_eq_true_eq]; omega, by rw [e2]; simpa using hm⟩
        rw [this]; rfl
      · rw [decide_eq_false e]; simp

/-! ### the first place of each server, found from the end -/
/-- from place i on, G holds the first place of each server in [0, N) -/
def FirstFrom (N l : Nat) (f : Nat → Int) (G : Nat → Int) (i : Nat) : Prop :=
  ∀ e, i ≤ e → e < l → inR N f e = true → ∃ p, i ≤ p ∧ p ≤ e ∧ G (f e).toNat = (p : Nat) ∧ f p = f e ∧ ∀ e', i ≤ e' → e' < p → f e' ≠ f e

theorem firstFrom_end (N l : Nat) (f G : Nat → Int) : FirstFrom N l f G l := fun e h1 h2 => by omega
theorem firstFrom_skip {N l i : Nat} {f G : Nat → Int} (h : FirstFrom N l f G (i + 1)) (hi : inR N f i = false) : FirstFrom N l f G i := by
  intro e h1 h2 h3
  by_cases c : e = i
  · subst c; rw [hi] at h3; cases h3
  · obtain ⟨p, a1, a2, a3, a4, a5⟩ := h e (by omega) h2 h3
    refine ⟨p, by omega, a2, a3, a4, fun e' b1 b2 => ?_⟩
    by_cases c2 : e' = i
    · subst c2; intro hf
      unfold inR at hi h3
      rw [hf] at hi
      rw [hi] at h3; cases h3
    · exact a5 e' (by omega) b2
theorem firstFrom_set {N l i : Nat} {f G G' : Nat → Int} (h : FirstFrom N l f G (i + 1)) (hi : inR N f i = true) (hs : G' (f i).toNat = (i : Nat)) (ho : ∀ j, j ≠ (f i).toNat → G' j = G j) : FirstFrom N l f G' i := by
  have hb : ∀ e, inR N f e = true → 0 ≤ f e ∧ f e < (N : Nat) := fun e he => by unfold inR at he; simpa using he
  intro e h1 h2 h3
  by_cases c : f e = f i
  · refine ⟨i, Nat.le_refl _, h1, by rw [c, hs], c.symm, fun e' b1 b2 => by omega⟩
  · have hne : e ≠ i := fun e0 => c (by rw [e0])
    obtain ⟨p, a1, a2, a3, a4, a5⟩ := h e (by omega) h2 h3
    have := hb e h3
    have := hb i hi
    refine ⟨p, by omega, a2, by rw [ho _ (by omega)]; exact a3, a4, fun e' b1 b2 => ?_⟩
    by_cases c2 : e' = i
    · subst c2; exact fun hf => c hf.symm
    · exact a5 e' (by omega) b2
/-- a server stands at its first place iff it has not occurred before -/
theorem first_iff {N l i : Nat} {f G : Nat → Int} (h : FirstFrom N l f G 0) (hi : i < l) (hr : inR N f i = true) : (G (f i).toNat = (i : Nat)) ↔ mkd f i (f i).toNat = false := by
  have hb : 0 ≤ f i := by unfold inR at hr; simp at hr; exact hr.1
  obtain ⟨p, a1, a2, a3, a4, a5⟩ := h i (Nat.zero_le _) hi hr
  rw [mk_false, a3]
  constructor
  · intro e e' he' hf
    have : p = i := by omega
    subst this
    exact a5 e' (Nat.zero_le _) he' (by omega)
  · intro hall
    by_cases c : p = i
    · rw [c]
    · exact absurd (by rw [a4]; omega) (hall p (by omega))

end Go.Proofs.Qxb6601612a.Plain
