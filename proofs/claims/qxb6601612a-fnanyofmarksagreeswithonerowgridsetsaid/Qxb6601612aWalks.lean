/-
  The walks of (anyOf).marks, (grid).set and their doors.
-/
import Derived.Test.Qxb6601612aSmall
import Derived.Test.Qxb6601612aPlain
import Derived.Deep.AppendLies
namespace Go.Proofs.Qxb6601612a
open Go.RowKit
open Plain (mkd firsts inR)

theorem index_ofB {a : Option Addr} {b o l c k : Nat} (h : a = some ⟨b, o, none⟩) (hk : k < l) :
    ∀ w, (Instr.indexAt 26 (.slice a l c) (.int .i64 (k : Int))).run Try.prog w = .ok (.pointer (some ⟨b, o + k, none⟩)) w := by
  subst h
  intro w
  rw [run_indexAt_slice w 26 ⟨b, o, none⟩ l c .i64 k Try.underlying26, if_pos (by omega)]
  have hs : (sizeOf (Try.prog.elem 26)).run Try.prog w = .ok 1 w := by kernel_rfl
  rw [hs]
  simp [Result.andThen, Addr.add]

set_option maxRecDepth 20000 in
set_option maxHeartbeats 1000000 in
theorem marks_any (am ao a : Option Addr) (lm cm lo co l c : Nat) (kk : Int) (f : Nat → Int) (w : World) (hlm : lm ≤ 1048576) (hl : l ≤ 1048576) (hf : Reads w a l f) :
    Calls Try.prog 23 #[.agg #[.slice am lm cm, .slice ao lo co, .int .i64 kk], .slice a l c] w fun e w' => e = .returned (.slice (some ⟨w.heap.size + 1, 0, none⟩) lm lm) ∧ BR w' (w.heap.size + 1) lm (mkd f l) ∧ Below w.heap.size w w' ∧ w'.heap.size = w.heap.size + 2 := by
  have hmk := run_make_row' (P := Try.prog) 26 4 (.bool false) 1 Try.underlying26 Try.info4 rfl .i64 .i64 lm (by omega) (by omega)
  have HF : Hid (Reads w a l f) := hf
  clear hf
  go_enter Try.func23, Try.ntmps23
  go_wp2
  go_loopw [14] (fun i wr => ∃ k : Nat, k ≤ l ∧ i = .int .i64 k ∧ BR wr (w.heap.size + 1) lm (mkd f k) ∧ Below w.heap.size w wr ∧ wr.heap.size = w.heap.size + 2) (fun i _ => l - (intOf i).toNat)
  case atStart =>
    have hm := BR_made (w.alloc (.cells #[.slice am lm cm, .slice ao lo co, .int .i64 kk] 37)) lm
    rw [World.size_alloc] at hm
    exact ⟨0, Nat.zero_le _, rfl, hm.congr (fun _ _ => rfl), ((Below.refl _ _).alloc (Nat.le_refl _) _).alloc (by simp) _, by simp⟩
  case round =>
    clear hmk
    obtain ⟨k, hk, rfl, hrow, hbel, hsz⟩ := hrel
    by_cases hlt : k < l
    · obtain ⟨b, o, i1, g1, _⟩ := HF.out.elem (c := c) hbel (Nat.le_refl _) hlt (Nat.le_refl _)
      obtain ⟨x, hx⟩ : ∃ x, x = f k := ⟨_, rfl⟩
      rw [← hx] at g1
      have R3 : Hid (wr.heap.size = w.heap.size + 2) := hsz
      by_cases c1 : 0 ≤ x
      · by_cases c2 : x < (lm : Int)
        · obtain ⟨s, rfl⟩ := Int.eq_ofNat_of_zero_le c1
          have hs : s < lm := by omega
          have g2 := World.rowIs.cell hrow hs
          have g3 := World.rowIs.frozen hrow s
          have R1 : Hid (BR (wr.setCell ⟨w.heap.size + 1, s, none⟩ (.bool true)) (w.heap.size + 1) lm (mkd f (k + 1))) :=
            (hrow.set s true).congr (fun j _ => by
              rw [Plain.mk_succ, ← hx]
              unfold upd
              by_cases e : j = s
              · subst e; simp
              · rw [if_neg e, decide_eq_false (by omega)]; simp)
          have R2 : Hid _ := hbel.setCell (p := ⟨w.heap.size + 1, s, none⟩) (by show w.heap.size ≤ w.heap.size + 1; omega) (.bool true)
          clear hrow hbel hsz hx
          go_wp2
          go_roundw
          case rel => exact ⟨k + 1, by omega, by go_num, R1, R2, by simpa [World.setCell] using R3.out⟩
          case measure => go_light; simp [intOf]; omega
        · have R1 : Hid (BR wr (w.heap.size + 1) lm (mkd f (k + 1))) := hrow.congr (fun j hj => by rw [Plain.mk_succ, ← hx, decide_eq_false (by omega)]; simp)
          have c2' : decide (x < (lm : Int)) = false := by simpa using c2
          clear hrow hsz hx
          go_wp2
          go_roundw
          case rel => exact ⟨k + 1, by omega, by go_num, R1, hbel, R3⟩
          case measure => go_light; simp [intOf]; omega
      · have R1 : Hid (BR wr (w.heap.size + 1) lm (mkd f (k + 1))) := hrow.congr (fun j hj => by rw [Plain.mk_succ, ← hx, decide_eq_false (by omega)]; simp)
        have c1' : decide (0 ≤ x) = false := by simpa using c1
        clear hrow hsz hx
        go_wp2
        go_roundw
        case rel => exact ⟨k + 1, by omega, by go_num, R1, hbel, R3⟩
        case measure => go_light; simp [intOf]; omega
    · have R1 : Hid (BR wr (w.heap.size + 1) lm (mkd f l)) := by rw [show l = k by omega]; exact hrow
      have R3 : Hid (wr.heap.size = w.heap.size + 2) := hsz
      clear hrow hsz
      go_wp2
      go_ret
      exact ⟨rfl, R1, hbel, R3⟩

set_option maxHeartbeats 400000 in
theorem zzMarks_any (am ao a : Option Addr) (lm cm lo co l c : Nat) (kk : Int) (f : Nat → Int) (w : World) (hlm : lm ≤ 1048576) (hl : l ≤ 1048576) (hf : Reads w a l f) :
    Calls Try.prog 19 #[.slice am lm cm, .slice ao lo co, .int .i64 kk, .slice a l c] w fun e w' => e = .returned (.slice (some ⟨w.heap.size + 1, 0, none⟩) lm lm) ∧ BR w' (w.heap.size + 1) lm (mkd f l) ∧ Below w.heap.size w w' ∧ w'.heap.size = w.heap.size + 2 := by
  have HF : Hid (Reads w a l f) := hf
  clear hf
  go_enter Try.func19, Try.ntmps19
  go_wp2_with fail
  refine (marks_any am ao a lm cm lo co l c kk f _ hlm hl HF.out).mono ?_
  rintro e w1 ⟨rfl, h1, h2, h3⟩
  have H1 : Hid _ := h1
  have H2 : Hid _ := h2
  have H3 : Hid _ := h3
  clear h1 h2 h3
  go_wp2
  go_ret
  exact ⟨rfl, H1, H2, H3⟩

theorem reads_own {w : World} {base : Nat} {L : List Nat} {a : Option Addr} {c : Nat} (h : w.ownsRow base 3 1 (.slice a L.length c) L.length (L.map (fun j => .int .i64 (j : Nat)))) : Reads w a L.length (fun i => ((L.getD i 0 : Nat) : Int)) := by
  intro hn
  obtain ⟨_, h⟩ := h
  rcases h with ⟨h1, h2⟩ | ⟨g, cap, cur, hv, hb, hg, h1, h2, h3, h4⟩
  · omega
  · simp only [Value.slice.injEq] at hv
    obtain ⟨rfl, _, rfl⟩ := hv
    have hlt : g < w.heap.size := by
      rcases Nat.lt_or_ge g w.heap.size with hlt | hge
      · exact hlt
      · rw [Array.getElem?_eq_none hge] at hg; cases hg
    refine ⟨g, 0, rfl, hlt, fun i hi => ?_⟩
    unfold World.cell?
    rw [hg]
    show cur[0 + i]? = some (Value.int .i64 ((L.getD i 0 : Nat) : Int))
    have e := congrArg (fun l : List Value => l[i]?) h4
    simp only [Nat.mul_one, List.getElem?_take, hi, if_true, List.getElem?_map] at e
    rw [Nat.zero_add, ← Array.getElem?_toList, e, List.getElem?_eq_getElem hi]
    simp [List.getD, List.getElem?_eq_getElem hi]

/-- the loop of set: what has been gathered, and where it lies -/
structure Got (w wr : World) (q : Nat) (f : Nat → Int) (k : Nat) (a : Option Addr) (c : Nat) : Prop where
  seen : BR wr (w.heap.size + 1) q (mkd f k)
  own : wr.ownsRow (w.heap.size + 2) 3 1 (.slice a (firsts q f k).length c) (firsts q f k).length ((firsts q f k).map (fun j => .int .i64 (j : Nat)))
  nil : a = none ↔ (firsts q f k).length = 0
  below : Below w.heap.size w wr
  size : w.heap.size + 2 ≤ wr.heap.size

theorem Got.skip {w wr : World} {q : Nat} {f : Nat → Int} {k : Nat} {a : Option Addr} {c : Nat} (h : Got w wr q f k a c) (hn : inR q f k = false ∨ mkd f k (f k).toNat = true) : Got w wr q f (k + 1) a c := by
  have e := Plain.firsts_no hn
  refine ⟨h.seen.congr (fun j hj => ?_), by rw [e]; exact h.own, by rw [e]; exact h.nil, h.below, h.size⟩
  rw [Plain.mk_succ]
  by_cases c1 : f k = (j : Nat)
  · rcases hn with hn | hn
    · unfold inR at hn; simp at hn; omega
    · rw [show (f k).toNat = j by omega] at hn; rw [hn]; rfl
  · rw [decide_eq_false c1]; simp

theorem Got.grown {w wr : World} {q : Nat} {f : Nat → Int} {k : Nat} {a : Option Addr} {c : Nat} (h : Got w wr q f k a c) {s : Nat} {w2 : World}
    (hg : ((wr.setCell ⟨w.heap.size + 1, s, none⟩ (.bool true)).alloc (.cells #[.int .i64 (s : Nat)] 3)).grownBy w2 (Value.slice a (firsts q f k).length c).ownBlock) :
    Below (w.heap.size + 2) (wr.setCell ⟨w.heap.size + 1, s, none⟩ (.bool true)) w2 := by
  have h1 := h.size
  have esz : (wr.setCell ⟨w.heap.size + 1, s, none⟩ (.bool true)).heap.size = wr.heap.size := by simp [World.setCell]
  exact ((Below.refl _ _).alloc (by rw [esz]; exact h1) _).grown hg (by rw [World.size_alloc, esz]; omega) (fun k e => (h.own.lt k e).1)

theorem Got.add {w wr : World} {q : Nat} {f : Nat → Int} {k : Nat} {a : Option Addr} {c s gg cap : Nat} (h : Got w wr q f k a c) (hs : f k = (s : Nat)) (hq : s < q) (hm : mkd f k s = false) {w2 : World}
    (hb : Below (w.heap.size + 2) (wr.setCell ⟨w.heap.size + 1, s, none⟩ (.bool true)) w2)
    (ho : w2.ownsRow (w.heap.size + 2) 3 1 (.slice (some ⟨gg, 0, none⟩) ((firsts q f k).length + 1) cap) ((firsts q f k).length + 1) ((firsts q f k).map (fun j => .int .i64 (j : Nat)) ++ [.int .i64 (s : Nat)])) :
    Got w w2 q f (k + 1) (some ⟨gg, 0, none⟩) cap ∧ (firsts q f (k + 1)).length = (firsts q f k).length + 1 := by
  have hr : inR q f k = true := by unfold inR; rw [decide_eq_true_eq]; omega
  have e := Plain.firsts_yes hr (by rw [show (f k).toNat = s by omega]; exact hm)
  rw [show (f k).toNat = s by omega] at e
  have el : (firsts q f (k + 1)).length = (firsts q f k).length + 1 := by rw [e]; simp
  have h1 := h.size
  have esz : (wr.setCell ⟨w.heap.size + 1, s, none⟩ (.bool true)).heap.size = wr.heap.size := by simp [World.setCell]
  refine ⟨⟨?_, ?_, ?_, ?_, ?_⟩, el⟩
  · refine ((h.seen.set s true).kept hb (by omega)).congr (fun j hj => ?_)
    rw [Plain.mk_succ, hs]
    unfold upd
    by_cases c1 : j = s
    · subst c1; simp
    · rw [if_neg c1, decide_eq_false (by omega)]; simp
  · rw [el, e, List.map_append]; exact ho
  · rw [el]; constructor
    · intro h; cases h
    · intro h; omega
  · exact (h.below.setCell (p := ⟨w.heap.size + 1, s, none⟩) (by show w.heap.size ≤ w.heap.size + 1; omega) _).trans (hb.mono (by omega))
  · have := hb.size; omega

set_option maxRecDepth 20000 in
set_option maxHeartbeats 1000000 in
theorem set_any (rows cols down across : Int) (q : Nat) (a : Option Addr) (l c : Nat) (f : Nat → Int) (w : World) (hq : rows * cols = (q : Int)) (hq1 : q ≤ 1048576) (hl : l ≤ 1048576) (hf : Reads w a l f) :
    Calls Try.prog 22 #[.agg #[.int .i64 rows, .int .i64 cols, .int .i64 down, .int .i64 across], .slice a l c] w fun e w' => ∃ a' c', e = .returned (.slice a' (firsts q f l).length c') ∧
      Reads w' a' (firsts q f l).length (fun i => ((firsts q f l).getD i 0 : Nat)) ∧ (a' = none ↔ (firsts q f l).length = 0) ∧ Below w.heap.size w w' := by
  have hmk := run_make_row' (P := Try.prog) 26 4 (.bool false) 1 Try.underlying26 Try.info4 rfl .i64 .i64 q (by omega) (by omega)
  have HF : Hid (Reads w a l f) := hf
  clear hf
  go_enter Try.func22, Try.ntmps22
  go_wp2
  go_loopw [17, 6] (fun i v wr => ∃ (k : Nat) (a' : Option Addr) (c' : Nat), k ≤ l ∧ i = .int .i64 k ∧ v = .slice a' (firsts q f k).length c' ∧ Got w wr q f k a' c') (fun i _ _ => l - (intOf i).toNat)
  case atStart =>
    have hm := BR_made (w.alloc (.cells #[.int .i64 rows, .int .i64 cols, .int .i64 down, .int .i64 across] 34)) q
    rw [World.size_alloc] at hm
    exact ⟨0, none, 0, Nat.zero_le _, rfl, rfl, hm.congr (fun _ _ => rfl), World.ownsRow_nil _ _ _ _, ⟨fun _ => rfl, fun _ => rfl⟩, ((Below.refl _ _).alloc (Nat.le_refl _) _).alloc (by simp) _, by simp⟩
  case round =>
    clear hmk hq
    obtain ⟨k, a1, c1, hk, rfl, rfl, hG⟩ := hrel
    by_cases hlt : k < l
    · obtain ⟨b, o, i1, g1, _⟩ := HF.out.elem (c := c) hG.below (Nat.le_refl _) hlt (Nat.le_refl _)
      obtain ⟨x, hx⟩ : ∃ x, x = f k := ⟨_, rfl⟩
      rw [← hx] at g1
      have HG : Hid (Got w wr q f k a1 c1) := hG
      have HX : Hid (x = f k) := hx
      have hNl := Plain.firsts_len q f k
      obtain ⟨N, hN⟩ : ∃ N, N = (firsts q f k).length := ⟨_, rfl⟩
      have HN : Hid (N = (firsts q f k).length) := hN
      rw [← hN] at hNl ⊢
      have hsz : w.heap.size + 2 ≤ wr.heap.size := hG.size
      by_cases c2 : 0 ≤ x
      · by_cases c3 : x < (q : Int)
        · obtain ⟨s, rfl⟩ := Int.eq_ofNat_of_zero_le c2
          have hs : s < q := by omega
          have g2 : wr.cell? ⟨w.heap.size + 1, s, none⟩ = some (.bool (mkd f k s)) := World.rowIs.cell hG.seen hs
          have g3 := World.rowIs.frozen hG.seen s
          cases hm : mkd f k s
          · rw [hm] at g2
            have HMM : Hid (mkd f k s = false) := hm
            obtain ⟨i0, hi0, hz0, hz1, hz2⟩ := info_parts Try.info3
            have esz : (wr.setCell ⟨w.heap.size + 1, s, none⟩ (.bool true)).heap.size = wr.heap.size := by simp [World.setCell]
            have hown : wr.ownsRow (w.heap.size + 2) 3 1 (.slice a1 N c1) N ((firsts q f k).map (fun j => .int .i64 (j : Nat))) := by rw [hN]; exact hG.own
            have q1 : Hid (((wr.setCell ⟨w.heap.size + 1, s, none⟩ (.bool true)).alloc (.cells #[.int .i64 (s : Nat)] 3)).ownsRow (w.heap.size + 2) 3 1 (.slice a1 N c1) N ((firsts q f k).map (fun j => .int .i64 (j : Nat)))) := (ownsRow_setCell_below hown (by show w.heap.size + 1 < w.heap.size + 2; omega) _).alloc _
            have q2 : Hid (∀ i u, ([.int .i64 (s : Nat)] : List Value)[i]? = some u → ((wr.setCell ⟨w.heap.size + 1, s, none⟩ (.bool true)).alloc (.cells #[.int .i64 (s : Nat)] 3)).cell? ((⟨wr.heap.size, 0, none⟩ : Addr).add i) = some u) := by
              have := World.news_of_block (cs := #[.int .i64 (s : Nat)]) (t := 3) (fr := (0, 0)) (heap_alloc_new (wr.setCell ⟨w.heap.size + 1, s, none⟩ (.bool true)) (.cells #[.int .i64 (s : Nat)] 3))
              rw [esz] at this
              exact this
            have q3 : Hid (w.heap.size + 2 ≤ ((wr.setCell ⟨w.heap.size + 1, s, none⟩ (.bool true)).alloc (.cells #[.int .i64 (s : Nat)] 3)).heap.size) := by unfold Hid; rw [World.size_alloc, esz]; omega
            have q4 : Hid (((wr.setCell ⟨w.heap.size + 1, s, none⟩ (.bool true)).alloc (.cells #[.int .i64 (s : Nat)] 3)).heap.size = wr.heap.size + 1) := by unfold Hid; rw [World.size_alloc, esz]
            have q5 : Hid (N + 1 ≤ maxLen) := by unfold Hid maxLen; omega
            have q6 : Hid ((N + 1) * 8 ≤ 140737488355328) := by unfold Hid; omega
            have q7 : Hid (∀ u ∈ ([.int .i64 (s : Nat)] : List Value), u.oneCell' = true) := by unfold Hid; simp [Value.oneCell']
            clear hG hown hN hx hm esz
            go_wp2_with (at_builtin; refine wpList_append_lies _ rfl (.tmp 39) (.tmp 41) 22 rfl (w.heap.size + 2) 3 i0 (.int .i64 0) 1 8 Try.underlying22 hi0 hz0 hz1 hz2 rfl Nat.one_pos (.slice a1 N c1) N ((firsts q f k).map (fun j => .int .i64 (j : Nat))) rfl q1.out ⟨wr.heap.size, 0, none⟩ 1 1 [.int .i64 (s : Nat)] rfl rfl q2.out q7.out Nat.one_pos q5.out q6.out q3.out (wr.heap.size + 1) q4.out ?_; intro gg cap w2 hown1 hgrow hat hlt2; have HO1 : Hid (w2.ownsRow (w.heap.size + 2) 3 1 (.slice (some ⟨gg, 0, none⟩) (N + 1) cap) (N + 1) ((firsts q f k).map (fun j => .int .i64 (j : Nat)) ++ [.int .i64 (s : Nat)])) := hown1; have HGR : Hid (((wr.setCell ⟨w.heap.size + 1, s, none⟩ (.bool true)).alloc (.cells #[.int .i64 (s : Nat)] 3)).grownBy w2 (Value.slice a1 N c1).ownBlock) := hgrow; clear hown1 hgrow hat hlt2)
            go_roundw
            case rel =>
              have hB2 := HG.out.grown (s := s) (w2 := w2) (by rw [← HN.out]; exact HGR.out)
              obtain ⟨R, el⟩ := HG.out.add HX.out.symm hs HMM.out hB2 (gg := gg) (cap := cap) (by rw [← HN.out]; exact HO1.out)
              exact ⟨k + 1, some ⟨gg, 0, none⟩, cap, by omega, by go_num, by rw [el, HN.out], R⟩
            case measure => go_light; simp [intOf]; omega
          · rw [hm] at g2
            have R : Hid (Got w wr q f (k + 1) a1 c1) := hG.skip (Or.inr (by rw [← hx, Int.toNat_natCast]; exact hm))
            have el : Hid ((firsts q f (k + 1)).length = N) := by
              unfold Hid; rw [Plain.firsts_no (Or.inr (by rw [← hx, Int.toNat_natCast]; exact hm)), hN]
            clear hG hN hx hm
            go_wp2
            go_roundw
            case rel => exact ⟨k + 1, a1, c1, by omega, by go_num, by rw [el.out], R⟩
            case measure => go_light; simp [intOf]; omega
        · have hno : inR q f k = false := by unfold inR; rw [← hx]; simp; omega
          have R : Hid (Got w wr q f (k + 1) a1 c1) := hG.skip (Or.inl hno)
          have el : Hid ((firsts q f (k + 1)).length = N) := by unfold Hid; rw [Plain.firsts_no (Or.inl hno), hN]
          have c3' : decide (x < (q : Int)) = false := by simpa using c3
          clear hG hN hx hno
          go_wp2
          go_roundw
          case rel => exact ⟨k + 1, a1, c1, by omega, by go_num, by rw [el.out], R⟩
          case measure => go_light; simp [intOf]; omega
      · have hno : inR q f k = false := by unfold inR; rw [← hx]; simp; omega
        have R : Hid (Got w wr q f (k + 1) a1 c1) := hG.skip (Or.inl hno)
        have el : Hid ((firsts q f (k + 1)).length = N) := by unfold Hid; rw [Plain.firsts_no (Or.inl hno), hN]
        have c2' : decide (0 ≤ x) = false := by simpa using c2
        clear hG hN hx hno
        go_wp2
        go_roundw
        case rel => exact ⟨k + 1, a1, c1, by omega, by go_num, by rw [el.out], R⟩
        case measure => go_light; simp [intOf]; omega
    · have HG : Hid (Got w wr q f l a1 c1) := by rw [show l = k by omega]; exact hG
      have hkl : Hid (k = l) := by unfold Hid; omega
      clear hG
      go_wp2
      go_ret
      exact ⟨a1, c1, by rw [← hkl.out]; rfl, reads_own HG.out.own, HG.out.nil, HG.out.below⟩

set_option maxHeartbeats 400000 in
theorem zzSet_any (rows cols down across : Int) (q : Nat) (a : Option Addr) (l c : Nat) (f : Nat → Int) (w : World) (hq : rows * cols = (q : Int)) (hq1 : q ≤ 1048576) (hl : l ≤ 1048576) (hf : Reads w a l f) :
    Calls Try.prog 15 #[.int .i64 rows, .int .i64 cols, .int .i64 down, .int .i64 across, .slice a l c] w fun e w' => ∃ a' c', e = .returned (.slice a' (firsts q f l).length c') ∧
      Reads w' a' (firsts q f l).length (fun i => ((firsts q f l).getD i 0 : Nat)) ∧ (a' = none ↔ (firsts q f l).length = 0) ∧ Below w.heap.size w w' := by
  have HF : Hid (Reads w a l f) := hf
  have HQ : Hid (rows * cols = (q : Int)) := hq
  clear hf hq
  go_enter Try.func15, Try.ntmps15
  go_wp2_with fail
  refine (set_any rows cols down across q a l c f _ HQ.out hq1 hl HF.out).mono ?_
  rintro e w1 ⟨a', c', rfl, h1, h2, h3⟩
  have H1 : Hid _ := h1
  have H2 : Hid _ := h2
  have H3 : Hid _ := h3
  clear h1 h2 h3
  go_wp2
  go_ret
  exact ⟨a', c', rfl, H1, H2, H3⟩

end Go.Proofs.Qxb6601612a
