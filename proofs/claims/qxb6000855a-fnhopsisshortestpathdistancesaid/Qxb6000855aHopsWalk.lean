/-
  The walk of (Network).Hops, asked for all nodes.
-/
import Derived.Test.Qxb6000855aNet
import Derived.ArgAppend
namespace Go.Proofs.Qxb6000855a
open Go.RowKit
open Bfs (upd upd_same upd_other)
open Csr (darts outs off)

/-- append of one number where there is room -/
theorem append_one (ty : TypeId) {W : World} {q L n r : Nat} {x : Int} (hq : (W.cell? ⟨q, L, none⟩).isSome = true) (hf : W.frozen? ⟨q, L, none⟩ = false) (hr : W.cell? ⟨r, 0, none⟩ = some (.int .i64 x)) (hroom : L + 1 ≤ n) :
    (Builtin.append_ #[27, 27] ty #[.slice (some ⟨q, 0, none⟩) L n, .slice (some ⟨r, 0, none⟩) 1 1]).run Try.prog W = .ok (.slice (some ⟨q, 0, none⟩) (L + 1) n) (W.setCell ⟨q, L, none⟩ (.int .i64 x)) := by
  obtain ⟨i, hi, hzz⟩ := Option.map_eq_some_iff.1 Try.info3
  simp only [Prod.mk.injEq] at hzz
  obtain ⟨hz, hs, hb⟩ := hzz
  have h := run_append_room_cells (P := Try.prog) W 27 ty 3 i Try.underlying27 hi q 0 L n ⟨r, 0, none⟩ 1 1 [.int .i64 x] (by rw [hs]; rfl) (fun j u hj => by
    match j, hj with
    | 0, hj => simp at hj; subst hj; exact hr) (fun u hu => by simp at hu; subst hu; rfl) hroom (fun j hj => by
    obtain rfl : j = 0 := by simp at hj; omega
    rw [hs]; simpa using hq) (fun j hj => by
    obtain rfl : j = 0 := by simp at hj; omega
    rw [hs]; simpa using hf)
  rw [h, hs]
  simp [World.setCells]

/-- .. as a law for the walk -/
theorem wpList_append_one {W : World} {ops : Array Oper} {rest : List Oper} {o : Oper} {a : Act} {Q : Exit → Act → World → Prop} (hgd : o.guard = none) (sl xs : Operand)
    (ho : o.op = .call { callee := .builtin .append, args := #[sl, xs], argTypes := #[27, 27] }) (q L n r : Nat) (x : Int) (hs : a.eval sl = .slice (some ⟨q, 0, none⟩) L n) (hx : a.eval xs = .slice (some ⟨r, 0, none⟩) 1 1)
    (hq : (W.cell? ⟨q, L, none⟩).isSome = true) (hf : W.frozen? ⟨q, L, none⟩ = false) (hr : W.cell? ⟨r, 0, none⟩ = some (.int .i64 x)) (hroom : L + 1 ≤ n)
    (hK : wpList Try.prog ops Q rest (a.put o.dst (.slice (some ⟨q, 0, none⟩) (L + 1) n)) (W.setCell ⟨q, L, none⟩ (.int .i64 x))) : wpList Try.prog ops Q (o :: rest) a W := by
  have happ := append_one o.type hq hf hr hroom
  refine wpList_plain hgd fun K hK' => ?_
  unfold Oper.wp execOp
  simp only [ho, resolve, invoke, builtin, Sem.run_bind, Sem.run_pure, Result.andThen_ok, List.map_toArray, List.map_cons, List.map_nil, hs, hx, happ]
  exact hK' _ _ hK

/-- make([]int, 0, n) -/
theorem make_empty (n : Nat) (hn : n ≤ 1048576) (w : World) : (Instr.makeSlice 27 (.int .i64 0) (.int .i64 (n : Int))).run Try.prog w =
    .ok (.slice (some ⟨w.heap.size, 0, none⟩) 0 n) (w.alloc (.cells (madeCells #[.int .i64 0] n) 3)) := by
  obtain ⟨i, hi, hzz⟩ := Option.map_eq_some_iff.1 Try.info3
  simp only [Prod.mk.injEq] at hzz
  obtain ⟨hz, hs, hb⟩ := hzz
  have h := run_make (P := Try.prog) w 27 3 i _ Try.underlying27 hi hz .i64 .i64 0 n (by omega) (by omega) (by rw [hb]; omega) (by omega)
  rw [h, hs, Int.toNat_natCast, Nat.mul_one]
  rfl

theorem IR_made_set (w : World) (n i : Nat) (x : Int) : IR (w.alloc (.cells ((madeCells #[.int .i64 0] n).setIfInBounds i (.int .i64 x)) 3)) w.heap.size n (upd (fun _ => 0) i x) := by
  refine ⟨_, Deep.blk_alloc_new _ _, by rw [Array.size_setIfInBounds, size_madeCells], fun j hj => ?_⟩
  rw [Array.getElem?_setIfInBounds]
  unfold upd
  by_cases e : j = i
  · subst e; simp [size_madeCells, hj]
  · have e' : ¬ i = j := fun h => e h.symm
    simp [e, e', madeCells, hj, Nat.mod_one]

theorem IR.drewN {w : World} {b n : Nat} {f : Nat → Int} (h : IR w b n f) (k : Nat) : IR (w.drewN k) b n f := h
theorem BR.drewN {w : World} {b n : Nat} {f : Nat → Bool} (h : BR w b n f) (k : Nat) : BR (w.drewN k) b n f := h

/-- what the search's loops hold in memory -/
structure Mem (w w1 w2 wr : World) (n : Nat) (H : Nat → Int) (q : Nat → Nat) : Prop where
  hops : IR wr w.heap.size n H
  sought : BR wr w1.heap.size n (fun _ => true)
  queue : IR wr w2.heap.size n (fun i => (q i : Nat))
  below : Below w.heap.size w wr
  size : w2.heap.size < wr.heap.size

theorem Mem.drewN {w w1 w2 wr : World} {n : Nat} {H : Nat → Int} {q : Nat → Nat} (h : Mem w w1 w2 wr n H q) (k : Nat) : Mem w w1 w2 (wr.drewN k) n H q :=
  ⟨h.hops.drewN k, h.sought.drewN k, h.queue.drewN k, below_drewN h.below k, h.size⟩

theorem Mem.add {w w1 w2 wr : World} {n : Nat} {H : Nat → Int} {q : Nat → Nat} (h : Mem w w1 w2 wr n H q) (h1 : w.heap.size < w1.heap.size) (h2 : w1.heap.size < w2.heap.size) (j l : Nat) (x : Int) :
    Mem w w1 w2 (((wr.setCell ⟨w.heap.size, j, none⟩ (.int .i64 x)).setCell ⟨w2.heap.size, l, none⟩ (.int .i64 j)).alloc (.cells #[.int .i64 j] 3)) n (upd H j x) (upd q l j) := by
  have hsz := h.size
  have esz : ((wr.setCell ⟨w.heap.size, j, none⟩ (.int .i64 x)).setCell ⟨w2.heap.size, l, none⟩ (.int .i64 j)).heap.size = wr.heap.size := by simp [World.setCell]
  refine ⟨((h.hops.set j x).other (by show w.heap.size ≠ w2.heap.size; omega) _).alloc _, ((h.sought.other (by show w1.heap.size ≠ w.heap.size; omega) _).other (by show w1.heap.size ≠ w2.heap.size; omega) _).alloc _, ?_, ?_, ?_⟩
  · refine (((h.queue.other (by show w2.heap.size ≠ w.heap.size; omega) _).set l j).alloc _).congr (fun i _ => ?_)
    unfold upd; split <;> rfl
  · exact ((h.below.setCell (Nat.le_refl _) _).setCell (by show w.heap.size ≤ w2.heap.size; omega) _).alloc (by rw [esz]; omega) _
  · simp [World.setCell]; omega

set_option maxRecDepth 100000 in
set_option maxHeartbeats 4000000 in
theorem hops_any {w : World} {p n T bN bF bA bt : Nat} {nb : Nat → List Nat} {F A : Nat → Nat} (s : Nat) (hs : s < n) (h : Net w p n T bN bF bA F A) (hr : Csr.Rows n T nb F A) (hn : n ≤ 1048576) (hT : T ≤ 2097152)
    (ht : IR w bt n (fun i => (i : Int))) :
    Calls Try.prog 16 #[.pointer (some ⟨p, 0, none⟩), .int .i64 s, .slice (some ⟨bt, 0, none⟩) n n] w fun e w' => ∃ (d : Nat → Int) (b : Nat),
      e = .returned (.slice (some ⟨b, 0, none⟩) n n) ∧ IR w' b n d ∧ Bfs.Dist n nb s d ∧ Below w.heap.size w w' := by
  have hmk := run_make_row' (P := Try.prog) 27 3 (.int .i64 0) 8 Try.underlying27 Try.info3 rfl .i64 .i64 n (by omega) (by omega)
  have hmkB := run_make_row' (P := Try.prog) 35 4 (.bool false) 1 Try.underlying35 Try.info4 rfl .i64 .i64 n (by omega) (by omega)
  have hmk0 := make_empty n hn
  have hbt := World.rowIs.lt ht
  have hp := h.lt
  have c0 := h.nodes
  have HN : Hid (Net w p n T bN bF bA F A) := h
  have HR : Hid (Csr.Rows n T nb F A) := hr
  have HT : Hid (IR w bt n (fun i => (i : Int))) := ht
  clear h hr ht
  go_enter Try.func16, Try.ntmps16
  go_wp2
  go_loopw [29] (fun i wr => ∃ k : Nat, k ≤ n ∧ i = .int .i64 k ∧ IR wr w.heap.size n (fun j => if j < k then -1 else 0) ∧ Below w.heap.size w wr ∧ wr.heap.size = w.heap.size + 1) (fun i _ => n - (intOf i).toNat)
  case atStart => exact ⟨0, Nat.zero_le _, rfl, (IR_made w n).congr (fun _ _ => rfl), (Below.refl _ _).alloc (Nat.le_refl _) _, by simp⟩
  case round =>
    obtain ⟨k, hk, rfl, hrow, hbel, hsz⟩ := hrel
    by_cases hlt : k < n
    · have c1 := World.rowIs.cell hrow hlt
      have z1 := World.rowIs.frozen hrow k
      have R1 : Hid (IR (wr.setCell ⟨w.heap.size, k, none⟩ (.int .i64 (-1))) w.heap.size n (fun j => if j < k + 1 then -1 else 0)) :=
        (hrow.set k (-1)).congr (fun j _ => by
          unfold upd
          by_cases e : j = k
          · subst e; simp
          · by_cases e2 : j < k
            · simp [e, e2, show j < k + 1 by omega]
            · simp [e, e2, show ¬ j < k + 1 by omega])
      have R2 : Hid _ := hbel.setCell (p := ⟨w.heap.size, k, none⟩) (Nat.le_refl _) (.int .i64 (-1))
      have R3 : Hid (wr.heap.size = w.heap.size + 1) := hsz
      clear hrow hbel hsz c0 hmk hmkB hmk0
      go_wp2
      go_roundw
      case rel => exact ⟨k + 1, by omega, by go_num, R1, R2, by simpa [World.setCell] using R3.out⟩
      case measure => go_light; simp [intOf]; omega
    · obtain ⟨w1, rfl⟩ : ∃ w1 : World, w1 = wr := ⟨_, rfl⟩
      have R1 : Hid (IR w1 w.heap.size n (fun _ => -1)) := hrow.congr (fun j hj => by rw [if_pos (by omega)])
      have R3 : Hid (w1.heap.size = w.heap.size + 1) := hsz
      have R4 : Hid (Below w.heap.size w w1) := hbel
      have hlt1 : w.heap.size < w1.heap.size := by omega
      have c1 := (hbel.cell (p := ⟨p, 0, none⟩) hp).trans c0
      clear hrow hsz c0 hbel
      go_wp2
      go_loopw [44, 10] (fun i lf wr => ∃ k : Nat, k ≤ n ∧ i = .int .i64 k ∧ lf = .int .i64 k ∧ IR wr w.heap.size n (fun _ => -1) ∧ BR wr w1.heap.size n (fun j => decide (j < k)) ∧ Below w.heap.size w wr ∧ wr.heap.size = w1.heap.size + 1) (fun i _ _ => n - (intOf i).toNat)
      case atStart => exact ⟨0, Nat.zero_le _, rfl, rfl, R1.out.alloc _, (BR_made w1 n).congr (fun j _ => by simp), R4.out.alloc (by omega) _, by simp⟩
      case round =>
        clear R1 R4
        obtain ⟨k2, hk2, rfl, rfl, hH, hS, hbel, hsz⟩ := hrel
        by_cases hlt2 : k2 < n
        · have c2 : wr.cell? ⟨bt, k2, none⟩ = some (.int .i64 (k2 : Int)) := (hbel.cell (p := ⟨bt, k2, none⟩) hbt).trans (World.rowIs.cell HT.out hlt2)
          have c3 : wr.cell? ⟨w1.heap.size, k2, none⟩ = some (.bool false) := (World.rowIs.cell hS hlt2).trans (by simp)
          have z3 := World.rowIs.frozen hS k2
          have R1 : Hid _ := hH.other (p := ⟨w1.heap.size, k2, none⟩) (by show w.heap.size ≠ w1.heap.size; omega) (.bool true)
          have R2 : Hid (BR (wr.setCell ⟨w1.heap.size, k2, none⟩ (.bool true)) w1.heap.size n (fun j => decide (j < k2 + 1))) :=
            World.rowIs.congr (hS.set k2 true) (fun j _ => by
              unfold upd
              by_cases e : j = k2
              · subst e; simp
              · by_cases e2 : j < k2
                · simp [e, e2, show j < k2 + 1 by omega]
                · simp [e, e2, show ¬ j < k2 + 1 by omega])
          have R4 : Hid _ := hbel.setCell (p := ⟨w1.heap.size, k2, none⟩) (by show w.heap.size ≤ w1.heap.size; omega) (.bool true)
          have R5 : Hid (wr.heap.size = w1.heap.size + 1) := hsz
          clear hH hS hbel hsz c1 hmk hmkB hmk0
          go_wp2
          go_roundw
          case rel => exact ⟨k2 + 1, by omega, by go_num, by go_num, R1, R2, R4, by simpa [World.setCell] using R5.out⟩
          case measure => go_light; simp [intOf]; omega
        · obtain ⟨w2, rfl⟩ : ∃ w2 : World, w2 = wr := ⟨_, rfl⟩
          obtain rfl : n = k2 := by omega
          have R2 : Hid (BR w2 w1.heap.size n (fun _ => true)) := World.rowIs.congr hS (fun j hj => by simp [hj])
          have hlt3 : w1.heap.size < w2.heap.size := by omega
          have c2 : w2.cell? ⟨w.heap.size, s, none⟩ = some (.int .i64 (-1)) := World.rowIs.cell hH hs
          have z2 := World.rowIs.frozen hH s
          have c3 : w2.cell? ⟨w1.heap.size, s, none⟩ = some (.bool true) := (World.rowIs.cell hS hs).trans (by simp [hs])
          have c4 : w2.cell? ⟨p, 0, none⟩ = some (.slice (some ⟨bN, 0, none⟩) n n) := (hbel.cell (p := ⟨p, 0, none⟩) hp).trans HN.out.nodes
          have esz : (w2.setCell ⟨w.heap.size, s, none⟩ (.int .i64 0)).heap.size = w2.heap.size := by simp [World.setCell]
          have s1 := (hH.set s 0).alloc (.cells (madeCells #[.int .i64 0] n) 3)
          have s2 := (R2.out.other (p := ⟨w.heap.size, s, none⟩) (by show w1.heap.size ≠ w.heap.size; omega) (.int .i64 0)).alloc (.cells (madeCells #[.int .i64 0] n) 3)
          have s3 := IR_made (w2.setCell ⟨w.heap.size, s, none⟩ (.int .i64 0)) n
          have s4 := (hbel.setCell (p := ⟨w.heap.size, s, none⟩) (Nat.le_refl _) (.int .i64 0)).alloc (show w.heap.size ≤ _ by rw [esz]; omega) (.cells (madeCells #[.int .i64 0] n) 3)
          rw [esz] at s3
          have q1 : Hid ((((w2.setCell ⟨w.heap.size, s, none⟩ (.int .i64 0)).alloc (.cells (madeCells #[.int .i64 0] n) 3)).alloc (.cells #[.int .i64 s] 3)).cell? ⟨w2.heap.size, 0, none⟩).isSome := by unfold Hid; rw [World.rowIs.cell (s3.alloc _) (show 0 < n by omega)]; rfl
          have q2 : Hid _ := World.rowIs.frozen (s3.alloc (.cells #[.int .i64 s] 3)) 0
          have q3 : Hid ((((w2.setCell ⟨w.heap.size, s, none⟩ (.int .i64 0)).alloc (.cells (madeCells #[.int .i64 0] n) 3)).alloc (.cells #[.int .i64 s] 3)).cell? ⟨w2.heap.size + 1, 0, none⟩ = some (.int .i64 s)) := by
            have := new_cell (w := (w2.setCell ⟨w.heap.size, s, none⟩ (.int .i64 0)).alloc (.cells (madeCells #[.int .i64 0] n) 3)) (xs := #[.int .i64 s]) (t := 3) (i := 0) (v := .int .i64 s) rfl
            rwa [show ((w2.setCell ⟨w.heap.size, s, none⟩ (.int .i64 0)).alloc (.cells (madeCells #[.int .i64 0] n) 3)).heap.size = w2.heap.size + 1 by rw [← esz]; simp] at this
          have M0 : Hid (Mem w w1 w2 (((w2.setCell ⟨w.heap.size, s, none⟩ (.int .i64 0)).alloc (.cells ((madeCells #[.int .i64 0] n).setIfInBounds 0 (.int .i64 s)) 3)).alloc (.cells #[.int .i64 s] 3)) n (upd (fun _ => -1) s 0) (upd (fun _ => 0) 0 s)) := by
            refine ⟨((hH.set s 0).alloc _).alloc _, ((R2.out.other (p := ⟨w.heap.size, s, none⟩) (by show w1.heap.size ≠ w.heap.size; omega) _).alloc _).alloc _, ?_, ?_, ?_⟩
            · have := IR_made_set (w2.setCell ⟨w.heap.size, s, none⟩ (.int .i64 0)) n 0 s
              rw [esz] at this
              exact (this.alloc _).congr (fun j _ => by unfold upd; split <;> rfl)
            · exact ((hbel.setCell (Nat.le_refl _) _).alloc (by rw [esz]; omega) _).alloc (by simp [World.setCell]; omega) _
            · simp [World.setCell]; omega
          have S0 : Hid _ := Bfs.start n nb s (fun _ => 0) hs
          clear hH hS hbel hsz c1 s1 s2 s3 s4 R2
          go_wp2_with (at_builtin; refine wpList_append_one rfl (.tmp 73) (.tmp 75) rfl w2.heap.size 0 n (w2.heap.size + 1) s rfl rfl q1 q2 q3 (by omega) ?_)
          clear q1 q2 q3 c2 c3 c4 z2 esz
          go_loopw [10, 13, 14] (fun lf qv kv wr => ∃ (H : Nat → Int) (q : Nat → Nat) (l k : Nat), lf = .int .i64 ((n : Int) - (l : Int)) ∧ qv = .slice (some ⟨w2.heap.size, 0, none⟩) l n ∧ kv = .int .i64 k ∧ k ≤ l ∧ l ≤ n ∧
            Bfs.State n nb s H q l k 0 ∧ Mem w w1 w2 wr n H q) (fun _ _ kv _ => n - (intOf kv).toNat)
          case atStart => exact ⟨_, _, 1, 0, i64_eq (by omega), rfl, rfl, by omega, by omega, S0, M0⟩
          case round =>
            clear M0 S0
            obtain ⟨H, q, l, k3, rfl, rfl, rfl, hkl, hln, hS, hM⟩ := hrel
            by_cases hgo : k3 < l ∧ l < n
            · obtain ⟨hk3, hl3⟩ := hgo
              have hqk := hS.mem k3 hk3
              have c1 : wr.cell? ⟨w2.heap.size, k3, none⟩ = some (.int .i64 (q k3 : Nat)) := World.rowIs.cell hM.queue (show k3 < n by omega)
              obtain ⟨v, hv⟩ : ∃ v, v = q k3 := ⟨_, rfl⟩
              have HV : Hid (q k3 = v) := hv.symm
              rw [← hv] at c1 hqk
              have hvn : v < n := hqk.1
              have HS : Hid (Bfs.State n nb s H q l k3 0) := hS
              have HM : Hid (Mem w w1 w2 wr n H q) := hM
              clear hv hqk hS hM hmk hmkB hmk0
              go_wp2_with fail
              refine (neighbours_any (HN.out.kept HM.out.below (Nat.le_refl _)) HR.out hn hT v hvn).mono ?_
              rintro e w3 ⟨⟨x, rfl, hx⟩, nq, rfl⟩
              obtain ⟨d, hd⟩ : ∃ d, d = (nb v).length := ⟨_, rfl⟩
              have HD : Hid (d = (nb v).length) := hd
              have HX : Hid (0 < d → x = F v) := by rw [hd]; exact hx
              have hdT : d ≤ T := by
                have h1 := HR.out.step v hvn
                have h2 := Csr.rows_mono HR.out (show v + 1 ≤ n by omega) (Nat.le_refl _)
                rw [HR.out.last] at h2
                omega
              rw [← hd]
              clear hd hx c1
              go_wp2
              obtain ⟨w3, rfl⟩ : ∃ w3 : World, w3 = wr := ⟨_, rfl⟩
              go_loopw [10, 13, 95] (fun lf qv tv wi => ∃ (H : Nat → Int) (q : Nat → Nat) (l t : Nat), lf = .int .i64 ((n : Int) - (l : Int)) ∧ qv = .slice (some ⟨w2.heap.size, 0, none⟩) l n ∧ tv = .int .i64 t ∧ t ≤ d ∧ k3 < l ∧ l ≤ n ∧ q k3 = v ∧
                Bfs.State n nb s H q l k3 t ∧ Mem w w1 w2 wi n H q) (fun _ _ tv _ => d - (intOf tv).toNat)
              case atStart => exact ⟨H, q, l, 0, rfl, rfl, rfl, Nat.zero_le _, hk3, hln, HV, HS, HM.out.drewN nq⟩
              case round =>
                clear HS HM HV
                obtain ⟨H2, q2, l2, t, rfl, rfl, rfl, ht, hkl2, hln2, hv2, hS, hM⟩ := hrel
                by_cases hlt4 : t < d
                · obtain ⟨j, hj⟩ : ∃ j, j = (nb v).getD t 0 := ⟨_, rfl⟩
                  have htl : t < (nb v).length := by rw [← HD.out]; exact hlt4
                  have hjm : j ∈ nb v := by
                    rw [hj, List.getD, List.getElem?_eq_getElem htl]; exact List.getElem_mem htl
                  have hjn : j < n := (HR.out.lt v hvn j hjm).1
                  have c1 : wr.cell? ⟨bA, x + t, none⟩ = some (.int .i64 (j : Nat)) := by
                    have hN := HN.out.kept hM.below (Nat.le_refl _)
                    have h1 := HR.out.step v hvn
                    have h2 := Csr.rows_mono HR.out (show v + 1 ≤ n by omega) (Nat.le_refl _)
                    rw [HR.out.last] at h2
                    rw [HX.out (by omega), World.rowIs.cell hN.adjs (show F v + t < T by omega)]
                    show some (Value.int .i64 ((A (F v + t) : Nat) : Int)) = _
                    rw [HR.out.at_ v hvn t htl, hj]
                  have c2 : wr.cell? ⟨w.heap.size, j, none⟩ = some (.int .i64 (H2 j)) := World.rowIs.cell hM.hops hjn
                  have z2 := World.rowIs.frozen hM.hops j
                  have c3 : wr.cell? ⟨w.heap.size, v, none⟩ = some (.int .i64 (H2 v)) := World.rowIs.cell hM.hops hvn
                  have c4 : wr.cell? ⟨w1.heap.size, j, none⟩ = some (.bool true) := World.rowIs.cell hM.sought hjn
                  have hb := hS.mem k3 hkl2
                  rw [hv2] at hb
                  obtain ⟨_, hb1, hb2⟩ := hb
                  have hw2 : w2.heap.size < wr.heap.size := hM.size
                  have HV : Hid (q2 k3 = v) := hv2
                  have HJ : Hid (j = (nb v).getD t 0) := hj
                  by_cases hneg : 0 ≤ H2 j
                  · have HS : Hid (Bfs.State n nb s H2 q2 l2 k3 (t + 1)) := Bfs.skip hS hkl2 (by rw [hv2]; exact htl) (by rw [hv2, ← hj]; exact hjn) (by rw [hv2, ← hj]; exact hneg)
                    have HM : Hid (Mem w w1 w2 wr n H2 q2) := hM
                    clear hS hM hv2 hj hjm htl
                    generalize H2 j = hj0 at *
                    generalize H2 v = hv0 at *
                    go_wp2
                    go_roundw
                    case rel => exact ⟨H2, q2, l2, t + 1, rfl, rfl, by go_num, by omega, hkl2, hln2, HV, HS, HM⟩
                    case measure => go_light; simp [intOf]; omega
                  · obtain ⟨hl2n, hS'⟩ := Bfs.add hS hkl2 (by rw [hv2]; exact htl) (by rw [hv2, ← hj]; exact hjn) (by rw [hv2, ← hj]; exact hneg)
                    rw [hv2, ← hj] at hS'
                    have HS : Hid (Bfs.State n nb s (upd H2 j (H2 v + 1)) (upd q2 l2 j) (l2 + 1) k3 (t + 1)) := hS'
                    have HM : Hid (Mem w w1 w2 (((wr.setCell ⟨w.heap.size, j, none⟩ (.int .i64 (H2 v + 1))).setCell ⟨w2.heap.size, l2, none⟩ (.int .i64 j)).alloc (.cells #[.int .i64 j] 3)) n (upd H2 j (H2 v + 1)) (upd q2 l2 j)) := hM.add hlt1 hlt3 j l2 _
                    have HV' : Hid (upd q2 l2 j k3 = v) := by unfold Hid; rw [upd_other _ _ (by omega)]; exact hv2
                    have qrow := (hM.queue.other (p := ⟨w.heap.size, j, none⟩) (by show w2.heap.size ≠ w.heap.size; omega) (.int .i64 (H2 v + 1))).alloc (.cells #[.int .i64 j] 3)
                    have q1 : Hid ((((wr.setCell ⟨w.heap.size, j, none⟩ (.int .i64 (H2 v + 1))).alloc (.cells #[.int .i64 j] 3)).cell? ⟨w2.heap.size, l2, none⟩).isSome) := by unfold Hid; rw [World.rowIs.cell qrow hl2n]; rfl
                    have q2' : Hid (((wr.setCell ⟨w.heap.size, j, none⟩ (.int .i64 (H2 v + 1))).alloc (.cells #[.int .i64 j] 3)).frozen? ⟨w2.heap.size, l2, none⟩ = false) := World.rowIs.frozen qrow l2
                    have q3 : Hid (((wr.setCell ⟨w.heap.size, j, none⟩ (.int .i64 (H2 v + 1))).alloc (.cells #[.int .i64 j] 3)).cell? ⟨wr.heap.size, 0, none⟩ = some (.int .i64 j)) := by
                      have := new_cell (w := wr.setCell ⟨w.heap.size, j, none⟩ (.int .i64 (H2 v + 1))) (xs := #[.int .i64 j]) (t := 3) (i := 0) (v := .int .i64 j) rfl
                      rwa [show (wr.setCell ⟨w.heap.size, j, none⟩ (.int .i64 (H2 v + 1))).heap.size = wr.heap.size by simp [World.setCell]] at this
                    have c5 := World.rowIs.cell HM.out.sought hjn
                    clear hS hS' hM hv2 hj hjm htl qrow
                    generalize H2 j = hj0 at *
                    generalize H2 v = hv0 at *
                    go_wp2_with (at_builtin; refine wpList_append_one rfl (.tmp 112) (.tmp 114) rfl w2.heap.size l2 n wr.heap.size j rfl rfl q1 q2' q3 (by omega) ?_)
                    go_roundw
                    case rel => exact ⟨_, _, l2 + 1, t + 1, i64_eq (by omega), rfl, by go_num, by omega, by omega, by omega, HV', HS, HM⟩
                    case measure => go_light; simp [intOf]; omega
                · have HS : Hid (Bfs.State n nb s H2 q2 l2 (k3 + 1) 0) := Bfs.next hS hkl2 (by rw [hv2, ← HD.out]; omega)
                  have HM : Hid (Mem w w1 w2 wr n H2 q2) := hM
                  clear hS hM hv2
                  go_wp2
                  go_roundw
                  case rel => exact ⟨H2, q2, l2, k3 + 1, rfl, rfl, by go_num, by omega, hln2, HS, HM⟩
                  case measure => go_light; simp [intOf]; omega
            · have hD := Bfs.fin hS (by omega)
              have HD : Hid (Bfs.Dist n nb s H) := hD
              have HM : Hid (Mem w w1 w2 wr n H q) := hM
              have hw3 : w2.heap.size < wr.heap.size := hM.size
              clear hD hS hM hmkB hmk0
              obtain ⟨w3, rfl⟩ : ∃ w3 : World, w3 = wr := ⟨_, rfl⟩
              rcases (show (k3 < l ∧ n ≤ l) ∨ ¬ k3 < l by omega) with ⟨hk3, hnl⟩ | hk3
              all_goals
                clear hgo
                go_wp2
                go_loopw [128] (fun i wr => ∃ k : Nat, k ≤ n ∧ i = .int .i64 k ∧ IR wr w.heap.size n H ∧ IR wr w3.heap.size n (fun j => if j < k then H j else 0) ∧ Below w.heap.size w wr) (fun i _ => n - (intOf i).toNat)
                case atStart => exact ⟨0, Nat.zero_le _, rfl, HM.out.hops.alloc _, (IR_made w3 n).congr (fun _ _ => rfl), HM.out.below.alloc (by omega) _⟩
                case round =>
                  clear HM hmk
                  obtain ⟨k5, hk5, rfl, hH, hF, hbel⟩ := hrel
                  by_cases hlt5 : k5 < n
                  · have c1 : wr.cell? ⟨bt, k5, none⟩ = some (.int .i64 (k5 : Int)) := (hbel.cell (p := ⟨bt, k5, none⟩) hbt).trans (World.rowIs.cell HT.out hlt5)
                    have c2 : wr.cell? ⟨w.heap.size, k5, none⟩ = some (.int .i64 (H k5)) := World.rowIs.cell hH hlt5
                    have c3 := World.rowIs.cell hF hlt5
                    have z3 := World.rowIs.frozen hF k5
                    have R1 : Hid _ := hH.other (p := ⟨w3.heap.size, k5, none⟩) (by show w.heap.size ≠ w3.heap.size; omega) (.int .i64 (H k5))
                    have R2 : Hid (IR (wr.setCell ⟨w3.heap.size, k5, none⟩ (.int .i64 (H k5))) w3.heap.size n (fun j => if j < k5 + 1 then H j else 0)) :=
                      (hF.set k5 (H k5)).congr (fun j _ => by
                        unfold upd
                        by_cases e : j = k5
                        · subst e; simp
                        · by_cases e2 : j < k5
                          · simp [e, e2, show j < k5 + 1 by omega]
                          · simp [e, e2, show ¬ j < k5 + 1 by omega])
                    have R4 : Hid _ := hbel.setCell (p := ⟨w3.heap.size, k5, none⟩) (by show w.heap.size ≤ w3.heap.size; omega) (.int .i64 (H k5))
                    clear hH hF hbel
                    go_wp2
                    go_roundw
                    case rel => exact ⟨k5 + 1, by omega, by go_num, R1, R2, R4⟩
                    case measure => go_light; simp [intOf]; omega
                  · have R2 : Hid (IR wr w3.heap.size n H) := hF.congr (fun j hj => by rw [if_pos (by omega)])
                    clear hH hF
                    go_wp2
                    go_ret
                    exact ⟨H, w3.heap.size, rfl, R2, HD, hbel⟩

end Go.Proofs.Qxb6000855a
