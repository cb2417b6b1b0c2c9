/-
  THE WALK of ZZnewCountedScheduler: a scheduler with one processor a count, made in new memory.
-/
import Derived.Test.Qxb6615788aReads
import Derived.Deep.OwnRows
import Derived.Deep.RegionHeld3
namespace Go.Proofs.Qxb6615788a
open Go.RowKit

/-- 'proc{index: k}': 662 cells, kept shut. -/
theorem build98 : ∃ Z : Array Value, (∀ k w, (Instr.build 98 #[(0, .int .i64 k)]).run Try.prog w = .ok (.agg (Z.setIfInBounds 0 (.int .i64 k))) w) ∧ Z.size = 662 ∧ Z[651]? = some (.int .u64 0) ∧ Z[653]? = some (.int .u64 0) :=
  ⟨(Try.prog.info? 98).elim #[] fun i => (i.zero.elim #[] Value.cells), fun k w => by kernel_rfl, by kernel_rfl, by kernel_rfl, by kernel_rfl⟩

/-- 'Scheduler{procs: v}': 60 cells, kept shut. -/
theorem build85 : ∃ Z : Array Value, (∀ a n c w, (Instr.build 85 #[(0, .slice a n c)]).run Try.prog w = .ok (.agg (Z.setIfInBounds 0 (.slice a n c))) w) ∧ Z.size = 60 ∧ Z[1]? = some (.int .u64 0) :=
  ⟨(Try.prog.info? 85).elim #[] fun i => (i.zero.elim #[] Value.cells), fun a n c w => by kernel_rfl, by kernel_rfl, by kernel_rfl⟩

/-- A struct built of one part, by its run equation. -/
theorem wpList_build {P : Program} {w : World} {ops : Array Oper} {rest : List Oper} {o : Oper} {a : Act} {Q : Exit → Act → World → Prop} (hgd : o.guard = none) (t : TypeId) (i : Nat) (x : Operand)
    (ho : o.op = .build t #[(i, x)]) (u v : Value) (hx : a.eval x = u) (hrun : (Instr.build t #[(i, u)]).run P w = .ok v w)
    (h : wpList P ops Q rest (a.put o.dst v) w) : wpList P ops Q (o :: rest) a w := by
  refine wpList_plain hgd fun K hK => ?_
  unfold Oper.wp
  simp only [execOp, ho, List.map_toArray, List.map_cons, List.map_nil, hx, hrun, Sem.run_bind, Result.andThen_ok, Sem.run_pure]
  exact hK _ _ h

/-- What holds of the world 'wr' behind 'k' rounds of ZZnewCountedScheduler's loop, entered in the world 'w'. -/
structure Inv (w wr : World) (n : Nat) (h : Int) (xs ys : List Int) (k : Nat) : Prop where
  below : Below w.heap.size w wr
  size : w.heap.size + 2 ≤ wr.heap.size
  procs : wr.cell? ⟨w.heap.size + 1, 0, none⟩ = some (.slice (some ⟨w.heap.size, 0, none⟩) n n)
  handed : wr.cell? ⟨w.heap.size + 1, 1, none⟩ = some (.int .u64 h)
  row : ∀ i, i < n → ∃ v, wr.cell? ⟨w.heap.size, i, none⟩ = some v
  free : ∀ i, wr.frozen? ⟨w.heap.size, i, none⟩ = false
  gone : ∀ i, i < k → ∃ p, w.heap.size + 1 < p ∧ p < wr.heap.size ∧ wr.cell? ⟨w.heap.size, i, none⟩ = some (.pointer (some ⟨p, 0, none⟩)) ∧ wr.cell? ⟨p, 651, none⟩ = some (.int .u64 (ys.getD i 0)) ∧ wr.cell? ⟨p, 653, none⟩ = some (.int .u64 (xs.getD i 0))

theorem cell_set_ne {w : World} {b i c j : Nat} (v : Value) (h : ¬ (b = c ∧ i = j)) : (w.setCell ⟨b, i, none⟩ v).cell? ⟨c, j, none⟩ = w.cell? ⟨c, j, none⟩ :=
  World.cell?_setCell_other _ _ _ _ (by intro e; cases e; exact h ⟨rfl, rfl⟩)

theorem start_inv (w : World) (n : Nat) (h : Int) (xs ys : List Int) (Y : Array Value) (hy : Y.size = 60) :
    Inv w ((w.alloc (.cells (madeCells #[.pointer none] n) 87)).alloc (.cells ((Y.setIfInBounds 0 (.slice (some ⟨w.heap.size, 0, none⟩) n n)).setIfInBounds 1 (.int .u64 h)) 85)) n h xs ys 0 where
  below := ((Below.refl _ _).alloc (Nat.le_refl _) _).alloc (by simp) _
  size := by simp
  procs := by
    rw [World.cell?_alloc_at _ _ _ _ (by simp)]
    simp [hy]
  handed := by
    rw [World.cell?_alloc_at _ _ _ _ (by simp)]
    simp [hy]
  row := fun i hi => by
    rw [World.cell?_alloc_past _ _ _ (by simp), World.cell?_alloc_at _ _ _ _ rfl]
    exact ⟨(madeCells #[.pointer none] n)[i]'(by rw [size_madeCells]; exact hi), by rw [Array.getElem?_eq_getElem]⟩
  free := fun i => by
    rw [World.frozen?_alloc_past _ _ _ (by simp), World.frozen?_alloc_at _ _ _ _ rfl]
  gone := fun i hi => by omega

theorem inv_step {w wr : World} {n : Nat} {h : Int} {xs ys : List Int} {k : Nat} (I : Inv w wr n h xs ys k) (hk : k < n) (C : Array Value)
    (h1 : C[651]? = some (.int .u64 (ys.getD k 0))) (h2 : C[653]? = some (.int .u64 (xs.getD k 0))) :
    Inv w ((wr.setCell ⟨w.heap.size, k, none⟩ (.pointer (some ⟨wr.heap.size, 0, none⟩))).alloc (.cells C 98)) n h xs ys (k + 1) where
  below := (I.below.setCell (Nat.le_refl _) _).alloc (by have := I.size; simp; omega) _
  size := by have := I.size; simp; omega
  procs := by
    have := I.size
    rw [World.cell?_alloc_past _ _ _ (by simp; omega), cell_set_ne _ (by omega)]
    exact I.procs
  handed := by
    have := I.size
    rw [World.cell?_alloc_past _ _ _ (by simp; omega), cell_set_ne _ (by omega)]
    exact I.handed
  row := fun i hi => by
    have := I.size
    obtain ⟨v, hv⟩ := I.row i hi
    rw [World.cell?_alloc_past _ _ _ (by simp; omega)]
    by_cases e : k = i
    · subst e
      exact ⟨_, World.cell?_setCell_same _ _ _ hv⟩
    · exact ⟨v, by rw [cell_set_ne _ (by omega)]; exact hv⟩
  free := fun i => by
    have := I.size
    rw [World.frozen?_alloc_past _ _ _ (by simp; omega), World.frozen?_setCell]
    exact I.free i
  gone := fun i hi => by
    have := I.size
    by_cases e : i = k
    · subst e
      obtain ⟨v, hv⟩ := I.row i hk
      refine ⟨wr.heap.size, by omega, by simp, ?_, ?_, ?_⟩
      · rw [World.cell?_alloc_past _ _ _ (by simp; omega)]
        exact World.cell?_setCell_same _ _ _ hv
      · rw [World.cell?_alloc_at _ _ _ _ (by simp)]; exact h1
      · rw [World.cell?_alloc_at _ _ _ _ (by simp)]; exact h2
    · obtain ⟨p, p1, p2, c1, c2, c3⟩ := I.gone i (by omega)
      refine ⟨p, p1, by simp; omega, ?_, ?_, ?_⟩
      · rw [World.cell?_alloc_past _ _ _ (by simp; omega), cell_set_ne _ (by omega)]; exact c1
      · rw [World.cell?_alloc_past _ _ _ (by simp; omega), cell_set_ne _ (by omega)]; exact c2
      · rw [World.cell?_alloc_past _ _ _ (by simp; omega), cell_set_ne _ (by omega)]; exact c3

theorem Inv.drew {w wr : World} {n : Nat} {h : Int} {xs ys : List Int} {k : Nat} (I : Inv w wr n h xs ys k) : Inv w wr.drew n h xs ys k :=
  ⟨I.below.drew, I.size, I.procs, I.handed, I.row, I.free, I.gone⟩

theorem inv_round {w wr : World} {n : Nat} {h : Int} {xs ys : List Int} {k : Nat} (I : Inv w wr n h xs ys k) (hk : k < n) (C : Array Value) (hC : C.size = 662) (x y : Int) (hx : xs.getD k 0 = x) (hy : ys.getD k 0 = y) :
    Inv w ((((((wr.alloc (.cells C 98)).setCell ⟨wr.heap.size, 653, none⟩ (.int .u64 x)).drew).setCell ⟨wr.heap.size, 651, none⟩ (.int .u64 y)).drew).setCell ⟨w.heap.size, k, none⟩ (.pointer (some ⟨wr.heap.size, 0, none⟩))) n h xs ys (k + 1) := by
  have hs := I.size
  rw [World.setCell_drew, World.setCell_drew, World.setCell_drew, World.setCell_alloc_at _ _ _ _ _ rfl, World.setCell_alloc_at _ _ _ _ _ rfl, World.setCell_alloc_past _ _ _ _ (by omega)]
  refine (inv_step I hk _ ?_ ?_).drew.drew
  · rw [hy]; simp [hC]
  · rw [hx]; simp [hC]

set_option maxHeartbeats 1000000 in
theorem new_any (g1 g2 n : Nat) (h : Int) (xs ys : List Int) (w : World) (hn : n ≤ 65536) (hg1 : g1 < w.heap.size) (hg2 : g2 < w.heap.size)
    (hx : ∀ i, i < n → w.cell? ⟨g1, i, none⟩ = some (.int .u64 (xs.getD i 0)))
    (hy : ∀ i, i < n → w.cell? ⟨g2, i, none⟩ = some (.int .u64 (ys.getD i 0))) :
    Calls Try.prog 8 #[.int .u64 h, .slice (some ⟨g1, 0, none⟩) n n, .slice (some ⟨g2, 0, none⟩) n n] w fun e w' => e = .returned (.pointer (some ⟨w.heap.size + 1, 0, none⟩)) ∧ Below w.heap.size w w' ∧ Sched w' (w.heap.size + 1) w.heap.size n h xs ys := by
  obtain ⟨Z, hb98, hz98, hz1, hz2⟩ := build98
  obtain ⟨Y, hb85, hy85, hy1⟩ := build85
  have hmk := fun w => run_make_row' (P := Try.prog) 32 87 (.pointer none) 8 Try.underlying32 (by kernel_rfl) rfl .i64 .i64 n (by omega) (by omega) w
  have HX := hide hx
  have HY := hide hy
  clear hx hy
  have I0 := start_inv w n h xs ys Y hy85
  go_enter Try.func8, Try.ntmps8
  go_wp2_with (with_reducible refine wpList_build rfl 85 0 _ rfl (.slice (some ⟨w.heap.size, 0, none⟩) n n) _ rfl (hb85 _ _ _ _) ?_)
  refine (store_any _ _ h (.int .u64 0) _ ?_ ?_).mono ?_
  · rw [World.cell?_alloc_at _ _ _ _ (by simp)]
    simp [hy1]
  · rw [World.frozen?_alloc_at _ _ _ _ (by simp)]
  rintro e w1 ⟨rfl, hw1⟩
  rw [World.setCell_alloc_at _ _ _ _ _ (by simp)] at hw1
  rw [← hw1] at I0
  clear hw1 hmk
  have hp0 := I0.procs
  go_wp2_with fail
  have HP := hide hp0
  clear hp0
  go_loopw [25, 8, 9] (fun i _ _ wr => ∃ k : Nat, k ≤ n ∧ i = .int .i64 k ∧ Inv w wr n h xs ys k) (fun i _ _ _ => n - (intOf i).toNat)
  case atStart => exact ⟨0, Nat.zero_le _, rfl, I0⟩
  case round =>
    obtain ⟨k, hk, rfl, I⟩ := hrel
    by_cases hlt : k < n
    · have cx := (I.below.cell (p := ⟨g1, k, none⟩) hg1).trans (unhide HX k hlt)
      have cy := (I.below.cell (p := ⟨g2, k, none⟩) hg2).trans (unhide HY k hlt)
      have hp := I.procs
      obtain ⟨vk, hvk⟩ := I.row k hlt
      have hfk := I.free k
      have i1 : (0 : Int) ≤ (k : Int) := by omega
      have i2 : (k : Int) < (n : Int) := by omega
      have hg1r : g1 < wr.heap.size := by have := I.size; omega
      have hg2r : g2 < wr.heap.size := by have := I.size; omega
      have hNr : w.heap.size < wr.heap.size := by have := I.size; omega
      have hNr1 : w.heap.size + 1 < wr.heap.size := by have := I.size; omega
      obtain ⟨x, ex⟩ : ∃ x, xs.getD k 0 = x := ⟨_, rfl⟩
      obtain ⟨y, ey⟩ : ∃ y, ys.getD k 0 = y := ⟨_, rfl⟩
      rw [ex] at cx
      rw [ey] at cy
      have EX := hide ex
      have EY := hide ey
      clear ex ey
      go_wp2_with (with_reducible refine wpList_build rfl 98 0 _ rfl (.int .i64 k) _ rfl (hb98 _ _) ?_)
      have q1 : (Z.setIfInBounds 0 (Value.int IntKind.i64 k))[651]? = some (.int .u64 0) := by simp [hz1]
      have q2 : (Z.setIfInBounds 0 (Value.int IntKind.i64 k))[653]? = some (.int .u64 0) := by simp [hz2]
      have q3 : (Z.setIfInBounds 0 (Value.int IntKind.i64 k)).size = 662 := by simp [hz98]
      generalize Z.setIfInBounds 0 (Value.int IntKind.i64 k) = C at *
      have d1 : (wr.alloc (.cells C 98)).cell? ⟨wr.heap.size, 653, none⟩ = some (.int .u64 0) := by rw [World.cell?_alloc_at _ _ _ _ rfl]; exact q2
      have d2 : (wr.alloc (.cells C 98)).cell? ⟨wr.heap.size, 651, none⟩ = some (.int .u64 0) := by rw [World.cell?_alloc_at _ _ _ _ rfl]; exact q1
      have d3 : (wr.alloc (.cells C 98)).frozen? ⟨wr.heap.size, 653, none⟩ = false := by rw [World.frozen?_alloc_at _ _ _ _ rfl]
      have d4 : (wr.alloc (.cells C 98)).frozen? ⟨wr.heap.size, 651, none⟩ = false := by rw [World.frozen?_alloc_at _ _ _ _ rfl]
      have d5 : (wr.alloc (.cells C 98)).cell? ⟨g1, k, none⟩ = some (.int .u64 x) := by rw [World.cell?_alloc_past _ _ _ hg1r]; exact cx
      have d6 : (wr.alloc (.cells C 98)).cell? ⟨g2, k, none⟩ = some (.int .u64 y) := by rw [World.cell?_alloc_past _ _ _ hg2r]; exact cy
      have d7 : (wr.alloc (.cells C 98)).cell? ⟨w.heap.size + 1, 0, none⟩ = some (.slice (some ⟨w.heap.size, 0, none⟩) n n) := by rw [World.cell?_alloc_past _ _ _ hNr1]; exact hp
      have d8 : (wr.alloc (.cells C 98)).cell? ⟨w.heap.size, k, none⟩ = some vk := by rw [World.cell?_alloc_past _ _ _ hNr]; exact hvk
      have d9 : (wr.alloc (.cells C 98)).frozen? ⟨w.heap.size, k, none⟩ = false := by rw [World.frozen?_alloc_past _ _ _ hNr]; exact hfk
      clear cx cy hp hvk hfk
      generalize hW : wr.alloc (.cells C 98) = W at *
      have HW := hide hW
      clear hW
      go_region_held3 (fun w' => w'.cell? ⟨g1, k, none⟩ = some (.int .u64 x)) (first | exact d5 | exact (cell_set_ne _ (by omega)).trans d5) ((go_at_call 11; refine (store_any _ _ _ (.int .u64 0) _ ?_ ?_).mono ?_; exact d1; exact d3; rintro e w2 ⟨rfl, rfl⟩))
      have b1 : (W.setCell ⟨wr.heap.size, 653, none⟩ (.int .u64 x)).drew.cell? ⟨wr.heap.size, 651, none⟩ = some (.int .u64 0) := (cell_set_ne _ (by omega)).trans d2
      have b2 : (W.setCell ⟨wr.heap.size, 653, none⟩ (.int .u64 x)).drew.frozen? ⟨wr.heap.size, 651, none⟩ = false := (World.frozen?_setCell ..).trans d4
      have b3 : (W.setCell ⟨wr.heap.size, 653, none⟩ (.int .u64 x)).drew.cell? ⟨g2, k, none⟩ = some (.int .u64 y) := (cell_set_ne _ (by omega)).trans d6
      have b4 : (W.setCell ⟨wr.heap.size, 653, none⟩ (.int .u64 x)).drew.cell? ⟨w.heap.size + 1, 0, none⟩ = some (.slice (some ⟨w.heap.size, 0, none⟩) n n) := (cell_set_ne _ (by omega)).trans d7
      have b5 : (W.setCell ⟨wr.heap.size, 653, none⟩ (.int .u64 x)).drew.cell? ⟨w.heap.size, k, none⟩ = some vk := (cell_set_ne _ (by omega)).trans d8
      have b6 : (W.setCell ⟨wr.heap.size, 653, none⟩ (.int .u64 x)).drew.frozen? ⟨w.heap.size, k, none⟩ = false := (World.frozen?_setCell ..).trans d9
      clear d1 d2 d3 d4 d5 d6 d7 d8 d9
      generalize hW2 : (W.setCell ⟨wr.heap.size, 653, none⟩ (.int .u64 x)).drew = W2 at *
      have HW2 := hide hW2
      clear hW2
      go_wp2_with fail
      go_region_held3 (fun w' => w'.cell? ⟨g2, k, none⟩ = some (.int .u64 y)) (first | exact b3 | exact (cell_set_ne _ (by omega)).trans b3) ((go_at_call 11; refine (store_any _ _ _ (.int .u64 0) _ ?_ ?_).mono ?_; exact b1; exact b2; rintro e w2 ⟨rfl, rfl⟩))
      have e1 : (W2.setCell ⟨wr.heap.size, 651, none⟩ (.int .u64 y)).drew.cell? ⟨w.heap.size + 1, 0, none⟩ = some (.slice (some ⟨w.heap.size, 0, none⟩) n n) := (cell_set_ne _ (by omega)).trans b4
      have e2 : (W2.setCell ⟨wr.heap.size, 651, none⟩ (.int .u64 y)).drew.cell? ⟨w.heap.size, k, none⟩ = some vk := (cell_set_ne _ (by omega)).trans b5
      have e3 : (W2.setCell ⟨wr.heap.size, 651, none⟩ (.int .u64 y)).drew.frozen? ⟨w.heap.size, k, none⟩ = false := (World.frozen?_setCell ..).trans b6
      clear b1 b2 b3 b4 b5 b6
      generalize hW3 : (W2.setCell ⟨wr.heap.size, 651, none⟩ (.int .u64 y)).drew = W3 at *
      have HW3 := hide hW3
      clear hW3
      go_wp2
      go_roundw
      case rel =>
        refine ⟨k + 1, by omega, by go_num, ?_⟩
        rw [← unhide HW3, ← unhide HW2, ← unhide HW]
        exact inv_round I hlt C q3 x y (unhide EX) (unhide EY)
      case measure => simp [intOf]; omega
    · have hkn : k = n := by omega
      subst hkn
      go_wp2
      go_ret
      exact ⟨rfl, I.below, ⟨I.procs, I.handed, fun i hi => by obtain ⟨p, _, _, c1, c2, c3⟩ := I.gone i hi; exact ⟨p, c1, c2, c3⟩⟩⟩

end Go.Proofs.Qxb6615788a
