/-
  THE WALK of ZZnewMarked: a function in new memory whose marks are just the given ones.
-/
import Derived.Test.Qxb6608559aGreatPrem
import Derived.Deep.RegionHeld3
import Derived.Deep.AppendLies
import Derived.Deep.RegionLaw
namespace Go.Proofs.Qxb6608559aGreat
open Go.RowKit

/-- '&Function{}': 33 cells, kept shut. -/
theorem build62 : ∃ Z : Array Value, (∀ w, (Instr.build 62 #[]).run Tryz.prog w = .ok (.agg Z) w) ∧ Z.size = 33 ∧ Z[27]? = some (.slice none 0 0) ∧ Z[16]? = some (.int .i64 0) :=
  ⟨(Tryz.prog.info? 62).elim #[] fun i => (i.zero.elim #[] Value.cells), fun w => by kernel_rfl, by kernel_rfl, by kernel_rfl, by kernel_rfl⟩

/-- A struct's zero value, by its run equation. -/
theorem wpList_build0 {P : Program} {w : World} {ops : Array Oper} {rest : List Oper} {o : Oper} {a : Act} {Q : Exit → Act → World → Prop} (hgd : o.guard = none) (t : TypeId)
    (ho : o.op = .build t #[]) (v : Value) (hrun : (Instr.build t #[]).run P w = .ok v w)
    (h : wpList P ops Q rest (a.put o.dst v) w) : wpList P ops Q (o :: rest) a w := by
  refine wpList_plain hgd fun K hK => ?_
  unfold Oper.wp
  simp only [execOp, ho, List.map_toArray, List.map_nil, hrun, Sem.run_bind, Result.andThen_ok, Sem.run_pure]
  exact hK _ _ h

theorem cell_set_ne {w : World} {b i c j : Nat} (v : Value) (h : ¬ (b = c ∧ i = j)) : (w.setCell ⟨b, i, none⟩ v).cell? ⟨c, j, none⟩ = w.cell? ⟨c, j, none⟩ :=
  World.cell?_setCell_other _ _ _ _ (by intro e; cases e; exact h ⟨rfl, rfl⟩)

/-- The cells of a row of marks. -/
def mcells : List (Int × Value) → List Value
  | [] => []
  | m :: ms => .int .i64 m.1 :: m.2 :: mcells ms

theorem mcells_snoc (ms : List (Int × Value)) (x : Int) (v : Value) : mcells (ms ++ [(x, v)]) = mcells ms ++ [.int .i64 x, v] := by
  induction ms with
  | nil => rfl
  | cons m ms ih => simp [mcells, ih]

/-- The marks ms are just the first k of (xs, bs). -/
def MarksOf (ms : List (Int × Value)) (xs : List Int) (bs : List Bool) (k : Nat) : Prop :=
  ms.length = k ∧ ∀ j, j < k → ∃ p, ms[j]? = some (xs.getD j 0, nodeV (bs.getD j false) p)

theorem MarksOf.snoc {ms : List (Int × Value)} {xs : List Int} {bs : List Bool} {k : Nat} (h : MarksOf ms xs bs k) (p : Addr) : MarksOf (ms ++ [(xs.getD k 0, nodeV (bs.getD k false) p)]) xs bs (k + 1) := by
  refine ⟨by simp [h.1], fun j hj => ?_⟩
  by_cases e : j = k
  · subst e
    exact ⟨p, by rw [List.getElem?_append_right (by rw [h.1]; exact Nat.le_refl _), h.1]; simp⟩
  · obtain ⟨q, hq⟩ := h.2 j (by omega)
    exact ⟨q, by rw [List.getElem?_append_left (by rw [h.1]; omega)]; exact hq⟩

/-- A function in block F, made since 'w': its count of instructions, its marks. -/
structure FnAt (w wr : World) (F : Nat) (n : Int) (xs : List Int) (bs : List Bool) (k : Nat) : Prop where
  below : Below w.heap.size w wr
  lo : w.heap.size ≤ F
  size : F + 1 ≤ wr.heap.size
  len : wr.cell? ⟨F, 16, none⟩ = some (.int .i64 n)
  free : wr.frozen? ⟨F, 27, none⟩ = false
  marks : ∃ v ms, wr.cell? ⟨F, 27, none⟩ = some v ∧ wr.ownsRow (F + 1) 72 2 v k (mcells ms) ∧ MarksOf ms xs bs k

/-- One mark more: behind the append and the store. -/
theorem fn_step {w W w1 : World} {F : Nat} {n : Int} {xs : List Int} {bs : List Bool} {k : Nat} {v v' : Value} {ms : List (Int × Value)} {p : Addr} {x : Int} {b : Bool}
    (hbel : Below w.heap.size w W) (lo : w.heap.size ≤ F) (hs : F + 1 ≤ W.heap.size) (hlen : W.cell? ⟨F, 16, none⟩ = some (.int .i64 n)) (hfree : W.frozen? ⟨F, 27, none⟩ = false)
    (hv : W.cell? ⟨F, 27, none⟩ = some v) (hown : W.ownsRow (F + 1) 72 2 v k (mcells ms)) (hm : MarksOf ms xs bs k) (ex : xs.getD k 0 = x) (eb : bs.getD k false = b)
    (o : Obj) (hgrow : (W.alloc o).drew.grownBy w1 v.ownBlock) (hown1 : w1.ownsRow (F + 1) 72 2 v' (k + 1) (mcells ms ++ [.int .i64 x, nodeV b p])) :
    FnAt w (w1.setCell ⟨F, 27, none⟩ v') F n xs bs (k + 1) := by
  have hne : some F ≠ v.ownBlock := by
    intro h
    have := (hown.lt F h.symm).1
    omega
  have far : ∀ j, w1.cell? ⟨F, j, none⟩ = W.cell? ⟨F, j, none⟩ := fun j => by
    rw [hgrow.cell_far ⟨F, j, none⟩ (by simp; omega) hne]
    exact World.cell?_alloc_past _ _ _ (by omega)
  have farf : ∀ j, w1.frozen? ⟨F, j, none⟩ = W.frozen? ⟨F, j, none⟩ := fun j => by
    rw [hgrow.frozen_far ⟨F, j, none⟩ (by simp; omega) hne]
    exact World.frozen?_alloc_past _ _ _ (by omega)
  have hsz := hgrow.size
  simp at hsz
  constructor
  · refine ((((hbel.alloc (by omega) o).drew).grown hgrow (by simp; omega) ?_).setCell lo _)
    intro q hq
    have := (hown.lt q hq).1
    omega
  · exact lo
  · simp; omega
  · rw [cell_set_ne _ (by omega), far]; exact hlen
  · rw [World.frozen?_setCell, farf]; exact hfree
  · refine ⟨v', ms ++ [(x, nodeV b p)], World.cell?_setCell_same _ _ _ ((far 27).trans hv), ?_, ?_⟩
    · rw [mcells_snoc]
      exact ownsRow_setCell_below hown1 (Nat.lt_succ_self _) _
    · rw [← ex, ← eb]; exact hm.snoc p

theorem info72 : (Tryz.prog.info? 72).map (fun i => (i.zero, i.size, i.bytes)) = some (some (.agg #[.int .i64 0, .nilIface]), 2, 24) := by kernel_rfl

theorem fn_start (w : World) (Z : Array Value) (i : Int) (xs : List Int) (bs : List Bool) (hz : Z.size = 33) (h27 : Z[27]? = some (.slice none 0 0)) :
    FnAt w (w.alloc (.cells (Z.setIfInBounds 16 (.int .i64 i)) 62)) w.heap.size i xs bs 0 where
  below := (Below.refl _ _).alloc (Nat.le_refl _) _
  lo := Nat.le_refl _
  size := by simp
  len := by rw [World.cell?_alloc_at _ _ _ _ rfl]; simp [hz]
  free := by rw [World.frozen?_alloc_at _ _ _ _ rfl]
  marks := ⟨.slice none 0 0, [], by rw [World.cell?_alloc_at _ _ _ _ rfl]; simp [h27], World.ownsRow_nil _ _ _ _, rfl, fun j hj => by omega⟩

set_option maxRecDepth 100000 in
set_option maxHeartbeats 2000000 in
theorem new_any (a1 a2 : Option Addr) (n c1 c2 : Nat) (i : Int) (xs : List Int) (bs : List Bool) (w : World) (hn : n ≤ 100000)
    (l1 : xs.length = n) (l2 : bs.length = n) (hx : OwnI w a1 xs) (hb : OwnB w a2 bs) :
    Calls Tryz.prog 7 #[.slice a1 n c1, .slice a2 n c2, .int .i64 i] w fun e w' => e = .returned (.pointer (some ⟨w.heap.size, 0, none⟩)) ∧ FnAt w w' w.heap.size i xs bs n := by
  obtain ⟨Z, hbz, hz, hz27, hz16⟩ := build62
  obtain ⟨i0, hi0, hz0, hz1, hz2⟩ := info_parts info72
  have HX := hide hx
  have HB := hide hb
  have L1 := hide l1
  have L2 := hide l2
  clear hx hb l1 l2
  go_enter Tryz.func7, Tryz.ntmps7
  go_wp2_with (with_reducible refine wpList_build0 rfl 62 rfl _ (hbz _) ?_)
  have I0 := fn_start w Z i xs bs hz hz27
  clear hbz hz16
  generalize w.alloc (.cells (Z.setIfInBounds 16 (.int .i64 i)) 62) = w1 at *
  go_loopw [19, 8, 9] (fun t _ _ wr => ∃ k : Nat, k ≤ n ∧ t = .int .i64 k ∧ FnAt w wr w.heap.size i xs bs k) (fun t _ _ _ => n - (intOf t).toNat)
  case atStart => exact ⟨0, Nat.zero_le _, rfl, I0⟩
  case round =>
    obtain ⟨k, hk, rfl, I⟩ := hrel
    by_cases hlt : k < n
    · obtain ⟨g1, rfl, hg1, hc1⟩ := (unhide HX).cell (k := k) (by rw [unhide L1]; exact hlt)
      obtain ⟨g2, rfl, hg2, hc2⟩ := (unhide HB).cell (k := k) (by rw [unhide L2]; exact hlt)
      have cx := (I.below.cell (p := ⟨g1, k, none⟩) hg1).trans (hc1 k (by rw [unhide L1]; exact hlt))
      have cb := (I.below.cell (p := ⟨g2, k, none⟩) hg2).trans (hc2 k (by rw [unhide L2]; exact hlt))
      obtain ⟨x, ex⟩ : ∃ x, xs.getD k 0 = x := ⟨_, rfl⟩
      obtain ⟨b, eb⟩ : ∃ b, bs.getD k false = b := ⟨_, rfl⟩
      rw [ex] at cx
      rw [eb] at cb
      have EX := hide ex
      have EB := hide eb
      clear ex eb hc1 hc2
      obtain ⟨v, ms, hv, hown, hm⟩ := I.marks
      have hlen := I.len
      have hfree := I.free
      have hsz := I.size
      have hbel := I.below
      have i1 : (0 : Int) ≤ (k : Int) := by omega
      have i2 : (k : Int) < (n : Int) := by omega
      have hg1r : g1 < wr.heap.size := by omega
      have hg2r : g2 < wr.heap.size := by omega
      have hFr : w.heap.size < wr.heap.size := by omega
      clear I
      cases b
      · go_wp2_with fail
        have d1 : (wr.alloc (.cells #[Value.slice none 0 0] 65)).cell? ⟨w.heap.size, 27, none⟩ = some v := (World.cell?_alloc_past _ _ _ (by omega)).trans hv
        have d2 : (wr.alloc (.cells #[Value.slice none 0 0] 65)).frozen? ⟨w.heap.size, 27, none⟩ = false := (World.frozen?_alloc_past _ _ _ (by omega)).trans hfree
        have d3 : (wr.alloc (.cells #[Value.slice none 0 0] 65)).cell? ⟨w.heap.size, 16, none⟩ = some (.int .i64 i) := (World.cell?_alloc_past _ _ _ (by omega)).trans hlen
        have d4 : (wr.alloc (.cells #[Value.slice none 0 0] 65)).cell? ⟨g1, k, none⟩ = some (.int .i64 x) := (World.cell?_alloc_past _ _ _ (by omega)).trans cx
        have d5 : (wr.alloc (.cells #[Value.slice none 0 0] 65)).ownsRow (w.heap.size + 1) 72 2 v k (mcells ms) := (hown.alloc _)
        have d6 : Below w.heap.size w (wr.alloc (.cells #[Value.slice none 0 0] 65)) := (hbel.alloc (by omega) _)
        have d7 : w.heap.size + 1 ≤ (wr.alloc (.cells #[Value.slice none 0 0] 65)).heap.size := by simp; omega
        have d8 : g1 < (wr.alloc (.cells #[Value.slice none 0 0] 65)).heap.size := by simp; omega
        clear hv hfree hlen cx cb hown hbel hsz hg1r hg2r hFr
        generalize wr.alloc (.cells #[Value.slice none 0 0] 65) = W at *
        have D5 := hide d5
        have D6 := hide d6
        have HM := hide hm
        have hne : some g1 ≠ v.ownBlock := by
          intro h
          have := (d5.lt g1 h.symm).1
          omega
        have hneF : some w.heap.size ≠ v.ownBlock := by
          intro h
          have := (d5.lt _ h.symm).1
          omega
        clear d5 d6 hm
        have NE := hide hne
        have NEF := hide hneF
        clear hne hneF
        have hFW : w.heap.size < W.heap.size := by omega
        go_region_law ((refine step_append_lies _ (by rfl) _ _ _ (by rfl) (w.heap.size + 1) 72 i0 _ 2 24 Tryz.underlying54 hi0 hz0 hz1 hz2 rfl (by omega) v k (mcells ms) (by rfl) (((unhide D5).alloc _).drew) ⟨W.heap.size, 0, none⟩ 1 1 [.int .i64 x, Value.iface 63 (.pointer (some ⟨wr.heap.size, 0, none⟩))] (by rfl) (by rfl) (World.news_of_block (cs := #[.int .i64 x, Value.iface 63 (.pointer (some ⟨wr.heap.size, 0, none⟩))]) (t := 72) (fr := (0, 0)) (heap_alloc_new W _)) (by simp [Value.oneCell']) (by omega) (by unfold maxLen; omega) (by omega) (by simp; omega) (W.heap.size + 1) (by simp) ?_; intro gg cap w2 hown2 hgrow hat hlt2; have hc2 := (hgrow.cell_far ⟨w.heap.size, 27, none⟩ (by simp; omega) (unhide NEF)).trans ((World.cell?_alloc_past _ _ _ hFW).trans d1); have hf2 := (hgrow.frozen_far ⟨w.heap.size, 27, none⟩ (by simp; omega) (unhide NEF)).trans ((World.frozen?_alloc_past _ _ _ hFW).trans d2)))
        all_goals
          have R := fn_step (p := ⟨wr.heap.size, 0, none⟩) (b := false) (unhide D6) (Nat.le_refl _) d7 d3 d2 d1 (unhide D5) (unhide HM) (unhide EX) (unhide EB) _ hgrow hown2
          have HR := hide R
          clear R hown2 hgrow
          go_wp2
          go_roundw
          case rel => exact ⟨k + 1, by omega, by go_num, unhide HR⟩
          case measure => simp [intOf]; omega
      · go_wp2_with fail
        have d1 : ((wr.alloc (.cells #[Value.slice none 0 0] 65)).alloc (.cells #[Value.string { data := #[] }, Value.int IntKind.u64 0, Value.string { data := #[] }, Value.int IntKind.i64 0, Value.nilFunc] 70)).cell? ⟨w.heap.size, 27, none⟩ = some v := (World.cell?_alloc_past _ _ _ (by simp; omega)).trans ((World.cell?_alloc_past _ _ _ (by omega)).trans hv)
        have d2 : ((wr.alloc (.cells #[Value.slice none 0 0] 65)).alloc (.cells #[Value.string { data := #[] }, Value.int IntKind.u64 0, Value.string { data := #[] }, Value.int IntKind.i64 0, Value.nilFunc] 70)).frozen? ⟨w.heap.size, 27, none⟩ = false := (World.frozen?_alloc_past _ _ _ (by simp; omega)).trans ((World.frozen?_alloc_past _ _ _ (by omega)).trans hfree)
        have d3 : ((wr.alloc (.cells #[Value.slice none 0 0] 65)).alloc (.cells #[Value.string { data := #[] }, Value.int IntKind.u64 0, Value.string { data := #[] }, Value.int IntKind.i64 0, Value.nilFunc] 70)).cell? ⟨w.heap.size, 16, none⟩ = some (.int .i64 i) := (World.cell?_alloc_past _ _ _ (by simp; omega)).trans ((World.cell?_alloc_past _ _ _ (by omega)).trans hlen)
        have d4 : ((wr.alloc (.cells #[Value.slice none 0 0] 65)).alloc (.cells #[Value.string { data := #[] }, Value.int IntKind.u64 0, Value.string { data := #[] }, Value.int IntKind.i64 0, Value.nilFunc] 70)).cell? ⟨g1, k, none⟩ = some (.int .i64 x) := (World.cell?_alloc_past _ _ _ (by simp; omega)).trans ((World.cell?_alloc_past _ _ _ (by omega)).trans cx)
        have d5 : ((wr.alloc (.cells #[Value.slice none 0 0] 65)).alloc (.cells #[Value.string { data := #[] }, Value.int IntKind.u64 0, Value.string { data := #[] }, Value.int IntKind.i64 0, Value.nilFunc] 70)).ownsRow (w.heap.size + 1) 72 2 v k (mcells ms) := ((hown.alloc _).alloc _)
        have d6 : Below w.heap.size w ((wr.alloc (.cells #[Value.slice none 0 0] 65)).alloc (.cells #[Value.string { data := #[] }, Value.int IntKind.u64 0, Value.string { data := #[] }, Value.int IntKind.i64 0, Value.nilFunc] 70)) := ((hbel.alloc (by omega) _).alloc (by simp; omega) _)
        have d7 : w.heap.size + 1 ≤ ((wr.alloc (.cells #[Value.slice none 0 0] 65)).alloc (.cells #[Value.string { data := #[] }, Value.int IntKind.u64 0, Value.string { data := #[] }, Value.int IntKind.i64 0, Value.nilFunc] 70)).heap.size := by simp; omega
        have d8 : g1 < ((wr.alloc (.cells #[Value.slice none 0 0] 65)).alloc (.cells #[Value.string { data := #[] }, Value.int IntKind.u64 0, Value.string { data := #[] }, Value.int IntKind.i64 0, Value.nilFunc] 70)).heap.size := by simp; omega
        clear hv hfree hlen cx cb hown hbel hsz hg1r hg2r hFr
        generalize (wr.alloc (.cells #[Value.slice none 0 0] 65)).alloc (.cells #[Value.string { data := #[] }, Value.int IntKind.u64 0, Value.string { data := #[] }, Value.int IntKind.i64 0, Value.nilFunc] 70) = W at *
        have D5 := hide d5
        have D6 := hide d6
        have HM := hide hm
        have hne : some g1 ≠ v.ownBlock := by
          intro h
          have := (d5.lt g1 h.symm).1
          omega
        have hneF : some w.heap.size ≠ v.ownBlock := by
          intro h
          have := (d5.lt _ h.symm).1
          omega
        clear d5 d6 hm
        have NE := hide hne
        have NEF := hide hneF
        clear hne hneF
        have hFW : w.heap.size < W.heap.size := by omega
        go_region_law ((refine step_append_lies _ (by rfl) _ _ _ (by rfl) (w.heap.size + 1) 72 i0 _ 2 24 Tryz.underlying54 hi0 hz0 hz1 hz2 rfl (by omega) v k (mcells ms) (by rfl) (((unhide D5).alloc _).drew) ⟨W.heap.size, 0, none⟩ 1 1 [.int .i64 x, Value.iface 68 (.pointer (some ⟨wr.heap.size + 1, 0, none⟩))] (by rfl) (by rfl) (World.news_of_block (cs := #[.int .i64 x, Value.iface 68 (.pointer (some ⟨wr.heap.size + 1, 0, none⟩))]) (t := 72) (fr := (0, 0)) (heap_alloc_new W _)) (by simp [Value.oneCell']) (by omega) (by unfold maxLen; omega) (by omega) (by simp; omega) (W.heap.size + 1) (by simp) ?_; intro gg cap w2 hown2 hgrow hat hlt2; have hc2 := (hgrow.cell_far ⟨w.heap.size, 27, none⟩ (by simp; omega) (unhide NEF)).trans ((World.cell?_alloc_past _ _ _ hFW).trans d1); have hf2 := (hgrow.frozen_far ⟨w.heap.size, 27, none⟩ (by simp; omega) (unhide NEF)).trans ((World.frozen?_alloc_past _ _ _ hFW).trans d2)))
        all_goals
          have R := fn_step (p := ⟨wr.heap.size + 1, 0, none⟩) (b := true) (unhide D6) (Nat.le_refl _) d7 d3 d2 d1 (unhide D5) (unhide HM) (unhide EX) (unhide EB) _ hgrow hown2
          have HR := hide R
          clear R hown2 hgrow
          go_wp2
          go_roundw
          case rel => exact ⟨k + 1, by omega, by go_num, unhide HR⟩
          case measure => simp [intOf]; omega
    · have hkn : k = n := by omega
      subst hkn
      go_wp2
      go_ret
      exact ⟨rfl, I⟩

theorem mcells_at (ms : List (Int × Value)) : ∀ j, (mcells ms)[j * 2]? = (ms[j]?).map (fun m => Value.int .i64 m.1) ∧ (mcells ms)[j * 2 + 1]? = (ms[j]?).map (fun m => m.2) := by
  induction ms with
  | nil => intro j; simp [mcells]
  | cons m ms ih =>
    intro j
    cases j with
    | zero => simp [mcells]
    | succ j =>
      have e1 : (j + 1) * 2 = j * 2 + 1 + 1 := by omega
      rw [e1]
      simp only [mcells, List.getElem?_cons_succ]
      exact ih j

/-- What a reader is told of it. -/
theorem FnAt.read {w wr : World} {F : Nat} {n : Int} {xs : List Int} {bs : List Bool} {k : Nat} (h : FnAt w wr F n xs bs k) (hk : xs.length = k) : Marks wr F xs bs := by
  obtain ⟨v, ms, hv, hown, hm⟩ := h.marks
  subst hk
  rcases hown.2 with ⟨rfl, h0⟩ | ⟨g, cap, cur, rfl, hb, hg, hc, hmx, hsz, htk⟩
  · exact ⟨none, 0, by rw [h0]; exact hv, by omega, fun j hj => by omega⟩
  · refine ⟨some ⟨g, 0, none⟩, cap, hv, hc, fun j hj => ⟨g, rfl, ?_⟩⟩
    obtain ⟨p, hp⟩ := hm.2 j hj
    have e := mcells_at ms j
    rw [hp, ← htk] at e
    have c1 : cur[j * 2]? = some (.int .i64 (xs.getD j 0)) := by
      have := e.1
      rw [List.getElem?_take_of_lt (by omega)] at this
      simpa using this
    have c2 : cur[j * 2 + 1]? = some (nodeV (bs.getD j false) p) := by
      have := e.2
      rw [List.getElem?_take_of_lt (by omega)] at this
      simpa using this
    exact ⟨by rw [cell_of_row wr g _ cur 72 (0, 0) hg]; exact c1, p, by rw [cell_of_row wr g _ cur 72 (0, 0) hg]; exact c2⟩

end Go.Proofs.Qxb6608559aGreat
