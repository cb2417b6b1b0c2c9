/-
  A COPY OF A SLICE THAT CAME IN ('zzc := make([]T, len(xs)); copy(zzc, xs)'), and stores into rows of the call's own.
-/
import Derived.Test.Qxb6608559aGreatNew
import Derived.Test.Qxb6608559aGreatPlain
import Derived.Laws.CopyOwn
import Derived.Deep.OwnRows
import Derived.Deep.DeepCutAuto
namespace Go.Proofs.Qxb6608559aGreat
open Go.RowKit

theorem splice_all {α : Type} (L cs : List α) (h : cs.length = L.length) : splice L 0 cs = cs := by
  simp [splice, h]

theorem wpList_copy_row (T E : TypeId) (hu : Tryz.prog.underlying T = some (.slice E)) (hsz : (Tryz.prog.info? E).map (·.size) = some 1) (z : Value)
    {w : World} {ops : Array Oper} {rest : List Oper} {o : Oper} {a : Act} {Q : Exit → Act → World → Prop} (hgd : o.guard = none) (d s : Operand)
    (ho : o.op = .call { callee := .builtin .copy, args := #[d, s], argTypes := #[T, T] }) (g n c : Nat) (ad : Addr) (vs : List Value) (lx : vs.length = n) (h1 : ∀ v ∈ vs, v.oneCell' = true)
    (hd : a.eval d = .slice (some ⟨g, 0, none⟩) n n) (hs : a.eval s = .slice (some ad) n c) (w0 : World) (hw : w = w0.alloc (.cells (madeCells #[z] n) E)) (hg : g = w0.heap.size)
    (hsrc : ∀ i v, vs[i]? = some v → w0.cell? (ad.add i) = some v)
    (h : ∀ w', Hid (w'.heap[g]? = some (.cells vs.toArray E (0, 0))) → Below w0.heap.size w0 w' → wpList Tryz.prog ops Q rest (a.put o.dst (goInt n)) w') : wpList Tryz.prog ops Q (o :: rest) a w := by
  subst hw
  subst hg
  refine wpList_copy_splice hgd d s T T ho E hu hsz _ _ n n n c hd hs w0.heap.size 0 (madeCells #[z] n).toList E ?_ vs ?_ ?_ ?_ h1 w0.heap.size w0 ?_ (Nat.le_refl _) ?_
  · rw [heap_alloc_new, Array.toArray_toList]
  · simp [lx]
  · intro _
    refine ⟨rfl, ad, rfl, fun j v hv => ?_⟩
    have hc := hsrc j v hv
    rw [World.cell?_alloc_lt _ _ _ (World.block_lt_of_cell? _ _ hc)]
    exact hc
  · simp [lx, size_madeCells]
  · exact (Below.refl _ _).alloc (Nat.le_refl _) _
  · intro w' hr hb
    rw [lx]
    refine h w' ?_ hb
    have := hr.out
    rw [splice_all _ _ (by simp [lx, size_madeCells])] at this
    exact this

/-- Block g is a row of just these ints. -/
def RowI (w : World) (g : Nat) (xs : List Int) : Prop := w.heap[g]? = some (.cells (xs.map (Value.int .i64)).toArray 3 (0, 0))
/-- .. bools. -/
def RowB (w : World) (g : Nat) (xs : List Bool) : Prop := w.heap[g]? = some (.cells (xs.map Value.bool).toArray 4 (0, 0))
theorem RowI.lt {w : World} {g : Nat} {xs : List Int} (h : RowI w g xs) : g < w.heap.size := lt_of_block h
theorem RowB.lt {w : World} {g : Nat} {xs : List Bool} (h : RowB w g xs) : g < w.heap.size := lt_of_block h
theorem RowI.cell {w : World} {g : Nat} {xs : List Int} (h : RowI w g xs) {i : Nat} (hi : i < xs.length) : w.cell? ⟨g, i, none⟩ = some (.int .i64 (xs.getD i 0)) := by
  rw [cell_of_row w g i _ 3 (0, 0) h]; simp [hi]
theorem RowB.cell {w : World} {g : Nat} {xs : List Bool} (h : RowB w g xs) {i : Nat} (hi : i < xs.length) : w.cell? ⟨g, i, none⟩ = some (.bool (xs.getD i false)) := by
  rw [cell_of_row w g i _ 4 (0, 0) h]; simp [hi]
theorem RowI.free {w : World} {g : Nat} {xs : List Int} (h : RowI w g xs) (i : Nat) : w.frozen? ⟨g, i, none⟩ = false := by
  simp [World.frozen?, show w.heap[g]? = _ from h]
theorem RowB.free {w : World} {g : Nat} {xs : List Bool} (h : RowB w g xs) (i : Nat) : w.frozen? ⟨g, i, none⟩ = false := by
  simp [World.frozen?, show w.heap[g]? = _ from h]
theorem RowI.other {w : World} {g : Nat} {xs : List Int} (h : RowI w g xs) (b j : Nat) (v : Value) (hne : g ≠ b) : RowI (w.setCell ⟨b, j, none⟩ v) g xs :=
  (Below.heap_setCell w ⟨b, j, none⟩ v g hne).trans h
theorem RowB.other {w : World} {g : Nat} {xs : List Bool} (h : RowB w g xs) (b j : Nat) (v : Value) (hne : g ≠ b) : RowB (w.setCell ⟨b, j, none⟩ v) g xs :=
  (Below.heap_setCell w ⟨b, j, none⟩ v g hne).trans h
theorem RowI.store {w : World} {g : Nat} {xs : List Int} (h : RowI w g xs) (j : Nat) (v : Int) : RowI (w.setCell ⟨g, j, none⟩ (.int .i64 v)) g (xs.set j v) := by
  have hh : w.heap[g]? = _ := h
  show (w.setCell _ _).heap[g]? = _
  simp only [World.setCell, Array.getElem?_modify, hh]
  simp
theorem RowB.store {w : World} {g : Nat} {xs : List Bool} (h : RowB w g xs) (j : Nat) (v : Bool) : RowB (w.setCell ⟨g, j, none⟩ (.bool v)) g (xs.set j v) := by
  have hh : w.heap[g]? = _ := h
  show (w.setCell _ _).heap[g]? = _
  simp only [World.setCell, Array.getElem?_modify, hh]
  simp
theorem RowI.own {w : World} {g : Nat} {xs : List Int} (h : RowI w g xs) : OwnI w (some ⟨g, 0, none⟩) xs := .inr ⟨g, rfl, h⟩
theorem RowB.own {w : World} {g : Nat} {xs : List Bool} (h : RowB w g xs) : OwnB w (some ⟨g, 0, none⟩) xs := .inr ⟨g, rfl, h⟩
theorem RowI.kept {w w' : World} {g : Nat} {xs : List Int} (h : RowI w g xs) (hb : Below w.heap.size w w') : RowI w' g xs := (hb.block g h.lt).trans h
theorem RowB.kept {w w' : World} {g : Nat} {xs : List Bool} (h : RowB w g xs) (hb : Below w.heap.size w w') : RowB w' g xs := (hb.block g h.lt).trans h

theorem made_ints (w : World) (n : Nat) : RowI (w.alloc (.cells (madeCells #[.int .i64 0] n) 3)) w.heap.size (List.replicate n 0) := by
  show (w.alloc _).heap[w.heap.size]? = _
  rw [heap_alloc_new]
  have : madeCells #[Value.int .i64 0] n = ((List.replicate n (0 : Int)).map (Value.int .i64)).toArray := by
    apply Array.toList_inj.1
    rw [toList_madeCells_one]; simp
  rw [this]
theorem made_bools (w : World) (n : Nat) : RowB (w.alloc (.cells (madeCells #[.bool false] n) 4)) w.heap.size (List.replicate n false) := by
  show (w.alloc _).heap[w.heap.size]? = _
  rw [heap_alloc_new]
  have : madeCells #[Value.bool false] n = ((List.replicate n false).map Value.bool).toArray := by
    apply Array.toList_inj.1
    rw [toList_madeCells_one]; simp
  rw [this]

/-- WHAT A LAW IS TOLD OF A SLICE OF INTS THAT CAME IN: nil; or its elements' cells. -/
def InI (w : World) (a : Option Addr) (n c : Nat) (xs : List Int) : Prop :=
  (a = none ∧ n = 0 ∧ c = 0 ∧ xs = []) ∨ ∃ x, a = some x ∧ xs.length = n ∧ ∀ i, i < n → w.cell? (x.add i) = some (.int .i64 (xs.getD i 0))
def InB (w : World) (a : Option Addr) (n c : Nat) (xs : List Bool) : Prop :=
  (a = none ∧ n = 0 ∧ c = 0 ∧ xs = []) ∨ ∃ x, a = some x ∧ xs.length = n ∧ ∀ i, i < n → w.cell? (x.add i) = some (.bool (xs.getD i false))
theorem InI.len {w : World} {a : Option Addr} {n c : Nat} {xs : List Int} (h : InI w a n c xs) : xs.length = n := by
  rcases h with ⟨_, rfl, _, rfl⟩ | ⟨_, _, h, _⟩
  · rfl
  · exact h
theorem InB.len {w : World} {a : Option Addr} {n c : Nat} {xs : List Bool} (h : InB w a n c xs) : xs.length = n := by
  rcases h with ⟨_, rfl, _, rfl⟩ | ⟨_, _, h, _⟩
  · rfl
  · exact h
theorem InB.later {w w' : World} {a : Option Addr} {n c : Nat} {xs : List Bool} (h : InB w a n c xs) (hb : Below w.heap.size w w') : InB w' a n c xs := by
  rcases h with h | ⟨x, rfl, hl, hc⟩
  · exact .inl h
  · exact .inr ⟨x, rfl, hl, fun i hi => (hb.cell (World.block_lt_of_cell? _ _ (hc i hi))).trans (hc i hi)⟩
theorem src_ints {w : World} {x : Addr} {n : Nat} {xs : List Int} (hl : xs.length = n) (h : ∀ i, i < n → w.cell? (x.add i) = some (.int .i64 (xs.getD i 0))) : ∀ i v, (xs.map (Value.int .i64))[i]? = some v → w.cell? (x.add i) = some v := by
  intro i v hv
  simp only [List.getElem?_map, Option.map_eq_some_iff] at hv
  obtain ⟨y, hy, rfl⟩ := hv
  have hi : i < n := by rw [← hl]; exact (List.getElem?_eq_some_iff.1 hy).1
  have := h i hi
  rwa [List.getD_eq_getElem?_getD, hy] at this
theorem src_bools {w : World} {x : Addr} {n : Nat} {xs : List Bool} (hl : xs.length = n) (h : ∀ i, i < n → w.cell? (x.add i) = some (.bool (xs.getD i false))) : ∀ i v, (xs.map Value.bool)[i]? = some v → w.cell? (x.add i) = some v := by
  intro i v hv
  simp only [List.getElem?_map, Option.map_eq_some_iff] at hv
  obtain ⟨y, hy, rfl⟩ := hv
  have hi : i < n := by rw [← hl]; exact (List.getElem?_eq_some_iff.1 hy).1
  have := h i hi
  rwa [List.getD_eq_getElem?_getD, hy] at this
theorem one_ints (xs : List Int) : ∀ v ∈ xs.map (Value.int .i64), v.oneCell' = true := by
  intro v hv; simp only [List.mem_map] at hv; obtain ⟨x, _, rfl⟩ := hv; rfl
theorem one_bools (xs : List Bool) : ∀ v ∈ xs.map Value.bool, v.oneCell' = true := by
  intro v hv; simp only [List.mem_map] at hv; obtain ⟨x, _, rfl⟩ := hv; rfl

set_option maxHeartbeats 400000 in
theorem bytes10_any (i p : Int) (b : Bool) (a1 a2 : Option Addr) (n1 c1 n2 c2 : Nat) (w : World) (hn1 : n1 ≤ maxLen) (hn2 : n2 ≤ maxLen) :
    Calls Tryz.prog 10 #[.slice a1 n1 c1, .slice a2 n2 c2, .int .i64 i, .int .i64 p, .bool b] w fun e w' => e = .returned (.bool (decide (n1 + n2 ≤ 1048576))) ∧ w' = w := by
  unfold maxLen at hn1 hn2
  by_cases t1 : n1 ≤ 1048576
  · by_cases t2 : n2 ≤ 1048576
    · by_cases t3 : n1 + n2 ≤ 1048576
      all_goals
        go_enter Tryz.func10, Tryz.ntmps10
        go_wp2
        go_ret
        simp [t3]
    · go_enter Tryz.func10, Tryz.ntmps10
      go_wp2
      go_ret
      simp; omega
  · go_enter Tryz.func10, Tryz.ntmps10
    go_wp2
    go_ret
    simp; omega

end Go.Proofs.Qxb6608559aGreat
