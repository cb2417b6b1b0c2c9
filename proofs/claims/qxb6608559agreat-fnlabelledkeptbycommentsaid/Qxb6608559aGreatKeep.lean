/-
  FnLabelledKeptByComment: the plain laws, the bytes' bound, the walk of the main way.
-/
import Derived.Test.Qxb6608559aGreatCom
namespace Go.Proofs.Qxb6608559aGreat
open Go.RowKit

theorem labTo_congr {i : Int} {xs ys : List Int} {bs cs : List Bool} : ∀ m, (∀ j, j < m → xs.getD j 0 = ys.getD j 0 ∧ bs.getD j false = cs.getD j false) → labTo i xs bs m = labTo i ys cs m := by
  intro m
  induction m with
  | zero => intro _; rfl
  | succ m ih =>
    intro h
    rw [labTo, labTo, (h m (by omega)).1, (h m (by omega)).2, ih (fun j hj => h j (by omega))]

theorem lab_longer {i : Int} {xs : List Int} {bs : List Bool} {n : Nat} (hx : xs.length = n) (hb : bs.length = n) : labTo i (xs ++ [i]) (bs ++ [false]) (n + 1) = labTo i xs bs n := by
  rw [labTo, getD_last xs i 0 hx, getD_last bs false false hb]
  simp only [beq_self_eq_true, Bool.true_and, Bool.false_or]
  refine labTo_congr n fun j hj => ⟨?_, ?_⟩
  · rw [List.getD_eq_getElem?_getD, List.getElem?_append_left (by omega), ← List.getD_eq_getElem?_getD]
  · rw [List.getD_eq_getElem?_getD, List.getElem?_append_left (by omega), ← List.getD_eq_getElem?_getD]

/-- 'want', behind k rounds. -/
def wantTo (i : Int) (xs : List Int) (bs : List Bool) : Nat → Bool
  | 0 => false
  | k + 1 => wantTo i xs bs k || (xs.getD k 0 == i && bs.getD k false)

theorem want_iff (i : Int) (xs : List Int) (bs : List Bool) : ∀ m, wantTo i xs bs m = true ↔ Has i xs bs m := by
  intro m
  induction m with
  | zero => simp [wantTo, Has]
  | succ m ih =>
    rw [wantTo, Bool.or_eq_true, Bool.and_eq_true, beq_iff_eq, ih]
    constructor
    · rintro (⟨j, hj, a, b⟩ | ⟨a, b⟩)
      · exact ⟨j, by omega, a, b⟩
      · exact ⟨m, by omega, a, b⟩
    · rintro ⟨j, hj, a, b⟩
      by_cases e : j = m
      · subst e; exact .inr ⟨a, b⟩
      · exact .inl ⟨j, by omega, a, b⟩

theorem want_lab {i : Int} {xs : List Int} {bs : List Bool} {n : Nat} (hP : Prem xs bs i) (hx : xs.length = n) : labTo i xs bs n = wantTo i xs bs n := by
  rw [Bool.eq_iff_iff, want_iff, lab_iff (fun k hk => hP.le k (by omega)) (fun k hk => hP.mono k (by omega)) n (Nat.le_refl _)]

/-- WHAT THE LAW IS TOLD OF A SLICE OF STRINGS THAT CAME IN: nil; or its elements' cells. -/
def InS (w : World) (a : Option Addr) (n c : Nat) (ss : Nat → ByteArray) : Prop :=
  (a = none ∧ n = 0 ∧ c = 0) ∨ ∃ x, a = some x ∧ ∀ i, i < n → w.cell? (x.add i) = some (.string (ss i)) ∧ (ss i).size ≤ maxLen

theorem InS.at {w : World} {a : Option Addr} {n c : Nat} {ss : Nat → ByteArray} (h : InS w a n c ss) {k : Nat} (hk : k < n) :
    ∃ b off, a = some ⟨b, off, none⟩ ∧ b < w.heap.size ∧ ∀ i, i < n → w.cell? ⟨b, off + i, none⟩ = some (.string (ss i)) ∧ (ss i).size ≤ maxLen := by
  rcases h with ⟨_, rfl, _⟩ | ⟨x, rfl, hc⟩
  · omega
  · obtain ⟨b, off, sp⟩ := x
    have h0 := (hc 0 (by omega)).1
    have hsp : sp = none := by
      obtain ⟨_, _, _, _, h⟩ := World.shape?_of_cell? h0
      simpa [Addr.add] using h
    subst hsp
    have hadd : ∀ i, (⟨b, off, none⟩ : Addr).add i = ⟨b, off + i, none⟩ := fun i => by unfold Addr.add; split <;> simp_all
    refine ⟨b, off, rfl, ?_, fun i hi => ?_⟩
    · have := World.block_lt_of_cell? _ _ h0
      rwa [hadd] at this
    · rw [← hadd]; exact hc i hi

theorem InS.later {w w' : World} {a : Option Addr} {n c : Nat} {ss : Nat → ByteArray} (h : InS w a n c ss) (hb : Below w.heap.size w w') : InS w' a n c ss := by
  rcases h with h | ⟨x, rfl, hc⟩
  · exact .inl h
  · exact .inr ⟨x, rfl, fun i hi => ⟨(hb.cell (World.block_lt_of_cell? _ _ (hc i hi).1)).trans (hc i hi).1, (hc i hi).2⟩⟩

def IsBool (e : Ending) : Prop := ∃ b, e = .returned (.bool b)

set_option maxHeartbeats 1000000 in
theorem bytes5_any (i : Int) (a1 a2 a3 : Option Addr) (n1 c1 n2 c2 n3 c3 : Nat) (ss : Nat → ByteArray) (w : World) (hn : n1 + n2 + n3 ≤ 1048576) (hs : InS w a3 n3 c3 ss) :
    Calls Tryz.prog 5 #[.slice a1 n1 c1, .slice a2 n2 c2, .int .i64 i, .slice a3 n3 c3] w fun e w' => IsBool e ∧ w' = w := by
  have HS := hide hs
  clear hs
  go_enter Tryz.func5, Tryz.ntmps5
  go_wp2_with fail
  go_loop [9, 10] (fun s t => ∃ (k : Nat) (z : Int), k ≤ n3 ∧ t = .int .i64 k ∧ s = .int .i64 z) (fun _ t => n3 - (intOf t).toNat)
  case atStart => exact ⟨0, _, Nat.zero_le _, rfl, rfl⟩
  case round =>
    obtain ⟨k, z, hk, rfl, rfl⟩ := hrel
    by_cases hlt : k < n3
    · obtain ⟨b, off, rfl, hb, hc⟩ := (unhide HS).at hlt
      obtain ⟨ck, hl⟩ := hc k hlt
      unfold maxLen at hl
      generalize ss k = T at *
      have i1 : (0 : Int) ≤ (k : Int) := by omega
      have i2 : (k : Int) < (n3 : Int) := by omega
      clear hc
      go_wp2
      · go_ret
        exact ⟨⟨_, rfl⟩, rfl⟩
      · go_ret
        exact ⟨⟨_, rfl⟩, rfl⟩
      · go_round
        case rel => exact ⟨k + 1, _, by omega, by go_num, rfl⟩
        case measure => simp [intOf]; omega
    · go_wp2
      go_ret
      exact ⟨⟨_, rfl⟩, rfl⟩

set_option maxHeartbeats 1000000 in
theorem bytes5_early (i : Int) (a1 a2 a3 : Option Addr) (n1 c1 n2 c2 n3 c3 : Nat) (w : World) (hn1 : n1 ≤ maxLen) (hn2 : n2 ≤ maxLen) (hn3 : n3 ≤ maxLen) (hn : 1048576 < n1 + n2 + n3) :
    Calls Tryz.prog 5 #[.slice a1 n1 c1, .slice a2 n2 c2, .int .i64 i, .slice a3 n3 c3] w fun e w' => e = .returned (.bool false) ∧ w' = w := by
  unfold maxLen at hn1 hn2 hn3
  by_cases t1 : 1048576 < n1
  · go_enter Tryz.func5, Tryz.ntmps5
    go_wp2
    go_ret
    exact ⟨rfl, rfl⟩
  by_cases t2 : 1048576 < n2
  · go_enter Tryz.func5, Tryz.ntmps5
    go_wp2
    go_ret
    exact ⟨rfl, rfl⟩
  by_cases t3 : 1048576 < n1 + n2
  · go_enter Tryz.func5, Tryz.ntmps5
    go_wp2
    go_ret
    exact ⟨rfl, rfl⟩
  by_cases t4 : 1048576 < n3
  · go_enter Tryz.func5, Tryz.ntmps5
    go_wp2
    go_ret
    exact ⟨rfl, rfl⟩
  go_enter Tryz.func5, Tryz.ntmps5
  go_wp2
  go_ret
  exact ⟨rfl, rfl⟩

/-- Block g is a row of n strings. -/
def RowS (w : World) (g n : Nat) : Prop := ∃ cur : Array Value, w.heap[g]? = some (.cells cur 9 (0, 0)) ∧ cur.size = n
theorem RowS.cell {w : World} {g n : Nat} (h : RowS w g n) {i : Nat} (hi : i < n) : ∃ v, w.cell? ⟨g, i, none⟩ = some v := by
  obtain ⟨cur, h, rfl⟩ := h
  exact ⟨_, (cell_of_row w g i _ 9 (0, 0) h).trans (Array.getElem?_eq_getElem hi)⟩
theorem RowS.free {w : World} {g n : Nat} (h : RowS w g n) (i : Nat) : w.frozen? ⟨g, i, none⟩ = false := by
  obtain ⟨cur, h, rfl⟩ := h
  simp [World.frozen?, h]
theorem RowS.store {w : World} {g n : Nat} (h : RowS w g n) (j : Nat) (v : Value) : RowS (w.setCell ⟨g, j, none⟩ v) g n := by
  obtain ⟨cur, h, rfl⟩ := h
  refine ⟨cur.set! j v, ?_, by simp⟩
  simp only [World.setCell, Array.getElem?_modify, h]
  simp
theorem made_strs (w : World) (n : Nat) : RowS (w.alloc (.cells (madeCells #[.string ⟨#[]⟩] n) 9)) w.heap.size n :=
  ⟨_, heap_alloc_new _ _, by simp [size_madeCells]⟩

end Go.Proofs.Qxb6608559aGreat
