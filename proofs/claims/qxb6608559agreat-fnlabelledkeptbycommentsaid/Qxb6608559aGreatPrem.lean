/-
  THE WALK of zzMarksPremise, and what its yes says.
-/
import Derived.Test.Qxb6608559aGreatLab
import Derived.Deep.QuietTactic
import Derived.BigQuiet
namespace Go.Proofs.Qxb6608559aGreat
open Go.RowKit

/-- A slice of ints that is empty, or a row of its own of just these numbers. -/
def OwnI (w : World) (a : Option Addr) (xs : List Int) : Prop := xs = [] ∨ ∃ g, a = some ⟨g, 0, none⟩ ∧ w.heap[g]? = some (.cells (xs.map (Value.int .i64)).toArray 3 (0, 0))
/-- The same of bools. -/
def OwnB (w : World) (a : Option Addr) (xs : List Bool) : Prop := xs = [] ∨ ∃ g, a = some ⟨g, 0, none⟩ ∧ w.heap[g]? = some (.cells (xs.map Value.bool).toArray 4 (0, 0))

theorem OwnI.cell {w : World} {a : Option Addr} {xs : List Int} (h : OwnI w a xs) {k : Nat} (hk : k < xs.length) : ∃ g, a = some ⟨g, 0, none⟩ ∧ g < w.heap.size ∧ ∀ i, i < xs.length → w.cell? ⟨g, i, none⟩ = some (.int .i64 (xs.getD i 0)) := by
  rcases h with rfl | ⟨g, rfl, hg⟩
  · simp at hk
  · exact ⟨g, rfl, lt_of_block hg, fun i hi => by rw [cell_of_row w g i _ 3 (0, 0) hg]; simp [hi]⟩
theorem OwnB.cell {w : World} {a : Option Addr} {xs : List Bool} (h : OwnB w a xs) {k : Nat} (hk : k < xs.length) : ∃ g, a = some ⟨g, 0, none⟩ ∧ g < w.heap.size ∧ ∀ i, i < xs.length → w.cell? ⟨g, i, none⟩ = some (.bool (xs.getD i false)) := by
  rcases h with rfl | ⟨g, rfl, hg⟩
  · simp at hk
  · exact ⟨g, rfl, lt_of_block hg, fun i hi => by rw [cell_of_row w g i _ 4 (0, 0) hg]; simp [hi]⟩
theorem OwnI.kept {w w' : World} {a : Option Addr} {xs : List Int} (h : OwnI w a xs) (hb : Below w.heap.size w w') : OwnI w' a xs := by
  rcases h with rfl | ⟨g, rfl, hg⟩
  · exact .inl rfl
  · exact .inr ⟨g, rfl, (hb.block g (lt_of_block hg)).trans hg⟩
theorem OwnB.kept {w w' : World} {a : Option Addr} {xs : List Bool} (h : OwnB w a xs) (hb : Below w.heap.size w w') : OwnB w' a xs := by
  rcases h with rfl | ⟨g, rfl, hg⟩
  · exact .inl rfl
  · exact .inr ⟨g, rfl, (hb.block g (lt_of_block hg)).trans hg⟩

/-- What zzMarksPremise asks. -/
structure Prem (xs : List Int) (bs : List Bool) (i : Int) : Prop where
  len : xs.length = bs.length
  pos : 0 ≤ i
  le : ∀ k, k < xs.length → xs.getD k 0 ≤ i
  mono : ∀ k, k + 1 < xs.length → xs.getD k 0 ≤ xs.getD (k + 1) 0

theorem le_step {xs : List Int} {i x : Int} {k : Nat} (h : ∀ j, j < k → xs.getD j 0 ≤ i) (e : xs.getD k 0 = x) (hx : x ≤ i) : ∀ j, j < k + 1 → xs.getD j 0 ≤ i := by
  intro j hj
  by_cases hjk : j = k
  · subst hjk; rw [e]; exact hx
  · exact h j (by omega)
theorem mono_step {xs : List Int} {x y : Int} {m : Nat} (h : ∀ j, j + 1 < m + 1 → xs.getD j 0 ≤ xs.getD (j + 1) 0) (e : xs.getD (m + 1) 0 = x) (e' : xs.getD m 0 = y) (hx : y ≤ x) : ∀ j, j + 1 < m + 1 + 1 → xs.getD j 0 ≤ xs.getD (j + 1) 0 := by
  intro j hj
  by_cases hjk : j = m
  · subst hjk; rw [e, e']; exact hx
  · exact h j (by omega)

def PremPost (xs : List Int) (bs : List Bool) (i : Int) (e : Ending) : Prop := ∃ b, e = .returned (.bool b) ∧ (b = true → Prem xs bs i)

set_option maxHeartbeats 1000000 in
theorem premise_any (a1 a2 : Option Addr) (n1 n2 c1 c2 : Nat) (i : Int) (xs : List Int) (bs : List Bool) (w : World) (hn : n1 ≤ 100000) (hn2 : n2 ≤ 100000)
    (l1 : xs.length = n1) (l2 : bs.length = n2) (hx : OwnI w a1 xs) :
    Calls Tryz.prog 6 #[.slice a1 n1 c1, .slice a2 n2 c2, .int .i64 i] w fun e w' => PremPost xs bs i e ∧ ∃ nq, w' = w.drewN nq := by
  have HX := hide hx
  have L1 := hide l1
  have L2 := hide l2
  clear hx l1 l2
  by_cases t1 : n1 = n2
  rotate_left
  · have t1' : ((n1 : Int) != (n2 : Int)) = true := by simp; omega
    go_enter Tryz.func6, Tryz.ntmps6
    go_wp2
    go_ret
    exact ⟨⟨false, rfl, fun h => by cases h⟩, 0, rfl⟩
  subst t1
  by_cases t2 : i < 0
  · go_enter Tryz.func6, Tryz.ntmps6
    go_wp2
    go_ret
    exact ⟨⟨false, rfl, fun h => by cases h⟩, 0, rfl⟩
  have t3 : ((n1 : Int) != (n1 : Int)) = false := by simp
  go_enter Tryz.func6, Tryz.ntmps6
  go_wp2_with fail
  go_loopw [7] (fun t wr => ∃ k : Nat, k ≤ n1 ∧ t = .int .i64 k ∧ (∀ j, j < k → xs.getD j 0 ≤ i) ∧ (∀ j, j + 1 < k → xs.getD j 0 ≤ xs.getD (j + 1) 0) ∧ ∃ nq, wr = w.drewN nq) (fun t _ => n1 - (intOf t).toNat)
  case atStart => exact ⟨0, Nat.zero_le _, rfl, fun j hj => by omega, fun j hj => by omega, 0, rfl⟩
  case round =>
    obtain ⟨k, hk, rfl, q1, q2, nq, rfl⟩ := hrel
    have Q1 := hide q1
    have Q2 := hide q2
    clear q1 q2
    by_cases hlt : k < n1
    · obtain ⟨g, rfl, hg, hc⟩ := (unhide HX).cell (k := k) (by rw [unhide L1]; exact hlt)
      have ck := hc k (by rw [unhide L1]; exact hlt)
      obtain ⟨x, ex⟩ : ∃ x, xs.getD k 0 = x := ⟨_, rfl⟩
      rw [ex] at ck
      have EX := hide ex
      have HC := hide hc
      clear ex hc
      have i1 : (0 : Int) ≤ (k : Int) := by omega
      have i2 : (k : Int) < (n1 : Int) := by omega
      by_cases s1 : x < 0
      · go_wp2
        go_ret
        exact ⟨⟨false, rfl, fun h => by cases h⟩, nq, rfl⟩
      by_cases s2 : i < x
      · go_wp2
        go_ret
        exact ⟨⟨false, rfl, fun h => by cases h⟩, nq, rfl⟩
      cases k with
      | zero =>
        have hd : decide ((0 : Int) < ((0 : Nat) : Int)) = false := by decide
        go_wp2_with fail
        go_quiet (fail)
        go_wp2
        go_roundw
        case rel => exact ⟨1, by omega, by go_num, le_step (unhide Q1) (unhide EX) s2, fun j hj => by omega, _, rfl⟩
        case measure => simp [intOf]; omega
      | succ m =>
        have cm := unhide HC m (by rw [unhide L1]; omega)
        obtain ⟨y, ey⟩ : ∃ y, xs.getD m 0 = y := ⟨_, rfl⟩
        rw [ey] at cm
        have EY := hide ey
        clear ey
        have hd : decide ((0 : Int) < ((m + 1 : Nat) : Int)) = true := decide_eq_true (by omega)
        have i3 : (0 : Int) ≤ ((m + 1 : Nat) : Int) - 1 := by omega
        have i4 : ((m + 1 : Nat) : Int) - 1 < (n1 : Int) := by omega
        by_cases s3 : x < y
        · have hd2 : decide (x < y) = true := by simp [s3]
          go_wp2_with fail
          go_quiet (fail)
          go_wp2
          go_ret
          exact ⟨⟨false, rfl, fun h => by cases h⟩, _, World.drewN_drewN ..⟩
        · have hd2 : decide (x < y) = false := by simp; omega
          go_wp2_with fail
          go_quiet (fail)
          go_wp2
          go_roundw
          case rel => exact ⟨m + 1 + 1, by omega, by go_num, le_step (unhide Q1) (unhide EX) s2, mono_step (unhide Q2) (unhide EX) (unhide EY) (by omega), _, rfl⟩
          case measure => simp [intOf]; omega
    · have hkn : k = n1 := by omega
      subst hkn
      go_wp2
      go_ret
      exact ⟨⟨true, rfl, fun _ => ⟨by rw [unhide L1, unhide L2], by omega, fun j hj => unhide Q1 j (by rw [← unhide L1]; exact hj), fun j hj => unhide Q2 j (by rw [← unhide L1]; exact hj)⟩⟩, nq, rfl⟩
end Go.Proofs.Qxb6608559aGreat
