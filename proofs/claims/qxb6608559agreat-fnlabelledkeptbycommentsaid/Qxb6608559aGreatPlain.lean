/-
  THE PLAIN LAWS on marks in their order: an instruction is labelled just where some label mark stands at it; one mark more in the run. No walk here.
-/
import Derived.Test.Qxb6608559aGreatPrem
namespace Go.Proofs.Qxb6608559aGreat

theorem le_of_mono {xs : List Int} {n : Nat} (h : ∀ k, k + 1 < n → xs.getD k 0 ≤ xs.getD (k + 1) 0) : ∀ b a, a ≤ b → b < n → xs.getD a 0 ≤ xs.getD b 0 := by
  intro b
  induction b with
  | zero => intro a ha _; obtain rfl : a = 0 := by omega
            exact Int.le_refl _
  | succ b ih =>
    intro a ha hb
    by_cases e : a = b + 1
    · subst e; exact Int.le_refl _
    · exact Int.le_trans (ih a (by omega) (by omega)) (h b hb)

/-- Some label mark among the first m stands at i. -/
def Has (i : Int) (xs : List Int) (bs : List Bool) (m : Nat) : Prop := ∃ j, j < m ∧ xs.getD j 0 = i ∧ bs.getD j false = true

theorem lab_iff {i : Int} {xs : List Int} {bs : List Bool} {n : Nat} (hle : ∀ k, k < n → xs.getD k 0 ≤ i) (hmono : ∀ k, k + 1 < n → xs.getD k 0 ≤ xs.getD (k + 1) 0) :
    ∀ m, m ≤ n → (labTo i xs bs m = true ↔ Has i xs bs m) := by
  intro m
  induction m with
  | zero => intro _; simp [labTo, Has]
  | succ m ih =>
    intro hm
    have ih' := ih (by omega)
    rw [labTo, Bool.and_eq_true, Bool.or_eq_true, beq_iff_eq, ih']
    constructor
    · rintro ⟨h1, h2 | ⟨j, hj, a, b⟩⟩
      · exact ⟨m, by omega, h1, h2⟩
      · exact ⟨j, by omega, a, b⟩
    · rintro ⟨j, hj, a, b⟩
      by_cases e : j = m
      · subst e; exact ⟨a, .inl b⟩
      · have h1 := le_of_mono hmono m j (by omega) (by omega)
        have h2 := hle m (by omega)
        exact ⟨by omega, .inr ⟨j, by omega, a, b⟩⟩

/-- The list A is xs with v put in at place p, as far as place m. -/
def Ins {α : Type} (d : α) (xs : List α) (p : Nat) (v : α) (A : List α) (m : Nat) : Prop :=
  (∀ j, j < p → A.getD j d = xs.getD j d) ∧ A.getD p d = v ∧ ∀ j, p ≤ j → j < m → A.getD (j + 1) d = xs.getD j d

theorem ins_law {i : Int} {xs A : List Int} {bs B : List Bool} {n p : Nat} {label : Bool} (hp : p ≤ n) (hle : ∀ k, k < n → xs.getD k 0 ≤ i) (hmono : ∀ k, k + 1 < n → xs.getD k 0 ≤ xs.getD (k + 1) 0)
    (hat : p < n → xs.getD p 0 = i) (hA : Ins 0 xs p i A n) (hB : Ins false bs p label B n) :
    labTo i A B (n + 1) = (labTo i xs bs n || label) := by
  obtain ⟨a1, a2, a3⟩ := hA
  obtain ⟨b1, b2, b3⟩ := hB
  have hleA : ∀ k, k < n + 1 → A.getD k 0 ≤ i := by
    intro k hk
    by_cases h1 : k < p
    · rw [a1 k h1]; exact hle k (by omega)
    · by_cases h2 : k = p
      · subst h2; rw [a2]; exact Int.le_refl _
      · obtain ⟨q, rfl⟩ : ∃ q, k = q + 1 := ⟨k - 1, by omega⟩
        rw [a3 q (by omega) (by omega)]; exact hle q (by omega)
  have hmonoA : ∀ k, k + 1 < n + 1 → A.getD k 0 ≤ A.getD (k + 1) 0 := by
    intro k hk
    by_cases h1 : k + 1 < p
    · rw [a1 k (by omega), a1 (k + 1) h1]; exact hmono k (by omega)
    · by_cases h2 : k + 1 = p
      · rw [a1 k (by omega), h2, a2]; exact hle k (by omega)
      · by_cases h3 : k = p
        · subst h3; rw [a2, a3 k (Nat.le_refl _) (by omega), hat (by omega)]; exact Int.le_refl _
        · obtain ⟨q, rfl⟩ : ∃ q, k = q + 1 := ⟨k - 1, by omega⟩
          rw [a3 q (by omega) (by omega), a3 (q + 1) (by omega) (by omega)]; exact hmono q (by omega)
  rw [Bool.eq_iff_iff, lab_iff hleA hmonoA (n + 1) (Nat.le_refl _), Bool.or_eq_true, lab_iff hle hmono n (Nat.le_refl _)]
  constructor
  · rintro ⟨j, hj, e1, e2⟩
    by_cases h1 : j < p
    · rw [a1 j h1] at e1; rw [b1 j h1] at e2; exact .inl ⟨j, by omega, e1, e2⟩
    · by_cases h2 : j = p
      · subst h2; rw [b2] at e2; exact .inr e2
      · obtain ⟨q, rfl⟩ : ∃ q, j = q + 1 := ⟨j - 1, by omega⟩
        rw [a3 q (by omega) (by omega)] at e1
        rw [b3 q (by omega) (by omega)] at e2
        exact .inl ⟨q, by omega, e1, e2⟩
  · rintro (⟨j, hj, e1, e2⟩ | h)
    · by_cases h1 : j < p
      · exact ⟨j, by omega, by rw [a1 j h1]; exact e1, by rw [b1 j h1]; exact e2⟩
      · exact ⟨j + 1, by omega, by rw [a3 j (by omega) hj]; exact e1, by rw [b3 j (by omega) hj]; exact e2⟩
    · exact ⟨p, by omega, a2, by rw [b2]; exact h⟩

end Go.Proofs.Qxb6608559aGreat
