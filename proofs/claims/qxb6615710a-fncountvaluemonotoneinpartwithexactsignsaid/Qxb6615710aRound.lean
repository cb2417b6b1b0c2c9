/-
  PLAIN LAWS ON ROUNDING: no Go in sight. A finite word of a binary format is a whole number of units of the format's least place; to round to the nearest, ties to even, is a monotone function of that whole number.
-/
import Ieee.Arith
namespace Go.Proofs.Qxb6615710a.Round

/-- The magnitude (in units of the least place) of the rung 'r', at 'p' fraction bits. -/
def val (p r : Nat) : Nat := if r < 2 ^ p then r else (2 ^ p + r % 2 ^ p) * 2 ^ (r / 2 ^ p - 1)

/-- 'N / 2 ^ d' to the nearest whole number, ties to even. -/
def rhe (N d : Nat) : Nat := N / 2 ^ d + (decide (2 ^ d < 2 * (N % 2 ^ d)) || (2 ^ d == 2 * (N % 2 ^ d) && N / 2 ^ d % 2 == 1)).toNat

/-- The rung (not yet capped) to which a magnitude is rounded. -/
def rung (p N : Nat) : Nat := (N.log2 - p) * 2 ^ p + rhe N (N.log2 - p)

theorem toNat_le (b : Bool) : b.toNat ≤ 1 := by cases b <;> simp

theorem rhe_zero (N : Nat) : rhe N 0 = N := by
  simp [rhe, Nat.mod_one]

theorem rhe_mul (q d : Nat) : rhe (q * 2 ^ d) d = q := by
  have hp : 0 < 2 ^ d := Nat.two_pow_pos d
  have e1 : q * 2 ^ d / 2 ^ d = q := Nat.mul_div_cancel _ hp
  have e2 : q * 2 ^ d % 2 ^ d = 0 := Nat.mul_mod_left _ _
  unfold rhe
  rw [e1, e2]
  generalize 2 ^ d = g at hp
  have h1 : decide (g < 2 * 0) = false := by simp
  have h2 : (g == 2 * 0) = false := by simp; omega
  rw [h1, h2]; simp

theorem rhe_mono {N M : Nat} (d : Nat) (h : N ≤ M) : rhe N d ≤ rhe M d := by
  have hp : 0 < 2 ^ d := Nat.two_pow_pos d
  unfold rhe
  generalize 2 ^ d = g at hp
  have a1 := Nat.div_add_mod N g
  have a2 := Nat.div_add_mod M g
  have hab : N / g ≤ M / g := Nat.div_le_div_right h
  have t1 := toNat_le (decide (g < 2 * (N % g)) || (g == 2 * (N % g) && N / g % 2 == 1))
  by_cases e : N / g = M / g
  · rw [← e] at a2 ⊢
    have hm : N % g ≤ M % g := by omega
    generalize N / g = a at *
    generalize N % g = x at *
    generalize M % g = y at *
    refine Nat.add_le_add_left ?_ a
    by_cases hx : (decide (g < 2 * x) || (g == 2 * x && a % 2 == 1)) = true
    · have hy : (decide (g < 2 * y) || (g == 2 * y && a % 2 == 1)) = true := by
        simp only [Bool.or_eq_true, decide_eq_true_eq, Bool.and_eq_true, beq_iff_eq] at hx ⊢
        omega
      rw [hx, hy]; exact Nat.le_refl _
    · rw [Bool.not_eq_true] at hx
      rw [hx]; simp
  · have : N / g < M / g := by omega
    omega

theorem rhe_ge (N d : Nat) : N / 2 ^ d ≤ rhe N d := by unfold rhe; omega

theorem rhe_le_of_le {N K : Nat} (d : Nat) (h : N ≤ K * 2 ^ d) : rhe N d ≤ K := by
  have := rhe_mono d h
  rwa [rhe_mul] at this

/-- Scaling both parts changes nothing. -/
theorem rhe_scale (n d k : Nat) : rhe (n * 2 ^ k) (d + k) = rhe n d := by
  have hk : 0 < 2 ^ k := Nat.two_pow_pos k
  unfold rhe
  rw [Nat.pow_add]
  rw [Nat.mul_div_mul_right _ _ hk, Nat.mul_mod_mul_right]
  generalize 2 ^ d = g
  generalize 2 ^ k = c at hk
  have e1 : decide (g * c < 2 * (n % g * c)) = decide (g < 2 * (n % g)) := by
    rw [← Nat.mul_assoc]
    simp only [decide_eq_decide]
    exact Nat.mul_lt_mul_right hk
  have e2 : (g * c == 2 * (n % g * c)) = (g == 2 * (n % g)) := by
    rw [← Nat.mul_assoc, Bool.eq_iff_iff]
    simp only [beq_iff_eq]
    exact Nat.mul_left_inj (by omega)
  rw [e1, e2]

theorem log2_bounds {N : Nat} (h : N ≠ 0) : 2 ^ N.log2 ≤ N ∧ N < 2 ^ (N.log2 + 1) :=
  ⟨Nat.log2_self_le h, Nat.lt_log2_self⟩

theorem log2_mul_pow {m : Nat} (h : m ≠ 0) (k : Nat) : (m * 2 ^ k).log2 = m.log2 + k := by
  have hb := log2_bounds h
  have hk : 0 < 2 ^ k := Nat.two_pow_pos k
  have hne : m * 2 ^ k ≠ 0 := by
    have := Nat.mul_pos (Nat.pos_of_ne_zero h) hk
    omega
  rw [Nat.log2_eq_iff hne]
  constructor
  · rw [Nat.pow_add]; exact Nat.mul_le_mul_right _ hb.1
  · have : m.log2 + k + 1 = (m.log2 + 1) + k := by omega
    rw [this, Nat.pow_add]
    exact Nat.mul_lt_mul_of_pos_right hb.2 hk

theorem log2_mono {N M : Nat} (h : N ≤ M) : N.log2 ≤ M.log2 := by
  by_cases h0 : N = 0
  · subst h0; simp
  · have hM : M ≠ 0 := by omega
    exact (Nat.le_log2 hM).2 (Nat.le_trans (Nat.log2_self_le h0) h)

theorem rung_zero (p : Nat) : rung p 0 = 0 := by
  simp [rung, rhe_zero]

/-- Below the second binade's end nothing is rounded. -/
theorem lt_of_log (p N : Nat) : N < 2 ^ (p + 1) * 2 ^ (N.log2 - p) := by
  rw [← Nat.pow_add]
  refine Nat.lt_of_lt_of_le (Nat.lt_log2_self (n := N)) ?_
  exact Nat.pow_le_pow_right (by omega) (by omega)

theorem rung_mono (p : Nat) {N M : Nat} (h : N ≤ M) : rung p N ≤ rung p M := by
  have hl := log2_mono h
  by_cases e : N.log2 - p = M.log2 - p
  · unfold rung
    rw [e]
    exact Nat.add_le_add_left (rhe_mono _ h) _
  · have hd : N.log2 - p + 1 ≤ M.log2 - p := by omega
    have h1 : rhe N (N.log2 - p) ≤ 2 ^ (p + 1) := rhe_le_of_le _ (Nat.le_of_lt (lt_of_log p N))
    have hM : M ≠ 0 := by
      intro h0; subst h0; simp at hd
    have h2 : 2 ^ p ≤ M / 2 ^ (M.log2 - p) := by
      rw [Nat.le_div_iff_mul_le (Nat.two_pow_pos _), ← Nat.pow_add]
      have : p + (M.log2 - p) = M.log2 := by omega
      rw [this]
      exact Nat.log2_self_le hM
    have h3 := rhe_ge M (M.log2 - p)
    have h4 : (N.log2 - p + 1) * 2 ^ p ≤ (M.log2 - p) * 2 ^ p := Nat.mul_le_mul_right _ hd
    rw [Nat.pow_succ] at h1
    rw [Nat.add_mul] at h4
    unfold rung
    omega

theorem rung_pos (p : Nat) {N : Nat} (h : 0 < N) : 0 < rung p N := by
  unfold rung
  by_cases e : N.log2 - p = 0
  · rw [e, rhe_zero]; omega
  · have : 0 < (N.log2 - p) * 2 ^ p := Nat.mul_pos (by omega) (Nat.two_pow_pos p)
    omega

/-- What fits the format is kept to the unit. -/
theorem val_rung (p : Nat) {N : Nat} (h : 2 ^ (N.log2 - p) ∣ N) : val p (rung p N) = N := by
  obtain ⟨q, hq⟩ := h
  have hP : 0 < 2 ^ p := Nat.two_pow_pos p
  have hlt := lt_of_log p N
  have hr : rhe N (N.log2 - p) = q := by
    have : rhe N (N.log2 - p) = rhe (q * 2 ^ (N.log2 - p)) (N.log2 - p) := by rw [Nat.mul_comm q, ← hq]
    rw [this, rhe_mul]
  by_cases e : N.log2 - p = 0
  · have hN : q = N := by rw [← hr, e, rhe_zero]
    have hlt' : N < 2 ^ (p + 1) := by rw [e] at hlt; simpa using hlt
    unfold rung val
    rw [hr, e, hN]
    simp only [Nat.zero_mul, Nat.zero_add]
    by_cases h1 : N < 2 ^ p
    · rw [if_pos h1]
    · rw [if_neg h1]
      rw [Nat.pow_succ] at hlt'
      have d1 : N / 2 ^ p = 1 := by
        rw [Nat.div_eq_iff hP]; omega
      have d2 := Nat.div_add_mod N (2 ^ p)
      rw [d1] at d2
      rw [d1]
      simp only [Nat.sub_self, Nat.pow_zero, Nat.mul_one]
      omega
  · have hN0 : N ≠ 0 := by intro h0; rw [h0] at e; simp at e
    have hlo : 2 ^ p ≤ q := by
      have h1 : 2 ^ p * 2 ^ (N.log2 - p) ≤ 2 ^ (N.log2 - p) * q := by
        rw [← hq, ← Nat.pow_add]
        have : p + (N.log2 - p) = N.log2 := by omega
        rw [this]
        exact Nat.log2_self_le hN0
      rw [Nat.mul_comm] at h1
      exact Nat.le_of_mul_le_mul_left h1 (Nat.two_pow_pos _)
    have hhi : q < 2 ^ p * 2 := by
      have h1 : 2 ^ (N.log2 - p) * q < 2 ^ (N.log2 - p) * (2 ^ p * 2) := by
        rw [← hq, Nat.mul_comm (2 ^ (N.log2 - p)), ← Nat.pow_succ]
        exact hlt
      exact Nat.lt_of_mul_lt_mul_left h1
    unfold rung
    rw [hr]
    generalize hd : N.log2 - p = d at *
    have hdiv : (d * 2 ^ p + q) / 2 ^ p = d + 1 := by
      rw [Nat.div_eq_iff hP]
      rw [Nat.add_mul]
      omega
    have hmod := Nat.div_add_mod (d * 2 ^ p + q) (2 ^ p)
    rw [hdiv, Nat.mul_add, Nat.mul_comm (2 ^ p) d] at hmod
    unfold val
    have hge : ¬ d * 2 ^ p + q < 2 ^ p := by omega
    rw [if_neg hge, hdiv]
    have hm : 2 ^ p + (d * 2 ^ p + q) % 2 ^ p = q := by omega
    rw [hm, Nat.add_sub_cancel, hq]
    exact Nat.mul_comm _ _

theorem val_succ (p r : Nat) : val p r < val p (r + 1) := by
  have hP : 0 < 2 ^ p := Nat.two_pow_pos p
  have hP1 : 1 ≤ 2 ^ p := hP
  unfold val
  by_cases h1 : r + 1 < 2 ^ p
  · rw [if_pos h1, if_pos (by omega)]; omega
  · by_cases h2 : r < 2 ^ p
    · have e : r + 1 = 2 ^ p := by omega
      rw [if_pos h2, if_neg h1, e, Nat.mod_self, Nat.div_self hP]
      simp only [Nat.add_zero, Nat.sub_self, Nat.pow_zero, Nat.mul_one]
      omega
    · rw [if_neg h1, if_neg h2]
      have a1 := Nat.div_add_mod r (2 ^ p)
      have a2 := Nat.mod_lt r hP
      have a3 : 1 ≤ r / 2 ^ p := by rw [Nat.le_div_iff_mul_le hP]; omega
      by_cases h3 : r % 2 ^ p + 1 < 2 ^ p
      · have d1 : (r + 1) / 2 ^ p = r / 2 ^ p := by
          rw [Nat.div_eq_iff hP]
          have := Nat.mul_comm (2 ^ p) (r / 2 ^ p)
          omega
        have d2 := Nat.div_add_mod (r + 1) (2 ^ p)
        rw [d1] at d2
        rw [d1]
        have e : (r + 1) % 2 ^ p = r % 2 ^ p + 1 := by omega
        rw [e]
        exact Nat.mul_lt_mul_of_pos_right (by omega) (Nat.two_pow_pos _)
      · have d1 : (r + 1) / 2 ^ p = r / 2 ^ p + 1 := by
          rw [Nat.div_eq_iff hP]
          have := Nat.mul_comm (2 ^ p) (r / 2 ^ p)
          have := Nat.add_mul (r / 2 ^ p) 1 (2 ^ p)
          omega
        have d2 := Nat.div_add_mod (r + 1) (2 ^ p)
        rw [d1, Nat.mul_add] at d2
        have e : (r + 1) % 2 ^ p = 0 := by omega
        rw [d1, e, Nat.add_zero, Nat.add_sub_cancel]
        obtain ⟨a, ha⟩ : ∃ a, r / 2 ^ p = a + 1 := ⟨r / 2 ^ p - 1, by omega⟩
        rw [ha, Nat.add_sub_cancel, Nat.pow_succ, Nat.mul_comm (2 ^ a) 2, ← Nat.mul_assoc]
        exact Nat.mul_lt_mul_of_pos_right (by omega) (Nat.two_pow_pos _)

theorem val_lt (p : Nat) {r s : Nat} (h : r < s) : val p r < val p s := by
  induction s with
  | zero => omega
  | succ s ih =>
    by_cases e : r = s
    · subst e; exact val_succ p r
    · exact Nat.lt_trans (ih (by omega)) (val_succ p s)

theorem val_le (p : Nat) {r s : Nat} (h : r ≤ s) : val p r ≤ val p s := by
  by_cases e : r = s
  · subst e; exact Nat.le_refl _
  · exact Nat.le_of_lt (val_lt p (by omega))

theorem val_zero (p : Nat) : val p 0 = 0 := by
  unfold val; rw [if_pos (Nat.two_pow_pos p)]

end Go.Proofs.Qxb6615710a.Round
