/-
  PLAIN LAWS ON WORDS OF A FORMAT: what a finite word stands for, in units of the least place ('V'); the order of words; a sum. No Go in sight.
-/
import Derived.Test.Qxb6615710aRound
namespace Go.Proofs.Qxb6615710a.Round
open Ieee

section
variable (f : Format)

def rg (x : Nat) : Nat := x % f.signWeight
def ng (x : Nat) : Bool := x / f.signWeight % 2 == 1
def sgd (s : Bool) (n : Nat) : Int := if s then -(n : Int) else n
/-- What a finite word stands for, in units of the least place. -/
def V (x : Nat) : Int := sgd (ng f x) (val f.fractionBits (rg f x))
/-- A word's place in the order of words. -/
def key (x : Nat) : Int := sgd (ng f x) (rg f x)
/-- The key of the word nearest to 'S' units. -/
def K (S : Int) : Int := sgd (decide (S < 0)) (min (rung f.fractionBits S.natAbs) f.infRung)

theorem infRung_lt' (f : Format) : f.infRung < f.signWeight := by
  have h : 0 < 2 ^ f.exponentBits := Nat.two_pow_pos _
  have h2 : 0 < 2 ^ f.fractionBits := Nat.two_pow_pos _
  unfold Format.infRung Format.signWeight Format.binade
  rw [Nat.pow_add]
  exact Nat.mul_lt_mul_of_pos_right (by omega) h2

theorem signed_eq (s : Bool) (m k : Nat) : signed s m k = sgd s (m * 2 ^ k) := by
  unfold signed sgd
  rw [Nat.shiftLeft_eq]

theorem sgd_mul (s : Bool) (n c : Nat) : sgd s (n * c) = sgd s n * c := by
  unfold sgd
  cases s <;> simp [Int.neg_mul]

theorem read_finite {x : Nat} (h : rg f x < f.infRung) :
    ∃ (m : Nat) (k : Nat), f.read x = .number (ng f x) m (f.leastPlace + k) ∧ m * 2 ^ k = val f.fractionBits (rg f x) ∧ m < 2 ^ (f.fractionBits + 1) := by
  have hP : 0 < f.binade := Nat.two_pow_pos _
  have hbin : f.binade = 2 ^ f.fractionBits := rfl
  unfold Format.read val
  unfold rg at h
  unfold rg ng
  rw [Nat.pow_succ, ← hbin]
  dsimp only
  by_cases h1 : x % f.signWeight < f.binade
  · refine ⟨x % f.signWeight, 0, ?_, ?_, ?_⟩
    · rw [if_pos h1]; simp
    · rw [if_pos h1]; simp
    · omega
  · refine ⟨f.binade + x % f.signWeight % f.binade, x % f.signWeight / f.binade - 1, ?_, ?_, ?_⟩
    · rw [if_neg h1, if_pos h]
    · rw [if_neg h1]
    · have := Nat.mod_lt (x % f.signWeight) hP
      omega

theorem read_inf {x : Nat} (hb : f.binade ≤ f.infRung) (h : rg f x = f.infRung) : f.read x = .infinity (ng f x) := by
  unfold rg at h
  unfold Format.read ng
  simp only
  rw [if_neg (by omega), if_neg (by omega), if_pos h]

theorem read_nan {x : Nat} (hb : f.binade ≤ f.infRung) (h : f.infRung < rg f x) : f.read x = .nan (ng f x) (rg f x - f.infRung) := by
  unfold rg at h ⊢
  unfold Format.read ng
  simp only
  rw [if_neg (by omega), if_neg (by omega), if_neg (by omega)]

theorem compare_mul (a b : Int) {c : Int} (h : 0 < c) : compare (a * c) (b * c) = compare a b := by
  have e1 : a * c < b * c ↔ a < b := Int.mul_lt_mul_right h
  have e2 : a * c = b * c ↔ a = b := Int.mul_eq_mul_right_iff (by omega)
  simp only [compare, compareOfLessAndEq, e1, e2]

theorem sub_toNat (L : Int) (k j : Nat) : (L + k - min (L + k) (L + j)).toNat = k - min k j := by omega

theorem order_fin {x y : Nat} (hx : rg f x < f.infRung) (hy : rg f y < f.infRung) : f.order x y = some (compare (V f x) (V f y)) := by
  obtain ⟨m, k, ex, vx, _⟩ := read_finite f hx
  obtain ⟨n, j, ey, vy, _⟩ := read_finite f hy
  unfold Format.order V
  rw [ex, ey, ← vx, ← vy]
  simp only [Datum.order]
  have e1 : (f.leastPlace + k - min (f.leastPlace + k) (f.leastPlace + j)).toNat = k - min k j := by omega
  have e2 : (f.leastPlace + j - min (f.leastPlace + k) (f.leastPlace + j)).toNat = j - min k j := by omega
  rw [e1, e2, signed_eq, signed_eq]
  have c1 : m * 2 ^ k = m * 2 ^ (k - min k j) * 2 ^ min k j := by
    rw [Nat.mul_assoc, ← Nat.pow_add]; congr 2; omega
  have c2 : n * 2 ^ j = n * 2 ^ (j - min k j) * 2 ^ min k j := by
    rw [Nat.mul_assoc, ← Nat.pow_add]; congr 2; omega
  rw [c1, c2, sgd_mul _ _ (2 ^ min k j), sgd_mul _ _ (2 ^ min k j), compare_mul]
  have := Nat.two_pow_pos (min k j)
  omega

theorem sgd_lt (s t : Bool) (a b : Nat) : sgd s (val f.fractionBits a) < sgd t (val f.fractionBits b) ↔ sgd s a < sgd t b := by
  have z := val_zero f.fractionBits
  have p1 : 0 < a → 0 < val f.fractionBits a := fun h => by have := val_lt f.fractionBits h; omega
  have p2 : 0 < b → 0 < val f.fractionBits b := fun h => by have := val_lt f.fractionBits h; omega
  have q1 : a < b → val f.fractionBits a < val f.fractionBits b := val_lt f.fractionBits
  have q2 : b < a → val f.fractionBits b < val f.fractionBits a := val_lt f.fractionBits
  have q3 : a = b → val f.fractionBits a = val f.fractionBits b := fun h => by rw [h]
  have q4 : a = 0 → val f.fractionBits a = 0 := fun h => by rw [h, z]
  have q5 : b = 0 → val f.fractionBits b = 0 := fun h => by rw [h, z]
  unfold sgd
  generalize val f.fractionBits a = va at *
  generalize val f.fractionBits b = vb at *
  clear z
  cases s <;> cases t <;> simp only [if_true, if_false, Bool.false_eq_true] <;> omega

theorem sgd_eq (s t : Bool) (a b : Nat) : sgd s (val f.fractionBits a) = sgd t (val f.fractionBits b) ↔ sgd s a = sgd t b := by
  have h1 := sgd_lt f s t a b
  have h2 := sgd_lt f t s b a
  omega

theorem compare_VK (x y : Nat) : compare (V f x) (V f y) = compare (key f x) (key f y) := by
  unfold V key
  simp only [compare, compareOfLessAndEq, sgd_lt, sgd_eq]

/-- THE ORDER OF WORDS THAT ARE NO NaN. -/
theorem order_key (hb : f.binade ≤ f.infRung) {x y : Nat} (hx : rg f x ≤ f.infRung) (hy : rg f y ≤ f.infRung) : f.order x y = some (compare (key f x) (key f y)) := by
  have hB : 0 < f.binade := Nat.two_pow_pos _
  by_cases h1 : rg f x < f.infRung
  · by_cases h2 : rg f y < f.infRung
    · rw [order_fin f h1 h2, compare_VK]
    · have h2 : rg f y = f.infRung := by omega
      obtain ⟨m, k, ex, _, _⟩ := read_finite f h1
      unfold Format.order
      rw [ex, read_inf f hb h2]
      unfold key sgd
      rw [h2]
      generalize rg f x = a at *
      generalize f.infRung = c at *
      cases ng f x <;> cases ng f y <;> simp only [Datum.order, compare, compareOfLessAndEq, if_true, if_false, Bool.false_eq_true] <;> first | (rw [if_pos (by omega)]; done) | (rw [if_neg (by omega), if_neg (by omega)])
  · have h1 : rg f x = f.infRung := by omega
    by_cases h2 : rg f y < f.infRung
    · obtain ⟨m, k, ex, _, _⟩ := read_finite f h2
      unfold Format.order
      rw [ex, read_inf f hb h1]
      unfold key sgd
      rw [h1]
      generalize rg f y = a at *
      generalize f.infRung = c at *
      cases ng f x <;> cases ng f y <;> simp only [Datum.order, compare, compareOfLessAndEq, if_true, if_false, Bool.false_eq_true] <;> first | (rw [if_pos (by omega)]; done) | (rw [if_neg (by omega), if_neg (by omega)])
    · have h2 : rg f y = f.infRung := by omega
      unfold Format.order
      rw [read_inf f hb h1, read_inf f hb h2]
      unfold key sgd
      rw [h1, h2]
      generalize f.infRung = c at *
      cases ng f x <;> cases ng f y <;> simp only [Datum.order, compare, compareOfLessAndEq, if_true, if_false, Bool.false_eq_true, Bool.toNat_true, Bool.toNat_false]
      · simp
      · rw [if_neg (show ¬ (c : Int) < -(c : Int) by omega), if_neg (show ¬ (c : Int) = -(c : Int) by omega)]; simp
      · rw [if_pos (show -(c : Int) < (c : Int) by omega)]; simp
      · simp

theorem order_nan (hb : f.binade ≤ f.infRung) {x : Nat} (h : f.infRung < rg f x) (y : Nat) : f.order x y = none := by
  unfold Format.order
  rw [read_nan f hb h]
  simp [Datum.order]

theorem word_rg (s : Bool) {r : Nat} (h : r < f.signWeight) : rg f (f.word s r) = r := by
  unfold rg Format.word
  cases s
  · simp [Nat.mod_eq_of_lt h]
  · simp [Nat.mod_eq_of_lt h]

theorem word_ng (s : Bool) {r : Nat} (h : r < f.signWeight) : ng f (f.word s r) = s := by
  unfold ng Format.word
  have hp : 0 < f.signWeight := by omega
  cases s
  · simp [Nat.div_eq_of_lt h]
  · simp [Nat.add_div_left _ hp, Nat.div_eq_of_lt h]

theorem cut_even (s : Bool) (n drop : Nat) : Toward.even.cut s n drop = rhe n drop := by
  unfold Toward.cut rhe
  simp only [Nat.shiftLeft_eq, Nat.one_mul]
  by_cases h : drop ≤ n.log2 + 2
  · rw [Nat.min_eq_left h]
  · rw [Nat.min_eq_right (by omega)]
    have h1 : n < 2 ^ (n.log2 + 1) := Nat.lt_log2_self
    have h2 : 2 ^ (n.log2 + 2) = 2 ^ (n.log2 + 1) * 2 := Nat.pow_succ ..
    have h3 : 2 ^ (n.log2 + 2) ≤ 2 ^ drop := Nat.pow_le_pow_right (by omega) (by omega)
    generalize 2 ^ (n.log2 + 2) = g at *
    generalize 2 ^ drop = c at *
    rw [Nat.div_eq_of_lt (by omega), Nat.mod_eq_of_lt (by omega), Nat.div_eq_of_lt (a := n) (b := c) (by omega), Nat.mod_eq_of_lt (a := n) (b := c) (by omega)]
    have d1 : decide (g < 2 * n) = false := by simp; omega
    have d2 : decide (c < 2 * n) = false := by simp; omega
    rw [d1, d2]; simp

theorem cut_zero (s : Bool) (n drop : Nat) : Toward.zero.cut s n drop = n / 2 ^ drop := by
  unfold Toward.cut
  simp only [Nat.shiftLeft_eq, Nat.one_mul, Bool.toNat_false, Nat.add_zero]
  by_cases h : drop ≤ n.log2 + 2
  · rw [Nat.min_eq_left h]
  · rw [Nat.min_eq_right (by omega)]
    have h1 : n < 2 ^ (n.log2 + 1) := Nat.lt_log2_self
    have h2 : 2 ^ (n.log2 + 2) = 2 ^ (n.log2 + 1) * 2 := Nat.pow_succ ..
    have h3 : 2 ^ (n.log2 + 2) ≤ 2 ^ drop := Nat.pow_le_pow_right (by omega) (by omega)
    rw [Nat.div_eq_of_lt (by omega), Nat.div_eq_of_lt (by omega)]

theorem nearest_eq (s : Bool) (m k : Nat) : f.nearest s m (f.leastPlace + k) = f.word s (min (rung f.fractionBits (m * 2 ^ k)) f.infRung) := by
  unfold Format.nearest
  by_cases h0 : m = 0
  · rw [if_pos h0, h0, Nat.zero_mul, rung_zero, Nat.zero_min]
  · rw [if_neg h0]
    dsimp only
    rw [cut_even]
    unfold rung
    rw [log2_mul_pow h0, Format.binade]
    generalize f.fractionBits = p
    generalize f.leastPlace = L
    have e1 : (max (L + (k : Int) + (m.log2 : Int) - (p : Int)) L - L).toNat = m.log2 + k - p := by omega
    rw [e1]
    congr 3
    rw [Nat.shiftLeft_eq]
    by_cases hc : k ≤ m.log2 + k - p
    · have e2 : (L + (k : Int) - max (L + (k : Int) + (m.log2 : Int) - (p : Int)) L).toNat = 0 := by omega
      have e3 : (max (L + (k : Int) + (m.log2 : Int) - (p : Int)) L - (L + (k : Int))).toNat = m.log2 + k - p - k := by omega
      rw [e2, e3, Nat.pow_zero, Nat.mul_one]
      have := rhe_scale m (m.log2 + k - p - k) k
      rw [← this]
      congr 1
      omega
    · have e2 : (L + (k : Int) - max (L + (k : Int) + (m.log2 : Int) - (p : Int)) L).toNat = k - (m.log2 + k - p) := by omega
      have e3 : (max (L + (k : Int) + (m.log2 : Int) - (p : Int)) L - (L + (k : Int))).toNat = 0 := by omega
      rw [e2, e3, rhe_zero]
      have : m * 2 ^ k = m * 2 ^ (k - (m.log2 + k - p)) * 2 ^ (m.log2 + k - p) := by
        rw [Nat.mul_assoc, ← Nat.pow_add]; congr 2; omega
      rw [this, rhe_mul]

theorem sgd_natAbs (s : Bool) (n : Nat) : (sgd s n).natAbs = n := by
  unfold sgd; cases s <;> simp

/-- A SUM OF FINITE WORDS, AS WORDS. -/
theorem sum_fin (s t : Bool) (m n k j : Nat) :
    ∃ u : Bool, ((Datum.number s m (f.leastPlace + k)).sum (.number t n (f.leastPlace + j))).map f.write
      = some (f.word u (min (rung f.fractionBits (sgd s (m * 2 ^ k) + sgd t (n * 2 ^ j)).natAbs) f.infRung))
      ∧ (sgd s (m * 2 ^ k) + sgd t (n * 2 ^ j) ≠ 0 → u = decide (sgd s (m * 2 ^ k) + sgd t (n * 2 ^ j) < 0)) := by
  simp only [Datum.sum, Option.map_some, Format.write]
  have e0 : min (f.leastPlace + (k : Int)) (f.leastPlace + (j : Int)) = f.leastPlace + (min k j : Nat) := by omega
  have e1 : (f.leastPlace + k - (f.leastPlace + (min k j : Nat))).toNat = k - min k j := by omega
  have e2 : (f.leastPlace + j - (f.leastPlace + (min k j : Nat))).toNat = j - min k j := by omega
  rw [e0, e1, e2, signed_eq, signed_eq]
  have c1 : m * 2 ^ k = m * 2 ^ (k - min k j) * 2 ^ min k j := by
    rw [Nat.mul_assoc, ← Nat.pow_add]; congr 2; omega
  have c2 : n * 2 ^ j = n * 2 ^ (j - min k j) * 2 ^ min k j := by
    rw [Nat.mul_assoc, ← Nat.pow_add]; congr 2; omega
  have hS : sgd s (m * 2 ^ k) + sgd t (n * 2 ^ j) = (sgd s (m * 2 ^ (k - min k j)) + sgd t (n * 2 ^ (j - min k j))) * (2 ^ min k j : Nat) := by
    rw [c1, c2, sgd_mul _ _ (2 ^ min k j), sgd_mul _ _ (2 ^ min k j), Int.add_mul]
  rw [hS, nearest_eq]
  generalize sgd s (m * 2 ^ (k - min k j)) + sgd t (n * 2 ^ (j - min k j)) = T
  have hp := Nat.two_pow_pos (min k j)
  generalize 2 ^ min k j = c at *
  refine ⟨if T = 0 then s && t else decide (T < 0), ?_, ?_⟩
  · rw [Int.natAbs_mul, Int.natAbs_natCast]
  · intro hT
    have hT0 : T ≠ 0 := by intro h; rw [h] at hT; simp at hT
    rw [if_neg hT0]
    have : T * (c : Int) < 0 ↔ T < 0 := by
      have := Int.mul_lt_mul_right (a := (c : Int)) (b := T) (c := 0) (by omega)
      rwa [Int.zero_mul] at this
    simp only [this]

/-- THE SUM OF TWO FINITE WORDS: its key. -/
theorem add_fin {x y : Nat} (hx : rg f x < f.infRung) (hy : rg f y < f.infRung) :
    ∃ z, f.add x y = some z ∧ key f z = K f (V f x + V f y) ∧ rg f z = min (rung f.fractionBits (V f x + V f y).natAbs) f.infRung := by
  obtain ⟨m, k, ex, vx, _⟩ := read_finite f hx
  obtain ⟨n, j, ey, vy, _⟩ := read_finite f hy
  obtain ⟨u, h1, h2⟩ := sum_fin f (ng f x) (ng f y) m n k j
  unfold Format.add
  rw [ex, ey, h1]
  have eV : V f x + V f y = sgd (ng f x) (m * 2 ^ k) + sgd (ng f y) (n * 2 ^ j) := by
    unfold V; rw [vx, vy]
  rw [← eV] at h2 ⊢
  generalize V f x + V f y = S at *
  have hlt : min (rung f.fractionBits S.natAbs) f.infRung < f.signWeight := Nat.lt_of_le_of_lt (Nat.min_le_right ..) (infRung_lt' f)
  refine ⟨_, rfl, ?_, word_rg f u hlt⟩
  unfold key K
  rw [word_rg f u hlt, word_ng f u hlt]
  by_cases h0 : S = 0
  · subst h0
    simp [rung_zero, sgd]
  · rw [h2 h0]

theorem sub_fin {x y : Nat} (hx : rg f x < f.infRung) (hy : rg f y < f.infRung) :
    ∃ z, f.sub x y = some z ∧ key f z = K f (V f x - V f y) ∧ rg f z = min (rung f.fractionBits (V f x - V f y).natAbs) f.infRung := by
  obtain ⟨m, k, ex, vx, _⟩ := read_finite f hx
  obtain ⟨n, j, ey, vy, _⟩ := read_finite f hy
  obtain ⟨u, h1, h2⟩ := sum_fin f (ng f x) (!ng f y) m n k j
  unfold Format.sub
  rw [ex, ey]
  simp only [Datum.opposite]
  rw [h1]
  have eV : V f x - V f y = sgd (ng f x) (m * 2 ^ k) + sgd (!ng f y) (n * 2 ^ j) := by
    unfold V; rw [vx, vy]
    unfold sgd
    cases ng f y <;> simp <;> omega
  rw [← eV] at h2 ⊢
  generalize V f x - V f y = S at *
  have hlt : min (rung f.fractionBits S.natAbs) f.infRung < f.signWeight := Nat.lt_of_le_of_lt (Nat.min_le_right ..) (infRung_lt' f)
  refine ⟨_, rfl, ?_, word_rg f u hlt⟩
  unfold key K
  rw [word_rg f u hlt, word_ng f u hlt]
  by_cases h0 : S = 0
  · subst h0
    simp [rung_zero, sgd]
  · rw [h2 h0]

theorem K_mono {S T : Int} (h : S ≤ T) : K f S ≤ K f T := by
  unfold K sgd
  by_cases hS : S < 0
  · by_cases hT : T < 0
    · rw [decide_eq_true hS, decide_eq_true hT, if_pos rfl, if_pos rfl]
      have := rung_mono f.fractionBits (N := T.natAbs) (M := S.natAbs) (by omega)
      omega
    · rw [decide_eq_true hS, decide_eq_false hT, if_pos rfl, if_neg (by simp)]
      omega
  · have hT : ¬ T < 0 := by omega
    rw [decide_eq_false hS, decide_eq_false hT, if_neg (by simp), if_neg (by simp)]
    have := rung_mono f.fractionBits (N := S.natAbs) (M := T.natAbs) (by omega)
    omega

theorem K_pos (hI : 0 < f.infRung) {S : Int} (h : 0 < S) : 0 < K f S := by
  unfold K sgd
  rw [decide_eq_false (by omega), if_neg (by simp)]
  have := rung_pos f.fractionBits (N := S.natAbs) (by omega)
  omega

theorem K_neg (hI : 0 < f.infRung) {S : Int} (h : S < 0) : K f S < 0 := by
  unfold K sgd
  rw [decide_eq_true h, if_pos rfl]
  have := rung_pos f.fractionBits (N := S.natAbs) (by omega)
  omega

theorem K_zero : K f 0 = 0 := by
  unfold K sgd; simp [rung_zero]

theorem K_abs (S : Int) : -(f.infRung : Int) ≤ K f S ∧ K f S ≤ f.infRung := by
  unfold K sgd
  split <;> omega

end
end Go.Proofs.Qxb6615710a.Round
