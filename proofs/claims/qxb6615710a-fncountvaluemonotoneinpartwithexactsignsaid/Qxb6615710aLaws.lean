/-
  PLAIN LAWS AT float64: 'float64(n)' at |n| up to 2^53, '-x', 'int64(x)', and what the two laws want of '+', '-' and the comparisons. No walk here.
-/
import Derived.Test.Qxb6615710aWords
import Derived.Laws.FloatArith
namespace Go.Proofs.Qxb6615710a.Round
open Ieee

/-- How far below one the least place of float64 lies. -/
def pl : Nat := 1074
/-- One, in units of the least place of float64. -/
def U : Nat := 2 ^ pl
/-- 2^54 ones. -/
def cap : Nat := 2 ^ 54 * U

theorem U_pos : 0 < U := Nat.two_pow_pos pl
theorem hbD : double.binade ≤ double.infRung := by decide +kernel
theorem hID : 0 < double.infRung := by decide +kernel
theorem leastD : double.leastPlace = -(pl : Int) := by decide +kernel
theorem fracD : double.fractionBits = 52 := rfl

theorem exact_of {p m k : Nat} (h : m ≤ 2 ^ (p + 1)) : 2 ^ ((m * 2 ^ k).log2 - p) ∣ m * 2 ^ k := by
  by_cases h0 : m = 0
  · subst h0; simp
  · rw [log2_mul_pow h0]
    by_cases h1 : m = 2 ^ (p + 1)
    · rw [h1, Nat.log2_two_pow, ← Nat.pow_add]
      exact Nat.pow_dvd_pow 2 (by omega)
    · have h2 : m.log2 < p + 1 := (Nat.log2_lt h0).2 (by omega)
      exact Nat.dvd_trans (Nat.pow_dvd_pow 2 (by omega)) (Nat.dvd_mul_left ..)

theorem rung_pow (p d : Nat) : rung p (2 ^ (p + d)) = (d + 1) * 2 ^ p := by
  unfold rung
  rw [Nat.log2_two_pow, Nat.add_sub_cancel_left, Nat.pow_add, rhe_mul, Nat.add_mul, Nat.one_mul]

/-- Up to 2^54 ones a magnitude rounds below infinity. -/
theorem rung_fin {N : Nat} (h : N ≤ cap) : rung double.fractionBits N < double.infRung := by
  have h1 := rung_mono 52 h
  have h2 : cap = 2 ^ (52 + (2 + pl)) := by
    unfold cap U
    rw [← Nat.pow_add]; congr 1
  rw [h2, rung_pow] at h1
  have h3 : (2 + pl + 1) * 2 ^ 52 < double.infRung := by decide +kernel
  exact Nat.lt_of_le_of_lt h1 h3

theorem word_key (s : Bool) {r : Nat} (h : r < double.signWeight) : key double (double.word s r) = sgd s r := by
  unfold key
  rw [word_rg double s h, word_ng double s h]

theorem sgd_self (n : Int) (c : Nat) : sgd (decide (n < 0)) (n.natAbs * c) = n * c := by
  unfold sgd
  by_cases h : n < 0
  · rw [decide_eq_true h, if_pos rfl]
    have : (n.natAbs : Int) = -n := by omega
    rw [Int.natCast_mul, this, Int.neg_mul, Int.neg_neg]
  · rw [decide_eq_false h, if_neg (by simp)]
    have : (n.natAbs : Int) = n := by omega
    rw [Int.natCast_mul, this]

theorem nearest_int (n : Int) : floatOfInt .f64 n = double.word (decide (n < 0)) (min (rung double.fractionBits (n.natAbs * U)) double.infRung) := by
  have h := nearest_eq double (decide (n < 0)) n.natAbs pl
  have e : double.leastPlace + (pl : Int) = 0 := by rw [leastD]; omega
  rw [e] at h
  exact h

theorem mul_neg_iff (n : Int) {c : Nat} (h : 0 < c) : n * (c : Int) < 0 ↔ n < 0 := by
  have := Int.mul_lt_mul_right (a := (c : Int)) (b := n) (c := 0) (by omega)
  rwa [Int.zero_mul] at this

theorem key_int (n : Int) : key double (floatOfInt .f64 n) = K double (n * U) := by
  rw [nearest_int]
  have hlt : min (rung double.fractionBits (n.natAbs * U)) double.infRung < double.signWeight := Nat.lt_of_le_of_lt (Nat.min_le_right ..) (infRung_lt' double)
  rw [word_key _ hlt]
  unfold K
  rw [Int.natAbs_mul, Int.natAbs_natCast]
  simp only [mul_neg_iff n U_pos]

theorem key_abs (x : Nat) : (key double x).natAbs = rg double x := sgd_natAbs _ _

/-- Where the exact number fits, the word stands for it. -/
theorem V_of_key {z : Nat} {S : Int} (hk : key double z = K double S) (hf : rung double.fractionBits S.natAbs < double.infRung)
    (he : 2 ^ (S.natAbs.log2 - double.fractionBits) ∣ S.natAbs) : V double z = S ∧ rg double z < double.infRung := by
  have hr : rg double z = rung double.fractionBits S.natAbs := by
    rw [← key_abs, hk]
    unfold K
    rw [sgd_natAbs, Nat.min_eq_left (Nat.le_of_lt hf)]
  refine ⟨?_, by rw [hr]; exact hf⟩
  have hv := val_rung double.fractionBits he
  by_cases h0 : S = 0
  · subst h0
    unfold V
    rw [hr]
    simp [rung_zero, val_zero, sgd]
  · have hp : 0 < rung double.fractionBits S.natAbs := rung_pos _ (by omega)
    unfold V
    rw [hr, hv]
    unfold key K at hk
    rw [hr, Nat.min_eq_left (Nat.le_of_lt hf)] at hk
    unfold sgd at hk ⊢
    by_cases hs : S < 0
    · rw [decide_eq_true hs, if_pos rfl] at hk
      cases hg : ng double z
      · rw [hg] at hk; simp at hk; omega
      · simp; omega
    · rw [decide_eq_false hs] at hk
      cases hg : ng double z
      · simp only [Bool.false_eq_true, if_false]; omega
      · rw [hg, if_pos rfl, if_neg (by simp)] at hk; omega

theorem U_le {n : Nat} (h : n ≤ 2 ^ 54) : n * U ≤ cap := Nat.mul_le_mul_right _ h

/-- 'float64(n)' at |n| up to 2^53 is n. -/
theorem V_int {n : Int} (h1 : -9007199254740992 ≤ n) (h2 : n ≤ 9007199254740992) : V double (floatOfInt .f64 n) = n * U ∧ rg double (floatOfInt .f64 n) < double.infRung := by
  have hn : n.natAbs ≤ 2 ^ (52 + 1) := by
    have : (2 : Nat) ^ (52 + 1) = 9007199254740992 := by decide +kernel
    omega
  have e : (n * (U : Int)).natAbs = n.natAbs * U := by rw [Int.natAbs_mul, Int.natAbs_natCast]
  refine V_of_key (key_int n) ?_ ?_
  · rw [e]
    refine rung_fin (U_le (Nat.le_trans hn ?_))
    decide +kernel
  · rw [e]
    exact exact_of hn

theorem neg_rg (x : Nat) : rg double (Op.negFloat .f64 x) = rg double x := by
  have hs : double.signWeight = 2 ^ 63 := rfl
  have hn : Op.negFloat .f64 x = x ^^^ 2 ^ 63 := rfl
  unfold rg
  rw [hs, hn, Nat.xor_mod_two_pow, Nat.mod_self, Nat.xor_zero]

theorem neg_ng (x : Nat) : ng double (Op.negFloat .f64 x) = !ng double x := by
  have hs : double.signWeight = 2 ^ 63 := rfl
  have hn : Op.negFloat .f64 x = x ^^^ 2 ^ 63 := rfl
  have hp : 0 < 2 ^ 63 := Nat.two_pow_pos 63
  unfold ng
  rw [hs, hn, Nat.xor_div_two_pow, Nat.div_self hp]
  generalize x / 2 ^ 63 = y
  have h : (y ^^^ 1) % 2 = (y % 2) ^^^ (1 % 2) := Nat.xor_mod_two_pow (n := 1)
  rw [h]
  have : y % 2 = 0 ∨ y % 2 = 1 := by omega
  rcases this with h | h <;> rw [h] <;> rfl

theorem sgd_not (s : Bool) (n : Nat) : sgd (!s) n = -sgd s n := by
  unfold sgd; cases s <;> simp

theorem neg_V (x : Nat) : V double (Op.negFloat .f64 x) = -V double x := by
  unfold V; rw [neg_rg, neg_ng, sgd_not]

/-! ### The comparisons, at words that are no NaN -/

theorem compare_lt {a b : Int} : compare a b = .lt ↔ a < b := by
  simp only [compare, compareOfLessAndEq]
  split
  · simp; omega
  · split <;> simp <;> omega
theorem compare_eq {a b : Int} : compare a b = .eq ↔ a = b := by
  simp only [compare, compareOfLessAndEq]
  split
  · simp; omega
  · split <;> simp <;> omega
theorem compare_gt {a b : Int} : compare a b = .gt ↔ b < a := by
  simp only [compare, compareOfLessAndEq]
  split
  · simp; omega
  · split <;> simp <;> omega

def Num (x : Nat) : Prop := rg double x ≤ double.infRung
def Fin (x : Nat) : Prop := rg double x < double.infRung
theorem Fin.num {x : Nat} (h : Fin x) : Num x := Nat.le_of_lt h

theorem num_of_K {z : Nat} {S : Int} (h : key double z = K double S) : Num z := by
  unfold Num
  rw [← key_abs, h]
  have := K_abs double S
  omega

theorem num_of_self {x : Nat} (h : (FloatKind.f64.format.order x x != some .eq) = false) : Num x := by
  unfold Num
  refine Nat.le_of_not_lt fun hlt => ?_
  have e : FloatKind.f64.format.order x x = none := order_nan double hbD hlt x
  rw [e] at h
  exact absurd h (by decide)

theorem ord {x y : Nat} (hx : Num x) (hy : Num y) : FloatKind.f64.format.order x y = some (compare (key double x) (key double y)) := order_key double hbD hx hy
theorem ordV {x y : Nat} (hx : Fin x) (hy : Fin y) : FloatKind.f64.format.order x y = some (compare (V double x) (V double y)) := order_fin double hx hy

theorem num_zero : Num 0 := by unfold Num rg; rw [Nat.zero_mod]; exact Nat.zero_le _
theorem fin_zero : Fin 0 := by unfold Fin rg; rw [Nat.zero_mod]; exact hID
theorem key_zero : key double 0 = 0 := by decide +kernel
theorem V_zero : V double 0 = 0 := by decide +kernel

def hi : Nat := 4845873199050653696
def lo : Nat := 14069245235905429504
theorem hi_fin : Fin hi := by unfold Fin; decide +kernel
theorem lo_fin : Fin lo := by unfold Fin; decide +kernel
theorem hi_V : V double hi = 9007199254740992 * U := by decide +kernel
theorem lo_V : V double lo = -(9007199254740992 * U) := by decide +kernel
theorem hi_key : key double hi < double.infRung := by decide +kernel
theorem lo_key : -(double.infRung : Int) < key double lo := by decide +kernel

/-- The sign as zzSignOf tells it. -/
def sgnOf (v : Nat) : Int := if FloatKind.f64.format.order v 0 == some .gt then 1 else if FloatKind.f64.format.order v 0 == some .lt then -1 else 0
/-- The sign as zzExactSign tells it. -/
def exSgn (n : Int) (part : Nat) : Int :=
  if FloatKind.f64.format.order part (Op.negFloat .f64 (floatOfInt .f64 n)) == some .gt then 1
  else if FloatKind.f64.format.order part (Op.negFloat .f64 (floatOfInt .f64 n)) == some .lt then -1 else 0

theorem some_beq (a b : Ordering) : (some a == some b) = (a == b) := by cases a <;> cases b <;> rfl

theorem sgnOf_eq {v : Nat} (h : Num v) : sgnOf v = if 0 < key double v then 1 else if key double v < 0 then -1 else 0 := by
  unfold sgnOf
  rw [ord h num_zero, key_zero, some_beq, some_beq]
  simp only [beq_iff_eq, compare_gt, compare_lt]

theorem exSgn_fin {n : Int} {part : Nat} (h1 : -9007199254740992 ≤ n) (h2 : n ≤ 9007199254740992) (h : Fin part) :
    exSgn n part = if 0 < n * U + V double part then 1 else if n * U + V double part < 0 then -1 else 0 := by
  obtain ⟨hv, hf⟩ := V_int h1 h2
  have hnf : Fin (Op.negFloat .f64 (floatOfInt .f64 n)) := by unfold Fin; rw [neg_rg]; exact hf
  unfold exSgn
  rw [ordV h hnf, neg_V, hv, some_beq, some_beq]
  simp only [beq_iff_eq, compare_gt, compare_lt]
  generalize n * (U : Int) = a
  generalize V double part = b
  have e1 : -a < b ↔ 0 < a + b := by omega
  have e2 : b < -a ↔ a + b < 0 := by omega
  simp only [e1, e2]

theorem exSgn_inf {n : Int} {part : Nat} (h1 : -9007199254740992 ≤ n) (h2 : n ≤ 9007199254740992) (hn : Num part) (h : ¬ Fin part) :
    exSgn n part = if 0 < key double part then 1 else if key double part < 0 then -1 else 0 := by
  obtain ⟨hv, hf⟩ := V_int h1 h2
  have hnf : Fin (Op.negFloat .f64 (floatOfInt .f64 n)) := by unfold Fin; rw [neg_rg]; exact hf
  unfold exSgn
  rw [ord hn hnf.num, some_beq, some_beq]
  simp only [beq_iff_eq, compare_gt, compare_lt]
  have k1 := key_abs part
  have k2 := key_abs (Op.negFloat .f64 (floatOfInt .f64 n))
  have hI := hID
  unfold Fin at h hnf
  unfold Num at hn
  rw [← k1] at h hn
  rw [← k2] at hnf
  generalize key double part = a at *
  generalize key double (Op.negFloat .f64 (floatOfInt .f64 n)) = b at *
  generalize double.infRung = c at *
  have e1 : b < a ↔ 0 < a := by omega
  have e2 : a < b ↔ a < 0 := by omega
  simp only [e1, e2]

/-- 'float64(n) + part', part finite: its key; and its sign is that of the exact sum. -/
theorem sum_fin64 {n : Int} {part : Nat} (h1 : -9007199254740992 ≤ n) (h2 : n ≤ 9007199254740992) (h : Fin part) :
    ∃ v, floatBits .add .f64 (floatOfInt .f64 n) part = some v ∧ key double v = K double (n * U + V double part) ∧ Num v ∧ sgnOf v = exSgn n part := by
  obtain ⟨hv, hf⟩ := V_int h1 h2
  obtain ⟨z, hz, hk, _⟩ := add_fin double hf h
  rw [hv] at hk
  have hn := num_of_K hk
  refine ⟨z, hz, hk, hn, ?_⟩
  rw [sgnOf_eq hn, exSgn_fin h1 h2 h, hk]
  have p1 := fun h => K_pos double hID (S := n * U + V double part) h
  have p2 := fun h => K_neg double hID (S := n * U + V double part) h
  have p3 : n * U + V double part = 0 → K double (n * U + V double part) = 0 := fun h => by rw [h]; exact K_zero double
  generalize n * (U : Int) + V double part = S at *
  generalize K double S = k at *
  have e1 : 0 < k ↔ 0 < S := by omega
  have e2 : k < 0 ↔ S < 0 := by omega
  simp only [e1, e2]

/-- 'float64(n) + part', part infinite: it is part. -/
theorem sum_inf64 {n : Int} {part : Nat} (h1 : -9007199254740992 ≤ n) (h2 : n ≤ 9007199254740992) (hn : Num part) (h : ¬ Fin part) :
    ∃ v, floatBits .add .f64 (floatOfInt .f64 n) part = some v ∧ key double v = key double part ∧ Num v ∧ sgnOf v = exSgn n part := by
  obtain ⟨hv, hf⟩ := V_int h1 h2
  have hr : rg double part = double.infRung := by unfold Fin at h; unfold Num at hn; omega
  obtain ⟨m, k, ex, _, _⟩ := read_finite double hf
  have ey := read_inf double hbD hr
  refine ⟨double.word (ng double part) double.infRung, ?_, ?_, ?_, ?_⟩
  · show double.add _ _ = _
    unfold Format.add
    rw [ex, ey]
    rfl
  · rw [word_key _ (infRung_lt' double)]
    unfold key; rw [hr]
  · unfold Num; rw [word_rg _ _ (infRung_lt' double)]; exact Nat.le_refl _
  · rw [sgnOf_eq (by unfold Num; rw [word_rg _ _ (infRung_lt' double)]; exact Nat.le_refl _), exSgn_inf h1 h2 hn h, word_key _ (infRung_lt' double)]
    have : key double part = sgd (ng double part) double.infRung := by unfold key; rw [hr]
    rw [this]

theorem leq_of {x y : Nat} (hx : Num x) (hy : Num y) : (FloatKind.f64.format.order x y == some .lt || FloatKind.f64.format.order x y == some .eq) = decide (key double x ≤ key double y) := by
  rw [ord hx hy, some_beq, some_beq, Bool.eq_iff_iff]
  simp only [Bool.or_eq_true, beq_iff_eq, compare_lt, compare_eq, decide_eq_true_eq]
  omega

/-! ### THE SECOND LAW: a greater part never gives a smaller value -/
theorem monotone {n : Int} {p1 p2 v1 v2 : Nat} (h1 : -9007199254740992 ≤ n) (h2 : n ≤ 9007199254740992) (n1 : Num p1) (n2 : Num p2)
    (e1 : floatBits .add .f64 (floatOfInt .f64 n) p1 = some v1) (e2 : floatBits .add .f64 (floatOfInt .f64 n) p2 = some v2)
    (hle : (FloatKind.f64.format.order p1 p2 == some .lt || FloatKind.f64.format.order p1 p2 == some .eq) = true) :
    (FloatKind.f64.format.order v1 v2 == some .lt || FloatKind.f64.format.order v1 v2 == some .eq) = true := by
  have key1 := key_abs p1
  have key2 := key_abs p2
  rw [leq_of n1 n2, decide_eq_true_eq] at hle
  by_cases f1 : Fin p1
  · obtain ⟨z1, a1, k1, m1, _⟩ := sum_fin64 h1 h2 f1
    rw [e1] at a1; cases a1
    by_cases f2 : Fin p2
    · obtain ⟨z2, a2, k2, m2, _⟩ := sum_fin64 h1 h2 f2
      rw [e2] at a2; cases a2
      rw [leq_of m1 m2, decide_eq_true_eq, k1, k2]
      refine K_mono double ?_
      have hV : V double p1 ≤ V double p2 := by
        have e := sgd_lt double (ng double p2) (ng double p1) (rg double p2) (rg double p1)
        unfold key at hle
        unfold V
        omega
      omega
    · obtain ⟨z2, a2, k2, m2, _⟩ := sum_inf64 h1 h2 n2 f2
      rw [e2] at a2; cases a2
      rw [leq_of m1 m2, decide_eq_true_eq, k1, k2]
      have := (K_abs double (n * U + V double p1)).2
      unfold Fin at f1 f2
      unfold Num at n1 n2
      omega
  · obtain ⟨z1, a1, k1, m1, _⟩ := sum_inf64 h1 h2 n1 f1
    rw [e1] at a1; cases a1
    by_cases f2 : Fin p2
    · obtain ⟨z2, a2, k2, m2, _⟩ := sum_fin64 h1 h2 f2
      rw [e2] at a2; cases a2
      rw [leq_of m1 m2, decide_eq_true_eq, k1, k2]
      have := (K_abs double (n * U + V double p2)).1
      unfold Fin at f1 f2
      unfold Num at n1 n2
      omega
    · obtain ⟨z2, a2, k2, m2, _⟩ := sum_inf64 h1 h2 n2 f2
      rw [e2] at a2; cases a2
      rw [leq_of m1 m2, decide_eq_true_eq, k1, k2]
      exact hle

/-- The value and its sign, whatever the part. -/
theorem value_any {n : Int} {part : Nat} (h1 : -9007199254740992 ≤ n) (h2 : n ≤ 9007199254740992) (hn : Num part) :
    ∃ v, floatBits .add .f64 (floatOfInt .f64 n) part = some v ∧ sgnOf v = exSgn n part := by
  by_cases f : Fin part
  · obtain ⟨v, a, _, _, b⟩ := sum_fin64 h1 h2 f; exact ⟨v, a, b⟩
  · obtain ⟨v, a, _, _, b⟩ := sum_inf64 h1 h2 hn f; exact ⟨v, a, b⟩

/-! ### THE FIRST LAW: the whole part moved -/
theorem fin_of_between {part : Nat} (hn : Num part) (hl : (FloatKind.f64.format.order part lo == some .lt) = false) (hh : (FloatKind.f64.format.order part hi == some .gt) = false) :
    Fin part ∧ -(9007199254740992 * (U : Int)) ≤ V double part ∧ V double part ≤ 9007199254740992 * U := by
  have hl' := hl
  have hh' := hh
  rw [ord hn lo_fin.num, some_beq, beq_eq_false_iff_ne, ne_eq, compare_lt] at hl
  rw [ord hn hi_fin.num, some_beq, beq_eq_false_iff_ne, ne_eq, compare_gt] at hh
  have k1 := key_abs part
  have c1 := hi_key
  have c2 := lo_key
  have hf : Fin part := by
    unfold Fin
    unfold Num at hn
    omega
  rw [ordV hf lo_fin, some_beq, beq_eq_false_iff_ne, ne_eq, compare_lt, lo_V] at hl'
  rw [ordV hf hi_fin, some_beq, beq_eq_false_iff_ne, ne_eq, compare_gt, hi_V] at hh'
  exact ⟨hf, by omega, by omega⟩

theorem split_pow {p k : Nat} (h : k ≤ p) : 2 ^ p = 2 ^ (p - k) * 2 ^ k := by
  rw [← Nat.pow_add, Nat.sub_add_cancel h]

theorem div_le_of {a b c : Nat} (h : 0 < c) (hh : a ≤ b * c) : a / c ≤ b := by
  have := Nat.div_le_div_right (c := c) hh
  rwa [Nat.mul_div_cancel _ h] at this

theorem int_of {part : Nat} (hf : Fin part) (hl : -(9007199254740992 * (U : Int)) ≤ V double part) (hh : V double part ≤ 9007199254740992 * U) :
    ∃ q : Int, floatToIntVal .f64 part .i64 = some q ∧ -9007199254740992 ≤ q ∧ q ≤ 9007199254740992
      ∧ 2 ^ ((V double part - q * U).natAbs.log2 - double.fractionBits) ∣ (V double part - q * U).natAbs ∧ (V double part - q * U).natAbs ≤ cap := by
  obtain ⟨m, k, ex, hv, hm⟩ := read_finite double hf
  have hU := U_pos
  have hVs : V double part = sgd (ng double part) (m * 2 ^ k) := by unfold V; rw [hv]
  have habs : m * 2 ^ k ≤ 9007199254740992 * U := by
    have : (V double part).natAbs = m * 2 ^ k := by rw [hVs, sgd_natAbs]
    omega
  have hM : m * 2 ^ k / U ≤ 9007199254740992 := by
    exact div_le_of hU habs
  have hint : (FloatKind.f64.decode part).toInt .zero = some (sgd (ng double part) (m * 2 ^ k / U)) := by
    have hd : FloatKind.f64.decode part = double.read part := rfl
    rw [hd, ex]
    unfold Datum.toInt Datum.integral
    simp only
    rw [cut_zero, signed_eq, Nat.pow_zero, Nat.mul_one, leastD, Nat.shiftLeft_eq]
    have e1 : (-(pl : Int) + (k : Int)).toNat = k - pl := by omega
    have e2 : (-(-(pl : Int) + (k : Int))).toNat = pl - k := by omega
    rw [e1, e2]
    refine congrArg (fun z => some (sgd (ng double part) z)) ?_
    unfold U
    by_cases hk : pl ≤ k
    · rw [Nat.sub_eq_zero_of_le hk, Nat.pow_zero, Nat.div_one]
      have : m * 2 ^ k = m * 2 ^ (k - pl) * 2 ^ pl := by
        rw [Nat.mul_assoc, ← split_pow hk]
      rw [this, Nat.mul_div_cancel _ (Nat.two_pow_pos _)]
    · have h0 : k - pl = 0 := by omega
      rw [h0, Nat.pow_zero, Nat.mul_one]
      have : (2 : Nat) ^ pl = 2 ^ (pl - k) * 2 ^ k := split_pow (by omega)
      rw [this, Nat.mul_div_mul_right _ _ (Nat.two_pow_pos _)]
  have hb : -9007199254740992 ≤ sgd (ng double part) (m * 2 ^ k / U) ∧ sgd (ng double part) (m * 2 ^ k / U) ≤ 9007199254740992 := by
    generalize m * 2 ^ k / U = a at *
    unfold sgd
    split <;> omega
  refine ⟨sgd (ng double part) (m * 2 ^ k / U), ?_, hb.1, hb.2, ?_⟩
  · unfold floatToIntVal
    rw [hint]
    simp only
    rw [if_pos]
    have e1 : IntKind.i64.min = -9223372036854775808 := by decide +kernel
    have e2 : IntKind.i64.max = 9223372036854775807 := by decide +kernel
    omega
  · have hrest : (V double part - sgd (ng double part) (m * 2 ^ k / U) * U).natAbs = m * 2 ^ k % U := by
      have hdm := Nat.div_add_mod (m * 2 ^ k) U
      rw [Nat.mul_comm U] at hdm
      rw [hVs, ← sgd_mul]
      generalize m * 2 ^ k / U * U = a at *
      generalize m * 2 ^ k % U = b at *
      unfold sgd
      split <;> omega
    rw [hrest]
    constructor
    · unfold U
      by_cases hk : pl ≤ k
      · have : m * 2 ^ k = m * 2 ^ (k - pl) * 2 ^ pl := by
          rw [Nat.mul_assoc, ← split_pow hk]
        rw [this, Nat.mul_mod_left]
        simp
      · have : (2 : Nat) ^ pl = 2 ^ (pl - k) * 2 ^ k := split_pow (by omega)
        rw [this, Nat.mul_mod_mul_right]
        refine exact_of (p := double.fractionBits) ?_
        have h1 : m % 2 ^ (pl - k) ≤ m := Nat.mod_le _ _
        omega
    · have h1 := Nat.mod_lt (m * 2 ^ k) hU
      have h2 : 1 * U ≤ cap := U_le (by decide +kernel)
      omega

theorem carry {n q : Int} {part : Nat} (h1 : -9007199254740992 ≤ n) (h2 : n ≤ 9007199254740992) (hf : Fin part)
    (q1 : -9007199254740992 ≤ q) (q2 : q ≤ 9007199254740992)
    (hd : 2 ^ ((V double part - q * U).natAbs.log2 - double.fractionBits) ∣ (V double part - q * U).natAbs) (hs : (V double part - q * U).natAbs ≤ cap)
    (m1 : -9007199254740992 ≤ n + q) (m2 : n + q ≤ 9007199254740992) :
    ∃ rest v1 v2 : Nat, floatBits .sub .f64 part (floatOfInt .f64 q) = some rest ∧ floatBits .add .f64 (floatOfInt .f64 n) part = some v1
      ∧ floatBits .add .f64 (floatOfInt .f64 (n + q)) rest = some v2 ∧ (FloatKind.f64.format.order v1 v2 == some .eq) = true ∧ sgnOf v1 = exSgn n part
      ∧ ((FloatKind.f64.format.order rest 0 == some .eq) = true → (FloatKind.f64.format.order v1 (floatOfInt .f64 (n + q)) == some .eq) = true) := by
  obtain ⟨hqv, hqf⟩ := V_int q1 q2
  obtain ⟨hmv, hmf⟩ := V_int m1 m2
  obtain ⟨rest, hr, hrk, _⟩ := sub_fin double hf hqf
  rw [hqv] at hrk
  obtain ⟨hrv, hrf⟩ := V_of_key hrk (rung_fin hs) hd
  obtain ⟨v1, e1, k1, n1, s1⟩ := sum_fin64 h1 h2 hf
  obtain ⟨v2, e2, k2, n2, _⟩ := sum_fin64 m1 m2 hrf
  have hS : (n + q) * (U : Int) + V double rest = n * U + V double part := by
    rw [hrv, Int.add_mul]; omega
  refine ⟨rest, v1, v2, hr, e1, e2, ?_, s1, ?_⟩
  · rw [ord n1 n2, some_beq, beq_iff_eq, compare_eq, k1, k2, hS]
  · intro h0
    rw [ordV hrf fin_zero, some_beq, beq_iff_eq, compare_eq, V_zero] at h0
    rw [ord n1 (Fin.num hmf), some_beq, beq_iff_eq, compare_eq, k1, key_int, ← hS, h0, Int.add_zero]

end Go.Proofs.Qxb6615710a.Round
