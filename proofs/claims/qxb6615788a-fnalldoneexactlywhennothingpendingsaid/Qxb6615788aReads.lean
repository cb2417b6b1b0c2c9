import Derived.Test.Qxb6615788aBase
namespace Go.Proofs.Qxb6615788a
open Go.RowKit

/-- What the walk is told of a scheduler: block b, its row of processors in block g, the counts. -/
structure Sched (w : World) (b g n : Nat) (h : Int) (xs ys : List Int) : Prop where
  procs : w.cell? ⟨b, 0, none⟩ = some (.slice (some ⟨g, 0, none⟩) n n)
  handed : w.cell? ⟨b, 1, none⟩ = some (.int .u64 h)
  at_ : ∀ i, i < n → ∃ p, w.cell? ⟨g, i, none⟩ = some (.pointer (some ⟨p, 0, none⟩)) ∧ w.cell? ⟨p, 651, none⟩ = some (.int .u64 (ys.getD i 0)) ∧ w.cell? ⟨p, 653, none⟩ = some (.int .u64 (xs.getD i 0))

def acc (h : Int) (xs : List Int) : Nat → Int
  | 0 => h
  | k + 1 => IntKind.u64.wrap (acc h xs k + xs.getD k 0)

set_option maxHeartbeats 400000 in
theorem started_any (b g n : Nat) (h : Int) (xs ys : List Int) (w : World) (hs : Sched w b g n h xs ys) (hn : n ≤ 65536) :
    Calls Try.prog 13 #[.pointer (some ⟨b, 0, none⟩)] w fun e w' => e = .returned (.int .u64 (acc h xs n)) ∧ w' = w := by
  have h1 := hs.procs
  have h2 := hs.handed
  go_enter Try.func13, Try.ntmps13
  go_wp2_with (go_at_call 12; refine (load_any _ _ _ _ (by assumption)).mono ?_; rintro e w' ⟨rfl, rfl⟩)
  go_loop [3, 15] (fun t i => ∃ k : Nat, k ≤ n ∧ i = .int .i64 k ∧ t = .int .u64 (acc h xs k)) (fun _ i => n - (intOf i).toNat)
  case atStart => exact ⟨0, Nat.zero_le _, rfl, rfl⟩
  case round =>
    obtain ⟨k, hk, rfl, rfl⟩ := hrel
    by_cases hlt : k < n
    · obtain ⟨p, c1, c2, c3⟩ := hs.at_ k hlt
      go_wp2_with (go_at_call 12; refine (load_any _ _ _ _ c3).mono ?_; rintro e w' ⟨rfl, rfl⟩)
      go_round
      case rel => exact ⟨k + 1, by omega, by go_num, by simp [acc]⟩
      case measure => simp [intOf]; omega
    · have hkn : k = n := by omega
      subst hkn
      go_wp2
      go_ret
      exact ⟨rfl, rfl⟩

set_option maxHeartbeats 400000 in
theorem allDone_any (b g n : Nat) (h : Int) (xs ys : List Int) (w : World) (hs : Sched w b g n h xs ys) (hn : n ≤ 65536) :
    Calls Try.prog 10 #[.pointer (some ⟨b, 0, none⟩)] w fun e w' => e = .returned (.bool (acc 0 ys n == acc h xs n)) ∧ w' = w := by
  have h1 := hs.procs
  go_enter Try.func10, Try.ntmps10
  go_wp2_with fail
  go_loop [3, 11] (fun t i => ∃ k : Nat, k ≤ n ∧ i = .int .i64 k ∧ t = .int .u64 (acc 0 ys k)) (fun _ i => n - (intOf i).toNat)
  case atStart => exact ⟨0, Nat.zero_le _, rfl, rfl⟩
  case round =>
    obtain ⟨k, hk, rfl, rfl⟩ := hrel
    by_cases hlt : k < n
    · obtain ⟨p, c1, c2, c3⟩ := hs.at_ k hlt
      go_wp2_with (go_at_call 12; refine (load_any _ _ _ _ c2).mono ?_; rintro e w' ⟨rfl, rfl⟩)
      go_round
      case rel => exact ⟨k + 1, by omega, by go_num, by simp [acc]⟩
      case measure => simp [intOf]; omega
    · have hkn : k = n := by omega
      subst hkn
      go_wp2_with (go_at_call 13; refine (started_any b g _ h xs ys _ hs hn).mono ?_; rintro e w' ⟨rfl, rfl⟩)
      go_ret
      exact ⟨rfl, rfl⟩

set_option maxHeartbeats 400000 in
theorem zzAllDone_any (b g n : Nat) (h : Int) (xs ys : List Int) (w : World) (hs : Sched w b g n h xs ys) (hn : n ≤ 65536) :
    Calls Try.prog 7 #[.pointer (some ⟨b, 0, none⟩)] w fun e w' => e = .returned (.bool (acc 0 ys n == acc h xs n)) ∧ w' = w := by
  go_enter Try.func7, Try.ntmps7
  go_wp2_with (go_at_call 10; refine (allDone_any b g n h xs ys _ hs hn).mono ?_; rintro e w' ⟨rfl, rfl⟩)
  go_ret
  exact ⟨rfl, rfl⟩

set_option maxHeartbeats 400000 in
theorem bytes_any (h j : Int) (a1 a2 : Option Addr) (n1 c1 n2 c2 : Nat) (w : World) (hn1 : n1 ≤ maxLen) (hn2 : n2 ≤ maxLen) :
    Calls Try.prog 5 #[.int .u64 h, .slice a1 n1 c1, .slice a2 n2 c2, .int .i64 j] w fun e w' => e = .returned (.bool (decide (n1 + n2 ≤ 1048576))) ∧ w' = w := by
  unfold maxLen at hn1 hn2
  by_cases t1 : n1 ≤ 1048576
  · by_cases t2 : n2 ≤ 1048576
    · by_cases t3 : n1 + n2 ≤ 1048576
      all_goals
        go_enter Try.func5, Try.ntmps5
        go_wp2
        go_ret
        simp [t3]
    · go_enter Try.func5, Try.ntmps5
      go_wp2
      go_ret
      simp; omega
  · go_enter Try.func5, Try.ntmps5
    go_wp2
    go_ret
    simp; omega

/-- What zzCountTotals gives: where it says ok, the exact totals. -/
def Totals (h : Int) (xs ys : List Int) (n : Nat) (e : Ending) : Prop :=
  ∃ s f ok, e = .returned (.tuple #[.int .u64 s, .int .u64 f, .bool ok]) ∧ (ok = true → s = h + (xs.take n).sum ∧ f = (ys.take n).sum ∧ s ≤ 18446744073709551615 ∧ f ≤ s)

theorem take_sum (xs : List Int) (k : Nat) : (xs.take (k + 1)).sum = (xs.take k).sum + xs.getD k 0 := by
  by_cases h : k < xs.length
  · rw [List.take_succ_eq_append_getElem h, List.sum_append]; simp [h]
  · rw [List.take_of_length_le (by omega), List.take_of_length_le (by omega)]; simp [h]

theorem u64_id {a : Int} (h0 : 0 ≤ a) (h1 : a ≤ 18446744073709551615) : IntKind.u64.wrap a = a := by
  rw [IntKind.wrap_u64]; omega

set_option maxHeartbeats 1000000 in
theorem totals_any (g1 g2 n : Nat) (h : Int) (xs ys : List Int) (w : World) (hn : n ≤ 65536)
    (hx : ∀ i, i < n → w.cell? ⟨g1, i, none⟩ = some (.int .u64 (xs.getD i 0)) ∧ 0 ≤ xs.getD i 0 ∧ xs.getD i 0 ≤ 18446744073709551615)
    (hy : ∀ i, i < n → w.cell? ⟨g2, i, none⟩ = some (.int .u64 (ys.getD i 0)) ∧ 0 ≤ ys.getD i 0 ∧ ys.getD i 0 ≤ 18446744073709551615)
    (h0 : 0 ≤ h) (h1 : h ≤ 18446744073709551615) :
    Calls Try.prog 6 #[.int .u64 h, .slice (some ⟨g1, 0, none⟩) n n, .slice (some ⟨g2, 0, none⟩) n n] w fun e w' => Totals h xs ys n e ∧ w' = w := by
  have HX := hide hx
  have HY := hide hy
  clear hx hy
  go_enter Try.func6, Try.ntmps6
  go_wp2_with fail
  go_loop [6, 7, 8, 9] (fun t f b i => ∃ k : Nat, k ≤ n ∧ i = .int .i64 k ∧ t = .int .u64 (h + (xs.take k).sum) ∧ f = .int .u64 0 ∧ b = .bool false ∧ 0 ≤ h + (xs.take k).sum ∧ h + (xs.take k).sum ≤ 18446744073709551615) (fun _ _ _ i => n - (intOf i).toNat)
  case atStart => exact ⟨0, Nat.zero_le _, rfl, by simp, rfl, rfl, by simpa using h0, by simpa using h1⟩
  case round =>
    obtain ⟨k, hk, rfl, rfl, rfl, rfl, hlo, hhi⟩ := hrel
    by_cases hlt : k < n
    · obtain ⟨cx, x0, x1⟩ := unhide HX k hlt
      have ts := hide (take_sum xs k)
      generalize xs.getD k 0 = x at *
      generalize (xs.take k).sum = S at *
      go_wp2
      · go_ret3
        exact ⟨⟨_, _, _, rfl, fun h => by cases h⟩, rfl⟩
      · have hle : h + S ≤ 18446744073709551615 - x := by assumption
        go_round
        case rel => exact ⟨k + 1, by omega, by go_num, by rw [unhide ts, Int.add_assoc], rfl, rfl, by rw [unhide ts]; omega, by rw [unhide ts]; omega⟩
        case measure => simp [intOf]; omega
    · have hkn : k = n := by omega
      subst hkn
      generalize hS : (xs.take k).sum = S at *
      have HS := hide hS
      clear hS
      go_wp2_with fail
      go_loop [6, 7, 8, 10] (fun t f b i => ∃ m : Nat, m ≤ k ∧ i = .int .i64 m ∧ t = .int .u64 (h + S) ∧ f = .int .u64 ((ys.take m).sum) ∧ b = .bool false ∧ 0 ≤ (ys.take m).sum ∧ (ys.take m).sum ≤ 18446744073709551615) (fun _ _ _ i => k - (intOf i).toNat)
      case atStart => exact ⟨0, Nat.zero_le _, rfl, rfl, by simp, rfl, by simp, by simp⟩
      case round =>
        obtain ⟨m, hm, rfl, rfl, rfl, rfl, hlo', hhi'⟩ := hrel
        by_cases hlt2 : m < k
        · obtain ⟨cy, y0, y1⟩ := unhide HY m hlt2
          have ts := hide (take_sum ys m)
          generalize ys.getD m 0 = y at *
          generalize (ys.take m).sum = T at *
          go_wp2
          · go_ret3
            exact ⟨⟨_, _, _, rfl, fun h => by cases h⟩, rfl⟩
          · have hle : T ≤ 18446744073709551615 - y := by assumption
            go_round
            case rel => exact ⟨m + 1, by omega, by go_num, rfl, by rw [unhide ts], rfl, by rw [unhide ts]; omega, by rw [unhide ts]; omega⟩
            case measure => simp [intOf]; omega
        · have hmk : m = k := by omega
          subst hmk
          generalize hT : (ys.take m).sum = T at *
          have HT := hide hT
          clear hT
          go_wp2
          go_ret3
          refine ⟨⟨_, _, _, rfl, fun hok => ?_⟩, rfl⟩
          rw [unhide HS, unhide HT]
          exact ⟨rfl, rfl, hhi, by simpa using hok⟩

end Go.Proofs.Qxb6615788a
