/-
  THE LAW's MAIN WAY: both slices of one length, the place among them: rows of its own, the totals, three schedulers.
-/
import Derived.Test.Qxb6615788aNew
import Derived.Laws.CopyOwn
namespace Go.Proofs.Qxb6615788a
open Go.RowKit

/-- Block g is a row of just these numbers. -/
def Row (w : World) (g : Nat) (xs : List Int) : Prop := w.heap[g]? = some (.cells (xs.map (Value.int .u64)).toArray 22 (0, 0))

theorem Row.lt {w : World} {g : Nat} {xs : List Int} (h : Row w g xs) : g < w.heap.size := lt_of_block h
theorem Row.cell {w : World} {g : Nat} {xs : List Int} (h : Row w g xs) (i : Nat) (hi : i < xs.length) : w.cell? ⟨g, i, none⟩ = some (.int .u64 (xs.getD i 0)) := by
  rw [cell_of_row w g i _ 22 (0, 0) h]; simp [hi]
theorem Row.free {w : World} {g : Nat} {xs : List Int} (h : Row w g xs) (i : Nat) : w.frozen? ⟨g, i, none⟩ = false := by
  simp [World.frozen?, show w.heap[g]? = _ from h]
theorem Row.kept {w w' : World} {g : Nat} {xs : List Int} (h : Row w g xs) (hb : Below w.heap.size w w') : Row w' g xs :=
  (hb.block g h.lt).trans h
theorem splice_all {α : Type} (L cs : List α) (h : cs.length = L.length) : splice L 0 cs = cs := by
  simp [splice, h]

theorem Row.of_splice {w : World} {g : Nat} {L : List Value} {xs : List Int} (hl : L.length = xs.length) (h : w.heap[g]? = some (.cells (splice L 0 (xs.map (Value.int .u64))).toArray 22 (0, 0))) : Row w g xs := by
  rw [splice_all _ _ (by simp [hl])] at h; exact h

theorem Row.store {w : World} {g : Nat} {xs : List Int} (h : Row w g xs) (j : Nat) (v : Int) : Row (w.setCell ⟨g, j, none⟩ (.int .u64 v)) g (xs.set j v) := by
  have hh : w.heap[g]? = _ := h
  show (w.setCell _ _).heap[g]? = _
  simp only [World.setCell, Array.getElem?_modify, hh]
  simp

theorem Row.other {w : World} {g : Nat} {xs : List Int} (h : Row w g xs) (b j : Nat) (v : Value) (hne : g ≠ b) : Row (w.setCell ⟨b, j, none⟩ v) g xs :=
  (Below.heap_setCell w ⟨b, j, none⟩ v g hne).trans h
theorem Row.at_add {w : World} {g : Nat} {xs : List Int} (h : Row w g xs) (i : Nat) (hi : i < xs.length) : w.cell? ((⟨g, 0, none⟩ : Addr).add i) = some (.int .u64 (xs.getD i 0)) := by
  have e : (⟨g, 0, none⟩ : Addr).add i = ⟨g, i, none⟩ := by unfold Addr.add; split <;> simp_all
  rw [e]; exact h.cell i hi

/-- 'zzc := make([]uint64, len(xs)); copy(zzc, xs)', at the copy: a row of its own, just xs. -/
theorem wpList_copy_u64 {w : World} {ops : Array Oper} {rest : List Oper} {o : Oper} {a : Act} {Q : Exit → Act → World → Prop} (hgd : o.guard = none) (d s : Operand)
    (ho : o.op = .call { callee := .builtin .copy, args := #[d, s], argTypes := #[23, 23] }) (g n c : Nat) (ad : Addr) (xs : List Int) (lx : xs.length = n)
    (hd : a.eval d = .slice (some ⟨g, 0, none⟩) n n) (hs : a.eval s = .slice (some ad) n c) (w0 : World) (hw : w = w0.alloc (.cells (madeCells #[.int .u64 0] n) 22)) (hg : g = w0.heap.size)
    (hsrc : ∀ i, i < n → w0.cell? (ad.add i) = some (.int .u64 (xs.getD i 0)))
    (h : ∀ w', Row w' g xs → Below w0.heap.size w0 w' → wpList Try.prog ops Q rest (a.put o.dst (goInt n)) w') : wpList Try.prog ops Q (o :: rest) a w := by
  subst hw
  subst hg
  refine wpList_copy_splice hgd d s 23 23 ho 22 Try.underlying23 (by kernel_rfl) _ _ n n n c hd hs w0.heap.size 0 (madeCells #[.int .u64 0] n).toList 22 ?_ (xs.map (Value.int .u64)) ?_ ?_ ?_ ?_ w0.heap.size w0 ?_ (Nat.le_refl _) ?_
  · rw [heap_alloc_new, Array.toArray_toList]
  · simp [lx]
  · intro _
    refine ⟨rfl, ad, rfl, fun j v hv => ?_⟩
    simp only [List.getElem?_map, Option.map_eq_some_iff] at hv
    obtain ⟨x, hx, rfl⟩ := hv
    have hj : j < n := by rw [← lx]; exact (List.getElem?_eq_some_iff.1 hx).1
    have hc := hsrc j hj
    rw [List.getD_eq_getElem?_getD, hx] at hc
    rw [World.cell?_alloc_lt _ _ _ (World.block_lt_of_cell? _ _ hc)]
    exact hc
  · simp [lx, size_madeCells]
  · intro v hv
    simp only [List.mem_map] at hv
    obtain ⟨x, _, rfl⟩ := hv
    rfl
  · exact (Below.refl _ _).alloc (Nat.le_refl _) _
  · intro w' hr hb
    have e : (xs.map (Value.int .u64)).length = n := by simp [lx]
    rw [e]
    exact h w' (Row.of_splice (by simp [lx, size_madeCells]) hr.out) hb

theorem acc_mod (h : Int) (xs : List Int) (h0 : 0 ≤ h) (h1 : h ≤ 18446744073709551615) (k : Nat) : acc h xs k = (h + (xs.take k).sum) % 18446744073709551616 := by
  induction k with
  | zero => simp [acc]; omega
  | succ k ih =>
    rw [acc, IntKind.wrap_u64, ih, take_sum]
    omega

theorem sum_set (ys : List Int) : ∀ (j : Nat) (v : Int), j < ys.length → (ys.set j v).sum = ys.sum - ys.getD j 0 + v := by
  induction ys with
  | nil => intro j v h; simp at h
  | cons y ys ih =>
    intro j v h
    cases j with
    | zero => simp; omega
    | succ j =>
      have := ih j v (by simpa using h)
      simp at this ⊢
      omega

/-- THE PLAIN LAW. -/
theorem plain (h s f : Int) (xs ys : List Int) (n j : Nat) (lx : xs.length = n) (ly : ys.length = n) (hj : j < n) (h0 : 0 ≤ h) (h1 : h ≤ 18446744073709551614)
    (hs : s = h + (xs.take n).sum) (hf : f = (ys.take n).sum) (hsm : s ≤ 18446744073709551614) (hfs : f ≤ s) (hf0 : 0 ≤ f) (hs0 : 0 ≤ s) :
    (acc 0 ys n == acc h xs n) = (s - f == 0) ∧ (acc 0 (ys.set j (IntKind.u64.wrap (ys.getD j 0 + (s - f)))) n == acc h xs n) = true ∧ (acc 0 ys n == acc (h + 1) xs n) = false := by
  have a1 := acc_mod h xs h0 (by omega) n
  have a2 := acc_mod 0 ys (by omega) (by omega) n
  have a3 := acc_mod (h + 1) xs (by omega) (by omega) n
  rw [IntKind.wrap_u64]
  have a4 := acc_mod 0 (ys.set j ((ys.getD j 0 + (s - f)) % 18446744073709551616)) (by omega) (by omega) n
  rw [List.take_of_length_le (by simp [ly]), sum_set _ _ _ (by omega)] at a4
  rw [List.take_of_length_le (by simp [ly])] at hf a2
  rw [List.take_of_length_le (by simp [lx])] at hs a1 a3
  rw [a1, a2, a3, a4]
  refine ⟨?_, ?_, ?_⟩
  · rw [Bool.eq_iff_iff]; simp only [beq_iff_eq]; omega
  · simp only [beq_iff_eq]; omega
  · simp only [beq_eq_false_iff_ne, ne_eq]; omega

theorem sum_nonneg (ys : List Int) (n : Nat) (h : ∀ i, i < n → 0 ≤ ys.getD i 0 ∧ ys.getD i 0 ≤ 18446744073709551615) : ∀ k, k ≤ n → 0 ≤ (ys.take k).sum := by
  intro k
  induction k with
  | zero => intro _; simp
  | succ k ih =>
    intro hk
    rw [take_sum]
    have := ih (by omega)
    have := (h k (by omega)).1
    omega

set_option maxHeartbeats 1000000 in
theorem walk_main (h : Int) (x1 x2 : Addr) (n c1 c2 : Nat) (xs ys : List Int) (j : Nat) (w : World)
    (hn : n ≤ 65536) (hj : j < n) (lx : xs.length = n) (ly : ys.length = n)
    (hx : ∀ i, i < n → w.cell? (x1.add i) = some (.int .u64 (xs.getD i 0)))
    (hy : ∀ i, i < n → w.cell? (x2.add i) = some (.int .u64 (ys.getD i 0)))
    (bx : ∀ i, i < n → 0 ≤ xs.getD i 0 ∧ xs.getD i 0 ≤ 18446744073709551615)
    (by_ : ∀ i, i < n → 0 ≤ ys.getD i 0 ∧ ys.getD i 0 ≤ 18446744073709551615)
    (h0 : 0 ≤ h) (h1 : h ≤ 18446744073709551615) :
    Calls Try.prog 3 #[.int .u64 h, .slice (some x1) n c1, .slice (some x2) n c2, .int .i64 j] w fun e w' => e = .returned (.bool true) ∧ Below w.heap.size w w' := by
  have hmk := fun w => run_make_row' (P := Try.prog) 23 22 (.int .u64 0) 8 Try.underlying23 (by kernel_rfl) rfl .i64 .i64 n (by omega) (by omega) w
  have HX := hide hx
  have HY := hide hy
  have BX := hide bx
  have BY := hide by_
  have LX := hide lx
  have LY := hide ly
  clear hx hy bx by_ lx ly
  have hby := fun w => bytes_any h j (some x1) (some x2) n c1 n c2 w (by unfold maxLen; omega) (by unfold maxLen; omega)
  have HBY := hide hby
  clear hby
  go_enter Try.func3, Try.ntmps3
  go_wp2_with fail
  refine (unhide HBY _).mono ?_
  rintro e w1 ⟨rfl, rfl⟩
  rw [decide_eq_true (show n + n ≤ 1048576 by omega)]
  go_wp2_with (with_reducible refine wpList_copy_u64 rfl (.tmp 61) (.tmp 62) rfl _ _ _ _ xs (unhide LX) rfl rfl w1 rfl rfl (unhide HX) ?_)
  intro w2 hr1 hb1
  have HY2 : Hid (∀ i, i < n → w2.cell? (x2.add i) = some (.int .u64 (ys.getD i 0))) := fun i hi =>
    (hb1.cell (World.block_lt_of_cell? _ _ (unhide HY i hi))).trans (unhide HY i hi)
  clear HX
  go_wp2_with (with_reducible refine wpList_copy_u64 rfl (.tmp 70) (.tmp 71) rfl _ _ _ _ ys (unhide LY) rfl rfl w2 rfl rfl (unhide HY2) ?_)
  intro w3 hr2 hb2
  have hr1' := hr1.kept hb2
  clear HY HY2 hr1
  go_wp2_with fail
  refine (totals_any _ _ n h xs ys w3 hn (fun i hi => ⟨hr1'.cell i (by rw [unhide LX]; exact hi), unhide BX i hi⟩) (fun i hi => ⟨hr2.cell i (by rw [unhide LY]; exact hi), unhide BY i hi⟩) h0 h1).mono ?_
  rintro e w4 ⟨⟨s, f, ok, rfl, htot⟩, rfl⟩
  cases ok with
  | false =>
    clear htot
    go_wp2
    go_ret
    exact ⟨rfl, hb1.trans (hb2.mono hb1.size)⟩
  | true =>
    obtain ⟨es, ef, b1, b2⟩ := htot rfl
    clear htot
    have ES := hide es
    have EF := hide ef
    have bfx := sum_nonneg xs n (unhide BX) n (Nat.le_refl _)
    have bf := sum_nonneg ys n (unhide BY) n (Nat.le_refl _)
    rw [← ef] at bf
    have bhs : h ≤ s := by omega
    clear es ef bfx
    cases hsm : (s == 18446744073709551615) with
    | true =>
      go_wp2
      go_ret
      exact ⟨rfl, hb1.trans (hb2.mono hb1.size)⟩
    | false =>
      have hsl : s ≤ 18446744073709551614 := by
        have : ¬ s = 18446744073709551615 := by simpa using hsm
        omega
      have hhl : h ≤ 18446744073709551614 := by omega
      obtain ⟨t1, t2, t3⟩ := plain h s f xs ys n j (unhide LX) (unhide LY) hj h0 hhl (unhide ES) (unhide EF) hsl b2 bf (by omega)
      have T1 := hide t1
      have T2 := hide t2
      have T3 := hide t3
      clear t1 t2 t3
      obtain ⟨y, ey⟩ : ∃ y, ys.getD j 0 = y := ⟨_, rfl⟩
      rw [ey] at T2
      have EY := hide ey
      clear ey
      go_wp2_with fail
      refine (new_any _ _ n h xs ys w4 hn hr1'.lt hr2.lt (fun i hi => hr1'.cell i (by rw [unhide LX]; exact hi)) (fun i hi => hr2.cell i (by rw [unhide LY]; exact hi))).mono ?_
      rintro e w5 ⟨rfl, hb3, sc1⟩
      go_wp2_with fail
      refine (zzAllDone_any _ _ n h xs ys _ sc1 hn).mono ?_
      rintro e w6 ⟨rfl, rfl⟩
      rw [unhide T1]
      have hx6 := hr1'.kept hb3
      have hy6 := hr2.kept hb3
      go_wp2_with (with_reducible refine wpList_copy_u64 rfl (.tmp 99) (.tmp 100) rfl _ _ _ _ ys (unhide LY) rfl rfl w6 rfl rfl (fun i hi => hy6.at_add i (Nat.lt_of_lt_of_eq hi (unhide LY).symm)) ?_)
      intro w7 hr3 hb4
      have hx7 := hx6.kept hb4
      have hy7 := hy6.kept hb4
      have cj := hr3.cell j (by rw [unhide LY]; exact hj)
      have fj := hr3.free j
      rw [unhide EY] at cj
      have jn : (j : Int) < (n : Int) := by omega
      go_wp2_with fail
      have n1 : w1.heap.size ≠ w6.heap.size := Nat.ne_of_lt hx6.lt
      have n2 : w2.heap.size ≠ w6.heap.size := Nat.ne_of_lt hy6.lt
      have hx8 := hx7.other w6.heap.size j (.int .u64 (IntKind.u64.wrap (y + (s - f)))) n1
      have hy8 := hy7.other w6.heap.size j (.int .u64 (IntKind.u64.wrap (y + (s - f)))) n2
      have hr8 := hr3.store j (IntKind.u64.wrap (y + (s - f)))
      have hbW : Below w1.heap.size w1 (w7.setCell ⟨w6.heap.size, j, none⟩ (.int .u64 (IntKind.u64.wrap (y + (s - f))))) :=
        (((hb1.trans (hb2.mono hb1.size)).trans (hb3.mono (Nat.le_trans hb1.size hb2.size))).trans (hb4.mono (Nat.le_of_lt hx6.lt))).setCell (Nat.le_of_lt hx6.lt) _
      clear n1 n2 cj fj hr3 hx7 hy7 hb4 hx6 hy6 hb3 hb2 hb1 hr1' hr2 sc1
      generalize w7.setCell ⟨w6.heap.size, j, none⟩ (.int .u64 (IntKind.u64.wrap (y + (s - f)))) = w8 at *
      refine (new_any _ _ n h xs _ w8 hn hx8.lt hr8.lt (fun i hi => hx8.cell i (by rw [unhide LX]; exact hi)) (fun i hi => hr8.cell i (by rw [List.length_set, unhide LY]; exact hi))).mono ?_
      rintro e w9 ⟨rfl, hb5, sc2⟩
      go_wp2_with fail
      refine (zzAllDone_any _ _ n h xs _ _ sc2 hn).mono ?_
      rintro e w10 ⟨rfl, rfl⟩
      rw [unhide T2]
      have hx10 := hx8.kept hb5
      have hy10 := hy8.kept hb5
      go_wp2_with fail
      refine (new_any _ _ n (h + 1) xs ys _ hn hx10.lt hy10.lt (fun i hi => hx10.cell i (by rw [unhide LX]; exact hi)) (fun i hi => hy10.cell i (by rw [unhide LY]; exact hi))).mono ?_
      rintro e w11 ⟨rfl, hb6, sc3⟩
      go_wp2_with fail
      refine (zzAllDone_any _ _ n (h + 1) xs ys _ sc3 hn).mono ?_
      rintro e w12 ⟨rfl, rfl⟩
      rw [unhide T3]
      go_wp2
      go_ret
      exact ⟨by simp, (hbW.trans (hb5.mono hbW.size)).trans (hb6.mono (Nat.le_trans hbW.size hb5.size))⟩

end Go.Proofs.Qxb6615788a
