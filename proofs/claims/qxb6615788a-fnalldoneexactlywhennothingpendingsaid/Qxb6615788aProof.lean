/-
  THE STATEMENT: the early ways, the main way (Qxb6615788aMain), and the row's step after the guide's shell for this function.
-/
import Derived.Test.Qxb6615788aMain
import Derived.WalkKit
import Derived.ProofKit
import Derived.OpenShut
import Derived.ShutString
import Derived.ChangeOld
import Derived.Below
namespace Go.Proofs.Qxb6615788a.fnAllDoneExactlyWhenNothingPending
open Go.ChangeShapes Go.WideShapes Go.ChangeAt Go.RowKit
open Go.ChangeMaps (open_string shut_string)
set_option linter.unusedVariables false

theorem own : ownKnob Try.prog.godebug = none := by kernel_rfl
theorem laidOut : laidOutB Try.prog = true := by kernel_rfl

/-- WHAT THE WALK IS TOLD OF A SLICE OF INTEGERS THAT CAME IN: it is nil; or it leads to a row of 'cap' cells, the numbers 'zs' (the first 'len' are its elements, the rest its spare room), each fitting its kind. -/
def IsRow (k : IntKind) (w : World) (a : Option Addr) (len cap : Nat) (zs : List Int) : Prop :=
  (a = none ∧ len = 0 ∧ cap = 0 ∧ zs = []) ∨
  ∃ x, a = some x ∧ len ≤ cap ∧ cap ≤ maxLen ∧ zs.length = cap ∧ (∀ i, i < zs.length → w.cell? (x.add i) = some (.int k (zs.getD i 0))) ∧ ∀ n ∈ zs, (Lit.int k n).wf = true

/-! ### STEP 1: THE WALK: the Go text returns true, AND WRITES NOTHING THAT WAS THERE: 'Below w.heap.size w w'' (Derived/Below.lean: '.refl', '.alloc', '.drew', '.setCell' at a new block, '.trans'). Open each 'IsRow' by 'rcases' AHEAD of 'go_enter'; part every test ahead of the walk. -/
theorem walk (a0 : Int) (a1 : Option Addr) (len1 cap1 : Nat) (z1 : List Int) (a2 : Option Addr) (len2 cap2 : Nat) (z2 : List Int) (a3 : Int) (w : World) (w0 : (Lit.int .u64 a0).wf = true) (w1 : IsRow .u64 w a1 len1 cap1 z1) (w2 : IsRow .u64 w a2 len2 cap2 z2) (w3 : (Lit.int .i64 a3).wf = true) :
    Calls Try.prog 3 #[.int .u64 a0, .slice a1 len1 cap1, .slice a2 len2 cap2, .int .i64 a3] w fun e w' => e = .returned (.bool true) ∧ Below w.heap.size w w' := by
  have l1 : len1 ≤ maxLen := by rcases w1 with ⟨_, rfl, _⟩ | ⟨x, _, hl, hm, _⟩; exact Nat.zero_le _; exact Nat.le_trans hl hm
  have l2 : len2 ≤ maxLen := by rcases w2 with ⟨_, rfl, _⟩ | ⟨x, _, hl, hm, _⟩; exact Nat.zero_le _; exact Nat.le_trans hl hm
  have hby := fun w => bytes_any a0 a3 a1 a2 len1 cap1 len2 cap2 w l1 l2
  have HBY := hide hby
  clear hby
  have W1 := hide w1
  have W2 := hide w2
  clear w1 w2
  unfold maxLen at l1 l2
  by_cases c0 : len1 + len2 ≤ 1048576
  rotate_left
  · go_enter Try.func3, Try.ntmps3
    go_wp2_with fail
    refine (unhide HBY _).mono ?_
    rintro e w1 ⟨rfl, rfl⟩
    rw [decide_eq_false c0]
    go_wp2
    go_ret
    exact ⟨rfl, Below.refl _ _⟩
  by_cases c1 : 65536 < len1
  · go_enter Try.func3, Try.ntmps3
    go_wp2_with fail
    refine (unhide HBY _).mono ?_
    rintro e w1 ⟨rfl, rfl⟩
    rw [decide_eq_true c0]
    go_wp2
    go_ret
    exact ⟨rfl, Below.refl _ _⟩
  by_cases c2 : 65536 < len2
  · go_enter Try.func3, Try.ntmps3
    go_wp2_with fail
    refine (unhide HBY _).mono ?_
    rintro e w1 ⟨rfl, rfl⟩
    rw [decide_eq_true c0]
    go_wp2
    go_ret
    exact ⟨rfl, Below.refl _ _⟩
  by_cases c3 : len1 = len2
  rotate_left
  · have c3' : ((len1 : Int) != (len2 : Int)) = true := by simp; omega
    go_enter Try.func3, Try.ntmps3
    go_wp2_with fail
    refine (unhide HBY _).mono ?_
    rintro e w1 ⟨rfl, rfl⟩
    rw [decide_eq_true c0]
    go_wp2
    go_ret
    exact ⟨rfl, Below.refl _ _⟩
  subst c3
  by_cases c4 : a3 < 0
  · go_enter Try.func3, Try.ntmps3
    go_wp2_with fail
    refine (unhide HBY _).mono ?_
    rintro e w1 ⟨rfl, rfl⟩
    rw [decide_eq_true c0]
    go_wp2
    go_ret
    exact ⟨rfl, Below.refl _ _⟩
  by_cases c5 : (len1 : Int) ≤ a3
  · go_enter Try.func3, Try.ntmps3
    go_wp2_with fail
    refine (unhide HBY _).mono ?_
    rintro e w1 ⟨rfl, rfl⟩
    rw [decide_eq_true c0]
    go_wp2
    go_ret
    exact ⟨rfl, Below.refl _ _⟩
  obtain ⟨j, rfl⟩ := Int.eq_ofNat_of_zero_le (show 0 ≤ a3 by omega)
  have hb0 := bounds_u64 w0
  rcases unhide W1 with ⟨_, h, _⟩ | ⟨x1, rfl, hl1, hm1, hz1, hc1, hw1⟩
  · omega
  rcases unhide W2 with ⟨_, h, _⟩ | ⟨x2, rfl, hl2, hm2, hz2, hc2, hw2⟩
  · omega
  have e1 : ∀ i, i < len1 → (z1.take len1).getD i 0 = z1.getD i 0 := fun i hi => by simp [hi]
  have e2 : ∀ i, i < len1 → (z2.take len1).getD i 0 = z2.getD i 0 := fun i hi => by simp [hi]
  have f1 : ∀ i, i < len1 → 0 ≤ z1.getD i 0 ∧ z1.getD i 0 ≤ 18446744073709551615 := fun i hi => by
    have hi' : i < z1.length := by omega
    have : z1.getD i 0 = z1[i] := by simp [hi']
    rw [this]
    exact bounds_u64 (hw1 _ (List.getElem_mem hi'))
  have f2 : ∀ i, i < len1 → 0 ≤ z2.getD i 0 ∧ z2.getD i 0 ≤ 18446744073709551615 := fun i hi => by
    have hi' : i < z2.length := by omega
    have : z2.getD i 0 = z2[i] := by simp [hi']
    rw [this]
    exact bounds_u64 (hw2 _ (List.getElem_mem hi'))
  exact walk_main a0 x1 x2 len1 cap1 cap2 (z1.take len1) (z2.take len1) j w (by omega) (by omega) (by simp; omega) (by simp; omega)
    (fun i hi => by rw [e1 i hi]; exact hc1 i (by omega)) (fun i hi => by rw [e2 i hi]; exact hc2 i (by omega))
    (fun i hi => by rw [e1 i hi]; exact f1 i hi) (fun i hi => by rw [e2 i hi]; exact f2 i hi) hb0.1 hb0.2

/-! ### THE ROW's STEP: WRITTEN OUT: LEAVE IT -/
set_option maxRecDepth 100000 in
theorem lifted (os : Os) (started : os.Started) (H : Type) (enc : TypeId × Value → H) :
    ReturnsInHanded {} Try.checked os 3 .any (Rows.fnAllDoneExactlyWhenNothingPendingSpec.pre6 enc Try.prog Try.f3 Rows.fnAllDoneExactlyWhenNothingPendingRow.domain false) (Rows.fnAllDoneExactlyWhenNothingPendingSpec.post enc Try.prog Try.f3 false true false false) := by
  refine returnsInHanded_of_change (C := Try.checked) own started (by kernel_rfl) Try.func3
    (ChangeSpec.witness6 (enc := enc) (C := Try.checked) false ⟨#[], #[.int .u64 0, .slice none 0 0, .slice none 0 0, .int .i64 0], []⟩ 8 (by kernel_rfl) (by kernel_rfl) (by kernel_rfl) (by kernel_rfl)) ?_
  intro W base args ds gs before hval0 hW hcnd _
  have hval : ∀ (j : Nat) t v, Try.f3.params[j]? = some t → args[j]? = some v → Value.okWide Try.prog W .any base t v := hval0
  have hW' := hW
  obtain ⟨p, q, hA0, hV, rfl, hfz, hnd⟩ := hW
  have hA : DataW.TrodAll enc Try.prog W 0 (fun _ => true) true Try.f3.params.toList args.toList ds p := hA0
  rw [Try.params3] at hA hval
  obtain ⟨v0, vs0, d0, ds0, p0, q0, hargs, rfl, rfl, h0, r0⟩ := trodAll_cons hA
  obtain ⟨v1, vs1, d1, ds1, p1, q1, rfl, rfl, rfl, h1, r1⟩ := trodAll_cons r0
  obtain ⟨v2, vs2, d2, ds2, p2, q2, rfl, rfl, rfl, h2, r2⟩ := trodAll_cons r1
  obtain ⟨v3, vs3, d3, ds3, p3, q3, rfl, rfl, rfl, h3, r3⟩ := trodAll_cons r2
  obtain ⟨rfl, rfl, rfl⟩ := trodAll_nil r3
  obtain rfl : args = #[v0, v1, v2, v3] := by cases args; simp_all
  obtain ⟨rfl, rfl⟩ := trodVars_none hV
  obtain ⟨a0, rfl, rfl, rfl, w0⟩ := open_int Try.underlying22 (hval 0 22 v0 rfl rfl) h0
  obtain ⟨a1, len1, cap1, rfl⟩ := okWide_slice Try.underlying23 (hval 1 23 v1 rfl rfl)
  have k1 := h1
  have lt1 : ∀ x ∈ p1, x.block < W.heap.size := by obtain ⟨m, hm⟩ := k1; exact DataW.trod_lt m _ _ _ hm
  obtain ⟨z1, w1⟩ : ∃ zs, IsRow .u64 W a1 len1 cap1 zs := by
    obtain ⟨fuel, hf⟩ := h1
    rcases open_ints Try.underlying23 Try.underlying22 (by kernel_rfl) hf with ⟨hcs, _⟩ | ⟨x, l, c, zs, hcs, _, hl, hm, hz, _, hcell, hwz⟩
    · simp [Value.cells] at hcs
      obtain ⟨rfl, rfl, rfl⟩ := hcs
      exact ⟨[], .inl ⟨rfl, rfl, rfl, rfl⟩⟩
    · simp [Value.cells] at hcs
      obtain ⟨rfl, rfl, rfl⟩ := hcs
      exact ⟨zs, .inr ⟨_, rfl, hl, hm, by simpa using hz, hcell, hwz⟩⟩
  obtain ⟨a2, len2, cap2, rfl⟩ := okWide_slice Try.underlying23 (hval 2 23 v2 rfl rfl)
  have k2 := h2
  have lt2 : ∀ x ∈ p2, x.block < W.heap.size := by obtain ⟨m, hm⟩ := k2; exact DataW.trod_lt m _ _ _ hm
  obtain ⟨z2, w2⟩ : ∃ zs, IsRow .u64 W a2 len2 cap2 zs := by
    obtain ⟨fuel, hf⟩ := h2
    rcases open_ints Try.underlying23 Try.underlying22 (by kernel_rfl) hf with ⟨hcs, _⟩ | ⟨x, l, c, zs, hcs, _, hl, hm, hz, _, hcell, hwz⟩
    · simp [Value.cells] at hcs
      obtain ⟨rfl, rfl, rfl⟩ := hcs
      exact ⟨[], .inl ⟨rfl, rfl, rfl, rfl⟩⟩
    · simp [Value.cells] at hcs
      obtain ⟨rfl, rfl, rfl⟩ := hcs
      exact ⟨zs, .inr ⟨_, rfl, hl, hm, by simpa using hz, hcell, hwz⟩⟩
  obtain ⟨a3, rfl, rfl, rfl, w3⟩ := open_int Try.underlying3 (hval 3 3 v3 rfl rfl) h3
  clear hA0 hval0
  refine (walk a0 a1 len1 cap1 z1 a2 len2 cap2 z2 a3 W w0 w1 w2 w3).mono fun e W' ⟨he, bel⟩ => ?_
  subst he
  exact ⟨_, rfl, _, _, _, [], _, [], hW', trodAll_mk1 (shut_bool Try.underlying4 _), (trodAll_cons_mk (shut_int Try.underlying22 w0) (trodAll_cons_mk (Below.trod laidOut (by kernel_rfl) (of_decide_eq_true (by kernel_rfl)) k1 bel lt1) (trodAll_cons_mk (Below.trod laidOut (by kernel_rfl) (of_decide_eq_true (by kernel_rfl)) k2 bel lt2) (trodAll_cons_mk (shut_int Try.underlying3 w3) trodAll_mk0)))), rfl, bel.frame _, fun h => by cases h⟩

theorem over : Rows.fnAllDoneExactlyWhenNothingPendingRow.holds Try.pinned (OpenSpec.ofChange Rows.fnAllDoneExactlyWhenNothingPendingSpec) :=
  OpenClaim.holds_of_wide 3 Try.f3 rfl rfl rfl rfl rfl rfl rfl ⟨rfl, rfl, rfl, rfl, rfl⟩ rfl rfl rfl rfl rfl (by kernel_rfl) Try.func3 (by kernel_rfl)
    (of_decide_eq_true (by kernel_rfl)) (by unfold Func.isWrapper; first | (rw [if_pos (by decide +kernel)]; kernel_rfl) | (rw [if_neg (by decide +kernel)]; exact ⟨rfl, rfl⟩))
    (fun os started H enc _ => lifted os started H enc)

/-- THE STATEMENT -/
theorem proved : Rows.FnAllDoneExactlyWhenNothingPendingSaid := over
end Go.Proofs.Qxb6615788a.fnAllDoneExactlyWhenNothingPending
