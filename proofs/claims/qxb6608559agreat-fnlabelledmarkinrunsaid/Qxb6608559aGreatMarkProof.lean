/-
  THE STATEMENT on FnLabelledMarkInRun: the early ways, the main way (Qxb6608559aGreatMark), the row's step.
-/
import Derived.Test.Qxb6608559aGreatMark
import Derived.ProofKit
import Derived.OpenShut
import Derived.ShutString
import Derived.ChangeOld
import Derived.Below
import Derived.Deep.Grids
namespace Go.Proofs.Qxb6608559aGreat.fnMarkInRun
open Go.ChangeShapes Go.WideShapes Go.ChangeAt Go.RowKit Go.Deep
set_option linter.unusedVariables false

theorem own : ownKnob Tryz.prog.godebug = none := by kernel_rfl
theorem laidOut : laidOutB Tryz.prog = true := by kernel_rfl

set_option maxRecDepth 100000 in
set_option maxHeartbeats 1000000 in
theorem walk (i p : Int) (label : Bool) (a1 a2 : Option Addr) (n1 c1 n2 c2 : Nat) (xs : List Int) (bs : List Bool) (w : World)
    (l1 : n1 ≤ maxLen) (l2 : n2 ≤ maxLen) (hx : InI w a1 n1 c1 xs) (hb : InB w a2 n2 c2 bs) :
    Calls Tryz.prog 4 #[.slice a1 n1 c1, .slice a2 n2 c2, .int .i64 i, .int .i64 p, .bool label] w fun e w' => e = .returned (.bool true) ∧ Below w.heap.size w w' := by
  by_cases t : n1 ≤ 65536 ∧ n2 ≤ 65536
  · exact mark_main i p label a1 a2 n1 c1 n2 c2 xs bs w t.1 t.2 hx hb
  clear hx hb
  have hby := fun w => bytes10_any i p label a1 a2 n1 c1 n2 c2 w l1 l2
  have HBY := hide hby
  clear hby
  unfold maxLen at l1 l2
  by_cases c0 : n1 + n2 ≤ 1048576
  rotate_left
  · go_enter Tryz.func4, Tryz.ntmps4
    go_wp2_with fail
    refine (unhide HBY _).mono ?_
    rintro e w1 ⟨rfl, rfl⟩
    rw [decide_eq_false c0]
    go_wp2
    go_ret
    exact ⟨rfl, Below.refl _ _⟩
  by_cases t1 : 65536 < n1
  · go_enter Tryz.func4, Tryz.ntmps4
    go_wp2_with fail
    refine (unhide HBY _).mono ?_
    rintro e w1 ⟨rfl, rfl⟩
    rw [decide_eq_true c0]
    go_wp2
    go_ret
    exact ⟨rfl, Below.refl _ _⟩
  · have t2 : 65536 < n2 := by omega
    go_enter Tryz.func4, Tryz.ntmps4
    go_wp2_with fail
    refine (unhide HBY _).mono ?_
    rintro e w1 ⟨rfl, rfl⟩
    rw [decide_eq_true c0]
    go_wp2
    go_ret
    exact ⟨rfl, Below.refl _ _⟩

set_option maxRecDepth 100000 in
theorem lifted (os : Os) (started : os.Started) (H : Type) (enc : TypeId × Value → H) :
    ReturnsInHanded {} Tryz.checked os 4 .any (Rows.fnLabelledMarkInRunSpec.pre6 enc Tryz.prog Tryz.f4 Rows.fnLabelledMarkInRunRow.domain false) (Rows.fnLabelledMarkInRunSpec.post enc Tryz.prog Tryz.f4 false true false false) := by
  refine returnsInHanded_of_change (C := Tryz.checked) own started (by kernel_rfl) Tryz.func4
    (ChangeSpec.witness6 (enc := enc) (C := Tryz.checked) false ⟨#[], #[.slice none 0 0, .slice none 0 0, .int .i64 0, .int .i64 0, .bool false], []⟩ 8 (by kernel_rfl) (by kernel_rfl) (by kernel_rfl) (by kernel_rfl)) ?_
  intro W base args ds gs before hval0 hW hcnd _
  have hval : ∀ (j : Nat) t v, Tryz.f4.params[j]? = some t → args[j]? = some v → Value.okWide Tryz.prog W .any base t v := hval0
  have hW' := hW
  obtain ⟨p, q, hA0, hV, rfl, hfz, hnd⟩ := hW
  have hA : DataW.TrodAll enc Tryz.prog W 0 (fun _ => true) true Tryz.f4.params.toList args.toList ds p := hA0
  rw [Tryz.params4] at hA hval
  obtain ⟨v0, vs0, d0, ds0, p0, q0, hargs, rfl, rfl, h0, r0⟩ := trodAll_cons hA
  obtain ⟨v1, vs1, d1, ds1, p1, q1, rfl, rfl, rfl, h1, r1⟩ := trodAll_cons r0
  obtain ⟨v2, vs2, d2, ds2, p2, q2, rfl, rfl, rfl, h2, r2⟩ := trodAll_cons r1
  obtain ⟨v3, vs3, d3, ds3, p3, q3, rfl, rfl, rfl, h3, r3⟩ := trodAll_cons r2
  obtain ⟨v4, vs4, d4, ds4, p4, q4, rfl, rfl, rfl, h4, r4⟩ := trodAll_cons r3
  obtain ⟨rfl, rfl, rfl⟩ := trodAll_nil r4
  obtain rfl : args = #[v0, v1, v2, v3, v4] := by cases args; simp_all
  obtain ⟨rfl, rfl⟩ := trodVars_none hV
  obtain ⟨a0, len0, cap0, rfl⟩ := okWide_slice Tryz.underlying22 (hval 0 22 v0 rfl rfl)
  have k0 := h0
  have lt0 : ∀ x ∈ p0, x.block < W.heap.size := by obtain ⟨m, hm⟩ := k0; exact DataW.trod_lt m _ _ _ hm
  obtain ⟨xs, w0, l0⟩ : ∃ xs, InI W a0 len0 cap0 xs ∧ len0 ≤ maxLen := by
    obtain ⟨fuel, hf⟩ := h0
    rcases open_ints Tryz.underlying22 Tryz.underlying3 (by kernel_rfl) hf with ⟨hcs, _⟩ | ⟨x, l, c, zs, hcs, _, hl, hm, hz, _, hcell, hwz⟩
    · simp [Value.cells] at hcs
      obtain ⟨rfl, rfl, rfl⟩ := hcs
      exact ⟨[], .inl ⟨rfl, rfl, rfl, rfl⟩, Nat.zero_le _⟩
    · simp [Value.cells] at hcs
      obtain ⟨rfl, rfl, rfl⟩ := hcs
      simp only [if_true] at hz
      refine ⟨zs.take len0, .inr ⟨x, rfl, by simp; omega, fun i hi => ?_⟩, Nat.le_trans hl hm⟩
      have e : (zs.take len0).getD i 0 = zs.getD i 0 := by simp [hi]
      rw [e]
      exact hcell i (by omega)
  obtain ⟨a1, len1, cap1, rfl⟩ := okWide_slice Tryz.underlying23 (hval 1 23 v1 rfl rfl)
  have k1 := h1
  have lt1 : ∀ x ∈ p1, x.block < W.heap.size := by obtain ⟨m, hm⟩ := k1; exact DataW.trod_lt m _ _ _ hm
  obtain ⟨bs, w1, l1⟩ : ∃ bs, InB W a1 len1 cap1 bs ∧ len1 ≤ maxLen := by
    obtain ⟨fuel, hf⟩ := h1
    rcases open_bools Tryz.underlying23 Tryz.underlying4 (by kernel_rfl) hf with ⟨hcs, _⟩ | ⟨x, l, c, B, hcs, _, hl, hm, _, hcell⟩
    · simp [Value.cells] at hcs
      obtain ⟨rfl, rfl, rfl⟩ := hcs
      exact ⟨[], .inl ⟨rfl, rfl, rfl, rfl⟩, Nat.zero_le _⟩
    · simp [Value.cells] at hcs
      obtain ⟨rfl, rfl, rfl⟩ := hcs
      refine ⟨(List.range len1).map B, .inr ⟨x, rfl, by simp, fun i hi => ?_⟩, Nat.le_trans hl hm⟩
      have e : ((List.range len1).map B).getD i false = B i := by simp [hi]
      rw [e]
      exact hcell i (by omega)
  obtain ⟨a2, rfl, rfl, rfl, w2⟩ := open_int Tryz.underlying3 (hval 2 3 v2 rfl rfl) h2
  obtain ⟨a3, rfl, rfl, rfl, w3⟩ := open_int Tryz.underlying3 (hval 3 3 v3 rfl rfl) h3
  obtain ⟨a4, rfl, rfl, rfl⟩ := open_bool Tryz.underlying4 (hval 4 4 v4 rfl rfl) h4
  clear hA0 hval0
  refine (walk a2 a3 a4 a0 a1 len0 cap0 len1 cap1 xs bs W l0 l1 w0 w1).mono fun e W' ⟨he, bel⟩ => ?_
  subst he
  exact ⟨_, rfl, _, _, _, [], _, [], hW', trodAll_mk1 (shut_bool Tryz.underlying4 _), (trodAll_cons_mk (Below.trod laidOut (by kernel_rfl) (of_decide_eq_true (by kernel_rfl)) k0 bel lt0) (trodAll_cons_mk (Below.trod laidOut (by kernel_rfl) (of_decide_eq_true (by kernel_rfl)) k1 bel lt1) (trodAll_cons_mk (shut_int Tryz.underlying3 w2) (trodAll_cons_mk (shut_int Tryz.underlying3 w3) (trodAll_cons_mk (shut_bool Tryz.underlying4 _) trodAll_mk0))))), rfl, bel.frame _, fun h => by cases h⟩

theorem over : Rows.fnLabelledMarkInRunRow.holds Tryz.pinned (OpenSpec.ofChange Rows.fnLabelledMarkInRunSpec) :=
  OpenClaim.holds_of_wide 4 Tryz.f4 rfl rfl rfl rfl rfl rfl rfl ⟨rfl, rfl, rfl, rfl, rfl⟩ rfl rfl rfl rfl rfl (by kernel_rfl) Tryz.func4 (by kernel_rfl)
    (of_decide_eq_true (by kernel_rfl)) (by unfold Func.isWrapper; first | (rw [if_pos (by decide +kernel)]; kernel_rfl) | (rw [if_neg (by decide +kernel)]; exact ⟨rfl, rfl⟩))
    (fun os started H enc _ => lifted os started H enc)

/-- THE STATEMENT -/
theorem proved : Rows.FnLabelledMarkInRunSaid := over
end Go.Proofs.Qxb6608559aGreat.fnMarkInRun
