/-
  THE SECOND LAW: 'FnCountValueMonotoneInPartWithExactSign' returns true whatever the input.
-/
import Derived.Test.Qxb6615710aSteps
import Derived.ProofKit
import Derived.OpenShut
namespace Go.Proofs.Qxb6615710a.fnMono
open Go.ChangeShapes Go.WideShapes Go.ChangeAt Go.RowKit
set_option linter.unusedVariables false

theorem own : ownKnob Try.prog.godebug = none := by kernel_rfl

set_option maxHeartbeats 400000 in
theorem walk (n : Int) (p1 p2 : Nat) (w : World) :
    Calls Try.prog 4 #[.int .i64 n, .float .f64 p1, .float .f64 p2] w fun e w' => e = .returned (.bool true) ∧ Grown w w' := by
  by_cases c1 : n < -9007199254740992
  · go_enter Try.func4, Try.ntmps4
    go_wp2
    go_ret
    exact ⟨rfl, Grown.refl _⟩
  by_cases c2 : 9007199254740992 < n
  · go_enter Try.func4, Try.ntmps4
    go_wp2
    go_ret
    exact ⟨rfl, Grown.refl _⟩
  cases n1 : (FloatKind.f64.format.order p1 p1 != some .eq)
  rotate_left
  · go_enter Try.func4, Try.ntmps4
    go_wp2
    go_ret
    exact ⟨rfl, Grown.refl _⟩
  cases n2 : (FloatKind.f64.format.order p2 p2 != some .eq)
  rotate_left
  · go_enter Try.func4, Try.ntmps4
    go_wp2
    go_ret
    exact ⟨rfl, Grown.refl _⟩
  have m1 := Round.num_of_self n1
  have m2 := Round.num_of_self n2
  obtain ⟨v1, e1, s1⟩ := Round.value_any (n := n) (by omega) (by omega) m1
  obtain ⟨v2, e2, s2⟩ := Round.value_any (n := n) (by omega) (by omega) m2
  have hmono := Round.monotone (n := n) (by omega) (by omega) m1 m2 e1 e2
  have E1 := hide e1
  have E2 := hide e2
  have S1 := hide s1
  have S2 := hide s2
  have M := hide hmono
  clear e1 e2 s1 s2 hmono m1 m2
  go_enter Try.func4, Try.ntmps4
  go_wp2_with fail
  refine (count_calls n p1 v1 _ (unhide E1)).mono ?_
  rintro e w1 ⟨rfl, g1⟩
  go_wp2_with fail
  refine (count_calls n p2 v2 _ (unhide E2)).mono ?_
  rintro e w2 ⟨rfl, g2⟩
  go_wp2_with fail
  refine (sign_any v1 _).mono ?_
  rintro e w3 ⟨rfl, rfl⟩
  go_wp2_with fail
  refine (exact_any n p1 _).mono ?_
  rintro e w4 ⟨rfl, rfl⟩
  rw [unhide S1]
  go_wp2_with fail
  refine (sign_any v2 _).mono ?_
  rintro e w5 ⟨rfl, rfl⟩
  go_wp2_with fail
  refine (exact_any n p2 _).mono ?_
  rintro e w6 ⟨rfl, rfl⟩
  rw [unhide S2]
  cases hle : (FloatKind.f64.format.order p1 p2 == some Ordering.lt || FloatKind.f64.format.order p1 p2 == some Ordering.eq)
  · go_wp2
    go_ret
    exact ⟨rfl, grown_trans g1 g2⟩
  · have hv := unhide M hle
    go_wp2
    go_ret
    exact ⟨rfl, grown_trans g1 g2⟩

set_option maxRecDepth 100000 in
theorem lifted (os : Os) (started : os.Started) (H : Type) (enc : TypeId × Value → H) :
    ReturnsInHanded {} Try.checked os 4 .any (Rows.fnCountValueMonotoneInPartWithExactSignSpec.pre6 enc Try.prog Try.f4 Rows.fnCountValueMonotoneInPartWithExactSignRow.domain false) (Rows.fnCountValueMonotoneInPartWithExactSignSpec.post enc Try.prog Try.f4 false true false false) := by
  refine returnsInHanded_of_change (C := Try.checked) own started (by kernel_rfl) Try.func4
    (ChangeSpec.witness6 (enc := enc) (C := Try.checked) false ⟨#[], #[.int .i64 0, .float .f64 0, .float .f64 0], []⟩ 8 (by kernel_rfl) (by kernel_rfl) (by kernel_rfl) (by kernel_rfl)) ?_
  intro W base args ds gs before hval0 hW hcnd _
  have hval : ∀ (j : Nat) t v, Try.f4.params[j]? = some t → args[j]? = some v → Value.okWide Try.prog W .any base t v := hval0
  have hW' := hW
  obtain ⟨p, q, hA0, hV, rfl, hfz, hnd⟩ := hW
  have hA : DataW.TrodAll enc Try.prog W 0 (fun _ => true) true Try.f4.params.toList args.toList ds p := hA0
  rw [Try.params4] at hA hval
  obtain ⟨v0, vs0, d0, ds0, p0, q0, hargs, rfl, rfl, h0, r0⟩ := trodAll_cons hA
  obtain ⟨v1, vs1, d1, ds1, p1, q1, rfl, rfl, rfl, h1, r1⟩ := trodAll_cons r0
  obtain ⟨v2, vs2, d2, ds2, p2, q2, rfl, rfl, rfl, h2, r2⟩ := trodAll_cons r1
  obtain ⟨rfl, rfl, rfl⟩ := trodAll_nil r2
  obtain rfl : args = #[v0, v1, v2] := by cases args; simp_all
  obtain ⟨rfl, rfl⟩ := trodVars_none hV
  obtain ⟨a0, rfl, rfl, rfl, w0⟩ := open_int Try.underlying2 (hval 0 2 v0 rfl rfl) h0
  obtain ⟨a1, rfl, rfl, rfl, w1⟩ := open_float Try.underlying22 (hval 1 22 v1 rfl rfl) h1
  obtain ⟨a2, rfl, rfl, rfl, w2⟩ := open_float Try.underlying22 (hval 2 22 v2 rfl rfl) h2
  clear hA0 hval0
  simp only [List.append_nil] at hW'
  refine (walk a0 a1 a2 W).mono fun e W' ⟨he, hg⟩ => ?_
  subst he
  exact ⟨_, rfl, post_of_same (pa := []) (pv := []) hW' (fun _ _ _ => (trodAll_cons_mk (shut_bool Try.underlying4 _) trodAll_mk0)) (fun sp _ => (trodAll_cons_mk (shut_int Try.underlying2 w0) (trodAll_cons_mk (shut_float Try.underlying22 w1) (trodAll_cons_mk (shut_float Try.underlying22 w2) trodAll_mk0)))) (fun _ _ => rfl) rfl
    (hg.frame _) hg.2.1 (ok_one (by kernel_rfl) rfl (okWide_bool_mk Try.underlying4 _))⟩

theorem over : Rows.fnCountValueMonotoneInPartWithExactSignRow.holds Try.pinned (OpenSpec.ofChange Rows.fnCountValueMonotoneInPartWithExactSignSpec) :=
  OpenClaim.holds_of_wide 4 Try.f4 rfl rfl rfl rfl rfl rfl rfl ⟨rfl, rfl, rfl, rfl, rfl⟩ rfl rfl rfl rfl rfl (by kernel_rfl) Try.func4 (by kernel_rfl)
    (of_decide_eq_true (by kernel_rfl)) (by unfold Func.isWrapper; first | (rw [if_pos (by decide +kernel)]; kernel_rfl) | (rw [if_neg (by decide +kernel)]; exact ⟨rfl, rfl⟩))
    (fun os started H enc _ => lifted os started H enc)

/-- THE STATEMENT -/
theorem proved : Rows.FnCountValueMonotoneInPartWithExactSignSaid := over
end Go.Proofs.Qxb6615710a.fnMono
