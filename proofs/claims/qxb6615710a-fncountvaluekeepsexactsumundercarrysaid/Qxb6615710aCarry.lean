/-
  THE FIRST LAW: 'FnCountValueKeepsExactSumUnderCarry' returns true whatever the input.
-/
import Derived.Test.Qxb6615710aSteps
import Derived.ProofKit
import Derived.OpenShut
namespace Go.Proofs.Qxb6615710a.fnCarry
open Go.ChangeShapes Go.WideShapes Go.ChangeAt Go.RowKit
set_option linter.unusedVariables false

theorem own : ownKnob Try.prog.godebug = none := by kernel_rfl

set_option maxHeartbeats 400000 in
theorem walk (n : Int) (p : Nat) (w : World) :
    Calls Try.prog 3 #[.int .i64 n, .float .f64 p] w fun e w' => e = .returned (.bool true) ∧ Grown w w' := by
  by_cases c1 : n < -9007199254740992
  · go_enter Try.func3, Try.ntmps3
    go_wp2
    go_ret
    exact ⟨rfl, Grown.refl _⟩
  by_cases c2 : 9007199254740992 < n
  · go_enter Try.func3, Try.ntmps3
    go_wp2
    go_ret
    exact ⟨rfl, Grown.refl _⟩
  cases n1 : (FloatKind.f64.format.order p p != some .eq)
  rotate_left
  · go_enter Try.func3, Try.ntmps3
    go_wp2
    go_ret
    exact ⟨rfl, Grown.refl _⟩
  cases l1 : (FloatKind.f64.format.order p 14069245235905429504 == some .lt)
  rotate_left
  · go_enter Try.func3, Try.ntmps3
    go_wp2
    go_ret
    exact ⟨rfl, Grown.refl _⟩
  cases l2 : (FloatKind.f64.format.order p 4845873199050653696 == some .gt)
  rotate_left
  · go_enter Try.func3, Try.ntmps3
    go_wp2
    go_ret
    exact ⟨rfl, Grown.refl _⟩
  obtain ⟨hf, b1, b2⟩ := Round.fin_of_between (Round.num_of_self n1) l1 l2
  obtain ⟨q, hq, q1, q2, hd, hs⟩ := Round.int_of hf b1 b2
  have hconv := fun w => run_convert_float_int (P := Try.prog) w 22 2 .f64 .i64 p q (by kernel_rfl) (by kernel_rfl) hq
  by_cases d1 : n + q < -9007199254740992
  · clear hf b1 b2 hq hd hs
    go_enter Try.func3, Try.ntmps3
    go_wp2
    go_ret
    exact ⟨rfl, Grown.refl _⟩
  by_cases d2 : 9007199254740992 < n + q
  · clear hf b1 b2 hq hd hs
    go_enter Try.func3, Try.ntmps3
    go_wp2
    go_ret
    exact ⟨rfl, Grown.refl _⟩
  obtain ⟨rest, v1, v2, e0, e1, e2, heq, hsg, hr⟩ := Round.carry (n := n) (by omega) (by omega) hf q1 q2 hd hs (by omega) (by omega)
  have hsub := fun w t => run_float_arith (P := Try.prog) w .sub t .f64 p (floatOfInt .f64 q) rest e0
  have E1 := hide e1
  have E2 := hide e2
  have S1 := hide hsg
  have R := hide hr
  clear hf b1 b2 hq hd hs e0 e1 e2 hsg hr
  go_enter Try.func3, Try.ntmps3
  go_wp2_with fail
  refine (count_calls n p v1 _ (unhide E1)).mono ?_
  rintro e w1 ⟨rfl, g1⟩
  go_wp2_with fail
  refine (count_calls (n + q) rest v2 _ (unhide E2)).mono ?_
  rintro e w2 ⟨rfl, g2⟩
  go_wp2_with fail
  refine (sign_any v1 _).mono ?_
  rintro e w3 ⟨rfl, rfl⟩
  go_wp2_with fail
  refine (exact_any n p _).mono ?_
  rintro e w4 ⟨rfl, rfl⟩
  rw [unhide S1]
  cases hz : (FloatKind.f64.format.order rest 0 == some Ordering.eq)
  · go_wp2
    go_ret
    exact ⟨rfl, grown_trans g1 g2⟩
  · have hv := unhide R hz
    go_wp2
    go_ret
    exact ⟨rfl, grown_trans g1 g2⟩

set_option maxRecDepth 100000 in
theorem lifted (os : Os) (started : os.Started) (H : Type) (enc : TypeId × Value → H) :
    ReturnsInHanded {} Try.checked os 3 .any (Rows.fnCountValueKeepsExactSumUnderCarrySpec.pre6 enc Try.prog Try.f3 Rows.fnCountValueKeepsExactSumUnderCarryRow.domain false) (Rows.fnCountValueKeepsExactSumUnderCarrySpec.post enc Try.prog Try.f3 false true false false) := by
  refine returnsInHanded_of_change (C := Try.checked) own started (by kernel_rfl) Try.func3
    (ChangeSpec.witness6 (enc := enc) (C := Try.checked) false ⟨#[], #[.int .i64 0, .float .f64 0], []⟩ 8 (by kernel_rfl) (by kernel_rfl) (by kernel_rfl) (by kernel_rfl)) ?_
  intro W base args ds gs before hval0 hW hcnd _
  have hval : ∀ (j : Nat) t v, Try.f3.params[j]? = some t → args[j]? = some v → Value.okWide Try.prog W .any base t v := hval0
  have hW' := hW
  obtain ⟨p, q, hA0, hV, rfl, hfz, hnd⟩ := hW
  have hA : DataW.TrodAll enc Try.prog W 0 (fun _ => true) true Try.f3.params.toList args.toList ds p := hA0
  rw [Try.params3] at hA hval
  obtain ⟨v0, vs0, d0, ds0, p0, q0, hargs, rfl, rfl, h0, r0⟩ := trodAll_cons hA
  obtain ⟨v1, vs1, d1, ds1, p1, q1, rfl, rfl, rfl, h1, r1⟩ := trodAll_cons r0
  obtain ⟨rfl, rfl, rfl⟩ := trodAll_nil r1
  obtain rfl : args = #[v0, v1] := by cases args; simp_all
  obtain ⟨rfl, rfl⟩ := trodVars_none hV
  obtain ⟨a0, rfl, rfl, rfl, w0⟩ := open_int Try.underlying2 (hval 0 2 v0 rfl rfl) h0
  obtain ⟨a1, rfl, rfl, rfl, w1⟩ := open_float Try.underlying22 (hval 1 22 v1 rfl rfl) h1
  clear hA0 hval0
  simp only [List.append_nil] at hW'
  refine (walk a0 a1 W).mono fun e W' ⟨he, hg⟩ => ?_
  subst he
  exact ⟨_, rfl, post_of_same (pa := []) (pv := []) hW' (fun _ _ _ => (trodAll_cons_mk (shut_bool Try.underlying4 _) trodAll_mk0)) (fun sp _ => (trodAll_cons_mk (shut_int Try.underlying2 w0) (trodAll_cons_mk (shut_float Try.underlying22 w1) trodAll_mk0))) (fun _ _ => rfl) rfl
    (hg.frame _) hg.2.1 (ok_one (by kernel_rfl) rfl (okWide_bool_mk Try.underlying4 _))⟩

theorem over : Rows.fnCountValueKeepsExactSumUnderCarryRow.holds Try.pinned (OpenSpec.ofChange Rows.fnCountValueKeepsExactSumUnderCarrySpec) :=
  OpenClaim.holds_of_wide 3 Try.f3 rfl rfl rfl rfl rfl rfl rfl ⟨rfl, rfl, rfl, rfl, rfl⟩ rfl rfl rfl rfl rfl (by kernel_rfl) Try.func3 (by kernel_rfl)
    (of_decide_eq_true (by kernel_rfl)) (by unfold Func.isWrapper; first | (rw [if_pos (by decide +kernel)]; kernel_rfl) | (rw [if_neg (by decide +kernel)]; exact ⟨rfl, rfl⟩))
    (fun os started H enc _ => lifted os started H enc)

/-- THE STATEMENT -/
theorem proved : Rows.FnCountValueKeepsExactSumUnderCarrySaid := over
end Go.Proofs.Qxb6615710a.fnCarry
