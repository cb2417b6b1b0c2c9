/-
  THE STATEMENT: the walk, and the row's step after the guide's shell for this function.
-/
import Derived.Test.Qxb6608559aSteps
import Derived.WalkKit
import Derived.ProofKit
import Derived.OpenShut
import Derived.ShutString
namespace Go.Proofs.Qxb6608559a.fnOperandOrder
open Go.ChangeShapes Go.WideShapes Go.ChangeAt Go.RowKit
open Go.ChangeMaps (open_string shut_string)
set_option linter.unusedVariables false      -- a walk need not use every 'w<i>' (that an integer argument fits its kind)

theorem own : ownKnob Try.prog.godebug = none := by kernel_rfl

/-! ### STEP 1: THE WALK: the Go text returns true. 'Grown w w'': the world has at most new blocks (Derived/RowKit3.lean). Part the cases AHEAD of 'go_enter' where a test parts the walk; take each callee by a contract of your own. -/
theorem walk (a0 : Int) (a1 : Int) (a2 : Int) (a3 : Int) (w0 : (Lit.int .u8 a0).wf = true) (w1 : (Lit.int .u32 a1).wf = true) (w2 : (Lit.int .u8 a2).wf = true) (w3 : (Lit.int .u32 a3).wf = true) (w : World) :
    Calls Try.prog 4 #[.int .u8 a0, .int .u32 a1, .int .u8 a2, .int .u32 a3] w fun e w' => e = .returned (.bool true) ∧ Grown w w' := by
  obtain ⟨k0, k1⟩ := bounds_u8 w0
  obtain ⟨i0, i1⟩ := bounds_u32 w1
  obtain ⟨l0, l1⟩ := bounds_u8 w2
  obtain ⟨j0, j1⟩ := bounds_u32 w3
  have t1 : ((a0 + a1 * 4294967296) / 4294967296 == a1) = true := by rw [beq_iff_eq]; omega
  have T1 : Hid _ := t1
  clear t1
  rcases Int.lt_trichotomy a1 a3 with c | c | c
  · have q1 : (a1 == a3) = false := by rw [beq_eq_false_iff_ne]; omega
    have q2 : (a0 + a1 * 4294967296 == a2 + a3 * 4294967296) = false := by rw [beq_eq_false_iff_ne]; omega
    have q3 : a0 + a1 * 4294967296 < a2 + a3 * 4294967296 := by omega
    go_enter Try.func4, Try.ntmps4
    go_wp2_with fail
    refine (zzOperand_any _ _ _ k0 k1 i0 i1).mono ?_
    rintro e w1 ⟨rfl, rfl⟩
    go_wp2_with fail
    refine (zzOperand_any _ _ _ l0 l1 j0 j1).mono ?_
    rintro e w2 ⟨rfl, rfl⟩
    go_wp2_with fail
    refine (id_any _ _ (by omega) (by omega)).mono ?_
    rintro e w3 ⟨rfl, rfl⟩
    go_wp2
    go_ret
    exact ⟨by simp [T1.out], Grown.refl _⟩
  · subst c
    rcases Int.lt_trichotomy a0 a2 with d | d | d
    · have q1 : (a0 == a2) = false := by rw [beq_eq_false_iff_ne]; omega
      have q2 : (a0 + a1 * 4294967296 == a2 + a1 * 4294967296) = false := by rw [beq_eq_false_iff_ne]; omega
      have q3 : a0 + a1 * 4294967296 < a2 + a1 * 4294967296 := by omega
      go_enter Try.func4, Try.ntmps4
      go_wp2_with fail
      refine (zzOperand_any _ _ _ k0 k1 i0 i1).mono ?_
      rintro e w1 ⟨rfl, rfl⟩
      go_wp2_with fail
      refine (zzOperand_any _ _ _ l0 l1 j0 j1).mono ?_
      rintro e w2 ⟨rfl, rfl⟩
      go_wp2_with fail
      refine (id_any _ _ (by omega) (by omega)).mono ?_
      rintro e w3 ⟨rfl, rfl⟩
      go_wp2
      go_ret
      exact ⟨by simp [T1.out], Grown.refl _⟩
    · subst d
      go_enter Try.func4, Try.ntmps4
      go_wp2_with fail
      refine (zzOperand_any _ _ _ k0 k1 i0 i1).mono ?_
      rintro e w1 ⟨rfl, rfl⟩
      go_wp2_with fail
      refine (zzOperand_any _ _ _ l0 l1 j0 j1).mono ?_
      rintro e w2 ⟨rfl, rfl⟩
      go_wp2_with fail
      refine (id_any _ _ (by omega) (by omega)).mono ?_
      rintro e w3 ⟨rfl, rfl⟩
      go_wp2
      go_ret
      exact ⟨by simp [T1.out], Grown.refl _⟩
    · have q1 : (a0 == a2) = false := by rw [beq_eq_false_iff_ne]; omega
      have q2 : (a0 + a1 * 4294967296 == a2 + a1 * 4294967296) = false := by rw [beq_eq_false_iff_ne]; omega
      have q3 : ¬ a0 + a1 * 4294967296 < a2 + a1 * 4294967296 := by omega
      go_enter Try.func4, Try.ntmps4
      go_wp2_with fail
      refine (zzOperand_any _ _ _ k0 k1 i0 i1).mono ?_
      rintro e w1 ⟨rfl, rfl⟩
      go_wp2_with fail
      refine (zzOperand_any _ _ _ l0 l1 j0 j1).mono ?_
      rintro e w2 ⟨rfl, rfl⟩
      go_wp2_with fail
      refine (id_any _ _ (by omega) (by omega)).mono ?_
      rintro e w3 ⟨rfl, rfl⟩
      go_wp2
      go_ret
      exact ⟨by simp [T1.out], Grown.refl _⟩
  · have q1 : (a1 == a3) = false := by rw [beq_eq_false_iff_ne]; omega
    have q2 : (a0 + a1 * 4294967296 == a2 + a3 * 4294967296) = false := by rw [beq_eq_false_iff_ne]; omega
    have q3 : ¬ a0 + a1 * 4294967296 < a2 + a3 * 4294967296 := by omega
    go_enter Try.func4, Try.ntmps4
    go_wp2_with fail
    refine (zzOperand_any _ _ _ k0 k1 i0 i1).mono ?_
    rintro e w1 ⟨rfl, rfl⟩
    go_wp2_with fail
    refine (zzOperand_any _ _ _ l0 l1 j0 j1).mono ?_
    rintro e w2 ⟨rfl, rfl⟩
    go_wp2_with fail
    refine (id_any _ _ (by omega) (by omega)).mono ?_
    rintro e w3 ⟨rfl, rfl⟩
    go_wp2
    go_ret
    exact ⟨by simp [T1.out], Grown.refl _⟩

/-! ### THE ROW's STEP: WRITTEN OUT: LEAVE IT -/
set_option maxRecDepth 100000 in
theorem lifted (os : Os) (started : os.Started) (H : Type) (enc : TypeId × Value → H) :
    ReturnsInHanded {} Try.checked os 4 .any (Rows.fnOperandOrderSpec.pre6 enc Try.prog Try.f4 Rows.fnOperandOrderRow.domain false) (Rows.fnOperandOrderSpec.post enc Try.prog Try.f4 false true false false) := by
  refine returnsInHanded_of_change (C := Try.checked) own started (by kernel_rfl) Try.func4
    (ChangeSpec.witness6 (enc := enc) (C := Try.checked) false ⟨#[], #[.int .u8 0, .int .u32 0, .int .u8 0, .int .u32 0], []⟩ 8 (by kernel_rfl) (by kernel_rfl) (by kernel_rfl) (by kernel_rfl)) ?_
  intro W base args ds gs before hval0 hW hcnd _
  have hval : ∀ (j : Nat) t v, Try.f4.params[j]? = some t → args[j]? = some v → Value.okWide Try.prog W .any base t v := hval0
  have hW' := hW
  obtain ⟨p, q, hA0, hV, rfl, hfz, hnd⟩ := hW
  have hA : DataW.TrodAll enc Try.prog W 0 (fun _ => true) true Try.f4.params.toList args.toList ds p := hA0
  rw [Try.params4] at hA hval
  obtain ⟨v0, vs0, d0, ds0, p0, q0, hargs, rfl, rfl, h0, r0⟩ := trodAll_cons hA
  obtain ⟨v1, vs1, d1, ds1, p1, q1, rfl, rfl, rfl, h1, r1⟩ := trodAll_cons r0
  obtain ⟨v2, vs2, d2, ds2, p2, q2, rfl, rfl, rfl, h2, r2⟩ := trodAll_cons r1
  obtain ⟨v3, vs3, d3, ds3, p3, q3, rfl, rfl, rfl, h3, r3⟩ := trodAll_cons r2
  obtain ⟨rfl, rfl, rfl⟩ := trodAll_nil r3
  obtain rfl : args = #[v0, v1, v2, v3] := by cases args; simp_all
  obtain ⟨rfl, rfl⟩ := trodVars_none hV
  obtain ⟨a0, rfl, rfl, rfl, w0⟩ := open_int Try.underlying5 (hval 0 5 v0 rfl rfl) h0
  obtain ⟨a1, rfl, rfl, rfl, w1⟩ := open_int Try.underlying22 (hval 1 22 v1 rfl rfl) h1
  obtain ⟨a2, rfl, rfl, rfl, w2⟩ := open_int Try.underlying5 (hval 2 5 v2 rfl rfl) h2
  obtain ⟨a3, rfl, rfl, rfl, w3⟩ := open_int Try.underlying22 (hval 3 22 v3 rfl rfl) h3
  clear hA0 hval0
  simp only [List.append_nil] at hW'
  refine (walk a0 a1 a2 a3 w0 w1 w2 w3 W).mono fun e W' ⟨he, hg⟩ => ?_
  subst he
  exact ⟨_, rfl, post_of_same (pa := []) (pv := []) hW' (fun _ _ _ => (trodAll_cons_mk (shut_bool Try.underlying4 _) trodAll_mk0)) (fun sp _ => (trodAll_cons_mk (shut_int Try.underlying5 w0) (trodAll_cons_mk (shut_int Try.underlying22 w1) (trodAll_cons_mk (shut_int Try.underlying5 w2) (trodAll_cons_mk (shut_int Try.underlying22 w3) trodAll_mk0))))) (fun _ _ => rfl) rfl
    (hg.frame _) hg.2.1 (ok_one (by kernel_rfl) rfl (okWide_bool_mk Try.underlying4 _))⟩

theorem over : Rows.fnOperandOrderRow.holds Try.pinned (OpenSpec.ofChange Rows.fnOperandOrderSpec) :=
  OpenClaim.holds_of_wide 4 Try.f4 rfl rfl rfl rfl rfl rfl rfl ⟨rfl, rfl, rfl, rfl, rfl⟩ rfl rfl rfl rfl rfl (by kernel_rfl) Try.func4 (by kernel_rfl)
    (of_decide_eq_true (by kernel_rfl)) (by unfold Func.isWrapper; first | (rw [if_pos (by decide +kernel)]; kernel_rfl) | (rw [if_neg (by decide +kernel)]; exact ⟨rfl, rfl⟩))
    (fun os started H enc _ => lifted os started H enc)

/-- THE STATEMENT -/
theorem proved : Rows.FnOperandOrderSaid :=
  over
end Go.Proofs.Qxb6608559a.fnOperandOrder
