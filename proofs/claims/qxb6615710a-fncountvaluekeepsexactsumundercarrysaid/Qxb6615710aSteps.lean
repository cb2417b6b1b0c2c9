/-
  THE WALKS of the four callees: what each call gives, as a plain function of its arguments.
-/
import Derived.Test.Qxb6615710aRows
import Derived.Test.Qxb6615710aLaws
import Derived.WalkKit
import Derived.WalkSpells
import Derived.WalkLawsBesides
namespace Go.Proofs.Qxb6615710a
open Go.RowKit

theorem grown_trans {a b c : World} (h : Grown a b) (g : Grown b c) : Grown a c :=
  ⟨World.keptBut_trans h.1 g.1, fun x => (g.2.1 x).trans (h.2.1 x), Nat.le_trans h.2.2 g.2.2⟩
theorem hide {p : Prop} (h : p) : Hid p := h
theorem unhide {p : Prop} (h : Hid p) : p := h

theorem unary_neg_float (k : FloatKind) (b : Nat) : Op.unary .neg (.float k b) = pure (.float k (Op.negFloat k b)) := rfl

set_option maxHeartbeats 400000 in
theorem sign_any (v : Nat) (w : World) :
    Calls Try.prog 6 #[.float .f64 v] w fun e w' => e = .returned (.int .i64 (Round.sgnOf v)) ∧ w' = w := by
  unfold Round.sgnOf
  go_enter Try.func6, Try.ntmps6
  go_wp2
  all_goals go_ret
  all_goals simp [*]

set_option maxHeartbeats 400000 in
theorem exact_any (n : Int) (part : Nat) (w : World) :
    Calls Try.prog 7 #[.int .i64 n, .float .f64 part] w fun e w' => e = .returned (.int .i64 (Round.exSgn n part)) ∧ w' = w := by
  unfold Round.exSgn
  have hneg := unary_neg_float
  go_enter Try.func7, Try.ntmps7
  go_wp2
  all_goals go_ret
  all_goals simp [*]

set_option maxHeartbeats 400000 in
theorem value_calls (n : Int) (part r : Nat) (w : World) (h : floatBits .add .f64 (floatOfInt .f64 n) part = some r) :
    Calls Try.prog 8 #[.agg #[.int .i64 n, .float .f64 part]] w fun e w' => e = .returned (.float .f64 r) ∧ Grown w w' := by
  have hadd := fun w t => run_float_arith (P := Try.prog) w .add t .f64 (floatOfInt .f64 n) part r h
  go_enter Try.func8, Try.ntmps8
  go_wp2
  go_ret
  exact ⟨rfl, by repeat (first | exact Grown.refl _ | apply Grown.drew | apply Grown.alloc)⟩

set_option maxHeartbeats 400000 in
theorem count_calls (n : Int) (part r : Nat) (w : World) (h : floatBits .add .f64 (floatOfInt .f64 n) part = some r) :
    Calls Try.prog 5 #[.int .i64 n, .float .f64 part] w fun e w' => e = .returned (.float .f64 r) ∧ Grown w w' := by
  go_enter Try.func5, Try.ntmps5
  go_wp2_with fail
  refine (value_calls n part r _ h).mono ?_
  rintro e w' ⟨rfl, hg⟩
  go_wp2
  go_ret
  exact ⟨rfl, hg⟩

end Go.Proofs.Qxb6615710a
