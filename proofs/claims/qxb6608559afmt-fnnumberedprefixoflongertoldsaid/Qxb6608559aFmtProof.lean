/-
  THE STATEMENT (a TOLD card): the early ways, the main way (Qxb6608559aFmtMain), the row's step at F.told, the card by its builder.
-/
import Derived.Test.Qxb6608559aFmtMain
import Derived.Test.Qxb6608559aFmtCards
import Derived.ProofKit
import Derived.OpenShut
import Derived.ShutString
import Derived.Stop.JoinedAt
import Derived.SizedLaws
import Derived.SevenToldRow
namespace Go.Proofs.Qxb6608559aFmt.fnNumbered
open Go.ChangeShapes Go.WideShapes Go.ChangeAt Go.RowKit Go.Kit
open Go.ChangeMaps (open_string shut_string)
open Go.Extern.Stop Go.Stop Go.Extern
set_option linter.unusedVariables false

theorem own : ownKnob Tryf.prog.godebug = none := by kernel_rfl
theorem laidOut : laidOutB Tryf.pinned.checked.prog = true := by kernel_rfl

set_option maxHeartbeats 1000000 in
theorem walk (F : Interp) (s : ByteArray) (n m : Int) (w : World) (hF : F.told.answers w.tape) (hs : s.size ≤ maxLen) :
    Calls Tryf.prog 3 #[.string s, .int .i64 n, .int .i64 m] w fun e w' => e = .returned (.bool true) ∧ Below w.heap.size w w' := by
  by_cases t : s.size ≤ 4096 ∧ 0 ≤ n ∧ n ≤ m ∧ m ≤ 65536
  · obtain ⟨t1, t2, t3, t4⟩ := t
    obtain ⟨a, rfl⟩ := Int.eq_ofNat_of_zero_le t2
    obtain ⟨b, rfl⟩ := Int.eq_ofNat_of_zero_le (show 0 ≤ m by omega)
    exact law_main F s a b w hF t1 (by omega) (by omega)
  clear hF
  have hby := fun w => bytes4_any s n m w hs
  have HBY := hide hby
  clear hby
  unfold maxLen at hs
  by_cases c0 : s.size ≤ 1048576
  rotate_left
  · go_enter Tryf.func3, Tryf.ntmps3
    go_wp2_with fail
    refine (unhide HBY _).mono ?_
    rintro e w1 ⟨rfl, rfl⟩
    rw [decide_eq_false c0]
    go_wp2
    go_ret
    exact ⟨rfl, Below.refl _ _⟩
  by_cases c1 : 4096 < s.size
  · go_enter Tryf.func3, Tryf.ntmps3
    go_wp2_with fail
    refine (unhide HBY _).mono ?_
    rintro e w1 ⟨rfl, rfl⟩
    rw [decide_eq_true c0]
    go_wp2
    go_ret
    exact ⟨rfl, Below.refl _ _⟩
  by_cases c2 : n < 0
  · go_enter Tryf.func3, Tryf.ntmps3
    go_wp2_with fail
    refine (unhide HBY _).mono ?_
    rintro e w1 ⟨rfl, rfl⟩
    rw [decide_eq_true c0]
    go_wp2
    go_ret
    exact ⟨rfl, Below.refl _ _⟩
  by_cases c3 : m < 0
  · go_enter Tryf.func3, Tryf.ntmps3
    go_wp2_with fail
    refine (unhide HBY _).mono ?_
    rintro e w1 ⟨rfl, rfl⟩
    rw [decide_eq_true c0]
    go_wp2
    go_ret
    exact ⟨rfl, Below.refl _ _⟩
  by_cases c4 : 65536 < n
  · go_enter Tryf.func3, Tryf.ntmps3
    go_wp2_with fail
    refine (unhide HBY _).mono ?_
    rintro e w1 ⟨rfl, rfl⟩
    rw [decide_eq_true c0]
    go_wp2
    go_ret
    exact ⟨rfl, Below.refl _ _⟩
  by_cases c5 : 65536 < m
  · go_enter Tryf.func3, Tryf.ntmps3
    go_wp2_with fail
    refine (unhide HBY _).mono ?_
    rintro e w1 ⟨rfl, rfl⟩
    rw [decide_eq_true c0]
    go_wp2
    go_ret
    exact ⟨rfl, Below.refl _ _⟩
  have c6 : m < n := by omega
  clear t
  go_enter Tryf.func3, Tryf.ntmps3
  go_wp2_with fail
  refine (unhide HBY _).mono ?_
  rintro e w1 ⟨rfl, rfl⟩
  rw [decide_eq_true c0]
  go_wp2
  all_goals
    go_ret
    exact ⟨rfl, Below.refl _ _⟩

/-- The specification, as the card has it. -/
abbrev spec : OpenSpec := OpenSpec.ofChange Rows.fnNumberedPrefixOfLongerSpec

set_option maxRecDepth 100000 in
theorem lifted (os : Os) (started : os.Started) (H : Type) (enc : TypeId × Value → H) :
    ReturnsInTold none {} Tryf.checked os 3 .any Input.okWide (spec.preRow enc Tryf.prog Tryf.f3 [] false []) (fun F => (spec.at F).post enc Tryf.prog Tryf.f3 false true false false) (aloneAtReturn Tryf.prog) nothingAlways := by
  refine returnsInTold_of_row (C := Tryf.checked) (s := spec) (by kernel_rfl) own started (by kernel_rfl) Tryf.func3
    (OpenSpec.witness_stopped (enc := enc) (C := Tryf.checked) false ⟨#[], #[.string ⟨#[]⟩, .int .i64 0, .int .i64 0], []⟩ 8 (by kernel_rfl) (by kernel_rfl) (by kernel_rfl) (by kernel_rfl)) ?_
  intro F W base args ds gs before _ hF hval0 hW _ _ hsz _ _
  have hval : ∀ (j : Nat) t v, Tryf.f3.params[j]? = some t → args[j]? = some v → Value.okWide Tryf.prog W .any base t v := hval0
  have hW' := hW
  obtain ⟨p, q, hA0, hV, rfl, hfz, hnd⟩ := hW
  have hA : DataW.TrodAll enc Tryf.prog W 0 (fun _ => true) true Tryf.f3.params.toList args.toList ds p := hA0
  rw [Tryf.params3] at hA hval
  obtain ⟨v0, v1, v2, d0, d1, d2, p0, p1, p2, rfl, rfl, rfl, h0, h1, h2⟩ := trodAll_three hA
  obtain ⟨rfl, rfl⟩ := trodVars_none hV
  obtain ⟨s, rfl, rfl, rfl, ws⟩ := open_string Tryf.underlying9 (hval 0 9 v0 rfl rfl) h0
  obtain ⟨a1, rfl, rfl, rfl, w1⟩ := open_int Tryf.underlying3 (hval 1 3 v1 rfl rfl) h1
  obtain ⟨a2, rfl, rfl, rfl, w2⟩ := open_int Tryf.underlying3 (hval 2 3 v2 rfl rfl) h2
  clear hA0 hval0
  refine (walk F s a1 a2 W hF ws).mono fun e W' ⟨he, bel⟩ => ?_
  subst he
  exact ⟨_, rfl, _, _, _, [], [], [], hW', trodAll_mk1 (shut_bool Tryf.underlying4 _), trodAll_mk3 (shut_string Tryf.underlying9 ws) (shut_int Tryf.underlying3 w1) (shut_int Tryf.underlying3 w2), rfl, bel.frame _, fun h => by cases h⟩

theorem stops : Tryf.pinned.checked.prog.stops = ["fmt.Sprint"] := by kernel_rfl
theorem stopKnobs : Tryf.pinned.checked.prog.stopKnobs = [] := by kernel_rfl
theorem quiet (os : Os) : Stop.quiet Tryf.pinned.checked.prog os := by
  intro k hk
  rw [stopKnobs] at hk
  cases hk

theorem proved : Rows.FnNumberedPrefixOfLongerToldSaid :=
  Claim7.holds_of_told_any (c := Rows.fnNumberedPrefixOfLongerRow) (s := spec) 3 Tryf.f3 "fmt.Sprint" [] [] _ _ _ (by kernel_rfl) rfl rfl rfl laidOut (by kernel_rfl) rfl ⟨rfl, rfl, rfl, rfl, rfl, rfl, rfl⟩ rfl rfl (by kernel_rfl) (by kernel_rfl) Tryf.func3 (by kernel_rfl)
    (of_decide_eq_true (by kernel_rfl)) (of_decide_eq_true (by kernel_rfl)) stops.symm rfl stopKnobs.symm (by kernel_rfl)
    (by kernel_rfl) (by kernel_rfl) (by kernel_rfl) (by kernel_rfl) (by kernel_rfl) (by kernel_rfl) (by kernel_rfl) (by kernel_rfl) (by kernel_rfl) rfl (by kernel_rfl) rfl rfl
    rfl rfl
    rfl (by kernel_rfl) (by kernel_rfl) (by kernel_rfl) (by decide) (by kernel_rfl)
    (OpenClaim.moreEntering_of (by kernel_rfl) (by kernel_rfl) (by kernel_rfl) (by kernel_rfl) (by kernel_rfl) (by kernel_rfl) (by kernel_rfl) (by kernel_rfl) (by kernel_rfl) (by kernel_rfl))
    ⟨_, WideRow.started_initial, quiet _⟩
    (fun os started _ H enc _ => lifted os started H enc)

end Go.Proofs.Qxb6608559aFmt.fnNumbered
