/-
  THE STATEMENT on FnLabelledKeptByComment: the early ways, the main way (Qxb6608559aGreatKeepWalk), the row's step.
-/
import Derived.Test.Qxb6608559aGreatKeepWalk
import Derived.ProofKit
import Derived.OpenShut
import Derived.ShutString
import Derived.ChangeOld
import Derived.Below
import Derived.Deep.Grids
import Derived.SliceStrings
namespace Go.Proofs.Qxb6608559aGreat.fnKeptByComment
open Go.ChangeShapes Go.WideShapes Go.ChangeAt Go.RowKit Go.Deep
set_option linter.unusedVariables false

theorem own : ownKnob Tryz.prog.godebug = none := by kernel_rfl
theorem laidOut : laidOutB Tryz.prog = true := by kernel_rfl

set_option maxRecDepth 100000 in
set_option maxHeartbeats 1000000 in
theorem walk (i : Int) (a1 a2 a3 : Option Addr) (n1 c1 n2 c2 n3 c3 : Nat) (xs : List Int) (bs : List Bool) (ss : Nat → ByteArray) (w : World)
    (l1 : n1 ≤ maxLen) (l2 : n2 ≤ maxLen) (l3 : n3 ≤ maxLen) (hx : InI w a1 n1 c1 xs) (hb : InB w a2 n2 c2 bs) (hs : InS w a3 n3 c3 ss) :
    Calls Tryz.prog 3 #[.slice a1 n1 c1, .slice a2 n2 c2, .int .i64 i, .slice a3 n3 c3] w fun e w' => e = .returned (.bool true) ∧ Below w.heap.size w w' := by
  by_cases t : n1 ≤ 65536 ∧ n2 ≤ 65536 ∧ n3 ≤ 65536
  · exact keep_main i a1 a2 a3 n1 c1 n2 c2 n3 c3 xs bs ss w t.1 t.2.1 t.2.2 hx hb hs
  by_cases c0 : 1048576 < n1 + n2 + n3
  · have hby := bytes5_early i a1 a2 a3 n1 c1 n2 c2 n3 c3 w l1 l2 l3 c0
    have HBY := hide hby
    clear hby hx hb hs
    unfold maxLen at l1 l2 l3
    go_enter Tryz.func3, Tryz.ntmps3
    go_wp2_with fail
    refine (unhide HBY).mono ?_
    rintro e w1 ⟨rfl, rfl⟩
    go_wp2
    go_ret
    exact ⟨rfl, Below.refl _ _⟩
  have hby := bytes5_any i a1 a2 a3 n1 c1 n2 c2 n3 c3 ss w (by omega) hs
  have HBY := hide hby
  clear hby hx hb hs
  unfold maxLen at l1 l2 l3
  have c1' : n1 ≤ 1048576 := by omega
  have c2' : n2 ≤ 1048576 := by omega
  have c3' : n3 ≤ 1048576 := by omega
  by_cases t1 : 65536 < n1
  · go_enter Tryz.func3, Tryz.ntmps3
    go_wp2_with fail
    refine (unhide HBY).mono ?_
    rintro e w1 ⟨⟨b, rfl⟩, rfl⟩
    cases b
    all_goals
      go_wp2
      go_ret
      exact ⟨rfl, Below.refl _ _⟩
  by_cases t2 : 65536 < n2
  · go_enter Tryz.func3, Tryz.ntmps3
    go_wp2_with fail
    refine (unhide HBY).mono ?_
    rintro e w1 ⟨⟨b, rfl⟩, rfl⟩
    cases b
    all_goals
      go_wp2
      go_ret
      exact ⟨rfl, Below.refl _ _⟩
  have t3 : 65536 < n3 := by omega
  go_enter Tryz.func3, Tryz.ntmps3
  go_wp2_with fail
  refine (unhide HBY).mono ?_
  rintro e w1 ⟨⟨b, rfl⟩, rfl⟩
  cases b
  all_goals
    go_wp2
    go_ret
    exact ⟨rfl, Below.refl _ _⟩

set_option maxRecDepth 100000 in
theorem lifted (os : Os) (started : os.Started) (H : Type) (enc : TypeId × Value → H) :
    ReturnsInHanded {} Tryz.checked os 3 .any (Rows.fnLabelledKeptByCommentSpec.pre6 enc Tryz.prog Tryz.f3 Rows.fnLabelledKeptByCommentRow.domain false) (Rows.fnLabelledKeptByCommentSpec.post enc Tryz.prog Tryz.f3 false true false false) := by
  refine returnsInHanded_of_change (C := Tryz.checked) own started (by kernel_rfl) Tryz.func3
    (ChangeSpec.witness6 (enc := enc) (C := Tryz.checked) false ⟨#[], #[.slice none 0 0, .slice none 0 0, .int .i64 0, .slice none 0 0], []⟩ 8 (by kernel_rfl) (by kernel_rfl) (by kernel_rfl) (by kernel_rfl)) ?_
  intro W base args ds gs before hval0 hW hcnd _
  have hval : ∀ (j : Nat) t v, Tryz.f3.params[j]? = some t → args[j]? = some v → Value.okWide Tryz.prog W .any base t v := hval0
  have hW' := hW
  obtain ⟨p, q, hA0, hV, rfl, hfz, hnd⟩ := hW
  have hA : DataW.TrodAll enc Tryz.prog W 0 (fun _ => true) true Tryz.f3.params.toList args.toList ds p := hA0
  rw [Tryz.params3] at hA hval
  obtain ⟨v0, vs0, d0, ds0, p0, q0, hargs, rfl, rfl, h0, r0⟩ := trodAll_cons hA
  obtain ⟨v1, vs1, d1, ds1, p1, q1, rfl, rfl, rfl, h1, r1⟩ := trodAll_cons r0
  obtain ⟨v2, vs2, d2, ds2, p2, q2, rfl, rfl, rfl, h2, r2⟩ := trodAll_cons r1
  obtain ⟨v3, vs3, d3, ds3, p3, q3, rfl, rfl, rfl, h3, r3⟩ := trodAll_cons r2
  obtain ⟨rfl, rfl, rfl⟩ := trodAll_nil r3
  obtain rfl : args = #[v0, v1, v2, v3] := by cases args; simp_all
  obtain ⟨rfl, rfl⟩ := trodVars_none hV
  obtain ⟨a0, len0, cap0, rfl⟩ := okWide_slice Tryz.underlying22 (hval 0 22 v0 rfl rfl)
  have k0 := h0
  have lt0 : ∀ x ∈ p0, x.block < W.heap.size := by obtain ⟨m, hm⟩ := k0; exact DataW.trod_lt m _ _ _ hm
  obtain ⟨xs, w0, l0⟩ : ∃ xs, InI W a0 len0 cap0 xs ∧ len0 ≤ maxLen := by
    obtain ⟨fuel, hf⟩ := h0
    rcases open_ints Tryz.underlying22 Tryz.underlying3 (by kernel_rfl) hf with ⟨hcs, _⟩ | ⟨x, l, c, zs, hcs, _, hl, hm, hz, _, hcell, hwz⟩
    · simp [Value.cells] at hcs
      obtain ⟨rfl, rfl, rfl⟩ := hcs
      exact ⟨[], .inl ⟨rfl, rfl, rfl, rfl⟩, Nat.zero_le _⟩
    · simp [Value.cells] at hcs
      obtain ⟨rfl, rfl, rfl⟩ := hcs
      simp only [if_true] at hz
      refine ⟨zs.take len0, .inr ⟨x, rfl, by simp; omega, fun i hi => ?_⟩, Nat.le_trans hl hm⟩
      have e : (zs.take len0).getD i 0 = zs.getD i 0 := by simp [hi]
      rw [e]
      exact hcell i (by omega)
  obtain ⟨a1, len1, cap1, rfl⟩ := okWide_slice Tryz.underlying23 (hval 1 23 v1 rfl rfl)
  have k1 := h1
  have lt1 : ∀ x ∈ p1, x.block < W.heap.size := by obtain ⟨m, hm⟩ := k1; exact DataW.trod_lt m _ _ _ hm
  obtain ⟨bs, w1, l1⟩ : ∃ bs, InB W a1 len1 cap1 bs ∧ len1 ≤ maxLen := by
    obtain ⟨fuel, hf⟩ := h1
    rcases open_bools Tryz.underlying23 Tryz.underlying4 (by kernel_rfl) hf with ⟨hcs, _⟩ | ⟨x, l, c, B, hcs, _, hl, hm, _, hcell⟩
    · simp [Value.cells] at hcs
      obtain ⟨rfl, rfl, rfl⟩ := hcs
      exact ⟨[], .inl ⟨rfl, rfl, rfl, rfl⟩, Nat.zero_le _⟩
    · simp [Value.cells] at hcs
      obtain ⟨rfl, rfl, rfl⟩ := hcs
      refine ⟨(List.range len1).map B, .inr ⟨x, rfl, by simp, fun i hi => ?_⟩, Nat.le_trans hl hm⟩
      have e : ((List.range len1).map B).getD i false = B i := by simp [hi]
      rw [e]
      exact hcell i (by omega)
  obtain ⟨a2, rfl, rfl, rfl, w2⟩ := open_int Tryz.underlying3 (hval 2 3 v2 rfl rfl) h2
  obtain ⟨a3, len3, cap3, rfl⟩ := okWide_slice Tryz.underlying24 (hval 3 24 v3 rfl rfl)
  have k3 := h3
  have lt3 : ∀ x ∈ p3, x.block < W.heap.size := by obtain ⟨m, hm⟩ := k3; exact DataW.trod_lt m _ _ _ hm
  obtain ⟨ss, w3, l3⟩ : ∃ ss, InS W a3 len3 cap3 ss ∧ len3 ≤ maxLen := by
    obtain ⟨fuel, hf⟩ := h3
    rcases open_strings Tryz.underlying24 Tryz.underlying9 (by kernel_rfl) hf with ⟨hcs, _⟩ | ⟨x, l, c, S, hcs, _, hl, hm, hz, _, hcell, hsz⟩
    · simp [Value.cells] at hcs
      obtain ⟨rfl, rfl, rfl⟩ := hcs
      exact ⟨fun _ => ByteArray.empty, .inl ⟨rfl, rfl, rfl⟩, Nat.zero_le _⟩
    · simp [Value.cells] at hcs
      obtain ⟨rfl, rfl, rfl⟩ := hcs
      simp only [if_true] at hz
      refine ⟨fun i => S.getD i ByteArray.empty, .inr ⟨x, rfl, fun i hi => ⟨hcell i (by omega), ?_⟩⟩, Nat.le_trans hl hm⟩
      have hi' : i < S.length := by omega
      show (S.getD i ByteArray.empty).size ≤ maxLen
      rw [List.getD_eq_getElem?_getD, List.getElem?_eq_getElem hi']
      exact hsz _ (List.getElem_mem hi')
  clear hA0 hval0
  refine (walk a2 a0 a1 a3 len0 cap0 len1 cap1 len3 cap3 xs bs ss W l0 l1 l3 w0 w1 w3).mono fun e W' ⟨he, bel⟩ => ?_
  subst he
  exact ⟨_, rfl, _, _, _, [], _, [], hW', trodAll_mk1 (shut_bool Tryz.underlying4 _), (trodAll_cons_mk (Below.trod laidOut (by kernel_rfl) (of_decide_eq_true (by kernel_rfl)) k0 bel lt0) (trodAll_cons_mk (Below.trod laidOut (by kernel_rfl) (of_decide_eq_true (by kernel_rfl)) k1 bel lt1) (trodAll_cons_mk (shut_int Tryz.underlying3 w2) (trodAll_cons_mk (Below.trod laidOut (by kernel_rfl) (of_decide_eq_true (by kernel_rfl)) k3 bel lt3) trodAll_mk0)))), rfl, bel.frame _, fun h => by cases h⟩

theorem over : Rows.fnLabelledKeptByCommentRow.holds Tryz.pinned (OpenSpec.ofChange Rows.fnLabelledKeptByCommentSpec) :=
  OpenClaim.holds_of_wide 3 Tryz.f3 rfl rfl rfl rfl rfl rfl rfl ⟨rfl, rfl, rfl, rfl, rfl⟩ rfl rfl rfl rfl rfl (by kernel_rfl) Tryz.func3 (by kernel_rfl)
    (of_decide_eq_true (by kernel_rfl)) (by unfold Func.isWrapper; first | (rw [if_pos (by decide +kernel)]; kernel_rfl) | (rw [if_neg (by decide +kernel)]; exact ⟨rfl, rfl⟩))
    (fun os started H enc _ => lifted os started H enc)

/-- THE STATEMENT -/
theorem proved : Rows.FnLabelledKeptByCommentSaid := over
end Go.Proofs.Qxb6608559aGreat.fnKeptByComment
