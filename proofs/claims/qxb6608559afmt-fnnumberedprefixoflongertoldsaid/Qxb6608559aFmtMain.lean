/-
  THE WALK of FnNumberedPrefixOfLonger's main way.
-/
import Derived.Test.Qxb6608559aFmtSprint
import Derived.Deep.RegionHeld3
import Derived.Deep.QuietTactic
import Derived.BigQuiet
namespace Go.Proofs.Qxb6608559aFmt
open Go.RowKit Go.Kit Go.Extern.Stop Go.Stop Go.Extern

set_option maxHeartbeats 400000 in
theorem bytes4_any (s : ByteArray) (n m : Int) (w : World) (hs : s.size ≤ maxLen) :
    Calls Tryf.prog 4 #[.string s, .int .i64 n, .int .i64 m] w fun e w' => e = .returned (.bool (decide (s.size ≤ 1048576))) ∧ w' = w := by
  unfold maxLen at hs
  by_cases t1 : s.size ≤ 1048576
  · go_enter Tryf.func4, Tryf.ntmps4
    go_wp2
    go_ret
    simp [t1]
  · go_enter Tryf.func4, Tryf.ntmps4
    go_wp2
    go_ret
    simp [t1]

theorem dec_length (k : Nat) (h : k ≤ 65536) : (Lib.decDigits k).length ≤ 21 := by
  rw [← itoa_nat]
  refine FmtText.itoa_length_le (k := .i64) ?_
  have hmin : IntKind.i64.min = -9223372036854775808 := rfl
  have hmax : IntKind.i64.max = 9223372036854775807 := rfl
  simp only [Lit.wf, Bool.and_eq_true, decide_eq_true_eq]; omega

theorem add_name (s : ByteArray) (k : Nat) (T : ByteArray) (w : World) (hs : s.size ≤ 4096) (hk : k ≤ 65536) (eT : nm s k = T) :
    (Op.stringOp .add s ⟨(Lib.decDigits k).toArray⟩).run Tryf.prog w = .ok (.string T) w := by
  have hl := dec_length k hk
  have hz : (⟨(Lib.decDigits k).toArray⟩ : ByteArray).size = (Lib.decDigits k).length := by simp [ByteArray.size]
  rw [run_string_add_sum (P := Tryf.prog) _ _ _ (by rw [hz]; omega), ← eT]
  have : s ++ (⟨(Lib.decDigits k).toArray⟩ : ByteArray) = nm s k := by
    have h := ByteArray.mk_append_mk s.data.toList (Lib.decDigits k)
    rw [Array.toArray_toList] at h
    exact h
  rw [this]

set_option maxHeartbeats 1000000 in
theorem law_main (F : Interp) (s : ByteArray) (n m : Nat) (w : World) (hF : F.told.answers w.tape) (hs : s.size ≤ 4096) (hm : m ≤ 65536) (hnm : n ≤ m) :
    Calls Tryf.prog 3 #[.string s, .int .i64 n, .int .i64 m] w fun e w' => e = .returned (.bool true) ∧ Below w.heap.size w w' := by
  have HF := hide hF
  clear hF
  go_enter Tryf.func3, Tryf.ntmps3
  go_wp2_with fail
  refine (bytes4_any s n m _ (by unfold maxLen; omega)).mono ?_
  rintro e w0 ⟨rfl, rfl⟩
  rw [decide_eq_true (show s.size ≤ 1048576 by omega)]
  go_wp2_with fail
  · go_ret
    exact ⟨rfl, Below.refl _ _⟩
  refine (zzNumbered_any F s m _ (unhide HF) hs hm).mono ?_
  rintro e w1 ⟨rfl, hr1, hb1⟩
  go_wp2_with fail
  refine (zzNumbered_any F s n _ (by rw [hb1.tape]; exact unhide HF) hs (by omega)).mono ?_
  rintro e w2 ⟨rfl, hr2, hb2⟩
  have hr1' := hr1.kept hb2
  have hbel := hb1.trans (hb2.mono hb1.size)
  have HR1 := hide hr1'
  have HR2 := hide hr2
  have HBEL := hide hbel
  have hg1 := hr1'.lt
  have hg2 := hr2.lt
  generalize hg0 : w0.heap.size = g1 at *
  have HG0 := hide hg0
  clear hg0
  generalize w1.heap.size = g2 at *
  clear hr1 hr1' hr2 hb1 hb2 hbel HF
  have n1 : ((m : Int) != (m : Int)) = false := by simp
  have n2 : ((n : Int) != (n : Int)) = false := by simp
  go_wp2_with fail
  go_loopw [9] (fun t wr => ∃ k : Nat, k ≤ m ∧ t = .int .i64 k ∧ Below w2.heap.size w2 wr) (fun t _ => m - (intOf t).toNat)
  case atStart => exact ⟨0, Nat.zero_le _, rfl, Below.refl _ _⟩
  case round =>
    obtain ⟨k, hk, rfl, hb⟩ := hrel
    by_cases hlt : k < m
    · have i1 : (0 : Int) ≤ (k : Int) := by omega
      have i2 : (k : Int) < (m : Int) := by omega
      have c0 := (unhide HR1).cell (i := k) (by simp; exact hlt)
      have e0 : ((List.range m).map (nm s)).getD k ByteArray.empty = nm s k := by simp [hlt]
      rw [e0] at c0
      have cT := (hb.cell (p := ⟨g1, k, none⟩) hg1).trans c0
      have hgr : g1 < wr.heap.size := Nat.lt_of_lt_of_le hg1 hb.size
      clear c0 e0
      obtain ⟨T, eT⟩ : ∃ T, nm s k = T := ⟨_, rfl⟩
      rw [eT] at cT
      have hadd := fun w => add_name s k T w hs (by omega) eT
      clear eT
      go_wp2_with fail
      go_region_held3 (fun w' => w'.cell? ⟨g1, k, none⟩ = some (.string T)) (first | exact cT | exact (hbi.cell hgr).trans cT) ((go_at_call 6; refine (itoa_any k _ (by omega)).mono ?_; rintro e w' ⟨rfl, hbi⟩))
      have hbR : Below w2.heap.size w2 w' := hb.trans (((Below.refl _ _).drew.trans hbi).mono hb.size)
      have HBR := hide hbR
      clear hbR hbi
      go_wp2
      go_roundw
      case rel => exact ⟨k + 1, by omega, by go_num, unhide HBR⟩
      case measure => simp [intOf]; omega
    · have hkm : k = m := by omega
      subst hkm
      go_wp2_with fail
      go_loopw [10] (fun t wx => ∃ j : Nat, j ≤ n ∧ t = .int .i64 j ∧ ∃ nq, wx = wr.drewN nq) (fun t _ => n - (intOf t).toNat)
      case atStart => exact ⟨0, Nat.zero_le _, rfl, 0, rfl⟩
      case round =>
        obtain ⟨j, hj, rfl, nq, rfl⟩ := hrel
        by_cases hlt2 : j < n
        · have i1 : (0 : Int) ≤ (j : Int) := by omega
          have i2 : (j : Int) < (n : Int) := by omega
          have i3 : (j : Int) < (k : Int) := by omega
          have c1 := (unhide HR1).cell (i := j) (by simp; omega)
          have c2 := (unhide HR2).cell (i := j) (by simp; omega)
          have e1 : ((List.range k).map (nm s)).getD j ByteArray.empty = nm s j := by simp [show j < k by omega]
          have e2 : ((List.range n).map (nm s)).getD j ByteArray.empty = nm s j := by simp [hlt2]
          rw [e1] at c1
          rw [e2] at c2
          have cT1 := (hb.cell (p := ⟨g1, j, none⟩) hg1).trans c1
          have cT2 := (hb.cell (p := ⟨g2, j, none⟩) hg2).trans c2
          clear c1 c2 e1 e2
          generalize nm s j = T at *
          go_wp2_with fail
          go_quiet (fail)
          go_wp2
          go_roundw
          case rel => exact ⟨j + 1, by omega, by go_num, _, rfl⟩
          case measure => simp [intOf]; omega
        · go_wp2
          go_ret
          rw [unhide HG0]
          exact ⟨rfl, below_drewN ((unhide HBEL).trans (hb.mono (Nat.le_of_lt hg1))) nq⟩
end Go.Proofs.Qxb6608559aFmt
