/-
  THE WALK of FnLabelledKeptByComment (the main way: the three lengths up to 65536).
-/
import Derived.Test.Qxb6608559aGreatKeep
namespace Go.Proofs.Qxb6608559aGreat
open Go.RowKit

set_option maxRecDepth 100000 in
set_option maxHeartbeats 2000000 in
theorem keep_main (i : Int) (a1 a2 a3 : Option Addr) (n1 c1 n2 c2 n3 c3 : Nat) (xs : List Int) (bs : List Bool) (ss : Nat → ByteArray) (w : World)
    (hn1 : n1 ≤ 65536) (hn2 : n2 ≤ 65536) (hn3 : n3 ≤ 65536) (hx : InI w a1 n1 c1 xs) (hb : InB w a2 n2 c2 bs) (hs : InS w a3 n3 c3 ss) :
    Calls Tryz.prog 3 #[.slice a1 n1 c1, .slice a2 n2 c2, .int .i64 i, .slice a3 n3 c3] w fun e w' => e = .returned (.bool true) ∧ Below w.heap.size w w' := by
  have L1 := hide hx.len
  have L2 := hide hb.len
  have hmk3 := fun w => run_make_row' (P := Tryz.prog) 22 3 (.int .i64 0) 8 Tryz.underlying22 (by kernel_rfl) rfl .i64 .i64 n1 (by omega) (by omega) w
  have hmk4 := fun w => run_make_row' (P := Tryz.prog) 23 4 (.bool false) 1 Tryz.underlying23 (by kernel_rfl) rfl .i64 .i64 n2 (by omega) (by omega) w
  have hmk9 := fun w => run_make_row' (P := Tryz.prog) 24 9 (.string ⟨#[]⟩) 16 Tryz.underlying24 (by kernel_rfl) rfl .i64 .i64 n3 (by omega) (by omega) w
  have HX := hide hx
  have HB := hide hb
  have HS := hide hs
  clear hx hb hs
  go_enter Tryz.func3, Tryz.ntmps3
  go_wp2_with fail
  refine (bytes5_any i a1 a2 a3 n1 c1 n2 c2 n3 c3 ss _ (by omega) (unhide HS)).mono ?_
  rintro e w0 ⟨⟨b, rfl⟩, rfl⟩
  cases b with
  | false =>
    go_wp2
    go_ret
    exact ⟨rfl, Below.refl _ _⟩
  | true =>
    go_upto_if 40 with fail
    go_cut [0, 9] (fun s0 _ wx => ∃ a c, s0 = .slice a n1 c ∧ OwnI wx a xs ∧ Below w0.heap.size w0 wx)
    case first =>
      rcases unhide HX with ⟨rfl, rfl, rfl, rfl⟩ | ⟨x, rfl, hl, hc⟩
      · go_wp2
        go_meet
        case rel => exact ⟨none, 0, rfl, .inl rfl, Below.refl _ _⟩
      · have HC := hide hc
        clear hc
        go_wp2_with (with_reducible refine wpList_copy_row 22 3 Tryz.underlying22 (by kernel_rfl) (.int .i64 0) rfl (.tmp 44) (.tmp 45) rfl _ _ _ _ (xs.map (Value.int .i64)) (by simp [hl]) (one_ints xs) rfl rfl w0 rfl rfl (src_ints hl (unhide HC)) ?_)
        intro w1 hr1 hb1
        go_wp2
        go_meet
        case rel => exact ⟨_, _, rfl, .inr ⟨_, rfl, hr1.out⟩, hb1⟩
    case rest =>
      obtain ⟨b1, d1, rfl, hx1, hbel1⟩ := hcut
      clear HX
      have HB1 := hide ((unhide HB).later hbel1)
      have HX1 := hide hx1
      clear HB hx1
      go_upto_if 49 with fail
      go_cut [1, 10] (fun s1 _ wx => ∃ a c, s1 = .slice a n2 c ∧ OwnB wx a bs ∧ Below wc.heap.size wc wx)
      case first =>
        rcases unhide HB1 with ⟨rfl, rfl, rfl, rfl⟩ | ⟨x, rfl, hl, hc⟩
        · go_wp2
          go_meet
          case rel => exact ⟨none, 0, rfl, .inl rfl, Below.refl _ _⟩
        · have HC := hide hc
          clear hc
          go_wp2_with (with_reducible refine wpList_copy_row 23 4 Tryz.underlying23 (by kernel_rfl) (.bool false) rfl (.tmp 53) (.tmp 54) rfl _ _ _ _ (bs.map Value.bool) (by simp [hl]) (one_bools bs) rfl rfl wc rfl rfl (src_bools hl (unhide HC)) ?_)
          intro w1 hr1 hb1
          go_wp2
          go_meet
          case rel => exact ⟨_, _, rfl, .inr ⟨_, rfl, hr1.out⟩, hb1⟩
      case rest =>
        obtain ⟨b2, d2, rfl, hb2, hbel2⟩ := hcut
        have hx2 := (unhide HX1).kept hbel2
        have hbel := hbel1.trans (hbel2.mono hbel1.size)
        have HS2 := hide ((unhide HS).later hbel)
        have HX2 := hide hx2
        have HB2 := hide hb2
        have HBEL := hide hbel
        clear HB1 HX1 hbel1 hbel2 hmk3 hmk4 hx2 hb2 HS hbel
        go_wp2_with fail
        · go_ret
          exact ⟨rfl, unhide HBEL⟩
        go_loop [11, 12] (fun s t => ∃ (k : Nat) (z : Int), k ≤ n3 ∧ t = .int .i64 k ∧ s = .int .i64 z) (fun _ t => n3 - (intOf t).toNat)
        case atStart => exact ⟨0, _, Nat.zero_le _, rfl, rfl⟩
        case round =>
          obtain ⟨k, z, hk, rfl, rfl⟩ := hrel
          by_cases hlt : k < n3
          · obtain ⟨b, off, rfl, hb, hc⟩ := (unhide HS2).at hlt
            obtain ⟨ck, hl⟩ := hc k hlt
            unfold maxLen at hl
            generalize ss k = T at *
            have i1 : (0 : Int) ≤ (k : Int) := by omega
            have i2 : (k : Int) < (n3 : Int) := by omega
            clear hc
            go_wp2
            · go_ret
              exact ⟨rfl, unhide HBEL⟩
            · go_round
              case rel => exact ⟨k + 1, _, by omega, by go_num, rfl⟩
              case measure => simp [intOf]; omega
          · go_wp2_with fail
            refine (premise_any b1 b2 n1 n2 d1 d2 i xs bs _ (by omega) (by omega) (unhide L1) (unhide L2) (unhide HX2)).mono ?_
            rintro e w2 ⟨⟨b, rfl, hprem⟩, nq, hw2⟩
            have hx3 : OwnI w2 b1 xs := by rw [hw2]; exact (unhide HX2)
            have hb3 : OwnB w2 b2 bs := by rw [hw2]; exact (unhide HB2)
            have hbel3 : Below w0.heap.size w0 w2 := by rw [hw2]; exact below_drewN (unhide HBEL) nq
            have hs3 : InS w2 a3 n3 c3 ss := by rw [hw2]; exact (unhide HS2).later (below_drewN (Below.refl _ _) nq)
            clear HX2 HB2 HBEL hw2 HS2
            cases b with
            | false =>
              clear hprem
              go_wp2
              go_ret
              exact ⟨rfl, hbel3⟩
            | true =>
              have hP := hprem rfl
              have e12 : n1 = n2 := by rw [← unhide L1, ← unhide L2]; exact hP.len
              subst e12
              have HP := hide hP
              have HX3 := hide hx3
              have HB3 := hide hb3
              have HS3 := hide hs3
              have HBEL := hide hbel3
              clear hprem hP hx3 hb3 hs3 hbel3
              go_upto_if 90 with fail
              go_cut [13, 14] (fun s13 _ wx => ∃ a m c, s13 = .slice a m c ∧ Below w2.heap.size w2 wx)
              case first =>
                cases a3 with
                | none =>
                  go_wp2
                  go_meet
                  case rel => exact ⟨_, _, _, rfl, Below.refl _ _⟩
                | some x3 =>
                  go_wp2_with fail
                  have S0 := made_strs w2 n3
                  have B0 : Below w2.heap.size w2 (w2.alloc (.cells (madeCells #[.string ⟨#[]⟩] n3) 9)) := (Below.refl _ _).alloc (Nat.le_refl _) _
                  clear hmk9
                  generalize w2.alloc (.cells (madeCells #[.string ⟨#[]⟩] n3) 9) = w5 at *
                  have HS0 := hide S0
                  have HB0 := hide B0
                  clear S0 B0
                  go_loopw [14] (fun t wr => ∃ k : Nat, k ≤ n3 ∧ t = .int .i64 k ∧ RowS wr w2.heap.size n3 ∧ Below w2.heap.size w2 wr) (fun t _ => n3 - (intOf t).toNat)
                  case atStart => exact ⟨0, Nat.zero_le _, rfl, unhide HS0, unhide HB0⟩
                  case round =>
                    obtain ⟨k, hk, rfl, hR, hB⟩ := hrel
                    by_cases hlt : k < n3
                    · obtain ⟨b, off, hx, hb, hc⟩ := (unhide HS3).at hlt
                      cases hx
                      have ck := (hB.cell (p := ⟨b, off + k, none⟩) hb).trans (hc k hlt).1
                      generalize ss k = T at *
                      have i1 : (0 : Int) ≤ (k : Int) := by omega
                      have i2 : (k : Int) < (n3 : Int) := by omega
                      obtain ⟨v, o1⟩ := hR.cell hlt
                      have o2 := hR.free k
                      have HR2 := hide (hR.store k (.string T))
                      have HB2 := hide (hB.setCell (p := ⟨w2.heap.size, k, none⟩) (Nat.le_refl _) (.string T))
                      clear hc hR hB hb
                      go_wp2
                      go_roundw
                      case rel => exact ⟨k + 1, by omega, by go_num, unhide HR2, unhide HB2⟩
                      case measure => simp [intOf]; omega
                    · have HB2 := hide hB
                      clear hR hB
                      go_wp2
                      go_meet
                      case rel => exact ⟨_, _, _, rfl, unhide HB2⟩
              case rest =>
                obtain ⟨b3, m3, d3, rfl, hbel4⟩ := hcut
                have HX4 := hide ((unhide HX3).kept hbel4)
                have HB4 := hide ((unhide HB3).kept hbel4)
                have HBEL4 := hide ((unhide HBEL).trans (hbel4.mono (unhide HBEL).size))
                clear hmk9 HX3 HB3 HS3 HBEL hbel4
                go_wp2_with fail
                go_loop [15, 16] (fun s t => ∃ k : Nat, k ≤ n1 ∧ t = .int .i64 k ∧ s = .bool (wantTo i xs bs k)) (fun _ t => n1 - (intOf t).toNat)
                case atStart => exact ⟨0, Nat.zero_le _, rfl, rfl⟩
                case round =>
                  obtain ⟨k, hk, rfl, rfl⟩ := hrel
                  by_cases hlt : k < n1
                  · have i1 : (0 : Int) ≤ (k : Int) := by omega
                    have i2 : (k : Int) < (n1 : Int) := by omega
                    obtain ⟨g1, rfl, hg1, hc1⟩ := (unhide HX4).cell (k := k) (by rw [unhide L1]; omega)
                    obtain ⟨g2, rfl, hg2, hc2⟩ := (unhide HB4).cell (k := k) (by rw [unhide L2]; omega)
                    have cx := hc1 k (by rw [unhide L1]; omega)
                    have cb := hc2 k (by rw [unhide L2]; omega)
                    obtain ⟨x, ex⟩ : ∃ x, xs.getD k 0 = x := ⟨_, rfl⟩
                    obtain ⟨b, eb⟩ : ∃ b, bs.getD k false = b := ⟨_, rfl⟩
                    have EW := hide (show wantTo i xs bs (k + 1) = (wantTo i xs bs k || (x == i && b)) by rw [wantTo, ex, eb])
                    rw [ex] at cx
                    rw [eb] at cb
                    clear hc1 hc2 ex eb
                    obtain ⟨q, eq⟩ : ∃ q, (x == i) = q := ⟨_, rfl⟩
                    rw [eq] at EW
                    cases q <;> cases b
                    all_goals
                      go_wp2
                      go_round
                      case rel => exact ⟨k + 1, by omega, by go_num, by rw [unhide EW]; simp⟩
                      case measure => simp [intOf]; omega
                  · have hkn : k = n1 := by omega
                    subst hkn
                    go_wp2_with fail
                    refine (new_any b1 b2 k d1 d2 i xs bs _ (by omega) (unhide L1) (unhide L2) (unhide HX4) (unhide HB4)).mono ?_
                    rintro e w8 ⟨rfl, hF1⟩
                    go_wp2_with fail
                    refine (zzLabelled_any _ i xs bs _ (hF1.read (unhide L1)) (by rw [unhide L1]; omega)).mono ?_
                    rintro e w9 ⟨rfl, rfl⟩
                    rw [unhide L1, want_lab (unhide HP) (unhide L1)]
                    go_wp2_with fail
                    refine (comment_any _ _ i _ _ _ xs bs k _ hF1 (unhide L1) (unhide L2) (by omega)).mono ?_
                    rintro e w10 ⟨rfl, hF2⟩
                    have l3 : (xs ++ [i]).length = k + 1 := by simp [unhide L1]
                    go_wp2_with fail
                    refine (zzLabelled_any _ i (xs ++ [i]) (bs ++ [false]) _ (hF2.read l3) (by rw [l3]; omega)).mono ?_
                    rintro e w11 ⟨rfl, rfl⟩
                    rw [l3, lab_longer (unhide L1) (unhide L2), want_lab (unhide HP) (unhide L1)]
                    have HF := hide ((unhide HBEL4).trans (hF2.below.mono (unhide HBEL4).size))
                    clear hF1 hF2
                    cases wantTo i xs bs k
                    all_goals
                      go_wp2
                      go_ret
                      exact ⟨rfl, unhide HF⟩
end Go.Proofs.Qxb6608559aGreat
