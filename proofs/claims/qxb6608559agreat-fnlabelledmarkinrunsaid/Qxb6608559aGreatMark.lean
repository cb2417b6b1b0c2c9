/-
  THE WALK of FnLabelledMarkInRun (the main way: both lengths up to 65536).
-/
import Derived.Test.Qxb6608559aGreatCopy
namespace Go.Proofs.Qxb6608559aGreat
open Go.RowKit

/-- The two new rows, while they are filled. -/
structure Cop (w2 wr : World) (n : Nat) (A : List Int) (B : List Bool) : Prop where
  rI : RowI wr w2.heap.size A
  rB : RowB wr (w2.heap.size + 1) B
  lA : A.length = n + 1
  lB : B.length = n + 1
  bel : Below w2.heap.size w2 wr

theorem Cop.start (w2 : World) (n : Nat) : Cop w2 ((w2.alloc (.cells (madeCells #[.int .i64 0] (n + 1)) 3)).alloc (.cells (madeCells #[.bool false] (n + 1)) 4)) n (List.replicate (n + 1) 0) (List.replicate (n + 1) false) where
  rI := (made_ints w2 (n + 1)).kept ((Below.refl _ _).alloc (Nat.le_refl _) _)
  rB := by
    have h := made_bools (w2.alloc (.cells (madeCells #[.int .i64 0] (n + 1)) 3)) (n + 1)
    rwa [World.size_alloc] at h
  lA := by simp
  lB := by simp
  bel := ((Below.refl _ _).alloc (Nat.le_refl _) _).alloc (by simp) _

theorem Cop.store {w2 wr : World} {n : Nat} {A : List Int} {B : List Bool} (h : Cop w2 wr n A B) (j : Nat) (x : Int) (b : Bool) :
    Cop w2 ((wr.setCell ⟨w2.heap.size, j, none⟩ (.int .i64 x)).setCell ⟨w2.heap.size + 1, j, none⟩ (.bool b)) n (A.set j x) (B.set j b) where
  rI := (h.rI.store j x).other _ _ _ (by omega)
  rB := (h.rB.other _ _ _ (by omega)).store j b
  lA := by simp [h.lA]
  lB := by simp [h.lB]
  bel := (h.bel.setCell (Nat.le_refl _) _).setCell (by simp) _

theorem getD_set {α : Type} (A : List α) (j m : Nat) (x d : α) (hj : j < A.length) : (A.set j x).getD m d = if m = j then x else A.getD m d := by
  by_cases h : m = j
  · subst h; simp [hj]
  · rw [if_neg h]; simp [List.getElem?_set_ne (Ne.symm h)]

theorem pre_step {α : Type} {d : α} {xs A : List α} {k : Nat} {x : α} (h : ∀ j, j < k → A.getD j d = xs.getD j d) (ex : xs.getD k d = x) (hk : k < A.length) : ∀ j, j < k + 1 → (A.set k x).getD j d = xs.getD j d := by
  intro j hj
  rw [getD_set _ _ _ _ _ hk]
  by_cases e : j = k
  · subst e; rw [if_pos rfl, ex]
  · rw [if_neg e]; exact h j (by omega)
theorem ins_start {α : Type} {d : α} {xs A : List α} {p : Nat} {v : α} (h : ∀ j, j < p → A.getD j d = xs.getD j d) (hp : p < A.length) : Ins d xs p v (A.set p v) p :=
  ⟨fun j hj => by rw [getD_set _ _ _ _ _ hp, if_neg (by omega)]; exact h j hj, by rw [getD_set _ _ _ _ _ hp, if_pos rfl], fun j h1 h2 => by omega⟩
theorem ins_step {α : Type} {d : α} {xs A : List α} {p k : Nat} {v x : α} (h : Ins d xs p v A k) (hpk : p ≤ k) (ex : xs.getD k d = x) (hk : k + 1 < A.length) : Ins d xs p v (A.set (k + 1) x) (k + 1) := by
  obtain ⟨h1, h2, h3⟩ := h
  refine ⟨fun j hj => ?_, ?_, fun j hj hj2 => ?_⟩
  · rw [getD_set _ _ _ _ _ hk, if_neg (by omega)]; exact h1 j hj
  · rw [getD_set _ _ _ _ _ hk, if_neg (by omega)]; exact h2
  · rw [getD_set _ _ _ _ _ hk]
    by_cases e : j = k
    · subst e; rw [if_pos rfl, ex]
    · rw [if_neg (by omega)]; exact h3 j hj (by omega)

set_option maxRecDepth 100000 in
set_option maxHeartbeats 2000000 in
theorem mark_main (i p : Int) (label : Bool) (a1 a2 : Option Addr) (n1 c1 n2 c2 : Nat) (xs : List Int) (bs : List Bool) (w : World)
    (hn1 : n1 ≤ 65536) (hn2 : n2 ≤ 65536) (hx : InI w a1 n1 c1 xs) (hb : InB w a2 n2 c2 bs) :
    Calls Tryz.prog 4 #[.slice a1 n1 c1, .slice a2 n2 c2, .int .i64 i, .int .i64 p, .bool label] w fun e w' => e = .returned (.bool true) ∧ Below w.heap.size w w' := by
  have L1 := hide hx.len
  have L2 := hide hb.len
  have hmk3 := fun w => run_make_row' (P := Tryz.prog) 22 3 (.int .i64 0) 8 Tryz.underlying22 (by kernel_rfl) rfl .i64 .i64 n1 (by omega) (by omega) w
  have hmk4 := fun w => run_make_row' (P := Tryz.prog) 23 4 (.bool false) 1 Tryz.underlying23 (by kernel_rfl) rfl .i64 .i64 n2 (by omega) (by omega) w
  have HX := hide hx
  have HB := hide hb
  clear hx hb
  go_enter Tryz.func4, Tryz.ntmps4
  go_wp2_with fail
  refine (bytes10_any i p label a1 a2 n1 c1 n2 c2 _ (by unfold maxLen; omega) (by unfold maxLen; omega)).mono ?_
  rintro e w0 ⟨rfl, rfl⟩
  rw [decide_eq_true (show n1 + n2 ≤ 1048576 by omega)]
  go_upto_if 37 with fail
  go_cut [0, 11] (fun s0 _ wx => ∃ a c, s0 = .slice a n1 c ∧ OwnI wx a xs ∧ Below w0.heap.size w0 wx)
  case first =>
    rcases unhide HX with ⟨rfl, rfl, rfl, rfl⟩ | ⟨x, rfl, hl, hc⟩
    · go_wp2
      go_meet
      case rel => exact ⟨none, 0, rfl, .inl rfl, Below.refl _ _⟩
    · have HC := hide hc
      clear hc
      go_wp2_with (with_reducible refine wpList_copy_row 22 3 Tryz.underlying22 (by kernel_rfl) (.int .i64 0) rfl (.tmp 41) (.tmp 42) rfl _ _ _ _ (xs.map (Value.int .i64)) (by simp [hl]) (one_ints xs) rfl rfl w0 rfl rfl (src_ints hl (unhide HC)) ?_)
      intro w1 hr1 hb1
      go_wp2
      go_meet
      case rel => exact ⟨_, _, rfl, .inr ⟨_, rfl, hr1.out⟩, hb1⟩
  case rest =>
    obtain ⟨b1, d1, rfl, hx1, hbel1⟩ := hcut
    clear HX
    have HB1 := hide ((unhide HB).later hbel1)
    have HX1 := hide hx1
    clear HB hx1
    go_upto_if 46 with fail
    go_cut [1, 12] (fun s1 _ wx => ∃ a c, s1 = .slice a n2 c ∧ OwnB wx a bs ∧ Below wc.heap.size wc wx)
    case first =>
      rcases unhide HB1 with ⟨rfl, rfl, rfl, rfl⟩ | ⟨x, rfl, hl, hc⟩
      · go_wp2
        go_meet
        case rel => exact ⟨none, 0, rfl, .inl rfl, Below.refl _ _⟩
      · have HC := hide hc
        clear hc
        go_wp2_with (with_reducible refine wpList_copy_row 23 4 Tryz.underlying23 (by kernel_rfl) (.bool false) rfl (.tmp 50) (.tmp 51) rfl _ _ _ _ (bs.map Value.bool) (by simp [hl]) (one_bools bs) rfl rfl wc rfl rfl (src_bools hl (unhide HC)) ?_)
        intro w1 hr1 hb1
        go_wp2
        go_meet
        case rel => exact ⟨_, _, rfl, .inr ⟨_, rfl, hr1.out⟩, hb1⟩
    case rest =>
      obtain ⟨b2, d2, rfl, hb2, hbel2⟩ := hcut
      have hx2 := (unhide HX1).kept hbel2
      have hbel := hbel1.trans (hbel2.mono hbel1.size)
      clear HB1 HX1 hbel1 hbel2 hmk3 hmk4
      go_wp2_with fail
      refine (premise_any b1 b2 n1 n2 d1 d2 i xs bs _ (by omega) (by omega) (unhide L1) (unhide L2) hx2).mono ?_
      rintro e w2 ⟨⟨b, rfl, hprem⟩, nq, hw2⟩
      have hx3 : OwnI w2 b1 xs := by rw [hw2]; exact hx2
      have hb3 : OwnB w2 b2 bs := by rw [hw2]; exact hb2
      have hbel3 : Below w0.heap.size w0 w2 := by rw [hw2]; exact below_drewN hbel nq
      clear hx2 hb2 hbel hw2
      cases b with
      | false =>
        clear hprem
        go_wp2
        go_ret
        exact ⟨rfl, hbel3⟩
      | true =>
        have hP := hprem rfl
        have e12 : n1 = n2 := by rw [← unhide L1, ← unhide L2]; exact hP.len
        subst e12
        have HP := hide hP
        have HX3 := hide hx3
        have HB3 := hide hb3
        clear hprem hP hx3 hb3
        by_cases p1 : p < 0
        · go_wp2
          go_ret
          exact ⟨rfl, hbel3⟩
        by_cases p2 : (n1 : Int) < p
        · go_wp2
          go_ret
          exact ⟨rfl, hbel3⟩
        obtain ⟨q, rfl⟩ := Int.eq_ofNat_of_zero_le (show 0 ≤ p by omega)
        have hq : q ≤ n1 := by omega
        by_cases q1 : q < n1 ∧ xs.getD q 0 ≠ i
        · obtain ⟨q2, q3⟩ := q1
          obtain ⟨g1, rfl, hg1, hc1⟩ := (unhide HX3).cell (k := q) (by rw [unhide L1]; exact q2)
          have cq := hc1 q (by rw [unhide L1]; exact q2)
          obtain ⟨x, ex⟩ : ∃ x, xs.getD q 0 = x := ⟨_, rfl⟩
          rw [ex] at cq q3
          have q4 : (x != i) = true := by simp [q3]
          clear hc1 ex
          go_wp2
          go_ret
          exact ⟨rfl, hbel3⟩
        have hat : q < n1 → xs.getD q 0 = i := fun h => by
          by_cases e : xs.getD q 0 = i
          · exact e
          · exact absurd ⟨h, e⟩ q1
        have HAT := hide hat
        clear hat q1
        have hmk5 : ∀ w, (Instr.makeSlice 22 (.int .i64 ((n1 : Int) + 1)) (.int .i64 ((n1 : Int) + 1))).run Tryz.prog w = .ok (.slice (some ⟨w.heap.size, 0, none⟩) (n1 + 1) (n1 + 1)) (w.alloc (.cells (madeCells #[.int .i64 0] (n1 + 1)) 3)) := fun w => by
          have h := run_make_row' (P := Tryz.prog) 22 3 (.int .i64 0) 8 Tryz.underlying22 (by kernel_rfl) rfl .i64 .i64 (n1 + 1) (by omega) (by omega) w
          have ec : ((n1 + 1 : Nat) : Int) = (n1 : Int) + 1 := by omega
          rwa [ec] at h
        have hmk6 : ∀ w, (Instr.makeSlice 23 (.int .i64 ((n1 : Int) + 1)) (.int .i64 ((n1 : Int) + 1))).run Tryz.prog w = .ok (.slice (some ⟨w.heap.size, 0, none⟩) (n1 + 1) (n1 + 1)) (w.alloc (.cells (madeCells #[.bool false] (n1 + 1)) 4)) := fun w => by
          have h := run_make_row' (P := Tryz.prog) 23 4 (.bool false) 1 Tryz.underlying23 (by kernel_rfl) rfl .i64 .i64 (n1 + 1) (by omega) (by omega) w
          have ec : ((n1 + 1 : Nat) : Int) = (n1 : Int) + 1 := by omega
          rwa [ec] at h
        go_upto_region 21 with fail
        go_cut [86] (fun s wx => s = .bool false ∧ wx = w2)
        case first =>
          by_cases q2 : q < n1
          · obtain ⟨g1, rfl, hg1, hc1⟩ := (unhide HX3).cell (k := q) (by rw [unhide L1]; exact q2)
            have cq := hc1 q (by rw [unhide L1]; exact q2)
            rw [unhide HAT q2] at cq
            have q4 : (i != i) = false := by simp
            clear hc1
            go_wp2
            go_meet
            case rel => exact ⟨rfl, rfl⟩
          · have q5 : decide ((q : Int) < (n1 : Int)) = false := by simp; omega
            go_wp2
            go_meet
            case rel => exact ⟨rfl, rfl⟩
        case rest =>
          obtain ⟨rfl, rfl⟩ := hcut
          go_wp2_with fail
          have C0 := Cop.start wc n1
          clear hmk5 hmk6
          generalize (wc.alloc (Obj.cells (madeCells #[Value.int IntKind.i64 0] (n1 + 1)) 3)).alloc (Obj.cells (madeCells #[Value.bool false] (n1 + 1)) 4) = w5 at *
          have C0' := hide C0
          clear C0
          go_loopw [17] (fun t wr => ∃ (k : Nat) (A : List Int) (B : List Bool), k ≤ q ∧ t = .int .i64 k ∧ Cop wc wr n1 A B ∧ (∀ j, j < k → A.getD j 0 = xs.getD j 0) ∧ (∀ j, j < k → B.getD j false = bs.getD j false)) (fun t _ => q - (intOf t).toNat)
          case atStart => exact ⟨0, _, _, Nat.zero_le _, rfl, unhide C0', fun j hj => by omega, fun j hj => by omega⟩
          case round =>
            obtain ⟨k, A, B, hk, rfl, hC, hA, hB⟩ := hrel
            have HA := hide hA
            have HBB := hide hB
            clear hA hB
            have i1 : (0 : Int) ≤ (k : Int) := by omega
            by_cases hlt : k < q
            · have i2 : (k : Int) < (n1 : Int) := by omega
              have i3 : (k : Int) < (n1 : Int) + 1 := by omega
              have hx5 := (unhide HX3).kept hC.bel
              have hb5 := (unhide HB3).kept hC.bel
              obtain ⟨g1, rfl, hg1, hc1⟩ := (unhide HX3).cell (k := k) (by rw [unhide L1]; omega)
              obtain ⟨g2, rfl, hg2, hc2⟩ := (unhide HB3).cell (k := k) (by rw [unhide L2]; omega)
              have cx := (hC.bel.cell (p := ⟨g1, k, none⟩) hg1).trans (hc1 k (by rw [unhide L1]; omega))
              have cb := (hC.bel.cell (p := ⟨g2, k, none⟩) hg2).trans (hc2 k (by rw [unhide L2]; omega))
              obtain ⟨x, ex⟩ : ∃ x, xs.getD k 0 = x := ⟨_, rfl⟩
              obtain ⟨b, eb⟩ : ∃ b, bs.getD k false = b := ⟨_, rfl⟩
              rw [ex] at cx
              rw [eb] at cb
              have o1 := hC.rI.cell (i := k) (by rw [hC.lA]; omega)
              have o2 := hC.rI.free k
              have o3 := hC.rB.cell (i := k) (by rw [hC.lB]; omega)
              have o4 := hC.rB.free k
              have t1 : (wr.setCell ⟨wc.heap.size, k, none⟩ (.int .i64 x)).cell? ⟨g2, k, none⟩ = some (.bool b) := (cell_set_ne _ (by omega)).trans cb
              have t2 := (cell_set_ne (w := wr) (b := wc.heap.size) (i := k) (c := wc.heap.size + 1) (j := k) (.int .i64 x) (by omega)).trans o3
              have t3 : (wr.setCell ⟨wc.heap.size, k, none⟩ (.int .i64 x)).frozen? ⟨wc.heap.size + 1, k, none⟩ = false := (World.frozen?_setCell ..).trans o4
              have HC2 := hide (hC.store k x b)
              have HA2 := hide (pre_step (unhide HA) ex (by rw [hC.lA]; omega))
              have HB2 := hide (pre_step (unhide HBB) eb (by rw [hC.lB]; omega))
              clear hC hx5 hb5 hc1 hc2 ex eb o3 o4 cb HA HBB
              go_wp2
              go_roundw
              case rel => exact ⟨k + 1, _, _, by omega, by go_num, unhide HC2, unhide HA2, unhide HB2⟩
              case measure => simp [intOf]; omega
            · have hkq : k = q := by omega
              subst hkq
              have i3 : (k : Int) < (n1 : Int) + 1 := by omega
              have o1 := hC.rI.cell (i := k) (by rw [hC.lA]; omega)
              have o2 := hC.rI.free k
              have o3 := hC.rB.cell (i := k) (by rw [hC.lB]; omega)
              have o4 := hC.rB.free k
              have t2 := (cell_set_ne (w := wr) (b := wc.heap.size) (i := k) (c := wc.heap.size + 1) (j := k) (.int .i64 i) (by omega)).trans o3
              have t3 : (wr.setCell ⟨wc.heap.size, k, none⟩ (.int .i64 i)).frozen? ⟨wc.heap.size + 1, k, none⟩ = false := (World.frozen?_setCell ..).trans o4
              have C2 := hC.store k i label
              have HA2 := hide (ins_start (v := i) (unhide HA) (by rw [hC.lA]; omega))
              have HB2 := hide (ins_start (v := label) (unhide HBB) (by rw [hC.lB]; omega))
              have HC2 := hide C2
              clear hC C2 o3 o4 HA HBB C0'
              go_wp2_with fail
              generalize (wr.setCell ⟨wc.heap.size, k, none⟩ (.int .i64 i)).setCell ⟨wc.heap.size + 1, k, none⟩ (.bool label) = w6 at *
              go_loopw [18] (fun t wr => ∃ (m : Nat) (A : List Int) (B : List Bool), k ≤ m ∧ m ≤ n1 ∧ t = .int .i64 m ∧ Cop wc wr n1 A B ∧ Ins 0 xs k i A m ∧ Ins false bs k label B m) (fun t _ => n1 - (intOf t).toNat)
              case atStart => exact ⟨k, _, _, Nat.le_refl _, by omega, rfl, unhide HC2, unhide HA2, unhide HB2⟩
              case round =>
                obtain ⟨m, A, B, hkm, hm, rfl, hC, hA, hB⟩ := hrel
                clear HA2 HB2 HC2
                have HA := hide hA
                have HBB := hide hB
                clear hA hB
                have i4 : (0 : Int) ≤ (m : Int) := by omega
                by_cases hlt2 : m < n1
                · have i5 : (m : Int) < (n1 : Int) := by omega
                  have i6 : (m : Int) + 1 < (n1 : Int) + 1 := by omega
                  have i7 : (0 : Int) ≤ (m : Int) + 1 := by omega
                  obtain ⟨g1, rfl, hg1, hc1⟩ := (unhide HX3).cell (k := m) (by rw [unhide L1]; omega)
                  obtain ⟨g2, rfl, hg2, hc2⟩ := (unhide HB3).cell (k := m) (by rw [unhide L2]; omega)
                  have cx := (hC.bel.cell (p := ⟨g1, m, none⟩) hg1).trans (hc1 m (by rw [unhide L1]; omega))
                  have cb := (hC.bel.cell (p := ⟨g2, m, none⟩) hg2).trans (hc2 m (by rw [unhide L2]; omega))
                  obtain ⟨x, ex⟩ : ∃ x, xs.getD m 0 = x := ⟨_, rfl⟩
                  obtain ⟨b, eb⟩ : ∃ b, bs.getD m false = b := ⟨_, rfl⟩
                  rw [ex] at cx
                  rw [eb] at cb
                  have o1 := hC.rI.cell (i := m + 1) (by rw [hC.lA]; omega)
                  have o2 := hC.rI.free (m + 1)
                  have o3 := hC.rB.cell (i := m + 1) (by rw [hC.lB]; omega)
                  have o4 := hC.rB.free (m + 1)
                  have t1 : (wr.setCell ⟨wc.heap.size, m + 1, none⟩ (.int .i64 x)).cell? ⟨g2, m, none⟩ = some (.bool b) := (cell_set_ne _ (by omega)).trans cb
                  have t2 := (cell_set_ne (w := wr) (b := wc.heap.size) (i := m + 1) (c := wc.heap.size + 1) (j := m + 1) (.int .i64 x) (by omega)).trans o3
                  have t3 : (wr.setCell ⟨wc.heap.size, m + 1, none⟩ (.int .i64 x)).frozen? ⟨wc.heap.size + 1, m + 1, none⟩ = false := (World.frozen?_setCell ..).trans o4
                  have HC2 := hide (hC.store (m + 1) x b)
                  have HA2 := hide (ins_step (unhide HA) hkm ex (by rw [hC.lA]; omega))
                  have HB2 := hide (ins_step (unhide HBB) hkm eb (by rw [hC.lB]; omega))
                  clear hC hc1 hc2 ex eb o3 o4 cb HA HBB
                  go_wp2
                  go_roundw
                  case rel => exact ⟨m + 1, _, _, by omega, by omega, by go_num, unhide HC2, unhide HA2, unhide HB2⟩
                  case measure => simp [intOf]; omega
                · have hmn : m = n1 := by omega
                  subst hmn
                  have hlaw := ins_law (n := m) hkm (fun j hj => (unhide HP).le j (by rw [unhide L1]; exact hj)) (fun j hj => (unhide HP).mono j (by rw [unhide L1]; exact hj)) (unhide HAT) (unhide HA) (unhide HBB)
                  have HL := hide hlaw
                  clear hlaw
                  have hx7 := (unhide HX3).kept hC.bel
                  have hb7 := (unhide HB3).kept hC.bel
                  go_wp2_with fail
                  refine (new_any b1 b2 m d1 d2 i xs bs _ (by omega) (unhide L1) (unhide L2) hx7 hb7).mono ?_
                  rintro e w8 ⟨rfl, hF1⟩
                  go_wp2_with fail
                  refine (zzLabelled_any _ i xs bs _ (hF1.read (unhide L1)) (by rw [unhide L1]; omega)).mono ?_
                  rintro e w9 ⟨rfl, rfl⟩
                  rw [unhide L1]
                  have hI8 := hC.rI.kept hF1.below
                  have hB8 := hC.rB.kept hF1.below
                  go_wp2_with fail
                  refine (new_any _ _ (m + 1) _ _ i A B _ (by omega) hC.lA hC.lB hI8.own hB8.own).mono ?_
                  rintro e w10 ⟨rfl, hF2⟩
                  go_wp2_with fail
                  refine (zzLabelled_any _ i A B _ (hF2.read hC.lA) (by rw [hC.lA]; omega)).mono ?_
                  rintro e w11 ⟨rfl, rfl⟩
                  rw [hC.lA, unhide HL]
                  have hfin : Below w0.heap.size w0 w11 := (((hbel3.trans (hC.bel.mono hbel3.size)).trans (hF1.below.mono (Nat.le_trans hbel3.size hC.bel.size)))).trans (hF2.below.mono (Nat.le_trans (Nat.le_trans hbel3.size hC.bel.size) hF1.below.size))
                  have HF := hide hfin
                  clear hfin hF1 hF2 hC hI8 hB8 hx7 hb7
                  cases labTo i xs bs m <;> cases label
                  all_goals
                    go_wp2
                    go_ret
                    exact ⟨rfl, unhide HF⟩

end Go.Proofs.Qxb6608559aGreat
