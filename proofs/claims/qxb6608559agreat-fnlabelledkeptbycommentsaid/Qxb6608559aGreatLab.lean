/-
  THE WALKS of labelled and ZZlabelled: what they answer, as a plain function of the marks.
-/
import Derived.Test.Qxb6608559aGreatRows
import Derived.WalkKit
import Derived.WalkSpells
import Derived.WalkLawsBesides
namespace Go.Proofs.Qxb6608559aGreat
open Go.RowKit

theorem hide {p : Prop} (h : p) : Hid p := h
theorem unhide {p : Prop} (h : Hid p) : p := h

/-- A mark's node: a label, or a comment. -/
def nodeV (b : Bool) (a : Addr) : Value := .iface (if b then 68 else 63) (.pointer (some a))

/-- What a reader is told of a function's marks: the cell 27 of block F holds their slice. -/
def Marks (w : World) (F : Nat) (ats : List Int) (labs : List Bool) : Prop :=
  ∃ a cap, w.cell? ⟨F, 27, none⟩ = some (.slice a ats.length cap) ∧ ats.length ≤ cap ∧ ∀ k, k < ats.length → ∃ g, a = some ⟨g, 0, none⟩ ∧ w.cell? ⟨g, k * 2, none⟩ = some (.int .i64 (ats.getD k 0)) ∧ ∃ p, w.cell? ⟨g, k * 2 + 1, none⟩ = some (nodeV (labs.getD k false) p)

/-- Is a label among the last marks at 'i', the first k being looked at from behind? -/
def labTo (i : Int) (ats : List Int) (labs : List Bool) : Nat → Bool
  | 0 => false
  | k + 1 => ats.getD k 0 == i && (labs.getD k false || labTo i ats labs k)

theorem assert_label (p : Addr) (w : World) : (Instr.typeAssert (.iface 68 (.pointer (some p))) 67 68 true).run Tryz.prog w = .ok (.tuple #[.pointer (some p), .bool true]) w := by kernel_rfl
theorem assert_comment (p : Addr) (w : World) : (Instr.typeAssert (.iface 63 (.pointer (some p))) 67 68 true).run Tryz.prog w = .ok (.tuple #[.pointer none, .bool false]) w := by kernel_rfl

set_option maxHeartbeats 400000 in
theorem labelled_any (F : Nat) (i : Int) (ats : List Int) (labs : List Bool) (w : World) (hm : Marks w F ats labs) (hn : ats.length ≤ 100000) :
    Calls Tryz.prog 11 #[.pointer (some ⟨F, 0, none⟩), .int .i64 i] w fun e w' => e = .returned (.bool (labTo i ats labs ats.length)) ∧ w' = w := by
  obtain ⟨a, cap, hc, hcap, hk⟩ := hm
  have HK := hide hk
  clear hk
  have a1 := assert_label
  have a2 := assert_comment
  generalize hn' : ats.length = n at *
  go_enter Tryz.func11, Tryz.ntmps11
  go_wp2_with fail
  go_loop [5] (fun t => ∃ m : Nat, m ≤ n ∧ t = .int .i64 ((m : Int) - 1) ∧ labTo i ats labs n = labTo i ats labs m) (fun t => (intOf t + 1).toNat)
  case atStart => exact ⟨n, Nat.le_refl _, rfl, rfl⟩
  case round =>
    obtain ⟨m, hm, rfl, hlab⟩ := hrel
    have HL := hide hlab
    clear hlab
    cases m with
    | zero =>
      go_wp2
      go_ret
      exact ⟨by rw [unhide HL]; rfl, rfl⟩
    | succ k =>
      obtain ⟨g, rfl, c1, p, c2⟩ := unhide HK k (by omega)
      have e0 : ((k + 1 : Nat) : Int) - 1 = (k : Int) := by omega
      rw [e0]
      have i1 : (0 : Int) ≤ (k : Int) := by omega
      have i2 : (k : Int) < (n : Int) := by omega
      obtain ⟨x, ex⟩ : ∃ x, ats.getD k 0 = x := ⟨_, rfl⟩
      obtain ⟨b, eb⟩ : ∃ b, labs.getD k false = b := ⟨_, rfl⟩
      rw [ex] at c1
      rw [eb] at c2
      have HE : Hid (labTo i ats labs (k + 1) = (x == i && (b || labTo i ats labs k))) := by
        show labTo i ats labs (k + 1) = _
        rw [labTo, ex, eb]
      clear ex eb
      cases ht : (x == i)
      · go_wp2
        go_ret
        exact ⟨by rw [unhide HL, unhide HE, ht]; rfl, rfl⟩
      · cases b
        · unfold nodeV at c2
          simp only [if_false, Bool.false_eq_true] at c2
          go_wp2
          go_round
          case rel => exact ⟨k, by omega, by go_num, by rw [unhide HL, unhide HE, ht]; simp⟩
          case measure => simp [intOf]
        · unfold nodeV at c2
          simp only [if_true] at c2
          go_wp2
          go_ret
          exact ⟨by rw [unhide HL, unhide HE, ht]; rfl, rfl⟩

set_option maxHeartbeats 400000 in
theorem zzLabelled_any (F : Nat) (i : Int) (ats : List Int) (labs : List Bool) (w : World) (hm : Marks w F ats labs) (hn : ats.length ≤ 100000) :
    Calls Tryz.prog 8 #[.pointer (some ⟨F, 0, none⟩), .int .i64 i] w fun e w' => e = .returned (.bool (labTo i ats labs ats.length)) ∧ w' = w := by
  go_enter Tryz.func8, Tryz.ntmps8
  go_wp2_with (go_at_call 11; refine (labelled_any F i ats labs _ hm hn).mono ?_; rintro e w' ⟨rfl, rfl⟩)
  go_ret
  exact ⟨rfl, rfl⟩

end Go.Proofs.Qxb6608559aGreat
