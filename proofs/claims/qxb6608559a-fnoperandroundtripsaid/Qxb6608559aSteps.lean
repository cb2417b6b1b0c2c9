/-
  THE WALKS of the callees: what an operand of a kind and an id is as a word; its ID and its Kind.
-/
import Derived.Test.Qxb6608559aRows
import Derived.WalkKit
import Derived.WalkSpells
import Derived.WalkLawsBesides
import Derived.Laws.BitsAllLaws
namespace Go.Proofs.Qxb6608559a
open Go.RowKit

theorem or_word (k i : Int) (k0 : 0 ≤ k) (k1 : k ≤ 255) (i0 : 0 ≤ i) (i1 : i ≤ 4294967295) : bits .or .u64 k (i * 4294967296) = k + i * 4294967296 := by
  obtain ⟨a, rfl⟩ := Int.eq_ofNat_of_zero_le k0
  obtain ⟨b, rfl⟩ := Int.eq_ofNat_of_zero_le i0
  have e : (b : Int) * 4294967296 = ((b * 4294967296 : Nat) : Int) := by omega
  rw [e, u64_or_nat a (b * 4294967296) (by omega) (by omega), Nat.or_comm, nat_join 32 (b * 4294967296) a (by omega) (by omega)]
  omega

theorem and_word (v : Int) (v0 : 0 ≤ v) (v1 : v ≤ 18446744073709551615) : bits .and .u64 v 15 % 256 = v % 16 := by
  obtain ⟨a, rfl⟩ := Int.eq_ofNat_of_zero_le v0
  have e := u64_and_nat a 15 (by omega) (by omega)
  rw [nat_mask4] at e
  have e' : bits .and .u64 (a : Int) 15 = ((a % 16 : Nat) : Int) := e
  rw [e']
  omega

theorem ret_int {k : IntKind} {a b : Int} (h : a = b) : Ending.returned (.int k a) = .returned (.int k b) := by rw [h]

set_option maxHeartbeats 400000 in
theorem operand_any (k i : Int) (w : World) (k0 : 0 ≤ k) (k1 : k ≤ 255) (i0 : 0 ≤ i) (i1 : i ≤ 4294967295) :
    Calls Try.prog 8 #[.int .u8 k, .int .u32 i] w fun e w' => e = .returned (.int .u64 (k + i * 4294967296)) ∧ w' = w := by
  go_enter Try.func8, Try.ntmps8
  go_wp2
  go_ret
  exact ⟨ret_int (or_word k i k0 k1 i0 i1), rfl⟩

set_option maxHeartbeats 400000 in
theorem zzOperand_any (k i : Int) (w : World) (k0 : 0 ≤ k) (k1 : k ≤ 255) (i0 : 0 ≤ i) (i1 : i ≤ 4294967295) :
    Calls Try.prog 5 #[.int .u8 k, .int .u32 i] w fun e w' => e = .returned (.int .u64 (k + i * 4294967296)) ∧ w' = w := by
  go_enter Try.func5, Try.ntmps5
  go_wp2_with (go_at_call 8; refine (operand_any k i _ k0 k1 i0 i1).mono ?_; rintro e w' ⟨rfl, rfl⟩)
  go_ret
  exact ⟨rfl, rfl⟩

set_option maxHeartbeats 400000 in
theorem id_any (v : Int) (w : World) (v0 : 0 ≤ v) (v1 : v ≤ 18446744073709551615) :
    Calls Try.prog 6 #[.int .u64 v] w fun e w' => e = .returned (.int .u32 (v / 4294967296)) ∧ w' = w := by
  go_enter Try.func6, Try.ntmps6
  go_wp2
  go_ret
  exact ⟨rfl, rfl⟩

set_option maxHeartbeats 400000 in
theorem kind_any (v : Int) (w : World) (v0 : 0 ≤ v) (v1 : v ≤ 18446744073709551615) :
    Calls Try.prog 7 #[.int .u64 v] w fun e w' => e = .returned (.int .u8 (v % 16)) ∧ w' = w := by
  go_enter Try.func7, Try.ntmps7
  go_wp2
  go_ret
  exact ⟨ret_int (and_word v v0 v1), rfl⟩
end Go.Proofs.Qxb6608559a
