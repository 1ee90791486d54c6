/- The contracts of zzs3342bnat and zzs3342bkind. By an AI agent. -/
import Derived.Test.YbulkbqeoSize
import Derived.Laws.DeepNot64
namespace Go.Proofs.Ybulkbqeo
open Go.RowKit

def natF (x : Int) : Int := if x < 0 then -x - 1 else x
def kindF (k : Int) : Int := if k % 8 = 7 then 0 else k % 8 + 1

theorem i64_not_neg (x : Int) (h0 : -9223372036854775808 ≤ x) (h1 : x < 0) : bits .xor .i64 (-1) x = -x - 1 := by
  show IntKind.i64.wrap ((BitVec.ofInt 64 (-1) ^^^ BitVec.ofInt 64 x).toNat : Int) = _
  have e1 : BitVec.ofInt 64 (-1) = BitVec.allOnes 64 := by decide
  have e2 : (BitVec.ofInt 64 x).toNat = (x + 18446744073709551616).toNat := by
    rw [BitVec.toNat_ofInt]
    have : x % ((2 ^ 64 : Nat) : Int) = x + 18446744073709551616 := by
      show x % 18446744073709551616 = _
      omega
    rw [this]
  rw [e1, BitVec.allOnes_xor, BitVec.toNat_not, e2]
  simp only [IntKind.wrap_i64]
  show (((2 ^ 64 - 1 - (x + 18446744073709551616).toNat : Nat) : Int) + 9223372036854775808) % 18446744073709551616 - 9223372036854775808 = _
  have : ((2 ^ 64 - 1 - (x + 18446744073709551616).toNat : Nat) : Int) = -x - 1 := by
    show ((18446744073709551616 - 1 - (x + 18446744073709551616).toNat : Nat) : Int) = _
    omega
  rw [this]
  omega

theorem natF_bound {x : Int} (h : (Lit.int .i64 x).wf = true) : 0 ≤ natF x ∧ natF x ≤ 9223372036854775807 := by
  have : -9223372036854775808 ≤ x ∧ x ≤ 9223372036854775807 := by
    simp [Lit.wf, IntKind.min, IntKind.max, IntKind.signed, IntKind.bits] at h
    omega
  unfold natF
  split <;> omega

theorem kindF_bound (k : Int) : 0 ≤ kindF k ∧ kindF k ≤ 7 := by
  unfold kindF
  split <;> omega

set_option maxHeartbeats 400000 in
theorem nat_any (x : Int) (w : World) (h : (Lit.int .i64 x).wf = true) : Calls Yba.prog 9 #[.int .i64 x] w fun e w' => e = .returned (.int .i64 (natF x)) ∧ w' = w := by
  have hb : -9223372036854775808 ≤ x ∧ x ≤ 9223372036854775807 := by
    simp [Lit.wf, IntKind.min, IntKind.max, IntKind.signed, IntKind.bits] at h
    omega
  clear h
  by_cases hx : x < 0
  · have HN : Hid (natF x = -x - 1) := by show natF x = _; unfold natF; rw [if_pos hx]
    have hn : bits .xor .i64 (-1) x = -x - 1 := i64_not_neg x hb.1 hx
    go_enter Yba.func9, Yba.ntmps9
    go_wp2
    go_ret
    rw [HN.out]
    exact ⟨rfl, rfl⟩
  · have HN : Hid (natF x = x) := by show natF x = _; unfold natF; rw [if_neg hx]
    go_enter Yba.func9, Yba.ntmps9
    go_wp2
    go_ret
    rw [HN.out]
    exact ⟨rfl, rfl⟩

set_option maxHeartbeats 400000 in
theorem kind_any (k : Int) (w : World) (h0 : 0 ≤ k) (h1 : k ≤ 255) : Calls Yba.prog 10 #[.int .u8 k] w fun e w' => e = .returned (.int .u8 (kindF k)) ∧ w' = w := by
  have hm : k % 8 = 0 ∨ k % 8 = 1 ∨ k % 8 = 2 ∨ k % 8 = 3 ∨ k % 8 = 4 ∨ k % 8 = 5 ∨ k % 8 = 6 ∨ k % 8 = 7 := by omega
  rcases hm with h | h | h | h | h | h | h | h
  all_goals
    have HK : Hid (kindF k = if k % 8 = 7 then 0 else k % 8 + 1) := rfl
    go_enter Yba.func10, Yba.ntmps10
    go_wp2
    go_ret
    rw [HK.out, h]
    exact ⟨rfl, rfl⟩
end Go.Proofs.Ybulkbqeo
