/-
  The whole number that a zigzag code means, as arithmetic.
-/
import Derived.Test.YtkhicabfmkldpaaDoorLevLaws
import Derived.Laws.Bits64b
set_option linter.unusedSimpArgs false
set_option linter.unusedVariables false
namespace Go.Proofs.YtkhicabfmkldpaaDoor
open Go Go.RowKit

theorem ofInt64 (a : Int) : (BitVec.ofInt 64 a).toNat = (a % 18446744073709551616).toNat := by
  rw [BitVec.toNat_ofInt, show ((2 ^ 64 : Nat) : Int) = 18446744073709551616 by decide]
theorem ofInt32 (a : Int) : (BitVec.ofInt 32 a).toNat = (a % 4294967296).toNat := by
  rw [BitVec.toNat_ofInt, show ((2 ^ 32 : Nat) : Int) = 4294967296 by decide]

theorem xor0_i64 (a : Int) (h : -9223372036854775808 ≤ a ∧ a ≤ 9223372036854775807) : bits .xor .i64 a 0 = a := by
  show IntKind.i64.wrap ((BitVec.ofInt 64 a ^^^ BitVec.ofInt 64 0).toNat : Int) = a
  rw [show BitVec.ofInt 64 0 = 0#64 by decide, BitVec.xor_zero, ofInt64, IntKind.wrap_i64]
  omega
theorem xor1_i64 (a : Int) (h : -9223372036854775808 ≤ a ∧ a ≤ 9223372036854775807) : bits .xor .i64 a (-1) = -a - 1 := by
  show IntKind.i64.wrap ((BitVec.ofInt 64 a ^^^ BitVec.ofInt 64 (-1)).toNat : Int) = -a - 1
  rw [show BitVec.ofInt 64 (-1) = BitVec.allOnes 64 by decide, BitVec.xor_allOnes, BitVec.toNat_not, ofInt64, IntKind.wrap_i64]
  omega
theorem xor0_i32 (a : Int) (h : -2147483648 ≤ a ∧ a ≤ 2147483647) : bits .xor .i32 a 0 = a := by
  show IntKind.i32.wrap ((BitVec.ofInt 32 a ^^^ BitVec.ofInt 32 0).toNat : Int) = a
  rw [show BitVec.ofInt 32 0 = 0#32 by decide, BitVec.xor_zero, ofInt32, IntKind.wrap_i32]
  omega
theorem xor1_i32 (a : Int) (h : -2147483648 ≤ a ∧ a ≤ 2147483647) : bits .xor .i32 a (-1) = -a - 1 := by
  show IntKind.i32.wrap ((BitVec.ofInt 32 a ^^^ BitVec.ofInt 32 (-1)).toNat : Int) = -a - 1
  rw [show BitVec.ofInt 32 (-1) = BitVec.allOnes 32 by decide, BitVec.xor_allOnes, BitVec.toNat_not, ofInt32, IntKind.wrap_i32]
  omega

theorem and1_u64 (u : Int) (h0 : 0 ≤ u) (h1 : u < 18446744073709551616) : bits .and .u64 u 1 = u % 2 := by
  obtain ⟨a, rfl⟩ := Int.eq_ofNat_of_zero_le h0
  have := bits_and_u64_nat a 1 (by omega) (by omega)
  rw [show ((1 : Nat) : Int) = 1 from rfl] at this
  rw [this, Nat.and_one_is_mod]
  rfl
theorem and1_i64 (u : Int) (h0 : 0 ≤ u) (h1 : u < 9223372036854775808) : bits .and .i64 u 1 = u % 2 := by
  obtain ⟨a, rfl⟩ := Int.eq_ofNat_of_zero_le h0
  show IntKind.i64.wrap ((BitVec.ofInt 64 (a : Int) &&& BitVec.ofInt 64 1).toNat : Int) = _
  rw [BitVec.toNat_and, ofInt64, ofInt64, show ((1 : Int) % 18446744073709551616).toNat = 1 by decide, Nat.and_one_is_mod, IntKind.wrap_i64]
  omega

theorem zig_eq (u : Int) (h0 : 0 ≤ u) (h1 : u < 18446744073709551616) : zig u = if u % 2 = 0 then u / 2 else -(u / 2) - 1 := by
  unfold zig
  rw [and1_u64 u h0 h1]
  have hw : wrap64 (u / 2) = u / 2 := by unfold wrap64; omega
  rw [hw]
  by_cases h : u % 2 = 0
  · rw [if_pos h, h, show wrap64 (-wrap64 0) = 0 by unfold wrap64; decide]
    exact xor0_i64 _ (by omega)
  · rw [if_neg h, show u % 2 = 1 by omega, show wrap64 (-wrap64 1) = -1 by unfold wrap64; decide]
    exact xor1_i64 _ (by omega)

theorem zig32_eq (u : Int) (h0 : 0 ≤ u) (h1 : u < 2 ^ 35) (h2 : zig u ≤ 2147483647) (h3 : -2147483648 ≤ zig u) : zig32 u = zig u := by
  rw [zig_eq u h0 (by omega)] at *
  unfold zig32
  rw [and1_i64 u h0 (by omega)]
  by_cases h : u % 2 = 0
  · rw [if_pos h] at *
    rw [h, show wrap32 (-wrap32 0) = 0 by unfold wrap32; decide, show wrap32 (u / 2) = u / 2 by unfold wrap32; omega]
    exact xor0_i32 _ (by omega)
  · rw [if_neg h] at *
    rw [show u % 2 = 1 by omega, show wrap32 (-wrap32 1) = -1 by unfold wrap32; decide, show wrap32 (u / 2) = u / 2 by unfold wrap32; omega]
    exact xor1_i32 _ (by omega)

theorem vl_range : ∀ {i : Nat} {acc : Int} {l : List UInt8} {u : Int} {r : List UInt8}, vl .u64 i acc l = some (u, r) → 0 ≤ u ∧ u < 18446744073709551616
  | _, _, [], _, _, h => by simp [vl] at h
  | i, acc, b :: l, u, r, h => by
    unfold vl at h
    split at h
    · cases h; exact orS_range_u64 _ _ _
    · exact vl_range h

theorem zig_range {u : Int} (h : 0 ≤ u ∧ u < 18446744073709551616) : -9223372036854775808 ≤ zig u ∧ zig u ≤ 9223372036854775807 := by
  rw [zig_eq u h.1 h.2]
  split <;> omega
end Go.Proofs.YtkhicabfmkldpaaDoor
