import Derived.WalkKit
import Derived.WalkSpells
import Derived.WalkLawsBesides
import Derived.Laws.Bits64
import Derived.IntWalk
namespace Go.Proofs.YtdeejmkjhmpabaaGreatDoor
open Go.RowKit

/-! ### Shifts and bits, as facts of a run -/
section
variable {P : Program}
theorem run_shr_u64 (a S : Nat) (hS : S ≤ 64) (w : World) : (Op.shift .shr .u64 (a : Int) .i64 (S : Int)).run P w = .ok (.int .u64 ((a / 2 ^ S : Nat) : Int)) w := by
  unfold Op.shift
  rw [if_neg (by omega)]
  have e : min (S : Int).toNat IntKind.u64.bits = S := by
    have : IntKind.u64.bits = 64 := rfl
    omega
  rw [e]
  have e2 : ((a : Int).fdiv (2 ^ S)) = ((a / 2 ^ S : Nat) : Int) := by
    rw [Int.fdiv_eq_ediv_of_nonneg _ (by exact_mod_cast Nat.zero_le _)]
    norm_cast
  dsimp only
  rw [e2]
  rfl

theorem run_shl_u64 (a S : Nat) (hS : S ≤ 64) (h : a * 2 ^ S < 18446744073709551616) (w : World) : (Op.shift .shl .u64 (a : Int) .i64 (S : Int)).run P w = .ok (.int .u64 ((a * 2 ^ S : Nat) : Int)) w := by
  unfold Op.shift
  rw [if_neg (by omega)]
  have e : min (S : Int).toNat IntKind.u64.bits = S := by
    have : IntKind.u64.bits = 64 := rfl
    omega
  rw [e]
  have e2 : IntKind.u64.wrap ((a : Int) * 2 ^ S) = ((a * 2 ^ S : Nat) : Int) := by
    have e3 : (a : Int) * 2 ^ S = ((a * 2 ^ S : Nat) : Int) := by norm_cast
    rw [e3, IntKind.wrap_u64]
    generalize a * 2 ^ S = z at h
    omega
  dsimp only
  rw [e2]
  rfl
end

theorem bits_or_u64_nat (a b : Nat) (ha : a < 18446744073709551616) (hb : b < 18446744073709551616) : bits .or .u64 (a : Int) (b : Int) = ((a ||| b : Nat) : Int) := by
  have hx : a ||| b < 2 ^ 64 := Nat.or_lt_two_pow (by omega) (by omega)
  have h1 : (BitVec.ofInt 64 (a : Int)).toNat = a := by
    rw [BitVec.ofInt_natCast, BitVec.toNat_ofNat]; exact Nat.mod_eq_of_lt (by omega)
  have h2 : (BitVec.ofInt 64 (b : Int)).toNat = b := by
    rw [BitVec.ofInt_natCast, BitVec.toNat_ofNat]; exact Nat.mod_eq_of_lt (by omega)
  show IntKind.u64.wrap ((BitVec.ofInt 64 (a : Int) ||| BitVec.ofInt 64 (b : Int)).toNat : Int) = _
  rw [BitVec.toNat_or, h1, h2, IntKind.wrap_u64]
  omega

theorem bits_and_u64_nat (a b : Nat) (ha : a < 18446744073709551616) (hb : b < 18446744073709551616) : bits .and .u64 (a : Int) (b : Int) = ((a &&& b : Nat) : Int) := by
  have hx : a &&& b < 2 ^ 64 := Nat.and_lt_two_pow _ (by omega)
  have h1 : (BitVec.ofInt 64 (a : Int)).toNat = a := by
    rw [BitVec.ofInt_natCast, BitVec.toNat_ofNat]; exact Nat.mod_eq_of_lt (by omega)
  have h2 : (BitVec.ofInt 64 (b : Int)).toNat = b := by
    rw [BitVec.ofInt_natCast, BitVec.toNat_ofNat]; exact Nat.mod_eq_of_lt (by omega)
  show IntKind.u64.wrap ((BitVec.ofInt 64 (a : Int) &&& BitVec.ofInt 64 (b : Int)).toNat : Int) = _
  rw [BitVec.toNat_and, h1, h2, IntKind.wrap_u64]
  omega

theorem bits_and_i64_nat (a b : Nat) (ha : a < 9223372036854775808) (hb : b < 9223372036854775808) : bits .and .i64 (a : Int) (b : Int) = ((a &&& b : Nat) : Int) := by
  have hx : a &&& b < 2 ^ 63 := Nat.and_lt_two_pow _ (by omega)
  have h1 : (BitVec.ofInt 64 (a : Int)).toNat = a := by
    rw [BitVec.ofInt_natCast, BitVec.toNat_ofNat]; exact Nat.mod_eq_of_lt (by omega)
  have h2 : (BitVec.ofInt 64 (b : Int)).toNat = b := by
    rw [BitVec.ofInt_natCast, BitVec.toNat_ofNat]; exact Nat.mod_eq_of_lt (by omega)
  show IntKind.i64.wrap ((BitVec.ofInt 64 (a : Int) &&& BitVec.ofInt 64 (b : Int)).toNat : Int) = _
  rw [BitVec.toNat_and, h1, h2]
  exact IntWalk.i64_in _ (by omega)

theorem and_63 (S : Nat) (hS : S < 64) : bits .and .i64 (S : Int) 63 = (S : Int) := by
  have h := bits_and_i64_nat S 63 (by omega) (by omega)
  have h2 : S &&& 63 = S := by
    have := Nat.and_two_pow_sub_one_eq_mod S 6
    simp at this; rw [this]; omega
  rw [h2] at h
  exact_mod_cast h

theorem and_1 (M : Nat) (hM : M < 9223372036854775808) : bits .and .i64 (M : Int) 1 = ((M % 2 : Nat) : Int) := by
  have h := bits_and_i64_nat M 1 (by omega) (by omega)
  rw [Nat.and_one_is_mod] at h
  exact_mod_cast h

end Go.Proofs.YtdeejmkjhmpabaaGreatDoor
