/- Small facts on bits, for the walks of this seat. -/
import Derived.WalkKit
import Derived.WalkSpells
import Derived.WalkLawsBesides
namespace Go.Proofs.Ybulkdety
open Go.RowKit

theorem i64_and_nat (a b : Nat) (ha : a < 9223372036854775808) (hb : b < 9223372036854775808) : bits .and .i64 (a : Int) (b : Int) = ((a &&& b : Nat) : Int) := by
  have hx : a &&& b ≤ a := Nat.and_le_left
  show IntKind.i64.wrap ((BitVec.ofInt 64 (a : Int) &&& BitVec.ofInt 64 (b : Int)).toNat : Int) = _
  rw [BitVec.toNat_and, ofInt_u64 a (by omega), ofInt_u64 b (by omega), IntKind.wrap_i64]
  omega

theorem and_1023 (i : Nat) (h : i < 1024) : bits .and .i64 (i : Int) 1023 = (i : Int) := by
  have := i64_and_nat i 1023 (by omega) (by omega)
  rw [nat_mask10, Nat.mod_eq_of_lt h] at this
  exact this

end Go.Proofs.Ybulkdety
