import Derived.Test.Qxb6003016aModsBase
import Derived.Laws.BitsLemmas
namespace Go.Proofs.Qxb6003016aMods
open Go.RowKit
set_option linter.unusedVariables false
set_option linter.unusedSimpArgs false

theorem div63_neg (x : Int) (h1 : -9223372036854775808 ≤ x) (h2 : x < 0) : x / 9223372036854775808 = -1 := by omega
theorem div63_pos (x : Int) (h1 : 0 ≤ x) (h2 : x < 9223372036854775808) : x / 9223372036854775808 = 0 := by omega

theorem and_ones (h : Int) (h0 : 0 ≤ h) (h1 : h ≤ 1048576) : bits .and .i64 h (-1) = h := by
  have e : BitVec.ofInt 64 (-1) = BitVec.allOnes 64 := by decide
  show IntKind.i64.wrap ((BitVec.ofInt 64 h &&& BitVec.ofInt 64 (-1)).toNat : Int) = h
  rw [e, BitVec.and_allOnes]
  obtain ⟨n, rfl⟩ := Int.eq_ofNat_of_zero_le h0
  rw [BitVec.ofInt_natCast, BitVec.toNat_ofNat, IntKind.wrap_i64]
  omega
theorem and_zero (h : Int) : bits .and .i64 h 0 = 0 := by
  show IntKind.i64.wrap ((BitVec.ofInt 64 h &&& BitVec.ofInt 64 0).toNat : Int) = 0
  have e : BitVec.ofInt 64 0 = 0#64 := by decide
  rw [e, BitVec.and_zero, IntKind.wrap_i64]
  decide

end Go.Proofs.Qxb6003016aMods
