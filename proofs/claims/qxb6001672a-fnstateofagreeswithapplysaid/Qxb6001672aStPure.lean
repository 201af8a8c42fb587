/-
  Seat b6001672a: the plain law of states: what stateOf and apply leave of two states.
-/
import Derived.Test.Qxb6001672aInts
import Derived.Test.Qxb6001672aTruths
namespace Go.Proofs.Qxb6001672a

theorem bits_or_comm (x y : Int) : bits .or .u8 x y = bits .or .u8 y x := by
  show IntKind.u8.wrap ((BitVec.ofInt 8 x ||| BitVec.ofInt 8 y).toNat : Int) = IntKind.u8.wrap ((BitVec.ofInt 8 y ||| BitVec.ofInt 8 x).toNat : Int)
  rw [BitVec.or_comm]

theorem wrap_u8 (n : Int) : IntKind.u8.wrap n = n % 256 := by simp [IntKind.wrap, IntKind.bits, IntKind.signed]

theorem ofInt8_zero {x : Int} (h0 : 0 ≤ x) (h1 : x < 256) (h : BitVec.ofInt 8 x = 0#8) : x = 0 := by
  have h2 := congrArg BitVec.toNat h
  rw [BitVec.toNat_ofInt] at h2
  simp at h2
  omega

/-- where the two states together are none, each is none -/
theorem bits_or_zero {x y : Int} (hx0 : 0 ≤ x) (hx1 : x < 256) (hy0 : 0 ≤ y) (hy1 : y < 256) (h : bits .or .u8 x y = 0) : x = 0 ∧ y = 0 := by
  have h1 : IntKind.u8.wrap ((BitVec.ofInt 8 x ||| BitVec.ofInt 8 y).toNat : Int) = 0 := h
  rw [wrap_u8] at h1
  have h2 : (BitVec.ofInt 8 x ||| BitVec.ofInt 8 y).toNat < 256 := (BitVec.ofInt 8 x ||| BitVec.ofInt 8 y).isLt
  have h3 : (BitVec.ofInt 8 x ||| BitVec.ofInt 8 y) = 0#8 := by
    apply BitVec.eq_of_toNat_eq
    simp only [BitVec.toNat_ofNat]
    omega
  have h4 := BitVec.or_eq_zero_iff.1 h3
  exact ⟨ofInt8_zero hx0 hx1 h4.1, ofInt8_zero hy0 hy1 h4.2⟩

end Go.Proofs.Qxb6001672a
