/-
  The plain laws: two-word addition, and the schoolbook addition over four 32-bit limbs. No Go text in sight.
-/
import Derived.Lib.EndianBits
import Derived.RowKit
namespace Go.Proofs.Qxb6606025a
open Go.RowKit

/-- The low word behind Add, the carry out of it, the high word behind Add. -/
def addLo (lo v : Int) : Int := (lo + v % 18446744073709551616) % 18446744073709551616
def addC (lo v : Int) : Int := (lo + v % 18446744073709551616) / 18446744073709551616
def addHi (hi lo v : Int) : Int := wrap64 (wrap64 (hi + v / 9223372036854775808) + addC lo v)

theorem addC_bd (lo v : Int) (h0 : 0 ≤ lo) (h1 : lo < 18446744073709551616) : 0 ≤ addC lo v ∧ addC lo v ≤ 1 := by unfold addC; omega

/-- 'x & 0xffffffff'. -/
theorem and_mask (x : Int) (h0 : 0 ≤ x) (h1 : x < 18446744073709551616) : bits .and .u64 x 4294967295 = x % 4294967296 := by
  obtain ⟨a, rfl⟩ := Int.eq_ofNat_of_zero_le h0
  have h := (bits_nat .u64 64 (by decide) wraps_u64 a 4294967295 (by omega) (by decide)).1
  have e : a &&& 4294967295 = a % 4294967296 := Nat.and_two_pow_sub_one_eq_mod a 32
  rw [e] at h
  exact h.trans (by omega)

/-- The low two limbs. -/
theorem limb_lo (lo V : Int) (h0 : 0 ≤ lo) (h1 : lo < 18446744073709551616) (g0 : 0 ≤ V) (g1 : V < 18446744073709551616) :
    bits BinOp.or IntKind.u64
      (bits BinOp.and IntKind.u64 (IntKind.u64.wrap (bits BinOp.and IntKind.u64 lo 4294967295 + bits BinOp.and IntKind.u64 V 4294967295)) 4294967295)
      (IntKind.u64.wrap (bits BinOp.and IntKind.u64 (IntKind.u64.wrap (IntKind.u64.wrap (lo / 4294967296 + V / 4294967296) +
        IntKind.u64.wrap (bits BinOp.and IntKind.u64 lo 4294967295 + bits BinOp.and IntKind.u64 V 4294967295) / 4294967296)) 4294967295 * 4294967296))
      = (lo + V) % 18446744073709551616 := by
  simp (disch := omega) only [and_mask, u64_wrap_id, u64_or32]
  omega

/-- The carry into the third limb. -/
theorem limb_carry (lo V : Int) (h0 : 0 ≤ lo) (h1 : lo < 18446744073709551616) (g0 : 0 ≤ V) (g1 : V < 18446744073709551616) :
    IntKind.u64.wrap (IntKind.u64.wrap (lo / 4294967296 + V / 4294967296) +
      IntKind.u64.wrap (bits BinOp.and IntKind.u64 lo 4294967295 + bits BinOp.and IntKind.u64 V 4294967295) / 4294967296) / 4294967296
      = (lo + V) / 18446744073709551616 := by
  simp (disch := omega) only [and_mask, u64_wrap_id]
  omega

/-- The high two limbs, the sign's limbs being 0. -/
theorem limb_hi0 (H c : Int) (h0 : 0 ≤ H) (h1 : H < 18446744073709551616) (g0 : 0 ≤ c) (g1 : c ≤ 1) :
    bits BinOp.or IntKind.u64
      (bits BinOp.and IntKind.u64 (IntKind.u64.wrap (IntKind.u64.wrap (bits BinOp.and IntKind.u64 H 4294967295) + c)) 4294967295)
      (IntKind.u64.wrap (bits BinOp.and IntKind.u64 (IntKind.u64.wrap (IntKind.u64.wrap (H / 4294967296) +
        IntKind.u64.wrap (IntKind.u64.wrap (bits BinOp.and IntKind.u64 H 4294967295) + c) / 4294967296)) 4294967295 * 4294967296))
      = (H + c) % 18446744073709551616 := by
  simp (disch := omega) only [and_mask, u64_wrap_id, u64_or32]
  omega

/-- The high two limbs, the sign's limbs being 0xffffffff. -/
theorem limb_hi1 (H c : Int) (h0 : 0 ≤ H) (h1 : H < 18446744073709551616) (g0 : 0 ≤ c) (g1 : c ≤ 1) :
    bits BinOp.or IntKind.u64
      (bits BinOp.and IntKind.u64 (IntKind.u64.wrap (IntKind.u64.wrap (bits BinOp.and IntKind.u64 H 4294967295 + 4294967295) + c)) 4294967295)
      (IntKind.u64.wrap (bits BinOp.and IntKind.u64 (IntKind.u64.wrap (IntKind.u64.wrap (H / 4294967296 + 4294967295) +
        IntKind.u64.wrap (IntKind.u64.wrap (bits BinOp.and IntKind.u64 H 4294967295 + 4294967295) + c) / 4294967296)) 4294967295 * 4294967296))
      = (H + 18446744073709551615 + c) % 18446744073709551616 := by
  simp (disch := omega) only [and_mask, u64_wrap_id, u64_or32]
  omega
end Go.Proofs.Qxb6606025a
