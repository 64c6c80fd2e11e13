/-
  The plain laws of a sum kept in two words, and of a wrapping accumulator that counts its overflows. No Go text in sight.
-/
import Derived.Test.Qxb6606025aPlain
namespace Go.Proofs.Qxb6606025a
open Go.RowKit

/-- The sum of the first i numbers. -/
def psum (zs : List Int) : Nat → Int
  | 0 => 0
  | i + 1 => psum zs i + zs.getD i 0

/-- The low word, the high word, the wrapping accumulator, its overflows. -/
def loOf (S : Int) : Int := S % 18446744073709551616
def hiOf (S : Int) : Int := S / 18446744073709551616
def wOf (S : Int) : Int := wrap64 S
def kOf (S : Int) : Int := (S + 9223372036854775808) / 18446744073709551616

theorem psum_bd (zs : List Int) (hz : ∀ j, -9223372036854775808 ≤ zs.getD j 0 ∧ zs.getD j 0 ≤ 9223372036854775807) (i : Nat) :
    -9223372036854775808 * (i : Int) ≤ psum zs i ∧ psum zs i ≤ 9223372036854775808 * (i : Int) := by
  induction i with
  | zero => simp [psum]
  | succ i ih => have := hz i; simp only [psum]; omega

theorem loOf_bd (S : Int) : 0 ≤ loOf S ∧ loOf S < 18446744073709551616 := by unfold loOf; omega

theorem addLo_of (S v : Int) : addLo (loOf S) v = loOf (S + v) := by unfold addLo loOf; omega

theorem addHi_of (S v : Int) (h0 : -1208925819614629174706176 ≤ S) (h1 : S ≤ 1208925819614629174706176) (hv0 : -9223372036854775808 ≤ v) (hv1 : v ≤ 9223372036854775807) :
    addHi (hiOf S) (loOf S) v = hiOf (S + v) := by
  have hq : -65537 ≤ S / 18446744073709551616 ∧ S / 18446744073709551616 ≤ 65536 := by omega
  have hs : v / 9223372036854775808 = v / 18446744073709551616 := by omega
  have hs1 : -1 ≤ v / 18446744073709551616 ∧ v / 18446744073709551616 ≤ 0 := by omega
  have hc : 0 ≤ (S % 18446744073709551616 + v % 18446744073709551616) / 18446744073709551616 ∧ (S % 18446744073709551616 + v % 18446744073709551616) / 18446744073709551616 ≤ 1 := by omega
  have hsum : (S + v) / 18446744073709551616 = S / 18446744073709551616 + v / 18446744073709551616 + (S % 18446744073709551616 + v % 18446744073709551616) / 18446744073709551616 := by omega
  unfold addHi hiOf loOf addC
  rw [hs, hsum]
  generalize S / 18446744073709551616 = p at *
  generalize v / 18446744073709551616 = q at *
  generalize (S % 18446744073709551616 + v % 18446744073709551616) / 18446744073709551616 = r at *
  have e1 : wrap64 (p + q) = p + q := by unfold wrap64; omega
  rw [e1]
  unfold wrap64; omega

theorem kOf_bd (S : Int) (h0 : -1208925819614629174706176 ≤ S) (h1 : S ≤ 1208925819614629174706176) : -100000 ≤ kOf S ∧ kOf S ≤ 100000 := by unfold kOf; omega

theorem wOf_bd (S : Int) : -9223372036854775808 ≤ wOf S ∧ wOf S ≤ 9223372036854775807 := by unfold wOf wrap64; omega

theorem wOf_add (S v : Int) : wrap64 (wOf S + v) = wOf (S + v) := by unfold wOf wrap64; omega

/-- Two numbers that are not negative whose wrapped sum is: one overflow upward. -/
theorem kOf_up (S v : Int) (hv0 : -9223372036854775808 ≤ v) (hv1 : v ≤ 9223372036854775807) (a : 0 ≤ wOf S) (b : 0 ≤ v) (c : wOf (S + v) < 0) : kOf (S + v) = kOf S + 1 := by
  unfold wOf wrap64 at *; unfold kOf; omega

theorem kOf_down (S v : Int) (hv0 : -9223372036854775808 ≤ v) (hv1 : v ≤ 9223372036854775807) (a : wOf S < 0) (b : v < 0) (c : 0 ≤ wOf (S + v)) : kOf (S + v) = kOf S - 1 := by
  unfold wOf wrap64 at *; unfold kOf; omega

theorem kOf_same (S v : Int) (hv0 : -9223372036854775808 ≤ v) (hv1 : v ≤ 9223372036854775807) (a : ¬ (0 ≤ wOf S ∧ 0 ≤ v ∧ wOf (S + v) < 0)) (b : ¬ (wOf S < 0 ∧ v < 0 ∧ 0 ≤ wOf (S + v))) : kOf (S + v) = kOf S := by
  unfold wOf wrap64 at *; unfold kOf; omega

theorem hi_neg (S : Int) (h : wOf S < 0) : hiOf S = kOf S - 1 := by unfold wOf wrap64 at h; unfold hiOf kOf; omega
theorem hi_pos (S : Int) (h : 0 ≤ wOf S) : hiOf S = kOf S := by unfold wOf wrap64 at h; unfold hiOf kOf; omega
theorem lo_w (S : Int) : loOf S = IntKind.u64.wrap (wOf S) := by rw [IntKind.wrap_u64]; unfold loOf wOf wrap64; omega
end Go.Proofs.Qxb6606025a
