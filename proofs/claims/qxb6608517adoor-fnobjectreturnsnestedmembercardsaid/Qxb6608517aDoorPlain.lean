/-
  The plain laws: decimal digits, and what the library's reader of decimals makes of them. No Go text in sight.
-/
import Derived.Lib.ParseIntB
namespace Go.Proofs.Qxb6608517aDoor

/-- A digit's byte. -/
def dig (d : Nat) : UInt8 := UInt8.ofNat (48 + d % 10)

theorem dig_toNat (d : Nat) : (dig d).toNat = 48 + d % 10 := by
  unfold dig
  simp only [UInt8.toNat_ofNat']
  omega

/-- The last j decimal digits of U. -/
def low (U : Nat) : Nat → List UInt8
  | 0 => []
  | j + 1 => dig (U / 10 ^ j) :: low U j

theorem low_length (U j : Nat) : (low U j).length = j := by
  induction j with
  | zero => rfl
  | succ j ih => simp [low, ih]

/-- How the library's reader goes through them. -/
theorem parse_low (U : Nat) (rest : List UInt8) (j : Nat) : ∀ acc, acc * 10 ^ j + U % 10 ^ j ≤ 9223372036854775808 →
    Lib.parseUintM 18446744073709551615 acc (low U j ++ rest) = Lib.parseUintM 18446744073709551615 (acc * 10 ^ j + U % 10 ^ j) rest := by
  induction j with
  | zero => intro acc _; simp [low, Nat.mod_one]
  | succ j ih =>
    intro acc h
    have e1 : U % 10 ^ (j + 1) = U % 10 ^ j + 10 ^ j * (U / 10 ^ j % 10) := Nat.mod_pow_succ
    have e2 : (acc * 10 + U / 10 ^ j % 10) * 10 ^ j + U % 10 ^ j = acc * 10 ^ (j + 1) + U % 10 ^ (j + 1) := by
      rw [e1, Nat.add_mul, Nat.mul_assoc, Nat.pow_succ, Nat.mul_comm 10 (10 ^ j), Nat.mul_comm (U / 10 ^ j % 10) (10 ^ j)]
      omega
    have hp : 0 < 10 ^ j := Nat.pow_pos (by decide)
    have h3 : acc * 10 + U / 10 ^ j % 10 ≤ (acc * 10 + U / 10 ^ j % 10) * 10 ^ j := Nat.le_mul_of_pos_right _ hp
    show Lib.parseUintM 18446744073709551615 acc (dig (U / 10 ^ j) :: (low U j ++ rest)) = _
    rw [Lib.parseUintM, dig_toNat, if_pos (by omega), if_neg (by omega), if_neg (by omega), show 48 + U / 10 ^ j % 10 - 48 = U / 10 ^ j % 10 from by omega, ih _ (by omega), e2]

/-- What the law's own writer of decimals writes. -/
def text (n : Int) (j : Nat) : List UInt8 := if n < 0 then 45 :: low n.natAbs j else low n.natAbs j

/-- Is it the reader's word for 'no numeral'? -/
def bad : Lib.NumEnd Int → Bool
  | .ok _ => false
  | .range => false
  | _ => true

theorem bad_eq {r s : Lib.NumEnd Int} (h : bad r = true) (k : bad s = true) : r = s := by
  cases r <;> cases s <;> simp_all [bad]

theorem parseUintB_low (U j : Nat) (rest : List UInt8) (hj : 0 < j) (hU : U < 10 ^ j) (hb : U ≤ 9223372036854775808) :
    Lib.parseUintB 64 (low U j ++ rest) = Lib.parseUintM 18446744073709551615 U rest := by
  obtain ⟨k, rfl⟩ : ∃ k, j = k + 1 := ⟨j - 1, by omega⟩
  unfold Lib.parseUintB
  rw [if_neg (by simp [low]), show 2 ^ 64 - 1 = 18446744073709551615 from rfl, parse_low U rest (k + 1) 0 (by rw [Nat.mod_eq_of_lt hU]; omega), Nat.zero_mul, Nat.zero_add, Nat.mod_eq_of_lt hU]

/-- The whole text reads back. -/
theorem parse_text (n : Int) (j : Nat) (hj : 0 < j) (hU : n.natAbs < 10 ^ j) (h0 : -9223372036854775808 ≤ n) (h1 : n ≤ 9223372036854775807) :
    Lib.parseIntB 64 (text n j) = .ok n := by
  unfold text
  have hp := parseUintB_low n.natAbs j [] hj hU (by omega)
  rw [List.append_nil] at hp
  by_cases hn : n < 0
  · rw [if_pos hn]
    simp only [Lib.parseIntB]
    rw [if_pos (.inr (by decide)), hp]
    simp only [Lib.parseUintM]
    rw [if_neg (by simp), if_neg (by simp; omega), if_pos (by decide)]
    congr 1
    omega
  · rw [if_neg hn]
    obtain ⟨k, rfl⟩ : ∃ k, j = k + 1 := ⟨j - 1, by omega⟩
    have hd := dig_toNat (n.natAbs / 10 ^ k)
    show Lib.parseIntB 64 (dig (n.natAbs / 10 ^ k) :: low n.natAbs k) = _
    simp only [Lib.parseIntB]
    rw [if_neg (by omega), show dig (n.natAbs / 10 ^ k) :: low n.natAbs k = low n.natAbs (k + 1) from rfl, hp]
    simp only [Lib.parseUintM]
    rw [if_neg (by omega), if_neg (by omega), if_neg (by omega)]
    congr 1
    omega

/-- The text with a byte behind it that is no digit is no numeral. -/
theorem parse_more (n : Int) (j : Nat) (c : UInt8) (rest : List UInt8) (hj : 0 < j) (hU : n.natAbs < 10 ^ j) (h0 : -9223372036854775808 ≤ n) (h1 : n ≤ 9223372036854775807) (hc : c.toNat < 48 ∨ 57 < c.toNat) :
    bad (Lib.parseIntB 64 (text n j ++ c :: rest)) = true := by
  unfold text
  have hp := parseUintB_low n.natAbs j (c :: rest) hj hU (by omega)
  have hq : Lib.parseUintM 18446744073709551615 n.natAbs (c :: rest) = Lib.parseUintB 64 [] := by
    rw [Lib.parseUintM, if_neg (by omega)]
    rfl
  rw [hq] at hp
  by_cases hn : n < 0
  · rw [if_pos hn]
    show bad (Lib.parseIntB 64 (45 :: (low n.natAbs j ++ c :: rest))) = true
    simp only [Lib.parseIntB]
    rw [if_pos (.inr (by decide)), hp]
    rfl
  · rw [if_neg hn]
    obtain ⟨k, rfl⟩ : ∃ k, j = k + 1 := ⟨j - 1, by omega⟩
    have hd := dig_toNat (n.natAbs / 10 ^ k)
    show bad (Lib.parseIntB 64 (dig (n.natAbs / 10 ^ k) :: (low n.natAbs k ++ c :: rest))) = true
    simp only [Lib.parseIntB]
    rw [if_neg (by omega), show dig (n.natAbs / 10 ^ k) :: (low n.natAbs k ++ c :: rest) = low n.natAbs (k + 1) ++ c :: rest from rfl, hp]
    rfl
end Go.Proofs.Qxb6608517aDoor
