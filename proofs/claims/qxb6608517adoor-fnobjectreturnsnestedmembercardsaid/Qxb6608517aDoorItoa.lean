/-
  zzItoa64 (function 7): the decimal text of an int64.
-/
import Derived.Test.Qxb6608517aDoorRows
import Derived.Test.Qxb6608517aDoorPlain
import Derived.WalkKit
import Derived.WalkSpells
import Derived.WalkLawsBesides
import Derived.OwnWalk
import Derived.Below
import Derived.Laws.IdiomStrings
import Derived.ProofKit
namespace Go.Proofs.Qxb6608517aDoor
open Go.RowKit

/-- The array behind j rounds. -/
def row (U j : Nat) : List Value := List.replicate (20 - j) (.int .u8 0) ++ (low U j).map fun b => .int .u8 (b.toNat : Int)

theorem row_zero (U : Nat) : row U 0 = [.int .u8 0, .int .u8 0, .int .u8 0, .int .u8 0, .int .u8 0, .int .u8 0, .int .u8 0, .int .u8 0, .int .u8 0, .int .u8 0, .int .u8 0, .int .u8 0, .int .u8 0, .int .u8 0, .int .u8 0, .int .u8 0, .int .u8 0, .int .u8 0, .int .u8 0, .int .u8 0] := rfl

theorem row_at (U j : Nat) (hj : j < 20) : (row U j)[19 - j]? = some (.int .u8 0) := by
  unfold row
  rw [List.getElem?_append_left (by simp; omega), List.getElem?_replicate, if_pos (by omega)]

theorem row_set (U j : Nat) (hj : j < 20) : (row U j).set (19 - j) (.int .u8 ((dig (U / 10 ^ j)).toNat : Int)) = row U (j + 1) := by
  unfold row
  have h1 : 20 - j = (19 - j) + 1 := by omega
  have h2 : 20 - (j + 1) = 19 - j := by omega
  rw [h1, h2, List.replicate_succ', List.append_assoc, List.set_append_right _ _ (by simp), List.length_replicate, Nat.sub_self]
  rfl

theorem row_tail (U j t : Nat) (hj : j ≤ 20) (ht : t < j) : (row U j)[20 - j + t]? = ((low U j)[t]?).map fun b => .int .u8 (b.toNat : Int) := by
  unfold row
  rw [List.getElem?_append_right (by simp), List.length_replicate, show 20 - j + t - (20 - j) = t from by omega, List.getElem?_map]

theorem Tryd.len41 : Tryd.prog.arrayLen 41 = 20 := by kernel_rfl
theorem Tryd.elem41 : Tryd.prog.elem 41 = 5 := by kernel_rfl

/-- 'buf[i:]'. -/
theorem cut_arr (g j : Nat) (hj : 0 < j) (hj' : j ≤ 20) (i : Int) (hi : i = 20 - (j : Int)) (w : World) :
    (Instr.sliceAt 41 (.pointer (some ⟨g, 0, none⟩)) (some (.int .i64 i)) none none).run Tryd.prog w = .ok (.slice (some ⟨g, 20 - j, none⟩) j j) w := by
  have h := run_sliceAt_array_l (P := Tryd.prog) w 41 ⟨g, 0, none⟩ (by rw [Tryd.len41, Tryd.elem41]; exact Tryd.underlying41) .i64 i (by omega) (by rw [Tryd.len41]; omega)
  rw [h, Tryd.elem41, Tryd.sizeOf5 w, Tryd.len41]
  have e1 : i.toNat = 20 - j := by omega
  have e2 : 20 - (20 - j) = j := by omega
  simp only [Result.andThen, slicedAt, e1, e2, Nat.mul_one]
  rw [if_neg (by omega), Go.WideShapes.add_plain, Nat.zero_add]

theorem conv_at (g U j : Nat) (hj' : j ≤ 20) (w : World) (hown : w.ownsRow g 41 1 (.slice (some ⟨g, 0, none⟩) 20 20) 20 (row U j)) :
    (convert 42 9 (.slice (some ⟨g, 20 - j, none⟩) j j)).run Tryd.prog w = .ok (.string ⟨(low U j).toArray⟩) w := by
  have h := run_convert_bytes_back (P := Tryd.prog) w 42 9 5 ⟨g, 20 - j, none⟩ j (low U j) Tryd.underlying42 Tryd.underlying5 Tryd.underlying9 (fun t ht => by
    rw [low_length] at ht
    rw [Go.WideShapes.add_plain, hown.cellAt _ (by omega), row_tail U j t hj' ht, List.getElem?_eq_getElem (by rw [low_length]; exact ht)]
    rfl)
  rw [low_length] at h
  exact h

theorem append_bytes (a b : List UInt8) : (⟨a.toArray⟩ : ByteArray) ++ ⟨b.toArray⟩ = ⟨(a ++ b).toArray⟩ := by
  apply ByteArray.ext
  simp [ByteArray.data_append]

theorem itoa_pos (U : Nat) (w : World) (h1 : U ≤ 9223372036854775807) :
    Calls Tryd.prog 7 #[.int .i64 (U : Int)] w fun e w' => ∃ j, 0 < j ∧ U < 10 ^ j ∧ j ≤ 20 ∧ e = .returned (.string ⟨(text (U : Int) j).toArray⟩) ∧ Below w.heap.size w w' := by
  have hd : decide ((U : Int) < 0) = false := decide_eq_false (by omega)
  have hown0 := World.ownsRow_lit (e := 41) (size := 1) (base := w.heap.size) w #[.int .u8 0, .int .u8 0, .int .u8 0, .int .u8 0, .int .u8 0, .int .u8 0, .int .u8 0, .int .u8 0, .int .u8 0, .int .u8 0, .int .u8 0, .int .u8 0, .int .u8 0, .int .u8 0, .int .u8 0, .int .u8 0, .int .u8 0, .int .u8 0, .int .u8 0, .int .u8 0] 20 (Nat.le_refl _) (by unfold maxLen; omega) rfl
  go_enter Tryd.func7, Tryd.ntmps7
  go_wp2
  go_loopw [3, 5] (fun a i wr => ∃ j u : Nat, j ≤ 19 ∧ (j = 0 ∨ 0 < u) ∧ Hid (u = U / 10 ^ j) ∧ a = .int .u64 u ∧ i = .int .i64 (20 - (j : Int)) ∧ wr.ownsRow w.heap.size 41 1 (.slice (some ⟨w.heap.size, 0, none⟩) 20 20) 20 (row U j) ∧ Below w.heap.size w wr) (fun a _ _ => (intOf a).toNat)
  case atStart => exact ⟨0, U, by omega, .inl rfl, by show _ = _; simp, rfl, rfl, hown0, (Below.refl _ _).alloc (Nat.le_refl _) _⟩
  case round =>
    obtain ⟨j, u, hj, hu0, hu, rfl, rfl, hown, hbel⟩ := hrel
    clear hown0
    have hub : u ≤ 9223372036854775807 := by rw [hu.out]; exact Nat.le_trans (Nat.div_le_self _ _) h1
    have hfr := hown.frozenAt (19 - j)
    have hcl : wr.cell? ⟨w.heap.size, 19 - j, none⟩ = some (.int .u8 0) := (hown.cellAt (19 - j) (by omega)).trans (row_at U j (by omega))
    have e1 : (20 - (j : Int) - 1).toNat = 19 - j := by omega
    have hdg : (dig (U / 10 ^ j)).toNat = 48 + u % 10 := by rw [dig_toNat, hu.out]
    have hst := (hown.stored (19 - j) (.int .u8 ((dig (U / 10 ^ j)).toNat : Int))).1
    rw [row_set U j (by omega), hdg] at hst
    have hst' : (wr.setCell ⟨w.heap.size, 19 - j, none⟩ (.int .u8 (48 + (u : Int) % 10))).ownsRow w.heap.size 41 1 (.slice (some ⟨w.heap.size, 0, none⟩) 20 20) 20 (row U (j + 1)) := by
      have e2 : ((48 + u % 10 : Nat) : Int) = 48 + (u : Int) % 10 := by omega
      rw [← e2]; exact hst
    have hbel' : Below w.heap.size w (wr.setCell ⟨w.heap.size, 19 - j, none⟩ (.int .u8 (48 + (u : Int) % 10))) := hbel.setCell (Nat.le_refl _) _
    have hdv : Hid (u / 10 = U / 10 ^ (j + 1)) := by show _ = _; rw [hu.out, Nat.div_div_eq_div_mul, Nat.pow_succ]
    clear hst hdg hown
    by_cases hq : u / 10 = 0
    · have hq' : ((u : Int) / 10 == 0) = true := by simp; omega
      have hca := cut_arr w.heap.size (j + 1) (by omega) (by omega) (20 - (j : Int) - 1) (by omega)
      have hcv := conv_at w.heap.size U (j + 1) (by omega) _ hst'
      rw [show 20 - (j + 1) = 19 - j from by omega] at hcv
      have hUj : Hid (U < 10 ^ (j + 1)) := by
        show _ < _
        have := hdv.out
        rw [hq] at this
        exact (Nat.div_eq_zero_iff_lt (Nat.pow_pos (by decide))).1 this.symm
      go_wp2
      go_ret
      exact ⟨j + 1, by omega, hUj.out, by omega, by rw [text, if_neg (by omega)]; rfl, hbel'⟩
    · have hq' : ((u : Int) / 10 == 0) = false := by simp; omega
      have hj1 : j + 1 ≤ 19 := by
        rcases Nat.lt_or_ge j 19 with h | h
        · exact h
        · obtain rfl : j = 19 := by omega
          have h0 := hdv.out
          have h2 : U / 10 ^ (19 + 1) = 0 := Nat.div_eq_of_lt (Nat.lt_of_le_of_lt h1 (by decide))
          exact absurd (h0.trans h2) hq
      go_wp2
      go_roundw
      case rel => exact ⟨j + 1, u / 10, hj1, .inr (by omega), hdv, by go_num, by go_num, hst', hbel'⟩
      case measure => simp [intOf]; omega

theorem itoa_neg (U : Nat) (w : World) (h0 : 1 ≤ U) (h1 : U ≤ 9223372036854775808) :
    Calls Tryd.prog 7 #[.int .i64 (-(U : Int))] w fun e w' => ∃ j, 0 < j ∧ U < 10 ^ j ∧ j ≤ 20 ∧ e = .returned (.string ⟨(text (-(U : Int)) j).toArray⟩) ∧ Below w.heap.size w w' := by
  have hd : decide (-(U : Int) < 0) = true := decide_eq_true (by omega)
  have hown0 := World.ownsRow_lit (e := 41) (size := 1) (base := w.heap.size) w #[.int .u8 0, .int .u8 0, .int .u8 0, .int .u8 0, .int .u8 0, .int .u8 0, .int .u8 0, .int .u8 0, .int .u8 0, .int .u8 0, .int .u8 0, .int .u8 0, .int .u8 0, .int .u8 0, .int .u8 0, .int .u8 0, .int .u8 0, .int .u8 0, .int .u8 0, .int .u8 0] 20 (Nat.le_refl _) (by unfold maxLen; omega) rfl
  go_enter Tryd.func7, Tryd.ntmps7
  go_wp2
  go_loopw [3, 5] (fun a i wr => ∃ j u : Nat, j ≤ 19 ∧ (j = 0 ∨ 0 < u) ∧ Hid (u = U / 10 ^ j) ∧ a = .int .u64 u ∧ i = .int .i64 (20 - (j : Int)) ∧ wr.ownsRow w.heap.size 41 1 (.slice (some ⟨w.heap.size, 0, none⟩) 20 20) 20 (row U j) ∧ Below w.heap.size w wr) (fun a _ _ => (intOf a).toNat)
  case atStart => exact ⟨0, U, by omega, .inl rfl, by show _ = _; simp, by go_num, rfl, hown0, (Below.refl _ _).alloc (Nat.le_refl _) _⟩
  case round =>
    obtain ⟨j, u, hj, hu0, hu, rfl, rfl, hown, hbel⟩ := hrel
    clear hown0
    have hub : u ≤ 9223372036854775808 := by rw [hu.out]; exact Nat.le_trans (Nat.div_le_self _ _) h1
    have hfr := hown.frozenAt (19 - j)
    have hcl : wr.cell? ⟨w.heap.size, 19 - j, none⟩ = some (.int .u8 0) := (hown.cellAt (19 - j) (by omega)).trans (row_at U j (by omega))
    have e1 : (20 - (j : Int) - 1).toNat = 19 - j := by omega
    have hdg : (dig (U / 10 ^ j)).toNat = 48 + u % 10 := by rw [dig_toNat, hu.out]
    have hst := (hown.stored (19 - j) (.int .u8 ((dig (U / 10 ^ j)).toNat : Int))).1
    rw [row_set U j (by omega), hdg] at hst
    have hst' : (wr.setCell ⟨w.heap.size, 19 - j, none⟩ (.int .u8 (48 + (u : Int) % 10))).ownsRow w.heap.size 41 1 (.slice (some ⟨w.heap.size, 0, none⟩) 20 20) 20 (row U (j + 1)) := by
      have e2 : ((48 + u % 10 : Nat) : Int) = 48 + (u : Int) % 10 := by omega
      rw [← e2]; exact hst
    have hbel' : Below w.heap.size w (wr.setCell ⟨w.heap.size, 19 - j, none⟩ (.int .u8 (48 + (u : Int) % 10))) := hbel.setCell (Nat.le_refl _) _
    have hdv : Hid (u / 10 = U / 10 ^ (j + 1)) := by show _ = _; rw [hu.out, Nat.div_div_eq_div_mul, Nat.pow_succ]
    clear hst hdg hown
    by_cases hq : u / 10 = 0
    · have hq' : ((u : Int) / 10 == 0) = true := by simp; omega
      have hca := cut_arr w.heap.size (j + 1) (by omega) (by omega) (20 - (j : Int) - 1) (by omega)
      have hcv := conv_at w.heap.size U (j + 1) (by omega) _ hst'
      rw [show 20 - (j + 1) = 19 - j from by omega] at hcv
      have hUj : Hid (U < 10 ^ (j + 1)) := by
        show _ < _
        have := hdv.out
        rw [hq] at this
        exact (Nat.div_eq_zero_iff_lt (Nat.pow_pos (by decide))).1 this.symm
      have hll := low_length U (j + 1)
      go_wp2
      go_ret
      refine ⟨j + 1, by omega, hUj.out, by omega, ?_, hbel'⟩
      rw [append_bytes, text, if_pos (by omega), Int.natAbs_neg, Int.natAbs_natCast]
      rfl
    · have hq' : ((u : Int) / 10 == 0) = false := by simp; omega
      have hj1 : j + 1 ≤ 19 := by
        rcases Nat.lt_or_ge j 19 with h | h
        · exact h
        · obtain rfl : j = 19 := by omega
          have h0 := hdv.out
          have h2 : U / 10 ^ (19 + 1) = 0 := Nat.div_eq_of_lt (Nat.lt_of_le_of_lt h1 (by decide))
          exact absurd (h0.trans h2) hq
      go_wp2
      go_roundw
      case rel => exact ⟨j + 1, u / 10, hj1, .inr (by omega), hdv, by go_num, by go_num, hst', hbel'⟩
      case measure => simp [intOf]; omega

/-- zzItoa64, at every int64. -/
theorem itoa (n : Int) (w : World) (h0 : -9223372036854775808 ≤ n) (h1 : n ≤ 9223372036854775807) :
    Calls Tryd.prog 7 #[.int .i64 n] w fun e w' => ∃ j, 0 < j ∧ n.natAbs < 10 ^ j ∧ j ≤ 20 ∧ e = .returned (.string ⟨(text n j).toArray⟩) ∧ Below w.heap.size w w' := by
  by_cases hn : n < 0
  · have h := itoa_neg n.natAbs w (by omega) (by omega)
    rw [show -(n.natAbs : Int) = n from by omega] at h
    exact h
  · have h := itoa_pos n.natAbs w (by omega)
    rw [show (n.natAbs : Int) = n from by omega] at h
    exact h

theorem text_length (n : Int) (j : Nat) : (text n j).length ≤ j + 1 := by
  unfold text
  split <;> simp [low_length]
end Go.Proofs.Qxb6608517aDoor
