/-
  b1CloneBytes (function 12): a fresh copy.
-/
import Derived.Test.Qxb6606006aRows
import Derived.WalkKit
import Derived.WalkSpells
import Derived.WalkLawsBesides
import Derived.Lib.SliceRun
import Derived.OwnWalk
import Derived.Below
namespace Go.Proofs.Qxb6606006a
open Go.RowKit

theorem Try.info5 : (Try.prog.info? 5).map (fun i => (i.zero, i.size, i.bytes)) = some (some (.int .u8 0), 1, 1) := by kernel_rfl

/-- What the fresh row holds when k bytes have been copied. -/
def part (zs : List Int) (n k : Nat) : List Value := (zs.take k).map (Value.int .u8) ++ List.replicate (n - k) (.int .u8 0)

theorem part_zero (zs : List Int) (n : Nat) : part zs n 0 = List.replicate n (.int .u8 0) := by simp [part]

theorem part_full (zs : List Int) (n : Nat) : part zs n n = (zs.take n).map (Value.int .u8) := by simp [part]

theorem part_set (zs : List Int) (n k : Nat) (hk : k < n) (hz : k < zs.length) : (part zs n k).set k (.int .u8 (zs.getD k 0)) = part zs n (k + 1) := by
  unfold part
  have h1 : ((zs.take k).map (Value.int .u8)).length = k := by simp; omega
  have h2 : n - k = (n - (k + 1)) + 1 := by omega
  rw [List.set_append_right _ _ (by omega), h1, Nat.sub_self, h2, List.replicate_succ, List.set_cons_zero, List.take_succ_eq_append_getElem hz, List.map_append, List.append_assoc, List.getD_eq_getElem?_getD, List.getElem?_eq_getElem hz]
  rfl

theorem part_at (zs : List Int) (n k : Nat) (hk : k < n) (hz : k < zs.length) : (part zs n k)[k]? = some (.int .u8 0) := by
  unfold part
  have h1 : ((zs.take k).map (Value.int .u8)).length = k := by simp; omega
  rw [List.getElem?_append_right (by omega), h1, Nat.sub_self, List.getElem?_replicate, if_pos (by omega)]

theorem clone_any (b off n c : Nat) (zs : List Int) (w : World) (hn : n ≤ zs.length) (hb : n ≤ 1048576)
    (hc : ∀ j, j < n → w.cell? ⟨b, off + j, none⟩ = some (.int .u8 (zs.getD j 0))) (hbB : 0 < n → b < w.heap.size) :
    Calls Try.prog 12 #[.slice (some ⟨b, off, none⟩) n c] w fun e w' => e = .returned (.slice (some ⟨w.heap.size, 0, none⟩) n n) ∧
      w'.ownsRow w.heap.size 5 1 (.slice (some ⟨w.heap.size, 0, none⟩) n n) n ((zs.take n).map (Value.int .u8)) ∧ Below w.heap.size w w' := by
  obtain ⟨i0, hi, hz0, hz1, hz2⟩ := info_parts Try.info5
  have q34 : ∀ (w : World) (a : Option Addr) (n c n' c' : Nat), (binOp .eql 34 (.slice a n c) (.slice none n' c')).run Try.prog w = .ok (.bool a.isNone) w := fun w a n c n' c' => Lib.run_eql_slice_nil w _ _ a n c n' c' Try.underlying34
  go_enter Try.func12, Try.ntmps12
  go_wp2_with (at_make; refine wpList_make_full _ rfl _ _ 34 rfl w.heap.size 5 i0 (.int .u8 0) 1 Try.underlying34 hi hz0 hz1 .i64 .i64 _ _ n rfl rfl rfl rfl (by rw [hz2]; omega) (by unfold maxLen; omega) (Nat.le_refl _) ?_; intro w1 hown1 hgrow1)
  rw [Nat.mul_one, show (Value.int .u8 0).cells = #[.int .u8 0] from rfl, toList_madeCells_one, ← part_zero zs] at hown1
  have hB1 : Below w.heap.size w w1 := (Below.refl _ _).grown hgrow1 (Nat.le_refl _) (by simp)
  clear hgrow1
  go_loopw [4] (fun i wr => ∃ k : Nat, k ≤ n ∧ i = .int .i64 k ∧ wr.ownsRow w.heap.size 5 1 (.slice (some ⟨w.heap.size, 0, none⟩) n n) n (part zs n k) ∧ Below w.heap.size w wr) (fun i _ => n - (intOf i).toNat)
  case atStart => exact ⟨0, Nat.zero_le _, rfl, hown1, hB1⟩
  case round =>
    obtain ⟨k, hk, rfl, hown, hbel⟩ := hrel
    clear hown1 hB1
    by_cases hlt : k < n
    · have hcx : wr.cell? ⟨b, off + k, none⟩ = some (.int .u8 (zs.getD k 0)) := (hbel.cell (by exact hbB (by omega))).trans (hc k hlt)
      have hfr := hown.frozenAt k
      have hcl : wr.cell? ⟨w.heap.size, k, none⟩ = some (.int .u8 0) := (hown.cellAt k (by omega)).trans (part_at zs n k hlt (by omega))
      have hst := (hown.stored k (.int .u8 (zs.getD k 0))).1
      rw [part_set zs n k hlt (by omega)] at hst
      have hz : k < zs.length := by omega
      have R : Hid ((wr.setCell ⟨w.heap.size, k, none⟩ (.int .u8 (zs.getD k 0))).ownsRow w.heap.size 5 1 (.slice (some ⟨w.heap.size, 0, none⟩) n n) n (part zs n (k + 1))) := hst
      clear hst hown
      go_wp2
      go_roundw
      case rel => exact ⟨k + 1, by omega, by go_num, by simpa [hz] using R.out, hbel.setCell (Nat.le_refl _) _⟩
      case measure => simp [intOf]; omega
    · obtain rfl : k = n := by omega
      go_wp2
      go_ret
      rw [part_full] at hown
      exact ⟨rfl, hown, hbel⟩
end Go.Proofs.Qxb6606006a
