/-
  Contracts shared by both laws of this seat: (littleEndian).Uint64 (17), index.number (16), index.ZZnumber (13).
-/
import Derived.Test.Qxb6606006aClone
import Derived.WalkKit
import Derived.WalkSpells
import Derived.WalkLawsBesides
import Derived.Lib.SliceRun
import Derived.OwnWalk
import Derived.Below
import Derived.Deep.QuietTactic
import Derived.BigQuiet
import Derived.Stop.LaidErr
import Derived.Lib.EndianBits
namespace Go.Proofs.Qxb6606006a
open Go.RowKit

/-- The number that eight bytes spell, the least one first. -/
def le8 (b0 b1 b2 b3 b4 b5 b6 b7 : Int) : Int :=
  b0 + b1 * 256 + b2 * 65536 + b3 * 16777216 + b4 * 4294967296 + b5 * 1099511627776 + b6 * 281474976710656 + b7 * 72057594037927936

set_option maxHeartbeats 8000000 in
set_option maxRecDepth 100000 in
theorem le_u64 (g o n c : Nat) (b0 b1 b2 b3 b4 b5 b6 b7 : Int) (w : World) (hn : 8 ≤ n)
    (l0 : 0 ≤ b0) (l1 : 0 ≤ b1) (l2 : 0 ≤ b2) (l3 : 0 ≤ b3) (l4 : 0 ≤ b4) (l5 : 0 ≤ b5) (l6 : 0 ≤ b6) (l7 : 0 ≤ b7)
    (h0 : b0 < 256) (h1 : b1 < 256) (h2 : b2 < 256) (h3 : b3 < 256) (h4 : b4 < 256) (h5 : b5 < 256) (h6 : b6 < 256) (h7 : b7 < 256)
    (c0 : w.cell? ⟨g, o, none⟩ = some (.int .u8 b0)) (c1 : w.cell? ⟨g, o + 1, none⟩ = some (.int .u8 b1)) (c2 : w.cell? ⟨g, o + 2, none⟩ = some (.int .u8 b2)) (c3 : w.cell? ⟨g, o + 3, none⟩ = some (.int .u8 b3))
    (c4 : w.cell? ⟨g, o + 4, none⟩ = some (.int .u8 b4)) (c5 : w.cell? ⟨g, o + 5, none⟩ = some (.int .u8 b5)) (c6 : w.cell? ⟨g, o + 6, none⟩ = some (.int .u8 b6)) (c7 : w.cell? ⟨g, o + 7, none⟩ = some (.int .u8 b7)) :
    Calls Try.prog 17 #[.agg #[], .slice (some ⟨g, o, none⟩) n c] w fun e w' => e = .returned (.int .u64 (le8 b0 b1 b2 b3 b4 b5 b6 b7)) ∧ Below w.heap.size w w' := by
  have d0 := cell?_alloc_old (.cells #[] 45) c0
  have d1 := cell?_alloc_old (.cells #[] 45) c1
  have d2 := cell?_alloc_old (.cells #[] 45) c2
  have d3 := cell?_alloc_old (.cells #[] 45) c3
  have d4 := cell?_alloc_old (.cells #[] 45) c4
  have d5 := cell?_alloc_old (.cells #[] 45) c5
  have d6 := cell?_alloc_old (.cells #[] 45) c6
  have d7 := cell?_alloc_old (.cells #[] 45) c7
  have q0 : 0 < n := by omega
  have q1 : (1 : Int) < (n : Int) := by omega
  have q2 : (2 : Int) < (n : Int) := by omega
  have q3 : (3 : Int) < (n : Int) := by omega
  have q4 : (4 : Int) < (n : Int) := by omega
  have q5 : (5 : Int) < (n : Int) := by omega
  have q6 : (6 : Int) < (n : Int) := by omega
  have q7 : (7 : Int) < (n : Int) := by omega
  go_enter Try.func17, Try.ntmps17
  go_wp2
  go_quiet (fail)
  go_wp2
  go_ret
  refine ⟨?_, ((Below.refl _ w).alloc (Nat.le_refl _) _).trans ⟨rfl, rfl, rfl, Nat.le_refl _, fun _ _ => rfl⟩⟩
  simp (disch := omega) only [u64_or8, u64_or16, u64_or24, u64_or32, u64_or40, u64_or48, u64_or56]
  unfold le8
  rfl

/-- The same, of a row that begins at the head of its block. -/
theorem le_list (g n c : Nat) (xs : List Int) (w : World) (hn : 8 ≤ n) (hb : ∀ j, 0 ≤ xs.getD j 0 ∧ xs.getD j 0 < 256) (hc : ∀ j, j < n → w.cell? ⟨g, j, none⟩ = some (.int .u8 (xs.getD j 0))) :
    Calls Try.prog 17 #[.agg #[], .slice (some ⟨g, 0, none⟩) n c] w fun e w' => e = .returned (.int .u64 (le8 (xs.getD 0 0) (xs.getD 1 0) (xs.getD 2 0) (xs.getD 3 0) (xs.getD 4 0) (xs.getD 5 0) (xs.getD 6 0) (xs.getD 7 0))) ∧ Below w.heap.size w w' :=
  le_u64 g 0 n c (xs.getD 0 0) (xs.getD 1 0) (xs.getD 2 0) (xs.getD 3 0) (xs.getD 4 0) (xs.getD 5 0) (xs.getD 6 0) (xs.getD 7 0) w hn
    (hb 0).1 (hb 1).1 (hb 2).1 (hb 3).1 (hb 4).1 (hb 5).1 (hb 6).1 (hb 7).1 (hb 0).2 (hb 1).2 (hb 2).2 (hb 3).2 (hb 4).2 (hb 5).2 (hb 6).2 (hb 7).2
    (hc 0 (by omega)) (hc 1 (by omega)) (hc 2 (by omega)) (hc 3 (by omega)) (hc 4 (by omega)) (hc 5 (by omega)) (hc 6 (by omega)) (hc 7 (by omega))

/-- index.ZZnumber, which hands on index.number, which hands on binary.LittleEndian.Uint64. -/
theorem num_any (g n c : Nat) (xs : List Int) (w : World) (hn : 8 ≤ n) (hb : ∀ j, 0 ≤ xs.getD j 0 ∧ xs.getD j 0 < 256) (hc : ∀ j, j < n → w.cell? ⟨g, j, none⟩ = some (.int .u8 (xs.getD j 0))) :
    Calls Try.prog 13 #[.slice (some ⟨g, 0, none⟩) n c] w fun e w' => e = .returned (.int .u64 (le8 (xs.getD 0 0) (xs.getD 1 0) (xs.getD 2 0) (xs.getD 3 0) (xs.getD 4 0) (xs.getD 5 0) (xs.getD 6 0) (xs.getD 7 0))) ∧ Below w.heap.size w w' := by
  go_enter Try.func13, Try.ntmps13
  go_wp2_with (first | (go_at_call 17; refine (le_list g n c xs w hn hb hc).mono ?_; rintro e w1 ⟨rfl, hbel⟩) | go_in)
  go_ret
  exact ⟨by simp, hbel⟩
end Go.Proofs.Qxb6606006a
