/-
  Contracts: math/bits.Add64 (function 14, an entry of the model), (*Sum).Add (9), ZZnewSum (12).
-/
import Derived.Test.Qxb6606025aRows
import Derived.Test.Qxb6606025aPlain
import Derived.WalkKit
import Derived.WalkSpells
import Derived.WalkLawsBesides
import Derived.Laws.Externs
import Derived.Laws.Pointers
import Derived.Below
namespace Go.Proofs.Qxb6606025a
open Go.RowKit

theorem add64 (x y : Int) (hx : 0 ≤ x) (hy : 0 ≤ y) (w : World) : (callFunc 14 #[.int .u64 x, .int .u64 y, .int .u64 0]).run Try.prog w =
    .ok (.value (.tuple #[.int .u64 ((x + y) % 18446744073709551616), .int .u64 ((x + y) / 18446744073709551616)])) w := by
  rw [run_callFunc_extern Try.func14 (by kernel_rfl) (by kernel_rfl) (by kernel_rfl) (e := add64Entry) (by kernel_rfl), run_add64 x y 0 hx hy (by decide) (by decide)]
  simp only [Result.andThen, Int.add_zero]

theorem add64_at (lo v : Int) (h : 0 ≤ lo) (w : World) : (callFunc 14 #[.int .u64 lo, .int .u64 (IntKind.u64.wrap v), .int .u64 0]).run Try.prog w =
    .ok (.value (.tuple #[.int .u64 (addLo lo v), .int .u64 (addC lo v)])) w := by
  rw [IntKind.wrap_u64, add64 lo _ h (by omega)]
  rfl

theorem add_any (g : Nat) (hi lo v : Int) (w : World) (hl0 : 0 ≤ lo) (hl1 : lo < 18446744073709551616)
    (c0 : w.cell? ⟨g, 0, none⟩ = some (.int .i64 hi)) (c1 : w.cell? ⟨g, 1, none⟩ = some (.int .u64 lo)) (f0 : w.frozen? ⟨g, 0, none⟩ = false) (f1 : w.frozen? ⟨g, 1, none⟩ = false) :
    Calls Try.prog 9 #[.pointer (some ⟨g, 0, none⟩), .int .i64 v] w fun e w' => e = .returned (.tuple #[]) ∧
      w' = (w.setCell ⟨g, 1, none⟩ (.int .u64 (addLo lo v))).setCell ⟨g, 0, none⟩ (.int .i64 (addHi hi lo v)) := by
  have h64 := add64_at lo v hl0
  have hcb := addC_bd lo v hl0 hl1
  clear hl1
  go_enter Try.func9, Try.ntmps9
  go_wp2
  go_end0
  exact ⟨rfl, rfl⟩

theorem newSum_any (hi lo : Int) (w : World) : Calls Try.prog 12 #[.int .i64 hi, .int .u64 lo] w fun e w' =>
    e = .returned (.agg #[.int .i64 hi, .int .u64 lo]) ∧ w' = w.alloc (.cells #[.int .i64 hi, .int .u64 lo] 25) := by
  go_enter Try.func12, Try.ntmps12
  go_wp2
  simp [bodyPost, results, Try.results12, go_sem]
end Go.Proofs.Qxb6606025a
