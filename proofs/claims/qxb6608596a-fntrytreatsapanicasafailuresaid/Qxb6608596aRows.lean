/-
  No cell of these rows narrows 'for every input' (looked for: loops, veiled, ifaces, maps, wideKeys, modest, calm, conditions, laid).
  DERIVED. THE GIVEN ROWS OF THIS SEAT. 4 by the template 'for every input the law returns true; each argument reads behind the call as it read before'; 0 by the template 'total and deterministic' (their statements: Qxb6608596aTotals.lean).
  GIVEN WITH THE SEED: the statements are not yours to turn. If you find one false, say at which input.
  Laid BY PROGRAM, IN A SANDBOX (cutbox-rows.mjs): the forced cells as the released guide's own fill.sh prints them over the translation b42497e2ffd737ba… (all of the seat's roots in one cut). By AI agents, Wed Nov 11 2026. No macro, syntax, notation, axiom, sorry.
-/
import Derived.Test.Qxb6608596aChecked
import GoSem.Claim
import GoSem.ClaimJoined
import GoSem.ClaimMapViews
import Derived.JoinedTies
import Derived.KernelRfl
namespace Go.Proofs.Qxb6608596a
/- THE CELL 'sum', in the pinned program and in every row, IS THE sha256 OF THE DUMP (.gsa) THAT Qxb6608596aProg.lean LOADS. Nothing in Lean hashes anything: it is a label: what it is worth is what the hold of that sum in a sandbox is worth. -/
noncomputable def Try.pinned : Pinned := { name := "qxb6608596a", sum := "b42497e2ffd737ba83f5ac0976603548bfef6cb2f6ffbe146b50a1f436f1ef11", checked := Try.checked }
namespace Rows
def none {H : Type} : Left H := { results := [], args := [] }

/-- 'zzlaws_root_b1.FnTryTreatsAPanicAsAFailure': WHATEVER THE INPUT: true; the input reads as it did. -/
def fnTryTreatsAPanicAsAFailureSpec : ChangeSpec := { name := "fnTryTreatsAPanicAsAFailure", fn := fun _ => fun
  | [d1, d2] => { results := [.lit (.bool true)], args := [d1, d2] }
  | _ => none }
def fnTryTreatsAPanicAsAFailureRow : OpenClaim := { program := "qxb6608596a", sum := "b42497e2ffd737ba83f5ac0976603548bfef6cb2f6ffbe146b50a1f436f1ef11", func := "example.com/sundries/sundries/zzlaws_root_b1.FnTryTreatsAPanicAsAFailure", spec := "fnTryTreatsAPanicAsAFailure", unfollowed := true, recurses := true, apart := false }
def FnTryTreatsAPanicAsAFailureSaid : Prop := fnTryTreatsAPanicAsAFailureRow.holds Try.pinned (OpenSpec.ofChange fnTryTreatsAPanicAsAFailureSpec)

/-- ITS FALSE NEIGHBOUR: 'it returns false'. Refute it at one input. -/
def fnTryTreatsAPanicAsAFailureWrong : ChangeSpec := { name := "fnTryTreatsAPanicAsAFailure", fn := fun _ => fun
  | [d1, d2] => { results := [.lit (.bool false)], args := [d1, d2] }
  | _ => none }
def FnTryTreatsAPanicAsAFailureWrongFalsely : Prop := fnTryTreatsAPanicAsAFailureRow.holds Try.pinned (OpenSpec.ofChange fnTryTreatsAPanicAsAFailureWrong)

/-- 'zzlaws_root_b1.FnTryCatchCallsCatchExactlyWhenTryFails': WHATEVER THE INPUT: true; the input reads as it did. -/
def fnTryCatchCallsCatchExactlyWhenTryFailsSpec : ChangeSpec := { name := "fnTryCatchCallsCatchExactlyWhenTryFails", fn := fun _ => fun
  | [d1, d2] => { results := [.lit (.bool true)], args := [d1, d2] }
  | _ => none }
def fnTryCatchCallsCatchExactlyWhenTryFailsRow : OpenClaim := { program := "qxb6608596a", sum := "b42497e2ffd737ba83f5ac0976603548bfef6cb2f6ffbe146b50a1f436f1ef11", func := "example.com/sundries/sundries/zzlaws_root_b1.FnTryCatchCallsCatchExactlyWhenTryFails", spec := "fnTryCatchCallsCatchExactlyWhenTryFails", unfollowed := true, recurses := true, apart := false }
def FnTryCatchCallsCatchExactlyWhenTryFailsSaid : Prop := fnTryCatchCallsCatchExactlyWhenTryFailsRow.holds Try.pinned (OpenSpec.ofChange fnTryCatchCallsCatchExactlyWhenTryFailsSpec)

/-- ITS FALSE NEIGHBOUR: 'it returns false'. Refute it at one input. -/
def fnTryCatchCallsCatchExactlyWhenTryFailsWrong : ChangeSpec := { name := "fnTryCatchCallsCatchExactlyWhenTryFails", fn := fun _ => fun
  | [d1, d2] => { results := [.lit (.bool false)], args := [d1, d2] }
  | _ => none }
def FnTryCatchCallsCatchExactlyWhenTryFailsWrongFalsely : Prop := fnTryCatchCallsCatchExactlyWhenTryFailsRow.holds Try.pinned (OpenSpec.ofChange fnTryCatchCallsCatchExactlyWhenTryFailsWrong)

/-- 'zzlaws_root_b1.FnFromEndMirrorsTheIndexFromTheStart': WHATEVER THE INPUT: true; the input reads as it did. -/
def fnFromEndMirrorsTheIndexFromTheStartSpec : ChangeSpec := { name := "fnFromEndMirrorsTheIndexFromTheStart", fn := fun _ => fun
  | [d1, d2] => { results := [.lit (.bool true)], args := [d1, d2] }
  | _ => none }
def fnFromEndMirrorsTheIndexFromTheStartRow : OpenClaim := { program := "qxb6608596a", sum := "b42497e2ffd737ba83f5ac0976603548bfef6cb2f6ffbe146b50a1f436f1ef11", func := "example.com/sundries/sundries/zzlaws_root_b1.FnFromEndMirrorsTheIndexFromTheStart", spec := "fnFromEndMirrorsTheIndexFromTheStart", apart := false }
def FnFromEndMirrorsTheIndexFromTheStartSaid : Prop := fnFromEndMirrorsTheIndexFromTheStartRow.holds Try.pinned (OpenSpec.ofChange fnFromEndMirrorsTheIndexFromTheStartSpec)

/-- ITS FALSE NEIGHBOUR: 'it returns false'. Refute it at one input. -/
def fnFromEndMirrorsTheIndexFromTheStartWrong : ChangeSpec := { name := "fnFromEndMirrorsTheIndexFromTheStart", fn := fun _ => fun
  | [d1, d2] => { results := [.lit (.bool false)], args := [d1, d2] }
  | _ => none }
def FnFromEndMirrorsTheIndexFromTheStartWrongFalsely : Prop := fnFromEndMirrorsTheIndexFromTheStartRow.holds Try.pinned (OpenSpec.ofChange fnFromEndMirrorsTheIndexFromTheStartWrong)

/-- 'zzlaws_root_b1.FnFromEndGrowsWithTheLengthOnlyForNegativeIndices': WHATEVER THE INPUT: true; the input reads as it did. -/
def fnFromEndGrowsWithTheLengthOnlyForNegativeIndicesSpec : ChangeSpec := { name := "fnFromEndGrowsWithTheLengthOnlyForNegativeIndices", fn := fun _ => fun
  | [d1, d2] => { results := [.lit (.bool true)], args := [d1, d2] }
  | _ => none }
def fnFromEndGrowsWithTheLengthOnlyForNegativeIndicesRow : OpenClaim := { program := "qxb6608596a", sum := "b42497e2ffd737ba83f5ac0976603548bfef6cb2f6ffbe146b50a1f436f1ef11", func := "example.com/sundries/sundries/zzlaws_root_b1.FnFromEndGrowsWithTheLengthOnlyForNegativeIndices", spec := "fnFromEndGrowsWithTheLengthOnlyForNegativeIndices", apart := false }
def FnFromEndGrowsWithTheLengthOnlyForNegativeIndicesSaid : Prop := fnFromEndGrowsWithTheLengthOnlyForNegativeIndicesRow.holds Try.pinned (OpenSpec.ofChange fnFromEndGrowsWithTheLengthOnlyForNegativeIndicesSpec)

/-- ITS FALSE NEIGHBOUR: 'it returns false'. Refute it at one input. -/
def fnFromEndGrowsWithTheLengthOnlyForNegativeIndicesWrong : ChangeSpec := { name := "fnFromEndGrowsWithTheLengthOnlyForNegativeIndices", fn := fun _ => fun
  | [d1, d2] => { results := [.lit (.bool false)], args := [d1, d2] }
  | _ => none }
def FnFromEndGrowsWithTheLengthOnlyForNegativeIndicesWrongFalsely : Prop := fnFromEndGrowsWithTheLengthOnlyForNegativeIndicesRow.holds Try.pinned (OpenSpec.ofChange fnFromEndGrowsWithTheLengthOnlyForNegativeIndicesWrong)

end Rows
end Go.Proofs.Qxb6608596a
