/-
  'Rows.FnAddScriptIsExactAndOrderFreeSaid' proved. The frame is the guide's shell for this function; the walks and the plain laws are ours.
-/
import Derived.Test.Qxb6606025aRows
import Derived.WalkKit
import Derived.ProofKit
import Derived.OpenShut
import Derived.ShutString
import Derived.ChangeOld
import Derived.Below
import Derived.Test.Qxb6606025aScript
namespace Go.Proofs.Qxb6606025a.fnAddScriptIsExactAndOrderFree
open Go.ChangeShapes Go.WideShapes Go.ChangeAt Go.RowKit
open Go.ChangeMaps (open_string shut_string)
set_option linter.unusedVariables false

theorem own : ownKnob Try.prog.godebug = none := by kernel_rfl
theorem laidOut : laidOutB Try.prog = true := by kernel_rfl

/-- WHAT THE WALK IS TOLD OF A SLICE OF INTEGERS THAT CAME IN: it is nil; or it leads to a row of 'cap' cells, the numbers 'zs' (the first 'len' are its elements, the rest its spare room), each fitting its kind. -/
def IsRow (k : IntKind) (w : World) (a : Option Addr) (len cap : Nat) (zs : List Int) : Prop :=
  (a = none ∧ len = 0 ∧ cap = 0 ∧ zs = []) ∨
  ∃ x, a = some x ∧ len ≤ cap ∧ cap ≤ maxLen ∧ zs.length = cap ∧ (∀ i, i < zs.length → w.cell? (x.add i) = some (.int k (zs.getD i 0))) ∧ ∀ n ∈ zs, (Lit.int k n).wf = true

/-! ### THE WALK -/
theorem getD_bounds {zs : List Int} (h : ∀ n ∈ zs, (Lit.int .i64 n).wf = true) (j : Nat) : -9223372036854775808 ≤ zs.getD j 0 ∧ zs.getD j 0 ≤ 9223372036854775807 := by
  rw [List.getD_eq_getElem?_getD]
  by_cases hj : j < zs.length
  · rw [List.getElem?_eq_getElem hj]
    exact bounds_i64 (h _ (List.getElem_mem hj))
  · rw [List.getElem?_eq_none (by omega)]
    exact ⟨by decide, by decide⟩

theorem walk (a0 : Option Addr) (len0 cap0 : Nat) (z0 : List Int) (w : World) (w0 : IsRow .i64 w a0 len0 cap0 z0) :
    Calls Try.prog 6 #[.slice a0 len0 cap0] w fun e w' => e = .returned (.bool true) ∧ Below w.heap.size w w' := by
  by_cases h1 : 1048576 < len0
  · exact walk_long _ _ _ w h1
  by_cases h2 : 65536 < len0
  · exact walk_mid _ _ _ w h1 h2
  rcases w0 with ⟨rfl, rfl, rfl, rfl⟩ | ⟨x, rfl, hl, hm, hz, hcell, hwf⟩
  · exact walk_nil w
  obtain ⟨b, off, spot⟩ := x
  have hx : 0 < len0 → (⟨b, off, spot⟩ : Addr) = ⟨b, off, none⟩ := fun h0 => by
    have hspot : spot = none := by simpa [Addr.add] using World.cell?_spot (hcell 0 (by omega))
    rw [hspot]
  have hcell' : ∀ j, j < len0 → w.cell? ⟨b, off + j, none⟩ = some (.int .i64 (z0.getD j 0)) := fun j hj => by
    have hc := hcell j (by omega)
    rw [hx (by omega), add_plain] at hc
    exact hc
  exact walk_some ⟨b, off, spot⟩ b off len0 cap0 z0 w (by omega) (by omega) hx (getD_bounds hwf) hcell' (fun h0 => lt_of_cell (hcell' 0 h0))

/-! ### THE ROW's STEP: WRITTEN OUT: LEAVE IT -/
set_option maxRecDepth 100000 in
theorem lifted (os : Os) (started : os.Started) (H : Type) (enc : TypeId × Value → H) :
    ReturnsInHanded {} Try.checked os 6 .any (Rows.fnAddScriptIsExactAndOrderFreeSpec.pre6 enc Try.prog Try.f6 Rows.fnAddScriptIsExactAndOrderFreeRow.domain false) (Rows.fnAddScriptIsExactAndOrderFreeSpec.post enc Try.prog Try.f6 false true false false) := by
  refine returnsInHanded_of_change (C := Try.checked) own started (by kernel_rfl) Try.func6
    (ChangeSpec.witness6 (enc := enc) (C := Try.checked) false ⟨#[], #[.slice none 0 0], []⟩ 8 (by kernel_rfl) (by kernel_rfl) (by kernel_rfl) (by kernel_rfl)) ?_
  intro W base args ds gs before hval0 hW hcnd _
  have hval : ∀ (j : Nat) t v, Try.f6.params[j]? = some t → args[j]? = some v → Value.okWide Try.prog W .any base t v := hval0
  have hW' := hW
  obtain ⟨p, q, hA0, hV, rfl, hfz, hnd⟩ := hW
  have hA : DataW.TrodAll enc Try.prog W 0 (fun _ => true) true Try.f6.params.toList args.toList ds p := hA0
  rw [Try.params6] at hA hval
  obtain ⟨v0, vs0, d0, ds0, p0, q0, hargs, rfl, rfl, h0, r0⟩ := trodAll_cons hA
  obtain ⟨rfl, rfl, rfl⟩ := trodAll_nil r0
  obtain rfl : args = #[v0] := by cases args; simp_all
  obtain ⟨rfl, rfl⟩ := trodVars_none hV
  obtain ⟨a0, len0, cap0, rfl⟩ := okWide_slice Try.underlying36 (hval 0 36 v0 rfl rfl)
  have k0 := h0
  have lt0 : ∀ x ∈ p0, x.block < W.heap.size := by obtain ⟨m, hm⟩ := k0; exact DataW.trod_lt m _ _ _ hm
  obtain ⟨z0, w0⟩ : ∃ zs, IsRow .i64 W a0 len0 cap0 zs := by
    obtain ⟨fuel, hf⟩ := h0
    rcases open_ints Try.underlying36 Try.underlying2 (by kernel_rfl) hf with ⟨hcs, _⟩ | ⟨x, l, c, zs, hcs, _, hl, hm, hz, _, hcell, hwz⟩
    · simp [Value.cells] at hcs
      obtain ⟨rfl, rfl, rfl⟩ := hcs
      exact ⟨[], .inl ⟨rfl, rfl, rfl, rfl⟩⟩
    · simp [Value.cells] at hcs
      obtain ⟨rfl, rfl, rfl⟩ := hcs
      exact ⟨zs, .inr ⟨_, rfl, hl, hm, by simpa using hz, hcell, hwz⟩⟩
  clear hA0 hval0
  refine (walk a0 len0 cap0 z0 W w0).mono fun e W' ⟨he, bel⟩ => ?_
  subst he
  exact ⟨_, rfl, _, _, _, [], _, [], hW', trodAll_mk1 (shut_bool Try.underlying4 _), (trodAll_cons_mk (Below.trod laidOut (by kernel_rfl) (of_decide_eq_true (by kernel_rfl)) k0 bel lt0) trodAll_mk0), rfl, bel.frame _, fun h => by cases h⟩

theorem over : Rows.fnAddScriptIsExactAndOrderFreeRow.holds Try.pinned (OpenSpec.ofChange Rows.fnAddScriptIsExactAndOrderFreeSpec) :=
  OpenClaim.holds_of_wide 6 Try.f6 rfl rfl rfl rfl rfl rfl rfl ⟨rfl, rfl, rfl, rfl, rfl⟩ rfl rfl rfl rfl rfl (by kernel_rfl) Try.func6 (by kernel_rfl)
    (of_decide_eq_true (by kernel_rfl)) (by unfold Func.isWrapper; first | (rw [if_pos (by decide +kernel)]; kernel_rfl) | (rw [if_neg (by decide +kernel)]; exact ⟨rfl, rfl⟩))
    (fun os started H enc _ => lifted os started H enc)

/-- ████ THE STATEMENT ████ -/
theorem proved : Rows.FnAddScriptIsExactAndOrderFreeSaid := over
end Go.Proofs.Qxb6606025a.fnAddScriptIsExactAndOrderFree
