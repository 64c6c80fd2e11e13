/-
  'Rows.FnNumberIsLittleEndianValueSaid' proved. The frame is the guide's shell for this function; the walk and the plain laws are ours.
-/
import Derived.Test.Qxb6606006aRows
import Derived.WalkKit
import Derived.ProofKit
import Derived.OpenShut
import Derived.ShutString
import Derived.ChangeOld
import Derived.Below
import Derived.Test.Qxb6606006aLe
namespace Go.Proofs.Qxb6606006a.fnNumberIsLittleEndianValue
open Go.ChangeShapes Go.WideShapes Go.ChangeAt Go.RowKit
open Go.ChangeMaps (open_string shut_string)
set_option linter.unusedVariables false

theorem own : ownKnob Try.prog.godebug = none := by kernel_rfl
theorem laidOut : laidOutB Try.prog = true := by kernel_rfl

/-- WHAT THE WALK IS TOLD OF A SLICE OF INTEGERS THAT CAME IN: it is nil; or it leads to a row of 'cap' cells, the numbers 'zs' (the first 'len' are its elements, the rest its spare room), each fitting its kind. -/
def IsRow (k : IntKind) (w : World) (a : Option Addr) (len cap : Nat) (zs : List Int) : Prop :=
  (a = none ∧ len = 0 ∧ cap = 0 ∧ zs = []) ∨
  ∃ x, a = some x ∧ len ≤ cap ∧ cap ≤ maxLen ∧ zs.length = cap ∧ (∀ i, i < zs.length → w.cell? (x.add i) = some (.int k (zs.getD i 0))) ∧ ∀ n ∈ zs, (Lit.int k n).wf = true

/-! ### THE WALK -/
theorem u8_bounds {n : Int} (h : (Lit.int .u8 n).wf = true) : 0 ≤ n ∧ n < 256 := by
  have := bounds_u8 h; omega

theorem getD_bounds {zs : List Int} (h : ∀ n ∈ zs, (Lit.int .u8 n).wf = true) (j : Nat) : 0 ≤ zs.getD j 0 ∧ zs.getD j 0 < 256 := by
  rw [List.getD_eq_getElem?_getD]
  by_cases hj : j < zs.length
  · rw [List.getElem?_eq_getElem hj]
    exact u8_bounds (h _ (List.getElem_mem hj))
  · rw [List.getElem?_eq_none (by omega)]
    exact ⟨Int.le_refl _, by decide⟩

theorem walk_nil (w : World) : Calls Try.prog 4 #[.slice none 0 0] w fun e w' => e = .returned (.bool true) ∧ Below w.heap.size w w' := by
  go_enter Try.func4, Try.ntmps4
  go_wp2
  go_ret
  exact ⟨rfl, Below.refl _ _⟩

theorem walk_long (a : Option Addr) (n c : Nat) (w : World) (h : 1048576 < n) : Calls Try.prog 4 #[.slice a n c] w fun e w' => e = .returned (.bool true) ∧ Below w.heap.size w w' := by
  have hd1 : decide ((1048576 : Int) < (n : Int)) = true := decide_eq_true (by omega)
  go_enter Try.func4, Try.ntmps4
  go_wp2
  go_ret
  exact ⟨rfl, Below.refl _ _⟩

theorem walk_short (a : Option Addr) (n c : Nat) (w : World) (h : n < 8) : Calls Try.prog 4 #[.slice a n c] w fun e w' => e = .returned (.bool true) ∧ Below w.heap.size w w' := by
  have hd1 : decide ((1048576 : Int) < (n : Int)) = false := decide_eq_false (by omega)
  have hd2 : decide ((n : Int) < 8) = true := decide_eq_true (by omega)
  go_enter Try.func4, Try.ntmps4
  go_wp2
  go_ret
  exact ⟨rfl, Below.refl _ _⟩

/-- Horner's rule from the top byte, j rounds. -/
def hor (z : List Int) : Nat → Int
  | 0 => 0
  | j + 1 => hor z j * 256 + z.getD (7 - j) 0

theorem hor_bd (z : List Int) (hb : ∀ j, 0 ≤ z.getD j 0 ∧ z.getD j 0 < 256) (j : Nat) (hj : j < 8) : 0 ≤ hor z j ∧ hor z j < 72057594037927936 := by
  have b0 := hb 0; have b1 := hb 1; have b2 := hb 2; have b3 := hb 3; have b4 := hb 4; have b5 := hb 5; have b6 := hb 6; have b7 := hb 7
  have h : j = 0 ∨ j = 1 ∨ j = 2 ∨ j = 3 ∨ j = 4 ∨ j = 5 ∨ j = 6 ∨ j = 7 := by omega
  rcases h with rfl | rfl | rfl | rfl | rfl | rfl | rfl | rfl <;> simp only [hor, Nat.sub_zero, Nat.reduceSub] <;> omega

theorem hor_8 (z : List Int) : hor z 8 = le8 (z.getD 0 0) (z.getD 1 0) (z.getD 2 0) (z.getD 3 0) (z.getD 4 0) (z.getD 5 0) (z.getD 6 0) (z.getD 7 0) := by
  simp only [hor, le8, Nat.sub_zero, Nat.reduceSub]; omega

set_option maxHeartbeats 400000 in
theorem walk_big (b off n c : Nat) (zs : List Int) (w : World) (hn : n ≤ zs.length) (hb : n ≤ 1048576) (h8 : 8 ≤ n) (hz : ∀ j, 0 ≤ zs.getD j 0 ∧ zs.getD j 0 < 256)
    (hc : ∀ j, j < n → w.cell? ⟨b, off + j, none⟩ = some (.int .u8 (zs.getD j 0))) (hbB : b < w.heap.size) :
    Calls Try.prog 4 #[.slice (some ⟨b, off, none⟩) n c] w fun e w' => e = .returned (.bool true) ∧ Below w.heap.size w w' := by
  have hd1 : decide ((1048576 : Int) < (n : Int)) = false := decide_eq_false (by omega)
  have hd2 : decide ((n : Int) < 8) = false := decide_eq_false (by omega)
  go_enter Try.func4, Try.ntmps4
  go_wp2_with (first | (go_at_call 12; refine (clone_any b off n c zs w hn hb hc (fun _ => hbB)).mono ?_; rintro e w1 ⟨rfl, hown, hbel⟩) | go_in)
  have hcl : ∀ j, j < n → w1.cell? ⟨w.heap.size, j, none⟩ = some (.int .u8 (zs.getD j 0)) := by
    intro j hj
    rw [hown.cellAt j (by omega), List.getElem?_map, List.getElem?_take, if_pos hj, List.getElem?_eq_getElem (by omega), List.getD_eq_getElem?_getD, List.getElem?_eq_getElem (by omega)]
    rfl
  have hz1 := hbel.size
  clear hc hown
  go_loop [3, 4] (fun t i => ∃ j : Nat, j ≤ 8 ∧ i = .int .i64 (7 - (j : Int)) ∧ t = .int .u64 (hor zs j)) (fun _ i => (intOf i + 1).toNat)
  case atStart => exact ⟨0, by omega, rfl, rfl⟩
  case round =>
    obtain ⟨j, hj, rfl, rfl⟩ := hrel
    by_cases hlt : j < 8
    · have hcx := hcl (7 - j) (by omega)
      have hzb := hz (7 - j)
      have hh := hor_bd zs hz j hlt
      have e1 : (7 - (j : Int)).toNat = 7 - j := by omega
      have hlt' : (7 - (j : Int)) < n := by omega
      have hlt0 : 0 ≤ (7 - (j : Int)) := by omega
      have HS : Hid (hor zs (j + 1) = hor zs j * 256 + zs.getD (7 - j) 0) := rfl
      have HV : Hid (IntKind.u64.wrap (hor zs j * 256 + IntKind.u64.wrap (zs[7 - j]?.getD 0)) = hor zs (j + 1)) := by
        have e2 : zs[7 - j]?.getD 0 = zs.getD (7 - j) 0 := (List.getD_eq_getElem?_getD).symm
        show _ = _
        rw [HS.out, e2, u64_wrap_id (zs.getD (7 - j) 0) (by omega) (by omega), u64_wrap_id _ (by omega) (by omega)]
      go_wp2
      go_round
      case rel => exact ⟨j + 1, by omega, by go_num, by rw [HV.out]⟩
      case measure => simp [intOf]; omega
    · obtain rfl : j = 8 := by omega
      go_wp2_with (go_at_call 13; refine (num_any w.heap.size n n zs w1 h8 hz hcl).mono ?_; rintro e w2 ⟨rfl, hbel2⟩)
      have h8e := hor_8 zs
      simp only [List.getD_eq_getElem?_getD] at h8e
      rw [← h8e, beq_self_eq_true]
      go_ret
      exact ⟨rfl, hbel.trans (hbel2.mono hz1)⟩

theorem walk (a0 : Option Addr) (len0 cap0 : Nat) (z0 : List Int) (w : World) (w0 : IsRow .u8 w a0 len0 cap0 z0) :
    Calls Try.prog 4 #[.slice a0 len0 cap0] w fun e w' => e = .returned (.bool true) ∧ Below w.heap.size w w' := by
  rcases w0 with ⟨rfl, rfl, rfl, rfl⟩ | ⟨x, rfl, hl, hm, hz, hcell, hwf⟩
  · exact walk_nil w
  by_cases h1 : 1048576 < len0
  · exact walk_long _ _ _ w h1
  by_cases h2 : len0 < 8
  · exact walk_short _ _ _ w h2
  obtain ⟨b, off, spot⟩ := x
  have hspot : spot = none := by simpa [Addr.add] using World.cell?_spot (hcell 0 (by omega))
  subst hspot
  have hcell' : ∀ j, j < len0 → w.cell? ⟨b, off + j, none⟩ = some (.int .u8 (z0.getD j 0)) := fun j hj => by rw [← add_plain]; exact hcell j (by omega)
  have hbB : b < w.heap.size := by
    rcases Nat.lt_or_ge b w.heap.size with h | h
    · exact h
    · have h0 := hcell' 0 (by omega)
      simp [World.cell?, Array.getElem?_eq_none h] at h0
  exact walk_big b off len0 cap0 z0 w (by omega) (by omega) (by omega) (getD_bounds hwf) hcell' hbB

/-! ### THE ROW's STEP: WRITTEN OUT: LEAVE IT -/
set_option maxRecDepth 100000 in
theorem lifted (os : Os) (started : os.Started) (H : Type) (enc : TypeId × Value → H) :
    ReturnsInHanded {} Try.checked os 4 .any (Rows.fnNumberIsLittleEndianValueSpec.pre6 enc Try.prog Try.f4 Rows.fnNumberIsLittleEndianValueRow.domain false) (Rows.fnNumberIsLittleEndianValueSpec.post enc Try.prog Try.f4 false true false false) := by
  refine returnsInHanded_of_change (C := Try.checked) own started (by kernel_rfl) Try.func4
    (ChangeSpec.witness6 (enc := enc) (C := Try.checked) false ⟨#[], #[.slice none 0 0], []⟩ 8 (by kernel_rfl) (by kernel_rfl) (by kernel_rfl) (by kernel_rfl)) ?_
  intro W base args ds gs before hval0 hW hcnd _
  have hval : ∀ (j : Nat) t v, Try.f4.params[j]? = some t → args[j]? = some v → Value.okWide Try.prog W .any base t v := hval0
  have hW' := hW
  obtain ⟨p, q, hA0, hV, rfl, hfz, hnd⟩ := hW
  have hA : DataW.TrodAll enc Try.prog W 0 (fun _ => true) true Try.f4.params.toList args.toList ds p := hA0
  rw [Try.params4] at hA hval
  obtain ⟨v0, vs0, d0, ds0, p0, q0, hargs, rfl, rfl, h0, r0⟩ := trodAll_cons hA
  obtain ⟨rfl, rfl, rfl⟩ := trodAll_nil r0
  obtain rfl : args = #[v0] := by cases args; simp_all
  obtain ⟨rfl, rfl⟩ := trodVars_none hV
  obtain ⟨a0, len0, cap0, rfl⟩ := okWide_slice Try.underlying34 (hval 0 34 v0 rfl rfl)
  have k0 := h0
  have lt0 : ∀ x ∈ p0, x.block < W.heap.size := by obtain ⟨m, hm⟩ := k0; exact DataW.trod_lt m _ _ _ hm
  obtain ⟨z0, w0⟩ : ∃ zs, IsRow .u8 W a0 len0 cap0 zs := by
    obtain ⟨fuel, hf⟩ := h0
    rcases open_ints Try.underlying34 Try.underlying5 (by kernel_rfl) hf with ⟨hcs, _⟩ | ⟨x, l, c, zs, hcs, _, hl, hm, hz, _, hcell, hwz⟩
    · simp [Value.cells] at hcs
      obtain ⟨rfl, rfl, rfl⟩ := hcs
      exact ⟨[], .inl ⟨rfl, rfl, rfl, rfl⟩⟩
    · simp [Value.cells] at hcs
      obtain ⟨rfl, rfl, rfl⟩ := hcs
      exact ⟨zs, .inr ⟨_, rfl, hl, hm, by simpa using hz, hcell, hwz⟩⟩
  clear hA0 hval0
  refine (walk a0 len0 cap0 z0 W w0).mono fun e W' ⟨he, bel⟩ => ?_
  subst he
  exact ⟨_, rfl, _, _, _, [], _, [], hW', trodAll_mk1 (shut_bool Try.underlying4 _), (trodAll_cons_mk (Below.trod laidOut (by kernel_rfl) (of_decide_eq_true (by kernel_rfl)) k0 bel lt0) trodAll_mk0), rfl, bel.frame _, fun h => by cases h⟩

theorem over : Rows.fnNumberIsLittleEndianValueRow.holds Try.pinned (OpenSpec.ofChange Rows.fnNumberIsLittleEndianValueSpec) :=
  OpenClaim.holds_of_wide 4 Try.f4 rfl rfl rfl rfl rfl rfl rfl ⟨rfl, rfl, rfl, rfl, rfl⟩ rfl rfl rfl rfl rfl (by kernel_rfl) Try.func4 (by kernel_rfl)
    (of_decide_eq_true (by kernel_rfl)) (by unfold Func.isWrapper; first | (rw [if_pos (by decide +kernel)]; kernel_rfl) | (rw [if_neg (by decide +kernel)]; exact ⟨rfl, rfl⟩))
    (fun os started H enc _ => lifted os started H enc)

/-- ████ THE STATEMENT ████ -/
theorem proved : Rows.FnNumberIsLittleEndianValueSaid := over
end Go.Proofs.Qxb6606006a.fnNumberIsLittleEndianValue
