/-
  'Rows.FnNumberReadsBackWrittenNumberSaid' proved. The frame is the guide's shell for this function; the walks and the plain laws are ours.
-/
import Derived.Test.Qxb6606006aRows
import Derived.WalkKit
import Derived.ProofKit
import Derived.OpenShut
import Derived.ShutString
import Derived.ChangeOld
import Derived.Below
import Derived.Test.Qxb6606006aLe
namespace Go.Proofs.Qxb6606006a.fnNumberReadsBackWrittenNumber
open Go.ChangeShapes Go.WideShapes Go.ChangeAt Go.RowKit
open Go.ChangeMaps (open_string shut_string)
set_option linter.unusedVariables false

theorem own : ownKnob Try.prog.godebug = none := by kernel_rfl
theorem laidOut : laidOutB Try.prog = true := by kernel_rfl

/-- WHAT THE WALK IS TOLD OF A SLICE OF INTEGERS THAT CAME IN: it is nil; or it leads to a row of 'cap' cells, the numbers 'zs' (the first 'len' are its elements, the rest its spare room), each fitting its kind. -/
def IsRow (k : IntKind) (w : World) (a : Option Addr) (len cap : Nat) (zs : List Int) : Prop :=
  (a = none ∧ len = 0 ∧ cap = 0 ∧ zs = []) ∨
  ∃ x, a = some x ∧ len ≤ cap ∧ cap ≤ maxLen ∧ zs.length = cap ∧ (∀ i, i < zs.length → w.cell? (x.add i) = some (.int k (zs.getD i 0))) ∧ ∀ n ∈ zs, (Lit.int k n).wf = true

/-! ### THE WALK -/
theorem getD_bounds {zs : List Int} (h : ∀ n ∈ zs, (Lit.int .u8 n).wf = true) (j : Nat) : 0 ≤ zs.getD j 0 ∧ zs.getD j 0 < 256 := by
  rw [List.getD_eq_getElem?_getD]
  by_cases hj : j < zs.length
  · rw [List.getElem?_eq_getElem hj]
    have := bounds_u8 (h _ (List.getElem_mem hj))
    exact ⟨this.1, by show zs[j] < 256; omega⟩
  · rw [List.getElem?_eq_none (by omega)]
    exact ⟨Int.le_refl _, by decide⟩

theorem walk_long (v : Int) (a : Option Addr) (n c : Nat) (w : World) (h : 1048576 < n) : Calls Try.prog 5 #[.int .u64 v, .slice a n c] w fun e w' => e = .returned (.bool true) ∧ Below w.heap.size w w' := by
  have hd1 : decide ((1048576 : Int) < (n : Int)) = true := decide_eq_true (by omega)
  go_enter Try.func5, Try.ntmps5
  go_wp2
  go_ret
  exact ⟨rfl, Below.refl _ _⟩

theorem clone_nil (w : World) : Calls Try.prog 12 #[.slice none 0 0] w fun e w' => e = .returned (.slice none 0 0) ∧ w' = w := by
  have q34 : ∀ (w : World) (a : Option Addr) (n c n' c' : Nat), (binOp .eql 34 (.slice a n c) (.slice none n' c')).run Try.prog w = .ok (.bool a.isNone) w := fun w a n c n' c' => Lib.run_eql_slice_nil w _ _ a n c n' c' Try.underlying34
  go_enter Try.func12, Try.ntmps12
  go_wp2
  go_ret
  exact ⟨rfl, rfl⟩

theorem clone_zero (x : Addr) (c : Nat) (w : World) :
    Calls Try.prog 12 #[.slice (some x) 0 c] w fun e w' => e = .returned (.slice (some ⟨w.heap.size, 0, none⟩) 0 0) ∧ Below w.heap.size w w' := by
  obtain ⟨i0, hi, hz0, hz1, hz2⟩ := info_parts Try.info5
  have q34 : ∀ (w : World) (a : Option Addr) (n c n' c' : Nat), (binOp .eql 34 (.slice a n c) (.slice none n' c')).run Try.prog w = .ok (.bool a.isNone) w := fun w a n c n' c' => Lib.run_eql_slice_nil w _ _ a n c n' c' Try.underlying34
  go_enter Try.func12, Try.ntmps12
  go_wp2_with (at_make; refine wpList_make_full _ rfl _ _ 34 rfl w.heap.size 5 i0 (.int .u8 0) 1 Try.underlying34 hi hz0 hz1 .i64 .i64 _ _ 0 rfl rfl rfl rfl (by omega) (by unfold maxLen; omega) (Nat.le_refl _) ?_; intro w1 hown1 hgrow1)
  have hB1 : Below w.heap.size w w1 := (Below.refl _ _).grown hgrow1 (Nat.le_refl _) (by simp)
  clear hgrow1 hown1
  refine wp_loop_rounds 1 ?_
  rw [rounds_succ]
  go_wp2
  go_ret
  exact ⟨rfl, hB1⟩

theorem clone_gen (a : Option Addr) (n c : Nat) (zs : List Int) (w : World) (hn : n ≤ zs.length) (hb : n ≤ 1048576) (ha : a = none → n = 0 ∧ c = 0)
    (hc : ∀ x, a = some x → ∀ j, j < n → w.cell? (x.add j) = some (.int .u8 (zs.getD j 0))) :
    Calls Try.prog 12 #[.slice a n c] w fun e w' => ∃ a', e = .returned (.slice a' n n) ∧ (0 < n → a' = some ⟨w.heap.size, 0, none⟩) ∧
      (∀ j, j < n → w'.cell? ⟨w.heap.size, j, none⟩ = some (.int .u8 (zs.getD j 0))) ∧ Below w.heap.size w w' := by
  match a with
  | none =>
    obtain ⟨rfl, rfl⟩ := ha rfl
    refine (clone_nil w).mono ?_
    rintro e w' ⟨rfl, rfl⟩
    exact ⟨none, rfl, fun h => by omega, fun j hj => by omega, Below.refl _ _⟩
  | some x =>
    by_cases h0 : n = 0
    · subst h0
      refine (clone_zero x c w).mono ?_
      rintro e w' ⟨rfl, hbel⟩
      exact ⟨_, rfl, fun h => by omega, fun j hj => by omega, hbel⟩
    · obtain ⟨b, off, spot⟩ := x
      have hspot : spot = none := by simpa [Addr.add] using World.cell?_spot (hc _ rfl 0 (by omega))
      subst hspot
      have hcell' : ∀ j, j < n → w.cell? ⟨b, off + j, none⟩ = some (.int .u8 (zs.getD j 0)) := fun j hj => by rw [← Go.WideShapes.add_plain]; exact hc _ rfl j hj
      have hbB : b < w.heap.size := by
        rcases Nat.lt_or_ge b w.heap.size with h | h
        · exact h
        · have h0 := hcell' 0 (by omega)
          simp [World.cell?, Array.getElem?_eq_none h] at h0
      refine (clone_any b off n c zs w hn hb hcell' (fun _ => hbB)).mono ?_
      rintro e w' ⟨rfl, hown, hbel⟩
      refine ⟨_, rfl, fun _ => rfl, fun j hj => ?_, hbel⟩
      rw [hown.cellAt j (by omega), List.getElem?_map, List.getElem?_take, if_pos hj, List.getElem?_eq_getElem (by omega), List.getD_eq_getElem?_getD, List.getElem?_eq_getElem (by omega)]
      rfl

/-- The bytes that the law writes: v's eight, the least first, then the tail's. -/
def whole (v : Int) (zs : List Int) : List Int := [v % 256, v / 256 % 256, v / 65536 % 256, v / 16777216 % 256, v / 4294967296 % 256, v / 1099511627776 % 256, v / 281474976710656 % 256, v / 72057594037927936 % 256] ++ zs

theorem whole_byte (v : Int) (zs : List Int) (k : Nat) (hk : k < 8) : (whole v zs).getD k 0 = v / 2 ^ (8 * k) % 256 := by
  have h : k = 0 ∨ k = 1 ∨ k = 2 ∨ k = 3 ∨ k = 4 ∨ k = 5 ∨ k = 6 ∨ k = 7 := by omega
  rcases h with rfl | rfl | rfl | rfl | rfl | rfl | rfl | rfl <;> simp [whole]

theorem whole_tail (v : Int) (zs : List Int) (t : Nat) : (whole v zs).getD (8 + t) 0 = zs.getD t 0 := by
  unfold whole
  rw [List.getD_eq_getElem?_getD, List.getElem?_append_right (by simp)]
  simp

theorem whole_bd (v : Int) (zs : List Int) (hz : ∀ j, 0 ≤ zs.getD j 0 ∧ zs.getD j 0 < 256) (j : Nat) : 0 ≤ (whole v zs).getD j 0 ∧ (whole v zs).getD j 0 < 256 := by
  by_cases h : j < 8
  · rw [whole_byte v zs j h]; omega
  · have e : j = 8 + (j - 8) := by omega
    rw [e, whole_tail]; exact hz _

theorem whole_le (v : Int) (zs : List Int) (h0 : 0 ≤ v) (h1 : v < 18446744073709551616) :
    le8 ((whole v zs).getD 0 0) ((whole v zs).getD 1 0) ((whole v zs).getD 2 0) ((whole v zs).getD 3 0) ((whole v zs).getD 4 0) ((whole v zs).getD 5 0) ((whole v zs).getD 6 0) ((whole v zs).getD 7 0) = v := by
  rw [whole_byte _ _ 0 (by omega), whole_byte _ _ 1 (by omega), whole_byte _ _ 2 (by omega), whole_byte _ _ 3 (by omega), whole_byte _ _ 4 (by omega), whole_byte _ _ 5 (by omega), whole_byte _ _ 6 (by omega), whole_byte _ _ 7 (by omega)]
  simp only [le8, Nat.reduceMul, Int.reducePow]
  omega

theorem walk_gen (v : Int) (a : Option Addr) (n c : Nat) (zs : List Int) (w : World) (hv0 : 0 ≤ v) (hv1 : v < 18446744073709551616) (hn : n ≤ zs.length) (hb : n ≤ 1048576) (ha : a = none → n = 0 ∧ c = 0) (hz : ∀ j, 0 ≤ zs.getD j 0 ∧ zs.getD j 0 < 256)
    (hc : ∀ x, a = some x → ∀ j, j < n → w.cell? (x.add j) = some (.int .u8 (zs.getD j 0))) :
    Calls Try.prog 5 #[.int .u64 v, .slice a n c] w fun e w' => e = .returned (.bool true) ∧ Below w.heap.size w w' := by
  have hd1 : decide ((1048576 : Int) < (n : Int)) = false := decide_eq_false (by omega)
  obtain ⟨i0, hi, hz0, hz1, hz2⟩ := info_parts Try.info5
  have HC : Hid (∀ x, a = some x → ∀ j, j < n → w.cell? (x.add j) = some (.int .u8 (zs.getD j 0))) := hc
  have HA : Hid (a = none → n = 0 ∧ c = 0) := ha
  clear hc ha
  go_enter Try.func5, Try.ntmps5
  go_wp2_with (first | (go_at_call 12; refine (clone_gen a n c zs w hn hb HA.out HC.out).mono ?_; rintro e w1 ⟨a', rfl, ha', hcl, hbel⟩) | (at_make; refine wpList_make_full _ rfl _ _ 34 rfl w1.heap.size 5 i0 (.int .u8 0) 1 Try.underlying34 hi hz0 hz1 .i64 .i64 _ _ (8 + n) rfl rfl (by omega) (by omega) (by rw [hz2]; omega) (by unfold maxLen; omega) (Nat.le_refl _) ?_; intro w2 hown2 hgrow2) | go_in)
  rw [Nat.mul_one, show (Value.int .u8 0).cells = #[.int .u8 0] from rfl, toList_madeCells_one, ← part_zero (whole v zs)] at hown2
  have hB2 : Below w1.heap.size w1 w2 := (Below.refl _ _).grown hgrow2 (Nat.le_refl _) (by simp)
  have HA' : Hid (0 < n → a' = some ⟨w.heap.size, 0, none⟩) := ha'
  have hsz := hbel.size
  have hlw : (whole v zs).length = 8 + zs.length := by simp [whole]; omega
  have HL : Hid ((whole v zs).length = 8 + zs.length) := hlw
  clear hgrow2 ha' hlw HC HA
  go_loopw [6] (fun i wr => ∃ k : Nat, k ≤ 8 ∧ i = .int .i64 k ∧ wr.ownsRow w1.heap.size 5 1 (.slice (some ⟨w1.heap.size, 0, none⟩) (8 + n) (8 + n)) (8 + n) (part (whole v zs) (8 + n) k) ∧ Below w1.heap.size w1 wr) (fun i _ => 8 - (intOf i).toNat)
  case atStart => exact ⟨0, Nat.zero_le _, rfl, hown2, hB2⟩
  case round =>
    obtain ⟨k, hk, rfl, hown, hbel2⟩ := hrel
    clear hown2 hB2
    by_cases hlt : k < 8
    · have hfr := hown.frozenAt k
      have hcl2 : wr.cell? ⟨w1.heap.size, k, none⟩ = some (.int .u8 0) := (hown.cellAt k (by omega)).trans (part_at (whole v zs) (8 + n) k (by omega) (by rw [HL.out]; omega))
      have hst := (hown.stored k (.int .u8 ((whole v zs).getD k 0))).1
      rw [part_set (whole v zs) (8 + n) k (by omega) (by rw [HL.out]; omega)] at hst
      have R : Hid ((wr.setCell ⟨w1.heap.size, k, none⟩ (.int .u8 ((whole v zs).getD k 0))).ownsRow w1.heap.size 5 1 (.slice (some ⟨w1.heap.size, 0, none⟩) (8 + n) (8 + n)) (8 + n) (part (whole v zs) (8 + n) (k + 1))) := hst
      have hlt' : (k : Int) < 8 := by omega
      clear hst hown hcl
      go_wp2
      rw [whole_byte v zs k hlt] at R
      go_roundw
      case rel => exact ⟨k + 1, by omega, by go_num, R.out, hbel2.setCell (Nat.le_refl _) _⟩
      case measure => simp [intOf]; omega
    · have h8 : k = 8 := by omega
      have hown8 := hown
      rw [h8] at hown8
      clear h8 hown
      obtain ⟨wo, rfl⟩ : ∃ wo : World, wo = wr := ⟨_, rfl⟩
      go_wp2
      go_loopw [7] (fun i wr => ∃ t : Nat, t ≤ n ∧ i = .int .i64 t ∧ wr.ownsRow w1.heap.size 5 1 (.slice (some ⟨w1.heap.size, 0, none⟩) (8 + n) (8 + n)) (8 + n) (part (whole v zs) (8 + n) (8 + t)) ∧ Below w1.heap.size w1 wr) (fun i _ => n - (intOf i).toNat)
      case atStart => exact ⟨0, Nat.zero_le _, rfl, hown8, hbel2⟩
      case round =>
        obtain ⟨t, ht, rfl, hown, hbel3⟩ := hrel
        clear hown8 hbel2
        by_cases hlt2 : t < n
        · have hfr := hown.frozenAt (8 + t)
          have hcl2 : wr.cell? ⟨w1.heap.size, 8 + t, none⟩ = some (.int .u8 0) := (hown.cellAt (8 + t) (by omega)).trans (part_at (whole v zs) (8 + n) (8 + t) (by omega) (by rw [HL.out]; omega))
          have hst := (hown.stored (8 + t) (.int .u8 ((whole v zs).getD (8 + t) 0))).1
          rw [part_set (whole v zs) (8 + n) (8 + t) (by omega) (by rw [HL.out]; omega), whole_tail] at hst
          have hcx : wr.cell? ⟨w.heap.size, t, none⟩ = some (.int .u8 (zs.getD t 0)) := by
            have hlt3 : w.heap.size < w1.heap.size := by
              rcases Nat.lt_or_ge w.heap.size w1.heap.size with h | h
              · exact h
              · have h0 := hcl t hlt2
                simp [World.cell?, Array.getElem?_eq_none h] at h0
            exact (hbel3.cell (by exact hlt3)).trans (hcl t hlt2)
          have R : Hid ((wr.setCell ⟨w1.heap.size, 8 + t, none⟩ (.int .u8 (zs.getD t 0))).ownsRow w1.heap.size 5 1 (.slice (some ⟨w1.heap.size, 0, none⟩) (8 + n) (8 + n)) (8 + n) (part (whole v zs) (8 + n) (8 + (t + 1)))) := hst
          have hta : a' = some ⟨w.heap.size, 0, none⟩ := HA'.out (by omega)
          have htz : t < zs.length := by omega
          subst hta
          clear hst hown hcl HA'
          go_wp2
          go_roundw
          case rel => exact ⟨t + 1, by omega, by go_num, by simpa [htz] using R.out, hbel3.setCell (Nat.le_refl _) _⟩
          case measure => simp [intOf]; omega
        · have htn : t = n := by omega
          have hownn := hown
          rw [htn] at hownn
          rw [part_full] at hownn
          clear htn hown
          have hcf : ∀ j, j < 8 + n → wr.cell? ⟨w1.heap.size, j, none⟩ = some (.int .u8 ((whole v zs).getD j 0)) := by
            intro j hj
            have hjl : j < (whole v zs).length := by rw [HL.out]; omega
            rw [hownn.cellAt j (by omega), List.getElem?_map, List.getElem?_take, if_pos hj, List.getElem?_eq_getElem hjl, List.getD_eq_getElem?_getD, List.getElem?_eq_getElem hjl]
            rfl
          have hwb := whole_bd v zs hz
          have HW : Hid (le8 ((whole v zs).getD 0 0) ((whole v zs).getD 1 0) ((whole v zs).getD 2 0) ((whole v zs).getD 3 0) ((whole v zs).getD 4 0) ((whole v zs).getD 5 0) ((whole v zs).getD 6 0) ((whole v zs).getD 7 0) = v) := whole_le v zs hv0 hv1
          have hsr := hbel3.size
          clear hownn
          go_wp2_with (go_at_call 13; refine (num_any w1.heap.size (8 + n) (8 + n) (whole v zs) wr (by omega) hwb hcf).mono ?_; rw [HW.out]; rintro e w3 ⟨rfl, hbel4⟩)
          go_ret
          exact ⟨by simp, (hbel.trans (hbel3.mono hsz)).trans (hbel4.mono (by omega))⟩

theorem walk (a0 : Int) (a1 : Option Addr) (len1 cap1 : Nat) (z1 : List Int) (w : World) (w0 : (Lit.int .u64 a0).wf = true) (w1 : IsRow .u8 w a1 len1 cap1 z1) :
    Calls Try.prog 5 #[.int .u64 a0, .slice a1 len1 cap1] w fun e w' => e = .returned (.bool true) ∧ Below w.heap.size w w' := by
  have hv := bounds_u64 w0
  by_cases h1 : 1048576 < len1
  · exact walk_long _ _ _ _ w h1
  rcases w1 with ⟨rfl, rfl, rfl, rfl⟩ | ⟨x, rfl, hl, hm, hz, hcell, hwf⟩
  · exact walk_gen a0 none 0 0 [] w hv.1 (by omega) (by omega) (by omega) (fun _ => ⟨rfl, rfl⟩) (getD_bounds (by simp)) (fun x hx => by simp at hx)
  · refine walk_gen a0 (some x) len1 cap1 z1 w hv.1 (by omega) (by omega) (by omega) (fun h => by simp at h) (getD_bounds hwf) ?_
    intro y hy j hj
    cases hy
    exact hcell j (by omega)

/-! ### THE ROW's STEP: WRITTEN OUT: LEAVE IT -/
set_option maxRecDepth 100000 in
theorem lifted (os : Os) (started : os.Started) (H : Type) (enc : TypeId × Value → H) :
    ReturnsInHanded {} Try.checked os 5 .any (Rows.fnNumberReadsBackWrittenNumberSpec.pre6 enc Try.prog Try.f5 Rows.fnNumberReadsBackWrittenNumberRow.domain false) (Rows.fnNumberReadsBackWrittenNumberSpec.post enc Try.prog Try.f5 false true false false) := by
  refine returnsInHanded_of_change (C := Try.checked) own started (by kernel_rfl) Try.func5
    (ChangeSpec.witness6 (enc := enc) (C := Try.checked) false ⟨#[], #[.int .u64 0, .slice none 0 0], []⟩ 8 (by kernel_rfl) (by kernel_rfl) (by kernel_rfl) (by kernel_rfl)) ?_
  intro W base args ds gs before hval0 hW hcnd _
  have hval : ∀ (j : Nat) t v, Try.f5.params[j]? = some t → args[j]? = some v → Value.okWide Try.prog W .any base t v := hval0
  have hW' := hW
  obtain ⟨p, q, hA0, hV, rfl, hfz, hnd⟩ := hW
  have hA : DataW.TrodAll enc Try.prog W 0 (fun _ => true) true Try.f5.params.toList args.toList ds p := hA0
  rw [Try.params5] at hA hval
  obtain ⟨v0, vs0, d0, ds0, p0, q0, hargs, rfl, rfl, h0, r0⟩ := trodAll_cons hA
  obtain ⟨v1, vs1, d1, ds1, p1, q1, rfl, rfl, rfl, h1, r1⟩ := trodAll_cons r0
  obtain ⟨rfl, rfl, rfl⟩ := trodAll_nil r1
  obtain rfl : args = #[v0, v1] := by cases args; simp_all
  obtain ⟨rfl, rfl⟩ := trodVars_none hV
  obtain ⟨a0, rfl, rfl, rfl, w0⟩ := open_int Try.underlying26 (hval 0 26 v0 rfl rfl) h0
  obtain ⟨a1, len1, cap1, rfl⟩ := okWide_slice Try.underlying34 (hval 1 34 v1 rfl rfl)
  have k1 := h1
  have lt1 : ∀ x ∈ p1, x.block < W.heap.size := by obtain ⟨m, hm⟩ := k1; exact DataW.trod_lt m _ _ _ hm
  obtain ⟨z1, w1⟩ : ∃ zs, IsRow .u8 W a1 len1 cap1 zs := by
    obtain ⟨fuel, hf⟩ := h1
    rcases open_ints Try.underlying34 Try.underlying5 (by kernel_rfl) hf with ⟨hcs, _⟩ | ⟨x, l, c, zs, hcs, _, hl, hm, hz, _, hcell, hwz⟩
    · simp [Value.cells] at hcs
      obtain ⟨rfl, rfl, rfl⟩ := hcs
      exact ⟨[], .inl ⟨rfl, rfl, rfl, rfl⟩⟩
    · simp [Value.cells] at hcs
      obtain ⟨rfl, rfl, rfl⟩ := hcs
      exact ⟨zs, .inr ⟨_, rfl, hl, hm, by simpa using hz, hcell, hwz⟩⟩
  clear hA0 hval0
  refine (walk a0 a1 len1 cap1 z1 W w0 w1).mono fun e W' ⟨he, bel⟩ => ?_
  subst he
  exact ⟨_, rfl, _, _, _, [], _, [], hW', trodAll_mk1 (shut_bool Try.underlying4 _), (trodAll_cons_mk (shut_int Try.underlying26 w0) (trodAll_cons_mk (Below.trod laidOut (by kernel_rfl) (of_decide_eq_true (by kernel_rfl)) k1 bel lt1) trodAll_mk0)), rfl, bel.frame _, fun h => by cases h⟩

theorem over : Rows.fnNumberReadsBackWrittenNumberRow.holds Try.pinned (OpenSpec.ofChange Rows.fnNumberReadsBackWrittenNumberSpec) :=
  OpenClaim.holds_of_wide 5 Try.f5 rfl rfl rfl rfl rfl rfl rfl ⟨rfl, rfl, rfl, rfl, rfl⟩ rfl rfl rfl rfl rfl (by kernel_rfl) Try.func5 (by kernel_rfl)
    (of_decide_eq_true (by kernel_rfl)) (by unfold Func.isWrapper; first | (rw [if_pos (by decide +kernel)]; kernel_rfl) | (rw [if_neg (by decide +kernel)]; exact ⟨rfl, rfl⟩))
    (fun os started H enc _ => lifted os started H enc)

/-- ████ THE STATEMENT ████ -/
theorem proved : Rows.FnNumberReadsBackWrittenNumberSaid := over
end Go.Proofs.Qxb6606006a.fnNumberReadsBackWrittenNumber
