/-
  'Rows.FnAddMatchesLimbModelSaid' proved. The frame is the guide's shell for this function; the walks and the plain laws are ours.
-/
import Derived.Test.Qxb6606025aRows
import Derived.WalkKit
import Derived.ProofKit
import Derived.OpenShut
import Derived.ShutString
import Derived.Test.Qxb6606025aAdd
namespace Go.Proofs.Qxb6606025a.fnAddMatchesLimbModel
open Go.ChangeShapes Go.WideShapes Go.ChangeAt Go.RowKit
open Go.ChangeMaps (open_string shut_string)
set_option linter.unusedVariables false      -- a walk need not use every 'w<i>' (that an integer argument fits its kind)

theorem own : ownKnob Try.prog.godebug = none := by kernel_rfl

/-! ### THE WALK -/
theorem lo_eq (lo v : Int) (h0 : 0 ≤ lo) (h1 : lo < 18446744073709551616) :
    bits BinOp.or IntKind.u64
      (bits BinOp.and IntKind.u64 (IntKind.u64.wrap (bits BinOp.and IntKind.u64 lo 4294967295 + bits BinOp.and IntKind.u64 (IntKind.u64.wrap v) 4294967295)) 4294967295)
      (IntKind.u64.wrap (bits BinOp.and IntKind.u64 (IntKind.u64.wrap (IntKind.u64.wrap (lo / 4294967296 + IntKind.u64.wrap v / 4294967296) +
        IntKind.u64.wrap (bits BinOp.and IntKind.u64 lo 4294967295 + bits BinOp.and IntKind.u64 (IntKind.u64.wrap v) 4294967295) / 4294967296)) 4294967295 * 4294967296))
      = addLo lo v := by
  have e : IntKind.u64.wrap v = v % 18446744073709551616 := IntKind.wrap_u64 v
  rw [limb_lo lo (IntKind.u64.wrap v) h0 h1 (by rw [e]; omega) (by rw [e]; omega), e]
  rfl

theorem hi_eq0 (hi lo v : Int) (h0 : 0 ≤ lo) (h1 : lo < 18446744073709551616) (hv : 0 ≤ v ∧ v ≤ 9223372036854775807) :
    wrap64 (wrap64 (hi + v / 9223372036854775808) + addC lo v) =
  wrap64
    (bits BinOp.or IntKind.u64
      (bits BinOp.and IntKind.u64
        (IntKind.u64.wrap
          (IntKind.u64.wrap (bits BinOp.and IntKind.u64 (IntKind.u64.wrap hi) 4294967295) +
            IntKind.u64.wrap
                (IntKind.u64.wrap (lo / 4294967296 + IntKind.u64.wrap v / 4294967296) +
                  IntKind.u64.wrap
                      (bits BinOp.and IntKind.u64 lo 4294967295 +
                        bits BinOp.and IntKind.u64 (IntKind.u64.wrap v) 4294967295) /
                    4294967296) /
              4294967296))
        4294967295)
      (IntKind.u64.wrap
        (bits BinOp.and IntKind.u64
            (IntKind.u64.wrap
              (IntKind.u64.wrap (IntKind.u64.wrap hi / 4294967296) +
                IntKind.u64.wrap
                    (IntKind.u64.wrap (bits BinOp.and IntKind.u64 (IntKind.u64.wrap hi) 4294967295) +
                      IntKind.u64.wrap
                          (IntKind.u64.wrap (lo / 4294967296 + IntKind.u64.wrap v / 4294967296) +
                            IntKind.u64.wrap
                                (bits BinOp.and IntKind.u64 lo 4294967295 +
                                  bits BinOp.and IntKind.u64 (IntKind.u64.wrap v) 4294967295) /
                              4294967296) /
                        4294967296) /
                  4294967296))
            4294967295 *
          4294967296))) := by
  have e : IntKind.u64.wrap v = v % 18446744073709551616 := IntKind.wrap_u64 v
  have eh : IntKind.u64.wrap hi = hi % 18446744073709551616 := IntKind.wrap_u64 hi
  rw [limb_carry lo (IntKind.u64.wrap v) h0 h1 (by rw [e]; omega) (by rw [e]; omega), e]
  have hc := addC_bd lo v h0 h1
  rw [show (lo + v % 18446744073709551616) / 18446744073709551616 = addC lo v from rfl]
  generalize addC lo v = c at hc ⊢
  rw [limb_hi0 (IntKind.u64.wrap hi) c (by rw [eh]; omega) (by rw [eh]; omega) hc.1 hc.2, eh]
  unfold wrap64
  omega

theorem hi_eq1 (hi lo v : Int) (h0 : 0 ≤ lo) (h1 : lo < 18446744073709551616) (hv : -9223372036854775808 ≤ v ∧ v < 0) :
    wrap64 (wrap64 (hi + v / 9223372036854775808) + addC lo v) =
  wrap64
    (bits BinOp.or IntKind.u64
      (bits BinOp.and IntKind.u64
        (IntKind.u64.wrap
          (IntKind.u64.wrap (bits BinOp.and IntKind.u64 (IntKind.u64.wrap hi) 4294967295 + 4294967295) +
            IntKind.u64.wrap
                (IntKind.u64.wrap (lo / 4294967296 + IntKind.u64.wrap v / 4294967296) +
                  IntKind.u64.wrap
                      (bits BinOp.and IntKind.u64 lo 4294967295 +
                        bits BinOp.and IntKind.u64 (IntKind.u64.wrap v) 4294967295) /
                    4294967296) /
              4294967296))
        4294967295)
      (IntKind.u64.wrap
        (bits BinOp.and IntKind.u64
            (IntKind.u64.wrap
              (IntKind.u64.wrap (IntKind.u64.wrap hi / 4294967296 + 4294967295) +
                IntKind.u64.wrap
                    (IntKind.u64.wrap (bits BinOp.and IntKind.u64 (IntKind.u64.wrap hi) 4294967295 + 4294967295) +
                      IntKind.u64.wrap
                          (IntKind.u64.wrap (lo / 4294967296 + IntKind.u64.wrap v / 4294967296) +
                            IntKind.u64.wrap
                                (bits BinOp.and IntKind.u64 lo 4294967295 +
                                  bits BinOp.and IntKind.u64 (IntKind.u64.wrap v) 4294967295) /
                              4294967296) /
                        4294967296) /
                  4294967296))
            4294967295 *
          4294967296))) := by
  have e : IntKind.u64.wrap v = v % 18446744073709551616 := IntKind.wrap_u64 v
  have eh : IntKind.u64.wrap hi = hi % 18446744073709551616 := IntKind.wrap_u64 hi
  rw [limb_carry lo (IntKind.u64.wrap v) h0 h1 (by rw [e]; omega) (by rw [e]; omega), e]
  have hc := addC_bd lo v h0 h1
  rw [show (lo + v % 18446744073709551616) / 18446744073709551616 = addC lo v from rfl]
  generalize addC lo v = c at hc ⊢
  rw [limb_hi1 (IntKind.u64.wrap hi) c (by rw [eh]; omega) (by rw [eh]; omega) hc.1 hc.2, eh]
  unfold wrap64
  omega

set_option maxHeartbeats 1000000 in
theorem walk_pos (hi lo v : Int) (w : World) (hl0 : 0 ≤ lo) (hl1 : lo < 18446744073709551616) (hv : 0 ≤ v) (hv2 : Hid (v ≤ 9223372036854775807)) :
    Calls Try.prog 5 #[.int .i64 hi, .int .u64 lo, .int .i64 v] w fun e w' => e = .returned (.bool true) ∧ Grown w w' := by
  have hd : decide (v < 0) = false := decide_eq_false (by omega)
  have h64 := add64_at lo v hl0
  have hcb := addC_bd lo v hl0 hl1
  go_enter Try.func5, Try.ntmps5
  go_wp2_with (first | (go_at_call 12; refine (newSum_any hi lo _).mono ?_; rintro e w' ⟨rfl, rfl⟩) | go_in)
  go_end0
  go_wp2
  · go_ret
    refine ⟨?_, by repeat (first | exact Grown.refl _ | apply Grown.drew | apply Grown.alloc)⟩
    rw [lo_eq lo v hl0 hl1]
    simp
  · rename_i hne
    exact absurd (hi_eq0 hi lo v hl0 hl1 ⟨hv, hv2.out⟩) hne

set_option maxHeartbeats 1000000 in
theorem walk_neg (hi lo v : Int) (w : World) (hl0 : 0 ≤ lo) (hl1 : lo < 18446744073709551616) (hv : v < 0) (hv2 : -9223372036854775808 ≤ v) :
    Calls Try.prog 5 #[.int .i64 hi, .int .u64 lo, .int .i64 v] w fun e w' => e = .returned (.bool true) ∧ Grown w w' := by
  have hd : decide (v < 0) = true := decide_eq_true (by omega)
  have h64 := add64_at lo v hl0
  have hcb := addC_bd lo v hl0 hl1
  go_enter Try.func5, Try.ntmps5
  go_wp2_with (first | (go_at_call 12; refine (newSum_any hi lo _).mono ?_; rintro e w' ⟨rfl, rfl⟩) | go_in)
  go_end0
  go_wp2
  · go_ret
    refine ⟨?_, by repeat (first | exact Grown.refl _ | apply Grown.drew | apply Grown.alloc)⟩
    rw [lo_eq lo v hl0 hl1]
    simp
  · rename_i hne
    exact absurd (hi_eq1 hi lo v hl0 hl1 ⟨hv2, hv⟩) hne

theorem walk (a0 : Int) (a1 : Int) (a2 : Int) (w0 : (Lit.int .i64 a0).wf = true) (w1 : (Lit.int .u64 a1).wf = true) (w2 : (Lit.int .i64 a2).wf = true) (w : World) :
    Calls Try.prog 5 #[.int .i64 a0, .int .u64 a1, .int .i64 a2] w fun e w' => e = .returned (.bool true) ∧ Grown w w' := by
  have h1 := bounds_u64 w1
  have h2 := bounds_i64 w2
  by_cases hv : a2 < 0
  · exact walk_neg a0 a1 a2 w h1.1 (by omega) hv h2.1
  · exact walk_pos a0 a1 a2 w h1.1 (by omega) (by omega) h2.2

/-! ### THE ROW's STEP: WRITTEN OUT: LEAVE IT -/
set_option maxRecDepth 100000 in
theorem lifted (os : Os) (started : os.Started) (H : Type) (enc : TypeId × Value → H) :
    ReturnsInHanded {} Try.checked os 5 .any (Rows.fnAddMatchesLimbModelSpec.pre6 enc Try.prog Try.f5 Rows.fnAddMatchesLimbModelRow.domain false) (Rows.fnAddMatchesLimbModelSpec.post enc Try.prog Try.f5 false true false false) := by
  refine returnsInHanded_of_change (C := Try.checked) own started (by kernel_rfl) Try.func5
    (ChangeSpec.witness6 (enc := enc) (C := Try.checked) false ⟨#[], #[.int .i64 0, .int .u64 0, .int .i64 0], []⟩ 8 (by kernel_rfl) (by kernel_rfl) (by kernel_rfl) (by kernel_rfl)) ?_
  intro W base args ds gs before hval0 hW hcnd _
  have hval : ∀ (j : Nat) t v, Try.f5.params[j]? = some t → args[j]? = some v → Value.okWide Try.prog W .any base t v := hval0
  have hW' := hW
  obtain ⟨p, q, hA0, hV, rfl, hfz, hnd⟩ := hW
  have hA : DataW.TrodAll enc Try.prog W 0 (fun _ => true) true Try.f5.params.toList args.toList ds p := hA0
  rw [Try.params5] at hA hval
  obtain ⟨v0, vs0, d0, ds0, p0, q0, hargs, rfl, rfl, h0, r0⟩ := trodAll_cons hA
  obtain ⟨v1, vs1, d1, ds1, p1, q1, rfl, rfl, rfl, h1, r1⟩ := trodAll_cons r0
  obtain ⟨v2, vs2, d2, ds2, p2, q2, rfl, rfl, rfl, h2, r2⟩ := trodAll_cons r1
  obtain ⟨rfl, rfl, rfl⟩ := trodAll_nil r2
  obtain rfl : args = #[v0, v1, v2] := by cases args; simp_all
  obtain ⟨rfl, rfl⟩ := trodVars_none hV
  obtain ⟨a0, rfl, rfl, rfl, w0⟩ := open_int Try.underlying2 (hval 0 2 v0 rfl rfl) h0
  obtain ⟨a1, rfl, rfl, rfl, w1⟩ := open_int Try.underlying23 (hval 1 23 v1 rfl rfl) h1
  obtain ⟨a2, rfl, rfl, rfl, w2⟩ := open_int Try.underlying2 (hval 2 2 v2 rfl rfl) h2
  clear hA0 hval0
  simp only [List.append_nil] at hW'
  refine (walk a0 a1 a2 w0 w1 w2 W).mono fun e W' ⟨he, hg⟩ => ?_
  subst he
  exact ⟨_, rfl, post_of_same (pa := []) (pv := []) hW' (fun _ _ _ => (trodAll_cons_mk (shut_bool Try.underlying4 _) trodAll_mk0)) (fun sp _ => (trodAll_cons_mk (shut_int Try.underlying2 w0) (trodAll_cons_mk (shut_int Try.underlying23 w1) (trodAll_cons_mk (shut_int Try.underlying2 w2) trodAll_mk0)))) (fun _ _ => rfl) rfl
    (hg.frame _) hg.2.1 (ok_one (by kernel_rfl) rfl (okWide_bool_mk Try.underlying4 _))⟩

theorem over : Rows.fnAddMatchesLimbModelRow.holds Try.pinned (OpenSpec.ofChange Rows.fnAddMatchesLimbModelSpec) :=
  OpenClaim.holds_of_wide 5 Try.f5 rfl rfl rfl rfl rfl rfl rfl ⟨rfl, rfl, rfl, rfl, rfl⟩ rfl rfl rfl rfl rfl (by kernel_rfl) Try.func5 (by kernel_rfl)
    (of_decide_eq_true (by kernel_rfl)) (by unfold Func.isWrapper; first | (rw [if_pos (by decide +kernel)]; kernel_rfl) | (rw [if_neg (by decide +kernel)]; exact ⟨rfl, rfl⟩))
    (fun os started H enc _ => lifted os started H enc)

/-- ████ THE STATEMENT ████ -/
theorem proved : Rows.FnAddMatchesLimbModelSaid :=
  over
end Go.Proofs.Qxb6606025a.fnAddMatchesLimbModel
