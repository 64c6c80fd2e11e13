/-
  'Rows.FnObjectReturnsNestedMemberCardSaid' proved: the row over the walk, and the tied card by the guide's builder.
-/
import Derived.Test.Qxb6608517aDoorNestWalk
import Derived.ProofKit
import Derived.LaidMore
import Derived.OpenShut
import Derived.ShutString
import Derived.Stop.Joined
import Derived.ChangeOld
import Derived.LaidHandle
import Derived.SevenTiedAt
import Derived.Carry
import Derived.Test.Qxb6608517aDoorTie
import Derived.Test.Qxb6608517aDoorCards
namespace Go.Proofs.Qxb6608517aDoor.fnObjectReturnsNestedMember
open Go.ChangeShapes Go.WideShapes Go.ChangeAt Go.RowKit
open Go.ChangeMaps (open_string shut_string)

theorem own : ownKnob Tryd.prog.godebug = none := by kernel_rfl

theorem door_met (os : Os) (args : Array Value) : laidMetH Tryd.prog Rows.fnObjectReturnsNestedMemberRow.laid ((World.doorLaid Tryd.prog 400 os).forCall (fun _ _ => 0) ⟨#[], args, []⟩).memory :=
  laidMetH_of_parts3 (fuel := 8) (laidMet_of_run' 8 (by kernel_rfl) (by kernel_rfl)) (by kernel_rfl) (by kernel_rfl)

theorem differ {a b : ByteArray} (h : a ≠ b) : (a.toList == b.toList) = false := by
  rw [ByteArray.toList_eq, ByteArray.toList_eq]
  obtain ⟨⟨x⟩⟩ := a
  obtain ⟨⟨y⟩⟩ := b
  simpa using h

theorem walk (a k p : ByteArray) (n : Int) (w : World) (wn : (Lit.int .i64 n).wf = true) :
    Calls Tryd.prog 5 #[.string a, .string k, .int .i64 n, .string p] w fun e w' => e = .returned (.bool true) ∧ Below w.heap.size w w' := by
  have hb := bounds_i64 wn
  by_cases h1 : 65536 < a.size
  · exact walk_big1 a k p n w h1
  by_cases h2 : 65536 < k.size
  · exact walk_big2 a k p n w (by omega) h2
  by_cases h3 : 65536 < p.size
  · exact walk_big3 a k p n w (by omega) (by omega) h3
  by_cases h4 : p = a
  · subst h4
    exact walk_hit p k n w (by omega) (by omega) hb.1 hb.2
  · exact walk_miss a k p n w (by omega) (by omega) (by omega) hb.1 hb.2 (differ h4)

set_option maxRecDepth 100000 in
theorem lifted (os : Os) (started : os.Started) (H : Type) (enc : TypeId × Value → H) :
    ReturnsInHanded {} Tryd.checked os 5 .any (fun w args => (Rows.fnObjectReturnsNestedMemberSpec.pre enc Tryd.prog Tryd.f5 [] false w args ∧ laidMetH Tryd.prog Rows.fnObjectReturnsNestedMemberRow.laid w) ∧ sizedMet enc Tryd.prog Tryd.f5 (OpenSpec.ofChange Rows.fnObjectReturnsNestedMemberSpec) false w args)
      (Rows.fnObjectReturnsNestedMemberSpec.post enc Tryd.prog Tryd.f5 false true false false) := by
  refine returnsInHanded_of_change_and (C := Tryd.checked) (X := fun w _ => laidMetH Tryd.prog Rows.fnObjectReturnsNestedMemberRow.laid w) (fun _ _ _ hh h => h.of_heap hh) own started (by kernel_rfl) Tryd.func5
    (ChangeSpec.witness_shaped (enc := enc) (C := Tryd.checked) (os := os) (X := fun w _ => laidMetH Tryd.prog Rows.fnObjectReturnsNestedMemberRow.laid w) false (World.doorLaid Tryd.prog 400 os) #[.string ⟨#[]⟩, .string ⟨#[]⟩, .int .i64 0, .string ⟨#[]⟩] 8 rfl (World.shaped_of_RefB (by kernel_rfl) (by kernel_rfl)) (by kernel_rfl) (by kernel_rfl) (by kernel_rfl) (door_met os _)) ?_
  intro W base args ds gs before hval0 hW _ _ _ _
  have hval : ∀ (j : Nat) t v, Tryd.f5.params[j]? = some t → args[j]? = some v → Value.okWide Tryd.prog W .any base t v := hval0
  have hW' := hW
  obtain ⟨p, q, hA0, hV, rfl, hfz, hnd⟩ := hW
  have hA : DataW.TrodAll enc Tryd.prog W 0 (fun _ => true) true Tryd.f5.params.toList args.toList ds p := hA0
  rw [Tryd.params5] at hA hval
  obtain ⟨v0, v1, v2, v3, d0, d1, d2, d3, p0, p1, p2, p3, rfl, rfl, rfl, h0, h1, h2, h3⟩ := trodAll_four hA
  obtain ⟨rfl, rfl⟩ := trodVars_none hV
  obtain ⟨a, rfl, rfl, rfl, ha⟩ := open_string Tryd.underlying9 (hval 0 9 v0 rfl rfl) h0
  obtain ⟨k, rfl, rfl, rfl, hk⟩ := open_string Tryd.underlying9 (hval 1 9 v1 rfl rfl) h1
  obtain ⟨n, rfl, rfl, rfl, wn⟩ := open_int Tryd.underlying2 (hval 2 2 v2 rfl rfl) h2
  obtain ⟨b, rfl, rfl, rfl, hb⟩ := open_string Tryd.underlying9 (hval 3 9 v3 rfl rfl) h3
  clear hA0 hval0
  refine (walk a k b n W wn).mono fun e W' ⟨he, bel⟩ => ?_
  subst he
  exact ⟨_, rfl, _, _, _, [], _, [], hW', trodAll_mk1 (shut_bool Tryd.underlying4 _), trodAll_mk4 (shut_string Tryd.underlying9 ha) (shut_string Tryd.underlying9 hk) (shut_int Tryd.underlying2 wn) (shut_string Tryd.underlying9 hb), rfl, bel.frame _, fun h => by cases h⟩

theorem over : Rows.FnObjectReturnsNestedMemberSaid :=
  OpenClaim.holds_of_wide 5 Tryd.f5 rfl rfl rfl rfl rfl rfl rfl ⟨rfl, rfl, rfl, rfl, rfl⟩ rfl rfl rfl rfl rfl (by kernel_rfl) Tryd.func5 (by kernel_rfl)
    (of_decide_eq_true (by kernel_rfl)) (by unfold Func.isWrapper; first | (rw [if_pos (by decide +kernel)]; kernel_rfl) | (rw [if_neg (by decide +kernel)]; exact ⟨rfl, rfl⟩))
    (fun os started H enc _ => lifted os started H enc)

/-- THE STATEMENT: the tied card. -/
theorem proved : Rows.FnObjectReturnsNestedMemberCardSaid :=
  Claim7.holds_tied_plain_at .later [] [.data, .data, .data, .sentinel, .sentinel] true (true, "2c3f52f3b774cc54d2a74f5fda2bf26cf908947778dc9fe96762c90397b4c236") true
    over (fun _ h => by cases h) (by kernel_rfl) (fun _ h => by cases h) fnObjectReturnsNestedMember_row_tie rfl ⟨rfl, rfl⟩ (by kernel_rfl) rfl
    (fun f fn hf hfn => by
      obtain rfl : f = 5 := Option.some.inj ((show Tryd.prog.funcNamed Rows.fnObjectReturnsNestedMemberRow.func = some 5 by kernel_rfl).symm.trans hf) |>.symm
      obtain rfl : fn = Tryd.f5 := (Option.some.inj (Tryd.func5.symm.trans hfn)).symm
      exact ⟨by kernel_rfl, fun j t ht => by
        rw [Tryd.params5] at ht
        have hm : t ∈ [9, 9, 2, 9] := by simpa using Array.mem_of_getElem? ht
        have hall : ([9, 9, 2, 9].all fun u => !Tryd.prog.wantsStandIn u) = true := by kernel_rfl
        exact (show Tryd.prog.wantsStandIn t = false by simpa using List.all_eq_true.1 hall t hm)⟩)
    (by kernel_rfl)
end Go.Proofs.Qxb6608517aDoor.fnObjectReturnsNestedMember
