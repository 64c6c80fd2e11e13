/-
  Contracts: the function that zzFunc makes (18), the deferred function of TryWithErrorValue (19) at a frame that panics and at one that returns, TryWithErrorValue (17), ZZTry (7).
-/
import Derived.Test.Qxb6608596aRows
import Derived.WalkKit
import Derived.WalkSpells
import Derived.WalkLawsBesides
import Derived.Defers
import Derived.Recover
import Derived.Laws.Pointers
import Derived.WideLaws
import Derived.Stop.LaidErr
namespace Go.Proofs.Qxb6608596a
open Go.RowKit

def zz : Value := .string { data := #[122, 122, 32, 112, 97, 110, 105, 99] }

/-- The function that zzFunc makes: it panics. -/
theorem f_panics (p q r : Addr) (w : World) (hp : w.cell? p = some (.bool true)) :
    Calls Try.prog 18 #[.pointer (some p), .pointer (some q), .pointer (some r)] w fun e w' => e = .panicked [{ v := .iface 9 zz, recovered := false }] ∧ w' = w := by
  go_enter Try.func18, Try.ntmps18
  go_wp2
  exact ⟨rfl, rfl, rfl⟩

theorem f_fails (p q r : Addr) (x : Value) (w : World) (hp : w.cell? p = some (.bool false)) (hq : w.cell? q = some (.bool true)) (hr : w.cell? r = some x) :
    Calls Try.prog 18 #[.pointer (some p), .pointer (some q), .pointer (some r)] w fun e w' => e = .returned x ∧ w' = w := by
  go_enter Try.func18, Try.ntmps18
  go_wp2
  go_ret
  exact ⟨rfl, rfl⟩

theorem f_fine (p q r : Addr) (w : World) (hp : w.cell? p = some (.bool false)) (hq : w.cell? q = some (.bool false)) :
    Calls Try.prog 18 #[.pointer (some p), .pointer (some q), .pointer (some r)] w fun e w' => e = .returned .nilIface ∧ w' = w := by
  go_enter Try.func18, Try.ntmps18
  go_wp2
  go_ret
  exact ⟨rfl, rfl⟩

theorem catch_panicking (p : Addr) (x : Value) (u : TypeId) (pv : Value) (older : List PanicEntry) (w : World) (hc : w.cell? p = some x) (hz : w.frozen? p = false) :
    CallsD Try.prog 19 #[.pointer (some p)] (.panicking ({ v := .iface u pv, recovered := false } :: older)) w fun e u' w' =>
      e = .returned (.tuple #[]) ∧ u' = .panicking ({ v := .iface u pv, recovered := true } :: older) ∧ w' = w.setCell p (.iface u pv) := by
  refine callsD_of_wpS Try.func19 rfl fun c₀ cs hu => ?_
  apply wpS_seq
  apply wpS_region
  simp [wpOpsS, go_sem, recoverD, hu, Try.ntmps19, Exit.thenS]
  apply wpS_seq
  apply wpS_region
  simp [wpOpsS, go_sem, Exit.thenS]
  refine wpS_cond (t := true) (by simp [Act.eval, Array.replicate]) ?_
  simp only [if_true]
  apply wpS_region
  simp [wpOpsS, go_sem, hc, hz, bodyPostS, results, Try.results19]

theorem catch_idle (p : Addr) (w : World) :
    CallsD Try.prog 19 #[.pointer (some p)] .returning w fun e u' w' => e = .returned (.tuple #[]) ∧ u' = .returning ∧ w' = w := by
  refine callsD_of_wpS Try.func19 rfl fun c₀ cs hu => ?_
  apply wpS_seq
  apply wpS_region
  simp [wpOpsS, go_sem, recoverD, hu, Try.ntmps19, Exit.thenS]
  apply wpS_seq
  apply wpS_region
  simp [wpOpsS, go_sem, Exit.thenS]
  refine wpS_cond (t := false) (by simp [Act.eval, Array.replicate]) ?_
  simp only [Bool.false_eq_true, if_false]
  refine wpS_of_wp (wp_skip ?_)
  cases c₀
  simp_all [bodyPostS, results, Try.results19]

/-- TryWithErrorValue at a function that panics. -/
theorem try_panics (p q r : Addr) (w : World) (hp : w.cell? p = some (.bool true)) :
    Calls Try.prog 17 #[.func (.func 18) #[] #[.pointer (some p), .pointer (some q), .pointer (some r)]] w fun e w' =>
      ∃ x, e = .returned (.tuple #[x, .bool false]) ∧ Grown w w' := by
  have hmf : ∀ (fn : Fn) (first cap : Array Value) (w : World), (Instr.makeFunc fn first cap).run Try.prog w = .ok (.func fn first cap) w := fun _ _ _ _ => rfl
  have hp1 := fun o => cell?_alloc_old o hp
  go_enter_defers Try.func17, Try.ntmps17
  go_wp2_with (go_at_call 18; refine (f_panics p q r _ (hp1 _)).mono ?_; rintro e w' ⟨rfl, rfl⟩)
  refine leaves_cons (f := 19) (args := #[.pointer (some ⟨w.heap.size, 0, none⟩)]) (by simp) (by simp [go_sem]) ?_
  refine (catch_panicking ⟨w.heap.size, 0, none⟩ .nilIface 9 _ [] _ ?_ ?_).mono ?_
  · simp [go_sem]
  · simp [go_sem]
  rintro e u' w'' ⟨rfl, rfl, rfl⟩
  simp [Leaves, settle, results, Try.results17, go_sem]
  exact (Grown.refl w).alloc _ _

/-- .. that returns an error. -/
theorem try_fails (p q r : Addr) (u : TypeId) (x : Value) (w : World) (hp : w.cell? p = some (.bool false)) (hq : w.cell? q = some (.bool true)) (hr : w.cell? r = some (.iface u x)) :
    Calls Try.prog 17 #[.func (.func 18) #[] #[.pointer (some p), .pointer (some q), .pointer (some r)]] w fun e w' =>
      ∃ x, e = .returned (.tuple #[x, .bool false]) ∧ Grown w w' := by
  have hmf : ∀ (fn : Fn) (first cap : Array Value) (w : World), (Instr.makeFunc fn first cap).run Try.prog w = .ok (.func fn first cap) w := fun _ _ _ _ => rfl
  have hp1 := fun o => cell?_alloc_old o hp
  have hq1 := fun o => cell?_alloc_old o hq
  have hr1 := fun o => cell?_alloc_old o hr
  go_enter_defers Try.func17, Try.ntmps17
  go_wp2_with (go_at_call 18; refine (f_fails p q r _ _ (hp1 _) (hq1 _) (hr1 _)).mono ?_; rintro e w' ⟨rfl, rfl⟩)
  refine leaves_cons (f := 19) (args := #[.pointer (some ⟨w.heap.size, 0, none⟩)]) (by simp) (by simp [go_sem]) ?_
  refine (catch_idle ⟨w.heap.size, 0, none⟩ _).mono ?_
  rintro e u' w'' ⟨rfl, rfl, rfl⟩
  simp [Leaves, settle, results, Try.results17, go_sem]
  exact (Grown.refl w).alloc _ _

theorem try_fine (p q r : Addr) (w : World) (hp : w.cell? p = some (.bool false)) (hq : w.cell? q = some (.bool false)) :
    Calls Try.prog 17 #[.func (.func 18) #[] #[.pointer (some p), .pointer (some q), .pointer (some r)]] w fun e w' =>
      ∃ x, e = .returned (.tuple #[x, .bool true]) ∧ Grown w w' := by
  have hmf : ∀ (fn : Fn) (first cap : Array Value) (w : World), (Instr.makeFunc fn first cap).run Try.prog w = .ok (.func fn first cap) w := fun _ _ _ _ => rfl
  have hp1 := fun o => cell?_alloc_old o hp
  have hq1 := fun o => cell?_alloc_old o hq
  go_enter_defers Try.func17, Try.ntmps17
  go_wp2_with (go_at_call 18; refine (f_fine p q r _ (hp1 _) (hq1 _)).mono ?_; rintro e w' ⟨rfl, rfl⟩)
  refine leaves_cons (f := 19) (args := #[.pointer (some ⟨w.heap.size, 0, none⟩)]) (by simp) (by simp [go_sem]) ?_
  refine (catch_idle ⟨w.heap.size, 0, none⟩ _).mono ?_
  rintro e u' w'' ⟨rfl, rfl, rfl⟩
  simp [Leaves, settle, results, Try.results17, go_sem]
  exact (Grown.refl w).alloc _ _

theorem Grown_trans {a b c : World} (h : Grown a b) (k : Grown b c) : Grown a c :=
  ⟨World.keptBut_trans h.1 (World.keptBut_mono (fun _ f => f.elim) k.1), fun x => (k.2.1 x).trans (h.2.1 x), Nat.le_trans h.2.2 k.2.2⟩

theorem zzTry_panics (fail : Bool) (w : World) : Calls Try.prog 7 #[.bool fail, .bool true] w fun e w' => e = .returned (.bool false) ∧ Grown w w' := by
  have hmf : ∀ (fn : Fn) (first cap : Array Value) (w : World), (Instr.makeFunc fn first cap).run Try.prog w = .ok (.func fn first cap) w := fun _ _ _ _ => rfl
  go_enter Try.func7, Try.ntmps7
  go_wp2_with (first | (go_at_call 17; refine (try_panics _ _ _ _ (by simp [go_sem])).mono ?_; rintro e w' ⟨x, rfl, hg⟩) | go_in)
  go_ret
  exact ⟨rfl, Grown_trans ((((Grown.refl w).alloc _ _).alloc _ _).alloc _ _ |>.alloc _ _) hg⟩

theorem zzTry_fails (w : World) : Calls Try.prog 7 #[.bool true, .bool false] w fun e w' => e = .returned (.bool false) ∧ Grown w w' := by
  have hmf : ∀ (fn : Fn) (first cap : Array Value) (w : World), (Instr.makeFunc fn first cap).run Try.prog w = .ok (.func fn first cap) w := fun _ _ _ _ => rfl
  go_enter Try.func7, Try.ntmps7
  go_wp2_with (first | (go_at_call 17; refine (try_fails _ _ _ 37 (.pointer (some ⟨w.heap.size, 0, none⟩)) _ (by simp [go_sem]) (by simp [go_sem]) (by simp [go_sem])).mono ?_; rintro e w' ⟨x, rfl, hg⟩) | go_in)
  go_ret
  exact ⟨rfl, Grown_trans ((((Grown.refl w).alloc _ _).alloc _ _).alloc _ _ |>.alloc _ _) hg⟩

theorem zzTry_fine (w : World) : Calls Try.prog 7 #[.bool false, .bool false] w fun e w' => e = .returned (.bool true) ∧ Grown w w' := by
  have hmf : ∀ (fn : Fn) (first cap : Array Value) (w : World), (Instr.makeFunc fn first cap).run Try.prog w = .ok (.func fn first cap) w := fun _ _ _ _ => rfl
  go_enter Try.func7, Try.ntmps7
  go_wp2_with (first | (go_at_call 17; refine (try_fine _ _ _ _ (by simp [go_sem]) (by simp [go_sem])).mono ?_; rintro e w' ⟨x, rfl, hg⟩) | go_in)
  go_ret
  exact ⟨rfl, Grown_trans ((((Grown.refl w).alloc _ _).alloc _ _).alloc _ _ |>.alloc _ _) hg⟩


/-- ZZTry: true just where the function neither fails nor panics. -/
theorem zzTry (fail panics : Bool) (w : World) : Calls Try.prog 7 #[.bool fail, .bool panics] w fun e w' => e = .returned (.bool (!fail && !panics)) ∧ Grown w w' := by
  cases panics with
  | true => simpa using zzTry_panics fail w
  | false =>
    cases fail with
    | true => exact zzTry_fails w
    | false => exact zzTry_fine w
end Go.Proofs.Qxb6608596a
