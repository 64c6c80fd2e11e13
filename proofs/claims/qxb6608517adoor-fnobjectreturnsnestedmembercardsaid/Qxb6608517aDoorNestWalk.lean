/-
  The walk of FnObjectReturnsNestedMember (function 5).
-/
import Derived.Test.Qxb6608517aDoorMaps
import Derived.Stop.LaidErr
import Derived.Lib.SliceRun
namespace Go.Proofs.Qxb6608517aDoor
open Go.RowKit

theorem heap_second (w : World) (a b : Obj) : ((w.alloc a).alloc b).heap[w.heap.size + 1]? = some b := by
  have h := heap_new (w.alloc a) b
  simpa using h
theorem heap_first (w : World) (a b : Obj) : ((w.alloc a).alloc b).heap[w.heap.size]? = some a := by
  rw [Below.heap_alloc _ _ _ (by simp)]
  exact heap_new w a

theorem len_one (w : World) (g : Nat) (k : ByteArray) (v : Value) (h : w.heap[g]? = some (one k v)) : (Builtin.len_ #[26] 3 #[.map (some g)]).run Tryd.prog w = .ok (.int .i64 1) w := by
  rw [run_len_map (P := Tryd.prog) w 26 3 g _ _ (by kernel_rfl) h]
  rfl

theorem bytes4_any (a k p : ByteArray) (x : Value) (w : World) : Calls Tryd.prog 16 #[.string a, .string k, x, .string p] w fun e w' => (∃ b : Bool, e = .returned (.bool b)) ∧ w = w' := by
  go_enter Tryd.func16, Tryd.ntmps16
  go_wp2
  all_goals (go_ret; exact ⟨⟨_, rfl⟩, rfl⟩)

theorem bytes4_small (a k p : ByteArray) (x : Value) (w : World) (ha : a.size ≤ 65536) (hk : k.size ≤ 65536) (hp : p.size ≤ 65536) :
    Calls Tryd.prog 16 #[.string a, .string k, x, .string p] w fun e w' => e = .returned (.bool true) ∧ w = w' := by
  go_enter Tryd.func16, Tryd.ntmps16
  go_wp2
  go_ret
  exact ⟨rfl, rfl⟩

theorem walk_big1 (a k p : ByteArray) (n : Int) (w : World) (h : 65536 < a.size) : Calls Tryd.prog 5 #[.string a, .string k, .int .i64 n, .string p] w fun e w' => e = .returned (.bool true) ∧ Below w.heap.size w w' := by
  have hd : decide ((65536 : Int) < (a.size : Int)) = true := decide_eq_true (by omega)
  go_enter Tryd.func5, Tryd.ntmps5
  go_wp2_with (go_at_call 16; refine (bytes4_any a k p _ _).mono ?_; rintro e w' ⟨⟨b, rfl⟩, rfl⟩; cases b)
  all_goals (go_ret; exact ⟨rfl, Below.refl _ _⟩)

theorem walk_big2 (a k p : ByteArray) (n : Int) (w : World) (ha : a.size ≤ 65536) (h : 65536 < k.size) : Calls Tryd.prog 5 #[.string a, .string k, .int .i64 n, .string p] w fun e w' => e = .returned (.bool true) ∧ Below w.heap.size w w' := by
  have hd0 : decide ((65536 : Int) < (a.size : Int)) = false := decide_eq_false (by omega)
  have hd : decide ((65536 : Int) < (k.size : Int)) = true := decide_eq_true (by omega)
  go_enter Tryd.func5, Tryd.ntmps5
  go_wp2_with (go_at_call 16; refine (bytes4_any a k p _ _).mono ?_; rintro e w' ⟨⟨b, rfl⟩, rfl⟩; cases b)
  all_goals (go_ret; exact ⟨rfl, Below.refl _ _⟩)

theorem walk_big3 (a k p : ByteArray) (n : Int) (w : World) (ha : a.size ≤ 65536) (hk : k.size ≤ 65536) (h : 65536 < p.size) : Calls Tryd.prog 5 #[.string a, .string k, .int .i64 n, .string p] w fun e w' => e = .returned (.bool true) ∧ Below w.heap.size w w' := by
  have hd0 : decide ((65536 : Int) < (a.size : Int)) = false := decide_eq_false (by omega)
  have hd1 : decide ((65536 : Int) < (k.size : Int)) = false := decide_eq_false (by omega)
  have hd : decide ((65536 : Int) < (p.size : Int)) = true := decide_eq_true (by omega)
  go_enter Tryd.func5, Tryd.ntmps5
  go_wp2_with (go_at_call 16; refine (bytes4_any a k p _ _).mono ?_; rintro e w' ⟨⟨b, rfl⟩, rfl⟩; cases b)
  all_goals (go_ret; exact ⟨rfl, Below.refl _ _⟩)

set_option maxHeartbeats 1000000 in
theorem walk_miss (a k p : ByteArray) (n : Int) (w : World) (ha : a.size ≤ 65536) (hk : k.size ≤ 65536) (hp : p.size ≤ 65536) (h0 : -9223372036854775808 ≤ n) (h1 : n ≤ 9223372036854775807) (hpa : (p.toList == a.toList) = false) :
    Calls Tryd.prog 5 #[.string a, .string k, .int .i64 n, .string p] w fun e w' => e = .returned (.bool true) ∧ Below w.heap.size w w' := by
  have hd0 : decide ((65536 : Int) < (a.size : Int)) = false := decide_eq_false (by omega)
  have hd1 : decide ((65536 : Int) < (k.size : Int)) = false := decide_eq_false (by omega)
  have hd2 : decide ((65536 : Int) < (p.size : Int)) = false := decide_eq_false (by omega)
  have q26 : ∀ (w : World) (r : Option Nat), (binOp .eql 26 (.map r) (.map none)).run Tryd.prog w = .ok (.bool r.isNone) w := fun w r => run_eql_map_nil w _ _ _ r Tryd.underlying26
  go_enter Tryd.func5, Tryd.ntmps5
  go_wp2_with (first | (go_at_call 16; refine (bytes4_small a k p _ _ ha hk hp).mono ?_; rintro e w' ⟨rfl, rfl⟩) | (go_at_call 7; refine (itoa n _ h0 h1).mono ?_; rintro e w1 ⟨j, hj, hU, hj20, rfl, hb1⟩) | (go_at_call 8; refine (number_any _ _ _).mono ?_; rintro e w' ⟨rfl, rfl⟩) | (go_at_call 17; refine (nest_any _ _ _).mono ?_; rintro e w' ⟨rfl, rfl⟩))
  refine (object_miss (w1.heap.size + 1) a p _ _ (heap_second w1 _ _) hpa).mono ?_
  rintro e w' ⟨rfl, rfl⟩
  go_wp2
  go_ret
  exact ⟨by simp, (hb1.alloc hb1.size _).alloc (by have := hb1.size; simp; omega) _⟩

set_option maxHeartbeats 2000000 in
theorem walk_hit (a k : ByteArray) (n : Int) (w : World) (ha : a.size ≤ 65536) (hk : k.size ≤ 65536) (h0 : -9223372036854775808 ≤ n) (h1 : n ≤ 9223372036854775807) :
    Calls Tryd.prog 5 #[.string a, .string k, .int .i64 n, .string a] w fun e w' => e = .returned (.bool true) ∧ Below w.heap.size w w' := by
  have hd0 : decide ((65536 : Int) < (a.size : Int)) = false := decide_eq_false (by omega)
  have hd1 : decide ((65536 : Int) < (k.size : Int)) = false := decide_eq_false (by omega)
  have q26 : ∀ (w : World) (r : Option Nat), (binOp .eql 26 (.map r) (.map none)).run Tryd.prog w = .ok (.bool r.isNone) w := fun w r => run_eql_map_nil w _ _ _ r Tryd.underlying26
  have q29 : ∀ (w : World) (a : Option Addr) (n c n' c' : Nat), (binOp .eql 29 (.slice a n c) (.slice none n' c')).run Tryd.prog w = .ok (.bool a.isNone) w := fun w a n c n' c' => Lib.run_eql_slice_nil w _ _ a n c n' c' Tryd.underlying29
  go_enter Tryd.func5, Tryd.ntmps5
  go_wp2_with (first | (go_at_call 16; refine (bytes4_small a k a _ _ ha hk ha).mono ?_; rintro e w' ⟨rfl, rfl⟩) | (go_at_call 7; refine (itoa n _ h0 h1).mono ?_; rintro e w1 ⟨j, hj, hU, hj20, rfl, hb1⟩) | (go_at_call 8; refine (number_any _ _ _).mono ?_; rintro e w' ⟨rfl, rfl⟩) | (go_at_call 17; refine (nest_any _ _ _).mono ?_; rintro e w' ⟨rfl, rfl⟩))
  refine (object_hit (w1.heap.size + 1) a _ _ (heap_second w1 _ _)).mono ?_
  rintro e w' ⟨rfl, rfl⟩
  have hlen := len_one _ _ _ _ (heap_first w1 (one k (.iface 43 (.string ⟨(text n j).toArray⟩))) (one a (.iface 25 (.map (some w1.heap.size)))))
  go_wp2_with fail
  clear hlen
  have htl := text_length n j
  have hts : (⟨(text n j).toArray⟩ : ByteArray).size ≤ 9223372036854775806 := by show (text n j).toArray.size ≤ _; simp; omega
  refine (int_ok w1.heap.size k ⟨(text n j).toArray⟩ n _ (heap_first w1 _ _) hts (parse_text n j hj hU h0 h1)).mono ?_
  rintro e w3 ⟨rfl, hb3⟩
  have hh : w3.heap[w1.heap.size + 1]? = some (one a (.iface 25 (.map (some w1.heap.size)))) := (hb3.block _ (by simp)).trans (heap_second w1 _ _)
  have hs1 := hb1.size
  have HB : Hid (Below w.heap.size w w3) := ((hb1.alloc hs1 _).alloc (by simp; omega) _).trans (hb3.mono (by simp; omega))
  have HH : Hid (w3.heap[w1.heap.size + 1]? = some (one a (.iface 25 (.map (some w1.heap.size))))) := hh
  clear hts hh hb3 hb1 htl
  go_wp2_with fail
  refine (int_nest (w1.heap.size + 1) a _ w3 HH.out).mono ?_
  rintro e w4 ⟨rfl, rfl⟩
  go_wp2_with fail
  refine (strings_nest (w1.heap.size + 1) a _ _ HH.out).mono ?_
  rintro e w5 ⟨rfl, rfl⟩
  go_wp2
  go_ret
  exact ⟨rfl, HB.out⟩
end Go.Proofs.Qxb6608517aDoor
