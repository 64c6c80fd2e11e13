/-
  The walk of FnIntReadsEveryInt64Decimal (function 3).
-/
import Derived.Test.Qxb6608517aDoorMaps
import Derived.Stop.LaidErr
namespace Go.Proofs.Qxb6608517aDoor
open Go.RowKit

theorem bytes_small (a : Value) (s : ByteArray) (w : World) (h : s.size ≤ 1048576) : Calls Tryd.prog 6 #[.string s, a] w fun e w' => e = .returned (.bool true) ∧ w = w' := by
  have hd : decide ((1048576 : Int) < (s.size : Int)) = false := decide_eq_false (by omega)
  go_enter Tryd.func6, Tryd.ntmps6
  go_wp2
  go_ret
  exact ⟨rfl, rfl⟩

theorem bytes_big (a : Value) (s : ByteArray) (w : World) (h : 1048576 < s.size) : Calls Tryd.prog 6 #[.string s, a] w fun e w' => e = .returned (.bool false) ∧ w = w' := by
  have hd : decide ((1048576 : Int) < (s.size : Int)) = true := decide_eq_true (by omega)
  go_enter Tryd.func6, Tryd.ntmps6
  go_wp2
  go_ret
  exact ⟨rfl, rfl⟩

theorem walk_big (s : ByteArray) (n : Int) (w : World) (h : 1048576 < s.size) : Calls Tryd.prog 3 #[.string s, .int .i64 n] w fun e w' => e = .returned (.bool true) ∧ Below w.heap.size w w' := by
  go_enter Tryd.func3, Tryd.ntmps3
  go_wp2_with (go_at_call 6; refine (bytes_big _ s _ h).mono ?_; rintro e w' ⟨rfl, rfl⟩)
  go_ret
  exact ⟨rfl, Below.refl _ _⟩

theorem walk_mid (s : ByteArray) (n : Int) (w : World) (h : ¬ 1048576 < s.size) (h2 : 65536 < s.size) : Calls Tryd.prog 3 #[.string s, .int .i64 n] w fun e w' => e = .returned (.bool true) ∧ Below w.heap.size w w' := by
  have hd : decide ((65536 : Int) < (s.size : Int)) = true := decide_eq_true (by omega)
  go_enter Tryd.func3, Tryd.ntmps3
  go_wp2_with (go_at_call 6; refine (bytes_small _ s _ (by omega)).mono ?_; rintro e w' ⟨rfl, rfl⟩)
  go_ret
  exact ⟨rfl, Below.refl _ _⟩

theorem data_text (a b : List UInt8) : ((⟨a.toArray⟩ : ByteArray) ++ ⟨b.toArray⟩).data.toList = a ++ b := by rw [append_bytes]
theorem size_text (a b : List UInt8) : ((⟨a.toArray⟩ : ByteArray) ++ ⟨b.toArray⟩).size = a.length + b.length := by
  rw [append_bytes]
  show (a ++ b).toArray.size = _
  simp

theorem lt_of_cell {w : World} {g o : Nat} {v : Value} (h : w.cell? ⟨g, o, none⟩ = some v) : g < w.heap.size := by
  rcases Nat.lt_or_ge g w.heap.size with h' | h'
  · exact h'
  · simp [World.cell?, Array.getElem?_eq_none h'] at h

/-- Behind a new block and a call that turns nothing that was there. -/
theorem below_step {B : Nat} {w a b : World} {o : Obj} (h : Below B w a) (hB : B ≤ a.heap.size) (k : Below (a.alloc o).heap.size (a.alloc o) b) : Below B w b ∧ B ≤ b.heap.size := by
  have hs : (a.alloc o).heap.size = a.heap.size + 1 := by simp
  exact ⟨(h.alloc hB o).trans (k.mono (by omega)), by have := k.size; omega⟩

set_option maxHeartbeats 1000000 in
theorem walk_small (s : ByteArray) (n : Int) (ev : Value) (w : World) (h : s.size ≤ 65536) (h0 : -9223372036854775808 ≤ n) (h1 : n ≤ 9223372036854775807)
    (hv : w.cell? ⟨0, 0, none⟩ = some ev) (hev : ev = .nilIface ∨ ∃ te pe, ev = .iface te pe) :
    Calls Tryd.prog 3 #[.string s, .int .i64 n] w fun e w' => e = .returned (.bool true) ∧ Below w.heap.size w w' := by
  have hd : decide ((65536 : Int) < (s.size : Int)) = false := decide_eq_false (by omega)
  have HE : Hid (ev = .nilIface ∨ ∃ te pe, ev = .iface te pe) := hev
  have HV : Hid (w.cell? ⟨0, 0, none⟩ = some ev) := hv
  clear hev hv
  go_enter Tryd.func3, Tryd.ntmps3
  go_wp2_with (first | (go_at_call 6; refine (bytes_small _ s _ (by omega)).mono ?_; rintro e w' ⟨rfl, rfl⟩) | (go_at_call 7; refine (itoa n _ h0 h1).mono ?_; rintro e w1 ⟨j, hj, hU, hj20, rfl, hb1⟩) | (go_at_call 8; refine (number_any _ _ _).mono ?_; rintro e w' ⟨rfl, rfl⟩))
  have htl := text_length n j
  have hts : (⟨(text n j).toArray⟩ : ByteArray).size ≤ 9223372036854775806 := by show (text n j).toArray.size ≤ _; simp; omega
  refine (int_ok w1.heap.size s ⟨(text n j).toArray⟩ n _ (heap_new w1 _) hts (parse_text n j hj hU h0 h1)).mono ?_
  rintro e w3 ⟨rfl, hb3⟩
  clear hts
  go_wp2_with (go_at_call 8; refine (number_any _ _ _).mono ?_; rintro e w' ⟨rfl, rfl⟩)
  obtain ⟨hB3, hs3⟩ := below_step hb1 hb1.size hb3
  have hv3 : w3.cell? ⟨0, 0, none⟩ = some ev := (hB3.cell (by exact lt_of_cell HV.out)).trans HV.out
  have HV3 : Hid (w3.cell? ⟨0, 0, none⟩ = some ev) := hv3
  clear hb1 hb3 hv3
  refine (int_bad w3.heap.size s _ ev _ (heap_new w3 _) (by rw [size_text (text n j) [46, 48]]; simp; omega) (by rw [data_text (text n j) [46, 48]]; exact parse_more n j 46 [48] hj hU h0 h1 (by decide)) (cell?_alloc_old _ HV3.out) HE.out).mono ?_
  rintro e w5 ⟨rfl, hb5⟩
  go_wp2_with (go_at_call 8; refine (number_any _ _ _).mono ?_; rintro e w' ⟨rfl, rfl⟩)
  obtain ⟨hB5, hs5⟩ := below_step hB3 hs3 hb5
  have hv5 : w5.cell? ⟨0, 0, none⟩ = some ev := (hB5.cell (by exact lt_of_cell HV.out)).trans HV.out
  have HV5 : Hid (w5.cell? ⟨0, 0, none⟩ = some ev) := hv5
  clear hB3 hs3 hb5 hv5
  refine (int_bad w5.heap.size s _ ev _ (heap_new w5 _) (by rw [size_text (text n j) [101, 48]]; simp; omega) (by rw [data_text (text n j) [101, 48]]; exact parse_more n j 101 [48] hj hU h0 h1 (by decide)) (cell?_alloc_old _ HV5.out) HE.out).mono ?_
  rintro e w7 ⟨rfl, hb7⟩
  obtain ⟨hB7, hs7⟩ := below_step hB5 hs5 hb7
  clear hB5 hs5 hb7
  go_wp2
  go_ret
  exact ⟨rfl, hB7⟩
end Go.Proofs.Qxb6608517aDoor
