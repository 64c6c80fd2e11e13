/-
  The object's makers and readers: ZZObjectNumber (function 8), ZZObjectNest (17), (Object).Int (9), (Object).Object (15), (Object).Strings (13): over maps of one entry.
-/
import Derived.Test.Qxb6608517aDoorRows
import Derived.Test.Qxb6608517aDoorItoa
import Derived.Test.Qxb6608517aDoorParse
import Derived.WideMake
import Derived.Deep.QuietTactic
import Derived.BigQuiet
import Derived.Laws.StructEq
namespace Go.Proofs.Qxb6608517aDoor
open Go.RowKit

/-- A map of one entry. -/
def one (k : ByteArray) (v : Value) : Obj := .map #[{ key := .string k, val := v, born := 0 }] 1

theorem heap_new (w : World) (o : Obj) : (w.alloc o).heap[w.heap.size]? = some o := by
  show (w.heap.push o)[w.heap.size]? = _
  simp

theorem set_new (w : World) (a b : Obj) : { (w.alloc a) with heap := (w.alloc a).heap.setIfInBounds w.heap.size b } = w.alloc b := by
  have e : (w.heap.push a).setIfInBounds w.heap.size b = w.heap.push b := by
    apply Array.ext'
    simp
  show ({ w with heap := (w.heap.push a).setIfInBounds w.heap.size b } : World) = { w with heap := w.heap.push b }
  rw [e]

theorem Tryd.map26 : Tryd.prog.underlying 26 = some (.map 9 20) := Tryd.underlying26

theorem put_one (w : World) (k : ByteArray) (v : Value) : (Instr.mapUpdate 26 (.map (some w.heap.size)) (.string k) v).run Tryd.prog (w.alloc (.map #[] 0)) = .ok () (w.alloc (one k v)) := by
  rw [run_mapUpdate_first (P := Tryd.prog) _ 26 9 20 w.heap.size 0 k v Tryd.underlying26 Tryd.underlying9 (heap_new w _), set_new]
  rfl

/-- A look-up there. -/
theorem look_one (w : World) (g : Nat) (k : ByteArray) (v : Value) (h : w.heap[g]? = some (one k v)) (x : ByteArray) :
    (Instr.lookup 26 (.map (some g)) (.string x) false).run Tryd.prog w = .ok (if x.toList == k.toList then v else .nilIface) w := by
  rw [← beq_toListBytes]
  have hc : (Instr.checkKey false 10000 9 (.string x)).run Tryd.prog w = .ok () w := MapKept.run_checkKey (k := .string x) Tryd.underlying9 (by simp [MapKept.IsKey]) false 9999
  by_cases e : x == k
  · have hf : Instr.findNow .string (.string x) [{ key := .string k, val := v, born := 0 }] 0 = some (some (0, v)) := by simp [Instr.findNow, Instr.sameNow, e]
    rw [if_pos e]
    simp [Instr.lookup, run_underlying Tryd.underlying26, MapKept.run_getObj_map h, hc, MapKept.run_findKey Tryd.underlying9 hf, Result.andThen]
  · have e' : (x == k) = false := by simpa using e
    have hf : Instr.findNow .string (.string x) [{ key := .string k, val := v, born := 0 }] 0 = some none := by simp [Instr.findNow, Instr.sameNow, e']
    rw [if_neg e]
    simp [Instr.lookup, run_underlying Tryd.underlying26, MapKept.run_getObj_map h, hc, MapKept.run_findKey Tryd.underlying9 hf, Result.andThen, Tryd.zeroValue20]

theorem number_any (k t : ByteArray) (w : World) : Calls Tryd.prog 8 #[.string k, .string t] w fun e w' => e = .returned (.map (some w.heap.size)) ∧ w' = w.alloc (one k (.iface 43 (.string t))) := by
  have hmm := @run_makeMap Tryd.prog
  have hput := put_one w k (.iface 43 (.string t))
  go_enter Tryd.func8, Tryd.ntmps8
  go_wp2
  go_ret
  exact ⟨rfl, rfl⟩

theorem Tryd.str43 : Tryd.prog.underlying 43 = some .string := Tryd.underlying43
theorem Tryd.map25 : Tryd.prog.underlying 25 = some (.map 9 20) := Tryd.underlying25
theorem Tryd.sl49 : Tryd.prog.underlying 49 = some (.slice 20) := Tryd.underlying49

/-- 'x.(json.Number)'. -/
theorem is_number (t : Value) (w : World) : (Instr.typeAssert (.iface 43 t) 20 43 true).run Tryd.prog w = .ok (.tuple #[t, .bool true]) w := by
  simp [Instr.typeAssert, run_underlying Tryd.underlying43]
theorem no_number (t : Value) (w : World) : (Instr.typeAssert (.iface 25 t) 20 43 true).run Tryd.prog w = .ok (.tuple #[.string ⟨#[]⟩, .bool false]) w := by
  simp [Instr.typeAssert, run_underlying Tryd.underlying43, Tryd.zeroValue43]
/-- 'x.(map[string]any)'. -/
theorem is_map (t : Value) (w : World) : (Instr.typeAssert (.iface 25 t) 20 25 true).run Tryd.prog w = .ok (.tuple #[t, .bool true]) w := by
  simp [Instr.typeAssert, run_underlying Tryd.underlying25]
theorem nil_map (w : World) : (Instr.typeAssert .nilIface 20 25 true).run Tryd.prog w = .ok (.tuple #[.map none, .bool false]) w := by
  simp [Instr.typeAssert, run_underlying Tryd.underlying25, Tryd.zeroValue25]
/-- 'x.([]any)'. -/
theorem no_slice (t : Value) (w : World) : (Instr.typeAssert (.iface 25 t) 20 49 true).run Tryd.prog w = .ok (.tuple #[.slice none 0 0, .bool false]) w := by
  simp [Instr.typeAssert, run_underlying Tryd.underlying49, Tryd.zeroValue49]

theorem look_same (w : World) (g : Nat) (k : ByteArray) (v : Value) (h : w.heap[g]? = some (one k v)) : (Instr.lookup 26 (.map (some g)) (.string k) false).run Tryd.prog w = .ok v w := by
  have hl := look_one w g k v h k
  rwa [if_pos (by simp)] at hl

theorem int_ok (g : Nat) (k t : ByteArray) (v : Int) (w : World) (h : w.heap[g]? = some (one k (.iface 43 (.string t)))) (hmax : t.size ≤ 9223372036854775806) (hp : Lib.parseIntB 64 t.data.toList = .ok v) :
    Calls Tryd.prog 9 #[.map (some g), .string k] w fun e w' => e = .returned (.tuple #[.int .i64 v, .bool true]) ∧ Below w.heap.size w w' := by
  have hl := look_same w g k _ h
  have ha := is_number (.string t)
  have HP : Hid (Lib.parseIntB 64 t.data.toList = .ok v) := hp
  clear hp h
  go_enter Tryd.func9, Tryd.ntmps9
  go_wp2_with (go_at_call 18; refine (parse_ok t v w hmax HP.out).mono ?_; rintro e w1 ⟨rfl, hb⟩)
  go_quiet (fail)
  go_wp2
  go_ret2
  exact ⟨rfl, hb.trans ⟨rfl, rfl, rfl, Nat.le_refl _, fun _ _ => rfl⟩⟩

theorem int_bad (g : Nat) (k t : ByteArray) (ev : Value) (w : World) (h : w.heap[g]? = some (one k (.iface 43 (.string t)))) (hlim : t.size ≤ 281474976710656) (hp : bad (Lib.parseIntB 64 t.data.toList) = true)
    (hv : w.cell? ⟨0, 0, none⟩ = some ev) (hev : ev = .nilIface ∨ ∃ te pe, ev = .iface te pe) :
    Calls Tryd.prog 9 #[.map (some g), .string k] w fun e w' => e = .returned (.tuple #[.int .i64 0, .bool false]) ∧ Below w.heap.size w w' := by
  have hl := look_same w g k _ h
  have ha := is_number (.string t)
  have HP : Hid (bad (Lib.parseIntB 64 t.data.toList) = true) := hp
  have HE : Hid (ev = .nilIface ∨ ∃ te pe, ev = .iface te pe) := hev
  clear hp h hev
  go_enter Tryd.func9, Tryd.ntmps9
  go_wp2_with (go_at_call 18; refine (parse_bad t ev w hlim HP.out hv HE.out).mono ?_; rintro e w1 ⟨x, rfl, hb⟩)
  go_quiet (fail)
  go_wp2
  go_ret2
  exact ⟨rfl, hb.trans ⟨rfl, rfl, rfl, Nat.le_refl _, fun _ _ => rfl⟩⟩

theorem int_nest (g : Nat) (k : ByteArray) (m : Value) (w : World) (h : w.heap[g]? = some (one k (.iface 25 m))) :
    Calls Tryd.prog 9 #[.map (some g), .string k] w fun e w' => e = .returned (.tuple #[.int .i64 0, .bool false]) ∧ w' = w := by
  have hl := look_same w g k _ h
  have ha := no_number m
  clear h
  go_enter Tryd.func9, Tryd.ntmps9
  go_wp2
  go_ret2
  exact ⟨rfl, rfl⟩

theorem strings_nest (g : Nat) (k : ByteArray) (m : Value) (w : World) (h : w.heap[g]? = some (one k (.iface 25 m))) :
    Calls Tryd.prog 13 #[.map (some g), .string k] w fun e w' => e = .returned (.tuple #[.slice none 0 0, .bool false]) ∧ w' = w := by
  have hl := look_same w g k _ h
  have ha := no_slice m
  clear h
  go_enter Tryd.func13, Tryd.ntmps13
  go_wp2
  go_ret2
  exact ⟨rfl, rfl⟩

theorem object_hit (g : Nat) (k : ByteArray) (m : Value) (w : World) (h : w.heap[g]? = some (one k (.iface 25 m))) :
    Calls Tryd.prog 15 #[.map (some g), .string k] w fun e w' => e = .returned (.tuple #[m, .bool true]) ∧ w' = w := by
  have hl := look_same w g k _ h
  have ha := is_map m
  clear h
  go_enter Tryd.func15, Tryd.ntmps15
  go_wp2
  go_ret2
  exact ⟨rfl, rfl⟩

theorem object_miss (g : Nat) (k x : ByteArray) (v : Value) (w : World) (h : w.heap[g]? = some (one k v)) (hx : (x.toList == k.toList) = false) :
    Calls Tryd.prog 15 #[.map (some g), .string x] w fun e w' => e = .returned (.tuple #[.map none, .bool false]) ∧ w' = w := by
  have hl := look_one w g k v h x
  rw [if_neg (by simp [hx])] at hl
  have ha := nil_map
  clear h hx
  go_enter Tryd.func15, Tryd.ntmps15
  go_wp2
  go_ret2
  exact ⟨rfl, rfl⟩

theorem nest_any (k : ByteArray) (g : Nat) (w : World) : Calls Tryd.prog 17 #[.string k, .map (some g)] w fun e w' => e = .returned (.map (some w.heap.size)) ∧ w' = w.alloc (one k (.iface 25 (.map (some g)))) := by
  have hmm := @run_makeMap Tryd.prog
  have hput := put_one w k (.iface 25 (.map (some g)))
  go_enter Tryd.func17, Tryd.ntmps17
  go_wp2
  go_ret
  exact ⟨rfl, rfl⟩
end Go.Proofs.Qxb6608517aDoor
