/-
  strconv.ParseInt (function 18) at base 10 and 64 bits: the guide's contracts, laid at this program (the laying by the guide's tool, in plain words).
-/
import Derived.Shelf.LaysC
import Derived.Shelf.Strconv.ParseIntPublic10
import Derived.Test.Qxb6608517aDoorProg
import Derived.Test.Qxb6608517aDoorPlain
namespace Go.Proofs
open Go.Shelf
def Tryd.laysC174_ren : Go.Shelf.Ren := ⟨fun | 174 => 18 | 247 => 19 | 245 => 20 | 287 => 21 | 279 => 22 | 280 => 23 | 281 => 24 | 282 => 25 | 321 => 26 | 322 => 27 | 316 => 28 | 171 => 30 | 205 => 29 | 243 => 31 | 246 => 32 | 283 => 33 | 284 => 34 | 285 => 35 | 286 => 36 | 129 => 38 | 317 => 37 | 318 => 39 | 319 => 40 | 320 => 41 | 337 => 42 | 338 => 43 | n => n, fun | 9 => 9 | 3 => 3 | 2 => 2 | 75 => 46 | 85 => 47 | 4 => 4 | 167 => 54 | 5 => 5 | 53 => 40 | 175 => 55 | 46 => 57 | 168 => 58 | 37 => 42 | 0 => 0 | 210 => 65 | 21 => 21 | 127 => 68 | 145 => 71 | 143 => 69 | 171 => 73 | 173 => 76 | 212 => 80 | 51 => 81 | 20 => 20 | 213 => 82 | 232 => 86 | 233 => 87 | 80 => 90 | n => n, fun | 15 => 0 | 16 => 1 | 17 => 2 | 18 => 3 | 19 => 4 | n => n⟩
theorem Tryd.laysC174 : Go.Proofs.LaysC.n174 Tryd.prog Tryd.laysC174_ren := {
  mixed := by kernel_rfl
  f129 := Tryd.func38.trans (congrArg some (by kernel_rfl))
  f171 := Tryd.func30.trans (congrArg some (by kernel_rfl))
  f174 := Tryd.func18.trans (congrArg some (by kernel_rfl))
  f205 := Tryd.func29.trans (congrArg some (by kernel_rfl))
  f243 := Tryd.func31.trans (congrArg some (by kernel_rfl))
  f245 := Tryd.func20.trans (congrArg some (by kernel_rfl))
  f246 := Tryd.func32.trans (congrArg some (by kernel_rfl))
  f247 := Tryd.func19.trans (congrArg some (by kernel_rfl))
  f279 := Tryd.func22.trans (congrArg some (by kernel_rfl))
  f280 := Tryd.func23.trans (congrArg some (by kernel_rfl))
  f281 := Tryd.func24.trans (congrArg some (by kernel_rfl))
  f282 := Tryd.func25.trans (congrArg some (by kernel_rfl))
  f283 := Tryd.func33.trans (congrArg some (by kernel_rfl))
  f284 := Tryd.func34.trans (congrArg some (by kernel_rfl))
  f285 := Tryd.func35.trans (congrArg some (by kernel_rfl))
  f286 := Tryd.func36.trans (congrArg some (by kernel_rfl))
  f287 := Tryd.func21.trans (congrArg some (by kernel_rfl))
  f316 := Tryd.func28.trans (congrArg some (by kernel_rfl))
  f317 := Tryd.func37.trans (congrArg some (by kernel_rfl))
  f318 := Tryd.func39.trans (congrArg some (by kernel_rfl))
  f319 := Tryd.func40.trans (congrArg some (by kernel_rfl))
  f320 := Tryd.func41.trans (congrArg some (by kernel_rfl))
  f321 := Tryd.func26.trans (congrArg some (by kernel_rfl))
  f322 := Tryd.func27.trans (congrArg some (by kernel_rfl))
  f337 := Tryd.func42.trans (congrArg some (by kernel_rfl))
  f338 := Tryd.func43.trans (congrArg some (by kernel_rfl))
  t0 := Tryd.underlying0
  a0 := Tryd.isAgg0
  z0 := Tryd.sizeOf0
  v0 := Tryd.zeroValue0
  t2 := Tryd.underlying2
  a2 := Tryd.isAgg2
  z2 := Tryd.sizeOf2
  v2 := Tryd.zeroValue2
  t3 := Tryd.underlying3
  a3 := Tryd.isAgg3
  z3 := Tryd.sizeOf3
  v3 := Tryd.zeroValue3
  t4 := Tryd.underlying4
  a4 := Tryd.isAgg4
  z4 := Tryd.sizeOf4
  v4 := Tryd.zeroValue4
  t5 := Tryd.underlying5
  a5 := Tryd.isAgg5
  z5 := Tryd.sizeOf5
  v5 := Tryd.zeroValue5
  t9 := Tryd.underlying9
  a9 := Tryd.isAgg9
  z9 := Tryd.sizeOf9
  v9 := Tryd.zeroValue9
  t20 := Tryd.underlying20
  a20 := Tryd.isAgg20
  z20 := Tryd.sizeOf20
  v20 := Tryd.zeroValue20
  t21 := Tryd.underlying21
  a21 := Tryd.isAgg21
  z21 := Tryd.sizeOf21
  v21 := Tryd.zeroValue21
  t37 := Tryd.underlying42
  a37 := Tryd.isAgg42
  z37 := Tryd.sizeOf42
  v37 := Tryd.zeroValue42
  t46 := Tryd.underlying57
  a46 := Tryd.isAgg57
  z46 := Tryd.sizeOf57
  v46 := Tryd.zeroValue57
  t51 := Tryd.underlying81
  a51 := Tryd.isAgg81
  z51 := Tryd.sizeOf81
  v51 := Tryd.zeroValue81
  t53 := Tryd.underlying40
  a53 := Tryd.isAgg40
  z53 := Tryd.sizeOf40
  v53 := Tryd.zeroValue40
  t75 := Tryd.underlying46
  a75 := Tryd.isAgg46
  z75 := Tryd.sizeOf46
  v75 := Tryd.zeroValue46
  t85 := Tryd.underlying47
  a85 := Tryd.isAgg47
  z85 := Tryd.sizeOf47
  v85 := Tryd.zeroValue47
  t127 := Tryd.underlying68
  a127 := Tryd.isAgg68
  z127 := Tryd.sizeOf68
  v127 := Tryd.zeroValue68
  t143 := Tryd.underlying69
  a143 := Tryd.isAgg69
  z143 := Tryd.sizeOf69
  v143 := Tryd.zeroValue69
  t145 := Tryd.underlying71
  a145 := Tryd.isAgg71
  z145 := Tryd.sizeOf71
  v145 := Tryd.zeroValue71
  t167 := Tryd.underlying54
  a167 := Tryd.isAgg54
  z167 := Tryd.sizeOf54
  v167 := Tryd.zeroValue54
  t168 := Tryd.underlying58
  a168 := Tryd.isAgg58
  z168 := Tryd.sizeOf58
  v168 := Tryd.zeroValue58
  t171 := Tryd.underlying73
  a171 := Tryd.isAgg73
  z171 := Tryd.sizeOf73
  v171 := Tryd.zeroValue73
  t173 := Tryd.underlying76
  a173 := Tryd.isAgg76
  z173 := Tryd.sizeOf76
  v173 := Tryd.zeroValue76
  t175 := Tryd.underlying55
  a175 := Tryd.isAgg55
  z175 := Tryd.sizeOf55
  v175 := Tryd.zeroValue55
  t210 := Tryd.underlying65
  a210 := Tryd.isAgg65
  z210 := Tryd.sizeOf65
  v210 := Tryd.zeroValue65
  t212 := Tryd.underlying80
  a212 := Tryd.isAgg80
  z212 := Tryd.sizeOf80
  v212 := Tryd.zeroValue80
  t213 := Tryd.underlying82
  a213 := Tryd.isAgg82
  z213 := Tryd.sizeOf82
  t232 := Tryd.underlying86
  a232 := Tryd.isAgg86
  z232 := Tryd.sizeOf86
  v232 := Tryd.zeroValue86
  t233 := Tryd.underlying87
  a233 := Tryd.isAgg87
  z233 := Tryd.sizeOf87
  v233 := Tryd.zeroValue87
  g15 := by kernel_rfl
  g16 := by kernel_rfl
  g17 := by kernel_rfl
  g18 := by kernel_rfl
  g19 := by kernel_rfl
  t80 := Tryd.underlying90
  a80 := Tryd.isAgg90
  z80 := Tryd.sizeOf90
  v80 := Tryd.zeroValue90
  i0 := by kernel_rfl
  i2 := by kernel_rfl
  i3 := by kernel_rfl
  i4 := by kernel_rfl
  i5 := by kernel_rfl
  i9 := by kernel_rfl
  i20 := by kernel_rfl
  i21 := by kernel_rfl
  i37 := by kernel_rfl
  i46 := by kernel_rfl
  i51 := by kernel_rfl
  i53 := by kernel_rfl
  i75 := by kernel_rfl
  i80 := by kernel_rfl
  i85 := by kernel_rfl
  i127 := by kernel_rfl
  i143 := by kernel_rfl
  i145 := by kernel_rfl
  i167 := by kernel_rfl
  i168 := by kernel_rfl
  i171 := by kernel_rfl
  i173 := by kernel_rfl
  i175 := by kernel_rfl
  i210 := by kernel_rfl
  i212 := by kernel_rfl
  i232 := by kernel_rfl
  i233 := by kernel_rfl
  m15 := by kernel_rfl
  m16 := by kernel_rfl
  m17 := by kernel_rfl
  m18 := by kernel_rfl
  m19 := by kernel_rfl
  c0 := by kernel_rfl
  c2 := by kernel_rfl
  c3 := by kernel_rfl
  c4 := by kernel_rfl
  c5 := by kernel_rfl
  c9 := by kernel_rfl
  c20 := by kernel_rfl
  c21 := by kernel_rfl
  c37 := by kernel_rfl
  c46 := by kernel_rfl
  c51 := by kernel_rfl
  c53 := by kernel_rfl
  c75 := by kernel_rfl
  c80 := by kernel_rfl
  c85 := by kernel_rfl
  c127 := by kernel_rfl
  c143 := by kernel_rfl
  c145 := by kernel_rfl
  c167 := by kernel_rfl
  c168 := by kernel_rfl
  c171 := by kernel_rfl
  c173 := by kernel_rfl
  c175 := by kernel_rfl
  c210 := by kernel_rfl
  c212 := by kernel_rfl
  c213 := by kernel_rfl
  c232 := by kernel_rfl
  c233 := by kernel_rfl }
end Go.Proofs
namespace Go.Proofs.Qxb6608517aDoor
open Go.RowKit Go.Shelf

/-- A text that spells an int64. -/
theorem parse_ok (s : ByteArray) (v : Int) (w : World) (hmax : s.size ≤ 9223372036854775806) (h : Lib.parseIntB 64 s.data.toList = .ok v) :
    Calls Tryd.prog 18 #[.string s, .int .i64 10, .int .i64 64] w fun e w' => e = .returned (.tuple #[.int .i64 v, .nilIface]) ∧ Below w.heap.size w w' := by
  refine (Any.strconv_ParseInt_10_at64_ok Tryd.laysC174 s hmax v h w).mono ?_
  rintro e w' ⟨rfl, rfl | ⟨t, rfl⟩⟩
  · exact ⟨rfl, Below.refl _ _⟩
  · exact ⟨rfl, Lib.bytesWorld_below w 5 t⟩

/-- A text that is no numeral. -/
theorem parse_bad (s : ByteArray) (ev : Value) (w : World) (hlim : s.size ≤ 281474976710656) (h : bad (Lib.parseIntB 64 s.data.toList) = true) (hv : w.cell? ⟨0, 0, none⟩ = some ev) (hev : ev = .nilIface ∨ ∃ te pe, ev = .iface te pe) :
    Calls Tryd.prog 18 #[.string s, .int .i64 10, .int .i64 64] w fun e w' => ∃ x, e = .returned (.tuple #[.int .i64 0, .iface 58 x]) ∧ Below w.heap.size w w' := by
  refine (Any.strconv_ParseInt_10_at64_syntax Tryd.laysC174 s hlim (bad_eq h rfl) ev w hv hev).mono ?_
  rintro e w' ⟨N, rfl, _, _, hb⟩
  exact ⟨_, rfl, hb⟩
end Go.Proofs.Qxb6608517aDoor
