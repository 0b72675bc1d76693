/-
  strconv.ParseInt(s, 10, 64) AT THIS DUMP: the guide's shelf contract, laid in plain words by the guide's own tools (lay-shelf, lay-plain); the last two theorems are one application each.
-/
import Derived.Shelf.LaysC
import Derived.Shelf.Strconv.ParseIntPublic10
import Derived.Shelf.Strconv.ErrVarParseInt
import Derived.Test.Qxb6614300aDoorProg
namespace Go.Proofs.Qxb6614300aDoor
open Go.Shelf
def Tryd.laysC174_ren : Go.Shelf.Ren := ⟨fun | 174 => 13 | 247 => 15 | 245 => 16 | 287 => 18 | 279 => 19 | 280 => 20 | 281 => 21 | 282 => 22 | 321 => 25 | 322 => 26 | 316 => 27 | 171 => 29 | 205 => 28 | 243 => 30 | 246 => 31 | 283 => 32 | 284 => 33 | 285 => 34 | 286 => 35 | 129 => 37 | 317 => 36 | 318 => 38 | 319 => 39 | 320 => 40 | 337 => 41 | 338 => 42 | n => n, fun | 9 => 9 | 3 => 3 | 2 => 2 | 75 => 24 | 85 => 32 | 4 => 4 | 167 => 41 | 5 => 5 | 53 => 29 | 175 => 42 | 46 => 44 | 168 => 45 | 37 => 54 | 0 => 0 | 210 => 57 | 21 => 21 | 127 => 71 | 145 => 74 | 143 => 72 | 171 => 76 | 173 => 79 | 212 => 83 | 51 => 84 | 20 => 20 | 213 => 85 | 232 => 89 | 233 => 90 | 80 => 93 | n => n, fun | 15 => 1 | 16 => 0 | 17 => 2 | 18 => 3 | 19 => 4 | n => n⟩
theorem Tryd.laysC174 : Go.Proofs.LaysC.n174 Tryd.prog Tryd.laysC174_ren := {
  mixed := by kernel_rfl
  f129 := Tryd.func37.trans (congrArg some (by kernel_rfl))
  f171 := Tryd.func29.trans (congrArg some (by kernel_rfl))
  f174 := Tryd.func13.trans (congrArg some (by kernel_rfl))
  f205 := Tryd.func28.trans (congrArg some (by kernel_rfl))
  f243 := Tryd.func30.trans (congrArg some (by kernel_rfl))
  f245 := Tryd.func16.trans (congrArg some (by kernel_rfl))
  f246 := Tryd.func31.trans (congrArg some (by kernel_rfl))
  f247 := Tryd.func15.trans (congrArg some (by kernel_rfl))
  f279 := Tryd.func19.trans (congrArg some (by kernel_rfl))
  f280 := Tryd.func20.trans (congrArg some (by kernel_rfl))
  f281 := Tryd.func21.trans (congrArg some (by kernel_rfl))
  f282 := Tryd.func22.trans (congrArg some (by kernel_rfl))
  f283 := Tryd.func32.trans (congrArg some (by kernel_rfl))
  f284 := Tryd.func33.trans (congrArg some (by kernel_rfl))
  f285 := Tryd.func34.trans (congrArg some (by kernel_rfl))
  f286 := Tryd.func35.trans (congrArg some (by kernel_rfl))
  f287 := Tryd.func18.trans (congrArg some (by kernel_rfl))
  f316 := Tryd.func27.trans (congrArg some (by kernel_rfl))
  f317 := Tryd.func36.trans (congrArg some (by kernel_rfl))
  f318 := Tryd.func38.trans (congrArg some (by kernel_rfl))
  f319 := Tryd.func39.trans (congrArg some (by kernel_rfl))
  f320 := Tryd.func40.trans (congrArg some (by kernel_rfl))
  f321 := Tryd.func25.trans (congrArg some (by kernel_rfl))
  f322 := Tryd.func26.trans (congrArg some (by kernel_rfl))
  f337 := Tryd.func41.trans (congrArg some (by kernel_rfl))
  f338 := Tryd.func42.trans (congrArg some (by kernel_rfl))
  t0 := Tryd.underlying0
  a0 := Tryd.isAgg0
  z0 := Tryd.sizeOf0
  v0 := Tryd.zeroValue0
  t2 := Tryd.underlying2
  a2 := Tryd.isAgg2
  z2 := Tryd.sizeOf2
  v2 := Tryd.zeroValue2
  t3 := Tryd.underlying3
  a3 := Tryd.isAgg3
  z3 := Tryd.sizeOf3
  v3 := Tryd.zeroValue3
  t4 := Tryd.underlying4
  a4 := Tryd.isAgg4
  z4 := Tryd.sizeOf4
  v4 := Tryd.zeroValue4
  t5 := Tryd.underlying5
  a5 := Tryd.isAgg5
  z5 := Tryd.sizeOf5
  v5 := Tryd.zeroValue5
  t9 := Tryd.underlying9
  a9 := Tryd.isAgg9
  z9 := Tryd.sizeOf9
  v9 := Tryd.zeroValue9
  t20 := Tryd.underlying20
  a20 := Tryd.isAgg20
  z20 := Tryd.sizeOf20
  v20 := Tryd.zeroValue20
  t21 := Tryd.underlying21
  a21 := Tryd.isAgg21
  z21 := Tryd.sizeOf21
  v21 := Tryd.zeroValue21
  t37 := Tryd.underlying54
  a37 := Tryd.isAgg54
  z37 := Tryd.sizeOf54
  v37 := Tryd.zeroValue54
  t46 := Tryd.underlying44
  a46 := Tryd.isAgg44
  z46 := Tryd.sizeOf44
  v46 := Tryd.zeroValue44
  t51 := Tryd.underlying84
  a51 := Tryd.isAgg84
  z51 := Tryd.sizeOf84
  v51 := Tryd.zeroValue84
  t53 := Tryd.underlying29
  a53 := Tryd.isAgg29
  z53 := Tryd.sizeOf29
  v53 := Tryd.zeroValue29
  t75 := Tryd.underlying24
  a75 := Tryd.isAgg24
  z75 := Tryd.sizeOf24
  v75 := Tryd.zeroValue24
  t85 := Tryd.underlying32
  a85 := Tryd.isAgg32
  z85 := Tryd.sizeOf32
  v85 := Tryd.zeroValue32
  t127 := Tryd.underlying71
  a127 := Tryd.isAgg71
  z127 := Tryd.sizeOf71
  v127 := Tryd.zeroValue71
  t143 := Tryd.underlying72
  a143 := Tryd.isAgg72
  z143 := Tryd.sizeOf72
  v143 := Tryd.zeroValue72
  t145 := Tryd.underlying74
  a145 := Tryd.isAgg74
  z145 := Tryd.sizeOf74
  v145 := Tryd.zeroValue74
  t167 := Tryd.underlying41
  a167 := Tryd.isAgg41
  z167 := Tryd.sizeOf41
  v167 := Tryd.zeroValue41
  t168 := Tryd.underlying45
  a168 := Tryd.isAgg45
  z168 := Tryd.sizeOf45
  v168 := Tryd.zeroValue45
  t171 := Tryd.underlying76
  a171 := Tryd.isAgg76
  z171 := Tryd.sizeOf76
  v171 := Tryd.zeroValue76
  t173 := Tryd.underlying79
  a173 := Tryd.isAgg79
  z173 := Tryd.sizeOf79
  v173 := Tryd.zeroValue79
  t175 := Tryd.underlying42
  a175 := Tryd.isAgg42
  z175 := Tryd.sizeOf42
  v175 := Tryd.zeroValue42
  t210 := Tryd.underlying57
  a210 := Tryd.isAgg57
  z210 := Tryd.sizeOf57
  v210 := Tryd.zeroValue57
  t212 := Tryd.underlying83
  a212 := Tryd.isAgg83
  z212 := Tryd.sizeOf83
  v212 := Tryd.zeroValue83
  t213 := Tryd.underlying85
  a213 := Tryd.isAgg85
  z213 := Tryd.sizeOf85
  t232 := Tryd.underlying89
  a232 := Tryd.isAgg89
  z232 := Tryd.sizeOf89
  v232 := Tryd.zeroValue89
  t233 := Tryd.underlying90
  a233 := Tryd.isAgg90
  z233 := Tryd.sizeOf90
  v233 := Tryd.zeroValue90
  g15 := by kernel_rfl
  g16 := by kernel_rfl
  g17 := by kernel_rfl
  g18 := by kernel_rfl
  g19 := by kernel_rfl
  t80 := Tryd.underlying93
  a80 := Tryd.isAgg93
  z80 := Tryd.sizeOf93
  v80 := Tryd.zeroValue93
  i0 := by kernel_rfl
  i2 := by kernel_rfl
  i3 := by kernel_rfl
  i4 := by kernel_rfl
  i5 := by kernel_rfl
  i9 := by kernel_rfl
  i20 := by kernel_rfl
  i21 := by kernel_rfl
  i37 := by kernel_rfl
  i46 := by kernel_rfl
  i51 := by kernel_rfl
  i53 := by kernel_rfl
  i75 := by kernel_rfl
  i80 := by kernel_rfl
  i85 := by kernel_rfl
  i127 := by kernel_rfl
  i143 := by kernel_rfl
  i145 := by kernel_rfl
  i167 := by kernel_rfl
  i168 := by kernel_rfl
  i171 := by kernel_rfl
  i173 := by kernel_rfl
  i175 := by kernel_rfl
  i210 := by kernel_rfl
  i212 := by kernel_rfl
  i232 := by kernel_rfl
  i233 := by kernel_rfl
  m15 := by kernel_rfl
  m16 := by kernel_rfl
  m17 := by kernel_rfl
  m18 := by kernel_rfl
  m19 := by kernel_rfl
  c0 := by kernel_rfl
  c2 := by kernel_rfl
  c3 := by kernel_rfl
  c4 := by kernel_rfl
  c5 := by kernel_rfl
  c9 := by kernel_rfl
  c20 := by kernel_rfl
  c21 := by kernel_rfl
  c37 := by kernel_rfl
  c46 := by kernel_rfl
  c51 := by kernel_rfl
  c53 := by kernel_rfl
  c75 := by kernel_rfl
  c80 := by kernel_rfl
  c85 := by kernel_rfl
  c127 := by kernel_rfl
  c143 := by kernel_rfl
  c145 := by kernel_rfl
  c167 := by kernel_rfl
  c168 := by kernel_rfl
  c171 := by kernel_rfl
  c173 := by kernel_rfl
  c175 := by kernel_rfl
  c210 := by kernel_rfl
  c212 := by kernel_rfl
  c213 := by kernel_rfl
  c232 := by kernel_rfl
  c233 := by kernel_rfl }
open Go.RowKit

/-- The number that strconv.ParseInt(.., 10, 64) hands back, error or not. -/
def valOf (l : List UInt8) : Int := match Lib.parseIntB 64 l with | .ok v => v | .range => Lib.intSat 64 l | _ => 0
/-- Whether it hands back no error. -/
def okOf (l : List UInt8) : Bool := match Lib.parseIntB 64 l with | .ok _ => true | _ => false

theorem parse_ok (s : ByteArray) (hmax : s.size ≤ 9223372036854775806) (h : okOf s.data.toList = true) (w : World) :
    Calls Tryd.prog 13 #[.string s, .int .i64 10, .int .i64 64] w fun e w' => e = .returned (.tuple #[.int .i64 (valOf s.data.toList), .nilIface]) ∧ Below w.heap.size w w' := by
  cases hp : Lib.parseIntB 64 s.data.toList
  · rename_i v
    have e : valOf s.data.toList = v := by unfold valOf; rw [hp]
    rw [e]
    refine (Any.strconv_ParseInt_10_at64_ok Tryd.laysC174 s hmax v hp w).mono ?_
    rintro e w' ⟨rfl, hw⟩
    rcases hw with rfl | ⟨t, rfl⟩
    · exact ⟨rfl, Below.refl _ _⟩
    · exact ⟨rfl, Lib.bytesWorld_below _ _ _⟩
  · unfold okOf at h
    rw [hp] at h
    cases h
  · unfold okOf at h
    rw [hp] at h
    cases h

theorem parse_bad (s : ByteArray) (hlim : s.size ≤ 281474976710656) (h : okOf s.data.toList = false) (pr ps : Value) (w : World) (hr : w.var? Tryd.prog "strconv.ErrRange" = some #[.iface 72 pr]) (hs : w.var? Tryd.prog "strconv.ErrSyntax" = some #[.iface 72 ps]) :
    Calls Tryd.prog 13 #[.string s, .int .i64 10, .int .i64 64] w fun e w' => ∃ N c, e = .returned (.tuple #[.int .i64 (valOf s.data.toList), .iface 45 (.pointer (some ⟨N, 0, none⟩))]) ∧ (c = pr ∨ c = ps) ∧ w'.cell? ⟨N, 2, none⟩ = some (.iface 72 c) ∧ Below w.heap.size w w' := by
  cases hp : Lib.parseIntB 64 s.data.toList
  · unfold okOf at h
    rw [hp] at h
    cases h
  · have e : valOf s.data.toList = 0 := by unfold valOf; rw [hp]
    rw [e]
    refine (Any.strconv_ParseInt_10_at64_syntax_var Tryd.laysC174 s hlim hp 72 ps w hs).mono ?_
    rintro e w' ⟨N, rfl, _, hN, hb⟩
    exact ⟨N, ps, rfl, .inr rfl, by rw [cell_of_row w' N 2 _ _ (0, 0) hN]; rfl, hb⟩
  · have e : valOf s.data.toList = Lib.intSat 64 s.data.toList := by unfold valOf; rw [hp]
    rw [e]
    refine (Any.strconv_ParseInt_10_at64_range_var Tryd.laysC174 s hlim hp 72 pr w hr).mono ?_
    rintro e w' ⟨N, rfl, _, hN, hb⟩
    exact ⟨N, pr, rfl, .inl rfl, by rw [cell_of_row w' N 2 _ _ (0, 0) hN]; rfl, hb⟩

end Go.Proofs.Qxb6614300aDoor
