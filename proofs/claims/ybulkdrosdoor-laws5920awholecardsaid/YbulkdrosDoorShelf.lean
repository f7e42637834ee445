/-
  The shelf's contract of strconv.ParseInt at base 10 and 64 bits, laid at this program's translation (the two declarations laysC174_ren and laysC174 are as the kit's lay-plain wrote them for this program), and its three roads told in two sentences: it parses, or it does not.
-/
import Derived.Shelf.LaysC
import Derived.Shelf.Strconv.ErrVarParseInt
import Derived.Test.YbulkdrosDoorProg
namespace Go.Proofs
open Go.Shelf Go.RowKit
def Ybad.laysC174_ren : Go.Shelf.Ren := ⟨fun | 174 => 8 | 247 => 9 | 245 => 10 | 287 => 11 | 279 => 12 | 280 => 13 | 281 => 14 | 282 => 15 | 321 => 16 | 322 => 17 | 316 => 18 | 171 => 20 | 205 => 19 | 243 => 21 | 246 => 22 | 283 => 23 | 284 => 24 | 285 => 25 | 286 => 26 | 129 => 28 | 317 => 27 | 318 => 29 | 319 => 30 | 320 => 31 | 337 => 32 | 338 => 33 | n => n, fun | 9 => 9 | 3 => 3 | 2 => 2 | 75 => 42 | 85 => 43 | 4 => 4 | 167 => 46 | 5 => 5 | 53 => 33 | 175 => 47 | 46 => 49 | 168 => 50 | 37 => 39 | 0 => 0 | 210 => 57 | 21 => 21 | 127 => 60 | 145 => 63 | 143 => 61 | 171 => 38 | 173 => 67 | 212 => 71 | 51 => 72 | 20 => 20 | 213 => 73 | 232 => 77 | 233 => 78 | 80 => 81 | n => n, fun | 15 => 0 | 16 => 1 | 17 => 2 | 18 => 3 | 19 => 4 | n => n⟩
theorem Ybad.laysC174 : Go.Proofs.LaysC.n174 Ybad.prog Ybad.laysC174_ren := {
  mixed := by kernel_rfl
  f129 := Ybad.func28.trans (congrArg some (by kernel_rfl))
  f171 := Ybad.func20.trans (congrArg some (by kernel_rfl))
  f174 := Ybad.func8.trans (congrArg some (by kernel_rfl))
  f205 := Ybad.func19.trans (congrArg some (by kernel_rfl))
  f243 := Ybad.func21.trans (congrArg some (by kernel_rfl))
  f245 := Ybad.func10.trans (congrArg some (by kernel_rfl))
  f246 := Ybad.func22.trans (congrArg some (by kernel_rfl))
  f247 := Ybad.func9.trans (congrArg some (by kernel_rfl))
  f279 := Ybad.func12.trans (congrArg some (by kernel_rfl))
  f280 := Ybad.func13.trans (congrArg some (by kernel_rfl))
  f281 := Ybad.func14.trans (congrArg some (by kernel_rfl))
  f282 := Ybad.func15.trans (congrArg some (by kernel_rfl))
  f283 := Ybad.func23.trans (congrArg some (by kernel_rfl))
  f284 := Ybad.func24.trans (congrArg some (by kernel_rfl))
  f285 := Ybad.func25.trans (congrArg some (by kernel_rfl))
  f286 := Ybad.func26.trans (congrArg some (by kernel_rfl))
  f287 := Ybad.func11.trans (congrArg some (by kernel_rfl))
  f316 := Ybad.func18.trans (congrArg some (by kernel_rfl))
  f317 := Ybad.func27.trans (congrArg some (by kernel_rfl))
  f318 := Ybad.func29.trans (congrArg some (by kernel_rfl))
  f319 := Ybad.func30.trans (congrArg some (by kernel_rfl))
  f320 := Ybad.func31.trans (congrArg some (by kernel_rfl))
  f321 := Ybad.func16.trans (congrArg some (by kernel_rfl))
  f322 := Ybad.func17.trans (congrArg some (by kernel_rfl))
  f337 := Ybad.func32.trans (congrArg some (by kernel_rfl))
  f338 := Ybad.func33.trans (congrArg some (by kernel_rfl))
  t0 := Ybad.underlying0
  a0 := Ybad.isAgg0
  z0 := Ybad.sizeOf0
  v0 := Ybad.zeroValue0
  t2 := Ybad.underlying2
  a2 := Ybad.isAgg2
  z2 := Ybad.sizeOf2
  v2 := Ybad.zeroValue2
  t3 := Ybad.underlying3
  a3 := Ybad.isAgg3
  z3 := Ybad.sizeOf3
  v3 := Ybad.zeroValue3
  t4 := Ybad.underlying4
  a4 := Ybad.isAgg4
  z4 := Ybad.sizeOf4
  v4 := Ybad.zeroValue4
  t5 := Ybad.underlying5
  a5 := Ybad.isAgg5
  z5 := Ybad.sizeOf5
  v5 := Ybad.zeroValue5
  t9 := Ybad.underlying9
  a9 := Ybad.isAgg9
  z9 := Ybad.sizeOf9
  v9 := Ybad.zeroValue9
  t20 := Ybad.underlying20
  a20 := Ybad.isAgg20
  z20 := Ybad.sizeOf20
  v20 := Ybad.zeroValue20
  t21 := Ybad.underlying21
  a21 := Ybad.isAgg21
  z21 := Ybad.sizeOf21
  v21 := Ybad.zeroValue21
  t37 := Ybad.underlying39
  a37 := Ybad.isAgg39
  z37 := Ybad.sizeOf39
  v37 := Ybad.zeroValue39
  t46 := Ybad.underlying49
  a46 := Ybad.isAgg49
  z46 := Ybad.sizeOf49
  v46 := Ybad.zeroValue49
  t51 := Ybad.underlying72
  a51 := Ybad.isAgg72
  z51 := Ybad.sizeOf72
  v51 := Ybad.zeroValue72
  t53 := Ybad.underlying33
  a53 := Ybad.isAgg33
  z53 := Ybad.sizeOf33
  v53 := Ybad.zeroValue33
  t75 := Ybad.underlying42
  a75 := Ybad.isAgg42
  z75 := Ybad.sizeOf42
  v75 := Ybad.zeroValue42
  t85 := Ybad.underlying43
  a85 := Ybad.isAgg43
  z85 := Ybad.sizeOf43
  v85 := Ybad.zeroValue43
  t127 := Ybad.underlying60
  a127 := Ybad.isAgg60
  z127 := Ybad.sizeOf60
  v127 := Ybad.zeroValue60
  t143 := Ybad.underlying61
  a143 := Ybad.isAgg61
  z143 := Ybad.sizeOf61
  v143 := Ybad.zeroValue61
  t145 := Ybad.underlying63
  a145 := Ybad.isAgg63
  z145 := Ybad.sizeOf63
  v145 := Ybad.zeroValue63
  t167 := Ybad.underlying46
  a167 := Ybad.isAgg46
  z167 := Ybad.sizeOf46
  v167 := Ybad.zeroValue46
  t168 := Ybad.underlying50
  a168 := Ybad.isAgg50
  z168 := Ybad.sizeOf50
  v168 := Ybad.zeroValue50
  t171 := Ybad.underlying38
  a171 := Ybad.isAgg38
  z171 := Ybad.sizeOf38
  v171 := Ybad.zeroValue38
  t173 := Ybad.underlying67
  a173 := Ybad.isAgg67
  z173 := Ybad.sizeOf67
  v173 := Ybad.zeroValue67
  t175 := Ybad.underlying47
  a175 := Ybad.isAgg47
  z175 := Ybad.sizeOf47
  v175 := Ybad.zeroValue47
  t210 := Ybad.underlying57
  a210 := Ybad.isAgg57
  z210 := Ybad.sizeOf57
  v210 := Ybad.zeroValue57
  t212 := Ybad.underlying71
  a212 := Ybad.isAgg71
  z212 := Ybad.sizeOf71
  v212 := Ybad.zeroValue71
  t213 := Ybad.underlying73
  a213 := Ybad.isAgg73
  z213 := Ybad.sizeOf73
  t232 := Ybad.underlying77
  a232 := Ybad.isAgg77
  z232 := Ybad.sizeOf77
  v232 := Ybad.zeroValue77
  t233 := Ybad.underlying78
  a233 := Ybad.isAgg78
  z233 := Ybad.sizeOf78
  v233 := Ybad.zeroValue78
  g15 := by kernel_rfl
  g16 := by kernel_rfl
  g17 := by kernel_rfl
  g18 := by kernel_rfl
  g19 := by kernel_rfl
  t80 := Ybad.underlying81
  a80 := Ybad.isAgg81
  z80 := Ybad.sizeOf81
  v80 := Ybad.zeroValue81
  i0 := by kernel_rfl
  i2 := by kernel_rfl
  i3 := by kernel_rfl
  i4 := by kernel_rfl
  i5 := by kernel_rfl
  i9 := by kernel_rfl
  i20 := by kernel_rfl
  i21 := by kernel_rfl
  i37 := by kernel_rfl
  i46 := by kernel_rfl
  i51 := by kernel_rfl
  i53 := by kernel_rfl
  i75 := by kernel_rfl
  i80 := by kernel_rfl
  i85 := by kernel_rfl
  i127 := by kernel_rfl
  i143 := by kernel_rfl
  i145 := by kernel_rfl
  i167 := by kernel_rfl
  i168 := by kernel_rfl
  i171 := by kernel_rfl
  i173 := by kernel_rfl
  i175 := by kernel_rfl
  i210 := by kernel_rfl
  i212 := by kernel_rfl
  i232 := by kernel_rfl
  i233 := by kernel_rfl
  m15 := by kernel_rfl
  m16 := by kernel_rfl
  m17 := by kernel_rfl
  m18 := by kernel_rfl
  m19 := by kernel_rfl
  c0 := by kernel_rfl
  c2 := by kernel_rfl
  c3 := by kernel_rfl
  c4 := by kernel_rfl
  c5 := by kernel_rfl
  c9 := by kernel_rfl
  c20 := by kernel_rfl
  c21 := by kernel_rfl
  c37 := by kernel_rfl
  c46 := by kernel_rfl
  c51 := by kernel_rfl
  c53 := by kernel_rfl
  c75 := by kernel_rfl
  c80 := by kernel_rfl
  c85 := by kernel_rfl
  c127 := by kernel_rfl
  c143 := by kernel_rfl
  c145 := by kernel_rfl
  c167 := by kernel_rfl
  c168 := by kernel_rfl
  c171 := by kernel_rfl
  c173 := by kernel_rfl
  c175 := by kernel_rfl
  c210 := by kernel_rfl
  c212 := by kernel_rfl
  c213 := by kernel_rfl
  c232 := by kernel_rfl
  c233 := by kernel_rfl }

/-- strconv.ParseInt(s, 10, 64) at a string that spells an int64. -/
theorem Ybad.pint_ok (s : ByteArray) (hmax : s.size ≤ 9223372036854775806) (v : Int) (h : Lib.parseIntB 64 s.data.toList = .ok v) (w : World) :
    Calls Ybad.prog 8 #[.string s, .int .i64 10, .int .i64 64] w fun e w' => e = .returned (.tuple #[.int .i64 v, .nilIface]) ∧ (w' = w ∨ ∃ t, w' = Lib.bytesWorld w 5 t) :=
  Any.strconv_ParseInt_10_at64_ok Ybad.laysC174 s hmax v h w

/-- strconv.ParseInt(s, 10, 64) at every other string: some number and an error that is not nil; of what was there nothing has turned. -/
theorem Ybad.pint_err (s : ByteArray) (hlim : s.size ≤ 281474976710656) (h : ∀ v, Lib.parseIntB 64 s.data.toList ≠ .ok v) (w : World)
    (t0 t1 : TypeId) (p0 p1 : Value) (h0 : w.var? Ybad.prog "strconv.ErrSyntax" = some #[.iface t0 p0]) (h1 : w.var? Ybad.prog "strconv.ErrRange" = some #[.iface t1 p1]) :
    Calls Ybad.prog 8 #[.string s, .int .i64 10, .int .i64 64] w fun e w' => ∃ v N, e = .returned (.tuple #[.int .i64 v, .iface 50 (.pointer (some ⟨N, 0, none⟩))]) ∧ Below w.heap.size w w' := by
  cases hp : Lib.parseIntB 64 s.data.toList with
  | ok v => exact absurd hp (h v)
  | _ =>
    first
      | exact Calls.mono (Any.strconv_ParseInt_10_at64_range_var Ybad.laysC174 s hlim hp t1 p1 w h1) fun e w' hx => by
          obtain ⟨N, he, _, _, hb⟩ := hx
          exact ⟨_, N, he, hb⟩
      | exact Calls.mono (Any.strconv_ParseInt_10_at64_syntax_var Ybad.laysC174 s hlim hp t0 p0 w h0) fun e w' hx => by
          obtain ⟨N, he, _, _, hb⟩ := hx
          exact ⟨_, N, he, hb⟩

/-- A package-level variable of a block below B reads as it did. -/
theorem Ybad.var_below {B g : Nat} {w w' : World} {n : String} (hb : Below B w w') (hg : Ybad.prog.globalNamed n = some g) (hB : g < B) : w'.var? Ybad.prog n = w.var? Ybad.prog n := by
  simp only [World.var?, hg, Option.bind_some, hb.block g hB]

theorem Ybad.gSyn : Ybad.prog.globalNamed "strconv.ErrSyntax" = some 0 := by kernel_rfl
theorem Ybad.gRan : Ybad.prog.globalNamed "strconv.ErrRange" = some 1 := by kernel_rfl

end Go.Proofs
