/-
  The shelf's contracts at this dump, in plain words (by the kit's lay-shelf and lay-plain tools, for this program): strconv.ParseInt at base 10 and 64 bits, strings.Trim at the ten digits, slices.BinarySearch at strings.
-/
import Derived.Shelf.LaysC
import Derived.Shelf.Strconv.ErrVarParseInt
import Derived.Shelf.Strings.SlTrimAscii
import Derived.Shelf.Spec.SearchS
import Derived.Test.Qxb6615671aFmtProg
namespace Go.Proofs
open Go.Shelf
def Tryf.laysC174_ren : Go.Shelf.Ren := ⟨fun | 174 => 24 | 247 => 29 | 245 => 30 | 287 => 41 | 279 => 42 | 280 => 43 | 281 => 44 | 282 => 45 | 321 => 52 | 322 => 53 | 316 => 54 | 171 => 56 | 205 => 55 | 243 => 61 | 246 => 67 | 283 => 72 | 284 => 73 | 285 => 74 | 286 => 75 | 129 => 81 | 317 => 80 | 318 => 82 | 319 => 83 | 320 => 84 | 337 => 85 | 338 => 86 | n => n, fun | 9 => 9 | 3 => 3 | 2 => 2 | 75 => 35 | 85 => 52 | 4 => 4 | 167 => 73 | 5 => 5 | 53 => 74 | 175 => 75 | 46 => 70 | 168 => 77 | 37 => 86 | 0 => 0 | 210 => 88 | 21 => 21 | 127 => 93 | 145 => 96 | 143 => 94 | 171 => 108 | 173 => 111 | 212 => 120 | 51 => 116 | 20 => 20 | 213 => 121 | 232 => 125 | 233 => 126 | 80 => 129 | n => n, fun | 15 => 0 | 16 => 1 | 17 => 10 | 18 => 11 | 19 => 12 | n => n⟩
theorem Tryf.laysC174 : Go.Proofs.LaysC.n174 Tryf.prog Tryf.laysC174_ren := {
  mixed := by kernel_rfl
  f129 := Tryf.func81.trans (congrArg some (by kernel_rfl))
  f171 := Tryf.func56.trans (congrArg some (by kernel_rfl))
  f174 := Tryf.func24.trans (congrArg some (by kernel_rfl))
  f205 := Tryf.func55.trans (congrArg some (by kernel_rfl))
  f243 := Tryf.func61.trans (congrArg some (by kernel_rfl))
  f245 := Tryf.func30.trans (congrArg some (by kernel_rfl))
  f246 := Tryf.func67.trans (congrArg some (by kernel_rfl))
  f247 := Tryf.func29.trans (congrArg some (by kernel_rfl))
  f279 := Tryf.func42.trans (congrArg some (by kernel_rfl))
  f280 := Tryf.func43.trans (congrArg some (by kernel_rfl))
  f281 := Tryf.func44.trans (congrArg some (by kernel_rfl))
  f282 := Tryf.func45.trans (congrArg some (by kernel_rfl))
  f283 := Tryf.func72.trans (congrArg some (by kernel_rfl))
  f284 := Tryf.func73.trans (congrArg some (by kernel_rfl))
  f285 := Tryf.func74.trans (congrArg some (by kernel_rfl))
  f286 := Tryf.func75.trans (congrArg some (by kernel_rfl))
  f287 := Tryf.func41.trans (congrArg some (by kernel_rfl))
  f316 := Tryf.func54.trans (congrArg some (by kernel_rfl))
  f317 := Tryf.func80.trans (congrArg some (by kernel_rfl))
  f318 := Tryf.func82.trans (congrArg some (by kernel_rfl))
  f319 := Tryf.func83.trans (congrArg some (by kernel_rfl))
  f320 := Tryf.func84.trans (congrArg some (by kernel_rfl))
  f321 := Tryf.func52.trans (congrArg some (by kernel_rfl))
  f322 := Tryf.func53.trans (congrArg some (by kernel_rfl))
  f337 := Tryf.func85.trans (congrArg some (by kernel_rfl))
  f338 := Tryf.func86.trans (congrArg some (by kernel_rfl))
  t0 := Tryf.underlying0
  a0 := Tryf.isAgg0
  z0 := Tryf.sizeOf0
  v0 := Tryf.zeroValue0
  t2 := Tryf.underlying2
  a2 := Tryf.isAgg2
  z2 := Tryf.sizeOf2
  v2 := Tryf.zeroValue2
  t3 := Tryf.underlying3
  a3 := Tryf.isAgg3
  z3 := Tryf.sizeOf3
  v3 := Tryf.zeroValue3
  t4 := Tryf.underlying4
  a4 := Tryf.isAgg4
  z4 := Tryf.sizeOf4
  v4 := Tryf.zeroValue4
  t5 := Tryf.underlying5
  a5 := Tryf.isAgg5
  z5 := Tryf.sizeOf5
  v5 := Tryf.zeroValue5
  t9 := Tryf.underlying9
  a9 := Tryf.isAgg9
  z9 := Tryf.sizeOf9
  v9 := Tryf.zeroValue9
  t20 := Tryf.underlying20
  a20 := Tryf.isAgg20
  z20 := Tryf.sizeOf20
  v20 := Tryf.zeroValue20
  t21 := Tryf.underlying21
  a21 := Tryf.isAgg21
  z21 := Tryf.sizeOf21
  v21 := Tryf.zeroValue21
  t37 := Tryf.underlying86
  a37 := Tryf.isAgg86
  z37 := Tryf.sizeOf86
  v37 := Tryf.zeroValue86
  t46 := Tryf.underlying70
  a46 := Tryf.isAgg70
  z46 := Tryf.sizeOf70
  v46 := Tryf.zeroValue70
  t51 := Tryf.underlying116
  a51 := Tryf.isAgg116
  z51 := Tryf.sizeOf116
  v51 := Tryf.zeroValue116
  t53 := Tryf.underlying74
  a53 := Tryf.isAgg74
  z53 := Tryf.sizeOf74
  v53 := Tryf.zeroValue74
  t75 := Tryf.underlying35
  a75 := Tryf.isAgg35
  z75 := Tryf.sizeOf35
  v75 := Tryf.zeroValue35
  t85 := Tryf.underlying52
  a85 := Tryf.isAgg52
  z85 := Tryf.sizeOf52
  v85 := Tryf.zeroValue52
  t127 := Tryf.underlying93
  a127 := Tryf.isAgg93
  z127 := Tryf.sizeOf93
  v127 := Tryf.zeroValue93
  t143 := Tryf.underlying94
  a143 := Tryf.isAgg94
  z143 := Tryf.sizeOf94
  v143 := Tryf.zeroValue94
  t145 := Tryf.underlying96
  a145 := Tryf.isAgg96
  z145 := Tryf.sizeOf96
  v145 := Tryf.zeroValue96
  t167 := Tryf.underlying73
  a167 := Tryf.isAgg73
  z167 := Tryf.sizeOf73
  v167 := Tryf.zeroValue73
  t168 := Tryf.underlying77
  a168 := Tryf.isAgg77
  z168 := Tryf.sizeOf77
  v168 := Tryf.zeroValue77
  t171 := Tryf.underlying108
  a171 := Tryf.isAgg108
  z171 := Tryf.sizeOf108
  v171 := Tryf.zeroValue108
  t173 := Tryf.underlying111
  a173 := Tryf.isAgg111
  z173 := Tryf.sizeOf111
  v173 := Tryf.zeroValue111
  t175 := Tryf.underlying75
  a175 := Tryf.isAgg75
  z175 := Tryf.sizeOf75
  v175 := Tryf.zeroValue75
  t210 := Tryf.underlying88
  a210 := Tryf.isAgg88
  z210 := Tryf.sizeOf88
  v210 := Tryf.zeroValue88
  t212 := Tryf.underlying120
  a212 := Tryf.isAgg120
  z212 := Tryf.sizeOf120
  v212 := Tryf.zeroValue120
  t213 := Tryf.underlying121
  a213 := Tryf.isAgg121
  z213 := Tryf.sizeOf121
  t232 := Tryf.underlying125
  a232 := Tryf.isAgg125
  z232 := Tryf.sizeOf125
  v232 := Tryf.zeroValue125
  t233 := Tryf.underlying126
  a233 := Tryf.isAgg126
  z233 := Tryf.sizeOf126
  v233 := Tryf.zeroValue126
  g15 := by kernel_rfl
  g16 := by kernel_rfl
  g17 := by kernel_rfl
  g18 := by kernel_rfl
  g19 := by kernel_rfl
  t80 := Tryf.underlying129
  a80 := Tryf.isAgg129
  z80 := Tryf.sizeOf129
  v80 := Tryf.zeroValue129
  i0 := by kernel_rfl
  i2 := by kernel_rfl
  i3 := by kernel_rfl
  i4 := by kernel_rfl
  i5 := by kernel_rfl
  i9 := by kernel_rfl
  i20 := by kernel_rfl
  i21 := by kernel_rfl
  i37 := by kernel_rfl
  i46 := by kernel_rfl
  i51 := by kernel_rfl
  i53 := by kernel_rfl
  i75 := by kernel_rfl
  i80 := by kernel_rfl
  i85 := by kernel_rfl
  i127 := by kernel_rfl
  i143 := by kernel_rfl
  i145 := by kernel_rfl
  i167 := by kernel_rfl
  i168 := by kernel_rfl
  i171 := by kernel_rfl
  i173 := by kernel_rfl
  i175 := by kernel_rfl
  i210 := by kernel_rfl
  i212 := by kernel_rfl
  i232 := by kernel_rfl
  i233 := by kernel_rfl
  m15 := by kernel_rfl
  m16 := by kernel_rfl
  m17 := by kernel_rfl
  m18 := by kernel_rfl
  m19 := by kernel_rfl
  c0 := by kernel_rfl
  c2 := by kernel_rfl
  c3 := by kernel_rfl
  c4 := by kernel_rfl
  c5 := by kernel_rfl
  c9 := by kernel_rfl
  c20 := by kernel_rfl
  c21 := by kernel_rfl
  c37 := by kernel_rfl
  c46 := by kernel_rfl
  c51 := by kernel_rfl
  c53 := by kernel_rfl
  c75 := by kernel_rfl
  c80 := by kernel_rfl
  c85 := by kernel_rfl
  c127 := by kernel_rfl
  c143 := by kernel_rfl
  c145 := by kernel_rfl
  c167 := by kernel_rfl
  c168 := by kernel_rfl
  c171 := by kernel_rfl
  c173 := by kernel_rfl
  c175 := by kernel_rfl
  c210 := by kernel_rfl
  c212 := by kernel_rfl
  c213 := by kernel_rfl
  c232 := by kernel_rfl
  c233 := by kernel_rfl }
open Go.RowKit in
/-- strconv.ParseInt(s, 10, 64) at every string: the number and nil, or some number and an error that is not nil. -/
theorem Tryf.strconv_ParseInt_10_at64 (s : ByteArray) (hlim : s.size ≤ 281474976710656) (t1 t2 : TypeId) (p1 p2 : Value) (w : World)
    (hv1 : w.var? Tryf.prog "strconv.ErrSyntax" = some #[.iface t1 p1]) (hv2 : w.var? Tryf.prog "strconv.ErrRange" = some #[.iface t2 p2]) :
    Calls Tryf.prog 24 #[.string s, .int .i64 10, .int .i64 64] w fun e w' => Below w.heap.size w w' ∧
      ((∃ v, Lib.parseIntB 64 s.data.toList = .ok v ∧ e = .returned (.tuple #[.int .i64 v, .nilIface])) ∨
       ((∀ v, Lib.parseIntB 64 s.data.toList ≠ .ok v) ∧ ∃ v N, e = .returned (.tuple #[.int .i64 v, .iface 77 (.pointer (some ⟨N, 0, none⟩))]))) := by
  cases h : Lib.parseIntB 64 s.data.toList
  · rename_i v
    refine (Any.strconv_ParseInt_10_at64_ok Tryf.laysC174 s (by omega) v h w).mono ?_
    rintro e w' ⟨rfl, hw⟩
    refine ⟨?_, Or.inl ⟨v, rfl, rfl⟩⟩
    rcases hw with rfl | ⟨t, rfl⟩
    · exact Below.refl _ _
    · exact Lib.bytesWorld_below _ _ _
  · refine (Any.strconv_ParseInt_10_at64_syntax_var Tryf.laysC174 s hlim h t1 p1 w hv1).mono ?_
    rintro e w' ⟨N, rfl, _, _, hb⟩
    exact ⟨hb, Or.inr ⟨(fun v hv => by cases hv), 0, N, rfl⟩⟩
  · refine (Any.strconv_ParseInt_10_at64_range_var Tryf.laysC174 s hlim h t2 p2 w hv2).mono ?_
    rintro e w' ⟨N, rfl, _, _, hb⟩
    exact ⟨hb, Or.inr ⟨(fun v hv => by cases hv), _, N, rfl⟩⟩
def Tryf.lays160_ren : Go.Shelf.Ren := ⟨fun | 160 => 25 | 232 => 32 | 231 => 31 | 227 => 33 | 234 => 35 | 233 => 34 | 236 => 37 | 235 => 36 | 228 => 46 | 271 => 49 | 151 => 48 | 197 => 47 | 120 => 59 | 152 => 58 | 260 => 57 | 137 => 62 | 119 => 63 | 224 => 64 | 225 => 65 | 217 => 68 | 266 => 76 | n => n, fun | 9 => 9 | 4 => 4 | 3 => 3 | 5 => 5 | 117 => 66 | 116 => 65 | 0 => 0 | 124 => 69 | 21 => 21 | 105 => 81 | 46 => 70 | 119 => 97 | 139 => 100 | 138 => 99 | n => n, fun | 3 => 2 | 4 => 3 | n => n⟩
theorem Tryf.lays160 : Go.Proofs.Lays.n160 Tryf.prog Tryf.lays160_ren := {
  mixed := by kernel_rfl
  f119 := Tryf.func63.trans (congrArg some (by kernel_rfl))
  f120 := Tryf.func59.trans (congrArg some (by kernel_rfl))
  f137 := Tryf.func62.trans (congrArg some (by kernel_rfl))
  f151 := Tryf.func48.trans (congrArg some (by kernel_rfl))
  f152 := Tryf.func58.trans (congrArg some (by kernel_rfl))
  f160 := Tryf.func25.trans (congrArg some (by kernel_rfl))
  f197 := Tryf.func47.trans (congrArg some (by kernel_rfl))
  f217 := Tryf.func68.trans (congrArg some (by kernel_rfl))
  f224 := Tryf.func64.trans (congrArg some (by kernel_rfl))
  f225 := Tryf.func65.trans (congrArg some (by kernel_rfl))
  f227 := Tryf.func33.trans (congrArg some (by kernel_rfl))
  f228 := Tryf.func46.trans (congrArg some (by kernel_rfl))
  f231 := Tryf.func31.trans (congrArg some (by kernel_rfl))
  f232 := Tryf.func32.trans (congrArg some (by kernel_rfl))
  f233 := Tryf.func34.trans (congrArg some (by kernel_rfl))
  f234 := Tryf.func35.trans (congrArg some (by kernel_rfl))
  f235 := Tryf.func36.trans (congrArg some (by kernel_rfl))
  f236 := Tryf.func37.trans (congrArg some (by kernel_rfl))
  f260 := Tryf.func57.trans (congrArg some (by kernel_rfl))
  f266 := Tryf.func76.trans (congrArg some (by kernel_rfl))
  f271 := Tryf.func49.trans (congrArg some (by kernel_rfl))
  t0 := Tryf.underlying0
  a0 := Tryf.isAgg0
  z0 := Tryf.sizeOf0
  v0 := Tryf.zeroValue0
  t3 := Tryf.underlying3
  a3 := Tryf.isAgg3
  z3 := Tryf.sizeOf3
  v3 := Tryf.zeroValue3
  t4 := Tryf.underlying4
  a4 := Tryf.isAgg4
  z4 := Tryf.sizeOf4
  v4 := Tryf.zeroValue4
  t5 := Tryf.underlying5
  a5 := Tryf.isAgg5
  z5 := Tryf.sizeOf5
  v5 := Tryf.zeroValue5
  t9 := Tryf.underlying9
  a9 := Tryf.isAgg9
  z9 := Tryf.sizeOf9
  v9 := Tryf.zeroValue9
  t21 := Tryf.underlying21
  a21 := Tryf.isAgg21
  z21 := Tryf.sizeOf21
  v21 := Tryf.zeroValue21
  t46 := Tryf.underlying70
  a46 := Tryf.isAgg70
  z46 := Tryf.sizeOf70
  v46 := Tryf.zeroValue70
  t105 := Tryf.underlying81
  a105 := Tryf.isAgg81
  z105 := Tryf.sizeOf81
  v105 := Tryf.zeroValue81
  t116 := Tryf.underlying65
  a116 := Tryf.isAgg65
  z116 := Tryf.sizeOf65
  t117 := Tryf.underlying66
  a117 := Tryf.isAgg66
  z117 := Tryf.sizeOf66
  v117 := Tryf.zeroValue66
  t119 := Tryf.underlying97
  a119 := Tryf.isAgg97
  z119 := Tryf.sizeOf97
  t124 := Tryf.underlying69
  a124 := Tryf.isAgg69
  z124 := Tryf.sizeOf69
  v124 := Tryf.zeroValue69
  t138 := Tryf.underlying99
  a138 := Tryf.isAgg99
  z138 := Tryf.sizeOf99
  v138 := Tryf.zeroValue99
  t139 := Tryf.underlying100
  a139 := Tryf.isAgg100
  z139 := Tryf.sizeOf100
  v139 := Tryf.zeroValue100
  g3 := by kernel_rfl
  g4 := by kernel_rfl }
open Go.RowKit in
theorem Tryf.strings_Trim_digits (s : ByteArray) (w : World) (hs : s.size ≤ 9223372036854775807) :
    Calls Tryf.prog 25 #[.string s, .string ⟨#[48, 49, 50, 51, 52, 53, 54, 55, 56, 57]⟩] w fun e w' => e = .returned (.string ⟨(Lib.trimS s.data.toList [48, 49, 50, 51, 52, 53, 54, 55, 56, 57]).toArray⟩) ∧ Below w.heap.size w w' := Any.strings_Trim_laid Tryf.lays160 (by kernel_rfl) s ⟨#[48, 49, 50, 51, 52, 53, 54, 55, 56, 57]⟩ w hs (by decide) (ascii_of_all (by decide))
def Tryf.lays2_26_ren : Go.Shelf.Ren := ⟨fun | 26 => 26 | 33 => 38 | 34 => 39 | 38 => 50 | n => n, fun | 24 => 22 | 9 => 9 | 3 => 3 | 4 => 4 | 40 => 70 | 0 => 0 | n => n, fun | n => n⟩
theorem Tryf.lays2_26 : Go.Proofs.Lays2.n26 Tryf.prog Tryf.lays2_26_ren := {
  mixed := by kernel_rfl
  f26 := Tryf.func26.trans (congrArg some (by kernel_rfl))
  f33 := Tryf.func38.trans (congrArg some (by kernel_rfl))
  f34 := Tryf.func39.trans (congrArg some (by kernel_rfl))
  f38 := Tryf.func50.trans (congrArg some (by kernel_rfl))
  t0 := Tryf.underlying0
  a0 := Tryf.isAgg0
  z0 := Tryf.sizeOf0
  v0 := Tryf.zeroValue0
  t3 := Tryf.underlying3
  a3 := Tryf.isAgg3
  z3 := Tryf.sizeOf3
  v3 := Tryf.zeroValue3
  t4 := Tryf.underlying4
  a4 := Tryf.isAgg4
  z4 := Tryf.sizeOf4
  v4 := Tryf.zeroValue4
  t9 := Tryf.underlying9
  a9 := Tryf.isAgg9
  z9 := Tryf.sizeOf9
  v9 := Tryf.zeroValue9
  t24 := Tryf.underlying22
  a24 := Tryf.isAgg22
  z24 := Tryf.sizeOf22
  v24 := Tryf.zeroValue22
  t40 := Tryf.underlying70
  a40 := Tryf.isAgg70
  z40 := Tryf.sizeOf70
  v40 := Tryf.zeroValue70 }
open Go.RowKit in
theorem Tryf.slices_BinarySearch_string (b off n c : Nat) (Sx : Nat → ByteArray) (x : ByteArray) (w : World) (hbig : n < 4611686018427387904) (hc : ∀ j, j < n → w.cell? ⟨b, off + j, none⟩ = some (.string (Sx j))) :
    Calls Tryf.prog 26 #[.slice (some ⟨b, off, none⟩) n c, .string x] w fun e w' =>
      e = .returned (.tuple #[.int .i64 (Lib.bsGo (fun t => Op.bytesLess (Sx t).toList x.toList) n 0 n : Nat), .bool (decide (Lib.bsGo (fun t => Op.bytesLess (Sx t).toList x.toList) n 0 n < n ∧ Sx (Lib.bsGo (fun t => Op.bytesLess (Sx t).toList x.toList) n 0 n) = x))]) ∧ ∃ q, w' = w.drewN q := Any2.slices_BinarySearch_string Tryf.lays2_26 b off n c Sx x w hbig hc
open Go.RowKit in
theorem Tryf.slices_BinarySearch_string_empty (a : Option Addr) (c : Nat) (x : ByteArray) (w : World) :
    Calls Tryf.prog 26 #[.slice a 0 c, .string x] w fun e w' => e = .returned (.tuple #[.int .i64 0, .bool false]) ∧ w' = w := Any2.slices_BinarySearch_string_empty Tryf.lays2_26 a c x w
end Go.Proofs
