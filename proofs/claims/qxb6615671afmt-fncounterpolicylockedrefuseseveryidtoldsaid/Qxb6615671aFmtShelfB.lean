/-
  The shelf's contract at this dump, in plain words (by the kit's lay-shelf and lay-plain tools, for this program): strconv.Quote.
-/
import Derived.Shelf.Strconv.Quote
import Derived.Test.Qxb6615671aFmtProg
namespace Go.Proofs
open Go.Shelf
def Tryf.lays177_ren : Go.Shelf.Ren := ⟨fun | 177 => 40 | 250 => 51 | 289 => 60 | 197 => 47 | 323 => 66 | 260 => 57 | 339 => 69 | 340 => 70 | 242 => 71 | 119 => 63 | 345 => 77 | 346 => 78 | 278 => 79 | n => n, fun | 9 => 9 | 5 => 5 | 4 => 4 | 3 => 3 | 37 => 86 | 21 => 21 | 105 => 81 | 46 => 70 | 119 => 97 | 0 => 0 | 139 => 100 | 138 => 99 | 49 => 113 | 234 => 114 | 131 => 58 | 51 => 116 | 236 => 117 | n => n, fun | 3 => 2 | 4 => 3 | 20 => 5 | 21 => 6 | 22 => 7 | 23 => 8 | 24 => 9 | n => n⟩
theorem Tryf.lays177 : Go.Proofs.Lays.n177 Tryf.prog Tryf.lays177_ren := {
  mixed := by kernel_rfl
  f119 := Tryf.func63.trans (congrArg some (by kernel_rfl))
  f177 := Tryf.func40.trans (congrArg some (by kernel_rfl))
  f197 := Tryf.func47.trans (congrArg some (by kernel_rfl))
  f242 := Tryf.func71.trans (congrArg some (by kernel_rfl))
  f250 := Tryf.func51.trans (congrArg some (by kernel_rfl))
  f260 := Tryf.func57.trans (congrArg some (by kernel_rfl))
  f278 := Tryf.func79.trans (congrArg some (by kernel_rfl))
  f289 := Tryf.func60.trans (congrArg some (by kernel_rfl))
  f323 := Tryf.func66.trans (congrArg some (by kernel_rfl))
  f339 := Tryf.func69.trans (congrArg some (by kernel_rfl))
  f340 := Tryf.func70.trans (congrArg some (by kernel_rfl))
  f345 := Tryf.func77.trans (congrArg some (by kernel_rfl))
  f346 := Tryf.func78.trans (congrArg some (by kernel_rfl))
  t0 := Tryf.underlying0
  a0 := Tryf.isAgg0
  z0 := Tryf.sizeOf0
  v0 := Tryf.zeroValue0
  t3 := Tryf.underlying3
  a3 := Tryf.isAgg3
  z3 := Tryf.sizeOf3
  v3 := Tryf.zeroValue3
  t4 := Tryf.underlying4
  a4 := Tryf.isAgg4
  z4 := Tryf.sizeOf4
  v4 := Tryf.zeroValue4
  t5 := Tryf.underlying5
  a5 := Tryf.isAgg5
  z5 := Tryf.sizeOf5
  v5 := Tryf.zeroValue5
  t9 := Tryf.underlying9
  a9 := Tryf.isAgg9
  z9 := Tryf.sizeOf9
  v9 := Tryf.zeroValue9
  t21 := Tryf.underlying21
  a21 := Tryf.isAgg21
  z21 := Tryf.sizeOf21
  v21 := Tryf.zeroValue21
  t37 := Tryf.underlying86
  a37 := Tryf.isAgg86
  z37 := Tryf.sizeOf86
  v37 := Tryf.zeroValue86
  t46 := Tryf.underlying70
  a46 := Tryf.isAgg70
  z46 := Tryf.sizeOf70
  v46 := Tryf.zeroValue70
  t49 := Tryf.underlying113
  a49 := Tryf.isAgg113
  z49 := Tryf.sizeOf113
  v49 := Tryf.zeroValue113
  t51 := Tryf.underlying116
  a51 := Tryf.isAgg116
  z51 := Tryf.sizeOf116
  v51 := Tryf.zeroValue116
  t105 := Tryf.underlying81
  a105 := Tryf.isAgg81
  z105 := Tryf.sizeOf81
  v105 := Tryf.zeroValue81
  t119 := Tryf.underlying97
  a119 := Tryf.isAgg97
  z119 := Tryf.sizeOf97
  t131 := Tryf.underlying58
  a131 := Tryf.isAgg58
  z131 := Tryf.sizeOf58
  v131 := Tryf.zeroValue58
  t138 := Tryf.underlying99
  a138 := Tryf.isAgg99
  z138 := Tryf.sizeOf99
  v138 := Tryf.zeroValue99
  t139 := Tryf.underlying100
  a139 := Tryf.isAgg100
  z139 := Tryf.sizeOf100
  v139 := Tryf.zeroValue100
  t234 := Tryf.underlying114
  a234 := Tryf.isAgg114
  z234 := Tryf.sizeOf114
  v234 := Tryf.zeroValue114
  t236 := Tryf.underlying117
  a236 := Tryf.isAgg117
  z236 := Tryf.sizeOf117
  v236 := Tryf.zeroValue117
  g3 := by kernel_rfl
  g4 := by kernel_rfl
  g20 := by kernel_rfl
  g21 := by kernel_rfl
  g22 := by kernel_rfl
  g23 := by kernel_rfl
  g24 := by kernel_rfl }
open Go.RowKit in
theorem Tryf.strconv_Quote (T : Lib.PrintTabs) (s : ByteArray) (w : World) (hlen : 10 * s.size + 12 ≤ 140737488355328) (hT : Lib.PrintTabsAt 5 6 7 8 T w) (hU : Lib.Utf8Tabs 2 3 w) :
    Calls Tryf.prog 40 #[.string s] w fun e w' => e = .returned (.string (strOfNums (Lib.quoteZ T s))) ∧ Below w.heap.size w w' := Any.strconv_Quote Tryf.lays177 (by kernel_rfl) T s w hlen hT hU
end Go.Proofs
