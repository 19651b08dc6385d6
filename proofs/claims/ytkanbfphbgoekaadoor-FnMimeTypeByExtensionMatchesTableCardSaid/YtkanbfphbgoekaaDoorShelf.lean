/-
  The contract of strings.ToLower at this program, in plain words (by lay-shelf.mjs and lay-plain.mjs).
-/
import Derived.Shelf.Strings.CaseAny
import Derived.Lib.LaidCase
import Derived.PinnedBridge
import Derived.Test.YtkanbfphbgoekaaDoorProg
namespace Go.Proofs
open Go.Shelf
def Tryd.lays159_ren : Go.Shelf.Ren := ⟨fun | 159 => 11 | 165 => 12 | 166 => 13 | 167 => 14 | 169 => 15 | 230 => 16 | 204 => 17 | 240 => 18 | 241 => 19 | 197 => 20 | 118 => 21 | 168 => 22 | 270 => 23 | 262 => 24 | 276 => 25 | 277 => 26 | 260 => 27 | 242 => 28 | 313 => 29 | 278 => 30 | 274 => 31 | 275 => 32 | n => n, fun | 9 => 9 | 4 => 4 | 3 => 3 | 5 => 5 | 72 => 31 | 0 => 0 | 76 => 35 | 75 => 34 | 107 => 40 | 70 => 29 | 20 => 20 | 37 => 28 | 127 => 41 | 21 => 21 | 105 => 42 | 164 => 48 | 162 => 54 | 203 => 52 | 119 => 55 | 46 => 56 | 139 => 59 | 138 => 58 | 51 => 60 | 160 => 61 | 208 => 67 | 206 => 65 | 80 => 38 | n => n, fun | 13 => 1 | 3 => 3 | 4 => 4 | n => n⟩
theorem Tryd.lays159 : Go.Proofs.Lays.n159 Tryd.prog Tryd.lays159_ren := {
  mixed := by kernel_rfl
  f118 := Tryd.func21.trans (congrArg some (by kernel_rfl))
  f159 := Tryd.func11.trans (congrArg some (by kernel_rfl))
  f165 := Tryd.func12.trans (congrArg some (by kernel_rfl))
  f166 := Tryd.func13.trans (congrArg some (by kernel_rfl))
  f167 := Tryd.func14.trans (congrArg some (by kernel_rfl))
  f168 := Tryd.func22.trans (congrArg some (by kernel_rfl))
  f169 := Tryd.func15.trans (congrArg some (by kernel_rfl))
  f197 := Tryd.func20.trans (congrArg some (by kernel_rfl))
  f204 := Tryd.func17.trans (congrArg some (by kernel_rfl))
  f230 := Tryd.func16.trans (congrArg some (by kernel_rfl))
  f240 := Tryd.func18.trans (congrArg some (by kernel_rfl))
  f241 := Tryd.func19.trans (congrArg some (by kernel_rfl))
  f242 := Tryd.func28.trans (congrArg some (by kernel_rfl))
  f260 := Tryd.func27.trans (congrArg some (by kernel_rfl))
  f262 := Tryd.func24.trans (congrArg some (by kernel_rfl))
  f270 := Tryd.func23.trans (congrArg some (by kernel_rfl))
  f274 := Tryd.func31.trans (congrArg some (by kernel_rfl))
  f275 := Tryd.func32.trans (congrArg some (by kernel_rfl))
  f276 := Tryd.func25.trans (congrArg some (by kernel_rfl))
  f277 := Tryd.func26.trans (congrArg some (by kernel_rfl))
  f278 := Tryd.func30.trans (congrArg some (by kernel_rfl))
  f313 := Tryd.func29.trans (congrArg some (by kernel_rfl))
  t0 := Tryd.underlying0
  a0 := Tryd.isAgg0
  z0 := Tryd.sizeOf0
  v0 := Tryd.zeroValue0
  t3 := Tryd.underlying3
  a3 := Tryd.isAgg3
  z3 := Tryd.sizeOf3
  v3 := Tryd.zeroValue3
  t4 := Tryd.underlying4
  a4 := Tryd.isAgg4
  z4 := Tryd.sizeOf4
  v4 := Tryd.zeroValue4
  t5 := Tryd.underlying5
  a5 := Tryd.isAgg5
  z5 := Tryd.sizeOf5
  v5 := Tryd.zeroValue5
  t9 := Tryd.underlying9
  a9 := Tryd.isAgg9
  z9 := Tryd.sizeOf9
  v9 := Tryd.zeroValue9
  t20 := Tryd.underlying20
  a20 := Tryd.isAgg20
  z20 := Tryd.sizeOf20
  v20 := Tryd.zeroValue20
  t21 := Tryd.underlying21
  a21 := Tryd.isAgg21
  z21 := Tryd.sizeOf21
  v21 := Tryd.zeroValue21
  t37 := Tryd.underlying28
  a37 := Tryd.isAgg28
  z37 := Tryd.sizeOf28
  v37 := Tryd.zeroValue28
  t46 := Tryd.underlying56
  a46 := Tryd.isAgg56
  z46 := Tryd.sizeOf56
  v46 := Tryd.zeroValue56
  t51 := Tryd.underlying60
  a51 := Tryd.isAgg60
  z51 := Tryd.sizeOf60
  v51 := Tryd.zeroValue60
  t70 := Tryd.underlying29
  a70 := Tryd.isAgg29
  z70 := Tryd.sizeOf29
  v70 := Tryd.zeroValue29
  t72 := Tryd.underlying31
  a72 := Tryd.isAgg31
  z72 := Tryd.sizeOf31
  v72 := Tryd.zeroValue31
  t75 := Tryd.underlying34
  a75 := Tryd.isAgg34
  z75 := Tryd.sizeOf34
  v75 := Tryd.zeroValue34
  t76 := Tryd.underlying35
  a76 := Tryd.isAgg35
  z76 := Tryd.sizeOf35
  v76 := Tryd.zeroValue35
  t105 := Tryd.underlying42
  a105 := Tryd.isAgg42
  z105 := Tryd.sizeOf42
  v105 := Tryd.zeroValue42
  t107 := Tryd.underlying40
  a107 := Tryd.isAgg40
  z107 := Tryd.sizeOf40
  v107 := Tryd.zeroValue40
  t119 := Tryd.underlying55
  a119 := Tryd.isAgg55
  z119 := Tryd.sizeOf55
  t127 := Tryd.underlying41
  a127 := Tryd.isAgg41
  z127 := Tryd.sizeOf41
  v127 := Tryd.zeroValue41
  t138 := Tryd.underlying58
  a138 := Tryd.isAgg58
  z138 := Tryd.sizeOf58
  v138 := Tryd.zeroValue58
  t139 := Tryd.underlying59
  a139 := Tryd.isAgg59
  z139 := Tryd.sizeOf59
  v139 := Tryd.zeroValue59
  t160 := Tryd.underlying61
  a160 := Tryd.isAgg61
  z160 := Tryd.sizeOf61
  v160 := Tryd.zeroValue61
  t162 := Tryd.underlying54
  a162 := Tryd.isAgg54
  z162 := Tryd.sizeOf54
  v162 := Tryd.zeroValue54
  t164 := Tryd.underlying48
  a164 := Tryd.isAgg48
  z164 := Tryd.sizeOf48
  v164 := Tryd.zeroValue48
  t203 := Tryd.underlying52
  a203 := Tryd.isAgg52
  z203 := Tryd.sizeOf52
  v203 := Tryd.zeroValue52
  t206 := Tryd.underlying65
  a206 := Tryd.isAgg65
  z206 := Tryd.sizeOf65
  v206 := Tryd.zeroValue65
  t208 := Tryd.underlying67
  a208 := Tryd.isAgg67
  z208 := Tryd.sizeOf67
  v208 := Tryd.zeroValue67
  g3 := by kernel_rfl
  g4 := by kernel_rfl
  g13 := by kernel_rfl }
theorem Tryd.Builder_Extra_159 : Builder.Extra Tryd.prog Tryd.lays159_ren := {
  sizeBuilder := by kernel_rfl
  liesBuilder := by kernel_rfl
  t5 := Tryd.underlying5
  a5 := Tryd.isAgg5
  z5 := Tryd.sizeOf5
  v5 := Tryd.zeroValue5
  infoByte := by kernel_rfl
  cellsByte := by kernel_rfl
  sizeByte := by kernel_rfl
  neB5 := by decide }
open Go.RowKit Go.Lib in
/-- **strings.ToLower AT EVERY STRING, VALID UTF-8 OR NOT.** (LAID: no walk: one application.) -/
theorem Tryd.strings_ToLower_any (s : ByteArray) (w : World) (hs : s.size < 35184372088832) (hV : CaseVar 1 caseA w) (hT : Lib.Utf8Tabs 3 4 w) :
    Calls Tryd.prog 11 #[.string s] w fun e w' => e = .returned (.string ⟨(Lib.toLowerD s.data.toList).toArray⟩) ∧ Below w.heap.size w w' := Any.strings_ToLower_any Tryd.lays159 Tryd.Builder_Extra_159 s w hs hV hT
end Go.Proofs
