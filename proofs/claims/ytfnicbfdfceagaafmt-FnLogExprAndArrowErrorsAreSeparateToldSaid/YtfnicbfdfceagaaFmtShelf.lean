/-
  The contracts of utf8.DecodeRuneInString and DecodeLastRuneInString at this program, in plain words (by lay-shelf.mjs and lay-plain.mjs); the mutex.
-/
import Derived.Conc.MuLone
import Derived.KernelRfl
import Derived.Shelf.Small.Utf8
import Derived.Shelf.Unicode.DecodeSlow
import Derived.Shelf.Unicode.DecodeAny
import Derived.Shelf.Unicode.DecodeLast
import Derived.Test.YtfnicbfdfceagaaFmtProg
namespace Go.Proofs
abbrev Tryf.muLink : Go.Conc.Locks.MuLink := { lock := 21, unlock := 22, ilock := 30, iunlock := 31, lockSlow := 44, unlockSlow := 47, disable := 40, enable := 42, acquire := 43, relMerge := 45, cas32 := 41, add32 := 46, tMutex := 188, tIMutex := 186, tPMutex := 194, tPIMutex := 205, tPI32 := 207, tUP := 209, tNoCopy := 184, tU32 := 51 }
theorem Tryf.muLib : Go.Conc.Locks.MuLib Tryf.prog Tryf.muLink :=
  ⟨Tryf.func21, Tryf.func22, Tryf.func30, Tryf.func31, Tryf.func40, Tryf.func42, Tryf.func43, Tryf.func45, Tryf.func41, Tryf.func46, Tryf.underlying186, Tryf.runUnderlying186, Tryf.sizeOf186, Tryf.isAgg186, Tryf.zeroValue186, Tryf.underlying188, Tryf.runUnderlying188, Tryf.sizeOf188, Tryf.isAgg188, Tryf.zeroValue188, Tryf.underlying194, Tryf.runUnderlying194, Tryf.sizeOf194, Tryf.isAgg194, Tryf.zeroValue194, Tryf.underlying205, Tryf.runUnderlying205, Tryf.sizeOf205, Tryf.isAgg205, Tryf.zeroValue205, Tryf.underlying207, Tryf.runUnderlying207, Tryf.sizeOf207, Tryf.isAgg207, Tryf.zeroValue207, Tryf.underlying209, Tryf.runUnderlying209, Tryf.sizeOf209, Tryf.isAgg209, Tryf.zeroValue209, Tryf.underlying184, Tryf.runUnderlying184, Tryf.sizeOf184, Tryf.isAgg184, Tryf.zeroValue184, Tryf.underlying21, Tryf.runUnderlying21, Tryf.sizeOf21, Tryf.isAgg21, Tryf.zeroValue21, (by kernel_rfl)⟩
open Go.Shelf
def Tryf.lays120_ren : Go.Shelf.Ren := ⟨fun | 120 => 65 | n => n, fun | 5 => 5 | 4 => 4 | n => n, fun | n => n⟩
theorem Tryf.lays120 : Go.Proofs.Lays.n120 Tryf.prog Tryf.lays120_ren := {
  mixed := by kernel_rfl
  f120 := Tryf.func65.trans (congrArg some (by kernel_rfl))
  t4 := Tryf.underlying4
  a4 := Tryf.isAgg4
  z4 := Tryf.sizeOf4
  v4 := Tryf.zeroValue4
  t5 := Tryf.underlying5
  a5 := Tryf.isAgg5
  z5 := Tryf.sizeOf5
  v5 := Tryf.zeroValue5 }
/-- utf8.RuneStart: "RuneStart reports whether the byte could be the first byte of an encoded, possibly invalid rune. Second and subsequent bytes always have the top two bits set to 10.": IT RETURNS 'Lib.runeStart b'; the world is as it was. ('h0', 'h1': b is a byte: a caller has it of every byte that it was handed.) (LAID: no walk: one application.) -/
theorem Tryf.utf8_RuneStart (b : Int) (w : World) (h0 : 0 ≤ b) (h1 : b < 256) :
    Calls Tryf.prog 65 #[.int .u8 b] w fun e w' => e = .returned (.bool (Lib.runeStart b)) ∧ w' = w := Any.utf8_RuneStart Tryf.lays120 b w h0 h1
def Tryf.lays260_ren : Go.Shelf.Ren := ⟨fun | 260 => 66 | n => n, fun | 9 => 9 | 21 => 21 | 3 => 3 | 4 => 4 | 5 => 5 | 119 => 231 | 0 => 0 | 46 => 215 | 139 => 234 | 138 => 233 | n => n, fun | 3 => 0 | 4 => 1 | n => n⟩
theorem Tryf.lays260 : Go.Proofs.Lays.n260 Tryf.prog Tryf.lays260_ren := {
  mixed := by kernel_rfl
  f260 := Tryf.func66.trans (congrArg some (by kernel_rfl))
  t0 := Tryf.underlying0
  a0 := Tryf.isAgg0
  z0 := Tryf.sizeOf0
  v0 := Tryf.zeroValue0
  t3 := Tryf.underlying3
  a3 := Tryf.isAgg3
  z3 := Tryf.sizeOf3
  v3 := Tryf.zeroValue3
  t4 := Tryf.underlying4
  a4 := Tryf.isAgg4
  z4 := Tryf.sizeOf4
  v4 := Tryf.zeroValue4
  t5 := Tryf.underlying5
  a5 := Tryf.isAgg5
  z5 := Tryf.sizeOf5
  v5 := Tryf.zeroValue5
  t9 := Tryf.underlying9
  a9 := Tryf.isAgg9
  z9 := Tryf.sizeOf9
  v9 := Tryf.zeroValue9
  t21 := Tryf.underlying21
  a21 := Tryf.isAgg21
  z21 := Tryf.sizeOf21
  v21 := Tryf.zeroValue21
  t46 := Tryf.underlying215
  a46 := Tryf.isAgg215
  z46 := Tryf.sizeOf215
  v46 := Tryf.zeroValue215
  t119 := Tryf.underlying231
  a119 := Tryf.isAgg231
  z119 := Tryf.sizeOf231
  t138 := Tryf.underlying233
  a138 := Tryf.isAgg233
  z138 := Tryf.sizeOf233
  v138 := Tryf.zeroValue233
  t139 := Tryf.underlying234
  a139 := Tryf.isAgg234
  z139 := Tryf.sizeOf234
  v139 := Tryf.zeroValue234
  g3 := by kernel_rfl
  g4 := by kernel_rfl }
open Go.RowKit Go.Lib in
theorem Tryf.utf8_decodeRuneInStringSlow (s : ByteArray) (w : World) (hT : Lib.Utf8Tabs 0 1 w) :
    Calls Tryf.prog 66 #[.string s] w fun e w' => e = .returned (.tuple #[.int .i32 (Lib.decodeGo s).1, .int .i64 (Lib.decodeGo s).2]) ∧ Below w.heap.size w w' := Any.utf8_decodeRuneInStringSlow Tryf.lays260 s w hT
def Tryf.lays197_ren : Go.Shelf.Ren := ⟨fun | 197 => 64 | 260 => 66 | n => n, fun | 9 => 9 | 21 => 21 | 3 => 3 | 4 => 4 | 5 => 5 | 105 => 228 | 119 => 231 | 0 => 0 | 46 => 215 | 139 => 234 | 138 => 233 | n => n, fun | 3 => 0 | 4 => 1 | n => n⟩
theorem Tryf.lays197 : Go.Proofs.Lays.n197 Tryf.prog Tryf.lays197_ren := {
  mixed := by kernel_rfl
  f197 := Tryf.func64.trans (congrArg some (by kernel_rfl))
  f260 := Tryf.func66.trans (congrArg some (by kernel_rfl))
  t0 := Tryf.underlying0
  a0 := Tryf.isAgg0
  z0 := Tryf.sizeOf0
  v0 := Tryf.zeroValue0
  t3 := Tryf.underlying3
  a3 := Tryf.isAgg3
  z3 := Tryf.sizeOf3
  v3 := Tryf.zeroValue3
  t4 := Tryf.underlying4
  a4 := Tryf.isAgg4
  z4 := Tryf.sizeOf4
  v4 := Tryf.zeroValue4
  t5 := Tryf.underlying5
  a5 := Tryf.isAgg5
  z5 := Tryf.sizeOf5
  v5 := Tryf.zeroValue5
  t9 := Tryf.underlying9
  a9 := Tryf.isAgg9
  z9 := Tryf.sizeOf9
  v9 := Tryf.zeroValue9
  t21 := Tryf.underlying21
  a21 := Tryf.isAgg21
  z21 := Tryf.sizeOf21
  v21 := Tryf.zeroValue21
  t46 := Tryf.underlying215
  a46 := Tryf.isAgg215
  z46 := Tryf.sizeOf215
  v46 := Tryf.zeroValue215
  t105 := Tryf.underlying228
  a105 := Tryf.isAgg228
  z105 := Tryf.sizeOf228
  v105 := Tryf.zeroValue228
  t119 := Tryf.underlying231
  a119 := Tryf.isAgg231
  z119 := Tryf.sizeOf231
  t138 := Tryf.underlying233
  a138 := Tryf.isAgg233
  z138 := Tryf.sizeOf233
  v138 := Tryf.zeroValue233
  t139 := Tryf.underlying234
  a139 := Tryf.isAgg234
  z139 := Tryf.sizeOf234
  v139 := Tryf.zeroValue234
  g3 := by kernel_rfl
  g4 := by kernel_rfl }
open Go.RowKit Go.Lib in
/-- **unicode/utf8.DecodeRuneInString AT EVERY STRING.** (LAID: no walk: one application.) -/
theorem Tryf.utf8_DecodeRuneInString (s : ByteArray) (w : World) (hT : Lib.Utf8Tabs 0 1 w) :
    Calls Tryf.prog 64 #[.string s] w fun e w' => e = .returned (.tuple #[.int .i32 (Lib.decodeGo s).1, .int .i64 (Lib.decodeGo s).2]) ∧ Below w.heap.size w w' := Any.utf8_DecodeRuneInString Tryf.lays197 s w hT
def Tryf.lays271_ren : Go.Shelf.Ren := ⟨fun | 271 => 63 | 120 => 65 | 197 => 64 | 260 => 66 | n => n, fun | 9 => 9 | 21 => 21 | 3 => 3 | 4 => 4 | 5 => 5 | 105 => 228 | 119 => 231 | 0 => 0 | 46 => 215 | 139 => 234 | 138 => 233 | n => n, fun | 3 => 0 | 4 => 1 | n => n⟩
theorem Tryf.lays271 : Go.Proofs.Lays.n271 Tryf.prog Tryf.lays271_ren := {
  mixed := by kernel_rfl
  f120 := Tryf.func65.trans (congrArg some (by kernel_rfl))
  f197 := Tryf.func64.trans (congrArg some (by kernel_rfl))
  f260 := Tryf.func66.trans (congrArg some (by kernel_rfl))
  f271 := Tryf.func63.trans (congrArg some (by kernel_rfl))
  t0 := Tryf.underlying0
  a0 := Tryf.isAgg0
  z0 := Tryf.sizeOf0
  v0 := Tryf.zeroValue0
  t3 := Tryf.underlying3
  a3 := Tryf.isAgg3
  z3 := Tryf.sizeOf3
  v3 := Tryf.zeroValue3
  t4 := Tryf.underlying4
  a4 := Tryf.isAgg4
  z4 := Tryf.sizeOf4
  v4 := Tryf.zeroValue4
  t5 := Tryf.underlying5
  a5 := Tryf.isAgg5
  z5 := Tryf.sizeOf5
  v5 := Tryf.zeroValue5
  t9 := Tryf.underlying9
  a9 := Tryf.isAgg9
  z9 := Tryf.sizeOf9
  v9 := Tryf.zeroValue9
  t21 := Tryf.underlying21
  a21 := Tryf.isAgg21
  z21 := Tryf.sizeOf21
  v21 := Tryf.zeroValue21
  t46 := Tryf.underlying215
  a46 := Tryf.isAgg215
  z46 := Tryf.sizeOf215
  v46 := Tryf.zeroValue215
  t105 := Tryf.underlying228
  a105 := Tryf.isAgg228
  z105 := Tryf.sizeOf228
  v105 := Tryf.zeroValue228
  t119 := Tryf.underlying231
  a119 := Tryf.isAgg231
  z119 := Tryf.sizeOf231
  t138 := Tryf.underlying233
  a138 := Tryf.isAgg233
  z138 := Tryf.sizeOf233
  v138 := Tryf.zeroValue233
  t139 := Tryf.underlying234
  a139 := Tryf.isAgg234
  z139 := Tryf.sizeOf234
  v139 := Tryf.zeroValue234
  g3 := by kernel_rfl
  g4 := by kernel_rfl }
open Go.RowKit Go.Lib in
/-- **unicode/utf8.DecodeLastRuneInString AT EVERY STRING.** (LAID: no walk: one application.) -/
theorem Tryf.utf8_DecodeLastRuneInString (s : ByteArray) (w : World) (hs : s.size ≤ 9223372036854775807) (hT : Lib.Utf8Tabs 0 1 w) :
    Calls Tryf.prog 63 #[.string s] w fun e w' => e = .returned (.tuple #[.int .i32 (Lib.decodeLastL s.data.toList).1, .int .i64 (Lib.decodeLastL s.data.toList).2]) ∧ Below w.heap.size w w' := Any.utf8_DecodeLastRuneInString Tryf.lays271 s w hs hT
end Go.Proofs
