/-
  DERIVED: THE SHELF's CONTRACTS AT THIS DUMP, IN PLAIN WORDS (tools/lay-plain.mjs out of 'YbaShelf.lean', which tools/lay-shelf.mjs wrote): THE SAME DECLARATIONS UNDER THE SAME NAMES: 'import', 'namespace', 'open', 'def', 'theorem' AND NOTHING ELSE: no command of the shelf's: FOR A HAND-IN. Each laying: the table of numbers ('.._ren') and one theorem, a field a fact of the dump's own or the kernel's comparison; each contract: ONE APPLICATION.
-/
import Derived.Shelf.Strings.Repeat
import Derived.Test.YbulkdkjiProg
namespace Go.Proofs
open Go.Shelf
def Yba.lays105_ren : Go.Shelf.Ren := ⟨fun | 105 => 4 | 212 => 13 | 99 => 14 | 165 => 15 | 166 => 16 | 170 => 17 | 169 => 18 | 263 => 40 | 264 => 41 | 206 => 42 | 240 => 43 | 241 => 44 | 276 => 56 | 277 => 57 | n => n, fun | 9 => 9 | 3 => 3 | 4 => 4 | 20 => 20 | 0 => 0 | 46 => 68 | 109 => 69 | 5 => 5 | 72 => 74 | 76 => 64 | 51 => 31 | 146 => 107 | 53 => 28 | 148 => 109 | 70 => 72 | 37 => 22 | 75 => 57 | 127 => 111 | 164 => 100 | 80 => 78 | n => n, fun | n => n⟩
theorem Yba.lays105 : Go.Proofs.Lays.n105 Yba.prog Yba.lays105_ren := {
  mixed := by kernel_rfl
  f99 := Yba.func14.trans (congrArg some (by kernel_rfl))
  f105 := Yba.func4.trans (congrArg some (by kernel_rfl))
  f165 := Yba.func15.trans (congrArg some (by kernel_rfl))
  f166 := Yba.func16.trans (congrArg some (by kernel_rfl))
  f169 := Yba.func18.trans (congrArg some (by kernel_rfl))
  f170 := Yba.func17.trans (congrArg some (by kernel_rfl))
  f206 := Yba.func42.trans (congrArg some (by kernel_rfl))
  f212 := Yba.func13.trans (congrArg some (by kernel_rfl))
  f240 := Yba.func43.trans (congrArg some (by kernel_rfl))
  f241 := Yba.func44.trans (congrArg some (by kernel_rfl))
  f263 := Yba.func40.trans (congrArg some (by kernel_rfl))
  f264 := Yba.func41.trans (congrArg some (by kernel_rfl))
  f276 := Yba.func56.trans (congrArg some (by kernel_rfl))
  f277 := Yba.func57.trans (congrArg some (by kernel_rfl))
  t0 := Yba.underlying0
  a0 := Yba.isAgg0
  z0 := Yba.sizeOf0
  v0 := Yba.zeroValue0
  t3 := Yba.underlying3
  a3 := Yba.isAgg3
  z3 := Yba.sizeOf3
  v3 := Yba.zeroValue3
  t4 := Yba.underlying4
  a4 := Yba.isAgg4
  z4 := Yba.sizeOf4
  v4 := Yba.zeroValue4
  t5 := Yba.underlying5
  a5 := Yba.isAgg5
  z5 := Yba.sizeOf5
  v5 := Yba.zeroValue5
  t9 := Yba.underlying9
  a9 := Yba.isAgg9
  z9 := Yba.sizeOf9
  v9 := Yba.zeroValue9
  t20 := Yba.underlying20
  a20 := Yba.isAgg20
  z20 := Yba.sizeOf20
  v20 := Yba.zeroValue20
  t37 := Yba.underlying22
  a37 := Yba.isAgg22
  z37 := Yba.sizeOf22
  v37 := Yba.zeroValue22
  t46 := Yba.underlying68
  a46 := Yba.isAgg68
  z46 := Yba.sizeOf68
  v46 := Yba.zeroValue68
  t51 := Yba.underlying31
  a51 := Yba.isAgg31
  z51 := Yba.sizeOf31
  v51 := Yba.zeroValue31
  t53 := Yba.underlying28
  a53 := Yba.isAgg28
  z53 := Yba.sizeOf28
  v53 := Yba.zeroValue28
  t70 := Yba.underlying72
  a70 := Yba.isAgg72
  z70 := Yba.sizeOf72
  v70 := Yba.zeroValue72
  t72 := Yba.underlying74
  a72 := Yba.isAgg74
  z72 := Yba.sizeOf74
  v72 := Yba.zeroValue74
  t75 := Yba.underlying57
  a75 := Yba.isAgg57
  z75 := Yba.sizeOf57
  v75 := Yba.zeroValue57
  t76 := Yba.underlying64
  a76 := Yba.isAgg64
  z76 := Yba.sizeOf64
  v76 := Yba.zeroValue64
  t109 := Yba.underlying69
  a109 := Yba.isAgg69
  z109 := Yba.sizeOf69
  v109 := Yba.zeroValue69
  t127 := Yba.underlying111
  a127 := Yba.isAgg111
  z127 := Yba.sizeOf111
  v127 := Yba.zeroValue111
  t146 := Yba.underlying107
  a146 := Yba.isAgg107
  z146 := Yba.sizeOf107
  v146 := Yba.zeroValue107
  t148 := Yba.underlying109
  a148 := Yba.isAgg109
  z148 := Yba.sizeOf109
  v148 := Yba.zeroValue109
  t164 := Yba.underlying100
  a164 := Yba.isAgg100
  z164 := Yba.sizeOf100
  v164 := Yba.zeroValue100 }
theorem Yba.Builder_Extra_105 : Builder.Extra Yba.prog Yba.lays105_ren := {
  sizeBuilder := by kernel_rfl
  liesBuilder := by kernel_rfl
  t5 := Yba.underlying5
  a5 := Yba.isAgg5
  z5 := Yba.sizeOf5
  v5 := Yba.zeroValue5
  infoByte := by kernel_rfl
  cellsByte := by kernel_rfl
  sizeByte := by kernel_rfl
  neB5 := by decide }
open Go.RowKit Go.Lib in
/-- **strings.Repeat: count ≥ 0, the result within one allocation: count copies of s.** (LAID: no walk: one application.) -/
theorem Yba.strings_Repeat (s : ByteArray) (c : Nat) (w : World) (hc : c ≤ 9223372036854775807) (hlen : s.size * c ≤ 140737488355328) :
    Calls Yba.prog 4 #[.string s, .int .i64 c] w fun e w' => e = .returned (.string ⟨(Lib.repeatL s.data.toList c).toArray⟩) ∧ Below w.heap.size w w' := Any.strings_Repeat Yba.lays105 Yba.Builder_Extra_105 s c w hc hlen
end Go.Proofs
