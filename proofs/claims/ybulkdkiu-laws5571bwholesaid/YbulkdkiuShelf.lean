/-
  DERIVED: THE SHELF's CONTRACTS AT THIS DUMP, IN PLAIN WORDS (tools/lay-plain.mjs out of 'YbaShelf.lean', which tools/lay-shelf.mjs wrote): THE SAME DECLARATIONS UNDER THE SAME NAMES: 'import', 'namespace', 'open', 'def', 'theorem' AND NOTHING ELSE: no command of the shelf's: FOR A HAND-IN. Each laying: the table of numbers ('.._ren') and one theorem, a field a fact of the dump's own or the kernel's comparison; each contract: ONE APPLICATION.
-/
import Derived.Shelf.Strings.Builder1
import Derived.Shelf.Strings.Builder2
import Derived.Shelf.Strings.OnBuilder
import Derived.Test.YbulkdkiuProg
namespace Go.Proofs
open Go.Shelf
def Yba.lays156_ren : Go.Shelf.Ren := ⟨fun | 156 => 22 | 165 => 26 | 166 => 27 | 169 => 28 | 240 => 29 | 241 => 30 | 276 => 31 | 277 => 32 | n => n, fun | 31 => 25 | 9 => 9 | 3 => 3 | 4 => 4 | 0 => 0 | 20 => 20 | 72 => 77 | 76 => 81 | 70 => 74 | 37 => 75 | 75 => 80 | 127 => 83 | 164 => 84 | 5 => 5 | 80 => 40 | n => n, fun | n => n⟩
theorem Yba.lays156 : Go.Proofs.Lays.n156 Yba.prog Yba.lays156_ren := {
  mixed := by kernel_rfl
  f156 := Yba.func22.trans (congrArg some (by kernel_rfl))
  f165 := Yba.func26.trans (congrArg some (by kernel_rfl))
  f166 := Yba.func27.trans (congrArg some (by kernel_rfl))
  f169 := Yba.func28.trans (congrArg some (by kernel_rfl))
  f240 := Yba.func29.trans (congrArg some (by kernel_rfl))
  f241 := Yba.func30.trans (congrArg some (by kernel_rfl))
  f276 := Yba.func31.trans (congrArg some (by kernel_rfl))
  f277 := Yba.func32.trans (congrArg some (by kernel_rfl))
  t0 := Yba.underlying0
  a0 := Yba.isAgg0
  z0 := Yba.sizeOf0
  v0 := Yba.zeroValue0
  t3 := Yba.underlying3
  a3 := Yba.isAgg3
  z3 := Yba.sizeOf3
  v3 := Yba.zeroValue3
  t4 := Yba.underlying4
  a4 := Yba.isAgg4
  z4 := Yba.sizeOf4
  v4 := Yba.zeroValue4
  t9 := Yba.underlying9
  a9 := Yba.isAgg9
  z9 := Yba.sizeOf9
  v9 := Yba.zeroValue9
  t20 := Yba.underlying20
  a20 := Yba.isAgg20
  z20 := Yba.sizeOf20
  v20 := Yba.zeroValue20
  t31 := Yba.underlying25
  a31 := Yba.isAgg25
  z31 := Yba.sizeOf25
  v31 := Yba.zeroValue25
  t37 := Yba.underlying75
  a37 := Yba.isAgg75
  z37 := Yba.sizeOf75
  v37 := Yba.zeroValue75
  t70 := Yba.underlying74
  a70 := Yba.isAgg74
  z70 := Yba.sizeOf74
  v70 := Yba.zeroValue74
  t72 := Yba.underlying77
  a72 := Yba.isAgg77
  z72 := Yba.sizeOf77
  v72 := Yba.zeroValue77
  t75 := Yba.underlying80
  a75 := Yba.isAgg80
  z75 := Yba.sizeOf80
  v75 := Yba.zeroValue80
  t76 := Yba.underlying81
  a76 := Yba.isAgg81
  z76 := Yba.sizeOf81
  v76 := Yba.zeroValue81
  t127 := Yba.underlying83
  a127 := Yba.isAgg83
  z127 := Yba.sizeOf83
  v127 := Yba.zeroValue83
  t164 := Yba.underlying84
  a164 := Yba.isAgg84
  z164 := Yba.sizeOf84
  v164 := Yba.zeroValue84 }
theorem Yba.Builder_Extra_156 : Builder.Extra Yba.prog Yba.lays156_ren := {
  sizeBuilder := by kernel_rfl
  liesBuilder := by kernel_rfl
  t5 := Yba.underlying5
  a5 := Yba.isAgg5
  z5 := Yba.sizeOf5
  v5 := Yba.zeroValue5
  infoByte := by kernel_rfl
  cellsByte := by kernel_rfl
  sizeByte := by kernel_rfl
  neB5 := by decide }
open Go.RowKit in
/-- No element: the empty string; the world is as it was. (Whatever the slice's address and capacity: a nil slice too.) (LAID: no walk: one application.) -/
theorem Yba.strings_Join_none (a : Option Addr) (c : Nat) (sep : ByteArray) (w : World) :
    Calls Yba.prog 22 #[.slice a 0 c, .string sep] w fun e w' => e = .returned (.string ⟨#[]⟩) ∧ w' = w := Any.strings_Join_none Yba.lays156 Yba.Builder_Extra_156 a c sep w
open Go.RowKit in
/-- strings.Join: "Join concatenates the elements of its first argument to create a single string. The separator string sep is placed between elements in the resulting string.": HOWEVER MANY ELEMENTS. Below the heap's end the world is as it was. (LAID: no walk: one application.) -/
theorem Yba.strings_Join (bk o c : Nat) (xs : List ByteArray) (sep : ByteArray) (w : World) (hcells : ∀ (j : Nat) x, xs[j]? = some x → w.cell? ⟨bk, o + j, none⟩ = some (.string x)) (hbk : bk < w.heap.size) (hN : xs.length ≤ 140737488355328) (hcap : xs.length ≤ c) (hlen : (Lib.join (xs.map (·.data.toList)) sep.data.toList).length ≤ 140737488355328) :
    Calls Yba.prog 22 #[.slice (some ⟨bk, o, none⟩) xs.length c, .string sep] w fun e w' => e = .returned (.string ⟨(Lib.join (xs.map (·.data.toList)) sep.data.toList).toArray⟩) ∧ Below w.heap.size w w' := Any.strings_Join Yba.lays156 Yba.Builder_Extra_156 bk o c xs sep w hcells hbk hN hcap hlen
end Go.Proofs
