/-
  DERIVED BY THE SHELF's OWN TOOLS FOR THIS DUMP (lay-shelf.mjs, then lay-plain.mjs), cut down to the one laying that we use: encoding/hex.Decode's closure: the table of numbers and one theorem, a field a fact of the dump's own or the kernel's comparison.
-/
import Derived.Shelf.Hex.Tagged
import Derived.Test.Qxb6002389aFmtProg
namespace Go.Proofs
open Go.Shelf
def Tryf.laysPa44_ren : Go.Shelf.Ren := ⟨fun | 44 => 17 | n => n, fun | 30 => 36 | 3 => 3 | 35 => 26 | 4 => 4 | 0 => 0 | 5 => 5 | 9 => 9 | 47 => 45 | 46 => 34 | 45 => 24 | n => n, fun | 0 => 0 | n => n⟩
theorem Tryf.laysPa44 : Go.Proofs.Lays.p44 Tryf.prog Tryf.laysPa44_ren := {
  mixed := by kernel_rfl
  f44 := Tryf.func17.trans (congrArg some (by kernel_rfl))
  t0 := Tryf.underlying0
  a0 := Tryf.isAgg0
  z0 := Tryf.sizeOf0
  v0 := Tryf.zeroValue0
  t3 := Tryf.underlying3
  a3 := Tryf.isAgg3
  z3 := Tryf.sizeOf3
  v3 := Tryf.zeroValue3
  t4 := Tryf.underlying4
  a4 := Tryf.isAgg4
  z4 := Tryf.sizeOf4
  v4 := Tryf.zeroValue4
  t5 := Tryf.underlying5
  a5 := Tryf.isAgg5
  z5 := Tryf.sizeOf5
  v5 := Tryf.zeroValue5
  t9 := Tryf.underlying9
  a9 := Tryf.isAgg9
  z9 := Tryf.sizeOf9
  v9 := Tryf.zeroValue9
  t30 := Tryf.underlying36
  a30 := Tryf.isAgg36
  z30 := Tryf.sizeOf36
  v30 := Tryf.zeroValue36
  t35 := Tryf.underlying26
  a35 := Tryf.isAgg26
  z35 := Tryf.sizeOf26
  v35 := Tryf.zeroValue26
  t45 := Tryf.underlying24
  a45 := Tryf.isAgg24
  z45 := Tryf.sizeOf24
  v45 := Tryf.zeroValue24
  t46 := Tryf.underlying34
  a46 := Tryf.isAgg34
  z46 := Tryf.sizeOf34
  v46 := Tryf.zeroValue34
  t47 := Tryf.underlying45
  a47 := Tryf.isAgg45
  z47 := Tryf.sizeOf45
  v47 := Tryf.zeroValue45
  g0 := by kernel_rfl }
end Go.Proofs
