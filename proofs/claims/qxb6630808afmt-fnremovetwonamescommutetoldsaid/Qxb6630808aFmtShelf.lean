/-
  The kit's contract of the library function that joins strings, laid at this program's translation (lay-shelf, lay-plain), the other layings struck.
-/
import Derived.Shelf.Strings.Builder1
import Derived.Shelf.Strings.Builder2
import Derived.Shelf.Strings.OnBuilder
import Derived.Test.Qxb6630808aFmtProg
namespace Go.Proofs
open Go.Shelf
def Tryf.lays156_ren : Go.Shelf.Ren := ⟨fun | 156 => 21 | 165 => 22 | 166 => 23 | 169 => 24 | 240 => 25 | 241 => 26 | 276 => 27 | 277 => 28 | n => n, fun | 31 => 52 | 9 => 9 | 3 => 3 | 4 => 4 | 0 => 0 | 20 => 20 | 72 => 60 | 76 => 41 | 70 => 57 | 37 => 58 | 75 => 32 | 127 => 62 | 164 => 63 | 5 => 5 | 80 => 48 | n => n, fun | n => n⟩
theorem Tryf.lays156 : Go.Proofs.Lays.n156 Tryf.prog Tryf.lays156_ren := {
  mixed := by kernel_rfl
  f156 := Tryf.func21.trans (congrArg some (by kernel_rfl))
  f165 := Tryf.func22.trans (congrArg some (by kernel_rfl))
  f166 := Tryf.func23.trans (congrArg some (by kernel_rfl))
  f169 := Tryf.func24.trans (congrArg some (by kernel_rfl))
  f240 := Tryf.func25.trans (congrArg some (by kernel_rfl))
  f241 := Tryf.func26.trans (congrArg some (by kernel_rfl))
  f276 := Tryf.func27.trans (congrArg some (by kernel_rfl))
  f277 := Tryf.func28.trans (congrArg some (by kernel_rfl))
  t0 := Tryf.underlying0
  a0 := Tryf.isAgg0
  z0 := Tryf.sizeOf0
  v0 := Tryf.zeroValue0
  t3 := Tryf.underlying3
  a3 := Tryf.isAgg3
  z3 := Tryf.sizeOf3
  v3 := Tryf.zeroValue3
  t4 := Tryf.underlying4
  a4 := Tryf.isAgg4
  z4 := Tryf.sizeOf4
  v4 := Tryf.zeroValue4
  t9 := Tryf.underlying9
  a9 := Tryf.isAgg9
  z9 := Tryf.sizeOf9
  v9 := Tryf.zeroValue9
  t20 := Tryf.underlying20
  a20 := Tryf.isAgg20
  z20 := Tryf.sizeOf20
  v20 := Tryf.zeroValue20
  t31 := Tryf.underlying52
  a31 := Tryf.isAgg52
  z31 := Tryf.sizeOf52
  v31 := Tryf.zeroValue52
  t37 := Tryf.underlying58
  a37 := Tryf.isAgg58
  z37 := Tryf.sizeOf58
  v37 := Tryf.zeroValue58
  t70 := Tryf.underlying57
  a70 := Tryf.isAgg57
  z70 := Tryf.sizeOf57
  v70 := Tryf.zeroValue57
  t72 := Tryf.underlying60
  a72 := Tryf.isAgg60
  z72 := Tryf.sizeOf60
  v72 := Tryf.zeroValue60
  t75 := Tryf.underlying32
  a75 := Tryf.isAgg32
  z75 := Tryf.sizeOf32
  v75 := Tryf.zeroValue32
  t76 := Tryf.underlying41
  a76 := Tryf.isAgg41
  z76 := Tryf.sizeOf41
  v76 := Tryf.zeroValue41
  t127 := Tryf.underlying62
  a127 := Tryf.isAgg62
  z127 := Tryf.sizeOf62
  v127 := Tryf.zeroValue62
  t164 := Tryf.underlying63
  a164 := Tryf.isAgg63
  z164 := Tryf.sizeOf63
  v164 := Tryf.zeroValue63 }
theorem Tryf.Builder_Extra_156 : Builder.Extra Tryf.prog Tryf.lays156_ren := {
  sizeBuilder := by kernel_rfl
  liesBuilder := by kernel_rfl
  t5 := Tryf.underlying5
  a5 := Tryf.isAgg5
  z5 := Tryf.sizeOf5
  v5 := Tryf.zeroValue5
  infoByte := by kernel_rfl
  cellsByte := by kernel_rfl
  sizeByte := by kernel_rfl
  neB5 := by decide }
open Go.RowKit in
theorem Tryf.strings_Join_none (a : Option Addr) (c : Nat) (sep : ByteArray) (w : World) :
    Calls Tryf.prog 21 #[.slice a 0 c, .string sep] w fun e w' => e = .returned (.string ⟨#[]⟩) ∧ w' = w := Any.strings_Join_none Tryf.lays156 Tryf.Builder_Extra_156 a c sep w
open Go.RowKit in
theorem Tryf.strings_Join (bk o c : Nat) (xs : List ByteArray) (sep : ByteArray) (w : World) (hcells : ∀ (j : Nat) x, xs[j]? = some x → w.cell? ⟨bk, o + j, none⟩ = some (.string x)) (hbk : bk < w.heap.size) (hN : xs.length ≤ 140737488355328) (hcap : xs.length ≤ c) (hlen : (Lib.join (xs.map (·.data.toList)) sep.data.toList).length ≤ 140737488355328) :
    Calls Tryf.prog 21 #[.slice (some ⟨bk, o, none⟩) xs.length c, .string sep] w fun e w' => e = .returned (.string ⟨(Lib.join (xs.map (·.data.toList)) sep.data.toList).toArray⟩) ∧ Below w.heap.size w w' := Any.strings_Join Tryf.lays156 Tryf.Builder_Extra_156 bk o c xs sep w hcells hbk hN hcap hlen
end Go.Proofs
