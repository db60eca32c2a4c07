/-
  Seat oefb. strings.Join's contract at this program, written by the kit's tool lay-plain out of the kit's shelf.
-/
import Derived.Shelf.Strings.OnBuilder
import Derived.Test.YoefbwProg
namespace Go.Proofs
open Go.Shelf
def Efbg.lays156_ren : Go.Shelf.Ren := ⟨fun | 156 => 20 | 165 => 21 | 166 => 22 | 169 => 23 | 240 => 24 | 241 => 25 | 276 => 26 | 277 => 27 | n => n, fun | 31 => 22 | 9 => 9 | 3 => 3 | 4 => 4 | 0 => 0 | 20 => 20 | 72 => 51 | 76 => 55 | 70 => 49 | 37 => 33 | 75 => 54 | 127 => 57 | 164 => 58 | 5 => 5 | 80 => 31 | n => n, fun | n => n⟩
theorem Efbg.lays156 : Go.Proofs.Lays.n156 Efbg.prog Efbg.lays156_ren := {
  mixed := by kernel_rfl
  f156 := Efbg.func20.trans (congrArg some (by kernel_rfl))
  f165 := Efbg.func21.trans (congrArg some (by kernel_rfl))
  f166 := Efbg.func22.trans (congrArg some (by kernel_rfl))
  f169 := Efbg.func23.trans (congrArg some (by kernel_rfl))
  f240 := Efbg.func24.trans (congrArg some (by kernel_rfl))
  f241 := Efbg.func25.trans (congrArg some (by kernel_rfl))
  f276 := Efbg.func26.trans (congrArg some (by kernel_rfl))
  f277 := Efbg.func27.trans (congrArg some (by kernel_rfl))
  t0 := Efbg.underlying0
  a0 := Efbg.isAgg0
  z0 := Efbg.sizeOf0
  v0 := Efbg.zeroValue0
  t3 := Efbg.underlying3
  a3 := Efbg.isAgg3
  z3 := Efbg.sizeOf3
  v3 := Efbg.zeroValue3
  t4 := Efbg.underlying4
  a4 := Efbg.isAgg4
  z4 := Efbg.sizeOf4
  v4 := Efbg.zeroValue4
  t9 := Efbg.underlying9
  a9 := Efbg.isAgg9
  z9 := Efbg.sizeOf9
  v9 := Efbg.zeroValue9
  t20 := Efbg.underlying20
  a20 := Efbg.isAgg20
  z20 := Efbg.sizeOf20
  v20 := Efbg.zeroValue20
  t31 := Efbg.underlying22
  a31 := Efbg.isAgg22
  z31 := Efbg.sizeOf22
  v31 := Efbg.zeroValue22
  t37 := Efbg.underlying33
  a37 := Efbg.isAgg33
  z37 := Efbg.sizeOf33
  v37 := Efbg.zeroValue33
  t70 := Efbg.underlying49
  a70 := Efbg.isAgg49
  z70 := Efbg.sizeOf49
  v70 := Efbg.zeroValue49
  t72 := Efbg.underlying51
  a72 := Efbg.isAgg51
  z72 := Efbg.sizeOf51
  v72 := Efbg.zeroValue51
  t75 := Efbg.underlying54
  a75 := Efbg.isAgg54
  z75 := Efbg.sizeOf54
  v75 := Efbg.zeroValue54
  t76 := Efbg.underlying55
  a76 := Efbg.isAgg55
  z76 := Efbg.sizeOf55
  v76 := Efbg.zeroValue55
  t127 := Efbg.underlying57
  a127 := Efbg.isAgg57
  z127 := Efbg.sizeOf57
  v127 := Efbg.zeroValue57
  t164 := Efbg.underlying58
  a164 := Efbg.isAgg58
  z164 := Efbg.sizeOf58
  v164 := Efbg.zeroValue58 }
theorem Efbg.Builder_Extra_156 : Builder.Extra Efbg.prog Efbg.lays156_ren := {
  sizeBuilder := by kernel_rfl
  liesBuilder := by kernel_rfl
  t5 := Efbg.underlying5
  a5 := Efbg.isAgg5
  z5 := Efbg.sizeOf5
  v5 := Efbg.zeroValue5
  infoByte := by kernel_rfl
  cellsByte := by kernel_rfl
  sizeByte := by kernel_rfl
  neB5 := by decide }
open Go.RowKit in
/-- No element: the empty string; the world is as it was. (Whatever the slice's address and capacity: a nil slice too.) (LAID: no walk: one application.) -/
theorem Efbg.strings_Join_none (a : Option Addr) (c : Nat) (sep : ByteArray) (w : World) :
    Calls Efbg.prog 20 #[.slice a 0 c, .string sep] w fun e w' => e = .returned (.string ⟨#[]⟩) ∧ w' = w := Any.strings_Join_none Efbg.lays156 Efbg.Builder_Extra_156 a c sep w
open Go.RowKit in
/-- strings.Join: "Join concatenates the elements of its first argument to create a single string. The separator string sep is placed between elements in the resulting string.": HOWEVER MANY ELEMENTS. Below the heap's end the world is as it was. (LAID: no walk: one application.) -/
theorem Efbg.strings_Join (bk o c : Nat) (xs : List ByteArray) (sep : ByteArray) (w : World) (hcells : ∀ (j : Nat) x, xs[j]? = some x → w.cell? ⟨bk, o + j, none⟩ = some (.string x)) (hbk : bk < w.heap.size) (hN : xs.length ≤ 140737488355328) (hcap : xs.length ≤ c) (hlen : (Lib.join (xs.map (·.data.toList)) sep.data.toList).length ≤ 140737488355328) :
    Calls Efbg.prog 20 #[.slice (some ⟨bk, o, none⟩) xs.length c, .string sep] w fun e w' => e = .returned (.string ⟨(Lib.join (xs.map (·.data.toList)) sep.data.toList).toArray⟩) ∧ Below w.heap.size w w' := Any.strings_Join Efbg.lays156 Efbg.Builder_Extra_156 bk o c xs sep w hcells hbk hN hcap hlen
end Go.Proofs
