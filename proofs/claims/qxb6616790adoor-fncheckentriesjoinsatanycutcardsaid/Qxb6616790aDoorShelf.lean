/-
  One contract of the kit's shelf, laid at this dump by the kit's own tools (lay-shelf.mjs, lay-plain.mjs), cut down to what the law uses: strings.Join.
-/
import Derived.Shelf.Strings.OnBuilder
import Derived.Test.Qxb6616790aDoorProg
namespace Go.Proofs
open Go.Shelf
def Tryd.lays156_ren : Go.Shelf.Ren := ⟨fun | 156 => 11 | 165 => 12 | 166 => 13 | 169 => 14 | 240 => 15 | 241 => 16 | 276 => 17 | 277 => 18 | n => n, fun | 31 => 22 | 9 => 9 | 3 => 3 | 4 => 4 | 0 => 0 | 20 => 20 | 72 => 44 | 76 => 46 | 70 => 41 | 37 => 42 | 75 => 30 | 127 => 48 | 164 => 49 | 5 => 5 | 80 => 33 | n => n, fun | n => n⟩
theorem Tryd.lays156 : Go.Proofs.Lays.n156 Tryd.prog Tryd.lays156_ren := {
  mixed := by kernel_rfl
  f156 := Tryd.func11.trans (congrArg some (by kernel_rfl))
  f165 := Tryd.func12.trans (congrArg some (by kernel_rfl))
  f166 := Tryd.func13.trans (congrArg some (by kernel_rfl))
  f169 := Tryd.func14.trans (congrArg some (by kernel_rfl))
  f240 := Tryd.func15.trans (congrArg some (by kernel_rfl))
  f241 := Tryd.func16.trans (congrArg some (by kernel_rfl))
  f276 := Tryd.func17.trans (congrArg some (by kernel_rfl))
  f277 := Tryd.func18.trans (congrArg some (by kernel_rfl))
  t0 := Tryd.underlying0
  a0 := Tryd.isAgg0
  z0 := Tryd.sizeOf0
  v0 := Tryd.zeroValue0
  t3 := Tryd.underlying3
  a3 := Tryd.isAgg3
  z3 := Tryd.sizeOf3
  v3 := Tryd.zeroValue3
  t4 := Tryd.underlying4
  a4 := Tryd.isAgg4
  z4 := Tryd.sizeOf4
  v4 := Tryd.zeroValue4
  t9 := Tryd.underlying9
  a9 := Tryd.isAgg9
  z9 := Tryd.sizeOf9
  v9 := Tryd.zeroValue9
  t20 := Tryd.underlying20
  a20 := Tryd.isAgg20
  z20 := Tryd.sizeOf20
  v20 := Tryd.zeroValue20
  t31 := Tryd.underlying22
  a31 := Tryd.isAgg22
  z31 := Tryd.sizeOf22
  v31 := Tryd.zeroValue22
  t37 := Tryd.underlying42
  a37 := Tryd.isAgg42
  z37 := Tryd.sizeOf42
  v37 := Tryd.zeroValue42
  t70 := Tryd.underlying41
  a70 := Tryd.isAgg41
  z70 := Tryd.sizeOf41
  v70 := Tryd.zeroValue41
  t72 := Tryd.underlying44
  a72 := Tryd.isAgg44
  z72 := Tryd.sizeOf44
  v72 := Tryd.zeroValue44
  t75 := Tryd.underlying30
  a75 := Tryd.isAgg30
  z75 := Tryd.sizeOf30
  v75 := Tryd.zeroValue30
  t76 := Tryd.underlying46
  a76 := Tryd.isAgg46
  z76 := Tryd.sizeOf46
  v76 := Tryd.zeroValue46
  t127 := Tryd.underlying48
  a127 := Tryd.isAgg48
  z127 := Tryd.sizeOf48
  v127 := Tryd.zeroValue48
  t164 := Tryd.underlying49
  a164 := Tryd.isAgg49
  z164 := Tryd.sizeOf49
  v164 := Tryd.zeroValue49 }
theorem Tryd.Builder_Extra_156 : Builder.Extra Tryd.prog Tryd.lays156_ren := {
  sizeBuilder := by kernel_rfl
  liesBuilder := by kernel_rfl
  t5 := Tryd.underlying5
  a5 := Tryd.isAgg5
  z5 := Tryd.sizeOf5
  v5 := Tryd.zeroValue5
  infoByte := by kernel_rfl
  cellsByte := by kernel_rfl
  sizeByte := by kernel_rfl
  neB5 := by decide }
open Go.RowKit in
/-- strings.Join: "Join concatenates the elements of its first argument to create a single string. The separator string sep is placed between elements in the resulting string.": HOWEVER MANY ELEMENTS. Below the heap's end the world is as it was. (LAID: no walk: one application.) -/
theorem Tryd.strings_Join (bk o c : Nat) (xs : List ByteArray) (sep : ByteArray) (w : World) (hcells : ∀ (j : Nat) x, xs[j]? = some x → w.cell? ⟨bk, o + j, none⟩ = some (.string x)) (hbk : bk < w.heap.size) (hN : xs.length ≤ 140737488355328) (hcap : xs.length ≤ c) (hlen : (Lib.join (xs.map (·.data.toList)) sep.data.toList).length ≤ 140737488355328) :
    Calls Tryd.prog 11 #[.slice (some ⟨bk, o, none⟩) xs.length c, .string sep] w fun e w' => e = .returned (.string ⟨(Lib.join (xs.map (·.data.toList)) sep.data.toList).toArray⟩) ∧ Below w.heap.size w w' := Any.strings_Join Tryd.lays156 Tryd.Builder_Extra_156 bk o c xs sep w hcells hbk hN hcap hlen
end Go.Proofs
