/-
  The shelf's contract of the library's Join at this program: laid by the kit's own command, in plain words (its tool lay-plain), cut to what is used here.
-/
import Derived.Shelf.Strings.OnBuilder
import Derived.Test.Qxb6602234aProg
namespace Go.Proofs
open Go.Shelf
def Try.lays156_ren : Go.Shelf.Ren := ⟨fun | 156 => 12 | 165 => 13 | 166 => 14 | 169 => 15 | 240 => 16 | 241 => 17 | 276 => 18 | 277 => 19 | n => n, fun | 31 => 33 | 9 => 9 | 3 => 3 | 4 => 4 | 0 => 0 | 20 => 20 | 72 => 39 | 76 => 43 | 70 => 36 | 37 => 37 | 75 => 42 | 127 => 45 | 164 => 46 | 5 => 5 | 80 => 34 | n => n, fun | n => n⟩
theorem Try.lays156 : Go.Proofs.Lays.n156 Try.prog Try.lays156_ren := {
  mixed := by kernel_rfl
  f156 := Try.func12.trans (congrArg some (by kernel_rfl))
  f165 := Try.func13.trans (congrArg some (by kernel_rfl))
  f166 := Try.func14.trans (congrArg some (by kernel_rfl))
  f169 := Try.func15.trans (congrArg some (by kernel_rfl))
  f240 := Try.func16.trans (congrArg some (by kernel_rfl))
  f241 := Try.func17.trans (congrArg some (by kernel_rfl))
  f276 := Try.func18.trans (congrArg some (by kernel_rfl))
  f277 := Try.func19.trans (congrArg some (by kernel_rfl))
  t0 := Try.underlying0
  a0 := Try.isAgg0
  z0 := Try.sizeOf0
  v0 := Try.zeroValue0
  t3 := Try.underlying3
  a3 := Try.isAgg3
  z3 := Try.sizeOf3
  v3 := Try.zeroValue3
  t4 := Try.underlying4
  a4 := Try.isAgg4
  z4 := Try.sizeOf4
  v4 := Try.zeroValue4
  t9 := Try.underlying9
  a9 := Try.isAgg9
  z9 := Try.sizeOf9
  v9 := Try.zeroValue9
  t20 := Try.underlying20
  a20 := Try.isAgg20
  z20 := Try.sizeOf20
  v20 := Try.zeroValue20
  t31 := Try.underlying33
  a31 := Try.isAgg33
  z31 := Try.sizeOf33
  v31 := Try.zeroValue33
  t37 := Try.underlying37
  a37 := Try.isAgg37
  z37 := Try.sizeOf37
  v37 := Try.zeroValue37
  t70 := Try.underlying36
  a70 := Try.isAgg36
  z70 := Try.sizeOf36
  v70 := Try.zeroValue36
  t72 := Try.underlying39
  a72 := Try.isAgg39
  z72 := Try.sizeOf39
  v72 := Try.zeroValue39
  t75 := Try.underlying42
  a75 := Try.isAgg42
  z75 := Try.sizeOf42
  v75 := Try.zeroValue42
  t76 := Try.underlying43
  a76 := Try.isAgg43
  z76 := Try.sizeOf43
  v76 := Try.zeroValue43
  t127 := Try.underlying45
  a127 := Try.isAgg45
  z127 := Try.sizeOf45
  v127 := Try.zeroValue45
  t164 := Try.underlying46
  a164 := Try.isAgg46
  z164 := Try.sizeOf46
  v164 := Try.zeroValue46 }
theorem Try.Builder_Extra_156 : Builder.Extra Try.prog Try.lays156_ren := {
  sizeBuilder := by kernel_rfl
  liesBuilder := by kernel_rfl
  t5 := Try.underlying5
  a5 := Try.isAgg5
  z5 := Try.sizeOf5
  v5 := Try.zeroValue5
  infoByte := by kernel_rfl
  cellsByte := by kernel_rfl
  sizeByte := by kernel_rfl
  neB5 := by decide }
open Go.RowKit in
theorem Try.strings_Join_none (a : Option Addr) (c : Nat) (sep : ByteArray) (w : World) :
    Calls Try.prog 12 #[.slice a 0 c, .string sep] w fun e w' => e = .returned (.string ⟨#[]⟩) ∧ w' = w := Any.strings_Join_none Try.lays156 Try.Builder_Extra_156 a c sep w
open Go.RowKit in
theorem Try.strings_Join (bk o c : Nat) (xs : List ByteArray) (sep : ByteArray) (w : World) (hcells : ∀ (j : Nat) x, xs[j]? = some x → w.cell? ⟨bk, o + j, none⟩ = some (.string x)) (hbk : bk < w.heap.size) (hN : xs.length ≤ 140737488355328) (hcap : xs.length ≤ c) (hlen : (Lib.join (xs.map (·.data.toList)) sep.data.toList).length ≤ 140737488355328) :
    Calls Try.prog 12 #[.slice (some ⟨bk, o, none⟩) xs.length c, .string sep] w fun e w' => e = .returned (.string ⟨(Lib.join (xs.map (·.data.toList)) sep.data.toList).toArray⟩) ∧ Below w.heap.size w w' := Any.strings_Join Try.lays156 Try.Builder_Extra_156 bk o c xs sep w hcells hbk hN hcap hlen
end Go.Proofs
