/-
  The contracts of strings.Join and strings.HasPrefix, laid at this program by the shelf (lay-shelf, lay-plain), cut to these two.
-/
import Derived.Shelf.Strings.OnBuilder
import Derived.Shelf.Strings.Prefix
import Derived.Test.Qxb6601375aProg
namespace Go.Proofs
open Go.Shelf
def Try.lays156_ren : Go.Shelf.Ren := ⟨fun | 156 => 33 | 165 => 39 | 166 => 40 | 169 => 41 | 240 => 44 | 241 => 45 | 276 => 47 | 277 => 48 | n => n, fun | 31 => 27 | 9 => 9 | 3 => 3 | 4 => 4 | 0 => 0 | 20 => 20 | 72 => 63 | 76 => 67 | 70 => 61 | 37 => 40 | 75 => 66 | 127 => 70 | 164 => 71 | 5 => 5 | 80 => 69 | n => n, fun | n => n⟩
theorem Try.lays156 : Go.Proofs.Lays.n156 Try.prog Try.lays156_ren := {
  mixed := by kernel_rfl
  f156 := Try.func33.trans (congrArg some (by kernel_rfl))
  f165 := Try.func39.trans (congrArg some (by kernel_rfl))
  f166 := Try.func40.trans (congrArg some (by kernel_rfl))
  f169 := Try.func41.trans (congrArg some (by kernel_rfl))
  f240 := Try.func44.trans (congrArg some (by kernel_rfl))
  f241 := Try.func45.trans (congrArg some (by kernel_rfl))
  f276 := Try.func47.trans (congrArg some (by kernel_rfl))
  f277 := Try.func48.trans (congrArg some (by kernel_rfl))
  t0 := Try.underlying0
  a0 := Try.isAgg0
  z0 := Try.sizeOf0
  v0 := Try.zeroValue0
  t3 := Try.underlying3
  a3 := Try.isAgg3
  z3 := Try.sizeOf3
  v3 := Try.zeroValue3
  t4 := Try.underlying4
  a4 := Try.isAgg4
  z4 := Try.sizeOf4
  v4 := Try.zeroValue4
  t9 := Try.underlying9
  a9 := Try.isAgg9
  z9 := Try.sizeOf9
  v9 := Try.zeroValue9
  t20 := Try.underlying20
  a20 := Try.isAgg20
  z20 := Try.sizeOf20
  v20 := Try.zeroValue20
  t31 := Try.underlying27
  a31 := Try.isAgg27
  z31 := Try.sizeOf27
  v31 := Try.zeroValue27
  t37 := Try.underlying40
  a37 := Try.isAgg40
  z37 := Try.sizeOf40
  v37 := Try.zeroValue40
  t70 := Try.underlying61
  a70 := Try.isAgg61
  z70 := Try.sizeOf61
  v70 := Try.zeroValue61
  t72 := Try.underlying63
  a72 := Try.isAgg63
  z72 := Try.sizeOf63
  v72 := Try.zeroValue63
  t75 := Try.underlying66
  a75 := Try.isAgg66
  z75 := Try.sizeOf66
  v75 := Try.zeroValue66
  t76 := Try.underlying67
  a76 := Try.isAgg67
  z76 := Try.sizeOf67
  v76 := Try.zeroValue67
  t127 := Try.underlying70
  a127 := Try.isAgg70
  z127 := Try.sizeOf70
  v127 := Try.zeroValue70
  t164 := Try.underlying71
  a164 := Try.isAgg71
  z164 := Try.sizeOf71
  v164 := Try.zeroValue71 }
theorem Try.Builder_Extra_156 : Builder.Extra Try.prog Try.lays156_ren := {
  sizeBuilder := by kernel_rfl
  liesBuilder := by kernel_rfl
  t5 := Try.underlying5
  a5 := Try.isAgg5
  z5 := Try.sizeOf5
  v5 := Try.zeroValue5
  infoByte := by kernel_rfl
  cellsByte := by kernel_rfl
  sizeByte := by kernel_rfl
  neB5 := by decide }
open Go.RowKit in
/-- No element: the empty string; the world is as it was. (Whatever the slice's address and capacity: a nil slice too.) (LAID: no walk: one application.) -/
theorem Try.strings_Join_none (a : Option Addr) (c : Nat) (sep : ByteArray) (w : World) :
    Calls Try.prog 33 #[.slice a 0 c, .string sep] w fun e w' => e = .returned (.string ⟨#[]⟩) ∧ w' = w := Any.strings_Join_none Try.lays156 Try.Builder_Extra_156 a c sep w
open Go.RowKit in
/-- strings.Join: "Join concatenates the elements of its first argument to create a single string. The separator string sep is placed between elements in the resulting string.": HOWEVER MANY ELEMENTS. Below the heap's end the world is as it was. (LAID: no walk: one application.) -/
theorem Try.strings_Join (bk o c : Nat) (xs : List ByteArray) (sep : ByteArray) (w : World) (hcells : ∀ (j : Nat) x, xs[j]? = some x → w.cell? ⟨bk, o + j, none⟩ = some (.string x)) (hbk : bk < w.heap.size) (hN : xs.length ≤ 140737488355328) (hcap : xs.length ≤ c) (hlen : (Lib.join (xs.map (·.data.toList)) sep.data.toList).length ≤ 140737488355328) :
    Calls Try.prog 33 #[.slice (some ⟨bk, o, none⟩) xs.length c, .string sep] w fun e w' => e = .returned (.string ⟨(Lib.join (xs.map (·.data.toList)) sep.data.toList).toArray⟩) ∧ Below w.heap.size w w' := Any.strings_Join Try.lays156 Try.Builder_Extra_156 bk o c xs sep w hcells hbk hN hcap hlen
def Try.lays99_ren : Go.Shelf.Ren := ⟨fun | 99 => 32 | 206 => 38 | n => n, fun | 9 => 9 | 4 => 4 | 3 => 3 | n => n, fun | n => n⟩
theorem Try.lays99 : Go.Proofs.Lays.n99 Try.prog Try.lays99_ren := {
  mixed := by kernel_rfl
  f99 := Try.func32.trans (congrArg some (by kernel_rfl))
  f206 := Try.func38.trans (congrArg some (by kernel_rfl))
  t3 := Try.underlying3
  a3 := Try.isAgg3
  z3 := Try.sizeOf3
  v3 := Try.zeroValue3
  t4 := Try.underlying4
  a4 := Try.isAgg4
  z4 := Try.sizeOf4
  v4 := Try.zeroValue4
  t9 := Try.underlying9
  a9 := Try.isAgg9
  z9 := Try.sizeOf9
  v9 := Try.zeroValue9 }
open Go.RowKit Go.Lib in
/-- strings.HasPrefix: "HasPrefix reports whether the string s begins with prefix.": IT RETURNS 'Lib.hasPrefix s prefix'; the world is as it was. (LAID: no walk: one application.) -/
theorem Try.strings_HasPrefix (s p : ByteArray) (w : World) :
    Calls Try.prog 32 #[.string s, .string p] w fun e w' => e = .returned (.bool (Lib.hasPrefix s.data.toList p.data.toList)) ∧ w' = w := Any.strings_HasPrefix Try.lays99 s p w
end Go.Proofs
