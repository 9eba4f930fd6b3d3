/-
  DERIVED: THE SHELF's CONTRACTS AT THIS DUMP, IN PLAIN WORDS (tools/lay-plain.mjs out of 'Qxb6003812aShelf0.lean', which tools/lay-shelf.mjs wrote): THE SAME DECLARATIONS UNDER THE SAME NAMES: 'import', 'namespace', 'open', 'def', 'theorem' AND NOTHING ELSE: no command of the shelf's: FOR A HAND-IN. Each laying: the table of numbers ('.._ren') and one theorem, a field a fact of the dump's own or the kernel's comparison; each contract: ONE APPLICATION.
-/
import Derived.Shelf.Small.Strs
import Derived.Shelf.Strings.Search1
import Derived.Ground.PaProg
import Derived.Shelf.Path.CleanRel
import Derived.Shelf.Path.CleanAbs
import Derived.Shelf.Path.Clean
import Derived.Shelf.Path.Join
import Derived.Shelf.Path.JoinRules
import Derived.Test.Qxb6003812aProg
namespace Go.Proofs
open Go.Shelf
def Try.lays137_ren : Go.Shelf.Ren := ⟨fun | 137 => 53 | 217 => 55 | 266 => 56 | n => n, fun | 9 => 9 | 5 => 5 | 3 => 3 | n => n, fun | n => n⟩
theorem Try.lays137 : Go.Proofs.Lays.n137 Try.prog Try.lays137_ren := {
  mixed := by kernel_rfl
  f137 := Try.func53.trans (congrArg some (by kernel_rfl))
  f217 := Try.func55.trans (congrArg some (by kernel_rfl))
  f266 := Try.func56.trans (congrArg some (by kernel_rfl))
  t3 := Try.underlying3
  a3 := Try.isAgg3
  z3 := Try.sizeOf3
  v3 := Try.zeroValue3
  t5 := Try.underlying5
  a5 := Try.isAgg5
  z5 := Try.sizeOf5
  v5 := Try.zeroValue5
  t9 := Try.underlying9
  a9 := Try.isAgg9
  z9 := Try.sizeOf9
  v9 := Try.zeroValue9 }
open Go.RowKit in
/-- strings.IndexByte: "IndexByte returns the index of the first instance of c in s, or -1 if c is not present in s.": IT RETURNS 'Lib.indexByte s c'; the world is as it was. (LAID: no walk: one application.) -/
theorem Try.strings_IndexByte (s : ByteArray) (c : Int) (w : World) :
    Calls Try.prog 53 #[.string s, .int .u8 c] w fun e w' => e = .returned (.int .i64 (Lib.indexByte s.data.toList c.toNat.toUInt8)) ∧ w' = w := Any.strings_IndexByte Try.lays137 s c w
def Try.laysPah31_ren : Go.Shelf.Ren := ⟨fun | 31 => 40 | 30 => 46 | 46 => 50 | 47 => 51 | 48 => 52 | n => n, fun | 26 => 22 | 9 => 9 | 3 => 3 | 0 => 0 | 4 => 4 | 30 => 39 | 5 => 5 | 42 => 85 | 48 => 90 | n => n, fun | n => n⟩
theorem Try.laysPah31 : Go.Proofs.Lays.ph31 Try.prog Try.laysPah31_ren := {
  mixed := by kernel_rfl
  f30 := Try.func46.trans (congrArg some (by kernel_rfl))
  f31 := Try.func40.trans (congrArg some (by kernel_rfl))
  f46 := Try.func50.trans (congrArg some (by kernel_rfl))
  f47 := Try.func51.trans (congrArg some (by kernel_rfl))
  f48 := Try.func52.trans (congrArg some (by kernel_rfl))
  t0 := Try.underlying0
  a0 := Try.isAgg0
  z0 := Try.sizeOf0
  v0 := Try.zeroValue0
  t3 := Try.underlying3
  a3 := Try.isAgg3
  z3 := Try.sizeOf3
  v3 := Try.zeroValue3
  t4 := Try.underlying4
  a4 := Try.isAgg4
  z4 := Try.sizeOf4
  v4 := Try.zeroValue4
  t5 := Try.underlying5
  a5 := Try.isAgg5
  z5 := Try.sizeOf5
  v5 := Try.zeroValue5
  t9 := Try.underlying9
  a9 := Try.isAgg9
  z9 := Try.sizeOf9
  v9 := Try.zeroValue9
  t26 := Try.underlying22
  a26 := Try.isAgg22
  z26 := Try.sizeOf22
  v26 := Try.zeroValue22
  t30 := Try.underlying39
  a30 := Try.isAgg39
  z30 := Try.sizeOf39
  v30 := Try.zeroValue39
  t42 := Try.underlying85
  a42 := Try.isAgg85
  z42 := Try.sizeOf85
  v42 := Try.zeroValue85
  t48 := Try.underlying90
  a48 := Try.isAgg90
  z48 := Try.sizeOf90
  v48 := Try.zeroValue90
  info5 := by kernel_rfl }
open Go.RowKit Go.Lib in
theorem Try.path_Join_rules (bk o c : Nat) (xs : List ByteArray) (w : World) (hcells : ∀ (j : Nat) x, xs[j]? = some x → w.cell? ⟨bk, o + j, none⟩ = some (.string x)) (hbk : bk < w.heap.size) (hlen : Pa.lens (xs.map (·.data.toList)) + xs.length ≤ 281474976710656) :
    Calls Try.prog 40 #[.slice (some ⟨bk, o, none⟩) xs.length c] w fun e w' => e = .returned (.string ⟨(Pa.join (xs.map (·.data.toList))).toArray⟩) ∧ Below w.heap.size w w' := Any.path_Join_rules Try.laysPah31 bk o c xs w hcells hbk hlen
end Go.Proofs
