/-
  No cell of these rows narrows 'for every input' (looked for: loops, veiled, ifaces, maps, wideKeys, modest, calm, conditions, laid).
  DERIVED. THE GIVEN ROWS OF THIS SEAT. 4 by the template 'for every input the law returns true; each argument reads behind the call as it read before'; 0 by the template 'total and deterministic' (their statements: Qxb6003812aTotals.lean).
  GIVEN WITH THE SEED: the statements are not yours to turn. If you find one false, say at which input.
  Laid BY PROGRAM, IN A SANDBOX (cutbox-rows.mjs): the forced cells as the released guide's own fill.sh prints them over the translation f4b6c52671dbcd6f… (all of the seat's roots in one cut). By AI agents, Wed Nov 11 2026. No macro, syntax, notation, axiom, sorry.
-/
import Derived.Test.Qxb6003812aChecked
import GoSem.Claim
import GoSem.ClaimJoined
import GoSem.ClaimMapViews
import Derived.JoinedTies
import Derived.KernelRfl
namespace Go.Proofs.Qxb6003812a
/- THE CELL 'sum', in the pinned program and in every row, IS THE sha256 OF THE DUMP (.gsa) THAT Qxb6003812aProg.lean LOADS. Nothing in Lean hashes anything: it is a label: what it is worth is what the hold of that sum in a sandbox is worth. -/
noncomputable def Try.pinned : Pinned := { name := "qxb6003812a", sum := "f4b6c52671dbcd6fa17c527b4f43c1e39cd67362b0e9cb7ec91ff03d794602d3", checked := Try.checked }
namespace Rows
def none {H : Type} : Left H := { results := [], args := [] }

/-- 'zzlaws_memfs_g1.FnDirectoryChainNamesChildrenAndDetach': WHATEVER THE INPUT: true; the input reads as it did. -/
def fnDirectoryChainNamesChildrenAndDetachSpec : ChangeSpec := { name := "fnDirectoryChainNamesChildrenAndDetach", fn := fun _ => fun
  | [d] => { results := [.lit (.bool true)], args := [d] }
  | _ => none }
def fnDirectoryChainNamesChildrenAndDetachRow : OpenClaim := { program := "qxb6003812a", sum := "f4b6c52671dbcd6fa17c527b4f43c1e39cd67362b0e9cb7ec91ff03d794602d3", func := "example.com/underglass/underglass/zzlaws_memfs_g1.FnDirectoryChainNamesChildrenAndDetach", spec := "fnDirectoryChainNamesChildrenAndDetach", inPlace := ["internal/bytealg.IndexByteString"], recurses := true, apart := false }
def FnDirectoryChainNamesChildrenAndDetachSaid : Prop := fnDirectoryChainNamesChildrenAndDetachRow.holds Try.pinned (OpenSpec.ofChange fnDirectoryChainNamesChildrenAndDetachSpec)

/-- ITS FALSE NEIGHBOUR: 'it returns false'. Refute it at one input. -/
def fnDirectoryChainNamesChildrenAndDetachWrong : ChangeSpec := { name := "fnDirectoryChainNamesChildrenAndDetach", fn := fun _ => fun
  | [d] => { results := [.lit (.bool false)], args := [d] }
  | _ => none }
def FnDirectoryChainNamesChildrenAndDetachWrongFalsely : Prop := fnDirectoryChainNamesChildrenAndDetachRow.holds Try.pinned (OpenSpec.ofChange fnDirectoryChainNamesChildrenAndDetachWrong)

/-- 'zzlaws_memfs_g2.FnContentWriteReadMatchesFlatModel': WHATEVER THE INPUT: true; the input reads as it did. -/
def fnContentWriteReadMatchesFlatModelSpec : ChangeSpec := { name := "fnContentWriteReadMatchesFlatModel", fn := fun _ => fun
  | [d1, d2, d3] => { results := [.lit (.bool true)], args := [d1, d2, d3] }
  | _ => none }
def fnContentWriteReadMatchesFlatModelRow : OpenClaim := { program := "qxb6003812a", sum := "f4b6c52671dbcd6fa17c527b4f43c1e39cd67362b0e9cb7ec91ff03d794602d3", func := "example.com/underglass/underglass/zzlaws_memfs_g2.FnContentWriteReadMatchesFlatModel", spec := "fnContentWriteReadMatchesFlatModel", apart := false }
def FnContentWriteReadMatchesFlatModelSaid : Prop := fnContentWriteReadMatchesFlatModelRow.holds Try.pinned (OpenSpec.ofChange fnContentWriteReadMatchesFlatModelSpec)

/-- ITS FALSE NEIGHBOUR: 'it returns false'. Refute it at one input. -/
def fnContentWriteReadMatchesFlatModelWrong : ChangeSpec := { name := "fnContentWriteReadMatchesFlatModel", fn := fun _ => fun
  | [d1, d2, d3] => { results := [.lit (.bool false)], args := [d1, d2, d3] }
  | _ => none }
def FnContentWriteReadMatchesFlatModelWrongFalsely : Prop := fnContentWriteReadMatchesFlatModelRow.holds Try.pinned (OpenSpec.ofChange fnContentWriteReadMatchesFlatModelWrong)

/-- 'zzlaws_memfs_g2.FnContentTruncateKeepsPrefixAndZeros': WHATEVER THE INPUT: true; the input reads as it did. -/
def fnContentTruncateKeepsPrefixAndZerosSpec : ChangeSpec := { name := "fnContentTruncateKeepsPrefixAndZeros", fn := fun _ => fun
  | [d1, d2, d3] => { results := [.lit (.bool true)], args := [d1, d2, d3] }
  | _ => none }
def fnContentTruncateKeepsPrefixAndZerosRow : OpenClaim := { program := "qxb6003812a", sum := "f4b6c52671dbcd6fa17c527b4f43c1e39cd67362b0e9cb7ec91ff03d794602d3", func := "example.com/underglass/underglass/zzlaws_memfs_g2.FnContentTruncateKeepsPrefixAndZeros", spec := "fnContentTruncateKeepsPrefixAndZeros", apart := false }
def FnContentTruncateKeepsPrefixAndZerosSaid : Prop := fnContentTruncateKeepsPrefixAndZerosRow.holds Try.pinned (OpenSpec.ofChange fnContentTruncateKeepsPrefixAndZerosSpec)

/-- ITS FALSE NEIGHBOUR: 'it returns false'. Refute it at one input. -/
def fnContentTruncateKeepsPrefixAndZerosWrong : ChangeSpec := { name := "fnContentTruncateKeepsPrefixAndZeros", fn := fun _ => fun
  | [d1, d2, d3] => { results := [.lit (.bool false)], args := [d1, d2, d3] }
  | _ => none }
def FnContentTruncateKeepsPrefixAndZerosWrongFalsely : Prop := fnContentTruncateKeepsPrefixAndZerosRow.holds Try.pinned (OpenSpec.ofChange fnContentTruncateKeepsPrefixAndZerosWrong)

/-- 'zzlaws_memfs_g2.FnCleanIsRootedCleanIdempotent': WHATEVER THE INPUT: true; the input reads as it did. -/
def fnCleanIsRootedCleanIdempotentSpec : ChangeSpec := { name := "fnCleanIsRootedCleanIdempotent", fn := fun _ => fun
  | [d] => { results := [.lit (.bool true)], args := [d] }
  | _ => none }
def fnCleanIsRootedCleanIdempotentRow : OpenClaim := { program := "qxb6003812a", sum := "f4b6c52671dbcd6fa17c527b4f43c1e39cd67362b0e9cb7ec91ff03d794602d3", func := "example.com/underglass/underglass/zzlaws_memfs_g2.FnCleanIsRootedCleanIdempotent", spec := "fnCleanIsRootedCleanIdempotent", apart := false }
def FnCleanIsRootedCleanIdempotentSaid : Prop := fnCleanIsRootedCleanIdempotentRow.holds Try.pinned (OpenSpec.ofChange fnCleanIsRootedCleanIdempotentSpec)

/-- ITS FALSE NEIGHBOUR: 'it returns false'. Refute it at one input. -/
def fnCleanIsRootedCleanIdempotentWrong : ChangeSpec := { name := "fnCleanIsRootedCleanIdempotent", fn := fun _ => fun
  | [d] => { results := [.lit (.bool false)], args := [d] }
  | _ => none }
def FnCleanIsRootedCleanIdempotentWrongFalsely : Prop := fnCleanIsRootedCleanIdempotentRow.holds Try.pinned (OpenSpec.ofChange fnCleanIsRootedCleanIdempotentWrong)

end Rows
end Go.Proofs.Qxb6003812a
