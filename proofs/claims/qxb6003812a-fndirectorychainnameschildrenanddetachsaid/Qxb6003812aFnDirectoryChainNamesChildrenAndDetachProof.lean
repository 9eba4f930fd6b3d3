import Derived.Test.Qxb6003812aRows
import Derived.Test.Qxb6003812aFrame
import Derived.Test.Qxb6003812aLaw
namespace Go.Proofs.Qxb6003812a.fnDirectoryChainNamesChildrenAndDetachDone

/-- THE STATEMENT -/
theorem proved : Rows.FnDirectoryChainNamesChildrenAndDetachSaid :=
  over fun a cap F w hF hl hz => chain.walk a cap F w hF hl hz

end Go.Proofs.Qxb6003812a.fnDirectoryChainNamesChildrenAndDetachDone
