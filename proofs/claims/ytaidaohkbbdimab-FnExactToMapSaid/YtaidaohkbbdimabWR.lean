/-
  The walks, part R: Run of the thin package.
-/
import Derived.Test.YtaidaohkbbdimabWL3
namespace Go.Proofs.Ytaidaohkbbdimab
open Go.RowKit


end Go.Proofs.Ytaidaohkbbdimab
