/-
  Clone, Union.
-/
import Derived.Test.YtopdlfecfgimpaaDoorFnsD
import Derived.Test.YtopdlfecfgimpaaDoorRanks
namespace Go.Proofs.YtopdlfecfgimpaaDoor.E
open Go
set_option linter.unusedSimpArgs false
set_option linter.unusedVariables false
set_option maxRecDepth 100000

end Go.Proofs.YtopdlfecfgimpaaDoor.E
