/-
  Contract of the package: packBytes.
-/
import Derived.Test.YtbfopgnhdelioaaDoorBg
namespace Go.Proofs.YtbfopgnhdelioaaDoor
open Go
set_option maxRecDepth 100000

end Go.Proofs.YtbfopgnhdelioaaDoor
