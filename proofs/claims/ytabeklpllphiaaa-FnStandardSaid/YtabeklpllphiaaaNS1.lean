/-
  WHAT the statements over files rest on, in the seat without addresses (only imports).
-/
import Derived.Test.YtabeklpllphiaaaLow
import Derived.Test.YtabeklpllphiaaaPlain
import Derived.Test.YtabeklpllphiaaaLab
import Derived.Test.YtabeklpllphiaaaMap
import Derived.Test.YtabeklpllphiaaaBlk
import Derived.Test.YtabeklpllphiaaaPlWords
import Derived.Test.YtabeklpllphiaaaFields
import Derived.Test.YtabeklpllphiaaaLine
import Derived.Test.YtabeklpllphiaaaNumLaws
import Derived.Test.YtabeklpllphiaaaNumber
namespace Go.Proofs.Ytabeklpllphiaaa
end Go.Proofs.Ytabeklpllphiaaa
