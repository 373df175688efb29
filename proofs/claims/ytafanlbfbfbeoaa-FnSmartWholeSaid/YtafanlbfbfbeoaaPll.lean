
import Derived.Test.YtafanlbfbfbeoaaCnv
namespace Go.Proofs.Ytafanlbfbfbeoaa
open Go.RowKit

end Go.Proofs.Ytafanlbfbfbeoaa
