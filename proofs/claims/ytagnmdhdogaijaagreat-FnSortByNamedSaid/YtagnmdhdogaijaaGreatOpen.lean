/- impl.open and impl.from (with one node). -/
import Derived.Test.YtagnmdhdogaijaaGreatRead
namespace Go.Proofs.YtagnmdhdogaijaaGreat
open Go.RowKit

end Go.Proofs.YtagnmdhdogaijaaGreat
