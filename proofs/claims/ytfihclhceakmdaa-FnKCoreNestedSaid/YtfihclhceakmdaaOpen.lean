/- impl.open and impl.from (with one node). -/
import Derived.Test.YtfihclhceakmdaaRead
namespace Go.Proofs.Ytfihclhceakmdaa
open Go.RowKit

end Go.Proofs.Ytfihclhceakmdaa
