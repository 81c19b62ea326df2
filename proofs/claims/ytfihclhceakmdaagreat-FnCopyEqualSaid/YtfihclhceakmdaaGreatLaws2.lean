/- laws.arc: whether there is an edge from u to v. -/
import Derived.Test.YtfihclhceakmdaaGreatLaws1
namespace Go.Proofs.YtfihclhceakmdaaGreat
open Go.RowKit

end Go.Proofs.YtfihclhceakmdaaGreat
