/- impl.open and impl.from (with one node). -/
import Derived.Test.YtaolfdmmadfncaaGreatRead
namespace Go.Proofs.YtaolfdmmadfncaaGreat
open Go.RowKit

end Go.Proofs.YtaolfdmmadfncaaGreat
