/- One number that the forward transform of a lone 8 makes is not nought: plain law. -/
import Derived.Test.YtcblegbjhiameaaOneLaw
namespace Go.Proofs.Ytcblegbjhiameaa
open Go.RowKit
theorem forward_lone : frows (fcols (lone 8)) 0 ≠ 0 := by decide +kernel
end Go.Proofs.Ytcblegbjhiameaa
