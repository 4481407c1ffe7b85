/- The tables' values are not nought. -/
import Derived.Test.YtfkchhmjfnkjbaaFmtVy
import Derived.Test.YtfkchhmjfnkjbaaFmtWw
namespace Go.Proofs.YtfkchhmjfnkjbaaFmt
theorem pos : Pos jD cD := ⟨fun k x h => (jIn k x h).1, fun k x h => (cIn k x h).1⟩
end Go.Proofs.YtfkchhmjfnkjbaaFmt
