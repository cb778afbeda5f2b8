/- The walks of the reference's small functions: hasInt, sameInts. -/
import Derived.Test.YtbkhakjbmdmghaaPlain
import Derived.Test.YtbkhakjbmdmghaaSpecP
namespace Go.Proofs.Ytbkhakjbmdmghaa
open Go.RowKit

end Go.Proofs.Ytbkhakjbmdmghaa
