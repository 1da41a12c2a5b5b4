/- What the reader's errors look like. -/
import Derived.Test.YtokjbdofpdncdaaDoorRst
namespace Go.Proofs.YtokjbdofpdncdaaDoor
open Go.RowKit
def errOf (m : ByteArray) (o : Int) : Value := .iface 122 (.agg #[.string m, .int .i64 o])
end Go.Proofs.YtokjbdofpdncdaaDoor
