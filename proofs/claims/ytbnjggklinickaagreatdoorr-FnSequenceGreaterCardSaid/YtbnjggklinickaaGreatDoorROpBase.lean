import Derived.Test.YtbnjggklinickaaGreatDoorRStack
namespace Go.Proofs.YtbnjggklinickaaGreatDoorR
open Go Go.RowKit

/-- What an opcode's table row leaves: a new block. -/
def OpMade (v len : Int) (w : World) (e : Ending) (w' : World) : Prop := ∃ s : ByteArray, e = .returned (.pointer (some ⟨w.heap.size, 0, none⟩)) ∧ w.alloc (.cells #[.int .u8 v, .string s, .int .i64 len] 138) = w'

end Go.Proofs.YtbnjggklinickaaGreatDoorR
