/- The statement over numbers and texts alone to which the law FnGjLastName comes. -/
import Derived.Test.YtdndddembndnhaaPAx36
namespace Go.Proofs.Ytdndddembndnhaa.PA
open Go.RowKit Go.Proofs.YtdndddembndnhaaW.PrintWords Go.Proofs.YtdndddembndnhaaW.PrintLast
def laws_FnGjLastName.Pure : Prop := ∀ (a0 : List ByteArray) (a1 : Int), (a0.length * 16 ≤ 140737488351232) → (∀ s ∈ a0, s.size ≤ 9223372036854775807) → ((Lit.int .u64 a1).wf = true) → ∃ k, laws_FnGjLastName.f k a0 a1 = some true
end Go.Proofs.Ytdndddembndnhaa.PA
