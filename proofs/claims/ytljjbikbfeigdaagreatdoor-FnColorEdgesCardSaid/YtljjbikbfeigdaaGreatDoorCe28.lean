/- Part of the proof of FnColorEdgesCardSaid: FnGrayCoefficients, FnGrayEdges: the laws' functions. -/
import Derived.Test.YtljjbikbfeigdaaGreatDoorCe27
set_option linter.all false
namespace Go.Proofs.YtljjbikbfeigdaaGreatDoor
noncomputable section
open Go
end
end Go.Proofs.YtljjbikbfeigdaaGreatDoor
