/- Part of the proof of FnColorCoefficientsCardSaid: FnGrayCoefficients, FnGrayEdges: the laws' functions. -/
import Derived.Test.YtljjbikbfeigdaaGreatDoorCc27
set_option linter.all false
namespace Go.Proofs.YtljjbikbfeigdaaGreatDoor
noncomputable section
open Go
end
end Go.Proofs.YtljjbikbfeigdaaGreatDoor
