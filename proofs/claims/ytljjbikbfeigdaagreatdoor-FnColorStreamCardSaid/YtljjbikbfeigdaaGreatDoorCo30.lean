/- Part of the proof of FnColorStreamCardSaid: Contracts of the specification's reader shown: the frame header, the scan header. -/
import Derived.Test.YtljjbikbfeigdaaGreatDoorCo29
set_option linter.all false
namespace Go.Proofs.YtljjbikbfeigdaaGreatDoor
noncomputable section
open Go
theorem jtm(x:Int):Z.fa 412 x 0 0 0 [] [] [] []=Te x:=id rfl
theorem ju8(x:Int):Z.fa 437 x 0 0 0 [] [] [] []=Cr x:=id rfl
end
end Go.Proofs.YtljjbikbfeigdaaGreatDoor
