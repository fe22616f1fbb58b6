/- Part of the proof of FnGrayEdgesCardSaid: Contracts of the laws on a gray image's coefficients. -/
import Derived.Test.YtljjbikbfeigdaaGreatDoorGe39
set_option linter.all false
namespace Go.Proofs.YtljjbikbfeigdaaGreatDoor
noncomputable section
open Go
def c4 : Ctr where
  args := gArgs
  hp := { rw := [], ro := gRo ++ roB, nv := 1000 }
  pre := gPre
  val := .v (.one (.bool .tt))
  hp' := { rw := [], ro := gRo ++ roB }
  post := []
  quiet := false
def c4n : Ctr where
  args := gArgsN
  hp := { rw := [], nv := 1000 }
  pre := gPreN
  val := .v (.one (.bool .tt))
  hp' := { rw := [] }
  post := []
  quiet := false
def rspQ (e : Bool) : Nat → Option RSpec := fun f => match f with
  | 16 => some (applyR c16)
  | 17 => some (applyR c17)
  | 13 => some (applyR (c13 e))
  | _ => none
end
end Go.Proofs.YtljjbikbfeigdaaGreatDoor
