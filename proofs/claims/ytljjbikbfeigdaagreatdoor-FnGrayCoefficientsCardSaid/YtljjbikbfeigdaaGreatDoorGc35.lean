/- Part of the proof of FnGrayCoefficientsCardSaid: A world that meets the rows' condition. -/
import Derived.Test.YtljjbikbfeigdaaGreatDoorGc34
import Derived.ProofKit
import Derived.LaidMore
import Derived.Stop.Joined
set_option linter.all false
namespace Go.Proofs.YtljjbikbfeigdaaGreatDoor
noncomputable section
open Go Go.ChangeShapes Go.WideShapes Go.RowKit
noncomputable def laidWorld (os : Os) : World :=
  let w0 := World.holding Tryz.prog os ⟨#[], #[], []⟩
  let put (k : Nat) (c : Array Value) (h : Array Obj) : Array Obj := h.modify k fun
    | .cells _ t frozen => .cells c t frozen
    | o => o
  { w0 with heap := put 3 #[.iface 237 (.agg #[.pointer (some ⟨9, 100, none⟩)])] (put 2 (uqL.map (Value.int .u8)).toArray (put 5 (bitCountL.map (Value.int .u8)).toArray (put 4 ((Z.fa 45 0 0 0 0 [] [] [] []).map (Value.int .i64)).toArray w0.heap))) }
end
end Go.Proofs.YtljjbikbfeigdaaGreatDoor
