/- Part of the proof of FnColorStreamCardSaid: A world that meets the rows' condition. -/
import Derived.Test.YtljjbikbfeigdaaGreatDoorCo33
import Derived.ProofKit
import Derived.LaidMore
import Derived.Stop.Joined
set_option linter.all false
namespace Go.Proofs.YtljjbikbfeigdaaGreatDoor
noncomputable section
open Go Go.ChangeShapes Go.WideShapes Go.RowKit
noncomputable def Fh (os:Os):World:=
  let w0:=World.holding Tryz.prog os ⟨#[],#[],[]⟩
  let put (k:Nat) (c:Array Value) (h:Array Obj):Array Obj:=h.modify k fun
    | .cells _ t frozen=>.cells c t frozen
    | o=>o
  { w0 with heap:=put 3 #[.iface 237 (.agg #[.pointer (some ⟨9,100,none⟩)])] (put 2 (uqL.map (Value.int .u8)).toArray (put 5 (Gj.map (Value.int .u8)).toArray (put 4 ((Z.fa 45 0 0 0 0 [] [] [] []).map (Value.int .i64)).toArray w0.heap)))}
theorem lw1(os:Os)(args:Array Value):(DataW.laidRun Tryz.prog ((Fh os).forCall (fun _ _=>0) ⟨#[],args,[]⟩).memory 8 ((Rows.fnGrayStreamRow.laid.filter fun x=>x.2.handleName?.isNone).map (·.1))).map (·.1)=some (Rows.fnGrayStreamRow.laid.filter fun x=>x.2.handleName?.isNone):=by kernel_rfl
theorem lw2(os:Os)(args:Array Value):(DataW.laidRun Tryz.prog ((Fh os).forCall (fun _ _=>0) ⟨#[],args,[]⟩).memory 8 ((Rows.fnGrayStreamRow.laid.filter fun x=>x.2.handleName?.isNone).map (·.1))).map (fun x=>decide x.2.Nodup&&laidRowsB Tryz.prog ((Fh os).forCall (fun _ _=>0) ⟨#[],args,[]⟩).memory x.2)=some true:=by kernel_rfl
theorem jlo(os:Os)(args:Array Value):laidMetH Tryz.prog Rows.fnGrayStreamRow.laid ((Fh os).forCall (fun _ _=>0) ⟨#[],args,[]⟩).memory:=
  laidMetH_of_parts3 (fuel:=8) (laidMet_of_run' 8 (lw1 os args) (lw2 os args)) (by kernel_rfl) (by kernel_rfl)
end
end Go.Proofs.YtljjbikbfeigdaaGreatDoor
