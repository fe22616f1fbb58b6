/- Part of the proof of FnColorStreamCardSaid: FnGrayStream: for every input the call returns true, and the input reads behind the call as it read before. -/
import Derived.Test.YtljjbikbfeigdaaGreatDoorCo34
import Derived.Test.YtljjbikbfeigdaaGreatDoorRows
import Derived.WalkKit
import Derived.ProofKit
import Derived.OpenShut
import Derived.ShutString
import Derived.ChangeOld
import Derived.Below
import Derived.LaidMore
import Derived.Stop.Joined
set_option linter.all false
namespace Go.Proofs.YtljjbikbfeigdaaGreatDoor
noncomputable section
open Go.ChangeShapes Go.WideShapes Go.ChangeAt Go.RowKit
open Go.ChangeMaps (open_string shut_string)
set_option linter.unusedVariables false
theorem own:ownKnob Tryz.prog.godebug=none:=by kernel_rfl
theorem Hv:laidOutB Tryz.prog=true:=by kernel_rfl
def Ll(k:IntKind)(w:World)(a:Option Addr)(len cap:Nat)(zs:List Int):Prop:=
  (a=none∧len=0∧cap=0∧zs=[])∨
  ∃x,a=some x∧len≤cap∧cap≤maxLen∧zs.length=cap∧(∀i,i<zs.length→w.cell? (x.add i)=some (.int k (zs.getD i 0)))∧ ∀n∈zs,(Lit.int k n).wf=true
theorem lwA(os:Os)(args:Array Value):World.variablesRefB Tryz.prog ((Fh os).forCall (fun _ _=>0) ⟨#[],args,[]⟩)=true:=by kernel_rfl
theorem lwB(os:Os)(args:Array Value):(((Fh os).forCall (fun _ _=>0) ⟨#[],args,[]⟩).heap.toList.drop Tryz.prog.globals.size).take ((begin Tryz.prog (fun _ _=>0) default).world.heap.size-Tryz.prog.globals.size)=(begin Tryz.prog (fun _ _=>0) default).world.heap.toList.drop Tryz.prog.globals.size:=by kernel_rfl
theorem Gu{W:World}(h:laidMetH Tryz.prog Rows.fnGrayStreamRow.laid W):Sy W:=by
  have h':laidMet Tryz.prog (Rows.fnGrayStreamRow.laid.filter fun x=>x.2.handleName?.isNone) W∧handlesMet Tryz.prog (Rows.fnGrayStreamRow.laid.filter fun x=>x.2.handleName?.isSome) W:=h
  exact jf5 plain h'.1
end
end Go.Proofs.YtljjbikbfeigdaaGreatDoor
