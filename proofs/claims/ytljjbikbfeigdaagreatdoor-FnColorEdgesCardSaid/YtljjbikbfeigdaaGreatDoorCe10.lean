/- Part of the proof of FnColorEdgesCardSaid: Contracts of the encoder: the forward transform. -/
import Derived.Test.YtljjbikbfeigdaaGreatDoorCe09
set_option linter.all false
namespace Go.Proofs.YtljjbikbfeigdaaGreatDoor
noncomputable section
open Go
def bB(k:Nat)(a:T):Cl×Gn:=(.old k,⟨182,[.arr .i32 a 64]⟩)
def jmt:Hg where
  args:=[p0 (.old 0)]
  hp:={rw:=[bB 0 (.av 0)],nv:=1000}
  pre:=[.eq (.len (.av 0)) (.lit 64)]
  val:=.tup []
  hp':={rw:=[bB 0 (.av 100)]}
  post:=[.eq (.len (.av 100)) (.lit 64),.aeq (.av 100) (fA 50 z0 z0 z0 z0 (.av 0))]
  quiet:=false
def j6h:Hg:={jmt with post:=[.eq (.len (.av 100)) (.lit 64),.aeq (.av 100) (fA 51 z0 z0 z0 z0 (.av 0))]}
def j34:Hg:={jmt with post:=[.eq (.len (.av 100)) (.lit 64),.aeq (.av 100) (fA 52 z0 z0 z0 z0 (.av 0))]}
def qhs(f:Nat)(lo Bl hi:Nat):List SR→Hp→Option Jh:=En fun b _ _=>{
  lo:=lo,hi:=hi
  tr:=[(Bl,.v (.one (.int .i64 (.iv b))))]
  rw:=[(.old 0,[.arr .i32 (.av b) 64])]
  facts:=Di (.lit 0) (.iv b) (.lit 8)++ [.eq (.len (.av b)) (.lit 64),.aeq (fA f (.iv b) z0 z0 z0 (.av b)) (fA f z0 z0 z0 z0 (.av 0))]
  meas:=.sub (.lit 8) (.iv b)
  quiet:=false}
def j5d:Nat→Nat→Option (List SR→Hp→Option Jh):=fun f k=>match f,k with
  | 118,1=>some (qhs 50 2 11 206)
  | 119,1=>some (qhs 51 2 12 197)
  | _,_=>none
def ju2:Nat→Bool:=fun f=>f==120||f==121
def qd7:Nat→Option Ff:=fun f=>match f with
  | 118=>some (Cx jmt)
  | 119=>some (Cx j6h)
  | _=>none
def j5g:Hg where
  args:=[.v (.one (.int .i32 (.iv 0))),.v (.one (.int .i32 (.iv 1)))]
  hp:={rw:=[],nv:=1000}
  pre:=Di (.lit (-536870912)) (.iv 0) (.lit 536870912)++Di (.lit 1) (.iv 1) (.lit 536870912)
  val:=.v (.one (.int .i32 (fI 60 (.iv 0) (.iv 1) z0 z0 (.alit []))))
  hp':={rw:=[]}
  post:=[]
  quiet:=true
end
end Go.Proofs.YtljjbikbfeigdaaGreatDoor
