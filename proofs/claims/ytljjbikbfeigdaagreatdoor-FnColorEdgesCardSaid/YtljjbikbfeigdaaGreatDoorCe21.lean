/- Part of the proof of FnColorEdgesCardSaid: Contracts of the specification's reader shown: the segments with the Huffman tables. -/
import Derived.Test.YtljjbikbfeigdaaGreatDoorCe20
set_option linter.all false
namespace Go.Proofs.YtljjbikbfeigdaaGreatDoor
noncomputable section
open Go
theorem Mx(h:Nat){k:Int}(h0:0≤k)(h1:k<(At h).length):Hj h (k+1).toNat=(Hj h k.toNat).set (Bg (At h) k).toNat 1:=by
  unfold Hj
  have hk:k.toNat<(At h).length:=by omega
  rw[show (k+1).toNat=k.toNat+1 from by omega,List.take_add_one,List.getElem?_eq_getElem hk,List.foldl_append]
  simp only[Option.toList_some,List.foldl_cons,List.foldl_nil]
  congr 2
  unfold Bg
  rw[List.getD_eq_getElem?_getD,List.getElem?_eq_getElem hk];rfl
theorem Hu(l:List Int){k:Int}(h0:0≤k)(h1:k<l.length):l.take (k+1).toNat=l.take k.toNat++ [Bg l k]:=by
  have hk:k.toNat<l.length:=by omega
  rw[show (k+1).toNat=k.toNat+1 from by omega,List.take_add_one,List.getElem?_eq_getElem hk]
  unfold Bg
  rw[List.getD_eq_getElem?_getD,List.getElem?_eq_getElem hk];rfl
theorem jjf{x:Int}(h0:0≤x)(h1:x≤255):Dj .and .u8 x 15=x % 16:=by
  have key: ∀a:Fin 256,Dj .and .u8 ((a.val:Nat):Int) 15=((a.val:Nat):Int) % 16:=by decide+kernel
  obtain ⟨a,rfl⟩:=Int.eq_ofNat_of_zero_le h0
  exact key ⟨a,by omega⟩
theorem j7e(x y:Int):Z.fa 413 x y 0 0 [] [] [] []=Hj x.toNat y.toNat:=id rfl
theorem Om:((At 0).length:Int)=12:=rfl
theorem Oo:((At 1).length:Int)=162:=by rw[show (At 1).length=162 by kernel_rfl];rfl
def wh:T:=two (.iv 21) (.iv 22)
def qj9(x y p s:T):T:=.fa 501 x y p z0 s (.av 3) (.av 5) wh
def qfr:SR:=.v (.one (.iface 52 (pL0 (.old 21))))
def roE:List (Cl×IntKind×T):=[(.glob 5,.u8,cA 44),(.glob 4,.i64,cA 45)]
def jjj:Int:=100000000000
def c67:Hg where
  args:=[p0 (.old 0),qfr]
  hp:={rw:=hE 0 (.iv 0) (.av 1) (.iv 1) (.iv 2) (.av 2) (.av 3)++jke,ro:=roE,nv:=1000,ow:=owW 0 (.av 0)}
  pre:=Tt jjj++jbb++ [.eq (.len (.av 3)) (.lit 128),Du 1 255 (.av 3)]
  val:=.tup []
  hp':={rw:=hE 100 (.iv 100) (.av 101) (.iv 101) (.iv 102) (.av 2) (.av 3)++jke,ro:=roE,ow:=owW 100 (.av 100)}
  post:=jg8 jjj (.fa 500 z0 z0 z0 z0 s0 (.av 3) (.av 5) wh)
  quiet:=false
def qau:List SR→Hp→Option Jh:=En fun b fr _=>{
  lo:=128,hi:=154
  tr:=[(12,.v (.one (cI (.iv (b+3))))),(7,.v (.one (.int .i32 (.iv (b+4)))))]++Gq b 13 2
  rw:=rwE b++ [(Fl fr 4,[.arr .i32 (.av (b+2)) 64])]
  ow:=some (.av b)
  facts:=okB b++ [.le (.lit 0) (.iv (b+3)),.le (.iv (b+3)) (.add (.iv 22) (.lit 7))]++Di (.lit (-1024)) (.iv (b+4)) (.lit 1023)++ [.eq (.len (.av (b+2))) (.lit 64),
    .le (.add (.len (.av b)) (.iv (b+2))) (.add (.add (.len (.av 0)) (.iv 0)) (.add (.lit 10) (.mul (.lit 1180800) (.iv (b+3))))),
    .aeq (qj9 z0 (.iv (b+3)) (.iv (b+4)) (stB b)) (.fa 500 z0 z0 z0 z0 s0 (.av 3) (.av 5) wh)]
  meas:=.sub (.add (.iv 22) (.lit 8)) (.iv (b+3))
  quiet:=false}
def qct:List SR→Hp→Option Jh:=En fun b fr _=>{
  lo:=138,hi:=154
  tr:=[(13,.v (.one (cI (.iv (b+3))))),(7,.v (.one (.int .i32 (.iv (b+4)))))]++Gq b 14 1
  rw:=rwE b++ [(Fl fr 4,[.arr .i32 (.av (b+2)) 64])]
  ow:=some (.av b)
  facts:=okB b++ [.le (.lit 0) (.iv (b+3)),.le (.iv (b+3)) (.add (.iv 21) (.lit 7))]++Di (.lit (-1024)) (.iv (b+4)) (.lit 1023)++ [.eq (.len (.av (b+2))) (.lit 64),
    .le (.add (.len (.av b)) (.iv (b+2))) (.add (.add (.len (.av 0)) (.iv 0)) (.add (.lit 10) (.add (.mul (.lit 1180800) (Js fr 12)) (.mul (.lit 144) (.iv (b+3)))))),
    .aeq (qj9 (.iv (b+3)) (Js fr 12) (.iv (b+4)) (stB b)) (.fa 500 z0 z0 z0 z0 s0 (.av 3) (.av 5) wh)]
  meas:=.sub (.add (.iv 21) (.lit 8)) (.iv (b+3))
  quiet:=false}
def qis:Nat→Nat→Option (List SR→Hp→Option Jh):=fun f k=>match f,k with
  | 67,37=>some qau
  | 67,40=>some qct
  | _,_=>none
def qdk:Nat→Option Ff:=fun f=>match f with
  | 154=>some (Cx jnl)
  | 88=>some (Cx c88)
  | 89=>some (Cx (c89 0))
  | 94=>some (Cx c94)
  | _=>none
def Jn(h:Nat):Nat:=if h % 2=0 then 12 else 251
def qc8(h:Nat)(l:Aw):List Aw:=(List.range 4).map fun k=>if k=h then l else .val k
def c81(h:Nat):Hg where
  args:=[.v (.one (.ptr (.old 9) h (.lit 0))),.v (.agg [.arr .u8 (.alit ((Bl h).drop 1)) 16,.cells [.sl (.ro 0) 0 (.lit 0) (.lit (La h)) (.iv 1)]])]
  hp:={rw:=[(.old 9,⟨136,[.cells (qc8 h (.val 9))]⟩)],ro:=[(.ro 0,.u8,.alit (At h))],nv:=1000}
  pre:=[.le (.lit (La h)) (.iv 1)]
  val:=.tup []
  hp':={rw:=[(.old 9,⟨136,[.cells (qc8 h (.sl (.own 110) 0 (.lit 0) (.lit (Jn h)) (.lit (Jn h))))]⟩),(.own 110,⟨131,[.arr .u32 (cA (40+h)) (Jn h)]⟩)],ro:=[(.ro 0,.u8,.alit (At h))]}
  post:=[]
  quiet:=false
def fh(f h:Nat)(k:T):T:=.fi f (.lit h) k z0 z0 (.alit []) (.alit []) (.alit []) (.alit [])
def qdc(h:Nat):List SR→Hp→Option Jh:=En fun b _ _=>{
  lo:=16,hi:=26
  tr:=[(15,.v (.one (cI (.iv b)))),(4,.v (.one (cI (.iv (b+1)))))]++Gq b 6 1
  facts:=Di (.lit 0) (.iv b) (.lit (La h))++ [.eq (.iv (b+1)) (fh 523 h (.iv b))]
  meas:=.sub (.lit (La h)) (.iv b)
  quiet:=true}
def j0n(fr:List SR)(k:Nat):Cl:=match Do fr k with
  | .v (.one (.sl r _ _ _ _))=>r
  | _=>.new 0
def qgz(h:Nat)(i:T):T:=.get (.alit ((Bl h).drop 1)) i
def qaj(h:Nat):List SR→Hp→Option Jh:=En fun b fr _=>{
  lo:=31,hi:=65
  tr:=[(9,.v (.one (cI (.iv b)))),(7,.v (.one (.int .u32 (.iv (b+1))))),(8,.v (.one (cI (.iv (b+2)))))]++Gq b 10 2
  rw:=[(j0n fr 29,[.arr .u32 (.av b) (Jn h)])]
  facts:=Di (.lit 0) (.iv b) (.lit 16)++ [.eq (.iv (b+2)) (fh 521 h (.iv b)),.eq (.iv (b+1)) (fh 522 h (.iv b)),.eq (.len (.av b)) (.lit (Jn h)),.aeq (.av b) (fA 520 (.lit h) (.iv (b+2)) z0 z0 (.alit []))]
  meas:=.sub (.lit 16) (.iv b)
  quiet:=true}
def qbh(h:Nat):List SR→Hp→Option Jh:=En fun b fr _=>{
  lo:=39,hi:=65
  tr:=[(11,.v (.one (.int .u8 (.iv b)))),(7,.v (.one (.int .u32 (.iv (b+1))))),(8,.v (.one (cI (.iv (b+2)))))]
  rw:=[(j0n fr 29,[.arr .u32 (.av b) (Jn h)])]
  facts:=Di (.lit 0) (.iv b) (qgz h (Js fr 9))++ [.eq (.iv (b+2)) (.add (fh 521 h (Js fr 9)) (.iv b)),.eq (.iv (b+1)) (.add (fh 522 h (Js fr 9)) (.iv b)),.eq (.len (.av b)) (.lit (Jn h)),.aeq (.av b) (fA 520 (.lit h) (.iv (b+2)) z0 z0 (.alit []))]
  meas:=.sub (qgz h (Js fr 9)) (.iv b)
  quiet:=true}
def jm6(h:Nat):Nat→Nat→Option (List SR→Hp→Option Jh):=fun f k=>match f,k with
  | 81,3=>some (qdc h)
  | 81,11=>some (qaj h)
  | 81,15=>some (qbh h)
  | 81,2000008=>some (jqf 4 (.lit (Jn h-1:Nat)))
  | _,_=>none
def j64:Nat→Option Ff:=fun f=>match f with
  | 81=>some (fun args h=>match args with
    | .v (.one (.ptr _ s _))::_=>if s<4 then Cx (c81 s) args h else none
    | _=>none)
  | _=>none
def juu:Cl×Gn:=(.old 8,⟨104,[.cells [cI (.iv 30)]]⟩)
def Vd:List (Cl×IntKind×T):=roE++ [(.glob 2,.u8,cA 46)]
def qfw(t:T)(g:List Cp):List Cp:=g.take 3++(.arr .u8 t 128::(match g.getLast? with|some x=>[x]|none=>[]))
def quT(n:T):T:=.cut (fA 511 (.iv 30) z0 z0 z0 (.alit [])) z0 n
def qds:List SR→Hp→Option Jh:=En fun b fr h=>{
  lo:=48,hi:=89
  tr:=(59,.v (.one (cI (.iv b))))::Gq b 13 3
  rw:=[(Fl fr 8,qfw (.av b) (jkk h (Fl fr 8)))]
  facts:=Di (.lit 0) (.iv b) (.lit 2)++ [.eq (.len (.av b)) (.lit 128),.aeq (.cut (.av b) z0 (.mul (.lit 64) (.iv b))) (quT (.mul (.lit 64) (.iv b)))]
  meas:=.sub (.lit 2) (.iv b)
  quiet:=true}
def qd1:List SR→Hp→Option Jh:=En fun b fr h=>{
  lo:=63,hi:=88
  tr:=(62,.v (.one (cI (.iv b))))::Gq b 14 2
  rw:=[(Fl fr 8,qfw (.av b) (jkk h (Fl fr 8)))]
  facts:=Di (.lit 0) (.iv b) (.lit 64)++ [.eq (.len (.av b)) (.lit 128),.aeq (.cut (.av b) z0 (.add (.mul (.lit 64) (Js fr 59)) (.iv b))) (quT (.add (.mul (.lit 64) (Js fr 59)) (.iv b)))]
  meas:=.sub (.lit 64) (.iv b)
  quiet:=true}
def jtl:Nat→Nat→Option (List SR→Hp→Option Jh):=fun f k=>match f,k with
  | 45,22=>some qds
  | 45,25=>some qd1
  | _,_=>none
def j0k:Nat→Option Ff:=fun f=>match f with
  | 153=>some (Cx jq5)
  | 154=>some (Cx jnl)
  | 155=>some (Cx jvm)
  | 67=>some (Cx c67)
  | 81=>j64 81
  | _=>none
end
end Go.Proofs.YtljjbikbfeigdaaGreatDoor
