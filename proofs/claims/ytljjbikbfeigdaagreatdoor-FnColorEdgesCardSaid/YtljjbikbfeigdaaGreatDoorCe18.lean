/- Part of the proof of FnColorEdgesCardSaid: Contracts of the specification's reader: a scan of a gray image. -/
import Derived.Test.YtljjbikbfeigdaaGreatDoorCe17
set_option linter.all false
namespace Go.Proofs.YtljjbikbfeigdaaGreatDoor
noncomputable section
open Go
def qhe(q i:Nat)(a u p:T):List Cp:=
  [.cells ([.val 50]++(List.range 3).map (fun k=>if k=i then .ptr (.old 4) (Xz (2*q)) (.lit 0) else .val (51+k))++(List.range 3).map (fun k=>if k=i then .ptr (.old 4) (Xz (2*q+1)) (.lit 0) else .val (54+k))++ [.val 57,.val 58,.val 59,cI z0,jcm,cI a,cI u,.bool .ff]++(List.range 3).map (fun k=>if k=i then cI p else .val (61+k))++ [.val 64])]
def bSB(q i:Nat)(a u p:T):Cl×Gn:=(.old 1,⟨118,qhe q i a u p⟩)
def c53(q i:Nat):Hg where
  args:=[qdr,.v (.one (.bool .ff)),.v (.one (cI (.lit i))),blP]
  hp:={rw:=[bSB q i (.iv 0) (.iv 1) (.iv 3),bD,jjw [2*q,2*q+1],bSy (2*q),bSy (2*q+1),bBl (.av 7)],nv:=1000}
  pre:=jef (.iv 0) (.iv 1)++qc2++Di (.lit (-1024)) (.iv 3) (.lit 1023)++ [Mc (420+q) (.iv 0) (.iv 1) (.iv 3) z0]
  val:=.tup []
  hp':={rw:=[bSB q i (fDB (420+q) (.iv 5) (.iv 0) (.iv 1) (.iv 3) (.av 7)) (fDB (422+q) (.iv 5) (.iv 0) (.iv 1) (.iv 3) (.av 7)) (.add (.iv 3) (fD (270+q) (.iv 0) (.iv 1) z0 z0)),bD,jjw [2*q,2*q+1],bSy (2*q),bSy (2*q+1),bBl (jzo (424+q) (.iv 5) (.iv 0) (.iv 1) (.iv 3) (.av 7))]}
  post:=[]
  quiet:=true
def spB(q i:Nat):Nat→Option Ec:=fun f=>match f with
  | 74=>some (Gp (c74 q i))
  | 75=>some (Gp (c75 (2*q+1)))
  | _=>none
def jen:List Aw:=List.replicate 67 (.int .i64 (.lit 0))++ [.nils]
def Gq(b lo n:Nat):List (Nat×SR):=(List.range' lo n).map fun k=>(k,.v (.one (.junk (b+100+k))))
def jt6(h:Hp)(r:Cl)(n:Nat):List Aw:=match Jr h.rw r with
  | some b=>match b.segs with
    | .cells l::_=>l.take n
    | _=>[]
  | none=>[]
def Fl(fr:List SR)(k:Nat):Cl:=match Do fr k with
  | .v (.one (.ptr r _ _))=>r
  | _=>.new 0
def Lb:Nat→Bool:=fun f=> !(f==51)
def Jd:Nat→Bool:=fun _=>true
def j3t:SR:=.v (.one jcm)
def gD(k:T):T:=.get (.av 1) k
def Wy(a:T)(m:Int):Hg where
  args:=[j3t,.v (.one (cI a))]
  hp:={rw:=[bD],nv:=1000}
  pre:=Ny++ [.le (.lit 0) a,.lt (.add a (.lit 1)) (.iv 6),.eq (gD a) (.lit 255),.eq (gD (.add a (.lit 1))) (.lit m)]
  val:=.tup [.one (cI (.lit m)),.one (cI (match a with|.lit n=>.lit (n+2)|a=>.add a (.lit 2)))]
  hp':={rw:=[bD]}
  post:=[]
  quiet:=true
def qg1(a:T):List SR→Hp→Option Jh:=En fun b _ _=>{
  lo:=6,hi:=31
  tr:=[(1,.v (.one (cI (.iv b))))]
  facts:=Di a (.iv b) (.add a (.lit 1))
  meas:=.sub (.add a (.lit 2)) (.iv b)
  quiet:=true}
def Xr(a n:Nat):Hg where
  args:=[j3t,.v (.one (cI (.lit a)))]
  hp:={rw:=[bD],nv:=1000}
  pre:=Ny++ [.le (.lit (a+n:Nat)) (.iv 6),.eq (gD (.lit a)) (.lit (n/256:Nat)),.eq (gD (.lit (a+1:Nat))) (.lit (n % 256:Nat))]
  val:=.tup [.one (.sl (.old 2) 0 (.lit (a+2:Nat)) (.lit (n-2:Nat)) (.sub (.iv 7) (.lit (a+2:Nat)))),.one (cI (.lit (a+n:Nat))),.one (.bool .tt)]
  hp':={rw:=[bD]}
  post:=[]
  quiet:=true
def jc7(cs:List Aw)(q:T)(tabs:List Cp)(sc miss:T):Cl×Gn:=(.old 4,⟨73,.cells cs:: .arr .i64 q 256::(tabs++ [.cells [cI z0,cI sc],.arr .i64 miss 192])⟩)
def cs0:List Aw:=[cI z0,cI z0,cI z0,.nils,.bool .ff,cI z0,cI z0,.nils]
def qf(j:Nat)(k q:T):T:=.fa 411 (.lit j) k z0 z0 q (.av 2) (.alit []) (.alit [])
def c48:Hg where
  args:=[p0 (.old 4),slR (.ro 0) (.lit 0) (.lit 130) (.iv 10)]
  hp:={rw:=[jc7 cs0 (.av 30) (Th []) z0 (.av 31)],ro:=[(.ro 0,.u8,.av 2)],nv:=1000}
  pre:=[.le (.lit 130) (.iv 10),.eq (.len (.av 2)) (.lit 130),.eq (.len (.av 30)) (.lit 256),Du 0 255 (.av 2),.eq (.get (.av 2) z0) z0,.eq (.get (.av 2) (.lit 65)) (.lit 1),Du 1 255 (.cut (.av 2) (.lit 1) (.lit 64)),Du 1 255 (.cut (.av 2) (.lit 66) (.lit 64))]
  val:=.v (.one (.bool .tt))
  hp':={rw:=[jc7 cs0 (qf 1 (.lit 64) (qf 0 (.lit 64) (.av 30))) (Th []) z0 (.av 31)],ro:=[(.ro 0,.u8,.av 2)]}
  post:=[]
  quiet:=true
def qh2(fr:List SR):Nat:=match Do fr 1 with
  | .v (.one (.sl _ s d _ _))=>if Nat.beq s 0&&d.isZ then 0 else 1
  | _=>0
def qfy:List SR→Hp→Option Jh:=En fun b fr _=>{
  lo:=28,hi:=52
  tr:=[(27,.v (.one (cI (.iv b)))),(5,.v (.one (.junk (b+105))))]
  rw:=[(.old 4,.cells cs0:: .arr .i64 (.av b) 256::(Th []++ [.cells [cI z0,cI z0],.arr .i64 (.av 31) 192]))]
  facts:=Di (.lit 0) (.iv b) (.lit 64)++ [.eq (.len (.av b)) (.lit 256),.aeq (.av b) (qf (qh2 fr) (.iv b) (match qh2 fr with|0=>.av 30|_=>qf 0 (.lit 64) (.av 30)))]
  meas:=.sub (.lit 64) (.iv b)
  quiet:=true}
def qld(h:Nat):List Cp:=[.arr .i64 (cA (300+h)) 17,.cells [.sl (.own (130+h)) 0 (.lit 0) (.lit (La h)) (.iv (130+h))]]
def j8n(hs:List Nat):List Cp:=(List.range 8).flatMap fun k=>match hs.find? (fun h=>Nat.beq (jwy h) k) with
  | some h=>qld h
  | none=>[.arr .i64 (.av (40+k)) 17,.cells [.val (70+k)]]
def jve(h:Nat):Cl×Gn:=(.own (130+h),⟨3,[.arrD .i64 (cA (310+h)),.tail [.int .i64 (.lit 0)] (.iv (134+h))]⟩)
def j41(l:Aw)(g:List Cp):List Cp:=match g.getLast? with
  | some (.cells c)=>g.dropLast++ [.cells (c.dropLast++ [l])]
  | _=>g
def Wj(fr:List SR)(k:Nat):Nat:=match Do fr k with
  | .v (.one (.int _ t))=>match t.view with
    | .lit n=>n.toNat
    | _=>0
  | _=>0
def jkk(h:Hp)(r:Cl):List Cp:=match Jr h.rw r with
  | some b=>b.segs
  | none=>[]
def j8e:List SR→Hp→Option Jh:=fun fr h=>
  let b:=h.nv
  let t:=2*Wj fr 6+Wj fr 5
  some {fr:=jzg b 88 121 ((87,.v (.one (cI (.iv b))))::Gq b 13 1) 0 fr,
         h:={h with rw:=jxh [(Fl fr 7,j41 (.val b) (jkk h (Fl fr 7))),(Fl fr 11,[.bar (.av (b+1)) 256])] h.rw,ow:=some ⟨b,3,.i64,.av b⟩,nv:=b+400},
         facts:=Di (.lit 0) (.iv b) (.lit (La t))++ [.eq (.len (.av (b+1))) (.lit 256),.eq (.len (.av b)) (.iv b),.aeq (.av b) (.cut (cA (310+t)) z0 (.iv b)),.aeq (.av (b+1)) (fA 413 (.lit t) (.iv b) z0 z0 (.alit []))],
         meas:=.sub (.lit (La t)) (.iv b),quiet:=false}
def jqf(s:Nat)(t:T):List SR→Hp→Option Jh:=fun _ _=>some ⟨[],{rw:=[],nv:=s},[],t,true⟩
def jx8(k:T):T:=fA 412 k z0 z0 z0 (.alit [])
def g2(k:Int):T:=.get (.av 2) (.lit k)
def hdW:T:=.add (.mul (g2 3) (.lit 256)) (g2 4)
def hdH:T:=.add (.mul (g2 1) (.lit 256)) (g2 2)
def qg2:List SR→Hp→Option Jh:=En fun b _ h=>{
  lo:=243,hi:=254
  tr:=[(242,.v (.one (cI (.iv b)))),(16,.v (.one (.junk (b+116))))]
  rw:=[(.old 4,(match Jr h.rw (.old 4) with|some x=>x.segs.dropLast|none=>[])++ [.arr .i64 (.av b) 192])]
  facts:=Di (.lit 0) (.iv b) (.lit 64)++ [.eq (.len (.av b)) (.lit 192),.aeq (.av b) (jx8 (.iv b))]
  meas:=.sub (.lit 64) (.iv b)
  quiet:=true}
def Tv(a:T):Nat→Nat→Option (List SR→Hp→Option Jh):=fun f k=>match f,k with
  | 31,3=>some (qg1 a)
  | 48,8=>some qfy
  | 50,34=>some qg2
  | 50,2000004=>some (jqf 7 (.lit 1))
  | 49,19=>some j8e
  | 49,1000026=>some fun _ _=>none
  | _,_=>none
def c47:Hg where
  args:=[p0 (.old 7)]
  hp:={rw:=[(.old 7,⟨27,[.arr .i64 (.av 7) 64]⟩)],nv:=1000}
  pre:=[fA441]
  val:=.v (.one (.bool .tt))
  hp':={rw:=[(.old 7,⟨27,[.arr .i64 (.av 7) 64]⟩)]}
  post:=[]
  quiet:=true
where fA441:T:=.fb 441 z0 z0 z0 z0 (.av 7) (.alit []) (.alit []) (.alit [])
def qgg:List SR→Hp→Option Jh:=En fun b _ _=>{
  lo:=22,hi:=32
  tr:=(21,.v (.one (cI (.iv b))))::Gq b 4 1
  facts:=Di (.lit 0) (.iv b) (.lit 63)
  meas:=.sub (.lit 63) (.iv b)
  quiet:=true}
def qb9:List SR→Hp→Option Jh:=En fun b _ _=>{
  lo:=46,hi:=67
  tr:=(45,.v (.one (cI (.iv b))))::Gq b 9 1
  facts:=Di (.lit 0) (.iv b) (.lit 64)
  meas:=.sub (.lit 64) (.iv b)
  quiet:=true}
def Js(fr:List SR)(k:Nat):T:=match Do fr k with
  | .v (.one (.int _ t))=>t
  | _=>z0
def qbc:List SR→Hp→Option Jh:=En fun b fr _=>{
  lo:=71,hi:=77
  tr:=(70,.v (.one (cI (.iv b))))::Gq b 11 1
  facts:=Di (.lit 0) (.iv b) (Js fr 69)
  meas:=.sub (Js fr 69) (.iv b)
  quiet:=false}
def jim(l:List (Int×Hg))(d:Hg):Ec:=fun (args:List SR) (h:Hp)=>match args[(1:Nat)]? with
  | some (.v (.one (.int _ t)))=>match t.view with
    | .lit m=>match l.find? (fun x=>x.1==m) with
      | some x=>Gp x.2 args h
      | none=>Gp d args h
    | _=>Gp d args h
  | _=>Gp d args h
def jwo:Nat→Nat→Option (List SR→Hp→Option Jh):=fun f k=>match f,k with
  | 47,4=>some qgg
  | 32,11=>some qb9
  | 32,16=>some qbc
  | _,_=>none
def jr5:Nat→Bool:=fun f=>f==34||f==32
end
end Go.Proofs.YtljjbikbfeigdaaGreatDoor
