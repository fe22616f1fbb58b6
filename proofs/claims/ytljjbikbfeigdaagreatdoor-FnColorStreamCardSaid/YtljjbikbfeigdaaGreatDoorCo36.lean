/- Part of the proof of FnColorStreamCardSaid: Contracts of the encoder: the blocks of a 4:2:0 image. -/
import Derived.Test.YtljjbikbfeigdaaGreatDoorCo35
set_option linter.all false
namespace Go.Proofs.YtljjbikbfeigdaaGreatDoor
noncomputable section
open Go
def jkc:List (Cl×Gn):=[(.old 21,⟨91,[.cells [.sl (.old 22) 0 z0 (.iv 20) (.iv 20),.sl (.old 22) 0 (.iv 20) (.iv 24) (.iv 24),.sl (.old 22) 0 (.add (.iv 20) (.iv 24)) (.iv 24) (.iv 24),cI (.iv 21),cI (.iv 25),cI (.lit 2),cI z0,cI z0,cI (.iv 21),cI (.iv 22)]]⟩),(.old 22,⟨5,[.arrD .u8 (.av 5)]⟩)]
def hf(t:T):T:=.tdiv (.add t (.lit 1)) (.lit 2)
def ja7:List T:=Di (.lit 1) (.iv 21) (.lit 65535)++Di (.lit 1) (.iv 22) (.lit 65535)++ [.eq (.iv 20) (.mul (.iv 21) (.iv 22)),.eq (.iv 25) (hf (.iv 21)),.eq (.iv 24) (.mul (.iv 25) (hf (.iv 22))),.eq (.len (.av 5)) (.add (.iv 20) (.mul (.lit 2) (.iv 24))),Du 0 255 (.av 5)]
def bB4(k:Nat)(a:T):Cl×Gn:=(.old k,⟨183,[.arr .i32 a 256]⟩)
def chT(f:Nat)(x y:T):T:=.fa f x y (.iv 21) (.iv 22) (.av 5) (.alit []) (.alit []) (.alit [])
def qaf(a s b n:T):T:=.splice a s (.cut b z0 n)
def pxy:List T:=Di z0 (.iv 5) (.lit 65551)++Di z0 (.iv 6) (.lit 65551)
def c91:Hg where
  args:=[p0 (.old 21),.v (.agg [.cells [cI (.iv 5),cI (.iv 6)]]),p0 (.old 20),.v (.one (.ptr (.old 23) 0 (.iv 7))),.v (.one (.ptr (.old 24) 0 (.iv 8)))]
  hp:={rw:=jkc++ [bB 20 (.av 4),bB4 23 (.av 10),bB4 24 (.av 11)],nv:=1000}
  pre:=ja7++pxy++Di z0 (.iv 7) (.lit 192)++Di z0 (.iv 8) (.lit 192)++ [.eq (.len (.av 4)) (.lit 64),.eq (.len (.av 10)) (.lit 256),.eq (.len (.av 11)) (.lit 256)]
  val:=.tup []
  hp':={rw:=jkc++ [bB 20 (jkx (.iv 5) (.iv 6)),bB4 23 (.splice (.av 10) (.iv 7) (chT 91 (.iv 5) (.iv 6))),bB4 24 (.splice (.av 11) (.iv 8) (chT 92 (.iv 5) (.iv 6)))]}
  post:=[]
  quiet:=false
def qhq(n:T):List (Cl×List Cp):=[(.old 20,[.arr .i32 (qaf (.av 4) z0 (jkx (.iv 5) (.iv 6)) n) 64]),(.old 23,[.arr .i32 (qaf (.av 10) (.iv 7) (chT 91 (.iv 5) (.iv 6)) n) 256]),(.old 24,[.arr .i32 (qaf (.av 11) (.iv 8) (chT 92 (.iv 5) (.iv 6)) n) 256])]
def qdi:List SR→Hp→Option Jh:=En fun b _ _=>{
  lo:=29,hi:=106
  tr:=(13,.v (.one (cI (.iv b))))::Gq b 14 5
  rw:=qhq (.mul (.lit 8) (.iv b))
  facts:=Di z0 (.iv b) (.lit 8)
  meas:=.sub (.lit 8) (.iv b)
  quiet:=true}
def qc6:List SR→Hp→Option Jh:=En fun b fr _=>{
  lo:=40,hi:=106
  tr:=(15,.v (.one (cI (.iv b))))::Gq b 16 3
  rw:=qhq (.add (.mul (.lit 8) (Js fr 13)) (.iv b))
  facts:=Di z0 (.iv b) (.lit 8)
  meas:=.sub (.lit 8) (.iv b)
  quiet:=true}
def scT(n:T):T:=.fa 94 n z0 z0 z0 (.av 10) (.av 4) (.alit []) (.alit [])
def c93:Hg where
  args:=[p0 (.old 20),p0 (.old 23)]
  hp:={rw:=[bB 20 (.av 4),bB4 23 (.av 10)],nv:=1000}
  pre:=[.eq (.len (.av 4)) (.lit 64),.eq (.len (.av 10)) (.lit 256),Du 0 255 (.av 10)]
  val:=.tup []
  hp':={rw:=[bB 20 (fA 93 z0 z0 z0 z0 (.av 10)),bB4 23 (.av 10)]}
  post:=[]
  quiet:=true
def j9l:List SR→Hp→Option Jh:=En fun b fr _=>{
  lo:=21,hi:=80
  tr:=(6,.v (.one (cI (.iv b))))::Gq b 7 3
  rw:=[(.old 20,[.arr .i32 (scT (.add (.lit (16*Wj fr 4:Nat)) (.mul (.lit 4) (.iv b)))) 64])]
  facts:=Di z0 (.iv b) (.lit 4)
  meas:=.sub (.lit 4) (.iv b)
  quiet:=true}
def qbx:List SR→Hp→Option Jh:=En fun b fr _=>{
  lo:=25,hi:=80
  tr:=(7,.v (.one (cI (.iv b))))::Gq b 8 2
  rw:=[(.old 20,[.arr .i32 (scT (.add (.add (.lit (16*Wj fr 4:Nat)) (.mul (.lit 4) (Js fr 6))) (.iv b))) 64])]
  facts:=Di z0 (.iv b) (.lit 4)
  meas:=.sub (.lit 4) (.iv b)
  quiet:=true}
def j73:Nat→Nat→Option (List SR→Hp→Option Jh):=fun f k=>match f,k with
  | 91,5=>some qdi
  | 91,11=>some qc6
  | 93,5=>some j9l
  | 93,8=>some qbx
  | _,_=>none
end
end Go.Proofs.YtljjbikbfeigdaaGreatDoor
namespace Go.Proofs.YtljjbikbfeigdaaGreatDoor
noncomputable section
open Go
def l5(a b c d e:T):T:=app (one a) (app (one b) (app (one c) (app (one d) (one e))))
def qiq(x y p q r s:T):T:=.fa 502 x y z0 z0 s (.av 3) (.av 5) (l5 (.iv 21) (.iv 22) p q r)
def qbr:T:=.fa 503 z0 z0 z0 z0 s0 (.av 3) (.av 5) wh
def j8j:SR:=.v (.one (.iface 86 (pL0 (.old 21))))
def jk8:Int:=200000000000
def j25:Hg where
  args:=[p0 (.old 0),j8j]
  hp:={rw:=hE 0 (.iv 0) (.av 1) (.iv 1) (.iv 2) (.av 2) (.av 3)++jkc,ro:=roE,nv:=1000,ow:=owW 0 (.av 0)}
  pre:=Tt jk8++ja7++ [.eq (.len (.av 3)) (.lit 128),Du 1 255 (.av 3)]
  val:=.tup []
  hp':={rw:=hE 100 (.iv 100) (.av 101) (.iv 101) (.iv 102) (.av 2) (.av 3)++jkc,ro:=roE,ow:=owW 100 (.av 100)}
  post:=jg8 jk8 qbr
  quiet:=false
def j8l(b:Nat):List (Nat×SR):=[(7,.v (.one (.int .i32 (.iv (b+4))))),(8,.v (.one (.int .i32 (.iv (b+5))))),(9,.v (.one (.int .i32 (.iv (b+6)))))]
def j7j(b:Nat):List T:=Di (.lit (-1024)) (.iv (b+4)) (.lit 1023)++Di (.lit (-1024)) (.iv (b+5)) (.lit 1023)++Di (.lit (-1024)) (.iv (b+6)) (.lit 1023)++ [.eq (.len (.av (b+2))) (.lit 64),.eq (.len (.av (b+4))) (.lit 256),.eq (.len (.av (b+5))) (.lit 256)]
def jwx(b:Nat)(fr:List SR):List (Cl×List Cp):=rwE b++ [(Fl fr 4,[.arr .i32 (.av (b+2)) 64]),(Fl fr 5,[.arr .i32 (.av (b+4)) 256]),(Fl fr 6,[.arr .i32 (.av (b+5)) 256])]
def j9x:List SR→Hp→Option Jh:=En fun b fr _=>{
  lo:=52,hi:=122
  tr:=(20,.v (.one (cI (.iv (b+3)))))::(j8l b++Gq b 21 5)
  rw:=jwx b fr
  ow:=some (.av b)
  facts:=okB b++ [.le z0 (.iv (b+3)),.le (.iv (b+3)) (.add (.iv 22) (.lit 15))]++j7j b++ [
    .le (.add (.len (.av b)) (.iv (b+2))) (.add (.add (.len (.av 0)) (.iv 0)) (.add (.lit 14) (.mul (.lit 1769904) (.iv (b+3))))),
    .aeq (qiq z0 (.iv (b+3)) (.iv (b+4)) (.iv (b+5)) (.iv (b+6)) (stB b)) qbr]
  meas:=.sub (.add (.iv 22) (.lit 16)) (.iv (b+3))
  quiet:=false}
def qbz:List SR→Hp→Option Jh:=En fun b fr _=>{
  lo:=62,hi:=122
  tr:=(21,.v (.one (cI (.iv (b+3)))))::(j8l b++Gq b 22 4)
  rw:=jwx b fr
  ow:=some (.av b)
  facts:=okB b++ [.le z0 (.iv (b+3)),.le (.iv (b+3)) (.add (.iv 21) (.lit 15))]++j7j b++ [
    .le (.add (.len (.av b)) (.iv (b+2))) (.add (.add (.len (.av 0)) (.iv 0)) (.add (.lit 14) (.add (.mul (.lit 1769904) (Js fr 20)) (.mul (.lit 432) (.iv (b+3)))))),
    .aeq (qiq (.iv (b+3)) (Js fr 20) (.iv (b+4)) (.iv (b+5)) (.iv (b+6)) (stB b)) qbr]
  meas:=.sub (.add (.iv 21) (.lit 16)) (.iv (b+3))
  quiet:=false}
def qfg:Nat→Nat→Option (List SR→Hp→Option Jh):=fun f k=>match f,k with
  | 67,13=>some j9x
  | 67,16=>some qbz
  | _,_=>none
def jyr:Nat→Option Ec:=fun f=>match f with
  | 93=>some (Gp c93)
  | _=>none
def jr7:Nat→Option Ff:=fun f=>match f with
  | 154=>some (Cx jnl)
  | 91=>some (Cx c91)
  | 89=>some (fun args h=>match jhw 2 0 args with|true=>Cx (c89 0) args h|false=>Cx (c89 1) args h)
  | 94=>some (Cx c94)
  | _=>none
end
end Go.Proofs.YtljjbikbfeigdaaGreatDoor
namespace Go.Proofs.YtljjbikbfeigdaaGreatDoor
noncomputable section
open Go
def j45:Hg where
  args:=[.v (.one (.iface 96 (pL0 (.old 3)))),j8j,p0 (.old 8)]
  hp:={rw:=[bW 0,juu]++jkc,ro:=Vd,nv:=1000,ow:=owW 0 (.av 0)}
  pre:=ja7++Di (.lit 1) (.iv 30) (.lit 100)++ [.aeq (.av 0) (.alit [])]
  val:=.v (.one .nilI)
  hp':={rw:=[bW 100,juu]++jkc,ro:=Vd,ow:=owW 100 (.av 100)}
  post:=[.aeq (.av 100) (.fa 512 (.iv 30) (.iv 21) (.iv 22) z0 (.av 5) (.alit []) (.alit []) (.alit [])),.le (.len (.av 100)) Gl]
  quiet:=false
def j0a:Nat→Option Ff:=fun f=>match f with
  | 153=>some (Cx jq5)
  | 154=>some (Cx jnl)
  | 155=>some (Cx jvm)
  | 67=>some (Cx j25)
  | 81=>j64 81
  | _=>none
def j2v:Hg where
  args:=[slR (.old 22) (.iv 26) (.iv 20) (.iv 20),.v (.one (cI (.iv 21))),slR (.ro 0) z0 (.iv 20) (.iv 9),.v (.one (cI (.iv 21))),.v (.one (cI (.iv 22)))]
  hp:={rw:=[(.old 22,⟨5,[.arrD .u8 (.av 4)]⟩)],ro:=[(.ro 0,.u8,.av 5)],nv:=1000}
  pre:=Di (.lit 1) (.iv 21) (.lit 65535)++Di (.lit 1) (.iv 22) (.lit 65535)++ [.eq (.iv 20) (.mul (.iv 21) (.iv 22)),.eq (.len (.av 5)) (.iv 20),.le z0 (.iv 26),.le (.add (.iv 26) (.iv 20)) (.len (.av 4)),.le (.len (.av 4)) Gl,.le (.iv 20) (.iv 9)]
  val:=.tup []
  hp':={rw:=[(.old 22,⟨5,[.arrD .u8 (.splice (.av 4) (.iv 26) (.av 5))]⟩)],ro:=[(.ro 0,.u8,.av 5)]}
  post:=[]
  quiet:=true
def qb8:List SR→Hp→Option Jh:=En fun b _ _=>{
  lo:=14,hi:=37
  tr:=(13,.v (.one (cI (.iv b))))::Gq b 10 2
  rw:=[(.old 22,[.arrD .u8 (.splice (.av 4) (.iv 26) (.cut (.av 5) z0 (.mul (.iv b) (.iv 21))))])]
  facts:=Di z0 (.iv b) (.iv 22)
  meas:=.sub (.iv 22) (.iv b)
  quiet:=true}
def j8i:Nat→Nat→Option (List SR→Hp→Option Jh):=fun f k=>match f,k with
  | 29,1=>some qb8
  | 30,1000003=>some (fun _ _=>none)
  | _,_=>none
def c25:Hg where
  args:=[slR (.ro 0) z0 (.iv 20) (.iv 9),slR (.ro 1) z0 (.iv 24) (.iv 10),slR (.ro 2) z0 (.iv 27) (.iv 11),.v (.one (cI (.lit 2))),.v (.one (cI (.iv 21))),.v (.one (cI (.iv 22))),.v (.one (cI (.iv 30)))]
  hp:={rw:=[],ro:=[(.ro 0,.u8,.av 5),(.ro 1,.u8,.av 6),(.ro 2,.u8,.av 7)]++Vd,nv:=1000}
  pre:=Di (.lit 1) (.iv 21) (.lit 65535)++Di (.lit 1) (.iv 22) (.lit 65535)++ [.eq (.iv 20) (.mul (.iv 21) (.iv 22)),.eq (.iv 24) (.mul (hf (.iv 21)) (hf (.iv 22))),.eq (.iv 27) (.iv 24),.eq (.len (.av 5)) (.iv 20),.eq (.len (.av 6)) (.iv 24),.eq (.len (.av 7)) (.iv 24),Du 0 255 (.av 5),Du 0 255 (.av 6),Du 0 255 (.av 7),.le (.iv 20) (.iv 9),.le (.iv 24) (.iv 10),.le (.iv 27) (.iv 11)]++Di (.lit 1) (.iv 30) (.lit 100)
  val:=.tup [.one (.sl (.own 101) 0 z0 (.iv 120) (.iv 121)),.one (cI z0)]
  hp':={rw:=[(.own 101,⟨5,[.arrD .u8 (.av 100),.tail [.int .u8 z0] (.sub (.iv 121) (.iv 120))]⟩)],ro:=[(.ro 0,.u8,.av 5),(.ro 1,.u8,.av 6),(.ro 2,.u8,.av 7)]++Vd}
  post:=[.eq (.iv 120) (.len (.av 100)),.le (.iv 120) (.iv 121),.aeq (.av 100) (.fa 512 (.iv 30) (.iv 21) (.iv 22) z0 (app (.av 5) (app (.av 6) (.av 7))) (.alit []) (.alit []) (.alit [])),.le (.len (.av 100)) Gl]
  quiet:=false
def qh3(P:Program):Nat→Option Ec:=jeh P (fun f=>f==43||f==44||f==58||f==46) (fun f=>match f with
  | 57=>some (Gp c57)
  | 29=>some (Gp j2v)
  | _=>none) 1000 5
def jze:Nat→Option Ff:=fun f=>match f with
  | 45=>some (Cx j45)
  | _=>none
end
end Go.Proofs.YtljjbikbfeigdaaGreatDoor
namespace Go.Proofs.YtljjbikbfeigdaaGreatDoor
noncomputable section
open Go
def i3(a b c:T):List Aw:=[cI a,cI b,cI c]
def Xk(r:Cl)(b0 b1 b2:Cl)(n0 n1 n2 cap:T)(q0 q1 q2:T):Cl×Gn:=
  (r,⟨30,[.cells (i3 (.lit 1) (.lit 2) (.lit 2)),.arr .i64 q0 64,.cells (.sl b0 0 z0 n0 n0::i3 (.lit 2) (.lit 1) (.lit 1)),.arr .i64 q1 64,.cells (.sl b1 0 z0 n1 n1::i3 (.lit 3) (.lit 1) (.lit 1)),.arr .i64 q2 64,.cells [.sl b2 0 z0 n2 n2],.tail jen (.sub cap (.lit 3))]⟩)
def j88(r:Cl)(cap:T):Cl×Gn:=(r,⟨3,[.cells (i3 z0 (.lit 1) (.lit 1)),.tail [.int .i64 (.lit 0)] (.sub cap (.lit 3))]⟩)
def jqm(k:T):T:=fA 414 k z0 z0 z0 (.alit [])
def jfv(k:T):T:=fA 415 k z0 z0 z0 (.alit [])
def j85(w h:T)(rc rd:Cl)(cc cd hd:T):List Aw:=[cI (.lit 192),cI w,cI h,.sl rc 0 z0 (.lit 3) cc,.bool .ff,cI hd,cI (.lit 192),.sl rd 0 z0 (.lit 3) cd]
def jti(hd sc miss:T):Cl×Gn:=jc7 (j85 (.iv 21) (.iv 22) (.old 5) (.old 6) (.iv 50) (.iv 51) hd) (.av 30) (Th [0,1,2,3]) sc miss
def jkw(q0 q1:T):Cl×Gn:=Xk (.old 5) (.old 7) (.old 8) (.old 9) (.iv 20) (.iv 23) (.iv 23) (.iv 50) q0 q1 q1
def jkf:Cl×Gn:=j88 (.old 6) (.iv 51)
def qdj:Hg where
  args:=[p0 (.old 4),slR (.ro 0) (.lit 0) (.lit 416) (.iv 10)]
  hp:={rw:=[jc7 ([.val 80,.val 81,.val 82,.val 83,.val 84,.val 85,cI (.lit 192),.val 87]) (.av 30) (Th []) z0 (.av 31)],ro:=[(.ro 0,.u8,.alit Ns)],nv:=1000}
  pre:=[.le (.lit 416) (.iv 10)]
  val:=.v (.one (.bool .tt))
  hp':={rw:=[jc7 ([.val 80,.val 81,.val 82,.val 83,.val 84,.val 85,cI (.lit 192),.val 87]) (.av 30) (j8n [0,1,2,3]) z0 (.av 31),jve 0,jve 1,jve 2,jve 3],ro:=[(.ro 0,.u8,.alit Ns)]}
  post:=[]
  quiet:=false
def nmT:T:=.fi 438 hdW hdH z0 z0 (.alit []) (.alit []) (.alit []) (.alit [])
def j6m:Hg where
  args:=[p0 (.old 4),.v (.one (cI (.lit 192))),slR (.ro 0) (.lit 0) (.lit 15) (.iv 10)]
  hp:={rw:=[jc7 cs0 (.av 30) (Th []) z0 (jqm z0)],ro:=[(.ro 0,.u8,.av 2)],nv:=1000}
  pre:=[.le (.lit 15) (.iv 10),.eq (.len (.av 2)) (.lit 15),Du 0 255 (.av 2),.eq (g2 0) (.lit 8),.eq (g2 5) (.lit 3),.eq (g2 6) (.lit 1),.eq (g2 7) (.lit 34),.eq (g2 8) z0,.eq (g2 9) (.lit 2),.eq (g2 10) (.lit 17),.eq (g2 11) (.lit 1),.eq (g2 12) (.lit 3),.eq (g2 13) (.lit 17),.eq (g2 14) (.lit 1),.le (.lit 1) hdW,.le (.lit 1) hdH,.le (.mul hdW hdH) (.lit 65536)]
  val:=.v (.one (.bool .tt))
  hp':={rw:=[jc7 (j85 hdW hdH (.own 105) (.own 106) (.iv 105) (.iv 106) z0) (.av 30) (Th []) z0 (jqm (.lit 192)),
      Xk (.own 105) (.own 107) (.own 108) (.own 109) (.iv 120) (.iv 121) (.iv 122) (.iv 105) (.rep (.lit 64) z0) (.rep (.lit 64) z0) (.rep (.lit 64) z0),j88 (.own 106) (.iv 106),
      (.own 107,⟨27,[.arrD .i64 (.av 107)]⟩),(.own 108,⟨27,[.arrD .i64 (.av 108)]⟩),(.own 109,⟨27,[.arrD .i64 (.av 109)]⟩)],ro:=[(.ro 0,.u8,.av 2)]}
  post:=[.eq (.iv 120) (.mul (.lit 4) nmT),.eq (.iv 121) nmT,.eq (.iv 122) nmT,.aeq (.av 107) (fA 437 (.iv 120) z0 z0 z0 (.alit [])),.aeq (.av 108) (fA 437 (.iv 121) z0 z0 z0 (.alit [])),.aeq (.av 109) (fA 437 (.iv 122) z0 z0 z0 (.alit []))]
  quiet:=false
def j8r(h:Hp)(a:T):List (Cl×List Cp):=[(.old 4,(jkk h (.old 4)).dropLast++ [.arr .i64 a 192])]
def qdl:List SR→Hp→Option Jh:=En fun b fr h=>{
  lo:=243,hi:=254
  tr:=[(242,.v (.one (cI (.iv b)))),(16,.v (.one (.junk (b+116))))]
  rw:=j8r h (.av b)
  facts:=Di (.lit 0) (.iv b) (.lit 64)++ [.eq (.len (.av b)) (.lit 192),.aeq (.av b) (jqm (.add (.lit (64*Wj fr 13:Nat)) (.iv b)))]
  meas:=.sub (.lit 64) (.iv b)
  quiet:=true}
def jnb:T:=.alit [3,1,0,2,17,3,17,0,63,0]
def j89:List T:=[.le (.lit 1) (.get (.av 30) z0),.le (.lit 1) (.get (.av 30) (.lit 64))]
def j9u:Hg where
  args:=[p0 (.old 4),slR (.ro 0) (.lit 0) (.lit 10) (.iv 10)]
  hp:={rw:=[jti z0 z0 (jfv z0),jkw (.rep (.lit 64) z0) (.rep (.lit 64) z0),jkf],ro:=[(.ro 0,.u8,jnb)],nv:=1000}
  pre:=.le (.lit 10) (.iv 10)::j89
  val:=.tup [.one (.ptr (.own 101) 0 (.lit 0)),.one (.bool .tt)]
  hp':={rw:=[jti z0 z0 (jfv (.lit 192)),jkw (.cut (.av 30) z0 (.lit 64)) (.cut (.av 30) (.lit 64) (.lit 64)),jkf,
      (.own 101,⟨118,[.cells ([.sl (.own 102) 0 (.lit 0) (.lit 3) (.iv 102)]++ [0,2,2,1,3,3].map (fun h=>.ptr (.old 4) (Xz h) (.lit 0))++ [cI z0,cI (.lit 63),cI z0,cI z0,.nils,cI z0,cI z0,.bool .ff,cI z0,cI z0,cI z0,cI z0])]⟩),
      (.own 102,⟨3,[.cells (i3 z0 (.lit 1) (.lit 2)),.tail [.int .i64 (.lit 0)] (.sub (.iv 102) (.lit 3))]⟩)],ro:=[(.ro 0,.u8,jnb)]}
  post:=[]
  quiet:=false
def qax:List SR→Hp→Option Jh:=En fun b fr h=>{
  lo:=139,hi:=168
  tr:=[(8,.v (.one (cI (.iv b))))]
  rw:=j8r h (.av b)
  facts:=Di (.lit 0) (.iv b) (.lit 64)++ [.eq (.len (.av b)) (.lit 192),.aeq (.av b) (jfv (.add (.lit (64*Wj fr 7:Nat)) (.iv b)))]
  meas:=.sub (.lit 64) (.iv b)
  quiet:=true}
def stT(a u p q r:T):T:=app (one a) (app (one u) (app (one p) (app (one q) (app (one r) (.av 1)))))
def xT:T:=.tdiv (.add (.iv 21) (.lit 15)) (.lit 16)
def qgi:List T:=Di (.lit 1) (.iv 21) (.lit 65535)++Di (.lit 1) (.iv 22) (.lit 65535)++ [.le (.mul (.iv 21) (.iv 22)) (.lit 65536),.eq (.iv 23) (.mul xT (.tdiv (.add (.iv 22) (.lit 15)) (.lit 16))),.eq (.iv 20) (.mul (.lit 4) (.iv 23))]
def fC(k:Nat):T:=.fa k (.iv 23) (.iv 0) xT z0 (.av 1) (.av 7) (.av 8) (.av 9)
def Ye(k:Nat)(a:T):Cl×Gn:=(.old k,⟨27,[.arrD .i64 a]⟩)
def jh4(k:Nat)(n:T):T:=.eq (.len (.av k)) (.mul (.lit 64) n)
def qa6:Hg where
  args:=[p0 (.old 4),.v (.one (.sl (.old 2) 0 (.lit 579) (.lit 10) (.iv 10))),.v (.one jcm),.v (.one (cI (.iv 0)))]
  hp:={rw:=[jti z0 z0 (jfv z0),jkw (.rep (.lit 64) z0) (.rep (.lit 64) z0),jkf,Ye 7 (.av 7),Ye 8 (.av 8),Ye 9 (.av 9),bD,bSy 0,bSy 1,bSy 2,bSy 3],nv:=1000}
  pre:=Ny++ [.le (.lit 0) (.iv 0),.le (.lit 589) (.iv 6),.le (.lit 10) (.iv 10),.aeq (.cut (.av 1) (.lit 579) (.lit 10)) jnb]++qgi++ [jh4 7 (.iv 20),jh4 8 (.iv 23),jh4 9 (.iv 23)]++j89++ [
    .fb 530 (.iv 23) z0 xT z0 (stT (.iv 0) z0 z0 z0 z0) (.av 7) (.av 8) (.av 9)]
  val:=.tup [.one (cI (.fi 530 (.iv 23) (.iv 0) xT z0 (.av 1) (.av 7) (.av 8) (.av 9))),.one (.bool .tt)]
  hp':={rw:=[jti (.iv 0) (.lit 1) (jfv (.lit 192)),jkw (.cut (.av 30) z0 (.lit 64)) (.cut (.av 30) (.lit 64) (.lit 64)),jkf,Ye 7 (fC 531),Ye 8 (fC 532),Ye 9 (fC 533),bD,bSy 0,bSy 1,bSy 2,bSy 3]}
  post:=[]
  quiet:=false
def j9c:List SR→Hp→Option Jh:=En fun b fr h=>{
  lo:=85,hi:=193
  tr:=(84,.v (.one (cI (.iv b))))::Gq b 15 9
  rw:=[(Fl fr 10,[.cells (jt6 h (Fl fr 10) 11++ [jcm,cI (.iv (b+1)),cI (.iv (b+2)),.bool .ff,cI (.iv (b+3)),cI (.iv (b+4)),cI (.iv (b+5)),cI z0])]),(.old 7,[.arrD .i64 (.av b)]),(.old 8,[.arrD .i64 (.av (b+1))]),(.old 9,[.arrD .i64 (.av (b+2))])]
  facts:=Di (.lit 0) (.iv b) (.iv 23)++ [.le (.lit 0) (.iv (b+1))]++Di (.lit 0) (.iv (b+2)) (.lit 7)++Di (.lit (-1024)) (.iv (b+3)) (.lit 1023)++Di (.lit (-1024)) (.iv (b+4)) (.lit 1023)++Di (.lit (-1024)) (.iv (b+5)) (.lit 1023)++ [jh4 b (.iv 20),jh4 (b+1) (.iv 23),jh4 (b+2) (.iv 23),
    .fb 530 (.sub (.iv 23) (.iv b)) (.iv b) xT z0 (stT (.iv (b+1)) (.iv (b+2)) (.iv (b+3)) (.iv (b+4)) (.iv (b+5))) (.av b) (.av (b+1)) (.av (b+2)),
    .aeq (.fa 530 (.sub (.iv 23) (.iv b)) (.iv b) xT z0 (stT (.iv (b+1)) (.iv (b+2)) (.iv (b+3)) (.iv (b+4)) (.iv (b+5))) (.av b) (.av (b+1)) (.av (b+2))) (.fa 530 (.iv 23) z0 xT z0 (stT (.iv 0) z0 z0 z0 z0) (.av 7) (.av 8) (.av 9))]
  meas:=.sub (.iv 23) (.iv b)
  quiet:=false}
def jme:Nat→Nat→Option (List SR→Hp→Option Jh):=fun f k=>match f,k with
  | 50,34=>some qdl
  | 50,2000004=>some (jqf 7 (.lit 3))
  | 49,19=>some j8e
  | 49,1000026=>some fun _ _=>none
  | 73,17=>some qax
  | 35,13=>some j9c
  | _,_=>none
def jjp(q i:Nat):Hg:={c53 q i with
  hp':={rw:=[bSB q i (.iv 100) (.iv 101) (.iv 102),bD,jjw [2*q,2*q+1],bSy (2*q),bSy (2*q+1),bBl (.av 107)]}
  post:=[.le z0 (.iv 100),.le z0 (.iv 101),.le (.iv 101) (.lit 7),.eq (.iv 100) (fDB (420+q) (.iv 5) (.iv 0) (.iv 1) (.iv 3) (.av 7)),.eq (.iv 101) (fDB (422+q) (.iv 5) (.iv 0) (.iv 1) (.iv 3) (.av 7)),.eq (.iv 102) (.add (.iv 3) (fD (270+q) (.iv 0) (.iv 1) z0 z0)),.aeq (.av 107) (jzo (424+q) (.iv 5) (.iv 0) (.iv 1) (.iv 3) (.av 7)),.eq (.len (.av 107)) (.len (.av 7))]++Di (.lit (-1024)) (.iv 102) (.lit 1023)
  quiet:=false}
def c71:Hg where
  args:=[.v (.one (.sl (.old 5) 0 z0 (.lit 3) (.iv 50)))]
  hp:={rw:=[(.old 5,⟨30,[.cells (i3 (.iv 40) (.iv 41) (.iv 42)),.arr .i64 (.av 40) 64,.cells (.nils::i3 (.iv 43) (.iv 44) (.iv 45)),.arr .i64 (.av 41) 64,.cells (.nils::i3 (.iv 46) (.iv 47) (.iv 48)),.arr .i64 (.av 42) 64,.cells [.nils],.tail jen (.sub (.iv 50) (.lit 3))]⟩)],nv:=1000}
  pre:=[.le (.lit 3) (.iv 50),.eq (.iv 40) (.lit 1),.eq (.iv 41) (.lit 2),.eq (.iv 42) (.lit 2),.eq (.iv 43) (.lit 2),.eq (.iv 44) (.lit 1),.eq (.iv 45) (.lit 1),.eq (.iv 46) (.lit 3),.eq (.iv 47) (.lit 1),.eq (.iv 48) (.lit 1)]
  val:=.v (.one (.bool .tt))
  hp':={rw:=[(.old 5,⟨30,[.cells (i3 (.iv 40) (.iv 41) (.iv 42)),.arr .i64 (.av 40) 64,.cells (.nils::i3 (.iv 43) (.iv 44) (.iv 45)),.arr .i64 (.av 41) 64,.cells (.nils::i3 (.iv 46) (.iv 47) (.iv 48)),.arr .i64 (.av 42) 64,.cells [.nils],.tail jen (.sub (.iv 50) (.lit 3))]⟩)]}
  post:=[]
  quiet:=false
def jxe:Nat→Option Ff:=fun f=>match f with
  | 71=>some (Cx c71)
  | _=>none
def qfx:Nat→Bool:=fun f=> !(f==51)&& !(f==71)
def j7g(P:Program):Nat→Option Ec:=jeh P (fun f=>f==37) Jt 1000 2
def j84:Nat→Option Ec:=fun f=>match f with
  | 54=>some (Gp c54)
  | _=>none
def jr4:Nat→Option Ff:=fun f=>match f with
  | 51=>some (Cx j9u)
  | 53=>some (fun args h=>match jhw 2 0 args with|true=>Cx (jjp 0 0) args h|false=>match jhw 2 1 args with|true=>Cx (jjp 1 1) args h|false=>Cx (jjp 1 2) args h)
  | _=>none
def jq3(P:Program):Nat→Option Ec:=jeh P (fun f=>f==37) j84 1000 2
end
end Go.Proofs.YtljjbikbfeigdaaGreatDoor
namespace Go.Proofs.YtljjbikbfeigdaaGreatDoor
noncomputable section
open Go
def fD0(k:Nat):T:=fD k z0 z0 z0 z0
def jue(k:Nat):T:=faD k z0 z0 z0 z0
def j6j:Hg where
  args:=[j3t]
  hp:={rw:=[bD],nv:=1000}
  pre:=Ny++ [Mc 540 z0 z0 z0 z0]
  val:=.tup [.one (.ptr (.own 101) 0 (.lit 0)),.one (.bool .tt)]
  hp':={rw:=[bD,(.own 101,⟨73,[.cells [cI (.lit 192),cI (fD0 431),cI (fD0 432),.sl (.own 102) 0 (.lit 0) (.lit 3) (.iv 102),.bool .tt,cI (.lit 589)],.junk 101]⟩),
      Xk (.own 102) (.own 103) (.own 104) (.own 105) (.iv 120) (.iv 121) (.iv 122) (.iv 102) (jue 434) (jue 438) (jue 438),(.own 103,⟨27,[.arrD .i64 (jue 541)]⟩),(.own 104,⟨27,[.arrD .i64 (jue 542)]⟩),(.own 105,⟨27,[.arrD .i64 (jue 543)]⟩)]}
  post:=[.eq (.iv 120) (.mul (.lit 4) (fD0 439)),.eq (.iv 121) (fD0 439),.eq (.iv 122) (fD0 439)]
  quiet:=false
def qb0:Nat→Option Ec:=fun f=>match f with
  | 31=>some (jim [(2,Wy (.lit 2) 219),(136,Wy (.lit 136) 192),(155,Wy (.lit 155) 196),(575,Wy (.lit 575) 218)] (Wy (.iv 0) 217))
  | 33=>some (jim [(4,Xr 4 132),(138,Xr 138 17),(157,Xr 157 418),(577,Xr 577 12)] (Xr 4 132))
  | 47=>some (Gp c47)
  | 48=>some (Gp c48)
  | _=>none
def jxb:Nat→Option Ff:=fun f=>match f with
  | 49=>some (Cx qdj)
  | 50=>some (Cx j6m)
  | 35=>some (Cx qa6)
  | _=>none
end
end Go.Proofs.YtljjbikbfeigdaaGreatDoor
namespace Go.Proofs.YtljjbikbfeigdaaGreatDoor
noncomputable section
open Go
def j1h:List SR:=[slR (.ro 0) z0 (.iv 20) (.iv 9),slR (.ro 1) z0 (.iv 24) (.iv 10),slR (.ro 2) z0 (.iv 27) (.iv 11),.v (.one (cI (.iv 21))),.v (.one (cI (.iv 22))),.v (.one (cI (.iv 30)))]
def cRo:List (Cl×IntKind×T):=[(.ro 0,.u8,.av 5),(.ro 1,.u8,.av 6),(.ro 2,.u8,.av 7)]++Vd
def jva:List T:=[.eq (.len (.av 5)) (.iv 20),.eq (.len (.av 6)) (.iv 24),.eq (.len (.av 7)) (.iv 27),.le (.iv 20) (.iv 9),.le (.iv 24) (.iv 10),.le (.iv 27) (.iv 11),Du 0 255 (.av 5),Du 0 255 (.av 6),Du 0 255 (.av 7)]++Di Jl (.iv 21) Jk++Di Jl (.iv 22) Jk++Di Jl (.iv 30) Jk
def c9:Hg where
  args:=j1h
  hp:={rw:=[],ro:=cRo,nv:=1000}
  pre:=jva
  val:=.v (.one (.bool .tt))
  hp':={rw:=[],ro:=cRo}
  post:=[]
  quiet:=false
def jsm:Nat→Option Ff:=fun f=>match f with
  | 25=>some (Cx c25)
  | 17=>some (Cx j6j)
  | _=>none
end
end Go.Proofs.YtljjbikbfeigdaaGreatDoor
namespace Go.Proofs.YtljjbikbfeigdaaGreatDoor
noncomputable section
open Go
def slN(b:Bool)(k:Nat)(n c:Nat):SR:=match b with
  | true=>slR (.ro k) z0 (.iv n) (.iv c)
  | false=>.v (.one .nils)
def roN(b:Bool)(k a:Nat):List (Cl×IntKind×T):=match b with
  | true=>[(.ro k,.u8,.av a)]
  | false=>[]
def Tn(b:Bool)(a n c:Nat):List T:=match b with
  | true=>[.eq (.len (.av a)) (.iv n),.le (.iv n) (.iv c),Du 0 255 (.av a)]
  | false=>[]
def c9n(a b c:Bool):Hg where
  args:=[slN a 0 20 9,slN b 1 24 10,slN c 2 27 11,.v (.one (cI (.iv 21))),.v (.one (cI (.iv 22))),.v (.one (cI (.iv 30)))]
  hp:={rw:=[],ro:=roN a 0 5++(roN b 1 6++roN c 2 7),nv:=1000}
  pre:=Tn a 5 20 9++(Tn b 6 24 10++(Tn c 7 27 11++(Di Jl (.iv 21) Jk++Di Jl (.iv 22) Jk++Di Jl (.iv 30) Jk)))
  val:=.v (.one (.bool .tt))
  hp':={rw:=[],ro:=roN a 0 5++(roN b 1 6++roN c 2 7)}
  post:=[]
  quiet:=false
def jqk:Nat→Bool:=fun f=> !(f==15||f==25||f==17)
end
end Go.Proofs.YtljjbikbfeigdaaGreatDoor
namespace Go.Proofs.YtljjbikbfeigdaaGreatDoor
noncomputable section
open Go Go.ChangeShapes Go.WideShapes Go.RowKit
structure jd4 where
  b:Bool
  bk:Nat
  of:Nat
  ln:Nat
  cp:Nat
  l:List Int
def jd4.val(s:jd4):Value:=match s.b with
  | true=>.slice (some ⟨s.bk,s.of,none⟩) s.ln s.cp
  | false=>.slice none 0 0
structure Yp(w:World)(s:jd4):Prop where
  lt:s.b=true→s.bk<w.heap.size
  len:s.b=true→(s.l.length:Int)=s.ln
  cap:s.b=true→(s.ln:Int)≤s.cp
  cells:s.b=true→ ∀(j:Nat) v,s.l[j]? =some v→w.cell? ⟨s.bk,s.of+j,none⟩=some (.int .u8 v)
  inn:s.b=true→Bn 0 255 s.l=true
theorem Hn{w:World}{a:Option Addr}{len cap:Nat}{z:List Int}(h:Ll .u8 w a len cap z)(hs: ∀x,a=some x→x.spot=none∧x.block<w.heap.size): ∃s,Yp w s∧s.val=.slice a len cap:=by
  rcases h with ⟨rfl,rfl,rfl,rfl⟩|⟨x,rfl,hl,hm,hz,hcell,hwf⟩
  · exact ⟨⟨false,0,0,0,0,[]⟩,⟨fun h=>(by cases h),fun h=>(by cases h),fun h=>(by cases h),fun h=>(by cases h),fun h=>(by cases h)⟩,rfl⟩
  · obtain ⟨hx,hb⟩:=hs x rfl
    refine ⟨⟨true,x.block,x.off,len,cap,z.take len⟩,⟨fun _=>hb,fun _=> ?_,fun _=> ?_,fun _ j v hv=> ?_,fun _=> ?_⟩,?_⟩
    · show ((z.take len).length:Int)=len
      rw[List.length_take];omega
    · show (len:Int)≤cap
      omega
    · have hj:j<(z.take len).length:=(List.getElem?_eq_some_iff.1 hv).1
      rw[List.length_take] at hj
      have hz':z.getD j 0=v:=by
        have hv':(z.take len)[j]? =some v:=hv
        rw[List.getElem?_take,if_pos (by omega)] at hv'
        rw[List.getD_eq_getElem?_getD,hv'];rfl
      have:=hcell j (by omega)
      rw[hz'] at this
      have e:x.add j=⟨x.block,x.off+j,none⟩:=by
        unfold Addr.add
        split
        · rename_i h0
          subst h0
          rw[←hx];rfl
        · rfl
      rw[e] at this
      exact this
    · show Bn 0 255 (z.take len)=true
      unfold Bn
      rw[List.all_eq_true]
      intro n hn
      have:=hwf n (List.mem_of_mem_take hn)
      simp only[Lit.wf,Bool.and_eq_true,decide_eq_true_eq] at this
      simp only[Bool.and_eq_true,decide_eq_true_eq];exact this
    · obtain ⟨b,o,s⟩:=x
      simp only at hx
      subst hx
      rfl
def qlv(s0 s1 s2:jd4)(w h q:Int):Et:=
  { i:=fun k=>if k=20 then s0.ln else if k=9 then s0.cp else if k=24 then s1.ln else if k=10 then s1.cp else if k=27 then s2.ln else if k=11 then s2.cp else if k=21 then w else if k=22 then h else q
    a:=fun k=>if k=5 then s0.l else if k=6 then s1.l else s2.l
    blk:=fun k=>if k=0 then s0.bk else if k=1 then s1.bk else s2.bk
    off:=fun k=>if k=0 then s0.of else if k=1 then s1.of else s2.of}
theorem j54{b:Bool}{k a:Nat}{y:Cl×IntKind×T}(h:y∈roN b k a):b=true∧y=(.ro k,.u8,.av a):=by
  cases b with
  | true=>exact ⟨rfl,by simpa [roN] using h⟩
  | false=>simp[roN] at h
theorem jpv{ρ:Et}{w:World}{s:jd4}{k a:Nat}(o:Yp w s)(e1:ρ.blk k=s.bk)(e2:ρ.off k=s.of)(e3:ρ.a a=s.l){y:Cl×IntKind×T}(h:y∈roN s.b k a):
    y.1.blk ρ w.heap.size<w.heap.size∧ ∀(j:Nat) v,(y.2.2.A Z ρ)[j]? =some v→w.cell? ⟨y.1.blk ρ w.heap.size,y.1.off ρ+j,none⟩=some (.int y.2.1 v):=by
  obtain ⟨hb,rfl⟩:=j54 h
  refine ⟨?_,fun j v hv=> ?_⟩
  · show ρ.blk k<_
    rw[e1];exact o.lt hb
  · have hv':(ρ.a a)[j]? =some v:=hv
    rw[e3] at hv'
    show w.cell? ⟨ρ.blk k,ρ.off k+j,none⟩=some (.int .u8 v)
    rw[e1,e2]
    exact o.cells hb j v hv'
theorem jek{ρ:Et}{w:World}{s:jd4}{a n c:Nat}(o:Yp w s)(e1:ρ.a a=s.l)(e2:ρ.i n=s.ln)(e3:ρ.i c=s.cp):Dx Z ρ (Tn s.b a n c):=by
  cases hb:s.b with
  | false=>exact Dx.nil
  | true=>
    simp only[Tn,Du,z0,Bi,Di,↓Bo,↓Bq,↓Bs,↓Az,↓Ca,↓Bz,↓Bu,↓Bc,↓Bb,↓Be,↓Ba,↓Bv,↓Ay,↓Bt,↓Br,↓Bw,↓Bx,↓By,Ag,As,Ap,Ar,T.I,T.A,T.B,Int.toNat_zero,List.drop_zero,and_true,implies_true,VC.sem,Aa,Af,Ak,Ai,Ae,Ac,Ad,Am,Al,Ah,An,Aj,Ab,Aq,Ao]
    rw[e1,e2,e3]
    exact ⟨o.len hb,o.cap hb,o.inn hb⟩
theorem jk7{ρ:Et}{B:Nat}{s:jd4}{k n c:Nat}(e0:ρ.blk k=s.bk)(e1:ρ.off k=s.of)(e2:ρ.i n=s.ln)(e3:ρ.i c=s.cp):(slN s.b k n c).den Z ρ B=s.val:=by
  unfold jd4.val
  cases hb:s.b with
  | false=>rfl
  | true=>
    show Value.slice (some ⟨ρ.blk k,ρ.off k+0+(0:Int).toNat,none⟩) (ρ.i n).toNat (ρ.i c).toNat=_
    rw[e0,e1,e2,e3,Int.toNat_natCast,Int.toNat_natCast]
    rfl
theorem jpc{ρ:Et}{b:Bool}{k n c:Nat}:(slN b k n c).wf Z ρ:=by cases b<;>trivial
def argsSl(a b c:Bool):List SR:=[slN a 0 20 9,slN b 1 24 10,slN c 2 27 11,.v (.one (cI (.iv 21))),.v (.one (cI (.iv 22))),.v (.one (cI (.iv 30)))]
def preSl(a b c:Bool):List T:=Tn a 5 20 9++(Tn b 6 24 10++(Tn c 7 27 11++(Di Jl (.iv 21) Jk++Di Jl (.iv 22) Jk++Di Jl (.iv 30) Jk)))
theorem Ep{f:Nat}{c:Hg}(G:List (Cl×IntKind×T))(s0 s1 s2:jd4){a1 a2 a3:Int}{w:World}(hc:Cf Tryz.prog Z f c)(ha:c.args=argsSl s0.b s1.b s2.b)(hhp:c.hp={rw:=[],ro:=roN s0.b 0 5++(roN s1.b 1 6++(roN s2.b 2 7++G)),nv:=1000})
    (hpre: ∀ρ,Dx Z ρ (preSl s0.b s1.b s2.b)→Dx Z ρ c.pre)(hv:c.val=.v (.one (.bool .tt)))(hh':c.hp'.rw=[])
    (hG: ∀ρ:Et,∀y∈G,y.1.blk ρ w.heap.size<w.heap.size∧ ∀(j:Nat) v,(y.2.2.A Z ρ)[j]? =some v→w.cell? ⟨y.1.blk ρ w.heap.size,y.1.off ρ+j,none⟩=some (.int y.2.1 v))
    (o0:Yp w s0)(o1:Yp w s1)(o2:Yp w s2)(w1:(Lit.int .i64 a1).wf=true)(w2:(Lit.int .i64 a2).wf=true)(w3:(Lit.int .i64 a3).wf=true):
    Calls Tryz.prog f #[s0.val,s1.val,s2.val,.int .i64 a1,.int .i64 a2,.int .i64 a3] w fun e w'=>e=.returned (.bool true)∧Below w.heap.size w w':=by
  let ρ:Et:=qlv s0 s1 s2 a1 a2 a3
  have hro: ∀y∈c.hp.ro,y.1.blk ρ w.heap.size<w.heap.size∧ ∀(j:Nat) v,(y.2.2.A Z ρ)[j]? =some v→w.cell? ⟨y.1.blk ρ w.heap.size,y.1.off ρ+j,none⟩=some (.int y.2.1 v):=by
    intro y hy
    rw[hhp] at hy
    rcases List.mem_append.1 hy with h|h
    · exact jpv (ρ:=ρ) o0 rfl rfl rfl h
    rcases List.mem_append.1 h with h|h
    · exact jpv (ρ:=ρ) o1 rfl rfl rfl h
    rcases List.mem_append.1 h with h|h
    · exact jpv (ρ:=ρ) o2 rfl rfl rfl h
    exact hG ρ y h
  have hHp:Cv Z ρ w c.hp w:=by
    refine ⟨?_,?_,?_,?_,fun y hy j v hv=>(hro y hy).2 j v hv,?_,fun y hy=>(hro y hy).1,?_,fun k _=>rfl,fun i _ _ _=>rfl,?_,rfl,rfl,rfl⟩
    all_goals rw[hhp]
    · intro x hx;cases hx
    · intro x hx;cases hx
    · intro x hx;cases hx
    · exact List.nodup_nil
    · intro x _ y hy;cases hy
    · rfl
    · intro o ho;cases ho
  have hmet:Dx Z ρ c.pre:=by
    refine hpre ρ (Co.2 ⟨jek (ρ:=ρ) o0 rfl rfl rfl,Co.2 ⟨jek (ρ:=ρ) o1 rfl rfl rfl,Co.2 ⟨jek (ρ:=ρ) o2 rfl rfl rfl,?_⟩⟩⟩)
    simp only[Lit.wf,Bool.and_eq_true,decide_eq_true_eq] at w1 w2 w3
    simp only[Jl,Jk,z0,Bi,Di,List.flatMap_cons,List.flatMap_nil,List.append_nil,List.append_assoc,List.cons_append,List.nil_append,and_true,↓Bo,↓Bq,↓Bs,↓Az,↓Ca,↓Bz,↓Bu,↓Bc,↓Bb,↓Be,↓Ba,↓Bv,↓Ay,↓Bt,↓Br,↓Bw,↓Bx,↓By,Ag,As,Ap,Ar,T.I,T.A,T.B,Int.toNat_zero,List.drop_zero,and_true,implies_true,VC.sem,Aa,Af,Ak,Ai,Ae,Ac,Ad,Am,Al,Ah,An,Aj,Ab,Aq,Ao]
    exact ⟨w1.1,w1.2,w2.1,w2.2,w3.1,w3.2⟩
  have:=hc ρ w w hHp hmet (by
    rw[ha];intro x hx
    simp only[argsSl,List.mem_cons,List.not_mem_nil,or_false] at hx
    rcases hx with rfl|rfl|rfl|rfl|rfl|rfl
    · exact jpc
    · exact jpc
    · exact jpc
    · trivial
    · trivial
    · trivial) (fun _=>rfl)
  rw[ha] at this
  have ea:((argsSl s0.b s1.b s2.b).map (SR.den Z ρ w.heap.size)).toArray= #[s0.val,s1.val,s2.val,.int .i64 a1,.int .i64 a2,.int .i64 a3]:=by
    simp only[argsSl,List.map_cons,List.map_nil]
    rw[jk7 (ρ:=ρ) (s:=s0) rfl rfl rfl rfl,jk7 (ρ:=ρ) (s:=s1) rfl rfl rfl rfl,jk7 (ρ:=ρ) (s:=s2) rfl rfl rfl rfl]
    rfl
  rw[ea] at this
  refine this.mono fun e w' ⟨ρ',q1,q2,q3,q4,q5⟩=>⟨?_,Uc q5 hh' (q1.loose.trans rfl)⟩
  rw[q4,hv];rfl
theorem jfr{w:World}(hg:Sy w)(ρ:Et): ∀y∈Vd,y.1.blk ρ w.heap.size<w.heap.size∧ ∀(j:Nat) v,(y.2.2.A Z ρ)[j]? =some v→w.cell? ⟨y.1.blk ρ w.heap.size,y.1.off ρ+j,none⟩=some (.int y.2.1 v):=by
  obtain ⟨g1,g2,g3⟩:=hg
  have l4:=Hb (g1 0 0 (by kernel_rfl))
  have l5:=Hb (g2 0 0 (by kernel_rfl))
  have l2:=Hb (g3 0 16 (by kernel_rfl))
  intro y hy
  simp only[Vd,roE,List.cons_append,List.nil_append,List.mem_cons,List.not_mem_nil,or_false] at hy
  rcases hy with rfl|rfl|rfl
  · refine ⟨l5,fun j v hv=> ?_⟩
    have:=g2 j v hv
    rw[show (Cl.off ρ (.glob 5))+j=j from Nat.zero_add j]
    exact this
  · refine ⟨l4,fun j v hv=> ?_⟩
    have:=g1 j v hv
    rw[show (Cl.off ρ (.glob 4))+j=j from Nat.zero_add j]
    exact this
  · refine ⟨l2,fun j v hv=> ?_⟩
    have:=g3 j v hv
    rw[show (Cl.off ρ (.glob 2))+j=j from Nat.zero_add j]
    exact this
end
end Go.Proofs.YtljjbikbfeigdaaGreatDoor
namespace Go.Proofs.YtljjbikbfeigdaaGreatDoor
noncomputable section
open Go
def jyp:VC:=
 let t0:T:=.lit 64
 let t1:T:=.lit 0
 let t2:T:=.alit []
 let t3:T:=.fa 52 t1 t1 t1 t1 (.av 4) t2 t2 t2
 let t4:T:=.wrap .i32 (.mul (.lit 8) (.wrap .i32 (.get (.av 3) t0)))
 let t5:T:=.add (.len (.av 0)) (.iv 0)
 let t6:T:=.fi 60 (.get (.av 1100) t1) t4 t1 t1 t2 t2 t2 t2
 let t7:T:=.wrap .i32 (.sub t6 (.iv 3))
 let t8:T:=.lit 4096
 let t9:T:=.alit [0]
 let t10:T:=.splice (.set t9 t1 (.iv 1501)) (.len (.set t9 t1 (.iv 1501))) (.splice (.set t9 t1 (.iv 1502)) (.len (.set t9 t1 (.iv 1502))) (.splice (.av 1500) (.len (.av 1500)) (.cut (.av 1501) t1 (.iv 1500))))
 let t11:T:=.splice (.set t9 t1 (.iv 1)) (.len (.set t9 t1 (.iv 1))) (.splice (.set t9 t1 (.iv 2)) (.len (.set t9 t1 (.iv 2))) (.splice (.av 0) (.len (.av 0)) (.cut (.av 1) t1 (.iv 0))))
 let t12:T:=.fa 71 (.iv 3) t1 t1 t1 t11 (.av 3) (.av 4) t2
 let t13:T:=.add (.len (.av 1800)) (.iv 1802)
 let t14:T:=.add t5 (.sub (.mul (.lit 18) (.iv 1804)) (.lit 6))
 let t15:T:=.splice (.set t9 t1 (.iv 1800)) (.len (.set t9 t1 (.iv 1800))) (.splice (.set t9 t1 (.iv 1801)) (.len (.set t9 t1 (.iv 1801))) (.splice (.av 1800) (.len (.av 1800)) (.cut (.av 1801) t1 (.iv 1802))))
 let t16:T:=.fa 45 t1 t1 t1 t1 t2 t2 t2 t2
 let t17:T:=.get t16 (.iv 1804)
 let t18:T:=.get (.av 1100) t17
 let t19:T:=.wrap .i32 (.mul (.lit 8) (.wrap .i32 (.get (.av 3) (.add t0 (.iv 1804)))))
 let t20:T:=.fi 60 t18 t19 t1 t1 t2 t2 t2 t2
 let t21:T:=.add (.iv 1804) (.lit 1)
 let t22:T:=.le (.lit (-9223372036854775808)) t21
 let t23:T:=.wrap .i32 (.add (.iv 1803) (.lit 1))
 let t24:T:=.add t5 (.sub (.mul (.lit 18) t21) (.lit 6))
 let t25:T:=.lt (.sub t0 t21) (.sub t0 (.iv 1804))
 let t26:T:=.tmod (.iv 1803) (.lit 16)
 let t27:T:=.fa 83 (.iv 1803) t1 t1 t1 t15 t2 t2 t2
 let t28:T:=.add (.len (.av 2200)) (.iv 2202)
 let t29:T:=.splice (.set t9 t1 (.iv 2200)) (.len (.set t9 t1 (.iv 2200))) (.splice (.set t9 t1 (.iv 2201)) (.len (.set t9 t1 (.iv 2201))) (.splice (.av 2200) (.len (.av 2200)) (.cut (.av 2201) t1 (.iv 2202))))
 let t30:T:=.add (.len (.av 2700)) (.iv 2700)
 let t31:T:=.splice (.set t9 t1 (.iv 2701)) (.len (.set t9 t1 (.iv 2701))) (.splice (.set t9 t1 (.iv 2702)) (.len (.set t9 t1 (.iv 2702))) (.splice (.av 2700) (.len (.av 2700)) (.cut (.av 2701) t1 (.iv 2700))))
 let t32:T:=.wrap .i32 (.sub (.iv 2203) (.lit 16))
 let t33:T:=.splice (.set t9 t1 (.iv 2301)) (.len (.set t9 t1 (.iv 2301))) (.splice (.set t9 t1 (.iv 2302)) (.len (.set t9 t1 (.iv 2302))) (.splice (.av 2300) (.len (.av 2300)) (.cut (.av 2301) t1 (.iv 2300))))
 let t34:T:=.fi 62 t1 t1 t1 t1 (.av 3) (.av 4) t2 t2
 let t36:T:=.le (.lit (-1024)) t34
 let t37:T:=.le t34 (.lit 1023)
 (.any 1000 0 [(.eq (.len (.av 1100)) t0),(.aeq (.av 1100) t3)] (.need [(.le (.lit (-536870912)) (.get (.av 1100) t1)),(.le (.get (.av 1100) t1) (.lit 536870912)),(.le (.lit 1) t4),(.le t4 (.lit 536870912))] (.need [(.le (.add t5 (.lit 12)) (.lit 1000000000000)),(.le t1 t1),(.le t1 t1),(.le (.lit (-2047)) t7),(.le t7 (.lit 2047))] (.any 1400 0 [(.le t1 (.iv 1500)),(.le (.iv 1500) t8),(.eq (.len (.av 1501)) t8),(.le t1 (.iv 1501)),(.le (.iv 1501) (.lit 4294967295)),(.le t1 (.iv 1502)),(.le (.iv 1502) (.lit 7)),(.le (.add (.len (.av 1500)) (.iv 1500)) (.add t5 (.lit 12))),(.aeq t10 (.fa 12 t1 t7 t1 t1 t11 t2 t2 t2))] (.need [(.le t1 (.lit 1)),(.le (.lit 1) (.lit 1)),(.le (.lit 1) t0),(.le (.add (.add (.len (.av 1500)) (.iv 1500)) t1) (.add t5 (.sub (.mul (.lit 18) (.lit 1)) (.lit 6)))),(.aeq (.fa 81 (.lit 1) t1 t1 t1 t10 (.av 3) t3 t2) t12)] (.any 1800 0 [(.le t1 (.iv 1802)),(.le (.iv 1802) t8),(.eq (.len (.av 1801)) t8),(.le t1 (.iv 1800)),(.le (.iv 1800) (.lit 4294967295)),(.le t1 (.iv 1801)),(.le (.iv 1801) (.lit 7)),(.le t1 (.iv 1803)),(.le (.iv 1803) (.iv 1804)),(.le (.lit 1) (.iv 1804)),(.le (.iv 1804) t0),(.le (.add t13 (.iv 1803)) t14),(.aeq (.fa 81 (.iv 1804) (.iv 1803) t1 t1 t15 (.av 3) t3 t2) t12)] (.cond (.lt (.iv 1804) t0) (.need [(.le t1 (.iv 1804))] (.need [(.lt (.iv 1804) (.len t16))] (.need [(.le t1 t17),(.lt t17 t0)] (.need [(.lt (.add t0 (.iv 1804)) (.lit 128))] (.need [(.le (.lit (-536870912)) t18),(.le t18 (.lit 536870912)),(.le (.lit 1) t19),(.le t19 (.lit 536870912))] (.cond (.eq t20 t1) (.need [t22,(.le t21 (.lit 9223372036854775807))] (.need [(.le t1 t23),(.le t23 t21),(.le (.lit 1) t21),(.le t21 t0),(.le (.add t13 t23) t24),(.aeq (.fa 81 t21 t23 t1 t1 t15 (.av 3) t3 t2) t12),(.lt t1 (.sub t0 (.iv 1804))),t25] .done)) (.need [(.le (.iv 1803) t0),(.eq t26 t26),(.aeq t27 t27)] (.any 2200 0 [(.le t1 (.iv 2202)),(.le (.iv 2202) t8),(.eq (.len (.av 2201)) t8),(.le t1 (.iv 2200)),(.le (.iv 2200) (.lit 4294967295)),(.le t1 (.iv 2201)),(.le (.iv 2201) (.lit 7)),(.le t1 (.iv 2203)),(.le (.iv 2203) t0),(.le (.add t28 (.iv 2203)) t14),(.eq (.tmod (.iv 2203) (.lit 16)) t26),(.aeq (.fa 83 (.iv 2203) t1 t1 t1 t29 t2 t2 t2) t27)] (.cond (.lt (.lit 15) (.iv 2203)) (.need [(.le (.add t28 (.lit 6)) (.lit 1000000000000)),(.le t1 (.lit 240)),(.le (.lit 240) (.lit 240))] (.any 2600 0 [(.le t1 (.iv 2700)),(.le (.iv 2700) t8),(.eq (.len (.av 2701)) t8),(.le t1 (.iv 2701)),(.le (.iv 2701) (.lit 4294967295)),(.le t1 (.iv 2702)),(.le (.iv 2702) (.lit 7)),(.le t30 (.add t28 (.lit 6))),(.aeq t31 (.fa 23 (.lit 240) t1 t1 t1 t29 t2 t2 t2))] (.need [(.le t1 t32),(.le t32 t0),(.le (.add t30 t32) t14),(.eq (.tmod t32 (.lit 16)) t26),(.aeq (.fa 83 t32 t1 t1 t1 t31 t2 t2 t2) t27),(.lt t1 (.iv 2203)),(.lt t32 (.iv 2203))] .done))) (.need [(.le (.add t28 (.lit 12)) (.lit 1000000000000)),(.le (.iv 2203) (.lit 15)),(.le (.lit (-1023)) t20),(.le t20 (.lit 1023))] (.any 2600 0 [(.le t1 (.iv 2700)),(.le (.iv 2700) t8),(.eq (.len (.av 2701)) t8),(.le t1 (.iv 2701)),(.le (.iv 2701) (.lit 4294967295)),(.le t1 (.iv 2702)),(.le (.iv 2702) (.lit 7)),(.le t30 (.add t28 (.lit 12))),(.aeq t31 (.fa 13 (.iv 2203) t20 t1 t1 t29 t2 t2 t2))] (.need [t22,(.le t21 (.lit 9223372036854775807))] (.need [(.le t1 t21),(.le (.lit 1) t21),(.le t21 t0),(.le (.add t30 t1) t24),(.aeq (.fa 81 t21 t1 t1 t1 t31 (.av 3) t3 t2) t12),(.lt t1 (.sub t0 (.iv 1804))),t25] .done))))))))))))) (.cond (.lt t1 (.iv 1803)) (.need [(.le (.add t13 (.lit 6)) (.lit 1000000000000)),(.le t1 (.lit 240))] (.any 2200 0 [(.le t1 (.iv 2300)),(.le (.iv 2300) t8),(.eq (.len (.av 2301)) t8),(.le t1 (.iv 2301)),(.le (.iv 2301) (.lit 4294967295)),(.le t1 (.iv 2302)),(.le (.iv 2302) (.lit 7)),(.le (.add (.len (.av 2300)) (.iv 2300)) (.add t13 (.lit 6))),(.aeq t33 (.fa 23 t1 t1 t1 t1 t15 t2 t2 t2))] (.need [(.eq t34 t6),(.le (.add (.len (.av 2300)) (.iv 2300)) (.add t5 (.lit 1152))),(.aeq t33 t12),t36,t37] .done))) (.need [(.eq t34 t6),(.le t13 (.add t5 (.lit 1152))),(.aeq t15 t12),t36,t37] .done)))))))))
theorem qen:Dd (Db Tryz.prog spE (j4f 1) ⟨qi1 1,ju4⟩ 100000 89 (c89 1)) jyp=true:=by kernel_rfl
set_option maxRecDepth 20000 in
set_option maxHeartbeats 4000000 in
theorem jxx:Cf Tryz.prog Z 89 (c89 1):=by
  refine Bf jxc (jsw juv jvl jvw) qen fun ρ h=> ?_
  simp only[c89,eIn,hE,bE,jd7,hB,bW,bB,Gl,Tt,ja2,cA,fA,z0,Du,Bi,Di,List.flatMap_cons,List.flatMap_nil,List.append_nil,List.append_assoc,List.cons_append,List.nil_append,and_true,↓Bo,↓Bq,↓Bs,↓Az,↓Ca,↓Bz,↓Bu,↓Bc,↓Bb,↓Be,↓Ba,↓Bv,↓Ay,↓Bt,↓Br,↓Bw,↓Bx,↓By,Ag,As,Ap,Ar,T.I,T.A,T.B,Int.toNat_zero,List.drop_zero,and_true,implies_true,VC.sem,Aa,Af,Ak,Ai,Ae,Ac,Ad,Am,Al,Ah,An,Aj,Ab,Aq,Ao] at h
  obtain ⟨h1,h2,h3,h4,h5,h6,h7,h8,h9,h10,h11,h12,h13,h14,h15,h16,h17,h18,h19,h20,h21,h22⟩:=h
  have hq:Bn 1 255 (ρ.a 3)=true:=h13
  have hb:Bn 0 255 (ρ.a 4)=true:=h14
  have hbl:((Z.fa 45 0 0 0 0 [] [] [] []).length:Int)=64:=rfl
  have hl3:(ρ.a 3).length=128:=by omega
  have hl4:(ρ.a 4).length=64:=by omega
  have K0: ∀d,d=Z.fa 52 0 0 0 0 (ρ.a 4) [] [] []→ -536870912≤d.getD 0 0∧d.getD 0 0≤536870912∧1≤IntKind.i32.wrap (8*IntKind.i32.wrap ((ρ.a 3).getD (Int.toNat 64) 0))∧IntKind.i32.wrap (8*IntKind.i32.wrap ((ρ.a 3).getD (Int.toNat 64) 0))≤536870912∧
      Z.fi 60 (d.getD 0 0) (IntKind.i32.wrap (8*IntKind.i32.wrap ((ρ.a 3).getD (Int.toNat 64) 0))) 0 0 [] [] [] []=coef 1 (ρ.a 3) (Dc (ρ.a 4)) 0∧ -1024≤coef 1 (ρ.a 3) (Dc (ρ.a 4)) 0∧coef 1 (ρ.a 3) (Dc (ρ.a 4)) 0≤1023:=by
    intro d hd
    obtain ⟨_,_,g1,g2,g3,g4,g5,g6,g7,_⟩:=kf hq hb hl3 hl4 (q:=1) (by omega) (k:=0) (j:=64) (by omega) (by omega) (by omega) hd
    exact ⟨g1,g2,g3,g4,g5,g6,g7⟩
  have hc:Z.fi 62 0 0 0 0 (ρ.a 3) (ρ.a 4) [] []=coef 1 (ρ.a 3) (Dc (ρ.a 4)) 0:=rfl
  have c1:=(K0 _ rfl).2.2.2.2.2.1
  have c2:=(K0 _ rfl).2.2.2.2.2.2
  have K:=fun {k j:Int} (g0:0≤k) (g1:k<64) (gj:j=64*(1:Int)+k) {d:List Int} (hd:d=_)=>kf hq hb hl3 hl4 (q:=1) (by omega) g0 g1 gj hd
  simp only[jyp,Fb,↓Bo,↓Bq,↓Bs,↓Az,↓Ca,↓Bz,↓Bu,↓Bc,↓Bb,↓Be,↓Ba,↓Bv,↓Ay,↓Bt,↓Br,↓Bw,↓Bx,↓By,Ag,As,Ap,Ar,T.I,T.A,T.B,Int.toNat_zero,List.drop_zero,and_true,implies_true,VC.sem,Aa,Af,Ak,Ai,Ae,Ac,Ad,Am,Al,Ah,An,Aj,Ab,Aq,Ao,hbl,fI,fA,fA3,z0,hc]
  (repeat' (first|refine And.intro ?_ ?_|intro _))<;>(try trivial)<;>(try omega)
  · exact (K0 _ ‹ρ.a 1100=_›).1
  · exact (K0 _ ‹ρ.a 1100=_›).2.1
  · exact (K0 _ ‹ρ.a 1100=_›).2.2.1
  · exact (K0 _ ‹ρ.a 1100=_›).2.2.2.1
  · rw[(K0 _ ‹ρ.a 1100=_›).2.2.2.2.1,IntKind.wrap_i32];omega
  · rw[(K0 _ ‹ρ.a 1100=_›).2.2.2.2.1,IntKind.wrap_i32];omega
  · have e:IntKind.i32.wrap (coef 1 (ρ.a 3) (Dc (ρ.a 4)) 0-ρ.i 3)=coef 1 (ρ.a 3) (Dc (ρ.a 4)) 0-ρ.i 3:=by rw[IntKind.wrap_i32];omega
    rw[‹[ρ.i 1501]++_=_›,(K0 _ ‹ρ.a 1100=_›).2.2.2.2.1,e,jex,j77,qcb,Lc,jcy]
    unfold Ub
    rfl
  · exact (K (k:=ρ.i 1804) (j:=64+ρ.i 1804) (by omega) (by omega) (by omega) ‹ρ.a 1100=_›).1
  · exact (K (k:=ρ.i 1804) (j:=64+ρ.i 1804) (by omega) (by omega) (by omega) ‹ρ.a 1100=_›).2.1
  · exact (K (k:=ρ.i 1804) (j:=64+ρ.i 1804) (by omega) (by omega) (by omega) ‹ρ.a 1100=_›).2.2.1
  · exact (K (k:=ρ.i 1804) (j:=64+ρ.i 1804) (by omega) (by omega) (by omega) ‹ρ.a 1100=_›).2.2.2.1
  · exact (K (k:=ρ.i 1804) (j:=64+ρ.i 1804) (by omega) (by omega) (by omega) ‹ρ.a 1100=_›).2.2.2.2.1
  · exact (K (k:=ρ.i 1804) (j:=64+ρ.i 1804) (by omega) (by omega) (by omega) ‹ρ.a 1100=_›).2.2.2.2.2.1
  · rw[IntKind.wrap_i32];omega
  · rw[IntKind.wrap_i32];omega
  · rw[IntKind.wrap_i32];omega
  · refine Eq.trans ?_ ‹Z.fa 81 (ρ.i 1804) (ρ.i 1803) 0 0 _ _ _ _=_›
    have e:IntKind.i32.wrap (ρ.i 1803+1)=ρ.i 1803+1:=by rw[IntKind.wrap_i32];omega
    have hz:= ‹Z.fi 60 _ _ 0 0 [] [] [] []=0›
    rw[(K (k:=ρ.i 1804) (j:=64+ρ.i 1804) (by omega) (by omega) (by omega) ‹ρ.a 1100=_›).2.2.2.2.2.2.1] at hz
    rw[e,jex,jex,jcy]
    exact congrArg pk (jg3 (by omega) hz).symm
  · rw[IntKind.wrap_i32];omega
  · rw[IntKind.wrap_i32];omega
  · rw[IntKind.wrap_i32];omega
  · have e:IntKind.i32.wrap (ρ.i 2203-16)=ρ.i 2203-16:=by rw[IntKind.wrap_i32];omega
    have ht:= ‹(ρ.i 2203).tmod 16=_›
    rw[Int.tmod_eq_emod_of_nonneg (by omega),Int.tmod_eq_emod_of_nonneg (by omega)] at ht
    rw[e,Int.tmod_eq_emod_of_nonneg (by omega),Int.tmod_eq_emod_of_nonneg (by omega)];omega
  · refine Eq.trans ?_ ‹Z.fa 83 (ρ.i 2203) 0 0 0 _ _ _ _=_›
    have e:IntKind.i32.wrap (ρ.i 2203-16)=ρ.i 2203-16:=by rw[IntKind.wrap_i32];omega
    rw[e,‹[ρ.i 2701]++_=_›,jx3,jta,jta,Lc]
    exact congrArg pk (jbh (by omega)).symm
  · rw[IntKind.wrap_i32];omega
  · rw[(K (k:=ρ.i 1804) (j:=64+ρ.i 1804) (by omega) (by omega) (by omega) ‹ρ.a 1100=_›).2.2.2.2.2.2.1]
    exact (K (k:=ρ.i 1804) (j:=64+ρ.i 1804) (by omega) (by omega) (by omega) ‹ρ.a 1100=_›).2.2.2.2.2.2.2.2.2 (by omega)
  · rw[(K (k:=ρ.i 1804) (j:=64+ρ.i 1804) (by omega) (by omega) (by omega) ‹ρ.a 1100=_›).2.2.2.2.2.2.1]
    exact (K (k:=ρ.i 1804) (j:=64+ρ.i 1804) (by omega) (by omega) (by omega) ‹ρ.a 1100=_›).2.2.2.2.2.2.2.2.1
  · refine Eq.trans ?_ ‹Z.fa 81 (ρ.i 1804) (ρ.i 1803) 0 0 _ _ _ _=_›
    have hz:= ‹¬Z.fi 60 _ _ 0 0 [] [] [] []=0›
    have hk:=(K (k:=ρ.i 1804) (j:=64+ρ.i 1804) (by omega) (by omega) (by omega) ‹ρ.a 1100=_›).2.2.2.2.2.2.1
    rw[hk] at hz
    rw[‹[ρ.i 2701]++_=_›,hk]
    have ht:= ‹(ρ.i 2203).tmod 16=_›
    rw[Int.tmod_eq_emod_of_nonneg (by omega),Int.tmod_eq_emod_of_nonneg (by omega)] at ht
    have hr:ρ.i 2203=ρ.i 1803 % 16:=by omega
    have hs:= ‹Z.fa 83 (ρ.i 2203) 0 0 0 _ _ _ _=_›
    rw[jta,jta,jaz (by omega)] at hs
    have hs:=congrArg up hs
    rw[Lc,Lc] at hs
    rw[qdb,jex,jex,Lc,hs,hr,jcy]
    exact congrArg pk (jft (by omega) hz).symm
  · exact (K0 _ ‹ρ.a 1100=_›).2.2.2.2.1.symm
  · rw[‹[ρ.i 2301]++_=_›,jx3]
    refine Eq.trans ?_ ‹Z.fa 81 (ρ.i 1804) (ρ.i 1803) 0 0 _ _ _ _=_›
    rw[jex,jcy]
    exact congrArg pk (jlj (q:=1) (by omega) (by omega)).symm
  · exact (K0 _ ‹ρ.a 1100=_›).2.2.2.2.1.symm
  · refine Eq.trans ?_ ‹Z.fa 81 (ρ.i 1804) (ρ.i 1803) 0 0 _ _ _ _=_›
    rw[jex,jks (by omega) (by omega),j8h]
end
end Go.Proofs.YtljjbikbfeigdaaGreatDoor
namespace Go.Proofs.YtljjbikbfeigdaaGreatDoor
noncomputable section
open Go
theorem Dz{off px py w h:Int}{P:List Int}:(Mw off px py w h P).length=64:=by simp[Mw]
theorem j0d{off px py w h:Int}{P:List Int}{y x:Int}(h1:0≤y)(h2:y<8)(h3:0≤x)(h4:x<8):
    (Mw off px py w h P)[(8*y+x).toNat]? =some (Bg P (off+(min (py+y) (h-1)/2*((w+1)/2)+min (px+x) (w-1)/2))):=by
  unfold Mw
  rw[List.getElem?_map,List.getElem?_range (by omega)]
  have e1:(((8*y+x).toNat/8:Nat):Int)=y:=by omega
  have e2:(((8*y+x).toNat % 8:Nat):Int)=x:=by omega
  simp only[Option.map_some,e1,e2]
theorem j50{X Y w h:Int}(h1:0≤X)(h2:X<w)(h3:0≤Y)(h4:Y<h):0≤Y/2*((w+1)/2)+X/2∧Y/2*((w+1)/2)+X/2<(w+1)/2*((h+1)/2):=
  (Sp (X:=X/2) (Y:=Y/2) (w:=(w+1)/2) (h:=(h+1)/2) (by omega) (by omega) (by omega) (by omega)).2
theorem jbe{f:Nat→Int}{n:Nat}{lo hi:Int}(h: ∀i,i<n→lo≤f i∧f i≤hi):Bn lo hi ((List.range n).map f)=true:=by
  unfold Bn
  rw[List.all_eq_true]
  intro x hx
  obtain ⟨i,hi,rfl⟩:=List.mem_map.1 hx
  simp only[Bool.and_eq_true,decide_eq_true_eq]
  exact h i (List.mem_range.1 hi)
theorem jdr{off px py w h:Int}{P:List Int}(h1:0≤px)(h2:0≤py)(hw:1≤w)(hh:1≤h)(ho:0≤off)(hl:off+(w+1)/2*((h+1)/2)≤P.length)(ha:Bn 0 255 P=true):Bn 0 255 (Mw off px py w h P)=true:=by
  refine jbe fun i hi=> ?_
  have hb:=j50 (X:=min (px+((i % 8:Nat):Int)) (w-1)) (Y:=min (py+((i/8:Nat):Int)) (h-1)) (w:=w) (h:=h) (by omega) (by omega) (by omega) (by omega)
  exact Ct ha (by omega) (by omega)
theorem jom{px py w h:Int}{P:List Int}(h1:0≤px)(h2:0≤py)(hw:1≤w)(hh:1≤h)(hl:w*h≤P.length)(ha:Bn 0 255 P=true):Bn 0 255 (Fy px py w h P)=true:=by
  refine jbe fun i hi=> ?_
  have hb:=Sp (X:=min (px+((i % 8:Nat):Int)) (w-1)) (Y:=min (py+((i/8:Nat):Int)) (h-1)) (w:=w) (h:=h) (by omega) (by omega) (by omega) (by omega)
  exact Ct ha hb.2.1 (by omega)
theorem Lx{lo hi:Int}{a b:List Int}(h1:Bn lo hi a=true)(h2:Bn lo hi b=true):Bn lo hi (a++b)=true:=by
  unfold Bn at*
  rw[List.all_append,h1,h2];rfl
theorem jdc{off px py w h:Int}{P:List Int}(h1:0≤px)(h2:0≤py)(hw:1≤w)(hh:1≤h)(ho:0≤off)(hl:off+(w+1)/2*((h+1)/2)≤P.length)(ha:Bn 0 255 P=true):Bn 0 255 (Nw off px py w h P)=true:=
  Lx (jdr h1 h2 hw hh ho hl ha) (Lx (jdr (by omega) h2 hw hh ho hl ha) (Lx (jdr h1 (by omega) hw hh ho hl ha) (jdr (by omega) (by omega) hw hh ho hl ha)))
theorem Zk{s:List Int}:(Nx s).length=64:=by simp[Nx]
theorem jag{s:List Int}(hs:Bn 0 255 s=true)(i:Int):0≤Bg s i∧Bg s i≤255:=Dy (De hs) (by decide) (by decide) i
theorem j9e{s:List Int}(hs:Bn 0 255 s=true)(p:Nat):0≤scV s p∧scV s p≤255:=by
  unfold scV
  have:=jag hs
  generalize ((64*(2*(p/32)+p % 8/4)+16*(p/8 % 4)+2*(p % 4):Nat):Int)=j
  have a:=this j
  have b:=this (j+1)
  have c:=this (j+8)
  have d:=this (j+9)
  dsimp only
  omega
theorem jdz{s:List Int}(hs:Bn 0 255 s=true):Bn 0 255 (Nx s)=true:=jbe fun i _=>j9e hs i
theorem jmg{s old:List Int}(n:Nat):(jgt s old n).length=old.length:=by
  induction n with
  | zero=>rfl
  | succ n ih=>rw[jgt,List.length_set,ih]
def scI(p:Nat):Nat:=32*(p/32)+16*(p % 8/4)+4*(p/8 % 4)+p % 4
theorem jsk{p:Nat}(h:p<64):scI p<64∧scO (scI p)=p:=by
  have: ∀p:Fin 64,scI p.val<64∧scO (scI p.val)=p.val:=by decide
  exact this ⟨p,h⟩
theorem j6a{n:Nat}(h:n<64):scO n<64∧scI (scO n)=n:=by
  have: ∀p:Fin 64,scO p.val<64∧scI (scO p.val)=p.val:=by decide
  exact this ⟨n,h⟩
theorem jxj{s old:List Int}(ho:old.length=64)(n:Nat)(hn:n≤64){p:Nat}(hp:p<64):(jgt s old n)[p]? =if scI p<n then some (scV s p) else old[p]? :=by
  induction n with
  | zero=>rfl
  | succ n ih=>
    obtain ⟨a,b⟩:=j6a (n:=n) (by omega)
    rw[jgt,List.getElem?_set,ih (by omega),jmg]
    by_cases e:scO n=p
    · rw[if_pos e,if_pos (by omega),←e,b,if_pos (by omega)]
    · have:scI p≠n:=fun g=>e (by rw[←g];exact (jsk hp).2)
      rw[if_neg e]
      by_cases g:scI p<n
      · rw[if_pos g,if_pos (by omega)]
      · rw[if_neg g,if_neg (by omega)]
theorem jz8{s old:List Int}(ho:old.length=64):jgt s old 64=Nx s:=by
  apply List.ext_getElem?
  intro p
  by_cases hp:p<64
  · rw[jxj ho 64 (Nat.le_refl _) hp,if_pos (jsk hp).1,Nx,List.getElem?_map,List.getElem?_range hp];rfl
  · rw[List.getElem?_eq_none (by rw[jmg];omega),List.getElem?_eq_none (by rw[Zk];omega)]
theorem Ui{l X:List Int}{s n:Nat}{x:Int}(hx:X[n]? =some x)(hl:s+n<l.length):(Cb l s (X.take n)).set (s+n) x=Cb l s (X.take (n+1)):=by
  have hn:n<X.length:=(List.getElem?_eq_some_iff.1 hx).1
  unfold Cb
  have e1:X.take (n+1)=X.take n++ [x]:=by rw[List.take_add_one,hx];rfl
  have e2:l.drop (s+(X.take n).length)=l[s+n]::l.drop (s+(X.take (n+1)).length):=by
    rw[List.length_take,List.length_take,Nat.min_eq_left (by omega),Nat.min_eq_left (by omega),show s+(n+1)=s+n+1 from by omega,←List.drop_eq_getElem_cons hl]
  rw[e2,e1]
  have hs:s≤l.length:=by omega
  have e3:(l.take s).length=s:=by rw[List.length_take,Nat.min_eq_left hs]
  have e4:(X.take n).length=n:=by rw[List.length_take,Nat.min_eq_left (by omega)]
  rw[List.set_append_right _ _ (by omega),e3,List.set_append_right _ _ (by omega),e4,show s+n-s-n=0 from by omega]
  simp
end
end Go.Proofs.YtljjbikbfeigdaaGreatDoor
namespace Go.Proofs.YtljjbikbfeigdaaGreatDoor
noncomputable section
open Go
theorem j82(x y z u:Int)(a:List Int):Z.fa 91 x y z u a [] [] []=Mw (Ov z u) x y z u a:=id rfl
theorem j6s(x y z u:Int)(a:List Int):Z.fa 92 x y z u a [] [] []=Mw (Po z u) x y z u a:=id rfl
theorem j8g(a:List Int):Z.fa 93 0 0 0 0 a [] [] []=Nx a:=id rfl
theorem qil(n:Int)(a b:List Int):Z.fa 94 n 0 0 0 a b [] []=jgt a b n.toNat:=id rfl
theorem jxo(l:List Int)(n:Int):l.getD n.toNat 0=Bg l n:=rfl
theorem j8z(a b:Int):cond (ilt a b) a b=min b a:=by
  unfold ilt;by_cases h:a<b
  · simp only[h,decide_true,cond_true];omega
  · simp only[h,decide_false,cond_false];omega
theorem td2{x:Int}(h0:0≤x):x.tdiv 2=x/2:=Int.tdiv_eq_ediv_of_nonneg h0
def jzb(f:Nat):Bool:=f==113||f==114||f==115
def qi3:VC:=
 let t0:T:=.lit (-9223372036854775808)
 let t1:T:=.sub (.iv 21) (.lit 1)
 let t2:T:=.lit 9223372036854775807
 let t3:T:=.sub (.iv 22) (.lit 1)
 let t4:T:=.fa 92 (.iv 5) (.iv 6) (.iv 21) (.iv 22) (.av 5) (.alit []) (.alit []) (.alit [])
 let t5:T:=.lit 0
 let t6:T:=.lit 8
 let t7:T:=.fa 91 (.iv 5) (.iv 6) (.iv 21) (.iv 22) (.av 5) (.alit []) (.alit []) (.alit [])
 let t8:T:=.fa 90 (.iv 5) (.iv 6) (.iv 21) (.iv 22) (.av 5) (.alit []) (.alit []) (.alit [])
 let t9:T:=.add (.iv 6) (.iv 1000)
 let t10:T:=.mul t6 (.iv 1000)
 let t11:T:=.add t10 t5
 let t12:T:=.splice (.av 11) (.iv 8) (.cut t4 t5 t10)
 let t13:T:=.splice (.av 10) (.iv 7) (.cut t7 t5 t10)
 let t14:T:=.splice (.av 4) t5 (.cut t8 t5 t10)
 let t15:T:=.add (.iv 5) (.iv 1400)
 let t16:T:=.ite (.lt t3 t9) t3 t9
 let t17:T:=.mul t16 (.iv 21)
 let t18:T:=.ite (.lt t1 t15) t1 t15
 let t19:T:=.add t17 t18
 let t20:T:=.tdiv t16 (.lit 2)
 let t21:T:=.mul t20 (.iv 25)
 let t22:T:=.tdiv t18 (.lit 2)
 let t23:T:=.add t21 t22
 let t24:T:=.add t10 (.iv 1400)
 let t25:T:=.add (.iv 20) t23
 let t26:T:=.add (.iv 7) t24
 let t27:T:=.add (.add (.iv 20) (.iv 24)) t23
 let t28:T:=.add (.iv 8) t24
 let t29:T:=.add (.iv 1400) (.lit 1)
 let t30:T:=.add t10 t29
 let t31:T:=.splice (.av 11) (.iv 8) (.cut t4 t5 t24)
 let t32:T:=.splice (.av 10) (.iv 7) (.cut t7 t5 t24)
 let t33:T:=.splice (.av 4) t5 (.cut t8 t5 t24)
 let t34:T:=.add (.iv 1000) (.lit 1)
 let t35:T:=.mul t6 t34
 (.need [(.le t0 t1),(.le t1 t2)] (.need [(.le t0 t3),(.le t3 t2)] (.need [(.aeq (.splice (.av 11) (.iv 8) (.cut t4 t5 (.mul t6 t5))) (.av 11)),(.aeq (.splice (.av 10) (.iv 7) (.cut t7 t5 (.mul t6 t5))) (.av 10)),(.aeq (.splice (.av 4) t5 (.cut t8 t5 (.mul t6 t5))) (.av 4)),(.le t5 t5),(.le t5 t6)] (.any 1000 1000000003 [(.le t5 (.iv 1000)),(.le (.iv 1000) t6)] (.cond (.lt (.iv 1000) t6) (.need [(.le t0 t9),(.le t9 t2)] (.need [(.aeq (.splice (.av 11) (.iv 8) (.cut t4 t5 t11)) t12),(.aeq (.splice (.av 10) (.iv 7) (.cut t7 t5 t11)) t13),(.aeq (.splice (.av 4) t5 (.cut t8 t5 t11)) t14)] (.any 1400 1000000003 [(.le t5 (.iv 1400)),(.le (.iv 1400) t6)] (.cond (.lt (.iv 1400) t6) (.need [(.le t0 t15),(.le t15 t2)] (.need [(.le t0 t16),(.le t16 t2)] (.need [(.le t0 t17),(.le t17 t2)] (.need [(.le t0 t18),(.le t18 t2)] (.need [(.le t0 t19),(.le t19 t2)] (.need [(.le t0 t20),(.le t20 t2)] (.need [(.le t0 t21),(.le t21 t2)] (.need [(.le t0 t22),(.le t22 t2)] (.need [(.le t0 t23),(.le t23 t2)] (.need [(.le t0 t10),(.le t10 t2)] (.need [(.le t0 t24),(.le t24 t2)] (.need [(.le t5 t19),(.lt t19 (.iv 20))] (.need [(.lt t19 (.len (.av 5)))] (.need [(.le t5 t24),(.lt t24 (.lit 64))] (.need [(.le t5 t23),(.lt t23 (.iv 24)),(.le t5 (.iv 20))] (.need [(.le t5 t25),(.lt t25 (.len (.av 5)))] (.need [(.le t5 t26),(.lt t26 (.lit 256))] (.need [(.le t5 (.add (.iv 20) (.iv 24)))] (.need [(.le t5 t27),(.lt t27 (.len (.av 5)))] (.need [(.le t5 t28),(.lt t28 (.lit 256))] (.need [(.le t0 t29),(.le t29 t2)] (.need [(.aeq (.splice (.av 11) (.iv 8) (.cut t4 t5 t30)) (.set t31 t28 (.wrap .i32 (.get (.av 5) t27)))),(.aeq (.splice (.av 10) (.iv 7) (.cut t7 t5 t30)) (.set t32 t26 (.wrap .i32 (.get (.av 5) t25)))),(.aeq (.splice (.av 4) t5 (.cut t8 t5 t30)) (.set t33 t24 (.wrap .i32 (.get (.av 5) t19)))),(.le t5 t29),(.le t29 t6),(.lt t5 (.sub t6 (.iv 1400))),(.lt (.sub t6 t29) (.sub t6 (.iv 1400)))] .done)))))))))))))))))))))) (.need [(.le t0 t34),(.le t34 t2)] (.need [(.aeq (.splice (.av 11) (.iv 8) (.cut t4 t5 t35)) t31),(.aeq (.splice (.av 10) (.iv 7) (.cut t7 t5 t35)) t32),(.aeq (.splice (.av 4) t5 (.cut t8 t5 t35)) t33),(.le t5 t34),(.le t34 t6),(.lt t5 (.sub t6 (.iv 1000))),(.lt (.sub t6 t34) (.sub t6 (.iv 1000)))] .done)))))) (.need [(.aeq (.splice (.av 11) (.iv 8) t4) t12),(.aeq (.splice (.av 10) (.iv 7) t7) t13),(.aeq t8 t14)] .done))))))
theorem w91:Dd (Db Tryz.prog Jt Jq ⟨j73,jzb⟩ 100000 91 c91) qi3=true:=by kernel_rfl
set_option maxHeartbeats 2000000 in
theorem qbd:Cf Tryz.prog Z 91 c91:=by
  refine Bf Cq Cn w91 fun ρ h=> ?_
  simp only[c91,jkc,bB,bB4,ja7,pxy,hf,Du,z0,Bi,Di,List.flatMap_cons,List.flatMap_nil,List.append_nil,List.append_assoc,List.cons_append,List.nil_append,and_true,↓Bo,↓Bq,↓Bs,↓Az,↓Ca,↓Bz,↓Bu,↓Bc,↓Bb,↓Be,↓Ba,↓Bv,↓Ay,↓Bt,↓Br,↓Bw,↓Bx,↓By,Ag,As,Ap,Ar,T.I,T.A,T.B,Int.toNat_zero,List.drop_zero,and_true,implies_true,VC.sem,Aa,Af,Ak,Ai,Ae,Ac,Ad,Am,Al,Ah,An,Aj,Ab,Aq,Ao] at h
  obtain ⟨h1,h2,h3,h4,h5,h6,h7,h8,h9,h10,h11,h12,h13,h14,h15,h16,h17,h18,h19,h20,h21,h22⟩:=h
  have ha:Bn 0 255 (ρ.a 5)=true:= ‹_›
  rw[td2 (x:=ρ.i 21+1) (by omega)] at*
  rw[td2 (x:=ρ.i 22+1) (by omega)] at*
  have hm:ρ.i 21*ρ.i 22≤65535*65535:=Int.mul_le_mul (by omega) (by omega) (by omega) (by omega)
  have hp:0≤ρ.i 21*ρ.i 22:=Int.mul_nonneg (by omega) (by omega)
  have hc:(ρ.i 21+1)/2*((ρ.i 22+1)/2)≤32768*32768:=Int.mul_le_mul (by omega) (by omega) (by omega) (by omega)
  have hc0:0≤(ρ.i 21+1)/2*((ρ.i 22+1)/2):=Int.mul_nonneg (by omega) (by omega)
  have e25:ρ.i 25=(ρ.i 21+1)/2:= ‹_›
  have e24:ρ.i 24=(ρ.i 21+1)/2*((ρ.i 22+1)/2):=by rw[←e25];assumption
  have eB:Ov (ρ.i 21) (ρ.i 22)=ρ.i 20:=by unfold Ov;omega
  have eR:Po (ρ.i 21) (ρ.i 22)=ρ.i 20+ρ.i 24:=by unfold Po;omega
  have F: ∀x y:Int,0≤x→0≤y→(min (ρ.i 6+y) (ρ.i 22-1)).tdiv 2=min (ρ.i 6+y) (ρ.i 22-1)/2∧(min (ρ.i 5+x) (ρ.i 21-1)).tdiv 2=min (ρ.i 5+x) (ρ.i 21-1)/2∧0≤min (ρ.i 6+y) (ρ.i 22-1)*ρ.i 21∧0≤min (ρ.i 6+y) (ρ.i 22-1)*ρ.i 21+min (ρ.i 5+x) (ρ.i 21-1)∧min (ρ.i 6+y) (ρ.i 22-1)*ρ.i 21+min (ρ.i 5+x) (ρ.i 21-1)<ρ.i 20∧0≤(min (ρ.i 6+y) (ρ.i 22-1)).tdiv 2*ρ.i 25∧0≤(min (ρ.i 6+y) (ρ.i 22-1)).tdiv 2*ρ.i 25+(min (ρ.i 5+x) (ρ.i 21-1)).tdiv 2∧(min (ρ.i 6+y) (ρ.i 22-1)).tdiv 2*ρ.i 25+(min (ρ.i 5+x) (ρ.i 21-1)).tdiv 2<ρ.i 24:=by
    intro x y hx hy
    have a:=Sp (X:=min (ρ.i 5+x) (ρ.i 21-1)) (Y:=min (ρ.i 6+y) (ρ.i 22-1)) (w:=ρ.i 21) (h:=ρ.i 22) (by omega) (by omega) (by omega) (by omega)
    have b:=Sp (X:=min (ρ.i 5+x) (ρ.i 21-1)/2) (Y:=min (ρ.i 6+y) (ρ.i 22-1)/2) (w:=(ρ.i 21+1)/2) (h:=(ρ.i 22+1)/2) (by omega) (by omega) (by omega) (by omega)
    rw[td2 (x:=min (ρ.i 6+y) (ρ.i 22-1)) (by omega),td2 (x:=min (ρ.i 5+x) (ρ.i 21-1)) (by omega),e25]
    omega
  have V: ∀x y n:Int,0≤n→n<(ρ.a 5).length→IntKind.i32.wrap (Bg (ρ.a 5) n)=Bg (ρ.a 5) n:=by
    intro x y n h0 h1
    have:=Ct ha h0 h1
    rw[IntKind.wrap_i32]
    omega
  have C: ∀(off y x:Int),0≤y→y<8→0≤x→x<8→(Mw off (ρ.i 5) (ρ.i 6) (ρ.i 21) (ρ.i 22) (ρ.a 5))[(8*y+x).toNat]? =some (Bg (ρ.a 5) (off+((min (ρ.i 6+y) (ρ.i 22-1)).tdiv 2*ρ.i 25+(min (ρ.i 5+x) (ρ.i 21-1)).tdiv 2))):=by
    intro off y x a b c d
    have f:=F x y c a
    rw[j0d a b c d,f.1,f.2.1,e25]
  simp only[qi3,chT,jkx,↓Bo,↓Bq,↓Bs,↓Az,↓Ca,↓Bz,↓Bu,↓Bc,↓Bb,↓Be,↓Ba,↓Bv,↓Ay,↓Bt,↓Br,↓Bw,↓Bx,↓By,Ag,As,Ap,Ar,T.I,T.A,T.B,Int.toNat_zero,List.drop_zero,and_true,implies_true,VC.sem,Aa,Af,Ak,Ai,Ae,Ac,Ad,Am,Al,Ah,An,Aj,Ab,Aq,Ao,Ou,j82,j6s,jxo,j8z,eB,eR]
  (repeat' (first|with_reducible exact True.intro|with_reducible refine And.intro ?_ ?_|intro _))<;>(try omega)
  all_goals (try (have:=F (ρ.i 1400) (ρ.i 1000) (by omega) (by omega);omega))
  · rw[show (8*0:Int).toNat=0 from rfl,List.take_zero,Pl]
  · rw[show (8*0:Int).toNat=0 from rfl,List.take_zero,Pl]
  · rw[show (8*0:Int).toNat=0 from rfl,List.take_zero,Pl]
  · rw[Int.add_zero]
  · rw[Int.add_zero]
  · rw[Int.add_zero]
  · have f:=F (ρ.i 1400) (ρ.i 1000) (by omega) (by omega)
    rw[V 0 0 _ (by omega) (by omega),show (ρ.i 8+(8*ρ.i 1000+ρ.i 1400)).toNat=(ρ.i 8).toNat+(8*ρ.i 1000+ρ.i 1400).toNat from by omega,show (8*ρ.i 1000+(ρ.i 1400+1)).toNat=(8*ρ.i 1000+ρ.i 1400).toNat+1 from by omega]
    exact (Ui (C (ρ.i 20+ρ.i 24) (ρ.i 1000) (ρ.i 1400) (by omega) (by omega) (by omega) (by omega)) (by omega)).symm
  · have f:=F (ρ.i 1400) (ρ.i 1000) (by omega) (by omega)
    rw[V 0 0 _ (by omega) (by omega),show (ρ.i 7+(8*ρ.i 1000+ρ.i 1400)).toNat=(ρ.i 7).toNat+(8*ρ.i 1000+ρ.i 1400).toNat from by omega,show (8*ρ.i 1000+(ρ.i 1400+1)).toNat=(8*ρ.i 1000+ρ.i 1400).toNat+1 from by omega]
    exact (Ui (C (ρ.i 20) (ρ.i 1000) (ρ.i 1400) (by omega) (by omega) (by omega) (by omega)) (by omega)).symm
  · have f:=F (ρ.i 1400) (ρ.i 1000) (by omega) (by omega)
    rw[V 0 0 _ (by omega) (by omega),show (8*ρ.i 1000+(ρ.i 1400+1)).toNat=(8*ρ.i 1000+ρ.i 1400).toNat+1 from by omega]
    have g:=Ui (s:=0) (l:=ρ.a 4) (jel (px:=ρ.i 5) (py:=ρ.i 6) (wide:=ρ.i 21) (high:=ρ.i 22) (pix:=ρ.a 5) (y:=ρ.i 1000) (x:=ρ.i 1400) (by omega) (by omega) (by omega) (by omega)) (by omega)
    rw[Nat.zero_add] at g
    exact g.symm
  · rw[show 8*(ρ.i 1000+1)=8*ρ.i 1000+ρ.i 1400 from by omega]
  · rw[show 8*(ρ.i 1000+1)=8*ρ.i 1000+ρ.i 1400 from by omega]
  · rw[show 8*(ρ.i 1000+1)=8*ρ.i 1000+ρ.i 1400 from by omega]
  · rw[List.take_of_length_le (by rw[Dz];omega)]
  · rw[List.take_of_length_le (by rw[Dz];omega)]
  · rw[List.take_of_length_le (by rw[Fw];omega)]
    unfold Cb
    rw[List.drop_eq_nil_of_le (by rw[Fw];omega),List.append_nil];rfl
theorem jdf{s old:List Int}(hs:Bn 0 255 s=true){i n m p y x j0 j1 j2 j3:Int}(hi:0≤i)(hi4:i<4)(hy:0≤y)(hy4:y<4)(hx:0≤x)(hx4:x<4)(hn:n=16*i+4*y+x)(hm:m=n+1)(hp:p=8*y+x+32*(i/2)+4*(i % 2))(e0:j0=64*i+16*y+2*x)(e1:j1=j0+1)(e2:j2=j0+8)(e3:j3=j0+9):
    jgt s old m.toNat=(jgt s old n.toNat).set p.toNat (IntKind.i32.wrap (IntKind.i32.wrap (IntKind.i32.wrap (IntKind.i32.wrap (Bg s j0+Bg s j1)+Bg s j2)+Bg s j3)+2)/4):=by
  have em:m.toNat=n.toNat+1:=by omega
  have eo:scO n.toNat=p.toNat:=by unfold scO;omega
  have ej:((64*(2*(p.toNat/32)+p.toNat % 8/4)+16*(p.toNat/8 % 4)+2*(p.toNat % 4):Nat):Int)=j0:=by omega
  have a:=jag hs j0
  have b:=jag hs j1
  have c:=jag hs j2
  have d:=jag hs j3
  rw[em,jgt,eo]
  congr 1
  simp only[scV,ej,←e1,←e2,←e3,IntKind.wrap_i32]
  omega
def qgr:VC:=
 let t0:T:=.lit 0
 let t1:T:=.lit 4
 let t2:T:=.mul t1 t0
 let t3:T:=.av 10
 let t4:T:=.alit []
 let t5:T:=.add t0 (.mul t1 (.iv 1000))
 let t6:T:=.fa 94 t5 t0 t0 t0 t3 (.av 4) t4 t4
 let t7:T:=.lit (-9223372036854775808)
 let t8:T:=.lit 9223372036854775807
 let t9:T:=.add (.mul (.lit 16) (.iv 1000)) (.mul (.lit 2) (.iv 1400))
 let t10:T:=.lit 64
 let t11:T:=.lit 256
 let t12:T:=.add t9 (.lit 1)
 let t13:T:=.add t9 (.lit 8)
 let t14:T:=.add t9 (.lit 9)
 let t15:T:=.add (.mul (.lit 8) (.iv 1000)) (.iv 1400)
 let t16:T:=.add (.iv 1400) (.lit 1)
 let t18:T:=.fa 94 (.add t5 (.iv 1400)) t0 t0 t0 t3 (.av 4) t4 t4
 let t19:T:=.lt (.sub t1 t16) (.sub t1 (.iv 1400))
 let t20:T:=.add (.iv 1000) (.lit 1)
 let t21:T:=.add (.lit 16) (.mul t1 (.iv 1400))
 let t22:T:=.fa 94 t21 t0 t0 t0 t3 (.av 4) t4 t4
 let t23:T:=.add (.mul (.lit 16) (.iv 1400)) (.mul (.lit 2) (.iv 1800))
 let t25:T:=.add t23 (.lit 1)
 let t27:T:=.add t23 (.lit 8)
 let t29:T:=.add t23 (.lit 9)
 let t31:T:=.add (.mul (.lit 8) (.iv 1400)) (.iv 1800)
 let t32:T:=.add t31 t1
 let t33:T:=.add (.iv 1800) (.lit 1)
 let t35:T:=.fa 94 (.add t21 (.iv 1800)) t0 t0 t0 t3 (.av 4) t4 t4
 let t36:T:=.lt (.sub t1 t33) (.sub t1 (.iv 1800))
 let t37:T:=.add (.lit 32) (.mul t1 (.iv 1800))
 let t38:T:=.fa 94 t37 t0 t0 t0 t3 (.av 4) t4 t4
 let t39:T:=.add (.mul (.lit 16) (.iv 1800)) (.mul (.lit 2) (.iv 2200))
 let t40:T:=.add (.lit 128) t39
 let t41:T:=.add t39 (.lit 1)
 let t42:T:=.add (.lit 128) t41
 let t43:T:=.add t39 (.lit 8)
 let t44:T:=.add (.lit 128) t43
 let t45:T:=.add t39 (.lit 9)
 let t46:T:=.add (.lit 128) t45
 let t47:T:=.add (.mul (.lit 8) (.iv 1800)) (.iv 2200)
 let t48:T:=.add t47 (.lit 32)
 let t49:T:=.add (.iv 2200) (.lit 1)
 let t51:T:=.fa 94 (.add t37 (.iv 2200)) t0 t0 t0 t3 (.av 4) t4 t4
 let t52:T:=.lt (.sub t1 t49) (.sub t1 (.iv 2200))
 let t53:T:=.add (.lit 48) (.mul t1 (.iv 2200))
 let t54:T:=.fa 94 t53 t0 t0 t0 t3 (.av 4) t4 t4
 let t55:T:=.add (.mul (.lit 16) (.iv 2200)) (.mul (.lit 2) (.iv 2600))
 let t56:T:=.add (.lit 192) t55
 let t57:T:=.add t55 (.lit 1)
 let t58:T:=.add (.lit 192) t57
 let t59:T:=.add t55 (.lit 8)
 let t60:T:=.add (.lit 192) t59
 let t61:T:=.add t55 (.lit 9)
 let t62:T:=.add (.lit 192) t61
 let t63:T:=.add (.mul (.lit 8) (.iv 2200)) (.iv 2600)
 let t64:T:=.add t63 (.lit 36)
 let t65:T:=.add (.iv 2600) (.lit 1)
 let t66:T:=.fa 94 (.add t53 (.iv 2600)) t0 t0 t0 t3 (.av 4) t4 t4
 (.need [(.aeq (.fa 94 (.add t0 t2) t0 t0 t0 t3 (.av 4) t4 t4) (.av 4)),(.le t0 t0),(.le t0 t1)] (.any 1000 1000000000 [(.le t0 (.iv 1000)),(.le (.iv 1000) t1)] (.cond (.lt (.iv 1000) t1) (.need [(.aeq (.fa 94 (.add t5 t0) t0 t0 t0 t3 (.av 4) t4 t4) t6)] (.any 1400 1000000000 [(.le t0 (.iv 1400)),(.le (.iv 1400) t1)] (.cond (.lt (.iv 1400) t1) (.need [(.le t7 (.mul (.lit 16) (.iv 1000))),(.le (.mul (.lit 16) (.iv 1000)) t8)] (.need [(.le t7 (.mul (.lit 2) (.iv 1400))),(.le (.mul (.lit 2) (.iv 1400)) t8)] (.need [(.le t7 t9),(.le t9 t8)] (.need [(.le t0 t9),(.lt t9 t10)] (.need [(.lt t9 t11)] (.need [(.le t7 t12),(.le t12 t8)] (.need [(.le t0 t12),(.lt t12 t10)] (.need [(.lt t12 t11)] (.need [(.le t7 t13),(.le t13 t8)] (.need [(.le t0 t13),(.lt t13 t10)] (.need [(.lt t13 t11)] (.need [(.le t7 t14),(.le t14 t8)] (.need [(.le t0 t14),(.lt t14 t10)] (.need [(.lt t14 t11)] (.need [(.le t7 (.mul (.lit 8) (.iv 1000))),(.le (.mul (.lit 8) (.iv 1000)) t8)] (.need [(.le t7 t15),(.le t15 t8)] (.need [(.le t0 t15),(.lt t15 t10)] (.need [(.le t7 t16),(.le t16 t8)] (.need [(.aeq (.fa 94 (.add t5 t16) t0 t0 t0 t3 (.av 4) t4 t4) (.set t18 t15 (.shr .i32 (.wrap .i32 (.add (.wrap .i32 (.add (.wrap .i32 (.add (.wrap .i32 (.add (.get t3 t9) (.get t3 t12))) (.get t3 t13))) (.get t3 t14))) (.lit 2))) (.lit 2)))),(.le t0 t16),(.le t16 t1),(.lt t0 (.sub t1 (.iv 1400))),t19] .done))))))))))))))))))) (.need [(.le t7 t20),(.le t20 t8)] (.need [(.aeq (.fa 94 (.add t0 (.mul t1 t20)) t0 t0 t0 t3 (.av 4) t4 t4) t18),(.le t0 t20),(.le t20 t1),(.lt t0 (.sub t1 (.iv 1000))),(.lt (.sub t1 t20) (.sub t1 (.iv 1000)))] .done))))) (.need [(.aeq (.fa 94 (.add (.lit 16) t2) t0 t0 t0 t3 (.av 4) t4 t4) t6)] (.any 1400 1000000000 [(.le t0 (.iv 1400)),(.le (.iv 1400) t1)] (.cond (.lt (.iv 1400) t1) (.need [(.aeq (.fa 94 (.add t21 t0) t0 t0 t0 t3 (.av 4) t4 t4) t22)] (.any 1800 1000000000 [(.le t0 (.iv 1800)),(.le (.iv 1800) t1)] (.cond (.lt (.iv 1800) t1) (.need [(.le t7 (.mul (.lit 16) (.iv 1400))),(.le (.mul (.lit 16) (.iv 1400)) t8)] (.need [(.le t7 (.mul (.lit 2) (.iv 1800))),(.le (.mul (.lit 2) (.iv 1800)) t8)] (.need [(.le t7 t23),(.le t23 t8)] (.need [(.le t0 t23),(.lt t23 t10)] (.need [(.lt (.add t10 t23) t11)] (.need [(.le t7 t25),(.le t25 t8)] (.need [(.le t0 t25),(.lt t25 t10)] (.need [(.lt (.add t10 t25) t11)] (.need [(.le t7 t27),(.le t27 t8)] (.need [(.le t0 t27),(.lt t27 t10)] (.need [(.lt (.add t10 t27) t11)] (.need [(.le t7 t29),(.le t29 t8)] (.need [(.le t0 t29),(.lt t29 t10)] (.need [(.lt (.add t10 t29) t11)] (.need [(.le t7 (.mul (.lit 8) (.iv 1400))),(.le (.mul (.lit 8) (.iv 1400)) t8)] (.need [(.le t7 t31),(.le t31 t8)] (.need [(.le t7 t32),(.le t32 t8)] (.need [(.le t0 t32),(.lt t32 t10)] (.need [(.le t7 t33),(.le t33 t8)] (.need [(.aeq (.fa 94 (.add t21 t33) t0 t0 t0 t3 (.av 4) t4 t4) (.set t35 t32 (.shr .i32 (.wrap .i32 (.add (.wrap .i32 (.add (.wrap .i32 (.add (.wrap .i32 (.add (.get t3 (.add t10 t23)) (.get t3 (.add t10 t25)))) (.get t3 (.add t10 t27)))) (.get t3 (.add t10 t29)))) (.lit 2))) (.lit 2)))),(.le t0 t33),(.le t33 t1),(.lt t0 (.sub t1 (.iv 1800))),t36] .done)))))))))))))))))))) (.need [(.le t7 t16),(.le t16 t8)] (.need [(.aeq (.fa 94 (.add (.lit 16) (.mul t1 t16)) t0 t0 t0 t3 (.av 4) t4 t4) t35),(.le t0 t16),(.le t16 t1),(.lt t0 (.sub t1 (.iv 1400))),t19] .done))))) (.need [(.aeq (.fa 94 (.add (.lit 32) t2) t0 t0 t0 t3 (.av 4) t4 t4) t22)] (.any 1800 1000000000 [(.le t0 (.iv 1800)),(.le (.iv 1800) t1)] (.cond (.lt (.iv 1800) t1) (.need [(.aeq (.fa 94 (.add t37 t0) t0 t0 t0 t3 (.av 4) t4 t4) t38)] (.any 2200 1000000000 [(.le t0 (.iv 2200)),(.le (.iv 2200) t1)] (.cond (.lt (.iv 2200) t1) (.need [(.le t7 (.mul (.lit 16) (.iv 1800))),(.le (.mul (.lit 16) (.iv 1800)) t8)] (.need [(.le t7 (.mul (.lit 2) (.iv 2200))),(.le (.mul (.lit 2) (.iv 2200)) t8)] (.need [(.le t7 t39),(.le t39 t8)] (.need [(.le t0 t39),(.lt t39 t10)] (.need [(.lt t40 t11)] (.need [(.le t7 t41),(.le t41 t8)] (.need [(.le t0 t41),(.lt t41 t10)] (.need [(.lt t42 t11)] (.need [(.le t7 t43),(.le t43 t8)] (.need [(.le t0 t43),(.lt t43 t10)] (.need [(.lt t44 t11)] (.need [(.le t7 t45),(.le t45 t8)] (.need [(.le t0 t45),(.lt t45 t10)] (.need [(.lt t46 t11)] (.need [(.le t7 (.mul (.lit 8) (.iv 1800))),(.le (.mul (.lit 8) (.iv 1800)) t8)] (.need [(.le t7 t47),(.le t47 t8)] (.need [(.le t7 t48),(.le t48 t8)] (.need [(.le t0 t48),(.lt t48 t10)] (.need [(.le t7 t49),(.le t49 t8)] (.need [(.aeq (.fa 94 (.add t37 t49) t0 t0 t0 t3 (.av 4) t4 t4) (.set t51 t48 (.shr .i32 (.wrap .i32 (.add (.wrap .i32 (.add (.wrap .i32 (.add (.wrap .i32 (.add (.get t3 t40) (.get t3 t42))) (.get t3 t44))) (.get t3 t46))) (.lit 2))) (.lit 2)))),(.le t0 t49),(.le t49 t1),(.lt t0 (.sub t1 (.iv 2200))),t52] .done)))))))))))))))))))) (.need [(.le t7 t33),(.le t33 t8)] (.need [(.aeq (.fa 94 (.add (.lit 32) (.mul t1 t33)) t0 t0 t0 t3 (.av 4) t4 t4) t51),(.le t0 t33),(.le t33 t1),(.lt t0 (.sub t1 (.iv 1800))),t36] .done))))) (.need [(.aeq (.fa 94 (.add (.lit 48) t2) t0 t0 t0 t3 (.av 4) t4 t4) t38)] (.any 2200 1000000000 [(.le t0 (.iv 2200)),(.le (.iv 2200) t1)] (.cond (.lt (.iv 2200) t1) (.need [(.aeq (.fa 94 (.add t53 t0) t0 t0 t0 t3 (.av 4) t4 t4) t54)] (.any 2600 1000000000 [(.le t0 (.iv 2600)),(.le (.iv 2600) t1)] (.cond (.lt (.iv 2600) t1) (.need [(.le t7 (.mul (.lit 16) (.iv 2200))),(.le (.mul (.lit 16) (.iv 2200)) t8)] (.need [(.le t7 (.mul (.lit 2) (.iv 2600))),(.le (.mul (.lit 2) (.iv 2600)) t8)] (.need [(.le t7 t55),(.le t55 t8)] (.need [(.le t0 t55),(.lt t55 t10)] (.need [(.lt t56 t11)] (.need [(.le t7 t57),(.le t57 t8)] (.need [(.le t0 t57),(.lt t57 t10)] (.need [(.lt t58 t11)] (.need [(.le t7 t59),(.le t59 t8)] (.need [(.le t0 t59),(.lt t59 t10)] (.need [(.lt t60 t11)] (.need [(.le t7 t61),(.le t61 t8)] (.need [(.le t0 t61),(.lt t61 t10)] (.need [(.lt t62 t11)] (.need [(.le t7 (.mul (.lit 8) (.iv 2200))),(.le (.mul (.lit 8) (.iv 2200)) t8)] (.need [(.le t7 t63),(.le t63 t8)] (.need [(.le t7 t64),(.le t64 t8)] (.need [(.le t0 t64),(.lt t64 t10)] (.need [(.le t7 t65),(.le t65 t8)] (.need [(.aeq (.fa 94 (.add t53 t65) t0 t0 t0 t3 (.av 4) t4 t4) (.set t66 t64 (.shr .i32 (.wrap .i32 (.add (.wrap .i32 (.add (.wrap .i32 (.add (.wrap .i32 (.add (.get t3 t56) (.get t3 t58))) (.get t3 t60))) (.get t3 t62))) (.lit 2))) (.lit 2)))),(.le t0 t65),(.le t65 t1),(.lt t0 (.sub t1 (.iv 2600))),(.lt (.sub t1 t65) (.sub t1 (.iv 2600)))] .done)))))))))))))))))))) (.need [(.le t7 t49),(.le t49 t8)] (.need [(.aeq (.fa 94 (.add (.lit 48) (.mul t1 t49)) t0 t0 t0 t3 (.av 4) t4 t4) t66),(.le t0 t49),(.le t49 t1),(.lt t0 (.sub t1 (.iv 2200))),t52] .done))))) (.need [(.aeq (.fa 93 t0 t0 t0 t0 t3 t4 t4 t4) t54)] .done)))))))))))))
theorem w93:Dd (Db Tryz.prog Jt Jq ⟨j73,jzb⟩ 100000 93 c93) qgr=true:=by kernel_rfl
set_option maxHeartbeats 2000000 in
theorem qa3:Cf Tryz.prog Z 93 c93:=by
  refine Bf Cq Cn w93 fun ρ h=> ?_
  simp only[c93,bB,bB4,Du,z0,Bi,Di,List.flatMap_cons,List.flatMap_nil,List.append_nil,List.append_assoc,List.cons_append,List.nil_append,and_true,↓Bo,↓Bq,↓Bs,↓Az,↓Ca,↓Bz,↓Bu,↓Bc,↓Bb,↓Be,↓Ba,↓Bv,↓Ay,↓Bt,↓Br,↓Bw,↓Bx,↓By,Ag,As,Ap,Ar,T.I,T.A,T.B,Int.toNat_zero,List.drop_zero,and_true,implies_true,VC.sem,Aa,Af,Ak,Ai,Ae,Ac,Ad,Am,Al,Ah,An,Aj,Ab,Aq,Ao] at h
  obtain ⟨h1,h2,h3,h4⟩:=h
  have ha:Bn 0 255 (ρ.a 10)=true:= ‹_›
  simp only[qgr,scT,fA,↓Bo,↓Bq,↓Bs,↓Az,↓Ca,↓Bz,↓Bu,↓Bc,↓Bb,↓Be,↓Ba,↓Bv,↓Ay,↓Bt,↓Br,↓Bw,↓Bx,↓By,Ag,As,Ap,Ar,T.I,T.A,T.B,Int.toNat_zero,List.drop_zero,and_true,implies_true,VC.sem,Aa,Af,Ak,Ai,Ae,Ac,Ad,Am,Al,Ah,An,Aj,Ab,Aq,Ao,j8g,qil,jxo]
  (repeat' (first|with_reducible exact True.intro|with_reducible refine And.intro ?_ ?_|intro _))<;>(try omega)
  · rfl
  · rw[Int.add_zero]
  · exact jdf (i:=0) (y:=ρ.i 1000) (x:=ρ.i 1400) ha (by omega) (by omega) (by omega) (by omega) (by omega) (by omega) (by omega) (by omega) (by omega) (by omega) (by omega) (by omega) (by omega)
  · rw[show 4*(ρ.i 1000+1)=4*ρ.i 1000+ρ.i 1400 from by omega,Int.add_assoc]
  · rw[show 16+4*0=0+4*ρ.i 1000 from by omega]
  · rw[Int.add_zero]
  · exact jdf (i:=1) (y:=ρ.i 1400) (x:=ρ.i 1800) ha (by omega) (by omega) (by omega) (by omega) (by omega) (by omega) (by omega) (by omega) (by omega) (by omega) (by omega) (by omega) (by omega)
  · rw[show 4*(ρ.i 1400+1)=4*ρ.i 1400+ρ.i 1800 from by omega,Int.add_assoc]
  · rw[show 32+4*0=16+4*ρ.i 1400 from by omega]
  · rw[Int.add_zero]
  · exact jdf (i:=2) (y:=ρ.i 1800) (x:=ρ.i 2200) ha (by omega) (by omega) (by omega) (by omega) (by omega) (by omega) (by omega) (by omega) (by omega) (by omega) (by omega) (by omega) (by omega)
  · rw[show 4*(ρ.i 1800+1)=4*ρ.i 1800+ρ.i 2200 from by omega,Int.add_assoc]
  · rw[show 48+4*0=32+4*ρ.i 1800 from by omega]
  · rw[Int.add_zero]
  · exact jdf (i:=3) (y:=ρ.i 2200) (x:=ρ.i 2600) ha (by omega) (by omega) (by omega) (by omega) (by omega) (by omega) (by omega) (by omega) (by omega) (by omega) (by omega) (by omega) (by omega)
  · rw[show 4*(ρ.i 2200+1)=4*ρ.i 2200+ρ.i 2600 from by omega,Int.add_assoc]
  · rw[show 48+4*ρ.i 2200=64 from by omega]
    exact (jz8 (by omega)).symm
end
end Go.Proofs.YtljjbikbfeigdaaGreatDoor
namespace Go.Proofs.YtljjbikbfeigdaaGreatDoor
noncomputable section
open Go
theorem j9p(x y w h p q r:Int)(L Q P:List Int):Z.fa 502 x y 0 0 L Q P ([w]++([h]++([p]++([q]++ [r]))))=pk (Tr w h P Q (up L) p q r x y):=id rfl
theorem jwb(w h:Int)(L Q P:List Int):Z.fa 503 0 0 0 0 L Q P ([w]++ [h])=pk (Sf w h P Q (up L)):=id rfl
theorem qfa(q b:List Int):Z.fi 62 0 0 0 0 q b [] []=coef 1 q (Dc b) 0:=id rfl
theorem jql(w h b n:Int)(P q t:List Int):Sf w h P q (up ([b]++([n]++t)))=Tr w h P q (up ([b]++([n]++(t++ [255,218,0,12,3,1,0,2,17,3,17,0,63,0])))) 0 0 0 0 0:=by unfold Sf;rfl
theorem qlt{l a b c d:List Int}(h:l.length=256)(ha:a.length=64)(hb:b.length=64)(hc:c.length=64)(hd:d.length=64):
    Cb (Cb (Cb (Cb l 0 a) (Int.toNat 64) b) (Int.toNat 128) c) (Int.toNat 192) d=a++(b++(c++d)):=by
  show Cb (Cb (Cb (Cb l 0 a) 64 b) 128 c) 192 d=_
  have e1:(Cb l 0 a).take 64=a:=by rw[Hr _ _ _ _ (by omega) (by omega)];rfl
  have l1:(Cb l 0 a).length=256:=by rw[Ev _ _ _ (by omega),h]
  have e2:(Cb (Cb l 0 a) 64 b).take 128=a++b:=by rw[Hr _ _ _ _ (by omega) (by omega),e1]
  have l2:(Cb (Cb l 0 a) 64 b).length=256:=by rw[Ev _ _ _ (by omega),l1]
  have e3:(Cb (Cb (Cb l 0 a) 64 b) 128 c).take 192=a++b++c:=by rw[Hr _ _ _ _ (by omega) (by omega),e2]
  have l3:(Cb (Cb (Cb l 0 a) 64 b) 128 c).length=256:=by rw[Ev _ _ _ (by omega),l2]
  have l4:(Cb (Cb (Cb (Cb l 0 a) 64 b) 128 c) 192 d).length=256:=by rw[Ev _ _ _ (by omega),l3]
  have e4:(Cb (Cb (Cb (Cb l 0 a) 64 b) 128 c) 192 d).take 256=a++b++c++d:=by rw[Hr _ _ _ _ (by omega) (by omega),e3]
  rw[List.take_of_length_le (by omega)] at e4
  rw[e4]
  simp only[List.append_assoc]
theorem jw5{o x y w h:Int}{l P:List Int}(hl:(l.length:Int)=256):
    Cb (Cb (Cb (Cb l 0 (Mw o x y w h P)) (Int.toNat 64) (Mw o (x+8) y w h P)) (Int.toNat 128) (Mw o x (y+8) w h P)) (Int.toNat 192) (Mw o (x+8) (y+8) w h P)=Nw o x y w h P:=
  qlt (by omega) Dz Dz Dz Dz
theorem Rr{l:List Int}(hl:(l.length:Int)=256){a:List Int}{s:Nat}(ha:a.length=64)(hs:s≤192):((Cb l s a).length:Int)=256:=by
  rw[Ev _ _ _ (by omega)];exact hl
theorem jy3: ∀f s,jyr f=some s→Ei Tryz.prog Z f s:=by
  intro f s h
  unfold jyr at h
  split at h
  · cases h;exact Dq qa3
  · cases h
theorem jup: ∀f s,jr7 f=some s→Dw Tryz.prog Z f s:=by
  intro f s h
  unfold jr7 at h
  split at h
  · cases h;exact Ce jdu
  · cases h;exact Ce qbd
  · cases h
    intro ρ w0 w h args r he hn hw hh
    dsimp only at he
    split at he
    · exact Ce jm1 ρ w0 w h args r he hn hw hh
    · exact Ce jxx ρ w0 w h args r he hn hw hh
  · cases h;exact Ce jpo
  · cases h
def j7u:VC:=
 let t0:T:=.add (.len (.av 0)) (.iv 0)
 let t1:T:=.lit 14
 let t2:T:=.lit 1000000000000
 let t3:T:=.lit 0
 let t4:T:=.lit 4096
 let t5:T:=.splice (.av 1100) (.len (.av 1100)) (.cut (.av 1101) t3 (.iv 1100))
 let t6:T:=.splice (.av 0) (.len (.av 0)) (.cut (.av 1) t3 (.iv 0))
 let t7:T:=.lit (-1024)
 let t8:T:=.lit 1023
 let t9:T:=.lit 64
 let t10:T:=.rep t9 t3
 let t11:T:=.len t10
 let t12:T:=.lit 256
 let t13:T:=.eq (.len (.splice t10 t11 (.splice t10 t11 (.splice t10 t11 t10)))) t12
 let t14:T:=.alit [0]
 let t15:T:=.set t14 t3 (.iv 1)
 let t16:T:=.set t14 t3 (.iv 2)
 let t17:T:=.set t14 t3 (.iv 21)
 let t18:T:=.len t17
 let t19:T:=.set t14 t3 (.iv 22)
 let t20:T:=.len t19
 let t21:T:=.set t14 t3 t3
 let t22:T:=.fa 503 t3 t3 t3 t3 (.splice t15 (.len t15) (.splice t16 (.len t16) t6)) (.av 3) (.av 5) (.splice t17 t18 t19)
 let t23:T:=.lit 4294967295
 let t24:T:=.iv 1403
 let t25:T:=.add (.len (.av 1400)) (.iv 1402)
 let t26:T:=.mul (.lit 1769904) t24
 let t27:T:=.splice (.set t14 t3 (.iv 1400)) (.len (.set t14 t3 (.iv 1400))) (.splice (.set t14 t3 (.iv 1401)) (.len (.set t14 t3 (.iv 1401))) (.splice (.av 1400) (.len (.av 1400)) (.cut (.av 1401) t3 (.iv 1402))))
 let t28:T:=.iv 1803
 let t29:T:=.add (.len (.av 1800)) (.iv 1802)
 let t30:T:=.splice (.set t14 t3 (.iv 1800)) (.len (.set t14 t3 (.iv 1800))) (.splice (.set t14 t3 (.iv 1801)) (.len (.set t14 t3 (.iv 1801))) (.splice (.av 1800) (.len (.av 1800)) (.cut (.av 1801) t3 (.iv 1802))))
 let t31:T:=.splice t17 t18 (.splice t19 t20 (.splice (.set t14 t3 (.iv 1804)) (.len (.set t14 t3 (.iv 1804))) (.splice (.set t14 t3 (.iv 1805)) (.len (.set t14 t3 (.iv 1805))) (.set t14 t3 (.iv 1806)))))
 let t32:T:=.lit (-9223372036854775808)
 let t33:T:=.lit 9223372036854775807
 let t34:T:=.alit []
 let t35:T:=.fa 90 t28 t24 (.iv 21) (.iv 22) (.av 5) t34 t34 t34
 let t36:T:=.splice (.set t14 t3 (.iv 2701)) (.len (.set t14 t3 (.iv 2701))) (.splice (.set t14 t3 (.iv 2702)) (.len (.set t14 t3 (.iv 2702))) (.splice (.av 2700) (.len (.av 2700)) (.cut (.av 2701) t3 (.iv 2700))))
 let t37:T:=.fi 61 t3 t3 t3 t3 (.av 3) t35 t34 t34
 let t38:T:=.add t28 (.lit 8)
 let t39:T:=.splice (.av 1804) t3 (.fa 91 t28 t24 (.iv 21) (.iv 22) (.av 5) t34 t34 t34)
 let t40:T:=.splice (.av 1805) t3 (.fa 92 t28 t24 (.iv 21) (.iv 22) (.av 5) t34 t34 t34)
 let t41:T:=.fa 90 t38 t24 (.iv 21) (.iv 22) (.av 5) t34 t34 t34
 let t42:T:=.splice (.set t14 t3 (.iv 3501)) (.len (.set t14 t3 (.iv 3501))) (.splice (.set t14 t3 (.iv 3502)) (.len (.set t14 t3 (.iv 3502))) (.splice (.av 3500) (.len (.av 3500)) (.cut (.av 3501) t3 (.iv 3500))))
 let t43:T:=.fi 61 t3 t3 t3 t3 (.av 3) t41 t34 t34
 let t44:T:=.add t24 (.lit 8)
 let t45:T:=.splice t39 t9 (.fa 91 t38 t24 (.iv 21) (.iv 22) (.av 5) t34 t34 t34)
 let t46:T:=.splice t40 t9 (.fa 92 t38 t24 (.iv 21) (.iv 22) (.av 5) t34 t34 t34)
 let t47:T:=.fa 90 t28 t44 (.iv 21) (.iv 22) (.av 5) t34 t34 t34
 let t48:T:=.splice (.set t14 t3 (.iv 4301)) (.len (.set t14 t3 (.iv 4301))) (.splice (.set t14 t3 (.iv 4302)) (.len (.set t14 t3 (.iv 4302))) (.splice (.av 4300) (.len (.av 4300)) (.cut (.av 4301) t3 (.iv 4300))))
 let t49:T:=.fi 61 t3 t3 t3 t3 (.av 3) t47 t34 t34
 let t50:T:=.splice t45 (.lit 128) (.fa 91 t28 t44 (.iv 21) (.iv 22) (.av 5) t34 t34 t34)
 let t51:T:=.splice t46 (.lit 128) (.fa 92 t28 t44 (.iv 21) (.iv 22) (.av 5) t34 t34 t34)
 let t52:T:=.fa 90 t38 t44 (.iv 21) (.iv 22) (.av 5) t34 t34 t34
 let t53:T:=.splice (.set t14 t3 (.iv 5101)) (.len (.set t14 t3 (.iv 5101))) (.splice (.set t14 t3 (.iv 5102)) (.len (.set t14 t3 (.iv 5102))) (.splice (.av 5100) (.len (.av 5100)) (.cut (.av 5101) t3 (.iv 5100))))
 let t54:T:=.fi 61 t3 t3 t3 t3 (.av 3) t52 t34 t34
 let t55:T:=.splice t50 (.lit 192) (.fa 91 t38 t44 (.iv 21) (.iv 22) (.av 5) t34 t34 t34)
 let t56:T:=.fa 93 t3 t3 t3 t3 t55 t34 t34 t34
 let t57:T:=.splice (.set t14 t3 (.iv 5501)) (.len (.set t14 t3 (.iv 5501))) (.splice (.set t14 t3 (.iv 5502)) (.len (.set t14 t3 (.iv 5502))) (.splice (.av 5500) (.len (.av 5500)) (.cut (.av 5501) t3 (.iv 5500))))
 let t58:T:=.fi 62 t3 t3 t3 t3 (.av 3) t56 t34 t34
 let t59:T:=.splice t51 (.lit 192) (.fa 92 t38 t44 (.iv 21) (.iv 22) (.av 5) t34 t34 t34)
 let t60:T:=.fa 93 t3 t3 t3 t3 t59 t34 t34 t34
 let t61:T:=.splice (.set t14 t3 (.iv 5901)) (.len (.set t14 t3 (.iv 5901))) (.splice (.set t14 t3 (.iv 5902)) (.len (.set t14 t3 (.iv 5902))) (.splice (.av 5900) (.len (.av 5900)) (.cut (.av 5901) t3 (.iv 5900))))
 let t62:T:=.fi 62 t3 t3 t3 t3 (.av 3) t60 t34 t34
 let t63:T:=.add t28 (.lit 16)
 let t66:T:=.add t24 (.lit 16)
 let t67:T:=.splice (.set t14 t3 (.iv 1901)) (.len (.set t14 t3 (.iv 1901))) (.splice (.set t14 t3 (.iv 1902)) (.len (.set t14 t3 (.iv 1902))) (.splice (.av 1900) (.len (.av 1900)) (.cut (.av 1901) t3 (.iv 1900))))
 (.need [(.le (.add t0 t1) t2),(.le t3 t1),(.le t1 t4),(.le t1 t1),(.eq (.len (.alit [255,218,0,12,3,1,0,2,17,3,17,0,63,0])) t1)] (.any 1000 1 [(.eq (.add (.len (.av 1100)) (.iv 1100)) (.add t0 t1)),(.le t3 (.iv 1100)),(.le (.iv 1100) t4),(.eq (.len (.av 1101)) t4),(.aeq t5 (.splice t6 (.len t6) (.alit [255,218,0,12,3,1,0,2,17,3,17,0,63,0])))] (.need [(.le t3 t3),(.le t3 (.add (.iv 22) (.lit 15))),(.le t7 t3),(.le t3 t8),(.le t7 t3),(.le t3 t8),(.le t7 t3),(.le t3 t8),(.eq t11 t9),t13,t13,(.le (.add (.len (.av 1100)) (.iv 1100)) (.add t0 (.add t1 (.mul (.lit 1769904) t3)))),(.aeq (.fa 502 t3 t3 t3 t3 (.splice t15 (.len t15) (.splice t16 (.len t16) t5)) (.av 3) (.av 5) (.splice t17 t18 (.splice t19 t20 (.splice t21 (.len t21) (.splice t21 (.len t21) t21))))) t22)] (.any 1400 6 [(.le t3 (.iv 1402)),(.le (.iv 1402) t4),(.eq (.len (.av 1401)) t4),(.le t3 (.iv 1400)),(.le (.iv 1400) t23),(.le t3 (.iv 1401)),(.le (.iv 1401) (.lit 7)),(.le t3 t24),(.le t24 (.add (.iv 22) (.lit 15))),(.le t7 (.iv 1404)),(.le (.iv 1404) t8),(.le t7 (.iv 1405)),(.le (.iv 1405) t8),(.le t7 (.iv 1406)),(.le (.iv 1406) t8),(.eq (.len (.av 1402)) t9),(.eq (.len (.av 1404)) t12),(.eq (.len (.av 1405)) t12),(.le t25 (.add t0 (.add t1 t26))),(.aeq (.fa 502 t3 t24 t3 t3 t27 (.av 3) (.av 5) (.splice t17 t18 (.splice t19 t20 (.splice (.set t14 t3 (.iv 1404)) (.len (.set t14 t3 (.iv 1404))) (.splice (.set t14 t3 (.iv 1405)) (.len (.set t14 t3 (.iv 1405))) (.set t14 t3 (.iv 1406))))))) t22)] (.cond (.lt t24 (.iv 22)) (.need [(.le t3 (.add (.iv 21) (.lit 15))),(.le t25 (.add t0 (.add t1 (.add t26 (.mul (.lit 432) t3)))))] (.any 1800 6 [(.le t3 (.iv 1802)),(.le (.iv 1802) t4),(.eq (.len (.av 1801)) t4),(.le t3 (.iv 1800)),(.le (.iv 1800) t23),(.le t3 (.iv 1801)),(.le (.iv 1801) (.lit 7)),(.le t3 t28),(.le t28 (.add (.iv 21) (.lit 15))),(.le t7 (.iv 1804)),(.le (.iv 1804) t8),(.le t7 (.iv 1805)),(.le (.iv 1805) t8),(.le t7 (.iv 1806)),(.le (.iv 1806) t8),(.eq (.len (.av 1802)) t9),(.eq (.len (.av 1804)) t12),(.eq (.len (.av 1805)) t12),(.le t29 (.add t0 (.add t1 (.add t26 (.mul (.lit 432) t28))))),(.aeq (.fa 502 t28 t24 t3 t3 t30 (.av 3) (.av 5) t31) t22)] (.cond (.lt t28 (.iv 21)) (.need [(.le t32 t28),(.le t28 t33)] (.need [(.le t32 t24),(.le t24 t33)] (.need [(.le t28 (.lit 65551)),(.le t24 (.lit 65551)),(.le t3 (.lit 192)),(.le t3 (.lit 192))] (.any 2200 8 [] (.need [(.le (.add t29 (.lit 1152)) t2),(.eq (.len t35) t9),(.fb 2 t3 (.lit 255) t3 t3 t35 t34 t34 t34)] (.any 2600 8 [(.le t3 (.iv 2700)),(.le (.iv 2700) t4),(.eq (.len (.av 2701)) t4),(.le t3 (.iv 2701)),(.le (.iv 2701) t23),(.le t3 (.iv 2702)),(.le (.iv 2702) (.lit 7)),(.le (.add (.len (.av 2700)) (.iv 2700)) (.add t29 (.lit 1152))),(.aeq t36 (.fa 70 (.iv 1804) t3 t3 t3 t30 (.av 3) t35 t34)),(.eq (.len (.av 2702)) t9),(.le t7 t37),(.le t37 t8)] (.need [(.le t32 t38),(.le t38 t33)] (.need [(.le t3 t38),(.le t38 (.lit 65551)),(.le t3 t9),(.le t9 (.lit 192)),(.le t3 t9),(.le t9 (.lit 192)),(.eq (.len t39) t12),(.eq (.len t40) t12)] (.any 3000 10 [] (.need [(.le (.add (.add (.len (.av 2700)) (.iv 2700)) (.lit 1152)) t2),(.eq (.len t41) t9),(.fb 2 t3 (.lit 255) t3 t3 t41 t34 t34 t34)] (.any 3400 10 [(.le t3 (.iv 3500)),(.le (.iv 3500) t4),(.eq (.len (.av 3501)) t4),(.le t3 (.iv 3501)),(.le (.iv 3501) t23),(.le t3 (.iv 3502)),(.le (.iv 3502) (.lit 7)),(.le (.add (.len (.av 3500)) (.iv 3500)) (.add (.add (.len (.av 2700)) (.iv 2700)) (.lit 1152))),(.aeq t42 (.fa 70 t37 t3 t3 t3 t36 (.av 3) t41 t34)),(.eq (.len (.av 3502)) t9),(.le t7 t43),(.le t43 t8)] (.need [(.le t32 t44),(.le t44 t33)] (.need [(.le t3 t44),(.le t44 (.lit 65551)),(.le t3 (.lit 128)),(.le (.lit 128) (.lit 192)),(.le t3 (.lit 128)),(.le (.lit 128) (.lit 192)),(.eq (.len t45) t12),(.eq (.len t46) t12)] (.any 3800 12 [] (.need [(.le (.add (.add (.len (.av 3500)) (.iv 3500)) (.lit 1152)) t2),(.eq (.len t47) t9),(.fb 2 t3 (.lit 255) t3 t3 t47 t34 t34 t34)] (.any 4200 12 [(.le t3 (.iv 4300)),(.le (.iv 4300) t4),(.eq (.len (.av 4301)) t4),(.le t3 (.iv 4301)),(.le (.iv 4301) t23),(.le t3 (.iv 4302)),(.le (.iv 4302) (.lit 7)),(.le (.add (.len (.av 4300)) (.iv 4300)) (.add (.add (.len (.av 3500)) (.iv 3500)) (.lit 1152))),(.aeq t48 (.fa 70 t43 t3 t3 t3 t42 (.av 3) t47 t34)),(.eq (.len (.av 4302)) t9),(.le t7 t49),(.le t49 t8)] (.need [(.le (.lit 192) (.lit 192)),(.le (.lit 192) (.lit 192)),(.eq (.len t50) t12),(.eq (.len t51) t12)] (.any 4600 14 [] (.need [(.le (.add (.add (.len (.av 4300)) (.iv 4300)) (.lit 1152)) t2),(.eq (.len t52) t9),(.fb 2 t3 (.lit 255) t3 t3 t52 t34 t34 t34)] (.any 5000 14 [(.le t3 (.iv 5100)),(.le (.iv 5100) t4),(.eq (.len (.av 5101)) t4),(.le t3 (.iv 5101)),(.le (.iv 5101) t23),(.le t3 (.iv 5102)),(.le (.iv 5102) (.lit 7)),(.le (.add (.len (.av 5100)) (.iv 5100)) (.add (.add (.len (.av 4300)) (.iv 4300)) (.lit 1152))),(.aeq t53 (.fa 70 t49 t3 t3 t3 t48 (.av 3) t52 t34)),(.eq (.len (.av 5102)) t9),(.le t7 t54),(.le t54 t8)] (.need [(.eq (.len t55) t12),(.fb 2 t3 (.lit 255) t3 t3 t55 t34 t34 t34)] (.need [(.le (.add (.add (.len (.av 5100)) (.iv 5100)) (.lit 1152)) t2),(.eq (.len t56) t9),(.fb 2 t3 (.lit 255) t3 t3 t56 t34 t34 t34)] (.any 5400 14 [(.le t3 (.iv 5500)),(.le (.iv 5500) t4),(.eq (.len (.av 5501)) t4),(.le t3 (.iv 5501)),(.le (.iv 5501) t23),(.le t3 (.iv 5502)),(.le (.iv 5502) (.lit 7)),(.le (.add (.len (.av 5500)) (.iv 5500)) (.add (.add (.len (.av 5100)) (.iv 5100)) (.lit 1152))),(.aeq t57 (.fa 71 (.iv 1805) t3 t3 t3 t53 (.av 3) t56 t34)),(.eq (.len (.av 5502)) t9),(.le t7 t58),(.le t58 t8)] (.need [(.eq (.len t59) t12),(.fb 2 t3 (.lit 255) t3 t3 t59 t34 t34 t34)] (.need [(.le (.add (.add (.len (.av 5500)) (.iv 5500)) (.lit 1152)) t2),(.eq (.len t60) t9),(.fb 2 t3 (.lit 255) t3 t3 t60 t34 t34 t34)] (.any 5800 14 [(.le t3 (.iv 5900)),(.le (.iv 5900) t4),(.eq (.len (.av 5901)) t4),(.le t3 (.iv 5901)),(.le (.iv 5901) t23),(.le t3 (.iv 5902)),(.le (.iv 5902) (.lit 7)),(.le (.add (.len (.av 5900)) (.iv 5900)) (.add (.add (.len (.av 5500)) (.iv 5500)) (.lit 1152))),(.aeq t61 (.fa 71 (.iv 1806) t3 t3 t3 t57 (.av 3) t60 t34)),(.eq (.len (.av 5902)) t9),(.le t7 t62),(.le t62 t8)] (.need [(.le t32 t63),(.le t63 t33)] (.need [(.le t3 t63),(.le t63 (.add (.iv 21) (.lit 15))),(.le (.add (.len (.av 5900)) (.iv 5900)) (.add t0 (.add t1 (.add t26 (.mul (.lit 432) t63))))),(.aeq (.fa 502 t63 t24 t3 t3 t61 (.av 3) (.av 5) (.splice t17 t18 (.splice t19 t20 (.splice (.set t14 t3 t54) (.len (.set t14 t3 t54)) (.splice (.set t14 t3 t58) (.len (.set t14 t3 t58)) (.set t14 t3 t62)))))) t22),(.lt t3 (.sub (.add (.iv 21) (.lit 16)) t28)),(.lt (.sub (.add (.iv 21) (.lit 16)) t63) (.sub (.add (.iv 21) (.lit 16)) t28))] .done)))))))))))))))))))))))))))) (.need [(.le t32 t66),(.le t66 t33)] (.need [(.le t3 t66),(.le t66 (.add (.iv 22) (.lit 15))),(.le t29 (.add t0 (.add t1 (.mul (.lit 1769904) t66)))),(.aeq (.fa 502 t3 t66 t3 t3 t30 (.av 3) (.av 5) t31) t22),(.lt t3 (.sub (.add (.iv 22) (.lit 16)) t24)),(.lt (.sub (.add (.iv 22) (.lit 16)) t66) (.sub (.add (.iv 22) (.lit 16)) t24))] .done))))) (.need [(.le (.add t25 (.lit 6)) t2),(.le t3 (.lit 127)),(.le (.lit 127) (.lit 65535)),(.le t3 (.lit 7)),(.le (.lit 7) (.lit 16))] (.any 1800 6 [(.le t3 (.iv 1900)),(.le (.iv 1900) t4),(.eq (.len (.av 1901)) t4),(.le t3 (.iv 1901)),(.le (.iv 1901) t23),(.le t3 (.iv 1902)),(.le (.iv 1902) (.lit 7)),(.le (.add (.len (.av 1900)) (.iv 1900)) (.add t25 (.lit 6))),(.aeq t67 (.fa 3 (.lit 127) (.lit 7) t3 t3 t27 t34 t34 t34))] (.need [(.le (.add (.len (.av 1900)) (.iv 1900)) (.add t0 (.lit 200000000000))),(.aeq t67 t22)] .done))))))))
theorem ql8:Dd (Db Tryz.prog jyr jr7 ⟨qfg,Jd⟩ 100000 67 j25) j7u=true:=by kernel_rfl
set_option maxRecDepth 20000 in
set_option maxHeartbeats 4000000 in
theorem j44:Cf Tryz.prog Z 67 j25:=by
  refine Bf jy3 jup ql8 fun ρ h=> ?_
  simp only[j25,eIn,hE,bE,jd7,hB,bW,bB,Gl,Tt,ja7,hf,jkc,jk8,ja2,cA,fA,z0,Du,Bi,Di,List.flatMap_cons,List.flatMap_nil,List.append_nil,List.append_assoc,List.cons_append,List.nil_append,and_true,↓Bo,↓Bq,↓Bs,↓Az,↓Ca,↓Bz,↓Bu,↓Bc,↓Bb,↓Be,↓Ba,↓Bv,↓Ay,↓Bt,↓Br,↓Bw,↓Bx,↓By,Ag,As,Ap,Ar,T.I,T.A,T.B,Int.toNat_zero,List.drop_zero,and_true,implies_true,VC.sem,Aa,Af,Ak,Ai,Ae,Ac,Ad,Am,Al,Ah,An,Aj,Ab,Aq,Ao] at h
  obtain ⟨h1,h2,h3,h4,h5,h6,h7,h8,h9,h10,h11,h12,h13,h14,h15,h16,h17,h18,h19,h20⟩:=h
  have ha:Bn 0 255 (ρ.a 5)=true:= ‹_›
  rw[td2 (x:=ρ.i 21+1) (by omega)] at*
  rw[td2 (x:=ρ.i 22+1) (by omega)] at*
  have hp:0≤ρ.i 21*ρ.i 22:=Int.mul_nonneg (by omega) (by omega)
  have hc0:0≤(ρ.i 21+1)/2*((ρ.i 22+1)/2):=Int.mul_nonneg (by omega) (by omega)
  have e25:ρ.i 25=(ρ.i 21+1)/2:= ‹_›
  have e24:ρ.i 24=(ρ.i 21+1)/2*((ρ.i 22+1)/2):=by rw[←e25];assumption
  have PI: ∀x y:Int,0≤x→0≤y→Bn 0 255 (Fy x y (ρ.i 21) (ρ.i 22) (ρ.a 5))=true:=by
    intro x y hx hy
    exact jom hx hy (by omega) (by omega) (by omega) ha
  have BI: ∀x y:Int,0≤x→0≤y→Bn 0 255 (Nw (Ov (ρ.i 21) (ρ.i 22)) x y (ρ.i 21) (ρ.i 22) (ρ.a 5))=true:=by
    intro x y hx hy
    exact jdc hx hy (by omega) (by omega) (by unfold Ov;omega) (by unfold Ov;omega) ha
  have RI: ∀x y:Int,0≤x→0≤y→Bn 0 255 (Nw (Po (ρ.i 21) (ρ.i 22)) x y (ρ.i 21) (ρ.i 22) (ρ.a 5))=true:=by
    intro x y hx hy
    exact jdc hx hy (by omega) (by omega) (by unfold Po;omega) (by unfold Po;omega) ha
  simp only[j7u,Fb,↓Bo,↓Bq,↓Bs,↓Az,↓Ca,↓Bz,↓Bu,↓Bc,↓Bb,↓Be,↓Ba,↓Bv,↓Ay,↓Bt,↓Br,↓Bw,↓Bx,↓By,Ag,As,Ap,Ar,T.I,T.A,T.B,Int.toNat_zero,List.drop_zero,and_true,implies_true,VC.sem,Aa,Af,Ak,Ai,Ae,Ac,Ad,Am,Al,Ah,An,Aj,Ab,Aq,Ao,j9p,jwb,Ou,j82,j6s,j8g,j17,j77,j6p,qfa,Tm]
  have PL: ∀x y:Int,((Fy x y (ρ.i 21) (ρ.i 22) (ρ.a 5)).length:Int)=64:=fun x y=>by rw[Fw];rfl
  have SL: ∀l:List Int,((Nx l).length:Int)=64:=fun l=>by rw[Zk];rfl
  (repeat' (first|with_reducible exact True.intro|with_reducible refine And.intro ?_ ?_|intro _))<;>(try omega)
  all_goals (try (with_reducible exact PL _ _))
  all_goals (try (with_reducible exact SL _))
  all_goals (try (with_reducible refine PI _ _ ?_ ?_<;>omega))
  · rfl
  · rfl
  · rfl
  · rfl
  · have e:= ‹ρ.a 1100++_=_›
    rw[e,jql]
  · exact Rr ‹_› Dz (by decide)
  · exact Rr ‹_› Dz (by decide)
  · exact Rr (Rr ‹_› Dz (by decide)) Dz (by decide)
  · exact Rr (Rr ‹_› Dz (by decide)) Dz (by decide)
  · exact Rr (Rr (Rr ‹_› Dz (by decide)) Dz (by decide)) Dz (by decide)
  · exact Rr (Rr (Rr ‹_› Dz (by decide)) Dz (by decide)) Dz (by decide)
  · exact Rr (Rr (Rr (Rr ‹_› Dz (by decide)) Dz (by decide)) Dz (by decide)) Dz (by decide)
  · rw[jw5 ‹_›];exact BI _ _ (by omega) (by omega)
  · rw[jw5 ‹_›];exact jdz (BI _ _ (by omega) (by omega))
  · exact Rr (Rr (Rr (Rr ‹_› Dz (by decide)) Dz (by decide)) Dz (by decide)) Dz (by decide)
  · rw[jw5 ‹_›];exact RI _ _ (by omega) (by omega)
  · rw[jw5 ‹_›];exact jdz (RI _ _ (by omega) (by omega))
  · refine Eq.trans ?_ ‹pk (Tr _ _ _ _ (up ([ρ.i 1800]++_)) (ρ.i 1804) _ _ (ρ.i 1803) _)=_›
    rw[jhp (x:=ρ.i 1803) (by omega) (by omega),‹[ρ.i 5901]++_=_›,Lc,‹[ρ.i 5501]++_=_›,Lc,‹[ρ.i 5101]++_=_›,Lc,‹[ρ.i 4301]++_=_›,Lc,‹[ρ.i 3501]++_=_›,Lc,‹[ρ.i 2701]++_=_›,Lc,jw5 ‹((ρ.a 1804).length:Int)=256›,jw5 ‹((ρ.a 1805).length:Int)=256›,jyt]
  · refine Eq.trans ?_ ‹pk (Tr _ _ _ _ (up ([ρ.i 1800]++_)) (ρ.i 1804) _ _ (ρ.i 1803) _)=_›
    rw[jeb (x:=ρ.i 1803) (by omega) (by omega)]
  · refine Eq.trans ?_ ‹pk (Tr _ _ _ _ (up ([ρ.i 1400]++_)) (ρ.i 1404) _ _ 0 _)=_›
    rw[jam (by omega),‹[ρ.i 1901]++_=_›,jhh]
end
end Go.Proofs.YtljjbikbfeigdaaGreatDoor
namespace Go.Proofs.YtljjbikbfeigdaaGreatDoor
noncomputable section
open Go
theorem jyx: ∀f s,j0a f=some s→Dw Tryz.prog Z f s:=by
  intro f s h
  unfold j0a at h
  split at h
  · exact jb1 153 s h
  · exact jb1 154 s h
  · exact jb1 155 s h
  · cases h;exact Ce j44
  · exact jb1 81 s h
  · cases h
def j6o:VC:=
 let t0:T:=.lit (-9223372036854775808)
 let t1:T:=.lit 9223372036854775807
 let t2:T:=.lit 1
 let t3:T:=.ite (.lt (.iv 30) t2) t2 (.ite (.lt (.lit 100) (.iv 30)) (.lit 100) (.iv 30))
 let t4:T:=.lt t3 (.lit 50)
 let t6:T:=.lit 0
 let t7:T:=.tdiv (.lit 5000) t3
 let t8:T:=.lit 2
 let t9:T:=.mul t3 t8
 let t10:T:=.sub (.lit 200) t9
 let t11:T:=.lit 64
 let t12:T:=.splice (.rep t11 t6) (.len (.rep t11 t6)) (.rep t11 t6)
 let t13:T:=.fa 511 (.iv 30) t6 t6 t6 (.alit []) (.alit []) (.alit []) (.alit [])
 let t14:T:=.mul t11 (.iv 2600)
 let t15:T:=.add (.mul (.iv 2600) t11) (.iv 3000)
 let t16:T:=.fa 46 t6 t6 t6 t6 (.alit []) (.alit []) (.alit []) (.alit [])
 let t17:T:=.get t16 t15
 let t18:T:=.mul t17 (.ite t4 t7 t10)
 let t19:T:=.add t18 (.lit 50)
 let t20:T:=.tdiv t19 (.lit 100)
 let t21:T:=.add (.iv 3000) t2
 let t22:T:=.set (.av 3000) t15 (.wrap .u8 (.ite (.lt t20 t2) t2 (.ite (.lt (.lit 255) t20) (.lit 255) t20)))
 let t24:T:=.add (.iv 2600) t2
 let t25:T:=.lit 4096
 let t26:T:=.lit 1000000000000
 let t27:T:=.lit 16
 let t28:T:=.splice (.av 3100) (.len (.av 3100)) (.cut (.av 3101) t6 (.iv 3100))
 let t29:T:=.splice (.av 0) (.len (.av 0)) (.cut (.rep t25 t6) t6 t6)
 let t30:T:=.splice (.av 3500) (.len (.av 3500)) (.cut (.av 3501) t6 (.iv 3500))
 let t31:T:=.splice (.av 3900) (.len (.av 3900)) (.cut (.av 3901) t6 (.iv 3900))
 let t32:T:=.set (.alit [0]) t6 t6
 let t33:T:=.splice (.av 4300) (.len (.av 4300)) (.cut (.av 4301) t6 (.iv 4300))
 let t34:T:=.splice (.av 4700) (.len (.av 4700)) (.cut (.av 4701) t6 (.iv 4700))
 let t35:T:=.splice (.av 5100) (.len (.av 5100)) (.cut (.av 5101) t6 (.iv 5100))
 let t36:T:=.splice (.av 5500) (.len (.av 5500)) (.cut (.av 5501) t6 (.iv 5500))
 let t37:T:=.set (.set (.set (.set (.set (.set (.set (.set (.set (.set (.set (.set (.set (.set (.set (.alit [0,0,0,0,0,0,0,0,0,0,0,0,0,0,0]) t6 (.lit 8)) t2 (.wrap .u8 (.shr .i64 (.iv 22) (.lit 8)))) t8 (.wrap .u8 (.bits .and .i64 (.iv 22) (.lit 255)))) (.lit 3) (.wrap .u8 (.shr .i64 (.iv 21) (.lit 8)))) (.lit 4) (.wrap .u8 (.bits .and .i64 (.iv 21) (.lit 255)))) (.lit 5) (.lit 3)) (.lit 6) t2) (.lit 7) (.lit 34)) (.lit 8) t6) (.lit 9) t8) (.lit 10) (.lit 17)) (.lit 11) t2) (.lit 12) (.lit 3)) (.lit 13) (.lit 17)) (.lit 14) t2
 let t38:T:=.splice (.av 5900) (.len (.av 5900)) (.cut (.av 5901) t6 (.iv 5900))
 let t39:T:=.splice (.av 6300) (.len (.av 6300)) (.cut (.av 6301) t6 (.iv 6300))
 let t40:T:=.splice (.av 6700) (.len (.av 6700)) (.cut (.av 6701) t6 (.iv 6700))
 let t41:T:=.splice (.av 7100) (.len (.av 7100)) (.cut (.av 7101) t6 (.iv 7100))
 let t42:T:=.alit [0,1,2,3,4,5,6,7,8,9,10,11]
 let t43:T:=.splice (.av 7500) (.len (.av 7500)) (.cut (.av 7501) t6 (.iv 7500))
 let t44:T:=.splice (.av 7900) (.len (.av 7900)) (.cut (.av 7901) t6 (.iv 7900))
 let t45:T:=.splice (.av 8300) (.len (.av 8300)) (.cut (.av 8301) t6 (.iv 8300))
 let t46:T:=.alit [1,2,3,0,4,17,5,18,33,49,65,6,19,81,97,7,34,113,20,50,129,145,161,8,35,66,177,193,21,82,209,240,36,51,98,114,130,9,10,22,23,24,25,26,37,38,39,40,41,42,52,53,54,55,56,57,58,67,68,69,70,71,72,73,74,83,84,85,86,87,88,89,90,99,100,101,102,103,104,105,106,115,116,117,118,119,120,121,122,131,132,133,134,135,136,137,138,146,147,148,149,150,151,152,153,154,162,163,164,165,166,167,168,169,170,178,179,180,181,182,183,184,185,186,194,195,196,197,198,199,200,201,202,210,211,212,213,214,215,216,217,218,225,226,227,228,229,230,231,232,233,234,241,242,243,244,245,246,247,248,249,250]
 let t47:T:=.splice (.av 8700) (.len (.av 8700)) (.cut (.av 8701) t6 (.iv 8700))
 let t48:T:=.splice (.av 9100) (.len (.av 9100)) (.cut (.av 9101) t6 (.iv 9100))
 let t49:T:=.splice (.av 9500) (.len (.av 9500)) (.cut (.av 9501) t6 (.iv 9500))
 let t50:T:=.splice (.av 9900) (.len (.av 9900)) (.cut (.av 9901) t6 (.iv 9900))
 let t51:T:=.splice (.av 10300) (.len (.av 10300)) (.cut (.av 10301) t6 (.iv 10300))
 let t52:T:=.splice (.av 10700) (.len (.av 10700)) (.cut (.av 10701) t6 (.iv 10700))
 let t53:T:=.alit [0,1,2,3,17,4,5,33,49,6,18,65,81,7,97,113,19,34,50,129,8,20,66,145,161,177,193,9,35,51,82,240,21,98,114,209,10,22,36,52,225,37,241,23,24,25,26,38,39,40,41,42,53,54,55,56,57,58,67,68,69,70,71,72,73,74,83,84,85,86,87,88,89,90,99,100,101,102,103,104,105,106,115,116,117,118,119,120,121,122,130,131,132,133,134,135,136,137,138,146,147,148,149,150,151,152,153,154,162,163,164,165,166,167,168,169,170,178,179,180,181,182,183,184,185,186,194,195,196,197,198,199,200,201,202,210,211,212,213,214,215,216,217,218,226,227,228,229,230,231,232,233,234,242,243,244,245,246,247,248,249,250]
 let t54:T:=.splice (.av 11100) (.len (.av 11100)) (.cut (.av 11101) t6 (.iv 11100))
 let t55:T:=.add (.add (.len (.av 11100)) (.iv 11100)) (.lit 200000000000)
 let t56:T:=.splice (.av 11500) (.len (.av 11500)) (.cut (.av 11501) t6 (.iv 11500))
 let t57:T:=.set (.set (.set (.set (.set (.set (.set (.set (.set (.set (.set (.set (.set (.set (.set (.alit [0,0,0,0,0,0,0,0,0,0,0,0,0,0,0]) t6 (.lit 255)) t2 (.lit 196)) t8 t2) (.lit 3) (.lit 162)) (.lit 4) (.wrap .u8 (.bits .and .i64 (.iv 21) (.lit 255)))) (.lit 5) (.lit 3)) (.lit 6) t2) (.lit 7) (.lit 34)) (.lit 8) t6) (.lit 9) t8) (.lit 10) (.lit 17)) (.lit 11) t2) (.lit 12) (.lit 3)) (.lit 13) (.lit 17)) (.lit 14) t2
 let t58:T:=.cut (.set (.set (.splice t57 (.len t57) (.rep t2 t6)) t6 (.lit 255)) t2 (.lit 217)) t6 t8
 let t59:T:=.add (.len (.av 11900)) (.iv 11900)
 let t60:T:=.splice (.av 11900) (.len (.av 11900)) (.cut (.av 11901) t6 (.iv 11900))
 (.need [(.le t0 (.iv 21)),(.le (.iv 21) t1)] (.cond (.le (.lit 65536) (.iv 21)) (.fail "leaf fit") (.need [(.le t0 (.iv 22)),(.le (.iv 22) t1)] (.cond (.le (.lit 65536) (.iv 22)) (.fail "leaf fit") (.need [(.le (.lit 12) (.lit 12))] (.any 1000 12 [] (.need [(.le (.lit 162) (.lit 162))] (.any 1400 13 [] (.any 1800 14 [] (.any 2200 15 [] (.need [(.or (.not t4) (.not (.eq t3 t6))),(.or (.not t4) (.le t0 t7)),(.or (.not t4) (.le t7 t1)),(.or t4 (.le t0 t9)),(.or t4 (.le t9 t1)),(.or t4 (.le t0 t10)),(.or t4 (.le t10 t1))] (.need [(.le t6 t6),(.le t6 t8),(.eq (.len t12) (.lit 128)),(.aeq (.cut t12 t6 (.mul t11 t6)) (.cut t13 t6 (.mul t11 t6)))] (.any 2600 1000000017 [(.le t6 (.iv 2600)),(.le (.iv 2600) t8),(.eq (.len (.av 2600)) (.lit 128)),(.aeq (.cut (.av 2600) t6 t14) (.cut t13 t6 t14))] (.cond (.lt (.iv 2600) t8) (.need [(.le t6 t11),(.aeq (.cut (.av 2600) t6 (.add t14 t6)) (.cut t13 t6 (.add t14 t6)))] (.any 3000 1000000017 [(.le t6 (.iv 3000)),(.le (.iv 3000) t11),(.eq (.len (.av 3000)) (.lit 128)),(.aeq (.cut (.av 3000) t6 (.add t14 (.iv 3000))) (.cut t13 t6 (.add t14 (.iv 3000))))] (.cond (.lt (.iv 3000) t11) (.need [(.le t6 (.mul (.iv 2600) t11))] (.need [(.le t6 t15),(.lt t15 (.len t16))] (.need [(.le t0 t17),(.le t17 t1)] (.need [(.le t0 t18),(.le t18 t1)] (.need [(.le t0 t19),(.le t19 t1)] (.need [(.le t0 t20),(.le t20 t1)] (.need [(.lt t15 (.lit 128))] (.need [(.le t0 t21),(.le t21 t1)] (.need [(.le t6 t21),(.le t21 t11),(.eq (.len t22) (.lit 128)),(.aeq (.cut t22 t6 (.add t14 t21)) (.cut t13 t6 (.add t14 t21))),(.lt t6 (.sub t11 (.iv 3000))),(.lt (.sub t11 t21) (.sub t11 (.iv 3000)))] .done))))))))) (.need [(.le t0 t24),(.le t24 t1)] (.need [(.le t6 t24),(.le t24 t8),(.aeq (.cut (.av 3000) t6 (.mul t11 t24)) (.cut t13 t6 (.mul t11 t24))),(.lt t6 (.sub t8 (.iv 2600))),(.lt (.sub t8 t24) (.sub t8 (.iv 2600)))] .done))))) (.need [(.le t6 t25),(.le (.add (.add (.len (.av 0)) t6) t8) t26),(.le t8 t25),(.le t8 t27),(.eq (.len (.alit [255,216])) t8)] (.any 3000 17 [(.eq (.add (.len (.av 3100)) (.iv 3100)) (.add (.add (.len (.av 0)) t6) t8)),(.le t6 (.iv 3100)),(.le (.iv 3100) t25),(.eq (.len (.av 3101)) t25),(.aeq t28 (.splice t29 (.len t29) (.alit [255,216])))] (.need [(.le (.add (.add (.len (.av 3100)) (.iv 3100)) (.lit 4)) t26),(.le t6 (.lit 4)),(.le (.lit 4) t25),(.le (.lit 4) t27),(.eq (.len (.alit [255,219,0,132])) (.lit 4))] (.any 3400 17 [(.eq (.add (.len (.av 3500)) (.iv 3500)) (.add (.add (.len (.av 3100)) (.iv 3100)) (.lit 4))),(.le t6 (.iv 3500)),(.le (.iv 3500) t25),(.eq (.len (.av 3501)) t25),(.aeq t30 (.splice t28 (.len t28) (.alit [255,219,0,132])))] (.need [(.le (.add (.add (.len (.av 3500)) (.iv 3500)) t2) t26)] (.any 3800 17 [(.eq (.add (.len (.av 3900)) (.iv 3900)) (.add (.add (.len (.av 3500)) (.iv 3500)) t2)),(.le t6 (.iv 3900)),(.le (.iv 3900) t25),(.eq (.len (.av 3901)) t25),(.aeq t31 (.splice t30 (.len t30) t32))] (.need [(.le (.add (.add (.len (.av 3900)) (.iv 3900)) t11) t26),(.le t6 t11),(.le t11 t25),(.le t11 t11),(.eq (.len (.cut (.av 2600) t6 t11)) t11)] (.any 4200 17 [(.eq (.add (.len (.av 4300)) (.iv 4300)) (.add (.add (.len (.av 3900)) (.iv 3900)) t11)),(.le t6 (.iv 4300)),(.le (.iv 4300) t25),(.eq (.len (.av 4301)) t25),(.aeq t33 (.splice t31 (.len t31) (.cut (.av 2600) t6 t11)))] (.need [(.le (.add (.add (.len (.av 4300)) (.iv 4300)) t2) t26)] (.any 4600 17 [(.eq (.add (.len (.av 4700)) (.iv 4700)) (.add (.add (.len (.av 4300)) (.iv 4300)) t2)),(.le t6 (.iv 4700)),(.le (.iv 4700) t25),(.eq (.len (.av 4701)) t25),(.aeq t34 (.splice t33 (.len t33) (.set (.alit [0]) t6 t2)))] (.need [(.le (.add (.add (.len (.av 4700)) (.iv 4700)) t11) t26),(.eq (.len (.cut (.av 2600) t11 t11)) t11)] (.any 5000 17 [(.eq (.add (.len (.av 5100)) (.iv 5100)) (.add (.add (.len (.av 4700)) (.iv 4700)) t11)),(.le t6 (.iv 5100)),(.le (.iv 5100) t25),(.eq (.len (.av 5101)) t25),(.aeq t35 (.splice t34 (.len t34) (.cut (.av 2600) t11 t11)))] (.need [(.le (.add (.add (.len (.av 5100)) (.iv 5100)) (.lit 4)) t26),(.eq (.len (.alit [255,192,0,17])) (.lit 4))] (.any 5400 20 [(.eq (.add (.len (.av 5500)) (.iv 5500)) (.add (.add (.len (.av 5100)) (.iv 5100)) (.lit 4))),(.le t6 (.iv 5500)),(.le (.iv 5500) t25),(.eq (.len (.av 5501)) t25),(.aeq t36 (.splice t35 (.len t35) (.alit [255,192,0,17])))] (.need [(.le (.add (.add (.len (.av 5500)) (.iv 5500)) (.lit 15)) t26),(.le t6 (.lit 15)),(.le (.lit 15) t25),(.le (.lit 15) t27),(.eq (.len t37) (.lit 15))] (.any 5800 20 [(.eq (.add (.len (.av 5900)) (.iv 5900)) (.add (.add (.len (.av 5500)) (.iv 5500)) (.lit 15))),(.le t6 (.iv 5900)),(.le (.iv 5900) t25),(.eq (.len (.av 5901)) t25),(.aeq t38 (.splice t36 (.len t36) t37))] (.need [(.le (.add (.add (.len (.av 5900)) (.iv 5900)) (.lit 4)) t26),(.eq (.len (.alit [255,196,1,162])) (.lit 4))] (.any 6200 30 [(.eq (.add (.len (.av 6300)) (.iv 6300)) (.add (.add (.len (.av 5900)) (.iv 5900)) (.lit 4))),(.le t6 (.iv 6300)),(.le (.iv 6300) t25),(.eq (.len (.av 6301)) t25),(.aeq t39 (.splice t38 (.len t38) (.alit [255,196,1,162])))] (.need [(.le (.add (.add (.len (.av 6300)) (.iv 6300)) t2) t26)] (.any 6600 31 [(.eq (.add (.len (.av 6700)) (.iv 6700)) (.add (.add (.len (.av 6300)) (.iv 6300)) t2)),(.le t6 (.iv 6700)),(.le (.iv 6700) t25),(.eq (.len (.av 6701)) t25),(.aeq t40 (.splice t39 (.len t39) t32))] (.need [(.le (.add (.add (.len (.av 6700)) (.iv 6700)) t27) t26),(.le t6 t27),(.le t27 t25),(.le t27 t27),(.eq (.len (.alit [0,1,5,1,1,1,1,1,1,0,0,0,0,0,0,0])) t27)] (.any 7000 31 [(.eq (.add (.len (.av 7100)) (.iv 7100)) (.add (.add (.len (.av 6700)) (.iv 6700)) t27)),(.le t6 (.iv 7100)),(.le (.iv 7100) t25),(.eq (.len (.av 7101)) t25),(.aeq t41 (.splice t40 (.len t40) (.alit [0,1,5,1,1,1,1,1,1,0,0,0,0,0,0,0])))] (.need [(.le (.add (.add (.len (.av 7100)) (.iv 7100)) (.lit 12)) t26),(.le t6 (.lit 12)),(.le (.lit 12) t25),(.eq (.len t42) (.lit 12))] (.any 7400 31 [(.eq (.add (.len (.av 7500)) (.iv 7500)) (.add (.add (.len (.av 7100)) (.iv 7100)) (.lit 12))),(.le t6 (.iv 7500)),(.le (.iv 7500) t25),(.eq (.len (.av 7501)) t25),(.aeq t43 (.splice t41 (.len t41) t42))] (.need [(.le (.add (.add (.len (.av 7500)) (.iv 7500)) t2) t26)] (.any 7800 32 [(.eq (.add (.len (.av 7900)) (.iv 7900)) (.add (.add (.len (.av 7500)) (.iv 7500)) t2)),(.le t6 (.iv 7900)),(.le (.iv 7900) t25),(.eq (.len (.av 7901)) t25),(.aeq t44 (.splice t43 (.len t43) (.set (.alit [0]) t6 t27)))] (.need [(.le (.add (.add (.len (.av 7900)) (.iv 7900)) t27) t26),(.eq (.len (.alit [0,2,1,3,3,2,4,3,5,5,4,4,0,0,1,125])) t27)] (.any 8200 32 [(.eq (.add (.len (.av 8300)) (.iv 8300)) (.add (.add (.len (.av 7900)) (.iv 7900)) t27)),(.le t6 (.iv 8300)),(.le (.iv 8300) t25),(.eq (.len (.av 8301)) t25),(.aeq t45 (.splice t44 (.len t44) (.alit [0,2,1,3,3,2,4,3,5,5,4,4,0,0,1,125])))] (.need [(.le (.add (.add (.len (.av 8300)) (.iv 8300)) (.lit 162)) t26),(.le t6 (.lit 162)),(.le (.lit 162) t25),(.eq (.len t46) (.lit 162))] (.any 8600 32 [(.eq (.add (.len (.av 8700)) (.iv 8700)) (.add (.add (.len (.av 8300)) (.iv 8300)) (.lit 162))),(.le t6 (.iv 8700)),(.le (.iv 8700) t25),(.eq (.len (.av 8701)) t25),(.aeq t47 (.splice t45 (.len t45) t46))] (.need [(.le (.add (.add (.len (.av 8700)) (.iv 8700)) t2) t26)] (.any 9000 33 [(.eq (.add (.len (.av 9100)) (.iv 9100)) (.add (.add (.len (.av 8700)) (.iv 8700)) t2)),(.le t6 (.iv 9100)),(.le (.iv 9100) t25),(.eq (.len (.av 9101)) t25),(.aeq t48 (.splice t47 (.len t47) (.set (.alit [0]) t6 t2)))] (.need [(.le (.add (.add (.len (.av 9100)) (.iv 9100)) t27) t26),(.eq (.len (.alit [0,3,1,1,1,1,1,1,1,1,1,0,0,0,0,0])) t27)] (.any 9400 33 [(.eq (.add (.len (.av 9500)) (.iv 9500)) (.add (.add (.len (.av 9100)) (.iv 9100)) t27)),(.le t6 (.iv 9500)),(.le (.iv 9500) t25),(.eq (.len (.av 9501)) t25),(.aeq t49 (.splice t48 (.len t48) (.alit [0,3,1,1,1,1,1,1,1,1,1,0,0,0,0,0])))] (.need [(.le (.add (.add (.len (.av 9500)) (.iv 9500)) (.lit 12)) t26)] (.any 9800 33 [(.eq (.add (.len (.av 9900)) (.iv 9900)) (.add (.add (.len (.av 9500)) (.iv 9500)) (.lit 12))),(.le t6 (.iv 9900)),(.le (.iv 9900) t25),(.eq (.len (.av 9901)) t25),(.aeq t50 (.splice t49 (.len t49) t42))] (.need [(.le (.add (.add (.len (.av 9900)) (.iv 9900)) t2) t26)] (.any 10200 34 [(.eq (.add (.len (.av 10300)) (.iv 10300)) (.add (.add (.len (.av 9900)) (.iv 9900)) t2)),(.le t6 (.iv 10300)),(.le (.iv 10300) t25),(.eq (.len (.av 10301)) t25),(.aeq t51 (.splice t50 (.len t50) (.set (.alit [0]) t6 (.lit 17))))] (.need [(.le (.add (.add (.len (.av 10300)) (.iv 10300)) t27) t26),(.eq (.len (.alit [0,2,1,2,4,4,3,4,7,5,4,4,0,1,2,119])) t27)] (.any 10600 34 [(.eq (.add (.len (.av 10700)) (.iv 10700)) (.add (.add (.len (.av 10300)) (.iv 10300)) t27)),(.le t6 (.iv 10700)),(.le (.iv 10700) t25),(.eq (.len (.av 10701)) t25),(.aeq t52 (.splice t51 (.len t51) (.alit [0,2,1,2,4,4,3,4,7,5,4,4,0,1,2,119])))] (.need [(.le (.add (.add (.len (.av 10700)) (.iv 10700)) (.lit 162)) t26),(.eq (.len t53) (.lit 162))] (.any 11000 34 [(.eq (.add (.len (.av 11100)) (.iv 11100)) (.add (.add (.len (.av 10700)) (.iv 10700)) (.lit 162))),(.le t6 (.iv 11100)),(.le (.iv 11100) t25),(.eq (.len (.av 11101)) t25),(.aeq t54 (.splice t52 (.len t52) t53))] (.need [(.le t6 (.lit 4294967295)),(.le t6 (.lit 7)),(.le t55 t26),(.fb 2 t2 (.lit 255) t6 t6 (.av 2600) (.alit []) (.alit []) (.alit []))] (.any 11400 34 [(.le t6 (.iv 11500)),(.le (.iv 11500) t25),(.eq (.len (.av 11501)) t25),(.le t6 (.iv 11501)),(.le (.iv 11501) (.lit 4294967295)),(.le t6 (.iv 11502)),(.le (.iv 11502) (.lit 7)),(.le (.add (.len (.av 11500)) (.iv 11500)) t55),(.aeq (.splice (.set (.alit [0]) t6 (.iv 11501)) (.len (.set (.alit [0]) t6 (.iv 11501))) (.splice (.set (.alit [0]) t6 (.iv 11502)) (.len (.set (.alit [0]) t6 (.iv 11502))) t56)) (.fa 503 t6 t6 t6 t6 (.splice t32 (.len t32) (.splice t32 (.len t32) t54)) (.av 2600) (.av 5) (.splice (.set (.alit [0]) t6 (.iv 21)) (.len (.set (.alit [0]) t6 (.iv 21))) (.set (.alit [0]) t6 (.iv 22)))))] (.need [(.le (.add (.add (.len (.av 11500)) (.iv 11500)) t8) t26),(.eq (.len t58) t8)] (.any 11800 34 [(.eq t59 (.add (.add (.len (.av 11500)) (.iv 11500)) t8)),(.le t6 (.iv 11900)),(.le (.iv 11900) t25),(.eq (.len (.av 11901)) t25),(.aeq t60 (.splice t56 (.len t56) t58))] (.need [(.le t59 t26)] (.any 12200 34 [(.eq (.len (.av 12300)) t59),(.aeq (.av 12300) t60)] (.need [(.aeq (.av 12300) (.fa 512 (.iv 30) (.iv 21) (.iv 22) t6 (.av 5) (.alit []) (.alit []) (.alit []))),(.le (.len (.av 12300)) t26)] .done)))))))))))))))))))))))))))))))))))))))))))))))))))))))))))))))
theorem qkh:Dd (Db Tryz.prog Jt j0a ⟨jtl,Jd⟩ 100000 45 j45) j6o=true:=by kernel_rfl
end
end Go.Proofs.YtljjbikbfeigdaaGreatDoor
