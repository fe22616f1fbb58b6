/- Part of the proof of FnColorStreamCardSaid: The walk of a whole piece of code on symbolic values, as a function, and what its answer asks for. -/
import Derived.Test.YtljjbikbfeigdaaGreatDoorCo02
set_option linter.all false
namespace Go.Proofs.YtljjbikbfeigdaaGreatDoor
noncomputable section
open Go
noncomputable def T.clearR:T→Nat→Bool:=T.rec (motive:=fun _=>Nat→Bool)
    (fun _ _=>true)
    (fun _=>true)
    (fun _=>true)
    (fun q0 ns=>Nat.ble (q0+1) ns)
    (fun q0 ns=>Nat.ble (q0+1) ns)
    (fun q0 ns=>Nat.ble (q0+1) ns)
    (fun _ _ h0 h1 ns=>((h0 ns).and (h1 ns)))
    (fun _ _ h0 h1 ns=>((h0 ns).and (h1 ns)))
    (fun _ _ h0 h1 ns=>((h0 ns).and (h1 ns)))
    (fun _ _ h0 ns=>(h0 ns))
    (fun _ _ h0 h1 ns=>((h0 ns).and (h1 ns)))
    (fun _ _ h0 h1 ns=>((h0 ns).and (h1 ns)))
    (fun _ _ _ h0 h1 ns=>((h0 ns).and (h1 ns)))
    (fun _ _ _ h0 h1 ns=>((h0 ns).and (h1 ns)))
    (fun _ _ _ _ h0 h1 ns=>((h0 ns).and (h1 ns)))
    (fun _ _ h0 h1 ns=>((h0 ns).and (h1 ns)))
    (fun _ _ h0 h1 ns=>((h0 ns).and (h1 ns)))
    (fun _ _ h0 h1 ns=>((h0 ns).and (h1 ns)))
    (fun _ _ h0 h1 ns=>((h0 ns).and (h1 ns)))
    (fun _ _ h0 h1 ns=>((h0 ns).and (h1 ns)))
    (fun _ _ h0 h1 ns=>((h0 ns).and (h1 ns)))
    (fun _ h0 ns=>(h0 ns))
    (fun _ _ h0 h1 ns=>((h0 ns).and (h1 ns)))
    (fun _ _ h0 h1 ns=>((h0 ns).and (h1 ns)))
    (fun _ _ _ h0 h1 h2 ns=>((h0 ns).and ((h1 ns).and (h2 ns))))
    (fun _ _ _ h0 h1 h2 ns=>((h0 ns).and ((h1 ns).and (h2 ns))))
    (fun _ h0 ns=>(h0 ns))
    (fun _ _ h0 h1 ns=>((h0 ns).and (h1 ns)))
    (fun _ _ _ h0 h1 h2 ns=>((h0 ns).and ((h1 ns).and (h2 ns))))
    (fun _ _ h0 h1 ns=>((h0 ns).and (h1 ns)))
    (fun _ _ _ h0 h1 h2 ns=>((h0 ns).and ((h1 ns).and (h2 ns))))
    (fun _ _=>true)
    (fun _ _ _ h0 h1 h2 ns=>((h0 ns).and ((h1 ns).and (h2 ns))))
    (fun _ _ h0 h1 ns=>((h0 ns).and (h1 ns)))
    (fun _ _ _ _ _ _ _ _ _ h0 h1 h2 h3 h4 h5 h6 h7 ns=>((h0 ns).and ((h1 ns).and ((h2 ns).and ((h3 ns).and ((h4 ns).and ((h5 ns).and ((h6 ns).and (h7 ns)))))))))
    (fun _ _ _ _ _ _ _ _ _ h0 h1 h2 h3 h4 h5 h6 h7 ns=>((h0 ns).and ((h1 ns).and ((h2 ns).and ((h3 ns).and ((h4 ns).and ((h5 ns).and ((h6 ns).and (h7 ns)))))))))
    (fun _ _ _ _ _ _ _ _ _ h0 h1 h2 h3 h4 h5 h6 h7 ns=>((h0 ns).and ((h1 ns).and ((h2 ns).and ((h3 ns).and ((h4 ns).and ((h5 ns).and ((h6 ns).and (h7 ns)))))))))
noncomputable def T.clear (ns:Nat) (t:T):Bool:=t.clearR ns
def T.clearI(ns:Nat):T→Bool
  | .lit _=>true
  | .tt=>true
  | .ff=>true
  | .iv q0=>Nat.ble (q0+1) ns
  | .bv q0=>Nat.ble (q0+1) ns
  | .av q0=>Nat.ble (q0+1) ns
  | .add a0 a1=>((T.clearI ns a0).and (T.clearI ns a1))
  | .sub a0 a1=>((T.clearI ns a0).and (T.clearI ns a1))
  | .mul a0 a1=>((T.clearI ns a0).and (T.clearI ns a1))
  | .wrap _ a0=>(T.clearI ns a0)
  | .tdiv a0 a1=>((T.clearI ns a0).and (T.clearI ns a1))
  | .tmod a0 a1=>((T.clearI ns a0).and (T.clearI ns a1))
  | .shl _ a0 a1=>((T.clearI ns a0).and (T.clearI ns a1))
  | .shr _ a0 a1=>((T.clearI ns a0).and (T.clearI ns a1))
  | .bits _ _ a0 a1=>((T.clearI ns a0).and (T.clearI ns a1))
  | .mx a0 a1=>((T.clearI ns a0).and (T.clearI ns a1))
  | .mn a0 a1=>((T.clearI ns a0).and (T.clearI ns a1))
  | .eq a0 a1=>((T.clearI ns a0).and (T.clearI ns a1))
  | .lt a0 a1=>((T.clearI ns a0).and (T.clearI ns a1))
  | .le a0 a1=>((T.clearI ns a0).and (T.clearI ns a1))
  | .beq a0 a1=>((T.clearI ns a0).and (T.clearI ns a1))
  | .not a0=>(T.clearI ns a0)
  | .and a0 a1=>((T.clearI ns a0).and (T.clearI ns a1))
  | .or a0 a1=>((T.clearI ns a0).and (T.clearI ns a1))
  | .ite a0 a1 a2=>((T.clearI ns a0).and ((T.clearI ns a1).and (T.clearI ns a2)))
  | .bite a0 a1 a2=>((T.clearI ns a0).and ((T.clearI ns a1).and (T.clearI ns a2)))
  | .len a0=>(T.clearI ns a0)
  | .get a0 a1=>((T.clearI ns a0).and (T.clearI ns a1))
  | .set a0 a1 a2=>((T.clearI ns a0).and ((T.clearI ns a1).and (T.clearI ns a2)))
  | .rep a0 a1=>((T.clearI ns a0).and (T.clearI ns a1))
  | .cut a0 a1 a2=>((T.clearI ns a0).and ((T.clearI ns a1).and (T.clearI ns a2)))
  | .alit _=>true
  | .splice a0 a1 a2=>((T.clearI ns a0).and ((T.clearI ns a1).and (T.clearI ns a2)))
  | .aeq a0 a1=>((T.clearI ns a0).and (T.clearI ns a1))
  | .fi _ a0 a1 a2 a3 a4 a5 a6 a7=>((T.clearI ns a0).and ((T.clearI ns a1).and ((T.clearI ns a2).and ((T.clearI ns a3).and ((T.clearI ns a4).and ((T.clearI ns a5).and ((T.clearI ns a6).and (T.clearI ns a7))))))))
  | .fb _ a0 a1 a2 a3 a4 a5 a6 a7=>((T.clearI ns a0).and ((T.clearI ns a1).and ((T.clearI ns a2).and ((T.clearI ns a3).and ((T.clearI ns a4).and ((T.clearI ns a5).and ((T.clearI ns a6).and (T.clearI ns a7))))))))
  | .fa _ a0 a1 a2 a3 a4 a5 a6 a7=>((T.clearI ns a0).and ((T.clearI ns a1).and ((T.clearI ns a2).and ((T.clearI ns a3).and ((T.clearI ns a4).and ((T.clearI ns a5).and ((T.clearI ns a6).and (T.clearI ns a7))))))))
theorem T.clear_eq: @T.clear= @T.clearI:=by
  funext ns t
  unfold T.clear
  induction t with
  | lit q0=>rfl
  | tt=>rfl
  | ff=>rfl
  | iv q0=>rfl
  | bv q0=>rfl
  | av q0=>rfl
  | add a0 a1 h0 h1=>show ((a0.clearR ns).and (a1.clearR ns))=_;rw[h0,h1];rfl
  | sub a0 a1 h0 h1=>show ((a0.clearR ns).and (a1.clearR ns))=_;rw[h0,h1];rfl
  | mul a0 a1 h0 h1=>show ((a0.clearR ns).and (a1.clearR ns))=_;rw[h0,h1];rfl
  | wrap q0 a0 h0=>show (a0.clearR ns)=_;rw[h0];rfl
  | tdiv a0 a1 h0 h1=>show ((a0.clearR ns).and (a1.clearR ns))=_;rw[h0,h1];rfl
  | tmod a0 a1 h0 h1=>show ((a0.clearR ns).and (a1.clearR ns))=_;rw[h0,h1];rfl
  | shl q0 a0 a1 h0 h1=>show ((a0.clearR ns).and (a1.clearR ns))=_;rw[h0,h1];rfl
  | shr q0 a0 a1 h0 h1=>show ((a0.clearR ns).and (a1.clearR ns))=_;rw[h0,h1];rfl
  | bits q0 q1 a0 a1 h0 h1=>show ((a0.clearR ns).and (a1.clearR ns))=_;rw[h0,h1];rfl
  | mx a0 a1 h0 h1=>show ((a0.clearR ns).and (a1.clearR ns))=_;rw[h0,h1];rfl
  | mn a0 a1 h0 h1=>show ((a0.clearR ns).and (a1.clearR ns))=_;rw[h0,h1];rfl
  | eq a0 a1 h0 h1=>show ((a0.clearR ns).and (a1.clearR ns))=_;rw[h0,h1];rfl
  | lt a0 a1 h0 h1=>show ((a0.clearR ns).and (a1.clearR ns))=_;rw[h0,h1];rfl
  | le a0 a1 h0 h1=>show ((a0.clearR ns).and (a1.clearR ns))=_;rw[h0,h1];rfl
  | beq a0 a1 h0 h1=>show ((a0.clearR ns).and (a1.clearR ns))=_;rw[h0,h1];rfl
  | not a0 h0=>show (a0.clearR ns)=_;rw[h0];rfl
  | and a0 a1 h0 h1=>show ((a0.clearR ns).and (a1.clearR ns))=_;rw[h0,h1];rfl
  | or a0 a1 h0 h1=>show ((a0.clearR ns).and (a1.clearR ns))=_;rw[h0,h1];rfl
  | ite a0 a1 a2 h0 h1 h2=>show ((a0.clearR ns).and ((a1.clearR ns).and (a2.clearR ns)))=_;rw[h0,h1,h2];rfl
  | bite a0 a1 a2 h0 h1 h2=>show ((a0.clearR ns).and ((a1.clearR ns).and (a2.clearR ns)))=_;rw[h0,h1,h2];rfl
  | len a0 h0=>show (a0.clearR ns)=_;rw[h0];rfl
  | get a0 a1 h0 h1=>show ((a0.clearR ns).and (a1.clearR ns))=_;rw[h0,h1];rfl
  | set a0 a1 a2 h0 h1 h2=>show ((a0.clearR ns).and ((a1.clearR ns).and (a2.clearR ns)))=_;rw[h0,h1,h2];rfl
  | rep a0 a1 h0 h1=>show ((a0.clearR ns).and (a1.clearR ns))=_;rw[h0,h1];rfl
  | cut a0 a1 a2 h0 h1 h2=>show ((a0.clearR ns).and ((a1.clearR ns).and (a2.clearR ns)))=_;rw[h0,h1,h2];rfl
  | alit q0=>rfl
  | splice a0 a1 a2 h0 h1 h2=>show ((a0.clearR ns).and ((a1.clearR ns).and (a2.clearR ns)))=_;rw[h0,h1,h2];rfl
  | aeq a0 a1 h0 h1=>show ((a0.clearR ns).and (a1.clearR ns))=_;rw[h0,h1];rfl
  | fi q0 a0 a1 a2 a3 a4 a5 a6 a7 h0 h1 h2 h3 h4 h5 h6 h7=>show ((a0.clearR ns).and ((a1.clearR ns).and ((a2.clearR ns).and ((a3.clearR ns).and ((a4.clearR ns).and ((a5.clearR ns).and ((a6.clearR ns).and (a7.clearR ns))))))))=_;rw[h0,h1,h2,h3,h4,h5,h6,h7];rfl
  | fb q0 a0 a1 a2 a3 a4 a5 a6 a7 h0 h1 h2 h3 h4 h5 h6 h7=>show ((a0.clearR ns).and ((a1.clearR ns).and ((a2.clearR ns).and ((a3.clearR ns).and ((a4.clearR ns).and ((a5.clearR ns).and ((a6.clearR ns).and (a7.clearR ns))))))))=_;rw[h0,h1,h2,h3,h4,h5,h6,h7];rfl
  | fa q0 a0 a1 a2 a3 a4 a5 a6 a7 h0 h1 h2 h3 h4 h5 h6 h7=>show ((a0.clearR ns).and ((a1.clearR ns).and ((a2.clearR ns).and ((a3.clearR ns).and ((a4.clearR ns).and ((a5.clearR ns).and ((a6.clearR ns).and (a7.clearR ns))))))))=_;rw[h0,h1,h2,h3,h4,h5,h6,h7];rfl
def Cl.clear(ns:Nat)(na:Nat):Cl→Bool
  | .old n=>Nat.ble (n+1) ns
  | .new k=>Nat.ble (k+1) na
  | .glob _=>true
  | .ro n=>Nat.ble (n+1) ns
  | .own n=>Nat.ble (n+1) ns
def Aw.clear(ns:Nat)(na:Nat):Aw→Bool
  | .int _ t=>t.clear ns
  | .bool t=>t.clear ns
  | .ptr r _ d=>(r.clear ns na).and (d.clear ns)
  | .sl r _ d n c=>(r.clear ns na).and ((d.clear ns).and ((n.clear ns).and (c.clear ns)))
  | .iface _ x=>x.clear ns na
  | .junk n=>Nat.ble (n+1) ns
  | .val n=>Nat.ble (n+1) ns
  | _=>true
def Cp.clear(ns:Nat)(na:Nat):Cp→Bool
  | .cells l=>l.all (Aw.clear ns na)
  | .arr _ a _=>a.clear ns
  | .arrD _ a=>a.clear ns
  | .bar a _=>a.clear ns
  | .junk n=>Nat.ble (n+1) ns
  | .tail z n=>(z.all (Aw.clear ns na)).and (n.clear ns)
def SV.clear(ns:Nat)(na:Nat):SV→Bool
  | .one l=>l.clear ns na
  | .agg g=>g.all (Cp.clear ns na)
def SR.clear(ns:Nat)(na:Nat):SR→Bool
  | .v x=>x.clear ns na
  | .tup l=>l.all (SV.clear ns na)
  | .ite c x y=>(c.clear ns).and ((x.clear ns na).and (y.clear ns na))
structure Wv where
  need:List T
  ns:Nat
  na:Nat
  facts:List T
  val:SR
  heap:Hp
abbrev Ff:=List SR→Hp→Option Wv
def j6r(z:Nat)(e:TypeId)(x:Aw)(h:Hp):Option (List T×Nat×List Cp×List (Cl×Gn)×Option (List Aw)):=
  match x with
  | .nils=>some ([],0,[],h.rw,none)
  | .sl (.own q) 0 (.lit (.ofNat 0)) (.lit (.ofNat n)) (.iv c)=>
    match Jr h.rw (.own q) with
    | some b=>
      if b.ty=e then
        match Fd b.segs (n*z) with
        | some (p,[.tail z' (.sub (.iv c') (.lit (.ofNat n')))])=>if c'=c∧n'=n then some ([.le (.lit n) (.iv c)],n,p,Ox h.rw (.own q),some z') else none
        | _=>none
      else none
    | none=>none
  | _=>none
def Gm(ns:Nat)(na:Nat)(rw:List (Cl×Gn)):Bool:=rw.all fun x=>(x.1.clear ns na).and (x.2.segs.all (Cp.clear ns na))
def Gh(ns:Nat)(na:Nat)(ro:List (Cl×IntKind×T)):Bool:=ro.all fun x=>(x.1.clear ns na).and (x.2.2.clear ns)
def Se(ns:Nat):Option OW→Bool
  | none=>true
  | some o=>(Nat.ble (o.v+1) ns).and (o.a.clear ns)
def jl4(P:Program)(t u:TypeId)(x y:Aw)(h:Hp):Option Wv:=
  match P.underlying t,h.ow,x,y with
  | some (.slice e),some o,.val q,.sl r2 s2 d2 ln2 c2=>
    if t=u∧o.v=q∧o.e=e then
      match P.info? e,Zu P e,jew o.k h (.sl r2 s2 d2 ln2 c2) ln2 with
      | some i,some [.cells [.int k (.lit 0)]],some (c,g)=>
        if k=o.k∧i.size=1∧i.bytes≤8∧Gm h.nv h.na h.rw=true∧Gh h.nv h.na h.ro=true∧o.a.clear h.nv=true∧g.clear h.nv=true then
          some ⟨c++ [.le (.lit 1) ln2,.le (.add (.len o.a) ln2) (.lit 1099511627776)],h.nv,h.na,[],.v (.one (.val h.nv)),{h with ow:=some ⟨h.nv,e,o.k,Xf o.a g⟩,nv:=h.nv+1}⟩
        else none
      | _,_,_=>none
    else none
  | _,_,_,_=>none
def jdn(P:Program)(t u:TypeId)(x y:Aw)(h:Hp):Option Wv:=
  match P.underlying t with
  | some (.slice e)=>
    if t=u then
      match P.info? e,Zu P e,y with
      | some i,some zs,.sl r2 s2 d2 ln2 c2=>
        match Nm zs,ln2.view,j6r i.size e x h with
        | some z,.lit (.ofNat m),some (c0,n,p,rw,oz)=>
          match jp1 h (.sl r2 s2 d2 ln2 c2) (m*i.size) with
          | some (c,g)=>
            if (oz=none∨oz=some z)∧z.length=i.size∧0<m∧0<i.size∧(n+m)*(i.bytes+1)≤1073741824∧g.all Cp.plain=true∧Gm h.nv h.na rw=true∧Gh h.nv h.na h.ro=true∧Se h.nv h.ow=true∧(p++g).all (Cp.clear h.nv h.na)=true then
              some ⟨c0++c,h.nv,h.na,[.le (.lit (n+m:Nat)) (.iv h.nv)],.v (.one (.sl (.own h.nv) 0 (.lit 0) (.lit (n+m:Nat)) (.iv h.nv))),
                { h with rw:=rw++ [(.own h.nv,⟨e,Dn (p++g)++ [.tail z (.sub (.iv h.nv) (.lit (n+m:Nat)))]⟩)],nv:=h.nv+1}⟩
            else none
          | none=>none
        | _,_,_=>none
      | _,_,_=>none
    else none
  | _=>none
def Ti(P:Program)(rsp:Nat→Option Ff)(fr:Nat→SR)(h:Hp)(o:Oper):Option Wv:=
  match o.op with
  | .call c=>match c.callee with
    | .builtin .append=>match c.args.toList,c.argTypes.toList with
      | [x,y],[t,u]=>match Vy fr x,Vy fr y with
        | some a,some b=>match jdn P t u a b h with
          | some r=>some r
          | none=>jl4 P t u a b h
        | _,_=>none
      | _,_=>none
    | _=>match jm4 P fr c with
      | some (f,args)=>match rsp f with
        | some s=>s args h
        | none=>none
      | none=>none
  | _=>none
structure Jh where
  fr:List SR
  h:Hp
  facts:List T
  meas:T
  quiet:Bool
def Jh.na(an:Jh):Nat:=if an.quiet then an.h.na+1000000000 else an.h.na
inductive KF where
  | code (c:Code)|blk (id:Nat)|again (c:Code)
  | inv (lo:Nat) (an:Jh) (c:Code)
structure Fs where
  o:Oper
  want:Bool
  fr:List SR
  heap:Hp
  r:Sb
inductive Jg where
  | need (c:List T) (k:Jg)
  | cond (c:T) (a b:Jg)
  | any (ns:Nat) (na:Nat) (facts:List T) (k:Jg)
  | fail (why:String)
  | done
  | tight (k:Jg)
  | ret (v:SR) (h:Hp)
  | fall (fr:List SR) (h:Hp)
  | out (id:Nat) (fr:List SR) (h:Hp)
  | stop (rest:List Oper) (all:List Oper) (ks:List KF) (fr:List SR) (h:Hp)
inductive qlp where
  | yes|no|ask (slot:Nat) (t:T)|lost
def jiu(all:List Oper)(fr:List SR)(o:Oper):qlp:=
  match o.guard with
  | none=>.yes
  | some (j,want)=>
    match (all[j]?).bind (·.dst) with
    | none=>.lost
    | some d=>
      if d<fr.length then
        match Do fr d with
        | .v (.one (.bool .tt))=>if want then .yes else .no
        | .v (.one (.bool .ff))=>if want then .no else .yes
        | .v (.one (.bool t))=>.ask d t
        | .v (.one .undef)=>.no
        | _=>.lost
      else .lost
def Vt(P:Program)(fr:Nat→SR)(h:Hp)(rs:List ResultVar):Option (List SV):=
  rs.mapM fun
    | .tmp t=>match fr t with|.v x=>some x|_=>none
    | .cell a t=>match fr a with
      | .v (.one (.ptr r s d))=>if (P.underlying t).isSome then
          match jnv P t (.ptr r s d) h with
          | some ([],x)=>some x
          | _=>none
        else none
      | _=>none
def jog(P:Program)(fr:Nat→SR)(h:Hp)(rs:List ResultVar):Option SR:=
  match Vt P fr h rs with
  | some [x]=>some (.v x)
  | some xs=>some (.tup xs)
  | none=>none
def Mo(e:Edge):Bool:=Region.binds .any e
def Pp(ms:List Nat)(o:Oper):Nat:=
  o.after.toList.foldl (fun s e=>if Mo e then s|||2^e.on|||ms.getD e.on 0 else s) 0
def Ex(ops:List Oper):List Nat:=ops.foldl (fun ms o=>ms++ [Pp ms o]) []
def Qi(all:List Oper)(o:Oper):List Tmp:=
  (o.op.operands.toList.filterMap fun|.tmp t=>some t|_=>none)++(match o.guard with|some (g,_)=>((all[g]?).bind (·.dst)).toList|none=>[])
def Jc(ops:List Oper):Bool:=
  ops.zipIdx.all fun (o,i)=>o.after.toList.all fun e=> !Mo e||e.on<i
def Vc(ops:List Oper)(ms:List Nat):Bool:=
  ops.zipIdx.all fun (w,i)=>
    match w.dst with
    | none=>true
    | some d=>ops.zipIdx.all fun (o,j)=>
      i==j|| !((Qi ops o).contains d||o.dst==some d)||(if i<j then (ms.getD j 0).testBit i else (ms.getD i 0).testBit j)
def jik:Op→Bool
  | .store .. =>true
  | .alloc .. =>true
  | .box .. =>true
  | .makeSlice .. =>true
  | .buildSlice .. =>true
  | .call .. =>true
  | _=>false
def Eb(e:Fs):Bool:=e.want&&(jik e.o.op&& !(e.r.heap==e.heap))
def Eo(h0:Hp)(es:List Fs):List Hp:=h0::(es.filter Eb).map (·.r.heap)
def Xw(P:Program)(specs:Nat→Option Ec)(e:Fs)(all:List T)(h:Hp):Bool:=
  match Gx P specs (Do e.fr) h e.o with
  | some r=>r.val==e.r.val&&r.heap==h&&r.need.all (all.contains ·)
  | none=>false
def Dr(ops:List Oper):Bool:=Jc ops&&Vc ops (Ex ops)
def Rh(P:Program)(specs:Nat→Option Ec)(h0:Hp)(es:List Fs):Bool:=
  let effs:=es.zipIdx.filterMap fun (e,i)=>if Eb e then some i else none
  effs.isEmpty||
  (let ms:=Ex (es.map (·.o))
   let all:=es.flatMap (·.r.need)
   let hs:=Eo h0 es
   (effs.all fun i=>effs.all fun j=> !(i<j)||(ms.getD j 0).testBit i)&&
   es.zipIdx.all fun (e,i)=>
    !e.want||Eb e||
    (let lo:=(effs.filter fun j=>(ms.getD i 0).testBit j).length
     let hi:=(effs.filter fun j=> !(ms.getD j 0).testBit i).length
     hs.zipIdx.all fun (h,t)=>t<lo||hi<t||Xw P specs e all h))
def Lp(P:Program)(specs:Nat→Option Ec)(h0:Hp)(es:List Fs):Bool:=
  let effs:=es.zipIdx.filterMap fun (e,i)=>if Eb e then some i else none
  let ms:=Ex (es.map (·.o))
  let all:=es.flatMap (·.r.need)
  let hs:=Eo h0 es
  es.zipIdx.all fun (e,i)=>
    !e.want||Eb e||
    (let lo:=(effs.filter fun j=>(ms.getD i 0).testBit j).length
     let hi:=(effs.filter fun j=> !(ms.getD j 0).testBit i).length
     hs.zipIdx.all fun (h,t)=>t<lo||hi<t||Xw P specs e all h)
def jl2{α:Type}:List α→List (List α)
  | []=>[[]]
  | x::l=>jl2 l++(jl2 l).map (x:: ·)
def jh2(x:Nat×Nat×Gn):Cl×Gn:=(.new x.2.1,x.2.2)
def hLs(H:Hp)(na1:Nat)(L:List (Nat×Nat×Gn)):Hp:={H with rw:=H.rw++L.map jh2,na:=na1}
def ju0(k:Nat):SR→SR
  | .v (.one (.ptr (.new _) s d))=>.v (.one (.ptr (.new k) s d))
  | .v (.one (.sl (.new _) s a b c))=>.v (.one (.sl (.new k) s a b c))
  | x=>x
def jce(ns k:Nat):SR→Bool
  | .v (.one (.ptr (.new j) _ d))=>(Nat.beq j k).and (d.clear ns)
  | .v (.one (.sl (.new j) _ a b c))=>(Nat.beq j k).and ((a.clear ns).and ((b.clear ns).and (c.clear ns)))
  | _=>false
def Pn(cur:List SR)(fin:List SR):List Fs→Bool
  | []=>cur==fin
  | e::es=>(e.fr==cur).and (Pn (Er cur e.o.dst e.r.val) fin es)
def Uf(ms:List Nat)(j i:Nat):Bool:=(ms.getD j 0).testBit i
def jlq(es:List Fs):List Nat:=es.zipIdx.filterMap fun (e,i)=>if Eb e then some i else none
def jrt(es:List Fs):List Nat:=
  let effs:=jlq es
  let ms:=Ex (es.map (·.o))
  effs.filter fun i=>effs.any fun j=>if i<j then !Uf ms j i else if j<i then !Uf ms i j else false
def jfn(es:List Fs)(A:List Nat):List (Nat×Nat×Gn):=
  A.filterMap fun i=>match es[i]? with
    | some e=>match e.r.heap.rw.getLast? with
      | some (.new k,b)=>some (i,k,b)
      | _=>none
    | none=>none
def jhk(ms:List Nat)(A:List Nat)(i:Nat)(L:List (Nat×Nat×Gn)):Bool:=
  (A.any fun a=>(Uf ms i a).and (L.any fun x=>Nat.beq x.1 a).not).or (L.any fun x=>Uf ms x.1 i)
def jjy(P:Program)(specs:Nat→Option Ec)(ns:Nat)(H:Hp)(na1:Nat)(all:List T)(e:Fs)(x:Nat×Nat×Gn)(L:List (Nat×Nat×Gn)):Bool:=
  match Gx P specs (Do e.fr) (hLs H na1 L) e.o with
  | some r=>(r.val==(if jce ns x.2.1 e.r.val then ju0 na1 e.r.val else e.r.val)).and ((r.heap=={hLs H na1 L with rw:=(hLs H na1 L).rw++ [(.new na1,x.2.2)],na:=na1+1}).and (r.need.all (all.contains ·)))
  | none=>false
def jjo(P:Program)(specs:Nat→Option Ec)(ns:Nat)(h0:Hp)(es:List Fs)(fr0 fin:List SR)(A:List Nat)(p:Nat)(als:List (Nat×Nat×Gn))(H:Hp):Bool:=
  let effs:=jlq es
  let ms:=Ex (es.map (·.o))
  let all:=es.flatMap (·.r.need)
  let na1:=H.na+als.length
  (Pn fr0 fin es).and<|(es.all fun e=>e.o.guard.isNone).and<|(fr0.all (SR.clear ns H.na)).and<|
  (decide (als.map (·.1)).Nodup).and<|(decide (als.map (·.2.1)).Nodup).and<|
  (als.all fun x=>(Nat.ble H.na x.2.1).and ((Nat.ble (x.2.1+1) na1).and ((x.2.2.segs.all (Cp.clear ns H.na)).and (A.contains x.1)))).and<|
  (A.all fun a=>als.any fun x=>Nat.beq x.1 a).and<|
  (Gm ns H.na H.rw).and<|(Gh ns H.na H.ro).and<|(H.ow.isNone).and<|
  (effs.zipIdx.all fun (i,k)=>if k<p then A.all (fun a=>Uf ms a i) else if k<p+als.length then A.contains i else A.all (fun a=>Uf ms i a)).and<|
  (A.all fun a=>((effs.drop p).take als.length).contains a).and<|
  ((Eo h0 es)[p]? ==some H).and<|((Eo h0 es)[p+als.length]? ==some (hLs H na1 als)).and<|
  (effs.all fun i=>effs.all fun j=>(!decide (i<j)).or ((Uf ms j i).or ((A.contains i).and (A.contains j)))).and<|
  (Lp P specs h0 es).and<|
  (es.zipIdx.all fun (e,i)=>(e.r.val.clear ns H.na).or ((als.any fun x=>(Nat.beq x.1 i).and (jce ns x.2.1 e.r.val)).or (A.all fun a=>Uf ms i a))).and<|
  (es.zipIdx.all fun (e,i)=>(Eb e).or ((jl2 als).all fun L=>(jhk ms A i L).or (Xw P specs e all (hLs H na1 L)))).and<|
  (als.all fun x=>match es[x.1]? with
    | some e=>((jce ns x.2.1 e.r.val).or (e.r.val.clear ns H.na)).and ((Eb e).and ((jl2 als).all fun L=>((L.any fun y=>Nat.beq y.1 x.1).or (jhk ms A x.1 L)).or (jjy P specs ns H na1 all e x L)))
    | none=>false)
def js1(P:Program)(specs:Nat→Option Ec)(ns:Nat)(h0:Hp)(es:List Fs)(fin:List SR):Bool:=
  match es with
  | []=>false
  | e0::_=>
    let A:=jrt es
    let p:=((jlq es).takeWhile fun i=>(A.contains i).not).length
    match (Eo h0 es)[p]? with
    | some H=>(jfn es A).isEmpty.not.and ((Nat.ble h0.na H.na).and (jjo P specs ns h0 es e0.fr fin A p (jfn es A) H))
    | none=>false
def Ji:Code→Bool
  | .seq a b=>Ji a&&Ji b
  | .cond _ a b=>Ji a&&Ji b
  | .block _ b=>Ji b
  | .loop b=>Ji b
  | .region _ ops draw=> !draw||Dr ops.toList
  | _=>true
inductive Wx where
  | code (c:Code)|pop
  | ops (rest all:List Oper)
  | draw (rest all:List Oper) (es:List Fs) (h0:Hp)
def Hy(id:Nat):List KF→Option (List KF)
  | []=>none
  | .code _::ks=>Hy id ks
  | .again _::ks=>Hy id ks
  | .inv _ _ _::ks=>Hy id ks
  | .blk j::ks=>if id=j then some ks else Hy id ks
def Jp(c:List T)(k:Jg):Jg:=match c with| []=>k|c=>.need c k
def Fi(fr:List SR)(slot:Nat)(b:Bool):List SR:=fr.set slot (.v (.one (.bool (Xt b))))
def jj2(c:T)(x y:Aw):Option Aw:=
  match x,y with
  | .int k a,.int k' b=>if k=k' then some (.int k (jop c a b)) else none
  | .bool a,.bool b=>some (.bool (jjn c a b))
  | _,_=>none
def jae(c:T)(x y:SR):SR:=
  if x=y then x else
  match x,y with
  | .v (.one a),.v (.one b)=>match jj2 c a b with
    | some l=>.v (.one l)
    | none=>.ite c x y
  | _,_=>.ite c x y
def Lo(c:T):List SR→List SR→List SR
  | x::l,y::m=>jae c x y::Lo c l m
  | _,_=>[]
def Kh:Code→Bool
  | .skip=>true
  | .seq a b=>(Kh a).and (Kh b)
  | .cond _ a b=>(Kh a).and (Kh b)
  | .region _ ops draw=>(draw.not).and (ops.toList.all fun o=>(jik o.op).not)
  | _=>false
def Jg.split:Jg→Option (List T×List SR)
  | .fall f _=>some ([],f)
  | .need c k=>match k.split with
    | some (d,f)=>some (c++d,f)
    | none=>none
  | _=>none
def jj0(c:T)(l:List T):List T:=l.map fun t=>.or c t
def jg2:Code→Nat
  | .region id _ _=>id
  | .seq a b=>match Nat.beq (jg2 a) 1000000 with|true=>jg2 b|false=>jg2 a
  | .cond _ a _=>jg2 a
  | .block _ b=>jg2 b
  | .loop b=>jg2 b
  | _=>1000000
def Mh(ns na:Nat):List KF→Bool
  | []=>true
  | .inv lo an _::ks=>((Nat.ble lo ns).and ((Nat.ble an.na na).and (an.meas.clear ns))).and (Mh ns na ks)
  | _::ks=>Mh ns na ks
def Cl.isNew:Cl→Bool
  | .new _=>true
  | .own _=>true
  | _=>false
def Cl.okIn(na:Nat):Cl→Bool
  | .new k=>Nat.ble (k+1) na
  | _=>true
def Aw.okIn(na:Nat):Aw→Bool
  | .ptr r _ _=>r.okIn na
  | .sl r _ _ _ _=>r.okIn na
  | .iface _ x=>x.okIn na
  | _=>true
def Cp.okIn(na:Nat):Cp→Bool
  | .cells l=>l.all (Aw.okIn na)
  | .tail z _=>z.all (Aw.okIn na)
  | _=>true
def SV.okIn(na:Nat):SV→Bool
  | .one l=>l.okIn na
  | .agg g=>g.all (Cp.okIn na)
def SR.okIn(na:Nat):SR→Bool
  | .v x=>x.okIn na
  | .tup l=>l.all (SV.okIn na)
  | .ite .. =>false
def jvr(na:Nat)(l:List (Cl×Gn)):Bool:=l.all fun x=>(x.1.okIn na).and (x.2.segs.all (Cp.okIn na))
def j1q(lo:Nat)(l:List (Cl×IntKind×T)):Bool:=l.all fun x=>match x.1 with|.ro n=>Nat.ble (n+1) lo|.glob _=>true|_=>false
def jvv(lo:Nat)(t:List SR)(th:Hp)(h:Hp)(rest:List (Cl×Gn))(quiet:Bool):Bool:=
  (t.all (SR.okIn th.na)).and ((jvr th.na th.rw).and ((j1q lo th.ro).and ((rest.all fun x=>x.1.isNew).and ((Nat.ble th.na h.na).and (quiet.not.or (Nat.beq th.na h.na))))))
def Wp(P:Program)(specs:Nat→Option Ec)(all:List Oper):List Oper→List Fs→List SR→Hp→Option (List Fs×List SR×Hp)
  | [],es,fr,h=>some (es,fr,h)
  | o::rest,es,fr,h=>match jiu all fr o with
    | .yes=>match Gx P specs (Do fr) h o with
      | some r=>match r.need with
        | []=>Wp P specs all rest (es++ [⟨o,true,fr,h,r⟩]) (Er fr o.dst r.val) r.heap
        | _=>none
      | none=>none
    | .no=>Wp P specs all rest (es++ [⟨o,false,fr,h,⟨[],.v (.one .undef),h⟩⟩]) (Er fr o.dst (.v (.one .undef))) h
    | _=>none
def jho(k:Nat)(es:List Fs):Bool:=(Ex (es.map (·.o))).zipIdx.all fun (m,j)=>(Nat.ble j k).or (m.testBit k)
def Wf(ns na:Nat)(es:List Fs):Bool:=es.all fun e=>(e.fr.all (SR.clear ns na)).and ((e.r.val.clear ns na).and (e.r.need.all (T.clear ns)))
def jur:Op→Bool
  | .alloc _=>true
  | _=>false
def jyi(P:Program)(specs:Nat→Option Ec)(hA:Hp)(all:List T)(e:Fs):Option Fs:=
  match e.want with
  | true=>match Gx P specs (Do e.fr) hA e.o with
    | some r=>if r.val=e.r.val∧r.heap=hA∧r.need.all (all.contains ·)=true then some {e with heap:=hA,r:=r} else none
    | none=>none
  | false=>if e.r.val=.v (.one .undef)∧e.r.need=[] then some {e with heap:=hA,r:={e.r with heap:=hA}} else none
def Zi(P:Program)(specs:Nat→Option Ec)(hA:Hp)(all:List T):List Fs→Option (List Fs)
  | []=>some []
  | e::es=>match jyi P specs hA all e,Zi P specs hA all es with
    | some x,some l=>some (x::l)
    | _,_=>none
structure Ee where
  ra:Sb
  ra1:Sb
  r2:Wv
  rz:Sb
  esA:List Fs
def Wm:SR:=.v (.one .undef)
def jzu(P:Program)(specs:Nat→Option Ec)(rsp:Nat→Option Ff)(oa oz:Oper)(es:List Fs)(o:Oper)(fr:List SR)(h:Hp)(rr:Wv):Option Ee:=
  match Gx P specs (Do (Er fr o.dst Wm)) h oa,Gx P specs (Do (Er fr o.dst rr.val)) rr.heap oa with
  | some ra,some ra1=>
    match Ti P rsp (Do fr) ra.heap o,Gx P specs (Do (Er (Er fr o.dst rr.val) oa.dst ra.val)) ra1.heap oz,Zi P specs ra.heap (es.flatMap (·.r.need)) es with
    | some r2,some rz,some esA=>some ⟨ra,ra1,r2,rz,esA⟩
    | _,_,_=>none
  | _,_=>none
section
variable (oa oz o:Oper) (es:List Fs) (fr:List SR) (h:Hp) (rr:Wv) (s:Ee)
def Ee.x1:Fs:=⟨o,true,fr,h,⟨rr.need,rr.val,rr.heap⟩⟩
def Ee.a1:Fs:=⟨oa,true,Er fr o.dst rr.val,rr.heap,s.ra1⟩
def Ee.z1:Fs:=⟨oz,true,Er (Er fr o.dst rr.val) oa.dst s.ra.val,s.ra1.heap,s.rz⟩
def Ee.x2:Fs:=⟨o,true,fr,s.ra.heap,⟨s.r2.need,s.r2.val,s.r2.heap⟩⟩
def Ee.a2:Fs:=⟨oa,false,Er fr o.dst rr.val,s.ra1.heap,⟨[],s.ra.val,s.ra1.heap⟩⟩
def Ee.x3:Fs:=⟨o,false,fr,h,⟨[],Wm,h⟩⟩
def Ee.a3:Fs:=⟨oa,true,Er fr o.dst Wm,h,s.ra⟩
def Ee.z3:Fs:=⟨oz,false,fr,s.ra.heap,⟨[],Wm,s.ra.heap⟩⟩
def Ee.es1:List Fs:=es++ [Ee.x1 o fr h rr,s.a1 oa o fr rr,s.z1 oa oz o fr rr]
def Ee.es2:List Fs:=s.esA++ [s.x2 o fr,s.a2 oa o fr rr,s.z1 oa oz o fr rr]
def Ee.es3:List Fs:=es++ [Ee.x3 o fr h,s.a3 oa o fr h,s.z3 oz fr]
def Ee.ok(P:Program)(specs:Nat→Option Ec):Bool:=
  let k:=es.length
  let ms:=Ex ((s.es1 oa oz o es fr h rr).map (·.o))
  (oa.guard.isNone).and<|(oz.guard.isNone).and<|(decide (oz.dst=none)).and<|(jur oa.op).and<|
  (s.ra.need.isEmpty).and<|(s.ra1.need.isEmpty).and<|(s.rz.need.isEmpty).and<|(decide (s.ra1.val=s.ra.val)).and<|(decide (s.rz.val=Wm)).and<|(decide (s.ra.val=.v (.one (.ptr (.new h.na) 0 (.lit 0))))).and<|
  (Nat.beq s.r2.ns rr.ns).and<|(Nat.ble rr.na s.r2.na).and<|(decide (s.r2.facts=rr.facts)).and<|(decide (s.r2.val=rr.val)).and<|(decide (s.r2.heap=s.ra1.heap)).and<|
  (es.all fun e=>(Eb e).not).and<|(s.esA.all fun e=>(Eb e).not).and<|
  (Eb (Ee.x1 o fr h rr)).and<|(Eb (s.a1 oa o fr rr)).and<|(Eb (s.z1 oa oz o fr rr)).and<|(Eb (s.x2 o fr)).and<|(Eb (s.a3 oa o fr h)).and<|
  (Lp P specs h (s.es1 oa oz o es fr h rr)).and<|(Lp P specs s.ra.heap (s.es2 oa oz o fr rr)).and<|(Lp P specs h (s.es3 oa oz o es fr h)).and<|
  (Uf ms (k+2) k).and<|(Uf ms (k+2) (k+1)).and<|
  (Wf rr.ns rr.na es).and<|(fr.all (SR.clear rr.ns rr.na)).and<|(rr.need.all (T.clear rr.ns)).and<|(s.r2.need.all (T.clear rr.ns)).and<|(s.ra.val.clear s.r2.ns s.r2.na).and<|(s.esA.all fun e=>e.r.val.clear s.r2.ns s.r2.na)
end
structure FC where
  rs:List ResultVar
  lt:Nat→Option (List SR→Hp→Option Jh)
structure Tab where
  lt:Nat→Nat→Option (List SR→Hp→Option Jh)
  inl:Nat→Bool
def Jg.bindRet(P:Program)(rs:List ResultVar)(nv na:Nat)(ks:List KF)(k:SR→Hp→Jg):Jg→Jg
  | .need c o=>.need c (o.bindRet P rs nv na ks k)
  | .cond c x y=>.cond c (x.bindRet P rs nv na ks k) (y.bindRet P rs nv na ks k)
  | .any ns na' facts o=>if (Nat.ble nv ns).and ((Nat.ble na na').and (Mh ns na' ks)) then .any ns na' facts (o.bindRet P rs nv na ks k) else .fail "names"
  | .ret v h=>k v h
  | .fall fr h=>match jog P (Do fr) h rs with
    | some v=>k v h
    | none=>.fail "result"
  | .done=>.done
  | .tight o=>.tight (o.bindRet P rs nv na ks k)
  | .fail s=>.fail s
  | .out _ _ _=>.fail "out"
  | .stop _ _ _ _ _=>.fail "stop"
def Aw.unv(q:Nat)(l:Aw):Aw→Aw
  | .val n=>match Nat.beq n q with
    | true=>l
    | false=>.val n
  | x=>x
def Cp.unv(q:Nat)(l:Aw):Cp→Cp
  | .cells c=>.cells (c.map (Aw.unv q l))
  | g=>g
def SV.unv(q:Nat)(l:Aw):SV→SV
  | .one x=>.one (Aw.unv q l x)
  | .agg g=>.agg (g.map (Cp.unv q l))
def SR.unv(q:Nat)(l:Aw):SR→SR
  | .v x=>.v (x.unv q l)
  | .tup xs=>.tup (xs.map (SV.unv q l))
  | x=>x
def jyn(fr:List SR)(h:Hp):Option (T×T×List SR×Hp):=
  match h.ow with
  | some o=>
    match (Gm h.nv h.na h.rw).and ((Gh h.nv h.na h.ro).and ((o.a.clear h.nv).and (fr.all (SR.clear h.nv h.na)))) with
    | true=>
      let l:Aw:=.sl (.own h.nv) 0 (.lit 0) (.len o.a) (.iv h.nv)
      some (.lt (.lit 0) (.len o.a),.le (.len o.a) (.iv h.nv),fr.map (SR.unv o.v l),{h with rw:=(.own h.nv,⟨o.e,[.arrD o.k o.a,.tail [.int o.k (.lit 0)] (.sub (.iv h.nv) (.len o.a))]⟩)::h.rw.map (fun x=>(x.1,⟨x.2.ty,x.2.segs.map (Cp.unv o.v l)⟩)),nv:=h.nv+1,ow:=none})
    | false=>none
  | none=>none
def jed(fc:FC)(id:Nat)(fr:List SR)(h:Hp):Option (T×T×List SR×Hp):=
  match fc.lt (1000000+id) with
  | some _=>jyn fr h
  | none=>none
def jfj(fc:FC)(id:Nat)(fr:List SR)(h:Hp):Option (List T×List SR):=
  match fc.lt (2000000+id) with
  | some f=>match f fr h with
    | some an=>match Do fr an.h.nv with
      | .v (.one (.int k t))=>some (needs [eqT t an.meas],fr.set an.h.nv (.v (.one (.int k an.meas))))
      | _=>none
    | none=>none
  | none=>none
def Fc(P:Program)(specs:Nat→Option Ec)(rsp:Nat→Option Ff)(tab:Tab):Nat→FC→Wx→List KF→List SR→Hp→Jg
  | 0,_,_,_,_,_=>.fail "fuel"
  | n+1,fc,.pop,ks,fr,h=>
    match ks with
    | []=>.fall fr h
    | .code c::ks=>Fc P specs rsp tab n fc (.code c) ks fr h
    | .again c::ks=>Fc P specs rsp tab n fc (.code c) (.again c::ks) fr h
    | .blk _::ks=>Fc P specs rsp tab n fc .pop ks fr h
    | .inv lo an _::_=>match jn9 lo an.fr an.h fr h with
      | some (m,rest)=>if jvv lo an.fr an.h h rest an.quiet then Jp (m.needs lo++(an.facts.map (T.put (m.ts lo))++ [.lt (.lit 0) an.meas,.lt (an.meas.put (m.ts lo)) an.meas])) .done else .fail "template"
      | none=>.fail "fit"
  | n+1,fc,.code c,ks,fr,h=>
    match c with
    | .skip=>Fc P specs rsp tab n fc .pop ks fr h
    | .seq a b=>Fc P specs rsp tab n fc (.code a) (.code b::ks) fr h
    | .cond x a b=>
      match x,Vy (Do fr) x with
      | _,some (.bool .tt)=>Fc P specs rsp tab n fc (.code a) ks fr h
      | _,some (.bool .ff)=>Fc P specs rsp tab n fc (.code b) ks fr h
      | .tmp s,some (.bool t)=>
        if (Kh a).and (Kh b) then
          match (Fc P specs rsp tab n fc (.code a) [] (Fi fr s true) h).split,(Fc P specs rsp tab n fc (.code b) [] (Fi fr s false) h).split with
          | some (c1,f1),some (c2,f2)=>if f1.length=f2.length∧f1.length=fr.length then Jp (jj0 (.not t) c1++jj0 t c2) (Fc P specs rsp tab n fc .pop ks (Lo t f1 f2) h)
            else .cond t (Fc P specs rsp tab n fc (.code a) ks (Fi fr s true) h) (Fc P specs rsp tab n fc (.code b) ks (Fi fr s false) h)
          | _,_=>.cond t (Fc P specs rsp tab n fc (.code a) ks (Fi fr s true) h) (Fc P specs rsp tab n fc (.code b) ks (Fi fr s false) h)
        else .cond t (Fc P specs rsp tab n fc (.code a) ks (Fi fr s true) h) (Fc P specs rsp tab n fc (.code b) ks (Fi fr s false) h)
      | _,_=>.fail "cond"
    | .block id b=>Fc P specs rsp tab n fc (.code b) (.blk id::ks) fr h
    | .exit id=>match Hy id ks with
      | some ks'=>Fc P specs rsp tab n fc .pop ks' fr h
      | none=>.out id fr h
    | .ret=>match jog P (Do fr) h fc.rs with
      | some v=>.ret v h
      | none=>.fail "result"
    | .region id ops draw=>match jed fc id fr h with
      | some (t,f,fr',h')=>match Mh h.nv h.na ks with
        | true=>.tight (.need [t] (.any h.nv h.na [f] (Fc P specs rsp tab n fc (.code (.region id ops draw)) ks fr' h')))
        | false=>.fail "names"
      | none=>match jfj fc id fr h with
        | some (nd,fr')=>Jp nd (if draw then Fc P specs rsp tab n fc (.draw ops.toList ops.toList [] h) ks fr' h else Fc P specs rsp tab n fc (.ops ops.toList ops.toList) ks fr' h)
        | none=>if draw then Fc P specs rsp tab n fc (.draw ops.toList ops.toList [] h) ks fr h else Fc P specs rsp tab n fc (.ops ops.toList ops.toList) ks fr h
    | .loop b=>match fc.lt (jg2 b) with
      | none=>Fc P specs rsp tab n fc (.code b) (.again b::ks) fr h
      | some f=>match f fr h with
        | none=>.fail "annotation"
        | some an=>match jn9 h.nv an.fr an.h fr h with
          | some (m,rest)=>if (jvv h.nv an.fr an.h h rest an.quiet).and (Mh h.nv an.na ks) then
              Jp (m.needs h.nv++an.facts.map (T.put (m.ts h.nv))) (.any h.nv an.na an.facts (Fc P specs rsp tab n fc (.code b) (.inv h.nv an b::ks) an.fr an.h))
            else .fail "template"
          | none=>.fail "fit"
    | _=>.fail "code"
  | n+1,fc,.ops rest all,ks,fr,h=>
    match rest with
    | []=>Fc P specs rsp tab n fc .pop ks fr h
    | o::rest=>
      match jiu all fr o with
      | .yes=>match Gx P specs (Do fr) h o with
        | some r=>Jp r.need (Fc P specs rsp tab n fc (.ops rest all) ks (Er fr o.dst r.val) r.heap)
        | none=>match Ti P rsp (Do fr) h o with
          | some rr=>if (fr.all (SR.clear rr.ns rr.na)).and (Mh rr.ns rr.na ks) then Jp rr.need (.any rr.ns rr.na rr.facts (Fc P specs rsp tab n fc (.ops rest all) ks (Er fr o.dst rr.val) rr.heap)) else .stop (o::rest) all ks fr h
          | none=>match o.op with
            | .call c=>match jm4 P (Do fr) c with
              | some (f,args)=>match (tab.inl f).and (fr.all (SR.clear h.nv h.na)),P.funcs[f]? with
                | true,some fn=>match fn.body with
                  | some b=>(Fc P specs rsp tab n ⟨fn.results.toList,tab.lt f⟩ (.code b) [] (args++List.replicate (fn.ntmps-args.length) (.v (.one .undef))) h).bindRet P fn.results.toList h.nv h.na ks fun v h'=>Fc P specs rsp tab n fc (.ops rest all) ks (Er fr o.dst v) h'
                  | none=>.stop (o::rest) all ks fr h
                | _,_=>.stop (o::rest) all ks fr h
              | none=>.stop (o::rest) all ks fr h
            | _=>.stop (o::rest) all ks fr h
      | .no=>Fc P specs rsp tab n fc (.ops rest all) ks (Er fr o.dst (.v (.one .undef))) h
      | .ask s t=>.cond t (Fc P specs rsp tab n fc (.ops (o::rest) all) ks (Fi fr s true) h) (Fc P specs rsp tab n fc (.ops (o::rest) all) ks (Fi fr s false) h)
      | .lost=>.fail "guard"
  | n+1,fc,.draw rest all es h0,ks,fr,h=>
    match rest with
    | []=>if Rh P specs h0 es then Fc P specs rsp tab n fc .pop ks fr h
      else if (js1 P specs h0.nv h0 es fr).and (Mh h0.nv h0.na ks) then .any h0.nv h0.na [] (Fc P specs rsp tab n fc .pop ks fr h) else .fail "order"
    | o::rest=>
      match jiu all fr o with
      | .yes=>match Gx P specs (Do fr) h o with
        | some r=>Jp r.need (Fc P specs rsp tab n fc (.draw rest all (es++ [⟨o,true,fr,h,r⟩]) h0) ks (Er fr o.dst r.val) r.heap)
        | none=>match Ti P rsp (Do fr) h o with
          | some rr=>match Wp P specs all rest (es++ [⟨o,true,fr,h,⟨rr.need,rr.val,rr.heap⟩⟩]) (Er fr o.dst rr.val) rr.heap with
            | some (es',fr',h')=>
              if (Rh P specs h0 es').and ((Eb ⟨o,true,fr,h,⟨rr.need,rr.val,rr.heap⟩⟩).and ((jho es.length es').and ((Wf rr.ns rr.na es).and ((fr.all (SR.clear rr.ns rr.na)).and ((rr.need.all (T.clear rr.ns)).and (Mh rr.ns rr.na ks)))))) then
                Jp rr.need (.any rr.ns rr.na rr.facts (Fc P specs rsp tab n fc .pop ks fr' h'))
              else match rest with
                | [oa,oz]=>match jzu P specs rsp oa oz es o fr h rr with
                  | some s=>if (s.ok oa oz o es fr h rr P specs).and (Mh rr.ns rr.na ks) then
                      Jp (rr.need++s.r2.need) (.any rr.ns rr.na rr.facts (Fc P specs rsp tab n fc .pop ks (Er (Er fr o.dst rr.val) oa.dst s.ra.val) s.rz.heap))
                    else .fail "order2"
                  | none=>.fail "order2"
                | _=>.fail "order2"
            | none=>.fail o.pos
          | none=>.fail o.pos
      | .no=>Fc P specs rsp tab n fc (.draw rest all (es++ [⟨o,false,fr,h,⟨[],.v (.one .undef),h⟩⟩]) h0) ks (Er fr o.dst (.v (.one .undef))) h
      | .ask s t=>.cond t (Fc P specs rsp tab n fc (.draw (o::rest) all es h0) ks (Fi fr s true) h) (Fc P specs rsp tab n fc (.draw (o::rest) all es h0) ks (Fi fr s false) h)
      | .lost=>.fail "guard"
def Jg.flat(P:Program)(rs:List ResultVar):Jg→Option Sb
  | .need c k=>match k.flat P rs with
    | some r=>some ⟨c++r.need,r.val,r.heap⟩
    | none=>none
  | .ret v h=>some ⟨[],v,h⟩
  | .fall fr h=>(jog P (Do fr) h rs).map fun v=>⟨[],v,h⟩
  | .cond c a b=>match a.flat P rs,b.flat P rs with
    | none,some r=>some ⟨.not c::r.need,r.val,r.heap⟩
    | some r,none=>some ⟨c::r.need,r.val,r.heap⟩
    | _,_=>none
  | _=>none
def jse(P:Program)(specs:Nat→Option Ec)(fuel:Nat)(f:Nat):Option Ec:=
  match P.funcs[f]? with
  | some fn=>match fn.body with
    | some c=>some fun args h=>(Fc P specs (fun _=>none) ⟨fun _ _=>none,fun _=>false⟩ fuel ⟨fn.results.toList,fun _=>none⟩ (.code c) [] (args++List.replicate (fn.ntmps-args.length) (.v (.one .undef))) h).flat P fn.results.toList
    | none=>none
  | none=>none
def jeh(P:Program)(ok:Nat→Bool)(base:Nat→Option Ec)(fuel:Nat):Nat→Nat→Option Ec
  | 0,f=>base f
  | n+1,f=>match base f with
    | some s=>some s
    | none=>if ok f then jse P (jeh P ok base fuel n) fuel f else none
end
end Go.Proofs.YtljjbikbfeigdaaGreatDoor
namespace Go.Proofs.YtljjbikbfeigdaaGreatDoor
noncomputable section
open Go
section
variable {S:Hw} {ρ:Et} {B:Nat}
def Cp.wf(S:Hw)(ρ:Et):Cp→Prop
  | .arr _ a n=>(a.A S ρ).length=n
  | .bar a n=>(a.A S ρ).length=n
  | _=>True
def Cm(S:Hw)(ρ:Et)(l:List Cp):Prop:= ∀g∈l,g.wf S ρ
def SV.wf(S:Hw)(ρ:Et):SV→Prop
  | .one _=>True
  | .agg l=>Cm S ρ l
def SR.wf(S:Hw)(ρ:Et):SR→Prop
  | .v x=>x.wf S ρ
  | .tup xs=> ∀x∈xs,x.wf S ρ
  | .ite c x y=>(c.B S ρ=true→x.wf S ρ)∧(c.B S ρ=false→y.wf S ρ)
def Dx(S:Hw)(ρ:Et)(l:List T):Prop:= ∀t∈l,t.B S ρ=true
theorem Dx.nil:Dx S ρ []:=fun _ h=>by cases h
theorem Fu{l:List T}(h:Dx S ρ (needs l)):Dx S ρ l:=by
  intro t ht
  cases e:t.isTT with
  | true=>rw[j3w e];rfl
  | false=>exact h t (by simp[needs,ht,e])
theorem Ag{t:T}{l:List T}:Dx S ρ (t::l)↔t.B S ρ=true∧Dx S ρ l:=by simp[Dx]
theorem Co{l m:List T}:Dx S ρ (l++m)↔Dx S ρ l∧Dx S ρ m:=by
  constructor
  · exact fun h=>⟨fun t ht=>h t (by simp[ht]),fun t ht=>h t (by simp[ht])⟩
  · rintro ⟨h,k⟩ t ht;rcases List.mem_append.1 ht with h1|h1
    · exact h t h1
    · exact k t h1
theorem Au(g:Cp)(l:List Cp):Av S ρ B (g::l)=g.den S ρ B++Av S ρ B l:=by simp[Av]
theorem Bp(l m:List Cp):Av S ρ B (l++m)=Av S ρ B l++Av S ρ B m:=by simp[Av]
theorem Cj:Av S ρ B []=[]:=rfl
theorem jnf{g:Cp}{n:Nat}(hw:g.wf S ρ)(h:g.size=some n):(g.den S ρ B).length=n:=by
  cases g<;>simp[Cp.size,Cp.den,Cp.wf] at*
  · exact h
  · omega
  · omega
theorem Ax{g:Cp}{l:List Cp}:Cm S ρ (g::l)↔g.wf S ρ∧Cm S ρ l:=by simp[Cm]
theorem Ch{l m:List Cp}:Cm S ρ (l++m)↔Cm S ρ l∧Cm S ρ m:=by
  constructor
  · exact fun h=>⟨fun t ht=>h t (by simp[ht]),fun t ht=>h t (by simp[ht])⟩
  · rintro ⟨h,k⟩ t ht;rcases List.mem_append.1 ht with h1|h1
    · exact h t h1
    · exact k t h1
theorem Sw: ∀{l:List Cp} {n:Nat},Cm S ρ l→Rn l=some n→(Av S ρ B l).length=n
  | [],n,_,h=>by simp[Rn] at h;subst h;rfl
  | g::r,n,hw,h=>by
    unfold Rn at h
    split at h
    · rename_i a b ha hb
      simp only[Option.some.injEq] at h
      rw[Au,List.length_append,jnf (Ax.1 hw).1 ha,Sw (Ax.1 hw).2 hb]
      exact h
    · cases h
theorem Fj: ∀{l:List Cp} {s:Nat} {p:List Cp} {g:Cp} {j:Nat} {q:List Cp},Cm S ρ l→jh5 l s=some (p,g,j,q)→
    l=p++g::q∧(Av S ρ B p).length+j=s∧(∀n,g.size=some n→j<n)
  | [],s,p,g,j,q,_,h=>by simp[jh5] at h
  | x::r,s,p,g,j,q,hw,h=>by
    unfold jh5 at h
    split at h
    · rename_i n hn
      split at h
      · rename_i hlt
        simp only[Option.some.injEq,Prod.mk.injEq] at h
        obtain ⟨rfl,rfl,rfl,rfl⟩:=h
        exact ⟨rfl,by simp[Cj],fun m hm=>by rw[hn] at hm;injection hm with hm;omega⟩
      · rename_i hlt
        split at h
        · rename_i p' g' j' q' hs
          simp only[Option.some.injEq,Prod.mk.injEq] at h
          obtain ⟨rfl,rfl,rfl,rfl⟩:=h
          obtain ⟨h1,h2,h3⟩:=Fj (Ax.1 hw).2 hs
          refine ⟨by rw[h1];rfl,?_,h3⟩
          rw[Au,List.length_append,jnf (Ax.1 hw).1 hn]
          omega
        · cases h
    · rename_i hn
      simp only[Option.some.injEq,Prod.mk.injEq] at h
      obtain ⟨rfl,rfl,rfl,rfl⟩:=h
      exact ⟨rfl,by simp[Cj],fun m hm=>by rw[hn] at hm;cases hm⟩
theorem jdo{α:Type}(p m q:List α)(j:Nat)(h:j<m.length):(p++(m++q))[p.length+j]? =m[j]? :=by
  rw[List.getElem?_append_right (by omega),show p.length+j-p.length=j from by omega,List.getElem?_append_left h]
theorem jai{α:Type}(p m q:List α)(j:Nat)(v:α)(h:j<m.length):(p++(m++q)).set (p.length+j) v=p++(m.set j v++q):=by
  rw[List.set_append_right _ _ (by omega),show p.length+j-p.length=j from by omega,List.set_append_left _ _ h]
theorem Kc{i d n:T}(h:Dx S ρ (Pv i d n)):0≤d.I S ρ∧i.I S ρ<n.I S ρ:=by
  have h':=Fu h
  have h1:=(Ag.1 h').1
  have h2:=(Ag.1 (Ag.1 h').2).1
  rw[Sh,decide_eq_true_eq] at h1
  rw[jgq,decide_eq_true_eq] at h2
  exact ⟨by simpa [T.I] using h1,h2⟩
theorem jfy(k:IntKind)(l:List Int)(i:Nat)(h:i<l.length):(l.map (Value.int k))[i]? =some (.int k (l.getD i 0)):=by
  simp[List.getD,List.getElem?_eq_getElem h]
theorem Xa{l:List Cp}{s:Nat}{d:T}{c:List T}{x:Aw}(hw:Cm S ρ l)(h:Vj l s d=some (c,x))(hc:Dx S ρ c):
    (Av S ρ B l)[s+(d.I S ρ).toNat]? =some (x.den S ρ B):=by
  unfold Vj at h
  split at h
  · rename_i p cs j q hs
    obtain ⟨rfl,h2,h3⟩:=Fj (B:=B) hw hs
    split at h
    · rename_i hd
      rw[Qr] at hd;subst hd
      cases hj:cs[j]? with
      | none=>simp[hj] at h
      | some y=>
        simp[hj] at h
        obtain ⟨rfl,rfl⟩:=h
        have hjl:j<cs.length:=h3 _ rfl
        simp only[T.I,Int.toNat_zero,Nat.add_zero]
        rw[Bp,Au,←h2,jdo _ _ _ _ (by simpa [Cp.den] using hjl)]
        simp[Cp.den,hj]
    · cases h
  · rename_i p k a n j q hs
    obtain ⟨rfl,h2,h3⟩:=Fj (B:=B) hw hs
    simp only[Option.some.injEq,Prod.mk.injEq] at h
    obtain ⟨rfl,rfl⟩:=h
    obtain ⟨hd,hi⟩:=Kc hc
    have hl:(a.A S ρ).length=n:=(Ax.1 (Ch.1 hw).2).1
    simp only[Dg,T.I] at hi
    rw[Bp,Au,←h2,Nat.add_assoc,jdo _ _ _ _ (by simp[Cp.den];omega)]
    simp only[Cp.den,Aw.den,Sv,Dg,T.I]
    rw[jfy _ _ _ (by omega)]
    congr 3;omega
  · rename_i p k a j q hs
    obtain ⟨rfl,h2,h3⟩:=Fj (B:=B) hw hs
    simp only[Option.some.injEq,Prod.mk.injEq] at h
    obtain ⟨rfl,rfl⟩:=h
    obtain ⟨hd,hi⟩:=Kc hc
    simp only[Dg,T.I] at hi
    rw[Bp,Au,←h2,Nat.add_assoc,jdo _ _ _ _ (by simp[Cp.den];omega)]
    simp only[Cp.den,Aw.den,Sv,Dg,T.I]
    rw[jfy _ _ _ (by omega)]
    congr 3;omega
  · rename_i p a n j q hs
    obtain ⟨rfl,h2,h3⟩:=Fj (B:=B) hw hs
    simp only[Option.some.injEq,Prod.mk.injEq] at h
    obtain ⟨rfl,rfl⟩:=h
    obtain ⟨hd,hi⟩:=Kc hc
    have hl:(a.A S ρ).length=n:=(Ax.1 (Ch.1 hw).2).1
    simp only[Dg,T.I] at hi
    rw[Bp,Au,←h2,Nat.add_assoc,jdo _ _ _ _ (by simp[Cp.den];omega)]
    simp only[Cp.den,Aw.den,Qe,Zc,Sv,Dg,T.I]
    rw[show ((j:Int)+d.I S ρ).toNat=j+(d.I S ρ).toNat from by omega,List.getElem?_map,List.getElem?_eq_getElem (by omega),List.getD_eq_getElem?_getD,List.getElem?_eq_getElem (by omega)]
    simp only[Option.map_some,Option.getD_some,jlh]
  · cases h
theorem Ew: ∀(g:List Cp),Av S ρ B (Dn g)=Av S ρ B g∧(Cm S ρ g→Cm S ρ (Dn g))
  | []=>⟨rfl,id⟩
  | x::g=>by
    obtain ⟨h1,h2⟩:=Ew g
    cases x with
    | cells a=>
      unfold Dn
      split
      · rename_i b q he
        rw[he] at h1 h2
        refine ⟨?_,fun hw=> ?_⟩
        · rw[Au,Au,←h1,Au];simp[Cp.den]
        · exact Ax.2 ⟨trivial,(Ax.1 (h2 (Ax.1 hw).2)).2⟩
      · refine ⟨?_,fun hw=> ?_⟩
        · rw[Au,Au,h1]
        · exact Ax.2 ⟨trivial,h2 (Ax.1 hw).2⟩
    | arr k a n=>simp only[Dn];exact ⟨by rw[Au,Au,h1],fun hw=>Ax.2 ⟨(Ax.1 hw).1,h2 (Ax.1 hw).2⟩⟩
    | arrD k a=>simp only[Dn];exact ⟨by rw[Au,Au,h1],fun hw=>Ax.2 ⟨(Ax.1 hw).1,h2 (Ax.1 hw).2⟩⟩
    | bar a n=>simp only[Dn];exact ⟨by rw[Au,Au,h1],fun hw=>Ax.2 ⟨(Ax.1 hw).1,h2 (Ax.1 hw).2⟩⟩
    | junk n=>simp only[Dn];exact ⟨by rw[Au,Au,h1],fun hw=>Ax.2 ⟨(Ax.1 hw).1,h2 (Ax.1 hw).2⟩⟩
    | tail z n=>simp only[Dn];exact ⟨by rw[Au,Au,h1],fun hw=>Ax.2 ⟨(Ax.1 hw).1,h2 (Ax.1 hw).2⟩⟩
theorem Wq(a:T)(s n:Nat):(jor a s n).A S ρ=((a.A S ρ).drop s).take n:=by
  unfold jor
  split
  · simp[T.A]
  · split
    · simp[T.A,T.I];omega
    · simp[T.A,T.I]
  · simp[T.A,T.I]
theorem jmv(k:IntKind)(a:T)(s n:Nat):Av S ρ B (jv1 k a s n)=(((a.A S ρ).drop s).take n).map (Value.int k):=by
  unfold jv1
  split
  · simp[Cj]
  · simp only[Au,Cj,List.append_nil,Cp.den,Wq]
theorem jrr(k:IntKind)(a:T)(s n:Nat)(h:s+n≤(a.A S ρ).length):Cm S ρ (jv1 k a s n):=by
  unfold jv1
  split
  · exact fun _ h=>nomatch h
  · intro g hg
    simp only[List.mem_singleton] at hg
    subst hg
    simp only[Cp.wf,Wq,List.length_take,List.length_drop]
    omega
theorem Zr(g:List Cp):Av S ρ B (jr6 g)=Av S ρ B g∧(Cm S ρ g→Cm S ρ (jr6 g)):=by
  unfold jr6
  split
  · split
    · rename_i k n v m hv
      have:=Cy hv
      subst this
      refine ⟨rfl,fun _ g hg=> ?_⟩
      simp only[List.mem_singleton] at hg
      subst hg
      simp[Cp.wf,T.A,T.I]
    · exact ⟨rfl,id⟩
  · exact ⟨rfl,id⟩
theorem jfc{l:List Cp}{s:Nat}{d:T}{c:List T}{x:Aw}{l':List Cp}(hw:Cm S ρ l)(h:Wk l s d x=some (c,l'))(hc:Dx S ρ c):
    Av S ρ B l'=(Av S ρ B l).set (s+(d.I S ρ).toNat) (x.den S ρ B)∧Cm S ρ l'∧s+(d.I S ρ).toNat<(Av S ρ B l).length:=by
  unfold Wk at h
  split at h
  · rename_i x' p cs j q hs
    obtain ⟨rfl,h2,h3⟩:=Fj (B:=B) hw hs
    split at h
    · rename_i hd
      rw[Qr] at hd;subst hd
      simp only[Option.some.injEq,Prod.mk.injEq] at h
      obtain ⟨rfl,rfl⟩:=h
      have hjl:j<cs.length:=h3 _ rfl
      refine ⟨?_,?_,?_⟩
      · simp only[T.I,Int.toNat_zero,Nat.add_zero]
        rw[Bp,Au,Bp,Au,←h2,jai _ _ _ _ _ (by simpa [Cp.den] using hjl)]
        simp[Cp.den,List.map_set]
      · have:=Ch.1 hw
        exact Ch.2 ⟨this.1,Ax.2 ⟨trivial,(Ax.1 this.2).2⟩⟩
      · simp only[T.I,Int.toNat_zero,Nat.add_zero]
        rw[Bp,Au,←h2];simp[Cp.den];omega
    · cases h
  · rename_i p k a n j q k' t hs
    obtain ⟨rfl,h2,h3⟩:=Fj (B:=B) hw hs
    split at h
    · rename_i hk
      subst hk
      split at h
      · rename_i hcst
        simp only[Bool.and_eq_true] at hcst
        have hd:=Qr.1 hcst.1
        subst hd
        simp only[Option.some.injEq,Prod.mk.injEq] at h
        obtain ⟨rfl,rfl⟩:=h
        have hl:(a.A S ρ).length=n:=(Ax.1 (Ch.1 hw).2).1
        have hjn:j<n:=h3 _ rfl
        obtain ⟨w1,w2⟩:=Ch.1 hw
        refine ⟨?_,(Ew (S:=S) (ρ:=ρ) (B:=B) _).2 ?_,?_⟩
        · rw[(Ew (S:=S) (ρ:=ρ) (B:=B) _).1]
          simp only[T.I,Int.toNat_zero,Nat.add_zero]
          rw[Bp,Bp,Au,Bp,jmv,jmv,Bp,Au,←h2,jai _ _ _ _ _ (by simp[Cp.den];omega)]
          simp only[Cp.den,List.map_cons,List.map_nil,List.drop_zero]
          rw[List.take_of_length_le (l:=List.drop (j+1) _) (by simp;omega)]
          rw[List.set_eq_take_append_cons_drop,if_pos (by simp;omega)]
          simp[List.map_take,List.map_drop]
        · exact Ch.2 ⟨w1,Ch.2 ⟨jrr _ _ _ _ (by omega),Ax.2 ⟨trivial,Ch.2 ⟨jrr _ _ _ _ (by omega),(Ax.1 w2).2⟩⟩⟩⟩
        · simp only[T.I,Int.toNat_zero,Nat.add_zero]
          rw[Bp,Au,←h2];simp[Cp.den];omega
      simp only[Option.some.injEq,Prod.mk.injEq] at h
      obtain ⟨rfl,rfl⟩:=h
      obtain ⟨hd,hi⟩:=Kc hc
      have hl:(a.A S ρ).length=n:=(Ax.1 (Ch.1 hw).2).1
      simp only[Dg,T.I] at hi
      refine ⟨?_,?_,?_⟩
      · rw[Bp,Au,Bp,Au,←h2,Nat.add_assoc,jai _ _ _ _ _ (by simp[Cp.den];omega)]
        simp only[Cp.den,Aw.den,T.A,Dg,T.I,List.map_set]
        rw[show ((j:Int)+d.I S ρ).toNat=j+(d.I S ρ).toNat from by omega]
      · have:=Ch.1 hw
        exact Ch.2 ⟨this.1,Ax.2 ⟨by simp[Cp.wf,T.A,hl],(Ax.1 this.2).2⟩⟩
      · rw[Bp,Au,←h2];simp[Cp.den];omega
    · cases h
  · rename_i p k a j q k' t hs
    obtain ⟨rfl,h2,h3⟩:=Fj (B:=B) hw hs
    split at h
    · rename_i hk
      subst hk
      simp only[Option.some.injEq,Prod.mk.injEq] at h
      obtain ⟨rfl,rfl⟩:=h
      obtain ⟨hd,hi⟩:=Kc hc
      simp only[Dg,T.I] at hi
      refine ⟨?_,?_,?_⟩
      · rw[Bp,Au,Bp,Au,←h2,Nat.add_assoc,jai _ _ _ _ _ (by simp[Cp.den];omega)]
        simp only[Cp.den,Aw.den,T.A,Dg,T.I,List.map_set]
        rw[show ((j:Int)+d.I S ρ).toNat=j+(d.I S ρ).toNat from by omega]
      · have:=Ch.1 hw
        exact Ch.2 ⟨this.1,Ax.2 ⟨trivial,(Ax.1 this.2).2⟩⟩
      · rw[Bp,Au,←h2];simp[Cp.den];omega
    · cases h
  · rename_i p a n j q t hs
    obtain ⟨rfl,h2,h3⟩:=Fj (B:=B) hw hs
    simp only[Option.some.injEq,Prod.mk.injEq] at h
    obtain ⟨rfl,rfl⟩:=h
    obtain ⟨hd,hi⟩:=Kc hc
    have hl:(a.A S ρ).length=n:=(Ax.1 (Ch.1 hw).2).1
    simp only[Dg,T.I] at hi
    refine ⟨?_,?_,?_⟩
    · rw[Bp,Au,Bp,Au,←h2,Nat.add_assoc,jai _ _ _ _ _ (by simp[Cp.den];omega)]
      simp only[Cp.den,Aw.den,T.A,Dg,jk6,T.I,List.map_set]
      rw[show ((j:Int)+d.I S ρ).toNat=j+(d.I S ρ).toNat from by omega]
      congr 3
      cases t.B S ρ<;>rfl
    · have:=Ch.1 hw
      exact Ch.2 ⟨this.1,Ax.2 ⟨by simp[Cp.wf,T.A,hl],(Ax.1 this.2).2⟩⟩
    · rw[Bp,Au,←h2];simp[Cp.den];omega
  · cases h
theorem Fn: ∀{l:List Cp} {n:Nat} {x y:List Cp},Cm S ρ l→Fd l n=some (x,y)→
    Av S ρ B x++Av S ρ B y=Av S ρ B l∧(Av S ρ B x).length=n∧Cm S ρ x∧Cm S ρ y
  | l,0,x,y,hw,h=>by
    cases l<;>(simp only[Fd,Option.some.injEq,Prod.mk.injEq] at h;obtain ⟨rfl,rfl⟩:=h;exact ⟨rfl,rfl,(fun _ h=>nomatch h),hw⟩)
  | [],n+1,x,y,_,h=>by simp[Fd] at h
  | g::r,n+1,x,y,hw,h=>by
    have hg:=(Ax.1 hw).1
    have hr:=(Ax.1 hw).2
    unfold Fd at h
    split at h
    · rename_i cs
      split at h
      · rename_i hle
        cases hq:Fd r (n+1-cs.length) with
        | none=>simp[hq] at h
        | some xy=>
          obtain ⟨x',y'⟩:=xy
          simp[hq] at h
          obtain ⟨rfl,rfl⟩:=h
          obtain ⟨h1,h2,h3,h4⟩:=Fn hr hq
          refine ⟨by rw[Au,Au,List.append_assoc,h1],?_,Ax.2 ⟨hg,h3⟩,h4⟩
          rw[Au,List.length_append,h2];simp[Cp.den];omega
      · rename_i hle
        simp only[Option.some.injEq,Prod.mk.injEq] at h
        obtain ⟨rfl,rfl⟩:=h
        refine ⟨?_,?_,fun _ h=>by simp at h;subst h;trivial,Ax.2 ⟨trivial,hr⟩⟩
        · simp only[Au,Cj,List.append_nil,Cp.den,←List.append_assoc,←List.map_append,List.take_append_drop]
        · simp[Au,Cj,Cp.den];omega
    · rename_i k a m
      have hl:(a.A S ρ).length=m:=hg
      split at h
      · rename_i hle
        cases hq:Fd r (n+1-m) with
        | none=>simp[hq] at h
        | some xy=>
          obtain ⟨x',y'⟩:=xy
          simp[hq] at h
          obtain ⟨rfl,rfl⟩:=h
          obtain ⟨h1,h2,h3,h4⟩:=Fn hr hq
          refine ⟨by rw[Au,Au,List.append_assoc,h1],?_,Ax.2 ⟨hg,h3⟩,h4⟩
          rw[Au,List.length_append,h2];simp[Cp.den];omega
      · rename_i hle
        simp only[Option.some.injEq,Prod.mk.injEq] at h
        obtain ⟨rfl,rfl⟩:=h
        refine ⟨?_,?_,fun _ h=> ?_,Ax.2 ⟨?_,hr⟩⟩
        · simp only[Au,Cj,List.append_nil,Cp.den,Wq,←List.append_assoc,←List.map_append,List.drop_zero]
          rw[List.take_of_length_le (l:=List.drop (n+1) _) (by simp;omega),List.take_append_drop]
        · simp[Au,Cj,Cp.den,Wq];omega
        · simp at h;subst h;simp[Cp.wf,Wq];omega
        · simp[Cp.wf,Wq];omega
    · cases h
theorem Sg{i d m:T}{n:Nat}(h:Dx S ρ (needs [Ek (.lit 0) d,Ek (Ej i (.lit n)) m])):0≤d.I S ρ∧i.I S ρ+n≤m.I S ρ:=by
  have h':=Fu h
  have h1:=(Ag.1 h').1
  have h2:=(Ag.1 (Ag.1 h').2).1
  rw[Sh,decide_eq_true_eq] at h1
  rw[Sh,decide_eq_true_eq,Dg] at h2
  exact ⟨by simpa [T.I] using h1,by simpa [T.I] using h2⟩
theorem jo7{α:Type}(p m q:List α)(j n:Nat)(h:j+n≤m.length):((p++(m++q)).drop (p.length+j)).take n=(m.drop j).take n:=by
  rw[List.drop_append,List.drop_eq_nil_of_le (by omega:p.length≤p.length+j),List.nil_append,show p.length+j-p.length=j from by omega,List.drop_append,List.take_append]
  rw[show n-(List.drop j m).length=0 from by simp;omega]
  simp
theorem Qw{l:List Cp}{s:Nat}{d:T}{n:Nat}{c:List T}{x:List Cp}(hw:Cm S ρ l)(h:Rm l s d n=some (c,x))(hc:Dx S ρ c):
    Av S ρ B x=((Av S ρ B l).drop (s+(d.I S ρ).toNat)).take n∧(Av S ρ B x).length=n∧Cm S ρ x:=by
  unfold Rm at h
  split at h
  · rename_i hd
    rw[Qr] at hd;subst hd
    split at h
    · rename_i p y hp
      obtain ⟨h1,h2,h3,h4⟩:=Fn (B:=B) hw hp
      cases hq:Fd y n with
      | none=>simp[hq] at h
      | some xy=>
        obtain ⟨x',y'⟩:=xy
        simp[hq] at h
        obtain ⟨rfl,rfl⟩:=h
        obtain ⟨k1,k2,k3,k4⟩:=Fn (B:=B) h4 hq
        refine ⟨?_,k2,k3⟩
        simp only[T.I,Int.toNat_zero,Nat.add_zero]
        rw[←h1,←k1,←h2,List.drop_append,List.drop_length,List.nil_append,Nat.sub_self,List.drop_zero,←k2,List.take_append_length]
    · cases h
  · split at h
    · rename_i p k a m j q hs
      obtain ⟨rfl,h2,h3⟩:=Fj (B:=B) hw hs
      simp only[Option.some.injEq,Prod.mk.injEq] at h
      obtain ⟨rfl,rfl⟩:=h
      obtain ⟨hd,hi⟩:=Sg hc
      have hl:(a.A S ρ).length=m:=(Ax.1 (Ch.1 hw).2).1
      simp only[Dg,T.I] at hi
      refine ⟨?_,?_,?_⟩
      · rw[Bp,Au (l:=q),←h2,Nat.add_assoc,jo7 _ _ _ _ _ (by simp[Cp.den];omega)]
        simp only[Au,Cj,List.append_nil,Cp.den,T.A,Dg,T.I,List.map_take,List.map_drop]
        rw[show ((j:Int)+d.I S ρ).toNat=j+(d.I S ρ).toNat from by omega,Int.toNat_natCast]
      · simp[Au,Cj,Cp.den,T.A,Dg,T.I];omega
      · intro g hg;simp at hg;subst hg;simp[Cp.wf,T.A,Dg,T.I];omega
    · rename_i p k a j q hs
      obtain ⟨rfl,h2,h3⟩:=Fj (B:=B) hw hs
      simp only[Option.some.injEq,Prod.mk.injEq] at h
      obtain ⟨rfl,rfl⟩:=h
      obtain ⟨hd,hi⟩:=Sg hc
      simp only[Dg,T.I] at hi
      refine ⟨?_,?_,?_⟩
      · rw[Bp,Au (l:=q),←h2,Nat.add_assoc,jo7 _ _ _ _ _ (by simp[Cp.den];omega)]
        simp only[Au,Cj,List.append_nil,Cp.den,T.A,Dg,T.I,List.map_take,List.map_drop]
        rw[show ((j:Int)+d.I S ρ).toNat=j+(d.I S ρ).toNat from by omega,Int.toNat_natCast]
      · simp[Au,Cj,Cp.den,T.A,Dg,T.I];omega
      · intro g hg;simp at hg;subst hg;simp[Cp.wf,T.A,Dg,T.I];omega
    · cases h
theorem Xy(p m q:List Value)(j:Nat)(b:List Value)(h:j+b.length≤m.length):
    (p++(m++q)).take (p.length+j)++(b++(p++(m++q)).drop (p.length+j+b.length))=p++((m.take j++(b++m.drop (j+b.length)))++q):=by
  rw[List.take_append,List.take_of_length_le (by omega:p.length≤p.length+j),show p.length+j-p.length=j from by omega,List.take_append,
    show j-m.length=0 from by omega,List.drop_append,List.drop_eq_nil_of_le (by omega:p.length≤p.length+j+b.length),List.nil_append,
    show p.length+j+b.length-p.length=j+b.length from by omega,List.drop_append,show j+b.length-m.length=0 from by omega]
  simp[List.append_assoc]
theorem Oy{l:List Cp}{s:Nat}{d:T}{n:Nat}{c:List T}{x l':List Cp}(hw:Cm S ρ l)(hx:Cm S ρ x)(hn:(Av S ρ B x).length=n)(h:Nb l s d n x=some (c,l'))(hc:Dx S ρ c):
    Av S ρ B l'=(Av S ρ B l).take (s+(d.I S ρ).toNat)++(Av S ρ B x++(Av S ρ B l).drop (s+(d.I S ρ).toNat+n))∧Cm S ρ l'∧s+(d.I S ρ).toNat+n≤(Av S ρ B l).length:=by
  unfold Nb at h
  split at h
  · rename_i hd
    rw[Qr] at hd;subst hd
    split at h
    · rename_i p y hp
      obtain ⟨h1,h2,h3,h4⟩:=Fn (B:=B) hw hp
      cases hq:Fd y n with
      | none=>simp[hq] at h
      | some xy=>
        obtain ⟨x',y'⟩:=xy
        simp[hq] at h
        obtain ⟨rfl,rfl⟩:=h
        obtain ⟨k1,k2,k3,k4⟩:=Fn (B:=B) h4 hq
        simp only[T.I,Int.toNat_zero,Nat.add_zero]
        refine ⟨?_,Ch.2 ⟨h3,Ch.2 ⟨hx,k4⟩⟩,?_⟩
        · rw[←h1,←k1,←h2,List.take_append_length,Bp,Bp]
          congr 2
          rw[List.drop_append,List.drop_eq_nil_of_le (by omega),List.nil_append,List.drop_append,List.drop_eq_nil_of_le (by omega),List.nil_append]
          rw[show (Av S ρ B p).length+n-(Av S ρ B p).length-(Av S ρ B x').length=0 from by omega];rfl
        · rw[←h1,←k1];simp;omega
    · cases h
  · split at h
    · rename_i p k a m j q k' b n' hs
      split at h
      · rename_i hk
        obtain ⟨rfl,rfl⟩:=hk
        obtain ⟨rfl,h2,h3⟩:=Fj (B:=B) hw hs
        simp only[Option.some.injEq,Prod.mk.injEq] at h
        obtain ⟨rfl,rfl⟩:=h
        obtain ⟨hd,hi⟩:=Sg hc
        have hl:(a.A S ρ).length=m:=(Ax.1 (Ch.1 hw).2).1
        simp only[Dg,T.I] at hi
        have hb:(b.A S ρ).length=n':=by simpa [Au,Cj,Cp.den] using hn
        refine ⟨?_,?_,?_⟩
        · have:=Xy (Av S ρ B p) ((a.A S ρ).map (Value.int k)) (Av S ρ B q) (j+(d.I S ρ).toNat) ((b.A S ρ).map (Value.int k)) (by simp;omega)
          simp only[List.length_map,hb] at this
          simp only[Bp,Au,Cj,List.append_nil,Cp.den]
          rw[←h2,Nat.add_assoc (Av S ρ B p).length,this]
          simp only[T.A,Cb,Dg,T.I,List.map_append,List.map_take,List.map_drop]
          rw[show ((j:Int)+d.I S ρ).toNat=j+(d.I S ρ).toNat from by omega,hb]
        · have:=Ch.1 hw
          exact Ch.2 ⟨this.1,Ax.2 ⟨by simp[Cp.wf,T.A,Cb,Dg,T.I];omega,(Ax.1 this.2).2⟩⟩
        · rw[Bp,Au,←h2];simp[Cp.den];omega
      · cases h
    · rename_i p k a j q k' b n' hs
      split at h
      · rename_i hk
        obtain ⟨rfl,rfl⟩:=hk
        obtain ⟨rfl,h2,h3⟩:=Fj (B:=B) hw hs
        simp only[Option.some.injEq,Prod.mk.injEq] at h
        obtain ⟨rfl,rfl⟩:=h
        obtain ⟨hd,hi⟩:=Sg hc
        simp only[Dg,T.I] at hi
        have hb:(b.A S ρ).length=n':=by simpa [Au,Cj,Cp.den] using hn
        refine ⟨?_,?_,?_⟩
        · have:=Xy (Av S ρ B p) ((a.A S ρ).map (Value.int k)) (Av S ρ B q) (j+(d.I S ρ).toNat) ((b.A S ρ).map (Value.int k)) (by simp;omega)
          simp only[List.length_map,hb] at this
          simp only[Bp,Au,Cj,List.append_nil,Cp.den]
          rw[←h2,Nat.add_assoc (Av S ρ B p).length,this]
          simp only[T.A,Cb,Dg,T.I,List.map_append,List.map_take,List.map_drop]
          rw[show ((j:Int)+d.I S ρ).toNat=j+(d.I S ρ).toNat from by omega,hb]
        · have:=Ch.1 hw
          exact Ch.2 ⟨this.1,Ax.2 ⟨trivial,(Ax.1 this.2).2⟩⟩
        · rw[Bp,Au,←h2];simp[Cp.den];omega
      · cases h
    · cases h
end
end
end Go.Proofs.YtljjbikbfeigdaaGreatDoor
namespace Go.Proofs.YtljjbikbfeigdaaGreatDoor
noncomputable section
open Go
def qlb(S:Hw)(ρ:Et)(w0:World)(h:Hp)(o:OW)(w:World):Prop:=
  (ρ.v o.v=.slice none 0 0∧o.a.A S ρ=[])∨
  ∃b cap,ρ.v o.v=.slice (some ⟨b,0,none⟩) (o.a.A S ρ).length cap∧(o.a.A S ρ).length≤cap∧
    w.heap[b]? =some (.cells ((o.a.A S ρ).map (Value.int o.k)++List.replicate (cap-(o.a.A S ρ).length) (Value.int o.k 0)).toArray o.e (0,0))∧
    (w0.heap.size≤b∨b∈ρ.loose)∧(∀x∈h.rw,x.1.blk ρ w0.heap.size≠b)∧ ∀x∈h.ro,x.1.blk ρ w0.heap.size≠b
structure Cv(S:Hw)(ρ:Et)(w0:World)(h:Hp)(w:World):Prop where
  rw_: ∀x∈h.rw,w.heap[x.1.blk ρ w0.heap.size]? =some (.cells (Av S ρ w0.heap.size x.2.segs).toArray x.2.ty (0,0))
  wf: ∀x∈h.rw,Cm S ρ x.2.segs
  off: ∀x∈h.rw,x.1.off ρ=0
  nd:(h.rw.map fun x=>x.1.blk ρ w0.heap.size).Nodup
  ro: ∀x∈h.ro,∀j v,(x.2.2.A S ρ)[j]? =some v→w.cell? ⟨x.1.blk ρ w0.heap.size,x.1.off ρ+j,none⟩=some (.int x.2.1 v)
  apart: ∀x∈h.ro,∀y∈h.rw,x.1.blk ρ w0.heap.size≠y.1.blk ρ w0.heap.size
  rolt: ∀x∈h.ro,x.1.blk ρ w0.heap.size<w0.heap.size
  size:w.heap.size=w0.heap.size+ρ.nb h.na
  nbs: ∀k,h.na≤k→ρ.nb (k+1)=ρ.nb k+1
  frame: ∀i,i<w0.heap.size→i∉ρ.loose→(∀x∈h.rw,x.1.blk ρ w0.heap.size≠i)→w.heap[i]? =w0.heap[i]?
  own: ∀o,h.ow=some o→qlb S ρ w0 h o w
  os:w.os=w0.os
  tape:w.tape=w0.tape
  output:w.output=w0.output
section
variable {S:Hw} {ρ:Et} {w0 w:World} {h:Hp} {P:Program}
theorem Cv.drew(hh:Cv S ρ w0 h w):Cv S ρ w0 h w.drew:=
  ⟨hh.rw_,hh.wf,hh.off,hh.nd,hh.ro,hh.apart,hh.rolt,hh.size,hh.nbs,hh.frame,hh.own,hh.os,hh.tape,hh.output⟩
theorem Gw: ∀{l:List (Cl×Gn)} {r:Cl} {b:Gn},Jr l r=some b→(r,b)∈l
  | [],_,_,h=>by simp[Jr] at h
  | (q,c)::l,r,b,h=>by
    unfold Jr at h
    split at h
    · rename_i e;have e:=Cl.code_inj e;subst e;injection h with h;subst h;simp
    · exact List.mem_cons_of_mem _ (Gw h)
theorem Jo: ∀{l:List (Cl×IntKind×T)} {r:Cl} {b:IntKind×T},Na l r=some b→(r,b)∈l
  | [],_,_,h=>by simp[Na] at h
  | (q,c)::l,r,b,h=>by
    unfold Na at h
    split at h
    · rename_i e;have e:=Cl.code_inj e;subst e;injection h with h;subst h;simp
    · exact List.mem_cons_of_mem _ (Jo h)
theorem jg4(f:Cl→Nat): ∀(l:List (Cl×Gn)) (r:Cl) (c:Gn),(Tp l r c).map (fun x=>f x.1)=l.map (fun x=>f x.1)
  | [],_,_=>rfl
  | (q,d)::l,r,c=>by
    unfold Tp;split
    · rfl
    · simp[jg4 f l r c]
theorem jna: ∀{l:List (Cl×Gn)} {r:Cl} {c:Gn} {x:Cl×Gn} (f:Cl→Nat),(l.map (fun x=>f x.1)).Nodup→x∈Tp l r c→x=(r,c)∨(x∈l∧((∃b,(r,b)∈l)→f x.1≠f r))
  | [],_,_,_,_,_,h=>by simp[Tp] at h
  | (q,d)::l,r,c,x,f,hn,h=>by
    simp only[List.map_cons,List.nodup_cons] at hn
    unfold Tp at h
    split at h
    · rename_i e
      have e:=Cl.code_inj e
      subst e
      rcases List.mem_cons.1 h with h|h
      · exact .inl h
      · refine .inr ⟨List.mem_cons_of_mem _ h,fun _ e=>hn.1 ?_⟩
        rw[←e];exact List.mem_map.2 ⟨x,h,rfl⟩
    · rename_i e
      have e:=Cl.code_ne e
      rcases List.mem_cons.1 h with h|h
      · subst h
        refine .inr ⟨by simp,fun ⟨b,hb⟩ e'=> ?_⟩
        rcases List.mem_cons.1 hb with hb|hb
        · injection hb with hb _;exact e hb.symm
        · apply hn.1;rw[e'];exact List.mem_map.2 ⟨(r,b),hb,rfl⟩
      · rcases jna f hn.2 h with h|⟨h1,h2⟩
        · exact .inl h
        · refine .inr ⟨List.mem_cons_of_mem _ h1,fun ⟨b,hb⟩=> ?_⟩
          rcases List.mem_cons.1 hb with hb|hb
          · injection hb with hb _;exact absurd hb.symm e
          · exact h2 ⟨b,hb⟩
theorem Cv.upd(hh:Cv S ρ w0 h w){r:Cl}{b:Gn}(hb:Jr h.rw r=some b){segs:List Cp}(hwf:Cm S ρ segs){w':World}
    (h1:w'.heap[r.blk ρ w0.heap.size]? =some (.cells (Av S ρ w0.heap.size segs).toArray b.ty (0,0)))(h2: ∀i,i≠r.blk ρ w0.heap.size→w'.heap[i]? =w.heap[i]?)
    (h3:w'.heap.size=w.heap.size)(h4:w'.os=w.os)(h5:w'.tape=w.tape)(h6:w'.output=w.output):
    Cv S ρ w0 {h with rw:=Tp h.rw r {b with segs:=segs}} w':=by
  have hm:=Gw hb
  have key: ∀x∈Tp h.rw r {b with segs:=segs},x=(r,{b with segs:=segs})∨(x∈h.rw∧x.1.blk ρ w0.heap.size≠r.blk ρ w0.heap.size):=fun x hx=>by
    rcases jna (fun q=>q.blk ρ w0.heap.size) hh.nd hx with h|⟨h1,h2⟩
    · exact .inl h
    · exact .inr ⟨h1,h2 ⟨b,hm⟩⟩
  have back: ∀x∈Tp h.rw r {b with segs:=segs},∃y∈h.rw,x.1=y.1:=fun x hx=>by
    rcases key x hx with h|⟨h,_⟩
    · subst h;exact ⟨(r,b),hm,rfl⟩
    · exact ⟨x,h,rfl⟩
  have fwd: ∀i,(∀x∈Tp h.rw r {b with segs:=segs},x.1.blk ρ w0.heap.size≠i)→ ∀x∈h.rw,x.1.blk ρ w0.heap.size≠i:=by
    intro i hi x hx e
    have h7:i∈(Tp h.rw r {b with segs:=segs}).map (fun x=>x.1.blk ρ w0.heap.size):=by
      rw[jg4 (fun q=>q.blk ρ w0.heap.size)];exact List.mem_map.2 ⟨x,hx,e⟩
    obtain ⟨y,hy,e'⟩:=List.mem_map.1 h7
    exact hi y hy e'
  refine ⟨?_,?_,?_,?_,?_,?_,hh.rolt,h3.trans hh.size,hh.nbs,?_,?_,h4.trans hh.os,h5.trans hh.tape,h6.trans hh.output⟩
  · intro x hx
    rcases key x hx with h|⟨h,hne⟩
    · subst h;exact h1
    · rw[h2 _ hne];exact hh.rw_ x h
  · intro x hx
    rcases key x hx with h|⟨h,hne⟩
    · subst h;exact hwf
    · exact hh.wf x h
  · intro x hx
    obtain ⟨y,hy,e⟩:=back x hx
    rw[e];exact hh.off y hy
  · show ((Tp h.rw r {b with segs:=segs}).map fun x=>x.1.blk ρ w0.heap.size).Nodup
    rw[jg4 (fun q=>q.blk ρ w0.heap.size)];exact hh.nd
  · intro x hx j v hv
    rw[World.cell?_of_block (w:=w) (h2 _ (hh.apart x hx (r,b) hm))]
    exact hh.ro x hx j v hv
  · intro x hx y hy
    obtain ⟨z,hz,e⟩:=back y hy
    rw[e];exact hh.apart x hx z hz
  · intro i hi hlo hne
    rw[h2 i (by have:=fwd i hne (r,b) hm;exact fun e=>this e.symm)]
    exact hh.frame i hi hlo (fwd i hne)
  · intro o ho
    rcases hh.own o ho with h|⟨p,cap,q1,q2,q3,q4,q5,q6⟩
    · exact .inl h
    · refine .inr ⟨p,cap,q1,q2,?_,q4,fun x hx=> ?_,q6⟩
      · rw[h2 p (fun e=>q5 (r,b) hm e.symm)];exact q3
      · obtain ⟨y,hy,e⟩:=back x hx
        rw[e];exact q5 y hy
theorem Cv.push(hh:Cv S ρ w0 h w)(t:Nat){segs:List Cp}(hwf:Cm S ρ segs):
    Cv S ρ w0 (Ze h ⟨t,segs⟩) (w.alloc (.cells (Av S ρ w0.heap.size segs).toArray t)):=by
  have hlt: ∀x∈h.rw,x.1.blk ρ w0.heap.size<w.heap.size:=fun x hx=>(Array.getElem?_eq_some_iff.1 (hh.rw_ x hx)).1
  have hn:(Cl.new h.na).blk ρ w0.heap.size=w.heap.size:=hh.size.symm
  have hold: ∀i,i<w.heap.size→(w.alloc (.cells (Av S ρ w0.heap.size segs).toArray t)).heap[i]? =w.heap[i]? :=fun i hi=>heap_alloc_old w _ hi
  refine ⟨?_,?_,?_,?_,?_,?_,?_,?_,fun k hk=>hh.nbs k (Nat.le_of_succ_le hk),?_,?_,hh.os,hh.tape,hh.output⟩
  · intro x hx
    rcases List.mem_append.1 hx with hx|hx
    · rw[hold _ (hlt x hx)];exact hh.rw_ x hx
    · simp only[List.mem_singleton] at hx
      subst hx
      simp only[hn]
      exact heap_alloc_new w _
  · intro x hx
    rcases List.mem_append.1 hx with hx|hx
    · exact hh.wf x hx
    · simp only[List.mem_singleton] at hx
      subst hx
      exact hwf
  · intro x hx
    rcases List.mem_append.1 hx with hx|hx
    · exact hh.off x hx
    · simp only[List.mem_singleton] at hx
      subst hx
      rfl
  · show ((h.rw++ [(Cl.new h.na,(⟨t,segs⟩:Gn))]).map fun x=>x.1.blk ρ w0.heap.size).Nodup
    rw[List.map_append,List.nodup_append]
    refine ⟨hh.nd,by simp,?_⟩
    intro a ha b hb e
    obtain ⟨x,hx,e'⟩:=List.mem_map.1 ha
    simp only[List.map_cons,List.map_nil,List.mem_singleton] at hb
    have:=hlt x hx
    rw[hn] at hb
    omega
  · intro x hx j v hv
    have hc:=hh.ro x hx j v hv
    rw[World.cell?_alloc_lt w _ _ (World.block_lt_of_cell? w _ hc)]
    exact hc
  · intro x hx y hy
    rcases List.mem_append.1 hy with hy|hy
    · exact hh.apart x hx y hy
    · simp only[List.mem_singleton] at hy
      subst hy
      simp only[hn]
      have:=hh.rolt x hx
      have:=hh.size
      omega
  · exact hh.rolt
  · simp only[World.size_alloc,Ze];rw[hh.size,hh.nbs h.na (Nat.le_refl _)];omega
  · intro i hi hlo hne
    have:=hh.size
    rw[hold i (by omega)]
    exact hh.frame i hi hlo fun x hx=>hne x (List.mem_append.2 (.inl hx))
  · intro o ho
    rcases hh.own o ho with h|⟨p,cap,q1,q2,q3,q4,q5,q6⟩
    · exact .inl h
    · have hp:p<w.heap.size:=(Array.getElem?_eq_some_iff.1 q3).1
      refine .inr ⟨p,cap,q1,q2,by rw[hold p hp];exact q3,q4,fun x hx=> ?_,q6⟩
      rcases List.mem_append.1 hx with hx|hx
      · exact q5 x hx
      · simp only[List.mem_singleton] at hx
        subst hx
        rw[hn];omega
def jrg(P:Program)(a:Act)(w:World)(o:Oper)(v:Value)(w':World):Prop:=
  (execOp a.eval o).run P w=.ok (.value v) w'∨((execOp a.eval o).run P w=.ok .skip w'∧v=undef)
theorem jrg.wp{a:Act}{o:Oper}{v:Value}{w':World}(hy:jrg P a w o v w'){K:Act→World→Prop}{Q:Exit→Act→World→Prop}(hK:K (a.put o.dst v) w'):o.wp P a w K Q:=by
  unfold Oper.wp
  rcases hy with hy|⟨hy,rfl⟩<;>rw[hy]<;>exact hK
theorem Sn{v:Value}{l:Aw}{B:Nat}(hv:Rb v=some l):l.den S ρ B=v:=by
  unfold Rb at hv
  split at hv<;>try (simp only[Option.some.injEq] at hv)
  · subst hv;rfl
  · subst hv;simp[Aw.den,Vo]
  · subst hv;rfl
  · subst hv;rfl
  · subst hv;rfl
  · subst hv;rfl
  · rename_i f x y
    split at hv
    · rename_i hc
      injection hv with hv
      subst hv
      simp only[Aw.den]
      rw[Array.eq_empty_of_size_eq_zero hc.1,Array.eq_empty_of_size_eq_zero hc.2]
    · cases hv
  · rename_i vs
    split at hv
    · rename_i hc
      injection hv with hv
      subst hv
      simp only[Aw.den,undef]
      rw[Array.eq_empty_of_size_eq_zero hc]
    · cases hv
  · cases hv
def Pq(S:Hw)(ρ:Et)(B:Nat)(fr:Nat→SR)(a:Act)(xs:Array Operand):Prop:= ∀t,Operand.tmp t∈xs→a.tmps.getD t undef=(fr t).den S ρ B
theorem Hx{fr:Nat→SR}{a:Act}{xs:Array Operand}{B:Nat}(ha:Pq S ρ B fr a xs){x:Operand}(hx:x∈xs){r:SR}(hr:Ua fr x=some r):a.eval x=r.den S ρ B:=by
  cases x with
  | tmp t=>simp only[Ua,Option.some.injEq] at hr;subst hr;exact ha t hx
  | const v=>
    simp only[Ua,Option.map_eq_some_iff] at hr
    obtain ⟨l,hl,rfl⟩:=hr
    simp only[Act.eval,Aw.sr,SR.den,SV.den]
    exact (Sn hl).symm
  | global g=>simp only[Ua,Option.some.injEq] at hr;subst hr;simp[Act.eval,SR.den,SV.den,Aw.den,Cw,Cl.blk,Cl.off,T.I]
  | func f=>simp only[Ua,Option.some.injEq] at hr;subst hr;simp[Act.eval,SR.den,SV.den,Aw.den]
theorem Dp{fr:Nat→SR}{a:Act}{xs:Array Operand}{B:Nat}(ha:Pq S ρ B fr a xs){x:Operand}(hx:x∈xs){l:Aw}(hl:Vy fr x=some l):a.eval x=l.den S ρ B:=by
  unfold Vy at hl
  split at hl
  · rename_i l' hr
    injection hl with hl
    subst hl
    exact Hx ha hx hr
  · cases hl
theorem Gs{fr:List SR}(hf: ∀x∈fr,x.wf S ρ)(t:Nat):(Do fr t).wf S ρ:=by
  unfold Do
  rw[List.getD_eq_getElem?_getD]
  cases ht:fr[t]? with
  | none=>trivial
  | some x=>exact hf x (List.mem_of_getElem? ht)
theorem Nu{fr:Nat→SR}(hf: ∀t,(fr t).wf S ρ){x:Operand}{r:SR}(hr:Ua fr x=some r):r.wf S ρ:=by
  cases x with
  | tmp t=>simp only[Ua,Option.some.injEq] at hr;subst hr;exact hf t
  | const v=>
    simp only[Ua,Option.map_eq_some_iff] at hr
    obtain ⟨l,hl,rfl⟩:=hr
    trivial
  | global g=>simp only[Ua,Option.some.injEq] at hr;subst hr;trivial
  | func f=>simp only[Ua,Option.some.injEq] at hr;subst hr;trivial
end
end
end Go.Proofs.YtljjbikbfeigdaaGreatDoor
namespace Go.Proofs.YtljjbikbfeigdaaGreatDoor
noncomputable section
open Go
section
variable {S:Hw} {ρ:Et} {w0 w:World} {h:Hp} {P:Program} {B:Nat}
theorem Qd{t:T}(h:Dx S ρ (needs [t])):t.B S ρ=true:=(Ag.1 (Fu h)).1
theorem jhr{t:TypeId}{a:T}(h:Jv P t (.bool a)=true):P.underlying t=some .bool:=by
  unfold Jv at h
  cases hu:P.underlying t with
  | none=>simp[hu] at h
  | some d=>cases d<;>simp[hu] at h;rfl
theorem ji8{t:TypeId}(h:Jv P t .nilI=true): ∃ms,P.underlying t=some (.interface ms):=by
  unfold Jv at h
  cases hu:P.underlying t with
  | none=>simp[hu] at h
  | some d=>cases d<;>simp[hu] at h;exact ⟨_,rfl⟩
theorem je4{t u:TypeId}{x:Aw}(h:Jv P t (.iface u x)=true): ∃ms,P.underlying t=some (.interface ms):=by
  unfold Jv at h
  cases hu:P.underlying t with
  | none=>simp[hu] at h
  | some d=>cases d<;>simp[hu] at h;exact ⟨_,rfl⟩
theorem jj3{t:TypeId}(h:Jv P t .nilp=true): ∃e,P.underlying t=some (.pointer e):=by
  unfold Jv at h
  cases hu:P.underlying t with
  | none=>simp[hu] at h
  | some d=>cases d<;>simp[hu] at h;exact ⟨_,rfl⟩
theorem jms{t:TypeId}{r:Cl}{s:Nat}{d:T}(h:Jv P t (.ptr r s d)=true): ∃e,P.underlying t=some (.pointer e):=by
  unfold Jv at h
  cases hu:P.underlying t with
  | none=>simp[hu] at h
  | some d=>cases d<;>simp[hu] at h;exact ⟨_,rfl⟩
theorem Qj{op:BinOp}{t:TypeId}{X Y:Operand}(h:(Kx X||Kx Y)=true):(eqGuard op t X Y .nilIface .nilIface).run P w=.ok () w:=by
  unfold eqGuard
  cases X<;>cases Y<;>simp_all [Kx]<;>cases op<;>simp
theorem jc6{t:TypeId}{ms:Array (String×TypeId)}(hd:P.underlying t=some (.interface ms))(d:Nat):(Op.equalIn (d+1) t .nilIface .nilIface).run P w=.ok true w:=by
  simp[Op.equalIn,run_underlying hd]
theorem Tw{t:TypeId}{ms:Array (String×TypeId)}(hd:P.underlying t=some (.interface ms)):(Op.equal t .nilIface .nilIface).run P w=.ok true w:=jc6 hd 9999
theorem Sd{t u:TypeId}{x:Value}{ms:Array (String×TypeId)}(hd:P.underlying t=some (.interface ms))(d:Nat):(Op.equalIn (d+1) t (.iface u x) .nilIface).run P w=.ok false w:=by
  simp[Op.equalIn,run_underlying hd]
theorem Np{t u:TypeId}{x:Value}{ms:Array (String×TypeId)}(hd:P.underlying t=some (.interface ms)):(Op.equal t (.iface u x) .nilIface).run P w=.ok false w:=Sd hd 9999
theorem jc3{t e:TypeId}{x:Option Addr}(hd:P.underlying t=some (.pointer e))(d:Nat):(Op.equalIn (d+1) t (.pointer x) (.pointer none)).run P w=.ok x.isNone w:=by
  cases x<;>simp[Op.equalIn,run_underlying hd]
theorem Mj{t e:TypeId}{x:Option Addr}(hd:P.underlying t=some (.pointer e)):(Op.equal t (.pointer x) (.pointer none)).run P w=.ok x.isNone w:=jc3 hd 9999
theorem Vx{k:IntKind}{c:List T}{s:T}(hm:Dx S ρ (c++(j0t k s).1)):Dx S ρ c∧(j0t k s).2.I S ρ=k.wrap (s.I S ρ):=by
  obtain ⟨m1,m2⟩:=Co.1 hm
  refine ⟨m1,?_⟩
  unfold j0t at m2⊢
  split
  · have m2:=Fu m2
    have b1:=(Ag.1 m2).1
    have b2:=(Ag.1 (Ag.1 m2).2).1
    rw[Sh] at b1 b2
    have b1:=of_decide_eq_true b1
    have b2:=of_decide_eq_true b2
    simp only[T.I] at b1 b2
    show s.I S ρ=_
    rw[IntKind.wrap_i64];omega
  · exact j15 _ _
theorem jj9{k:IntKind}{c d:List T}{s:T}{l:Aw}(h:jh7 k c s=some (d,l))(hm:Dx S ρ d):Dx S ρ c∧ ∃u:T,l=.int k u∧u.I S ρ=k.wrap (s.I S ρ):=by
  unfold jh7 at h
  simp only[Option.some.injEq,Prod.mk.injEq] at h
  obtain ⟨rfl,rfl⟩:=h
  obtain ⟨h1,h2⟩:=Vx hm
  exact ⟨h1,_,rfl,h2⟩
set_option maxHeartbeats 1000000 in
theorem qdv{op:BinOp}{t:TypeId}{X Y:Operand}{x y l:Aw}{c:List T}(ht:Jv P t x=true)(hb:j4s op x y (Kx X) (Kx Y)=some (c,l))(hm:Dx S ρ c):
    (do eqGuard op t X Y (x.den S ρ B) (y.den S ρ B);binOp op t (x.den S ρ B) (y.den S ρ B):Sem Value).run P w=.ok (l.den S ρ B) w:=by
  unfold j4s at hb
  split at hb
  · rename_i k a k' b
    obtain ⟨hm,u,rfl,hu⟩:=jj9 hb hm
    have h1:=Qd hm
    rw[Sh,decide_eq_true_eq] at h1
    simp only[T.I] at h1
    have h2: ¬(b.I S ρ<0):=by omega
    simp[eqGuard,binOp,Aw.den,Op.shift,h2,hu,j6g]
  · rename_i k a k' b
    simp only[Option.some.injEq,Prod.mk.injEq] at hb
    obtain ⟨rfl,rfl⟩:=hb
    have h1:=Qd hm
    rw[Sh,decide_eq_true_eq] at h1
    simp only[T.I] at h1
    have h2: ¬(b.I S ρ<0):=by omega
    simp[eqGuard,binOp,Aw.den,Op.shift,h2,j63]
  · rename_i k a k' b hne1 hne2
    split at hb
    · cases hb
    · rename_i hk
      have hk:k=k':=by simpa using hk
      subst hk
      split at hb<;>(try simp only[jh7,Option.some.injEq,Prod.mk.injEq] at hb)<;>(try (obtain ⟨rfl,rfl⟩:=hb))
      · simp[eqGuard,binOp,Aw.den,Op.intArith,(Vx hm).2,Dg]
      · simp[eqGuard,binOp,Aw.den,Op.intArith,(Vx hm).2,jdy]
      · simp[eqGuard,binOp,Aw.den,Op.intArith,(Vx hm).2,Qu]
      · have h1:=Qd (Vx hm).1
        rw[Qe,Zc,Bool.not_eq_true'] at h1
        have h2:=of_decide_eq_false h1
        simp only[T.I] at h2
        simp[eqGuard,binOp,Aw.den,Op.intDiv,h2,(Vx hm).2,jwm]
      · have h1:=Qd hm
        rw[Qe,Zc,Bool.not_eq_true'] at h1
        have h2:=of_decide_eq_false h1
        simp only[T.I] at h2
        simp[eqGuard,binOp,Aw.den,Op.intDiv,h2,jyv]
      · simp[eqGuard,binOp,Aw.den,Op.intBits,Tz,Dj]
      · simp[eqGuard,binOp,Aw.den,Op.intBits,Tz,Dj]
      · simp[eqGuard,binOp,Aw.den,Op.intBits,Tz,Dj]
      · simp[eqGuard,binOp,Aw.den,Op.intBits,Tz,Dj]
      · simp[eqGuard,binOp,Aw.den,Op.intCmp,Zc];rfl
      · simp[eqGuard,binOp,Aw.den,Op.intCmp,Zc,Qe];rfl
      · simp[eqGuard,binOp,Aw.den,Op.intCmp,jgq]
      · simp[eqGuard,binOp,Aw.den,Op.intCmp,Sh]
      · simp[eqGuard,binOp,Aw.den,Op.intCmp,jgq]
      · simp[eqGuard,binOp,Aw.den,Op.intCmp,Sh]
  · rename_i a b
    simp only[Option.some.injEq,Prod.mk.injEq] at hb
    obtain ⟨rfl,rfl⟩:=hb
    obtain hd:=jhr ht
    simp[eqGuard,binOp,Aw.den,run_equal_bool w t _ _ hd,jl9]
  · rename_i a b
    simp only[Option.some.injEq,Prod.mk.injEq] at hb
    obtain ⟨rfl,rfl⟩:=hb
    obtain hd:=jhr ht
    simp[eqGuard,binOp,Aw.den,run_equal_bool w t _ _ hd,jl9,Qe]
  · split at hb
    · rename_i hc
      simp only[Option.some.injEq,Prod.mk.injEq] at hb
      obtain ⟨rfl,rfl⟩:=hb
      obtain ⟨ms,hd⟩:=ji8 ht
      simp[binOp,Aw.den,Qj hc,Tw hd,T.B]
    · cases hb
  · split at hb
    · rename_i hc
      simp only[Option.some.injEq,Prod.mk.injEq] at hb
      obtain ⟨rfl,rfl⟩:=hb
      obtain ⟨ms,hd⟩:=ji8 ht
      simp[binOp,Aw.den,Qj hc,Tw hd,T.B]
    · cases hb
  · simp only[Option.some.injEq,Prod.mk.injEq] at hb
    obtain ⟨rfl,rfl⟩:=hb
    obtain ⟨ms,hd⟩:=je4 ht
    simp[eqGuard,binOp,Aw.den,Np hd,T.B]
  · simp only[Option.some.injEq,Prod.mk.injEq] at hb
    obtain ⟨rfl,rfl⟩:=hb
    obtain ⟨ms,hd⟩:=je4 ht
    simp[eqGuard,binOp,Aw.den,Np hd,T.B]
  · simp only[Option.some.injEq,Prod.mk.injEq] at hb
    obtain ⟨rfl,rfl⟩:=hb
    obtain ⟨ms,hd⟩:=jj3 ht
    simp[eqGuard,binOp,Aw.den,Mj hd,T.B]
  · simp only[Option.some.injEq,Prod.mk.injEq] at hb
    obtain ⟨rfl,rfl⟩:=hb
    obtain ⟨ms,hd⟩:=jj3 ht
    simp[eqGuard,binOp,Aw.den,Mj hd,T.B]
  · simp only[Option.some.injEq,Prod.mk.injEq] at hb
    obtain ⟨rfl,rfl⟩:=hb
    obtain ⟨ms,hd⟩:=jms ht
    simp[eqGuard,binOp,Aw.den,Mj hd,T.B]
  · simp only[Option.some.injEq,Prod.mk.injEq] at hb
    obtain ⟨rfl,rfl⟩:=hb
    obtain ⟨ms,hd⟩:=jms ht
    simp[eqGuard,binOp,Aw.den,Mj hd,T.B]
  · cases hb
theorem Ha{t:TypeId}{n:Nat}(h:Kf P t=some n):(sizeOf t).run P w=.ok n w:=by
  unfold Kf at h
  cases hi:P.info? t with
  | none=>simp[hi] at h
  | some i=>simp[hi] at h;subst h;simp[sizeOf,typeInfo,hi]
theorem Mt{t:TypeId}{d:TypeDesc}(hd:P.underlying t=some d):(isAgg t).run P w=.ok (Vn P t) w:=by
  unfold isAgg Vn
  simp only[Sem.run_bind,run_underlying hd,Result.andThen_ok,hd]
  cases d<;>rfl
theorem Ho(b o n:Nat):(⟨b,o,none⟩:Addr).add n=⟨b,o+n,none⟩:=Addr.add_lit b o n
theorem Xq{d i:Int}(z:Nat)(hd:0≤d)(hi:0≤i):(d+i*z).toNat=d.toNat+i.toNat*z:=by
  obtain ⟨a,rfl⟩:=Int.eq_ofNat_of_zero_le hd
  obtain ⟨b,rfl⟩:=Int.eq_ofNat_of_zero_le hi
  have h:(b:Int)*(z:Int)=((b*z:Nat):Int):=(Int.natCast_mul b z).symm
  simp only[h,Int.toNat_natCast]
  omega
theorem jy6{a b c:T}(h:Dx S ρ (needs [a,b,c])):a.B S ρ=true∧b.B S ρ=true∧c.B S ρ=true:=by
  have h':=Fu h
  exact ⟨(Ag.1 h').1,(Ag.1 (Ag.1 h').2).1,(Ag.1 (Ag.1 (Ag.1 h').2).2).1⟩
theorem Fg{a b:T}(h:(Ek a b).B S ρ=true):a.I S ρ≤b.I S ρ:=by rw[Sh,decide_eq_true_eq] at h;exact h
theorem jmz{a b:T}(h:(jd5 a b).B S ρ=true):a.I S ρ<b.I S ρ:=by rw[jgq,decide_eq_true_eq] at h;exact h
theorem j1p{t:TypeId}{x i l:Aw}{c:List T}(hb:jkz P t x i=some (c,l))(hm:Dx S ρ c):(Instr.indexAt t (x.den S ρ B) (i.den S ρ B)).run P w=.ok (l.den S ρ B) w:=by
  unfold jkz at hb
  split at hb
  · rename_i k ti
    split at hb
    · rename_i n e r s d hu
      split at hb
      · rename_i z hz
        split at hb
        · rename_i q hqv
          have hqv:=Cy hqv
          subst hqv
          split at hb
          · rename_i hq
            simp only[Option.some.injEq,Prod.mk.injEq] at hb
            obtain ⟨rfl,rfl⟩:=hb
            simp[Instr.indexAt,Aw.den,asIntOf,run_underlying hu,Instr.sureAddr,T.I,hq,Ha hz,Cw,Ho]
          · cases hb
        · simp only[Option.some.injEq,Prod.mk.injEq] at hb
          obtain ⟨rfl,rfl⟩:=hb
          obtain ⟨h1,h2,h3⟩:=jy6 hm
          have h1:=Fg h1
          have h2:=jmz h2
          have h3:=Fg h3
          simp only[T.I] at h1 h2 h3
          simp[Instr.indexAt,Aw.den,asIntOf,run_underlying hu,Instr.sureAddr,T.I,h1,h2,Ha hz,Cw,Ho,Dg,Qu,Xq z h3 h1]
      · cases hb
    · rename_i e r s d ln cp hu
      split at hb
      · rename_i z hz
        split at hb
        · rename_i q hqv
          have hqv:=Cy hqv
          subst hqv
          split at hb
          · rename_i hq
            simp only[Option.some.injEq,Prod.mk.injEq] at hb
            obtain ⟨rfl,rfl⟩:=hb
            have h1:=jmz (Qd hm)
            simp only[T.I] at h1
            have hl:((ln.I S ρ).toNat:Int)=ln.I S ρ:=by omega
            simp only[Instr.indexAt,Aw.den,asIntOf,run_underlying hu,T.I,Sem.run_bind,Sem.run_pure,Result.andThen_ok,hl]
            rw[if_pos ⟨hq,h1⟩]
            simp[Ha hz,Cw,Ho]
          · cases hb
        · simp only[Option.some.injEq,Prod.mk.injEq] at hb
          obtain ⟨rfl,rfl⟩:=hb
          obtain ⟨h1,h2,h3⟩:=jy6 hm
          have h1:=Fg h1
          have h2:=jmz h2
          have h3:=Fg h3
          simp only[T.I] at h1 h3
          have hl:((ln.I S ρ).toNat:Int)=ln.I S ρ:=by omega
          simp only[Instr.indexAt,Aw.den,asIntOf,run_underlying hu,T.I,Sem.run_bind,Sem.run_pure,Result.andThen_ok,hl]
          rw[if_pos ⟨h1,h2⟩]
          simp[Ha hz,Cw,Ho,Dg,Qu,T.I,Xq z h3 h1]
      · cases hb
    · cases hb
  · cases hb
end
end
end Go.Proofs.YtljjbikbfeigdaaGreatDoor
namespace Go.Proofs.YtljjbikbfeigdaaGreatDoor
noncomputable section
open Go
section
variable {S:Hw} {ρ:Et} {w0 w:World} {h:Hp} {P:Program} {B:Nat}
theorem je7(isS:Bool)(len cap:Nat)(lo hi mx:Option Value)(l h m:Int)
    (hm:(mx=none∧m=cap)∨(∃k,mx=some (.int k m)∧0≤m∧m≤cap))
    (hh:(hi=none∧mx=none∧h=len)∨(∃k,hi=some (.int k h)∧0≤h∧h≤m))
    (hl:(lo=none∧l=0)∨(∃k,lo=some (.int k l)∧0≤l∧l≤h)):
    (Instr.sliceBounds isS len cap lo hi mx).run P w=.ok (l.toNat,h.toNat,m.toNat) w:=by
  have hb: ∀(k:IntKind) (x:Int) (y:Nat) (code:BoundsCode),0≤x→x≤y→(Instr.sliceBound (.int k x) y code).run P w=.ok x.toNat w:=by
    intro k x y code h0 h1
    simp[Instr.sliceBound,asIntOf,h0,h1]
  rcases hm with ⟨rfl,rfl⟩|⟨k,rfl,hm0,hm1⟩
  · rcases hh with ⟨rfl,_,rfl⟩|⟨k,rfl,hh0,hh1⟩
    · rcases hl with ⟨rfl,rfl⟩|⟨k,rfl,hl0,hl1⟩
      · simp[Instr.sliceBounds]
      · simp[Instr.sliceBounds,hb _ _ _ _ hl0 hl1]
    · rcases hl with ⟨rfl,rfl⟩|⟨k',rfl,hl0,hl1⟩
      · simp[Instr.sliceBounds,hb _ _ _ _ hh0 hh1]
      · simp[Instr.sliceBounds,hb _ _ _ _ hh0 hh1,hb k' l h.toNat _ hl0 (by omega)]
  · rcases hh with ⟨_,h1,_⟩|⟨k1,rfl,hh0,hh1⟩
    · cases h1
    · rcases hl with ⟨rfl,rfl⟩|⟨k',rfl,hl0,hl1⟩
      · simp[Instr.sliceBounds,hb _ _ _ _ hm0 hm1,hb k1 h m.toNat _ hh0 (by omega)]
      · simp[Instr.sliceBounds,hb _ _ _ _ hm0 hm1,hb k1 h m.toNat _ hh0 (by omega),hb k' l h.toNat _ hl0 (by omega)]
theorem Nd{fr:Nat→SR}{a:Act}{xs:Array Operand}(ha:Pq S ρ B fr a xs){o:Option Operand}(ho: ∀x,o=some x→x∈xs){d t:T}(hb:Ut fr o d=some t):
    (o=none∧t=d)∨(∃x k,o=some x∧a.eval x=.int k (t.I S ρ)):=by
  unfold Ut at hb
  split at hb
  · injection hb with hb;exact .inl ⟨rfl,hb.symm⟩
  · split at hb
    · rename_i k t' he
      injection hb with hb
      subst hb
      exact .inr ⟨_,k,rfl,Dp ha (ho _ rfl) he⟩
    · cases hb
theorem jxn(m l d r:T)(z:Nat)(hn:(Ur m l r).B S ρ=true):(jgn m l z d r).I S ρ=if l.I S ρ=0 then d.I S ρ else if m.I S ρ=l.I S ρ then d.I S ρ else d.I S ρ+l.I S ρ*z:=by
  unfold Ur at hn
  unfold jgn
  split
  · rename_i hz;rw[Qr] at hz;subst hz;simp[T.I]
  · rename_i hz
    simp only[hz] at hn
    split
    · rename_i hr
      simp only[hr,jgq,decide_eq_true_eq] at hn
      rw[Dg,Qu]
      by_cases h0:l.I S ρ=0
      · simp[h0,T.I]
      · rw[if_neg h0,if_neg (by omega)];simp[T.I]
    · rw[jk6,Zc,Dg,Qu]
      by_cases h0:l.I S ρ=0
      · simp[h0,T.I]
      · simp[h0,T.I]
theorem jcp{r:Cl}{s:Nat}{d m l q:T}{z:Nat}(hd:0≤d.I S ρ)(hl:0≤l.I S ρ)(hm:0≤m.I S ρ)(hn:(Ur m l q).B S ρ=true):
    (if (m.I S ρ).toNat=(l.I S ρ).toNat then Cw S ρ B r s d else (Cw S ρ B r s d).add ((l.I S ρ).toNat*z))=Cw S ρ B r s (jgn m l z d q):=by
  simp only[Cw,jxn m l d q z hn,Ho]
  by_cases h0:l.I S ρ=0
  · simp[h0]
  · by_cases h1:m.I S ρ=l.I S ρ
    · simp[h1]
    · rw[if_neg h0,if_neg h1,if_neg (by omega),Xq z hd hl]
      congr 1;omega
set_option maxHeartbeats 1000000 in
theorem jug(l:Aw):(j19 l).den S ρ B=l.den S ρ B:=by
  unfold j19
  split
  · simp only[Aw.den,Cw,T.I]
    congr 3
    simp
    omega
  · rfl
theorem jzt{fr:Nat→SR}{a:Act}{xs:Array Operand}(ha:Pq S ρ B fr a xs){t:TypeId}{x l:Aw}{lo hi mx:Option Operand}{c:List T}(hlo: ∀x,lo=some x→x∈xs)(hhi: ∀x,hi=some x→x∈xs)(hmx: ∀x,mx=some x→x∈xs)
    (hb:jju P t x fr lo hi mx=some (c,l))(hm:Dx S ρ c):(Instr.sliceAt t (x.den S ρ B) (lo.map a.eval) (hi.map a.eval) (mx.map a.eval)).run P w=.ok (l.den S ρ B) w:=by
  unfold jju at hb
  split at hb
  · rename_i e r s d len cap hu
    split at hb
    · rename_i z tm tl hz hbm hbl
      split at hb
      · rename_i th hbh
        split at hb
        · cases hb
        · rename_i hno
          simp only[Option.some.injEq,Prod.mk.injEq] at hb
          obtain ⟨rfl,rfl⟩:=hb
          have hn:=Fu hm
          simp only[Ag] at hn
          obtain ⟨a1,a2,a3,a4,a5,a6,a7,a8,a9,a10,-⟩:=hn
          have a1:=Fg a1;have a2:=Fg a2;have a3:=Fg a3;have a4:=Fg a4;have a5:=Fg a5;have a6:=Fg a6;have a7:=Fg a7;have a8:=Fg a8;have a9:=Fg a9
          simp only[T.I] at a1 a3 a5 a7 a8 a9
          have hbd:(Instr.sliceBounds true (len.I S ρ).toNat (cap.I S ρ).toNat (lo.map a.eval) (hi.map a.eval) (mx.map a.eval)).run P w=.ok ((tl.I S ρ).toNat,(th.I S ρ).toNat,(tm.I S ρ).toNat) w:=by
            apply je7
            · rcases Nd ha hmx hbm with ⟨h1,h2⟩|⟨x,k,h1,h2⟩
              · left;subst h1 h2;exact ⟨rfl,by omega⟩
              · right;subst h1;exact ⟨k,by simp[h2],a1,by omega⟩
            · rcases Nd ha hhi hbh with ⟨h1,h2⟩|⟨x,k,h1,h2⟩
              · left;subst h1 h2
                refine ⟨rfl,?_,by omega⟩
                cases mx with
                | none=>rfl
                | some y=>simp at hno
              · right;subst h1
                refine ⟨k,by simp[h2],a3,?_⟩
                simpa using a4
            · rcases Nd ha hlo hbl with ⟨h1,h2⟩|⟨x,k,h1,h2⟩
              · left;subst h1 h2;exact ⟨rfl,by simp[T.I]⟩
              · right;subst h1;exact ⟨k,by simp[h2],a5,a6⟩
          have hmv:=jcp (B:=B) (r:=r) (s:=s) (z:=z) a7 a5 a1 a10
          have e1:((th.I S ρ).toNat-(tl.I S ρ).toNat)=(th.I S ρ-tl.I S ρ).toNat:=by omega
          have e2:((tm.I S ρ).toNat-(tl.I S ρ).toNat)=(tm.I S ρ-tl.I S ρ).toNat:=by omega
          simp only[Instr.sliceAt,Instr.slice,Aw.den,run_underlying hu,Sem.run_bind,Sem.run_pure,Result.andThen_ok,hbd,Ha hz,jdy]
          rw[←hmv,e1,e2]
          split<;>rfl
      · cases hb
    · cases hb
  · rename_i n e r s d hu
    split at hb
    · rename_i z tm tl hz hbm hbl
      split at hb
      · rename_i th hbh
        split at hb
        · cases hb
        · rename_i hno
          simp only[Option.some.injEq,Prod.mk.injEq] at hb
          obtain ⟨rfl,rfl⟩:=hb
          have hn:=Fu hm
          simp only[Ag] at hn
          obtain ⟨a1,a2,a3,a4,a5,a6,a7,a10,-⟩:=hn
          have a1:=Fg a1;have a2:=Fg a2;have a3:=Fg a3;have a4:=Fg a4;have a5:=Fg a5;have a6:=Fg a6;have a7:=Fg a7
          simp only[T.I] at a1 a2 a3 a5 a7
          have hbd:(Instr.sliceBounds false n n (lo.map a.eval) (hi.map a.eval) (mx.map a.eval)).run P w=.ok ((tl.I S ρ).toNat,(th.I S ρ).toNat,(tm.I S ρ).toNat) w:=by
            apply je7
            · rcases Nd ha hmx hbm with ⟨h1,h2⟩|⟨x,k,h1,h2⟩
              · left;subst h1 h2;exact ⟨rfl,by simp[T.I]⟩
              · right;subst h1;exact ⟨k,by simp[h2],a1,by omega⟩
            · rcases Nd ha hhi hbh with ⟨h1,h2⟩|⟨x,k,h1,h2⟩
              · left;subst h1 h2
                refine ⟨rfl,?_,by simp[T.I]⟩
                cases mx with
                | none=>rfl
                | some y=>simp at hno
              · right;subst h1
                exact ⟨k,by simp[h2],a3,a4⟩
            · rcases Nd ha hlo hbl with ⟨h1,h2⟩|⟨x,k,h1,h2⟩
              · left;subst h1 h2;exact ⟨rfl,by simp[T.I]⟩
              · right;subst h1;exact ⟨k,by simp[h2],a5,a6⟩
          have hmv:=jcp (B:=B) (r:=r) (s:=s) (z:=z) a7 a5 a1 a10
          have e1:((th.I S ρ).toNat-(tl.I S ρ).toNat)=(th.I S ρ-tl.I S ρ).toNat:=by omega
          have e2:((tm.I S ρ).toNat-(tl.I S ρ).toNat)=(tm.I S ρ-tl.I S ρ).toNat:=by omega
          simp only[Instr.sliceAt,Aw.den,Instr.sureAddr,run_underlying hu,Sem.run_bind,Sem.run_pure,Result.andThen_ok,hbd,Ha hz,jdy]
          rw[←hmv,e1,e2]
      · cases hb
    · cases hb
  · cases hb
theorem jlb(hh:Cv S ρ w0 h w){t:TypeId}(hu: ∃d,P.underlying t=some d){p:Aw}{c:List T}{x:SV}(hb:jnv P t p h=some (c,x))(hm:Dx S ρ c):
    (Instr.loadAt t (p.den S ρ w0.heap.size)).run P w=.ok (x.den S ρ w0.heap.size) w∧x.wf S ρ:=by
  obtain ⟨ud,hu⟩:=hu
  unfold jnv at hb
  split at hb
  · rename_i r s d
    split at hb
    · rename_i b hf
      have hmem:=Gw hf
      have hrw:=hh.rw_ _ hmem
      have hoff:=hh.off _ hmem
      have hwf:=hh.wf _ hmem
      simp only at hrw hoff hwf
      split at hb
      · rename_i hagg
        split at hb
        · rename_i n hn
          cases hl:Rm b.segs s d n with
          | none=>simp[hl] at hb
          | some cg=>
            obtain ⟨c',g⟩:=cg
            simp[hl] at hb
            obtain ⟨rfl,rfl⟩:=hb
            obtain ⟨h1,h2,h3⟩:=Qw (B:=w0.heap.size) hwf hl hm
            refine ⟨?_,h3⟩
            have hl2:=run_loadCells_list (P:=P) w (Cw S ρ w0.heap.size r s d) (Av S ρ w0.heap.size g) (fun j v hv=>by
              rw[Cw,Ho,cell_of_row w _ _ _ _ _ hrw,hoff,Nat.zero_add,List.getElem?_toArray]
              rw[h1,List.getElem?_take] at hv
              split at hv
              · rw[List.getElem?_drop] at hv;exact hv
              · cases hv)
            rw[h2] at hl2
            simp only[Instr.loadAt,Aw.den,Instr.sureAddr,loadVar,Sem.run_bind,Sem.run_pure,Result.andThen_ok,Mt hu,hagg,if_true,Ha hn,hl2,SV.den]
        · cases hb
      · rename_i hagg
        cases hl:Vj b.segs s d with
        | none=>simp[hl] at hb
        | some cg=>
          obtain ⟨c',g⟩:=cg
          simp[hl] at hb
          obtain ⟨rfl,rfl⟩:=hb
          have h1:=Xa (B:=w0.heap.size) hwf hl hm
          refine ⟨?_,trivial⟩
          have hc:w.cell? (Cw S ρ w0.heap.size r s d)=some (g.den S ρ w0.heap.size):=by
            rw[Cw,cell_of_row w _ _ _ _ _ hrw,hoff,Nat.zero_add,List.getElem?_toArray];exact h1
          simp only[Instr.loadAt,Aw.den,Instr.sureAddr,loadVar,Sem.run_bind,Sem.run_pure,Result.andThen_ok,Mt hu,hagg,Bool.false_eq_true,if_false,run_load,hc,SV.den]
    · split at hb
      · rename_i k a hf
        split at hb
        · rename_i hagg
          split at hb
          · rename_i n hn
            simp only[Option.some.injEq,Prod.mk.injEq] at hb
            obtain ⟨rfl,rfl⟩:=hb
            have hmn:=Fu hm
            simp only[Ag] at hmn
            obtain ⟨b1,b2,-⟩:=hmn
            have b1:=Fg b1;have b2:=Fg b2
            simp only[T.I,Dg] at b1 b2
            have hlen:(List.take n ((a.A S ρ).drop (s+(d.I S ρ).toNat))).length=n:=by simp;omega
            have hcut:(T.cut a (Ej (.lit s) d) (.lit n)).A S ρ=List.take n ((a.A S ρ).drop (s+(d.I S ρ).toNat)):=by
              simp only[T.A,Dg,T.I]
              rw[show ((s:Int)+d.I S ρ).toNat=s+(d.I S ρ).toNat from by omega];simp
            have hden:Av S ρ w0.heap.size [.arr k (.cut a (Ej (.lit s) d) (.lit n)) n]=(List.take n ((a.A S ρ).drop (s+(d.I S ρ).toNat))).map (Value.int k):=by
              simp only[Av,List.flatMap_cons,List.flatMap_nil,List.append_nil,Cp.den,hcut]
            have h2:(Av S ρ w0.heap.size [.arr k (.cut a (Ej (.lit s) d) (.lit n)) n]).length=n:=by rw[hden];simpa using hlen
            have hl2:=run_loadCells_list (P:=P) w (Cw S ρ w0.heap.size r s d) (Av S ρ w0.heap.size [.arr k (.cut a (Ej (.lit s) d) (.lit n)) n]) (fun j v hj=>by
              rw[hden,List.getElem?_map,Option.map_eq_some_iff] at hj
              obtain ⟨x,hx,rfl⟩:=hj
              have hjn:j<n:=by rw[←hlen];exact (List.getElem?_eq_some_iff.1 hx).1
              rw[List.getElem?_take,if_pos hjn,List.getElem?_drop] at hx
              have:=hh.ro _ (Jo hf) (s+(d.I S ρ).toNat+j) x hx
              simp only[Cw,Ho]
              rw[show r.off ρ+s+(d.I S ρ).toNat+j=r.off ρ+(s+(d.I S ρ).toNat+j) from by omega]
              exact this)
            rw[h2] at hl2
            refine ⟨?_,?_⟩
            · simp only[Instr.loadAt,Aw.den,Instr.sureAddr,loadVar,Sem.run_bind,Sem.run_pure,Result.andThen_ok,Mt hu,hagg,if_true,Ha hn,hl2,SV.den]
            · intro g hg
              simp only[List.mem_singleton] at hg
              subst hg
              show ((T.cut a (Ej (.lit s) d) (.lit n)).A S ρ).length=n
              rw[hcut];exact hlen
          · cases hb
        · rename_i hagg
          simp only[Option.some.injEq,Prod.mk.injEq] at hb
          obtain ⟨rfl,rfl⟩:=hb
          obtain ⟨hd,hi⟩:=Kc hm
          simp only[Dg,T.I] at hi
          have hro:=hh.ro _ (Jo hf) (s+(d.I S ρ).toNat) ((a.A S ρ).getD (s+(d.I S ρ).toNat) 0) (by simp only;rw[List.getD_eq_getElem?_getD,List.getElem?_eq_getElem (by omega)];rfl)
          refine ⟨?_,trivial⟩
          have hc:w.cell? (Cw S ρ w0.heap.size r s d)=some (.int k ((a.A S ρ).getD (s+(d.I S ρ).toNat) 0)):=by
            rw[Cw,Nat.add_assoc];exact hro
          simp only[Instr.loadAt,Aw.den,Instr.sureAddr,loadVar,Sem.run_bind,Sem.run_pure,Result.andThen_ok,Mt hu,hagg,Bool.false_eq_true,if_false,run_load,hc,SV.den,Sv,Dg,T.I]
          rw[show ((s:Int)+d.I S ρ).toNat=s+(d.I S ρ).toNat from by omega]
      · cases hb
  · cases hb
theorem jf3(hh:Cv S ρ w0 h w){l:Aw}{n:Nat}{c:List T}{g:List Cp}(hb:jp1 h l n=some (c,g))(hm:Dx S ρ c):
    ∃r s d ln cp,l=.sl r s d ln cp∧(Av S ρ w0.heap.size g).length=n∧Cm S ρ g∧
      ∀j v,(Av S ρ w0.heap.size g)[j]? =some v→w.cell? ((Cw S ρ w0.heap.size r s d).add j)=some v:=by
  unfold jp1 at hb
  split at hb
  · rename_i r s d ln cp
    refine ⟨r,s,d,ln,cp,rfl,?_⟩
    split at hb
    · rename_i b hf
      have hmem:=Gw hf
      have hrw:=hh.rw_ _ hmem
      have hoff:=hh.off _ hmem
      have hwf:=hh.wf _ hmem
      simp only at hrw hoff hwf
      obtain ⟨h1,h2,h3⟩:=Qw (B:=w0.heap.size) hwf hb hm
      refine ⟨h2,h3,fun j v hj=> ?_⟩
      have hjn:j<n:=by rw[←h2];exact (List.getElem?_eq_some_iff.1 hj).1
      simp only[Cw,Ho,hoff,Nat.zero_add]
      rw[cell_of_row w _ _ _ _ _ hrw,List.getElem?_toArray]
      rw[h1,List.getElem?_take,if_pos hjn,List.getElem?_drop] at hj
      rw[←hj]
    · split at hb
      · rename_i k a hf
        simp only[Option.some.injEq,Prod.mk.injEq] at hb
        obtain ⟨rfl,rfl⟩:=hb
        have hn:=Fu hm
        simp only[Ag] at hn
        obtain ⟨b1,b2,-⟩:=hn
        have b1:=Fg b1;have b2:=Fg b2
        simp only[T.I,Dg] at b1 b2
        have hlen:(List.take n ((a.A S ρ).drop (s+(d.I S ρ).toNat))).length=n:=by simp;omega
        have hcut:(T.cut a (Ej (.lit s) d) (.lit n)).A S ρ=List.take n ((a.A S ρ).drop (s+(d.I S ρ).toNat)):=by
          simp only[T.A,Dg,T.I]
          rw[show ((s:Int)+d.I S ρ).toNat=s+(d.I S ρ).toNat from by omega];simp
        have hden:Av S ρ w0.heap.size [.arr k (.cut a (Ej (.lit s) d) (.lit n)) n]=(List.take n ((a.A S ρ).drop (s+(d.I S ρ).toNat))).map (Value.int k):=by
          simp only[Av,List.flatMap_cons,List.flatMap_nil,List.append_nil,Cp.den,hcut]
        refine ⟨by rw[hden];simpa using hlen,?_,fun j v hj=> ?_⟩
        · intro g hg
          simp only[List.mem_singleton] at hg
          subst hg
          show ((T.cut a (Ej (.lit s) d) (.lit n)).A S ρ).length=n
          rw[hcut];exact hlen
        · rw[hden,List.getElem?_map,Option.map_eq_some_iff] at hj
          obtain ⟨x,hx,rfl⟩:=hj
          have hjn:j<n:=by rw[←hlen];exact (List.getElem?_eq_some_iff.1 hx).1
          rw[List.getElem?_take,if_pos hjn,List.getElem?_drop] at hx
          have:=hh.ro _ (Jo hf) (s+(d.I S ρ).toNat+j) x hx
          simp only[Cw,Ho]
          rw[show r.off ρ+s+(d.I S ρ).toNat+j=r.off ρ+(s+(d.I S ρ).toNat+j) from by omega]
          exact this
      · cases hb
  · cases hb
theorem jb7{l:Aw}(h:l.plain=true):(l.den S ρ B).oneCell'=true∧(l.den S ρ B).cells= #[l.den S ρ B]:=by
  cases l<;>first|(cases h;done)|exact ⟨rfl,rfl⟩
theorem jv9{g:Cp}(h:g.plain=true): ∀v∈g.den S ρ B,v.oneCell'=true:=by
  cases g with
  | cells l=>
    intro v hv
    simp only[Cp.den,List.mem_map] at hv
    obtain ⟨x,hx,rfl⟩:=hv
    simp only[Cp.plain,List.all_eq_true] at h
    exact (jb7 (h x hx)).1
  | arr k a n=>
    intro v hv
    simp only[Cp.den,List.mem_map] at hv
    obtain ⟨x,hx,rfl⟩:=hv
    rfl
  | arrD k a=>
    intro v hv
    simp only[Cp.den,List.mem_map] at hv
    obtain ⟨x,hx,rfl⟩:=hv
    rfl
  | bar a n=>
    intro v hv
    simp only[Cp.den,List.mem_map] at hv
    obtain ⟨x,hx,rfl⟩:=hv
    rfl
  | junk n=>cases h
  | tail z n=>cases h
theorem Yd{g:List Cp}(h:g.all Cp.plain=true): ∀v∈Av S ρ B g,v.oneCell'=true:=by
  intro v hv
  simp only[Av,List.mem_flatMap] at hv
  obtain ⟨x,hx,hv⟩:=hv
  exact jv9 (List.all_eq_true.1 h x hx) v hv
theorem jyo(hh:Cv S ρ w0 h w){t:TypeId}{p:Aw}{c:List T}{x:SV}{h':Hp}(hb:jk0 P t p x h=some (c,h'))(hx:x.wf S ρ)(hm:Dx S ρ c):
    ∃w',(Instr.storeAt t (p.den S ρ w0.heap.size) (x.den S ρ w0.heap.size)).run P w=.ok () w'∧Cv S ρ w0 h' w':=by
  unfold jk0 at hb
  split at hb
  · rename_i r s d
    split at hb
    · rename_i b hf
      have hmem:=Gw hf
      have hrw:=hh.rw_ _ hmem
      have hoff:=hh.off _ hmem
      have hwf:=hh.wf _ hmem
      simp only at hrw hoff hwf
      split at hb
      · rename_i l
        split at hb
        · rename_i hc
          obtain ⟨hsz,hpl⟩:=hc
          cases hl:Wk b.segs s d l with
          | none=>simp[hl] at hb
          | some cg=>
            obtain ⟨c',g⟩:=cg
            simp[hl] at hb
            obtain ⟨rfl,rfl⟩:=hb
            obtain ⟨h1,h2,h3⟩:=jfc (B:=w0.heap.size) hwf hl hm
            have hp12:(l.den S ρ w0.heap.size).oneCell'=true∧(l.den S ρ w0.heap.size).cells= #[l.den S ρ w0.heap.size]:=by
              rw[Bool.or_eq_true] at hpl
              rcases hpl with hpl|hpl
              · exact jb7 (S:=S) (ρ:=ρ) (B:=w0.heap.size) hpl
              · unfold j6w at hpl
                split at hpl
                · rename_i n
                  split at hpl
                  · rename_i o ho
                    have hn:=Nat.eq_of_beq_eq_true hpl
                    subst hn
                    rcases hh.own o ho with ⟨h1,_⟩|⟨_,_,h1,_⟩<;>(simp only[Aw.den,h1];exact ⟨rfl,rfl⟩)
                  · cases hpl
                · cases hpl
            obtain ⟨p1,p2⟩:=hp12
            have hst:=run_storeCells_at (P:=P) (r.blk ρ w0.heap.size) (s+(d.I S ρ).toNat) b.ty [l.den S ρ w0.heap.size] 0 _ w hrw (by simp;omega) (by simpa using p1)
            refine ⟨_,?_,hh.upd hf (segs:=g) h2 (w':=w.setRow (r.blk ρ w0.heap.size) (Av S ρ w0.heap.size g).toArray) (setRow_heap w _ _ _ _ _ hrw) (fun i hi=>setRow_other w _ _ _ hi) (by simp) rfl rfl rfl⟩
            simp only[Instr.storeAt,Aw.den,Instr.sureAddr,storeVar,Sem.run_bind,Sem.run_pure,Result.andThen_ok,Ha hsz,SV.den,p2]
            simp only[Cw,hoff,Nat.zero_add,List.size_toArray,List.length_cons,List.length_nil,ne_eq,not_true_eq_false,if_false]
            rw[hst]
            simp only[Nat.add_zero,List.length_cons,List.length_nil]
            rw[h1,List.set_eq_take_append_cons_drop,if_pos h3]
            simp
        · cases hb
      · rename_i g
        split at hb
        · rename_i n hn
          split at hb
          · rename_i hc
            obtain ⟨hsz,hpl⟩:=hc
            cases hl:Nb b.segs s d n g with
            | none=>simp[hl] at hb
            | some cg=>
              obtain ⟨c',g'⟩:=cg
              simp[hl] at hb
              obtain ⟨rfl,rfl⟩:=hb
              have hlen:=Sw (B:=w0.heap.size) hx hn
              obtain ⟨h1,h2,h3⟩:=Oy (B:=w0.heap.size) hwf hx hlen hl hm
              have hst:=run_storeCells_at (P:=P) (r.blk ρ w0.heap.size) (s+(d.I S ρ).toNat) b.ty (Av S ρ w0.heap.size g) 0 _ w hrw (by simp;omega) (Yd hpl)
              refine ⟨_,?_,hh.upd hf (segs:=g') h2 (w':=w.setRow (r.blk ρ w0.heap.size) (Av S ρ w0.heap.size g').toArray) (setRow_heap w _ _ _ _ _ hrw) (fun i hi=>setRow_other w _ _ _ hi) (by simp) rfl rfl rfl⟩
              simp only[Instr.storeAt,Aw.den,Instr.sureAddr,storeVar,Sem.run_bind,Sem.run_pure,Result.andThen_ok,Ha hsz,SV.den,Value.cells]
              simp only[Cw,hoff,Nat.zero_add,List.size_toArray,hlen,ne_eq,not_true_eq_false,if_false]
              rw[hst]
              simp only[Nat.add_zero,hlen]
              rw[h1]
              simp
          · cases hb
        · cases hb
    · cases hb
  · cases hb
end
end
end Go.Proofs.YtljjbikbfeigdaaGreatDoor
