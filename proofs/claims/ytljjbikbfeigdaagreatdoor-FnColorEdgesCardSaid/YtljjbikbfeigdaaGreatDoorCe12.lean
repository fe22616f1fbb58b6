/- Part of the proof of FnColorEdgesCardSaid: Contracts of the encoder: a block. -/
import Derived.Test.YtljjbikbfeigdaaGreatDoorCe11
set_option linter.all false
namespace Go.Proofs.YtljjbikbfeigdaaGreatDoor
noncomputable section
open Go
def jhw(k:Nat)(n:Int)(args:List SR):Bool:=match args[k]? with
  | some (.v (.one (.int _ t)))=>match t.view with
    | .lit m=>decide (m=n)
    | _=>false
  | _=>false
def jzm(p:List SR→Bool)(a b:Ff):Ff:=fun args h=>match p args with
  | true=>a args h
  | false=>b args h
theorem j00{P:Program}{S:Hw}{f:FuncId}{p:List SR→Bool}{a b:Ff}(ha:Dw P S f a)(hb:Dw P S f b):Dw P S f (jzm p a b):=by
  intro ρ w0 w h args r hr
  unfold jzm at hr
  split at hr
  · exact ha ρ w0 w h args r hr
  · exact hb ρ w0 w h args r hr
def ju4:Nat→Bool:=fun _=>false
def jcb(h:Nat):Hg where
  args:=[p0 (.old 0),.v (.one (.int .i64 (.lit h))),.v (.one (.int .i32 (.iv 10)))]
  hp:=eIn
  pre:=Tt 6++Di (.lit 0) (.iv 10) (.lit 240)
  val:=.tup []
  hp':=j01
  post:=jg8 6 (fA (20+h) (.iv 10) z0 z0 z0 s0)
  quiet:=false
def fA3(f:Nat)(x y:T)(a b c:T):T:=.fa f x y z0 z0 a b c (.alit [])
def Du(lo hi:Int)(a:T):T:=.fb 2 (.lit lo) (.lit hi) z0 z0 a (.alit []) (.alit []) (.alit [])
def c89(q:Nat):Hg where
  args:=[p0 (.old 0),p0 (.old 20),.v (.one (.int .i64 (.lit q))),.v (.one (.int .i32 (.iv 3)))]
  hp:={eIn with rw:=hE 0 (.iv 0) (.av 1) (.iv 1) (.iv 2) (.av 2) (.av 3)++ [bB 20 (.av 4)],ro:=[(.glob 5,.u8,cA 44),(.glob 4,.i64,cA 45)]}
  pre:=Tt 1152++Di (.lit (-1024)) (.iv 3) (.lit 1023)++ [.eq (.len (.av 3)) (.lit 128),.eq (.len (.av 4)) (.lit 64),Du 1 255 (.av 3),Du 0 255 (.av 4)]
  val:=.v (.one (.int .i32 (.fi (61+q) z0 z0 z0 z0 (.av 3) (.av 4) (.alit []) (.alit []))))
  hp':={j01 with rw:=hE 100 (.iv 100) (.av 101) (.iv 101) (.iv 102) (.av 2) (.av 3)++ [bB 20 (.av 102)],ro:=[(.glob 5,.u8,cA 44),(.glob 4,.i64,cA 45)]}
  post:=jg8 1152 (fA3 (70+q) (.iv 3) z0 s0 (.av 3) (.av 4))++ [.eq (.len (.av 102)) (.lit 64),.le (.lit (-1024)) (.fi (61+q) z0 z0 z0 z0 (.av 3) (.av 4) (.alit []) (.alit [])),.le (.fi (61+q) z0 z0 z0 z0 (.av 3) (.av 4) (.alit []) (.alit [])) (.lit 1023)]
  quiet:=false
def stB(b:Nat):T:=sT (tot (.av b) (.av (b+1)) (.iv (b+2))) (.iv b) (.iv (b+1))
def rwE(b:Nat):List (Cl×List Cp):=wrS b (.iv (b+2)) (.av (b+1))++ [(.old 0,[.cells [.iface 141 (.ptr (.old 1) 0 (.lit 0)),.nilI],.arr .u8 (.av 2) 16,.cells [.int .u32 (.iv b),.int .u32 (.iv (b+1))],.arr .u8 (.av 3) 128,.cells qjc])]
def okB(b:Nat):List T:=ja2 (.iv (b+2)) (.av (b+1)) (.iv b) (.iv (b+1))
def qb1(q:Nat):List SR→Hp→Option Jh:=En fun b _ _=>{
  lo:=43,hi:=85
  tr:=[(11,.v (.one (.int .i32 (.iv (b+3))))),(12,.v (.one (.int .i64 (.iv (b+4))))),(13,.v (.one (.junk (b+99)))),(41,.v (.one (.junk (b+98)))),(42,.v (.one (.junk (b+97))))]
  rw:=rwE b
  ow:=some (.av b)
  facts:=okB b++Di (.lit 0) (.iv (b+3)) (.iv (b+4))++Di (.lit 1) (.iv (b+4)) (.lit 64)++ [
    .le (.add (.add (.len (.av b)) (.iv (b+2))) (.iv (b+3))) (.add (.add (.len (.av 0)) (.iv 0)) (.sub (.mul (.lit 18) (.iv (b+4))) (.lit 6))),
    .aeq (fA3 (80+q) (.iv (b+4)) (.iv (b+3)) (stB b) (.av 3) (fA 52 z0 z0 z0 z0 (.av 4))) (fA3 (70+q) (.iv 3) z0 s0 (.av 3) (.av 4))]
  meas:=.sub (.lit 64) (.iv (b+4))
  quiet:=false}
def qar(q:Nat):List SR→Hp→Option Jh:=En fun b _ _=>{
  lo:=67,hi:=85
  tr:=[(11,.v (.one (.int .i32 (.iv (b+3)))))]
  rw:=rwE b
  ow:=some (.av b)
  facts:=okB b++Di (.lit 0) (.iv (b+3)) (.lit 64)++ [
    .le (.add (.add (.len (.av b)) (.iv (b+2))) (.iv (b+3))) (.add (.add (.len (.av 0)) (.iv 0)) (.sub (.mul (.lit 18) (.iv (b-400+4))) (.lit 6))),
    .eq (.tmod (.iv (b+3)) (.lit 16)) (.tmod (.iv (b-400+3)) (.lit 16)),
    .aeq (fA (82+q) (.iv (b+3)) z0 z0 z0 (stB b)) (fA (82+q) (.iv (b-400+3)) z0 z0 z0 (stB (b-400)))]
  meas:=.iv (b+3)
  quiet:=false}
def qi1(q:Nat):Nat→Nat→Option (List SR→Hp→Option Jh):=fun f k=>match f,k with
  | 89,6=>some (qb1 q)
  | 89,11=>some (qar q)
  | _,_=>none
def spE:Nat→Option Ec:=fun f=>match f with
  | 108=>some (Gp j5g)
  | _=>none
def j4f(q:Nat):Nat→Option Ff:=fun f=>match f with
  | 107=>some (Cx j34)
  | 110=>some (Cx (jcb (2*q+1)))
  | 109=>some (jzm (jhw 1 (2*q+1)) (Cx (Wt (2*q+1) 15 1023)) (Cx (Wt (2*q) 0 2047)))
  | _=>none
structure Ky where
  c:List Int
  s:Nat
  lo:Int
  hi:Int
def Nr:List Int→List Int→Int
  | a::l,x::m=>a*x+Nr l m
  | _,_=>0
def Yb:List Int→List Int→List Int
  | [],m=>m
  | l,[]=>l
  | a::l,b::m=>(a+b)::Yb l m
def Re(k:Int):List Int→List Int
  | []=>[]
  | a::l=>k*a::Re k l
theorem jfg: ∀(l m x:List Int),Nr (Yb l m) x=Nr l x+Nr m x
  | [],m,x=>by simp[Yb,Nr]
  | a::l,[],x=>by cases x<;>simp[Yb,Nr]
  | a::l,b::m,[]=>by simp[Yb,Nr]
  | a::l,b::m,x::xs=>by
    simp only[Yb,Nr]
    rw[jfg l m xs,Int.add_mul];omega
theorem Ps(k:Int): ∀(l x:List Int),Nr (Re k l) x=k*Nr l x
  | [],x=>by simp[Re,Nr]
  | a::l,[]=>by simp[Re,Nr]
  | a::l,x::xs=>by simp only[Re,Nr];rw[Ps k l xs,Int.mul_add,Int.mul_assoc]
def mxd(xl xh:Int):List Int→Int
  | []=>0
  | a::l=>(if 0≤a then a*xh else a*xl)+mxd xl xh l
def mnd(xl xh:Int):List Int→Int
  | []=>0
  | a::l=>(if 0≤a then a*xl else a*xh)+mnd xl xh l
theorem Zz{xl xh:Int}: ∀{c x:List Int},c.length≤x.length→(∀y∈x,xl≤y∧y≤xh)→mnd xl xh c≤Nr c x∧Nr c x≤mxd xl xh c
  | [],x,_,_=>by simp[Nr,mxd,mnd]
  | a::l,[],h,_=>by simp at h
  | a::l,x::xs,h,hx=>by
    have ih:=Zz (c:=l) (x:=xs) (by simpa using h) (fun y hy=>hx y (List.mem_cons_of_mem _ hy))
    have h0:=hx x List.mem_cons_self
    simp only[Nr,mxd,mnd]
    split
    · rename_i ha
      have:=Int.mul_le_mul_of_nonneg_left h0.1 ha
      have:=Int.mul_le_mul_of_nonneg_left h0.2 ha
      omega
    · rename_i ha
      have:=Int.mul_le_mul_of_nonpos_left (a:=a) (by omega) h0.1
      have:=Int.mul_le_mul_of_nonpos_left (a:=a) (by omega) h0.2
      omega
def Ky.Is(x:List Int)(a:Ky)(v:Int):Prop:= ∃e,a.lo≤e∧e≤a.hi∧v*2^a.s=Nr a.c x+e
def Ky.lift(a:Ky)(k:Nat):Ky:=⟨Re (2^k) a.c,a.s+k,a.lo*2^k,a.hi*2^k⟩
def Ky.neg(a:Ky):Ky:=⟨Re (-1) a.c,a.s,-a.hi,-a.lo⟩
def Ky.add0(a b:Ky):Ky:=⟨Yb a.c b.c,a.s,a.lo+b.lo,a.hi+b.hi⟩
def Ky.add(a b:Ky):Ky:=(a.lift (b.s-a.s)).add0 (b.lift (a.s-b.s))
def Ky.mulc(k:Int)(a:Ky):Ky:=if 0≤k then ⟨Re k a.c,a.s,k*a.lo,k*a.hi⟩ else ⟨Re k a.c,a.s,k*a.hi,k*a.lo⟩
def Ky.addc(m:Int)(a:Ky):Ky:=⟨a.c,a.s,a.lo+m*2^a.s,a.hi+m*2^a.s⟩
def Ky.shr(k:Nat)(a:Ky):Ky:=⟨a.c,a.s+k,a.lo-2^a.s*(2^k-1),a.hi⟩
theorem p2(k:Nat):(0:Int)<2^k:=Int.pow_pos (by omega)
section
variable {x:List Int} {a b:Ky} {v w:Int}
theorem ju5(h:a.Is x v)(k:Nat):(a.lift k).Is x v:=by
  obtain ⟨e,h1,h2,h3⟩:=h
  have hp:=p2 k
  refine ⟨e*2^k,Int.mul_le_mul_of_nonneg_right h1 (by omega),Int.mul_le_mul_of_nonneg_right h2 (by omega),?_⟩
  show v*2^(a.s+k)=Nr (Re (2^k) a.c) x+e*2^k
  rw[Ps,Int.pow_add,←Int.mul_assoc,h3,Int.add_mul,Int.mul_comm (Nr a.c x)]
theorem qa0(h:a.Is x v):a.neg.Is x (-v):=by
  obtain ⟨e,h1,h2,h3⟩:=h
  refine ⟨-e,Int.neg_le_neg h2,Int.neg_le_neg h1,?_⟩
  show-v*2^a.s=Nr (Re (-1) a.c) x+ -e
  rw[Ps,Int.neg_mul,h3];omega
theorem j47(hs:a.s=b.s)(h:a.Is x v)(h':b.Is x w):(a.add0 b).Is x (v+w):=by
  obtain ⟨e,h1,h2,h3⟩:=h
  obtain ⟨f,g1,g2,g3⟩:=h'
  refine ⟨e+f,Int.add_le_add h1 g1,Int.add_le_add h2 g2,?_⟩
  show (v+w)*2^a.s=Nr (Yb a.c b.c) x+(e+f)
  rw[jfg,Int.add_mul,h3]
  rw[hs,g3];omega
theorem jlp(h:a.Is x v)(h':b.Is x w):(a.add b).Is x (v+w):=
  j47 (show a.s+(b.s-a.s)=b.s+(a.s-b.s) by omega) (ju5 h _) (ju5 h' _)
theorem jwe(h:a.Is x v)(h':b.Is x w):(a.add b.neg).Is x (v-w):=by
  have:=jlp h (qa0 h')
  rwa[←Int.sub_eq_add_neg] at this
theorem Wo(k:Int)(h:a.Is x v):(a.mulc k).Is x (k*v):=by
  obtain ⟨e,h1,h2,h3⟩:=h
  unfold Ky.mulc
  split
  · rename_i hk
    refine ⟨k*e,Int.mul_le_mul_of_nonneg_left h1 hk,Int.mul_le_mul_of_nonneg_left h2 hk,?_⟩
    show k*v*2^a.s=Nr (Re k a.c) x+k*e
    rw[Ps,Int.mul_assoc,h3,Int.mul_add]
  · rename_i hk
    refine ⟨k*e,Int.mul_le_mul_of_nonpos_left (by omega) h2,Int.mul_le_mul_of_nonpos_left (by omega) h1,?_⟩
    show k*v*2^a.s=Nr (Re k a.c) x+k*e
    rw[Ps,Int.mul_assoc,h3,Int.mul_add]
theorem jt8(m:Int)(h:a.Is x v):(a.addc m).Is x (v+m):=by
  obtain ⟨e,h1,h2,h3⟩:=h
  refine ⟨e+m*2^a.s,Int.add_le_add_right h1 _,Int.add_le_add_right h2 _,?_⟩
  show (v+m)*2^a.s=Nr a.c x+(e+m*2^a.s)
  rw[Int.add_mul,h3];omega
theorem qez(v:Int)(k:Nat):sh v k=v/2^k:=by
  cases k with
  | zero=>simp[sh]
  | succ k=>rfl
theorem jlt(k:Nat)(h:a.Is x v):(a.shr k).Is x (sh v k):=by
  obtain ⟨e,h1,h2,h3⟩:=h
  have hk:=p2 k
  have hs:=p2 a.s
  have hm1:=Int.emod_nonneg v (Int.ne_of_gt hk)
  have hm2:=Int.emod_lt_of_pos v hk
  have hd:=Int.mul_ediv_add_emod v (2^k)
  have l1:2^a.s*(v % 2^k)≤2^a.s*(2^k-1):=Int.mul_le_mul_of_nonneg_left (by omega) (by omega)
  have l2:0≤2^a.s*(v % 2^k):=Int.mul_nonneg (by omega) hm1
  refine ⟨e-2^a.s*(v % 2^k),?_,?_,?_⟩
  · show a.lo-2^a.s*(2^k-1)≤_;omega
  · show _≤a.hi;omega
  · show sh v k*2^(a.s+k)=Nr a.c x+(e-2^a.s*(v % 2^k))
    rw[qez,Int.pow_add]
    have e1:v/2^k*(2^a.s*2^k)=2^a.s*(2^k*(v/2^k)):=by
      rw[Int.mul_comm,Int.mul_assoc]
    have e2:2^k*(v/2^k)=v-v % 2^k:=by omega
    rw[e1,e2,Int.mul_sub,Int.mul_comm (2^a.s) v,h3];omega
end
def Ky.w(xl xh:Int)(a:Ky):Option Ky:=if a.c.length≤8∧mxd xl xh a.c+a.hi<2147483648*2^a.s∧ -2147483648*2^a.s≤mnd xl xh a.c+a.lo then some a else none
theorem jbs{xl xh:Int}{x:List Int}(hl:x.length=8)(hx: ∀y∈x,xl≤y∧y≤xh){a b:Ky}{v:Int}(hw:a.w xl xh=some b)(h:a.Is x v):b.Is x (Qk v):=by
  unfold Ky.w at hw
  split at hw
  · rename_i hc
    cases hw
    obtain ⟨h1,h2,h3⟩:=hc
    have hd:=Zz (c:=a.c) (x:=x) (by omega) hx
    obtain ⟨e,g1,g2,g3⟩:=h
    have hp:=p2 a.s
    have v1:v<2147483648:=by
      apply Int.lt_of_mul_lt_mul_right (a:=2^a.s) _ (by omega)
      rw[g3];omega
    have v2: -2147483648≤v:=by
      apply Int.le_of_mul_le_mul_right (a:=2^a.s) _ hp
      rw[g3];omega
    have:Qk v=v:=by unfold Qk;rw[IntKind.wrap_i32];omega
    rw[this];exact ⟨e,g1,g2,g3⟩
  · cases hw
def Fz(l:List Ky)(n:Nat):Ky:=l.getD n ⟨[],0,0,0⟩
def jr0(xl xh:Int)(x y:Ky)(c s:Int):Option (Ky×Ky):=
  (Ky.w xl xh (x.add y)).bind fun t=>(Ky.w xl xh (t.mulc c)).bind fun k=>
    (Ky.w xl xh (y.mulc (Qk (s-c)))).bind fun p=>(Ky.w xl xh (x.mulc (Qk (c+s)))).bind fun q=>
      (Ky.w xl xh (k.add p)).bind fun u=>(Ky.w xl xh (k.add q.neg)).map fun v=>(u,v)
def qh4(l:List Ky)(a b:Nat)(u v:Ky):List Ky:=(l.set a u).set b v
def Xl.abs(xl xh:Int)(l:List Ky):Xl→Option (List Ky)
  | .bf a b=>(Ky.w xl xh ((Fz l a).add (Fz l b))).bind fun u=>(Ky.w xl xh ((Fz l a).add (Fz l b).neg)).map fun v=>qh4 l a b u v
  | .box a b k c s=>(jr0 xl xh ((Fz l a).shr k) ((Fz l b).shr k) c s).map fun p=>qh4 l a b p.1 p.2
  | .sm a k c=>(Ky.w xl xh (((Fz l a).shr k).mulc c)).map fun u=>l.set a u
  | .rnd a=>(Ky.w xl xh ((Fz l a).addc 131072)).map fun u=>l.set a (u.shr 18)
  | .dc a=>(Ky.w xl xh ((Fz l a).addc (-1024))).bind fun u=>(Ky.w xl xh (u.mulc 262144)).map fun v=>l.set a v
  | .sl a=>(Ky.w xl xh ((Fz l a).mulc 262144)).map fun v=>l.set a v
def Mm(xl xh:Int):List Xl→List Ky→Option (List Ky)
  | [],l=>some l
  | i::p,l=>(i.abs xl xh l).bind (Mm xl xh p)
def jqv(x:List Int)(l:List Ky)(f:Nat→Int):Prop:=l.length=8∧ ∀n,n<8→(Fz l n).Is x (f n)
theorem Nh{x:List Int}{l:List Ky}{f:Nat→Int}(h:jqv x l f){n:Nat}{a:Ky}{v:Int}(ha:a.Is x v):jqv x (l.set n a) (jd6 f n v):=by
  refine ⟨by rw[List.length_set];exact h.1,fun m hm=> ?_⟩
  unfold Fz jd6
  by_cases e:m=n
  · subst e
    rw[List.getD_eq_getElem?_getD,List.getElem?_set_self (by rw[h.1];exact hm)]
    simp only[Nat.beq_refl,cond_true,Option.getD_some];exact ha
  · rw[List.getD_eq_getElem?_getD,List.getElem?_set_ne (by omega)]
    have:Nat.beq m n=false:=by
      rw[←Bool.not_eq_true,Nat.beq_eq];exact e
    rw[this,cond_false]
    have:=h.2 m hm
    unfold Fz at this
    rwa[List.getD_eq_getElem?_getD] at this
theorem qak{xl xh:Int}{x:List Int}(hl:x.length=8)(hx: ∀y∈x,xl≤y∧y≤xh){a b:Ky}{v w c s:Int}{p:Ky×Ky}(ha:a.Is x v)(hb:b.Is x w)(h:jr0 xl xh a b c s=some p):p.1.Is x (qcz v w c s)∧p.2.Is x (qd2 v w c s):=by
  unfold jr0 at h
  simp only[Option.bind_eq_some_iff,Option.map_eq_some_iff] at h
  obtain ⟨t,h1,k,h2,p1,h3,q1,h4,u,h5,w1,h6,rfl⟩:=h
  have r1:=jbs hl hx h1 (jlp ha hb)
  have r2:=jbs hl hx h2 (Wo c r1)
  have r3:=jbs hl hx h3 (Wo _ hb)
  have r4:=jbs hl hx h4 (Wo _ ha)
  exact ⟨jbs hl hx h5 (jlp r2 r3),jbs hl hx h6 (jwe r2 r4)⟩
theorem qb3{xl xh:Int}{x:List Int}(hl:x.length=8)(hx: ∀y∈x,xl≤y∧y≤xh){l l':List Ky}{f:Nat→Int}(h:jqv x l f): ∀{i:Xl},(∀a b,i=.bf a b→a<8∧b<8)→(∀a b k c s,i=.box a b k c s→a<8∧b<8)→(∀a k c,i=.sm a k c→a<8)→(∀a,i=.rnd a→a<8)→(∀a,i=.dc a→a<8)→(∀a,i=.sl a→a<8)→i.abs xl xh l=some l'→jqv x l' (i.run f)
  | .bf a b,k1,_,_,_,_,_,hi=>by
    simp only[Xl.abs,Option.bind_eq_some_iff,Option.map_eq_some_iff] at hi
    obtain ⟨u,h1,v,h2,rfl⟩:=hi
    obtain ⟨ha,hb⟩:=k1 a b rfl
    exact Nh (Nh h (jbs hl hx h1 (jlp (h.2 a ha) (h.2 b hb)))) (jbs hl hx h2 (jwe (h.2 a ha) (h.2 b hb)))
  | .box a b k c s,_,k1,_,_,_,_,hi=>by
    simp only[Xl.abs,Option.map_eq_some_iff] at hi
    obtain ⟨p,h1,rfl⟩:=hi
    obtain ⟨ha,hb⟩:=k1 a b k c s rfl
    have:=qak hl hx (jlt k (h.2 a ha)) (jlt k (h.2 b hb)) h1
    exact Nh (Nh h this.1) this.2
  | .sm a k c,_,_,k1,_,_,_,hi=>by
    simp only[Xl.abs,Option.map_eq_some_iff] at hi
    obtain ⟨u,h1,rfl⟩:=hi
    have:=jbs hl hx h1 (Wo c (jlt k (h.2 a (k1 a k c rfl))))
    rw[Int.mul_comm] at this
    exact Nh h this
  | .rnd a,_,_,_,k1,_,_,hi=>by
    simp only[Xl.abs,Option.map_eq_some_iff] at hi
    obtain ⟨u,h1,rfl⟩:=hi
    exact Nh h (jlt 18 (jbs hl hx h1 (jt8 131072 (h.2 a (k1 a rfl)))))
  | .dc a,_,_,_,_,k1,_,hi=>by
    simp only[Xl.abs,Option.bind_eq_some_iff,Option.map_eq_some_iff] at hi
    obtain ⟨u,h1,v,h2,rfl⟩:=hi
    have:=jbs hl hx h2 (Wo 262144 (jbs hl hx h1 (jt8 (-1024) (h.2 a (k1 a rfl)))))
    rw[Int.mul_comm] at this
    exact Nh h this
  | .sl a,_,_,_,_,_,k1,hi=>by
    simp only[Xl.abs,Option.map_eq_some_iff] at hi
    obtain ⟨v,h1,rfl⟩:=hi
    have:=jbs hl hx h1 (Wo 262144 (h.2 a (k1 a rfl)))
    rw[Int.mul_comm] at this
    exact Nh h this
def Xl.ok:Xl→Bool
  | .bf a b=>decide (a<8)&&decide (b<8)
  | .box a b _ _ _=>decide (a<8)&&decide (b<8)
  | .sm a _ _|.rnd a|.dc a|.sl a=>decide (a<8)
theorem jt2{xl xh:Int}{x:List Int}(hl:x.length=8)(hx: ∀y∈x,xl≤y∧y≤xh): ∀{p:List Xl} {l l':List Ky} {f:Nat→Int},p.all Xl.ok=true→jqv x l f→Mm xl xh p l=some l'→jqv x l' (jbf p f)
  | [],l,l',f,_,h,hi=>by cases hi;exact h
  | i::p,l,l',f,ho,h,hi=>by
    simp only[Mm,Option.bind_eq_some_iff] at hi
    obtain ⟨m,h1,h2⟩:=hi
    simp only[List.all_cons,Bool.and_eq_true] at ho
    refine jt2 (p:=p) hl hx ho.2 (qb3 hl hx h ?_ ?_ ?_ ?_ ?_ ?_ h1) h2
    · rintro a b rfl;simpa [Xl.ok] using ho.1
    · rintro a b k c s rfl;simpa [Xl.ok] using ho.1
    · rintro a k c rfl;simpa [Xl.ok] using ho.1
    · rintro a rfl;simpa [Xl.ok] using ho.1
    · rintro a rfl;simpa [Xl.ok] using ho.1
    · rintro a rfl;simpa [Xl.ok] using ho.1
end
end Go.Proofs.YtljjbikbfeigdaaGreatDoor
