/- Part of the proof of FnColorEdgesCardSaid: The quantized coefficients' bounds. -/
import Derived.Test.YtljjbikbfeigdaaGreatDoorCe14
set_option linter.all false
namespace Go.Proofs.YtljjbikbfeigdaaGreatDoor
noncomputable section
open Go
theorem De{lo hi:Int}{l:List Int}(h:Bn lo hi l=true): ∀y∈l,lo≤y∧y≤hi:=by
  intro y hy
  have:=List.all_eq_true.1 h y hy
  simpa only[Bool.and_eq_true,decide_eq_true_eq] using this
theorem Ct{lo hi:Int}{l:List Int}(h:Bn lo hi l=true){n:Int}(h0:0≤n)(h1:n<l.length):lo≤Bg l n∧Bg l n≤hi:=by
  unfold Bg
  rw[List.getD_eq_getElem?_getD,List.getElem?_eq_getElem (by omega)]
  exact De h _ (List.getElem_mem _)
theorem j3y:(List.range 64).all (fun k=>decide (0≤Bg Hl (k:Int))&&decide (Bg Hl (k:Int)<64)&&(decide (k=0)||decide (Bg Hl (k:Int)≠0)))=true:=by decide+kernel
theorem Rv{k:Int}(h0:0≤k)(h1:k<64):0≤Bg Hl k∧Bg Hl k<64∧(k≠0→Bg Hl k≠0):=by
  obtain ⟨n,rfl⟩:=Int.eq_ofNat_of_zero_le h0
  have:=List.all_eq_true.1 j3y n (List.mem_range.2 (by omega))
  simp only[Bool.and_eq_true,Bool.or_eq_true,decide_eq_true_eq] at this
  refine ⟨this.1.1,this.1.2,fun h=> ?_⟩
  rcases this.2 with h'|h'
  · omega
  · exact h'
theorem js4{a:List Int}(hl:a.length=64)(ha:Bn 0 255 a=true){n:Int}(h0:0≤n)(h1:n<64): -8195≤Bg (Dc a) n∧Bg (Dc a) n≤8187∧(n≠0→ -8187≤Bg (Dc a) n):=by
  obtain ⟨m,rfl⟩:=Int.eq_ofNat_of_zero_le h0
  have:=jp2 hl (De ha) (u:=m % 8) (v:=m/8) (by omega) (by omega)
  have e:8*((m/8:Nat):Int)+((m % 8:Nat):Int)=(m:Int):=by omega
  rw[e] at this
  obtain ⟨_,_,g1,g2⟩:=this
  refine ⟨?_,g1,fun hn=> ?_⟩
  · split at g2<;>omega
  · rw[if_neg (by omega)] at g2;exact g2
theorem jxd{x q:Int}(hq:1≤q)(h1: -8195≤x)(h2:x≤8187): -1024≤Oc x (8*q)∧Oc x (8*q)≤1023∧(-8187≤x→ -1023≤Oc x (8*q)):=by
  have e:8*q/2=4*q:=by omega
  unfold Oc
  rw[e]
  split
  · rename_i h
    have g1:(x+4*q)/(8*q)<1024:=Int.ediv_lt_of_lt_mul (by omega) (by omega)
    have g2:0≤(x+4*q)/(8*q):=Int.ediv_nonneg (by omega) (by omega)
    omega
  · rename_i h
    have g1:(-x+4*q)/(8*q)<1025:=Int.ediv_lt_of_lt_mul (by omega) (by omega)
    have g2:0≤(-x+4*q)/(8*q):=Int.ediv_nonneg (by omega) (by omega)
    refine ⟨by omega,by omega,fun h3=> ?_⟩
    have g3:(-x+4*q)/(8*q)<1024:=Int.ediv_lt_of_lt_mul (by omega) (by omega)
    omega
theorem jeu{blk quant:List Int}{q:Nat}(hq:q<2)(hl:blk.length=64)(hb:Bn 0 255 blk=true)(hl2:quant.length=128)(hqa:Bn 1 255 quant=true){k:Int}(h0:0≤k)(h1:k<64):
    -1024≤coef q quant (Dc blk) k∧coef q quant (Dc blk) k≤1023∧(k≠0→ -1023≤coef q quant (Dc blk) k):=by
  obtain ⟨u1,u2,u3⟩:=Rv h0 h1
  obtain ⟨d1,d2,d3⟩:=js4 hl hb u1 u2
  have hqq:=Ct hqa (n:=64*(q:Int)+k) (by omega) (by omega)
  obtain ⟨r1,r2,r3⟩:=jxd (x:=Bg (Dc blk) (Bg Hl k)) hqq.1 d1 d2
  exact ⟨r1,r2,fun h=>r3 (d3 (u3 h))⟩
theorem jwf(x:Int)(L:List Int):Z.fa 21 x 0 0 0 L [] [] []=pk (Zh 1 (up L) x):=rfl
theorem jx3(x:Int)(L:List Int):Z.fa 23 x 0 0 0 L [] [] []=pk (Zh 3 (up L) x):=rfl
theorem qbs(x y:Int)(L:List Int):Z.fa 10 x y 0 0 L [] [] []=pk (Pu 0 (up L) x y):=rfl
theorem qbm(x y:Int)(L:List Int):Z.fa 11 x y 0 0 L [] [] []=pk (Pu 1 (up L) x y):=rfl
theorem qcb(x y:Int)(L:List Int):Z.fa 12 x y 0 0 L [] [] []=pk (Pu 2 (up L) x y):=rfl
theorem qdb(x y:Int)(L:List Int):Z.fa 13 x y 0 0 L [] [] []=pk (Pu 3 (up L) x y):=rfl
theorem jfx(zig run:Int)(L a3 d:List Int):Z.fa 80 zig run 0 0 L a3 d []=pk (acF 0 a3 d (up L) zig run):=rfl
theorem jex(zig run:Int)(L a3 d:List Int):Z.fa 81 zig run 0 0 L a3 d []=pk (acF 1 a3 d (up L) zig run):=rfl
theorem jtc(run:Int)(L:List Int):Z.fa 82 run 0 0 0 L [] [] []=pk (jbp 0 (up L) run):=rfl
theorem jta(run:Int)(L:List Int):Z.fa 83 run 0 0 0 L [] [] []=pk (jbp 1 (up L) run):=rfl
theorem j17(x:Int)(L a3 b:List Int):Z.fa 70 x 0 0 0 L a3 b []=pk (Ub 0 a3 b (up L) x):=rfl
theorem j77(x:Int)(L a3 b:List Int):Z.fa 71 x 0 0 0 L a3 b []=pk (Ub 1 a3 b (up L) x):=rfl
theorem j8h(b n:Int)(t:List Int):pk (up ([b]++([n]++t)))=[b]++([n]++t):=rfl
def jru:VC:=
 let t0:T:=.lit 0
 let t1:T:=.get (.fa 41 t0 t0 t0 t0 (.alit []) (.alit []) (.alit []) (.alit [])) (.iv 10)
 let t2:T:=.bits .and .u32 t1 (.lit 16777215)
 let t3:T:=.shr .u32 t1 (.lit 24)
 let t4:T:=.splice (.set (.alit [0]) t0 (.iv 1101)) (.len (.set (.alit [0]) t0 (.iv 1101))) (.splice (.set (.alit [0]) t0 (.iv 1102)) (.len (.set (.alit [0]) t0 (.iv 1102))) (.splice (.av 1100) (.len (.av 1100)) (.cut (.av 1101) t0 (.iv 1100))))
 let t5:T:=.splice (.set (.alit [0]) t0 (.iv 1)) (.len (.set (.alit [0]) t0 (.iv 1))) (.splice (.set (.alit [0]) t0 (.iv 2)) (.len (.set (.alit [0]) t0 (.iv 2))) (.splice (.av 0) (.len (.av 0)) (.cut (.av 1) t0 (.iv 0))))
 (.need [(.lt (.iv 10) (.lit 251))] (.need [(.le t0 t2),(.le t2 (.lit 65535)),(.le t0 t3),(.le t3 (.lit 16))] (.any 1000 0 [(.le t0 (.iv 1100)),(.le (.iv 1100) (.lit 4096)),(.eq (.len (.av 1101)) (.lit 4096)),(.le t0 (.iv 1101)),(.le (.iv 1101) (.lit 4294967295)),(.le t0 (.iv 1102)),(.le (.iv 1102) (.lit 7)),(.le (.add (.len (.av 1100)) (.iv 1100)) (.add (.add (.len (.av 0)) (.iv 0)) (.lit 6))),(.aeq t4 (.fa 3 t2 t3 t0 t0 t5 (.alit []) (.alit []) (.alit [])))] (.need [(.aeq t4 (.fa 21 (.iv 10) t0 t0 t0 t5 (.alit []) (.alit []) (.alit [])))] .done))))
theorem qa7:Dd (Db Tryz.prog Jt jn3 ⟨jr1,ju4⟩ 100000 110 (jcb 1)) jru=true:=by kernel_rfl
set_option maxRecDepth 20000 in
theorem jw0:Cf Tryz.prog Z 110 (jcb 1):=by
  refine Bf Cq Wn qa7 fun ρ h=> ?_
  simp only[jcb,eIn,hE,bE,jd7,hB,bW,Gl,Tt,ja2,cA,fA,z0,Bi,Di,List.flatMap_cons,List.flatMap_nil,List.append_nil,List.append_assoc,List.cons_append,List.nil_append,and_true,↓qA,qB,and_true,implies_true,T.I,T.A,T.B,VC.sem] at h
  obtain ⟨h1,h2,h3,h4,h5,h6,h7,h8,h9,h10,h11,h12⟩:=h
  have e7:Z.fa 41 0 0 0 0 [] [] [] []=Kv.getD 1 []:=jid 1 (by omega)
  obtain ⟨l1,l2,l3⟩:=Rp 1 (by omega) (ρ.i 10).toNat
  have e8:=jhl (x:=(Kv.getD 1 []).getD (ρ.i 10).toNat 0) (by omega) (by omega)
  rw[←e7] at e8 l1 l2 l3
  simp only[jru,Fb,↓qA,qB,and_true,implies_true,T.I,T.A,T.B,VC.sem,e8]
  (repeat' (first|refine And.intro ?_ ?_|intro _))<;>(try trivial)<;>(try omega)<;>(try (simp only[Tu,imx,Dk,IntKind.wrap_u32,IntKind.wrap_i32,IntKind.wrap_u8] at*;omega))
def jtd:VC:=
 let t0:T:=.lit 0
 let t1:T:=.get (.fa 43 t0 t0 t0 t0 (.alit []) (.alit []) (.alit []) (.alit [])) (.iv 10)
 let t2:T:=.bits .and .u32 t1 (.lit 16777215)
 let t3:T:=.shr .u32 t1 (.lit 24)
 let t4:T:=.splice (.set (.alit [0]) t0 (.iv 1101)) (.len (.set (.alit [0]) t0 (.iv 1101))) (.splice (.set (.alit [0]) t0 (.iv 1102)) (.len (.set (.alit [0]) t0 (.iv 1102))) (.splice (.av 1100) (.len (.av 1100)) (.cut (.av 1101) t0 (.iv 1100))))
 let t5:T:=.splice (.set (.alit [0]) t0 (.iv 1)) (.len (.set (.alit [0]) t0 (.iv 1))) (.splice (.set (.alit [0]) t0 (.iv 2)) (.len (.set (.alit [0]) t0 (.iv 2))) (.splice (.av 0) (.len (.av 0)) (.cut (.av 1) t0 (.iv 0))))
 (.need [(.lt (.iv 10) (.lit 251))] (.need [(.le t0 t2),(.le t2 (.lit 65535)),(.le t0 t3),(.le t3 (.lit 16))] (.any 1000 0 [(.le t0 (.iv 1100)),(.le (.iv 1100) (.lit 4096)),(.eq (.len (.av 1101)) (.lit 4096)),(.le t0 (.iv 1101)),(.le (.iv 1101) (.lit 4294967295)),(.le t0 (.iv 1102)),(.le (.iv 1102) (.lit 7)),(.le (.add (.len (.av 1100)) (.iv 1100)) (.add (.add (.len (.av 0)) (.iv 0)) (.lit 6))),(.aeq t4 (.fa 3 t2 t3 t0 t0 t5 (.alit []) (.alit []) (.alit [])))] (.need [(.aeq t4 (.fa 23 (.iv 10) t0 t0 t0 t5 (.alit []) (.alit []) (.alit [])))] .done))))
theorem qbp:Dd (Db Tryz.prog Jt jn3 ⟨jr1,ju4⟩ 100000 110 (jcb 3)) jtd=true:=by kernel_rfl
set_option maxRecDepth 20000 in
theorem juv:Cf Tryz.prog Z 110 (jcb 3):=by
  refine Bf Cq Wn qbp fun ρ h=> ?_
  simp only[jcb,eIn,hE,bE,jd7,hB,bW,Gl,Tt,ja2,cA,fA,z0,Bi,Di,List.flatMap_cons,List.flatMap_nil,List.append_nil,List.append_assoc,List.cons_append,List.nil_append,and_true,↓qA,qB,and_true,implies_true,T.I,T.A,T.B,VC.sem] at h
  obtain ⟨h1,h2,h3,h4,h5,h6,h7,h8,h9,h10,h11,h12⟩:=h
  have e7:Z.fa 43 0 0 0 0 [] [] [] []=Kv.getD 3 []:=jid 3 (by omega)
  obtain ⟨l1,l2,l3⟩:=Rp 3 (by omega) (ρ.i 10).toNat
  have e8:=jhl (x:=(Kv.getD 3 []).getD (ρ.i 10).toNat 0) (by omega) (by omega)
  rw[←e7] at e8 l1 l2 l3
  simp only[jtd,Fb,↓qA,qB,and_true,implies_true,T.I,T.A,T.B,VC.sem,e8]
  (repeat' (first|refine And.intro ?_ ?_|intro _))<;>(try trivial)<;>(try omega)<;>(try (simp only[Tu,imx,Dk,IntKind.wrap_u32,IntKind.wrap_i32,IntKind.wrap_u8] at*;omega))
theorem jsw{q:Nat}(hc:Cf Tryz.prog Z 110 (jcb (2*q+1)))(h1:Cf Tryz.prog Z 109 (Wt (2*q+1) 15 1023))(h0:Cf Tryz.prog Z 109 (Wt (2*q) 0 2047)): ∀f s,j4f q f=some s→Dw Tryz.prog Z f s:=by
  intro f s h
  unfold j4f at h
  split at h
  · cases h;exact Ce j5v
  · cases h;exact Ce hc
  · cases h;exact j00 (Ce h1) (Ce h0)
  · cases h
theorem jxc: ∀f s,spE f=some s→Ei Tryz.prog Z f s:=by
  intro f s h
  unfold spE at h
  split at h
  · cases h;exact Dq j5j
  · cases h
theorem kf{a3 a4:List Int}(hq:Bn 1 255 a3=true)(hb:Bn 0 255 a4=true)(h3:a3.length=128)(h4:a4.length=64){q:Nat}(hq2:q<2){k j:Int}(h0:0≤k)(h1:k<64)(hj:j=64*(q:Int)+k){d:List Int}(hd:d=Z.fa 52 0 0 0 0 a4 [] [] []):
    0≤(Z.fa 45 0 0 0 0 [] [] [] []).getD k.toNat 0∧(Z.fa 45 0 0 0 0 [] [] [] []).getD k.toNat 0<64∧
    -536870912≤d.getD ((Z.fa 45 0 0 0 0 [] [] [] []).getD k.toNat 0).toNat 0∧d.getD ((Z.fa 45 0 0 0 0 [] [] [] []).getD k.toNat 0).toNat 0≤536870912∧
    1≤IntKind.i32.wrap (8*IntKind.i32.wrap (a3.getD j.toNat 0))∧IntKind.i32.wrap (8*IntKind.i32.wrap (a3.getD j.toNat 0))≤536870912∧
    Z.fi 60 (d.getD ((Z.fa 45 0 0 0 0 [] [] [] []).getD k.toNat 0).toNat 0) (IntKind.i32.wrap (8*IntKind.i32.wrap (a3.getD j.toNat 0))) 0 0 [] [] [] []=coef q a3 (Dc a4) k∧
    -1024≤coef q a3 (Dc a4) k∧coef q a3 (Dc a4) k≤1023∧(k≠0→ -1023≤coef q a3 (Dc a4) k):=by
  obtain ⟨u1,u2,u3⟩:=Rv h0 h1
  obtain ⟨d1,d2,d3⟩:=js4 h4 hb u1 u2
  have hqq:=Ct hq (n:=64*(q:Int)+k) (by omega) (by omega)
  have hz:(Z.fa 45 0 0 0 0 [] [] [] []).getD k.toNat 0=Bg Hl k:=rfl
  have hd':d=Dc a4:=hd
  subst hd' hj
  have hw:IntKind.i32.wrap (8*IntKind.i32.wrap (a3.getD (64*(q:Int)+k).toNat 0))=8*Bg a3 (64*(q:Int)+k):=by
    have e:a3.getD (64*(q:Int)+k).toNat 0=Bg a3 (64*(q:Int)+k):=rfl
    rw[e,IntKind.wrap_i32,IntKind.wrap_i32];omega
  rw[hz,hw]
  have hx:(Dc a4).getD (Bg Hl k).toNat 0=Bg (Dc a4) (Bg Hl k):=rfl
  rw[hx]
  exact ⟨u1,u2,by omega,by omega,by omega,by omega,rfl,jeu hq2 h4 hb h3 hq h0 h1⟩
def jke:List (Cl×Gn):=[(.old 21,⟨61,[.cells [.sl (.old 22) 0 (.lit 0) (.iv 20) (.iv 20),.int .i64 (.iv 21),.int .i64 (.lit 0),.int .i64 (.lit 0),.int .i64 (.iv 21),.int .i64 (.iv 22)]]⟩),(.old 22,⟨5,[.arrD .u8 (.av 5)]⟩)]
def jkx(x y:T):T:=.fa 90 x y (.iv 21) (.iv 22) (.av 5) (.alit []) (.alit []) (.alit [])
def jbb:List T:=Di (.lit 1) (.iv 21) (.lit 65535)++Di (.lit 1) (.iv 22) (.lit 65535)++ [.eq (.len (.av 5)) (.mul (.iv 21) (.iv 22)),.eq (.len (.av 5)) (.iv 20),Du 0 255 (.av 5)]
def c88:Hg where
  args:=[p0 (.old 21),.v (.agg [.cells [.int .i64 (.iv 5),.int .i64 (.iv 6)]]),p0 (.old 20)]
  hp:={rw:=jke++ [bB 20 (.av 4)],nv:=1000}
  pre:=jbb++Di (.lit 0) (.iv 5) (.lit 65535)++Di (.lit 0) (.iv 6) (.lit 65535)++ [.eq (.len (.av 4)) (.lit 64)]
  val:=.tup []
  hp':={rw:=jke++ [bB 20 (.av 100)]}
  post:=[.eq (.len (.av 100)) (.lit 64),.aeq (.av 100) (jkx (.iv 5) (.iv 6)),Du 0 255 (.av 100)]
  quiet:=false
def qbb(b:Nat)(n:T):T:=.aeq (.cut (.av b) (.lit 0) n) (.cut (jkx (.iv 5) (.iv 6)) (.lit 0) n)
def qdw:List SR→Hp→Option Jh:=En fun b _ _=>{
  lo:=27,hi:=61
  tr:=[(10,.v (.one (.int .i64 (.iv b)))),(11,.v (.one (.junk (b+98)))),(12,.v (.one (.junk (b+99))))]
  rw:=[(.old 20,[.arr .i32 (.av b) 64])]
  facts:=Di (.lit 0) (.iv b) (.lit 8)++ [.eq (.len (.av b)) (.lit 64),qbb b (.mul (.lit 8) (.iv b))]
  meas:=.sub (.lit 8) (.iv b)
  quiet:=false}
def qbe:List SR→Hp→Option Jh:=En fun b _ _=>{
  lo:=31,hi:=61
  tr:=[(11,.v (.one (.int .i64 (.iv b)))),(12,.v (.one (.junk (b+99))))]
  rw:=[(.old 20,[.arr .i32 (.av b) 64])]
  facts:=Di (.lit 0) (.iv b) (.lit 8)++ [.eq (.len (.av b)) (.lit 64),qbb b (.add (.mul (.lit 8) (.iv (b-400))) (.iv b))]
  meas:=.sub (.lit 8) (.iv b)
  quiet:=false}
def qkk:Nat→Nat→Option (List SR→Hp→Option Jh):=fun f k=>match f,k with
  | 88,6=>some qdw
  | 88,9=>some qbe
  | _,_=>none
def qf6:Nat→Bool:=fun f=>f==105||f==106
def bD:Cl×Gn:=(.old 2,⟨5,[.arrD .u8 (.av 1),.tail [.int .u8 (.lit 0)] (.iv 8)]⟩)
def jcm:Aw:=.sl (.old 2) 0 (.lit 0) (.iv 6) (.iv 7)
def cI(t:T):Aw:=.int .i64 t
def Zx(a u:T)(pr:List Aw):List Cp:=[.cells ([.val 50,.val 51,.val 52,.val 53,.val 54,.val 55,.val 56,.val 57,.val 58,.val 59,.val 60,jcm,cI a,cI u,.bool .ff]++pr++ [.val 64])]
def prV:List Aw:=[.val 61,.val 62,.val 63]
def bS(a u:T):Cl×Gn:=(.old 1,⟨118,Zx a u prV⟩)
def fD(f:Nat)(x y z u:T):T:=.fi f x y z u (.av 1) (.alit []) (.alit []) (.alit [])
def Mc(f:Nat)(x y z u:T):T:=.fb f x y z u (.av 1) (.alit []) (.alit []) (.alit [])
def faD(f:Nat)(x y z u:T):T:=.fa f x y z u (.av 1) (.alit []) (.alit []) (.alit [])
def Ny:List T:=[.eq (.len (.av 1)) (.iv 6),.le (.iv 6) Gl,.le (.iv 6) (.iv 7),Du 0 255 (.av 1)]
def jef(a u:T):List T:=Ny++ [.le (.lit 0) a]++Di (.lit 0) u (.lit 7)
def rdP:SR:=.v (.one (.ptr (.old 1) 11 (.lit 0)))
def c76:Hg where
  args:=[rdP]
  hp:={rw:=[bS (.iv 0) (.iv 1),bD],nv:=1000}
  pre:=jef (.iv 0) (.iv 1)++ [Mc 200 (.iv 0) (.iv 1) z0 z0]
  val:=.v (.one (cI (fD 200 (.iv 0) (.iv 1) z0 z0)))
  hp':={rw:=[bS (fD 201 (.iv 0) (.iv 1) z0 z0) (fD 202 (.iv 0) (.iv 1) z0 z0),bD]}
  post:=[]
  quiet:=true
def jw3:Hg where
  args:=[rdP,.v (.one (cI (.iv 2)))]
  hp:={rw:=[bS (.iv 0) (.iv 1),bD],nv:=1000}
  pre:=jef (.iv 0) (.iv 1)++Di (.lit 0) (.iv 2) (.lit 16)++ [Mc 203 (.iv 2) (.iv 0) (.iv 1) z0]
  val:=.v (.one (cI (fD 204 (.iv 2) (.iv 0) (.iv 1) z0)))
  hp':={rw:=[bS (fD 205 (.iv 2) (.iv 0) (.iv 1) z0) (fD 206 (.iv 2) (.iv 0) (.iv 1) z0),bD]}
  post:=[]
  quiet:=true
def qdy:List SR→Hp→Option Jh:=En fun b _ _=>{
  lo:=8,hi:=15
  tr:=[(5,.v (.one (cI (.iv b)))),(7,.v (.one (cI (.iv (b+1)))))]
  rw:=[(.old 1,Zx (.iv (b+2)) (.iv (b+3)) prV)]
  facts:=Di (.lit 0) (.iv (b+1)) (.iv 2)++ [.le (.lit 0) (.iv b),.le (.iv b) (fD 209 (.iv (b+1)) z0 z0 z0),.le (.lit 0) (.iv (b+2))]++Di (.lit 0) (.iv (b+3)) (.lit 7)++ [
    Mc 203 (.sub (.iv 2) (.iv (b+1))) (.iv (b+2)) (.iv (b+3)) z0,
    .aeq (faD 203 (.sub (.iv 2) (.iv (b+1))) (.iv b) (.iv (b+2)) (.iv (b+3))) (faD 203 (.iv 2) (.lit 0) (.iv 0) (.iv 1))]
  meas:=.sub (.iv 2) (.iv (b+1))
  quiet:=true}
def j5o:Hg:={jw3 with val:=.v (.one (cI (fD 208 (.iv 2) (.iv 0) (.iv 1) z0)))}
def jwy(h:Nat):Nat:=4*(h % 2)+h/2
def Xz(h:Nat):Nat:=264+18*jwy h
def La(h:Nat):Nat:=if h % 2=0 then 12 else 162
def qhc(h:Nat):SR:=.v (.one (.ptr (.old 4) (Xz h) (.lit 0)))
def ql1(a n:Nat):List Aw:=(List.range' a n).map Aw.val
def qlq(h:Nat):List Cp:=[.arr .i64 (cA (300+h)) 17,.cells [.sl (.old (30+h)) 0 (.lit 0) (.lit (La h)) (.iv (30+h))]]
def Th(hs:List Nat):List Cp:=(List.range 8).flatMap fun k=>match hs.find? (fun h=>Nat.beq (jwy h) k) with
  | some h=>qlq h
  | none=>[.arr .i64 (.av (40+k)) 17,.cells [.val (70+k)]]
def jjw(hs:List Nat):Cl×Gn:=(.old 4,⟨73,.cells (ql1 80 8):: .arr .i64 (.av 30) 256::(Th hs++ [.cells [.val 88,.val 89],.arr .i64 (.av 31) 192])⟩)
def bSy(h:Nat):Cl×Gn:=(.old (30+h),⟨3,[.arrD .i64 (cA (310+h)),.tail [.int .i64 (.lit 0)] (.iv (34+h))]⟩)
def jd8(h:Nat):Hg where
  args:=[rdP,qhc h]
  hp:={rw:=[bS (.iv 0) (.iv 1),bD,jjw [h],bSy h],nv:=1000}
  pre:=jef (.iv 0) (.iv 1)++ [Mc (220+h) (.iv 0) (.iv 1) z0 z0]
  val:=.v (.one (cI (fD (220+h) (.iv 0) (.iv 1) z0 z0)))
  hp':={rw:=[bS (fD (230+h) (.iv 0) (.iv 1) z0 z0) (fD (240+h) (.iv 0) (.iv 1) z0 z0),bD,jjw [h],bSy h]}
  post:=[]
  quiet:=true
def two(a u:T):T:=app (one a) (one u)
def fa2(f:Nat)(x y z u a v:T):T:=.fa f x y z u (.av 1) (two a v) (.alit []) (.alit [])
def fb2(f:Nat)(x y z u a v:T):T:=.fb f x y z u (.av 1) (two a v) (.alit []) (.alit [])
def qco(h:Nat):List SR→Hp→Option Jh:=En fun b _ _=>{
  lo:=9,hi:=48
  tr:=[(5,.v (.one (cI (.iv b)))),(6,.v (.one (cI (.iv (b+1))))),(7,.v (.one (cI (.iv (b+2))))),(8,.v (.one (cI (.iv (b+3)))))]
  rw:=[(.old 1,Zx (.iv (b+4)) (.iv (b+5)) prV)]
  facts:=Di (.lit 1) (.iv (b+3)) (.lit 17)++Di (.lit 0) (.iv b) (fD 209 (.sub (.iv (b+3)) (.lit 1)) z0 z0 z0)++
    Di (.lit 0) (.iv (b+1)) (.mul (.lit 400) (fD 209 (.sub (.iv (b+3)) (.lit 1)) z0 z0 z0))++Di (.lit 0) (.iv (b+2)) (.mul (.lit 200) (.iv (b+3)))++
    [.le (.lit 0) (.iv (b+4))]++Di (.lit 0) (.iv (b+5)) (.lit 7)++ [
    fb2 (210+h) (.iv (b+3)) (.iv b) (.iv (b+1)) (.iv (b+2)) (.iv (b+4)) (.iv (b+5)),
    .aeq (fa2 (210+h) (.iv (b+3)) (.iv b) (.iv (b+1)) (.iv (b+2)) (.iv (b+4)) (.iv (b+5))) (fa2 (210+h) (.lit 1) z0 z0 z0 (.iv 0) (.iv 1))]
  meas:=.sub (.lit 17) (.iv (b+3))
  quiet:=true}
def jph(h:Nat):Nat→Nat→Option (List SR→Hp→Option Jh):=fun f k=>match f,k with
  | 103,3=>some qdy
  | 102,3=>some (qco h)
  | _,_=>none
def Ke:Nat→Bool:=fun _=>false
def spG:Nat→Option Ec:=fun f=>match f with
  | 76=>some (Gp c76)
  | _=>none
def spH:Nat→Option Ec:=fun f=>match f with
  | 103=>some (Gp jw3)
  | _=>none
def c54:Hg where
  args:=[rdP]
  hp:={rw:=[bS (.iv 0) (.iv 1),bD],nv:=1000}
  pre:=jef (.iv 0) (.iv 1)++ [Mc 290 (.iv 0) (.iv 1) z0 z0]
  val:=.tup []
  hp':={rw:=[bS (fD 290 (.iv 0) (.iv 1) z0 z0) z0,bD]}
  post:=[]
  quiet:=true
def qes:List SR→Hp→Option Jh:=En fun b _ _=>{
  lo:=2,hi:=20
  tr:=[]
  rw:=[(.old 1,Zx (.iv b) (.iv (b+1)) prV)]
  facts:=[.le (.lit 0) (.iv b)]++Di (.lit 0) (.iv (b+1)) (.lit 7)++ [Mc 290 (.iv b) (.iv (b+1)) z0 z0,.eq (fD 290 (.iv b) (.iv (b+1)) z0 z0) (fD 290 (.iv 0) (.iv 1) z0 z0)]
  meas:=.tmod (.sub (.lit 8) (.iv (b+1))) (.lit 8)
  quiet:=true}
def bBl(a:T):Cl×Gn:=(.old 7,⟨27,[.arrD .i64 a]⟩)
def blP:SR:=.v (.one (.ptr (.old 7) 0 (.iv 5)))
def qdr:SR:=p0 (.old 1)
def qc2:List T:=[.le (.lit 0) (.iv 5),.le (.add (.iv 5) (.lit 64)) (.len (.av 7)),.le (.len (.av 7)) Gl]
def fDB(f:Nat)(x y z u:T)(bl:T):T:=.fi f x y z u (.av 1) bl (.alit []) (.alit [])
def jzo(f:Nat)(x y z u:T)(bl:T):T:=.fa f x y z u (.av 1) bl (.alit []) (.alit [])
def c75(h:Nat):Hg where
  args:=[qdr,qhc h,blP]
  hp:={rw:=[bS (.iv 0) (.iv 1),bD,jjw [h],bSy h,bBl (.av 7)],nv:=1000}
  pre:=jef (.iv 0) (.iv 1)++qc2++ [Mc (250+h) (.lit 1) (.iv 0) (.iv 1) z0]
  val:=.tup []
  hp':={rw:=[bS (fDB (260+h) (.iv 5) (.iv 0) (.iv 1) z0 (.av 7)) (fDB (264+h) (.iv 5) (.iv 0) (.iv 1) z0 (.av 7)),bD,jjw [h],bSy h,bBl (jzo (268+h) (.iv 5) (.iv 0) (.iv 1) z0 (.av 7))]}
  post:=[]
  quiet:=true
def qh8(h:Nat):List SR→Hp→Option Jh:=En fun b _ _=>{
  lo:=7,hi:=57
  tr:=[(6,.v (.one (cI (.iv b))))]
  rw:=[(.old 1,Zx (.iv (b+1)) (.iv (b+2)) prV),(.old 7,[.arrD .i64 (.av b)])]
  facts:=Di (.lit 1) (.iv b) (.lit 64)++ [.le (.lit 0) (.iv (b+1))]++Di (.lit 0) (.iv (b+2)) (.lit 7)++ [.eq (.len (.av b)) (.len (.av 7)),
    Mc (250+h) (.iv b) (.iv (b+1)) (.iv (b+2)) z0,.aeq (jzo (250+h) (.iv 5) (.iv b) (.iv (b+1)) (.iv (b+2)) (.av b)) (jzo (250+h) (.iv 5) (.lit 1) (.iv 0) (.iv 1) (.av 7))]
  meas:=.sub (.lit 64) (.iv b)
  quiet:=true}
def qf0(i:Nat)(a u p:T)(dc:Aw):List Cp:=
  [.cells ([.val 50]++(List.range 3).map (fun k=>if k=i then dc else .val (51+k))++ [.val 54,.val 55,.val 56,.val 57,.val 58,.val 59,cI z0,jcm,cI a,cI u,.bool .ff]++(List.range 3).map (fun k=>if k=i then cI p else .val (61+k))++ [.val 64])]
def bSP(q i:Nat)(a u p:T):Cl×Gn:=(.old 1,⟨118,qf0 i a u p (.ptr (.old 4) (Xz (2*q)) (.lit 0))⟩)
def c74(q i:Nat):Hg where
  args:=[qdr,.v (.one (cI (.lit i))),blP]
  hp:={rw:=[bSP q i (.iv 0) (.iv 1) (.iv 3),bD,jjw [2*q],bSy (2*q),bBl (.av 7)],nv:=1000}
  pre:=jef (.iv 0) (.iv 1)++qc2++ [Mc (270+q) (.iv 0) (.iv 1) z0 z0]++Di (.lit (-1024)) (.iv 3) (.lit 1023)++Di (.lit (-1024)) (.add (.iv 3) (fD (270+q) (.iv 0) (.iv 1) z0 z0)) (.lit 1023)
  val:=.tup []
  hp':={rw:=[bSP q i (fD (272+q) (.iv 0) (.iv 1) z0 z0) (fD (274+q) (.iv 0) (.iv 1) z0 z0) (.add (.iv 3) (fD (270+q) (.iv 0) (.iv 1) z0 z0)),bD,jjw [2*q],bSy (2*q),bBl (.set (.av 7) (.iv 5) (.add (.iv 3) (fD (270+q) (.iv 0) (.iv 1) z0 z0)))]}
  post:=[]
  quiet:=true
def jl5(h:Nat):Nat→Nat→Option (List SR→Hp→Option Jh):=fun f k=>match f,k with
  | 54,0=>some qes
  | 75,1=>some (qh8 h)
  | _,_=>none
def spI(h:Nat):Nat→Option Ec:=fun f=>match f with
  | 101=>some (Gp j5o)
  | 102=>some (Gp (jd8 h))
  | _=>none
def Gi(x:Int):Nat→List Int
  | 0=>[]
  | k+1=>(x/2^k % 2)::Gi x k
def jd2(c:Int):List Int:=Gi c 8
def Mz(B:List Int):List Int:=B.flatMap jd2
def Jb:List Int→Int
  | []=>0
  | b::l=>b*2^l.length+Jb l
def Nz(l:List Int):Prop:= ∀b∈l,b=0∨b=1
def Ey(l:List Int):Prop:= ∀b∈l,0≤b∧b≤255
def Es(B:List Int):List Int:=B.flatMap Oi
theorem Zq{x p:Int}(hp:0<p):x % (p*2)=p*(x/p % 2)+x % p:=by
  have h1:=Int.mul_ediv_add_emod x p
  have h2:=Int.mul_ediv_add_emod (x/p) 2
  have h3:=Int.emod_nonneg x (Int.ne_of_gt hp)
  have h4:=Int.emod_lt_of_pos x hp
  have h5:x=(p*(x/p % 2)+x % p)+(p*2)*(x/p/2):=by
    have e:p*(x/p)=p*(2*(x/p/2)+x/p % 2):=by rw[h2]
    rw[Int.mul_add] at e
    rw[Int.mul_assoc]
    omega
  have h6:(p*(x/p % 2)+x % p) % (p*2)=p*(x/p % 2)+x % p:=by
    rcases (show x/p % 2=0∨x/p % 2=1 by omega) with h|h<;>rw[h]<;>exact Int.emod_eq_of_lt (by omega) (by omega)
  conv=>lhs;rw[h5]
  rw[Int.add_mul_emod_self_left,h6]
theorem Gv(n:Nat):(0:Int)<2^n:=Int.pow_pos (by omega)
theorem Wd(x:Int): ∀k,(Gi x k).length=k
  | 0=>rfl
  | k+1=>by simp[Gi,Wd x k]
theorem jaw(x:Int): ∀k,Nz (Gi x k)
  | 0=>fun _ h=>nomatch h
  | k+1=>by
    intro b hb
    simp only[Gi,List.mem_cons] at hb
    rcases hb with rfl|hb
    · omega
    · exact jaw x k b hb
theorem jfu{l m:List Int}:Nz (l++m)↔Nz l∧Nz m:=by
  unfold Nz
  constructor
  · exact fun h=>⟨fun b hb=>h b (List.mem_append_left _ hb),fun b hb=>h b (List.mem_append_right _ hb)⟩
  · intro h b hb
    rcases List.mem_append.1 hb with hb|hb
    · exact h.1 b hb
    · exact h.2 b hb
theorem jg0: ∀(l m:List Int),Jb (l++m)=Jb l*2^m.length+Jb m
  | [],m=>by simp[Jb]
  | b::l,m=>by
    simp only[List.cons_append,Jb,jg0 l m,List.length_append,Int.pow_add,Int.add_mul]
    rw[Int.mul_assoc,Int.add_assoc]
theorem Ud: ∀{l:List Int},Nz l→0≤Jb l∧Jb l<2^l.length
  | [],_=>by simp[Jb]
  | b::l,h=>by
    have ih:=Ud (l:=l) fun x hx=>h x (List.mem_cons_of_mem _ hx)
    have hp:=Gv l.length
    simp only[Jb,List.length_cons,Int.pow_succ]
    rcases h b (List.mem_cons_self ..) with rfl|rfl<;>omega
theorem jf7{x:Int}(h:0≤x): ∀{k:Nat},Jb (Gi x k)=x % 2^k
  | 0=>by simp[Gi,Jb,Int.emod_one]
  | k+1=>by
    simp only[Gi,Jb,Wd,jf7 h (k:=k)]
    have hp:=Gv k
    rw[Int.pow_succ,Zq (by omega),Int.mul_comm (x/2^k % 2)]
theorem jca{x y:Int}: ∀{k:Nat},x % 2^k=y % 2^k→Gi x k=Gi y k
  | 0,_=>rfl
  | k+1,h=>by
    have hp:=Gv k
    have hd:(2:Int)^k∣2^(k+1):=by rw[Int.pow_succ];exact Int.dvd_mul_right _ _
    have h1:x % 2^k=y % 2^k:=by rw[←Int.emod_emod_of_dvd x hd,←Int.emod_emod_of_dvd y hd,h]
    rw[Int.pow_succ,Zq (x:=x) (by omega),Zq (x:=y) (by omega),h1] at h
    have h2:x/2^k % 2=y/2^k % 2:=by
      have h3:2^k*(x/2^k % 2)=2^k*(y/2^k % 2):=by omega
      exact Int.eq_of_mul_eq_mul_left (by omega) h3
    simp only[Gi,h2,jca h1]
theorem jfe: ∀{l:List Int},Nz l→Gi (Jb l) l.length=l
  | [],_=>rfl
  | b::l,h=>by
    have hl:Nz l:=fun x hx=>h x (List.mem_cons_of_mem _ hx)
    have ih:=jfe hl
    obtain ⟨r1,r2⟩:=Ud hl
    have hp:=Gv l.length
    simp only[Jb,List.length_cons,Gi]
    have e1:(b*2^l.length+Jb l)/2^l.length=b:=by
      rw[Int.add_comm,Int.add_mul_ediv_right _ _ (by omega),Int.ediv_eq_zero_of_lt r1 r2];omega
    have e2:Gi (b*2^l.length+Jb l) l.length=Gi (Jb l) l.length:=by
      apply jca
      rw[Int.add_comm,Int.add_mul_emod_self_right]
    rw[e1,e2,ih]
    rcases h b (List.mem_cons_self ..) with rfl|rfl<;>rfl
def Rep(H:List Int)(s:St)(L:List Int):Prop:=
  ∃B P,Ey B∧Nz P∧P.length<8∧s=⟨H++Es B,Jb P*2^(32-P.length),(P.length:Int)⟩∧L=Mz B++P
theorem jka(B C:List Int):Es (B++C)=Es B++Es C:=by simp[Es]
theorem jqa(B C:List Int):Mz (B++C)=Mz B++Mz C:=by simp[Mz]
theorem j6c(m:Nat): ∀{t L:List Int},L.length/8=m→L.length≤32→Nz L→
    ∃B P,Ey B∧Nz P∧P.length<8∧emF t (Jb L*2^(32-L.length)) L.length=⟨t++Es B,Jb P*2^(32-P.length),(P.length:Int)⟩∧L=Mz B++P:=by
  induction m with
  | zero=>
    intro t L hm hl hb
    refine ⟨[],L,fun _ h=>(nomatch h),hb,by omega,?_,rfl⟩
    rw[js2 (by omega)]
    simp[Es]
  | succ m ih=>
    intro t L hm hl hb
    obtain ⟨X,Y,rfl,hX⟩: ∃X Y,L=X++Y∧X.length=8:=⟨L.take 8,L.drop 8,(List.take_append_drop 8 L).symm,by rw[List.length_take];omega⟩
    rw[List.length_append,hX] at hm hl
    obtain ⟨hbX,hbY⟩:=jfu.1 hb
    obtain ⟨x1,x2⟩:=Ud hbX
    obtain ⟨y1,y2⟩:=Ud hbY
    rw[hX] at x2
    have hsplit:Jb (X++Y)*2^(32-(X++Y).length)=Jb X*16777216+Jb Y*2^(24-Y.length):=by
      rw[jg0,List.length_append,hX,Int.add_mul,Int.mul_assoc,←Int.pow_add,show Y.length+(32-(8+Y.length))=24 from by omega,show 32-(8+Y.length)=24-Y.length from by omega]
      rfl
    have hYs:Jb Y*2^(24-Y.length)<16777216:=by
      have:Jb Y*2^(24-Y.length)<2^Y.length*2^(24-Y.length):=Int.mul_lt_mul_of_pos_right y2 (Gv _)
      rw[←Int.pow_add,show Y.length+(24-Y.length)=24 from by omega] at this
      exact this
    have hY0:0≤Jb Y*2^(24-Y.length):=Int.mul_nonneg y1 (Int.le_of_lt (Gv _))
    have e256:(2:Int)^8=256:=by decide
    have hbyte:IntKind.u8.wrap (Jb (X++Y)*2^(32-(X++Y).length)/16777216)=Jb X:=by
      rw[hsplit,IntKind.wrap_u8];omega
    have hnext:IntKind.u32.wrap (Jb (X++Y)*2^(32-(X++Y).length)*256)=Jb Y*2^(32-Y.length):=by
      rw[hsplit,IntKind.wrap_u32,show 32-Y.length=(24-Y.length)+8 from by omega,Int.pow_add,←Int.mul_assoc,e256];omega
    have hcount:(((X++Y).length:Nat):Int)-8=(Y.length:Int):=by rw[List.length_append,hX];omega
    rw[jgu (by rw[List.length_append,hX];omega),hbyte,hnext,hcount]
    obtain ⟨B,P,p1,p2,p3,p4,p5⟩:=ih (t:=t++Oi (Jb X)) (L:=Y) (by omega) (by omega) hbY
    refine ⟨Jb X::B,P,?_,p2,p3,?_,?_⟩
    · intro b hb
      rcases List.mem_cons.1 hb with rfl|hb
      · omega
      · exact p1 b hb
    · rw[p4];simp[Es]
    · rw[p5]
      have hx:=jfe hbX
      rw[hX] at hx
      simp only[Mz,List.flatMap_cons,jd2,hx,List.append_assoc]
theorem j98{x b:Int}{m:Nat}(hx:0≤x)(hx2:x<2^m)(hb:0≤b)(hm:m≤32)(hb2:b*2^m<4294967296):Dj .or .u32 x (b*2^m)=b*2^m+x:=by
  obtain ⟨x,rfl⟩:=Int.eq_ofNat_of_zero_le hx
  obtain ⟨b,rfl⟩:=Int.eq_ofNat_of_zero_le hb
  have hx2':x<2^m:=by
    have e:((2^m:Nat):Int)=(2:Int)^m:=by simp
    omega
  have e1:((b:Int)*2^m)=((b*2^m:Nat):Int):=by simp
  have hb2':b*2^m<4294967296:=by rw[e1] at hb2;omega
  have hmm:(2:Nat)^m≤2^32:=Nat.pow_le_pow_right (by omega) hm
  have hx3:x<2^32:=Nat.lt_of_lt_of_le hx2' hmm
  rw[e1]
  have key:((BitVec.ofInt 32 (x:Int)|||BitVec.ofInt 32 ((b*2^m:Nat):Int):BitVec 32)).toNat=b*2^m+x:=by
    rw[BitVec.ofInt_natCast,BitVec.ofInt_natCast,BitVec.toNat_or,BitVec.toNat_ofNat,BitVec.toNat_ofNat,Nat.mod_eq_of_lt hx3,Nat.mod_eq_of_lt (by omega:b*2^m<2^32)]
    rw[Nat.or_comm,Nat.mul_comm b,Nat.two_pow_add_eq_or_of_lt hx2']
  show IntKind.u32.wrap ((((BitVec.ofInt 32 (x:Int)|||BitVec.ofInt 32 ((b*2^m:Nat):Int):BitVec 32)).toNat:Nat):Int)=_
  rw[key,IntKind.wrap_u32]
  have hlt:b*2^m+x<4294967296:=by
    have:b*2^m+x<b*2^m+2^m:=by omega
    have h3:b*2^m+2^m≤4294967296:=by
      have h4:b*2^m<2^(32-m)*2^m:=by rw[←Nat.pow_add,show 32-m+m=32 from by omega];omega
      have h5:b<2^(32-m):=Nat.lt_of_mul_lt_mul_right h4
      have h6:(b+1)*2^m≤2^(32-m)*2^m:=Nat.mul_le_mul_right _ h5
      rw[←Nat.pow_add,show 32-m+m=32 from by omega,Nat.add_mul,Nat.one_mul] at h6
      omega
    omega
  rw[Int.emod_eq_of_lt (by omega) (by omega)]
  simp
theorem Rk{H:List Int}{s:St}{L:List Int}(h:Rep H s L){x:Int}{k:Nat}(hx:0≤x)(hx2:x<2^k)(hk:k≤16):Rep H (jbk s x k) (L++Gi x k):=by
  obtain ⟨B,P,h1,h2,h3,rfl,rfl⟩:=h
  obtain ⟨p1,p2⟩:=Ud h2
  have hM:Nz (P++Gi x k):=jfu.2 ⟨h2,jaw x k⟩
  have hlen:(P++Gi x k).length=P.length+k:=by rw[List.length_append,Wd]
  have hval:Jb (P++Gi x k)=Jb P*2^k+x:=by rw[jg0,Wd,jf7 hx,Int.emod_eq_of_lt hx hx2]
  have hsh:(32-((k:Int)+(P.length:Int))).toNat=32-(P.length+k):=by omega
  have hxs:x*2^(32-(P.length+k))<2^(32-P.length):=by
    have:x*2^(32-(P.length+k))<2^k*2^(32-(P.length+k)):=Int.mul_lt_mul_of_pos_right hx2 (Gv _)
    rw[←Int.pow_add,show k+(32-(P.length+k))=32-P.length from by omega] at this
    exact this
  have hx0:0≤x*2^(32-(P.length+k)):=Int.mul_nonneg hx (Int.le_of_lt (Gv _))
  have hple:(2:Int)^(32-P.length)≤4294967296:=by
    have:=Nat.pow_le_pow_right (show 0<2 by omega) (show 32-P.length≤32 by omega)
    have e:((2^(32-P.length):Nat):Int)=(2:Int)^(32-P.length):=by simp
    omega
  have hbb:Jb P*2^(32-P.length)<4294967296:=by
    have:Jb P*2^(32-P.length)<2^P.length*2^(32-P.length):=Int.mul_lt_mul_of_pos_right p2 (Gv _)
    rw[←Int.pow_add,show P.length+(32-P.length)=32 from by omega] at this
    exact this
  have hor:Dj .or .u32 (IntKind.u32.wrap (x*2^(Min.min (32-((k:Int)+(P.length:Int))).toNat 32))) (Jb P*2^(32-P.length))=Jb (P++Gi x k)*2^(32-(P++Gi x k).length):=by
    rw[hsh,Nat.min_eq_left (by omega),IntKind.wrap_u32,Int.emod_eq_of_lt hx0 (by omega),j98 hx0 hxs p1 (by omega) hbb,hval,hlen,Int.add_mul,Int.mul_assoc,←Int.pow_add,show k+(32-(P.length+k))=32-P.length from by omega]
  obtain ⟨C,Q,q1,q2,q3,q4,q5⟩:=j6c _ (t:=H++Es B) (L:=P++Gi x k) rfl (by omega) hM
  refine ⟨B++C,Q,?_,q2,q3,?_,?_⟩
  · intro b hb
    rcases List.mem_append.1 hb with hb|hb
    · exact h1 b hb
    · exact q1 b hb
  · unfold jbk
    simp only
    rw[hor,show ((k:Int)+(P.length:Int))=(((P++Gi x k).length:Nat):Int) from by rw[hlen];omega,q4,jka,List.append_assoc]
  · rw[jqa,List.append_assoc,List.append_assoc,q5]
def Rd(D T:List Int)(at_ us:Int)(L:List Int):Prop:=
  ∃(n:Nat) (B:List Int),at_=n∧D.drop n=Es B++T∧Ey B∧0≤us∧us<8∧(B=[]→us=0)∧L=(Mz B).drop us.toNat
theorem Ow{D:List Int}{n:Nat}{c:Int}{r:List Int}(h:D.drop n=c::r):Bg D (n:Int)=c∧n<D.length∧D.drop (n+1)=r:=by
  have h1:(D.drop n)[0]? =some c:=by rw[h];rfl
  rw[List.getElem?_drop] at h1
  have h2:n<D.length:=by
    have:=congrArg List.length h
    rw[List.length_drop,List.length_cons] at this;omega
  refine ⟨?_,h2,?_⟩
  · show D.getD n 0=c
    rw[List.getD_eq_getElem?_getD,show n=n+0 from rfl,h1];rfl
  · rw[←List.drop_drop,h];rfl
theorem jqd{c us:Int}(h1:0≤us)(h2:us<8):(jd2 c).drop us.toNat=(c/2^(7-us).toNat % 2)::(jd2 c).drop (us+1).toNat:=by
  rcases (show us=0∨us=1∨us=2∨us=3∨us=4∨us=5∨us=6∨us=7 by omega) with h|h|h|h|h|h|h|h<;>subst h<;>rfl
theorem Qo(c:Int)(B:List Int):Mz (c::B)=jd2 c++Mz B:=rfl
theorem Xb(c:Int)(B:List Int):Es (c::B)=Oi c++Es B:=rfl
theorem Wb(c:Int):(jd2 c).length=8:=rfl
theorem jpn{D T:List Int}{at_ us x:Int}{L:List Int}(h:Rd D T at_ us (x::L)):rOk D at_ us=true∧rV D at_ us=x∧Rd D T (rAt D at_ us) (Rj us) L:=by
  obtain ⟨n,B,rfl,h2,h3,h4,h5,h6,h7⟩:=h
  cases B with
  | nil=>rw[h6 rfl] at h7;cases h7
  | cons c B=>
    have hB:Ey B:=fun b hb=>h3 b (List.mem_cons_of_mem _ hb)
    rw[Qo,List.drop_append_of_le_length (by rw[Wb];omega),jqd h4 h5,List.cons_append] at h7
    injection h7 with h7 h8
    rw[Xb] at h2
    have hat:Bg D (n:Int)=c∧n<D.length∧(c=255→Bg D ((n:Int)+1)=0∧n+1<D.length∧D.drop (n+2)=Es B++T)∧(c≠255→D.drop (n+1)=Es B++T):=by
      unfold Oi at h2
      split at h2
      · rename_i hc
        obtain ⟨g1,g2,g3⟩:=Ow (r:=0::(Es B++T)) (show D.drop n=255::_ from h2)
        obtain ⟨k1,k2,k3⟩:=Ow g3
        exact ⟨by rw[g1,hc],g2,fun _=>⟨k1,k2,k3⟩,fun hne=>absurd hc hne⟩
      · rename_i hc
        obtain ⟨g1,g2,g3⟩:=Ow (r:=Es B++T) (show D.drop n=c::_ from h2)
        exact ⟨g1,g2,fun h=>absurd h hc,fun _=>g3⟩
    obtain ⟨a1,a2,a3,a4⟩:=hat
    refine ⟨?_,?_,?_⟩
    · unfold rOk
      rw[a1]
      simp only[Bool.and_eq_true,Bool.or_eq_true,decide_eq_true_eq]
      refine ⟨by omega,?_⟩
      by_cases hc:c=255
      · exact Or.inr ⟨by have:=(a3 hc).2.1;omega,(a3 hc).1⟩
      · exact Or.inl hc
    · unfold rV;rw[a1,←h7]
    · unfold rAt Rj
      by_cases hu:us+1=8
      · rw[if_pos hu,if_pos hu,a1]
        have hd:(jd2 c).drop (us+1).toNat=[]:=by rw[hu];rfl
        rw[hd,List.nil_append] at h8
        split
        · rename_i hc
          exact ⟨n+2,B,by omega,(a3 hc).2.2,hB,by omega,by omega,fun _=>rfl,h8⟩
        · rename_i hc
          exact ⟨n+1,B,by omega,a4 hc,hB,by omega,by omega,fun _=>rfl,h8⟩
      · rw[if_neg hu,if_neg hu]
        refine ⟨n,c::B,rfl,by rw[Xb];exact h2,h3,by omega,by omega,fun h=>(nomatch h),?_⟩
        rw[Qo,List.drop_append_of_le_length (by rw[Wb];omega)]
        exact h8
theorem jwa{D T:List Int}{x:Int}: ∀{n:Nat} {v at_ us:Int} {L:List Int},Rd D T at_ us (Gi x n++L)→
    Ng D n at_ us=true∧ ∃at' us',Ez D n v at_ us=[v*2^n+x % 2^n,at',us']∧Rd D T at' us' L
  | 0,v,at_,us,L,h=>⟨rfl,at_,us,by simp only[Ez];congr 1;simp[Int.emod_one],h⟩
  | n+1,v,at_,us,L,h=>by
    obtain ⟨h1,h2,h3⟩:=jpn (show Rd D T at_ us ((x/2^n % 2)::(Gi x n++L)) from h)
    obtain ⟨g1,at',us',g2,g3⟩:=jwa (n:=n) (v:=2*v+rV D at_ us) h3
    refine ⟨by simp only[Ng,h1,g1,Bool.and_self],at',us',?_,g3⟩
    simp only[Ez]
    rw[g2,h2]
    congr 1
    have hp:=Gv n
    rw[Int.pow_succ,Zq (x:=x) (by omega),Int.add_mul]
    generalize x/2^n % 2=y
    generalize x % 2^n=z
    generalize (2:Int)^n=p
    have e1:2*v*p=v*(p*2):=by rw[Int.mul_comm 2 v,Int.mul_assoc,Int.mul_comm 2 p]
    have e2:y*p=p*y:=Int.mul_comm _ _
    omega
def jqw(cs sy:List Int):Nat→Int→Int→Int→List Int→Option (Int×List Int)
  | 0,_,_,_,_=>none
  | _+1,_,_,_,[]=>none
  | f+1,code,first,index,b::L=>
    if 2*code+b-first<Bg cs (16-f) then
      (if 0≤index+(2*code+b)-first∧index+(2*code+b)-first<sy.length then some (Bg sy (index+(2*code+b)-first),L) else none)
    else jqw cs sy f (2*code+b) (2*(first+Bg cs (16-f))) (index+Bg cs (16-f)) L
theorem jnw{cs sy:List Int}: ∀{f:Nat} {code first index v:Int} {L R M:List Int},jqw cs sy f code first index L=some (v,R)→jqw cs sy f code first index (L++M)=some (v,R++M)
  | 0,_,_,_,_,_,_,_,h=>by cases h
  | f+1,_,_,_,_,[],_,_,h=>by cases h
  | f+1,code,first,index,v,b::L,R,M,h=>by
    simp only[jqw,List.cons_append] at h⊢
    split at h
    · rename_i hc
      rw[if_pos hc]
      split at h
      · rename_i hi
        rw[if_pos hi]
        cases h;rfl
      · cases h
    · rename_i hc
      rw[if_neg hc]
      exact jnw h
theorem jso{D T cs sy:List Int}: ∀{f:Nat} {code first index v at_ us:Int} {L R:List Int},jqw cs sy f code first index L=some (v,R)→Rd D T at_ us L→
    Eh cs sy D f code first index at_ us=true∧ ∃at' us',Fm cs sy D f code first index at_ us=[v,at',us']∧Rd D T at' us' R
  | 0,_,_,_,_,_,_,_,_,h,_=>by cases h
  | f+1,_,_,_,_,_,_,[],_,h,_=>by cases h
  | f+1,code,first,index,v,at_,us,b::L,R,h,hr=>by
    obtain ⟨h1,h2,h3⟩:=jpn hr
    simp only[jqw] at h
    simp only[Eh,Fm,h2,h1,Bool.true_and]
    split at h
    · rename_i hc
      rw[if_pos hc,if_pos hc]
      split at h
      · rename_i hi
        cases h
        exact ⟨by simp only[Bool.and_eq_true,decide_eq_true_eq];exact hi,_,_,rfl,h3⟩
      · cases h
    · rename_i hc
      rw[if_neg hc,if_neg hc]
      exact jso h h3
def Oe(h:Nat)(v:Int):Int:=(Kv.getD h []).getD v.toNat 0
def jhm(h:Nat)(v:Int):List Int:=Gi (Oe h v % 16777216) (Oe h v/16777216).toNat
def jad(h:Nat)(v:Int):Bool:=decide (jqw (Bl h) (At h) 16 0 0 0 (jhm h v)=some (v,[]))
def jbv(h:Nat)(v:Int):Bool:=decide (0≤Oe h v)&&(decide (Oe h v % 16777216<2^(Oe h v/16777216).toNat)&&decide ((Oe h v/16777216).toNat≤16))
theorem qav:(List.range 2).all (fun q=>(List.range 12).all fun n=>jad (2*q) (n:Int)&&jbv (2*q) (n:Int))=true:=by decide+kernel
theorem qce:(List.range 2).all (fun q=>(List.range 16).all fun r=>(List.range 10).all fun n=>jad (2*q+1) (r*16+(n+1):Nat)&&jbv (2*q+1) (r*16+(n+1):Nat))=true:=by decide+kernel
theorem jy0:(List.range 2).all (fun q=>jad (2*q+1) 0&&(jbv (2*q+1) 0&&(jad (2*q+1) 240&&jbv (2*q+1) 240)))=true:=by decide+kernel
def jn6(h:Nat)(v:Int):Prop:=jad h v=true∧jbv h v=true
theorem jku{q:Nat}(hq:q<2){n:Int}(h0:0≤n)(h1:n≤11):jn6 (2*q) n:=by
  obtain ⟨n,rfl⟩:=Int.eq_ofNat_of_zero_le h0
  have:=List.all_eq_true.1 (List.all_eq_true.1 qav q (List.mem_range.2 hq)) n (List.mem_range.2 (by omega))
  simp only[Bool.and_eq_true] at this
  exact this
theorem jsi{q:Nat}(hq:q<2){r n:Int}(hr0:0≤r)(hr1:r≤15)(h0:1≤n)(h1:n≤10):jn6 (2*q+1) (r*16+n):=by
  obtain ⟨r,rfl⟩:=Int.eq_ofNat_of_zero_le hr0
  obtain ⟨n,rfl⟩:=Int.eq_ofNat_of_zero_le (show 0≤n by omega)
  have:=List.all_eq_true.1 (List.all_eq_true.1 (List.all_eq_true.1 qce q (List.mem_range.2 hq)) r (List.mem_range.2 (by omega))) (n-1) (List.mem_range.2 (by omega))
  simp only[Bool.and_eq_true] at this
  rw[show ((r*16+(n-1+1):Nat):Int)=(r:Int)*16+n from by omega] at this
  exact this
theorem jmw{q:Nat}(hq:q<2):jn6 (2*q+1) 0:=by
  have:=List.all_eq_true.1 jy0 q (List.mem_range.2 hq)
  simp only[Bool.and_eq_true] at this
  exact ⟨this.1,this.2.1⟩
theorem jnj{q:Nat}(hq:q<2):jn6 (2*q+1) 240:=by
  have:=List.all_eq_true.1 jy0 q (List.mem_range.2 hq)
  simp only[Bool.and_eq_true] at this
  exact ⟨this.2.2.1,this.2.2.2⟩
theorem jla{D T:List Int}{h:Nat}{v at_ us:Int}{L:List Int}(hf:jn6 h v)(hr:Rd D T at_ us (jhm h v++L)):
    Gz (Bl h) (At h) D at_ us=true∧ ∃at' us',Bm (Bl h) (At h) D at_ us=[v,at',us']∧Rd D T at' us' L:=by
  have h1:=jnw (M:=L) (of_decide_eq_true hf.1)
  rw[List.nil_append] at h1
  exact jso h1 hr
theorem jg1{H:List Int}{s:St}{L:List Int}{h:Nat}{v:Int}(hf:jn6 h v)(hr:Rep H s L):Rep H (Zh h s v) (L++jhm h v):=by
  have h2:=hf.2
  unfold jbv at h2
  simp only[Bool.and_eq_true,decide_eq_true_eq] at h2
  unfold Zh
  simp only
  have e:(Oe h v/16777216)=((Oe h v/16777216).toNat:Int):=by omega
  have h3:=Rk hr (x:=Oe h v % 16777216) (k:=(Oe h v/16777216).toNat) (by omega) h2.2.1 h2.2.2
  rw[←e] at h3
  exact h3
end
end Go.Proofs.YtljjbikbfeigdaaGreatDoor
