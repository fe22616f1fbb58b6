/- Part of the proof of FnColorEdgesCardSaid: Contracts of the specification's reader shown: bits, numbers, symbols. -/
import Derived.Test.YtljjbikbfeigdaaGreatDoorCe15
set_option linter.all false
namespace Go.Proofs.YtljjbikbfeigdaaGreatDoor
noncomputable section
open Go
theorem jq4(x y:Int)(D:List Int):Z.fi 200 x y 0 0 D [] [] []=rV D x y:=id rfl
theorem jrf(x y:Int)(D:List Int):Z.fi 201 x y 0 0 D [] [] []=rAt D x y:=id rfl
theorem jrh(x y:Int)(D:List Int):Z.fi 202 x y 0 0 D [] [] []=Rj y:=id rfl
theorem jfq(x y:Int)(D:List Int):Z.fb 200 x y 0 0 D [] [] []=rOk D x y:=id rfl
theorem Tm(x y:Int)(D:List Int):Z.fb 2 x y 0 0 D [] [] []=Bn x y D:=id rfl
theorem j66{x:Int}{n:Nat}:x.fdiv (2^n)=x/2^n:=Int.fdiv_eq_ediv_of_nonneg _ (Int.le_of_lt (Gv n))
theorem qk8{x:Int}(h0:0≤x)(h1:x≤255):Dj .and .i64 x 1=x % 2:=by
  have key: ∀a:Fin 256,Dj .and .i64 ((a.val:Nat):Int) 1=((a.val:Nat):Int) % 2:=by decide+kernel
  obtain ⟨a,rfl⟩:=Int.eq_ofNat_of_zero_le h0
  exact key ⟨a,by omega⟩
theorem jy4{x:Int}{n:Nat}(h0:0≤x)(h1:x≤255):0≤x/2^n∧x/2^n≤255:=by
  have hp:=Gv n
  refine ⟨Int.ediv_nonneg h0 (by omega),?_⟩
  have:x/2^n≤x:=Int.ediv_le_self _ h0
  omega
theorem qge{D:List Int}{a u:Int}(h0:0≤Bg D a)(h1:Bg D a≤255)(hu:0≤u)(hu2:u≤7):Dj .and .i64 ((Bg D a).fdiv (2^min (7-u).toNat IntKind.u8.bits)) 1=rV D a u∧0≤(Bg D a).fdiv (2^min (7-u).toNat IntKind.u8.bits)∧(Bg D a).fdiv (2^min (7-u).toNat IntKind.u8.bits)≤255:=by
  have hm:min (7-u).toNat IntKind.u8.bits=(7-u).toNat:=by show min _ 8=_;omega
  rw[hm,j66]
  have hb:=jy4 (n:=(7-u).toNat) h0 h1
  exact ⟨qk8 hb.1 hb.2,hb⟩
theorem Ck(D:List Int)(n:Int):D.getD n.toNat 0=Bg D n:=rfl
def qeq:VC:=
 let t0:T:=.fi 202 (.iv 0) (.iv 1) (.lit 0) (.lit 0) (.av 1) (.alit []) (.alit []) (.alit [])
 let t1:T:=.eq t0 (.iv 1)
 let t2:T:=.fi 201 (.iv 0) (.iv 1) (.lit 0) (.lit 0) (.av 1) (.alit []) (.alit []) (.alit [])
 let t3:T:=.eq t2 (.iv 0)
 let t4:T:=.fi 200 (.iv 0) (.iv 1) (.lit 0) (.lit 0) (.av 1) (.alit []) (.alit []) (.alit [])
 let t5:T:=.eq t4 (.lit 0)
 let t6:T:=.lit (-9223372036854775808)
 let t7:T:=.add (.iv 0) (.lit 1)
 let t8:T:=.lit 9223372036854775807
 let t9:T:=.sub (.lit 7) (.iv 1)
 let t10:T:=.shr .u8 (.get (.av 1) (.iv 0)) t9
 let t13:T:=.add (.iv 1) (.lit 1)
 let t14:T:=.add t7 (.lit 1)
 let t16:T:=.eq t4 (.bits .and .i64 t10 (.lit 1))
 (.need [(.le (.lit 0) (.iv 6))] (.cond (.le (.iv 6) (.iv 0)) (.need [t1,t3,t5,.ff] .done) (.need [(.lt (.iv 0) (.iv 6))] (.need [(.lt (.iv 0) (.len (.av 1)))] (.cond (.eq (.get (.av 1) (.iv 0)) (.lit 255)) (.need [(.le t6 t7),(.le t7 t8)] (.cond (.le (.iv 6) t7) (.need [t1,t3,t5,.ff] .done) (.need [(.le (.lit 0) t7),(.lt t7 (.iv 6))] (.need [(.lt t7 (.len (.av 1)))] (.cond (.not (.eq (.get (.av 1) t7) (.lit 0))) (.need [t1,t3,t5,.ff] .done) (.need [(.le t6 t9),(.le t9 t8)] (.need [(.le (.lit 0) t9)] (.need [(.le t6 t10),(.le t10 t8)] (.need [(.le t6 t13),(.le t13 t8)] (.cond (.eq t13 (.lit 8)) (.need [(.le t6 t14),(.le t14 t8)] (.need [(.eq t0 (.lit 0)),(.eq t2 t14),t16] .done)) (.need [(.eq t0 t13),t3,t16] .done))))))))))) (.need [(.le t6 t9),(.le t9 t8)] (.need [(.le (.lit 0) t9)] (.need [(.le t6 t10),(.le t10 t8)] (.need [(.le t6 t13),(.le t13 t8)] (.cond (.eq t13 (.lit 8)) (.need [(.le t6 t7),(.le t7 t8)] (.need [(.eq t0 (.lit 0)),(.eq t2 t7),t16] .done)) (.need [(.eq t0 t13),t3,t16] .done)))))))))))
theorem w76:Dd (Db Tryz.prog Jt Jq ⟨jph 0,Ke⟩ 100000 76 c76) qeq=true:=by kernel_rfl
theorem qd5:Cf Tryz.prog Z 76 c76:=by
  refine Bf Cq Cn w76 fun ρ h=> ?_
  simp only[c76,bS,Zx,prV,bD,jef,Ny,fD,Mc,Du,z0,Gl,Tm,jfq,Bi,Di,List.flatMap_cons,List.flatMap_nil,List.append_nil,List.append_assoc,List.cons_append,List.nil_append,and_true,↓qA,qB,and_true,implies_true,T.I,T.A,T.B,VC.sem] at h
  obtain ⟨h1,h2,h3,h4,h5,h6,h7,h8⟩:=h
  simp only[rOk,Bool.and_eq_true,Bool.or_eq_true,decide_eq_true_eq] at h8
  have hb:=Ct h4 (n:=ρ.i 0) (by omega) (by omega)
  obtain ⟨v1,v2,v3⟩:=qge hb.1 hb.2 h6 h7
  simp only[qeq,↓qA,qB,and_true,implies_true,T.I,T.A,T.B,VC.sem,Ck,jq4,jrf,jrh,v1,rAt,Rj]
  (repeat' (first|refine And.intro ?_ ?_|intro _))<;>(try trivial)<;>(try omega)<;>(try (simp only[Tu,imx,Dk,IntKind.wrap_u32,IntKind.wrap_i32,IntKind.wrap_u8] at*;omega))
theorem jbo: ∀f s,spG f=some s→Ei Tryz.prog Z f s:=by
  intro f s h
  unfold spG at h
  split at h
  · cases h;exact Dq qd5
  · cases h
theorem j07(x:Int)(D:List Int):Z.fi 209 x 0 0 0 D [] [] []=2^x.toNat-1:=id rfl
theorem Uu(x y z:Int)(D:List Int):Z.fb 203 x y z 0 D [] [] []=Ng D x.toNat y z:=id rfl
theorem qew(x y z u:Int)(D:List Int):Z.fa 203 x y z u D [] [] []=Ez D x.toNat y z u:=id rfl
theorem jjl(x y z:Int)(D:List Int):Z.fi 204 x y z 0 D [] [] []=e0 (Ez D x.toNat 0 y z):=id rfl
theorem jkg(x y z:Int)(D:List Int):Z.fi 205 x y z 0 D [] [] []=e1 (Ez D x.toNat 0 y z):=id rfl
theorem jlg(x y z:Int)(D:List Int):Z.fi 206 x y z 0 D [] [] []=e2 (Ez D x.toNat 0 y z):=id rfl
theorem jmp(x y z:Int)(D:List Int):Z.fi 208 x y z 0 D [] [] []=sgn x (e0 (Ez D x.toNat 0 y z)):=id rfl
theorem jhx(D:List Int)(a u:Int):0≤rV D a u∧rV D a u≤1:=by unfold rV;omega
theorem Kz{D:List Int}{a u:Int}(h:0≤a):0≤rAt D a u:=by unfold rAt;split<;>(try split)<;>omega
theorem Lq{u:Int}(h0:0≤u)(h1:u≤7):0≤Rj u∧Rj u≤7:=by unfold Rj;split<;>omega
theorem or1{v b:Int}(h0:0≤v)(h1:v≤1099511627776)(hb:0≤b)(hb1:b≤1):Dj .or .i64 (v*2) b=2*v+b:=by
  obtain ⟨v,rfl⟩:=Int.eq_ofNat_of_zero_le h0
  obtain ⟨b,rfl⟩:=Int.eq_ofNat_of_zero_le hb
  have e:((v:Int)*2)=((2^1*v:Nat):Int):=by omega
  rw[e]
  have key:((BitVec.ofInt 64 ((2^1*v:Nat):Int)|||BitVec.ofInt 64 (b:Int):BitVec 64)).toNat=2^1*v+b:=by
    rw[BitVec.ofInt_natCast,BitVec.ofInt_natCast,BitVec.toNat_or,BitVec.toNat_ofNat,BitVec.toNat_ofNat,Nat.mod_eq_of_lt (by omega:2^1*v<2^64),Nat.mod_eq_of_lt (by omega:b<2^64),←Nat.two_pow_add_eq_or_of_lt (by omega:b<2^1)]
  show IntKind.i64.wrap ((((BitVec.ofInt 64 ((2^1*v:Nat):Int)|||BitVec.ofInt 64 (b:Int):BitVec 64)).toNat:Nat):Int)=_
  rw[key,IntKind.wrap_i64]
  omega
theorem jf8{D:List Int}{m a u:Int}(h:0<m):Ng D m.toNat a u=(rOk D a u&&Ng D (m-1).toNat (rAt D a u) (Rj u)):=by
  rw[show m.toNat=(m-1).toNat+1 from by omega];rfl
theorem jvt{D:List Int}{m v a u:Int}(h:0<m):Ez D m.toNat v a u=Ez D (m-1).toNat (2*v+rV D a u) (rAt D a u) (Rj u):=by
  rw[show m.toNat=(m-1).toNat+1 from by omega];rfl
theorem Vg{m:Int}(h:0≤m):(2:Int)^(m+1).toNat=2*2^m.toNat:=by
  rw[show (m+1).toNat=m.toNat+1 from by omega,Int.pow_succ,Int.mul_comm]
theorem Nk{m:Int}(h1:m≤16):(2:Int)^m.toNat≤65536:=by
  have:=Nat.pow_le_pow_right (show 0<2 by omega) (show m.toNat≤16 by omega)
  have e:((2^m.toNat:Nat):Int)=(2:Int)^m.toNat:=by simp
  omega
def j7y:VC:=
 let t0:T:=.lit 0
 let t1:T:=.alit []
 let t2:T:=.fa 203 (.iv 2) t0 (.iv 0) (.iv 1) (.av 1) t1 t1 t1
 let t3:T:=.sub (.iv 2) (.iv 1001)
 let t4:T:=.add (.iv 1001) (.lit 1)
 let t5:T:=.bits .or .i64 (.mul (.iv 1000) (.lit 2)) (.fi 200 (.iv 1002) (.iv 1003) t0 t0 (.av 1) t1 t1 t1)
 let t6:T:=.fi 201 (.iv 1002) (.iv 1003) t0 t0 (.av 1) t1 t1 t1
 let t7:T:=.fi 202 (.iv 1002) (.iv 1003) t0 t0 (.av 1) t1 t1 t1
 let t8:T:=.sub (.iv 2) t4
 (.need [(.le t0 t0),(.le t0 t0),(.le t0 (.fi 209 t0 t0 t0 t0 (.av 1) t1 t1 t1)),(.fb 203 (.sub (.iv 2) t0) (.iv 0) (.iv 1) t0 (.av 1) t1 t1 t1),(.aeq (.fa 203 (.sub (.iv 2) t0) t0 (.iv 0) (.iv 1) (.av 1) t1 t1 t1) t2)] (.any 1000 1000000000 [(.le t0 (.iv 1001)),(.le (.iv 1001) (.iv 2)),(.le t0 (.iv 1000)),(.le (.iv 1000) (.fi 209 (.iv 1001) t0 t0 t0 (.av 1) t1 t1 t1)),(.le t0 (.iv 1002)),(.le t0 (.iv 1003)),(.le (.iv 1003) (.lit 7)),(.fb 203 t3 (.iv 1002) (.iv 1003) t0 (.av 1) t1 t1 t1),(.aeq (.fa 203 t3 (.iv 1000) (.iv 1002) (.iv 1003) (.av 1) t1 t1 t1) t2)] (.cond (.lt (.iv 1001) (.iv 2)) (.need [(.le (.lit (-9223372036854775808)) (.mul (.iv 1000) (.lit 2))),(.le (.mul (.iv 1000) (.lit 2)) (.lit 9223372036854775807))] (.need [(.fb 200 (.iv 1002) (.iv 1003) t0 t0 (.av 1) t1 t1 t1)] (.need [(.le (.lit (-9223372036854775808)) t4),(.le t4 (.lit 9223372036854775807))] (.need [(.le t0 t4),(.le t4 (.iv 2)),(.le t0 t5),(.le t5 (.fi 209 t4 t0 t0 t0 (.av 1) t1 t1 t1)),(.le t0 t6),(.le t0 t7),(.le t7 (.lit 7)),(.fb 203 t8 t6 t7 t0 (.av 1) t1 t1 t1),(.aeq (.fa 203 t8 t5 t6 t7 (.av 1) t1 t1 t1) t2),(.lt t0 t3),(.lt t8 t3)] .done)))) (.need [(.eq (.fi 206 (.iv 2) (.iv 0) (.iv 1) t0 (.av 1) t1 t1 t1) (.iv 1003)),(.eq (.fi 205 (.iv 2) (.iv 0) (.iv 1) t0 (.av 1) t1 t1 t1) (.iv 1002)),(.eq (.fi 204 (.iv 2) (.iv 0) (.iv 1) t0 (.av 1) t1 t1 t1) (.iv 1000))] .done))))
theorem qm7:Dd (Db Tryz.prog spG Jq ⟨jph 0,Ke⟩ 100000 103 jw3) j7y=true:=by kernel_rfl
theorem j46:Cf Tryz.prog Z 103 jw3:=by
  refine Bf jbo Cn qm7 fun ρ h=> ?_
  simp only[jw3,bS,Zx,prV,bD,jef,Ny,fD,Mc,Du,z0,Gl,Tm,Uu,Bi,Di,List.flatMap_cons,List.flatMap_nil,List.append_nil,List.append_assoc,List.cons_append,List.nil_append,and_true,↓qA,qB,and_true,implies_true,T.I,T.A,T.B,VC.sem] at h
  obtain ⟨h1,h2,h3,h4,h5,h6,h7,h8,h9,h10⟩:=h
  have p1:=Vg (m:=ρ.i 1001)
  have p2:=Nk (m:=ρ.i 1001)
  have r1:=jhx (ρ.a 1) (ρ.i 1002) (ρ.i 1003)
  have r2:=Kz (D:=ρ.a 1) (a:=ρ.i 1002) (u:=ρ.i 1003)
  have r3:=Lq (u:=ρ.i 1003)
  have r4:=fun h0 h1=>or1 (v:=ρ.i 1000) (b:=rV (ρ.a 1) (ρ.i 1002) (ρ.i 1003)) h0 h1 r1.1 r1.2
  simp only[j7y,↓qA,qB,and_true,implies_true,T.I,T.A,T.B,VC.sem,jq4,jrf,jrh,jjl,jkg,jlg,j07,jfq,Uu,qew,Int.sub_zero]
  (repeat' (first|refine And.intro ?_ ?_|intro _))<;>(try trivial)<;>(try omega)
  · have e:= ‹Ng (ρ.a 1) (ρ.i 2-ρ.i 1001).toNat (ρ.i 1002) (ρ.i 1003)=true›
    rw[jf8 (by omega),Bool.and_eq_true] at e
    exact e.1
  · have e:= ‹Ng (ρ.a 1) (ρ.i 2-ρ.i 1001).toNat (ρ.i 1002) (ρ.i 1003)=true›
    rw[jf8 (by omega),Bool.and_eq_true] at e
    rw[show ρ.i 2-(ρ.i 1001+1)=ρ.i 2-ρ.i 1001-1 from by omega]
    exact e.2
  · rw[r4 (by omega) (by omega),show ρ.i 2-(ρ.i 1001+1)=ρ.i 2-ρ.i 1001-1 from by omega,←jvt (by omega)]
    assumption
  · have e:= ‹Ez (ρ.a 1) (ρ.i 2-ρ.i 1001).toNat _ _ _=_›
    rw[show (ρ.i 2-ρ.i 1001).toNat=0 from by omega] at e
    rw[←e];rfl
  · have e:= ‹Ez (ρ.a 1) (ρ.i 2-ρ.i 1001).toNat _ _ _=_›
    rw[show (ρ.i 2-ρ.i 1001).toNat=0 from by omega] at e
    rw[←e];rfl
  · have e:= ‹Ez (ρ.a 1) (ρ.i 2-ρ.i 1001).toNat _ _ _=_›
    rw[show (ρ.i 2-ρ.i 1001).toNat=0 from by omega] at e
    rw[←e];rfl
theorem qbu: ∀f s,spH f=some s→Ei Tryz.prog Z f s:=by
  intro f s h
  unfold spH at h
  split at h
  · cases h;exact Dq j46
  · cases h
theorem jnd(D:List Int): ∀(n:Nat) (v a u:Int),0≤v→0≤e0 (Ez D n v a u)∧e0 (Ez D n v a u)<(v+1)*2^n
  | 0,v,a,u,h=>by simp only[Ez,e0];simp;omega
  | n+1,v,a,u,h=>by
    have r:=jhx D a u
    have ih:=jnd D n (2*v+rV D a u) (rAt D a u) (Rj u) (by omega)
    refine ⟨ih.1,?_⟩
    simp only[Ez]
    refine Int.lt_of_lt_of_le ih.2 ?_
    have hp:=Gv n
    have:(2*v+rV D a u+1)*2^n≤(2*(v+1))*2^n:=Int.mul_le_mul_of_nonneg_right (by omega) (by omega)
    rw[Int.pow_succ]
    have e:(v+1)*(2^n*2)=(2*(v+1))*2^n:=by rw[Int.mul_comm (2^n) 2,←Int.mul_assoc,Int.mul_comm (v+1) 2]
    omega
def j8k:VC:=
 let t0:T:=.lit (-9223372036854775808)
 let t1:T:=.sub (.iv 2) (.lit 1)
 let t2:T:=.lit 9223372036854775807
 let t3:T:=.shl .i64 (.lit 1) t1
 let t4:T:=.fi 204 (.iv 2) (.iv 0) (.iv 1) (.lit 0) (.av 1) (.alit []) (.alit []) (.alit [])
 let t6:T:=.not (.lt t4 t3)
 let t7:T:=.sub (.shl .i64 (.lit 1) (.iv 2)) (.lit 1)
 let t8:T:=.sub t4 t7
 let t9:T:=.fi 208 (.iv 2) (.iv 0) (.iv 1) (.lit 0) (.av 1) (.alit []) (.alit []) (.alit [])
 (.cond (.lt (.lit 0) (.iv 2)) (.need [(.le t0 t1),(.le t1 t2)] (.need [(.le (.lit 0) t1),(.le t0 t3),(.le t3 t2)] (.need [(.or t6 (.le (.lit 0) (.iv 2))),(.or t6 (.le t0 (.shl .i64 (.lit 1) (.iv 2)))),(.or t6 (.le (.shl .i64 (.lit 1) (.iv 2)) t2)),(.or t6 (.le t0 t7)),(.or t6 (.le t7 t2)),(.or t6 (.le t0 t8)),(.or t6 (.le t8 t2))] (.need [(.eq t9 (.ite (.lt t4 t3) t8 t4))] .done)))) (.need [(.eq t9 t4)] .done))
theorem qkj:Dd (Db Tryz.prog spH Jq ⟨jph 0,Ke⟩ 100000 101 j5o) j8k=true:=by kernel_rfl
theorem jt0{n:Int}(h1:n≤63):(1:Int)*2^min n.toNat IntKind.i64.bits=2^n.toNat:=by
  rw[Int.one_mul,show min n.toNat IntKind.i64.bits=n.toNat from by show min _ 64=_;omega]
theorem jja:Cf Tryz.prog Z 101 j5o:=by
  refine Bf qbu Cn qkj fun ρ h=> ?_
  simp only[j5o,jw3,bS,Zx,prV,bD,jef,Ny,fD,Mc,Du,z0,Gl,Tm,Uu,Bi,Di,List.flatMap_cons,List.flatMap_nil,List.append_nil,List.append_assoc,List.cons_append,List.nil_append,and_true,↓qA,qB,and_true,implies_true,T.I,T.A,T.B,VC.sem] at h
  obtain ⟨h1,h2,h3,h4,h5,h6,h7,h8,h9,h10⟩:=h
  have s1:=jt0 (n:=ρ.i 2) (by omega)
  have s2:=jt0 (n:=ρ.i 2-1) (by omega)
  have p1:=Nk h9
  have p2:=Nk (m:=ρ.i 2-1) (by omega)
  have q1:=Gv (ρ.i 2).toNat
  have q2:=Gv (ρ.i 2-1).toNat
  have q3:=jnd (ρ.a 1) (ρ.i 2).toNat 0 (ρ.i 0) (ρ.i 1) (by omega)
  simp only[j8k,↓qA,qB,and_true,implies_true,T.I,T.A,T.B,VC.sem,jjl,jkg,jlg,jmp,Uu,s1,s2,sgn,Ea]
  (repeat' (first|refine And.intro ?_ ?_|intro _))<;>(try trivial)<;>(try omega)
theorem qbt(x y:Int)(D:List Int):Z.fi 220 x y 0 0 D [] [] []=e0 (Bm (Bl 0) (At 0) D x y):=id rfl
theorem qbg(x y:Int)(D:List Int):Z.fi 230 x y 0 0 D [] [] []=e1 (Bm (Bl 0) (At 0) D x y):=id rfl
theorem j9v(x y:Int)(D:List Int):Z.fi 240 x y 0 0 D [] [] []=e2 (Bm (Bl 0) (At 0) D x y):=id rfl
theorem jxa(x y:Int)(D:List Int):Z.fb 220 x y 0 0 D [] [] []=Gz (Bl 0) (At 0) D x y:=id rfl
theorem qg6(x y z u a v:Int)(D:List Int):Z.fb 210 x y z u D ([a]++ [v]) [] []=Eh (Bl 0) (At 0) D (17-x).toNat y z u a v:=id rfl
theorem qi5(x y z u a v:Int)(D:List Int):Z.fa 210 x y z u D ([a]++ [v]) [] []=Fm (Bl 0) (At 0) D (17-x).toNat y z u a v:=id rfl
theorem qhz:Z.fa 300 0 0 0 0 [] [] [] []=Bl 0:=id rfl
theorem j0i:Z.fa 310 0 0 0 0 [] [] [] []=At 0:=id rfl
theorem j9a(x y:Int)(D:List Int):Z.fi 221 x y 0 0 D [] [] []=e0 (Bm (Bl 1) (At 1) D x y):=id rfl
theorem qbn(x y:Int)(D:List Int):Z.fi 231 x y 0 0 D [] [] []=e1 (Bm (Bl 1) (At 1) D x y):=id rfl
theorem j9h(x y:Int)(D:List Int):Z.fi 241 x y 0 0 D [] [] []=e2 (Bm (Bl 1) (At 1) D x y):=id rfl
theorem jzf(x y:Int)(D:List Int):Z.fb 221 x y 0 0 D [] [] []=Gz (Bl 1) (At 1) D x y:=id rfl
theorem qi7(x y z u a v:Int)(D:List Int):Z.fb 211 x y z u D ([a]++ [v]) [] []=Eh (Bl 1) (At 1) D (17-x).toNat y z u a v:=id rfl
theorem qfi(x y z u a v:Int)(D:List Int):Z.fa 211 x y z u D ([a]++ [v]) [] []=Fm (Bl 1) (At 1) D (17-x).toNat y z u a v:=id rfl
theorem qfc:Z.fa 301 0 0 0 0 [] [] [] []=Bl 1:=id rfl
theorem j0z:Z.fa 311 0 0 0 0 [] [] [] []=At 1:=id rfl
theorem qcg(x y:Int)(D:List Int):Z.fi 222 x y 0 0 D [] [] []=e0 (Bm (Bl 2) (At 2) D x y):=id rfl
theorem qbi(x y:Int)(D:List Int):Z.fi 232 x y 0 0 D [] [] []=e1 (Bm (Bl 2) (At 2) D x y):=id rfl
theorem qcf(x y:Int)(D:List Int):Z.fi 242 x y 0 0 D [] [] []=e2 (Bm (Bl 2) (At 2) D x y):=id rfl
theorem jyy(x y:Int)(D:List Int):Z.fb 222 x y 0 0 D [] [] []=Gz (Bl 2) (At 2) D x y:=id rfl
theorem qj3(x y z u a v:Int)(D:List Int):Z.fb 212 x y z u D ([a]++ [v]) [] []=Eh (Bl 2) (At 2) D (17-x).toNat y z u a v:=id rfl
theorem qgw(x y z u a v:Int)(D:List Int):Z.fa 212 x y z u D ([a]++ [v]) [] []=Fm (Bl 2) (At 2) D (17-x).toNat y z u a v:=id rfl
theorem qh0:Z.fa 302 0 0 0 0 [] [] [] []=Bl 2:=id rfl
theorem j86:Z.fa 312 0 0 0 0 [] [] [] []=At 2:=id rfl
theorem qia(x y:Int)(D:List Int):Z.fi 223 x y 0 0 D [] [] []=e0 (Bm (Bl 3) (At 3) D x y):=id rfl
theorem qit(x y:Int)(D:List Int):Z.fi 233 x y 0 0 D [] [] []=e1 (Bm (Bl 3) (At 3) D x y):=id rfl
theorem qg0(x y:Int)(D:List Int):Z.fi 243 x y 0 0 D [] [] []=e2 (Bm (Bl 3) (At 3) D x y):=id rfl
theorem j6z(x y:Int)(D:List Int):Z.fb 223 x y 0 0 D [] [] []=Gz (Bl 3) (At 3) D x y:=id rfl
theorem qix(x y z u a v:Int)(D:List Int):Z.fb 213 x y z u D ([a]++ [v]) [] []=Eh (Bl 3) (At 3) D (17-x).toNat y z u a v:=id rfl
theorem qih(x y z u a v:Int)(D:List Int):Z.fa 213 x y z u D ([a]++ [v]) [] []=Fm (Bl 3) (At 3) D (17-x).toNat y z u a v:=id rfl
theorem qfe:Z.fa 303 0 0 0 0 [] [] [] []=Bl 3:=id rfl
theorem j71:Z.fa 313 0 0 0 0 [] [] [] []=At 3:=id rfl
theorem Fa{cs sy D:List Int}{l code first index a u:Int}(h:l≤16):Eh cs sy D (17-l).toNat code first index a u=
    (rOk D a u&&(if 2*code+rV D a u-first<Bg cs l then decide (0≤index+(2*code+rV D a u)-first)&&decide (index+(2*code+rV D a u)-first<sy.length)
      else Eh cs sy D (17-(l+1)).toNat (2*code+rV D a u) (2*(first+Bg cs l)) (index+Bg cs l) (rAt D a u) (Rj u))):=by
  rw[show (17-l).toNat=(16-l).toNat+1 from by omega,show (17-(l+1)).toNat=(16-l).toNat from by omega]
  simp only[Eh]
  rw[show (16:Int)-((16-l).toNat:Int)=l from by omega]
theorem Fv{cs sy D:List Int}{l code first index a u:Int}(h:l≤16):Fm cs sy D (17-l).toNat code first index a u=
    (if 2*code+rV D a u-first<Bg cs l then [Bg sy (index+(2*code+rV D a u)-first),rAt D a u,Rj u]
      else Fm cs sy D (17-(l+1)).toNat (2*code+rV D a u) (2*(first+Bg cs l)) (index+Bg cs l) (rAt D a u) (Rj u)):=by
  rw[show (17-l).toNat=(16-l).toNat+1 from by omega,show (17-(l+1)).toNat=(16-l).toNat from by omega]
  simp only[Fm]
  rw[show (16:Int)-((16-l).toNat:Int)=l from by omega]
theorem Ft{cs sy D:List Int}{l code first index a u:Int}(h:16<l):Eh cs sy D (17-l).toNat code first index a u=false:=by
  rw[show (17-l).toNat=0 from by omega];rfl
theorem j3c:(List.range 4).all (fun h=>(Bl h).all fun x=>decide (0≤x)&&decide (x≤162))=true:=by decide+kernel
theorem jdm{h:Nat}(hh:h<4)(l:Int):0≤Bg (Bl h) l∧Bg (Bl h) l≤162:=by
  have h1:=List.all_eq_true.1 j3c h (List.mem_range.2 hh)
  unfold Bg
  rw[List.getD_eq_getElem?_getD]
  cases hi:(Bl h)[l.toNat]? with
  | none=>simp
  | some x=>
    have:=List.all_eq_true.1 h1 x (List.mem_of_getElem? hi)
    simp only[Bool.and_eq_true,decide_eq_true_eq] at this
    exact this
def jsc:VC:=
 let t0:T:=.lit 1
 let t1:T:=.lit 0
 let t2:T:=.alit []
 let t3:T:=.fi 209 (.sub t0 t0) t1 t1 t1 (.av 1) t2 t2 t2
 let t4:T:=.splice (.set (.alit [0]) t1 (.iv 0)) (.len (.set (.alit [0]) t1 (.iv 0))) (.set (.alit [0]) t1 (.iv 1))
 let t5:T:=.fa 210 t0 t1 t1 t1 (.av 1) t4 t2 t2
 let t6:T:=.fi 209 (.sub (.iv 1003) t0) t1 t1 t1 (.av 1) t2 t2 t2
 let t7:T:=.splice (.set (.alit [0]) t1 (.iv 1004)) (.len (.set (.alit [0]) t1 (.iv 1004))) (.set (.alit [0]) t1 (.iv 1005))
 let t8:T:=.lit (-9223372036854775808)
 let t9:T:=.lit 9223372036854775807
 let t10:T:=.bits .or .i64 (.mul (.iv 1000) (.lit 2)) (.fi 200 (.iv 1004) (.iv 1005) t1 t1 (.av 1) t2 t2 t2)
 let t11:T:=.sub t10 (.iv 1001)
 let t12:T:=.get (.fa 300 t1 t1 t1 t1 t2 t2 t2 t2) (.iv 1003)
 let t13:T:=.add (.iv 1002) t10
 let t14:T:=.sub t13 (.iv 1001)
 let t15:T:=.fa 310 t1 t1 t1 t1 t2 t2 t2 t2
 let t16:T:=.fi 240 (.iv 0) (.iv 1) t1 t1 (.av 1) t2 t2 t2
 let t17:T:=.fi 202 (.iv 1004) (.iv 1005) t1 t1 (.av 1) t2 t2 t2
 let t18:T:=.fi 230 (.iv 0) (.iv 1) t1 t1 (.av 1) t2 t2 t2
 let t19:T:=.fi 201 (.iv 1004) (.iv 1005) t1 t1 (.av 1) t2 t2 t2
 let t20:T:=.fi 220 (.iv 0) (.iv 1) t1 t1 (.av 1) t2 t2 t2
 let t21:T:=.add (.iv 1002) t12
 let t22:T:=.add (.iv 1001) t12
 let t23:T:=.mul t22 (.lit 2)
 let t24:T:=.add (.iv 1003) t0
 let t25:T:=.fi 209 (.sub t24 t0) t1 t1 t1 (.av 1) t2 t2 t2
 let t26:T:=.set (.alit [0]) t1 t19
 let t27:T:=.splice t26 (.len t26) (.set (.alit [0]) t1 t17)
 (.need [(.le t0 t0),(.le t0 (.lit 17)),(.le t1 t1),(.le t1 t3),(.le t1 t1),(.le t1 (.mul (.lit 400) t3)),(.le t1 t1),(.le t1 (.mul (.lit 200) t0)),(.fb 210 t0 t1 t1 t1 (.av 1) t4 t2 t2),(.aeq t5 t5)] (.any 1000 1000000000 [(.le t0 (.iv 1003)),(.le (.iv 1003) (.lit 17)),(.le t1 (.iv 1000)),(.le (.iv 1000) t6),(.le t1 (.iv 1001)),(.le (.iv 1001) (.mul (.lit 400) t6)),(.le t1 (.iv 1002)),(.le (.iv 1002) (.mul (.lit 200) (.iv 1003))),(.le t1 (.iv 1004)),(.le t1 (.iv 1005)),(.le (.iv 1005) (.lit 7)),(.fb 210 (.iv 1003) (.iv 1000) (.iv 1001) (.iv 1002) (.av 1) t7 t2 t2),(.aeq (.fa 210 (.iv 1003) (.iv 1000) (.iv 1001) (.iv 1002) (.av 1) t7 t2 t2) t5)] (.cond (.le (.iv 1003) (.lit 16)) (.need [(.le t8 (.mul (.iv 1000) (.lit 2))),(.le (.mul (.iv 1000) (.lit 2)) t9)] (.need [(.fb 200 (.iv 1004) (.iv 1005) t1 t1 (.av 1) t2 t2 t2)] (.need [(.le t1 (.iv 1003)),(.lt (.iv 1003) (.lit 17))] (.need [(.le t8 t11),(.le t11 t9)] (.cond (.lt t11 t12) (.need [(.le t8 t13),(.le t13 t9)] (.need [(.le t8 t14),(.le t14 t9)] (.need [(.le t1 t14),(.lt t14 (.lit 12))] (.need [(.lt t14 (.len t15))] (.need [(.eq t16 t17),(.eq t18 t19),(.eq t20 (.get t15 t14))] .done))))) (.need [(.le t8 t21),(.le t21 t9)] (.need [(.le t8 t22),(.le t22 t9)] (.need [(.le t8 t23),(.le t23 t9)] (.need [(.le t8 t24),(.le t24 t9)] (.need [(.le t0 t24),(.le t24 (.lit 17)),(.le t1 t10),(.le t10 t25),(.le t1 t23),(.le t23 (.mul (.lit 400) t25)),(.le t1 t21),(.le t21 (.mul (.lit 200) t24)),(.le t1 t19),(.le t1 t17),(.le t17 (.lit 7)),(.fb 210 t24 t10 t23 t21 (.av 1) t27 t2 t2),(.aeq (.fa 210 t24 t10 t23 t21 (.av 1) t27 t2 t2) t5),(.lt t1 (.sub (.lit 17) (.iv 1003))),(.lt (.sub (.lit 17) t24) (.sub (.lit 17) (.iv 1003)))] .done)))))))))) (.need [(.eq t16 (.iv 1005)),(.eq t18 (.iv 1004)),(.eq t20 t1),.ff] .done))))
theorem qc3:Dd (Db Tryz.prog spG Jq ⟨jph 0,Ke⟩ 100000 102 (jd8 0)) jsc=true:=by kernel_rfl
set_option maxRecDepth 20000 in
theorem jhs:Cf Tryz.prog Z 102 (jd8 0):=by
  refine Bf jbo Cn qc3 fun ρ h=> ?_
  have g1:=h (.eq (.len (.av 1)) (.iv 6)) (by decide+kernel)
  have g2:=h (.le (.iv 6) Gl) (by decide+kernel)
  have g4:=h (.le (.lit 0) (.iv 0)) (by decide+kernel)
  have g5:=h (.le (.lit 0) (.iv 1)) (by decide+kernel)
  have g6:=h (.le (.iv 1) (.lit 7)) (by decide+kernel)
  have g7:=h (Mc 220 (.iv 0) (.iv 1) z0 z0) (by decide+kernel)
  simp only[Mc,z0,Gl,jxa,↓qA,qB,and_true,implies_true,T.I,T.A,T.B,VC.sem] at g1 g2 g4 g5 g6 g7
  have r1:=jhx (ρ.a 1) (ρ.i 1004) (ρ.i 1005)
  have r2:=Kz (D:=ρ.a 1) (a:=ρ.i 1004) (u:=ρ.i 1005)
  have r3:=Lq (u:=ρ.i 1005)
  have r4:=fun h0 h1=>or1 (v:=ρ.i 1000) (b:=rV (ρ.a 1) (ρ.i 1004) (ρ.i 1005)) h0 h1 r1.1 r1.2
  have r5:=jdm (h:=0) (by omega) (ρ.i 1003)
  have p1:=Vg (m:=ρ.i 1003-1)
  have p2:=Nk (m:=ρ.i 1003-1)
  have hl:((Bl 0).length:Int)=17:=rfl
  have hs:((At 0).length:Int)=12:=by rw[show (At 0).length=12 by kernel_rfl];rfl
  rw[show ρ.i 1003-1+1=ρ.i 1003 from by omega] at p1
  simp only[jsc,↓qA,qB,and_true,implies_true,T.I,T.A,T.B,VC.sem,Ck,jq4,jrf,jrh,j07,jfq,qbt,qbg,j9v,qg6,qi5,qhz,j0i,hl,hs,Fb]
  (repeat' (first|refine And.intro ?_ ?_|intro _))<;>(try trivial)<;>(try omega)
  all_goals (have e4:=r4 (by omega) (by omega);clear r4;simp only[e4] at*)
  all_goals (try omega)
  · have e:= ‹Eh (Bl 0) _ _ (17-ρ.i 1003).toNat _ _ _ _ _=true›
    rw[Fa (by omega),Bool.and_eq_true] at e
    exact e.1
  · have e:= ‹Eh (Bl 0) _ _ (17-ρ.i 1003).toNat _ _ _ _ _=true›
    rw[Fa (by omega),Bool.and_eq_true,if_pos (by omega),Bool.and_eq_true,decide_eq_true_eq,decide_eq_true_eq] at e
    omega
  · have e:= ‹Eh (Bl 0) _ _ (17-ρ.i 1003).toNat _ _ _ _ _=true›
    rw[Fa (by omega),Bool.and_eq_true,if_pos (by omega),Bool.and_eq_true,decide_eq_true_eq,decide_eq_true_eq] at e
    omega
  · have e:= ‹Fm (Bl 0) _ _ (17-ρ.i 1003).toNat _ _ _ _ _=_›
    rw[Fv (by omega),if_pos (by omega)] at e
    show e2 (Fm _ _ _ (17-1:Int).toNat 0 0 0 _ _)=_
    rw[←e];rfl
  · have e:= ‹Fm (Bl 0) _ _ (17-ρ.i 1003).toNat _ _ _ _ _=_›
    rw[Fv (by omega),if_pos (by omega)] at e
    show e1 (Fm _ _ _ (17-1:Int).toNat 0 0 0 _ _)=_
    rw[←e];rfl
  · have e:= ‹Fm (Bl 0) _ _ (17-ρ.i 1003).toNat _ _ _ _ _=_›
    rw[Fv (by omega),if_pos (by omega)] at e
    show e0 (Fm _ _ _ (17-1:Int).toNat 0 0 0 _ _)=_
    rw[←e];rfl
  · rw[show ρ.i 1003+1-1=ρ.i 1003 from by omega];have:=p1 (by omega);omega
  · rw[show ρ.i 1003+1-1=ρ.i 1003 from by omega];have:=p1 (by omega);omega
  · have e:= ‹Eh (Bl 0) _ _ (17-ρ.i 1003).toNat _ _ _ _ _=true›
    rw[Fa (by omega),Bool.and_eq_true,if_neg (by omega)] at e
    rw[Int.mul_comm _ 2];exact e.2
  · have e:= ‹Fm (Bl 0) _ _ (17-ρ.i 1003).toNat _ _ _ _ _=_›
    rw[Fv (by omega),if_neg (by omega)] at e
    rw[Int.mul_comm _ 2];exact e
  · have e:= ‹Eh (Bl 0) _ _ (17-ρ.i 1003).toNat _ _ _ _ _=true›
    rw[Ft (by omega)] at e;cases e
  · have e:= ‹Eh (Bl 0) _ _ (17-ρ.i 1003).toNat _ _ _ _ _=true›
    rw[Ft (by omega)] at e;cases e
  · have e:= ‹Eh (Bl 0) _ _ (17-ρ.i 1003).toNat _ _ _ _ _=true›
    rw[Ft (by omega)] at e;cases e
  · have e:= ‹Eh (Bl 0) _ _ (17-ρ.i 1003).toNat _ _ _ _ _=true›
    rw[Ft (by omega)] at e;cases e
def jro:VC:=
 let t0:T:=.lit 1
 let t1:T:=.lit 0
 let t2:T:=.alit []
 let t3:T:=.fi 209 (.sub t0 t0) t1 t1 t1 (.av 1) t2 t2 t2
 let t4:T:=.splice (.set (.alit [0]) t1 (.iv 0)) (.len (.set (.alit [0]) t1 (.iv 0))) (.set (.alit [0]) t1 (.iv 1))
 let t5:T:=.fa 211 t0 t1 t1 t1 (.av 1) t4 t2 t2
 let t6:T:=.fi 209 (.sub (.iv 1003) t0) t1 t1 t1 (.av 1) t2 t2 t2
 let t7:T:=.splice (.set (.alit [0]) t1 (.iv 1004)) (.len (.set (.alit [0]) t1 (.iv 1004))) (.set (.alit [0]) t1 (.iv 1005))
 let t8:T:=.lit (-9223372036854775808)
 let t9:T:=.lit 9223372036854775807
 let t10:T:=.bits .or .i64 (.mul (.iv 1000) (.lit 2)) (.fi 200 (.iv 1004) (.iv 1005) t1 t1 (.av 1) t2 t2 t2)
 let t11:T:=.sub t10 (.iv 1001)
 let t12:T:=.get (.fa 301 t1 t1 t1 t1 t2 t2 t2 t2) (.iv 1003)
 let t13:T:=.add (.iv 1002) t10
 let t14:T:=.sub t13 (.iv 1001)
 let t15:T:=.fa 311 t1 t1 t1 t1 t2 t2 t2 t2
 let t16:T:=.fi 241 (.iv 0) (.iv 1) t1 t1 (.av 1) t2 t2 t2
 let t17:T:=.fi 202 (.iv 1004) (.iv 1005) t1 t1 (.av 1) t2 t2 t2
 let t18:T:=.fi 231 (.iv 0) (.iv 1) t1 t1 (.av 1) t2 t2 t2
 let t19:T:=.fi 201 (.iv 1004) (.iv 1005) t1 t1 (.av 1) t2 t2 t2
 let t20:T:=.fi 221 (.iv 0) (.iv 1) t1 t1 (.av 1) t2 t2 t2
 let t21:T:=.add (.iv 1002) t12
 let t22:T:=.add (.iv 1001) t12
 let t23:T:=.mul t22 (.lit 2)
 let t24:T:=.add (.iv 1003) t0
 let t25:T:=.fi 209 (.sub t24 t0) t1 t1 t1 (.av 1) t2 t2 t2
 let t26:T:=.set (.alit [0]) t1 t19
 let t27:T:=.splice t26 (.len t26) (.set (.alit [0]) t1 t17)
 (.need [(.le t0 t0),(.le t0 (.lit 17)),(.le t1 t1),(.le t1 t3),(.le t1 t1),(.le t1 (.mul (.lit 400) t3)),(.le t1 t1),(.le t1 (.mul (.lit 200) t0)),(.fb 211 t0 t1 t1 t1 (.av 1) t4 t2 t2),(.aeq t5 t5)] (.any 1000 1000000000 [(.le t0 (.iv 1003)),(.le (.iv 1003) (.lit 17)),(.le t1 (.iv 1000)),(.le (.iv 1000) t6),(.le t1 (.iv 1001)),(.le (.iv 1001) (.mul (.lit 400) t6)),(.le t1 (.iv 1002)),(.le (.iv 1002) (.mul (.lit 200) (.iv 1003))),(.le t1 (.iv 1004)),(.le t1 (.iv 1005)),(.le (.iv 1005) (.lit 7)),(.fb 211 (.iv 1003) (.iv 1000) (.iv 1001) (.iv 1002) (.av 1) t7 t2 t2),(.aeq (.fa 211 (.iv 1003) (.iv 1000) (.iv 1001) (.iv 1002) (.av 1) t7 t2 t2) t5)] (.cond (.le (.iv 1003) (.lit 16)) (.need [(.le t8 (.mul (.iv 1000) (.lit 2))),(.le (.mul (.iv 1000) (.lit 2)) t9)] (.need [(.fb 200 (.iv 1004) (.iv 1005) t1 t1 (.av 1) t2 t2 t2)] (.need [(.le t1 (.iv 1003)),(.lt (.iv 1003) (.lit 17))] (.need [(.le t8 t11),(.le t11 t9)] (.cond (.lt t11 t12) (.need [(.le t8 t13),(.le t13 t9)] (.need [(.le t8 t14),(.le t14 t9)] (.need [(.le t1 t14),(.lt t14 (.lit 162))] (.need [(.lt t14 (.len t15))] (.need [(.eq t16 t17),(.eq t18 t19),(.eq t20 (.get t15 t14))] .done))))) (.need [(.le t8 t21),(.le t21 t9)] (.need [(.le t8 t22),(.le t22 t9)] (.need [(.le t8 t23),(.le t23 t9)] (.need [(.le t8 t24),(.le t24 t9)] (.need [(.le t0 t24),(.le t24 (.lit 17)),(.le t1 t10),(.le t10 t25),(.le t1 t23),(.le t23 (.mul (.lit 400) t25)),(.le t1 t21),(.le t21 (.mul (.lit 200) t24)),(.le t1 t19),(.le t1 t17),(.le t17 (.lit 7)),(.fb 211 t24 t10 t23 t21 (.av 1) t27 t2 t2),(.aeq (.fa 211 t24 t10 t23 t21 (.av 1) t27 t2 t2) t5),(.lt t1 (.sub (.lit 17) (.iv 1003))),(.lt (.sub (.lit 17) t24) (.sub (.lit 17) (.iv 1003)))] .done)))))))))) (.need [(.eq t16 (.iv 1005)),(.eq t18 (.iv 1004)),(.eq t20 t1),.ff] .done))))
theorem j9w:Dd (Db Tryz.prog spG Jq ⟨jph 1,Ke⟩ 100000 102 (jd8 1)) jro=true:=by kernel_rfl
set_option maxRecDepth 20000 in
theorem Rw:Cf Tryz.prog Z 102 (jd8 1):=by
  refine Bf jbo Cn j9w fun ρ h=> ?_
  have g1:=h (.eq (.len (.av 1)) (.iv 6)) (by decide+kernel)
  have g2:=h (.le (.iv 6) Gl) (by decide+kernel)
  have g4:=h (.le (.lit 0) (.iv 0)) (by decide+kernel)
  have g5:=h (.le (.lit 0) (.iv 1)) (by decide+kernel)
  have g6:=h (.le (.iv 1) (.lit 7)) (by decide+kernel)
  have g7:=h (Mc 221 (.iv 0) (.iv 1) z0 z0) (by decide+kernel)
  simp only[Mc,z0,Gl,jzf,↓qA,qB,and_true,implies_true,T.I,T.A,T.B,VC.sem] at g1 g2 g4 g5 g6 g7
  have r1:=jhx (ρ.a 1) (ρ.i 1004) (ρ.i 1005)
  have r2:=Kz (D:=ρ.a 1) (a:=ρ.i 1004) (u:=ρ.i 1005)
  have r3:=Lq (u:=ρ.i 1005)
  have r4:=fun h0 h1=>or1 (v:=ρ.i 1000) (b:=rV (ρ.a 1) (ρ.i 1004) (ρ.i 1005)) h0 h1 r1.1 r1.2
  have r5:=jdm (h:=1) (by omega) (ρ.i 1003)
  have p1:=Vg (m:=ρ.i 1003-1)
  have p2:=Nk (m:=ρ.i 1003-1)
  have hl:((Bl 1).length:Int)=17:=rfl
  have hs:((At 1).length:Int)=162:=by rw[show (At 1).length=162 by kernel_rfl];rfl
  rw[show ρ.i 1003-1+1=ρ.i 1003 from by omega] at p1
  simp only[jro,↓qA,qB,and_true,implies_true,T.I,T.A,T.B,VC.sem,Ck,jq4,jrf,jrh,j07,jfq,j9a,qbn,j9h,qi7,qfi,qfc,j0z,hl,hs,Fb]
  (repeat' (first|refine And.intro ?_ ?_|intro _))<;>(try trivial)<;>(try omega)
  all_goals (have e4:=r4 (by omega) (by omega);clear r4;simp only[e4] at*)
  all_goals (try omega)
  · have e:= ‹Eh (Bl 1) _ _ (17-ρ.i 1003).toNat _ _ _ _ _=true›
    rw[Fa (by omega),Bool.and_eq_true] at e
    exact e.1
  · have e:= ‹Eh (Bl 1) _ _ (17-ρ.i 1003).toNat _ _ _ _ _=true›
    rw[Fa (by omega),Bool.and_eq_true,if_pos (by omega),Bool.and_eq_true,decide_eq_true_eq,decide_eq_true_eq] at e
    omega
  · have e:= ‹Eh (Bl 1) _ _ (17-ρ.i 1003).toNat _ _ _ _ _=true›
    rw[Fa (by omega),Bool.and_eq_true,if_pos (by omega),Bool.and_eq_true,decide_eq_true_eq,decide_eq_true_eq] at e
    omega
  · have e:= ‹Fm (Bl 1) _ _ (17-ρ.i 1003).toNat _ _ _ _ _=_›
    rw[Fv (by omega),if_pos (by omega)] at e
    show e2 (Fm _ _ _ (17-1:Int).toNat 0 0 0 _ _)=_
    rw[←e];rfl
  · have e:= ‹Fm (Bl 1) _ _ (17-ρ.i 1003).toNat _ _ _ _ _=_›
    rw[Fv (by omega),if_pos (by omega)] at e
    show e1 (Fm _ _ _ (17-1:Int).toNat 0 0 0 _ _)=_
    rw[←e];rfl
  · have e:= ‹Fm (Bl 1) _ _ (17-ρ.i 1003).toNat _ _ _ _ _=_›
    rw[Fv (by omega),if_pos (by omega)] at e
    show e0 (Fm _ _ _ (17-1:Int).toNat 0 0 0 _ _)=_
    rw[←e];rfl
  · rw[show ρ.i 1003+1-1=ρ.i 1003 from by omega];have:=p1 (by omega);omega
  · rw[show ρ.i 1003+1-1=ρ.i 1003 from by omega];have:=p1 (by omega);omega
  · have e:= ‹Eh (Bl 1) _ _ (17-ρ.i 1003).toNat _ _ _ _ _=true›
    rw[Fa (by omega),Bool.and_eq_true,if_neg (by omega)] at e
    rw[Int.mul_comm _ 2];exact e.2
  · have e:= ‹Fm (Bl 1) _ _ (17-ρ.i 1003).toNat _ _ _ _ _=_›
    rw[Fv (by omega),if_neg (by omega)] at e
    rw[Int.mul_comm _ 2];exact e
  · have e:= ‹Eh (Bl 1) _ _ (17-ρ.i 1003).toNat _ _ _ _ _=true›
    rw[Ft (by omega)] at e;cases e
  · have e:= ‹Eh (Bl 1) _ _ (17-ρ.i 1003).toNat _ _ _ _ _=true›
    rw[Ft (by omega)] at e;cases e
  · have e:= ‹Eh (Bl 1) _ _ (17-ρ.i 1003).toNat _ _ _ _ _=true›
    rw[Ft (by omega)] at e;cases e
  · have e:= ‹Eh (Bl 1) _ _ (17-ρ.i 1003).toNat _ _ _ _ _=true›
    rw[Ft (by omega)] at e;cases e
def jsv:VC:=
 let t0:T:=.lit 1
 let t1:T:=.lit 0
 let t2:T:=.alit []
 let t3:T:=.fi 209 (.sub t0 t0) t1 t1 t1 (.av 1) t2 t2 t2
 let t4:T:=.splice (.set (.alit [0]) t1 (.iv 0)) (.len (.set (.alit [0]) t1 (.iv 0))) (.set (.alit [0]) t1 (.iv 1))
 let t5:T:=.fa 212 t0 t1 t1 t1 (.av 1) t4 t2 t2
 let t6:T:=.fi 209 (.sub (.iv 1003) t0) t1 t1 t1 (.av 1) t2 t2 t2
 let t7:T:=.splice (.set (.alit [0]) t1 (.iv 1004)) (.len (.set (.alit [0]) t1 (.iv 1004))) (.set (.alit [0]) t1 (.iv 1005))
 let t8:T:=.lit (-9223372036854775808)
 let t9:T:=.lit 9223372036854775807
 let t10:T:=.bits .or .i64 (.mul (.iv 1000) (.lit 2)) (.fi 200 (.iv 1004) (.iv 1005) t1 t1 (.av 1) t2 t2 t2)
 let t11:T:=.sub t10 (.iv 1001)
 let t12:T:=.get (.fa 302 t1 t1 t1 t1 t2 t2 t2 t2) (.iv 1003)
 let t13:T:=.add (.iv 1002) t10
 let t14:T:=.sub t13 (.iv 1001)
 let t15:T:=.fa 312 t1 t1 t1 t1 t2 t2 t2 t2
 let t16:T:=.fi 242 (.iv 0) (.iv 1) t1 t1 (.av 1) t2 t2 t2
 let t17:T:=.fi 202 (.iv 1004) (.iv 1005) t1 t1 (.av 1) t2 t2 t2
 let t18:T:=.fi 232 (.iv 0) (.iv 1) t1 t1 (.av 1) t2 t2 t2
 let t19:T:=.fi 201 (.iv 1004) (.iv 1005) t1 t1 (.av 1) t2 t2 t2
 let t20:T:=.fi 222 (.iv 0) (.iv 1) t1 t1 (.av 1) t2 t2 t2
 let t21:T:=.add (.iv 1002) t12
 let t22:T:=.add (.iv 1001) t12
 let t23:T:=.mul t22 (.lit 2)
 let t24:T:=.add (.iv 1003) t0
 let t25:T:=.fi 209 (.sub t24 t0) t1 t1 t1 (.av 1) t2 t2 t2
 let t26:T:=.set (.alit [0]) t1 t19
 let t27:T:=.splice t26 (.len t26) (.set (.alit [0]) t1 t17)
 (.need [(.le t0 t0),(.le t0 (.lit 17)),(.le t1 t1),(.le t1 t3),(.le t1 t1),(.le t1 (.mul (.lit 400) t3)),(.le t1 t1),(.le t1 (.mul (.lit 200) t0)),(.fb 212 t0 t1 t1 t1 (.av 1) t4 t2 t2),(.aeq t5 t5)] (.any 1000 1000000000 [(.le t0 (.iv 1003)),(.le (.iv 1003) (.lit 17)),(.le t1 (.iv 1000)),(.le (.iv 1000) t6),(.le t1 (.iv 1001)),(.le (.iv 1001) (.mul (.lit 400) t6)),(.le t1 (.iv 1002)),(.le (.iv 1002) (.mul (.lit 200) (.iv 1003))),(.le t1 (.iv 1004)),(.le t1 (.iv 1005)),(.le (.iv 1005) (.lit 7)),(.fb 212 (.iv 1003) (.iv 1000) (.iv 1001) (.iv 1002) (.av 1) t7 t2 t2),(.aeq (.fa 212 (.iv 1003) (.iv 1000) (.iv 1001) (.iv 1002) (.av 1) t7 t2 t2) t5)] (.cond (.le (.iv 1003) (.lit 16)) (.need [(.le t8 (.mul (.iv 1000) (.lit 2))),(.le (.mul (.iv 1000) (.lit 2)) t9)] (.need [(.fb 200 (.iv 1004) (.iv 1005) t1 t1 (.av 1) t2 t2 t2)] (.need [(.le t1 (.iv 1003)),(.lt (.iv 1003) (.lit 17))] (.need [(.le t8 t11),(.le t11 t9)] (.cond (.lt t11 t12) (.need [(.le t8 t13),(.le t13 t9)] (.need [(.le t8 t14),(.le t14 t9)] (.need [(.le t1 t14),(.lt t14 (.lit 12))] (.need [(.lt t14 (.len t15))] (.need [(.eq t16 t17),(.eq t18 t19),(.eq t20 (.get t15 t14))] .done))))) (.need [(.le t8 t21),(.le t21 t9)] (.need [(.le t8 t22),(.le t22 t9)] (.need [(.le t8 t23),(.le t23 t9)] (.need [(.le t8 t24),(.le t24 t9)] (.need [(.le t0 t24),(.le t24 (.lit 17)),(.le t1 t10),(.le t10 t25),(.le t1 t23),(.le t23 (.mul (.lit 400) t25)),(.le t1 t21),(.le t21 (.mul (.lit 200) t24)),(.le t1 t19),(.le t1 t17),(.le t17 (.lit 7)),(.fb 212 t24 t10 t23 t21 (.av 1) t27 t2 t2),(.aeq (.fa 212 t24 t10 t23 t21 (.av 1) t27 t2 t2) t5),(.lt t1 (.sub (.lit 17) (.iv 1003))),(.lt (.sub (.lit 17) t24) (.sub (.lit 17) (.iv 1003)))] .done)))))))))) (.need [(.eq t16 (.iv 1005)),(.eq t18 (.iv 1004)),(.eq t20 t1),.ff] .done))))
theorem j95:Dd (Db Tryz.prog spG Jq ⟨jph 2,Ke⟩ 100000 102 (jd8 2)) jsv=true:=by kernel_rfl
set_option maxRecDepth 20000 in
theorem jig:Cf Tryz.prog Z 102 (jd8 2):=by
  refine Bf jbo Cn j95 fun ρ h=> ?_
  have g1:=h (.eq (.len (.av 1)) (.iv 6)) (by decide+kernel)
  have g2:=h (.le (.iv 6) Gl) (by decide+kernel)
  have g4:=h (.le (.lit 0) (.iv 0)) (by decide+kernel)
  have g5:=h (.le (.lit 0) (.iv 1)) (by decide+kernel)
  have g6:=h (.le (.iv 1) (.lit 7)) (by decide+kernel)
  have g7:=h (Mc 222 (.iv 0) (.iv 1) z0 z0) (by decide+kernel)
  simp only[Mc,z0,Gl,jyy,↓qA,qB,and_true,implies_true,T.I,T.A,T.B,VC.sem] at g1 g2 g4 g5 g6 g7
  have r1:=jhx (ρ.a 1) (ρ.i 1004) (ρ.i 1005)
  have r2:=Kz (D:=ρ.a 1) (a:=ρ.i 1004) (u:=ρ.i 1005)
  have r3:=Lq (u:=ρ.i 1005)
  have r4:=fun h0 h1=>or1 (v:=ρ.i 1000) (b:=rV (ρ.a 1) (ρ.i 1004) (ρ.i 1005)) h0 h1 r1.1 r1.2
  have r5:=jdm (h:=2) (by omega) (ρ.i 1003)
  have p1:=Vg (m:=ρ.i 1003-1)
  have p2:=Nk (m:=ρ.i 1003-1)
  have hl:((Bl 2).length:Int)=17:=rfl
  have hs:((At 2).length:Int)=12:=by rw[show (At 2).length=12 by kernel_rfl];rfl
  rw[show ρ.i 1003-1+1=ρ.i 1003 from by omega] at p1
  simp only[jsv,↓qA,qB,and_true,implies_true,T.I,T.A,T.B,VC.sem,Ck,jq4,jrf,jrh,j07,jfq,qcg,qbi,qcf,qj3,qgw,qh0,j86,hl,hs,Fb]
  (repeat' (first|refine And.intro ?_ ?_|intro _))<;>(try trivial)<;>(try omega)
  all_goals (have e4:=r4 (by omega) (by omega);clear r4;simp only[e4] at*)
  all_goals (try omega)
  · have e:= ‹Eh (Bl 2) _ _ (17-ρ.i 1003).toNat _ _ _ _ _=true›
    rw[Fa (by omega),Bool.and_eq_true] at e
    exact e.1
  · have e:= ‹Eh (Bl 2) _ _ (17-ρ.i 1003).toNat _ _ _ _ _=true›
    rw[Fa (by omega),Bool.and_eq_true,if_pos (by omega),Bool.and_eq_true,decide_eq_true_eq,decide_eq_true_eq] at e
    omega
  · have e:= ‹Eh (Bl 2) _ _ (17-ρ.i 1003).toNat _ _ _ _ _=true›
    rw[Fa (by omega),Bool.and_eq_true,if_pos (by omega),Bool.and_eq_true,decide_eq_true_eq,decide_eq_true_eq] at e
    omega
  · have e:= ‹Fm (Bl 2) _ _ (17-ρ.i 1003).toNat _ _ _ _ _=_›
    rw[Fv (by omega),if_pos (by omega)] at e
    show e2 (Fm _ _ _ (17-1:Int).toNat 0 0 0 _ _)=_
    rw[←e];rfl
  · have e:= ‹Fm (Bl 2) _ _ (17-ρ.i 1003).toNat _ _ _ _ _=_›
    rw[Fv (by omega),if_pos (by omega)] at e
    show e1 (Fm _ _ _ (17-1:Int).toNat 0 0 0 _ _)=_
    rw[←e];rfl
  · have e:= ‹Fm (Bl 2) _ _ (17-ρ.i 1003).toNat _ _ _ _ _=_›
    rw[Fv (by omega),if_pos (by omega)] at e
    show e0 (Fm _ _ _ (17-1:Int).toNat 0 0 0 _ _)=_
    rw[←e];rfl
  · rw[show ρ.i 1003+1-1=ρ.i 1003 from by omega];have:=p1 (by omega);omega
  · rw[show ρ.i 1003+1-1=ρ.i 1003 from by omega];have:=p1 (by omega);omega
  · have e:= ‹Eh (Bl 2) _ _ (17-ρ.i 1003).toNat _ _ _ _ _=true›
    rw[Fa (by omega),Bool.and_eq_true,if_neg (by omega)] at e
    rw[Int.mul_comm _ 2];exact e.2
  · have e:= ‹Fm (Bl 2) _ _ (17-ρ.i 1003).toNat _ _ _ _ _=_›
    rw[Fv (by omega),if_neg (by omega)] at e
    rw[Int.mul_comm _ 2];exact e
  · have e:= ‹Eh (Bl 2) _ _ (17-ρ.i 1003).toNat _ _ _ _ _=true›
    rw[Ft (by omega)] at e;cases e
  · have e:= ‹Eh (Bl 2) _ _ (17-ρ.i 1003).toNat _ _ _ _ _=true›
    rw[Ft (by omega)] at e;cases e
  · have e:= ‹Eh (Bl 2) _ _ (17-ρ.i 1003).toNat _ _ _ _ _=true›
    rw[Ft (by omega)] at e;cases e
  · have e:= ‹Eh (Bl 2) _ _ (17-ρ.i 1003).toNat _ _ _ _ _=true›
    rw[Ft (by omega)] at e;cases e
def jsd:VC:=
 let t0:T:=.lit 1
 let t1:T:=.lit 0
 let t2:T:=.alit []
 let t3:T:=.fi 209 (.sub t0 t0) t1 t1 t1 (.av 1) t2 t2 t2
 let t4:T:=.splice (.set (.alit [0]) t1 (.iv 0)) (.len (.set (.alit [0]) t1 (.iv 0))) (.set (.alit [0]) t1 (.iv 1))
 let t5:T:=.fa 213 t0 t1 t1 t1 (.av 1) t4 t2 t2
 let t6:T:=.fi 209 (.sub (.iv 1003) t0) t1 t1 t1 (.av 1) t2 t2 t2
 let t7:T:=.splice (.set (.alit [0]) t1 (.iv 1004)) (.len (.set (.alit [0]) t1 (.iv 1004))) (.set (.alit [0]) t1 (.iv 1005))
 let t8:T:=.lit (-9223372036854775808)
 let t9:T:=.lit 9223372036854775807
 let t10:T:=.bits .or .i64 (.mul (.iv 1000) (.lit 2)) (.fi 200 (.iv 1004) (.iv 1005) t1 t1 (.av 1) t2 t2 t2)
 let t11:T:=.sub t10 (.iv 1001)
 let t12:T:=.get (.fa 303 t1 t1 t1 t1 t2 t2 t2 t2) (.iv 1003)
 let t13:T:=.add (.iv 1002) t10
 let t14:T:=.sub t13 (.iv 1001)
 let t15:T:=.fa 313 t1 t1 t1 t1 t2 t2 t2 t2
 let t16:T:=.fi 243 (.iv 0) (.iv 1) t1 t1 (.av 1) t2 t2 t2
 let t17:T:=.fi 202 (.iv 1004) (.iv 1005) t1 t1 (.av 1) t2 t2 t2
 let t18:T:=.fi 233 (.iv 0) (.iv 1) t1 t1 (.av 1) t2 t2 t2
 let t19:T:=.fi 201 (.iv 1004) (.iv 1005) t1 t1 (.av 1) t2 t2 t2
 let t20:T:=.fi 223 (.iv 0) (.iv 1) t1 t1 (.av 1) t2 t2 t2
 let t21:T:=.add (.iv 1002) t12
 let t22:T:=.add (.iv 1001) t12
 let t23:T:=.mul t22 (.lit 2)
 let t24:T:=.add (.iv 1003) t0
 let t25:T:=.fi 209 (.sub t24 t0) t1 t1 t1 (.av 1) t2 t2 t2
 let t26:T:=.set (.alit [0]) t1 t19
 let t27:T:=.splice t26 (.len t26) (.set (.alit [0]) t1 t17)
 (.need [(.le t0 t0),(.le t0 (.lit 17)),(.le t1 t1),(.le t1 t3),(.le t1 t1),(.le t1 (.mul (.lit 400) t3)),(.le t1 t1),(.le t1 (.mul (.lit 200) t0)),(.fb 213 t0 t1 t1 t1 (.av 1) t4 t2 t2),(.aeq t5 t5)] (.any 1000 1000000000 [(.le t0 (.iv 1003)),(.le (.iv 1003) (.lit 17)),(.le t1 (.iv 1000)),(.le (.iv 1000) t6),(.le t1 (.iv 1001)),(.le (.iv 1001) (.mul (.lit 400) t6)),(.le t1 (.iv 1002)),(.le (.iv 1002) (.mul (.lit 200) (.iv 1003))),(.le t1 (.iv 1004)),(.le t1 (.iv 1005)),(.le (.iv 1005) (.lit 7)),(.fb 213 (.iv 1003) (.iv 1000) (.iv 1001) (.iv 1002) (.av 1) t7 t2 t2),(.aeq (.fa 213 (.iv 1003) (.iv 1000) (.iv 1001) (.iv 1002) (.av 1) t7 t2 t2) t5)] (.cond (.le (.iv 1003) (.lit 16)) (.need [(.le t8 (.mul (.iv 1000) (.lit 2))),(.le (.mul (.iv 1000) (.lit 2)) t9)] (.need [(.fb 200 (.iv 1004) (.iv 1005) t1 t1 (.av 1) t2 t2 t2)] (.need [(.le t1 (.iv 1003)),(.lt (.iv 1003) (.lit 17))] (.need [(.le t8 t11),(.le t11 t9)] (.cond (.lt t11 t12) (.need [(.le t8 t13),(.le t13 t9)] (.need [(.le t8 t14),(.le t14 t9)] (.need [(.le t1 t14),(.lt t14 (.lit 162))] (.need [(.lt t14 (.len t15))] (.need [(.eq t16 t17),(.eq t18 t19),(.eq t20 (.get t15 t14))] .done))))) (.need [(.le t8 t21),(.le t21 t9)] (.need [(.le t8 t22),(.le t22 t9)] (.need [(.le t8 t23),(.le t23 t9)] (.need [(.le t8 t24),(.le t24 t9)] (.need [(.le t0 t24),(.le t24 (.lit 17)),(.le t1 t10),(.le t10 t25),(.le t1 t23),(.le t23 (.mul (.lit 400) t25)),(.le t1 t21),(.le t21 (.mul (.lit 200) t24)),(.le t1 t19),(.le t1 t17),(.le t17 (.lit 7)),(.fb 213 t24 t10 t23 t21 (.av 1) t27 t2 t2),(.aeq (.fa 213 t24 t10 t23 t21 (.av 1) t27 t2 t2) t5),(.lt t1 (.sub (.lit 17) (.iv 1003))),(.lt (.sub (.lit 17) t24) (.sub (.lit 17) (.iv 1003)))] .done)))))))))) (.need [(.eq t16 (.iv 1005)),(.eq t18 (.iv 1004)),(.eq t20 t1),.ff] .done))))
theorem qc0:Dd (Db Tryz.prog spG Jq ⟨jph 3,Ke⟩ 100000 102 (jd8 3)) jsd=true:=by kernel_rfl
set_option maxRecDepth 20000 in
theorem jv4:Cf Tryz.prog Z 102 (jd8 3):=by
  refine Bf jbo Cn qc0 fun ρ h=> ?_
  have g1:=h (.eq (.len (.av 1)) (.iv 6)) (by decide+kernel)
  have g2:=h (.le (.iv 6) Gl) (by decide+kernel)
  have g4:=h (.le (.lit 0) (.iv 0)) (by decide+kernel)
  have g5:=h (.le (.lit 0) (.iv 1)) (by decide+kernel)
  have g6:=h (.le (.iv 1) (.lit 7)) (by decide+kernel)
  have g7:=h (Mc 223 (.iv 0) (.iv 1) z0 z0) (by decide+kernel)
  simp only[Mc,z0,Gl,j6z,↓qA,qB,and_true,implies_true,T.I,T.A,T.B,VC.sem] at g1 g2 g4 g5 g6 g7
  have r1:=jhx (ρ.a 1) (ρ.i 1004) (ρ.i 1005)
  have r2:=Kz (D:=ρ.a 1) (a:=ρ.i 1004) (u:=ρ.i 1005)
  have r3:=Lq (u:=ρ.i 1005)
  have r4:=fun h0 h1=>or1 (v:=ρ.i 1000) (b:=rV (ρ.a 1) (ρ.i 1004) (ρ.i 1005)) h0 h1 r1.1 r1.2
  have r5:=jdm (h:=3) (by omega) (ρ.i 1003)
  have p1:=Vg (m:=ρ.i 1003-1)
  have p2:=Nk (m:=ρ.i 1003-1)
  have hl:((Bl 3).length:Int)=17:=rfl
  have hs:((At 3).length:Int)=162:=by rw[show (At 3).length=162 by kernel_rfl];rfl
  rw[show ρ.i 1003-1+1=ρ.i 1003 from by omega] at p1
  simp only[jsd,↓qA,qB,and_true,implies_true,T.I,T.A,T.B,VC.sem,Ck,jq4,jrf,jrh,j07,jfq,qia,qit,qg0,qix,qih,qfe,j71,hl,hs,Fb]
  (repeat' (first|refine And.intro ?_ ?_|intro _))<;>(try trivial)<;>(try omega)
  all_goals (have e4:=r4 (by omega) (by omega);clear r4;simp only[e4] at*)
  all_goals (try omega)
  · have e:= ‹Eh (Bl 3) _ _ (17-ρ.i 1003).toNat _ _ _ _ _=true›
    rw[Fa (by omega),Bool.and_eq_true] at e
    exact e.1
  · have e:= ‹Eh (Bl 3) _ _ (17-ρ.i 1003).toNat _ _ _ _ _=true›
    rw[Fa (by omega),Bool.and_eq_true,if_pos (by omega),Bool.and_eq_true,decide_eq_true_eq,decide_eq_true_eq] at e
    omega
  · have e:= ‹Eh (Bl 3) _ _ (17-ρ.i 1003).toNat _ _ _ _ _=true›
    rw[Fa (by omega),Bool.and_eq_true,if_pos (by omega),Bool.and_eq_true,decide_eq_true_eq,decide_eq_true_eq] at e
    omega
  · have e:= ‹Fm (Bl 3) _ _ (17-ρ.i 1003).toNat _ _ _ _ _=_›
    rw[Fv (by omega),if_pos (by omega)] at e
    show e2 (Fm _ _ _ (17-1:Int).toNat 0 0 0 _ _)=_
    rw[←e];rfl
  · have e:= ‹Fm (Bl 3) _ _ (17-ρ.i 1003).toNat _ _ _ _ _=_›
    rw[Fv (by omega),if_pos (by omega)] at e
    show e1 (Fm _ _ _ (17-1:Int).toNat 0 0 0 _ _)=_
    rw[←e];rfl
  · have e:= ‹Fm (Bl 3) _ _ (17-ρ.i 1003).toNat _ _ _ _ _=_›
    rw[Fv (by omega),if_pos (by omega)] at e
    show e0 (Fm _ _ _ (17-1:Int).toNat 0 0 0 _ _)=_
    rw[←e];rfl
  · rw[show ρ.i 1003+1-1=ρ.i 1003 from by omega];have:=p1 (by omega);omega
  · rw[show ρ.i 1003+1-1=ρ.i 1003 from by omega];have:=p1 (by omega);omega
  · have e:= ‹Eh (Bl 3) _ _ (17-ρ.i 1003).toNat _ _ _ _ _=true›
    rw[Fa (by omega),Bool.and_eq_true,if_neg (by omega)] at e
    rw[Int.mul_comm _ 2];exact e.2
  · have e:= ‹Fm (Bl 3) _ _ (17-ρ.i 1003).toNat _ _ _ _ _=_›
    rw[Fv (by omega),if_neg (by omega)] at e
    rw[Int.mul_comm _ 2];exact e
  · have e:= ‹Eh (Bl 3) _ _ (17-ρ.i 1003).toNat _ _ _ _ _=true›
    rw[Ft (by omega)] at e;cases e
  · have e:= ‹Eh (Bl 3) _ _ (17-ρ.i 1003).toNat _ _ _ _ _=true›
    rw[Ft (by omega)] at e;cases e
  · have e:= ‹Eh (Bl 3) _ _ (17-ρ.i 1003).toNat _ _ _ _ _=true›
    rw[Ft (by omega)] at e;cases e
  · have e:= ‹Eh (Bl 3) _ _ (17-ρ.i 1003).toNat _ _ _ _ _=true›
    rw[Ft (by omega)] at e;cases e
end
end Go.Proofs.YtljjbikbfeigdaaGreatDoor
