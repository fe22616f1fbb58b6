/- Part of the proof of FnColorEdgesCardSaid: Contracts of the specification's reader shown: the coefficients of a block. -/
import Derived.Test.YtljjbikbfeigdaaGreatDoorCe16
set_option linter.all false
namespace Go.Proofs.YtljjbikbfeigdaaGreatDoor
noncomputable section
open Go
theorem jnx{x:Int}(h0:0≤x)(h1:x≤255):Dj .and .i64 x 15=x % 16:=by
  have key: ∀a:Fin 256,Dj .and .i64 ((a.val:Nat):Int) 15=((a.val:Nat):Int) % 16:=by decide+kernel
  obtain ⟨a,rfl⟩:=Int.eq_ofNat_of_zero_le h0
  exact key ⟨a,by omega⟩
theorem Zp(a:Int)(l:List Int):e0 (a::l)=a:=rfl
theorem Qv(a b:Int)(l:List Int):e1 (a::b::l)=b:=rfl
theorem Qt(a b c:Int)(l:List Int):e2 (a::b::c::l)=c:=rfl
theorem Le(D:List Int): ∀(n:Nat) (v a u:Int),0≤a→0≤u→u≤7→0≤e1 (Ez D n v a u)∧0≤e2 (Ez D n v a u)∧e2 (Ez D n v a u)≤7
  | 0,v,a,u,h1,h2,h3=>by simp only[Ez,Qv,Qt];omega
  | n+1,v,a,u,h1,h2,h3=>by
    have r:=Lq h2 h3
    exact Le D n _ _ _ (Kz h1) r.1 r.2
theorem Kg{cs sy D:List Int}{top:Int}(hs:Bn 0 top sy=true): ∀(f:Nat) (code first index a u:Int),Eh cs sy D f code first index a u=true→0≤a→0≤u→u≤7→
    0≤e0 (Fm cs sy D f code first index a u)∧e0 (Fm cs sy D f code first index a u)≤top∧0≤e1 (Fm cs sy D f code first index a u)∧0≤e2 (Fm cs sy D f code first index a u)∧e2 (Fm cs sy D f code first index a u)≤7
  | 0,_,_,_,_,_,h,_,_,_=>by cases h
  | f+1,code,first,index,a,u,h,h1,h2,h3=>by
    have r:=Lq h2 h3
    simp only[Eh,Bool.and_eq_true] at h
    obtain ⟨_,h⟩:=h
    simp only[Fm]
    split at h
    · rename_i hc
      rw[if_pos hc]
      simp only[Bool.and_eq_true,decide_eq_true_eq] at h
      simp only[Zp,Qv,Qt]
      have:=Ct hs h.1 h.2
      exact ⟨this.1,this.2,Kz h1,r.1,r.2⟩
    · rename_i hc
      rw[if_neg hc]
      exact Kg hs f _ _ _ _ _ h (Kz h1) r.1 r.2
theorem Vm:(List.range 4).all (fun h=>Bn 0 255 (At h))=true:=by decide+kernel
theorem ja3:(List.range 2).all (fun q=>Bn 0 11 (At (2*q)))=true:=by decide+kernel
theorem Kb{h:Nat}(hh:h<4){D:List Int}{a u:Int}(ho:Gz (Bl h) (At h) D a u=true)(h1:0≤a)(h2:0≤u)(h3:u≤7):
    0≤e0 (Bm (Bl h) (At h) D a u)∧e0 (Bm (Bl h) (At h) D a u)≤255∧0≤e1 (Bm (Bl h) (At h) D a u)∧0≤e2 (Bm (Bl h) (At h) D a u)∧e2 (Bm (Bl h) (At h) D a u)≤7:=
  Kg (List.all_eq_true.1 Vm h (List.mem_range.2 hh)) 16 0 0 0 a u ho h1 h2 h3
theorem jbt{q:Nat}(hq:q<2){D:List Int}{a u:Int}(ho:Gz (Bl (2*q)) (At (2*q)) D a u=true)(h1:0≤a)(h2:0≤u)(h3:u≤7):e0 (Bm (Bl (2*q)) (At (2*q)) D a u)≤11:=
  (Kg (List.all_eq_true.1 ja3 q (List.mem_range.2 hq)) 16 0 0 0 a u ho h1 h2 h3).2.1
theorem Oa(h:Nat)(hc:Cf Tryz.prog Z 102 (jd8 h)): ∀f s,spI h f=some s→Ei Tryz.prog Z f s:=by
  intro f s hs
  unfold spI at hs
  split at hs
  · cases hs;exact Dq jja
  · cases hs;exact Dq hc
  · cases hs
theorem jic(x y:Int)(D:List Int):Z.fb 290 x y 0 0 D [] [] []=Uw D (Mr y) x y:=id rfl
theorem j10(x y:Int)(D:List Int):Z.fi 290 x y 0 0 D [] [] []=Mp D (Mr y) x y:=id rfl
theorem Uj{u:Int}(h0:0≤u)(h1:u≤7)(hz: ¬u=0):Mr u=Mr (Rj u)+1:=by
  unfold Mr Rj
  rw[if_neg hz]
  by_cases h8:u+1=8
  · rw[if_pos h8,if_pos rfl];omega
  · rw[if_neg h8,if_neg (by omega)];omega
theorem jkn{D:List Int}{a u:Int}(h0:0≤u)(h1:u≤7)(hz: ¬u=0):Uw D (Mr u) a u=(rOk D a u&&(decide (rV D a u=1)&&Uw D (Mr (Rj u)) (rAt D a u) (Rj u)))∧Mp D (Mr u) a u=Mp D (Mr (Rj u)) (rAt D a u) (Rj u):=by
  rw[Uj h0 h1 hz];exact ⟨rfl,rfl⟩
def qhm:VC:=
 let t0:T:=.lit 0
 let t1:T:=.alit []
 let t2:T:=.fi 290 (.iv 0) (.iv 1) t0 t0 (.av 1) t1 t1 t1
 let t3:T:=.fi 201 (.iv 1000) (.iv 1001) t0 t0 (.av 1) t1 t1 t1
 let t5:T:=.fi 202 (.iv 1000) (.iv 1001) t0 t0 (.av 1) t1 t1 t1
 let t7:T:=.le t5 (.lit 7)
 let t8:T:=.fb 290 t3 t5 t0 t0 (.av 1) t1 t1 t1
 let t9:T:=.eq (.fi 290 t3 t5 t0 t0 (.av 1) t1 t1 t1) t2
 let t10:T:=.lt t0 (.tmod (.sub (.lit 8) (.iv 1001)) (.lit 8))
 let t11:T:=.lt (.tmod (.sub (.lit 8) t5) (.lit 8)) (.tmod (.sub (.lit 8) (.iv 1001)) (.lit 8))
 (.need [(.eq t2 t2)] (.any 1000 1000000000 [(.le t0 (.iv 1000)),(.le t0 (.iv 1001)),(.le (.iv 1001) (.lit 7)),(.fb 290 (.iv 1000) (.iv 1001) t0 t0 (.av 1) t1 t1 t1),(.eq (.fi 290 (.iv 1000) (.iv 1001) t0 t0 (.av 1) t1 t1 t1) t2)] (.cond (.not (.eq (.iv 1001) t0)) (.need [(.fb 200 (.iv 1000) (.iv 1001) t0 t0 (.av 1) t1 t1 t1)] (.cond (.eq (.fi 200 (.iv 1000) (.iv 1001) t0 t0 (.av 1) t1 t1 t1) t0) (.need [.ff,(.le t0 t3),(.le t0 t5),t7,t8,t9,t10,t11] .done) (.need [(.le t0 t3),(.le t0 t5),t7,t8,t9,t10,t11] .done))) (.need [(.eq t0 (.iv 1001)),(.eq t2 (.iv 1000))] .done))))
theorem w54:Dd (Db Tryz.prog spG Jq ⟨jl5 0,Ke⟩ 100000 54 c54) qhm=true:=by kernel_rfl
theorem jje:Cf Tryz.prog Z 54 c54:=by
  refine Bf jbo Cn w54 fun ρ h=> ?_
  simp only[c54,bS,Zx,prV,bD,jef,Ny,fD,Mc,Du,z0,Gl,Tm,jic,Bi,Di,List.flatMap_cons,List.flatMap_nil,List.append_nil,List.append_assoc,List.cons_append,List.nil_append,and_true,↓qA,qB,and_true,implies_true,T.I,T.A,T.B,VC.sem] at h
  obtain ⟨h1,h2,h3,h4,h5,h6,h7,h8⟩:=h
  have r2:=Kz (D:=ρ.a 1) (a:=ρ.i 1000) (u:=ρ.i 1001)
  have r3:=Lq (u:=ρ.i 1001)
  have r4:=jkn (D:=ρ.a 1) (a:=ρ.i 1000) (u:=ρ.i 1001)
  simp only[qhm,↓qA,qB,and_true,implies_true,T.I,T.A,T.B,VC.sem,jq4,jrf,jrh,jfq,jic,j10]
  (repeat' (first|exact True.intro|refine And.intro ?_ ?_|intro _))<;>(try assumption)<;>(try omega)
  all_goals (have ho:= ‹Uw (ρ.a 1) (Mr (ρ.i 1001)) _ _=true›)
  all_goals (have he:= ‹Mp (ρ.a 1) (Mr (ρ.i 1001)) _ _=_›)
  all_goals (by_cases hz:ρ.i 1001=0)
  all_goals (try (exfalso;omega))
  all_goals (try (have s:=r4 (by omega) (by omega) hz;rw[s.1] at ho;rw[s.2] at he;simp only[Bool.and_eq_true,decide_eq_true_eq] at ho))
  all_goals (try rw[Int.tmod_eq_emod_of_nonneg (by omega)])
  all_goals (try rw[Int.tmod_eq_emod_of_nonneg (by omega)])
  all_goals (try omega)
  all_goals (first | exact ho.1|exact ho.2.2|exact he|(exfalso;have:=ho.2.1;omega)|(rw[hz] at he;exact he.symm)|(have q:=r3 (by omega) (by omega);unfold Rj at*;split<;>omega))
theorem jz0{h:Nat}(hh:h<4){D:List Int}{k a u:Int}(h1:0≤a)(h2:0≤u)(h3:u≤7)(hk:k≤63)(ho:Ge (Bl h) (At h) D k a u=true):
    Gz (Bl h) (At h) D a u=true∧0≤e0 (Bm (Bl h) (At h) D a u)∧e0 (Bm (Bl h) (At h) D a u)≤255∧0≤(e1 (Bm (Bl h) (At h) D a u))∧0≤(e2 (Bm (Bl h) (At h) D a u))∧(e2 (Bm (Bl h) (At h) D a u))≤7∧Dj .and .i64 (e0 (Bm (Bl h) (At h) D a u)) 15=e0 (Bm (Bl h) (At h) D a u) % 16∧
    (e0 (Bm (Bl h) (At h) D a u) % 16=0→e0 (Bm (Bl h) (At h) D a u)/16=0∨(e0 (Bm (Bl h) (At h) D a u)/16=15∧k+15<63∧Ge (Bl h) (At h) D (k+16) (e1 (Bm (Bl h) (At h) D a u)) (e2 (Bm (Bl h) (At h) D a u))=true))∧
    (¬e0 (Bm (Bl h) (At h) D a u) % 16=0→k+e0 (Bm (Bl h) (At h) D a u)/16≤63∧Ng D (e0 (Bm (Bl h) (At h) D a u) % 16).toNat (e1 (Bm (Bl h) (At h) D a u)) (e2 (Bm (Bl h) (At h) D a u))=true∧Ge (Bl h) (At h) D (k+e0 (Bm (Bl h) (At h) D a u)/16+1) (e1 (Ez D (e0 (Bm (Bl h) (At h) D a u) % 16).toNat 0 (e1 (Bm (Bl h) (At h) D a u)) (e2 (Bm (Bl h) (At h) D a u)))) (e2 (Ez D (e0 (Bm (Bl h) (At h) D a u) % 16).toNat 0 (e1 (Bm (Bl h) (At h) D a u)) (e2 (Bm (Bl h) (At h) D a u))))=true∧0≤e1 (Ez D (e0 (Bm (Bl h) (At h) D a u) % 16).toNat 0 (e1 (Bm (Bl h) (At h) D a u)) (e2 (Bm (Bl h) (At h) D a u)))∧0≤e2 (Ez D (e0 (Bm (Bl h) (At h) D a u) % 16).toNat 0 (e1 (Bm (Bl h) (At h) D a u)) (e2 (Bm (Bl h) (At h) D a u)))∧e2 (Ez D (e0 (Bm (Bl h) (At h) D a u) % 16).toNat 0 (e1 (Bm (Bl h) (At h) D a u)) (e2 (Bm (Bl h) (At h) D a u)))≤7):=by
  rw[Ge,if_pos hk,Bool.and_eq_true] at ho
  obtain ⟨o1,o2⟩:=ho
  obtain ⟨r1,r2,r3,r4,r5⟩:=Kb hh o1 h1 h2 h3
  refine ⟨o1,r1,r2,r3,r4,r5,jnx r1 r2,fun hz=> ?_,fun hz=> ?_⟩
  · rw[if_pos (show Hi (Bl h) (At h) D a u=0 from hz)] at o2
    split at o2
    · rename_i hr;exact Or.inl hr
    · simp only[Bool.and_eq_true,decide_eq_true_eq] at o2
      exact Or.inr o2
  · rw[if_neg (show ¬Hi (Bl h) (At h) D a u=0 from hz),if_pos (show 0≤Kk (Bl h) (At h) D a u by unfold Kk;omega)] at o2
    simp only[Bool.and_eq_true,decide_eq_true_eq] at o2
    exact ⟨o2.1,o2.2.1,o2.2.2,Le D _ 0 _ _ r3 r4 r5⟩
theorem jeq{h:Nat}{D bl:List Int}{d k a u:Int}(hk:k≤63)(hz:e0 (Bm (Bl h) (At h) D a u) % 16=0)(hr:e0 (Bm (Bl h) (At h) D a u)/16=0):Ef (Bl h) (At h) D d k a u bl=(e1 (Bm (Bl h) (At h) D a u))::(e2 (Bm (Bl h) (At h) D a u))::bl:=by
  rw[Ef,if_pos hk,if_pos (show Hi (Bl h) (At h) D a u=0 from hz),if_pos (show Kk (Bl h) (At h) D a u=0 from hr)];rfl
theorem jev{h:Nat}{D bl:List Int}{d k a u:Int}(hk:k≤63)(hz:e0 (Bm (Bl h) (At h) D a u) % 16=0)(hr: ¬e0 (Bm (Bl h) (At h) D a u)/16=0):Ef (Bl h) (At h) D d k a u bl=Ef (Bl h) (At h) D d (k+16) (e1 (Bm (Bl h) (At h) D a u)) (e2 (Bm (Bl h) (At h) D a u)) bl:=by
  rw[Ef,if_pos hk,if_pos (show Hi (Bl h) (At h) D a u=0 from hz),if_neg (show ¬Kk (Bl h) (At h) D a u=0 from hr)];rfl
theorem jf0{h:Nat}{D bl:List Int}{d k a u:Int}(hk:k≤63)(hz: ¬e0 (Bm (Bl h) (At h) D a u) % 16=0)(hr:0≤e0 (Bm (Bl h) (At h) D a u)/16):Ef (Bl h) (At h) D d k a u bl=Ef (Bl h) (At h) D d (k+e0 (Bm (Bl h) (At h) D a u)/16+1) (e1 (Ez D (e0 (Bm (Bl h) (At h) D a u) % 16).toNat 0 (e1 (Bm (Bl h) (At h) D a u)) (e2 (Bm (Bl h) (At h) D a u)))) (e2 (Ez D (e0 (Bm (Bl h) (At h) D a u) % 16).toNat 0 (e1 (Bm (Bl h) (At h) D a u)) (e2 (Bm (Bl h) (At h) D a u)))) (bl.set (d+(k+e0 (Bm (Bl h) (At h) D a u)/16)).toNat (sgn (e0 (Bm (Bl h) (At h) D a u) % 16) (e0 (Ez D (e0 (Bm (Bl h) (At h) D a u) % 16).toNat 0 (e1 (Bm (Bl h) (At h) D a u)) (e2 (Bm (Bl h) (At h) D a u)))))):=by
  rw[Ef,if_pos hk,if_neg (show ¬Hi (Bl h) (At h) D a u=0 from hz),if_pos (show 0≤Kk (Bl h) (At h) D a u from hr)];rfl
theorem jbx{h:Nat}{D bl:List Int}{d k a u:Int}(hk: ¬k≤63):Ef (Bl h) (At h) D d k a u bl=a::u::bl:=by
  rw[Ef,if_neg hk]
theorem Cc{S:Hw}{ρ:Et}{l:List T}(h:Dx S ρ l)(t:T)(ht:jkd l t=true):t.B S ρ=true:=h t (Mu ht)
def Yl:VC:=
 let t0:T:=.alit []
 let t1:T:=.fa 251 (.iv 5) (.lit 1) (.iv 0) (.iv 1) (.av 1) (.av 7) t0 t0
 let t2:T:=.lit 0
 let t3:T:=.fi 221 (.iv 1001) (.iv 1002) t2 t2 (.av 1) t0 t0 t0
 let t4:T:=.bits .and .i64 t3 (.lit 15)
 let t5:T:=.shr .i64 t3 (.lit 4)
 let t6:T:=.fi 265 (.iv 5) (.iv 0) (.iv 1) t2 (.av 1) (.av 7) t0 t0
 let t7:T:=.fi 241 (.iv 1001) (.iv 1002) t2 t2 (.av 1) t0 t0 t0
 let t8:T:=.eq t6 t7
 let t9:T:=.fi 261 (.iv 5) (.iv 0) (.iv 1) t2 (.av 1) (.av 7) t0 t0
 let t10:T:=.fi 231 (.iv 1001) (.iv 1002) t2 t2 (.av 1) t0 t0 t0
 let t11:T:=.eq t9 t10
 let t12:T:=.aeq (.fa 269 (.iv 5) (.iv 0) (.iv 1) t2 (.av 1) (.av 7) t0 t0) (.av 1000)
 let t13:T:=.lit (-9223372036854775808)
 let t14:T:=.add (.iv 1000) (.lit 15)
 let t15:T:=.lit 9223372036854775807
 let t16:T:=.add t14 (.lit 1)
 let t20:T:=.add (.iv 1000) t5
 let t21:T:=.add (.iv 5) t20
 let t22:T:=.add t20 (.lit 1)
 let t23:T:=.fi 205 t4 t10 t7 t2 (.av 1) t0 t0 t0
 let t24:T:=.fi 206 t4 t10 t7 t2 (.av 1) t0 t0 t0
 let t25:T:=.set (.av 1000) t21 (.fi 208 t4 t10 t7 t2 (.av 1) t0 t0 t0)
 (.need [(.le (.lit 1) (.lit 1)),(.le (.lit 1) (.lit 64)),(.eq (.len (.av 7)) (.len (.av 7))),(.aeq t1 t1)] (.any 1000 1000000000 [(.le (.lit 1) (.iv 1000)),(.le (.iv 1000) (.lit 64)),(.le t2 (.iv 1001)),(.le t2 (.iv 1002)),(.le (.iv 1002) (.lit 7)),(.eq (.len (.av 1000)) (.len (.av 7))),(.fb 251 (.iv 1000) (.iv 1001) (.iv 1002) t2 (.av 1) t0 t0 t0),(.aeq (.fa 251 (.iv 5) (.iv 1000) (.iv 1001) (.iv 1002) (.av 1) (.av 1000) t0 t0) t1)] (.cond (.le (.iv 1000) (.lit 63)) (.need [(.fb 221 (.iv 1001) (.iv 1002) t2 t2 (.av 1) t0 t0 t0)] (.cond (.eq t4 t2) (.cond (.eq t5 t2) (.need [t8,t11,t12] .done) (.need [(.le t13 t14),(.le t14 t15)] (.cond (.not (.eq t5 (.lit 15))) (.need [t8,t11,.ff,t12] .done) (.cond (.le (.lit 63) t14) (.need [t8,t11,.ff,t12] .done) (.need [(.le t13 t16),(.le t16 t15)] (.need [(.le (.lit 1) t16),(.le t16 (.lit 64)),(.le t2 t10),(.le t2 t7),(.le t7 (.lit 7)),(.fb 251 t16 t10 t7 t2 (.av 1) t0 t0 t0),(.aeq (.fa 251 (.iv 5) t16 t10 t7 (.av 1) (.av 1000) t0 t0) t1),(.lt t2 (.sub (.lit 64) (.iv 1000))),(.lt (.sub (.lit 64) t16) (.sub (.lit 64) (.iv 1000)))] .done)))))) (.need [(.le t13 t20),(.le t20 t15)] (.cond (.lt (.lit 63) t20) (.need [t8,t11,.ff,t12] .done) (.need [(.le t2 t10),(.le t2 t7),(.le t7 (.lit 7)),(.le t2 t4),(.le t4 (.lit 16)),(.fb 203 t4 t10 t7 t2 (.av 1) t0 t0 t0)] (.need [(.le t2 t20),(.lt t20 (.lit 64))] (.need [(.le t2 t21),(.lt t21 (.len (.av 1000)))] (.need [(.le t13 t22),(.le t22 t15)] (.need [(.le (.lit 1) t22),(.le t22 (.lit 64)),(.le t2 t23),(.le t2 t24),(.le t24 (.lit 7)),(.eq (.len t25) (.len (.av 7))),(.fb 251 t22 t23 t24 t2 (.av 1) t0 t0 t0),(.aeq (.fa 251 (.iv 5) t22 t23 t24 (.av 1) t25 t0 t0) t1),(.lt t2 (.sub (.lit 64) (.iv 1000))),(.lt (.sub (.lit 64) t22) (.sub (.lit 64) (.iv 1000)))] .done))))))))) (.need [(.eq t6 (.iv 1002)),(.eq t9 (.iv 1001)),t12] .done))))
theorem jgy:Dd (Db Tryz.prog (spI 1) Jq ⟨jl5 1,Ke⟩ 100000 75 (c75 1)) Yl=true:=by kernel_rfl
theorem Un(x y z:Int)(D:List Int):Z.fb 251 x y z 0 D [] [] []=Ge (Bl 1) (At 1) D x y z:=id rfl
theorem jrv(x y z u:Int)(D b:List Int):Z.fa 251 x y z u D b [] []=Ef (Bl 1) (At 1) D x y z u b:=id rfl
theorem jma(x y z:Int)(D b:List Int):Z.fi 261 x y z 0 D b [] []=e0 (Ef (Bl 1) (At 1) D x 1 y z b):=id rfl
theorem jch(x y z:Int)(D b:List Int):Z.fi 265 x y z 0 D b [] []=e1 (Ef (Bl 1) (At 1) D x 1 y z b):=id rfl
theorem Vu(x y z:Int)(D b:List Int):Z.fa 269 x y z 0 D b [] []=(Ef (Bl 1) (At 1) D x 1 y z b).drop 2:=id rfl
set_option maxRecDepth 20000 in
theorem jak:Cf Tryz.prog Z 75 (c75 1):=by
  refine Bf (Oa 1 Rw) Cn jgy fun ρ h=> ?_
  have g1:=Cc h (.eq (.len (.av 1)) (.iv 6)) (by kernel_rfl)
  have g2:=Cc h (.le (.iv 6) Gl) (by kernel_rfl)
  have g4:=Cc h (.le (.lit 0) (.iv 0)) (by kernel_rfl)
  have g5:=Cc h (.le (.lit 0) (.iv 1)) (by kernel_rfl)
  have g6:=Cc h (.le (.iv 1) (.lit 7)) (by kernel_rfl)
  have g7:=Cc h (.le (.lit 0) (.iv 5)) (by kernel_rfl)
  have g8:=Cc h (.le (.add (.iv 5) (.lit 64)) (.len (.av 7))) (by kernel_rfl)
  have g9:=Cc h (.le (.len (.av 7)) Gl) (by kernel_rfl)
  have g10:=Cc h (Mc 251 (.lit 1) (.iv 0) (.iv 1) z0) (by kernel_rfl)
  clear h
  simp only[Mc,z0,Gl,Un,↓qA,qB,and_true,implies_true,T.I,T.A,T.B,VC.sem] at g1 g2 g4 g5 g6 g7 g8 g9 g10
  have w1:=jma (ρ.i 5) (ρ.i 0) (ρ.i 1) (ρ.a 1) (ρ.a 7)
  have w2:=jch (ρ.i 5) (ρ.i 0) (ρ.i 1) (ρ.a 1) (ρ.a 7)
  have w3:=Vu (ρ.i 5) (ρ.i 0) (ρ.i 1) (ρ.a 1) (ρ.a 7)
  simp only[Yl,↓qA,qB,and_true,implies_true,T.I,T.A,T.B,VC.sem,jjl,jkg,jlg,jmp,Uu,j9a,qbn,j9h,jzf,Un,jrv]
  (repeat' (first|exact True.intro|refine And.intro ?_ ?_|intro _))<;>(try assumption)<;>(try omega)
  all_goals (try rw[w1])
  all_goals (try rw[w2])
  all_goals (try rw[w3])
  all_goals clear w1 w2 w3
  all_goals (by_cases hk:ρ.i 1000≤63)
  all_goals (try (exfalso;omega))
  all_goals (have e:= ‹Ef _ _ _ _ (ρ.i 1000) _ _ _=_›)
  all_goals (try (rw[jbx hk] at e;rw[←e];rfl))
  all_goals (have F:=jz0 (h:=1) (by omega) (D:=ρ.a 1) (k:=ρ.i 1000) (a:=ρ.i 1001) (u:=ρ.i 1002) (by omega) (by omega) (by omega) (by omega) ‹Ge _ _ _ (ρ.i 1000) _ _=true›)
  all_goals (obtain ⟨f1,f2,f3,f4,f5,f6,f7,f8,f9⟩:=F)
  all_goals (try simp only[f7] at*)
  all_goals (try omega)
  all_goals (try assumption)
  all_goals (first
    | (exfalso;have q:=f8 (by omega);omega)
    | (rw[jeq (by omega) (by omega) (by omega)] at e;rw[←e];rfl)
    | (rw[show ρ.i 1000+15+1=ρ.i 1000+16 from by omega,←jev (by omega) (by omega) (by omega)];exact e)
    | (rw[←jf0 (by omega) (by omega) (by omega)];exact e)
    | (have q:=f8 (by omega);rw[show ρ.i 1000+15+1=ρ.i 1000+16 from by omega];exact (q.resolve_left (by omega)).2.2)
    | (have m:=f9 (by omega);first|exact m.2.1|exact m.2.2.1|omega|(rw[List.length_set];omega)))
def jy2:VC:=
 let t0:T:=.alit []
 let t1:T:=.fa 253 (.iv 5) (.lit 1) (.iv 0) (.iv 1) (.av 1) (.av 7) t0 t0
 let t2:T:=.lit 0
 let t3:T:=.fi 223 (.iv 1001) (.iv 1002) t2 t2 (.av 1) t0 t0 t0
 let t4:T:=.bits .and .i64 t3 (.lit 15)
 let t5:T:=.shr .i64 t3 (.lit 4)
 let t6:T:=.fi 267 (.iv 5) (.iv 0) (.iv 1) t2 (.av 1) (.av 7) t0 t0
 let t7:T:=.fi 243 (.iv 1001) (.iv 1002) t2 t2 (.av 1) t0 t0 t0
 let t8:T:=.eq t6 t7
 let t9:T:=.fi 263 (.iv 5) (.iv 0) (.iv 1) t2 (.av 1) (.av 7) t0 t0
 let t10:T:=.fi 233 (.iv 1001) (.iv 1002) t2 t2 (.av 1) t0 t0 t0
 let t11:T:=.eq t9 t10
 let t12:T:=.aeq (.fa 271 (.iv 5) (.iv 0) (.iv 1) t2 (.av 1) (.av 7) t0 t0) (.av 1000)
 let t13:T:=.lit (-9223372036854775808)
 let t14:T:=.add (.iv 1000) (.lit 15)
 let t15:T:=.lit 9223372036854775807
 let t16:T:=.add t14 (.lit 1)
 let t20:T:=.add (.iv 1000) t5
 let t21:T:=.add (.iv 5) t20
 let t22:T:=.add t20 (.lit 1)
 let t23:T:=.fi 205 t4 t10 t7 t2 (.av 1) t0 t0 t0
 let t24:T:=.fi 206 t4 t10 t7 t2 (.av 1) t0 t0 t0
 let t25:T:=.set (.av 1000) t21 (.fi 208 t4 t10 t7 t2 (.av 1) t0 t0 t0)
 (.need [(.le (.lit 1) (.lit 1)),(.le (.lit 1) (.lit 64)),(.eq (.len (.av 7)) (.len (.av 7))),(.aeq t1 t1)] (.any 1000 1000000000 [(.le (.lit 1) (.iv 1000)),(.le (.iv 1000) (.lit 64)),(.le t2 (.iv 1001)),(.le t2 (.iv 1002)),(.le (.iv 1002) (.lit 7)),(.eq (.len (.av 1000)) (.len (.av 7))),(.fb 253 (.iv 1000) (.iv 1001) (.iv 1002) t2 (.av 1) t0 t0 t0),(.aeq (.fa 253 (.iv 5) (.iv 1000) (.iv 1001) (.iv 1002) (.av 1) (.av 1000) t0 t0) t1)] (.cond (.le (.iv 1000) (.lit 63)) (.need [(.fb 223 (.iv 1001) (.iv 1002) t2 t2 (.av 1) t0 t0 t0)] (.cond (.eq t4 t2) (.cond (.eq t5 t2) (.need [t8,t11,t12] .done) (.need [(.le t13 t14),(.le t14 t15)] (.cond (.not (.eq t5 (.lit 15))) (.need [t8,t11,.ff,t12] .done) (.cond (.le (.lit 63) t14) (.need [t8,t11,.ff,t12] .done) (.need [(.le t13 t16),(.le t16 t15)] (.need [(.le (.lit 1) t16),(.le t16 (.lit 64)),(.le t2 t10),(.le t2 t7),(.le t7 (.lit 7)),(.fb 253 t16 t10 t7 t2 (.av 1) t0 t0 t0),(.aeq (.fa 253 (.iv 5) t16 t10 t7 (.av 1) (.av 1000) t0 t0) t1),(.lt t2 (.sub (.lit 64) (.iv 1000))),(.lt (.sub (.lit 64) t16) (.sub (.lit 64) (.iv 1000)))] .done)))))) (.need [(.le t13 t20),(.le t20 t15)] (.cond (.lt (.lit 63) t20) (.need [t8,t11,.ff,t12] .done) (.need [(.le t2 t10),(.le t2 t7),(.le t7 (.lit 7)),(.le t2 t4),(.le t4 (.lit 16)),(.fb 203 t4 t10 t7 t2 (.av 1) t0 t0 t0)] (.need [(.le t2 t20),(.lt t20 (.lit 64))] (.need [(.le t2 t21),(.lt t21 (.len (.av 1000)))] (.need [(.le t13 t22),(.le t22 t15)] (.need [(.le (.lit 1) t22),(.le t22 (.lit 64)),(.le t2 t23),(.le t2 t24),(.le t24 (.lit 7)),(.eq (.len t25) (.len (.av 7))),(.fb 253 t22 t23 t24 t2 (.av 1) t0 t0 t0),(.aeq (.fa 253 (.iv 5) t22 t23 t24 (.av 1) t25 t0 t0) t1),(.lt t2 (.sub (.lit 64) (.iv 1000))),(.lt (.sub (.lit 64) t22) (.sub (.lit 64) (.iv 1000)))] .done))))))))) (.need [(.eq t6 (.iv 1002)),(.eq t9 (.iv 1001)),t12] .done))))
theorem qgm:Dd (Db Tryz.prog (spI 3) Jq ⟨jl5 3,Ke⟩ 100000 75 (c75 3)) jy2=true:=by kernel_rfl
theorem ji1(x y z:Int)(D:List Int):Z.fb 253 x y z 0 D [] [] []=Ge (Bl 3) (At 3) D x y z:=id rfl
theorem qg4(x y z u:Int)(D b:List Int):Z.fa 253 x y z u D b [] []=Ef (Bl 3) (At 3) D x y z u b:=id rfl
theorem jxk(x y z:Int)(D b:List Int):Z.fi 263 x y z 0 D b [] []=e0 (Ef (Bl 3) (At 3) D x 1 y z b):=id rfl
theorem jox(x y z:Int)(D b:List Int):Z.fi 267 x y z 0 D b [] []=e1 (Ef (Bl 3) (At 3) D x 1 y z b):=id rfl
theorem je2(x y z:Int)(D b:List Int):Z.fa 271 x y z 0 D b [] []=(Ef (Bl 3) (At 3) D x 1 y z b).drop 2:=id rfl
set_option maxRecDepth 20000 in
theorem jaq:Cf Tryz.prog Z 75 (c75 3):=by
  refine Bf (Oa 3 jv4) Cn qgm fun ρ h=> ?_
  have g1:=Cc h (.eq (.len (.av 1)) (.iv 6)) (by kernel_rfl)
  have g2:=Cc h (.le (.iv 6) Gl) (by kernel_rfl)
  have g4:=Cc h (.le (.lit 0) (.iv 0)) (by kernel_rfl)
  have g5:=Cc h (.le (.lit 0) (.iv 1)) (by kernel_rfl)
  have g6:=Cc h (.le (.iv 1) (.lit 7)) (by kernel_rfl)
  have g7:=Cc h (.le (.lit 0) (.iv 5)) (by kernel_rfl)
  have g8:=Cc h (.le (.add (.iv 5) (.lit 64)) (.len (.av 7))) (by kernel_rfl)
  have g9:=Cc h (.le (.len (.av 7)) Gl) (by kernel_rfl)
  have g10:=Cc h (Mc 253 (.lit 1) (.iv 0) (.iv 1) z0) (by kernel_rfl)
  clear h
  simp only[Mc,z0,Gl,ji1,↓qA,qB,and_true,implies_true,T.I,T.A,T.B,VC.sem] at g1 g2 g4 g5 g6 g7 g8 g9 g10
  have w1:=jxk (ρ.i 5) (ρ.i 0) (ρ.i 1) (ρ.a 1) (ρ.a 7)
  have w2:=jox (ρ.i 5) (ρ.i 0) (ρ.i 1) (ρ.a 1) (ρ.a 7)
  have w3:=je2 (ρ.i 5) (ρ.i 0) (ρ.i 1) (ρ.a 1) (ρ.a 7)
  simp only[jy2,↓qA,qB,and_true,implies_true,T.I,T.A,T.B,VC.sem,jjl,jkg,jlg,jmp,Uu,qia,qit,qg0,j6z,ji1,qg4]
  (repeat' (first|exact True.intro|refine And.intro ?_ ?_|intro _))<;>(try assumption)<;>(try omega)
  all_goals (try rw[w1])
  all_goals (try rw[w2])
  all_goals (try rw[w3])
  all_goals clear w1 w2 w3
  all_goals (by_cases hk:ρ.i 1000≤63)
  all_goals (try (exfalso;omega))
  all_goals (have e:= ‹Ef _ _ _ _ (ρ.i 1000) _ _ _=_›)
  all_goals (try (rw[jbx hk] at e;rw[←e];rfl))
  all_goals (have F:=jz0 (h:=3) (by omega) (D:=ρ.a 1) (k:=ρ.i 1000) (a:=ρ.i 1001) (u:=ρ.i 1002) (by omega) (by omega) (by omega) (by omega) ‹Ge _ _ _ (ρ.i 1000) _ _=true›)
  all_goals (obtain ⟨f1,f2,f3,f4,f5,f6,f7,f8,f9⟩:=F)
  all_goals (try simp only[f7] at*)
  all_goals (try omega)
  all_goals (try assumption)
  all_goals (first
    | (exfalso;have q:=f8 (by omega);omega)
    | (rw[jeq (by omega) (by omega) (by omega)] at e;rw[←e];rfl)
    | (rw[show ρ.i 1000+15+1=ρ.i 1000+16 from by omega,←jev (by omega) (by omega) (by omega)];exact e)
    | (rw[←jf0 (by omega) (by omega) (by omega)];exact e)
    | (have q:=f8 (by omega);rw[show ρ.i 1000+15+1=ρ.i 1000+16 from by omega];exact (q.resolve_left (by omega)).2.2)
    | (have m:=f9 (by omega);first|exact m.2.1|exact m.2.2.1|omega|(rw[List.length_set];omega)))
theorem j5y(x y:Int)(D:List Int):Z.fi 270 x y 0 0 D [] [] []=sgn (e0 (Bm (Bl 0) (At 0) D x y)) (e0 (Ez D (e0 (Bm (Bl 0) (At 0) D x y)).toNat 0 (e1 (Bm (Bl 0) (At 0) D x y)) (e2 (Bm (Bl 0) (At 0) D x y)))):=id rfl
theorem j8o(x y:Int)(D:List Int):Z.fi 272 x y 0 0 D [] [] []=e1 (Ez D (e0 (Bm (Bl 0) (At 0) D x y)).toNat 0 (e1 (Bm (Bl 0) (At 0) D x y)) (e2 (Bm (Bl 0) (At 0) D x y))):=id rfl
theorem j6x(x y:Int)(D:List Int):Z.fi 274 x y 0 0 D [] [] []=e2 (Ez D (e0 (Bm (Bl 0) (At 0) D x y)).toNat 0 (e1 (Bm (Bl 0) (At 0) D x y)) (e2 (Bm (Bl 0) (At 0) D x y))):=id rfl
theorem j7a(x y:Int)(D:List Int):Z.fb 270 x y 0 0 D [] [] []=(Gz (Bl 0) (At 0) D x y&&Ng D (e0 (Bm (Bl 0) (At 0) D x y)).toNat (e1 (Bm (Bl 0) (At 0) D x y)) (e2 (Bm (Bl 0) (At 0) D x y))):=id rfl
theorem j4p(x y:Int)(D:List Int):Z.fi 271 x y 0 0 D [] [] []=sgn (e0 (Bm (Bl 2) (At 2) D x y)) (e0 (Ez D (e0 (Bm (Bl 2) (At 2) D x y)).toNat 0 (e1 (Bm (Bl 2) (At 2) D x y)) (e2 (Bm (Bl 2) (At 2) D x y)))):=id rfl
theorem j8d(x y:Int)(D:List Int):Z.fi 273 x y 0 0 D [] [] []=e1 (Ez D (e0 (Bm (Bl 2) (At 2) D x y)).toNat 0 (e1 (Bm (Bl 2) (At 2) D x y)) (e2 (Bm (Bl 2) (At 2) D x y))):=id rfl
theorem j78(x y:Int)(D:List Int):Z.fi 275 x y 0 0 D [] [] []=e2 (Ez D (e0 (Bm (Bl 2) (At 2) D x y)).toNat 0 (e1 (Bm (Bl 2) (At 2) D x y)) (e2 (Bm (Bl 2) (At 2) D x y))):=id rfl
theorem j74(x y:Int)(D:List Int):Z.fb 271 x y 0 0 D [] [] []=(Gz (Bl 2) (At 2) D x y&&Ng D (e0 (Bm (Bl 2) (At 2) D x y)).toNat (e1 (Bm (Bl 2) (At 2) D x y)) (e2 (Bm (Bl 2) (At 2) D x y))):=id rfl
def jrm:VC:=
 let t0:T:=.lit 0
 let t1:T:=.alit []
 let t2:T:=.fi 230 (.iv 0) (.iv 1) t0 t0 (.av 1) t1 t1 t1
 let t3:T:=.fi 240 (.iv 0) (.iv 1) t0 t0 (.av 1) t1 t1 t1
 let t4:T:=.fi 220 (.iv 0) (.iv 1) t0 t0 (.av 1) t1 t1 t1
 let t5:T:=.add (.iv 3) (.fi 208 t4 t2 t3 t0 (.av 1) t1 t1 t1)
 let t6:T:=.add (.iv 3) (.fi 270 (.iv 0) (.iv 1) t0 t0 (.av 1) t1 t1 t1)
 let t7:T:=.eq t6 t5
 let t8:T:=.eq (.fi 274 (.iv 0) (.iv 1) t0 t0 (.av 1) t1 t1 t1) (.fi 206 t4 t2 t3 t0 (.av 1) t1 t1 t1)
 let t9:T:=.eq (.fi 272 (.iv 0) (.iv 1) t0 t0 (.av 1) t1 t1 t1) (.fi 205 t4 t2 t3 t0 (.av 1) t1 t1 t1)
 let t10:T:=.aeq (.set (.av 7) (.iv 5) t6) (.set (.av 7) (.iv 5) t5)
 (.need [(.fb 220 (.iv 0) (.iv 1) t0 t0 (.av 1) t1 t1 t1)] (.need [(.le t0 t2),(.le t0 t3),(.le t3 (.lit 7)),(.le t0 t4),(.le t4 (.lit 16)),(.fb 203 t4 t2 t3 t0 (.av 1) t1 t1 t1)] (.need [(.le (.lit (-9223372036854775808)) t5),(.le t5 (.lit 9223372036854775807))] (.need [(.lt (.iv 5) (.len (.av 7)))] (.cond (.lt t5 (.lit (-1024))) (.need [t7,t8,t9,.ff,t10] .done) (.cond (.lt (.lit 1023) t5) (.need [t7,t8,t9,.ff,t10] .done) (.need [t7,t8,t9,t10] .done)))))))
theorem qcp:Dd (Db Tryz.prog (spI 0) Jq ⟨jl5 0,Ke⟩ 100000 74 (c74 0 0)) jrm=true:=by kernel_rfl
set_option maxRecDepth 20000 in
theorem jhz:Cf Tryz.prog Z 74 (c74 0 0):=by
  refine Bf (Oa 0 jhs) Cn qcp fun ρ h=> ?_
  have g1:=Cc h (.eq (.len (.av 1)) (.iv 6)) (by kernel_rfl)
  have g2:=Cc h (.le (.iv 6) Gl) (by kernel_rfl)
  have g4:=Cc h (.le (.lit 0) (.iv 0)) (by kernel_rfl)
  have g5:=Cc h (.le (.lit 0) (.iv 1)) (by kernel_rfl)
  have g6:=Cc h (.le (.iv 1) (.lit 7)) (by kernel_rfl)
  have g7:=Cc h (.le (.lit 0) (.iv 5)) (by kernel_rfl)
  have g8:=Cc h (.le (.add (.iv 5) (.lit 64)) (.len (.av 7))) (by kernel_rfl)
  have g9:=Cc h (.le (.len (.av 7)) Gl) (by kernel_rfl)
  have g10:=Cc h (Mc 270 (.iv 0) (.iv 1) z0 z0) (by kernel_rfl)
  have g11:=Cc h (.le (.lit (-1024)) (.iv 3)) (by kernel_rfl)
  have g12:=Cc h (.le (.iv 3) (.lit 1023)) (by kernel_rfl)
  have g13:=Cc h (.le (.lit (-1024)) (.add (.iv 3) (fD 270 (.iv 0) (.iv 1) z0 z0))) (by kernel_rfl)
  have g14:=Cc h (.le (.add (.iv 3) (fD 270 (.iv 0) (.iv 1) z0 z0)) (.lit 1023)) (by kernel_rfl)
  clear h
  simp only[Mc,fD,z0,Gl,j7a,j5y,↓qA,qB,and_true,implies_true,T.I,T.A,T.B,VC.sem,Bool.and_eq_true] at g1 g2 g4 g5 g6 g7 g8 g9 g10 g11 g12 g13 g14
  obtain ⟨o1,o2⟩:=g10
  obtain ⟨r1,r2,r3,r4,r5⟩:=Kb (h:=0) (by omega) o1 g4 g5 g6
  have r6:=jbt (q:=0) (by omega) o1 g4 g5 g6
  simp only[jrm,↓qA,qB,and_true,implies_true,T.I,T.A,T.B,VC.sem,jjl,jkg,jlg,jmp,Uu,qbt,qbg,j9v,jxa,j5y,j8o,j6x]
  (repeat' (first|exact True.intro|refine And.intro ?_ ?_|intro _))<;>(try assumption)<;>(try omega)
  exact Int.le_trans r6 (by decide)
def jtq:VC:=
 let t0:T:=.lit 0
 let t1:T:=.alit []
 let t2:T:=.fi 232 (.iv 0) (.iv 1) t0 t0 (.av 1) t1 t1 t1
 let t3:T:=.fi 242 (.iv 0) (.iv 1) t0 t0 (.av 1) t1 t1 t1
 let t4:T:=.fi 222 (.iv 0) (.iv 1) t0 t0 (.av 1) t1 t1 t1
 let t5:T:=.add (.iv 3) (.fi 208 t4 t2 t3 t0 (.av 1) t1 t1 t1)
 let t6:T:=.add (.iv 3) (.fi 271 (.iv 0) (.iv 1) t0 t0 (.av 1) t1 t1 t1)
 let t7:T:=.eq t6 t5
 let t8:T:=.eq (.fi 275 (.iv 0) (.iv 1) t0 t0 (.av 1) t1 t1 t1) (.fi 206 t4 t2 t3 t0 (.av 1) t1 t1 t1)
 let t9:T:=.eq (.fi 273 (.iv 0) (.iv 1) t0 t0 (.av 1) t1 t1 t1) (.fi 205 t4 t2 t3 t0 (.av 1) t1 t1 t1)
 let t10:T:=.aeq (.set (.av 7) (.iv 5) t6) (.set (.av 7) (.iv 5) t5)
 (.need [(.fb 222 (.iv 0) (.iv 1) t0 t0 (.av 1) t1 t1 t1)] (.need [(.le t0 t2),(.le t0 t3),(.le t3 (.lit 7)),(.le t0 t4),(.le t4 (.lit 16)),(.fb 203 t4 t2 t3 t0 (.av 1) t1 t1 t1)] (.need [(.le (.lit (-9223372036854775808)) t5),(.le t5 (.lit 9223372036854775807))] (.need [(.lt (.iv 5) (.len (.av 7)))] (.cond (.lt t5 (.lit (-1024))) (.need [t7,t8,t9,.ff,t10] .done) (.cond (.lt (.lit 1023) t5) (.need [t7,t8,t9,.ff,t10] .done) (.need [t7,t8,t9,t10] .done)))))))
theorem qdf:Dd (Db Tryz.prog (spI 2) Jq ⟨jl5 2,Ke⟩ 100000 74 (c74 1 1)) jtq=true:=by kernel_rfl
set_option maxRecDepth 20000 in
theorem jhi:Cf Tryz.prog Z 74 (c74 1 1):=by
  refine Bf (Oa 2 jig) Cn qdf fun ρ h=> ?_
  have g1:=Cc h (.eq (.len (.av 1)) (.iv 6)) (by kernel_rfl)
  have g2:=Cc h (.le (.iv 6) Gl) (by kernel_rfl)
  have g4:=Cc h (.le (.lit 0) (.iv 0)) (by kernel_rfl)
  have g5:=Cc h (.le (.lit 0) (.iv 1)) (by kernel_rfl)
  have g6:=Cc h (.le (.iv 1) (.lit 7)) (by kernel_rfl)
  have g7:=Cc h (.le (.lit 0) (.iv 5)) (by kernel_rfl)
  have g8:=Cc h (.le (.add (.iv 5) (.lit 64)) (.len (.av 7))) (by kernel_rfl)
  have g9:=Cc h (.le (.len (.av 7)) Gl) (by kernel_rfl)
  have g10:=Cc h (Mc 271 (.iv 0) (.iv 1) z0 z0) (by kernel_rfl)
  have g11:=Cc h (.le (.lit (-1024)) (.iv 3)) (by kernel_rfl)
  have g12:=Cc h (.le (.iv 3) (.lit 1023)) (by kernel_rfl)
  have g13:=Cc h (.le (.lit (-1024)) (.add (.iv 3) (fD 271 (.iv 0) (.iv 1) z0 z0))) (by kernel_rfl)
  have g14:=Cc h (.le (.add (.iv 3) (fD 271 (.iv 0) (.iv 1) z0 z0)) (.lit 1023)) (by kernel_rfl)
  clear h
  simp only[Mc,fD,z0,Gl,j74,j4p,↓qA,qB,and_true,implies_true,T.I,T.A,T.B,VC.sem,Bool.and_eq_true] at g1 g2 g4 g5 g6 g7 g8 g9 g10 g11 g12 g13 g14
  obtain ⟨o1,o2⟩:=g10
  obtain ⟨r1,r2,r3,r4,r5⟩:=Kb (h:=2) (by omega) o1 g4 g5 g6
  have r6:=jbt (q:=1) (by omega) o1 g4 g5 g6
  simp only[jtq,↓qA,qB,and_true,implies_true,T.I,T.A,T.B,VC.sem,jjl,jkg,jlg,jmp,Uu,qcg,qbi,qcf,jyy,j4p,j8d,j78]
  (repeat' (first|exact True.intro|refine And.intro ?_ ?_|intro _))<;>(try assumption)<;>(try omega)
  exact Int.le_trans r6 (by decide)
def jsq:VC:=
 let t0:T:=.lit 0
 let t1:T:=.alit []
 let t2:T:=.fi 232 (.iv 0) (.iv 1) t0 t0 (.av 1) t1 t1 t1
 let t3:T:=.fi 242 (.iv 0) (.iv 1) t0 t0 (.av 1) t1 t1 t1
 let t4:T:=.fi 222 (.iv 0) (.iv 1) t0 t0 (.av 1) t1 t1 t1
 let t5:T:=.add (.iv 3) (.fi 208 t4 t2 t3 t0 (.av 1) t1 t1 t1)
 let t6:T:=.add (.iv 3) (.fi 271 (.iv 0) (.iv 1) t0 t0 (.av 1) t1 t1 t1)
 let t7:T:=.eq t6 t5
 let t8:T:=.eq (.fi 275 (.iv 0) (.iv 1) t0 t0 (.av 1) t1 t1 t1) (.fi 206 t4 t2 t3 t0 (.av 1) t1 t1 t1)
 let t9:T:=.eq (.fi 273 (.iv 0) (.iv 1) t0 t0 (.av 1) t1 t1 t1) (.fi 205 t4 t2 t3 t0 (.av 1) t1 t1 t1)
 let t10:T:=.aeq (.set (.av 7) (.iv 5) t6) (.set (.av 7) (.iv 5) t5)
 (.need [(.fb 222 (.iv 0) (.iv 1) t0 t0 (.av 1) t1 t1 t1)] (.need [(.le t0 t2),(.le t0 t3),(.le t3 (.lit 7)),(.le t0 t4),(.le t4 (.lit 16)),(.fb 203 t4 t2 t3 t0 (.av 1) t1 t1 t1)] (.need [(.le (.lit (-9223372036854775808)) t5),(.le t5 (.lit 9223372036854775807))] (.need [(.lt (.iv 5) (.len (.av 7)))] (.cond (.lt t5 (.lit (-1024))) (.need [t7,t8,t9,.ff,t10] .done) (.cond (.lt (.lit 1023) t5) (.need [t7,t8,t9,.ff,t10] .done) (.need [t7,t8,t9,t10] .done)))))))
theorem j9y:Dd (Db Tryz.prog (spI 2) Jq ⟨jl5 2,Ke⟩ 100000 74 (c74 1 2)) jsq=true:=by kernel_rfl
set_option maxRecDepth 20000 in
theorem jit:Cf Tryz.prog Z 74 (c74 1 2):=by
  refine Bf (Oa 2 jig) Cn j9y fun ρ h=> ?_
  have g1:=Cc h (.eq (.len (.av 1)) (.iv 6)) (by kernel_rfl)
  have g2:=Cc h (.le (.iv 6) Gl) (by kernel_rfl)
  have g4:=Cc h (.le (.lit 0) (.iv 0)) (by kernel_rfl)
  have g5:=Cc h (.le (.lit 0) (.iv 1)) (by kernel_rfl)
  have g6:=Cc h (.le (.iv 1) (.lit 7)) (by kernel_rfl)
  have g7:=Cc h (.le (.lit 0) (.iv 5)) (by kernel_rfl)
  have g8:=Cc h (.le (.add (.iv 5) (.lit 64)) (.len (.av 7))) (by kernel_rfl)
  have g9:=Cc h (.le (.len (.av 7)) Gl) (by kernel_rfl)
  have g10:=Cc h (Mc 271 (.iv 0) (.iv 1) z0 z0) (by kernel_rfl)
  have g11:=Cc h (.le (.lit (-1024)) (.iv 3)) (by kernel_rfl)
  have g12:=Cc h (.le (.iv 3) (.lit 1023)) (by kernel_rfl)
  have g13:=Cc h (.le (.lit (-1024)) (.add (.iv 3) (fD 271 (.iv 0) (.iv 1) z0 z0))) (by kernel_rfl)
  have g14:=Cc h (.le (.add (.iv 3) (fD 271 (.iv 0) (.iv 1) z0 z0)) (.lit 1023)) (by kernel_rfl)
  clear h
  simp only[Mc,fD,z0,Gl,j74,j4p,↓qA,qB,and_true,implies_true,T.I,T.A,T.B,VC.sem,Bool.and_eq_true] at g1 g2 g4 g5 g6 g7 g8 g9 g10 g11 g12 g13 g14
  obtain ⟨o1,o2⟩:=g10
  obtain ⟨r1,r2,r3,r4,r5⟩:=Kb (h:=2) (by omega) o1 g4 g5 g6
  have r6:=jbt (q:=1) (by omega) o1 g4 g5 g6
  simp only[jsq,↓qA,qB,and_true,implies_true,T.I,T.A,T.B,VC.sem,jjl,jkg,jlg,jmp,Uu,qcg,qbi,qcf,jyy,j4p,j8d,j78]
  (repeat' (first|exact True.intro|refine And.intro ?_ ?_|intro _))<;>(try assumption)<;>(try omega)
  exact Int.le_trans r6 (by decide)
end
end Go.Proofs.YtljjbikbfeigdaaGreatDoor
