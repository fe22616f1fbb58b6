/- Part of the proof of FnColorStreamCardSaid: Contracts of the encoder shown: a whole 4:2:0 image, the plain part. -/
import Derived.Test.YtljjbikbfeigdaaGreatDoorCo36
set_option linter.all false
namespace Go.Proofs.YtljjbikbfeigdaaGreatDoor
noncomputable section
open Go
theorem jl6(q w h:Int)(p:List Int):Z.fa 512 q w h 0 p [] [] []=Ts q w h p:=id rfl
theorem qfk:(Bl 2).drop 1=[0,3,1,1,1,1,1,1,1,1,1,0,0,0,0,0]:=by kernel_rfl
theorem qj6:(Bl 3).drop 1=[0,2,1,2,4,4,3,4,7,5,4,4,0,1,2,119]:=by kernel_rfl
set_option maxRecDepth 20000 in
set_option maxHeartbeats 4000000 in
theorem j2x:Cf Tryz.prog Z 45 j45:=by
  refine Bf Cq jyx qkh fun ρ h=> ?_
  simp only[j45,bW,juu,ja7,hf,jkc,Vd,roE,owW,cA,fA,z0,Du,Bi,Di,List.flatMap_cons,List.flatMap_nil,List.append_nil,List.append_assoc,List.cons_append,List.nil_append,and_true,↓Bo,↓Bq,↓Bs,↓Az,↓Ca,↓Bz,↓Bu,↓Bc,↓Bb,↓Be,↓Ba,↓Bv,↓Ay,↓Bt,↓Br,↓Bw,↓Bx,↓By,Ag,As,Ap,Ar,T.I,T.A,T.B,Int.toNat_zero,List.drop_zero,and_true,implies_true,VC.sem,Aa,Af,Ak,Ai,Ae,Ac,Ad,Am,Al,Ah,An,Aj,Ab,Aq,Ao] at h
  obtain ⟨h1,h2,h3,h4,h5,h6,h7,h8,h9,hq1,hq2,hnil⟩:=h
  have e0:((ρ.a 0).length:Int)=0:=by rw[hnil];rfl
  have eQ:(bif ilt (ρ.i 30) 1 then 1 else bif ilt 100 (ρ.i 30) then 100 else ρ.i 30)=ρ.i 30:=by rw[Ea,Ea,if_neg (by omega),if_neg (by omega)]
  have eT:Int.tdiv 5000 (ρ.i 30)=5000/ρ.i 30:=Int.tdiv_eq_ediv_of_nonneg (by omega)
  have eS:(bif ilt (ρ.i 30) 50 then 5000/ρ.i 30 else 200-ρ.i 30*2)=Kd (ρ.i 30):=by rw[Ea];rfl
  have bT:0≤5000/ρ.i 30∧5000/ρ.i 30≤5000:=⟨Int.ediv_nonneg (by omega) (by omega),Int.ediv_le_self _ (by omega)⟩
  have B:=fun {k:Int} (h3:0≤k) (h4:k<128)=>jst hq1 hq2 h3 h4
  have t64:Int.toNat 64=64:=rfl
  simp only[j6o,Fb,↓Bo,↓Bq,↓Bs,↓Az,↓Ca,↓Bz,↓Bu,↓Bc,↓Bb,↓Be,↓Ba,↓Bv,↓Ay,↓Bt,↓Br,↓Bw,↓Bx,↓By,Ag,As,Ap,Ar,T.I,T.A,T.B,Int.toNat_zero,List.drop_zero,and_true,implies_true,VC.sem,Aa,Af,Ak,Ai,Ae,Ac,Ad,Am,Al,Ah,An,Aj,Ab,Aq,Ao,fb2,eQ,eT,eS,Ck,j8b,jl6,jyq,jqb,qhx]
  have w1:IntKind.u8.wrap (ρ.i 22/256)=ρ.i 22/256:=by rw[IntKind.wrap_u8];omega
  have w2:IntKind.u8.wrap (ρ.i 21/256)=ρ.i 21/256:=by rw[IntKind.wrap_u8];omega
  have w3:IntKind.u8.wrap (ρ.i 22 % 256)=ρ.i 22 % 256:=by rw[IntKind.wrap_u8];omega
  have w4:IntKind.u8.wrap (ρ.i 21 % 256)=ρ.i 21 % 256:=by rw[IntKind.wrap_u8];omega
  simp only[jkh (x:=ρ.i 21) (by omega) (by omega),jkh (x:=ρ.i 22) (by omega) (by omega),w1,w2,w3,w4]
  (repeat' (first|with_reducible exact True.intro|with_reducible refine And.intro ?_ ?_|intro _))<;>(try omega)
  · rfl
  · rfl
  · have e:64*ρ.i 2600+0=64*ρ.i 2600:=by omega
    rw[e];exact ‹List.take (64*ρ.i 2600).toNat _=_›
  · have:=jij (k:=ρ.i 2600*64+ρ.i 3000) (by omega) (by omega);omega
  · have:=jij (k:=ρ.i 2600*64+ρ.i 3000) (by omega) (by omega);omega
  · have:=B (k:=ρ.i 2600*64+ρ.i 3000) (by omega) (by omega);omega
  · have:=B (k:=ρ.i 2600*64+ρ.i 3000) (by omega) (by omega);omega
  · have:=B (k:=ρ.i 2600*64+ρ.i 3000) (by omega) (by omega);omega
  · have:=B (k:=ρ.i 2600*64+ρ.i 3000) (by omega) (by omega)
    rw[Int.tdiv_eq_ediv_of_nonneg (by omega)];omega
  · have:=B (k:=ρ.i 2600*64+ρ.i 3000) (by omega) (by omega)
    rw[Int.tdiv_eq_ediv_of_nonneg (by omega)];omega
  · rw[List.length_set];exact ‹((ρ.a 3000).length:Int)=128›
  · have b:=B (k:=ρ.i 2600*64+ρ.i 3000) (by omega) (by omega)
    have hl:((ρ.a 3000).length:Int)=128:= ‹_›
    have e1:(64*ρ.i 2600+(ρ.i 3000+1)).toNat=(ρ.i 2600*64+ρ.i 3000).toNat+1:=by omega
    have e2:(64*ρ.i 2600+ρ.i 3000).toNat=(ρ.i 2600*64+ρ.i 3000).toNat:=by omega
    have e3:(((ρ.i 2600*64+ρ.i 3000).toNat:Nat):Int)=ρ.i 2600*64+ρ.i 3000:=by omega
    have ht:= ‹List.take (64*ρ.i 2600+ρ.i 3000).toNat (ρ.a 3000)=_›
    rw[e2] at ht
    rw[e1]
    refine Sa ht (by omega) ?_
    rw[jqx (by omega)]
    unfold qel
    rw[e3,Int.tdiv_eq_ediv_of_nonneg (by omega),Ea,Ea,IntKind.wrap_u8]
    refine congrArg some ?_
    generalize (Bg uqL (ρ.i 2600*64+ρ.i 3000)*Kd (ρ.i 30)+50)/100=v
    split<;>(try split)<;>omega
  · have e:64*(ρ.i 2600+1)=64*ρ.i 2600+ρ.i 3000:=by omega
    rw[e];exact ‹List.take (64*ρ.i 2600+ρ.i 3000).toNat _=_›
  · rfl
  · rfl
  · rw[List.length_take,t64];omega
  · rw[List.length_take,List.length_drop,t64];omega
  · rfl
  · rfl
  · rfl
  · rfl
  · have e:= ‹List.take (64*ρ.i 2600).toNat _=_›
    have hl:((ρ.a 2600).length:Int)=128:= ‹_›
    have hl2:=Su (ρ.i 30)
    rw[List.take_of_length_le (by omega),List.take_of_length_le (by omega)] at e
    rw[e];exact jbm _
  · rfl
  · have e:= ‹List.take (64*ρ.i 2600).toNat _=_›
    have hl:((ρ.a 2600).length:Int)=128:= ‹_›
    have hl2:=Su (ρ.i 30)
    rw[List.take_of_length_le (by omega),List.take_of_length_le (by omega)] at e
    have s:= ‹[ρ.i 11501]++_=_›
    rw[jwb] at s
    have s:=jy9 s
    rw[‹ρ.a 12300=_›,‹ρ.a 11900++_=_›,s,‹ρ.a 11100++_=_›,‹ρ.a 10700++_=_›,‹ρ.a 10300++_=_›,‹ρ.a 9900++_=_›,‹ρ.a 9500++_=_›,‹ρ.a 9100++_=_›,‹ρ.a 8700++_=_›,‹ρ.a 8300++_=_›,‹ρ.a 7900++_=_›,‹ρ.a 7500++_=_›,‹ρ.a 7100++_=_›,‹ρ.a 6700++_=_›,‹ρ.a 6300++_=_›,‹ρ.a 5900++_=_›,‹ρ.a 5500++_=_›,‹ρ.a 5100++_=_›,‹ρ.a 4700++_=_›,‹ρ.a 4300++_=_›,‹ρ.a 3900++_=_›,‹ρ.a 3500++_=_›,‹ρ.a 3100++_=_›,hnil,e]
    unfold Ts jrj Cs
    rw[j8s,j7w,qfk,qj6,j18]
    refine congrArg (fun (s:St)=>(Sf (ρ.i 21) (ρ.i 22) (ρ.a 5) (Ci (ρ.i 30)) s).t++ [255,217]) ?_
    rw[j0c]
    simp only[List.append_assoc,List.nil_append,List.take_zero,Int.toNat_zero,List.drop_zero]
    rfl
end
end Go.Proofs.YtljjbikbfeigdaaGreatDoor
namespace Go.Proofs.YtljjbikbfeigdaaGreatDoor
noncomputable section
open Go
theorem jqc{l P:List Int}{s n m:Nat}(hl:s+n+m≤l.length)(hp:n+m≤P.length):Cb (Cb l s (P.take n)) (s+n) ((P.drop n).take m)=Cb l s (P.take (n+m)):=by
  have e0:(P.take n).length=n:=by rw[List.length_take];omega
  have e1:((P.drop n).take m).length=m:=by rw[List.length_take,List.length_drop];omega
  have e2:(P.take (n+m)).length=n+m:=by rw[List.length_take];omega
  have h1:(Cb l s (P.take n)).take (s+n)=l.take s++P.take n:=Hr _ _ _ _ (by omega) (by omega)
  have h2:(Cb l s (P.take n)).drop (s+n+m)=l.drop (s+(n+m)):=by
    unfold Cb
    rw[e0,←List.append_assoc,List.drop_append,List.drop_drop]
    have:(l.take s++P.take n).length=s+n:=by rw[List.length_append,List.length_take,e0];omega
    rw[this,List.drop_eq_nil_of_le (by omega),List.nil_append]
    congr 1;omega
  show (Cb l s (P.take n)).take (s+n)++(_++(Cb l s (P.take n)).drop (s+n+((P.drop n).take m).length))=l.take s++(P.take (n+m)++l.drop (s+(P.take (n+m)).length))
  rw[e1,h2,h1,e2,List.take_add,List.append_assoc,List.append_assoc]
def j8u:VC:=
 let t0:T:=.lit 0
 let t1:T:=.mul (.iv 1000) (.iv 21)
 let t2:T:=.add t1 (.iv 21)
 let t3:T:=.mn t1 (.iv 20)
 let t4:T:=.ite (.eq (.iv 9) t3) t0 t3
 let t6:T:=.mn (.sub t2 t1) (.sub (.iv 20) t3)
 let t7:T:=.ite (.eq (.iv 20) t1) (.iv 26) (.add (.iv 26) t1)
 let t8:T:=.splice (.av 4) (.iv 26) (.cut (.av 5) t0 t1)
 let t9:T:=.add (.iv 1000) (.lit 1)
 (.need [(.aeq (.splice (.av 4) (.iv 26) (.cut (.av 5) t0 (.mul t0 (.iv 21)))) (.av 4)),(.le t0 t0),(.le t0 (.iv 22))] (.any 1000 1000000000 [(.le t0 (.iv 1000)),(.le (.iv 1000) (.iv 22))] (.cond (.lt (.iv 1000) (.iv 22)) (.need [(.le (.lit (-9223372036854775808)) t1),(.le t1 (.lit 9223372036854775807))] (.need [(.le t0 (.iv 20))] (.need [(.le (.lit (-9223372036854775808)) t2),(.le t2 (.lit 9223372036854775807))] (.need [(.le (.iv 20) (.iv 20)),(.le t0 t2),(.le t2 (.iv 20)),(.le t0 t1),(.le t1 t2)] (.need [(.le t0 (.iv 9)),(.le (.iv 9) (.iv 9)),(.le t0 t3),(.le t3 (.iv 20)),(.le t0 (.iv 9))] (.need [(.le t0 t4),(.le t0 t6),(.le (.add t4 t6) (.len (.av 5))),(.le t0 (.sub t2 t1)),(.le t0 (.sub (.iv 20) t3)),(.le t0 t7),(.le (.add t7 t6) (.len t8))] (.need [(.le (.lit (-9223372036854775808)) t9),(.le t9 (.lit 9223372036854775807))] (.need [(.aeq (.splice (.av 4) (.iv 26) (.cut (.av 5) t0 (.mul t9 (.iv 21)))) (.splice t8 t7 (.cut (.av 5) t4 t6))),(.le t0 t9),(.le t9 (.iv 22)),(.lt t0 (.sub (.iv 22) (.iv 1000))),(.lt (.sub (.iv 22) t9) (.sub (.iv 22) (.iv 1000)))] .done)))))))) (.need [(.aeq (.splice (.av 4) (.iv 26) (.av 5)) t8)] .done))))
theorem qlz:Dd (Db Tryz.prog Jt Jq ⟨j8i,Jd⟩ 100000 29 j2v) j8u=true:=by kernel_rfl
theorem j36:Cf Tryz.prog Z 29 j2v:=by
  refine Bf Cq Cn qlz fun ρ h=> ?_
  simp only[j2v,Gl,z0,Bi,Di,List.flatMap_cons,List.flatMap_nil,List.append_nil,List.append_assoc,List.cons_append,List.nil_append,and_true,↓Bo,↓Bq,↓Bs,↓Az,↓Ca,↓Bz,↓Bu,↓Bc,↓Bb,↓Be,↓Ba,↓Bv,↓Ay,↓Bt,↓Br,↓Bw,↓Bx,↓By,Ag,As,Ap,Ar,T.I,T.A,T.B,Int.toNat_zero,List.drop_zero,and_true,implies_true,VC.sem,Aa,Af,Ak,Ai,Ae,Ac,Ad,Am,Al,Ah,An,Aj,Ab,Aq,Ao] at h
  obtain ⟨h1,h2,h3,h4,h5,h6,h7,h8,h9,h10⟩:=h
  have hY: ∀y:Int,0≤y→y<ρ.i 22→0≤y*ρ.i 21∧y*ρ.i 21+ρ.i 21≤ρ.i 20∧(y+1)*ρ.i 21=y*ρ.i 21+ρ.i 21∧ρ.i 20≤4294836225:=by
    intro y a b
    have g1:(y+1)*ρ.i 21=y*ρ.i 21+ρ.i 21:=by rw[Int.add_mul,Int.one_mul]
    have g2:(y+1)*ρ.i 21≤ρ.i 22*ρ.i 21:=Int.mul_le_mul_of_nonneg_right (by omega) (by omega)
    have g3:ρ.i 22*ρ.i 21≤65535*65535:=Int.mul_le_mul (by omega) (by omega) (by omega) (by omega)
    have g4:0≤y*ρ.i 21:=Int.mul_nonneg a (by omega)
    rw[Int.mul_comm (ρ.i 22)] at g2 g3
    omega
  have t0:(0*ρ.i 21).toNat=0:=by rw[Int.zero_mul];rfl
  have hM: ∀y:Int,0≤y→y<ρ.i 22→min (y*ρ.i 21) (ρ.i 20)=y*ρ.i 21∧min (y*ρ.i 21+ρ.i 21-y*ρ.i 21) (ρ.i 20-y*ρ.i 21)=ρ.i 21∧(bif ieq (ρ.i 9) (y*ρ.i 21) then 0 else y*ρ.i 21)=y*ρ.i 21∧(bif ieq (ρ.i 20) (y*ρ.i 21) then 0 else y*ρ.i 21)=y*ρ.i 21:=by
    intro y a b
    obtain ⟨y0,y1,y2,y3⟩:=hY y a b
    rw[Dk,Dk,if_neg (by omega),if_neg (by omega)]
    omega
  simp only[j8u,Gl,↓Bo,↓Bq,↓Bs,↓Az,↓Ca,↓Bz,↓Bu,↓Bc,↓Bb,↓Be,↓Ba,↓Bv,↓Ay,↓Bt,↓Br,↓Bw,↓Bx,↓By,Ag,As,Ap,Ar,T.I,T.A,T.B,Int.toNat_zero,List.drop_zero,and_true,implies_true,VC.sem,Aa,Af,Ak,Ai,Ae,Ac,Ad,Am,Al,Ah,An,Aj,Ab,Aq,Ao,t0,ja1,List.take_zero]
  (repeat' (first|with_reducible exact True.intro|with_reducible refine And.intro ?_ ?_|intro _))<;>(try omega)
  · exact Pl _ _
  · have:=hY (ρ.i 1000) (by omega) (by omega);omega
  · have:=hY (ρ.i 1000) (by omega) (by omega);omega
  · have:=hY (ρ.i 1000) (by omega) (by omega);omega
  · have:=hY (ρ.i 1000) (by omega) (by omega);omega
  · have:=hY (ρ.i 1000) (by omega) (by omega);omega
  · have:=hY (ρ.i 1000) (by omega) (by omega);omega
  · have:=hY (ρ.i 1000) (by omega) (by omega)
    obtain ⟨m1,m2,m3,m4⟩:=hM (ρ.i 1000) (by omega) (by omega)
    rw[m1,m3];omega
  · have:=hY (ρ.i 1000) (by omega) (by omega)
    obtain ⟨m1,m2,m3,m4⟩:=hM (ρ.i 1000) (by omega) (by omega)
    rw[m1,m2,m3];omega
  · have:=hY (ρ.i 1000) (by omega) (by omega)
    rw[Dk,if_neg (by omega)];omega
  · have:=hY (ρ.i 1000) (by omega) (by omega)
    obtain ⟨m1,m2,m3,m4⟩:=hM (ρ.i 1000) (by omega) (by omega)
    rw[Dk,if_neg (by omega),m1,m2,Ev _ _ _ (by rw[List.length_take];omega)];omega
  · have:=hY (ρ.i 1000) (by omega) (by omega)
    obtain ⟨m1,m2,m3,m4⟩:=hM (ρ.i 1000) (by omega) (by omega)
    rw[Dk,if_neg (by omega),m1,m2,m3,show (ρ.i 26+ρ.i 1000*ρ.i 21).toNat=(ρ.i 26).toNat+(ρ.i 1000*ρ.i 21).toNat from by omega,jqc (by omega) (by omega),show (ρ.i 1000*ρ.i 21).toNat+(ρ.i 21).toNat=((ρ.i 1000+1)*ρ.i 21).toNat from by omega]
  · have e:ρ.i 1000=ρ.i 22:=by omega
    rw[e,Int.mul_comm,←h5,List.take_of_length_le (by omega)]
end
end Go.Proofs.YtljjbikbfeigdaaGreatDoor
namespace Go.Proofs.YtljjbikbfeigdaaGreatDoor
noncomputable section
open Go
theorem j4o: ∀f s,qh3 Tryz.prog f=some s→Ei Tryz.prog Z f s:=by
  intro f s h
  refine Sj jcn Hq (fun f s h=> ?_) 1000 5 f s h
  split at h
  · cases h;exact Dq jq7
  · cases h;exact Dq j36
  · cases h
theorem j1e: ∀f s,jze f=some s→Dw Tryz.prog Z f s:=by
  intro f s h
  unfold jze at h
  split at h
  · cases h;exact Ce j2x
  · cases h
def qip:VC:=
 let t0:T:=.lit (-9223372036854775808)
 let t1:T:=.lit 0
 let t2:T:=.ite (.lt (.iv 21) t1) t1 (.iv 21)
 let t3:T:=.ite (.lt (.iv 21) t1) (.iv 21) t1
 let t4:T:=.sub t2 t3
 let t5:T:=.lit 9223372036854775807
 let t6:T:=.ite (.lt (.iv 22) t1) t1 (.iv 22)
 let t7:T:=.ite (.lt (.iv 22) t1) (.iv 22) t1
 let t8:T:=.sub t6 t7
 let t9:T:=.lit 1
 let t10:T:=.add t2 t9
 let t11:T:=.tdiv t10 (.lit 2)
 let t12:T:=.tdiv t3 (.lit 2)
 let t13:T:=.sub t11 t12
 let t14:T:=.add t6 t9
 let t15:T:=.tdiv t14 (.lit 2)
 let t16:T:=.tdiv t7 (.lit 2)
 let t17:T:=.sub t15 t16
 let t18:T:=.mul (.mul t9 t4) t8
 let t19:T:=.mul (.lit 2) t13
 let t20:T:=.mul t19 t17
 let t21:T:=.add t18 t20
 let t22:T:=.mul t4 t8
 let t23:T:=.mul t1 t13
 let t24:T:=.mul t23 t17
 let t25:T:=.add t22 t24
 let t26:T:=.mul t9 t13
 let t27:T:=.mul t26 t17
 let t28:T:=.add t22 t27
 let t29:T:=.add t22 t20
 let t30:T:=.le t1 t25
 let t33:T:=.tdiv (.add (.iv 21) t9) (.lit 2)
 let t34:T:=.tdiv (.add (.iv 22) t9) (.lit 2)
 let t37:T:=.sub t28 t25
 let t39:T:=.ite (.eq t28 t25) t1 t25
 let t40:T:=.splice (.rep t29 t1) t1 (.av 5)
 let t42:T:=.sub t29 t28
 let t43:T:=.ite (.eq t29 t28) t1 t28
 let t44:T:=.splice t40 t39 (.av 6)
 let t47:T:=.splice t44 t43 (.av 7)
 (.need [(.le t0 t4),(.le t4 t5)] (.need [(.le t0 t8),(.le t8 t5)] (.need [(.le t0 t10),(.le t10 t5)] (.need [(.le t0 t11),(.le t11 t5)] (.need [(.le t0 t12),(.le t12 t5)] (.need [(.le t0 t13),(.le t13 t5)] (.need [(.le t0 t14),(.le t14 t5)] (.need [(.le t0 t15),(.le t15 t5)] (.need [(.le t0 t16),(.le t16 t5)] (.need [(.le t0 t17),(.le t17 t5)] (.need [(.le t9 t9),(.le t9 (.lit 2)),(.le t9 t4),(.le t4 (.lit 65535)),(.le t9 t8),(.le t8 (.lit 65535))] (.need [(.le (.lit 2) (.lit 2)),(.le t9 t13),(.le t13 (.lit 65535)),(.le t9 t17),(.le t17 (.lit 65535))] (.cond (.lt t18 t1) (.fail "stop") (.cond (.lt t20 t1) (.fail "stop") (.need [(.le t0 t21),(.le t21 t5)] (.cond (.lt t21 t1) (.fail "stop") (.need [(.le t0 t22),(.le t22 t5)] (.need [(.le t0 t23),(.le t23 t5)] (.need [(.le t0 t24),(.le t24 t5)] (.need [(.le t0 t25),(.le t25 t5)] (.need [(.le t0 t26),(.le t26 t5)] (.need [(.le t0 t27),(.le t27 t5)] (.need [(.le t0 t28),(.le t28 t5)] (.need [(.le t0 t19),(.le t19 t5)] (.need [(.le t0 t20),(.le t20 t5)] (.need [(.le t0 t29),(.le t29 t5)] (.need [(.le t1 t29),(.le t29 (.lit 140737488355328))] (.need [t30,(.le t25 t29),t30,(.le t25 t25),t30] (.need [(.le t1 t28),(.le t28 t29),(.le t1 t28),(.le t28 t28),(.le t25 t28)] (.need [(.le t29 t29),(.le t29 t29)] (.need [(.le t0 (.add (.iv 21) t9)),(.le (.add (.iv 21) t9) t5)] (.need [(.le t0 t33),(.le t33 t5)] (.need [(.le t0 (.add (.iv 22) t9)),(.le (.add (.iv 22) t9) t5)] (.need [(.le t0 t34),(.le t34 t5)] (.need [(.eq t4 (.iv 21)),(.eq t25 (.iv 20)),(.eq t25 (.mul t4 (.iv 22))),(.eq (.len (.av 5)) t25),(.le t1 t1),(.le (.add t1 t25) (.len (.rep t29 t1))),(.le (.len (.rep t29 t1)) (.lit 1000000000000)),(.le t25 (.iv 9))] (.need [(.eq t13 t33),(.eq t37 (.iv 24)),(.le t9 t34),(.le t34 (.lit 65535)),(.eq t37 (.mul t13 t34)),(.eq (.len (.av 6)) t37),(.le t1 t39),(.le (.add t39 t37) (.len t40)),(.le (.len t40) (.lit 1000000000000)),(.le t37 (.iv 10))] (.need [(.eq t42 (.iv 27)),(.eq t42 (.mul t13 t34)),(.eq (.len (.av 7)) t42),(.le t1 t43),(.le (.add t43 t42) (.len t44)),(.le (.len t44) (.lit 1000000000000)),(.le t42 (.iv 11))] (.need [(.eq t4 t2),(.eq t1 t7),(.eq t1 t3),(.eq t37 t42),(.eq t37 t42),(.eq (.add t25 t37) t43),(.eq t25 t39),(.le t9 t6),(.le t6 (.lit 65535)),(.eq t25 (.mul t4 t6)),(.eq t13 (.tdiv (.add t4 t9) (.lit 2))),(.eq t37 (.mul t13 t15)),(.eq (.len t47) (.add t25 (.mul (.lit 2) t37))),(.fb 2 t1 (.lit 255) t1 t1 t47 (.alit []) (.alit []) (.alit [])),(.aeq (.alit []) (.alit []))] (.any 1000 9 [(.aeq (.av 1100) (.fa 512 (.iv 30) t4 t6 t1 t47 (.alit []) (.alit []) (.alit []))),(.le (.len (.av 1100)) (.lit 1000000000000))] (.need [(.lt t1 (.len (.av 1100)))] (.any 1400 9 [(.le (.len (.av 1100)) (.iv 1400))] (.need [(.eq (.len (.av 1100)) (.len (.av 1100))),(.aeq (.av 1100) (.fa 512 (.iv 30) (.iv 21) (.iv 22) t1 (.splice (.av 5) (.len (.av 5)) (.splice (.av 6) (.len (.av 6)) (.av 7))) (.alit []) (.alit []) (.alit [])))] .done))))))))))))))))))))))))))))))))))))))))))
theorem w25:Dd (Db Tryz.prog (qh3 Tryz.prog) jze ⟨j8i,Jd⟩ 100000 25 c25) qip=true:=by kernel_rfl
theorem qkm{l a b c:List Int}{n m:Nat}(ha:a.length=n)(hb:b.length=m)(hc:c.length=m)(hl:l.length=n+2*m):Cb (Cb (Cb l 0 a) n b) (n+m) c=a++(b++c):=by
  have e1:(Cb l 0 a).take n=a:=by rw[Hr _ _ _ _ (by omega) (by omega)];rfl
  have l1:(Cb l 0 a).length=n+2*m:=by rw[Ev _ _ _ (by omega),hl]
  have e2:(Cb (Cb l 0 a) n b).take (n+m)=a++b:=by rw[Hr _ _ _ _ (by omega) (by omega),e1]
  have l2:(Cb (Cb l 0 a) n b).length=n+2*m:=by rw[Ev _ _ _ (by omega),l1]
  have l3:(Cb (Cb (Cb l 0 a) n b) (n+m) c).length=n+2*m:=by rw[Ev _ _ _ (by omega),l2]
  have e3:(Cb (Cb (Cb l 0 a) n b) (n+m) c).take (n+2*m)=a++b++c:=by rw[Hr _ _ _ _ (by omega) (by omega),e2]
  rw[List.take_of_length_le (by omega)] at e3
  rw[e3,List.append_assoc]
theorem j1l(q w h:Int)(p:List Int):(0:Int)<(Ts q w h p).length:=by
  unfold Ts
  rw[List.length_append]
  have:([255,217]:List Int).length=2:=rfl
  omega
theorem qcu:Cf Tryz.prog Z 25 c25:=by
  refine Bf j4o j1e w25 fun ρ h=> ?_
  simp only[c25,Gl,hf,Vd,roE,cA,fA,z0,Du,Bi,Di,List.flatMap_cons,List.flatMap_nil,List.append_nil,List.append_assoc,List.cons_append,List.nil_append,and_true,↓Bo,↓Bq,↓Bs,↓Az,↓Ca,↓Bz,↓Bu,↓Bc,↓Bb,↓Be,↓Ba,↓Bv,↓Ay,↓Bt,↓Br,↓Bw,↓Bx,↓By,Ag,As,Ap,Ar,T.I,T.A,T.B,Int.toNat_zero,List.drop_zero,and_true,implies_true,VC.sem,Aa,Af,Ak,Ai,Ae,Ac,Ad,Am,Al,Ah,An,Aj,Ab,Aq,Ao] at h
  obtain ⟨h1,h2,h3,h4,h5,h6,h7,h8,h9,h10,h11,h12,h13,h14,h15,h16,h17,h18⟩:=h
  have e1:(bif ilt (ρ.i 21) 0 then 0 else ρ.i 21)=ρ.i 21:=by rw[Ea,if_neg (by omega)]
  have e2:(bif ilt (ρ.i 21) 0 then ρ.i 21 else 0)=0:=by rw[Ea,if_neg (by omega)]
  have e3:(bif ilt (ρ.i 22) 0 then 0 else ρ.i 22)=ρ.i 22:=by rw[Ea,if_neg (by omega)]
  have e4:(bif ilt (ρ.i 22) 0 then ρ.i 22 else 0)=0:=by rw[Ea,if_neg (by omega)]
  have e5:(0:Int).tdiv 2=0:=rfl
  rw[td2 (x:=ρ.i 21+1) (by omega),td2 (x:=ρ.i 22+1) (by omega)] at*
  have hq0:0≤ρ.i 21*ρ.i 22:=Int.mul_nonneg (by omega) (by omega)
  have hq1:ρ.i 21*ρ.i 22≤65535*65535:=Int.mul_le_mul (by omega) (by omega) (by omega) (by omega)
  have hc:(ρ.i 21+1)/2*((ρ.i 22+1)/2)≤32768*32768:=Int.mul_le_mul (by omega) (by omega) (by omega) (by omega)
  have hc0:0≤(ρ.i 21+1)/2*((ρ.i 22+1)/2):=Int.mul_nonneg (by omega) (by omega)
  have hk:2*((ρ.i 21+1)/2)*((ρ.i 22+1)/2)=2*((ρ.i 21+1)/2*((ρ.i 22+1)/2)):=Int.mul_assoc _ _ _
  have hq2:1≤(ρ.i 21+1)/2*((ρ.i 22+1)/2):=Int.mul_le_mul (a:=1) (b:=1) (by omega) (by omega) (by omega) (by omega)
  have e6:(bif ieq (ρ.i 21*ρ.i 22+(ρ.i 21+1)/2*((ρ.i 22+1)/2)) (ρ.i 21*ρ.i 22) then 0 else ρ.i 21*ρ.i 22)=ρ.i 21*ρ.i 22:=by rw[Dk,if_neg (by omega)]
  have e7:(bif ieq (ρ.i 21*ρ.i 22+2*((ρ.i 21+1)/2*((ρ.i 22+1)/2))) (ρ.i 21*ρ.i 22+(ρ.i 21+1)/2*((ρ.i 22+1)/2)) then 0 else ρ.i 21*ρ.i 22+(ρ.i 21+1)/2*((ρ.i 22+1)/2))=ρ.i 21*ρ.i 22+(ρ.i 21+1)/2*((ρ.i 22+1)/2):=by rw[Dk,if_neg (by omega)]
  have e8:(ρ.i 21*ρ.i 22+(ρ.i 21+1)/2*((ρ.i 22+1)/2)).toNat=(ρ.i 21*ρ.i 22).toNat+((ρ.i 21+1)/2*((ρ.i 22+1)/2)).toNat:=by omega
  have S3:=qkm (l:=List.replicate (ρ.i 21*ρ.i 22+2*((ρ.i 21+1)/2*((ρ.i 22+1)/2))).toNat 0) (a:=ρ.a 5) (b:=ρ.a 6) (c:=ρ.a 7) (n:=(ρ.i 21*ρ.i 22).toNat) (m:=((ρ.i 21+1)/2*((ρ.i 22+1)/2)).toNat) (by omega) (by omega) (by omega) (by rw[List.length_replicate];omega)
  have L1:(Cb (List.replicate (ρ.i 21*ρ.i 22+2*((ρ.i 21+1)/2*((ρ.i 22+1)/2))).toNat 0) 0 (ρ.a 5)).length=(ρ.i 21*ρ.i 22+2*((ρ.i 21+1)/2*((ρ.i 22+1)/2))).toNat:=by rw[Ev _ _ _ (by rw[List.length_replicate];omega),List.length_replicate]
  have L2:(Cb (Cb (List.replicate (ρ.i 21*ρ.i 22+2*((ρ.i 21+1)/2*((ρ.i 22+1)/2))).toNat 0) 0 (ρ.a 5)) (ρ.i 21*ρ.i 22).toNat (ρ.a 6)).length=(ρ.i 21*ρ.i 22+2*((ρ.i 21+1)/2*((ρ.i 22+1)/2))).toNat:=by rw[Ev _ _ _ (by rw[L1];omega),L1]
  have g0:=j1l (ρ.i 30) (ρ.i 21) (ρ.i 22)
  simp only[qip,↓Bo,↓Bq,↓Bs,↓Az,↓Ca,↓Bz,↓Bu,↓Bc,↓Bb,↓Be,↓Ba,↓Bv,↓Ay,↓Bt,↓Br,↓Bw,↓Bx,↓By,Ag,As,Ap,Ar,T.I,T.A,T.B,Int.toNat_zero,List.drop_zero,and_true,implies_true,VC.sem,Aa,Af,Ak,Ai,Ae,Ac,Ad,Am,Al,Ah,An,Aj,Ab,Aq,Ao,e1,e2,e3,e4,e5,td2 (x:=ρ.i 21+1) (by omega),td2 (x:=ρ.i 22+1) (by omega),Int.sub_zero,Int.one_mul,Int.zero_mul,Int.add_zero,hk,e6,e7,e8,S3,L1,L2,Tm,jl6,List.length_replicate]
  (repeat' (first|with_reducible exact True.intro|with_reducible refine And.intro ?_ ?_|intro _))<;>(try omega)
  · simp only[List.length_append];omega
  · exact Lx h11 (Lx h12 h13)
  · rw[‹ρ.a 1100=_›];exact g0 _
end
end Go.Proofs.YtljjbikbfeigdaaGreatDoor
namespace Go.Proofs.YtljjbikbfeigdaaGreatDoor
noncomputable section
open Go
theorem jzs:(Ns.length:Int)=416:=by rw[show Ns.length=416 by kernel_rfl];rfl
theorem j5p:(List.range 12).all (fun i=>decide (Bg Ns (17+i:Int)=Bg (At 0) (i:Int))&&decide (Bg (At 0) (i:Int)≤11)&&decide (0≤Bg (At 0) (i:Int))&&decide (Bg (Hj 0 i) (Bg (At 0) (i:Int))=0))=true:=by decide+kernel
theorem j4h:(List.range 162).all (fun i=>decide (Bg Ns (46+i:Int)=Bg (At 1) (i:Int))&&decide (Bg (At 1) (i:Int) % 16≤10)&&decide (0≤Bg (At 1) (i:Int))&&decide (Bg (At 1) (i:Int)≤255)&&decide (Bg (Hj 1 i) (Bg (At 1) (i:Int))=0))=true:=by decide+kernel
theorem j2d:(List.range 12).all (fun i=>decide (Bg Ns (225+i:Int)=Bg (At 2) (i:Int))&&decide (Bg (At 2) (i:Int)≤11)&&decide (0≤Bg (At 2) (i:Int))&&decide (Bg (Hj 2 i) (Bg (At 2) (i:Int))=0))=true:=by decide+kernel
theorem j48:(List.range 162).all (fun i=>decide (Bg Ns (254+i:Int)=Bg (At 3) (i:Int))&&decide (Bg (At 3) (i:Int) % 16≤10)&&decide (0≤Bg (At 3) (i:Int))&&decide (Bg (At 3) (i:Int)≤255)&&decide (Bg (Hj 3 i) (Bg (At 3) (i:Int))=0))=true:=by decide+kernel
theorem jbu:((At 2).length:Int)=12:=rfl
theorem jbc:((At 3).length:Int)=162:=by rw[show (At 3).length=162 by kernel_rfl];rfl
def j6n:VC:=
 let t0:T:=.lit 0
 let t1:T:=.len (.alit Ns)
 let t2:T:=.lit 1
 let t3:T:=.lit 12
 let t4:T:=.lit 256
 let t5:T:=.rep t4 t0
 let t6:T:=.alit []
 let t7:T:=.fa 310 t0 t0 t0 t0 t6 t6 t6 t6
 let t8:T:=.len (.av 1000)
 let t9:T:=.get (.alit Ns) (.add (.lit 17) (.iv 1000))
 let t10:T:=.lit (-9223372036854775808)
 let t11:T:=.lit 9223372036854775807
 let t12:T:=.le t2 t2
 let t13:T:=.add (.iv 1000) t2
 let t14:T:=.set (.av 1001) t9 t2
 let t15:T:=.splice (.av 1000) t8 (.set (.alit [0]) t0 t9)
 let t16:T:=.sub (.iv 10) (.lit 29)
 let t17:T:=.lit 162
 let t18:T:=.fa 311 t0 t0 t0 t0 t6 t6 t6 t6
 let t19:T:=.len (.av 1401)
 let t20:T:=.get (.alit Ns) (.add (.lit 46) (.iv 1401))
 let t21:T:=.add (.iv 1401) t2
 let t22:T:=.set (.av 1402) t20 t2
 let t23:T:=.splice (.av 1401) t19 (.set (.alit [0]) t0 t20)
 let t24:T:=.sub t16 (.lit 179)
 let t26:T:=.fa 312 t0 t0 t0 t0 t6 t6 t6 t6
 let t27:T:=.len (.av 1802)
 let t28:T:=.get (.alit Ns) (.add (.lit 225) (.iv 1802))
 let t29:T:=.add (.iv 1802) t2
 let t30:T:=.set (.av 1803) t28 t2
 let t31:T:=.splice (.av 1802) t27 (.set (.alit [0]) t0 t28)
 let t32:T:=.sub t24 (.lit 29)
 let t34:T:=.fa 313 t0 t0 t0 t0 t6 t6 t6 t6
 let t35:T:=.len (.av 2203)
 let t36:T:=.get (.alit Ns) (.add (.lit 254) (.iv 2203))
 let t37:T:=.add (.iv 2203) t2
 let t38:T:=.set (.av 2204) t36 t2
 let t39:T:=.splice (.av 2203) t35 (.set (.alit [0]) t0 t36)
 let t40:T:=.rep t2 t0
 let t41:T:=.len t40
 (.need [(.lt t0 t1)] (.need [(.lt t2 t1)] (.need [(.lt (.lit 2) t1)] (.need [(.lt (.lit 3) t1)] (.need [(.lt (.lit 4) t1)] (.need [(.lt (.lit 5) t1)] (.need [(.lt (.lit 6) t1)] (.need [(.lt (.lit 7) t1)] (.need [(.lt (.lit 8) t1)] (.need [(.lt (.lit 9) t1)] (.need [(.lt (.lit 10) t1)] (.need [(.lt (.lit 11) t1)] (.need [(.lt t3 t1)] (.need [(.lt (.lit 13) t1)] (.need [(.lt (.lit 14) t1)] (.need [(.lt (.lit 15) t1)] (.need [(.lt (.lit 16) t1)] (.need [(.le t0 (.iv 10)),(.le (.iv 10) (.iv 10)),(.le (.lit 29) (.iv 10)),(.le t0 (.iv 10)),(.lt (.lit 17) (.iv 10))] (.need [(.le t0 t0),(.le t0 t3),(.eq (.len t5) t4),(.eq (.len t6) t0),(.aeq t6 (.cut t7 t0 t0)),(.aeq t5 (.fa 413 t0 t0 t0 t0 t6 t6 t6 t6))] (.any 1000 2 [(.le t0 (.iv 1000)),(.le (.iv 1000) t3),(.eq (.len (.av 1001)) t4),(.eq t8 (.iv 1000)),(.aeq (.av 1000) (.cut t7 t0 (.iv 1000))),(.aeq (.av 1001) (.fa 413 t0 (.iv 1000) t0 t0 t6 t6 t6 t6))] (.cond (.lt (.iv 1000) t3) (.need [(.lt (.add (.lit 17) (.iv 1000)) t1)] (.need [(.le t0 t9),(.lt t9 t4)] (.cond (.not (.eq (.get (.av 1001) t9) t0)) (.fail "leaf fit") (.cond (.lt (.lit 11) t9) (.fail "leaf fit") (.need [(.le t10 t9),(.le t9 t11)] (.need [t12,(.le (.add t8 t2) (.lit 1099511627776))] (.any 1400 3 [] (.need [(.le t10 t13),(.le t13 t11)] (.need [(.le t0 t13),(.le t13 t3),(.eq (.len t14) t4),(.eq (.len t15) t13),(.aeq t15 (.cut t7 t0 t13)),(.aeq t14 (.fa 413 t0 t13 t0 t0 t6 t6 t6 t6)),(.lt t0 (.sub t3 (.iv 1000))),(.lt (.sub t3 t13) (.sub t3 (.iv 1000)))] .done))))))))) (.need [(.lt t0 t8)] (.any 1400 2 [(.le t8 (.iv 1400))] (.need [(.lt (.lit 29) (.iv 10))] (.need [(.lt (.lit 29) t1)] (.need [(.lt (.lit 30) t1)] (.need [(.lt (.lit 31) t1)] (.need [(.lt (.lit 32) t1)] (.need [(.lt (.lit 33) t1)] (.need [(.lt (.lit 34) t1)] (.need [(.lt (.lit 35) t1)] (.need [(.lt (.lit 36) t1)] (.need [(.lt (.lit 37) t1)] (.need [(.lt (.lit 38) t1)] (.need [(.lt (.lit 39) t1)] (.need [(.lt (.lit 40) t1)] (.need [(.lt (.lit 41) t1)] (.need [(.lt (.lit 42) t1)] (.need [(.lt (.lit 43) t1)] (.need [(.lt (.lit 44) t1)] (.need [(.lt (.lit 45) t1)] (.need [(.le t0 t16),(.le t16 t16),(.le (.lit 179) t16),(.le t0 t16),(.lt (.lit 17) t16)] (.need [(.le t0 t17),(.aeq t6 (.cut t18 t0 t0)),(.aeq t5 (.fa 413 t2 t0 t0 t0 t6 t6 t6 t6))] (.any 1401 4 [(.le t0 (.iv 1401)),(.le (.iv 1401) t17),(.eq (.len (.av 1402)) t4),(.eq t19 (.iv 1401)),(.aeq (.av 1401) (.cut t18 t0 (.iv 1401))),(.aeq (.av 1402) (.fa 413 t2 (.iv 1401) t0 t0 t6 t6 t6 t6))] (.cond (.lt (.iv 1401) t17) (.need [(.lt (.add (.lit 46) (.iv 1401)) t1)] (.need [(.le t0 t20),(.lt t20 t4)] (.cond (.not (.eq (.get (.av 1402) t20) t0)) (.fail "leaf fit") (.cond (.lt (.lit 10) (.bits .and .u8 t20 (.lit 15))) (.fail "leaf fit") (.need [(.le t10 t20),(.le t20 t11)] (.need [t12,(.le (.add t19 t2) (.lit 1099511627776))] (.any 1801 5 [] (.need [(.le t10 t21),(.le t21 t11)] (.need [(.le t0 t21),(.le t21 t17),(.eq (.len t22) t4),(.eq (.len t23) t21),(.aeq t23 (.cut t18 t0 t21)),(.aeq t22 (.fa 413 t2 t21 t0 t0 t6 t6 t6 t6)),(.lt t0 (.sub t17 (.iv 1401))),(.lt (.sub t17 t21) (.sub t17 (.iv 1401)))] .done))))))))) (.need [(.lt t0 t19)] (.any 1801 4 [(.le t19 (.iv 1801))] (.need [(.lt (.lit 179) t16)] (.need [(.lt (.lit 208) t1)] (.need [(.lt (.lit 209) t1)] (.need [(.lt (.lit 210) t1)] (.need [(.lt (.lit 211) t1)] (.need [(.lt (.lit 212) t1)] (.need [(.lt (.lit 213) t1)] (.need [(.lt (.lit 214) t1)] (.need [(.lt (.lit 215) t1)] (.need [(.lt (.lit 216) t1)] (.need [(.lt (.lit 217) t1)] (.need [(.lt (.lit 218) t1)] (.need [(.lt (.lit 219) t1)] (.need [(.lt (.lit 220) t1)] (.need [(.lt (.lit 221) t1)] (.need [(.lt (.lit 222) t1)] (.need [(.lt (.lit 223) t1)] (.need [(.lt (.lit 224) t1)] (.need [(.le t0 t24),(.le t24 t24),(.le (.lit 29) t24),(.le t0 t24),(.lt (.lit 17) t24)] (.need [(.aeq t6 (.cut t26 t0 t0)),(.aeq t5 (.fa 413 (.lit 2) t0 t0 t0 t6 t6 t6 t6))] (.any 1802 6 [(.le t0 (.iv 1802)),(.le (.iv 1802) t3),(.eq (.len (.av 1803)) t4),(.eq t27 (.iv 1802)),(.aeq (.av 1802) (.cut t26 t0 (.iv 1802))),(.aeq (.av 1803) (.fa 413 (.lit 2) (.iv 1802) t0 t0 t6 t6 t6 t6))] (.cond (.lt (.iv 1802) t3) (.need [(.lt (.add (.lit 225) (.iv 1802)) t1)] (.need [(.le t0 t28),(.lt t28 t4)] (.cond (.not (.eq (.get (.av 1803) t28) t0)) (.fail "leaf fit") (.cond (.lt (.lit 11) t28) (.fail "leaf fit") (.need [(.le t10 t28),(.le t28 t11)] (.need [t12,(.le (.add t27 t2) (.lit 1099511627776))] (.any 2202 7 [] (.need [(.le t10 t29),(.le t29 t11)] (.need [(.le t0 t29),(.le t29 t3),(.eq (.len t30) t4),(.eq (.len t31) t29),(.aeq t31 (.cut t26 t0 t29)),(.aeq t30 (.fa 413 (.lit 2) t29 t0 t0 t6 t6 t6 t6)),(.lt t0 (.sub t3 (.iv 1802))),(.lt (.sub t3 t29) (.sub t3 (.iv 1802)))] .done))))))))) (.need [(.lt t0 t27)] (.any 2202 6 [(.le t27 (.iv 2202))] (.need [(.lt (.lit 29) t24)] (.need [(.lt (.lit 237) t1)] (.need [(.lt (.lit 238) t1)] (.need [(.lt (.lit 239) t1)] (.need [(.lt (.lit 240) t1)] (.need [(.lt (.lit 241) t1)] (.need [(.lt (.lit 242) t1)] (.need [(.lt (.lit 243) t1)] (.need [(.lt (.lit 244) t1)] (.need [(.lt (.lit 245) t1)] (.need [(.lt (.lit 246) t1)] (.need [(.lt (.lit 247) t1)] (.need [(.lt (.lit 248) t1)] (.need [(.lt (.lit 249) t1)] (.need [(.lt (.lit 250) t1)] (.need [(.lt (.lit 251) t1)] (.need [(.lt (.lit 252) t1)] (.need [(.lt (.lit 253) t1)] (.need [(.le t0 t32),(.le t32 t32),(.le (.lit 179) t32),(.le t0 t32),(.lt (.lit 17) t32)] (.need [(.aeq t6 (.cut t34 t0 t0)),(.aeq t5 (.fa 413 (.lit 3) t0 t0 t0 t6 t6 t6 t6))] (.any 2203 8 [(.le t0 (.iv 2203)),(.le (.iv 2203) t17),(.eq (.len (.av 2204)) t4),(.eq t35 (.iv 2203)),(.aeq (.av 2203) (.cut t34 t0 (.iv 2203))),(.aeq (.av 2204) (.fa 413 (.lit 3) (.iv 2203) t0 t0 t6 t6 t6 t6))] (.cond (.lt (.iv 2203) t17) (.need [(.lt (.add (.lit 254) (.iv 2203)) t1)] (.need [(.le t0 t36),(.lt t36 t4)] (.cond (.not (.eq (.get (.av 2204) t36) t0)) (.fail "leaf fit") (.cond (.lt (.lit 10) (.bits .and .u8 t36 (.lit 15))) (.fail "leaf fit") (.need [(.le t10 t36),(.le t36 t11)] (.need [t12,(.le (.add t35 t2) (.lit 1099511627776))] (.any 2603 9 [] (.need [(.le t10 t37),(.le t37 t11)] (.need [(.le t0 t37),(.le t37 t17),(.eq (.len t38) t4),(.eq (.len t39) t37),(.aeq t39 (.cut t34 t0 t37)),(.aeq t38 (.fa 413 (.lit 3) t37 t0 t0 t6 t6 t6 t6)),(.lt t0 (.sub t17 (.iv 2203))),(.lt (.sub t17 t37) (.sub t17 (.iv 2203)))] .done))))))))) (.need [(.lt t0 t35)] (.any 2603 8 [(.le t35 (.iv 2603))] (.need [(.eq t17 t35),(.eq t17 t19),(.eq t3 t27),(.eq t3 t8),(.aeq t34 (.av 2203)),(.aeq t26 (.av 1802)),(.aeq t18 (.av 1401)),(.aeq t7 (.av 1000)),(.aeq (.fa 303 t0 t0 t0 t0 t6 t6 t6 t6) (.splice t40 t41 (.alit [0,2,1,2,4,4,3,4,7,5,4,4,0,1,2,119]))),(.aeq (.fa 301 t0 t0 t0 t0 t6 t6 t6 t6) (.splice t40 t41 (.alit [0,2,1,3,3,2,4,3,5,5,4,4,0,0,1,125]))),(.aeq (.fa 302 t0 t0 t0 t0 t6 t6 t6 t6) (.splice t40 t41 (.alit [0,3,1,1,1,1,1,1,1,1,1,0,0,0,0,0]))),(.aeq (.fa 300 t0 t0 t0 t0 t6 t6 t6 t6) (.splice t40 t41 (.alit [0,1,5,1,1,1,1,1,1,0,0,0,0,0,0,0])))] .done))))))))))))))))))))))))))))))))))))))))))))))))))))))))))))))))))))))))))))))))))))))))))))))))
theorem qlc:Dd (Db Tryz.prog Jt Jq ⟨jme,Lb⟩ 100000 49 qdj) j6n=true:=by kernel_rfl
set_option maxRecDepth 20000 in
set_option maxHeartbeats 2000000 in
theorem j4w:Cf Tryz.prog Z 49 qdj:=by
  refine Bf Cq Cn qlc fun ρ h=> ?_
  have g1:=Cc h (.le (.lit 416) (.iv 10)) (by kernel_rfl)
  clear h
  simp only[↓Bo,↓Bq,↓Bs,↓Az,↓Ca,↓Bz,↓Bu,↓Bc,↓Bb,↓Be,↓Ba,↓Bv,↓Ay,↓Bt,↓Br,↓Bw,↓Bx,↓By,Ag,As,Ap,Ar,T.I,T.A,T.B,Int.toNat_zero,List.drop_zero,and_true,implies_true,VC.sem,Aa,Af,Ak,Ai,Ae,Ac,Ad,Am,Al,Ah,An,Aj,Ab,Aq,Ao] at g1
  have A0:0≤ρ.i 1000→ρ.i 1000<12→Bg Ns (17+ρ.i 1000)=Bg (At 0) (ρ.i 1000)∧0≤Bg (At 0) (ρ.i 1000)∧Bg (At 0) (ρ.i 1000)≤11∧Bg (Hj 0 (ρ.i 1000).toNat) (Bg (At 0) (ρ.i 1000))=0:=by
    intro h0 h1
    have:=List.all_eq_true.1 j5p (ρ.i 1000).toNat (List.mem_range.2 (by omega))
    simp only[Bool.and_eq_true,decide_eq_true_eq,Int.toNat_of_nonneg h0] at this
    exact ⟨this.1.1.1,this.1.2,this.1.1.2,this.2⟩
  have A1:0≤ρ.i 1401→ρ.i 1401<162→Bg Ns (46+ρ.i 1401)=Bg (At 1) (ρ.i 1401)∧0≤Bg (At 1) (ρ.i 1401)∧Bg (At 1) (ρ.i 1401)≤255∧Bg (At 1) (ρ.i 1401) % 16≤10∧Bg (Hj 1 (ρ.i 1401).toNat) (Bg (At 1) (ρ.i 1401))=0:=by
    intro h0 h1
    have:=List.all_eq_true.1 j4h (ρ.i 1401).toNat (List.mem_range.2 (by omega))
    simp only[Bool.and_eq_true,decide_eq_true_eq,Int.toNat_of_nonneg h0] at this
    exact ⟨this.1.1.1.1,this.1.1.2,this.1.2,this.1.1.1.2,this.2⟩
  have A2:0≤ρ.i 1802→ρ.i 1802<12→Bg Ns (225+ρ.i 1802)=Bg (At 2) (ρ.i 1802)∧0≤Bg (At 2) (ρ.i 1802)∧Bg (At 2) (ρ.i 1802)≤11∧Bg (Hj 2 (ρ.i 1802).toNat) (Bg (At 2) (ρ.i 1802))=0:=by
    intro h0 h1
    have:=List.all_eq_true.1 j2d (ρ.i 1802).toNat (List.mem_range.2 (by omega))
    simp only[Bool.and_eq_true,decide_eq_true_eq,Int.toNat_of_nonneg h0] at this
    exact ⟨this.1.1.1,this.1.2,this.1.1.2,this.2⟩
  have A3:0≤ρ.i 2203→ρ.i 2203<162→Bg Ns (254+ρ.i 2203)=Bg (At 3) (ρ.i 2203)∧0≤Bg (At 3) (ρ.i 2203)∧Bg (At 3) (ρ.i 2203)≤255∧Bg (At 3) (ρ.i 2203) % 16≤10∧Bg (Hj 3 (ρ.i 2203).toNat) (Bg (At 3) (ρ.i 2203))=0:=by
    intro h0 h1
    have:=List.all_eq_true.1 j48 (ρ.i 2203).toNat (List.mem_range.2 (by omega))
    simp only[Bool.and_eq_true,decide_eq_true_eq,Int.toNat_of_nonneg h0] at this
    exact ⟨this.1.1.1.1,this.1.1.2,this.1.2,this.1.1.1.2,this.2⟩
  simp only[j6n,↓Bo,↓Bq,↓Bs,↓Az,↓Ca,↓Bz,↓Bu,↓Bc,↓Bb,↓Be,↓Ba,↓Bv,↓Ay,↓Bt,↓Br,↓Bw,↓Bx,↓By,Ag,As,Ap,Ar,T.I,T.A,T.B,Int.toNat_zero,List.drop_zero,and_true,implies_true,VC.sem,Aa,Af,Ak,Ai,Ae,Ac,Ad,Am,Al,Ah,An,Aj,Ab,Aq,Ao,Ck,j7e,j0i,j0z,j86,j71,jzs,Fb,List.length_set,List.length_append,List.length_cons,List.length_nil,List.length_replicate]
  (repeat' (first|with_reducible exact True.intro|with_reducible refine And.intro ?_ ?_|intro _))<;>(try omega)
  · rfl
  · rfl
  · obtain ⟨a,b,c,d⟩:=A0 (by omega) (by omega)
    have hn:= ‹¬Bg (ρ.a 1001) _=0›
    rw[a,‹ρ.a 1001=Hj _ _›] at hn
    exact hn d
  · rw[Hu _ (by omega) (by rw[Om];omega),(A0 (by omega) (by omega)).1,← ‹ρ.a 1000=List.take _ _›]
  · rw[Mx 0 (by omega) (by rw[Om];omega),(A0 (by omega) (by omega)).1,← ‹ρ.a 1001=Hj _ _›]
  · rfl
  · rfl
  · obtain ⟨a,b,c,d,f⟩:=A1 (by omega) (by omega)
    have hn:= ‹¬Bg (ρ.a 1402) _=0›
    rw[a,‹ρ.a 1402=Hj _ _›] at hn
    exact hn f
  · obtain ⟨a,b,c,d,f⟩:=A1 (by omega) (by omega)
    have hn:= ‹10<Dj _ _ _ _›
    rw[a,jjf b c] at hn
    omega
  · rw[Hu _ (by omega) (by rw[Oo];omega),(A1 (by omega) (by omega)).1,← ‹ρ.a 1401=List.take _ _›]
  · rw[show Int.toNat 1=1 from rfl] at*
    rw[Mx 1 (by omega) (by rw[Oo];omega),(A1 (by omega) (by omega)).1,← ‹ρ.a 1402=Hj _ _›]
  · rfl
  · rfl
  · obtain ⟨a,b,c,d⟩:=A2 (by omega) (by omega)
    have hn:= ‹¬Bg (ρ.a 1803) _=0›
    rw[a,‹ρ.a 1803=Hj _ _›] at hn
    exact hn d
  · rw[Hu _ (by omega) (by rw[jbu];omega),(A2 (by omega) (by omega)).1,← ‹ρ.a 1802=List.take _ _›]
  · rw[show Int.toNat 2=2 from rfl] at*
    rw[Mx 2 (by omega) (by rw[jbu];omega),(A2 (by omega) (by omega)).1,← ‹ρ.a 1803=Hj _ _›]
  · rfl
  · rfl
  · obtain ⟨a,b,c,d,f⟩:=A3 (by omega) (by omega)
    have hn:= ‹¬Bg (ρ.a 2204) _=0›
    rw[a,‹ρ.a 2204=Hj _ _›] at hn
    exact hn f
  · obtain ⟨a,b,c,d,f⟩:=A3 (by omega) (by omega)
    have hn:= ‹10<Dj _ _ _ _›
    rw[a,jjf b c] at hn
    omega
  · rw[Hu _ (by omega) (by rw[jbc];omega),(A3 (by omega) (by omega)).1,← ‹ρ.a 2203=List.take _ _›]
  · rw[show Int.toNat 3=3 from rfl] at*
    rw[Mx 3 (by omega) (by rw[jbc];omega),(A3 (by omega) (by omega)).1,← ‹ρ.a 2204=Hj _ _›]
  · have e:= ‹ρ.a 2203=_›
    rw[List.take_of_length_le (by have:=jbc;omega)] at e
    exact e.symm
  · have e:= ‹ρ.a 1802=_›
    rw[List.take_of_length_le (by have:=jbu;omega)] at e
    exact e.symm
  · have e:= ‹ρ.a 1401=_›
    rw[List.take_of_length_le (by have:=Oo;omega)] at e
    exact e.symm
  · have e:= ‹ρ.a 1000=_›
    rw[List.take_of_length_le (by have:=Om;omega)] at e
    exact e.symm
  all_goals rfl
end
end Go.Proofs.YtljjbikbfeigdaaGreatDoor
namespace Go.Proofs.YtljjbikbfeigdaaGreatDoor
noncomputable section
open Go
theorem jwt(x:Int):Z.fa 414 x 0 0 0 [] [] [] []=Od x:=id rfl
theorem jzk(x:Int):Z.fa 415 x 0 0 0 [] [] [] []=Jz x:=id rfl
theorem Yh{k:Int}(h0:0≤k):(Od k).set k.toNat (-1)=Od (k+1):=by
  apply List.ext_getElem (by simp[Od])
  intro i hi1 hi2
  simp only[List.getElem_set,Od,List.getElem_map,List.getElem_range]
  by_cases hi:k.toNat=i
  · rw[if_pos hi,if_pos (by omega)]
  · rw[if_neg hi]
    by_cases hj:(i:Int)<k
    · rw[if_pos hj,if_pos (by omega)]
    · rw[if_neg hj,if_neg (by omega)]
theorem Yf{k:Int}(h0:0≤k):(Jz k).set k.toNat 0=Jz (k+1):=by
  apply List.ext_getElem (by simp[Jz])
  intro i hi1 hi2
  simp only[List.getElem_set,Jz,List.getElem_map,List.getElem_range]
  by_cases hi:k.toNat=i
  · rw[if_pos hi,if_pos (by omega)]
  · rw[if_neg hi]
    by_cases hj:(i:Int)<k
    · rw[if_pos hj,if_pos (by omega)]
    · rw[if_neg hj,if_neg (by omega)]
theorem Zw{k j:Int}(h0:0≤j)(h1:j<192):Bg (Jz k) j=if j<k then 0 else-1:=by
  unfold Bg Jz
  rw[List.getD_eq_getElem?_getD,List.getElem?_map,List.getElem?_range (by omega)]
  simp only[Option.map_some,Option.getD_some,Int.toNat_of_nonneg h0]
theorem jvb:Od 192=Jz 0:=by decide+kernel
theorem j6f:Od 0=List.replicate 192 0:=by decide+kernel
def j7c:VC:=
 let t0:T:=.lit 0
 let t1:T:=.len (.alit [3,1,0,2,17,3,17,0,63,0])
 let t2:T:=.lit 64
 let t3:T:=.alit []
 let t4:T:=.lit 192
 let t5:T:=.add (.iv 1003) (.lit 1)
 let t6:T:=.add t2 (.iv 1403)
 let t7:T:=.add (.iv 1403) (.lit 1)
 let t8:T:=.add (.lit 128) (.iv 1803)
 let t9:T:=.add (.iv 1803) (.lit 1)
 let t10:T:=.aeq (.cut (.av 30) t2 t2) (.cut (.cut (.av 30) t2 t4) t0 t2)
 (.need [(.lt t0 t1)] (.need [(.lt (.lit 1) t1)] (.need [(.lt (.lit 2) t1)] (.cond (.eq (.get (.av 30) t0) t0) (.fail "leaf fit") (.any 1000 2 [(.le (.lit 1) (.iv 1000))] (.need [(.lt (.lit 3) t1)] (.need [(.lt (.lit 4) t1)] (.cond (.eq (.get (.av 30) t2) t0) (.fail "leaf fit") (.any 1001 3 [(.le (.lit 2) (.iv 1001))] (.need [(.lt (.lit 5) t1)] (.need [(.lt (.lit 6) t1)] (.any 1002 4 [(.le (.lit 3) (.iv 1002))] (.need [(.le t0 (.iv 10)),(.le (.iv 10) (.iv 10)),(.le t0 (.iv 10)),(.lt (.lit 7) (.iv 10))] (.need [(.lt (.lit 7) t1)] (.need [(.lt (.lit 8) t1)] (.need [(.lt (.lit 9) t1)] (.need [(.le t0 t0),(.le t0 t2),(.aeq (.fa 415 t0 t0 t0 t0 t3 t3 t3 t3) (.fa 415 (.add t0 t0) t0 t0 t0 t3 t3 t3 t3))] (.any 1003 1000000004 [(.le t0 (.iv 1003)),(.le (.iv 1003) t2),(.eq (.len (.av 1003)) t4),(.aeq (.av 1003) (.fa 415 (.add t0 (.iv 1003)) t0 t0 t0 t3 t3 t3 t3))] (.cond (.le (.iv 1003) (.lit 63)) (.need [(.lt (.iv 1003) t2)] (.need [(.lt (.iv 1003) t4)] (.cond (.not (.eq (.get (.av 1003) (.iv 1003)) (.lit (-1)))) (.fail "leaf fit") (.need [(.le (.lit (-9223372036854775808)) t5),(.le t5 (.lit 9223372036854775807))] (.need [(.le t0 t5),(.le t5 t2),(.eq (.len (.set (.av 1003) (.iv 1003) t0)) t4),(.aeq (.set (.av 1003) (.iv 1003) t0) (.fa 415 (.add t0 t5) t0 t0 t0 t3 t3 t3 t3)),(.lt t0 (.sub t2 (.iv 1003))),(.lt (.sub t2 t5) (.sub t2 (.iv 1003)))] .done))))) (.need [(.aeq (.av 1003) (.fa 415 (.add t2 t0) t0 t0 t0 t3 t3 t3 t3))] (.any 1403 1000000004 [(.le t0 (.iv 1403)),(.le (.iv 1403) t2),(.eq (.len (.av 1403)) t4),(.aeq (.av 1403) (.fa 415 t6 t0 t0 t0 t3 t3 t3 t3))] (.cond (.le (.iv 1403) (.lit 63)) (.need [(.lt (.iv 1403) t2)] (.need [(.lt t6 t4)] (.cond (.not (.eq (.get (.av 1403) t6) (.lit (-1)))) (.fail "leaf fit") (.need [(.le (.lit (-9223372036854775808)) t7),(.le t7 (.lit 9223372036854775807))] (.need [(.le t0 t7),(.le t7 t2),(.eq (.len (.set (.av 1403) t6 t0)) t4),(.aeq (.set (.av 1403) t6 t0) (.fa 415 (.add t2 t7) t0 t0 t0 t3 t3 t3 t3)),(.lt t0 (.sub t2 (.iv 1403))),(.lt (.sub t2 t7) (.sub t2 (.iv 1403)))] .done))))) (.need [(.aeq (.av 1403) (.fa 415 (.add (.lit 128) t0) t0 t0 t0 t3 t3 t3 t3))] (.any 1803 1000000004 [(.le t0 (.iv 1803)),(.le (.iv 1803) t2),(.eq (.len (.av 1803)) t4),(.aeq (.av 1803) (.fa 415 t8 t0 t0 t0 t3 t3 t3 t3))] (.cond (.le (.iv 1803) (.lit 63)) (.need [(.lt (.iv 1803) t2)] (.need [(.lt t8 t4)] (.cond (.not (.eq (.get (.av 1803) t8) (.lit (-1)))) (.fail "leaf fit") (.need [(.le (.lit (-9223372036854775808)) t9),(.le t9 (.lit 9223372036854775807))] (.need [(.le t0 t9),(.le t9 t2),(.eq (.len (.set (.av 1803) t8 t0)) t4),(.aeq (.set (.av 1803) t8 t0) (.fa 415 (.add (.lit 128) t9) t0 t0 t0 t3 t3 t3 t3)),(.lt t0 (.sub t2 (.iv 1803))),(.lt (.sub t2 t9) (.sub t2 (.iv 1803)))] .done))))) (.need [t10,t10,(.aeq (.fa 415 t4 t0 t0 t0 t3 t3 t3 t3) (.av 1803))] .done))))))))))))))))))))))))))
theorem jip(h2:Cf Tryz.prog Z 54 c54): ∀f s,jq3 Tryz.prog f=some s→Ei Tryz.prog Z f s:=Sj jcn Hq (fun f s h=>by
  unfold j84 at h
  split at h
  · cases h;exact Dq h2
  · cases h) 1000 2
theorem qkl:Dd (Db Tryz.prog (jq3 Tryz.prog) Jq ⟨jme,Jd⟩ 100000 51 j9u) j7c=true:=by kernel_rfl
theorem j4z:Cf Tryz.prog Z 51 j9u:=by
  refine Bf (jip jje) Cn qkl fun ρ h=> ?_
  have f1:=Cc h (.le (.lit 10) (.iv 10)) (by kernel_rfl)
  have f2:=Cc h (.le (.lit 1) (.get (.av 30) z0)) (by kernel_rfl)
  have f3:=Cc h (.le (.lit 1) (.get (.av 30) (.lit 64))) (by kernel_rfl)
  clear h
  simp only[z0,Ck,Gy,↓Bo,↓Bq,↓Bs,↓Az,↓Ca,↓Bz,↓Bu,↓Bc,↓Bb,↓Be,↓Ba,↓Bv,↓Ay,↓Bt,↓Br,↓Bw,↓Bx,↓By,Ag,As,Ap,Ar,T.I,T.A,T.B,Int.toNat_zero,List.drop_zero,and_true,implies_true,VC.sem,Aa,Af,Ak,Ai,Ae,Ac,Ad,Am,Al,Ah,An,Aj,Ab,Aq,Ao] at f1 f2 f3
  simp only[j7c,↓Bo,↓Bq,↓Bs,↓Az,↓Ca,↓Bz,↓Bu,↓Bc,↓Bb,↓Be,↓Ba,↓Bv,↓Ay,↓Bt,↓Br,↓Bw,↓Bx,↓By,Ag,As,Ap,Ar,T.I,T.A,T.B,Int.toNat_zero,List.drop_zero,and_true,implies_true,VC.sem,Aa,Af,Ak,Ai,Ae,Ac,Ad,Am,Al,Ah,An,Aj,Ab,Aq,Ao,Ck,Gy,jzk,List.length_set,List.length_cons,List.length_nil]
  (repeat' (first|with_reducible exact True.intro|with_reducible refine And.intro ?_ ?_|intro _))<;>(try omega)
  · rw[Int.add_zero]
  · have hn:= ‹¬Bg (ρ.a 1003) _= -1›
    rw[‹ρ.a 1003=Jz _›,Zw (by omega) (by omega),if_neg (by omega)] at hn
    exact hn rfl
  · rw[‹ρ.a 1003=Jz _›,show (ρ.i 1003).toNat=(0+ρ.i 1003).toNat from by omega,Yf (by omega),show 0+(ρ.i 1003+1)=0+ρ.i 1003+1 from by omega]
  · rw[‹ρ.a 1003=Jz _›,show 0+ρ.i 1003=64+0 from by omega]
  · have hn:= ‹¬Bg (ρ.a 1403) _= -1›
    rw[‹ρ.a 1403=Jz _›,Zw (by omega) (by omega),if_neg (by omega)] at hn
    exact hn rfl
  · rw[‹ρ.a 1403=Jz _›,show (64+ρ.i 1403).toNat=(64+ρ.i 1403).toNat from by omega,Yf (by omega),show 64+(ρ.i 1403+1)=64+ρ.i 1403+1 from by omega]
  · rw[‹ρ.a 1403=Jz _›,show 64+ρ.i 1403=128+0 from by omega]
  · have hn:= ‹¬Bg (ρ.a 1803) _= -1›
    rw[‹ρ.a 1803=Jz _›,Zw (by omega) (by omega),if_neg (by omega)] at hn
    exact hn rfl
  · rw[‹ρ.a 1803=Jz _›,show (128+ρ.i 1803).toNat=(128+ρ.i 1803).toNat from by omega,Yf (by omega),show 128+(ρ.i 1803+1)=128+ρ.i 1803+1 from by omega]
  · rw[List.take_take];rfl
  · rw[List.take_take];rfl
  · rw[‹ρ.a 1803=Jz _›,show 128+ρ.i 1803=192 from by omega]
def qgx:VC:=
 (.cond (.eq (.iv 41) (.lit 3)) (.need [.ff] .done) (.cond (.lt (.lit 2) (.iv 42)) (.need [.ff] .done) (.any 1000 0 [] (.cond (.or (.not (.eq (.iv 44) (.iv 47))) (.not (.eq (.iv 45) (.iv 48)))) (.need [.ff] .done) (.cond (.not (.eq (.iv 40) (.lit 82))) .done (.cond (.not (.eq (.iv 43) (.lit 71))) .done (.need [(.not (.eq (.iv 46) (.lit 66)))] .done)))))))
theorem w71:Dd (Db Tryz.prog Jt Jq ⟨jme,Lb⟩ 100000 71 c71) qgx=true:=by kernel_rfl
theorem qat:Cf Tryz.prog Z 71 c71:=by
  refine Bf Cq Cn w71 fun ρ h=> ?_
  simp only[c71,z0,Bi,Di,List.flatMap_cons,List.flatMap_nil,List.append_nil,List.append_assoc,List.cons_append,List.nil_append,and_true,↓Bo,↓Bq,↓Bs,↓Az,↓Ca,↓Bz,↓Bu,↓Bc,↓Bb,↓Be,↓Ba,↓Bv,↓Ay,↓Bt,↓Br,↓Bw,↓Bx,↓By,Ag,As,Ap,Ar,T.I,T.A,T.B,Int.toNat_zero,List.drop_zero,and_true,implies_true,VC.sem,Aa,Af,Ak,Ai,Ae,Ac,Ad,Am,Al,Ah,An,Aj,Ab,Aq,Ao] at h
  obtain ⟨h1,h2,h3,h4,h5,h6,h7,h8,h9,h10⟩:=h
  simp only[qgx,↓Bo,↓Bq,↓Bs,↓Az,↓Ca,↓Bz,↓Bu,↓Bc,↓Bb,↓Be,↓Ba,↓Bv,↓Ay,↓Bt,↓Br,↓Bw,↓Bx,↓By,Ag,As,Ap,Ar,T.I,T.A,T.B,Int.toNat_zero,List.drop_zero,and_true,implies_true,VC.sem,Aa,Af,Ak,Ai,Ae,Ac,Ad,Am,Al,Ah,An,Aj,Ab,Aq,Ao]
  (repeat' (first|with_reducible exact True.intro|with_reducible refine And.intro ?_ ?_|intro _))<;>(try omega)
end
end Go.Proofs.YtljjbikbfeigdaaGreatDoor
namespace Go.Proofs.YtljjbikbfeigdaaGreatDoor
noncomputable section
open Go
theorem j0w{D bl:List Int}{d a u p:Int}(h1:0≤a)(h2:0≤u)(h3:u≤7)(ho:Li 0 D a u p=true):
    0≤e0 (Gg 0 D d a u p bl)∧0≤e1 (Gg 0 D d a u p bl)∧e1 (Gg 0 D d a u p bl)≤7∧((Gg 0 D d a u p bl).drop 2).length=bl.length∧ -1024≤p+Tg 0 D a u∧p+Tg 0 D a u≤1023:=by
  rw[jas] at ho
  simp only[Bool.and_eq_true,decide_eq_true_eq] at ho
  obtain ⟨o1,o2,o3,o4⟩:=ho
  obtain ⟨n1,n2,n3⟩:=jfl h1 h2 h3 o1
  have:=jfm (h:=1) (by omega) (d:=d) _ (bl:=bl.set d.toNat (p+Tg 0 D a u)) (Nat.le_refl _) n1 n2 n3 o4
  rw[jc8]
  rw[List.length_set] at this
  exact ⟨this.1,this.2.1,this.2.2.1,this.2.2.2,o2,o3⟩
theorem jjv{D bl:List Int}{d a u p:Int}(h1:0≤a)(h2:0≤u)(h3:u≤7)(ho:Li 1 D a u p=true):
    0≤e0 (Gg 1 D d a u p bl)∧0≤e1 (Gg 1 D d a u p bl)∧e1 (Gg 1 D d a u p bl)≤7∧((Gg 1 D d a u p bl).drop 2).length=bl.length∧ -1024≤p+Tg 1 D a u∧p+Tg 1 D a u≤1023:=by
  rw[Zm] at ho
  simp only[Bool.and_eq_true,decide_eq_true_eq] at ho
  obtain ⟨o1,o2,o3,o4⟩:=ho
  obtain ⟨n1,n2,n3⟩:=jg6 h1 h2 h3 o1
  have:=jfm (h:=3) (by omega) (d:=d) _ (bl:=bl.set d.toNat (p+Tg 1 D a u)) (Nat.le_refl _) n1 n2 n3 o4
  rw[Yq]
  rw[List.length_set] at this
  exact ⟨this.1,this.2.1,this.2.2.1,this.2.2.2,o2,o3⟩
def jmk:VC:=
 let t0:T:=.lit 0
 let t1:T:=.alit []
 let t2:T:=.add (.iv 3) (.fi 270 (.iv 0) (.iv 1) t0 t0 (.av 1) t1 t1 t1)
 let t3:T:=.fi 272 (.iv 0) (.iv 1) t0 t0 (.av 1) t1 t1 t1
 let t4:T:=.fi 274 (.iv 0) (.iv 1) t0 t0 (.av 1) t1 t1 t1
 let t5:T:=.set (.av 7) (.iv 5) t2
 let t7:T:=.fi 261 (.iv 5) t3 t4 t0 (.av 1) t5 t1 t1
 let t8:T:=.fi 265 (.iv 5) t3 t4 t0 (.av 1) t5 t1 t1
 let t9:T:=.fa 269 (.iv 5) t3 t4 t0 (.av 1) t5 t1 t1
 (.need [(.fb 270 (.iv 0) (.iv 1) t0 t0 (.av 1) t1 t1 t1),(.le (.lit (-1024)) t2),(.le t2 (.lit 1023))] (.need [(.le t0 t3),(.le t0 t4),(.le t4 (.lit 7)),(.le (.add (.iv 5) (.lit 64)) (.len t5)),(.le (.len t5) (.lit 1000000000000)),(.fb 251 (.lit 1) t3 t4 t0 (.av 1) t1 t1 t1)] (.need [(.le t0 t7),(.le t0 t8),(.le t8 (.lit 7)),(.eq t7 (.fi 420 (.iv 5) (.iv 0) (.iv 1) (.iv 3) (.av 1) (.av 7) t1 t1)),(.eq t8 (.fi 422 (.iv 5) (.iv 0) (.iv 1) (.iv 3) (.av 1) (.av 7) t1 t1)),(.eq t2 t2),(.aeq t9 (.fa 424 (.iv 5) (.iv 0) (.iv 1) (.iv 3) (.av 1) (.av 7) t1 t1)),(.eq (.len t9) (.len (.av 7)))] .done)))
theorem j61:Dd (Db Tryz.prog (spB 0 0) Jq ⟨fun _ _=>none,Ke⟩ 100000 53 (jjp 0 0)) jmk=true:=by kernel_rfl
theorem jpk:Cf Tryz.prog Z 53 (jjp 0 0):=by
  refine Bf (Xu jhz jak) Cn j61 fun ρ h=> ?_
  have g1:=Cc h (.eq (.len (.av 1)) (.iv 6)) (by kernel_rfl)
  have g4:=Cc h (.le (.lit 0) (.iv 0)) (by kernel_rfl)
  have g5:=Cc h (.le (.lit 0) (.iv 1)) (by kernel_rfl)
  have g6:=Cc h (.le (.iv 1) (.lit 7)) (by kernel_rfl)
  have g7:=Cc h (.le (.lit 0) (.iv 5)) (by kernel_rfl)
  have g8:=Cc h (.le (.add (.iv 5) (.lit 64)) (.len (.av 7))) (by kernel_rfl)
  have g9:=Cc h (.le (.len (.av 7)) Gl) (by kernel_rfl)
  have g10:=Cc h (Mc 420 (.iv 0) (.iv 1) (.iv 3) z0) (by kernel_rfl)
  clear h
  simp only[Mc,z0,Gl,↓Bo,↓Bq,↓Bs,↓Az,↓Ca,↓Bz,↓Bu,↓Bc,↓Bb,↓Be,↓Ba,↓Bv,↓Ay,↓Bt,↓Br,↓Bw,↓Bx,↓By,Ag,As,Ap,Ar,T.I,T.A,T.B,Int.toNat_zero,List.drop_zero,and_true,implies_true,VC.sem,Aa,Af,Ak,Ai,Ae,Ac,Ad,Am,Al,Ah,An,Aj,Ab,Aq,Ao,jab] at g1 g4 g5 g6 g7 g8 g9 g10
  have R:=j0w (d:=ρ.i 5) (bl:=ρ.a 7) g4 g5 g6 g10
  rw[jc8] at R
  obtain ⟨r1,r2,r3,r4,r5,r6⟩:=R
  simp only[jas,Bool.and_eq_true,decide_eq_true_eq] at g10
  obtain ⟨o1,o2,o3,o4⟩:=g10
  obtain ⟨n1,n2,n3⟩:=jfl g4 g5 g6 o1
  simp only[jmk,↓Bo,↓Bq,↓Bs,↓Az,↓Ca,↓Bz,↓Bu,↓Bc,↓Bb,↓Be,↓Ba,↓Bv,↓Ay,↓Bt,↓Br,↓Bw,↓Bx,↓By,Ag,As,Ap,Ar,T.I,T.A,T.B,Int.toNat_zero,List.drop_zero,and_true,implies_true,VC.sem,Aa,Af,Ak,Ai,Ae,Ac,Ad,Am,Al,Ah,An,Aj,Ab,Aq,Ao,jf2,jr2,jpp,jlv,jfh,jee,jfz,jc8,jma,jch,Vu,Un,List.length_set]
  (repeat' (first|exact True.intro|refine And.intro ?_ ?_|intro _))<;>(try assumption)<;>(try omega)
def jmc:VC:=
 let t0:T:=.lit 0
 let t1:T:=.alit []
 let t2:T:=.add (.iv 3) (.fi 271 (.iv 0) (.iv 1) t0 t0 (.av 1) t1 t1 t1)
 let t3:T:=.fi 273 (.iv 0) (.iv 1) t0 t0 (.av 1) t1 t1 t1
 let t4:T:=.fi 275 (.iv 0) (.iv 1) t0 t0 (.av 1) t1 t1 t1
 let t5:T:=.set (.av 7) (.iv 5) t2
 let t7:T:=.fi 263 (.iv 5) t3 t4 t0 (.av 1) t5 t1 t1
 let t8:T:=.fi 267 (.iv 5) t3 t4 t0 (.av 1) t5 t1 t1
 let t9:T:=.fa 271 (.iv 5) t3 t4 t0 (.av 1) t5 t1 t1
 (.need [(.fb 271 (.iv 0) (.iv 1) t0 t0 (.av 1) t1 t1 t1),(.le (.lit (-1024)) t2),(.le t2 (.lit 1023))] (.need [(.le t0 t3),(.le t0 t4),(.le t4 (.lit 7)),(.le (.add (.iv 5) (.lit 64)) (.len t5)),(.le (.len t5) (.lit 1000000000000)),(.fb 253 (.lit 1) t3 t4 t0 (.av 1) t1 t1 t1)] (.need [(.le t0 t7),(.le t0 t8),(.le t8 (.lit 7)),(.eq t7 (.fi 421 (.iv 5) (.iv 0) (.iv 1) (.iv 3) (.av 1) (.av 7) t1 t1)),(.eq t8 (.fi 423 (.iv 5) (.iv 0) (.iv 1) (.iv 3) (.av 1) (.av 7) t1 t1)),(.eq t2 t2),(.aeq t9 (.fa 425 (.iv 5) (.iv 0) (.iv 1) (.iv 3) (.av 1) (.av 7) t1 t1)),(.eq (.len t9) (.len (.av 7)))] .done)))
theorem j3r:Dd (Db Tryz.prog (spB 1 1) Jq ⟨fun _ _=>none,Ke⟩ 100000 53 (jjp 1 1)) jmc=true:=by kernel_rfl
theorem jqg:Cf Tryz.prog Z 53 (jjp 1 1):=by
  refine Bf (Xu jhi jaq) Cn j3r fun ρ h=> ?_
  have g1:=Cc h (.eq (.len (.av 1)) (.iv 6)) (by kernel_rfl)
  have g4:=Cc h (.le (.lit 0) (.iv 0)) (by kernel_rfl)
  have g5:=Cc h (.le (.lit 0) (.iv 1)) (by kernel_rfl)
  have g6:=Cc h (.le (.iv 1) (.lit 7)) (by kernel_rfl)
  have g7:=Cc h (.le (.lit 0) (.iv 5)) (by kernel_rfl)
  have g8:=Cc h (.le (.add (.iv 5) (.lit 64)) (.len (.av 7))) (by kernel_rfl)
  have g9:=Cc h (.le (.len (.av 7)) Gl) (by kernel_rfl)
  have g10:=Cc h (Mc 421 (.iv 0) (.iv 1) (.iv 3) z0) (by kernel_rfl)
  clear h
  simp only[Mc,z0,Gl,↓Bo,↓Bq,↓Bs,↓Az,↓Ca,↓Bz,↓Bu,↓Bc,↓Bb,↓Be,↓Ba,↓Bv,↓Ay,↓Bt,↓Br,↓Bw,↓Bx,↓By,Ag,As,Ap,Ar,T.I,T.A,T.B,Int.toNat_zero,List.drop_zero,and_true,implies_true,VC.sem,Aa,Af,Ak,Ai,Ae,Ac,Ad,Am,Al,Ah,An,Aj,Ab,Aq,Ao,Zj] at g1 g4 g5 g6 g7 g8 g9 g10
  have R:=jjv (d:=ρ.i 5) (bl:=ρ.a 7) g4 g5 g6 g10
  rw[Yq] at R
  obtain ⟨r1,r2,r3,r4,r5,r6⟩:=R
  simp only[Zm,Bool.and_eq_true,decide_eq_true_eq] at g10
  obtain ⟨o1,o2,o3,o4⟩:=g10
  obtain ⟨n1,n2,n3⟩:=jg6 g4 g5 g6 o1
  simp only[jmc,↓Bo,↓Bq,↓Bs,↓Az,↓Ca,↓Bz,↓Bu,↓Bc,↓Bb,↓Be,↓Ba,↓Bv,↓Ay,↓Bt,↓Br,↓Bw,↓Bx,↓By,Ag,As,Ap,Ar,T.I,T.A,T.B,Int.toNat_zero,List.drop_zero,and_true,implies_true,VC.sem,Aa,Af,Ak,Ai,Ae,Ac,Ad,Am,Al,Ah,An,Aj,Ab,Aq,Ao,jey,jk5,jjg,jde,jej,jf6,jff,Yq,jxk,jox,je2,ji1,List.length_set]
  (repeat' (first|exact True.intro|refine And.intro ?_ ?_|intro _))<;>(try assumption)<;>(try omega)
def jn0:VC:=
 let t0:T:=.lit 0
 let t1:T:=.alit []
 let t2:T:=.add (.iv 3) (.fi 271 (.iv 0) (.iv 1) t0 t0 (.av 1) t1 t1 t1)
 let t3:T:=.fi 273 (.iv 0) (.iv 1) t0 t0 (.av 1) t1 t1 t1
 let t4:T:=.fi 275 (.iv 0) (.iv 1) t0 t0 (.av 1) t1 t1 t1
 let t5:T:=.set (.av 7) (.iv 5) t2
 let t7:T:=.fi 263 (.iv 5) t3 t4 t0 (.av 1) t5 t1 t1
 let t8:T:=.fi 267 (.iv 5) t3 t4 t0 (.av 1) t5 t1 t1
 let t9:T:=.fa 271 (.iv 5) t3 t4 t0 (.av 1) t5 t1 t1
 (.need [(.fb 271 (.iv 0) (.iv 1) t0 t0 (.av 1) t1 t1 t1),(.le (.lit (-1024)) t2),(.le t2 (.lit 1023))] (.need [(.le t0 t3),(.le t0 t4),(.le t4 (.lit 7)),(.le (.add (.iv 5) (.lit 64)) (.len t5)),(.le (.len t5) (.lit 1000000000000)),(.fb 253 (.lit 1) t3 t4 t0 (.av 1) t1 t1 t1)] (.need [(.le t0 t7),(.le t0 t8),(.le t8 (.lit 7)),(.eq t7 (.fi 421 (.iv 5) (.iv 0) (.iv 1) (.iv 3) (.av 1) (.av 7) t1 t1)),(.eq t8 (.fi 423 (.iv 5) (.iv 0) (.iv 1) (.iv 3) (.av 1) (.av 7) t1 t1)),(.eq t2 t2),(.aeq t9 (.fa 425 (.iv 5) (.iv 0) (.iv 1) (.iv 3) (.av 1) (.av 7) t1 t1)),(.eq (.len t9) (.len (.av 7)))] .done)))
theorem j32:Dd (Db Tryz.prog (spB 1 2) Jq ⟨fun _ _=>none,Ke⟩ 100000 53 (jjp 1 2)) jn0=true:=by kernel_rfl
theorem jra:Cf Tryz.prog Z 53 (jjp 1 2):=by
  refine Bf (Xu jit jaq) Cn j32 fun ρ h=> ?_
  have g1:=Cc h (.eq (.len (.av 1)) (.iv 6)) (by kernel_rfl)
  have g4:=Cc h (.le (.lit 0) (.iv 0)) (by kernel_rfl)
  have g5:=Cc h (.le (.lit 0) (.iv 1)) (by kernel_rfl)
  have g6:=Cc h (.le (.iv 1) (.lit 7)) (by kernel_rfl)
  have g7:=Cc h (.le (.lit 0) (.iv 5)) (by kernel_rfl)
  have g8:=Cc h (.le (.add (.iv 5) (.lit 64)) (.len (.av 7))) (by kernel_rfl)
  have g9:=Cc h (.le (.len (.av 7)) Gl) (by kernel_rfl)
  have g10:=Cc h (Mc 421 (.iv 0) (.iv 1) (.iv 3) z0) (by kernel_rfl)
  clear h
  simp only[Mc,z0,Gl,↓Bo,↓Bq,↓Bs,↓Az,↓Ca,↓Bz,↓Bu,↓Bc,↓Bb,↓Be,↓Ba,↓Bv,↓Ay,↓Bt,↓Br,↓Bw,↓Bx,↓By,Ag,As,Ap,Ar,T.I,T.A,T.B,Int.toNat_zero,List.drop_zero,and_true,implies_true,VC.sem,Aa,Af,Ak,Ai,Ae,Ac,Ad,Am,Al,Ah,An,Aj,Ab,Aq,Ao,Zj] at g1 g4 g5 g6 g7 g8 g9 g10
  have R:=jjv (d:=ρ.i 5) (bl:=ρ.a 7) g4 g5 g6 g10
  rw[Yq] at R
  obtain ⟨r1,r2,r3,r4,r5,r6⟩:=R
  simp only[Zm,Bool.and_eq_true,decide_eq_true_eq] at g10
  obtain ⟨o1,o2,o3,o4⟩:=g10
  obtain ⟨n1,n2,n3⟩:=jg6 g4 g5 g6 o1
  simp only[jn0,↓Bo,↓Bq,↓Bs,↓Az,↓Ca,↓Bz,↓Bu,↓Bc,↓Bb,↓Be,↓Ba,↓Bv,↓Ay,↓Bt,↓Br,↓Bw,↓Bx,↓By,Ag,As,Ap,Ar,T.I,T.A,T.B,Int.toNat_zero,List.drop_zero,and_true,implies_true,VC.sem,Aa,Af,Ak,Ai,Ae,Ac,Ad,Am,Al,Ah,An,Aj,Ab,Aq,Ao,jey,jk5,jjg,jde,jej,jf6,jff,Yq,jxk,jox,je2,ji1,List.length_set]
  (repeat' (first|exact True.intro|refine And.intro ?_ ?_|intro _))<;>(try assumption)<;>(try omega)
end
end Go.Proofs.YtljjbikbfeigdaaGreatDoor
namespace Go.Proofs.YtljjbikbfeigdaaGreatDoor
noncomputable section
open Go
theorem j0m(n m X a u p q r:Int)(D b c d:List Int):Z.fb 530 n m X 0 ([a]++([u]++([p]++([q]++([r]++D))))) b c d=Lz D X n.toNat m ⟨a,u,p,q,r,b,c,d⟩:=id rfl
theorem qha(n m X a u p q r:Int)(D b c d:List Int):Z.fa 530 n m X 0 ([a]++([u]++([p]++([q]++([r]++D))))) b c d=pkC (scC D X n.toNat m ⟨a,u,p,q,r,b,c,d⟩):=id rfl
theorem qic(n a X:Int)(D b c d:List Int):Z.fi 530 n a X 0 D b c d=jza D X n.toNat a b c d:=id rfl
theorem j6q(n a X:Int)(D b c d:List Int):Z.fa 531 n a X 0 D b c d=(scC D X n.toNat 0 (st0 a b c d)).b0:=id rfl
theorem j6y(n a X:Int)(D b c d:List Int):Z.fa 532 n a X 0 D b c d=(scC D X n.toNat 0 (st0 a b c d)).b1:=id rfl
theorem j7b(n a X:Int)(D b c d:List Int):Z.fa 533 n a X 0 D b c d=(scC D X n.toNat 0 (st0 a b c d)).b2:=id rfl
theorem Lr{D:List Int}{X n m:Int}{s:CS}(h:m<n):Lz D X (n-m).toNat m s=(jah D X m s&&Lz D X (n-(m+1)).toNat (m+1) (un6 D X m s)):=by
  rw[show (n-m).toNat=(n-(m+1)).toNat+1 from by omega];rfl
theorem jz3{D:List Int}{X n m:Int}{s:CS}(h:m<n):scC D X (n-m).toNat m s=scC D X (n-(m+1)).toNat (m+1) (un6 D X m s):=by
  rw[show (n-m).toNat=(n-(m+1)).toNat+1 from by omega];rfl
theorem jdg{s t:CS}(h:pkC s=pkC t):s=t:=by
  obtain ⟨a,u,p,q,r,b,c,d⟩:=s
  obtain ⟨a',u',p',q',r',b',c',d'⟩:=t
  simp only[pkC,List.cons.injEq] at h
  obtain ⟨rfl,rfl,rfl,rfl,rfl,h6,h7,h8⟩:=h
  obtain ⟨e1,e2⟩:=List.append_inj h8 (by omega)
  obtain ⟨e3,e4⟩:=List.append_inj e2 (by omega)
  rw[e1,e3,e4]
theorem j7s(d X:Int):d*2*(X*2)=4*(d*X):=by rw[Int.mul_comm d 2,Int.mul_comm X 2,Int.mul_assoc,Int.mul_left_comm d 2 X];omega
theorem qgo{X m d r:Int}(hd:m/X=d)(hr:m % X=r):dY X m 0=64*(4*(d*X)+2*r)∧dY X m 1=64*(4*(d*X)+2*r+1)∧dY X m 2=64*(4*(d*X)+2*X+2*r)∧dY X m 3=64*(4*(d*X)+2*X+2*r+1)∧dC X m=64*(d*X+r):=by
  have h1:d*2*(X*2)=4*(d*X):=j7s d X
  have h2:(d*2+1)*(X*2)=4*(d*X)+2*X:=by rw[Int.add_mul,h1];omega
  unfold dY dC
  rw[hd,hr]
  simp only[show (0:Int)/2=0 from rfl,show (1:Int)/2=0 from rfl,show (2:Int)/2=1 from rfl,show (3:Int)/2=1 from rfl,show (0:Int) % 2=0 from rfl,show (1:Int) % 2=1 from rfl,show (2:Int) % 2=0 from rfl,show (3:Int) % 2=1 from rfl,Int.add_zero,h1,h2]
  refine ⟨?_,?_,?_,?_,?_⟩<;>first|trivial|omega
theorem jz4{x:Int}(h:0≤x):(x+16-1).tdiv 16=(x+15)/16:=by rw[Int.tdiv_eq_ediv_of_nonneg (by omega)];omega
theorem jw4: ∀f s,jr4 f=some s→Dw Tryz.prog Z f s:=by
  intro f s h
  unfold jr4 at h
  split at h
  · cases h;exact Ce j4z
  · cases h
    intro ρ w0 w h args r he hn hw hh
    dsimp only at he
    split at he
    · exact Ce jpk ρ w0 w h args r he hn hw hh
    · split at he
      · exact Ce jqg ρ w0 w h args r he hn hw hh
      · exact Ce jra ρ w0 w h args r he hn hw hh
  · cases h
def j7l:VC:=
 let t0:T:=.av 1
 let t1:T:=.lit (-9223372036854775808)
 let t2:T:=.lit 9223372036854775807
 let t3:T:=.sub (.add (.iv 21) (.lit 16)) (.lit 1)
 let t4:T:=.tdiv t3 (.lit 16)
 let t5:T:=.sub (.add (.iv 22) (.lit 16)) (.lit 1)
 let t6:T:=.tdiv t5 (.lit 16)
 let t7:T:=.mul t4 t6
 let t8:T:=.lit 0
 let t9:T:=.lit (-1024)
 let t10:T:=.lit 1023
 let t11:T:=.tdiv (.add (.iv 21) (.lit 15)) (.lit 16)
 let t12:T:=.alit [0]
 let t13:T:=.set t12 t8 t8
 let t14:T:=.len t13
 let t15:T:=.splice (.set t12 t8 (.iv 0)) (.len (.set t12 t8 (.iv 0))) (.splice t13 t14 (.splice t13 t14 (.splice t13 t14 (.splice t13 t14 t0))))
 let t16:T:=.fa 530 (.iv 23) t8 t11 t8 t15 (.av 7) (.av 8) (.av 9)
 let t17:T:=.lit 64
 let t18:T:=.mul t17 (.iv 23)
 let t19:T:=.sub (.iv 23) (.iv 1400)
 let t20:T:=.splice (.set t12 t8 (.iv 1401)) (.len (.set t12 t8 (.iv 1401))) (.splice (.set t12 t8 (.iv 1402)) (.len (.set t12 t8 (.iv 1402))) (.splice (.set t12 t8 (.iv 1403)) (.len (.set t12 t8 (.iv 1403))) (.splice (.set t12 t8 (.iv 1404)) (.len (.set t12 t8 (.iv 1404))) (.splice (.set t12 t8 (.iv 1405)) (.len (.set t12 t8 (.iv 1405))) t0))))
 let t21:T:=.mul t4 (.lit 2)
 let t23:T:=.tdiv (.iv 1400) t4
 let t24:T:=.mul t23 (.lit 2)
 let t25:T:=.mul t24 t21
 let t26:T:=.tmod (.iv 1400) t4
 let t27:T:=.mul t26 (.lit 2)
 let t28:T:=.add t25 t27
 let t29:T:=.mul t28 t17
 let t30:T:=.lit 1000000000000
 let t31:T:=.alit []
 let t32:T:=.add t28 (.lit 1)
 let t33:T:=.mul t32 t17
 let t34:T:=.add t24 (.lit 1)
 let t35:T:=.mul t34 t21
 let t36:T:=.add t35 t27
 let t37:T:=.mul t36 t17
 let t38:T:=.add t36 (.lit 1)
 let t39:T:=.mul t38 t17
 let t40:T:=.mul t23 t4
 let t41:T:=.add t40 t26
 let t42:T:=.mul t41 t17
 let t44:T:=.add (.iv 1400) (.lit 1)
 let t45:T:=.sub (.iv 23) t44
 let t46:T:=.splice (.set t12 t8 (.iv 3900)) (.len (.set t12 t8 (.iv 3900))) (.splice (.set t12 t8 (.iv 3901)) (.len (.set t12 t8 (.iv 3901))) (.splice (.set t12 t8 (.iv 3102)) (.len (.set t12 t8 (.iv 3102))) (.splice (.set t12 t8 (.iv 3502)) (.len (.set t12 t8 (.iv 3502))) (.splice (.set t12 t8 (.iv 3902)) (.len (.set t12 t8 (.iv 3902))) t0))))
 (.need [(.le (.lit 589) (.len t0)),(.aeq (.alit [3,1,0,2,17,3,17,0,63,0]) (.cut t0 (.lit 579) (.lit 10)))] (.any 1000 0 [] (.need [(.le t1 (.add (.iv 21) (.lit 16))),(.le (.add (.iv 21) (.lit 16)) t2),(.le t1 t3),(.le t3 t2),(.le t1 t4),(.le t4 t2)] (.need [(.le t1 (.add (.iv 22) (.lit 16))),(.le (.add (.iv 22) (.lit 16)) t2),(.le t1 t5),(.le t5 t2),(.le t1 t6),(.le t6 t2)] (.need [(.le t1 t7),(.le t7 t2)] (.need [(.le t8 t8),(.le t8 (.iv 23)),(.le t8 t8),(.le t8 (.lit 7)),(.le t9 t8),(.le t8 t10),(.le t9 t8),(.le t8 t10),(.le t9 t8),(.le t8 t10),(.fb 530 (.sub (.iv 23) t8) t8 t11 t8 t15 (.av 7) (.av 8) (.av 9)),(.aeq (.fa 530 (.sub (.iv 23) t8) t8 t11 t8 t15 (.av 7) (.av 8) (.av 9)) t16)] (.any 1400 3 [(.le t8 (.iv 1400)),(.le (.iv 1400) (.iv 23)),(.le t8 (.iv 1401)),(.le t8 (.iv 1402)),(.le (.iv 1402) (.lit 7)),(.le t9 (.iv 1403)),(.le (.iv 1403) t10),(.le t9 (.iv 1404)),(.le (.iv 1404) t10),(.le t9 (.iv 1405)),(.le (.iv 1405) t10),(.eq (.len (.av 1400)) (.mul t17 (.iv 20))),(.eq (.len (.av 1401)) t18),(.eq (.len (.av 1402)) t18),(.fb 530 t19 (.iv 1400) t11 t8 t20 (.av 1400) (.av 1401) (.av 1402)),(.aeq (.fa 530 t19 (.iv 1400) t11 t8 t20 (.av 1400) (.av 1401) (.av 1402)) t16)] (.cond (.lt (.iv 1400) t7) (.need [(.le t1 t21),(.le t21 t2)] (.need [(.le t1 (.mul t6 (.lit 2))),(.le (.mul t6 (.lit 2)) t2)] (.need [(.not (.eq t4 t8)),(.le t1 t23),(.le t23 t2)] (.need [(.le t1 t24),(.le t24 t2)] (.need [(.le t1 t25),(.le t25 t2)] (.need [(.le t1 t27),(.le t27 t2)] (.need [(.le t1 t28),(.le t28 t2)] (.need [(.le t8 t28),(.lt t28 (.iv 20))] (.need [(.le t8 t29),(.le (.add t29 t17) (.len (.av 1400))),(.le (.len (.av 1400)) t30),(.fb 420 (.iv 1401) (.iv 1402) (.iv 1403) t8 t0 t31 t31 t31)] (.any 1800 7 [(.le t8 (.iv 1900)),(.le t8 (.iv 1901)),(.le (.iv 1901) (.lit 7)),(.eq (.iv 1900) (.fi 420 t29 (.iv 1401) (.iv 1402) (.iv 1403) t0 (.av 1400) t31 t31)),(.eq (.iv 1901) (.fi 422 t29 (.iv 1401) (.iv 1402) (.iv 1403) t0 (.av 1400) t31 t31)),(.eq (.iv 1902) (.add (.iv 1403) (.fi 270 (.iv 1401) (.iv 1402) t8 t8 t0 t31 t31 t31))),(.aeq (.av 1907) (.fa 424 t29 (.iv 1401) (.iv 1402) (.iv 1403) t0 (.av 1400) t31 t31)),(.eq (.len (.av 1907)) (.len (.av 1400))),(.le t9 (.iv 1902)),(.le (.iv 1902) t10)] (.need [(.le t1 t32),(.le t32 t2)] (.need [(.le t8 t32),(.lt t32 (.iv 20))] (.need [(.le t8 t33),(.le (.add t33 t17) (.len (.av 1907))),(.le (.len (.av 1907)) t30),(.fb 420 (.iv 1900) (.iv 1901) (.iv 1902) t8 t0 t31 t31 t31)] (.any 2200 7 [(.le t8 (.iv 2300)),(.le t8 (.iv 2301)),(.le (.iv 2301) (.lit 7)),(.eq (.iv 2300) (.fi 420 t33 (.iv 1900) (.iv 1901) (.iv 1902) t0 (.av 1907) t31 t31)),(.eq (.iv 2301) (.fi 422 t33 (.iv 1900) (.iv 1901) (.iv 1902) t0 (.av 1907) t31 t31)),(.eq (.iv 2302) (.add (.iv 1902) (.fi 270 (.iv 1900) (.iv 1901) t8 t8 t0 t31 t31 t31))),(.aeq (.av 2307) (.fa 424 t33 (.iv 1900) (.iv 1901) (.iv 1902) t0 (.av 1907) t31 t31)),(.eq (.len (.av 2307)) (.len (.av 1907))),(.le t9 (.iv 2302)),(.le (.iv 2302) t10)] (.need [(.le t1 t34),(.le t34 t2)] (.need [(.le t1 t35),(.le t35 t2)] (.need [(.le t1 t36),(.le t36 t2)] (.need [(.le t8 t36),(.lt t36 (.iv 20))] (.need [(.le t8 t37),(.le (.add t37 t17) (.len (.av 2307))),(.le (.len (.av 2307)) t30),(.fb 420 (.iv 2300) (.iv 2301) (.iv 2302) t8 t0 t31 t31 t31)] (.any 2600 7 [(.le t8 (.iv 2700)),(.le t8 (.iv 2701)),(.le (.iv 2701) (.lit 7)),(.eq (.iv 2700) (.fi 420 t37 (.iv 2300) (.iv 2301) (.iv 2302) t0 (.av 2307) t31 t31)),(.eq (.iv 2701) (.fi 422 t37 (.iv 2300) (.iv 2301) (.iv 2302) t0 (.av 2307) t31 t31)),(.eq (.iv 2702) (.add (.iv 2302) (.fi 270 (.iv 2300) (.iv 2301) t8 t8 t0 t31 t31 t31))),(.aeq (.av 2707) (.fa 424 t37 (.iv 2300) (.iv 2301) (.iv 2302) t0 (.av 2307) t31 t31)),(.eq (.len (.av 2707)) (.len (.av 2307))),(.le t9 (.iv 2702)),(.le (.iv 2702) t10)] (.need [(.le t1 t38),(.le t38 t2)] (.need [(.le t8 t38),(.lt t38 (.iv 20))] (.need [(.le t8 t39),(.le (.add t39 t17) (.len (.av 2707))),(.le (.len (.av 2707)) t30),(.fb 420 (.iv 2700) (.iv 2701) (.iv 2702) t8 t0 t31 t31 t31)] (.any 3000 7 [(.le t8 (.iv 3100)),(.le t8 (.iv 3101)),(.le (.iv 3101) (.lit 7)),(.eq (.iv 3100) (.fi 420 t39 (.iv 2700) (.iv 2701) (.iv 2702) t0 (.av 2707) t31 t31)),(.eq (.iv 3101) (.fi 422 t39 (.iv 2700) (.iv 2701) (.iv 2702) t0 (.av 2707) t31 t31)),(.eq (.iv 3102) (.add (.iv 2702) (.fi 270 (.iv 2700) (.iv 2701) t8 t8 t0 t31 t31 t31))),(.aeq (.av 3107) (.fa 424 t39 (.iv 2700) (.iv 2701) (.iv 2702) t0 (.av 2707) t31 t31)),(.eq (.len (.av 3107)) (.len (.av 2707))),(.le t9 (.iv 3102)),(.le (.iv 3102) t10)] (.need [(.le t1 t40),(.le t40 t2)] (.need [(.le t1 t26),(.le t26 t2)] (.need [(.le t1 t41),(.le t41 t2)] (.need [(.le t8 t41),(.lt t41 (.iv 23))] (.need [(.le t8 t42),(.le (.add t42 t17) (.len (.av 1401))),(.le (.len (.av 1401)) t30),(.fb 421 (.iv 3100) (.iv 3101) (.iv 1404) t8 t0 t31 t31 t31)] (.any 3400 11 [(.le t8 (.iv 3500)),(.le t8 (.iv 3501)),(.le (.iv 3501) (.lit 7)),(.eq (.iv 3500) (.fi 421 t42 (.iv 3100) (.iv 3101) (.iv 1404) t0 (.av 1401) t31 t31)),(.eq (.iv 3501) (.fi 423 t42 (.iv 3100) (.iv 3101) (.iv 1404) t0 (.av 1401) t31 t31)),(.eq (.iv 3502) (.add (.iv 1404) (.fi 271 (.iv 3100) (.iv 3101) t8 t8 t0 t31 t31 t31))),(.aeq (.av 3507) (.fa 425 t42 (.iv 3100) (.iv 3101) (.iv 1404) t0 (.av 1401) t31 t31)),(.eq (.len (.av 3507)) (.len (.av 1401))),(.le t9 (.iv 3502)),(.le (.iv 3502) t10)] (.need [(.le (.add t42 t17) (.len (.av 1402))),(.le (.len (.av 1402)) t30),(.fb 421 (.iv 3500) (.iv 3501) (.iv 1405) t8 t0 t31 t31 t31)] (.any 3800 15 [(.le t8 (.iv 3900)),(.le t8 (.iv 3901)),(.le (.iv 3901) (.lit 7)),(.eq (.iv 3900) (.fi 421 t42 (.iv 3500) (.iv 3501) (.iv 1405) t0 (.av 1402) t31 t31)),(.eq (.iv 3901) (.fi 423 t42 (.iv 3500) (.iv 3501) (.iv 1405) t0 (.av 1402) t31 t31)),(.eq (.iv 3902) (.add (.iv 1405) (.fi 271 (.iv 3500) (.iv 3501) t8 t8 t0 t31 t31 t31))),(.aeq (.av 3907) (.fa 425 t42 (.iv 3500) (.iv 3501) (.iv 1405) t0 (.av 1402) t31 t31)),(.eq (.len (.av 3907)) (.len (.av 1402))),(.le t9 (.iv 3902)),(.le (.iv 3902) t10)] (.need [(.le t1 t44),(.le t44 t2)] (.need [(.le t8 t44),(.le t44 (.iv 23)),(.eq (.len (.av 3107)) (.mul t17 (.iv 20))),(.eq (.len (.av 3507)) t18),(.eq (.len (.av 3907)) t18),(.fb 530 t45 t44 t11 t8 t46 (.av 3107) (.av 3507) (.av 3907)),(.aeq (.fa 530 t45 t44 t11 t8 t46 (.av 3107) (.av 3507) (.av 3907)) t16),(.lt t8 t19),(.lt t45 t19)] .done)))))))))))))))))))))))))))))))))) (.need [(.fb 290 (.iv 1401) (.iv 1402) t8 t8 t0 t31 t31 t31)] (.need [(.eq (.fi 530 (.iv 23) (.iv 0) t11 t8 t0 (.av 7) (.av 8) (.av 9)) (.fi 290 (.iv 1401) (.iv 1402) t8 t8 t0 t31 t31 t31)),(.aeq (.fa 533 (.iv 23) (.iv 0) t11 t8 t0 (.av 7) (.av 8) (.av 9)) (.av 1402)),(.aeq (.fa 532 (.iv 23) (.iv 0) t11 t8 t0 (.av 7) (.av 8) (.av 9)) (.av 1401)),(.aeq (.fa 531 (.iv 23) (.iv 0) t11 t8 t0 (.av 7) (.av 8) (.av 9)) (.av 1400))] .done))))))))))
theorem qlw:Dd (Db Tryz.prog (jq3 Tryz.prog) jr4 ⟨jme,Lb⟩ 100000 35 qa6) j7l=true:=by kernel_rfl
set_option maxHeartbeats 4000000 in
theorem j6k:Cf Tryz.prog Z 35 qa6:=by
  refine Bf (jip jje) jw4 qlw fun ρ h=> ?_
  have g1:=Cc h (.eq (.len (.av 1)) (.iv 6)) (by kernel_rfl)
  have g2:=Cc h (.le (.iv 6) Gl) (by kernel_rfl)
  have g3:=Cc h (.le (.lit 0) (.iv 0)) (by kernel_rfl)
  have g4:=Cc h (.le (.lit 589) (.iv 6)) (by kernel_rfl)
  have g5:=Cc h (.aeq (.cut (.av 1) (.lit 579) (.lit 10)) jnb) (by kernel_rfl)
  have g6:=Cc h (.le (.lit 1) (.iv 21)) (by kernel_rfl)
  have g7:=Cc h (.le (.iv 21) (.lit 65535)) (by kernel_rfl)
  have g8:=Cc h (.le (.lit 1) (.iv 22)) (by kernel_rfl)
  have g9:=Cc h (.le (.iv 22) (.lit 65535)) (by kernel_rfl)
  have g11:=Cc h (.eq (.iv 23) (.mul xT (.tdiv (.add (.iv 22) (.lit 15)) (.lit 16)))) (by kernel_rfl)
  have g12:=Cc h (.eq (.iv 20) (.mul (.lit 4) (.iv 23))) (by kernel_rfl)
  have g13:=Cc h (jh4 7 (.iv 20)) (by kernel_rfl)
  have g14:=Cc h (jh4 8 (.iv 23)) (by kernel_rfl)
  have g15:=Cc h (jh4 9 (.iv 23)) (by kernel_rfl)
  have g16:=Cc h (.le (.lit 1) (.get (.av 30) z0)) (by kernel_rfl)
  have g17:=Cc h (.le (.lit 1) (.get (.av 30) (.lit 64))) (by kernel_rfl)
  have g18:=Cc h (.fb 530 (.iv 23) z0 xT z0 (stT (.iv 0) z0 z0 z0 z0) (.av 7) (.av 8) (.av 9)) (by kernel_rfl)
  have g19:=Cc h (.le (.lit 10) (.iv 10)) (by kernel_rfl)
  clear h
  simp only[Gl,stT,app,one,xT,jh4,jnb,z0,Fb,j0m,↓Bo,↓Bq,↓Bs,↓Az,↓Ca,↓Bz,↓Bu,↓Bc,↓Bb,↓Be,↓Ba,↓Bv,↓Ay,↓Bt,↓Br,↓Bw,↓Bx,↓By,Ag,As,Ap,Ar,T.I,T.A,T.B,Int.toNat_zero,List.drop_zero,and_true,implies_true,VC.sem,Aa,Af,Ak,Ai,Ae,Ac,Ad,Am,Al,Ah,An,Aj,Ab,Aq,Ao] at g1 g2 g3 g4 g5 g6 g7 g8 g9 g11 g12 g13 g14 g15 g16 g17 g18 g19
  have tx:(ρ.i 21+15).tdiv 16=(ρ.i 21+15)/16:=Int.tdiv_eq_ediv_of_nonneg (by omega)
  have ty:(ρ.i 22+15).tdiv 16=(ρ.i 22+15)/16:=Int.tdiv_eq_ediv_of_nonneg (by omega)
  rw[tx,ty] at g11
  rw[tx] at g18
  have t1:=jz4 (x:=ρ.i 21) (by omega)
  have t2:=jz4 (x:=ρ.i 22) (by omega)
  have hX1:1≤(ρ.i 21+15)/16:=by omega
  have hX2:(ρ.i 21+15)/16≤4096:=by omega
  have hY1:1≤(ρ.i 22+15)/16:=by omega
  have hY2:(ρ.i 22+15)/16≤4096:=by omega
  have hN2:(ρ.i 21+15)/16*((ρ.i 22+15)/16)≤4096*4096:=Int.mul_le_mul hX2 hY2 (by omega) (by omega)
  simp only[j7l,↓Bo,↓Bq,↓Bs,↓Az,↓Ca,↓Bz,↓Bu,↓Bc,↓Bb,↓Be,↓Ba,↓Bv,↓Ay,↓Bt,↓Br,↓Bw,↓Bx,↓By,Ag,As,Ap,Ar,T.I,T.A,T.B,Int.toNat_zero,List.drop_zero,and_true,implies_true,VC.sem,Aa,Af,Ak,Ai,Ae,Ac,Ad,Am,Al,Ah,An,Aj,Ab,Aq,Ao,Ck,tx,t1,t2,←g11,Fb,jzk,j0m,qha,qic,j6q,j6y,j7b,jic,j10,jab,Zj,jfh,jee,jfz,jf2,jej,jf6,jff,jey,Int.sub_zero]
  generalize (ρ.i 21+15)/16=X at*
  have I:0≤ρ.i 1400→ρ.i 1400<ρ.i 23→(ρ.i 1400).tdiv (X)=ρ.i 1400/X∧(ρ.i 1400).tmod (X)=ρ.i 1400 % X∧0≤ρ.i 1400/X∧ρ.i 1400/X≤ρ.i 1400∧0≤ρ.i 1400 % X∧ρ.i 1400 % X<X∧ρ.i 1400/X*X+ρ.i 1400 % X=ρ.i 1400∧ρ.i 1400/X*X+X≤ρ.i 23∧0≤ρ.i 1400/X*X:=by
    intro a b
    obtain ⟨i1,i2,i3,i4,i5,i6⟩:=jzh (m:=ρ.i 1400) (X:=X) a hX1
    rw[Int.tdiv_eq_ediv_of_nonneg a,Int.tmod_eq_emod_of_nonneg a] at*
    have hd:ρ.i 1400/X<(ρ.i 22+15)/16:=by
      apply Int.ediv_lt_of_lt_mul (by omega)
      rw[Int.mul_comm];omega
    have he:(ρ.i 1400/X+1)*X≤(ρ.i 22+15)/16*X:=Int.mul_le_mul_of_nonneg_right (by omega) (by omega)
    rw[Int.add_mul,Int.one_mul,Int.mul_comm _ (X),Int.mul_comm _ (X),←g11,Int.mul_comm (X) (ρ.i 1400/X)] at he
    exact ⟨rfl,rfl,i2,i3,i5,i6,i1,he,i4⟩
  have hN0:0≤X*((ρ.i 22+15)/16):=Int.mul_nonneg (by omega) (by omega)
  have J:0≤ρ.i 1400→ρ.i 1400<ρ.i 23→(ρ.i 1400).tdiv (X)*2*(X*2)=4*(ρ.i 1400/X*X)∧((ρ.i 1400).tdiv (X)*2+1)*(X*2)=4*(ρ.i 1400/X*X)+2*X∧(ρ.i 1400).tdiv (X)*X=ρ.i 1400/X*X∧
      ((ρ.i 1400).tdiv (X)*2*(X*2)+(ρ.i 1400).tmod (X)*2)*64=dY (X) (ρ.i 1400) 0∧((ρ.i 1400).tdiv (X)*2*(X*2)+(ρ.i 1400).tmod (X)*2+1)*64=dY (X) (ρ.i 1400) 1∧(((ρ.i 1400).tdiv (X)*2+1)*(X*2)+(ρ.i 1400).tmod (X)*2)*64=dY (X) (ρ.i 1400) 2∧(((ρ.i 1400).tdiv (X)*2+1)*(X*2)+(ρ.i 1400).tmod (X)*2+1)*64=dY (X) (ρ.i 1400) 3∧((ρ.i 1400).tdiv (X)*X+(ρ.i 1400).tmod (X))*64=dC (X) (ρ.i 1400):=by
    intro a b
    obtain ⟨i1,i2,i3,i4,i5,i6,i7,i8,i9⟩:=I a b
    obtain ⟨d0,d1,d2,d3,d4⟩:=qgo (X:=X) (m:=ρ.i 1400) rfl rfl
    rw[i1,i2,d0,d1,d2,d3,d4,Int.add_mul,j7s,Int.one_mul]
    refine ⟨rfl,?_,rfl,?_,?_,?_,?_,?_⟩<;>omega
  (repeat' (first|with_reducible exact True.intro|with_reducible refine And.intro ?_ ?_|intro _))<;>(try omega)
  all_goals (try (have i:=I (by omega) (by omega);have j:=J (by omega) (by omega);omega))
  · exact g5.symm
  · skip
    have ho:= ‹Lz _ _ (ρ.i 23-ρ.i 1400).toNat _ _=true›
    rw[Lr (by omega),jah] at ho
    simp only[Bool.and_eq_true] at ho
    obtain ⟨⟨k0,k1,k2,k3,k4,k5⟩,k6⟩:=ho
    exact k0
  · skip
    have ho:= ‹Lz _ _ (ρ.i 23-ρ.i 1400).toNat _ _=true›
    rw[Lr (by omega),jah] at ho
    simp only[Bool.and_eq_true] at ho
    obtain ⟨⟨k0,k1,k2,k3,k4,k5⟩,k6⟩:=ho
    obtain ⟨j1,j2,j3,y1,y2,y3,y4,y5⟩:=J (by omega) (by omega)
    have u1:un1 (ρ.a 1) (X) (ρ.i 1400) ⟨ρ.i 1401,ρ.i 1402,ρ.i 1403,ρ.i 1404,ρ.i 1405,ρ.a 1400,ρ.a 1401,ρ.a 1402⟩=⟨ρ.i 1900,ρ.i 1901,ρ.i 1902,ρ.i 1404,ρ.i 1405,ρ.a 1907,ρ.a 1401,ρ.a 1402⟩:=by
      rw[un1,‹ρ.i 1900=_›,‹ρ.i 1901=_›,‹ρ.i 1902=_›,‹ρ.a 1907=_›,y1];rfl
    rw[u1] at k1
    exact k1
  · skip
    have ho:= ‹Lz _ _ (ρ.i 23-ρ.i 1400).toNat _ _=true›
    rw[Lr (by omega),jah] at ho
    simp only[Bool.and_eq_true] at ho
    obtain ⟨⟨k0,k1,k2,k3,k4,k5⟩,k6⟩:=ho
    obtain ⟨j1,j2,j3,y1,y2,y3,y4,y5⟩:=J (by omega) (by omega)
    have u1:un1 (ρ.a 1) (X) (ρ.i 1400) ⟨ρ.i 1401,ρ.i 1402,ρ.i 1403,ρ.i 1404,ρ.i 1405,ρ.a 1400,ρ.a 1401,ρ.a 1402⟩=⟨ρ.i 1900,ρ.i 1901,ρ.i 1902,ρ.i 1404,ρ.i 1405,ρ.a 1907,ρ.a 1401,ρ.a 1402⟩:=by
      rw[un1,‹ρ.i 1900=_›,‹ρ.i 1901=_›,‹ρ.i 1902=_›,‹ρ.a 1907=_›,y1];rfl
    have u2:un2 (ρ.a 1) (X) (ρ.i 1400) ⟨ρ.i 1401,ρ.i 1402,ρ.i 1403,ρ.i 1404,ρ.i 1405,ρ.a 1400,ρ.a 1401,ρ.a 1402⟩=⟨ρ.i 2300,ρ.i 2301,ρ.i 2302,ρ.i 1404,ρ.i 1405,ρ.a 2307,ρ.a 1401,ρ.a 1402⟩:=by
      rw[un2,u1,‹ρ.i 2300=_›,‹ρ.i 2301=_›,‹ρ.i 2302=_›,‹ρ.a 2307=_›,y2];rfl
    rw[u2] at k2
    exact k2
  · skip
    have ho:= ‹Lz _ _ (ρ.i 23-ρ.i 1400).toNat _ _=true›
    rw[Lr (by omega),jah] at ho
    simp only[Bool.and_eq_true] at ho
    obtain ⟨⟨k0,k1,k2,k3,k4,k5⟩,k6⟩:=ho
    obtain ⟨j1,j2,j3,y1,y2,y3,y4,y5⟩:=J (by omega) (by omega)
    have u1:un1 (ρ.a 1) (X) (ρ.i 1400) ⟨ρ.i 1401,ρ.i 1402,ρ.i 1403,ρ.i 1404,ρ.i 1405,ρ.a 1400,ρ.a 1401,ρ.a 1402⟩=⟨ρ.i 1900,ρ.i 1901,ρ.i 1902,ρ.i 1404,ρ.i 1405,ρ.a 1907,ρ.a 1401,ρ.a 1402⟩:=by
      rw[un1,‹ρ.i 1900=_›,‹ρ.i 1901=_›,‹ρ.i 1902=_›,‹ρ.a 1907=_›,y1];rfl
    have u2:un2 (ρ.a 1) (X) (ρ.i 1400) ⟨ρ.i 1401,ρ.i 1402,ρ.i 1403,ρ.i 1404,ρ.i 1405,ρ.a 1400,ρ.a 1401,ρ.a 1402⟩=⟨ρ.i 2300,ρ.i 2301,ρ.i 2302,ρ.i 1404,ρ.i 1405,ρ.a 2307,ρ.a 1401,ρ.a 1402⟩:=by
      rw[un2,u1,‹ρ.i 2300=_›,‹ρ.i 2301=_›,‹ρ.i 2302=_›,‹ρ.a 2307=_›,y2];rfl
    have u3:un3 (ρ.a 1) (X) (ρ.i 1400) ⟨ρ.i 1401,ρ.i 1402,ρ.i 1403,ρ.i 1404,ρ.i 1405,ρ.a 1400,ρ.a 1401,ρ.a 1402⟩=⟨ρ.i 2700,ρ.i 2701,ρ.i 2702,ρ.i 1404,ρ.i 1405,ρ.a 2707,ρ.a 1401,ρ.a 1402⟩:=by
      rw[un3,u2,‹ρ.i 2700=_›,‹ρ.i 2701=_›,‹ρ.i 2702=_›,‹ρ.a 2707=_›,y3];rfl
    rw[u3] at k3
    exact k3
  · skip
    have ho:= ‹Lz _ _ (ρ.i 23-ρ.i 1400).toNat _ _=true›
    rw[Lr (by omega),jah] at ho
    simp only[Bool.and_eq_true] at ho
    obtain ⟨⟨k0,k1,k2,k3,k4,k5⟩,k6⟩:=ho
    obtain ⟨j1,j2,j3,y1,y2,y3,y4,y5⟩:=J (by omega) (by omega)
    have u1:un1 (ρ.a 1) (X) (ρ.i 1400) ⟨ρ.i 1401,ρ.i 1402,ρ.i 1403,ρ.i 1404,ρ.i 1405,ρ.a 1400,ρ.a 1401,ρ.a 1402⟩=⟨ρ.i 1900,ρ.i 1901,ρ.i 1902,ρ.i 1404,ρ.i 1405,ρ.a 1907,ρ.a 1401,ρ.a 1402⟩:=by
      rw[un1,‹ρ.i 1900=_›,‹ρ.i 1901=_›,‹ρ.i 1902=_›,‹ρ.a 1907=_›,y1];rfl
    have u2:un2 (ρ.a 1) (X) (ρ.i 1400) ⟨ρ.i 1401,ρ.i 1402,ρ.i 1403,ρ.i 1404,ρ.i 1405,ρ.a 1400,ρ.a 1401,ρ.a 1402⟩=⟨ρ.i 2300,ρ.i 2301,ρ.i 2302,ρ.i 1404,ρ.i 1405,ρ.a 2307,ρ.a 1401,ρ.a 1402⟩:=by
      rw[un2,u1,‹ρ.i 2300=_›,‹ρ.i 2301=_›,‹ρ.i 2302=_›,‹ρ.a 2307=_›,y2];rfl
    have u3:un3 (ρ.a 1) (X) (ρ.i 1400) ⟨ρ.i 1401,ρ.i 1402,ρ.i 1403,ρ.i 1404,ρ.i 1405,ρ.a 1400,ρ.a 1401,ρ.a 1402⟩=⟨ρ.i 2700,ρ.i 2701,ρ.i 2702,ρ.i 1404,ρ.i 1405,ρ.a 2707,ρ.a 1401,ρ.a 1402⟩:=by
      rw[un3,u2,‹ρ.i 2700=_›,‹ρ.i 2701=_›,‹ρ.i 2702=_›,‹ρ.a 2707=_›,y3];rfl
    have u4:un4 (ρ.a 1) (X) (ρ.i 1400) ⟨ρ.i 1401,ρ.i 1402,ρ.i 1403,ρ.i 1404,ρ.i 1405,ρ.a 1400,ρ.a 1401,ρ.a 1402⟩=⟨ρ.i 3100,ρ.i 3101,ρ.i 3102,ρ.i 1404,ρ.i 1405,ρ.a 3107,ρ.a 1401,ρ.a 1402⟩:=by
      rw[un4,u3,‹ρ.i 3100=_›,‹ρ.i 3101=_›,‹ρ.i 3102=_›,‹ρ.a 3107=_›,y4];rfl
    rw[u4] at k4
    exact k4
  · skip
    have ho:= ‹Lz _ _ (ρ.i 23-ρ.i 1400).toNat _ _=true›
    rw[Lr (by omega),jah] at ho
    simp only[Bool.and_eq_true] at ho
    obtain ⟨⟨k0,k1,k2,k3,k4,k5⟩,k6⟩:=ho
    obtain ⟨j1,j2,j3,y1,y2,y3,y4,y5⟩:=J (by omega) (by omega)
    have u1:un1 (ρ.a 1) (X) (ρ.i 1400) ⟨ρ.i 1401,ρ.i 1402,ρ.i 1403,ρ.i 1404,ρ.i 1405,ρ.a 1400,ρ.a 1401,ρ.a 1402⟩=⟨ρ.i 1900,ρ.i 1901,ρ.i 1902,ρ.i 1404,ρ.i 1405,ρ.a 1907,ρ.a 1401,ρ.a 1402⟩:=by
      rw[un1,‹ρ.i 1900=_›,‹ρ.i 1901=_›,‹ρ.i 1902=_›,‹ρ.a 1907=_›,y1];rfl
    have u2:un2 (ρ.a 1) (X) (ρ.i 1400) ⟨ρ.i 1401,ρ.i 1402,ρ.i 1403,ρ.i 1404,ρ.i 1405,ρ.a 1400,ρ.a 1401,ρ.a 1402⟩=⟨ρ.i 2300,ρ.i 2301,ρ.i 2302,ρ.i 1404,ρ.i 1405,ρ.a 2307,ρ.a 1401,ρ.a 1402⟩:=by
      rw[un2,u1,‹ρ.i 2300=_›,‹ρ.i 2301=_›,‹ρ.i 2302=_›,‹ρ.a 2307=_›,y2];rfl
    have u3:un3 (ρ.a 1) (X) (ρ.i 1400) ⟨ρ.i 1401,ρ.i 1402,ρ.i 1403,ρ.i 1404,ρ.i 1405,ρ.a 1400,ρ.a 1401,ρ.a 1402⟩=⟨ρ.i 2700,ρ.i 2701,ρ.i 2702,ρ.i 1404,ρ.i 1405,ρ.a 2707,ρ.a 1401,ρ.a 1402⟩:=by
      rw[un3,u2,‹ρ.i 2700=_›,‹ρ.i 2701=_›,‹ρ.i 2702=_›,‹ρ.a 2707=_›,y3];rfl
    have u4:un4 (ρ.a 1) (X) (ρ.i 1400) ⟨ρ.i 1401,ρ.i 1402,ρ.i 1403,ρ.i 1404,ρ.i 1405,ρ.a 1400,ρ.a 1401,ρ.a 1402⟩=⟨ρ.i 3100,ρ.i 3101,ρ.i 3102,ρ.i 1404,ρ.i 1405,ρ.a 3107,ρ.a 1401,ρ.a 1402⟩:=by
      rw[un4,u3,‹ρ.i 3100=_›,‹ρ.i 3101=_›,‹ρ.i 3102=_›,‹ρ.a 3107=_›,y4];rfl
    have u5:un5 (ρ.a 1) (X) (ρ.i 1400) ⟨ρ.i 1401,ρ.i 1402,ρ.i 1403,ρ.i 1404,ρ.i 1405,ρ.a 1400,ρ.a 1401,ρ.a 1402⟩=⟨ρ.i 3500,ρ.i 3501,ρ.i 3102,ρ.i 3502,ρ.i 1405,ρ.a 3107,ρ.a 3507,ρ.a 1402⟩:=by
      rw[un5,u4,‹ρ.i 3500=_›,‹ρ.i 3501=_›,‹ρ.i 3502=_›,‹ρ.a 3507=_›,y5];rfl
    rw[u5] at k5
    exact k5
  · skip
    have ho:= ‹Lz _ _ (ρ.i 23-ρ.i 1400).toNat _ _=true›
    rw[Lr (by omega),jah] at ho
    simp only[Bool.and_eq_true] at ho
    obtain ⟨⟨k0,k1,k2,k3,k4,k5⟩,k6⟩:=ho
    obtain ⟨j1,j2,j3,y1,y2,y3,y4,y5⟩:=J (by omega) (by omega)
    have u1:un1 (ρ.a 1) (X) (ρ.i 1400) ⟨ρ.i 1401,ρ.i 1402,ρ.i 1403,ρ.i 1404,ρ.i 1405,ρ.a 1400,ρ.a 1401,ρ.a 1402⟩=⟨ρ.i 1900,ρ.i 1901,ρ.i 1902,ρ.i 1404,ρ.i 1405,ρ.a 1907,ρ.a 1401,ρ.a 1402⟩:=by
      rw[un1,‹ρ.i 1900=_›,‹ρ.i 1901=_›,‹ρ.i 1902=_›,‹ρ.a 1907=_›,y1];rfl
    have u2:un2 (ρ.a 1) (X) (ρ.i 1400) ⟨ρ.i 1401,ρ.i 1402,ρ.i 1403,ρ.i 1404,ρ.i 1405,ρ.a 1400,ρ.a 1401,ρ.a 1402⟩=⟨ρ.i 2300,ρ.i 2301,ρ.i 2302,ρ.i 1404,ρ.i 1405,ρ.a 2307,ρ.a 1401,ρ.a 1402⟩:=by
      rw[un2,u1,‹ρ.i 2300=_›,‹ρ.i 2301=_›,‹ρ.i 2302=_›,‹ρ.a 2307=_›,y2];rfl
    have u3:un3 (ρ.a 1) (X) (ρ.i 1400) ⟨ρ.i 1401,ρ.i 1402,ρ.i 1403,ρ.i 1404,ρ.i 1405,ρ.a 1400,ρ.a 1401,ρ.a 1402⟩=⟨ρ.i 2700,ρ.i 2701,ρ.i 2702,ρ.i 1404,ρ.i 1405,ρ.a 2707,ρ.a 1401,ρ.a 1402⟩:=by
      rw[un3,u2,‹ρ.i 2700=_›,‹ρ.i 2701=_›,‹ρ.i 2702=_›,‹ρ.a 2707=_›,y3];rfl
    have u4:un4 (ρ.a 1) (X) (ρ.i 1400) ⟨ρ.i 1401,ρ.i 1402,ρ.i 1403,ρ.i 1404,ρ.i 1405,ρ.a 1400,ρ.a 1401,ρ.a 1402⟩=⟨ρ.i 3100,ρ.i 3101,ρ.i 3102,ρ.i 1404,ρ.i 1405,ρ.a 3107,ρ.a 1401,ρ.a 1402⟩:=by
      rw[un4,u3,‹ρ.i 3100=_›,‹ρ.i 3101=_›,‹ρ.i 3102=_›,‹ρ.a 3107=_›,y4];rfl
    have u5:un5 (ρ.a 1) (X) (ρ.i 1400) ⟨ρ.i 1401,ρ.i 1402,ρ.i 1403,ρ.i 1404,ρ.i 1405,ρ.a 1400,ρ.a 1401,ρ.a 1402⟩=⟨ρ.i 3500,ρ.i 3501,ρ.i 3102,ρ.i 3502,ρ.i 1405,ρ.a 3107,ρ.a 3507,ρ.a 1402⟩:=by
      rw[un5,u4,‹ρ.i 3500=_›,‹ρ.i 3501=_›,‹ρ.i 3502=_›,‹ρ.a 3507=_›,y5];rfl
    have u6:un6 (ρ.a 1) (X) (ρ.i 1400) ⟨ρ.i 1401,ρ.i 1402,ρ.i 1403,ρ.i 1404,ρ.i 1405,ρ.a 1400,ρ.a 1401,ρ.a 1402⟩=⟨ρ.i 3900,ρ.i 3901,ρ.i 3102,ρ.i 3502,ρ.i 3902,ρ.a 3107,ρ.a 3507,ρ.a 3907⟩:=by
      rw[un6,u5,‹ρ.i 3900=_›,‹ρ.i 3901=_›,‹ρ.i 3902=_›,‹ρ.a 3907=_›,y5];rfl
    rw[u6] at k6
    exact k6
  · skip
    obtain ⟨j1,j2,j3,y1,y2,y3,y4,y5⟩:=J (by omega) (by omega)
    have u1:un1 (ρ.a 1) (X) (ρ.i 1400) ⟨ρ.i 1401,ρ.i 1402,ρ.i 1403,ρ.i 1404,ρ.i 1405,ρ.a 1400,ρ.a 1401,ρ.a 1402⟩=⟨ρ.i 1900,ρ.i 1901,ρ.i 1902,ρ.i 1404,ρ.i 1405,ρ.a 1907,ρ.a 1401,ρ.a 1402⟩:=by
      rw[un1,‹ρ.i 1900=_›,‹ρ.i 1901=_›,‹ρ.i 1902=_›,‹ρ.a 1907=_›,y1];rfl
    have u2:un2 (ρ.a 1) (X) (ρ.i 1400) ⟨ρ.i 1401,ρ.i 1402,ρ.i 1403,ρ.i 1404,ρ.i 1405,ρ.a 1400,ρ.a 1401,ρ.a 1402⟩=⟨ρ.i 2300,ρ.i 2301,ρ.i 2302,ρ.i 1404,ρ.i 1405,ρ.a 2307,ρ.a 1401,ρ.a 1402⟩:=by
      rw[un2,u1,‹ρ.i 2300=_›,‹ρ.i 2301=_›,‹ρ.i 2302=_›,‹ρ.a 2307=_›,y2];rfl
    have u3:un3 (ρ.a 1) (X) (ρ.i 1400) ⟨ρ.i 1401,ρ.i 1402,ρ.i 1403,ρ.i 1404,ρ.i 1405,ρ.a 1400,ρ.a 1401,ρ.a 1402⟩=⟨ρ.i 2700,ρ.i 2701,ρ.i 2702,ρ.i 1404,ρ.i 1405,ρ.a 2707,ρ.a 1401,ρ.a 1402⟩:=by
      rw[un3,u2,‹ρ.i 2700=_›,‹ρ.i 2701=_›,‹ρ.i 2702=_›,‹ρ.a 2707=_›,y3];rfl
    have u4:un4 (ρ.a 1) (X) (ρ.i 1400) ⟨ρ.i 1401,ρ.i 1402,ρ.i 1403,ρ.i 1404,ρ.i 1405,ρ.a 1400,ρ.a 1401,ρ.a 1402⟩=⟨ρ.i 3100,ρ.i 3101,ρ.i 3102,ρ.i 1404,ρ.i 1405,ρ.a 3107,ρ.a 1401,ρ.a 1402⟩:=by
      rw[un4,u3,‹ρ.i 3100=_›,‹ρ.i 3101=_›,‹ρ.i 3102=_›,‹ρ.a 3107=_›,y4];rfl
    have u5:un5 (ρ.a 1) (X) (ρ.i 1400) ⟨ρ.i 1401,ρ.i 1402,ρ.i 1403,ρ.i 1404,ρ.i 1405,ρ.a 1400,ρ.a 1401,ρ.a 1402⟩=⟨ρ.i 3500,ρ.i 3501,ρ.i 3102,ρ.i 3502,ρ.i 1405,ρ.a 3107,ρ.a 3507,ρ.a 1402⟩:=by
      rw[un5,u4,‹ρ.i 3500=_›,‹ρ.i 3501=_›,‹ρ.i 3502=_›,‹ρ.a 3507=_›,y5];rfl
    have u6:un6 (ρ.a 1) (X) (ρ.i 1400) ⟨ρ.i 1401,ρ.i 1402,ρ.i 1403,ρ.i 1404,ρ.i 1405,ρ.a 1400,ρ.a 1401,ρ.a 1402⟩=⟨ρ.i 3900,ρ.i 3901,ρ.i 3102,ρ.i 3502,ρ.i 3902,ρ.a 3107,ρ.a 3507,ρ.a 3907⟩:=by
      rw[un6,u5,‹ρ.i 3900=_›,‹ρ.i 3901=_›,‹ρ.i 3902=_›,‹ρ.a 3907=_›,y5];rfl
    rw[←u6,←jz3 (by omega)]
    assumption
  · have ho:= ‹Lz _ _ (ρ.i 23-ρ.i 1400).toNat _ _=true›
    rw[show (ρ.i 23-ρ.i 1400).toNat=0 from by omega] at ho
    exact ho
  · skip
    have he:= ‹pkC (scC _ _ (ρ.i 23-ρ.i 1400).toNat _ _)=_›
    rw[show (ρ.i 23-ρ.i 1400).toNat=0 from by omega] at he
    have he:=jdg he
    unfold jza st0
    rw[←he];rfl
  · skip
    have he:= ‹pkC (scC _ _ (ρ.i 23-ρ.i 1400).toNat _ _)=_›
    rw[show (ρ.i 23-ρ.i 1400).toNat=0 from by omega] at he
    have he:=jdg he
    unfold st0
    rw[←he];rfl
  · skip
    have he:= ‹pkC (scC _ _ (ρ.i 23-ρ.i 1400).toNat _ _)=_›
    rw[show (ρ.i 23-ρ.i 1400).toNat=0 from by omega] at he
    have he:=jdg he
    unfold st0
    rw[←he];rfl
  · skip
    have he:= ‹pkC (scC _ _ (ρ.i 23-ρ.i 1400).toNat _ _)=_›
    rw[show (ρ.i 23-ρ.i 1400).toNat=0 from by omega] at he
    have he:=jdg he
    unfold st0
    rw[←he];rfl
end
end Go.Proofs.YtljjbikbfeigdaaGreatDoor
namespace Go.Proofs.YtljjbikbfeigdaaGreatDoor
noncomputable section
open Go
def jhc:VC:=
 let t0:T:=.lit 155
 let t1:T:=.get (.av 1) (.iv 1000)
 let t2:T:=.add (.iv 1000) (.lit 1)
 let t3:T:=.le (.lit (-9223372036854775808)) t2
 let t4:T:=.le t2 (.lit 9223372036854775807)
 (.need [(.le (.lit 0) (.iv 6))] (.cond (.le (.iv 6) t0) (.need [.ff,.ff] .done) (.need [(.lt t0 (.iv 6))] (.need [(.lt t0 (.len (.av 1)))] (.need [(.le t0 t0),(.le t0 (.add t0 (.lit 1)))] (.any 1000 1000000000 [(.le t0 (.iv 1000)),(.le (.iv 1000) (.add t0 (.lit 1)))] (.cond (.lt (.iv 1000) (.iv 6)) (.need [(.le (.lit 0) (.iv 1000))] (.need [(.lt (.iv 1000) (.len (.av 1)))] (.cond (.eq t1 (.lit 255)) (.need [t3,t4] (.need [(.le t0 t2),(.le t2 (.add t0 (.lit 1))),(.lt (.lit 0) (.sub (.add t0 (.lit 2)) (.iv 1000))),(.lt (.sub (.add t0 (.lit 2)) t2) (.sub (.add t0 (.lit 2)) (.iv 1000)))] .done)) (.cond (.eq (.iv 1000) (.iv 6)) (.need [(.eq (.lit 157) (.iv 1000)),.ff] .done) (.need [(.le (.lit (-9223372036854775808)) t1),(.le t1 (.lit 9223372036854775807))] (.need [t3,t4] (.need [(.eq (.lit 157) t2),(.eq (.lit 196) t1)] .done))))))) (.cond (.eq (.iv 1000) (.iv 6)) (.need [(.eq (.lit 157) (.iv 1000)),.ff] .done) (.need [(.le (.lit 0) (.iv 1000)),(.lt (.iv 1000) (.iv 6))] (.need [(.lt (.iv 1000) (.len (.av 1)))] (.need [(.le (.lit (-9223372036854775808)) t1),(.le t1 (.lit 9223372036854775807))] (.need [t3,t4] (.need [(.eq (.lit 157) t2),(.eq (.lit 196) t1)] .done)))))))))))))
theorem j1r:Dd (Db Tryz.prog Jt Jq ⟨Tv (.lit 155),Lb⟩ 100000 31 (Wy (.lit 155) 196)) jhc=true:=by kernel_rfl
theorem jne:Cf Tryz.prog Z 31 (Wy (.lit 155) 196):=by
  refine Bf Cq Cn j1r fun ρ h=> ?_
  simp only[Wy,bD,Ny,gD,Du,z0,Gl,Tm,Ck,Bi,Di,List.flatMap_cons,List.flatMap_nil,List.append_nil,List.append_assoc,List.cons_append,List.nil_append,and_true,↓Bo,↓Bq,↓Bs,↓Az,↓Ca,↓Bz,↓Bu,↓Bc,↓Bb,↓Be,↓Ba,↓Bv,↓Ay,↓Bt,↓Br,↓Bw,↓Bx,↓By,Ag,As,Ap,Ar,T.I,T.A,T.B,Int.toNat_zero,List.drop_zero,and_true,implies_true,VC.sem,Aa,Af,Ak,Ai,Ae,Ac,Ad,Am,Al,Ah,An,Aj,Ab,Aq,Ao,Int.reduceAdd] at h
  obtain ⟨h1,h2,h3,h4,h5,h5',h6,h7⟩:=h
  have hb:=Ct h4 (n:=ρ.i 1000)
  have k0:ρ.i 1000=155→Bg (ρ.a 1) (ρ.i 1000)=255:=fun e=>by rw[e];exact h6
  have k1:ρ.i 1000=156→Bg (ρ.a 1) (ρ.i 1000)=196:=fun e=>by rw[e];exact h7
  simp only[jhc,↓Bo,↓Bq,↓Bs,↓Az,↓Ca,↓Bz,↓Bu,↓Bc,↓Bb,↓Be,↓Ba,↓Bv,↓Ay,↓Bt,↓Br,↓Bw,↓Bx,↓By,Ag,As,Ap,Ar,T.I,T.A,T.B,Int.toNat_zero,List.drop_zero,and_true,implies_true,VC.sem,Aa,Af,Ak,Ai,Ae,Ac,Ad,Am,Al,Ah,An,Aj,Ab,Aq,Ao,Ck,Int.reduceAdd]
  (repeat' (first|exact True.intro|refine And.intro ?_ ?_|intro _))<;>(try assumption)<;>(try omega)
def jiz:VC:=
 let t0:T:=.lit 575
 let t1:T:=.get (.av 1) (.iv 1000)
 let t2:T:=.add (.iv 1000) (.lit 1)
 let t3:T:=.le (.lit (-9223372036854775808)) t2
 let t4:T:=.le t2 (.lit 9223372036854775807)
 (.need [(.le (.lit 0) (.iv 6))] (.cond (.le (.iv 6) t0) (.need [.ff,.ff] .done) (.need [(.lt t0 (.iv 6))] (.need [(.lt t0 (.len (.av 1)))] (.need [(.le t0 t0),(.le t0 (.add t0 (.lit 1)))] (.any 1000 1000000000 [(.le t0 (.iv 1000)),(.le (.iv 1000) (.add t0 (.lit 1)))] (.cond (.lt (.iv 1000) (.iv 6)) (.need [(.le (.lit 0) (.iv 1000))] (.need [(.lt (.iv 1000) (.len (.av 1)))] (.cond (.eq t1 (.lit 255)) (.need [t3,t4] (.need [(.le t0 t2),(.le t2 (.add t0 (.lit 1))),(.lt (.lit 0) (.sub (.add t0 (.lit 2)) (.iv 1000))),(.lt (.sub (.add t0 (.lit 2)) t2) (.sub (.add t0 (.lit 2)) (.iv 1000)))] .done)) (.cond (.eq (.iv 1000) (.iv 6)) (.need [(.eq (.lit 577) (.iv 1000)),.ff] .done) (.need [(.le (.lit (-9223372036854775808)) t1),(.le t1 (.lit 9223372036854775807))] (.need [t3,t4] (.need [(.eq (.lit 577) t2),(.eq (.lit 218) t1)] .done))))))) (.cond (.eq (.iv 1000) (.iv 6)) (.need [(.eq (.lit 577) (.iv 1000)),.ff] .done) (.need [(.le (.lit 0) (.iv 1000)),(.lt (.iv 1000) (.iv 6))] (.need [(.lt (.iv 1000) (.len (.av 1)))] (.need [(.le (.lit (-9223372036854775808)) t1),(.le t1 (.lit 9223372036854775807))] (.need [t3,t4] (.need [(.eq (.lit 577) t2),(.eq (.lit 218) t1)] .done)))))))))))))
theorem jzd:Dd (Db Tryz.prog Jt Jq ⟨Tv (.lit 575),Lb⟩ 100000 31 (Wy (.lit 575) 218)) jiz=true:=by kernel_rfl
theorem joj:Cf Tryz.prog Z 31 (Wy (.lit 575) 218):=by
  refine Bf Cq Cn jzd fun ρ h=> ?_
  simp only[Wy,bD,Ny,gD,Du,z0,Gl,Tm,Ck,Bi,Di,List.flatMap_cons,List.flatMap_nil,List.append_nil,List.append_assoc,List.cons_append,List.nil_append,and_true,↓Bo,↓Bq,↓Bs,↓Az,↓Ca,↓Bz,↓Bu,↓Bc,↓Bb,↓Be,↓Ba,↓Bv,↓Ay,↓Bt,↓Br,↓Bw,↓Bx,↓By,Ag,As,Ap,Ar,T.I,T.A,T.B,Int.toNat_zero,List.drop_zero,and_true,implies_true,VC.sem,Aa,Af,Ak,Ai,Ae,Ac,Ad,Am,Al,Ah,An,Aj,Ab,Aq,Ao,Int.reduceAdd] at h
  obtain ⟨h1,h2,h3,h4,h5,h5',h6,h7⟩:=h
  have hb:=Ct h4 (n:=ρ.i 1000)
  have k0:ρ.i 1000=575→Bg (ρ.a 1) (ρ.i 1000)=255:=fun e=>by rw[e];exact h6
  have k1:ρ.i 1000=576→Bg (ρ.a 1) (ρ.i 1000)=218:=fun e=>by rw[e];exact h7
  simp only[jiz,↓Bo,↓Bq,↓Bs,↓Az,↓Ca,↓Bz,↓Bu,↓Bc,↓Bb,↓Be,↓Ba,↓Bv,↓Ay,↓Bt,↓Br,↓Bw,↓Bx,↓By,Ag,As,Ap,Ar,T.I,T.A,T.B,Int.toNat_zero,List.drop_zero,and_true,implies_true,VC.sem,Aa,Af,Ak,Ai,Ae,Ac,Ad,Am,Al,Ah,An,Aj,Ab,Aq,Ao,Ck,Int.reduceAdd]
  (repeat' (first|exact True.intro|refine And.intro ?_ ?_|intro _))<;>(try assumption)<;>(try omega)
def jhu:VC:=
 let t0:T:=.lit (-9223372036854775808)
 let t1:T:=.lit 9223372036854775807
 let t2:T:=.mul (.get (.av 1) (.lit 138)) (.lit 256)
 let t3:T:=.bits .or .i64 t2 (.get (.av 1) (.lit 139))
 let t4:T:=.add (.lit 138) t3
 (.need [(.le (.lit 0) (.iv 6))] (.cond (.lt (.iv 6) (.lit 140)) (.fail "leaf fit") (.need [(.lt (.lit 138) (.iv 6))] (.need [(.lt (.lit 138) (.len (.av 1)))] (.need [(.le t0 (.get (.av 1) (.lit 138))),(.le (.get (.av 1) (.lit 138)) t1)] (.need [(.le t0 t2),(.le t2 t1)] (.need [(.lt (.lit 139) (.iv 6))] (.need [(.lt (.lit 139) (.len (.av 1)))] (.need [(.le t0 (.get (.av 1) (.lit 139))),(.le (.get (.av 1) (.lit 139)) t1)] (.cond (.lt t3 (.lit 2)) (.fail "leaf fit") (.need [(.le t0 t4),(.le t4 t1)] (.cond (.lt (.iv 6) t4) (.fail "leaf fit") (.need [(.le (.lit 0) (.iv 7)),(.le (.iv 7) (.iv 7)),(.le (.lit 0) t4),(.le t4 (.iv 7)),(.le (.lit 140) t4),(.le (.lit 0) (.iv 7))] (.need [(.eq (.lit 155) t4),(.eq (.lit 15) (.sub t4 (.lit 140))),(.eq (.lit 140) (.ite (.eq (.iv 7) (.lit 140)) (.lit 0) (.lit 140)))] .done))))))))))))))
theorem jzn:Dd (Db Tryz.prog Jt Jq ⟨Tv z0,Lb⟩ 100000 33 (Xr 138 17)) jhu=true:=by kernel_rfl
theorem joi:Cf Tryz.prog Z 33 (Xr 138 17):=by
  refine Bf Cq Cn jzn fun ρ h=> ?_
  simp only[Xr,bD,Ny,gD,Du,z0,Gl,Tm,Ck,Bi,Di,List.flatMap_cons,List.flatMap_nil,List.append_nil,List.append_assoc,List.cons_append,List.nil_append,and_true,↓Bo,↓Bq,↓Bs,↓Az,↓Ca,↓Bz,↓Bu,↓Bc,↓Bb,↓Be,↓Ba,↓Bv,↓Ay,↓Bt,↓Br,↓Bw,↓Bx,↓By,Ag,As,Ap,Ar,T.I,T.A,T.B,Int.toNat_zero,List.drop_zero,and_true,implies_true,VC.sem,Aa,Af,Ak,Ai,Ae,Ac,Ad,Am,Al,Ah,An,Aj,Ab,Aq,Ao,Nat.reduceAdd,Nat.reduceDiv,Nat.reduceMod,Int.cast_ofNat_Int] at h
  obtain ⟨h1,h2,h3,h4,h5,h6,h7⟩:=h
  have e1:Dj .or .i64 (Bg (ρ.a 1) 138*256) (Bg (ρ.a 1) 139)=17:=by
    rw[h6,h7,Ty (by omega) (by omega) (by omega) (by omega)];rfl
  simp only[jhu,↓Bo,↓Bq,↓Bs,↓Az,↓Ca,↓Bz,↓Bu,↓Bc,↓Bb,↓Be,↓Ba,↓Bv,↓Ay,↓Bt,↓Br,↓Bw,↓Bx,↓By,Ag,As,Ap,Ar,T.I,T.A,T.B,Int.toNat_zero,List.drop_zero,and_true,implies_true,VC.sem,Aa,Af,Ak,Ai,Ae,Ac,Ad,Am,Al,Ah,An,Aj,Ab,Aq,Ao,Ck,e1,Int.reduceAdd,Dk]
  (repeat' (first|exact True.intro|refine And.intro ?_ ?_|intro _))<;>(try assumption)<;>(try omega)
def ji4:VC:=
 let t0:T:=.lit (-9223372036854775808)
 let t1:T:=.lit 9223372036854775807
 let t2:T:=.mul (.get (.av 1) (.lit 157)) (.lit 256)
 let t3:T:=.bits .or .i64 t2 (.get (.av 1) (.lit 158))
 let t4:T:=.add (.lit 157) t3
 (.need [(.le (.lit 0) (.iv 6))] (.cond (.lt (.iv 6) (.lit 159)) (.fail "leaf fit") (.need [(.lt (.lit 157) (.iv 6))] (.need [(.lt (.lit 157) (.len (.av 1)))] (.need [(.le t0 (.get (.av 1) (.lit 157))),(.le (.get (.av 1) (.lit 157)) t1)] (.need [(.le t0 t2),(.le t2 t1)] (.need [(.lt (.lit 158) (.iv 6))] (.need [(.lt (.lit 158) (.len (.av 1)))] (.need [(.le t0 (.get (.av 1) (.lit 158))),(.le (.get (.av 1) (.lit 158)) t1)] (.cond (.lt t3 (.lit 2)) (.fail "leaf fit") (.need [(.le t0 t4),(.le t4 t1)] (.cond (.lt (.iv 6) t4) (.fail "leaf fit") (.need [(.le (.lit 0) (.iv 7)),(.le (.iv 7) (.iv 7)),(.le (.lit 0) t4),(.le t4 (.iv 7)),(.le (.lit 159) t4),(.le (.lit 0) (.iv 7))] (.need [(.eq (.lit 575) t4),(.eq (.lit 416) (.sub t4 (.lit 159))),(.eq (.lit 159) (.ite (.eq (.iv 7) (.lit 159)) (.lit 0) (.lit 159)))] .done))))))))))))))
theorem jww:Dd (Db Tryz.prog Jt Jq ⟨Tv z0,Lb⟩ 100000 33 (Xr 157 418)) ji4=true:=by kernel_rfl
theorem jnp:Cf Tryz.prog Z 33 (Xr 157 418):=by
  refine Bf Cq Cn jww fun ρ h=> ?_
  simp only[Xr,bD,Ny,gD,Du,z0,Gl,Tm,Ck,Bi,Di,List.flatMap_cons,List.flatMap_nil,List.append_nil,List.append_assoc,List.cons_append,List.nil_append,and_true,↓Bo,↓Bq,↓Bs,↓Az,↓Ca,↓Bz,↓Bu,↓Bc,↓Bb,↓Be,↓Ba,↓Bv,↓Ay,↓Bt,↓Br,↓Bw,↓Bx,↓By,Ag,As,Ap,Ar,T.I,T.A,T.B,Int.toNat_zero,List.drop_zero,and_true,implies_true,VC.sem,Aa,Af,Ak,Ai,Ae,Ac,Ad,Am,Al,Ah,An,Aj,Ab,Aq,Ao,Nat.reduceAdd,Nat.reduceDiv,Nat.reduceMod,Int.cast_ofNat_Int] at h
  obtain ⟨h1,h2,h3,h4,h5,h6,h7⟩:=h
  have e1:Dj .or .i64 (Bg (ρ.a 1) 157*256) (Bg (ρ.a 1) 158)=418:=by
    rw[h6,h7,Ty (by omega) (by omega) (by omega) (by omega)];rfl
  simp only[ji4,↓Bo,↓Bq,↓Bs,↓Az,↓Ca,↓Bz,↓Bu,↓Bc,↓Bb,↓Be,↓Ba,↓Bv,↓Ay,↓Bt,↓Br,↓Bw,↓Bx,↓By,Ag,As,Ap,Ar,T.I,T.A,T.B,Int.toNat_zero,List.drop_zero,and_true,implies_true,VC.sem,Aa,Af,Ak,Ai,Ae,Ac,Ad,Am,Al,Ah,An,Aj,Ab,Aq,Ao,Ck,e1,Int.reduceAdd,Dk]
  (repeat' (first|exact True.intro|refine And.intro ?_ ?_|intro _))<;>(try assumption)<;>(try omega)
def jhn:VC:=
 let t0:T:=.lit (-9223372036854775808)
 let t1:T:=.lit 9223372036854775807
 let t2:T:=.mul (.get (.av 1) (.lit 577)) (.lit 256)
 let t3:T:=.bits .or .i64 t2 (.get (.av 1) (.lit 578))
 let t4:T:=.add (.lit 577) t3
 (.need [(.le (.lit 0) (.iv 6))] (.cond (.lt (.iv 6) (.lit 579)) (.fail "leaf fit") (.need [(.lt (.lit 577) (.iv 6))] (.need [(.lt (.lit 577) (.len (.av 1)))] (.need [(.le t0 (.get (.av 1) (.lit 577))),(.le (.get (.av 1) (.lit 577)) t1)] (.need [(.le t0 t2),(.le t2 t1)] (.need [(.lt (.lit 578) (.iv 6))] (.need [(.lt (.lit 578) (.len (.av 1)))] (.need [(.le t0 (.get (.av 1) (.lit 578))),(.le (.get (.av 1) (.lit 578)) t1)] (.cond (.lt t3 (.lit 2)) (.fail "leaf fit") (.need [(.le t0 t4),(.le t4 t1)] (.cond (.lt (.iv 6) t4) (.fail "leaf fit") (.need [(.le (.lit 0) (.iv 7)),(.le (.iv 7) (.iv 7)),(.le (.lit 0) t4),(.le t4 (.iv 7)),(.le (.lit 579) t4),(.le (.lit 0) (.iv 7))] (.need [(.eq (.lit 589) t4),(.eq (.lit 10) (.sub t4 (.lit 579))),(.eq (.lit 579) (.ite (.eq (.iv 7) (.lit 579)) (.lit 0) (.lit 579)))] .done))))))))))))))
theorem jz1:Dd (Db Tryz.prog Jt Jq ⟨Tv z0,Lb⟩ 100000 33 (Xr 577 12)) jhn=true:=by kernel_rfl
theorem jn1:Cf Tryz.prog Z 33 (Xr 577 12):=by
  refine Bf Cq Cn jz1 fun ρ h=> ?_
  simp only[Xr,bD,Ny,gD,Du,z0,Gl,Tm,Ck,Bi,Di,List.flatMap_cons,List.flatMap_nil,List.append_nil,List.append_assoc,List.cons_append,List.nil_append,and_true,↓Bo,↓Bq,↓Bs,↓Az,↓Ca,↓Bz,↓Bu,↓Bc,↓Bb,↓Be,↓Ba,↓Bv,↓Ay,↓Bt,↓Br,↓Bw,↓Bx,↓By,Ag,As,Ap,Ar,T.I,T.A,T.B,Int.toNat_zero,List.drop_zero,and_true,implies_true,VC.sem,Aa,Af,Ak,Ai,Ae,Ac,Ad,Am,Al,Ah,An,Aj,Ab,Aq,Ao,Nat.reduceAdd,Nat.reduceDiv,Nat.reduceMod,Int.cast_ofNat_Int] at h
  obtain ⟨h1,h2,h3,h4,h5,h6,h7⟩:=h
  have e1:Dj .or .i64 (Bg (ρ.a 1) 577*256) (Bg (ρ.a 1) 578)=12:=by
    rw[h6,h7,Ty (by omega) (by omega) (by omega) (by omega)];rfl
  simp only[jhn,↓Bo,↓Bq,↓Bs,↓Az,↓Ca,↓Bz,↓Bu,↓Bc,↓Bb,↓Be,↓Ba,↓Bv,↓Ay,↓Bt,↓Br,↓Bw,↓Bx,↓By,Ag,As,Ap,Ar,T.I,T.A,T.B,Int.toNat_zero,List.drop_zero,and_true,implies_true,VC.sem,Aa,Af,Ak,Ai,Ae,Ac,Ad,Am,Al,Ah,An,Aj,Ab,Aq,Ao,Ck,e1,Int.reduceAdd,Dk]
  (repeat' (first|exact True.intro|refine And.intro ?_ ?_|intro _))<;>(try assumption)<;>(try omega)
end
end Go.Proofs.YtljjbikbfeigdaaGreatDoor
namespace Go.Proofs.YtljjbikbfeigdaaGreatDoor
noncomputable section
open Go
theorem qg8(x y:Int):Z.fi 438 x y 0 0 [] [] [] []=nmC x y:=id rfl
theorem jwn: ∀f s,jxe f=some s→Dw Tryz.prog Z f s:=by
  intro f s h
  unfold jxe at h
  split at h
  · cases h;exact Ce qat
  · cases h
theorem jxz{w h:Int}(hw:1≤w)(hh:1≤h)(hm:w*h≤65536):1≤nmC w h∧nmC w h≤65536∧nmC w h=(w+15)/16*((h+15)/16):=by
  have h1:(1:Int)*1≤(w+15)/16*((h+15)/16):=Int.mul_le_mul (by omega) (by omega) (by omega) (by omega)
  have h2:(w+15)/16*((h+15)/16)≤w*h:=Int.mul_le_mul (by omega) (by omega) (by omega) (by omega)
  unfold nmC xN
  omega
theorem ju6{x:Int}(h:0≤x):(x+8*2-1).tdiv (8*2)=(x+15)/16:=by rw[Int.tdiv_eq_ediv_of_nonneg (by omega)];omega
theorem qbk(d X:Int):d*2*(X*2)=4*(d*X):=by rw[Int.mul_comm d 2,Int.mul_comm X 2,Int.mul_assoc,Int.mul_left_comm d 2 X];omega
def j72:VC:=
 let t0:T:=.lit 0
 let t1:T:=.len (.av 2)
 let t2:T:=.lit (-9223372036854775808)
 let t3:T:=.lit 9223372036854775807
 let t4:T:=.lit 1
 let t5:T:=.mul (.get (.av 2) t4) (.lit 256)
 let t6:T:=.get (.av 2) (.lit 2)
 let t7:T:=.mul (.get (.av 2) (.lit 3)) (.lit 256)
 let t8:T:=.get (.av 2) (.lit 4)
 let t9:T:=.bits .or .i64 t5 t6
 let t10:T:=.bits .or .i64 t7 t8
 let t11:T:=.mul t9 t10
 let t12:T:=.get (.av 2) (.lit 6)
 let t13:T:=.shr .u8 (.get (.av 2) (.lit 7)) (.lit 4)
 let t14:T:=.bits .and .u8 (.get (.av 2) (.lit 7)) (.lit 15)
 let t15:T:=.get (.av 2) (.lit 8)
 let t16:T:=.get (.av 2) (.lit 9)
 let t17:T:=.shr .u8 (.get (.av 2) (.lit 10)) (.lit 4)
 let t18:T:=.bits .and .u8 (.get (.av 2) (.lit 10)) (.lit 15)
 let t19:T:=.get (.av 2) (.lit 11)
 let t20:T:=.get (.av 2) (.lit 12)
 let t21:T:=.shr .u8 (.get (.av 2) (.lit 13)) (.lit 4)
 let t22:T:=.bits .and .u8 (.get (.av 2) (.lit 13)) (.lit 15)
 let t23:T:=.get (.av 2) (.lit 14)
 let t24:T:=.mul (.lit 8) (.mx (.mx (.mx t0 t13) t17) t21)
 let t25:T:=.add t10 t24
 let t26:T:=.sub t25 t4
 let t27:T:=.tdiv t26 t24
 let t28:T:=.mul (.lit 8) (.mx (.mx (.mx t0 t14) t18) t22)
 let t29:T:=.add t9 t28
 let t30:T:=.sub t29 t4
 let t31:T:=.tdiv t30 t28
 let t32:T:=.mul t27 t13
 let t33:T:=.mul t31 t14
 let t34:T:=.mul t32 t33
 let t35:T:=.lit 64
 let t36:T:=.alit []
 let t37:T:=.lit 192
 let t38:T:=.add (.iv 1406) t4
 let t39:T:=.mul t27 t17
 let t40:T:=.mul t31 t18
 let t41:T:=.mul t39 t40
 let t42:T:=.add (.iv 1806) t4
 let t43:T:=.mul t27 t21
 let t44:T:=.mul t31 t22
 let t45:T:=.mul t43 t44
 let t46:T:=.add (.iv 2206) t4
 let t49:T:=.fi 438 (.add t7 t8) (.add t5 t6) t0 t0 t36 t36 t36 t36
 (.need [(.lt t0 t1)] (.need [(.lt (.lit 5) t1)] (.need [(.le t2 (.get (.av 2) (.lit 5))),(.le (.get (.av 2) (.lit 5)) t3)] (.need [(.lt t4 t1)] (.need [(.le t2 (.get (.av 2) t4)),(.le (.get (.av 2) t4) t3)] (.need [(.le t2 t5),(.le t5 t3)] (.need [(.lt (.lit 2) t1)] (.need [(.le t2 t6),(.le t6 t3)] (.need [(.lt (.lit 3) t1)] (.need [(.le t2 (.get (.av 2) (.lit 3))),(.le (.get (.av 2) (.lit 3)) t3)] (.need [(.le t2 t7),(.le t7 t3)] (.need [(.lt (.lit 4) t1)] (.need [(.le t2 t8),(.le t8 t3)] (.cond (.eq t9 t0) (.fail "leaf fit") (.cond (.eq t10 t0) (.fail "leaf fit") (.need [(.le t2 t11),(.le t11 t3)] (.cond (.lt (.lit 65536) t11) (.fail "leaf fit") (.need [(.le t0 (.iv 10)),(.le (.iv 10) (.iv 10)),(.le t0 (.iv 10)),(.lt (.lit 6) (.iv 10))] (.need [(.lt (.lit 6) t1)] (.need [(.le t2 t12),(.le t12 t3)] (.need [(.lt (.lit 7) t1)] (.need [(.le t2 t13),(.le t13 t3)] (.need [(.le t2 t14),(.le t14 t3)] (.cond (.lt t13 t4) (.fail "leaf fit") (.cond (.lt (.lit 4) t13) (.fail "leaf fit") (.cond (.lt t14 t4) (.fail "leaf fit") (.cond (.lt (.lit 4) t14) (.fail "leaf fit") (.need [(.lt (.lit 8) t1)] (.cond (.lt (.lit 3) t15) (.fail "leaf fit") (.any 1000 2 [(.le t4 (.iv 1000))] (.need [(.le t2 t15),(.le t15 t3)] (.any 1001 3 [(.le t4 (.iv 1001))] (.need [(.lt (.lit 9) (.iv 10))] (.need [(.lt (.lit 9) t1)] (.need [(.le t2 t16),(.le t16 t3)] (.need [(.lt (.lit 10) t1)] (.need [(.le t2 t17),(.le t17 t3)] (.need [(.le t2 t18),(.le t18 t3)] (.cond (.lt t17 t4) (.fail "leaf fit") (.cond (.lt (.lit 4) t17) (.fail "leaf fit") (.cond (.lt t18 t4) (.fail "leaf fit") (.cond (.lt (.lit 4) t18) (.fail "leaf fit") (.need [(.lt (.lit 11) t1)] (.cond (.lt (.lit 3) t19) (.fail "leaf fit") (.cond (.eq t12 t16) (.fail "leaf fit") (.any 1002 6 [(.le (.lit 2) (.iv 1002))] (.need [(.le t2 t19),(.le t19 t3)] (.any 1003 7 [(.le (.lit 2) (.iv 1003))] (.need [(.lt (.lit 12) (.iv 10))] (.need [(.lt (.lit 12) t1)] (.need [(.le t2 t20),(.le t20 t3)] (.need [(.lt (.lit 13) t1)] (.need [(.le t2 t21),(.le t21 t3)] (.need [(.le t2 t22),(.le t22 t3)] (.cond (.lt t21 t4) (.fail "leaf fit") (.cond (.lt (.lit 4) t21) (.fail "leaf fit") (.cond (.lt t22 t4) (.fail "leaf fit") (.cond (.lt (.lit 4) t22) (.fail "leaf fit") (.need [(.lt (.lit 14) t1)] (.cond (.lt (.lit 3) t23) (.fail "leaf fit") (.cond (.eq t12 t20) (.fail "leaf fit") (.cond (.eq t16 t20) (.fail "leaf fit") (.any 1004 11 [(.le (.lit 3) (.iv 1004))] (.need [(.le t2 t23),(.le t23 t3)] (.any 1005 12 [(.le (.lit 3) (.iv 1005))] (.need [(.eq t13 (.lit 2)),(.eq t14 (.lit 2)),(.eq t17 t4),(.eq t18 t4),(.eq t21 t4),(.eq t22 t4)] (.any 1006 12 [] (.need [(.le t2 t24),(.le t24 t3)] (.need [(.le t2 t25),(.le t25 t3),(.le t2 t26),(.le t26 t3),(.not (.eq t24 t0)),(.le t2 t27),(.le t27 t3)] (.need [(.le t2 t28),(.le t28 t3)] (.need [(.le t2 t29),(.le t29 t3),(.le t2 t30),(.le t30 t3),(.not (.eq t28 t0)),(.le t2 t31),(.le t31 t3)] (.need [(.le t2 t32),(.le t32 t3)] (.need [(.le t2 t33),(.le t33 t3)] (.need [(.le t2 t34),(.le t34 t3)] (.need [(.le t0 t34),(.le (.mul t34 (.lit 512)) (.lit 140737488355328))] (.need [(.le t0 t0),(.le t0 t35),(.aeq (.fa 414 t0 t0 t0 t0 t36 t36 t36 t36) (.fa 414 (.add t0 t0) t0 t0 t0 t36 t36 t36 t36))] (.any 1406 1000000016 [(.le t0 (.iv 1406)),(.le (.iv 1406) t35),(.eq (.len (.av 1406)) t37),(.aeq (.av 1406) (.fa 414 (.add t0 (.iv 1406)) t0 t0 t0 t36 t36 t36 t36))] (.cond (.lt (.iv 1406) t35) (.need [(.lt (.iv 1406) t37)] (.need [(.le t2 t38),(.le t38 t3)] (.need [(.le t0 t38),(.le t38 t35),(.eq (.len (.set (.av 1406) (.iv 1406) (.lit (-1)))) t37),(.aeq (.set (.av 1406) (.iv 1406) (.lit (-1))) (.fa 414 (.add t0 t38) t0 t0 t0 t36 t36 t36 t36)),(.lt t0 (.sub t35 (.iv 1406))),(.lt (.sub t35 t38) (.sub t35 (.iv 1406)))] .done))) (.need [(.le t2 t39),(.le t39 t3)] (.need [(.le t2 t40),(.le t40 t3)] (.need [(.le t2 t41),(.le t41 t3)] (.need [(.le t0 t41),(.le (.mul t41 (.lit 512)) (.lit 140737488355328))] (.need [(.aeq (.av 1406) (.fa 414 (.add t35 t0) t0 t0 t0 t36 t36 t36 t36))] (.any 1806 1000000020 [(.le t0 (.iv 1806)),(.le (.iv 1806) t35),(.eq (.len (.av 1806)) t37),(.aeq (.av 1806) (.fa 414 (.add t35 (.iv 1806)) t0 t0 t0 t36 t36 t36 t36))] (.cond (.lt (.iv 1806) t35) (.need [(.lt (.add t35 (.iv 1806)) t37)] (.need [(.le t2 t42),(.le t42 t3)] (.need [(.le t0 t42),(.le t42 t35),(.eq (.len (.set (.av 1806) (.add t35 (.iv 1806)) (.lit (-1)))) t37),(.aeq (.set (.av 1806) (.add t35 (.iv 1806)) (.lit (-1))) (.fa 414 (.add t35 t42) t0 t0 t0 t36 t36 t36 t36)),(.lt t0 (.sub t35 (.iv 1806))),(.lt (.sub t35 t42) (.sub t35 (.iv 1806)))] .done))) (.need [(.le t2 t43),(.le t43 t3)] (.need [(.le t2 t44),(.le t44 t3)] (.need [(.le t2 t45),(.le t45 t3)] (.need [(.le t0 t45),(.le (.mul t45 (.lit 512)) (.lit 140737488355328))] (.need [(.aeq (.av 1806) (.fa 414 (.add (.lit 128) t0) t0 t0 t0 t36 t36 t36 t36))] (.any 2206 1000000024 [(.le t0 (.iv 2206)),(.le (.iv 2206) t35),(.eq (.len (.av 2206)) t37),(.aeq (.av 2206) (.fa 414 (.add (.lit 128) (.iv 2206)) t0 t0 t0 t36 t36 t36 t36))] (.cond (.lt (.iv 2206) t35) (.need [(.lt (.add (.lit 128) (.iv 2206)) t37)] (.need [(.le t2 t46),(.le t46 t3)] (.need [(.le t0 t46),(.le t46 t35),(.eq (.len (.set (.av 2206) (.add (.lit 128) (.iv 2206)) (.lit (-1)))) t37),(.aeq (.set (.av 2206) (.add (.lit 128) (.iv 2206)) (.lit (-1))) (.fa 414 (.add (.lit 128) t46) t0 t0 t0 t36 t36 t36 t36)),(.lt t0 (.sub t35 (.iv 2206))),(.lt (.sub t35 t46) (.sub t35 (.iv 2206)))] .done))) (.need [(.eq t4 t23),(.eq t4 t19),(.eq t0 t15),(.eq t4 t22),(.eq t4 t21),(.eq (.lit 3) t20),(.eq t4 t18),(.eq t4 t17),(.eq (.lit 2) t16),(.eq (.lit 2) t14),(.eq (.lit 2) t13),(.eq t4 t12),(.eq (.add t5 t6) t9),(.eq (.add t7 t8) t10),(.aeq (.fa 414 t37 t0 t0 t0 t36 t36 t36 t36) (.av 2206)),(.eq t34 (.mul (.lit 4) t49)),(.eq t41 t49),(.eq t45 t49),(.aeq (.rep (.mul t34 t35) t0) (.fa 437 t34 t0 t0 t0 t36 t36 t36 t36)),(.aeq (.rep (.mul t41 t35) t0) (.fa 437 t41 t0 t0 t0 t36 t36 t36 t36)),(.aeq (.rep (.mul t45 t35) t0) (.fa 437 t45 t0 t0 t0 t36 t36 t36 t36))] .done)))))))))))))))))))))))))))))))))))))))))))))))))))))))))))))))))))))))))))))))))))))))))))))
theorem jwi: ∀f s,j7g Tryz.prog f=some s→Ei Tryz.prog Z f s:=Sj jcn Hq Cq 1000 2
theorem qle:Dd (Db Tryz.prog (j7g Tryz.prog) jxe ⟨jme,qfx⟩ 100000 50 j6m) j72=true:=by kernel_rfl
set_option maxRecDepth 20000 in
set_option maxHeartbeats 4000000 in
theorem j2k:Cf Tryz.prog Z 50 j6m:=by
  refine Bf jwi jwn qle fun ρ h=> ?_
  simp only[j6m,jc7,cs0,Du,z0,hdW,hdH,g2,Tm,Ck,Gy,jwt,Bi,Di,List.flatMap_cons,List.flatMap_nil,List.append_nil,List.append_assoc,List.cons_append,List.nil_append,and_true,↓Bo,↓Bq,↓Bs,↓Az,↓Ca,↓Bz,↓Bu,↓Bc,↓Bb,↓Be,↓Ba,↓Bv,↓Ay,↓Bt,↓Br,↓Bw,↓Bx,↓By,Ag,As,Ap,Ar,T.I,T.A,T.B,Int.toNat_zero,List.drop_zero,and_true,implies_true,VC.sem,Aa,Af,Ak,Ai,Ae,Ac,Ad,Am,Al,Ah,An,Aj,Ab,Aq,Ao] at h
  have f1:15≤ρ.i 10:=h.1
  have f2:=h.2.1
  have f3:=h.2.2.1
  obtain ⟨-,-,-,f4,f5,f6,f7,f8,q9,q10,q11,q12,q13,q14,f9,f10,f11,-⟩:=h
  have b1:=Ct f3 (n:=1) (by omega) (by omega)
  have b2:=Ct f3 (n:=2) (by omega) (by omega)
  have b3:=Ct f3 (n:=3) (by omega) (by omega)
  have b4:=Ct f3 (n:=4) (by omega) (by omega)
  have o1:=Ty b1.1 b1.2 b2.1 b2.2
  have o2:=Ty b3.1 b3.2 b4.1 b4.2
  have s3:(17:Int).fdiv (2^min (Int.toNat 4) IntKind.u8.bits)=1:=rfl
  have s4:Dj .and .u8 17 15=1:=by decide+kernel
  have s5:(34:Int).fdiv (2^min (Int.toNat 4) IntKind.u8.bits)=2:=rfl
  have s6:Dj .and .u8 34 15=2:=by decide+kernel
  simp only[j72,↓Bo,↓Bq,↓Bs,↓Az,↓Ca,↓Bz,↓Bu,↓Bc,↓Bb,↓Be,↓Ba,↓Bv,↓Ay,↓Bt,↓Br,↓Bw,↓Bx,↓By,Ag,As,Ap,Ar,T.I,T.A,T.B,Int.toNat_zero,List.drop_zero,and_true,implies_true,VC.sem,Aa,Af,Ak,Ai,Ae,Ac,Ad,Am,Al,Ah,An,Aj,Ab,Aq,Ao,Ck,Gy,jwt,ju8,qg8,o1,o2,f4,f5,f6,f7,f8,q9,q10,q11,q12,q13,q14,s3,s4,s5,s6,List.length_set]
  generalize hW:Bg (ρ.a 2) 3*256+Bg (ρ.a 2) 4=W at*
  generalize hH:Bg (ρ.a 2) 1*256+Bg (ρ.a 2) 2=H at*
  have hmul:H*W≤65536:=by rw[Int.mul_comm];exact f11
  have hm0:0≤H*W:=Int.mul_nonneg (by omega) (by omega)
  have t1:=ju6 (x:=W) (by omega)
  have t2:=ju6 (x:=H) (by omega)
  obtain ⟨n1,n2,n3⟩:=jxz f9 f10 f11
  have hmx:imx (imx (imx 0 2) 1) 1=2:=by decide
  have E4:(W+15)/16*2*((H+15)/16*2)=4*nmC W H:=by rw[qbk,←n3]
  have E1:(W+15)/16*1*((H+15)/16*1)=nmC W H:=by rw[Int.mul_one,Int.mul_one,←n3]
  have Z4:4*nmC W H*64=64*(4*nmC W H):=Int.mul_comm _ _
  have Z1:nmC W H*64=64*nmC W H:=Int.mul_comm _ _
  simp only[hmx,t1,t2,E4,E1]
  (repeat' (first|with_reducible exact True.intro|with_reducible refine And.intro ?_ ?_|intro _))<;>(try omega)
  · rw[Int.add_zero,j6f]
  · rw[‹ρ.a 1406=Od _›,show (ρ.i 1406).toNat=(0+ρ.i 1406).toNat from by omega,Yh (by omega),show 0+(ρ.i 1406+1)=0+ρ.i 1406+1 from by omega]
  · rw[‹ρ.a 1406=Od _›,show 0+ρ.i 1406=64+0 from by omega]
  · rw[‹ρ.a 1806=Od _›,Yh (by omega),show 64+(ρ.i 1806+1)=64+ρ.i 1806+1 from by omega]
  · rw[‹ρ.a 1806=Od _›,show 64+ρ.i 1806=128+0 from by omega]
  · rw[‹ρ.a 2206=Od _›,Yh (by omega),show 128+(ρ.i 2206+1)=128+ρ.i 2206+1 from by omega]
  · rw[‹ρ.a 2206=Od _›,show 128+ρ.i 2206=192 from by omega]
  · rw[Z4];rfl
  · rw[Z1];rfl
  · rw[Z1];rfl
end
end Go.Proofs.YtljjbikbfeigdaaGreatDoor
