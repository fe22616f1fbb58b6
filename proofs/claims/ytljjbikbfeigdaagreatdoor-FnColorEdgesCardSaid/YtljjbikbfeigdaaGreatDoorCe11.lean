/- Part of the proof of FnColorEdgesCardSaid: Contracts of the encoder shown: the forward transform and the quotient. -/
import Derived.Test.YtljjbikbfeigdaaGreatDoorCe10
set_option linter.all false
namespace Go.Proofs.YtljjbikbfeigdaaGreatDoor
noncomputable section
open Go
theorem jwv(i:Int)(a:List Int):Z.fa 50 i 0 0 0 a [] [] []=Tf i a:=rfl
theorem jxm(i:Int)(a:List Int):Z.fa 51 i 0 0 0 a [] [] []=Ul i a:=rfl
theorem jcy(a:List Int):Z.fa 52 0 0 0 0 a [] [] []=Dc a:=rfl
theorem jwp{a b:Int}(h1:0≤a)(h2:1≤b):0≤a/b∧a/b≤a:=by
  refine ⟨Int.ediv_nonneg h1 (by omega),?_⟩
  exact Int.ediv_le_self b h1
theorem j02{x y:Int}(h1:0≤x)(h2:x≤536870912)(h3:1≤y)(h4:y≤536870912):Oc x y=IntKind.i32.wrap ((IntKind.i32.wrap (x+y/2)).tdiv y):=by
  have e1:IntKind.i32.wrap (x+y/2)=x+y/2:=by rw[IntKind.wrap_i32];omega
  have hb:=jwp (a:=x+y/2) (b:=y) (by omega) h3
  rw[e1,Int.tdiv_eq_ediv_of_nonneg (by omega)]
  have e2:IntKind.i32.wrap ((x+y/2)/y)=(x+y/2)/y:=by rw[IntKind.wrap_i32];omega
  rw[e2];unfold Oc;rw[if_pos h1]
theorem jxy{x y:Int}(h1: ¬0≤x)(h2: -536870912≤x)(h3:1≤y)(h4:y≤536870912):Oc x y=IntKind.i32.wrap (0-IntKind.i32.wrap ((IntKind.i32.wrap (IntKind.i32.wrap (0-x)+y/2)).tdiv y)):=by
  have e0:IntKind.i32.wrap (0-x)= -x:=by rw[IntKind.wrap_i32];omega
  have e1:IntKind.i32.wrap (-x+y/2)= -x+y/2:=by rw[IntKind.wrap_i32];omega
  have hb:=jwp (a:= -x+y/2) (b:=y) (by omega) h3
  rw[e0,e1,Int.tdiv_eq_ediv_of_nonneg (by omega)]
  have e2:IntKind.i32.wrap ((-x+y/2)/y)=(-x+y/2)/y:=by rw[IntKind.wrap_i32];omega
  rw[e2]
  have e3:IntKind.i32.wrap (0-(-x+y/2)/y)= -((-x+y/2)/y):=by rw[IntKind.wrap_i32];omega
  rw[e3];unfold Oc;rw[if_neg h1]
theorem j5t(x:Int):ieq (x+8) x=false:=by
  unfold ieq;rw[decide_eq_false_iff_not];omega
def j6t:VC:=
 let t0:T:=.fi 60 (.iv 0) (.iv 1) (.lit 0) (.lit 0) (.alit []) (.alit []) (.alit []) (.alit [])
 (.cond (.le (.lit 0) (.iv 0)) (.need [(.not (.eq (.iv 1) (.lit 0)))] (.need [(.eq t0 (.wrap .i32 (.tdiv (.wrap .i32 (.add (.iv 0) (.shr .i32 (.iv 1) (.lit 1)))) (.iv 1))))] .done)) (.need [(.not (.eq (.iv 1) (.lit 0)))] (.need [(.eq t0 (.wrap .i32 (.sub (.lit 0) (.wrap .i32 (.tdiv (.wrap .i32 (.add (.wrap .i32 (.sub (.lit 0) (.iv 0))) (.shr .i32 (.iv 1) (.lit 1)))) (.iv 1))))))] .done)))
theorem qlr:Dd (Db Tryz.prog Jt Jq ⟨j5d,ju2⟩ 100000 108 j5g) j6t=true:=by kernel_rfl
theorem j5j:Cf Tryz.prog Z 108 j5g:=by
  refine Bf Cq Cn qlr fun ρ h=> ?_
  simp only[j5g,Bi,Di,List.flatMap_cons,List.flatMap_nil,List.append_nil,List.append_assoc,List.cons_append,List.nil_append,and_true,↓qA,qB,and_true,implies_true,T.I,T.A,T.B,VC.sem] at h
  obtain ⟨h1,h2,h3,h4⟩:=h
  simp only[j6t,fI,z0,↓qA,qB,and_true,implies_true,T.I,T.A,T.B,VC.sem]
  have hb:0≤ρ.i 1/2∧ρ.i 1/2≤268435456:=by omega
  (repeat' (first|refine And.intro ?_ ?_|intro _))<;>(try trivial)<;>(try omega)<;>(try (simp only[Tu,imx,Dk,IntKind.wrap_u32,IntKind.wrap_i32,IntKind.wrap_u8] at*;omega))
  · exact j02 (by omega) (by omega) (by omega) (by omega)
  · exact jxy (by omega) (by omega) (by omega) (by omega)
def j76:VC:=
 let t0:T:=.lit 0
 let t1:T:=.fa 50 t0 t0 t0 t0 (.av 0) (.alit []) (.alit []) (.alit [])
 let t2:T:=.iv 1000
 let t3:T:=.lit (-9223372036854775808)
 let t4:T:=.lit 9223372036854775807
 let t5:T:=.add (.lit 8) t2
 let t6:T:=.add (.lit 16) t2
 let t7:T:=.add (.lit 24) t2
 let t8:T:=.add (.lit 32) t2
 let t9:T:=.add (.lit 40) t2
 let t10:T:=.add (.lit 48) t2
 let t11:T:=.add (.lit 56) t2
 let t12:T:=.add t2 (.lit 1)
 let t13:T:=.wrap .i32 (.add (.get (.av 1000) t2) (.get (.av 1000) t11))
 let t14:T:=.wrap .i32 (.add (.get (.av 1000) t7) (.get (.av 1000) t8))
 let t15:T:=.wrap .i32 (.add t13 t14)
 let t16:T:=.wrap .i32 (.add (.get (.av 1000) t5) (.get (.av 1000) t10))
 let t17:T:=.wrap .i32 (.add (.get (.av 1000) t6) (.get (.av 1000) t9))
 let t18:T:=.wrap .i32 (.add t16 t17)
 let t19:T:=.wrap .i32 (.sub t16 t17)
 let t20:T:=.wrap .i32 (.sub t13 t14)
 let t21:T:=.wrap .i32 (.mul (.lit 141871) (.wrap .i32 (.add t19 t20)))
 let t22:T:=.wrap .i32 (.sub (.get (.av 1000) t7) (.get (.av 1000) t8))
 let t23:T:=.wrap .i32 (.sub (.get (.av 1000) t2) (.get (.av 1000) t11))
 let t24:T:=.wrap .i32 (.mul (.lit 217965) (.wrap .i32 (.add t22 t23)))
 let t25:T:=.wrap .i32 (.sub t24 (.wrap .i32 (.mul (.lit 363604) t22)))
 let t26:T:=.wrap .i32 (.sub (.get (.av 1000) t6) (.get (.av 1000) t9))
 let t27:T:=.wrap .i32 (.sub (.get (.av 1000) t5) (.get (.av 1000) t10))
 let t28:T:=.wrap .i32 (.mul (.lit 257107) (.wrap .i32 (.add t26 t27)))
 let t29:T:=.wrap .i32 (.add t28 (.wrap .i32 (.mul (.lit (-205965)) t27)))
 let t30:T:=.wrap .i32 (.add t25 t29)
 let t31:T:=.wrap .i32 (.add t24 (.wrap .i32 (.mul (.lit (-72326)) t23)))
 let t32:T:=.wrap .i32 (.sub t28 (.wrap .i32 (.mul (.lit 308249) t26)))
 let t33:T:=.wrap .i32 (.add t31 t32)
 let t34:T:=.set (.set (.set (.set (.set (.set (.set (.set (.av 1000) t2 (.wrap .i32 (.mul (.wrap .i32 (.sub (.wrap .i32 (.add t15 t18)) (.lit 1024))) (.lit 262144)))) t8 (.wrap .i32 (.mul (.wrap .i32 (.sub t15 t18)) (.lit 262144)))) t6 (.wrap .i32 (.add t21 (.wrap .i32 (.mul (.lit 200637) t20))))) t10 (.wrap .i32 (.sub t21 (.wrap .i32 (.mul (.lit 484379) t19))))) t5 (.wrap .i32 (.add t30 t33))) t7 (.wrap .i32 (.mul (.shr .i32 (.wrap .i32 (.sub t25 t29)) (.lit 12)) (.lit 5793)))) t9 (.wrap .i32 (.mul (.shr .i32 (.wrap .i32 (.sub t31 t32)) (.lit 12)) (.lit 5793)))) t11 (.wrap .i32 (.sub t30 t33))
 (.need [(.le t0 t0),(.le t0 (.lit 8)),(.aeq t1 t1)] (.any 1000 0 [(.le t0 t2),(.le t2 (.lit 8)),(.eq (.len (.av 1000)) (.lit 64)),(.aeq (.fa 50 t2 t0 t0 t0 (.av 1000) (.alit []) (.alit []) (.alit [])) t1)] (.cond (.lt t2 (.lit 8)) (.need [(.le t3 t2),(.le t2 t4)] (.need [(.lt t2 (.lit 64))] (.need [(.le t3 t5),(.le t5 t4)] (.need [(.le t0 t5),(.lt t5 (.lit 64))] (.need [(.le t3 t6),(.le t6 t4)] (.need [(.le t0 t6),(.lt t6 (.lit 64))] (.need [(.le t3 t7),(.le t7 t4)] (.need [(.le t0 t7),(.lt t7 (.lit 64))] (.need [(.le t3 t8),(.le t8 t4)] (.need [(.le t0 t8),(.lt t8 (.lit 64))] (.need [(.le t3 t9),(.le t9 t4)] (.need [(.le t0 t9),(.lt t9 (.lit 64))] (.need [(.le t3 t10),(.le t10 t4)] (.need [(.le t0 t10),(.lt t10 (.lit 64))] (.need [(.le t3 t11),(.le t11 t4)] (.need [(.le t0 t11),(.lt t11 (.lit 64))] (.need [(.le t3 t12),(.le t12 t4)] (.need [(.le t0 t12),(.le t12 (.lit 8)),(.eq (.len t34) (.lit 64)),(.aeq (.fa 50 t12 t0 t0 t0 t34 (.alit []) (.alit []) (.alit [])) t1),(.lt t0 (.sub (.lit 8) t2)),(.lt (.sub (.lit 8) t12) (.sub (.lit 8) t2))] .done)))))))))))))))))) (.need [(.aeq (.av 1000) t1)] .done))))
theorem qlh:Dd (Db Tryz.prog Jt Jq ⟨j5d,ju2⟩ 100000 118 jmt) j76=true:=by kernel_rfl
theorem j4r:Cf Tryz.prog Z 118 jmt:=by
  refine Bf Cq Cn qlh fun ρ h=> ?_
  simp only[jmt,bB,fA,z0,Bi,Di,List.flatMap_cons,List.flatMap_nil,List.append_nil,List.append_assoc,List.cons_append,List.nil_append,and_true,↓qA,qB,and_true,implies_true,T.I,T.A,T.B,VC.sem] at h
  have h1:=h
  simp only[j76,fA,z0,↓qA,qB,and_true,implies_true,T.I,T.A,T.B,VC.sem]
  (repeat' (first|refine And.intro ?_ ?_|intro _))<;>(try trivial)<;>(try omega)<;>(try (simp only[Tu,imx,Dk,IntKind.wrap_u32,IntKind.wrap_i32,IntKind.wrap_u8] at*;omega))
  · simp only[List.length_set];omega
  · refine Eq.trans ?_ ‹Z.fa 50 (ρ.i 1000) 0 0 0 (ρ.a 1000) [] [] []=_›
    rw[jwv,jwv,Yx (i:=ρ.i 1000) (a:=ρ.a 1000) (by omega)]
    rfl
  · refine Eq.trans ?_ ‹Z.fa 50 (ρ.i 1000) 0 0 0 (ρ.a 1000) [] [] []=_›
    rw[jwv,jc0 (by omega)]
def j70:VC:=
 let t0:T:=.lit 0
 let t1:T:=.fa 51 t0 t0 t0 t0 (.av 0) (.alit []) (.alit []) (.alit [])
 let t2:T:=.lit 64
 let t3:T:=.mul (.lit 8) (.iv 1000)
 let t4:T:=.add t3 (.lit 8)
 let t5:T:=.sub t4 t3
 let t6:T:=.ite (.eq t4 t3) t0 t3
 let t7:T:=.add (.lit 1) t6
 let t8:T:=.add (.lit 2) t6
 let t9:T:=.add (.lit 3) t6
 let t10:T:=.add (.lit 4) t6
 let t11:T:=.add (.lit 5) t6
 let t12:T:=.add (.lit 6) t6
 let t13:T:=.add (.lit 7) t6
 let t14:T:=.add (.iv 1000) (.lit 1)
 let t16:T:=.get (.av 1000) t13
 let t17:T:=.wrap .i32 (.add (.get (.av 1000) t6) t16)
 let t19:T:=.get (.av 1000) t10
 let t20:T:=.wrap .i32 (.add (.get (.av 1000) t9) t19)
 let t21:T:=.wrap .i32 (.add t17 t20)
 let t23:T:=.get (.av 1000) t12
 let t24:T:=.wrap .i32 (.add (.get (.av 1000) t7) t23)
 let t26:T:=.get (.av 1000) t11
 let t27:T:=.wrap .i32 (.add (.get (.av 1000) t8) t26)
 let t28:T:=.wrap .i32 (.add t24 t27)
 let t29:T:=.lit 131072
 let t30:T:=.shr .i32 (.wrap .i32 (.sub (.get (.av 1000) t9) t19)) (.lit 14)
 let t31:T:=.shr .i32 (.wrap .i32 (.sub (.get (.av 1000) t6) t16)) (.lit 14)
 let t32:T:=.wrap .i32 (.mul (.lit 13623) (.wrap .i32 (.add t30 t31)))
 let t33:T:=.wrap .i32 (.sub t32 (.wrap .i32 (.mul (.lit 22725) t30)))
 let t34:T:=.shr .i32 (.wrap .i32 (.sub (.get (.av 1000) t8) t26)) (.lit 14)
 let t35:T:=.shr .i32 (.wrap .i32 (.sub (.get (.av 1000) t7) t23)) (.lit 14)
 let t36:T:=.wrap .i32 (.mul (.lit 16069) (.wrap .i32 (.add t34 t35)))
 let t37:T:=.wrap .i32 (.add t36 (.wrap .i32 (.mul (.lit (-12873)) t35)))
 let t38:T:=.wrap .i32 (.add t33 t37)
 let t39:T:=.wrap .i32 (.add t32 (.wrap .i32 (.mul (.lit (-4521)) t31)))
 let t40:T:=.wrap .i32 (.sub t36 (.wrap .i32 (.mul (.lit 19265) t34)))
 let t41:T:=.wrap .i32 (.add t39 t40)
 let t42:T:=.shr .i32 (.wrap .i32 (.sub t24 t27)) (.lit 14)
 let t43:T:=.shr .i32 (.wrap .i32 (.sub t17 t20)) (.lit 14)
 let t44:T:=.wrap .i32 (.mul (.lit 8867) (.wrap .i32 (.add t42 t43)))
 let t45:T:=.set (.set (.set (.set (.set (.set (.set (.set (.av 1000) t6 (.shr .i32 (.wrap .i32 (.add (.wrap .i32 (.add t21 t28)) t29)) (.lit 18))) t7 (.shr .i32 (.wrap .i32 (.add (.wrap .i32 (.add t38 t41)) t29)) (.lit 18))) t8 (.shr .i32 (.wrap .i32 (.add (.wrap .i32 (.add t44 (.wrap .i32 (.mul (.lit 12540) t43)))) t29)) (.lit 18))) t9 (.shr .i32 (.wrap .i32 (.add (.wrap .i32 (.mul (.shr .i32 (.wrap .i32 (.sub t33 t37)) (.lit 14)) (.lit 23170))) t29)) (.lit 18))) t10 (.shr .i32 (.wrap .i32 (.add (.wrap .i32 (.sub t21 t28)) t29)) (.lit 18))) t11 (.shr .i32 (.wrap .i32 (.add (.wrap .i32 (.mul (.shr .i32 (.wrap .i32 (.sub t39 t40)) (.lit 14)) (.lit 23170))) t29)) (.lit 18))) t12 (.shr .i32 (.wrap .i32 (.add (.wrap .i32 (.sub t44 (.wrap .i32 (.mul (.lit 30274) t42)))) t29)) (.lit 18))) t13 (.shr .i32 (.wrap .i32 (.add (.wrap .i32 (.sub t38 t41)) t29)) (.lit 18))
 (.need [(.le t0 t0),(.le t0 (.lit 8)),(.aeq t1 t1)] (.any 1000 0 [(.le t0 (.iv 1000)),(.le (.iv 1000) (.lit 8)),(.eq (.len (.av 1000)) t2),(.aeq (.fa 51 (.iv 1000) t0 t0 t0 (.av 1000) (.alit []) (.alit []) (.alit [])) t1)] (.cond (.lt (.iv 1000) (.lit 8)) (.need [(.le (.lit (-9223372036854775808)) t3),(.le t3 (.lit 9223372036854775807))] (.need [(.le (.lit (-9223372036854775808)) t4),(.le t4 (.lit 9223372036854775807))] (.need [(.le t0 t4),(.le t4 t2),(.le t0 t4),(.le t4 t4),(.le t0 t3),(.le t3 t4)] (.need [(.lt t0 t5)] (.need [(.le t0 t6),(.lt t6 t2)] (.need [(.lt (.lit 1) t5)] (.need [(.lt t7 t2)] (.need [(.lt (.lit 2) t5)] (.need [(.lt t8 t2)] (.need [(.lt (.lit 3) t5)] (.need [(.lt t9 t2)] (.need [(.lt (.lit 4) t5)] (.need [(.lt t10 t2)] (.need [(.lt (.lit 5) t5)] (.need [(.lt t11 t2)] (.need [(.lt (.lit 6) t5)] (.need [(.lt t12 t2)] (.need [(.lt (.lit 7) t5)] (.need [(.lt t13 t2)] (.need [(.le (.lit (-9223372036854775808)) t14),(.le t14 (.lit 9223372036854775807))] (.need [(.le t0 t14),(.le t14 (.lit 8)),(.eq (.len t45) t2),(.aeq (.fa 51 t14 t0 t0 t0 t45 (.alit []) (.alit []) (.alit [])) t1),(.lt t0 (.sub (.lit 8) (.iv 1000))),(.lt (.sub (.lit 8) t14) (.sub (.lit 8) (.iv 1000)))] .done))))))))))))))))))))) (.need [(.aeq (.av 1000) t1)] .done))))
theorem qlm:Dd (Db Tryz.prog Jt Jq ⟨j5d,ju2⟩ 100000 119 j6h) j70=true:=by kernel_rfl
theorem j5i:Cf Tryz.prog Z 119 j6h:=by
  refine Bf Cq Cn qlm fun ρ h=> ?_
  simp only[j6h,jmt,bB,fA,z0,Bi,Di,List.flatMap_cons,List.flatMap_nil,List.append_nil,List.append_assoc,List.cons_append,List.nil_append,and_true,↓qA,qB,and_true,implies_true,T.I,T.A,T.B,VC.sem] at h
  have h1:=h
  simp only[j70,fA,z0,↓qA,qB,and_true,implies_true,T.I,T.A,T.B,VC.sem,j5t,cond_false]
  (repeat' (first|refine And.intro ?_ ?_|intro _))<;>(try trivial)<;>(try omega)<;>(try (simp only[Tu,imx,Dk,IntKind.wrap_u32,IntKind.wrap_i32,IntKind.wrap_u8] at*;omega))
  · simp only[List.length_set];omega
  · refine Eq.trans ?_ ‹Z.fa 51 (ρ.i 1000) 0 0 0 (ρ.a 1000) [] [] []=_›
    rw[jxm,jxm,Xn (i:=ρ.i 1000) (a:=ρ.a 1000) (by omega)]
    rfl
  · refine Eq.trans ?_ ‹Z.fa 51 (ρ.i 1000) 0 0 0 (ρ.a 1000) [] [] []=_›
    rw[jxm,jbj (by omega)]
theorem j24: ∀f s,qd7 f=some s→Dw Tryz.prog Z f s:=by
  intro f s h
  unfold qd7 at h
  split at h
  · cases h;exact Ce j4r
  · cases h;exact Ce j5i
  · cases h
def j7o:VC:=
 (.any 1000 0 [(.eq (.len (.av 1100)) (.lit 64)),(.aeq (.av 1100) (.fa 50 (.lit 0) (.lit 0) (.lit 0) (.lit 0) (.av 0) (.alit []) (.alit []) (.alit [])))] (.any 1400 0 [(.eq (.len (.av 1500)) (.lit 64)),(.aeq (.av 1500) (.fa 51 (.lit 0) (.lit 0) (.lit 0) (.lit 0) (.av 1100) (.alit []) (.alit []) (.alit [])))] (.need [(.aeq (.av 1500) (.fa 52 (.lit 0) (.lit 0) (.lit 0) (.lit 0) (.av 0) (.alit []) (.alit []) (.alit [])))] .done)))
theorem qm4:Dd (Db Tryz.prog Jt qd7 ⟨j5d,ju2⟩ 100000 107 j34) j7o=true:=by kernel_rfl
theorem j5v:Cf Tryz.prog Z 107 j34:=by
  refine Bf Cq j24 qm4 fun ρ h=> ?_
  simp only[j34,jmt,bB,fA,z0,Bi,Di,List.flatMap_cons,List.flatMap_nil,List.append_nil,List.append_assoc,List.cons_append,List.nil_append,and_true,↓qA,qB,and_true,implies_true,T.I,T.A,T.B,VC.sem] at h
  have h1:=h
  simp only[j7o,fA,z0,↓qA,qB,and_true,implies_true,T.I,T.A,T.B,VC.sem]
  (repeat' (first|refine And.intro ?_ ?_|intro _))<;>(try trivial)<;>(try omega)<;>(try (simp only[Tu,imx,Dk,IntKind.wrap_u32,IntKind.wrap_i32,IntKind.wrap_u8] at*;omega))
  · refine Eq.trans ‹ρ.a 1500=_› ?_
    rw[‹ρ.a 1100=_›]
    rfl
end
end Go.Proofs.YtljjbikbfeigdaaGreatDoor
