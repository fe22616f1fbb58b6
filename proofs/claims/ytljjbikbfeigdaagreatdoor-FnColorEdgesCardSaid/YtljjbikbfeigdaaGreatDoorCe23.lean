/- Part of the proof of FnColorEdgesCardSaid: Contracts of the encoder shown: a block, by table 0. -/
import Derived.Test.YtljjbikbfeigdaaGreatDoorCe22
set_option linter.all false
namespace Go.Proofs.YtljjbikbfeigdaaGreatDoor
noncomputable section
open Go
def jyk:VC:=
 let t0:T:=.lit 64
 let t1:T:=.lit 0
 let t2:T:=.alit []
 let t3:T:=.fa 52 t1 t1 t1 t1 (.av 4) t2 t2 t2
 let t4:T:=.wrap .i32 (.mul (.lit 8) (.wrap .i32 (.get (.av 3) t1)))
 let t5:T:=.add (.len (.av 0)) (.iv 0)
 let t6:T:=.fi 60 (.get (.av 1100) t1) t4 t1 t1 t2 t2 t2 t2
 let t7:T:=.wrap .i32 (.sub t6 (.iv 3))
 let t8:T:=.lit 4096
 let t9:T:=.alit [0]
 let t10:T:=.splice (.set t9 t1 (.iv 1501)) (.len (.set t9 t1 (.iv 1501))) (.splice (.set t9 t1 (.iv 1502)) (.len (.set t9 t1 (.iv 1502))) (.splice (.av 1500) (.len (.av 1500)) (.cut (.av 1501) t1 (.iv 1500))))
 let t11:T:=.splice (.set t9 t1 (.iv 1)) (.len (.set t9 t1 (.iv 1))) (.splice (.set t9 t1 (.iv 2)) (.len (.set t9 t1 (.iv 2))) (.splice (.av 0) (.len (.av 0)) (.cut (.av 1) t1 (.iv 0))))
 let t12:T:=.fa 70 (.iv 3) t1 t1 t1 t11 (.av 3) (.av 4) t2
 let t13:T:=.iv 1804
 let t14:T:=.add (.len (.av 1800)) (.iv 1802)
 let t15:T:=.add t5 (.sub (.mul (.lit 18) t13) (.lit 6))
 let t16:T:=.splice (.set t9 t1 (.iv 1800)) (.len (.set t9 t1 (.iv 1800))) (.splice (.set t9 t1 (.iv 1801)) (.len (.set t9 t1 (.iv 1801))) (.splice (.av 1800) (.len (.av 1800)) (.cut (.av 1801) t1 (.iv 1802))))
 let t17:T:=.fa 45 t1 t1 t1 t1 t2 t2 t2 t2
 let t18:T:=.get t17 t13
 let t19:T:=.get (.av 1100) t18
 let t20:T:=.wrap .i32 (.mul (.lit 8) (.wrap .i32 (.get (.av 3) t13)))
 let t21:T:=.fi 60 t19 t20 t1 t1 t2 t2 t2 t2
 let t22:T:=.add t13 (.lit 1)
 let t23:T:=.le (.lit (-9223372036854775808)) t22
 let t24:T:=.wrap .i32 (.add (.iv 1803) (.lit 1))
 let t25:T:=.add t5 (.sub (.mul (.lit 18) t22) (.lit 6))
 let t26:T:=.lt (.sub t0 t22) (.sub t0 t13)
 let t27:T:=.tmod (.iv 1803) (.lit 16)
 let t28:T:=.fa 82 (.iv 1803) t1 t1 t1 t16 t2 t2 t2
 let t29:T:=.add (.len (.av 2200)) (.iv 2202)
 let t30:T:=.splice (.set t9 t1 (.iv 2200)) (.len (.set t9 t1 (.iv 2200))) (.splice (.set t9 t1 (.iv 2201)) (.len (.set t9 t1 (.iv 2201))) (.splice (.av 2200) (.len (.av 2200)) (.cut (.av 2201) t1 (.iv 2202))))
 let t31:T:=.add (.len (.av 2700)) (.iv 2700)
 let t32:T:=.splice (.set t9 t1 (.iv 2701)) (.len (.set t9 t1 (.iv 2701))) (.splice (.set t9 t1 (.iv 2702)) (.len (.set t9 t1 (.iv 2702))) (.splice (.av 2700) (.len (.av 2700)) (.cut (.av 2701) t1 (.iv 2700))))
 let t33:T:=.wrap .i32 (.sub (.iv 2203) (.lit 16))
 let t34:T:=.splice (.set t9 t1 (.iv 2301)) (.len (.set t9 t1 (.iv 2301))) (.splice (.set t9 t1 (.iv 2302)) (.len (.set t9 t1 (.iv 2302))) (.splice (.av 2300) (.len (.av 2300)) (.cut (.av 2301) t1 (.iv 2300))))
 let t35:T:=.fi 61 t1 t1 t1 t1 (.av 3) (.av 4) t2 t2
 let t37:T:=.le (.lit (-1024)) t35
 let t38:T:=.le t35 (.lit 1023)
 (.any 1000 0 [(.eq (.len (.av 1100)) t0),(.aeq (.av 1100) t3)] (.need [(.le (.lit (-536870912)) (.get (.av 1100) t1)),(.le (.get (.av 1100) t1) (.lit 536870912)),(.le (.lit 1) t4),(.le t4 (.lit 536870912))] (.need [(.le (.add t5 (.lit 12)) (.lit 1000000000000)),(.le t1 t1),(.le t1 t1),(.le (.lit (-2047)) t7),(.le t7 (.lit 2047))] (.any 1400 0 [(.le t1 (.iv 1500)),(.le (.iv 1500) t8),(.eq (.len (.av 1501)) t8),(.le t1 (.iv 1501)),(.le (.iv 1501) (.lit 4294967295)),(.le t1 (.iv 1502)),(.le (.iv 1502) (.lit 7)),(.le (.add (.len (.av 1500)) (.iv 1500)) (.add t5 (.lit 12))),(.aeq t10 (.fa 10 t1 t7 t1 t1 t11 t2 t2 t2))] (.need [(.le t1 (.lit 1)),(.le (.lit 1) (.lit 1)),(.le (.lit 1) t0),(.le (.add (.add (.len (.av 1500)) (.iv 1500)) t1) (.add t5 (.sub (.mul (.lit 18) (.lit 1)) (.lit 6)))),(.aeq (.fa 80 (.lit 1) t1 t1 t1 t10 (.av 3) t3 t2) t12)] (.any 1800 0 [(.le t1 (.iv 1802)),(.le (.iv 1802) t8),(.eq (.len (.av 1801)) t8),(.le t1 (.iv 1800)),(.le (.iv 1800) (.lit 4294967295)),(.le t1 (.iv 1801)),(.le (.iv 1801) (.lit 7)),(.le t1 (.iv 1803)),(.le (.iv 1803) t13),(.le (.lit 1) t13),(.le t13 t0),(.le (.add t14 (.iv 1803)) t15),(.aeq (.fa 80 t13 (.iv 1803) t1 t1 t16 (.av 3) t3 t2) t12)] (.cond (.lt t13 t0) (.need [(.le t1 t13)] (.need [(.lt t13 (.len t17))] (.need [(.le t1 t18),(.lt t18 t0)] (.need [(.lt t13 (.lit 128))] (.need [(.le (.lit (-536870912)) t19),(.le t19 (.lit 536870912)),(.le (.lit 1) t20),(.le t20 (.lit 536870912))] (.cond (.eq t21 t1) (.need [t23,(.le t22 (.lit 9223372036854775807))] (.need [(.le t1 t24),(.le t24 t22),(.le (.lit 1) t22),(.le t22 t0),(.le (.add t14 t24) t25),(.aeq (.fa 80 t22 t24 t1 t1 t16 (.av 3) t3 t2) t12),(.lt t1 (.sub t0 t13)),t26] .done)) (.need [(.le (.iv 1803) t0),(.eq t27 t27),(.aeq t28 t28)] (.any 2200 0 [(.le t1 (.iv 2202)),(.le (.iv 2202) t8),(.eq (.len (.av 2201)) t8),(.le t1 (.iv 2200)),(.le (.iv 2200) (.lit 4294967295)),(.le t1 (.iv 2201)),(.le (.iv 2201) (.lit 7)),(.le t1 (.iv 2203)),(.le (.iv 2203) t0),(.le (.add t29 (.iv 2203)) t15),(.eq (.tmod (.iv 2203) (.lit 16)) t27),(.aeq (.fa 82 (.iv 2203) t1 t1 t1 t30 t2 t2 t2) t28)] (.cond (.lt (.lit 15) (.iv 2203)) (.need [(.le (.add t29 (.lit 6)) (.lit 1000000000000)),(.le t1 (.lit 240)),(.le (.lit 240) (.lit 240))] (.any 2600 0 [(.le t1 (.iv 2700)),(.le (.iv 2700) t8),(.eq (.len (.av 2701)) t8),(.le t1 (.iv 2701)),(.le (.iv 2701) (.lit 4294967295)),(.le t1 (.iv 2702)),(.le (.iv 2702) (.lit 7)),(.le t31 (.add t29 (.lit 6))),(.aeq t32 (.fa 21 (.lit 240) t1 t1 t1 t30 t2 t2 t2))] (.need [(.le t1 t33),(.le t33 t0),(.le (.add t31 t33) t15),(.eq (.tmod t33 (.lit 16)) t27),(.aeq (.fa 82 t33 t1 t1 t1 t32 t2 t2 t2) t28),(.lt t1 (.iv 2203)),(.lt t33 (.iv 2203))] .done))) (.need [(.le (.add t29 (.lit 12)) (.lit 1000000000000)),(.le (.iv 2203) (.lit 15)),(.le (.lit (-1023)) t21),(.le t21 (.lit 1023))] (.any 2600 0 [(.le t1 (.iv 2700)),(.le (.iv 2700) t8),(.eq (.len (.av 2701)) t8),(.le t1 (.iv 2701)),(.le (.iv 2701) (.lit 4294967295)),(.le t1 (.iv 2702)),(.le (.iv 2702) (.lit 7)),(.le t31 (.add t29 (.lit 12))),(.aeq t32 (.fa 11 (.iv 2203) t21 t1 t1 t30 t2 t2 t2))] (.need [t23,(.le t22 (.lit 9223372036854775807))] (.need [(.le t1 t22),(.le (.lit 1) t22),(.le t22 t0),(.le (.add t31 t1) t25),(.aeq (.fa 80 t22 t1 t1 t1 t32 (.av 3) t3 t2) t12),(.lt t1 (.sub t0 t13)),t26] .done))))))))))))) (.cond (.lt t1 (.iv 1803)) (.need [(.le (.add t14 (.lit 6)) (.lit 1000000000000)),(.le t1 (.lit 240))] (.any 2200 0 [(.le t1 (.iv 2300)),(.le (.iv 2300) t8),(.eq (.len (.av 2301)) t8),(.le t1 (.iv 2301)),(.le (.iv 2301) (.lit 4294967295)),(.le t1 (.iv 2302)),(.le (.iv 2302) (.lit 7)),(.le (.add (.len (.av 2300)) (.iv 2300)) (.add t14 (.lit 6))),(.aeq t34 (.fa 21 t1 t1 t1 t1 t16 t2 t2 t2))] (.need [(.eq t35 t6),(.le (.add (.len (.av 2300)) (.iv 2300)) (.add t5 (.lit 1152))),(.aeq t34 t12),t37,t38] .done))) (.need [(.eq t35 t6),(.le t14 (.add t5 (.lit 1152))),(.aeq t16 t12),t37,t38] .done)))))))))
theorem qhk:Dd (Db Tryz.prog spE (j4f 0) ⟨qi1 0,ju4⟩ 100000 89 (c89 0)) jyk=true:=by kernel_rfl
set_option maxRecDepth 20000 in
set_option maxHeartbeats 4000000 in
theorem jm1:Cf Tryz.prog Z 89 (c89 0):=by
  refine Bf jxc (jsw jw0 jv2 jvq) qhk fun ρ h=> ?_
  simp only[c89,eIn,hE,bE,jd7,hB,bW,bB,Gl,Tt,ja2,cA,fA,z0,Du,Bi,Di,List.flatMap_cons,List.flatMap_nil,List.append_nil,List.append_assoc,List.cons_append,List.nil_append,and_true,↓qA,qB,and_true,implies_true,T.I,T.A,T.B,VC.sem] at h
  obtain ⟨h1,h2,h3,h4,h5,h6,h7,h8,h9,h10,h11,h12,h13,h14,h15,h16,h17,h18,h19,h20,h21,h22⟩:=h
  have hq:Bn 1 255 (ρ.a 3)=true:=h13
  have hb:Bn 0 255 (ρ.a 4)=true:=h14
  have hbl:((Z.fa 45 0 0 0 0 [] [] [] []).length:Int)=64:=rfl
  have hl3:(ρ.a 3).length=128:=by omega
  have hl4:(ρ.a 4).length=64:=by omega
  have K0: ∀d,d=Z.fa 52 0 0 0 0 (ρ.a 4) [] [] []→ -536870912≤d.getD 0 0∧d.getD 0 0≤536870912∧1≤IntKind.i32.wrap (8*IntKind.i32.wrap ((ρ.a 3).getD 0 0))∧IntKind.i32.wrap (8*IntKind.i32.wrap ((ρ.a 3).getD 0 0))≤536870912∧
      Z.fi 60 (d.getD 0 0) (IntKind.i32.wrap (8*IntKind.i32.wrap ((ρ.a 3).getD 0 0))) 0 0 [] [] [] []=coef 0 (ρ.a 3) (Dc (ρ.a 4)) 0∧ -1024≤coef 0 (ρ.a 3) (Dc (ρ.a 4)) 0∧coef 0 (ρ.a 3) (Dc (ρ.a 4)) 0≤1023:=by
    intro d hd
    obtain ⟨_,_,g1,g2,g3,g4,g5,g6,g7,_⟩:=kf hq hb hl3 hl4 (q:=0) (by omega) (k:=0) (j:=0) (by omega) (by omega) (by omega) hd
    exact ⟨g1,g2,g3,g4,g5,g6,g7⟩
  have hc:Z.fi 61 0 0 0 0 (ρ.a 3) (ρ.a 4) [] []=coef 0 (ρ.a 3) (Dc (ρ.a 4)) 0:=rfl
  have c1:=(K0 _ rfl).2.2.2.2.2.1
  have c2:=(K0 _ rfl).2.2.2.2.2.2
  have K:=fun {k j:Int} (g0:0≤k) (g1:k<64) (gj:j=64*(0:Int)+k) {d:List Int} (hd:d=_)=>kf hq hb hl3 hl4 (q:=0) (by omega) g0 g1 gj hd
  simp only[jyk,Fb,↓qA,qB,and_true,implies_true,T.I,T.A,T.B,VC.sem,hbl,fI,fA,fA3,z0,hc]
  (repeat' (first|refine And.intro ?_ ?_|intro _))<;>(try trivial)<;>(try omega)
  · exact (K0 _ ‹ρ.a 1100=_›).1
  · exact (K0 _ ‹ρ.a 1100=_›).2.1
  · exact (K0 _ ‹ρ.a 1100=_›).2.2.1
  · exact (K0 _ ‹ρ.a 1100=_›).2.2.2.1
  · rw[(K0 _ ‹ρ.a 1100=_›).2.2.2.2.1,IntKind.wrap_i32];omega
  · rw[(K0 _ ‹ρ.a 1100=_›).2.2.2.2.1,IntKind.wrap_i32];omega
  · have e:IntKind.i32.wrap (coef 0 (ρ.a 3) (Dc (ρ.a 4)) 0-ρ.i 3)=coef 0 (ρ.a 3) (Dc (ρ.a 4)) 0-ρ.i 3:=by rw[IntKind.wrap_i32];omega
    rw[‹[ρ.i 1501]++_=_›,(K0 _ ‹ρ.a 1100=_›).2.2.2.2.1,e,jfx,j17,qbs,Lc,jcy]
    unfold Ub
    rfl
  · exact (K (k:=ρ.i 1804) (j:=ρ.i 1804) (by omega) (by omega) (by omega) ‹ρ.a 1100=_›).1
  · exact (K (k:=ρ.i 1804) (j:=ρ.i 1804) (by omega) (by omega) (by omega) ‹ρ.a 1100=_›).2.1
  · exact (K (k:=ρ.i 1804) (j:=ρ.i 1804) (by omega) (by omega) (by omega) ‹ρ.a 1100=_›).2.2.1
  · exact (K (k:=ρ.i 1804) (j:=ρ.i 1804) (by omega) (by omega) (by omega) ‹ρ.a 1100=_›).2.2.2.1
  · exact (K (k:=ρ.i 1804) (j:=ρ.i 1804) (by omega) (by omega) (by omega) ‹ρ.a 1100=_›).2.2.2.2.1
  · exact (K (k:=ρ.i 1804) (j:=ρ.i 1804) (by omega) (by omega) (by omega) ‹ρ.a 1100=_›).2.2.2.2.2.1
  · rw[IntKind.wrap_i32];omega
  · rw[IntKind.wrap_i32];omega
  · rw[IntKind.wrap_i32];omega
  · refine Eq.trans ?_ ‹Z.fa 80 (ρ.i 1804) (ρ.i 1803) 0 0 _ _ _ _=_›
    have e:IntKind.i32.wrap (ρ.i 1803+1)=ρ.i 1803+1:=by rw[IntKind.wrap_i32];omega
    have hz:= ‹Z.fi 60 _ _ 0 0 [] [] [] []=0›
    rw[(K (k:=ρ.i 1804) (j:=ρ.i 1804) (by omega) (by omega) (by omega) ‹ρ.a 1100=_›).2.2.2.2.2.2.1] at hz
    rw[e,jfx,jfx,jcy]
    exact congrArg pk (jg3 (by omega) hz).symm
  · rw[IntKind.wrap_i32];omega
  · rw[IntKind.wrap_i32];omega
  · rw[IntKind.wrap_i32];omega
  · have e:IntKind.i32.wrap (ρ.i 2203-16)=ρ.i 2203-16:=by rw[IntKind.wrap_i32];omega
    have ht:= ‹(ρ.i 2203).tmod 16=_›
    rw[Int.tmod_eq_emod_of_nonneg (by omega),Int.tmod_eq_emod_of_nonneg (by omega)] at ht
    rw[e,Int.tmod_eq_emod_of_nonneg (by omega),Int.tmod_eq_emod_of_nonneg (by omega)];omega
  · refine Eq.trans ?_ ‹Z.fa 82 (ρ.i 2203) 0 0 0 _ _ _ _=_›
    have e:IntKind.i32.wrap (ρ.i 2203-16)=ρ.i 2203-16:=by rw[IntKind.wrap_i32];omega
    rw[e,‹[ρ.i 2701]++_=_›,jwf,jtc,jtc,Lc]
    exact congrArg pk (jbh (by omega)).symm
  · rw[IntKind.wrap_i32];omega
  · rw[(K (k:=ρ.i 1804) (j:=ρ.i 1804) (by omega) (by omega) (by omega) ‹ρ.a 1100=_›).2.2.2.2.2.2.1]
    exact (K (k:=ρ.i 1804) (j:=ρ.i 1804) (by omega) (by omega) (by omega) ‹ρ.a 1100=_›).2.2.2.2.2.2.2.2.2 (by omega)
  · rw[(K (k:=ρ.i 1804) (j:=ρ.i 1804) (by omega) (by omega) (by omega) ‹ρ.a 1100=_›).2.2.2.2.2.2.1]
    exact (K (k:=ρ.i 1804) (j:=ρ.i 1804) (by omega) (by omega) (by omega) ‹ρ.a 1100=_›).2.2.2.2.2.2.2.2.1
  · refine Eq.trans ?_ ‹Z.fa 80 (ρ.i 1804) (ρ.i 1803) 0 0 _ _ _ _=_›
    have hz:= ‹¬Z.fi 60 _ _ 0 0 [] [] [] []=0›
    have hk:=(K (k:=ρ.i 1804) (j:=ρ.i 1804) (by omega) (by omega) (by omega) ‹ρ.a 1100=_›).2.2.2.2.2.2.1
    rw[hk] at hz
    rw[‹[ρ.i 2701]++_=_›,hk]
    have ht:= ‹(ρ.i 2203).tmod 16=_›
    rw[Int.tmod_eq_emod_of_nonneg (by omega),Int.tmod_eq_emod_of_nonneg (by omega)] at ht
    have hr:ρ.i 2203=ρ.i 1803 % 16:=by omega
    have hs:= ‹Z.fa 82 (ρ.i 2203) 0 0 0 _ _ _ _=_›
    rw[jtc,jtc,jaz (by omega)] at hs
    have hs:=congrArg up hs
    rw[Lc,Lc] at hs
    rw[qbm,jfx,jfx,Lc,hs,hr,jcy]
    exact congrArg pk (jft (by omega) hz).symm
  · exact (K0 _ ‹ρ.a 1100=_›).2.2.2.2.1.symm
  · rw[‹[ρ.i 2301]++_=_›,jwf]
    refine Eq.trans ?_ ‹Z.fa 80 (ρ.i 1804) (ρ.i 1803) 0 0 _ _ _ _=_›
    rw[jfx,jcy]
    exact congrArg pk (jlj (q:=0) (by omega) (by omega)).symm
  · exact (K0 _ ‹ρ.a 1100=_›).2.2.2.2.1.symm
  · refine Eq.trans ?_ ‹Z.fa 80 (ρ.i 1804) (ρ.i 1803) 0 0 _ _ _ _=_›
    rw[jfx,jks (by omega) (by omega),j8h]
end
end Go.Proofs.YtljjbikbfeigdaaGreatDoor
