/- Part of the proof of FnColorEdgesCardSaid: Contracts of the encoder shown: a block, by table 1. -/
import Derived.Test.YtljjbikbfeigdaaGreatDoorCe29
set_option linter.all false
namespace Go.Proofs.YtljjbikbfeigdaaGreatDoor
noncomputable section
open Go
def jyp:VC:=
 let t0:T:=.lit 64
 let t1:T:=.lit 0
 let t2:T:=.alit []
 let t3:T:=.fa 52 t1 t1 t1 t1 (.av 4) t2 t2 t2
 let t4:T:=.wrap .i32 (.mul (.lit 8) (.wrap .i32 (.get (.av 3) t0)))
 let t5:T:=.add (.len (.av 0)) (.iv 0)
 let t6:T:=.fi 60 (.get (.av 1100) t1) t4 t1 t1 t2 t2 t2 t2
 let t7:T:=.wrap .i32 (.sub t6 (.iv 3))
 let t8:T:=.lit 4096
 let t9:T:=.alit [0]
 let t10:T:=.splice (.set t9 t1 (.iv 1501)) (.len (.set t9 t1 (.iv 1501))) (.splice (.set t9 t1 (.iv 1502)) (.len (.set t9 t1 (.iv 1502))) (.splice (.av 1500) (.len (.av 1500)) (.cut (.av 1501) t1 (.iv 1500))))
 let t11:T:=.splice (.set t9 t1 (.iv 1)) (.len (.set t9 t1 (.iv 1))) (.splice (.set t9 t1 (.iv 2)) (.len (.set t9 t1 (.iv 2))) (.splice (.av 0) (.len (.av 0)) (.cut (.av 1) t1 (.iv 0))))
 let t12:T:=.fa 71 (.iv 3) t1 t1 t1 t11 (.av 3) (.av 4) t2
 let t13:T:=.add (.len (.av 1800)) (.iv 1802)
 let t14:T:=.add t5 (.sub (.mul (.lit 18) (.iv 1804)) (.lit 6))
 let t15:T:=.splice (.set t9 t1 (.iv 1800)) (.len (.set t9 t1 (.iv 1800))) (.splice (.set t9 t1 (.iv 1801)) (.len (.set t9 t1 (.iv 1801))) (.splice (.av 1800) (.len (.av 1800)) (.cut (.av 1801) t1 (.iv 1802))))
 let t16:T:=.fa 45 t1 t1 t1 t1 t2 t2 t2 t2
 let t17:T:=.get t16 (.iv 1804)
 let t18:T:=.get (.av 1100) t17
 let t19:T:=.wrap .i32 (.mul (.lit 8) (.wrap .i32 (.get (.av 3) (.add t0 (.iv 1804)))))
 let t20:T:=.fi 60 t18 t19 t1 t1 t2 t2 t2 t2
 let t21:T:=.add (.iv 1804) (.lit 1)
 let t22:T:=.le (.lit (-9223372036854775808)) t21
 let t23:T:=.wrap .i32 (.add (.iv 1803) (.lit 1))
 let t24:T:=.add t5 (.sub (.mul (.lit 18) t21) (.lit 6))
 let t25:T:=.lt (.sub t0 t21) (.sub t0 (.iv 1804))
 let t26:T:=.tmod (.iv 1803) (.lit 16)
 let t27:T:=.fa 83 (.iv 1803) t1 t1 t1 t15 t2 t2 t2
 let t28:T:=.add (.len (.av 2200)) (.iv 2202)
 let t29:T:=.splice (.set t9 t1 (.iv 2200)) (.len (.set t9 t1 (.iv 2200))) (.splice (.set t9 t1 (.iv 2201)) (.len (.set t9 t1 (.iv 2201))) (.splice (.av 2200) (.len (.av 2200)) (.cut (.av 2201) t1 (.iv 2202))))
 let t30:T:=.add (.len (.av 2700)) (.iv 2700)
 let t31:T:=.splice (.set t9 t1 (.iv 2701)) (.len (.set t9 t1 (.iv 2701))) (.splice (.set t9 t1 (.iv 2702)) (.len (.set t9 t1 (.iv 2702))) (.splice (.av 2700) (.len (.av 2700)) (.cut (.av 2701) t1 (.iv 2700))))
 let t32:T:=.wrap .i32 (.sub (.iv 2203) (.lit 16))
 let t33:T:=.splice (.set t9 t1 (.iv 2301)) (.len (.set t9 t1 (.iv 2301))) (.splice (.set t9 t1 (.iv 2302)) (.len (.set t9 t1 (.iv 2302))) (.splice (.av 2300) (.len (.av 2300)) (.cut (.av 2301) t1 (.iv 2300))))
 let t34:T:=.fi 62 t1 t1 t1 t1 (.av 3) (.av 4) t2 t2
 let t36:T:=.le (.lit (-1024)) t34
 let t37:T:=.le t34 (.lit 1023)
 (.any 1000 0 [(.eq (.len (.av 1100)) t0),(.aeq (.av 1100) t3)] (.need [(.le (.lit (-536870912)) (.get (.av 1100) t1)),(.le (.get (.av 1100) t1) (.lit 536870912)),(.le (.lit 1) t4),(.le t4 (.lit 536870912))] (.need [(.le (.add t5 (.lit 12)) (.lit 1000000000000)),(.le t1 t1),(.le t1 t1),(.le (.lit (-2047)) t7),(.le t7 (.lit 2047))] (.any 1400 0 [(.le t1 (.iv 1500)),(.le (.iv 1500) t8),(.eq (.len (.av 1501)) t8),(.le t1 (.iv 1501)),(.le (.iv 1501) (.lit 4294967295)),(.le t1 (.iv 1502)),(.le (.iv 1502) (.lit 7)),(.le (.add (.len (.av 1500)) (.iv 1500)) (.add t5 (.lit 12))),(.aeq t10 (.fa 12 t1 t7 t1 t1 t11 t2 t2 t2))] (.need [(.le t1 (.lit 1)),(.le (.lit 1) (.lit 1)),(.le (.lit 1) t0),(.le (.add (.add (.len (.av 1500)) (.iv 1500)) t1) (.add t5 (.sub (.mul (.lit 18) (.lit 1)) (.lit 6)))),(.aeq (.fa 81 (.lit 1) t1 t1 t1 t10 (.av 3) t3 t2) t12)] (.any 1800 0 [(.le t1 (.iv 1802)),(.le (.iv 1802) t8),(.eq (.len (.av 1801)) t8),(.le t1 (.iv 1800)),(.le (.iv 1800) (.lit 4294967295)),(.le t1 (.iv 1801)),(.le (.iv 1801) (.lit 7)),(.le t1 (.iv 1803)),(.le (.iv 1803) (.iv 1804)),(.le (.lit 1) (.iv 1804)),(.le (.iv 1804) t0),(.le (.add t13 (.iv 1803)) t14),(.aeq (.fa 81 (.iv 1804) (.iv 1803) t1 t1 t15 (.av 3) t3 t2) t12)] (.cond (.lt (.iv 1804) t0) (.need [(.le t1 (.iv 1804))] (.need [(.lt (.iv 1804) (.len t16))] (.need [(.le t1 t17),(.lt t17 t0)] (.need [(.lt (.add t0 (.iv 1804)) (.lit 128))] (.need [(.le (.lit (-536870912)) t18),(.le t18 (.lit 536870912)),(.le (.lit 1) t19),(.le t19 (.lit 536870912))] (.cond (.eq t20 t1) (.need [t22,(.le t21 (.lit 9223372036854775807))] (.need [(.le t1 t23),(.le t23 t21),(.le (.lit 1) t21),(.le t21 t0),(.le (.add t13 t23) t24),(.aeq (.fa 81 t21 t23 t1 t1 t15 (.av 3) t3 t2) t12),(.lt t1 (.sub t0 (.iv 1804))),t25] .done)) (.need [(.le (.iv 1803) t0),(.eq t26 t26),(.aeq t27 t27)] (.any 2200 0 [(.le t1 (.iv 2202)),(.le (.iv 2202) t8),(.eq (.len (.av 2201)) t8),(.le t1 (.iv 2200)),(.le (.iv 2200) (.lit 4294967295)),(.le t1 (.iv 2201)),(.le (.iv 2201) (.lit 7)),(.le t1 (.iv 2203)),(.le (.iv 2203) t0),(.le (.add t28 (.iv 2203)) t14),(.eq (.tmod (.iv 2203) (.lit 16)) t26),(.aeq (.fa 83 (.iv 2203) t1 t1 t1 t29 t2 t2 t2) t27)] (.cond (.lt (.lit 15) (.iv 2203)) (.need [(.le (.add t28 (.lit 6)) (.lit 1000000000000)),(.le t1 (.lit 240)),(.le (.lit 240) (.lit 240))] (.any 2600 0 [(.le t1 (.iv 2700)),(.le (.iv 2700) t8),(.eq (.len (.av 2701)) t8),(.le t1 (.iv 2701)),(.le (.iv 2701) (.lit 4294967295)),(.le t1 (.iv 2702)),(.le (.iv 2702) (.lit 7)),(.le t30 (.add t28 (.lit 6))),(.aeq t31 (.fa 23 (.lit 240) t1 t1 t1 t29 t2 t2 t2))] (.need [(.le t1 t32),(.le t32 t0),(.le (.add t30 t32) t14),(.eq (.tmod t32 (.lit 16)) t26),(.aeq (.fa 83 t32 t1 t1 t1 t31 t2 t2 t2) t27),(.lt t1 (.iv 2203)),(.lt t32 (.iv 2203))] .done))) (.need [(.le (.add t28 (.lit 12)) (.lit 1000000000000)),(.le (.iv 2203) (.lit 15)),(.le (.lit (-1023)) t20),(.le t20 (.lit 1023))] (.any 2600 0 [(.le t1 (.iv 2700)),(.le (.iv 2700) t8),(.eq (.len (.av 2701)) t8),(.le t1 (.iv 2701)),(.le (.iv 2701) (.lit 4294967295)),(.le t1 (.iv 2702)),(.le (.iv 2702) (.lit 7)),(.le t30 (.add t28 (.lit 12))),(.aeq t31 (.fa 13 (.iv 2203) t20 t1 t1 t29 t2 t2 t2))] (.need [t22,(.le t21 (.lit 9223372036854775807))] (.need [(.le t1 t21),(.le (.lit 1) t21),(.le t21 t0),(.le (.add t30 t1) t24),(.aeq (.fa 81 t21 t1 t1 t1 t31 (.av 3) t3 t2) t12),(.lt t1 (.sub t0 (.iv 1804))),t25] .done))))))))))))) (.cond (.lt t1 (.iv 1803)) (.need [(.le (.add t13 (.lit 6)) (.lit 1000000000000)),(.le t1 (.lit 240))] (.any 2200 0 [(.le t1 (.iv 2300)),(.le (.iv 2300) t8),(.eq (.len (.av 2301)) t8),(.le t1 (.iv 2301)),(.le (.iv 2301) (.lit 4294967295)),(.le t1 (.iv 2302)),(.le (.iv 2302) (.lit 7)),(.le (.add (.len (.av 2300)) (.iv 2300)) (.add t13 (.lit 6))),(.aeq t33 (.fa 23 t1 t1 t1 t1 t15 t2 t2 t2))] (.need [(.eq t34 t6),(.le (.add (.len (.av 2300)) (.iv 2300)) (.add t5 (.lit 1152))),(.aeq t33 t12),t36,t37] .done))) (.need [(.eq t34 t6),(.le t13 (.add t5 (.lit 1152))),(.aeq t15 t12),t36,t37] .done)))))))))
theorem qen:Dd (Db Tryz.prog spE (j4f 1) ⟨qi1 1,ju4⟩ 100000 89 (c89 1)) jyp=true:=by kernel_rfl
set_option maxRecDepth 20000 in
set_option maxHeartbeats 4000000 in
theorem jxx:Cf Tryz.prog Z 89 (c89 1):=by
  refine Bf jxc (jsw juv jvl jvw) qen fun ρ h=> ?_
  simp only[c89,eIn,hE,bE,jd7,hB,bW,bB,Gl,Tt,ja2,cA,fA,z0,Du,Bi,Di,List.flatMap_cons,List.flatMap_nil,List.append_nil,List.append_assoc,List.cons_append,List.nil_append,and_true,↓qA,qB,and_true,implies_true,T.I,T.A,T.B,VC.sem] at h
  obtain ⟨h1,h2,h3,h4,h5,h6,h7,h8,h9,h10,h11,h12,h13,h14,h15,h16,h17,h18,h19,h20,h21,h22⟩:=h
  have hq:Bn 1 255 (ρ.a 3)=true:=h13
  have hb:Bn 0 255 (ρ.a 4)=true:=h14
  have hbl:((Z.fa 45 0 0 0 0 [] [] [] []).length:Int)=64:=rfl
  have hl3:(ρ.a 3).length=128:=by omega
  have hl4:(ρ.a 4).length=64:=by omega
  have K0: ∀d,d=Z.fa 52 0 0 0 0 (ρ.a 4) [] [] []→ -536870912≤d.getD 0 0∧d.getD 0 0≤536870912∧1≤IntKind.i32.wrap (8*IntKind.i32.wrap ((ρ.a 3).getD (Int.toNat 64) 0))∧IntKind.i32.wrap (8*IntKind.i32.wrap ((ρ.a 3).getD (Int.toNat 64) 0))≤536870912∧
      Z.fi 60 (d.getD 0 0) (IntKind.i32.wrap (8*IntKind.i32.wrap ((ρ.a 3).getD (Int.toNat 64) 0))) 0 0 [] [] [] []=coef 1 (ρ.a 3) (Dc (ρ.a 4)) 0∧ -1024≤coef 1 (ρ.a 3) (Dc (ρ.a 4)) 0∧coef 1 (ρ.a 3) (Dc (ρ.a 4)) 0≤1023:=by
    intro d hd
    obtain ⟨_,_,g1,g2,g3,g4,g5,g6,g7,_⟩:=kf hq hb hl3 hl4 (q:=1) (by omega) (k:=0) (j:=64) (by omega) (by omega) (by omega) hd
    exact ⟨g1,g2,g3,g4,g5,g6,g7⟩
  have hc:Z.fi 62 0 0 0 0 (ρ.a 3) (ρ.a 4) [] []=coef 1 (ρ.a 3) (Dc (ρ.a 4)) 0:=rfl
  have c1:=(K0 _ rfl).2.2.2.2.2.1
  have c2:=(K0 _ rfl).2.2.2.2.2.2
  have K:=fun {k j:Int} (g0:0≤k) (g1:k<64) (gj:j=64*(1:Int)+k) {d:List Int} (hd:d=_)=>kf hq hb hl3 hl4 (q:=1) (by omega) g0 g1 gj hd
  simp only[jyp,Fb,↓qA,qB,and_true,implies_true,T.I,T.A,T.B,VC.sem,hbl,fI,fA,fA3,z0,hc]
  (repeat' (first|refine And.intro ?_ ?_|intro _))<;>(try trivial)<;>(try omega)
  · exact (K0 _ ‹ρ.a 1100=_›).1
  · exact (K0 _ ‹ρ.a 1100=_›).2.1
  · exact (K0 _ ‹ρ.a 1100=_›).2.2.1
  · exact (K0 _ ‹ρ.a 1100=_›).2.2.2.1
  · rw[(K0 _ ‹ρ.a 1100=_›).2.2.2.2.1,IntKind.wrap_i32];omega
  · rw[(K0 _ ‹ρ.a 1100=_›).2.2.2.2.1,IntKind.wrap_i32];omega
  · have e:IntKind.i32.wrap (coef 1 (ρ.a 3) (Dc (ρ.a 4)) 0-ρ.i 3)=coef 1 (ρ.a 3) (Dc (ρ.a 4)) 0-ρ.i 3:=by rw[IntKind.wrap_i32];omega
    rw[‹[ρ.i 1501]++_=_›,(K0 _ ‹ρ.a 1100=_›).2.2.2.2.1,e,jex,j77,qcb,Lc,jcy]
    unfold Ub
    rfl
  · exact (K (k:=ρ.i 1804) (j:=64+ρ.i 1804) (by omega) (by omega) (by omega) ‹ρ.a 1100=_›).1
  · exact (K (k:=ρ.i 1804) (j:=64+ρ.i 1804) (by omega) (by omega) (by omega) ‹ρ.a 1100=_›).2.1
  · exact (K (k:=ρ.i 1804) (j:=64+ρ.i 1804) (by omega) (by omega) (by omega) ‹ρ.a 1100=_›).2.2.1
  · exact (K (k:=ρ.i 1804) (j:=64+ρ.i 1804) (by omega) (by omega) (by omega) ‹ρ.a 1100=_›).2.2.2.1
  · exact (K (k:=ρ.i 1804) (j:=64+ρ.i 1804) (by omega) (by omega) (by omega) ‹ρ.a 1100=_›).2.2.2.2.1
  · exact (K (k:=ρ.i 1804) (j:=64+ρ.i 1804) (by omega) (by omega) (by omega) ‹ρ.a 1100=_›).2.2.2.2.2.1
  · rw[IntKind.wrap_i32];omega
  · rw[IntKind.wrap_i32];omega
  · rw[IntKind.wrap_i32];omega
  · refine Eq.trans ?_ ‹Z.fa 81 (ρ.i 1804) (ρ.i 1803) 0 0 _ _ _ _=_›
    have e:IntKind.i32.wrap (ρ.i 1803+1)=ρ.i 1803+1:=by rw[IntKind.wrap_i32];omega
    have hz:= ‹Z.fi 60 _ _ 0 0 [] [] [] []=0›
    rw[(K (k:=ρ.i 1804) (j:=64+ρ.i 1804) (by omega) (by omega) (by omega) ‹ρ.a 1100=_›).2.2.2.2.2.2.1] at hz
    rw[e,jex,jex,jcy]
    exact congrArg pk (jg3 (by omega) hz).symm
  · rw[IntKind.wrap_i32];omega
  · rw[IntKind.wrap_i32];omega
  · rw[IntKind.wrap_i32];omega
  · have e:IntKind.i32.wrap (ρ.i 2203-16)=ρ.i 2203-16:=by rw[IntKind.wrap_i32];omega
    have ht:= ‹(ρ.i 2203).tmod 16=_›
    rw[Int.tmod_eq_emod_of_nonneg (by omega),Int.tmod_eq_emod_of_nonneg (by omega)] at ht
    rw[e,Int.tmod_eq_emod_of_nonneg (by omega),Int.tmod_eq_emod_of_nonneg (by omega)];omega
  · refine Eq.trans ?_ ‹Z.fa 83 (ρ.i 2203) 0 0 0 _ _ _ _=_›
    have e:IntKind.i32.wrap (ρ.i 2203-16)=ρ.i 2203-16:=by rw[IntKind.wrap_i32];omega
    rw[e,‹[ρ.i 2701]++_=_›,jx3,jta,jta,Lc]
    exact congrArg pk (jbh (by omega)).symm
  · rw[IntKind.wrap_i32];omega
  · rw[(K (k:=ρ.i 1804) (j:=64+ρ.i 1804) (by omega) (by omega) (by omega) ‹ρ.a 1100=_›).2.2.2.2.2.2.1]
    exact (K (k:=ρ.i 1804) (j:=64+ρ.i 1804) (by omega) (by omega) (by omega) ‹ρ.a 1100=_›).2.2.2.2.2.2.2.2.2 (by omega)
  · rw[(K (k:=ρ.i 1804) (j:=64+ρ.i 1804) (by omega) (by omega) (by omega) ‹ρ.a 1100=_›).2.2.2.2.2.2.1]
    exact (K (k:=ρ.i 1804) (j:=64+ρ.i 1804) (by omega) (by omega) (by omega) ‹ρ.a 1100=_›).2.2.2.2.2.2.2.2.1
  · refine Eq.trans ?_ ‹Z.fa 81 (ρ.i 1804) (ρ.i 1803) 0 0 _ _ _ _=_›
    have hz:= ‹¬Z.fi 60 _ _ 0 0 [] [] [] []=0›
    have hk:=(K (k:=ρ.i 1804) (j:=64+ρ.i 1804) (by omega) (by omega) (by omega) ‹ρ.a 1100=_›).2.2.2.2.2.2.1
    rw[hk] at hz
    rw[‹[ρ.i 2701]++_=_›,hk]
    have ht:= ‹(ρ.i 2203).tmod 16=_›
    rw[Int.tmod_eq_emod_of_nonneg (by omega),Int.tmod_eq_emod_of_nonneg (by omega)] at ht
    have hr:ρ.i 2203=ρ.i 1803 % 16:=by omega
    have hs:= ‹Z.fa 83 (ρ.i 2203) 0 0 0 _ _ _ _=_›
    rw[jta,jta,jaz (by omega)] at hs
    have hs:=congrArg up hs
    rw[Lc,Lc] at hs
    rw[qdb,jex,jex,Lc,hs,hr,jcy]
    exact congrArg pk (jft (by omega) hz).symm
  · exact (K0 _ ‹ρ.a 1100=_›).2.2.2.2.1.symm
  · rw[‹[ρ.i 2301]++_=_›,jx3]
    refine Eq.trans ?_ ‹Z.fa 81 (ρ.i 1804) (ρ.i 1803) 0 0 _ _ _ _=_›
    rw[jex,jcy]
    exact congrArg pk (jlj (q:=1) (by omega) (by omega)).symm
  · exact (K0 _ ‹ρ.a 1100=_›).2.2.2.2.1.symm
  · refine Eq.trans ?_ ‹Z.fa 81 (ρ.i 1804) (ρ.i 1803) 0 0 _ _ _ _=_›
    rw[jex,jks (by omega) (by omega),j8h]
theorem Dz{off px py w h:Int}{P:List Int}:(Mw off px py w h P).length=64:=by simp[Mw]
theorem j0d{off px py w h:Int}{P:List Int}{y x:Int}(h1:0≤y)(h2:y<8)(h3:0≤x)(h4:x<8):
    (Mw off px py w h P)[(8*y+x).toNat]? =some (Bg P (off+(min (py+y) (h-1)/2*((w+1)/2)+min (px+x) (w-1)/2))):=by
  unfold Mw
  rw[List.getElem?_map,List.getElem?_range (by omega)]
  have e1:(((8*y+x).toNat/8:Nat):Int)=y:=by omega
  have e2:(((8*y+x).toNat % 8:Nat):Int)=x:=by omega
  simp only[Option.map_some,e1,e2]
theorem j50{X Y w h:Int}(h1:0≤X)(h2:X<w)(h3:0≤Y)(h4:Y<h):0≤Y/2*((w+1)/2)+X/2∧Y/2*((w+1)/2)+X/2<(w+1)/2*((h+1)/2):=
  (Sp (X:=X/2) (Y:=Y/2) (w:=(w+1)/2) (h:=(h+1)/2) (by omega) (by omega) (by omega) (by omega)).2
theorem jbe{f:Nat→Int}{n:Nat}{lo hi:Int}(h: ∀i,i<n→lo≤f i∧f i≤hi):Bn lo hi ((List.range n).map f)=true:=by
  unfold Bn
  rw[List.all_eq_true]
  intro x hx
  obtain ⟨i,hi,rfl⟩:=List.mem_map.1 hx
  simp only[Bool.and_eq_true,decide_eq_true_eq]
  exact h i (List.mem_range.1 hi)
theorem jdr{off px py w h:Int}{P:List Int}(h1:0≤px)(h2:0≤py)(hw:1≤w)(hh:1≤h)(ho:0≤off)(hl:off+(w+1)/2*((h+1)/2)≤P.length)(ha:Bn 0 255 P=true):Bn 0 255 (Mw off px py w h P)=true:=by
  refine jbe fun i hi=> ?_
  have hb:=j50 (X:=min (px+((i % 8:Nat):Int)) (w-1)) (Y:=min (py+((i/8:Nat):Int)) (h-1)) (w:=w) (h:=h) (by omega) (by omega) (by omega) (by omega)
  exact Ct ha (by omega) (by omega)
theorem jom{px py w h:Int}{P:List Int}(h1:0≤px)(h2:0≤py)(hw:1≤w)(hh:1≤h)(hl:w*h≤P.length)(ha:Bn 0 255 P=true):Bn 0 255 (Fy px py w h P)=true:=by
  refine jbe fun i hi=> ?_
  have hb:=Sp (X:=min (px+((i % 8:Nat):Int)) (w-1)) (Y:=min (py+((i/8:Nat):Int)) (h-1)) (w:=w) (h:=h) (by omega) (by omega) (by omega) (by omega)
  exact Ct ha hb.2.1 (by omega)
theorem Lx{lo hi:Int}{a b:List Int}(h1:Bn lo hi a=true)(h2:Bn lo hi b=true):Bn lo hi (a++b)=true:=by
  unfold Bn at*
  rw[List.all_append,h1,h2];rfl
theorem jdc{off px py w h:Int}{P:List Int}(h1:0≤px)(h2:0≤py)(hw:1≤w)(hh:1≤h)(ho:0≤off)(hl:off+(w+1)/2*((h+1)/2)≤P.length)(ha:Bn 0 255 P=true):Bn 0 255 (Nw off px py w h P)=true:=
  Lx (jdr h1 h2 hw hh ho hl ha) (Lx (jdr (by omega) h2 hw hh ho hl ha) (Lx (jdr h1 (by omega) hw hh ho hl ha) (jdr (by omega) (by omega) hw hh ho hl ha)))
theorem Zk{s:List Int}:(Nx s).length=64:=by simp[Nx]
theorem jag{s:List Int}(hs:Bn 0 255 s=true)(i:Int):0≤Bg s i∧Bg s i≤255:=Dy (De hs) (by decide) (by decide) i
theorem j9e{s:List Int}(hs:Bn 0 255 s=true)(p:Nat):0≤scV s p∧scV s p≤255:=by
  unfold scV
  have:=jag hs
  generalize ((64*(2*(p/32)+p % 8/4)+16*(p/8 % 4)+2*(p % 4):Nat):Int)=j
  have a:=this j
  have b:=this (j+1)
  have c:=this (j+8)
  have d:=this (j+9)
  dsimp only
  omega
theorem jdz{s:List Int}(hs:Bn 0 255 s=true):Bn 0 255 (Nx s)=true:=jbe fun i _=>j9e hs i
theorem jmg{s old:List Int}(n:Nat):(jgt s old n).length=old.length:=by
  induction n with
  | zero=>rfl
  | succ n ih=>rw[jgt,List.length_set,ih]
def scI(p:Nat):Nat:=32*(p/32)+16*(p % 8/4)+4*(p/8 % 4)+p % 4
theorem jsk{p:Nat}(h:p<64):scI p<64∧scO (scI p)=p:=by
  have: ∀p:Fin 64,scI p.val<64∧scO (scI p.val)=p.val:=by decide
  exact this ⟨p,h⟩
theorem j6a{n:Nat}(h:n<64):scO n<64∧scI (scO n)=n:=by
  have: ∀p:Fin 64,scO p.val<64∧scI (scO p.val)=p.val:=by decide
  exact this ⟨n,h⟩
theorem jxj{s old:List Int}(ho:old.length=64)(n:Nat)(hn:n≤64){p:Nat}(hp:p<64):(jgt s old n)[p]? =if scI p<n then some (scV s p) else old[p]? :=by
  induction n with
  | zero=>rfl
  | succ n ih=>
    obtain ⟨a,b⟩:=j6a (n:=n) (by omega)
    rw[jgt,List.getElem?_set,ih (by omega),jmg]
    by_cases e:scO n=p
    · rw[if_pos e,if_pos (by omega),←e,b,if_pos (by omega)]
    · have:scI p≠n:=fun g=>e (by rw[←g];exact (jsk hp).2)
      rw[if_neg e]
      by_cases g:scI p<n
      · rw[if_pos g,if_pos (by omega)]
      · rw[if_neg g,if_neg (by omega)]
theorem jz8{s old:List Int}(ho:old.length=64):jgt s old 64=Nx s:=by
  apply List.ext_getElem?
  intro p
  by_cases hp:p<64
  · rw[jxj ho 64 (Nat.le_refl _) hp,if_pos (jsk hp).1,Nx,List.getElem?_map,List.getElem?_range hp];rfl
  · rw[List.getElem?_eq_none (by rw[jmg];omega),List.getElem?_eq_none (by rw[Zk];omega)]
theorem Ui{l X:List Int}{s n:Nat}{x:Int}(hx:X[n]? =some x)(hl:s+n<l.length):(Cb l s (X.take n)).set (s+n) x=Cb l s (X.take (n+1)):=by
  have hn:n<X.length:=(List.getElem?_eq_some_iff.1 hx).1
  unfold Cb
  have e1:X.take (n+1)=X.take n++ [x]:=by rw[List.take_add_one,hx];rfl
  have e2:l.drop (s+(X.take n).length)=l[s+n]::l.drop (s+(X.take (n+1)).length):=by
    rw[List.length_take,List.length_take,Nat.min_eq_left (by omega),Nat.min_eq_left (by omega),show s+(n+1)=s+n+1 from by omega,←List.drop_eq_getElem_cons hl]
  rw[e2,e1]
  have hs:s≤l.length:=by omega
  have e3:(l.take s).length=s:=by rw[List.length_take,Nat.min_eq_left hs]
  have e4:(X.take n).length=n:=by rw[List.length_take,Nat.min_eq_left (by omega)]
  rw[List.set_append_right _ _ (by omega),e3,List.set_append_right _ _ (by omega),e4,show s+n-s-n=0 from by omega]
  simp
theorem j82(x y z u:Int)(a:List Int):Z.fa 91 x y z u a [] [] []=Mw (Ov z u) x y z u a:=id rfl
theorem j6s(x y z u:Int)(a:List Int):Z.fa 92 x y z u a [] [] []=Mw (Po z u) x y z u a:=id rfl
theorem j8g(a:List Int):Z.fa 93 0 0 0 0 a [] [] []=Nx a:=id rfl
theorem qil(n:Int)(a b:List Int):Z.fa 94 n 0 0 0 a b [] []=jgt a b n.toNat:=id rfl
theorem jxo(l:List Int)(n:Int):l.getD n.toNat 0=Bg l n:=rfl
theorem j8z(a b:Int):cond (ilt a b) a b=min b a:=by
  unfold ilt;by_cases h:a<b
  · simp only[h,decide_true,cond_true];omega
  · simp only[h,decide_false,cond_false];omega
theorem td2{x:Int}(h0:0≤x):x.tdiv 2=x/2:=Int.tdiv_eq_ediv_of_nonneg h0
def jzb(f:Nat):Bool:=f==113||f==114||f==115
def qi3:VC:=
 let t0:T:=.lit (-9223372036854775808)
 let t1:T:=.sub (.iv 21) (.lit 1)
 let t2:T:=.lit 9223372036854775807
 let t3:T:=.sub (.iv 22) (.lit 1)
 let t4:T:=.fa 92 (.iv 5) (.iv 6) (.iv 21) (.iv 22) (.av 5) (.alit []) (.alit []) (.alit [])
 let t5:T:=.lit 0
 let t6:T:=.lit 8
 let t7:T:=.fa 91 (.iv 5) (.iv 6) (.iv 21) (.iv 22) (.av 5) (.alit []) (.alit []) (.alit [])
 let t8:T:=.fa 90 (.iv 5) (.iv 6) (.iv 21) (.iv 22) (.av 5) (.alit []) (.alit []) (.alit [])
 let t9:T:=.add (.iv 6) (.iv 1000)
 let t10:T:=.mul t6 (.iv 1000)
 let t11:T:=.add t10 t5
 let t12:T:=.splice (.av 11) (.iv 8) (.cut t4 t5 t10)
 let t13:T:=.splice (.av 10) (.iv 7) (.cut t7 t5 t10)
 let t14:T:=.splice (.av 4) t5 (.cut t8 t5 t10)
 let t15:T:=.add (.iv 5) (.iv 1400)
 let t16:T:=.ite (.lt t3 t9) t3 t9
 let t17:T:=.mul t16 (.iv 21)
 let t18:T:=.ite (.lt t1 t15) t1 t15
 let t19:T:=.add t17 t18
 let t20:T:=.tdiv t16 (.lit 2)
 let t21:T:=.mul t20 (.iv 25)
 let t22:T:=.tdiv t18 (.lit 2)
 let t23:T:=.add t21 t22
 let t24:T:=.add t10 (.iv 1400)
 let t25:T:=.add (.iv 20) t23
 let t26:T:=.add (.iv 7) t24
 let t27:T:=.add (.add (.iv 20) (.iv 24)) t23
 let t28:T:=.add (.iv 8) t24
 let t29:T:=.add (.iv 1400) (.lit 1)
 let t30:T:=.add t10 t29
 let t31:T:=.splice (.av 11) (.iv 8) (.cut t4 t5 t24)
 let t32:T:=.splice (.av 10) (.iv 7) (.cut t7 t5 t24)
 let t33:T:=.splice (.av 4) t5 (.cut t8 t5 t24)
 let t34:T:=.add (.iv 1000) (.lit 1)
 let t35:T:=.mul t6 t34
 (.need [(.le t0 t1),(.le t1 t2)] (.need [(.le t0 t3),(.le t3 t2)] (.need [(.aeq (.splice (.av 11) (.iv 8) (.cut t4 t5 (.mul t6 t5))) (.av 11)),(.aeq (.splice (.av 10) (.iv 7) (.cut t7 t5 (.mul t6 t5))) (.av 10)),(.aeq (.splice (.av 4) t5 (.cut t8 t5 (.mul t6 t5))) (.av 4)),(.le t5 t5),(.le t5 t6)] (.any 1000 1000000003 [(.le t5 (.iv 1000)),(.le (.iv 1000) t6)] (.cond (.lt (.iv 1000) t6) (.need [(.le t0 t9),(.le t9 t2)] (.need [(.aeq (.splice (.av 11) (.iv 8) (.cut t4 t5 t11)) t12),(.aeq (.splice (.av 10) (.iv 7) (.cut t7 t5 t11)) t13),(.aeq (.splice (.av 4) t5 (.cut t8 t5 t11)) t14)] (.any 1400 1000000003 [(.le t5 (.iv 1400)),(.le (.iv 1400) t6)] (.cond (.lt (.iv 1400) t6) (.need [(.le t0 t15),(.le t15 t2)] (.need [(.le t0 t16),(.le t16 t2)] (.need [(.le t0 t17),(.le t17 t2)] (.need [(.le t0 t18),(.le t18 t2)] (.need [(.le t0 t19),(.le t19 t2)] (.need [(.le t0 t20),(.le t20 t2)] (.need [(.le t0 t21),(.le t21 t2)] (.need [(.le t0 t22),(.le t22 t2)] (.need [(.le t0 t23),(.le t23 t2)] (.need [(.le t0 t10),(.le t10 t2)] (.need [(.le t0 t24),(.le t24 t2)] (.need [(.le t5 t19),(.lt t19 (.iv 20))] (.need [(.lt t19 (.len (.av 5)))] (.need [(.le t5 t24),(.lt t24 (.lit 64))] (.need [(.le t5 t23),(.lt t23 (.iv 24)),(.le t5 (.iv 20))] (.need [(.le t5 t25),(.lt t25 (.len (.av 5)))] (.need [(.le t5 t26),(.lt t26 (.lit 256))] (.need [(.le t5 (.add (.iv 20) (.iv 24)))] (.need [(.le t5 t27),(.lt t27 (.len (.av 5)))] (.need [(.le t5 t28),(.lt t28 (.lit 256))] (.need [(.le t0 t29),(.le t29 t2)] (.need [(.aeq (.splice (.av 11) (.iv 8) (.cut t4 t5 t30)) (.set t31 t28 (.wrap .i32 (.get (.av 5) t27)))),(.aeq (.splice (.av 10) (.iv 7) (.cut t7 t5 t30)) (.set t32 t26 (.wrap .i32 (.get (.av 5) t25)))),(.aeq (.splice (.av 4) t5 (.cut t8 t5 t30)) (.set t33 t24 (.wrap .i32 (.get (.av 5) t19)))),(.le t5 t29),(.le t29 t6),(.lt t5 (.sub t6 (.iv 1400))),(.lt (.sub t6 t29) (.sub t6 (.iv 1400)))] .done)))))))))))))))))))))) (.need [(.le t0 t34),(.le t34 t2)] (.need [(.aeq (.splice (.av 11) (.iv 8) (.cut t4 t5 t35)) t31),(.aeq (.splice (.av 10) (.iv 7) (.cut t7 t5 t35)) t32),(.aeq (.splice (.av 4) t5 (.cut t8 t5 t35)) t33),(.le t5 t34),(.le t34 t6),(.lt t5 (.sub t6 (.iv 1000))),(.lt (.sub t6 t34) (.sub t6 (.iv 1000)))] .done)))))) (.need [(.aeq (.splice (.av 11) (.iv 8) t4) t12),(.aeq (.splice (.av 10) (.iv 7) t7) t13),(.aeq t8 t14)] .done))))))
theorem w91:Dd (Db Tryz.prog Jt Jq ⟨j73,jzb⟩ 100000 91 c91) qi3=true:=by kernel_rfl
set_option maxHeartbeats 2000000 in
theorem qbd:Cf Tryz.prog Z 91 c91:=by
  refine Bf Cq Cn w91 fun ρ h=> ?_
  simp only[c91,jkc,bB,bB4,ja7,pxy,hf,Du,z0,Bi,Di,List.flatMap_cons,List.flatMap_nil,List.append_nil,List.append_assoc,List.cons_append,List.nil_append,and_true,↓qA,qB,and_true,implies_true,T.I,T.A,T.B,VC.sem] at h
  obtain ⟨h1,h2,h3,h4,h5,h6,h7,h8,h9,h10,h11,h12,h13,h14,h15,h16,h17,h18,h19,h20,h21,h22⟩:=h
  have ha:Bn 0 255 (ρ.a 5)=true:= ‹_›
  rw[td2 (x:=ρ.i 21+1) (by omega)] at*
  rw[td2 (x:=ρ.i 22+1) (by omega)] at*
  have hm:ρ.i 21*ρ.i 22≤65535*65535:=Int.mul_le_mul (by omega) (by omega) (by omega) (by omega)
  have hp:0≤ρ.i 21*ρ.i 22:=Int.mul_nonneg (by omega) (by omega)
  have hc:(ρ.i 21+1)/2*((ρ.i 22+1)/2)≤32768*32768:=Int.mul_le_mul (by omega) (by omega) (by omega) (by omega)
  have hc0:0≤(ρ.i 21+1)/2*((ρ.i 22+1)/2):=Int.mul_nonneg (by omega) (by omega)
  have e25:ρ.i 25=(ρ.i 21+1)/2:= ‹_›
  have e24:ρ.i 24=(ρ.i 21+1)/2*((ρ.i 22+1)/2):=by rw[←e25];assumption
  have eB:Ov (ρ.i 21) (ρ.i 22)=ρ.i 20:=by unfold Ov;omega
  have eR:Po (ρ.i 21) (ρ.i 22)=ρ.i 20+ρ.i 24:=by unfold Po;omega
  have F: ∀x y:Int,0≤x→0≤y→(min (ρ.i 6+y) (ρ.i 22-1)).tdiv 2=min (ρ.i 6+y) (ρ.i 22-1)/2∧(min (ρ.i 5+x) (ρ.i 21-1)).tdiv 2=min (ρ.i 5+x) (ρ.i 21-1)/2∧0≤min (ρ.i 6+y) (ρ.i 22-1)*ρ.i 21∧0≤min (ρ.i 6+y) (ρ.i 22-1)*ρ.i 21+min (ρ.i 5+x) (ρ.i 21-1)∧min (ρ.i 6+y) (ρ.i 22-1)*ρ.i 21+min (ρ.i 5+x) (ρ.i 21-1)<ρ.i 20∧0≤(min (ρ.i 6+y) (ρ.i 22-1)).tdiv 2*ρ.i 25∧0≤(min (ρ.i 6+y) (ρ.i 22-1)).tdiv 2*ρ.i 25+(min (ρ.i 5+x) (ρ.i 21-1)).tdiv 2∧(min (ρ.i 6+y) (ρ.i 22-1)).tdiv 2*ρ.i 25+(min (ρ.i 5+x) (ρ.i 21-1)).tdiv 2<ρ.i 24:=by
    intro x y hx hy
    have a:=Sp (X:=min (ρ.i 5+x) (ρ.i 21-1)) (Y:=min (ρ.i 6+y) (ρ.i 22-1)) (w:=ρ.i 21) (h:=ρ.i 22) (by omega) (by omega) (by omega) (by omega)
    have b:=Sp (X:=min (ρ.i 5+x) (ρ.i 21-1)/2) (Y:=min (ρ.i 6+y) (ρ.i 22-1)/2) (w:=(ρ.i 21+1)/2) (h:=(ρ.i 22+1)/2) (by omega) (by omega) (by omega) (by omega)
    rw[td2 (x:=min (ρ.i 6+y) (ρ.i 22-1)) (by omega),td2 (x:=min (ρ.i 5+x) (ρ.i 21-1)) (by omega),e25]
    omega
  have V: ∀x y n:Int,0≤n→n<(ρ.a 5).length→IntKind.i32.wrap (Bg (ρ.a 5) n)=Bg (ρ.a 5) n:=by
    intro x y n h0 h1
    have:=Ct ha h0 h1
    rw[IntKind.wrap_i32]
    omega
  have C: ∀(off y x:Int),0≤y→y<8→0≤x→x<8→(Mw off (ρ.i 5) (ρ.i 6) (ρ.i 21) (ρ.i 22) (ρ.a 5))[(8*y+x).toNat]? =some (Bg (ρ.a 5) (off+((min (ρ.i 6+y) (ρ.i 22-1)).tdiv 2*ρ.i 25+(min (ρ.i 5+x) (ρ.i 21-1)).tdiv 2))):=by
    intro off y x a b c d
    have f:=F x y c a
    rw[j0d a b c d,f.1,f.2.1,e25]
  simp only[qi3,chT,jkx,↓qA,qB,and_true,implies_true,T.I,T.A,T.B,VC.sem,Ou,j82,j6s,jxo,j8z,eB,eR]
  (repeat' (first|with_reducible exact True.intro|with_reducible refine And.intro ?_ ?_|intro _))<;>(try omega)
  all_goals (try (have:=F (ρ.i 1400) (ρ.i 1000) (by omega) (by omega);omega))
  · rw[show (8*0:Int).toNat=0 from rfl,List.take_zero,Pl]
  · rw[show (8*0:Int).toNat=0 from rfl,List.take_zero,Pl]
  · rw[show (8*0:Int).toNat=0 from rfl,List.take_zero,Pl]
  · rw[Int.add_zero]
  · rw[Int.add_zero]
  · rw[Int.add_zero]
  · have f:=F (ρ.i 1400) (ρ.i 1000) (by omega) (by omega)
    rw[V 0 0 _ (by omega) (by omega),show (ρ.i 8+(8*ρ.i 1000+ρ.i 1400)).toNat=(ρ.i 8).toNat+(8*ρ.i 1000+ρ.i 1400).toNat from by omega,show (8*ρ.i 1000+(ρ.i 1400+1)).toNat=(8*ρ.i 1000+ρ.i 1400).toNat+1 from by omega]
    exact (Ui (C (ρ.i 20+ρ.i 24) (ρ.i 1000) (ρ.i 1400) (by omega) (by omega) (by omega) (by omega)) (by omega)).symm
  · have f:=F (ρ.i 1400) (ρ.i 1000) (by omega) (by omega)
    rw[V 0 0 _ (by omega) (by omega),show (ρ.i 7+(8*ρ.i 1000+ρ.i 1400)).toNat=(ρ.i 7).toNat+(8*ρ.i 1000+ρ.i 1400).toNat from by omega,show (8*ρ.i 1000+(ρ.i 1400+1)).toNat=(8*ρ.i 1000+ρ.i 1400).toNat+1 from by omega]
    exact (Ui (C (ρ.i 20) (ρ.i 1000) (ρ.i 1400) (by omega) (by omega) (by omega) (by omega)) (by omega)).symm
  · have f:=F (ρ.i 1400) (ρ.i 1000) (by omega) (by omega)
    rw[V 0 0 _ (by omega) (by omega),show (8*ρ.i 1000+(ρ.i 1400+1)).toNat=(8*ρ.i 1000+ρ.i 1400).toNat+1 from by omega]
    have g:=Ui (s:=0) (l:=ρ.a 4) (jel (px:=ρ.i 5) (py:=ρ.i 6) (wide:=ρ.i 21) (high:=ρ.i 22) (pix:=ρ.a 5) (y:=ρ.i 1000) (x:=ρ.i 1400) (by omega) (by omega) (by omega) (by omega)) (by omega)
    rw[Nat.zero_add] at g
    exact g.symm
  · rw[show 8*(ρ.i 1000+1)=8*ρ.i 1000+ρ.i 1400 from by omega]
  · rw[show 8*(ρ.i 1000+1)=8*ρ.i 1000+ρ.i 1400 from by omega]
  · rw[show 8*(ρ.i 1000+1)=8*ρ.i 1000+ρ.i 1400 from by omega]
  · rw[List.take_of_length_le (by rw[Dz];omega)]
  · rw[List.take_of_length_le (by rw[Dz];omega)]
  · rw[List.take_of_length_le (by rw[Fw];omega)]
    unfold Cb
    rw[List.drop_eq_nil_of_le (by rw[Fw];omega),List.append_nil];rfl
theorem jdf{s old:List Int}(hs:Bn 0 255 s=true){i n m p y x j0 j1 j2 j3:Int}(hi:0≤i)(hi4:i<4)(hy:0≤y)(hy4:y<4)(hx:0≤x)(hx4:x<4)(hn:n=16*i+4*y+x)(hm:m=n+1)(hp:p=8*y+x+32*(i/2)+4*(i % 2))(e0:j0=64*i+16*y+2*x)(e1:j1=j0+1)(e2:j2=j0+8)(e3:j3=j0+9):
    jgt s old m.toNat=(jgt s old n.toNat).set p.toNat (IntKind.i32.wrap (IntKind.i32.wrap (IntKind.i32.wrap (IntKind.i32.wrap (Bg s j0+Bg s j1)+Bg s j2)+Bg s j3)+2)/4):=by
  have em:m.toNat=n.toNat+1:=by omega
  have eo:scO n.toNat=p.toNat:=by unfold scO;omega
  have ej:((64*(2*(p.toNat/32)+p.toNat % 8/4)+16*(p.toNat/8 % 4)+2*(p.toNat % 4):Nat):Int)=j0:=by omega
  have a:=jag hs j0
  have b:=jag hs j1
  have c:=jag hs j2
  have d:=jag hs j3
  rw[em,jgt,eo]
  congr 1
  simp only[scV,ej,←e1,←e2,←e3,IntKind.wrap_i32]
  omega
def qgr:VC:=
 let t0:T:=.lit 0
 let t1:T:=.lit 4
 let t2:T:=.mul t1 t0
 let t3:T:=.av 10
 let t4:T:=.alit []
 let t5:T:=.add t0 (.mul t1 (.iv 1000))
 let t6:T:=.fa 94 t5 t0 t0 t0 t3 (.av 4) t4 t4
 let t7:T:=.lit (-9223372036854775808)
 let t8:T:=.lit 9223372036854775807
 let t9:T:=.add (.mul (.lit 16) (.iv 1000)) (.mul (.lit 2) (.iv 1400))
 let t10:T:=.lit 64
 let t11:T:=.lit 256
 let t12:T:=.add t9 (.lit 1)
 let t13:T:=.add t9 (.lit 8)
 let t14:T:=.add t9 (.lit 9)
 let t15:T:=.add (.mul (.lit 8) (.iv 1000)) (.iv 1400)
 let t16:T:=.add (.iv 1400) (.lit 1)
 let t18:T:=.fa 94 (.add t5 (.iv 1400)) t0 t0 t0 t3 (.av 4) t4 t4
 let t19:T:=.lt (.sub t1 t16) (.sub t1 (.iv 1400))
 let t20:T:=.add (.iv 1000) (.lit 1)
 let t21:T:=.add (.lit 16) (.mul t1 (.iv 1400))
 let t22:T:=.fa 94 t21 t0 t0 t0 t3 (.av 4) t4 t4
 let t23:T:=.add (.mul (.lit 16) (.iv 1400)) (.mul (.lit 2) (.iv 1800))
 let t25:T:=.add t23 (.lit 1)
 let t27:T:=.add t23 (.lit 8)
 let t29:T:=.add t23 (.lit 9)
 let t31:T:=.add (.mul (.lit 8) (.iv 1400)) (.iv 1800)
 let t32:T:=.add t31 t1
 let t33:T:=.add (.iv 1800) (.lit 1)
 let t35:T:=.fa 94 (.add t21 (.iv 1800)) t0 t0 t0 t3 (.av 4) t4 t4
 let t36:T:=.lt (.sub t1 t33) (.sub t1 (.iv 1800))
 let t37:T:=.add (.lit 32) (.mul t1 (.iv 1800))
 let t38:T:=.fa 94 t37 t0 t0 t0 t3 (.av 4) t4 t4
 let t39:T:=.add (.mul (.lit 16) (.iv 1800)) (.mul (.lit 2) (.iv 2200))
 let t40:T:=.add (.lit 128) t39
 let t41:T:=.add t39 (.lit 1)
 let t42:T:=.add (.lit 128) t41
 let t43:T:=.add t39 (.lit 8)
 let t44:T:=.add (.lit 128) t43
 let t45:T:=.add t39 (.lit 9)
 let t46:T:=.add (.lit 128) t45
 let t47:T:=.add (.mul (.lit 8) (.iv 1800)) (.iv 2200)
 let t48:T:=.add t47 (.lit 32)
 let t49:T:=.add (.iv 2200) (.lit 1)
 let t51:T:=.fa 94 (.add t37 (.iv 2200)) t0 t0 t0 t3 (.av 4) t4 t4
 let t52:T:=.lt (.sub t1 t49) (.sub t1 (.iv 2200))
 let t53:T:=.add (.lit 48) (.mul t1 (.iv 2200))
 let t54:T:=.fa 94 t53 t0 t0 t0 t3 (.av 4) t4 t4
 let t55:T:=.add (.mul (.lit 16) (.iv 2200)) (.mul (.lit 2) (.iv 2600))
 let t56:T:=.add (.lit 192) t55
 let t57:T:=.add t55 (.lit 1)
 let t58:T:=.add (.lit 192) t57
 let t59:T:=.add t55 (.lit 8)
 let t60:T:=.add (.lit 192) t59
 let t61:T:=.add t55 (.lit 9)
 let t62:T:=.add (.lit 192) t61
 let t63:T:=.add (.mul (.lit 8) (.iv 2200)) (.iv 2600)
 let t64:T:=.add t63 (.lit 36)
 let t65:T:=.add (.iv 2600) (.lit 1)
 let t66:T:=.fa 94 (.add t53 (.iv 2600)) t0 t0 t0 t3 (.av 4) t4 t4
 (.need [(.aeq (.fa 94 (.add t0 t2) t0 t0 t0 t3 (.av 4) t4 t4) (.av 4)),(.le t0 t0),(.le t0 t1)] (.any 1000 1000000000 [(.le t0 (.iv 1000)),(.le (.iv 1000) t1)] (.cond (.lt (.iv 1000) t1) (.need [(.aeq (.fa 94 (.add t5 t0) t0 t0 t0 t3 (.av 4) t4 t4) t6)] (.any 1400 1000000000 [(.le t0 (.iv 1400)),(.le (.iv 1400) t1)] (.cond (.lt (.iv 1400) t1) (.need [(.le t7 (.mul (.lit 16) (.iv 1000))),(.le (.mul (.lit 16) (.iv 1000)) t8)] (.need [(.le t7 (.mul (.lit 2) (.iv 1400))),(.le (.mul (.lit 2) (.iv 1400)) t8)] (.need [(.le t7 t9),(.le t9 t8)] (.need [(.le t0 t9),(.lt t9 t10)] (.need [(.lt t9 t11)] (.need [(.le t7 t12),(.le t12 t8)] (.need [(.le t0 t12),(.lt t12 t10)] (.need [(.lt t12 t11)] (.need [(.le t7 t13),(.le t13 t8)] (.need [(.le t0 t13),(.lt t13 t10)] (.need [(.lt t13 t11)] (.need [(.le t7 t14),(.le t14 t8)] (.need [(.le t0 t14),(.lt t14 t10)] (.need [(.lt t14 t11)] (.need [(.le t7 (.mul (.lit 8) (.iv 1000))),(.le (.mul (.lit 8) (.iv 1000)) t8)] (.need [(.le t7 t15),(.le t15 t8)] (.need [(.le t0 t15),(.lt t15 t10)] (.need [(.le t7 t16),(.le t16 t8)] (.need [(.aeq (.fa 94 (.add t5 t16) t0 t0 t0 t3 (.av 4) t4 t4) (.set t18 t15 (.shr .i32 (.wrap .i32 (.add (.wrap .i32 (.add (.wrap .i32 (.add (.wrap .i32 (.add (.get t3 t9) (.get t3 t12))) (.get t3 t13))) (.get t3 t14))) (.lit 2))) (.lit 2)))),(.le t0 t16),(.le t16 t1),(.lt t0 (.sub t1 (.iv 1400))),t19] .done))))))))))))))))))) (.need [(.le t7 t20),(.le t20 t8)] (.need [(.aeq (.fa 94 (.add t0 (.mul t1 t20)) t0 t0 t0 t3 (.av 4) t4 t4) t18),(.le t0 t20),(.le t20 t1),(.lt t0 (.sub t1 (.iv 1000))),(.lt (.sub t1 t20) (.sub t1 (.iv 1000)))] .done))))) (.need [(.aeq (.fa 94 (.add (.lit 16) t2) t0 t0 t0 t3 (.av 4) t4 t4) t6)] (.any 1400 1000000000 [(.le t0 (.iv 1400)),(.le (.iv 1400) t1)] (.cond (.lt (.iv 1400) t1) (.need [(.aeq (.fa 94 (.add t21 t0) t0 t0 t0 t3 (.av 4) t4 t4) t22)] (.any 1800 1000000000 [(.le t0 (.iv 1800)),(.le (.iv 1800) t1)] (.cond (.lt (.iv 1800) t1) (.need [(.le t7 (.mul (.lit 16) (.iv 1400))),(.le (.mul (.lit 16) (.iv 1400)) t8)] (.need [(.le t7 (.mul (.lit 2) (.iv 1800))),(.le (.mul (.lit 2) (.iv 1800)) t8)] (.need [(.le t7 t23),(.le t23 t8)] (.need [(.le t0 t23),(.lt t23 t10)] (.need [(.lt (.add t10 t23) t11)] (.need [(.le t7 t25),(.le t25 t8)] (.need [(.le t0 t25),(.lt t25 t10)] (.need [(.lt (.add t10 t25) t11)] (.need [(.le t7 t27),(.le t27 t8)] (.need [(.le t0 t27),(.lt t27 t10)] (.need [(.lt (.add t10 t27) t11)] (.need [(.le t7 t29),(.le t29 t8)] (.need [(.le t0 t29),(.lt t29 t10)] (.need [(.lt (.add t10 t29) t11)] (.need [(.le t7 (.mul (.lit 8) (.iv 1400))),(.le (.mul (.lit 8) (.iv 1400)) t8)] (.need [(.le t7 t31),(.le t31 t8)] (.need [(.le t7 t32),(.le t32 t8)] (.need [(.le t0 t32),(.lt t32 t10)] (.need [(.le t7 t33),(.le t33 t8)] (.need [(.aeq (.fa 94 (.add t21 t33) t0 t0 t0 t3 (.av 4) t4 t4) (.set t35 t32 (.shr .i32 (.wrap .i32 (.add (.wrap .i32 (.add (.wrap .i32 (.add (.wrap .i32 (.add (.get t3 (.add t10 t23)) (.get t3 (.add t10 t25)))) (.get t3 (.add t10 t27)))) (.get t3 (.add t10 t29)))) (.lit 2))) (.lit 2)))),(.le t0 t33),(.le t33 t1),(.lt t0 (.sub t1 (.iv 1800))),t36] .done)))))))))))))))))))) (.need [(.le t7 t16),(.le t16 t8)] (.need [(.aeq (.fa 94 (.add (.lit 16) (.mul t1 t16)) t0 t0 t0 t3 (.av 4) t4 t4) t35),(.le t0 t16),(.le t16 t1),(.lt t0 (.sub t1 (.iv 1400))),t19] .done))))) (.need [(.aeq (.fa 94 (.add (.lit 32) t2) t0 t0 t0 t3 (.av 4) t4 t4) t22)] (.any 1800 1000000000 [(.le t0 (.iv 1800)),(.le (.iv 1800) t1)] (.cond (.lt (.iv 1800) t1) (.need [(.aeq (.fa 94 (.add t37 t0) t0 t0 t0 t3 (.av 4) t4 t4) t38)] (.any 2200 1000000000 [(.le t0 (.iv 2200)),(.le (.iv 2200) t1)] (.cond (.lt (.iv 2200) t1) (.need [(.le t7 (.mul (.lit 16) (.iv 1800))),(.le (.mul (.lit 16) (.iv 1800)) t8)] (.need [(.le t7 (.mul (.lit 2) (.iv 2200))),(.le (.mul (.lit 2) (.iv 2200)) t8)] (.need [(.le t7 t39),(.le t39 t8)] (.need [(.le t0 t39),(.lt t39 t10)] (.need [(.lt t40 t11)] (.need [(.le t7 t41),(.le t41 t8)] (.need [(.le t0 t41),(.lt t41 t10)] (.need [(.lt t42 t11)] (.need [(.le t7 t43),(.le t43 t8)] (.need [(.le t0 t43),(.lt t43 t10)] (.need [(.lt t44 t11)] (.need [(.le t7 t45),(.le t45 t8)] (.need [(.le t0 t45),(.lt t45 t10)] (.need [(.lt t46 t11)] (.need [(.le t7 (.mul (.lit 8) (.iv 1800))),(.le (.mul (.lit 8) (.iv 1800)) t8)] (.need [(.le t7 t47),(.le t47 t8)] (.need [(.le t7 t48),(.le t48 t8)] (.need [(.le t0 t48),(.lt t48 t10)] (.need [(.le t7 t49),(.le t49 t8)] (.need [(.aeq (.fa 94 (.add t37 t49) t0 t0 t0 t3 (.av 4) t4 t4) (.set t51 t48 (.shr .i32 (.wrap .i32 (.add (.wrap .i32 (.add (.wrap .i32 (.add (.wrap .i32 (.add (.get t3 t40) (.get t3 t42))) (.get t3 t44))) (.get t3 t46))) (.lit 2))) (.lit 2)))),(.le t0 t49),(.le t49 t1),(.lt t0 (.sub t1 (.iv 2200))),t52] .done)))))))))))))))))))) (.need [(.le t7 t33),(.le t33 t8)] (.need [(.aeq (.fa 94 (.add (.lit 32) (.mul t1 t33)) t0 t0 t0 t3 (.av 4) t4 t4) t51),(.le t0 t33),(.le t33 t1),(.lt t0 (.sub t1 (.iv 1800))),t36] .done))))) (.need [(.aeq (.fa 94 (.add (.lit 48) t2) t0 t0 t0 t3 (.av 4) t4 t4) t38)] (.any 2200 1000000000 [(.le t0 (.iv 2200)),(.le (.iv 2200) t1)] (.cond (.lt (.iv 2200) t1) (.need [(.aeq (.fa 94 (.add t53 t0) t0 t0 t0 t3 (.av 4) t4 t4) t54)] (.any 2600 1000000000 [(.le t0 (.iv 2600)),(.le (.iv 2600) t1)] (.cond (.lt (.iv 2600) t1) (.need [(.le t7 (.mul (.lit 16) (.iv 2200))),(.le (.mul (.lit 16) (.iv 2200)) t8)] (.need [(.le t7 (.mul (.lit 2) (.iv 2600))),(.le (.mul (.lit 2) (.iv 2600)) t8)] (.need [(.le t7 t55),(.le t55 t8)] (.need [(.le t0 t55),(.lt t55 t10)] (.need [(.lt t56 t11)] (.need [(.le t7 t57),(.le t57 t8)] (.need [(.le t0 t57),(.lt t57 t10)] (.need [(.lt t58 t11)] (.need [(.le t7 t59),(.le t59 t8)] (.need [(.le t0 t59),(.lt t59 t10)] (.need [(.lt t60 t11)] (.need [(.le t7 t61),(.le t61 t8)] (.need [(.le t0 t61),(.lt t61 t10)] (.need [(.lt t62 t11)] (.need [(.le t7 (.mul (.lit 8) (.iv 2200))),(.le (.mul (.lit 8) (.iv 2200)) t8)] (.need [(.le t7 t63),(.le t63 t8)] (.need [(.le t7 t64),(.le t64 t8)] (.need [(.le t0 t64),(.lt t64 t10)] (.need [(.le t7 t65),(.le t65 t8)] (.need [(.aeq (.fa 94 (.add t53 t65) t0 t0 t0 t3 (.av 4) t4 t4) (.set t66 t64 (.shr .i32 (.wrap .i32 (.add (.wrap .i32 (.add (.wrap .i32 (.add (.wrap .i32 (.add (.get t3 t56) (.get t3 t58))) (.get t3 t60))) (.get t3 t62))) (.lit 2))) (.lit 2)))),(.le t0 t65),(.le t65 t1),(.lt t0 (.sub t1 (.iv 2600))),(.lt (.sub t1 t65) (.sub t1 (.iv 2600)))] .done)))))))))))))))))))) (.need [(.le t7 t49),(.le t49 t8)] (.need [(.aeq (.fa 94 (.add (.lit 48) (.mul t1 t49)) t0 t0 t0 t3 (.av 4) t4 t4) t66),(.le t0 t49),(.le t49 t1),(.lt t0 (.sub t1 (.iv 2200))),t52] .done))))) (.need [(.aeq (.fa 93 t0 t0 t0 t0 t3 t4 t4 t4) t54)] .done)))))))))))))
theorem w93:Dd (Db Tryz.prog Jt Jq ⟨j73,jzb⟩ 100000 93 c93) qgr=true:=by kernel_rfl
set_option maxHeartbeats 2000000 in
theorem qa3:Cf Tryz.prog Z 93 c93:=by
  refine Bf Cq Cn w93 fun ρ h=> ?_
  simp only[c93,bB,bB4,Du,z0,Bi,Di,List.flatMap_cons,List.flatMap_nil,List.append_nil,List.append_assoc,List.cons_append,List.nil_append,and_true,↓qA,qB,and_true,implies_true,T.I,T.A,T.B,VC.sem] at h
  obtain ⟨h1,h2,h3,h4⟩:=h
  have ha:Bn 0 255 (ρ.a 10)=true:= ‹_›
  simp only[qgr,scT,fA,↓qA,qB,and_true,implies_true,T.I,T.A,T.B,VC.sem,j8g,qil,jxo]
  (repeat' (first|with_reducible exact True.intro|with_reducible refine And.intro ?_ ?_|intro _))<;>(try omega)
  · rfl
  · rw[Int.add_zero]
  · exact jdf (i:=0) (y:=ρ.i 1000) (x:=ρ.i 1400) ha (by omega) (by omega) (by omega) (by omega) (by omega) (by omega) (by omega) (by omega) (by omega) (by omega) (by omega) (by omega) (by omega)
  · rw[show 4*(ρ.i 1000+1)=4*ρ.i 1000+ρ.i 1400 from by omega,Int.add_assoc]
  · rw[show 16+4*0=0+4*ρ.i 1000 from by omega]
  · rw[Int.add_zero]
  · exact jdf (i:=1) (y:=ρ.i 1400) (x:=ρ.i 1800) ha (by omega) (by omega) (by omega) (by omega) (by omega) (by omega) (by omega) (by omega) (by omega) (by omega) (by omega) (by omega) (by omega)
  · rw[show 4*(ρ.i 1400+1)=4*ρ.i 1400+ρ.i 1800 from by omega,Int.add_assoc]
  · rw[show 32+4*0=16+4*ρ.i 1400 from by omega]
  · rw[Int.add_zero]
  · exact jdf (i:=2) (y:=ρ.i 1800) (x:=ρ.i 2200) ha (by omega) (by omega) (by omega) (by omega) (by omega) (by omega) (by omega) (by omega) (by omega) (by omega) (by omega) (by omega) (by omega)
  · rw[show 4*(ρ.i 1800+1)=4*ρ.i 1800+ρ.i 2200 from by omega,Int.add_assoc]
  · rw[show 48+4*0=32+4*ρ.i 1800 from by omega]
  · rw[Int.add_zero]
  · exact jdf (i:=3) (y:=ρ.i 2200) (x:=ρ.i 2600) ha (by omega) (by omega) (by omega) (by omega) (by omega) (by omega) (by omega) (by omega) (by omega) (by omega) (by omega) (by omega) (by omega)
  · rw[show 4*(ρ.i 2200+1)=4*ρ.i 2200+ρ.i 2600 from by omega,Int.add_assoc]
  · rw[show 48+4*ρ.i 2200=64 from by omega]
    exact (jz8 (by omega)).symm
theorem j9p(x y w h p q r:Int)(L Q P:List Int):Z.fa 502 x y 0 0 L Q P ([w]++([h]++([p]++([q]++ [r]))))=pk (Tr w h P Q (up L) p q r x y):=id rfl
theorem jwb(w h:Int)(L Q P:List Int):Z.fa 503 0 0 0 0 L Q P ([w]++ [h])=pk (Sf w h P Q (up L)):=id rfl
theorem qfa(q b:List Int):Z.fi 62 0 0 0 0 q b [] []=coef 1 q (Dc b) 0:=id rfl
theorem jql(w h b n:Int)(P q t:List Int):Sf w h P q (up ([b]++([n]++t)))=Tr w h P q (up ([b]++([n]++(t++ [255,218,0,12,3,1,0,2,17,3,17,0,63,0])))) 0 0 0 0 0:=by unfold Sf;rfl
theorem qlt{l a b c d:List Int}(h:l.length=256)(ha:a.length=64)(hb:b.length=64)(hc:c.length=64)(hd:d.length=64):
    Cb (Cb (Cb (Cb l 0 a) (Int.toNat 64) b) (Int.toNat 128) c) (Int.toNat 192) d=a++(b++(c++d)):=by
  show Cb (Cb (Cb (Cb l 0 a) 64 b) 128 c) 192 d=_
  have e1:(Cb l 0 a).take 64=a:=by rw[Hr _ _ _ _ (by omega) (by omega)];rfl
  have l1:(Cb l 0 a).length=256:=by rw[Ev _ _ _ (by omega),h]
  have e2:(Cb (Cb l 0 a) 64 b).take 128=a++b:=by rw[Hr _ _ _ _ (by omega) (by omega),e1]
  have l2:(Cb (Cb l 0 a) 64 b).length=256:=by rw[Ev _ _ _ (by omega),l1]
  have e3:(Cb (Cb (Cb l 0 a) 64 b) 128 c).take 192=a++b++c:=by rw[Hr _ _ _ _ (by omega) (by omega),e2]
  have l3:(Cb (Cb (Cb l 0 a) 64 b) 128 c).length=256:=by rw[Ev _ _ _ (by omega),l2]
  have l4:(Cb (Cb (Cb (Cb l 0 a) 64 b) 128 c) 192 d).length=256:=by rw[Ev _ _ _ (by omega),l3]
  have e4:(Cb (Cb (Cb (Cb l 0 a) 64 b) 128 c) 192 d).take 256=a++b++c++d:=by rw[Hr _ _ _ _ (by omega) (by omega),e3]
  rw[List.take_of_length_le (by omega)] at e4
  rw[e4]
  simp only[List.append_assoc]
theorem jw5{o x y w h:Int}{l P:List Int}(hl:(l.length:Int)=256):
    Cb (Cb (Cb (Cb l 0 (Mw o x y w h P)) (Int.toNat 64) (Mw o (x+8) y w h P)) (Int.toNat 128) (Mw o x (y+8) w h P)) (Int.toNat 192) (Mw o (x+8) (y+8) w h P)=Nw o x y w h P:=
  qlt (by omega) Dz Dz Dz Dz
theorem Rr{l:List Int}(hl:(l.length:Int)=256){a:List Int}{s:Nat}(ha:a.length=64)(hs:s≤192):((Cb l s a).length:Int)=256:=by
  rw[Ev _ _ _ (by omega)];exact hl
theorem jy3: ∀f s,jyr f=some s→Ei Tryz.prog Z f s:=by
  intro f s h
  unfold jyr at h
  split at h
  · cases h;exact Dq qa3
  · cases h
theorem jup: ∀f s,jr7 f=some s→Dw Tryz.prog Z f s:=by
  intro f s h
  unfold jr7 at h
  split at h
  · cases h;exact Ce jdu
  · cases h;exact Ce qbd
  · cases h
    intro ρ w0 w h args r he hn hw hh
    dsimp only at he
    split at he
    · exact Ce jm1 ρ w0 w h args r he hn hw hh
    · exact Ce jxx ρ w0 w h args r he hn hw hh
  · cases h;exact Ce jpo
  · cases h
def j7u:VC:=
 let t0:T:=.add (.len (.av 0)) (.iv 0)
 let t1:T:=.lit 14
 let t2:T:=.lit 1000000000000
 let t3:T:=.lit 0
 let t4:T:=.lit 4096
 let t5:T:=.splice (.av 1100) (.len (.av 1100)) (.cut (.av 1101) t3 (.iv 1100))
 let t6:T:=.splice (.av 0) (.len (.av 0)) (.cut (.av 1) t3 (.iv 0))
 let t7:T:=.lit (-1024)
 let t8:T:=.lit 1023
 let t9:T:=.lit 64
 let t10:T:=.rep t9 t3
 let t11:T:=.len t10
 let t12:T:=.lit 256
 let t13:T:=.eq (.len (.splice t10 t11 (.splice t10 t11 (.splice t10 t11 t10)))) t12
 let t14:T:=.alit [0]
 let t15:T:=.set t14 t3 (.iv 1)
 let t16:T:=.set t14 t3 (.iv 2)
 let t17:T:=.set t14 t3 (.iv 21)
 let t18:T:=.len t17
 let t19:T:=.set t14 t3 (.iv 22)
 let t20:T:=.len t19
 let t21:T:=.set t14 t3 t3
 let t22:T:=.fa 503 t3 t3 t3 t3 (.splice t15 (.len t15) (.splice t16 (.len t16) t6)) (.av 3) (.av 5) (.splice t17 t18 t19)
 let t23:T:=.lit 4294967295
 let t24:T:=.iv 1403
 let t25:T:=.add (.len (.av 1400)) (.iv 1402)
 let t26:T:=.mul (.lit 1769904) t24
 let t27:T:=.splice (.set t14 t3 (.iv 1400)) (.len (.set t14 t3 (.iv 1400))) (.splice (.set t14 t3 (.iv 1401)) (.len (.set t14 t3 (.iv 1401))) (.splice (.av 1400) (.len (.av 1400)) (.cut (.av 1401) t3 (.iv 1402))))
 let t28:T:=.iv 1803
 let t29:T:=.add (.len (.av 1800)) (.iv 1802)
 let t30:T:=.splice (.set t14 t3 (.iv 1800)) (.len (.set t14 t3 (.iv 1800))) (.splice (.set t14 t3 (.iv 1801)) (.len (.set t14 t3 (.iv 1801))) (.splice (.av 1800) (.len (.av 1800)) (.cut (.av 1801) t3 (.iv 1802))))
 let t31:T:=.splice t17 t18 (.splice t19 t20 (.splice (.set t14 t3 (.iv 1804)) (.len (.set t14 t3 (.iv 1804))) (.splice (.set t14 t3 (.iv 1805)) (.len (.set t14 t3 (.iv 1805))) (.set t14 t3 (.iv 1806)))))
 let t32:T:=.lit (-9223372036854775808)
 let t33:T:=.lit 9223372036854775807
 let t34:T:=.alit []
 let t35:T:=.fa 90 t28 t24 (.iv 21) (.iv 22) (.av 5) t34 t34 t34
 let t36:T:=.splice (.set t14 t3 (.iv 2701)) (.len (.set t14 t3 (.iv 2701))) (.splice (.set t14 t3 (.iv 2702)) (.len (.set t14 t3 (.iv 2702))) (.splice (.av 2700) (.len (.av 2700)) (.cut (.av 2701) t3 (.iv 2700))))
 let t37:T:=.fi 61 t3 t3 t3 t3 (.av 3) t35 t34 t34
 let t38:T:=.add t28 (.lit 8)
 let t39:T:=.splice (.av 1804) t3 (.fa 91 t28 t24 (.iv 21) (.iv 22) (.av 5) t34 t34 t34)
 let t40:T:=.splice (.av 1805) t3 (.fa 92 t28 t24 (.iv 21) (.iv 22) (.av 5) t34 t34 t34)
 let t41:T:=.fa 90 t38 t24 (.iv 21) (.iv 22) (.av 5) t34 t34 t34
 let t42:T:=.splice (.set t14 t3 (.iv 3501)) (.len (.set t14 t3 (.iv 3501))) (.splice (.set t14 t3 (.iv 3502)) (.len (.set t14 t3 (.iv 3502))) (.splice (.av 3500) (.len (.av 3500)) (.cut (.av 3501) t3 (.iv 3500))))
 let t43:T:=.fi 61 t3 t3 t3 t3 (.av 3) t41 t34 t34
 let t44:T:=.add t24 (.lit 8)
 let t45:T:=.splice t39 t9 (.fa 91 t38 t24 (.iv 21) (.iv 22) (.av 5) t34 t34 t34)
 let t46:T:=.splice t40 t9 (.fa 92 t38 t24 (.iv 21) (.iv 22) (.av 5) t34 t34 t34)
 let t47:T:=.fa 90 t28 t44 (.iv 21) (.iv 22) (.av 5) t34 t34 t34
 let t48:T:=.splice (.set t14 t3 (.iv 4301)) (.len (.set t14 t3 (.iv 4301))) (.splice (.set t14 t3 (.iv 4302)) (.len (.set t14 t3 (.iv 4302))) (.splice (.av 4300) (.len (.av 4300)) (.cut (.av 4301) t3 (.iv 4300))))
 let t49:T:=.fi 61 t3 t3 t3 t3 (.av 3) t47 t34 t34
 let t50:T:=.splice t45 (.lit 128) (.fa 91 t28 t44 (.iv 21) (.iv 22) (.av 5) t34 t34 t34)
 let t51:T:=.splice t46 (.lit 128) (.fa 92 t28 t44 (.iv 21) (.iv 22) (.av 5) t34 t34 t34)
 let t52:T:=.fa 90 t38 t44 (.iv 21) (.iv 22) (.av 5) t34 t34 t34
 let t53:T:=.splice (.set t14 t3 (.iv 5101)) (.len (.set t14 t3 (.iv 5101))) (.splice (.set t14 t3 (.iv 5102)) (.len (.set t14 t3 (.iv 5102))) (.splice (.av 5100) (.len (.av 5100)) (.cut (.av 5101) t3 (.iv 5100))))
 let t54:T:=.fi 61 t3 t3 t3 t3 (.av 3) t52 t34 t34
 let t55:T:=.splice t50 (.lit 192) (.fa 91 t38 t44 (.iv 21) (.iv 22) (.av 5) t34 t34 t34)
 let t56:T:=.fa 93 t3 t3 t3 t3 t55 t34 t34 t34
 let t57:T:=.splice (.set t14 t3 (.iv 5501)) (.len (.set t14 t3 (.iv 5501))) (.splice (.set t14 t3 (.iv 5502)) (.len (.set t14 t3 (.iv 5502))) (.splice (.av 5500) (.len (.av 5500)) (.cut (.av 5501) t3 (.iv 5500))))
 let t58:T:=.fi 62 t3 t3 t3 t3 (.av 3) t56 t34 t34
 let t59:T:=.splice t51 (.lit 192) (.fa 92 t38 t44 (.iv 21) (.iv 22) (.av 5) t34 t34 t34)
 let t60:T:=.fa 93 t3 t3 t3 t3 t59 t34 t34 t34
 let t61:T:=.splice (.set t14 t3 (.iv 5901)) (.len (.set t14 t3 (.iv 5901))) (.splice (.set t14 t3 (.iv 5902)) (.len (.set t14 t3 (.iv 5902))) (.splice (.av 5900) (.len (.av 5900)) (.cut (.av 5901) t3 (.iv 5900))))
 let t62:T:=.fi 62 t3 t3 t3 t3 (.av 3) t60 t34 t34
 let t63:T:=.add t28 (.lit 16)
 let t66:T:=.add t24 (.lit 16)
 let t67:T:=.splice (.set t14 t3 (.iv 1901)) (.len (.set t14 t3 (.iv 1901))) (.splice (.set t14 t3 (.iv 1902)) (.len (.set t14 t3 (.iv 1902))) (.splice (.av 1900) (.len (.av 1900)) (.cut (.av 1901) t3 (.iv 1900))))
 (.need [(.le (.add t0 t1) t2),(.le t3 t1),(.le t1 t4),(.le t1 t1),(.eq (.len (.alit [255,218,0,12,3,1,0,2,17,3,17,0,63,0])) t1)] (.any 1000 1 [(.eq (.add (.len (.av 1100)) (.iv 1100)) (.add t0 t1)),(.le t3 (.iv 1100)),(.le (.iv 1100) t4),(.eq (.len (.av 1101)) t4),(.aeq t5 (.splice t6 (.len t6) (.alit [255,218,0,12,3,1,0,2,17,3,17,0,63,0])))] (.need [(.le t3 t3),(.le t3 (.add (.iv 22) (.lit 15))),(.le t7 t3),(.le t3 t8),(.le t7 t3),(.le t3 t8),(.le t7 t3),(.le t3 t8),(.eq t11 t9),t13,t13,(.le (.add (.len (.av 1100)) (.iv 1100)) (.add t0 (.add t1 (.mul (.lit 1769904) t3)))),(.aeq (.fa 502 t3 t3 t3 t3 (.splice t15 (.len t15) (.splice t16 (.len t16) t5)) (.av 3) (.av 5) (.splice t17 t18 (.splice t19 t20 (.splice t21 (.len t21) (.splice t21 (.len t21) t21))))) t22)] (.any 1400 6 [(.le t3 (.iv 1402)),(.le (.iv 1402) t4),(.eq (.len (.av 1401)) t4),(.le t3 (.iv 1400)),(.le (.iv 1400) t23),(.le t3 (.iv 1401)),(.le (.iv 1401) (.lit 7)),(.le t3 t24),(.le t24 (.add (.iv 22) (.lit 15))),(.le t7 (.iv 1404)),(.le (.iv 1404) t8),(.le t7 (.iv 1405)),(.le (.iv 1405) t8),(.le t7 (.iv 1406)),(.le (.iv 1406) t8),(.eq (.len (.av 1402)) t9),(.eq (.len (.av 1404)) t12),(.eq (.len (.av 1405)) t12),(.le t25 (.add t0 (.add t1 t26))),(.aeq (.fa 502 t3 t24 t3 t3 t27 (.av 3) (.av 5) (.splice t17 t18 (.splice t19 t20 (.splice (.set t14 t3 (.iv 1404)) (.len (.set t14 t3 (.iv 1404))) (.splice (.set t14 t3 (.iv 1405)) (.len (.set t14 t3 (.iv 1405))) (.set t14 t3 (.iv 1406))))))) t22)] (.cond (.lt t24 (.iv 22)) (.need [(.le t3 (.add (.iv 21) (.lit 15))),(.le t25 (.add t0 (.add t1 (.add t26 (.mul (.lit 432) t3)))))] (.any 1800 6 [(.le t3 (.iv 1802)),(.le (.iv 1802) t4),(.eq (.len (.av 1801)) t4),(.le t3 (.iv 1800)),(.le (.iv 1800) t23),(.le t3 (.iv 1801)),(.le (.iv 1801) (.lit 7)),(.le t3 t28),(.le t28 (.add (.iv 21) (.lit 15))),(.le t7 (.iv 1804)),(.le (.iv 1804) t8),(.le t7 (.iv 1805)),(.le (.iv 1805) t8),(.le t7 (.iv 1806)),(.le (.iv 1806) t8),(.eq (.len (.av 1802)) t9),(.eq (.len (.av 1804)) t12),(.eq (.len (.av 1805)) t12),(.le t29 (.add t0 (.add t1 (.add t26 (.mul (.lit 432) t28))))),(.aeq (.fa 502 t28 t24 t3 t3 t30 (.av 3) (.av 5) t31) t22)] (.cond (.lt t28 (.iv 21)) (.need [(.le t32 t28),(.le t28 t33)] (.need [(.le t32 t24),(.le t24 t33)] (.need [(.le t28 (.lit 65551)),(.le t24 (.lit 65551)),(.le t3 (.lit 192)),(.le t3 (.lit 192))] (.any 2200 8 [] (.need [(.le (.add t29 (.lit 1152)) t2),(.eq (.len t35) t9),(.fb 2 t3 (.lit 255) t3 t3 t35 t34 t34 t34)] (.any 2600 8 [(.le t3 (.iv 2700)),(.le (.iv 2700) t4),(.eq (.len (.av 2701)) t4),(.le t3 (.iv 2701)),(.le (.iv 2701) t23),(.le t3 (.iv 2702)),(.le (.iv 2702) (.lit 7)),(.le (.add (.len (.av 2700)) (.iv 2700)) (.add t29 (.lit 1152))),(.aeq t36 (.fa 70 (.iv 1804) t3 t3 t3 t30 (.av 3) t35 t34)),(.eq (.len (.av 2702)) t9),(.le t7 t37),(.le t37 t8)] (.need [(.le t32 t38),(.le t38 t33)] (.need [(.le t3 t38),(.le t38 (.lit 65551)),(.le t3 t9),(.le t9 (.lit 192)),(.le t3 t9),(.le t9 (.lit 192)),(.eq (.len t39) t12),(.eq (.len t40) t12)] (.any 3000 10 [] (.need [(.le (.add (.add (.len (.av 2700)) (.iv 2700)) (.lit 1152)) t2),(.eq (.len t41) t9),(.fb 2 t3 (.lit 255) t3 t3 t41 t34 t34 t34)] (.any 3400 10 [(.le t3 (.iv 3500)),(.le (.iv 3500) t4),(.eq (.len (.av 3501)) t4),(.le t3 (.iv 3501)),(.le (.iv 3501) t23),(.le t3 (.iv 3502)),(.le (.iv 3502) (.lit 7)),(.le (.add (.len (.av 3500)) (.iv 3500)) (.add (.add (.len (.av 2700)) (.iv 2700)) (.lit 1152))),(.aeq t42 (.fa 70 t37 t3 t3 t3 t36 (.av 3) t41 t34)),(.eq (.len (.av 3502)) t9),(.le t7 t43),(.le t43 t8)] (.need [(.le t32 t44),(.le t44 t33)] (.need [(.le t3 t44),(.le t44 (.lit 65551)),(.le t3 (.lit 128)),(.le (.lit 128) (.lit 192)),(.le t3 (.lit 128)),(.le (.lit 128) (.lit 192)),(.eq (.len t45) t12),(.eq (.len t46) t12)] (.any 3800 12 [] (.need [(.le (.add (.add (.len (.av 3500)) (.iv 3500)) (.lit 1152)) t2),(.eq (.len t47) t9),(.fb 2 t3 (.lit 255) t3 t3 t47 t34 t34 t34)] (.any 4200 12 [(.le t3 (.iv 4300)),(.le (.iv 4300) t4),(.eq (.len (.av 4301)) t4),(.le t3 (.iv 4301)),(.le (.iv 4301) t23),(.le t3 (.iv 4302)),(.le (.iv 4302) (.lit 7)),(.le (.add (.len (.av 4300)) (.iv 4300)) (.add (.add (.len (.av 3500)) (.iv 3500)) (.lit 1152))),(.aeq t48 (.fa 70 t43 t3 t3 t3 t42 (.av 3) t47 t34)),(.eq (.len (.av 4302)) t9),(.le t7 t49),(.le t49 t8)] (.need [(.le (.lit 192) (.lit 192)),(.le (.lit 192) (.lit 192)),(.eq (.len t50) t12),(.eq (.len t51) t12)] (.any 4600 14 [] (.need [(.le (.add (.add (.len (.av 4300)) (.iv 4300)) (.lit 1152)) t2),(.eq (.len t52) t9),(.fb 2 t3 (.lit 255) t3 t3 t52 t34 t34 t34)] (.any 5000 14 [(.le t3 (.iv 5100)),(.le (.iv 5100) t4),(.eq (.len (.av 5101)) t4),(.le t3 (.iv 5101)),(.le (.iv 5101) t23),(.le t3 (.iv 5102)),(.le (.iv 5102) (.lit 7)),(.le (.add (.len (.av 5100)) (.iv 5100)) (.add (.add (.len (.av 4300)) (.iv 4300)) (.lit 1152))),(.aeq t53 (.fa 70 t49 t3 t3 t3 t48 (.av 3) t52 t34)),(.eq (.len (.av 5102)) t9),(.le t7 t54),(.le t54 t8)] (.need [(.eq (.len t55) t12),(.fb 2 t3 (.lit 255) t3 t3 t55 t34 t34 t34)] (.need [(.le (.add (.add (.len (.av 5100)) (.iv 5100)) (.lit 1152)) t2),(.eq (.len t56) t9),(.fb 2 t3 (.lit 255) t3 t3 t56 t34 t34 t34)] (.any 5400 14 [(.le t3 (.iv 5500)),(.le (.iv 5500) t4),(.eq (.len (.av 5501)) t4),(.le t3 (.iv 5501)),(.le (.iv 5501) t23),(.le t3 (.iv 5502)),(.le (.iv 5502) (.lit 7)),(.le (.add (.len (.av 5500)) (.iv 5500)) (.add (.add (.len (.av 5100)) (.iv 5100)) (.lit 1152))),(.aeq t57 (.fa 71 (.iv 1805) t3 t3 t3 t53 (.av 3) t56 t34)),(.eq (.len (.av 5502)) t9),(.le t7 t58),(.le t58 t8)] (.need [(.eq (.len t59) t12),(.fb 2 t3 (.lit 255) t3 t3 t59 t34 t34 t34)] (.need [(.le (.add (.add (.len (.av 5500)) (.iv 5500)) (.lit 1152)) t2),(.eq (.len t60) t9),(.fb 2 t3 (.lit 255) t3 t3 t60 t34 t34 t34)] (.any 5800 14 [(.le t3 (.iv 5900)),(.le (.iv 5900) t4),(.eq (.len (.av 5901)) t4),(.le t3 (.iv 5901)),(.le (.iv 5901) t23),(.le t3 (.iv 5902)),(.le (.iv 5902) (.lit 7)),(.le (.add (.len (.av 5900)) (.iv 5900)) (.add (.add (.len (.av 5500)) (.iv 5500)) (.lit 1152))),(.aeq t61 (.fa 71 (.iv 1806) t3 t3 t3 t57 (.av 3) t60 t34)),(.eq (.len (.av 5902)) t9),(.le t7 t62),(.le t62 t8)] (.need [(.le t32 t63),(.le t63 t33)] (.need [(.le t3 t63),(.le t63 (.add (.iv 21) (.lit 15))),(.le (.add (.len (.av 5900)) (.iv 5900)) (.add t0 (.add t1 (.add t26 (.mul (.lit 432) t63))))),(.aeq (.fa 502 t63 t24 t3 t3 t61 (.av 3) (.av 5) (.splice t17 t18 (.splice t19 t20 (.splice (.set t14 t3 t54) (.len (.set t14 t3 t54)) (.splice (.set t14 t3 t58) (.len (.set t14 t3 t58)) (.set t14 t3 t62)))))) t22),(.lt t3 (.sub (.add (.iv 21) (.lit 16)) t28)),(.lt (.sub (.add (.iv 21) (.lit 16)) t63) (.sub (.add (.iv 21) (.lit 16)) t28))] .done)))))))))))))))))))))))))))) (.need [(.le t32 t66),(.le t66 t33)] (.need [(.le t3 t66),(.le t66 (.add (.iv 22) (.lit 15))),(.le t29 (.add t0 (.add t1 (.mul (.lit 1769904) t66)))),(.aeq (.fa 502 t3 t66 t3 t3 t30 (.av 3) (.av 5) t31) t22),(.lt t3 (.sub (.add (.iv 22) (.lit 16)) t24)),(.lt (.sub (.add (.iv 22) (.lit 16)) t66) (.sub (.add (.iv 22) (.lit 16)) t24))] .done))))) (.need [(.le (.add t25 (.lit 6)) t2),(.le t3 (.lit 127)),(.le (.lit 127) (.lit 65535)),(.le t3 (.lit 7)),(.le (.lit 7) (.lit 16))] (.any 1800 6 [(.le t3 (.iv 1900)),(.le (.iv 1900) t4),(.eq (.len (.av 1901)) t4),(.le t3 (.iv 1901)),(.le (.iv 1901) t23),(.le t3 (.iv 1902)),(.le (.iv 1902) (.lit 7)),(.le (.add (.len (.av 1900)) (.iv 1900)) (.add t25 (.lit 6))),(.aeq t67 (.fa 3 (.lit 127) (.lit 7) t3 t3 t27 t34 t34 t34))] (.need [(.le (.add (.len (.av 1900)) (.iv 1900)) (.add t0 (.lit 200000000000))),(.aeq t67 t22)] .done))))))))
theorem ql8:Dd (Db Tryz.prog jyr jr7 ⟨qfg,Jd⟩ 100000 67 j25) j7u=true:=by kernel_rfl
set_option maxRecDepth 20000 in
set_option maxHeartbeats 4000000 in
theorem j44:Cf Tryz.prog Z 67 j25:=by
  refine Bf jy3 jup ql8 fun ρ h=> ?_
  simp only[j25,eIn,hE,bE,jd7,hB,bW,bB,Gl,Tt,ja7,hf,jkc,jk8,ja2,cA,fA,z0,Du,Bi,Di,List.flatMap_cons,List.flatMap_nil,List.append_nil,List.append_assoc,List.cons_append,List.nil_append,and_true,↓qA,qB,and_true,implies_true,T.I,T.A,T.B,VC.sem] at h
  obtain ⟨h1,h2,h3,h4,h5,h6,h7,h8,h9,h10,h11,h12,h13,h14,h15,h16,h17,h18,h19,h20⟩:=h
  have ha:Bn 0 255 (ρ.a 5)=true:= ‹_›
  rw[td2 (x:=ρ.i 21+1) (by omega)] at*
  rw[td2 (x:=ρ.i 22+1) (by omega)] at*
  have hp:0≤ρ.i 21*ρ.i 22:=Int.mul_nonneg (by omega) (by omega)
  have hc0:0≤(ρ.i 21+1)/2*((ρ.i 22+1)/2):=Int.mul_nonneg (by omega) (by omega)
  have e25:ρ.i 25=(ρ.i 21+1)/2:= ‹_›
  have e24:ρ.i 24=(ρ.i 21+1)/2*((ρ.i 22+1)/2):=by rw[←e25];assumption
  have PI: ∀x y:Int,0≤x→0≤y→Bn 0 255 (Fy x y (ρ.i 21) (ρ.i 22) (ρ.a 5))=true:=by
    intro x y hx hy
    exact jom hx hy (by omega) (by omega) (by omega) ha
  have BI: ∀x y:Int,0≤x→0≤y→Bn 0 255 (Nw (Ov (ρ.i 21) (ρ.i 22)) x y (ρ.i 21) (ρ.i 22) (ρ.a 5))=true:=by
    intro x y hx hy
    exact jdc hx hy (by omega) (by omega) (by unfold Ov;omega) (by unfold Ov;omega) ha
  have RI: ∀x y:Int,0≤x→0≤y→Bn 0 255 (Nw (Po (ρ.i 21) (ρ.i 22)) x y (ρ.i 21) (ρ.i 22) (ρ.a 5))=true:=by
    intro x y hx hy
    exact jdc hx hy (by omega) (by omega) (by unfold Po;omega) (by unfold Po;omega) ha
  simp only[j7u,Fb,↓qA,qB,and_true,implies_true,T.I,T.A,T.B,VC.sem,j9p,jwb,Ou,j82,j6s,j8g,j17,j77,j6p,qfa,Tm]
  have PL: ∀x y:Int,((Fy x y (ρ.i 21) (ρ.i 22) (ρ.a 5)).length:Int)=64:=fun x y=>by rw[Fw];rfl
  have SL: ∀l:List Int,((Nx l).length:Int)=64:=fun l=>by rw[Zk];rfl
  (repeat' (first|with_reducible exact True.intro|with_reducible refine And.intro ?_ ?_|intro _))<;>(try omega)
  all_goals (try (with_reducible exact PL _ _))
  all_goals (try (with_reducible exact SL _))
  all_goals (try (with_reducible refine PI _ _ ?_ ?_<;>omega))
  · rfl
  · rfl
  · rfl
  · rfl
  · have e:= ‹ρ.a 1100++_=_›
    rw[e,jql]
  · exact Rr ‹_› Dz (by decide)
  · exact Rr ‹_› Dz (by decide)
  · exact Rr (Rr ‹_› Dz (by decide)) Dz (by decide)
  · exact Rr (Rr ‹_› Dz (by decide)) Dz (by decide)
  · exact Rr (Rr (Rr ‹_› Dz (by decide)) Dz (by decide)) Dz (by decide)
  · exact Rr (Rr (Rr ‹_› Dz (by decide)) Dz (by decide)) Dz (by decide)
  · exact Rr (Rr (Rr (Rr ‹_› Dz (by decide)) Dz (by decide)) Dz (by decide)) Dz (by decide)
  · rw[jw5 ‹_›];exact BI _ _ (by omega) (by omega)
  · rw[jw5 ‹_›];exact jdz (BI _ _ (by omega) (by omega))
  · exact Rr (Rr (Rr (Rr ‹_› Dz (by decide)) Dz (by decide)) Dz (by decide)) Dz (by decide)
  · rw[jw5 ‹_›];exact RI _ _ (by omega) (by omega)
  · rw[jw5 ‹_›];exact jdz (RI _ _ (by omega) (by omega))
  · refine Eq.trans ?_ ‹pk (Tr _ _ _ _ (up ([ρ.i 1800]++_)) (ρ.i 1804) _ _ (ρ.i 1803) _)=_›
    rw[jhp (x:=ρ.i 1803) (by omega) (by omega),‹[ρ.i 5901]++_=_›,Lc,‹[ρ.i 5501]++_=_›,Lc,‹[ρ.i 5101]++_=_›,Lc,‹[ρ.i 4301]++_=_›,Lc,‹[ρ.i 3501]++_=_›,Lc,‹[ρ.i 2701]++_=_›,Lc,jw5 ‹((ρ.a 1804).length:Int)=256›,jw5 ‹((ρ.a 1805).length:Int)=256›,jyt]
  · refine Eq.trans ?_ ‹pk (Tr _ _ _ _ (up ([ρ.i 1800]++_)) (ρ.i 1804) _ _ (ρ.i 1803) _)=_›
    rw[jeb (x:=ρ.i 1803) (by omega) (by omega)]
  · refine Eq.trans ?_ ‹pk (Tr _ _ _ _ (up ([ρ.i 1400]++_)) (ρ.i 1404) _ _ 0 _)=_›
    rw[jam (by omega),‹[ρ.i 1901]++_=_›,jhh]
theorem jyx: ∀f s,j0a f=some s→Dw Tryz.prog Z f s:=by
  intro f s h
  unfold j0a at h
  split at h
  · exact jb1 153 s h
  · exact jb1 154 s h
  · exact jb1 155 s h
  · cases h;exact Ce j44
  · exact jb1 81 s h
  · cases h
def j6o:VC:=
 let t0:T:=.lit (-9223372036854775808)
 let t1:T:=.lit 9223372036854775807
 let t2:T:=.lit 1
 let t3:T:=.ite (.lt (.iv 30) t2) t2 (.ite (.lt (.lit 100) (.iv 30)) (.lit 100) (.iv 30))
 let t4:T:=.lt t3 (.lit 50)
 let t6:T:=.lit 0
 let t7:T:=.tdiv (.lit 5000) t3
 let t8:T:=.lit 2
 let t9:T:=.mul t3 t8
 let t10:T:=.sub (.lit 200) t9
 let t11:T:=.lit 64
 let t12:T:=.splice (.rep t11 t6) (.len (.rep t11 t6)) (.rep t11 t6)
 let t13:T:=.fa 511 (.iv 30) t6 t6 t6 (.alit []) (.alit []) (.alit []) (.alit [])
 let t14:T:=.mul t11 (.iv 2600)
 let t15:T:=.add (.mul (.iv 2600) t11) (.iv 3000)
 let t16:T:=.fa 46 t6 t6 t6 t6 (.alit []) (.alit []) (.alit []) (.alit [])
 let t17:T:=.get t16 t15
 let t18:T:=.mul t17 (.ite t4 t7 t10)
 let t19:T:=.add t18 (.lit 50)
 let t20:T:=.tdiv t19 (.lit 100)
 let t21:T:=.add (.iv 3000) t2
 let t22:T:=.set (.av 3000) t15 (.wrap .u8 (.ite (.lt t20 t2) t2 (.ite (.lt (.lit 255) t20) (.lit 255) t20)))
 let t24:T:=.add (.iv 2600) t2
 let t25:T:=.lit 4096
 let t26:T:=.lit 1000000000000
 let t27:T:=.lit 16
 let t28:T:=.splice (.av 3100) (.len (.av 3100)) (.cut (.av 3101) t6 (.iv 3100))
 let t29:T:=.splice (.av 0) (.len (.av 0)) (.cut (.rep t25 t6) t6 t6)
 let t30:T:=.splice (.av 3500) (.len (.av 3500)) (.cut (.av 3501) t6 (.iv 3500))
 let t31:T:=.splice (.av 3900) (.len (.av 3900)) (.cut (.av 3901) t6 (.iv 3900))
 let t32:T:=.set (.alit [0]) t6 t6
 let t33:T:=.splice (.av 4300) (.len (.av 4300)) (.cut (.av 4301) t6 (.iv 4300))
 let t34:T:=.splice (.av 4700) (.len (.av 4700)) (.cut (.av 4701) t6 (.iv 4700))
 let t35:T:=.splice (.av 5100) (.len (.av 5100)) (.cut (.av 5101) t6 (.iv 5100))
 let t36:T:=.splice (.av 5500) (.len (.av 5500)) (.cut (.av 5501) t6 (.iv 5500))
 let t37:T:=.set (.set (.set (.set (.set (.set (.set (.set (.set (.set (.set (.set (.set (.set (.set (.alit [0,0,0,0,0,0,0,0,0,0,0,0,0,0,0]) t6 (.lit 8)) t2 (.wrap .u8 (.shr .i64 (.iv 22) (.lit 8)))) t8 (.wrap .u8 (.bits .and .i64 (.iv 22) (.lit 255)))) (.lit 3) (.wrap .u8 (.shr .i64 (.iv 21) (.lit 8)))) (.lit 4) (.wrap .u8 (.bits .and .i64 (.iv 21) (.lit 255)))) (.lit 5) (.lit 3)) (.lit 6) t2) (.lit 7) (.lit 34)) (.lit 8) t6) (.lit 9) t8) (.lit 10) (.lit 17)) (.lit 11) t2) (.lit 12) (.lit 3)) (.lit 13) (.lit 17)) (.lit 14) t2
 let t38:T:=.splice (.av 5900) (.len (.av 5900)) (.cut (.av 5901) t6 (.iv 5900))
 let t39:T:=.splice (.av 6300) (.len (.av 6300)) (.cut (.av 6301) t6 (.iv 6300))
 let t40:T:=.splice (.av 6700) (.len (.av 6700)) (.cut (.av 6701) t6 (.iv 6700))
 let t41:T:=.splice (.av 7100) (.len (.av 7100)) (.cut (.av 7101) t6 (.iv 7100))
 let t42:T:=.alit [0,1,2,3,4,5,6,7,8,9,10,11]
 let t43:T:=.splice (.av 7500) (.len (.av 7500)) (.cut (.av 7501) t6 (.iv 7500))
 let t44:T:=.splice (.av 7900) (.len (.av 7900)) (.cut (.av 7901) t6 (.iv 7900))
 let t45:T:=.splice (.av 8300) (.len (.av 8300)) (.cut (.av 8301) t6 (.iv 8300))
 let t46:T:=.alit [1,2,3,0,4,17,5,18,33,49,65,6,19,81,97,7,34,113,20,50,129,145,161,8,35,66,177,193,21,82,209,240,36,51,98,114,130,9,10,22,23,24,25,26,37,38,39,40,41,42,52,53,54,55,56,57,58,67,68,69,70,71,72,73,74,83,84,85,86,87,88,89,90,99,100,101,102,103,104,105,106,115,116,117,118,119,120,121,122,131,132,133,134,135,136,137,138,146,147,148,149,150,151,152,153,154,162,163,164,165,166,167,168,169,170,178,179,180,181,182,183,184,185,186,194,195,196,197,198,199,200,201,202,210,211,212,213,214,215,216,217,218,225,226,227,228,229,230,231,232,233,234,241,242,243,244,245,246,247,248,249,250]
 let t47:T:=.splice (.av 8700) (.len (.av 8700)) (.cut (.av 8701) t6 (.iv 8700))
 let t48:T:=.splice (.av 9100) (.len (.av 9100)) (.cut (.av 9101) t6 (.iv 9100))
 let t49:T:=.splice (.av 9500) (.len (.av 9500)) (.cut (.av 9501) t6 (.iv 9500))
 let t50:T:=.splice (.av 9900) (.len (.av 9900)) (.cut (.av 9901) t6 (.iv 9900))
 let t51:T:=.splice (.av 10300) (.len (.av 10300)) (.cut (.av 10301) t6 (.iv 10300))
 let t52:T:=.splice (.av 10700) (.len (.av 10700)) (.cut (.av 10701) t6 (.iv 10700))
 let t53:T:=.alit [0,1,2,3,17,4,5,33,49,6,18,65,81,7,97,113,19,34,50,129,8,20,66,145,161,177,193,9,35,51,82,240,21,98,114,209,10,22,36,52,225,37,241,23,24,25,26,38,39,40,41,42,53,54,55,56,57,58,67,68,69,70,71,72,73,74,83,84,85,86,87,88,89,90,99,100,101,102,103,104,105,106,115,116,117,118,119,120,121,122,130,131,132,133,134,135,136,137,138,146,147,148,149,150,151,152,153,154,162,163,164,165,166,167,168,169,170,178,179,180,181,182,183,184,185,186,194,195,196,197,198,199,200,201,202,210,211,212,213,214,215,216,217,218,226,227,228,229,230,231,232,233,234,242,243,244,245,246,247,248,249,250]
 let t54:T:=.splice (.av 11100) (.len (.av 11100)) (.cut (.av 11101) t6 (.iv 11100))
 let t55:T:=.add (.add (.len (.av 11100)) (.iv 11100)) (.lit 200000000000)
 let t56:T:=.splice (.av 11500) (.len (.av 11500)) (.cut (.av 11501) t6 (.iv 11500))
 let t57:T:=.set (.set (.set (.set (.set (.set (.set (.set (.set (.set (.set (.set (.set (.set (.set (.alit [0,0,0,0,0,0,0,0,0,0,0,0,0,0,0]) t6 (.lit 255)) t2 (.lit 196)) t8 t2) (.lit 3) (.lit 162)) (.lit 4) (.wrap .u8 (.bits .and .i64 (.iv 21) (.lit 255)))) (.lit 5) (.lit 3)) (.lit 6) t2) (.lit 7) (.lit 34)) (.lit 8) t6) (.lit 9) t8) (.lit 10) (.lit 17)) (.lit 11) t2) (.lit 12) (.lit 3)) (.lit 13) (.lit 17)) (.lit 14) t2
 let t58:T:=.cut (.set (.set (.splice t57 (.len t57) (.rep t2 t6)) t6 (.lit 255)) t2 (.lit 217)) t6 t8
 let t59:T:=.add (.len (.av 11900)) (.iv 11900)
 let t60:T:=.splice (.av 11900) (.len (.av 11900)) (.cut (.av 11901) t6 (.iv 11900))
 (.need [(.le t0 (.iv 21)),(.le (.iv 21) t1)] (.cond (.le (.lit 65536) (.iv 21)) (.fail "leaf fit") (.need [(.le t0 (.iv 22)),(.le (.iv 22) t1)] (.cond (.le (.lit 65536) (.iv 22)) (.fail "leaf fit") (.need [(.le (.lit 12) (.lit 12))] (.any 1000 12 [] (.need [(.le (.lit 162) (.lit 162))] (.any 1400 13 [] (.any 1800 14 [] (.any 2200 15 [] (.need [(.or (.not t4) (.not (.eq t3 t6))),(.or (.not t4) (.le t0 t7)),(.or (.not t4) (.le t7 t1)),(.or t4 (.le t0 t9)),(.or t4 (.le t9 t1)),(.or t4 (.le t0 t10)),(.or t4 (.le t10 t1))] (.need [(.le t6 t6),(.le t6 t8),(.eq (.len t12) (.lit 128)),(.aeq (.cut t12 t6 (.mul t11 t6)) (.cut t13 t6 (.mul t11 t6)))] (.any 2600 1000000017 [(.le t6 (.iv 2600)),(.le (.iv 2600) t8),(.eq (.len (.av 2600)) (.lit 128)),(.aeq (.cut (.av 2600) t6 t14) (.cut t13 t6 t14))] (.cond (.lt (.iv 2600) t8) (.need [(.le t6 t11),(.aeq (.cut (.av 2600) t6 (.add t14 t6)) (.cut t13 t6 (.add t14 t6)))] (.any 3000 1000000017 [(.le t6 (.iv 3000)),(.le (.iv 3000) t11),(.eq (.len (.av 3000)) (.lit 128)),(.aeq (.cut (.av 3000) t6 (.add t14 (.iv 3000))) (.cut t13 t6 (.add t14 (.iv 3000))))] (.cond (.lt (.iv 3000) t11) (.need [(.le t6 (.mul (.iv 2600) t11))] (.need [(.le t6 t15),(.lt t15 (.len t16))] (.need [(.le t0 t17),(.le t17 t1)] (.need [(.le t0 t18),(.le t18 t1)] (.need [(.le t0 t19),(.le t19 t1)] (.need [(.le t0 t20),(.le t20 t1)] (.need [(.lt t15 (.lit 128))] (.need [(.le t0 t21),(.le t21 t1)] (.need [(.le t6 t21),(.le t21 t11),(.eq (.len t22) (.lit 128)),(.aeq (.cut t22 t6 (.add t14 t21)) (.cut t13 t6 (.add t14 t21))),(.lt t6 (.sub t11 (.iv 3000))),(.lt (.sub t11 t21) (.sub t11 (.iv 3000)))] .done))))))))) (.need [(.le t0 t24),(.le t24 t1)] (.need [(.le t6 t24),(.le t24 t8),(.aeq (.cut (.av 3000) t6 (.mul t11 t24)) (.cut t13 t6 (.mul t11 t24))),(.lt t6 (.sub t8 (.iv 2600))),(.lt (.sub t8 t24) (.sub t8 (.iv 2600)))] .done))))) (.need [(.le t6 t25),(.le (.add (.add (.len (.av 0)) t6) t8) t26),(.le t8 t25),(.le t8 t27),(.eq (.len (.alit [255,216])) t8)] (.any 3000 17 [(.eq (.add (.len (.av 3100)) (.iv 3100)) (.add (.add (.len (.av 0)) t6) t8)),(.le t6 (.iv 3100)),(.le (.iv 3100) t25),(.eq (.len (.av 3101)) t25),(.aeq t28 (.splice t29 (.len t29) (.alit [255,216])))] (.need [(.le (.add (.add (.len (.av 3100)) (.iv 3100)) (.lit 4)) t26),(.le t6 (.lit 4)),(.le (.lit 4) t25),(.le (.lit 4) t27),(.eq (.len (.alit [255,219,0,132])) (.lit 4))] (.any 3400 17 [(.eq (.add (.len (.av 3500)) (.iv 3500)) (.add (.add (.len (.av 3100)) (.iv 3100)) (.lit 4))),(.le t6 (.iv 3500)),(.le (.iv 3500) t25),(.eq (.len (.av 3501)) t25),(.aeq t30 (.splice t28 (.len t28) (.alit [255,219,0,132])))] (.need [(.le (.add (.add (.len (.av 3500)) (.iv 3500)) t2) t26)] (.any 3800 17 [(.eq (.add (.len (.av 3900)) (.iv 3900)) (.add (.add (.len (.av 3500)) (.iv 3500)) t2)),(.le t6 (.iv 3900)),(.le (.iv 3900) t25),(.eq (.len (.av 3901)) t25),(.aeq t31 (.splice t30 (.len t30) t32))] (.need [(.le (.add (.add (.len (.av 3900)) (.iv 3900)) t11) t26),(.le t6 t11),(.le t11 t25),(.le t11 t11),(.eq (.len (.cut (.av 2600) t6 t11)) t11)] (.any 4200 17 [(.eq (.add (.len (.av 4300)) (.iv 4300)) (.add (.add (.len (.av 3900)) (.iv 3900)) t11)),(.le t6 (.iv 4300)),(.le (.iv 4300) t25),(.eq (.len (.av 4301)) t25),(.aeq t33 (.splice t31 (.len t31) (.cut (.av 2600) t6 t11)))] (.need [(.le (.add (.add (.len (.av 4300)) (.iv 4300)) t2) t26)] (.any 4600 17 [(.eq (.add (.len (.av 4700)) (.iv 4700)) (.add (.add (.len (.av 4300)) (.iv 4300)) t2)),(.le t6 (.iv 4700)),(.le (.iv 4700) t25),(.eq (.len (.av 4701)) t25),(.aeq t34 (.splice t33 (.len t33) (.set (.alit [0]) t6 t2)))] (.need [(.le (.add (.add (.len (.av 4700)) (.iv 4700)) t11) t26),(.eq (.len (.cut (.av 2600) t11 t11)) t11)] (.any 5000 17 [(.eq (.add (.len (.av 5100)) (.iv 5100)) (.add (.add (.len (.av 4700)) (.iv 4700)) t11)),(.le t6 (.iv 5100)),(.le (.iv 5100) t25),(.eq (.len (.av 5101)) t25),(.aeq t35 (.splice t34 (.len t34) (.cut (.av 2600) t11 t11)))] (.need [(.le (.add (.add (.len (.av 5100)) (.iv 5100)) (.lit 4)) t26),(.eq (.len (.alit [255,192,0,17])) (.lit 4))] (.any 5400 20 [(.eq (.add (.len (.av 5500)) (.iv 5500)) (.add (.add (.len (.av 5100)) (.iv 5100)) (.lit 4))),(.le t6 (.iv 5500)),(.le (.iv 5500) t25),(.eq (.len (.av 5501)) t25),(.aeq t36 (.splice t35 (.len t35) (.alit [255,192,0,17])))] (.need [(.le (.add (.add (.len (.av 5500)) (.iv 5500)) (.lit 15)) t26),(.le t6 (.lit 15)),(.le (.lit 15) t25),(.le (.lit 15) t27),(.eq (.len t37) (.lit 15))] (.any 5800 20 [(.eq (.add (.len (.av 5900)) (.iv 5900)) (.add (.add (.len (.av 5500)) (.iv 5500)) (.lit 15))),(.le t6 (.iv 5900)),(.le (.iv 5900) t25),(.eq (.len (.av 5901)) t25),(.aeq t38 (.splice t36 (.len t36) t37))] (.need [(.le (.add (.add (.len (.av 5900)) (.iv 5900)) (.lit 4)) t26),(.eq (.len (.alit [255,196,1,162])) (.lit 4))] (.any 6200 30 [(.eq (.add (.len (.av 6300)) (.iv 6300)) (.add (.add (.len (.av 5900)) (.iv 5900)) (.lit 4))),(.le t6 (.iv 6300)),(.le (.iv 6300) t25),(.eq (.len (.av 6301)) t25),(.aeq t39 (.splice t38 (.len t38) (.alit [255,196,1,162])))] (.need [(.le (.add (.add (.len (.av 6300)) (.iv 6300)) t2) t26)] (.any 6600 31 [(.eq (.add (.len (.av 6700)) (.iv 6700)) (.add (.add (.len (.av 6300)) (.iv 6300)) t2)),(.le t6 (.iv 6700)),(.le (.iv 6700) t25),(.eq (.len (.av 6701)) t25),(.aeq t40 (.splice t39 (.len t39) t32))] (.need [(.le (.add (.add (.len (.av 6700)) (.iv 6700)) t27) t26),(.le t6 t27),(.le t27 t25),(.le t27 t27),(.eq (.len (.alit [0,1,5,1,1,1,1,1,1,0,0,0,0,0,0,0])) t27)] (.any 7000 31 [(.eq (.add (.len (.av 7100)) (.iv 7100)) (.add (.add (.len (.av 6700)) (.iv 6700)) t27)),(.le t6 (.iv 7100)),(.le (.iv 7100) t25),(.eq (.len (.av 7101)) t25),(.aeq t41 (.splice t40 (.len t40) (.alit [0,1,5,1,1,1,1,1,1,0,0,0,0,0,0,0])))] (.need [(.le (.add (.add (.len (.av 7100)) (.iv 7100)) (.lit 12)) t26),(.le t6 (.lit 12)),(.le (.lit 12) t25),(.eq (.len t42) (.lit 12))] (.any 7400 31 [(.eq (.add (.len (.av 7500)) (.iv 7500)) (.add (.add (.len (.av 7100)) (.iv 7100)) (.lit 12))),(.le t6 (.iv 7500)),(.le (.iv 7500) t25),(.eq (.len (.av 7501)) t25),(.aeq t43 (.splice t41 (.len t41) t42))] (.need [(.le (.add (.add (.len (.av 7500)) (.iv 7500)) t2) t26)] (.any 7800 32 [(.eq (.add (.len (.av 7900)) (.iv 7900)) (.add (.add (.len (.av 7500)) (.iv 7500)) t2)),(.le t6 (.iv 7900)),(.le (.iv 7900) t25),(.eq (.len (.av 7901)) t25),(.aeq t44 (.splice t43 (.len t43) (.set (.alit [0]) t6 t27)))] (.need [(.le (.add (.add (.len (.av 7900)) (.iv 7900)) t27) t26),(.eq (.len (.alit [0,2,1,3,3,2,4,3,5,5,4,4,0,0,1,125])) t27)] (.any 8200 32 [(.eq (.add (.len (.av 8300)) (.iv 8300)) (.add (.add (.len (.av 7900)) (.iv 7900)) t27)),(.le t6 (.iv 8300)),(.le (.iv 8300) t25),(.eq (.len (.av 8301)) t25),(.aeq t45 (.splice t44 (.len t44) (.alit [0,2,1,3,3,2,4,3,5,5,4,4,0,0,1,125])))] (.need [(.le (.add (.add (.len (.av 8300)) (.iv 8300)) (.lit 162)) t26),(.le t6 (.lit 162)),(.le (.lit 162) t25),(.eq (.len t46) (.lit 162))] (.any 8600 32 [(.eq (.add (.len (.av 8700)) (.iv 8700)) (.add (.add (.len (.av 8300)) (.iv 8300)) (.lit 162))),(.le t6 (.iv 8700)),(.le (.iv 8700) t25),(.eq (.len (.av 8701)) t25),(.aeq t47 (.splice t45 (.len t45) t46))] (.need [(.le (.add (.add (.len (.av 8700)) (.iv 8700)) t2) t26)] (.any 9000 33 [(.eq (.add (.len (.av 9100)) (.iv 9100)) (.add (.add (.len (.av 8700)) (.iv 8700)) t2)),(.le t6 (.iv 9100)),(.le (.iv 9100) t25),(.eq (.len (.av 9101)) t25),(.aeq t48 (.splice t47 (.len t47) (.set (.alit [0]) t6 t2)))] (.need [(.le (.add (.add (.len (.av 9100)) (.iv 9100)) t27) t26),(.eq (.len (.alit [0,3,1,1,1,1,1,1,1,1,1,0,0,0,0,0])) t27)] (.any 9400 33 [(.eq (.add (.len (.av 9500)) (.iv 9500)) (.add (.add (.len (.av 9100)) (.iv 9100)) t27)),(.le t6 (.iv 9500)),(.le (.iv 9500) t25),(.eq (.len (.av 9501)) t25),(.aeq t49 (.splice t48 (.len t48) (.alit [0,3,1,1,1,1,1,1,1,1,1,0,0,0,0,0])))] (.need [(.le (.add (.add (.len (.av 9500)) (.iv 9500)) (.lit 12)) t26)] (.any 9800 33 [(.eq (.add (.len (.av 9900)) (.iv 9900)) (.add (.add (.len (.av 9500)) (.iv 9500)) (.lit 12))),(.le t6 (.iv 9900)),(.le (.iv 9900) t25),(.eq (.len (.av 9901)) t25),(.aeq t50 (.splice t49 (.len t49) t42))] (.need [(.le (.add (.add (.len (.av 9900)) (.iv 9900)) t2) t26)] (.any 10200 34 [(.eq (.add (.len (.av 10300)) (.iv 10300)) (.add (.add (.len (.av 9900)) (.iv 9900)) t2)),(.le t6 (.iv 10300)),(.le (.iv 10300) t25),(.eq (.len (.av 10301)) t25),(.aeq t51 (.splice t50 (.len t50) (.set (.alit [0]) t6 (.lit 17))))] (.need [(.le (.add (.add (.len (.av 10300)) (.iv 10300)) t27) t26),(.eq (.len (.alit [0,2,1,2,4,4,3,4,7,5,4,4,0,1,2,119])) t27)] (.any 10600 34 [(.eq (.add (.len (.av 10700)) (.iv 10700)) (.add (.add (.len (.av 10300)) (.iv 10300)) t27)),(.le t6 (.iv 10700)),(.le (.iv 10700) t25),(.eq (.len (.av 10701)) t25),(.aeq t52 (.splice t51 (.len t51) (.alit [0,2,1,2,4,4,3,4,7,5,4,4,0,1,2,119])))] (.need [(.le (.add (.add (.len (.av 10700)) (.iv 10700)) (.lit 162)) t26),(.eq (.len t53) (.lit 162))] (.any 11000 34 [(.eq (.add (.len (.av 11100)) (.iv 11100)) (.add (.add (.len (.av 10700)) (.iv 10700)) (.lit 162))),(.le t6 (.iv 11100)),(.le (.iv 11100) t25),(.eq (.len (.av 11101)) t25),(.aeq t54 (.splice t52 (.len t52) t53))] (.need [(.le t6 (.lit 4294967295)),(.le t6 (.lit 7)),(.le t55 t26),(.fb 2 t2 (.lit 255) t6 t6 (.av 2600) (.alit []) (.alit []) (.alit []))] (.any 11400 34 [(.le t6 (.iv 11500)),(.le (.iv 11500) t25),(.eq (.len (.av 11501)) t25),(.le t6 (.iv 11501)),(.le (.iv 11501) (.lit 4294967295)),(.le t6 (.iv 11502)),(.le (.iv 11502) (.lit 7)),(.le (.add (.len (.av 11500)) (.iv 11500)) t55),(.aeq (.splice (.set (.alit [0]) t6 (.iv 11501)) (.len (.set (.alit [0]) t6 (.iv 11501))) (.splice (.set (.alit [0]) t6 (.iv 11502)) (.len (.set (.alit [0]) t6 (.iv 11502))) t56)) (.fa 503 t6 t6 t6 t6 (.splice t32 (.len t32) (.splice t32 (.len t32) t54)) (.av 2600) (.av 5) (.splice (.set (.alit [0]) t6 (.iv 21)) (.len (.set (.alit [0]) t6 (.iv 21))) (.set (.alit [0]) t6 (.iv 22)))))] (.need [(.le (.add (.add (.len (.av 11500)) (.iv 11500)) t8) t26),(.eq (.len t58) t8)] (.any 11800 34 [(.eq t59 (.add (.add (.len (.av 11500)) (.iv 11500)) t8)),(.le t6 (.iv 11900)),(.le (.iv 11900) t25),(.eq (.len (.av 11901)) t25),(.aeq t60 (.splice t56 (.len t56) t58))] (.need [(.le t59 t26)] (.any 12200 34 [(.eq (.len (.av 12300)) t59),(.aeq (.av 12300) t60)] (.need [(.aeq (.av 12300) (.fa 512 (.iv 30) (.iv 21) (.iv 22) t6 (.av 5) (.alit []) (.alit []) (.alit []))),(.le (.len (.av 12300)) t26)] .done)))))))))))))))))))))))))))))))))))))))))))))))))))))))))))))))
theorem qkh:Dd (Db Tryz.prog Jt j0a ⟨jtl,Jd⟩ 100000 45 j45) j6o=true:=by kernel_rfl
theorem jl6(q w h:Int)(p:List Int):Z.fa 512 q w h 0 p [] [] []=Ts q w h p:=id rfl
theorem qfk:(Bl 2).drop 1=[0,3,1,1,1,1,1,1,1,1,1,0,0,0,0,0]:=by kernel_rfl
theorem qj6:(Bl 3).drop 1=[0,2,1,2,4,4,3,4,7,5,4,4,0,1,2,119]:=by kernel_rfl
set_option maxRecDepth 20000 in
set_option maxHeartbeats 4000000 in
theorem j2x:Cf Tryz.prog Z 45 j45:=by
  refine Bf Cq jyx qkh fun ρ h=> ?_
  simp only[j45,bW,juu,ja7,hf,jkc,Vd,roE,owW,cA,fA,z0,Du,Bi,Di,List.flatMap_cons,List.flatMap_nil,List.append_nil,List.append_assoc,List.cons_append,List.nil_append,and_true,↓qA,qB,and_true,implies_true,T.I,T.A,T.B,VC.sem] at h
  obtain ⟨h1,h2,h3,h4,h5,h6,h7,h8,h9,hq1,hq2,hnil⟩:=h
  have e0:((ρ.a 0).length:Int)=0:=by rw[hnil];rfl
  have eQ:(bif ilt (ρ.i 30) 1 then 1 else bif ilt 100 (ρ.i 30) then 100 else ρ.i 30)=ρ.i 30:=by rw[Ea,Ea,if_neg (by omega),if_neg (by omega)]
  have eT:Int.tdiv 5000 (ρ.i 30)=5000/ρ.i 30:=Int.tdiv_eq_ediv_of_nonneg (by omega)
  have eS:(bif ilt (ρ.i 30) 50 then 5000/ρ.i 30 else 200-ρ.i 30*2)=Kd (ρ.i 30):=by rw[Ea];rfl
  have bT:0≤5000/ρ.i 30∧5000/ρ.i 30≤5000:=⟨Int.ediv_nonneg (by omega) (by omega),Int.ediv_le_self _ (by omega)⟩
  have B:=fun {k:Int} (h3:0≤k) (h4:k<128)=>jst hq1 hq2 h3 h4
  have t64:Int.toNat 64=64:=rfl
  simp only[j6o,Fb,↓qA,qB,and_true,implies_true,T.I,T.A,T.B,VC.sem,fb2,eQ,eT,eS,Ck,j8b,jl6,jyq,jqb,qhx]
  have w1:IntKind.u8.wrap (ρ.i 22/256)=ρ.i 22/256:=by rw[IntKind.wrap_u8];omega
  have w2:IntKind.u8.wrap (ρ.i 21/256)=ρ.i 21/256:=by rw[IntKind.wrap_u8];omega
  have w3:IntKind.u8.wrap (ρ.i 22 % 256)=ρ.i 22 % 256:=by rw[IntKind.wrap_u8];omega
  have w4:IntKind.u8.wrap (ρ.i 21 % 256)=ρ.i 21 % 256:=by rw[IntKind.wrap_u8];omega
  simp only[jkh (x:=ρ.i 21) (by omega) (by omega),jkh (x:=ρ.i 22) (by omega) (by omega),w1,w2,w3,w4]
  (repeat' (first|with_reducible exact True.intro|with_reducible refine And.intro ?_ ?_|intro _))<;>(try omega)
  · rfl
  · rfl
  · have e:64*ρ.i 2600+0=64*ρ.i 2600:=by omega
    rw[e];exact ‹List.take (64*ρ.i 2600).toNat _=_›
  · have:=jij (k:=ρ.i 2600*64+ρ.i 3000) (by omega) (by omega);omega
  · have:=jij (k:=ρ.i 2600*64+ρ.i 3000) (by omega) (by omega);omega
  · have:=B (k:=ρ.i 2600*64+ρ.i 3000) (by omega) (by omega);omega
  · have:=B (k:=ρ.i 2600*64+ρ.i 3000) (by omega) (by omega);omega
  · have:=B (k:=ρ.i 2600*64+ρ.i 3000) (by omega) (by omega);omega
  · have:=B (k:=ρ.i 2600*64+ρ.i 3000) (by omega) (by omega)
    rw[Int.tdiv_eq_ediv_of_nonneg (by omega)];omega
  · have:=B (k:=ρ.i 2600*64+ρ.i 3000) (by omega) (by omega)
    rw[Int.tdiv_eq_ediv_of_nonneg (by omega)];omega
  · rw[List.length_set];exact ‹((ρ.a 3000).length:Int)=128›
  · have b:=B (k:=ρ.i 2600*64+ρ.i 3000) (by omega) (by omega)
    have hl:((ρ.a 3000).length:Int)=128:= ‹_›
    have e1:(64*ρ.i 2600+(ρ.i 3000+1)).toNat=(ρ.i 2600*64+ρ.i 3000).toNat+1:=by omega
    have e2:(64*ρ.i 2600+ρ.i 3000).toNat=(ρ.i 2600*64+ρ.i 3000).toNat:=by omega
    have e3:(((ρ.i 2600*64+ρ.i 3000).toNat:Nat):Int)=ρ.i 2600*64+ρ.i 3000:=by omega
    have ht:= ‹List.take (64*ρ.i 2600+ρ.i 3000).toNat (ρ.a 3000)=_›
    rw[e2] at ht
    rw[e1]
    refine Sa ht (by omega) ?_
    rw[jqx (by omega)]
    unfold qel
    rw[e3,Int.tdiv_eq_ediv_of_nonneg (by omega),Ea,Ea,IntKind.wrap_u8]
    refine congrArg some ?_
    generalize (Bg uqL (ρ.i 2600*64+ρ.i 3000)*Kd (ρ.i 30)+50)/100=v
    split<;>(try split)<;>omega
  · have e:64*(ρ.i 2600+1)=64*ρ.i 2600+ρ.i 3000:=by omega
    rw[e];exact ‹List.take (64*ρ.i 2600+ρ.i 3000).toNat _=_›
  · rfl
  · rfl
  · rw[List.length_take,t64];omega
  · rw[List.length_take,List.length_drop,t64];omega
  · rfl
  · rfl
  · rfl
  · rfl
  · have e:= ‹List.take (64*ρ.i 2600).toNat _=_›
    have hl:((ρ.a 2600).length:Int)=128:= ‹_›
    have hl2:=Su (ρ.i 30)
    rw[List.take_of_length_le (by omega),List.take_of_length_le (by omega)] at e
    rw[e];exact jbm _
  · rfl
  · have e:= ‹List.take (64*ρ.i 2600).toNat _=_›
    have hl:((ρ.a 2600).length:Int)=128:= ‹_›
    have hl2:=Su (ρ.i 30)
    rw[List.take_of_length_le (by omega),List.take_of_length_le (by omega)] at e
    have s:= ‹[ρ.i 11501]++_=_›
    rw[jwb] at s
    have s:=jy9 s
    rw[‹ρ.a 12300=_›,‹ρ.a 11900++_=_›,s,‹ρ.a 11100++_=_›,‹ρ.a 10700++_=_›,‹ρ.a 10300++_=_›,‹ρ.a 9900++_=_›,‹ρ.a 9500++_=_›,‹ρ.a 9100++_=_›,‹ρ.a 8700++_=_›,‹ρ.a 8300++_=_›,‹ρ.a 7900++_=_›,‹ρ.a 7500++_=_›,‹ρ.a 7100++_=_›,‹ρ.a 6700++_=_›,‹ρ.a 6300++_=_›,‹ρ.a 5900++_=_›,‹ρ.a 5500++_=_›,‹ρ.a 5100++_=_›,‹ρ.a 4700++_=_›,‹ρ.a 4300++_=_›,‹ρ.a 3900++_=_›,‹ρ.a 3500++_=_›,‹ρ.a 3100++_=_›,hnil,e]
    unfold Ts jrj Cs
    rw[j8s,j7w,qfk,qj6,j18]
    refine congrArg (fun (s:St)=>(Sf (ρ.i 21) (ρ.i 22) (ρ.a 5) (Ci (ρ.i 30)) s).t++ [255,217]) ?_
    rw[j0c]
    simp only[List.append_assoc,List.nil_append,List.take_zero,Int.toNat_zero,List.drop_zero]
    rfl
theorem jqc{l P:List Int}{s n m:Nat}(hl:s+n+m≤l.length)(hp:n+m≤P.length):Cb (Cb l s (P.take n)) (s+n) ((P.drop n).take m)=Cb l s (P.take (n+m)):=by
  have e0:(P.take n).length=n:=by rw[List.length_take];omega
  have e1:((P.drop n).take m).length=m:=by rw[List.length_take,List.length_drop];omega
  have e2:(P.take (n+m)).length=n+m:=by rw[List.length_take];omega
  have h1:(Cb l s (P.take n)).take (s+n)=l.take s++P.take n:=Hr _ _ _ _ (by omega) (by omega)
  have h2:(Cb l s (P.take n)).drop (s+n+m)=l.drop (s+(n+m)):=by
    unfold Cb
    rw[e0,←List.append_assoc,List.drop_append,List.drop_drop]
    have:(l.take s++P.take n).length=s+n:=by rw[List.length_append,List.length_take,e0];omega
    rw[this,List.drop_eq_nil_of_le (by omega),List.nil_append]
    congr 1;omega
  show (Cb l s (P.take n)).take (s+n)++(_++(Cb l s (P.take n)).drop (s+n+((P.drop n).take m).length))=l.take s++(P.take (n+m)++l.drop (s+(P.take (n+m)).length))
  rw[e1,h2,h1,e2,List.take_add,List.append_assoc,List.append_assoc]
def j8u:VC:=
 let t0:T:=.lit 0
 let t1:T:=.mul (.iv 1000) (.iv 21)
 let t2:T:=.add t1 (.iv 21)
 let t3:T:=.mn t1 (.iv 20)
 let t4:T:=.ite (.eq (.iv 9) t3) t0 t3
 let t6:T:=.mn (.sub t2 t1) (.sub (.iv 20) t3)
 let t7:T:=.ite (.eq (.iv 20) t1) (.iv 26) (.add (.iv 26) t1)
 let t8:T:=.splice (.av 4) (.iv 26) (.cut (.av 5) t0 t1)
 let t9:T:=.add (.iv 1000) (.lit 1)
 (.need [(.aeq (.splice (.av 4) (.iv 26) (.cut (.av 5) t0 (.mul t0 (.iv 21)))) (.av 4)),(.le t0 t0),(.le t0 (.iv 22))] (.any 1000 1000000000 [(.le t0 (.iv 1000)),(.le (.iv 1000) (.iv 22))] (.cond (.lt (.iv 1000) (.iv 22)) (.need [(.le (.lit (-9223372036854775808)) t1),(.le t1 (.lit 9223372036854775807))] (.need [(.le t0 (.iv 20))] (.need [(.le (.lit (-9223372036854775808)) t2),(.le t2 (.lit 9223372036854775807))] (.need [(.le (.iv 20) (.iv 20)),(.le t0 t2),(.le t2 (.iv 20)),(.le t0 t1),(.le t1 t2)] (.need [(.le t0 (.iv 9)),(.le (.iv 9) (.iv 9)),(.le t0 t3),(.le t3 (.iv 20)),(.le t0 (.iv 9))] (.need [(.le t0 t4),(.le t0 t6),(.le (.add t4 t6) (.len (.av 5))),(.le t0 (.sub t2 t1)),(.le t0 (.sub (.iv 20) t3)),(.le t0 t7),(.le (.add t7 t6) (.len t8))] (.need [(.le (.lit (-9223372036854775808)) t9),(.le t9 (.lit 9223372036854775807))] (.need [(.aeq (.splice (.av 4) (.iv 26) (.cut (.av 5) t0 (.mul t9 (.iv 21)))) (.splice t8 t7 (.cut (.av 5) t4 t6))),(.le t0 t9),(.le t9 (.iv 22)),(.lt t0 (.sub (.iv 22) (.iv 1000))),(.lt (.sub (.iv 22) t9) (.sub (.iv 22) (.iv 1000)))] .done)))))))) (.need [(.aeq (.splice (.av 4) (.iv 26) (.av 5)) t8)] .done))))
theorem qlz:Dd (Db Tryz.prog Jt Jq ⟨j8i,Jd⟩ 100000 29 j2v) j8u=true:=by kernel_rfl
theorem j36:Cf Tryz.prog Z 29 j2v:=by
  refine Bf Cq Cn qlz fun ρ h=> ?_
  simp only[j2v,Gl,z0,Bi,Di,List.flatMap_cons,List.flatMap_nil,List.append_nil,List.append_assoc,List.cons_append,List.nil_append,and_true,↓qA,qB,and_true,implies_true,T.I,T.A,T.B,VC.sem] at h
  obtain ⟨h1,h2,h3,h4,h5,h6,h7,h8,h9,h10⟩:=h
  have hY: ∀y:Int,0≤y→y<ρ.i 22→0≤y*ρ.i 21∧y*ρ.i 21+ρ.i 21≤ρ.i 20∧(y+1)*ρ.i 21=y*ρ.i 21+ρ.i 21∧ρ.i 20≤4294836225:=by
    intro y a b
    have g1:(y+1)*ρ.i 21=y*ρ.i 21+ρ.i 21:=by rw[Int.add_mul,Int.one_mul]
    have g2:(y+1)*ρ.i 21≤ρ.i 22*ρ.i 21:=Int.mul_le_mul_of_nonneg_right (by omega) (by omega)
    have g3:ρ.i 22*ρ.i 21≤65535*65535:=Int.mul_le_mul (by omega) (by omega) (by omega) (by omega)
    have g4:0≤y*ρ.i 21:=Int.mul_nonneg a (by omega)
    rw[Int.mul_comm (ρ.i 22)] at g2 g3
    omega
  have t0:(0*ρ.i 21).toNat=0:=by rw[Int.zero_mul];rfl
  have hM: ∀y:Int,0≤y→y<ρ.i 22→min (y*ρ.i 21) (ρ.i 20)=y*ρ.i 21∧min (y*ρ.i 21+ρ.i 21-y*ρ.i 21) (ρ.i 20-y*ρ.i 21)=ρ.i 21∧(bif ieq (ρ.i 9) (y*ρ.i 21) then 0 else y*ρ.i 21)=y*ρ.i 21∧(bif ieq (ρ.i 20) (y*ρ.i 21) then 0 else y*ρ.i 21)=y*ρ.i 21:=by
    intro y a b
    obtain ⟨y0,y1,y2,y3⟩:=hY y a b
    rw[Dk,Dk,if_neg (by omega),if_neg (by omega)]
    omega
  simp only[j8u,Gl,↓qA,qB,and_true,implies_true,T.I,T.A,T.B,VC.sem,t0,ja1,List.take_zero]
  (repeat' (first|with_reducible exact True.intro|with_reducible refine And.intro ?_ ?_|intro _))<;>(try omega)
  · exact Pl _ _
  · have:=hY (ρ.i 1000) (by omega) (by omega);omega
  · have:=hY (ρ.i 1000) (by omega) (by omega);omega
  · have:=hY (ρ.i 1000) (by omega) (by omega);omega
  · have:=hY (ρ.i 1000) (by omega) (by omega);omega
  · have:=hY (ρ.i 1000) (by omega) (by omega);omega
  · have:=hY (ρ.i 1000) (by omega) (by omega);omega
  · have:=hY (ρ.i 1000) (by omega) (by omega)
    obtain ⟨m1,m2,m3,m4⟩:=hM (ρ.i 1000) (by omega) (by omega)
    rw[m1,m3];omega
  · have:=hY (ρ.i 1000) (by omega) (by omega)
    obtain ⟨m1,m2,m3,m4⟩:=hM (ρ.i 1000) (by omega) (by omega)
    rw[m1,m2,m3];omega
  · have:=hY (ρ.i 1000) (by omega) (by omega)
    rw[Dk,if_neg (by omega)];omega
  · have:=hY (ρ.i 1000) (by omega) (by omega)
    obtain ⟨m1,m2,m3,m4⟩:=hM (ρ.i 1000) (by omega) (by omega)
    rw[Dk,if_neg (by omega),m1,m2,Ev _ _ _ (by rw[List.length_take];omega)];omega
  · have:=hY (ρ.i 1000) (by omega) (by omega)
    obtain ⟨m1,m2,m3,m4⟩:=hM (ρ.i 1000) (by omega) (by omega)
    rw[Dk,if_neg (by omega),m1,m2,m3,show (ρ.i 26+ρ.i 1000*ρ.i 21).toNat=(ρ.i 26).toNat+(ρ.i 1000*ρ.i 21).toNat from by omega,jqc (by omega) (by omega),show (ρ.i 1000*ρ.i 21).toNat+(ρ.i 21).toNat=((ρ.i 1000+1)*ρ.i 21).toNat from by omega]
  · have e:ρ.i 1000=ρ.i 22:=by omega
    rw[e,Int.mul_comm,←h5,List.take_of_length_le (by omega)]
theorem j4o: ∀f s,qh3 Tryz.prog f=some s→Ei Tryz.prog Z f s:=by
  intro f s h
  refine Sj jcn Hq (fun f s h=> ?_) 1000 5 f s h
  split at h
  · cases h;exact Dq jq7
  · cases h;exact Dq j36
  · cases h
theorem j1e: ∀f s,jze f=some s→Dw Tryz.prog Z f s:=by
  intro f s h
  unfold jze at h
  split at h
  · cases h;exact Ce j2x
  · cases h
def qip:VC:=
 let t0:T:=.lit (-9223372036854775808)
 let t1:T:=.lit 0
 let t2:T:=.ite (.lt (.iv 21) t1) t1 (.iv 21)
 let t3:T:=.ite (.lt (.iv 21) t1) (.iv 21) t1
 let t4:T:=.sub t2 t3
 let t5:T:=.lit 9223372036854775807
 let t6:T:=.ite (.lt (.iv 22) t1) t1 (.iv 22)
 let t7:T:=.ite (.lt (.iv 22) t1) (.iv 22) t1
 let t8:T:=.sub t6 t7
 let t9:T:=.lit 1
 let t10:T:=.add t2 t9
 let t11:T:=.tdiv t10 (.lit 2)
 let t12:T:=.tdiv t3 (.lit 2)
 let t13:T:=.sub t11 t12
 let t14:T:=.add t6 t9
 let t15:T:=.tdiv t14 (.lit 2)
 let t16:T:=.tdiv t7 (.lit 2)
 let t17:T:=.sub t15 t16
 let t18:T:=.mul (.mul t9 t4) t8
 let t19:T:=.mul (.lit 2) t13
 let t20:T:=.mul t19 t17
 let t21:T:=.add t18 t20
 let t22:T:=.mul t4 t8
 let t23:T:=.mul t1 t13
 let t24:T:=.mul t23 t17
 let t25:T:=.add t22 t24
 let t26:T:=.mul t9 t13
 let t27:T:=.mul t26 t17
 let t28:T:=.add t22 t27
 let t29:T:=.add t22 t20
 let t30:T:=.le t1 t25
 let t33:T:=.tdiv (.add (.iv 21) t9) (.lit 2)
 let t34:T:=.tdiv (.add (.iv 22) t9) (.lit 2)
 let t37:T:=.sub t28 t25
 let t39:T:=.ite (.eq t28 t25) t1 t25
 let t40:T:=.splice (.rep t29 t1) t1 (.av 5)
 let t42:T:=.sub t29 t28
 let t43:T:=.ite (.eq t29 t28) t1 t28
 let t44:T:=.splice t40 t39 (.av 6)
 let t47:T:=.splice t44 t43 (.av 7)
 (.need [(.le t0 t4),(.le t4 t5)] (.need [(.le t0 t8),(.le t8 t5)] (.need [(.le t0 t10),(.le t10 t5)] (.need [(.le t0 t11),(.le t11 t5)] (.need [(.le t0 t12),(.le t12 t5)] (.need [(.le t0 t13),(.le t13 t5)] (.need [(.le t0 t14),(.le t14 t5)] (.need [(.le t0 t15),(.le t15 t5)] (.need [(.le t0 t16),(.le t16 t5)] (.need [(.le t0 t17),(.le t17 t5)] (.need [(.le t9 t9),(.le t9 (.lit 2)),(.le t9 t4),(.le t4 (.lit 65535)),(.le t9 t8),(.le t8 (.lit 65535))] (.need [(.le (.lit 2) (.lit 2)),(.le t9 t13),(.le t13 (.lit 65535)),(.le t9 t17),(.le t17 (.lit 65535))] (.cond (.lt t18 t1) (.fail "stop") (.cond (.lt t20 t1) (.fail "stop") (.need [(.le t0 t21),(.le t21 t5)] (.cond (.lt t21 t1) (.fail "stop") (.need [(.le t0 t22),(.le t22 t5)] (.need [(.le t0 t23),(.le t23 t5)] (.need [(.le t0 t24),(.le t24 t5)] (.need [(.le t0 t25),(.le t25 t5)] (.need [(.le t0 t26),(.le t26 t5)] (.need [(.le t0 t27),(.le t27 t5)] (.need [(.le t0 t28),(.le t28 t5)] (.need [(.le t0 t19),(.le t19 t5)] (.need [(.le t0 t20),(.le t20 t5)] (.need [(.le t0 t29),(.le t29 t5)] (.need [(.le t1 t29),(.le t29 (.lit 140737488355328))] (.need [t30,(.le t25 t29),t30,(.le t25 t25),t30] (.need [(.le t1 t28),(.le t28 t29),(.le t1 t28),(.le t28 t28),(.le t25 t28)] (.need [(.le t29 t29),(.le t29 t29)] (.need [(.le t0 (.add (.iv 21) t9)),(.le (.add (.iv 21) t9) t5)] (.need [(.le t0 t33),(.le t33 t5)] (.need [(.le t0 (.add (.iv 22) t9)),(.le (.add (.iv 22) t9) t5)] (.need [(.le t0 t34),(.le t34 t5)] (.need [(.eq t4 (.iv 21)),(.eq t25 (.iv 20)),(.eq t25 (.mul t4 (.iv 22))),(.eq (.len (.av 5)) t25),(.le t1 t1),(.le (.add t1 t25) (.len (.rep t29 t1))),(.le (.len (.rep t29 t1)) (.lit 1000000000000)),(.le t25 (.iv 9))] (.need [(.eq t13 t33),(.eq t37 (.iv 24)),(.le t9 t34),(.le t34 (.lit 65535)),(.eq t37 (.mul t13 t34)),(.eq (.len (.av 6)) t37),(.le t1 t39),(.le (.add t39 t37) (.len t40)),(.le (.len t40) (.lit 1000000000000)),(.le t37 (.iv 10))] (.need [(.eq t42 (.iv 27)),(.eq t42 (.mul t13 t34)),(.eq (.len (.av 7)) t42),(.le t1 t43),(.le (.add t43 t42) (.len t44)),(.le (.len t44) (.lit 1000000000000)),(.le t42 (.iv 11))] (.need [(.eq t4 t2),(.eq t1 t7),(.eq t1 t3),(.eq t37 t42),(.eq t37 t42),(.eq (.add t25 t37) t43),(.eq t25 t39),(.le t9 t6),(.le t6 (.lit 65535)),(.eq t25 (.mul t4 t6)),(.eq t13 (.tdiv (.add t4 t9) (.lit 2))),(.eq t37 (.mul t13 t15)),(.eq (.len t47) (.add t25 (.mul (.lit 2) t37))),(.fb 2 t1 (.lit 255) t1 t1 t47 (.alit []) (.alit []) (.alit [])),(.aeq (.alit []) (.alit []))] (.any 1000 9 [(.aeq (.av 1100) (.fa 512 (.iv 30) t4 t6 t1 t47 (.alit []) (.alit []) (.alit []))),(.le (.len (.av 1100)) (.lit 1000000000000))] (.need [(.lt t1 (.len (.av 1100)))] (.any 1400 9 [(.le (.len (.av 1100)) (.iv 1400))] (.need [(.eq (.len (.av 1100)) (.len (.av 1100))),(.aeq (.av 1100) (.fa 512 (.iv 30) (.iv 21) (.iv 22) t1 (.splice (.av 5) (.len (.av 5)) (.splice (.av 6) (.len (.av 6)) (.av 7))) (.alit []) (.alit []) (.alit [])))] .done))))))))))))))))))))))))))))))))))))))))))
theorem w25:Dd (Db Tryz.prog (qh3 Tryz.prog) jze ⟨j8i,Jd⟩ 100000 25 c25) qip=true:=by kernel_rfl
theorem qkm{l a b c:List Int}{n m:Nat}(ha:a.length=n)(hb:b.length=m)(hc:c.length=m)(hl:l.length=n+2*m):Cb (Cb (Cb l 0 a) n b) (n+m) c=a++(b++c):=by
  have e1:(Cb l 0 a).take n=a:=by rw[Hr _ _ _ _ (by omega) (by omega)];rfl
  have l1:(Cb l 0 a).length=n+2*m:=by rw[Ev _ _ _ (by omega),hl]
  have e2:(Cb (Cb l 0 a) n b).take (n+m)=a++b:=by rw[Hr _ _ _ _ (by omega) (by omega),e1]
  have l2:(Cb (Cb l 0 a) n b).length=n+2*m:=by rw[Ev _ _ _ (by omega),l1]
  have l3:(Cb (Cb (Cb l 0 a) n b) (n+m) c).length=n+2*m:=by rw[Ev _ _ _ (by omega),l2]
  have e3:(Cb (Cb (Cb l 0 a) n b) (n+m) c).take (n+2*m)=a++b++c:=by rw[Hr _ _ _ _ (by omega) (by omega),e2]
  rw[List.take_of_length_le (by omega)] at e3
  rw[e3,List.append_assoc]
theorem j1l(q w h:Int)(p:List Int):(0:Int)<(Ts q w h p).length:=by
  unfold Ts
  rw[List.length_append]
  have:([255,217]:List Int).length=2:=rfl
  omega
theorem qcu:Cf Tryz.prog Z 25 c25:=by
  refine Bf j4o j1e w25 fun ρ h=> ?_
  simp only[c25,Gl,hf,Vd,roE,cA,fA,z0,Du,Bi,Di,List.flatMap_cons,List.flatMap_nil,List.append_nil,List.append_assoc,List.cons_append,List.nil_append,and_true,↓qA,qB,and_true,implies_true,T.I,T.A,T.B,VC.sem] at h
  obtain ⟨h1,h2,h3,h4,h5,h6,h7,h8,h9,h10,h11,h12,h13,h14,h15,h16,h17,h18⟩:=h
  have e1:(bif ilt (ρ.i 21) 0 then 0 else ρ.i 21)=ρ.i 21:=by rw[Ea,if_neg (by omega)]
  have e2:(bif ilt (ρ.i 21) 0 then ρ.i 21 else 0)=0:=by rw[Ea,if_neg (by omega)]
  have e3:(bif ilt (ρ.i 22) 0 then 0 else ρ.i 22)=ρ.i 22:=by rw[Ea,if_neg (by omega)]
  have e4:(bif ilt (ρ.i 22) 0 then ρ.i 22 else 0)=0:=by rw[Ea,if_neg (by omega)]
  have e5:(0:Int).tdiv 2=0:=rfl
  rw[td2 (x:=ρ.i 21+1) (by omega),td2 (x:=ρ.i 22+1) (by omega)] at*
  have hq0:0≤ρ.i 21*ρ.i 22:=Int.mul_nonneg (by omega) (by omega)
  have hq1:ρ.i 21*ρ.i 22≤65535*65535:=Int.mul_le_mul (by omega) (by omega) (by omega) (by omega)
  have hc:(ρ.i 21+1)/2*((ρ.i 22+1)/2)≤32768*32768:=Int.mul_le_mul (by omega) (by omega) (by omega) (by omega)
  have hc0:0≤(ρ.i 21+1)/2*((ρ.i 22+1)/2):=Int.mul_nonneg (by omega) (by omega)
  have hk:2*((ρ.i 21+1)/2)*((ρ.i 22+1)/2)=2*((ρ.i 21+1)/2*((ρ.i 22+1)/2)):=Int.mul_assoc _ _ _
  have hq2:1≤(ρ.i 21+1)/2*((ρ.i 22+1)/2):=Int.mul_le_mul (a:=1) (b:=1) (by omega) (by omega) (by omega) (by omega)
  have e6:(bif ieq (ρ.i 21*ρ.i 22+(ρ.i 21+1)/2*((ρ.i 22+1)/2)) (ρ.i 21*ρ.i 22) then 0 else ρ.i 21*ρ.i 22)=ρ.i 21*ρ.i 22:=by rw[Dk,if_neg (by omega)]
  have e7:(bif ieq (ρ.i 21*ρ.i 22+2*((ρ.i 21+1)/2*((ρ.i 22+1)/2))) (ρ.i 21*ρ.i 22+(ρ.i 21+1)/2*((ρ.i 22+1)/2)) then 0 else ρ.i 21*ρ.i 22+(ρ.i 21+1)/2*((ρ.i 22+1)/2))=ρ.i 21*ρ.i 22+(ρ.i 21+1)/2*((ρ.i 22+1)/2):=by rw[Dk,if_neg (by omega)]
  have e8:(ρ.i 21*ρ.i 22+(ρ.i 21+1)/2*((ρ.i 22+1)/2)).toNat=(ρ.i 21*ρ.i 22).toNat+((ρ.i 21+1)/2*((ρ.i 22+1)/2)).toNat:=by omega
  have S3:=qkm (l:=List.replicate (ρ.i 21*ρ.i 22+2*((ρ.i 21+1)/2*((ρ.i 22+1)/2))).toNat 0) (a:=ρ.a 5) (b:=ρ.a 6) (c:=ρ.a 7) (n:=(ρ.i 21*ρ.i 22).toNat) (m:=((ρ.i 21+1)/2*((ρ.i 22+1)/2)).toNat) (by omega) (by omega) (by omega) (by rw[List.length_replicate];omega)
  have L1:(Cb (List.replicate (ρ.i 21*ρ.i 22+2*((ρ.i 21+1)/2*((ρ.i 22+1)/2))).toNat 0) 0 (ρ.a 5)).length=(ρ.i 21*ρ.i 22+2*((ρ.i 21+1)/2*((ρ.i 22+1)/2))).toNat:=by rw[Ev _ _ _ (by rw[List.length_replicate];omega),List.length_replicate]
  have L2:(Cb (Cb (List.replicate (ρ.i 21*ρ.i 22+2*((ρ.i 21+1)/2*((ρ.i 22+1)/2))).toNat 0) 0 (ρ.a 5)) (ρ.i 21*ρ.i 22).toNat (ρ.a 6)).length=(ρ.i 21*ρ.i 22+2*((ρ.i 21+1)/2*((ρ.i 22+1)/2))).toNat:=by rw[Ev _ _ _ (by rw[L1];omega),L1]
  have g0:=j1l (ρ.i 30) (ρ.i 21) (ρ.i 22)
  simp only[qip,↓qA,qB,and_true,implies_true,T.I,T.A,T.B,VC.sem,e1,e2,e3,e4,e5,td2 (x:=ρ.i 21+1) (by omega),td2 (x:=ρ.i 22+1) (by omega),Int.sub_zero,Int.one_mul,Int.zero_mul,Int.add_zero,hk,e6,e7,e8,S3,L1,L2,Tm,jl6,List.length_replicate]
  (repeat' (first|with_reducible exact True.intro|with_reducible refine And.intro ?_ ?_|intro _))<;>(try omega)
  · simp only[List.length_append];omega
  · exact Lx h11 (Lx h12 h13)
  · rw[‹ρ.a 1100=_›];exact g0 _
theorem jzs:(Ns.length:Int)=416:=by rw[show Ns.length=416 by kernel_rfl];rfl
theorem j5p:(List.range 12).all (fun i=>decide (Bg Ns (17+i:Int)=Bg (At 0) (i:Int))&&decide (Bg (At 0) (i:Int)≤11)&&decide (0≤Bg (At 0) (i:Int))&&decide (Bg (Hj 0 i) (Bg (At 0) (i:Int))=0))=true:=by decide+kernel
theorem j4h:(List.range 162).all (fun i=>decide (Bg Ns (46+i:Int)=Bg (At 1) (i:Int))&&decide (Bg (At 1) (i:Int) % 16≤10)&&decide (0≤Bg (At 1) (i:Int))&&decide (Bg (At 1) (i:Int)≤255)&&decide (Bg (Hj 1 i) (Bg (At 1) (i:Int))=0))=true:=by decide+kernel
theorem j2d:(List.range 12).all (fun i=>decide (Bg Ns (225+i:Int)=Bg (At 2) (i:Int))&&decide (Bg (At 2) (i:Int)≤11)&&decide (0≤Bg (At 2) (i:Int))&&decide (Bg (Hj 2 i) (Bg (At 2) (i:Int))=0))=true:=by decide+kernel
theorem j48:(List.range 162).all (fun i=>decide (Bg Ns (254+i:Int)=Bg (At 3) (i:Int))&&decide (Bg (At 3) (i:Int) % 16≤10)&&decide (0≤Bg (At 3) (i:Int))&&decide (Bg (At 3) (i:Int)≤255)&&decide (Bg (Hj 3 i) (Bg (At 3) (i:Int))=0))=true:=by decide+kernel
theorem jbu:((At 2).length:Int)=12:=rfl
theorem jbc:((At 3).length:Int)=162:=by rw[show (At 3).length=162 by kernel_rfl];rfl
def j6n:VC:=
 let t0:T:=.lit 0
 let t1:T:=.len (.alit Ns)
 let t2:T:=.lit 1
 let t3:T:=.lit 12
 let t4:T:=.lit 256
 let t5:T:=.rep t4 t0
 let t6:T:=.alit []
 let t7:T:=.fa 310 t0 t0 t0 t0 t6 t6 t6 t6
 let t8:T:=.len (.av 1000)
 let t9:T:=.get (.alit Ns) (.add (.lit 17) (.iv 1000))
 let t10:T:=.lit (-9223372036854775808)
 let t11:T:=.lit 9223372036854775807
 let t12:T:=.le t2 t2
 let t13:T:=.add (.iv 1000) t2
 let t14:T:=.set (.av 1001) t9 t2
 let t15:T:=.splice (.av 1000) t8 (.set (.alit [0]) t0 t9)
 let t16:T:=.sub (.iv 10) (.lit 29)
 let t17:T:=.lit 162
 let t18:T:=.fa 311 t0 t0 t0 t0 t6 t6 t6 t6
 let t19:T:=.len (.av 1401)
 let t20:T:=.get (.alit Ns) (.add (.lit 46) (.iv 1401))
 let t21:T:=.add (.iv 1401) t2
 let t22:T:=.set (.av 1402) t20 t2
 let t23:T:=.splice (.av 1401) t19 (.set (.alit [0]) t0 t20)
 let t24:T:=.sub t16 (.lit 179)
 let t26:T:=.fa 312 t0 t0 t0 t0 t6 t6 t6 t6
 let t27:T:=.len (.av 1802)
 let t28:T:=.get (.alit Ns) (.add (.lit 225) (.iv 1802))
 let t29:T:=.add (.iv 1802) t2
 let t30:T:=.set (.av 1803) t28 t2
 let t31:T:=.splice (.av 1802) t27 (.set (.alit [0]) t0 t28)
 let t32:T:=.sub t24 (.lit 29)
 let t34:T:=.fa 313 t0 t0 t0 t0 t6 t6 t6 t6
 let t35:T:=.len (.av 2203)
 let t36:T:=.get (.alit Ns) (.add (.lit 254) (.iv 2203))
 let t37:T:=.add (.iv 2203) t2
 let t38:T:=.set (.av 2204) t36 t2
 let t39:T:=.splice (.av 2203) t35 (.set (.alit [0]) t0 t36)
 let t40:T:=.rep t2 t0
 let t41:T:=.len t40
 (.need [(.lt t0 t1)] (.need [(.lt t2 t1)] (.need [(.lt (.lit 2) t1)] (.need [(.lt (.lit 3) t1)] (.need [(.lt (.lit 4) t1)] (.need [(.lt (.lit 5) t1)] (.need [(.lt (.lit 6) t1)] (.need [(.lt (.lit 7) t1)] (.need [(.lt (.lit 8) t1)] (.need [(.lt (.lit 9) t1)] (.need [(.lt (.lit 10) t1)] (.need [(.lt (.lit 11) t1)] (.need [(.lt t3 t1)] (.need [(.lt (.lit 13) t1)] (.need [(.lt (.lit 14) t1)] (.need [(.lt (.lit 15) t1)] (.need [(.lt (.lit 16) t1)] (.need [(.le t0 (.iv 10)),(.le (.iv 10) (.iv 10)),(.le (.lit 29) (.iv 10)),(.le t0 (.iv 10)),(.lt (.lit 17) (.iv 10))] (.need [(.le t0 t0),(.le t0 t3),(.eq (.len t5) t4),(.eq (.len t6) t0),(.aeq t6 (.cut t7 t0 t0)),(.aeq t5 (.fa 413 t0 t0 t0 t0 t6 t6 t6 t6))] (.any 1000 2 [(.le t0 (.iv 1000)),(.le (.iv 1000) t3),(.eq (.len (.av 1001)) t4),(.eq t8 (.iv 1000)),(.aeq (.av 1000) (.cut t7 t0 (.iv 1000))),(.aeq (.av 1001) (.fa 413 t0 (.iv 1000) t0 t0 t6 t6 t6 t6))] (.cond (.lt (.iv 1000) t3) (.need [(.lt (.add (.lit 17) (.iv 1000)) t1)] (.need [(.le t0 t9),(.lt t9 t4)] (.cond (.not (.eq (.get (.av 1001) t9) t0)) (.fail "leaf fit") (.cond (.lt (.lit 11) t9) (.fail "leaf fit") (.need [(.le t10 t9),(.le t9 t11)] (.need [t12,(.le (.add t8 t2) (.lit 1099511627776))] (.any 1400 3 [] (.need [(.le t10 t13),(.le t13 t11)] (.need [(.le t0 t13),(.le t13 t3),(.eq (.len t14) t4),(.eq (.len t15) t13),(.aeq t15 (.cut t7 t0 t13)),(.aeq t14 (.fa 413 t0 t13 t0 t0 t6 t6 t6 t6)),(.lt t0 (.sub t3 (.iv 1000))),(.lt (.sub t3 t13) (.sub t3 (.iv 1000)))] .done))))))))) (.need [(.lt t0 t8)] (.any 1400 2 [(.le t8 (.iv 1400))] (.need [(.lt (.lit 29) (.iv 10))] (.need [(.lt (.lit 29) t1)] (.need [(.lt (.lit 30) t1)] (.need [(.lt (.lit 31) t1)] (.need [(.lt (.lit 32) t1)] (.need [(.lt (.lit 33) t1)] (.need [(.lt (.lit 34) t1)] (.need [(.lt (.lit 35) t1)] (.need [(.lt (.lit 36) t1)] (.need [(.lt (.lit 37) t1)] (.need [(.lt (.lit 38) t1)] (.need [(.lt (.lit 39) t1)] (.need [(.lt (.lit 40) t1)] (.need [(.lt (.lit 41) t1)] (.need [(.lt (.lit 42) t1)] (.need [(.lt (.lit 43) t1)] (.need [(.lt (.lit 44) t1)] (.need [(.lt (.lit 45) t1)] (.need [(.le t0 t16),(.le t16 t16),(.le (.lit 179) t16),(.le t0 t16),(.lt (.lit 17) t16)] (.need [(.le t0 t17),(.aeq t6 (.cut t18 t0 t0)),(.aeq t5 (.fa 413 t2 t0 t0 t0 t6 t6 t6 t6))] (.any 1401 4 [(.le t0 (.iv 1401)),(.le (.iv 1401) t17),(.eq (.len (.av 1402)) t4),(.eq t19 (.iv 1401)),(.aeq (.av 1401) (.cut t18 t0 (.iv 1401))),(.aeq (.av 1402) (.fa 413 t2 (.iv 1401) t0 t0 t6 t6 t6 t6))] (.cond (.lt (.iv 1401) t17) (.need [(.lt (.add (.lit 46) (.iv 1401)) t1)] (.need [(.le t0 t20),(.lt t20 t4)] (.cond (.not (.eq (.get (.av 1402) t20) t0)) (.fail "leaf fit") (.cond (.lt (.lit 10) (.bits .and .u8 t20 (.lit 15))) (.fail "leaf fit") (.need [(.le t10 t20),(.le t20 t11)] (.need [t12,(.le (.add t19 t2) (.lit 1099511627776))] (.any 1801 5 [] (.need [(.le t10 t21),(.le t21 t11)] (.need [(.le t0 t21),(.le t21 t17),(.eq (.len t22) t4),(.eq (.len t23) t21),(.aeq t23 (.cut t18 t0 t21)),(.aeq t22 (.fa 413 t2 t21 t0 t0 t6 t6 t6 t6)),(.lt t0 (.sub t17 (.iv 1401))),(.lt (.sub t17 t21) (.sub t17 (.iv 1401)))] .done))))))))) (.need [(.lt t0 t19)] (.any 1801 4 [(.le t19 (.iv 1801))] (.need [(.lt (.lit 179) t16)] (.need [(.lt (.lit 208) t1)] (.need [(.lt (.lit 209) t1)] (.need [(.lt (.lit 210) t1)] (.need [(.lt (.lit 211) t1)] (.need [(.lt (.lit 212) t1)] (.need [(.lt (.lit 213) t1)] (.need [(.lt (.lit 214) t1)] (.need [(.lt (.lit 215) t1)] (.need [(.lt (.lit 216) t1)] (.need [(.lt (.lit 217) t1)] (.need [(.lt (.lit 218) t1)] (.need [(.lt (.lit 219) t1)] (.need [(.lt (.lit 220) t1)] (.need [(.lt (.lit 221) t1)] (.need [(.lt (.lit 222) t1)] (.need [(.lt (.lit 223) t1)] (.need [(.lt (.lit 224) t1)] (.need [(.le t0 t24),(.le t24 t24),(.le (.lit 29) t24),(.le t0 t24),(.lt (.lit 17) t24)] (.need [(.aeq t6 (.cut t26 t0 t0)),(.aeq t5 (.fa 413 (.lit 2) t0 t0 t0 t6 t6 t6 t6))] (.any 1802 6 [(.le t0 (.iv 1802)),(.le (.iv 1802) t3),(.eq (.len (.av 1803)) t4),(.eq t27 (.iv 1802)),(.aeq (.av 1802) (.cut t26 t0 (.iv 1802))),(.aeq (.av 1803) (.fa 413 (.lit 2) (.iv 1802) t0 t0 t6 t6 t6 t6))] (.cond (.lt (.iv 1802) t3) (.need [(.lt (.add (.lit 225) (.iv 1802)) t1)] (.need [(.le t0 t28),(.lt t28 t4)] (.cond (.not (.eq (.get (.av 1803) t28) t0)) (.fail "leaf fit") (.cond (.lt (.lit 11) t28) (.fail "leaf fit") (.need [(.le t10 t28),(.le t28 t11)] (.need [t12,(.le (.add t27 t2) (.lit 1099511627776))] (.any 2202 7 [] (.need [(.le t10 t29),(.le t29 t11)] (.need [(.le t0 t29),(.le t29 t3),(.eq (.len t30) t4),(.eq (.len t31) t29),(.aeq t31 (.cut t26 t0 t29)),(.aeq t30 (.fa 413 (.lit 2) t29 t0 t0 t6 t6 t6 t6)),(.lt t0 (.sub t3 (.iv 1802))),(.lt (.sub t3 t29) (.sub t3 (.iv 1802)))] .done))))))))) (.need [(.lt t0 t27)] (.any 2202 6 [(.le t27 (.iv 2202))] (.need [(.lt (.lit 29) t24)] (.need [(.lt (.lit 237) t1)] (.need [(.lt (.lit 238) t1)] (.need [(.lt (.lit 239) t1)] (.need [(.lt (.lit 240) t1)] (.need [(.lt (.lit 241) t1)] (.need [(.lt (.lit 242) t1)] (.need [(.lt (.lit 243) t1)] (.need [(.lt (.lit 244) t1)] (.need [(.lt (.lit 245) t1)] (.need [(.lt (.lit 246) t1)] (.need [(.lt (.lit 247) t1)] (.need [(.lt (.lit 248) t1)] (.need [(.lt (.lit 249) t1)] (.need [(.lt (.lit 250) t1)] (.need [(.lt (.lit 251) t1)] (.need [(.lt (.lit 252) t1)] (.need [(.lt (.lit 253) t1)] (.need [(.le t0 t32),(.le t32 t32),(.le (.lit 179) t32),(.le t0 t32),(.lt (.lit 17) t32)] (.need [(.aeq t6 (.cut t34 t0 t0)),(.aeq t5 (.fa 413 (.lit 3) t0 t0 t0 t6 t6 t6 t6))] (.any 2203 8 [(.le t0 (.iv 2203)),(.le (.iv 2203) t17),(.eq (.len (.av 2204)) t4),(.eq t35 (.iv 2203)),(.aeq (.av 2203) (.cut t34 t0 (.iv 2203))),(.aeq (.av 2204) (.fa 413 (.lit 3) (.iv 2203) t0 t0 t6 t6 t6 t6))] (.cond (.lt (.iv 2203) t17) (.need [(.lt (.add (.lit 254) (.iv 2203)) t1)] (.need [(.le t0 t36),(.lt t36 t4)] (.cond (.not (.eq (.get (.av 2204) t36) t0)) (.fail "leaf fit") (.cond (.lt (.lit 10) (.bits .and .u8 t36 (.lit 15))) (.fail "leaf fit") (.need [(.le t10 t36),(.le t36 t11)] (.need [t12,(.le (.add t35 t2) (.lit 1099511627776))] (.any 2603 9 [] (.need [(.le t10 t37),(.le t37 t11)] (.need [(.le t0 t37),(.le t37 t17),(.eq (.len t38) t4),(.eq (.len t39) t37),(.aeq t39 (.cut t34 t0 t37)),(.aeq t38 (.fa 413 (.lit 3) t37 t0 t0 t6 t6 t6 t6)),(.lt t0 (.sub t17 (.iv 2203))),(.lt (.sub t17 t37) (.sub t17 (.iv 2203)))] .done))))))))) (.need [(.lt t0 t35)] (.any 2603 8 [(.le t35 (.iv 2603))] (.need [(.eq t17 t35),(.eq t17 t19),(.eq t3 t27),(.eq t3 t8),(.aeq t34 (.av 2203)),(.aeq t26 (.av 1802)),(.aeq t18 (.av 1401)),(.aeq t7 (.av 1000)),(.aeq (.fa 303 t0 t0 t0 t0 t6 t6 t6 t6) (.splice t40 t41 (.alit [0,2,1,2,4,4,3,4,7,5,4,4,0,1,2,119]))),(.aeq (.fa 301 t0 t0 t0 t0 t6 t6 t6 t6) (.splice t40 t41 (.alit [0,2,1,3,3,2,4,3,5,5,4,4,0,0,1,125]))),(.aeq (.fa 302 t0 t0 t0 t0 t6 t6 t6 t6) (.splice t40 t41 (.alit [0,3,1,1,1,1,1,1,1,1,1,0,0,0,0,0]))),(.aeq (.fa 300 t0 t0 t0 t0 t6 t6 t6 t6) (.splice t40 t41 (.alit [0,1,5,1,1,1,1,1,1,0,0,0,0,0,0,0])))] .done))))))))))))))))))))))))))))))))))))))))))))))))))))))))))))))))))))))))))))))))))))))))))))))))
theorem qlc:Dd (Db Tryz.prog Jt Jq ⟨jme,Lb⟩ 100000 49 qdj) j6n=true:=by kernel_rfl
set_option maxRecDepth 20000 in
set_option maxHeartbeats 2000000 in
theorem j4w:Cf Tryz.prog Z 49 qdj:=by
  refine Bf Cq Cn qlc fun ρ h=> ?_
  have g1:=Cc h (.le (.lit 416) (.iv 10)) (by kernel_rfl)
  clear h
  simp only[↓qA,qB,and_true,implies_true,T.I,T.A,T.B,VC.sem] at g1
  have A0:0≤ρ.i 1000→ρ.i 1000<12→Bg Ns (17+ρ.i 1000)=Bg (At 0) (ρ.i 1000)∧0≤Bg (At 0) (ρ.i 1000)∧Bg (At 0) (ρ.i 1000)≤11∧Bg (Hj 0 (ρ.i 1000).toNat) (Bg (At 0) (ρ.i 1000))=0:=by
    intro h0 h1
    have:=List.all_eq_true.1 j5p (ρ.i 1000).toNat (List.mem_range.2 (by omega))
    simp only[Bool.and_eq_true,decide_eq_true_eq,Int.toNat_of_nonneg h0] at this
    exact ⟨this.1.1.1,this.1.2,this.1.1.2,this.2⟩
  have A1:0≤ρ.i 1401→ρ.i 1401<162→Bg Ns (46+ρ.i 1401)=Bg (At 1) (ρ.i 1401)∧0≤Bg (At 1) (ρ.i 1401)∧Bg (At 1) (ρ.i 1401)≤255∧Bg (At 1) (ρ.i 1401) % 16≤10∧Bg (Hj 1 (ρ.i 1401).toNat) (Bg (At 1) (ρ.i 1401))=0:=by
    intro h0 h1
    have:=List.all_eq_true.1 j4h (ρ.i 1401).toNat (List.mem_range.2 (by omega))
    simp only[Bool.and_eq_true,decide_eq_true_eq,Int.toNat_of_nonneg h0] at this
    exact ⟨this.1.1.1.1,this.1.1.2,this.1.2,this.1.1.1.2,this.2⟩
  have A2:0≤ρ.i 1802→ρ.i 1802<12→Bg Ns (225+ρ.i 1802)=Bg (At 2) (ρ.i 1802)∧0≤Bg (At 2) (ρ.i 1802)∧Bg (At 2) (ρ.i 1802)≤11∧Bg (Hj 2 (ρ.i 1802).toNat) (Bg (At 2) (ρ.i 1802))=0:=by
    intro h0 h1
    have:=List.all_eq_true.1 j2d (ρ.i 1802).toNat (List.mem_range.2 (by omega))
    simp only[Bool.and_eq_true,decide_eq_true_eq,Int.toNat_of_nonneg h0] at this
    exact ⟨this.1.1.1,this.1.2,this.1.1.2,this.2⟩
  have A3:0≤ρ.i 2203→ρ.i 2203<162→Bg Ns (254+ρ.i 2203)=Bg (At 3) (ρ.i 2203)∧0≤Bg (At 3) (ρ.i 2203)∧Bg (At 3) (ρ.i 2203)≤255∧Bg (At 3) (ρ.i 2203) % 16≤10∧Bg (Hj 3 (ρ.i 2203).toNat) (Bg (At 3) (ρ.i 2203))=0:=by
    intro h0 h1
    have:=List.all_eq_true.1 j48 (ρ.i 2203).toNat (List.mem_range.2 (by omega))
    simp only[Bool.and_eq_true,decide_eq_true_eq,Int.toNat_of_nonneg h0] at this
    exact ⟨this.1.1.1.1,this.1.1.2,this.1.2,this.1.1.1.2,this.2⟩
  simp only[j6n,↓qA,qB,and_true,implies_true,T.I,T.A,T.B,VC.sem,Ck,j7e,j0i,j0z,j86,j71,jzs,Fb,List.length_set,List.length_append,List.length_cons,List.length_nil,List.length_replicate]
  (repeat' (first|with_reducible exact True.intro|with_reducible refine And.intro ?_ ?_|intro _))<;>(try omega)
  · rfl
  · rfl
  · obtain ⟨a,b,c,d⟩:=A0 (by omega) (by omega)
    have hn:= ‹¬Bg (ρ.a 1001) _=0›
    rw[a,‹ρ.a 1001=Hj _ _›] at hn
    exact hn d
  · rw[Hu _ (by omega) (by rw[Om];omega),(A0 (by omega) (by omega)).1,← ‹ρ.a 1000=List.take _ _›]
  · rw[Mx 0 (by omega) (by rw[Om];omega),(A0 (by omega) (by omega)).1,← ‹ρ.a 1001=Hj _ _›]
  · rfl
  · rfl
  · obtain ⟨a,b,c,d,f⟩:=A1 (by omega) (by omega)
    have hn:= ‹¬Bg (ρ.a 1402) _=0›
    rw[a,‹ρ.a 1402=Hj _ _›] at hn
    exact hn f
  · obtain ⟨a,b,c,d,f⟩:=A1 (by omega) (by omega)
    have hn:= ‹10<Dj _ _ _ _›
    rw[a,jjf b c] at hn
    omega
  · rw[Hu _ (by omega) (by rw[Oo];omega),(A1 (by omega) (by omega)).1,← ‹ρ.a 1401=List.take _ _›]
  · rw[show Int.toNat 1=1 from rfl] at*
    rw[Mx 1 (by omega) (by rw[Oo];omega),(A1 (by omega) (by omega)).1,← ‹ρ.a 1402=Hj _ _›]
  · rfl
  · rfl
  · obtain ⟨a,b,c,d⟩:=A2 (by omega) (by omega)
    have hn:= ‹¬Bg (ρ.a 1803) _=0›
    rw[a,‹ρ.a 1803=Hj _ _›] at hn
    exact hn d
  · rw[Hu _ (by omega) (by rw[jbu];omega),(A2 (by omega) (by omega)).1,← ‹ρ.a 1802=List.take _ _›]
  · rw[show Int.toNat 2=2 from rfl] at*
    rw[Mx 2 (by omega) (by rw[jbu];omega),(A2 (by omega) (by omega)).1,← ‹ρ.a 1803=Hj _ _›]
  · rfl
  · rfl
  · obtain ⟨a,b,c,d,f⟩:=A3 (by omega) (by omega)
    have hn:= ‹¬Bg (ρ.a 2204) _=0›
    rw[a,‹ρ.a 2204=Hj _ _›] at hn
    exact hn f
  · obtain ⟨a,b,c,d,f⟩:=A3 (by omega) (by omega)
    have hn:= ‹10<Dj _ _ _ _›
    rw[a,jjf b c] at hn
    omega
  · rw[Hu _ (by omega) (by rw[jbc];omega),(A3 (by omega) (by omega)).1,← ‹ρ.a 2203=List.take _ _›]
  · rw[show Int.toNat 3=3 from rfl] at*
    rw[Mx 3 (by omega) (by rw[jbc];omega),(A3 (by omega) (by omega)).1,← ‹ρ.a 2204=Hj _ _›]
  · have e:= ‹ρ.a 2203=_›
    rw[List.take_of_length_le (by have:=jbc;omega)] at e
    exact e.symm
  · have e:= ‹ρ.a 1802=_›
    rw[List.take_of_length_le (by have:=jbu;omega)] at e
    exact e.symm
  · have e:= ‹ρ.a 1401=_›
    rw[List.take_of_length_le (by have:=Oo;omega)] at e
    exact e.symm
  · have e:= ‹ρ.a 1000=_›
    rw[List.take_of_length_le (by have:=Om;omega)] at e
    exact e.symm
  all_goals rfl
end
end Go.Proofs.YtljjbikbfeigdaaGreatDoor
