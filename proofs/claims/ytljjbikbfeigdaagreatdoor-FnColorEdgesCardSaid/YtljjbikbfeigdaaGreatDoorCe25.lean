/- Part of the proof of FnColorEdgesCardSaid: Contracts of the specification shown: a block's samples, and its exact coefficients. -/
import Derived.Test.YtljjbikbfeigdaaGreatDoorCe24
set_option linter.all false
namespace Go.Proofs.YtljjbikbfeigdaaGreatDoor
noncomputable section
open Go
def qhv:VC:=
 let t0:T:=.lit 0
 let t1:T:=.mul (.lit 8) (.iv 5)
 let t2:T:=.mul (.lit 8) (.iv 6)
 let t3:T:=.fa 90 t1 t2 (.iv 21) (.iv 22) (.av 5) (.alit []) (.alit []) (.alit [])
 let t4:T:=.lit (-9223372036854775808)
 let t5:T:=.lit 9223372036854775807
 let t6:T:=.add t1 (.tmod (.iv 1000) (.lit 8))
 let t7:T:=.add t2 (.tdiv (.iv 1000) (.lit 8))
 let t8:T:=.mul (.mn t7 (.sub (.iv 22) (.lit 1))) (.iv 21)
 let t9:T:=.add t8 (.mn t6 (.sub (.iv 21) (.lit 1)))
 let t10:T:=.get (.av 5) t9
 let t11:T:=.add (.iv 1000) (.lit 1)
 let t12:T:=.set (.av 1000) (.iv 1000) t10
 (.need [(.le t0 t0),(.le t0 (.lit 64)),(.eq (.len (.rep (.lit 64) t0)) (.lit 64)),(.aeq (.cut (.rep (.lit 64) t0) t0 t0) (.cut t3 t0 t0))] (.any 1000 1000000002 [(.le t0 (.iv 1000)),(.le (.iv 1000) (.lit 64)),(.eq (.len (.av 1000)) (.lit 64)),(.aeq (.cut (.av 1000) t0 (.iv 1000)) (.cut t3 t0 (.iv 1000)))] (.cond (.lt (.iv 1000) (.lit 64)) (.need [(.le t4 t1),(.le t1 t5)] (.need [(.le t4 t6),(.le t6 t5)] (.need [(.le t4 (.sub (.iv 21) (.lit 1))),(.le (.sub (.iv 21) (.lit 1)) t5)] (.need [(.le t4 t2),(.le t2 t5)] (.need [(.le t4 (.tdiv (.iv 1000) (.lit 8))),(.le (.tdiv (.iv 1000) (.lit 8)) t5)] (.need [(.le t4 t7),(.le t7 t5)] (.need [(.le t4 (.sub (.iv 22) (.lit 1))),(.le (.sub (.iv 22) (.lit 1)) t5)] (.need [(.le t4 t8),(.le t8 t5)] (.need [(.le t4 t9),(.le t9 t5)] (.need [(.le t0 t9),(.lt t9 (.iv 20))] (.need [(.lt t9 (.len (.av 5)))] (.need [(.le t4 t10),(.le t10 t5)] (.need [(.le t4 t11),(.le t11 t5)] (.need [(.le t0 t11),(.le t11 (.lit 64)),(.eq (.len t12) (.lit 64)),(.aeq (.cut t12 t0 t11) (.cut t3 t0 t11)),(.lt t0 (.sub (.lit 64) (.iv 1000))),(.lt (.sub (.lit 64) t11) (.sub (.lit 64) (.iv 1000)))] .done)))))))))))))) (.need [(.aeq t3 (.av 1000))] .done))))
theorem w21:Dd (Db Tryz.prog Jt Jq ⟨j8a,fun _=>false⟩ 100000 21 c21) qhv=true:=by kernel_rfl
def qho:VC:=
 let t0:T:=.lit 8
 let t1:T:=.lit 0
 let t2:T:=.alit []
 let t3:T:=.lit 64
 let t4:T:=.mul t0 (.iv 1000)
 let t5:T:=.fa 600 t4 t1 t1 t1 (.av 0) t2 t2 t2
 let t6:T:=.iv 1800
 let t7:T:=.lit (-9223372036854775808)
 let t8:T:=.lit 9223372036854775807
 let t9:T:=.add t4 (.iv 1400)
 let t10:T:=.add (.mul t6 t0) (.iv 1400)
 let t11:T:=.fa 47 t1 t1 t1 t1 t2 t2 t2 t2
 let t13:T:=.add t4 t6
 let t14:T:=.sub (.get (.av 0) t13) (.lit 128)
 let t15:T:=.mul (.get t11 t10) t14
 let t16:T:=.fa 600 t9 t6 t1 t1 (.av 0) t2 t2 t2
 let t17:T:=.add (.get t16 t9) t15
 let t18:T:=.add t6 (.lit 1)
 let t19:T:=.le t7 t18
 let t20:T:=.le t18 t8
 let t21:T:=.le t1 t18
 let t22:T:=.lt (.sub t0 t18) (.sub t0 t6)
 let t23:T:=.add (.iv 1400) (.lit 1)
 let t25:T:=.lt (.sub t0 t23) (.sub t0 (.iv 1400))
 let t26:T:=.add (.iv 1000) (.lit 1)
 let t27:T:=.mul t0 (.iv 1400)
 let t28:T:=.fa 601 t27 t1 t1 t1 (.av 0) t2 t2 t2
 let t29:T:=.add t27 t6
 let t30:T:=.add (.mul (.iv 2200) t0) (.iv 1400)
 let t31:T:=.add (.mul t0 (.iv 2200)) t6
 let t32:T:=.mul (.get t11 t30) (.get t5 t31)
 let t33:T:=.fa 601 t29 (.iv 2200) t1 t1 (.av 0) t2 t2 t2
 let t34:T:=.add (.get t33 t29) t32
 let t35:T:=.add (.iv 2200) (.lit 1)
 let t36:T:=.fa 45 t1 t1 t1 t1 t2 t2 t2 t2
 let t37:T:=.get (.cut t36 t1 t3) t6
 let t38:T:=.fa 602 t6 t1 t1 t1 (.av 0) t2 t2 t2
 (.need [(.aeq (.fa 600 (.mul t0 t1) t1 t1 t1 (.av 0) t2 t2 t2) (.rep t3 t1)),(.le t1 t1),(.le t1 t0)] (.any 1000 1000000004 [(.le t1 (.iv 1000)),(.le (.iv 1000) t0)] (.cond (.lt (.iv 1000) t0) (.need [(.aeq (.fa 600 (.add t4 t1) t1 t1 t1 (.av 0) t2 t2 t2) t5)] (.any 1400 1000000004 [(.le t1 (.iv 1400)),(.le (.iv 1400) t0)] (.cond (.lt (.iv 1400) t0) (.any 1800 1000000004 [(.le t1 t6),(.le t6 t0)] (.cond (.lt t6 t0) (.need [(.le t7 t4),(.le t4 t8)] (.need [(.le t7 t9),(.le t9 t8)] (.need [(.le t1 t9),(.lt t9 t3)] (.need [(.le t1 (.mul t6 t0))] (.need [(.le t1 t10),(.lt t10 (.len t11))] (.need [(.le t7 t13),(.le t13 t8)] (.need [(.le t1 t13),(.lt t13 t3)] (.need [(.le t7 t14),(.le t14 t8)] (.need [(.le t7 t15),(.le t15 t8)] (.need [(.le t7 t17),(.le t17 t8)] (.need [t19,t20] (.need [(.aeq (.fa 600 t9 t18 t1 t1 (.av 0) t2 t2 t2) (.set t16 t9 t17)),t21,(.le t18 t0),(.lt t1 (.sub t0 t6)),t22] .done)))))))))))) (.need [(.le t7 t23),(.le t23 t8)] (.need [(.aeq (.fa 600 (.add t4 t23) t1 t1 t1 (.av 0) t2 t2 t2) t16),(.le t1 t23),(.le t23 t0),(.lt t1 (.sub t0 (.iv 1400))),t25] .done)))) (.need [(.le t7 t26),(.le t26 t8)] (.need [(.aeq (.fa 600 (.mul t0 t26) t1 t1 t1 (.av 0) t2 t2 t2) (.fa 600 t9 t1 t1 t1 (.av 0) t2 t2 t2)),(.le t1 t26),(.le t26 t0),(.lt t1 (.sub t0 (.iv 1000))),(.lt (.sub t0 t26) (.sub t0 (.iv 1000)))] .done))))) (.need [(.aeq (.fa 601 (.mul t0 t1) t1 t1 t1 (.av 0) t2 t2 t2) (.rep t3 t1))] (.any 1400 1000000004 [(.le t1 (.iv 1400)),(.le (.iv 1400) t0)] (.cond (.lt (.iv 1400) t0) (.need [(.aeq (.fa 601 (.add t27 t1) t1 t1 t1 (.av 0) t2 t2 t2) t28)] (.any 1800 1000000004 [(.le t1 t6),(.le t6 t0)] (.cond (.lt t6 t0) (.any 2200 1000000004 [(.le t1 (.iv 2200)),(.le (.iv 2200) t0)] (.cond (.lt (.iv 2200) t0) (.need [(.le t7 t27),(.le t27 t8)] (.need [(.le t7 t29),(.le t29 t8)] (.need [(.le t1 t29),(.lt t29 t3)] (.need [(.le t1 (.mul (.iv 2200) t0))] (.need [(.le t1 t30),(.lt t30 (.len t11))] (.need [(.le t7 (.mul t0 (.iv 2200))),(.le (.mul t0 (.iv 2200)) t8)] (.need [(.le t7 t31),(.le t31 t8)] (.need [(.le t1 t31),(.lt t31 t3)] (.need [(.le t7 t32),(.le t32 t8)] (.need [(.le t7 t34),(.le t34 t8)] (.need [(.le t7 t35),(.le t35 t8)] (.need [(.aeq (.fa 601 t29 t35 t1 t1 (.av 0) t2 t2 t2) (.set t33 t29 t34)),(.le t1 t35),(.le t35 t0),(.lt t1 (.sub t0 (.iv 2200))),(.lt (.sub t0 t35) (.sub t0 (.iv 2200)))] .done)))))))))))) (.need [t19,t20] (.need [(.aeq (.fa 601 (.add t27 t18) t1 t1 t1 (.av 0) t2 t2 t2) t33),t21,(.le t18 t0),(.lt t1 (.sub t0 t6)),t22] .done)))) (.need [(.le t7 t23),(.le t23 t8)] (.need [(.aeq (.fa 601 (.mul t0 t23) t1 t1 t1 (.av 0) t2 t2 t2) (.fa 601 t29 t1 t1 t1 (.av 0) t2 t2 t2)),(.le t1 t23),(.le t23 t0),(.lt t1 (.sub t0 (.iv 1400))),t25] .done))))) (.need [(.le t3 (.len t36))] (.need [(.aeq (.fa 602 t1 t1 t1 t1 (.av 0) t2 t2 t2) (.rep t3 t1)),(.le t1 t3)] (.any 1800 1000000004 [(.le t1 t6),(.le t6 t3)] (.cond (.lt t6 t3) (.need [(.le t1 t37),(.lt t37 t3)] (.need [t19,t20] (.need [(.aeq (.fa 602 t18 t1 t1 t1 (.av 0) t2 t2 t2) (.set t38 t6 (.get t28 t37))),t21,(.le t18 t3),(.lt t1 (.sub t3 t6)),(.lt (.sub t3 t18) (.sub t3 t6))] .done))) (.need [(.aeq (.fa 603 t1 t1 t1 t1 (.av 0) t2 t2 t2) t38)] .done)))))))))))
theorem w22:Dd (Db Tryz.prog Jt Jq ⟨j8a,fun _=>false⟩ 100000 22 c22) qho=true:=by kernel_rfl
theorem qkq{x:Int}(h0:0≤x):x.tdiv 8=x/8∧x.tmod 8=x % 8:=⟨Int.tdiv_eq_ediv_of_nonneg h0,Int.tmod_eq_emod_of_nonneg h0⟩
theorem Xe(l:List Int)(n:Int):l.getD n.toNat 0=Bg l n:=rfl
set_option maxHeartbeats 2000000 in
theorem j93:Cf Tryz.prog Z 21 c21:=by
  refine Bf Cq Cn w21 fun ρ h=> ?_
  simp only[c21,jbb,Du,z0,Bi,Di,List.flatMap_cons,List.flatMap_nil,List.append_nil,List.append_assoc,List.cons_append,List.nil_append,and_true,↓qA,qB,and_true,implies_true,T.I,T.A,T.B,VC.sem] at h
  obtain ⟨h1,h2,h3,h4,h5,h6,h7,h8,h9,h10,h11,h12⟩:=h
  have ha:Bn 0 255 (ρ.a 5)=true:=h7
  have TD:0≤ρ.i 1000→(ρ.i 1000).tdiv 8=ρ.i 1000/8∧(ρ.i 1000).tmod 8=ρ.i 1000 % 8:=qkq
  have IB:0≤ρ.i 1000→ρ.i 1000<64→0≤min (8*ρ.i 6+(ρ.i 1000).tdiv 8) (ρ.i 22-1)*ρ.i 21∧0≤min (8*ρ.i 6+(ρ.i 1000).tdiv 8) (ρ.i 22-1)*ρ.i 21+min (8*ρ.i 5+(ρ.i 1000).tmod 8) (ρ.i 21-1)∧min (8*ρ.i 6+(ρ.i 1000).tdiv 8) (ρ.i 22-1)*ρ.i 21+min (8*ρ.i 5+(ρ.i 1000).tmod 8) (ρ.i 21-1)<(ρ.a 5).length∧((ρ.a 5).length:Int)≤4294836225:=by
    intro g1 g2
    obtain ⟨t1,t2⟩:=TD g1
    rw[t1,t2]
    have:=Sp (X:=min (8*ρ.i 5+ρ.i 1000 % 8) (ρ.i 21-1)) (Y:=min (8*ρ.i 6+ρ.i 1000/8) (ρ.i 22-1)) (w:=ρ.i 21) (h:=ρ.i 22) (by omega) (by omega) (by omega) (by omega)
    have hm:ρ.i 21*ρ.i 22≤65535*65535:=Int.mul_le_mul (by omega) (by omega) (by omega) (by omega)
    omega
  simp only[qhv,jkx,↓qA,qB,and_true,implies_true,T.I,T.A,T.B,VC.sem,ja1,Ou,Xe]
  (repeat' (first|with_reducible exact True.intro|with_reducible refine And.intro ?_ ?_|intro _))<;>(try omega)
  · rw[List.length_replicate];rfl
  · rw[List.take_zero,List.take_zero]
  · have ib:=IB (by omega) (by omega)
    have:=Ct ha ib.2.1 (by omega)
    omega
  · have ib:=IB (by omega) (by omega)
    have:=Ct ha ib.2.1 (by omega)
    omega
  · rw[List.length_set];assumption
  · obtain ⟨t1,t2⟩:=TD (by omega)
    have hg:=jel (px:=8*ρ.i 5) (py:=8*ρ.i 6) (wide:=ρ.i 21) (high:=ρ.i 22) (pix:=ρ.a 5) (y:=ρ.i 1000/8) (x:=ρ.i 1000 % 8) (by omega) (by omega) (by omega) (by omega)
    rw[show 8*(ρ.i 1000/8)+ρ.i 1000 % 8=ρ.i 1000 from by omega] at hg
    rw[t1,t2,show (ρ.i 1000+1).toNat=(ρ.i 1000).toNat+1 from by omega]
    exact Sa ‹_› (by omega) hg
  · have e:= ‹List.take (ρ.i 1000).toNat (ρ.a 1000)=_›
    rw[List.take_of_length_le (by omega),List.take_of_length_le (by rw[Fw];omega)] at e
    exact e.symm
theorem qcn(n x:Int)(a:List Int):Z.fa 600 n x 0 0 a [] [] []=Pb (Us a) n x:=id rfl
theorem qb6(n x:Int)(a:List Int):Z.fa 601 n x 0 0 a [] [] []=Pb (Ww (Pg a)) n x:=id rfl
theorem qas(n:Int)(a:List Int):Z.fa 602 n 0 0 0 a [] [] []=exP n a:=id rfl
theorem Sx(a:List Int):Z.fa 603 0 0 0 0 a [] [] []=My a:=id rfl
theorem qja:Z.fa 47 0 0 0 0 [] [] [] []=Fx:=id rfl
theorem qm1:Z.fa 45 0 0 0 0 [] [] [] []=Hl:=id rfl
theorem j5b:List.take (Int.toNat 64) Hl=Hl:=by kernel_rfl
theorem jis:Fx.length=64:=by kernel_rfl
theorem j4b:Hl.length=64:=by kernel_rfl
set_option maxHeartbeats 2000000 in
theorem qd8:Cf Tryz.prog Z 22 c22:=by
  refine Bf Cq Cn w22 fun ρ h=> ?_
  simp only[c22,Zd,Du,z0,Bi,Di,List.flatMap_cons,List.flatMap_nil,List.append_nil,List.append_assoc,List.cons_append,List.nil_append,and_true,↓qA,qB,and_true,implies_true,T.I,T.A,T.B,VC.sem] at h
  obtain ⟨h1,h2,h3⟩:=h
  have ha:Bn 0 255 (ρ.a 0)=true:=h2
  have hs:=De ha
  simp only[qho,hfT,cfT,exT,fA,↓qA,qB,and_true,implies_true,T.I,T.A,T.B,VC.sem,qcn,qb6,qas,Sx,qja,qm1,j5b,Xe]
  have e8:0≤ρ.i 1000→ρ.i 1000≤8→ ¬ρ.i 1000<8→Pb (Us (ρ.a 0)) (8*ρ.i 1000) 0=Pg (ρ.a 0):=by
    intro a b c
    unfold Pg
    rw[show 8*ρ.i 1000=64 from by omega]
  have hb:=jn8 hs
  (repeat' (first|with_reducible exact True.intro|with_reducible refine And.intro ?_ ?_|intro _))<;>(try omega)
  · exact jgk (fun i=>rfl)
  · rw[Int.add_zero]
  · rw[jis];omega
  · have:=Dy hs (by decide) (by decide) (8*ρ.i 1000+ρ.i 1800);omega
  · have:=Dy hs (by decide) (by decide) (8*ρ.i 1000+ρ.i 1800);omega
  · have b:=Jw (ρ.i 1800*8+ρ.i 1400)
    have c:=Dy hs (by decide) (by decide) (8*ρ.i 1000+ρ.i 1800)
    have d:=He (c:=Bg (ρ.a 0) (8*ρ.i 1000+ρ.i 1800)-128) (C:=128) b.1 b.2 (by omega) (by omega)
    omega
  · have b:=Jw (ρ.i 1800*8+ρ.i 1400)
    have c:=Dy hs (by decide) (by decide) (8*ρ.i 1000+ρ.i 1800)
    have d:=He (c:=Bg (ρ.a 0) (8*ρ.i 1000+ρ.i 1800)-128) (C:=128) b.1 b.2 (by omega) (by omega)
    omega
  · have b:=Jw (ρ.i 1800*8+ρ.i 1400)
    have c:=Dy hs (by decide) (by decide) (8*ρ.i 1000+ρ.i 1800)
    have d:=He (c:=Bg (ρ.a 0) (8*ρ.i 1000+ρ.i 1800)-128) (C:=128) b.1 b.2 (by omega) (by omega)
    have e:=Zl hs (8*ρ.i 1000+ρ.i 1400) (ρ.i 1800).toNat
    rw[Ku (f:=Us (ρ.a 0)) (j:=8*ρ.i 1000+ρ.i 1400) (by omega) (by omega),if_neg (by omega),if_pos rfl]
    omega
  · have b:=Jw (ρ.i 1800*8+ρ.i 1400)
    have c:=Dy hs (by decide) (by decide) (8*ρ.i 1000+ρ.i 1800)
    have d:=He (c:=Bg (ρ.a 0) (8*ρ.i 1000+ρ.i 1800)-128) (C:=128) b.1 b.2 (by omega) (by omega)
    have e:=Zl hs (8*ρ.i 1000+ρ.i 1400) (ρ.i 1800).toNat
    rw[Ku (f:=Us (ρ.a 0)) (j:=8*ρ.i 1000+ρ.i 1400) (by omega) (by omega),if_neg (by omega),if_pos rfl]
    omega
  · refine jie (by omega) (by omega) (by omega) ?_
    rw[Ku (f:=Us (ρ.a 0)) (j:=8*ρ.i 1000+ρ.i 1400) (by omega) (by omega),if_neg (by omega),if_pos rfl,Us]
    rw[show 8*(((ρ.i 1800).toNat:Nat):Int)+(8*ρ.i 1000+ρ.i 1400) % 8=ρ.i 1800*8+ρ.i 1400 from by omega,show 8*((8*ρ.i 1000+ρ.i 1400)/8)+(((ρ.i 1800).toNat:Nat):Int)=8*ρ.i 1000+ρ.i 1800 from by omega]
  · exact jhq (f:=Us (ρ.a 0)) (n:=8*ρ.i 1000+ρ.i 1400) (x:=ρ.i 1800) (m:=8*ρ.i 1000+(ρ.i 1400+1)) (fun i=>rfl) (by omega) (by omega)
  · rw[show 8*(ρ.i 1000+1)=8*ρ.i 1000+ρ.i 1400 from by omega]
  · exact jgk (fun i=>rfl)
  · rw[Int.add_zero]
  · rw[jis];omega
  · rw[e8 (by omega) (by omega) (by omega)]
    have b:=Jw (ρ.i 2200*8+ρ.i 1400)
    have c:=Dy hb (by decide) (by decide) (8*ρ.i 2200+ρ.i 1800)
    have d:=He b.1 b.2 c.1 c.2
    omega
  · rw[e8 (by omega) (by omega) (by omega)]
    have b:=Jw (ρ.i 2200*8+ρ.i 1400)
    have c:=Dy hb (by decide) (by decide) (8*ρ.i 2200+ρ.i 1800)
    have d:=He b.1 b.2 c.1 c.2
    omega
  · rw[e8 (by omega) (by omega) (by omega)]
    have b:=Jw (ρ.i 2200*8+ρ.i 1400)
    have c:=Dy hb (by decide) (by decide) (8*ρ.i 2200+ρ.i 1800)
    have d:=He b.1 b.2 c.1 c.2
    have e:=jan hb (8*ρ.i 1400+ρ.i 1800) (ρ.i 2200).toNat
    rw[Ku (f:=Ww (Pg (ρ.a 0))) (j:=8*ρ.i 1400+ρ.i 1800) (by omega) (by omega),if_neg (by omega),if_pos rfl]
    omega
  · rw[e8 (by omega) (by omega) (by omega)]
    have b:=Jw (ρ.i 2200*8+ρ.i 1400)
    have c:=Dy hb (by decide) (by decide) (8*ρ.i 2200+ρ.i 1800)
    have d:=He b.1 b.2 c.1 c.2
    have e:=jan hb (8*ρ.i 1400+ρ.i 1800) (ρ.i 2200).toNat
    rw[Ku (f:=Ww (Pg (ρ.a 0))) (j:=8*ρ.i 1400+ρ.i 1800) (by omega) (by omega),if_neg (by omega),if_pos rfl]
    omega
  · rw[e8 (by omega) (by omega) (by omega)]
    refine jie (by omega) (by omega) (by omega) ?_
    rw[Ku (f:=Ww (Pg (ρ.a 0))) (j:=8*ρ.i 1400+ρ.i 1800) (by omega) (by omega),if_neg (by omega),if_pos rfl,Ww]
    rw[show 8*(((ρ.i 2200).toNat:Nat):Int)+(8*ρ.i 1400+ρ.i 1800)/8=ρ.i 2200*8+ρ.i 1400 from by omega,show 8*(((ρ.i 2200).toNat:Nat):Int)+(8*ρ.i 1400+ρ.i 1800) % 8=8*ρ.i 2200+ρ.i 1800 from by omega]
  · exact jhq (f:=Ww (Pg (ρ.a 0))) (n:=8*ρ.i 1400+ρ.i 1800) (x:=ρ.i 2200) (m:=8*ρ.i 1400+(ρ.i 1800+1)) (fun i=>rfl) (by omega) (by omega)
  · rw[show 8*(ρ.i 1400+1)=8*ρ.i 1400+ρ.i 1800 from by omega]
  · rw[j4b];omega
  · exact juq
  · exact (Rv (by omega) (by omega)).1
  · exact (Rv (by omega) (by omega)).2.1
  · refine j0h (by omega) (by omega) ?_
    unfold jd0
    rw[show 8*ρ.i 1400=64 from by omega]
  · unfold My
    rw[show ρ.i 1800=64 from by omega]
end
end Go.Proofs.YtljjbikbfeigdaaGreatDoor
