/- FnColorStream: for every input the call returns true, and the input reads behind the call as it read before; the package variables that the row lists hold what the program's text lays (the card ties them). -/
import Derived.Test.YtljjbikbfeigdaaGreatDoorCo37
import Derived.Test.YtljjbikbfeigdaaGreatDoorTie
import Derived.Test.YtljjbikbfeigdaaGreatDoorCards
import Derived.SevenTiedAt
set_option linter.all false
namespace Go.Proofs.YtljjbikbfeigdaaGreatDoor
noncomputable section
open Go
theorem j3i: ∀f s,qb0 f=some s→Ei Tryz.prog Z f s:=by
  intro f s h
  unfold qb0 at h
  split at h
  · cases h
    refine ja4 (fun x hx=> ?_) jmh
    simp only[List.mem_cons,List.not_mem_nil,or_false] at hx
    rcases hx with rfl|rfl|rfl|rfl
    · exact jon
    · exact jgw
    · exact jne
    · exact joj
  · cases h
    refine ja4 (fun x hx=> ?_) jav
    simp only[List.mem_cons,List.not_mem_nil,or_false] at hx
    rcases hx with rfl|rfl|rfl|rfl
    · exact jav
    · exact joi
    · exact jnp
    · exact jn1
  · cases h;exact Dq jya
  · cases h;exact Dq j1j
  · cases h
theorem j1a: ∀f s,jxb f=some s→Dw Tryz.prog Z f s:=by
  intro f s h
  unfold jxb at h
  split at h
  · cases h;exact Ce j4w
  · cases h;exact Ce j2k
  · cases h;exact Ce j6k
  · cases h
theorem ja5{D:List Int}{q:List Int}(hq:q.length=256)(hD:136≤D.length):((Lw 1 ((D.drop 6).take 130) 64 (Lw 0 ((D.drop 6).take 130) 64 q)).drop 64).take 64=Cs D 72 64:=by
  apply jss
  · simp[Kt,Cs];omega
  · intro i hi
    have hi64:i<64:=by simp at hi;omega
    rw[Dl (by omega) (by omega),Mn 64 (by omega) (by rw[Kt];omega),if_pos (by omega),Dl (by omega) (by omega)]
    unfold Cs
    rw[Dl (by omega) (by omega)]
    congr 1;omega
structure CR(s:CS)(l0 l1 l2:Nat):Prop where
  h1:0≤s.at_
  h2:0≤s.us
  h3:s.us≤7
  e0:s.b0.length=l0
  e1:s.b1.length=l1
  e2:s.b2.length=l2
theorem jdj{D:List Int}{d:Int}{s:CS}{a b c:Nat}(h:CR s a b c)(ho:ok0 D s=true):CR (rd0 D d s) a b c:=by
  have B:=j0w (bl:=s.b0) (d:=d) h.h1 h.h2 h.h3 ho
  exact ⟨B.1,B.2.1,B.2.2.1,B.2.2.2.1.trans h.e0,h.e1,h.e2⟩
theorem j5w{D:List Int}{d:Int}{s:CS}{a b c:Nat}(h:CR s a b c)(ho:ok1 D s=true):CR (rd1 D d s) a b c:=by
  have B:=jjv (bl:=s.b1) (d:=d) h.h1 h.h2 h.h3 ho
  exact ⟨B.1,B.2.1,B.2.2.1,h.e0,B.2.2.2.1.trans h.e1,h.e2⟩
theorem j5a{D:List Int}{d:Int}{s:CS}{a b c:Nat}(h:CR s a b c)(ho:ok2 D s=true):CR (rd2 D d s) a b c:=by
  have B:=jjv (bl:=s.b2) (d:=d) h.h1 h.h2 h.h3 ho
  exact ⟨B.1,B.2.1,B.2.2.1,h.e0,h.e1,B.2.2.2.1.trans h.e2⟩
theorem j58{D:List Int}{X m:Int}{s:CS}{a b c:Nat}(h:CR s a b c)(ho:jah D X m s=true):CR (un6 D X m s) a b c:=by
  simp only[jah,Bool.and_eq_true] at ho
  obtain ⟨k0,k1,k2,k3,k4,k5⟩:=ho
  exact j5a (j5w (jdj (jdj (jdj (jdj h k0) k1) k2) k3) k4) k5
theorem jry{D:List Int}{X:Int}: ∀(n:Nat) {m:Int} {s:CS} {a b c:Nat},CR s a b c→Lz D X n m s=true→CR (scC D X n m s) a b c
  | 0,_,_,_,_,_,h,_=>h
  | n+1,m,s,a,b,c,h,ho=>by
    simp only[Lz,Bool.and_eq_true] at ho
    exact jry n (j58 h ho.1) ho.2
theorem jx5(D:List Int):Z.fb 540 0 0 0 0 D [] [] []=cOk D:=id rfl
theorem qd4(D:List Int):Z.fi 439 0 0 0 0 D [] [] []=Gt D:=id rfl
theorem j75(D:List Int):Z.fa 438 0 0 0 0 D [] [] []=Cs D 72 64:=id rfl
theorem qi4(D:List Int):Z.fa 541 0 0 0 0 D [] [] []=(Kl D).b0:=id rfl
theorem qf8(D:List Int):Z.fa 542 0 0 0 0 D [] [] []=(Kl D).b1:=id rfl
theorem qj8(D:List Int):Z.fa 543 0 0 0 0 D [] [] []=(Kl D).b2:=id rfl
theorem Ol{k:Int}(h0:0≤k)(h1:k<192):Bg (Jz 192) k=0:=by rw[Zw h0 h1,if_pos h1]
theorem j7v{D:List Int}{s:Nat}(hD:s<D.length)(h:((Cs D s 64).all fun x=>decide (1≤x))=true):1≤Bg D s:=by
  have:=List.all_eq_true.1 h (Bg D s) (by
    have hl:0<(Cs D s 64).length:=by simp[Cs];omega
    have e:Bg (Cs D s 64) 0=Bg D (s+0):=Dl (i:=0) (by omega) (by omega)
    rw[Int.add_zero] at e
    rw[←e]
    unfold Bg
    rw[List.getD_eq_getElem?_getD,Int.toNat_zero,List.getElem?_eq_getElem hl]
    exact List.getElem_mem hl)
  exact of_decide_eq_true this
def j8p:VC:=
 let t0:T:=.lit 0
 let t1:T:=.av 1
 let t2:T:=.lit 255
 let t3:T:=.lit 1
 let t4:T:=.cut t1 (.lit 6) (.lit 130)
 let t5:T:=.lit 64
 let t6:T:=.rep t5 t0
 let t8:T:=.splice t6 (.len t6) (.splice t6 (.len t6) t6)
 let t9:T:=.splice t6 (.len t6) t8
 let t10:T:=.alit []
 let t11:T:=.cut t1 (.lit 140) (.lit 15)
 let t12:T:=.add (.mul (.get t11 (.lit 3)) (.lit 256)) (.get t11 (.lit 4))
 let t13:T:=.add (.mul (.get t11 t3) (.lit 256)) (.get t11 (.lit 2))
 let t14:T:=.fi 438 t12 t13 t0 t0 t10 t10 t10 t10
 let t15:T:=.iv 1121
 let t16:T:=.tdiv (.add t12 (.lit 15)) (.lit 16)
 let t17:T:=.fa 411 t3 t5 t0 t0 (.fa 411 t0 t5 t0 t0 t9 t4 t10 t10) t4 t10 t10
 let t18:T:=.set (.alit [0]) t0 t0
 let t19:T:=.len t18
 let t20:T:=.fi 530 t15 (.lit 589) t16 t0 t1 (.av 1107) (.av 1108) (.av 1109)
 let t22:T:=.fa 415 (.lit 192) t0 t0 t0 t10 t10 t10 t10
 let t23:T:=.lit (-9223372036854775808)
 let t24:T:=.add (.iv 2200) t3
 let t25:T:=.lit 9223372036854775807
 let t26:T:=.fa 531 t15 (.lit 589) t16 t0 t1 (.av 1107) (.av 1108) (.av 1109)
 let t27:T:=.add (.iv 2600) t3
 let t28:T:=.add (.iv 3000) t3
 let t29:T:=.fa 532 t15 (.lit 589) t16 t0 t1 (.av 1107) (.av 1108) (.av 1109)
 let t30:T:=.add (.iv 3400) t3
 let t31:T:=.add (.iv 3800) t3
 let t32:T:=.fa 533 t15 (.lit 589) t16 t0 t1 (.av 1107) (.av 1108) (.av 1109)
 let t33:T:=.add (.iv 4200) t3
 let t34:T:=.aeq (.fa 438 t0 t0 t0 t0 t1 t10 t10 t10) (.cut t17 t5 t5)
 let t35:T:=.fi 439 t0 t0 t0 t0 t1 t10 t10 t10
 (.need [(.le t0 (.iv 6))] (.cond (.lt (.iv 6) (.lit 2)) (.fail "leaf fit") (.need [(.lt t0 (.iv 6))] (.need [(.lt t0 (.len t1))] (.cond (.not (.eq (.get t1 t0) t2)) (.fail "leaf fit") (.need [(.lt t3 (.iv 6))] (.need [(.lt t3 (.len t1))] (.cond (.not (.eq (.get t1 t3) (.lit 216))) (.fail "leaf fit") (.need [(.le t0 (.lit 2)),(.lt (.add (.lit 2) t3) (.iv 6)),(.eq (.get t1 (.lit 2)) t2),(.eq (.get t1 (.add (.lit 2) t3)) (.lit 219))] (.need [(.le (.lit 136) (.iv 6)),(.eq (.get t1 (.lit 4)) t0),(.eq (.get t1 (.lit 5)) (.lit 132))] (.need [(.le (.lit 136) (.len t1)),(.le (.lit 130) (.sub (.iv 7) (.lit 6))),(.eq (.len t4) (.lit 130)),(.eq (.len t9) (.lit 256)),(.fb 2 t0 t2 t0 t0 t4 t10 t10 t10),(.eq (.get t4 t0) t0),(.eq (.get t4 (.lit 65)) t3),(.fb 2 t3 t2 t0 t0 (.cut t4 t3 t5) t10 t10 t10),(.fb 2 t3 t2 t0 t0 (.cut t4 (.lit 66) t5) t10 t10 t10)] (.need [(.le t0 (.lit 136)),(.lt (.add (.lit 136) t3) (.iv 6)),(.eq (.get t1 (.lit 136)) t2),(.eq (.get t1 (.add (.lit 136) t3)) (.lit 192))] (.need [(.le (.lit 155) (.iv 6)),(.eq (.get t1 (.lit 138)) t0),(.eq (.get t1 (.lit 139)) (.lit 17))] (.need [(.le (.lit 155) (.len t1)),(.aeq (.fa 414 t0 t0 t0 t0 t10 t10 t10 t10) t8),(.le (.lit 15) (.sub (.iv 7) (.lit 140))),(.eq (.len t11) (.lit 15)),(.fb 2 t0 t2 t0 t0 t11 t10 t10 t10),(.eq (.get t11 t0) (.lit 8)),(.eq (.get t11 (.lit 5)) (.lit 3)),(.eq (.get t11 (.lit 6)) t3),(.eq (.get t11 (.lit 7)) (.lit 34)),(.eq (.get t11 (.lit 8)) t0),(.eq (.get t11 (.lit 9)) (.lit 2)),(.eq (.get t11 (.lit 10)) (.lit 17)),(.eq (.get t11 (.lit 11)) t3),(.eq (.get t11 (.lit 12)) (.lit 3)),(.eq (.get t11 (.lit 13)) (.lit 17)),(.eq (.get t11 (.lit 14)) t3),(.le t3 t12),(.le t3 t13),(.le (.mul t12 t13) (.lit 65536))] (.any 1000 1 [(.eq (.iv 1120) (.mul (.lit 4) t14)),(.eq t15 t14),(.eq (.iv 1122) t14),(.aeq (.av 1107) (.fa 437 (.iv 1120) t0 t0 t0 t10 t10 t10 t10)),(.aeq (.av 1108) (.fa 437 t15 t0 t0 t0 t10 t10 t10 t10)),(.aeq (.av 1109) (.fa 437 (.iv 1122) t0 t0 t0 t10 t10 t10 t10))] (.need [(.le t0 (.lit 155)),(.lt (.add (.lit 155) t3) (.iv 6)),(.eq (.get t1 (.lit 155)) t2),(.eq (.get t1 (.add (.lit 155) t3)) (.lit 196))] (.need [(.le (.lit 575) (.iv 6)),(.eq (.get t1 (.lit 157)) t3),(.eq (.get t1 (.lit 158)) (.lit 162))] (.need [(.le (.lit 575) (.len t1)),(.aeq (.alit Ns) (.cut t1 (.lit 159) (.lit 416))),(.le (.lit 416) (.sub (.iv 7) (.lit 159)))] (.any 1400 1 [] (.need [(.le t0 (.lit 575)),(.lt (.add (.lit 575) t3) (.iv 6)),(.eq (.get t1 (.lit 575)) t2),(.eq (.get t1 (.add (.lit 575) t3)) (.lit 218))] (.need [(.le (.lit 589) (.iv 6)),(.eq (.get t1 (.lit 577)) t0),(.eq (.get t1 (.lit 578)) (.lit 12))] (.need [(.eq t15 (.iv 1122)),(.eq t15 (.iv 1122)),(.aeq (.fa 415 t0 t0 t0 t0 t10 t10 t10 t10) (.fa 414 (.lit 192) t0 t0 t0 t10 t10 t10 t10)),(.le t0 (.lit 589)),(.le (.lit 10) (.sub (.iv 7) (.lit 579))),(.aeq (.cut t1 (.lit 579) (.lit 10)) (.alit [3,1,0,2,17,3,17,0,63,0])),(.le t12 (.lit 65535)),(.le t13 (.lit 65535)),(.eq t15 (.mul t16 (.tdiv (.add t13 (.lit 15)) (.lit 16)))),(.eq (.iv 1120) (.mul (.lit 4) t15)),(.eq (.len (.av 1107)) (.mul t5 (.iv 1120))),(.eq (.len (.av 1108)) (.mul t5 t15)),(.eq (.len (.av 1109)) (.mul t5 t15)),(.le t3 (.get t17 t0)),(.le t3 (.get t17 t5)),(.fb 530 t15 t0 t16 t0 (.splice (.set (.alit [0]) t0 (.lit 589)) (.len (.set (.alit [0]) t0 (.lit 589))) (.splice t18 t19 (.splice t18 t19 (.splice t18 t19 (.splice t18 t19 t1))))) (.av 1107) (.av 1108) (.av 1109))] (.any 1800 1 [] (.need [(.le t0 t20),(.lt (.add t20 t3) (.iv 6)),(.eq (.get t1 t20) t2),(.eq (.get t1 (.add t20 t3)) (.lit 217))] (.cond (.not (.eq (.add t20 (.lit 2)) (.iv 6))) (.fail "leaf fit") (.cond (.lt (.get t22 t0) t0) (.fail "leaf fit") (.need [(.le t0 t0),(.le t0 t5)] (.any 2200 1000000002 [(.le t0 (.iv 2200)),(.le (.iv 2200) t5)] (.cond (.lt (.iv 2200) t5) (.need [(.lt (.iv 2200) (.lit 192))] (.need [(.le t23 t24),(.le t24 t25)] (.need [(.eq (.get t22 (.iv 2200)) t0),(.le t0 t24),(.le t24 t5),(.lt t0 (.sub t5 (.iv 2200))),(.lt (.sub t5 t24) (.sub t5 (.iv 2200)))] .done))) (.need [(.le t0 (.iv 1120))] (.any 2600 2 [(.le t0 (.iv 2600)),(.le (.iv 2600) (.iv 1120))] (.cond (.lt (.iv 2600) (.iv 1120)) (.need [(.le t0 (.mul (.iv 2600) t5)),(.le (.add (.mul (.iv 2600) t5) t5) (.len t26))] (.need [(.fb 441 t0 t0 t0 t0 (.cut t26 (.mul (.iv 2600) t5) t5) t10 t10 t10)] (.need [(.le t23 t27),(.le t27 t25)] (.need [(.le t0 t27),(.le t27 (.iv 1120)),(.lt t0 (.sub (.iv 1120) (.iv 2600))),(.lt (.sub (.iv 1120) t27) (.sub (.iv 1120) (.iv 2600)))] .done)))) (.cond (.lt (.get t22 t5) t0) (.fail "leaf fit") (.any 3000 1000000003 [(.le t0 (.iv 3000)),(.le (.iv 3000) t5)] (.cond (.lt (.iv 3000) t5) (.need [(.lt (.add t5 (.iv 3000)) (.lit 192))] (.need [(.le t23 t28),(.le t28 t25)] (.need [(.eq (.get t22 (.add t5 (.iv 3000))) t0),(.le t0 t28),(.le t28 t5),(.lt t0 (.sub t5 (.iv 3000))),(.lt (.sub t5 t28) (.sub t5 (.iv 3000)))] .done))) (.need [(.le t0 t15)] (.any 3400 3 [(.le t0 (.iv 3400)),(.le (.iv 3400) t15)] (.cond (.lt (.iv 3400) t15) (.need [(.le t0 (.mul (.iv 3400) t5)),(.le (.add (.mul (.iv 3400) t5) t5) (.len t29))] (.need [(.fb 441 t0 t0 t0 t0 (.cut t29 (.mul (.iv 3400) t5) t5) t10 t10 t10)] (.need [(.le t23 t30),(.le t30 t25)] (.need [(.le t0 t30),(.le t30 t15),(.lt t0 (.sub t15 (.iv 3400))),(.lt (.sub t15 t30) (.sub t15 (.iv 3400)))] .done)))) (.cond (.lt (.get t22 (.lit 128)) t0) (.fail "leaf fit") (.any 3800 1000000004 [(.le t0 (.iv 3800)),(.le (.iv 3800) t5)] (.cond (.lt (.iv 3800) t5) (.need [(.lt (.add (.lit 128) (.iv 3800)) (.lit 192))] (.need [(.le t23 t31),(.le t31 t25)] (.need [(.eq (.get t22 (.add (.lit 128) (.iv 3800))) t0),(.le t0 t31),(.le t31 t5),(.lt t0 (.sub t5 (.iv 3800))),(.lt (.sub t5 t31) (.sub t5 (.iv 3800)))] .done))) (.any 4200 4 [(.le t0 (.iv 4200)),(.le (.iv 4200) t15)] (.cond (.lt (.iv 4200) t15) (.need [(.le t0 (.mul (.iv 4200) t5)),(.le (.add (.mul (.iv 4200) t5) t5) (.len t32))] (.need [(.fb 441 t0 t0 t0 t0 (.cut t32 (.mul (.iv 4200) t5) t5) t10 t10 t10)] (.need [(.le t23 t33),(.le t33 t25)] (.need [(.le t0 t33),(.le t33 t15),(.lt t0 (.sub t15 (.iv 4200))),(.lt (.sub t15 t33) (.sub t15 (.iv 4200)))] .done)))) (.need [(.eq (.fi 432 t0 t0 t0 t0 t1 t10 t10 t10) t13),(.eq (.fi 431 t0 t0 t0 t0 t1 t10 t10 t10) t12),(.aeq (.fa 543 t0 t0 t0 t0 t1 t10 t10 t10) t32),(.aeq (.fa 542 t0 t0 t0 t0 t1 t10 t10 t10) t29),(.aeq (.fa 541 t0 t0 t0 t0 t1 t10 t10 t10) t26),t34,t34,(.aeq (.fa 434 t0 t0 t0 t0 t1 t10 t10 t10) (.cut t17 t0 t5)),(.eq (.iv 1120) (.mul (.lit 4) t35)),(.eq t15 t35),(.eq t15 t35)] .done))))))))))))))))))))))))))))))))))))))))))))
theorem qly:Dd (Db Tryz.prog qb0 jxb ⟨jwo,jr5⟩ 100000 17 j6j) j8p=true:=by kernel_rfl
set_option maxRecDepth 20000 in
set_option maxHeartbeats 4000000 in
theorem j39:Cf Tryz.prog Z 17 j6j:=by
  refine Bf j3i j1a qly fun ρ h=> ?_
  have g1:=Cc h (.eq (.len (.av 1)) (.iv 6)) (by kernel_rfl)
  have g2:=Cc h (.le (.iv 6) Gl) (by kernel_rfl)
  have g3:=Cc h (.le (.iv 6) (.iv 7)) (by kernel_rfl)
  have g4:=Cc h (Du 0 255 (.av 1)) (by kernel_rfl)
  have g5:=Cc h (Mc 540 z0 z0 z0 z0) (by kernel_rfl)
  clear h
  simp only[Gl,Du,Mc,z0,Tm,jx5,↓Bo,↓Bq,↓Bs,↓Az,↓Ca,↓Bz,↓Bu,↓Bc,↓Bb,↓Be,↓Ba,↓Bv,↓Ay,↓Bt,↓Br,↓Bw,↓Bx,↓By,Ag,As,Ap,Ar,T.I,T.A,T.B,Int.toNat_zero,List.drop_zero,and_true,implies_true,VC.sem,Aa,Af,Ak,Ai,Ae,Ac,Ad,Am,Al,Ah,An,Aj,Ab,Aq,Ao] at g1 g2 g3 g4 g5
  simp only[cOk,Bool.and_eq_true,decide_eq_true_eq] at g5
  obtain ⟨a1,a2,a3,a4,a5,a6,a7,a8,a9,a10,a11,a12,a13,a14,a15,a16,a17,a18,a19,a20⟩:=g5
  have hlen:589≤(ρ.a 1).length:=by
    have:=congrArg List.length a13
    simp only[Cs,jzv,List.length_take,List.length_drop,List.length_cons,List.length_nil] at this
    omega
  have q0:Bg (ρ.a 1) 0=255:=Dm a1 (i:=0) (by omega) (by omega)
  have q1:Bg (ρ.a 1) 1=216:=Dm a1 (i:=1) (by omega) (by omega)
  have q2:Bg (ρ.a 1) 2=255:=Dm a1 (i:=2) (by omega) (by omega)
  have q3:Bg (ρ.a 1) 3=219:=Dm a1 (i:=3) (by omega) (by omega)
  have q4:Bg (ρ.a 1) 4=0:=Dm a1 (i:=4) (by omega) (by omega)
  have q5:Bg (ρ.a 1) 5=132:=Dm a1 (i:=5) (by omega) (by omega)
  have q6:Bg (ρ.a 1) 6=0:=Dm a1 (i:=6) (by omega) (by omega)
  have q136:Bg (ρ.a 1) 136=255:=Dm a5 (i:=0) (by omega) (by omega)
  have q137:Bg (ρ.a 1) 137=192:=Dm a5 (i:=1) (by omega) (by omega)
  have q138:Bg (ρ.a 1) 138=0:=Dm a5 (i:=2) (by omega) (by omega)
  have q139:Bg (ρ.a 1) 139=17:=Dm a5 (i:=3) (by omega) (by omega)
  have q140:Bg (ρ.a 1) 140=8:=Dm a5 (i:=4) (by omega) (by omega)
  have q145:Bg (ρ.a 1) 145=3:=Dm a9 (i:=0) (by omega) (by omega)
  have q146:Bg (ρ.a 1) 146=1:=Dm a9 (i:=1) (by omega) (by omega)
  have q147:Bg (ρ.a 1) 147=34:=Dm a9 (i:=2) (by omega) (by omega)
  have q148:Bg (ρ.a 1) 148=0:=Dm a9 (i:=3) (by omega) (by omega)
  have q149:Bg (ρ.a 1) 149=2:=Dm a9 (i:=4) (by omega) (by omega)
  have q150:Bg (ρ.a 1) 150=17:=Dm a9 (i:=5) (by omega) (by omega)
  have q151:Bg (ρ.a 1) 151=1:=Dm a9 (i:=6) (by omega) (by omega)
  have q152:Bg (ρ.a 1) 152=3:=Dm a9 (i:=7) (by omega) (by omega)
  have q153:Bg (ρ.a 1) 153=17:=Dm a9 (i:=8) (by omega) (by omega)
  have q154:Bg (ρ.a 1) 154=1:=Dm a9 (i:=9) (by omega) (by omega)
  have q155:Bg (ρ.a 1) 155=255:=Dm a10 (i:=0) (by omega) (by omega)
  have q156:Bg (ρ.a 1) 156=196:=Dm a10 (i:=1) (by omega) (by omega)
  have q157:Bg (ρ.a 1) 157=1:=Dm a10 (i:=2) (by omega) (by omega)
  have q158:Bg (ρ.a 1) 158=162:=Dm a10 (i:=3) (by omega) (by omega)
  have q575:Bg (ρ.a 1) 575=255:=Dm a12 (i:=0) (by omega) (by omega)
  have q576:Bg (ρ.a 1) 576=218:=Dm a12 (i:=1) (by omega) (by omega)
  have q577:Bg (ρ.a 1) 577=0:=Dm a12 (i:=2) (by omega) (by omega)
  have q578:Bg (ρ.a 1) 578=12:=Dm a12 (i:=3) (by omega) (by omega)
  have e140:Bg (List.take 15 (List.drop 140 (ρ.a 1))) 0=Bg (ρ.a 1) 140:=Dl (i:=0) (by omega) (by omega)
  have e141:Bg (List.take 15 (List.drop 140 (ρ.a 1))) 1=Bg (ρ.a 1) 141:=Dl (i:=1) (by omega) (by omega)
  have e142:Bg (List.take 15 (List.drop 140 (ρ.a 1))) 2=Bg (ρ.a 1) 142:=Dl (i:=2) (by omega) (by omega)
  have e143:Bg (List.take 15 (List.drop 140 (ρ.a 1))) 3=Bg (ρ.a 1) 143:=Dl (i:=3) (by omega) (by omega)
  have e144:Bg (List.take 15 (List.drop 140 (ρ.a 1))) 4=Bg (ρ.a 1) 144:=Dl (i:=4) (by omega) (by omega)
  have e145:Bg (List.take 15 (List.drop 140 (ρ.a 1))) 5=Bg (ρ.a 1) 145:=Dl (i:=5) (by omega) (by omega)
  have e146:Bg (List.take 15 (List.drop 140 (ρ.a 1))) 6=Bg (ρ.a 1) 146:=Dl (i:=6) (by omega) (by omega)
  have e147:Bg (List.take 15 (List.drop 140 (ρ.a 1))) 7=Bg (ρ.a 1) 147:=Dl (i:=7) (by omega) (by omega)
  have e148:Bg (List.take 15 (List.drop 140 (ρ.a 1))) 8=Bg (ρ.a 1) 148:=Dl (i:=8) (by omega) (by omega)
  have e149:Bg (List.take 15 (List.drop 140 (ρ.a 1))) 9=Bg (ρ.a 1) 149:=Dl (i:=9) (by omega) (by omega)
  have e150:Bg (List.take 15 (List.drop 140 (ρ.a 1))) 10=Bg (ρ.a 1) 150:=Dl (i:=10) (by omega) (by omega)
  have e151:Bg (List.take 15 (List.drop 140 (ρ.a 1))) 11=Bg (ρ.a 1) 151:=Dl (i:=11) (by omega) (by omega)
  have e152:Bg (List.take 15 (List.drop 140 (ρ.a 1))) 12=Bg (ρ.a 1) 152:=Dl (i:=12) (by omega) (by omega)
  have e153:Bg (List.take 15 (List.drop 140 (ρ.a 1))) 13=Bg (ρ.a 1) 153:=Dl (i:=13) (by omega) (by omega)
  have e154:Bg (List.take 15 (List.drop 140 (ρ.a 1))) 14=Bg (ρ.a 1) 154:=Dl (i:=14) (by omega) (by omega)
  have f0:Bg (List.take 130 (List.drop 6 (ρ.a 1))) 0=Bg (ρ.a 1) 6:=Dl (i:=0) (by omega) (by omega)
  have f1:Bg (List.take 130 (List.drop 6 (ρ.a 1))) 1=Bg (ρ.a 1) 7:=Dl (i:=1) (by omega) (by omega)
  have f65:Bg (List.take 130 (List.drop 6 (ρ.a 1))) 65=Bg (ρ.a 1) 71:=Dl (i:=65) (by omega) (by omega)
  have f66:Bg (List.take 130 (List.drop 6 (ρ.a 1))) 66=Bg (ρ.a 1) 72:=Dl (i:=66) (by omega) (by omega)
  have b141:=Ct g4 (n:=141) (by omega) (by omega)
  have b142:=Ct g4 (n:=142) (by omega) (by omega)
  have b143:=Ct g4 (n:=143) (by omega) (by omega)
  have b144:=Ct g4 (n:=144) (by omega) (by omega)
  have hw:Bg (ρ.a 1) 143*256+Bg (ρ.a 1) 144=wdD (ρ.a 1):=rfl
  have hh:Bg (ρ.a 1) 141*256+Bg (ρ.a 1) 142=hgD (ρ.a 1):=rfl
  have hw2:wdD (ρ.a 1)≤65535:=by rw[←hw];omega
  have nb:=jxz a6 a7 a8
  have hnm:Gt (ρ.a 1)=nmC (wdD (ρ.a 1)) (hgD (ρ.a 1)):=rfl
  have hz4:=Vw (n:=4*Gt (ρ.a 1)) (by rw[hnm];omega)
  have hz1:=Vw (n:=Gt (ρ.a 1)) (by rw[hnm];omega)
  have hs:=jry _ (s:=st0 589 (Cr (4*Gt (ρ.a 1))) (Cr (Gt (ρ.a 1))) (Cr (Gt (ρ.a 1)))) ⟨by show (0:Int)≤589;omega,by show (0:Int)≤0;omega,by show (0:Int)≤7;omega,rfl,rfl,rfl⟩ a14
  have hend:0≤eoC (ρ.a 1):=jkr _ hs.h1
  have hb0:((Kl (ρ.a 1)).b0.length:Int)=64*(4*Gt (ρ.a 1)):=by rw[←hz4];exact congrArg _ hs.e0
  have hb1:((Kl (ρ.a 1)).b1.length:Int)=64*Gt (ρ.a 1):=by rw[←hz1];exact congrArg _ hs.e1
  have hb2:((Kl (ρ.a 1)).b2.length:Int)=64*Gt (ρ.a 1):=by rw[←hz1];exact congrArg _ hs.e2
  have hq1:1≤Bg (ρ.a 1) 7:=j7v (s:=7) (by omega) a2
  have hq2:1≤Bg (ρ.a 1) 72:=j7v (s:=72) (by omega) a4
  have hh2:hgD (ρ.a 1)≤65535:=by rw[←hh];omega
  simp only[j8p,↓Bo,↓Bq,↓Bs,↓Az,↓Ca,↓Bz,↓Bu,↓Bc,↓Bb,↓Be,↓Ba,↓Bv,↓Ay,↓Bt,↓Br,↓Bw,↓Bx,↓By,Ag,As,Ap,Ar,T.I,T.A,T.B,Int.toNat_zero,List.drop_zero,and_true,implies_true,VC.sem,Aa,Af,Ak,Ai,Ae,Ac,Ad,Am,Al,Ah,An,Aj,Ab,Aq,Ao,Ck,Gy,Tm,jy5,jwh,jtm,jwt,jzk,ju8,jhe,j75,jnh,jmj,qg8,qd4,qi4,qf8,qj8,qic,j6q,j6y,j7b,j0m,Fb,Int.reduceAdd]
  simp only[Int.reduceToNat,List.length_append,List.length_replicate,hS4,hS3,e140,e141,e142,e143,e144,e145,e146,e147,e148,e149,e150,e151,e152,e153,e154,f0,f1,f65,hw,hh,q2,q3,q4,q5,q136,q137,q138,q139,q155,q156,q157,q158,q575,q576,q577,q578]
  have tX:(wdD (ρ.a 1)+15).tdiv 16=xN (wdD (ρ.a 1)):=Int.tdiv_eq_ediv_of_nonneg (by omega)
  have tY:(hgD (ρ.a 1)+15).tdiv 16=xN (hgD (ρ.a 1)):=Int.tdiv_eq_ediv_of_nonneg (by omega)
  (repeat' (first|with_reducible exact True.intro|with_reducible refine And.intro ?_ ?_|intro _))<;>(try omega)
  · rw[List.length_take,List.length_drop];omega
  · exact Lv g4 6 130
  · rw[jdd (by omega)];exact Zv (Lv g4 7 64) a2
  · rw[jdd (by omega)];exact Zv (Lv g4 72 64) a4
  · decide+kernel
  · rw[List.length_take,List.length_drop];omega
  · exact Lv g4 140 15
  · exact a11.symm
  · exact jvb.symm
  · exact a13
  · skip
    have i0:ρ.i 1120=4*Gt (ρ.a 1):= ‹_›;have i1:ρ.i 1121=Gt (ρ.a 1):= ‹_›;have i2:ρ.i 1122=Gt (ρ.a 1):= ‹_›
    have z0:= ‹ρ.a 1107=Cr _›;have z1:= ‹ρ.a 1108=Cr _›;have z2:= ‹ρ.a 1109=Cr _›
    rw[i0] at z0;rw[i1] at z1;rw[i2] at z2
    rw[tX,tY,i1];rfl
  · skip
    have i0:ρ.i 1120=4*Gt (ρ.a 1):= ‹_›;have i1:ρ.i 1121=Gt (ρ.a 1):= ‹_›;have i2:ρ.i 1122=Gt (ρ.a 1):= ‹_›
    have z0:= ‹ρ.a 1107=Cr _›;have z1:= ‹ρ.a 1108=Cr _›;have z2:= ‹ρ.a 1109=Cr _›
    rw[i0] at z0;rw[i1] at z1;rw[i2] at z2
    rw[z0,hz4,i0]
  · skip
    have i0:ρ.i 1120=4*Gt (ρ.a 1):= ‹_›;have i1:ρ.i 1121=Gt (ρ.a 1):= ‹_›;have i2:ρ.i 1122=Gt (ρ.a 1):= ‹_›
    have z0:= ‹ρ.a 1107=Cr _›;have z1:= ‹ρ.a 1108=Cr _›;have z2:= ‹ρ.a 1109=Cr _›
    rw[i0] at z0;rw[i1] at z1;rw[i2] at z2
    rw[z1,hz1,i1]
  · skip
    have i0:ρ.i 1120=4*Gt (ρ.a 1):= ‹_›;have i1:ρ.i 1121=Gt (ρ.a 1):= ‹_›;have i2:ρ.i 1122=Gt (ρ.a 1):= ‹_›
    have z0:= ‹ρ.a 1107=Cr _›;have z1:= ‹ρ.a 1108=Cr _›;have z2:= ‹ρ.a 1109=Cr _›
    rw[i0] at z0;rw[i1] at z1;rw[i2] at z2
    rw[z2,hz1,i1]
  · rw[Mn 64 (by omega) (by rw[Kt,hql];omega),if_neg (by omega),Mn 64 (by omega) (by rw[hql];omega),if_pos (by omega)]
    show 1≤Bg (List.take 130 (List.drop 6 (ρ.a 1))) 1
    rw[f1];exact hq1
  · rw[Mn 64 (by omega) (by rw[Kt,hql];omega),if_pos (by omega)]
    show 1≤Bg (List.take 130 (List.drop 6 (ρ.a 1))) 66
    rw[f66];exact hq2
  · skip
    have i0:ρ.i 1120=4*Gt (ρ.a 1):= ‹_›;have i1:ρ.i 1121=Gt (ρ.a 1):= ‹_›;have i2:ρ.i 1122=Gt (ρ.a 1):= ‹_›
    have z0:= ‹ρ.a 1107=Cr _›;have z1:= ‹ρ.a 1108=Cr _›;have z2:= ‹ρ.a 1109=Cr _›
    rw[i0] at z0;rw[i1] at z1;rw[i2] at z2
    rw[z0,z1,z2,i1,tX]
    exact a14
  · skip
    have i0:ρ.i 1120=4*Gt (ρ.a 1):= ‹_›;have i1:ρ.i 1121=Gt (ρ.a 1):= ‹_›;have i2:ρ.i 1122=Gt (ρ.a 1):= ‹_›
    have z0:= ‹ρ.a 1107=Cr _›;have z1:= ‹ρ.a 1108=Cr _›;have z2:= ‹ρ.a 1109=Cr _›
    rw[i0] at z0;rw[i1] at z1;rw[i2] at z2
    rw[z0,z1,z2,i1,tX]
    exact hend
  · skip
    have i0:ρ.i 1120=4*Gt (ρ.a 1):= ‹_›;have i1:ρ.i 1121=Gt (ρ.a 1):= ‹_›;have i2:ρ.i 1122=Gt (ρ.a 1):= ‹_›
    have z0:= ‹ρ.a 1107=Cr _›;have z1:= ‹ρ.a 1108=Cr _›;have z2:= ‹ρ.a 1109=Cr _›
    rw[i0] at z0;rw[i1] at z1;rw[i2] at z2
    rw[z0,z1,z2,i1,tX]
    show eoC (ρ.a 1)+1<_;omega
  · skip
    have i0:ρ.i 1120=4*Gt (ρ.a 1):= ‹_›;have i1:ρ.i 1121=Gt (ρ.a 1):= ‹_›;have i2:ρ.i 1122=Gt (ρ.a 1):= ‹_›
    have z0:= ‹ρ.a 1107=Cr _›;have z1:= ‹ρ.a 1108=Cr _›;have z2:= ‹ρ.a 1109=Cr _›
    rw[i0] at z0;rw[i1] at z1;rw[i2] at z2
    rw[z0,z1,z2,i1,tX]
    exact a15
  · skip
    have i0:ρ.i 1120=4*Gt (ρ.a 1):= ‹_›;have i1:ρ.i 1121=Gt (ρ.a 1):= ‹_›;have i2:ρ.i 1122=Gt (ρ.a 1):= ‹_›
    have z0:= ‹ρ.a 1107=Cr _›;have z1:= ‹ρ.a 1108=Cr _›;have z2:= ‹ρ.a 1109=Cr _›
    rw[i0] at z0;rw[i1] at z1;rw[i2] at z2
    rw[z0,z1,z2,i1,tX]
    exact a16
  · skip
    have i0:ρ.i 1120=4*Gt (ρ.a 1):= ‹_›;have i1:ρ.i 1121=Gt (ρ.a 1):= ‹_›;have i2:ρ.i 1122=Gt (ρ.a 1):= ‹_›
    have z0:= ‹ρ.a 1107=Cr _›;have z1:= ‹ρ.a 1108=Cr _›;have z2:= ‹ρ.a 1109=Cr _›
    rw[i0] at z0;rw[i1] at z1;rw[i2] at z2
    have hn:= ‹¬jza _ _ _ _ _ _ _+2=_›
    rw[z0,z1,z2,i1,tX] at hn
    exact hn (by show eoC (ρ.a 1)+2=_;omega)
  · have hn:= ‹Bg (Jz 192) 0<0›
    rw[Ol (by omega) (by omega)] at hn
    omega
  · exact Ol (by omega) (by omega)
  · skip
    have i0:ρ.i 1120=4*Gt (ρ.a 1):= ‹_›;have i1:ρ.i 1121=Gt (ρ.a 1):= ‹_›;have i2:ρ.i 1122=Gt (ρ.a 1):= ‹_›
    have z0:= ‹ρ.a 1107=Cr _›;have z1:= ‹ρ.a 1108=Cr _›;have z2:= ‹ρ.a 1109=Cr _›
    rw[i0] at z0;rw[i1] at z1;rw[i2] at z2
    rw[z0,z1,z2,i1,tX]
    show _≤((Kl (ρ.a 1)).b0.length:Int)
    omega
  · skip
    have i0:ρ.i 1120=4*Gt (ρ.a 1):= ‹_›;have i1:ρ.i 1121=Gt (ρ.a 1):= ‹_›;have i2:ρ.i 1122=Gt (ρ.a 1):= ‹_›
    have z0:= ‹ρ.a 1107=Cr _›;have z1:= ‹ρ.a 1108=Cr _›;have z2:= ‹ρ.a 1109=Cr _›
    rw[i0] at z0;rw[i1] at z1;rw[i2] at z2
    rw[z0,z1,z2,i1,tX]
    have:=List.all_eq_true.1 a18 (ρ.i 2600).toNat (List.mem_range.2 (by omega))
    rw[show (ρ.i 2600*64).toNat=64*(ρ.i 2600).toNat from by omega]
    exact this
  · have hn:= ‹Bg (Jz 192) 64<0›
    rw[Ol (by omega) (by omega)] at hn
    omega
  · exact Ol (by omega) (by omega)
  · skip
    have i0:ρ.i 1120=4*Gt (ρ.a 1):= ‹_›;have i1:ρ.i 1121=Gt (ρ.a 1):= ‹_›;have i2:ρ.i 1122=Gt (ρ.a 1):= ‹_›
    have z0:= ‹ρ.a 1107=Cr _›;have z1:= ‹ρ.a 1108=Cr _›;have z2:= ‹ρ.a 1109=Cr _›
    rw[i0] at z0;rw[i1] at z1;rw[i2] at z2
    rw[z0,z1,z2,i1,tX]
    show _≤((Kl (ρ.a 1)).b1.length:Int)
    omega
  · skip
    have i0:ρ.i 1120=4*Gt (ρ.a 1):= ‹_›;have i1:ρ.i 1121=Gt (ρ.a 1):= ‹_›;have i2:ρ.i 1122=Gt (ρ.a 1):= ‹_›
    have z0:= ‹ρ.a 1107=Cr _›;have z1:= ‹ρ.a 1108=Cr _›;have z2:= ‹ρ.a 1109=Cr _›
    rw[i0] at z0;rw[i1] at z1;rw[i2] at z2
    rw[z0,z1,z2,i1,tX]
    have:=List.all_eq_true.1 a19 (ρ.i 3400).toNat (List.mem_range.2 (by omega))
    rw[show (ρ.i 3400*64).toNat=64*(ρ.i 3400).toNat from by omega]
    exact this
  · have hn:= ‹Bg (Jz 192) 128<0›
    rw[Ol (by omega) (by omega)] at hn
    omega
  · exact Ol (by omega) (by omega)
  · skip
    have i0:ρ.i 1120=4*Gt (ρ.a 1):= ‹_›;have i1:ρ.i 1121=Gt (ρ.a 1):= ‹_›;have i2:ρ.i 1122=Gt (ρ.a 1):= ‹_›
    have z0:= ‹ρ.a 1107=Cr _›;have z1:= ‹ρ.a 1108=Cr _›;have z2:= ‹ρ.a 1109=Cr _›
    rw[i0] at z0;rw[i1] at z1;rw[i2] at z2
    rw[z0,z1,z2,i1,tX]
    show _≤((Kl (ρ.a 1)).b2.length:Int)
    omega
  · skip
    have i0:ρ.i 1120=4*Gt (ρ.a 1):= ‹_›;have i1:ρ.i 1121=Gt (ρ.a 1):= ‹_›;have i2:ρ.i 1122=Gt (ρ.a 1):= ‹_›
    have z0:= ‹ρ.a 1107=Cr _›;have z1:= ‹ρ.a 1108=Cr _›;have z2:= ‹ρ.a 1109=Cr _›
    rw[i0] at z0;rw[i1] at z1;rw[i2] at z2
    rw[z0,z1,z2,i1,tX]
    have:=List.all_eq_true.1 a20 (ρ.i 4200).toNat (List.mem_range.2 (by omega))
    rw[show (ρ.i 4200*64).toNat=64*(ρ.i 4200).toNat from by omega]
    exact this
  · skip
    have i0:ρ.i 1120=4*Gt (ρ.a 1):= ‹_›;have i1:ρ.i 1121=Gt (ρ.a 1):= ‹_›;have i2:ρ.i 1122=Gt (ρ.a 1):= ‹_›
    have z0:= ‹ρ.a 1107=Cr _›;have z1:= ‹ρ.a 1108=Cr _›;have z2:= ‹ρ.a 1109=Cr _›
    rw[i0] at z0;rw[i1] at z1;rw[i2] at z2
    rw[z0,z1,z2,i1,tX]
    rfl
  · skip
    have i0:ρ.i 1120=4*Gt (ρ.a 1):= ‹_›;have i1:ρ.i 1121=Gt (ρ.a 1):= ‹_›;have i2:ρ.i 1122=Gt (ρ.a 1):= ‹_›
    have z0:= ‹ρ.a 1107=Cr _›;have z1:= ‹ρ.a 1108=Cr _›;have z2:= ‹ρ.a 1109=Cr _›
    rw[i0] at z0;rw[i1] at z1;rw[i2] at z2
    rw[z0,z1,z2,i1,tX]
    rfl
  · skip
    have i0:ρ.i 1120=4*Gt (ρ.a 1):= ‹_›;have i1:ρ.i 1121=Gt (ρ.a 1):= ‹_›;have i2:ρ.i 1122=Gt (ρ.a 1):= ‹_›
    have z0:= ‹ρ.a 1107=Cr _›;have z1:= ‹ρ.a 1108=Cr _›;have z2:= ‹ρ.a 1109=Cr _›
    rw[i0] at z0;rw[i1] at z1;rw[i2] at z2
    rw[z0,z1,z2,i1,tX]
    rfl
  · exact (ja5 hql (by omega)).symm
  · exact (ja5 hql (by omega)).symm
  · exact (jc9 hql (by omega)).symm
end
end Go.Proofs.YtljjbikbfeigdaaGreatDoor
namespace Go.Proofs.YtljjbikbfeigdaaGreatDoor
noncomputable section
open Go
structure Qs(quant:List Int):Prop where
  ql:quant.length=128
  q:Bn 1 255 quant=true
structure Bk(b:List Int):Prop where
  len:b.length=64
  rng:Bn 0 255 b=true
theorem Kp{quant b:List Int}(Q:Qs quant)(hb:Bk b){q:Nat}(hq:q<2){k:Int}(h0:0≤k)(h1:k<64):
    -1024≤coef q quant (Dc b) k∧coef q quant (Dc b) k≤1023∧(k≠0→ -1023≤coef q quant (Dc b) k):=jeu hq hb.len hb.rng Q.ql Q.q h0 h1
theorem j7q{quant b:List Int}(Q:Qs quant)(hb:Bk b){q:Nat}(hq:q<2): ∀k:Nat,k<64→k≠0→Fe (coef q quant (Dc b) (k:Int))≤1023:=by
  intro k hk hz
  have:=Kp Q hb hq (k:=(k:Int)) (by omega) (by omega)
  exact Wh (this.2.2 (by omega)) this.2.1
theorem jba{quant b:List Int}(Q:Qs quant)(hb:Bk b){q:Nat}(hq:q<2){H:List Int}{s:St}{L:List Int}{p:Int}(h0: -1024≤p)(h1:p≤1023)(hr:Rep H s L):Rep H (Ub q quant b s p) (L++To q quant (Dc b) p):=by
  have hc:=Kp Q hb hq (k:=0) (by omega) (by omega)
  exact jtr hq (j7q Q hb hq) (Wh (by omega) (by omega)) hr
theorem qj1{quant b:List Int}(Q:Qs quant)(hb:Bk b){q:Nat}(hq:q<2){D T:List Int}{p a u:Int}{R:List Int}(hp1: -1024≤p)(hp2:p≤1023)(hr:Rd D T a u (To q quant (Dc b) p++R)):
    Li q D a u p=true∧p+Tg q D a u=coef q quant (Dc b) 0∧ ∃a1 u1,Rd D T a1 u1 R∧ ∀(A G:List Int),Gg q D (A.length:Int) a u p (A++(List.replicate 64 0++G))=a1::u1::(A++(Eu q quant (Dc b) 0 64++G)):=by
  have hc:=Kp Q hb hq (k:=0) (by omega) (by omega)
  unfold To at hr
  rw[List.append_assoc] at hr
  have hab:Fe (coef q quant (Dc b) 0-p)≤2047:=Wh (by omega) (by omega)
  obtain ⟨p1,p2,p3,p4,p5⟩:=Yn hab
  have hz:(0:Int)*16+Gb (coef q quant (Dc b) 0-p)=Gb (coef q quant (Dc b) 0-p):=by omega
  obtain ⟨s1,a1,u1,s2,s3,v,a2,u2,s4,s5,s6⟩:=jz2 (h:=2*q) (by rw[hz];exact jku hq (by omega) (by omega)) hab hr
  rw[hz] at s2
  have hS:dcS q D a u=[Gb (coef q quant (Dc b) 0-p),a1,u1]:=s2
  have hN:Xv q D a u=[v,a2,u2]:=by unfold Xv;rw[hS];exact s4
  have hV:Tg q D a u=coef q quant (Dc b) 0-p:=by unfold Tg;rw[hS,hN];exact s5
  have hO:Yu q D a u=true:=by
    unfold Yu
    rw[Bool.and_eq_true]
    exact ⟨s1,by rw[hS];exact s3⟩
  have hcs: ∀c∈Eu q quant (Dc b) 1 63,Fe c≤1023:=by
    intro c hc
    unfold Eu at hc
    obtain ⟨k,hk,rfl⟩:=List.mem_map.1 hc
    rw[List.mem_range'_1] at hk
    exact j7q Q hb hq k (by omega) (by omega)
  obtain ⟨g1,a3,u3,g2,g3⟩:=jsa (q:=q) hq hcs (run:=0) (k:=1) (by omega) (by omega) (by rw[Jf];rfl) s6
  refine ⟨?_,by omega,a3,u3,g3,fun A G=> ?_⟩
  · unfold Li
    simp only[Bool.and_eq_true,decide_eq_true_eq]
    refine ⟨hO,by omega,by omega,?_⟩
    rw[hN];exact g1
  · unfold Gg acS
    rw[hN]
    show Ef _ _ D _ 1 a2 u2 _=_
    rw[g2]
    congr 2
    have e:(A++(List.replicate 64 0++G)).set (A.length:Int).toNat (p+Tg q D a u)=(A++ [coef q quant (Dc b) 0])++(List.replicate 63 0++G):=by
      rw[hV,show p+(coef q quant (Dc b) 0-p)=coef q quant (Dc b) 0 from by omega,List.replicate_succ]
      simp[List.set_append]
    rw[e]
    have hl:(Eu q quant (Dc b) 1 63).length=63:=Jf ..
    have:=jf9 (cs:=Eu q quant (Dc b) 1 63) (A:=A++ [coef q quant (Dc b) 0]) (G:=G)
    rw[hl] at this
    rw[show (A.length:Int)+(1+0)=((A++ [coef q quant (Dc b) 0]).length:Int) from by simp,this,Ph q _ 0 63]
    simp
structure Tc(w h:Int)(P quant:List Int):Prop where
  w1:1≤w
  h1:1≤h
  len:(P.length:Int)=w*h+2*((w+1)/2*((h+1)/2))
  pix:Bn 0 255 P=true
  q:Qs quant
section
variable {w h:Int} {P quant:List Int}
theorem Tc.prod(I:Tc w h P quant):0≤w*h∧0≤(w+1)/2*((h+1)/2):=by
  have:=I.w1
  have:=I.h1
  exact ⟨Int.mul_nonneg (by omega) (by omega),Int.mul_nonneg (by omega) (by omega)⟩
theorem Tc.y(I:Tc w h P quant){x y:Int}(hx:0≤x)(hy:0≤y):Bk (Fy x y w h P):=by
  have:=I.prod
  have:=I.len
  exact ⟨Fw,jom hx hy I.w1 I.h1 (by omega) I.pix⟩
theorem Tc.cb(I:Tc w h P quant){x y:Int}(hx:0≤x)(hy:0≤y):Bk (Nx (Nw (Ov w h) x y w h P)):=by
  have:=I.prod
  have:=I.len
  exact ⟨Zk,jdz (jdc hx hy I.w1 I.h1 (by unfold Ov;omega) (by unfold Ov;omega) I.pix)⟩
theorem Tc.cr(I:Tc w h P quant){x y:Int}(hx:0≤x)(hy:0≤y):Bk (Nx (Nw (Po w h) x y w h P)):=by
  have:=I.prod
  have:=I.len
  exact ⟨Zk,jdz (jdc hx hy I.w1 I.h1 (by unfold Po;omega) (by unfold Po;omega) I.pix)⟩
end
section
variable (w h:Int) (P quant:List Int)
def unB(a b c x y:Int):List Int:=
  To 0 quant (Dc (Fy x y w h P)) a++(To 0 quant (Dc (Fy (x+8) y w h P)) (coef 0 quant (Dc (Fy x y w h P)) 0)++(To 0 quant (Dc (Fy x (y+8) w h P)) (coef 0 quant (Dc (Fy (x+8) y w h P)) 0)++
    (To 0 quant (Dc (Fy (x+8) (y+8) w h P)) (coef 0 quant (Dc (Fy x (y+8) w h P)) 0)++(To 1 quant (Dc (Nx (Nw (Ov w h) x y w h P))) b++To 1 quant (Dc (Nx (Nw (Po w h) x y w h P))) c))))
def Hd(a b c x y:Int):List Int:=
  if y<h then
    if x<w then unB w h P quant a b c x y++Hd (coef 0 quant (Dc (Fy (x+8) (y+8) w h P)) 0) (coef 1 quant (Dc (Nx (Nw (Ov w h) x y w h P))) 0) (coef 1 quant (Dc (Nx (Nw (Po w h) x y w h P))) 0) (x+16) y
    else Hd a b c 0 (y+16)
  else []
termination_by ((h-y).toNat,(w-x).toNat)
decreasing_by
  · apply Prod.Lex.right;omega
  · apply Prod.Lex.left;omega
end
section
variable {w h:Int} {P quant:List Int}
theorem qca(I:Tc w h P quant){H L:List Int}{s:St}{a b c x y:Int}(hx:0≤x)(hy:0≤y)(ha: -1024≤a)(ha2:a≤1023)(hb: -1024≤b)(hb2:b≤1023)(hc: -1024≤c)(hc2:c≤1023)(hr:Rep H s L):
    Rep H (jyt w h P quant s a b c x y) (L++unB w h P quant a b c x y):=by
  have Y:=fun {x y:Int} (hx:0≤x) (hy:0≤y)=>Kp I.q (I.y hx hy) (q:=0) (by omega) (k:=0) (by omega) (by omega)
  unfold jyt unB
  simp only[←List.append_assoc]
  exact jba I.q (I.cr hx hy) (by omega) hc hc2 (jba I.q (I.cb hx hy) (by omega) hb hb2 (jba I.q (I.y (by omega) (by omega)) (by omega) (Y hx (by omega)).1 (Y hx (by omega)).2.1
    (jba I.q (I.y hx (by omega)) (by omega) (Y (by omega) hy).1 (Y (by omega) hy).2.1 (jba I.q (I.y (by omega) hy) (by omega) (Y hx hy).1 (Y hx hy).2.1 (jba I.q (I.y hx hy) (by omega) ha ha2 hr)))))
theorem j2b(I:Tc w h P quant){H:List Int}(n:Nat): ∀(m:Nat) {s:St} {L:List Int} {a b c x y:Int},(h-y).toNat≤n→(w-x).toNat≤m→0≤x→0≤y→ -1024≤a→a≤1023→ -1024≤b→b≤1023→ -1024≤c→c≤1023→Rep H s L→
    Rep H (Tr w h P quant s a b c x y) (L++(Hd w h P quant a b c x y++List.replicate 7 1)):=by
  have hend: ∀{s:St} {L:List Int},Rep H s L→Rep H (jbk s 127 7) (L++([]++List.replicate 7 1)):=by
    intro s L hr
    rw[List.nil_append,←js0]
    exact Rk hr (x:=127) (k:=7) (by omega) (by decide) (by omega)
  induction n with
  | zero=>
    intro m s L a b c x y hn hm hx hy a1 a2 b1 b2 c1 c2 hr
    rw[jam (by omega),Hd,if_neg (by omega)]
    exact hend hr
  | succ n ihn=>
    intro m
    induction m with
    | zero=>
      intro s L a b c x y hn hm hx hy a1 a2 b1 b2 c1 c2 hr
      by_cases hyh:y<h
      · rw[jeb hyh (by omega),Hd,if_pos hyh,if_neg (by omega)]
        exact ihn _ (by omega) (Nat.le_refl _) (by omega) (by omega) a1 a2 b1 b2 c1 c2 hr
      · rw[jam hyh,Hd,if_neg hyh]
        exact hend hr
    | succ m ihm=>
      intro s L a b c x y hn hm hx hy a1 a2 b1 b2 c1 c2 hr
      by_cases hyh:y<h
      · by_cases hxw:x<w
        · have k0:=Kp I.q (I.y (x:=x+8) (y:=y+8) (by omega) (by omega)) (q:=0) (by omega) (k:=0) (by omega) (by omega)
          have k1:=Kp I.q (I.cb hx hy) (q:=1) (by omega) (k:=0) (by omega) (by omega)
          have k2:=Kp I.q (I.cr hx hy) (q:=1) (by omega) (k:=0) (by omega) (by omega)
          rw[jhp hyh hxw,Hd,if_pos hyh,if_pos hxw,List.append_assoc,←List.append_assoc]
          exact ihm hn (by omega) (by omega) hy k0.1 k0.2.1 k1.1 k1.2.1 k2.1 k2.2.1 (qca I hx hy a1 a2 b1 b2 c1 c2 hr)
        · rw[jeb hyh hxw,Hd,if_pos hyh,if_neg hxw]
          exact ihn _ (by omega) (Nat.le_refl _) (by omega) (by omega) a1 a2 b1 b2 c1 c2 hr
      · rw[jam hyh,Hd,if_neg hyh]
        exact hend hr
end
end
end Go.Proofs.YtljjbikbfeigdaaGreatDoor
namespace Go.Proofs.YtljjbikbfeigdaaGreatDoor
noncomputable section
open Go
def Dh(f:Nat→List Int):Nat→List Int
  | 0=>[]
  | n+1=>Dh f n++f n
def Ko(f:Nat→List Int)(i:Nat)(c:List Int):Nat→List Int:=fun j=>if j=i then c else f j
theorem Wa{f:Nat→List Int}(hf: ∀j,(f j).length=64)(n:Nat):(Dh f n).length=64*n:=by
  induction n with
  | zero=>rfl
  | succ n ih=>rw[Dh,List.length_append,ih,hf];omega
theorem jcq{f g:Nat→List Int}: ∀(n:Nat),(∀j,j<n→f j=g j)→Dh f n=Dh g n
  | 0,_=>rfl
  | n+1,h=>by rw[Dh,Dh,jcq n (fun j hj=>h j (by omega)),h n (by omega)]
theorem jfi{f:Nat→List Int}(hf: ∀j,(f j).length=64){i:Nat}: ∀{n:Nat},i<n→ ∃A G,A.length=64*i∧ ∀c:List Int,Dh (Ko f i c) n=A++(c++G)
  | n+1,hi=>by
    by_cases h:i=n
    · subst h
      refine ⟨Dh f i,[],Wa hf i,fun c=> ?_⟩
      rw[Dh,jcq i (g:=f) (fun j hj=>by unfold Ko;rw[if_neg (by omega)]),List.append_nil]
      unfold Ko
      rw[if_pos rfl]
    · obtain ⟨A,G,h1,h2⟩:=jfi hf (i:=i) (n:=n) (by omega)
      refine ⟨A,G++f n,h1,fun c=> ?_⟩
      rw[Dh,h2]
      unfold Ko
      rw[if_neg (by omega)]
      simp only[List.append_assoc]
theorem ji0{f:Nat→List Int}{i:Nat}:Ko f i (f i)=f:=by
  funext j
  unfold Ko
  by_cases h:j=i
  · rw[if_pos h,h]
  · rw[if_neg h]
theorem Rl{f:Nat→List Int}(hf: ∀j,(f j).length=64){i:Nat}{c:List Int}(hc:c.length=64)(j:Nat):(Ko f i c j).length=64:=by
  unfold Ko;split
  · exact hc
  · exact hf j
section
variable {quant b D T R:List Int}
theorem j11(Q:Qs quant)(hb:Bk b){q:Nat}(hq:q<2){f:Nat→List Int}(hf: ∀j,(f j).length=64){i n:Nat}(hi:i<n)(hz:f i=List.replicate 64 0){p a u:Int}(hp1: -1024≤p)(hp2:p≤1023)
    (hr:Rd D T a u (To q quant (Dc b) p++R)):
    Li q D a u p=true∧p+Tg q D a u=coef q quant (Dc b) 0∧ ∃a1 u1,Rd D T a1 u1 R∧Gg q D (64*i:Nat) a u p (Dh f n)=a1::u1::Dh (Ko f i (Eu q quant (Dc b) 0 64)) n:=by
  obtain ⟨o1,o2,a1,u1,o3,o4⟩:=qj1 Q hb hq hp1 hp2 hr
  obtain ⟨A,G,h1,h2⟩:=jfi hf hi
  refine ⟨o1,o2,a1,u1,o3,?_⟩
  have:=o4 A G
  rw[←h2,←h2,←hz,ji0,h1] at this
  exact this
theorem jk2(Q:Qs quant)(hb:Bk b){f:Nat→List Int}(hf: ∀j,(f j).length=64){i n:Nat}(hi:i<n)(hz:f i=List.replicate 64 0){s:CS}(hs:s.b0=Dh f n)(hp1: -1024≤s.p0)(hp2:s.p0≤1023){d:Int}(hd:d=(64*i:Nat))
    (hr:Rd D T s.at_ s.us (To 0 quant (Dc b) s.p0++R)):
    ok0 D s=true∧ ∃a1 u1,Rd D T a1 u1 R∧rd0 D d s=⟨a1,u1,coef 0 quant (Dc b) 0,s.p1,s.p2,Dh (Ko f i (Eu 0 quant (Dc b) 0 64)) n,s.b1,s.b2⟩:=by
  obtain ⟨o1,o2,a1,u1,o3,o4⟩:=j11 Q hb (q:=0) (by omega) hf hi hz hp1 hp2 hr
  refine ⟨o1,a1,u1,o3,?_⟩
  unfold rd0
  rw[hs,hd,o4,o2];rfl
theorem j9b(Q:Qs quant)(hb:Bk b){f:Nat→List Int}(hf: ∀j,(f j).length=64){i n:Nat}(hi:i<n)(hz:f i=List.replicate 64 0){s:CS}(hs:s.b1=Dh f n)(hp1: -1024≤s.p1)(hp2:s.p1≤1023){d:Int}(hd:d=(64*i:Nat))
    (hr:Rd D T s.at_ s.us (To 1 quant (Dc b) s.p1++R)):
    ok1 D s=true∧ ∃a1 u1,Rd D T a1 u1 R∧rd1 D d s=⟨a1,u1,s.p0,coef 1 quant (Dc b) 0,s.p2,s.b0,Dh (Ko f i (Eu 1 quant (Dc b) 0 64)) n,s.b2⟩:=by
  obtain ⟨o1,o2,a1,u1,o3,o4⟩:=j11 Q hb (q:=1) (by omega) hf hi hz hp1 hp2 hr
  refine ⟨o1,a1,u1,o3,?_⟩
  unfold rd1
  rw[hs,hd,o4,o2];rfl
theorem qan(Q:Qs quant)(hb:Bk b){f:Nat→List Int}(hf: ∀j,(f j).length=64){i n:Nat}(hi:i<n)(hz:f i=List.replicate 64 0){s:CS}(hs:s.b2=Dh f n)(hp1: -1024≤s.p2)(hp2:s.p2≤1023){d:Int}(hd:d=(64*i:Nat))
    (hr:Rd D T s.at_ s.us (To 1 quant (Dc b) s.p2++R)):
    ok2 D s=true∧ ∃a1 u1,Rd D T a1 u1 R∧rd2 D d s=⟨a1,u1,s.p0,s.p1,coef 1 quant (Dc b) 0,s.b0,s.b1,Dh (Ko f i (Eu 1 quant (Dc b) 0 64)) n⟩:=by
  obtain ⟨o1,o2,a1,u1,o3,o4⟩:=j11 Q hb (q:=1) (by omega) hf hi hz hp1 hp2 hr
  refine ⟨o1,a1,u1,o3,?_⟩
  unfold rd2
  rw[hs,hd,o4,o2];rfl
end
section
variable {w h:Int} {P quant D T R:List Int}
def cfY(w h:Int)(P quant:List Int)(x y:Int):List Int:=Eu 0 quant (Dc (Fy x y w h P)) 0 64
def cfC(off w h:Int)(P quant:List Int)(x y:Int):List Int:=Eu 1 quant (Dc (Nx (Nw off x y w h P))) 0 64
theorem qfh(I:Tc w h P quant){x y X m:Int}(hx:0≤x)(hy:0≤y){f0 f1 f2:Nat→List Int}(hf0: ∀j,(f0 j).length=64)(hf1: ∀j,(f1 j).length=64)(hf2: ∀j,(f2 j).length=64){i0 i1 i2 i3 iC n0 n1:Nat}
    (l0:i0<n0)(l1:i1<n0)(l2:i2<n0)(l3:i3<n0)(lC:iC<n1)(d01:i0≠i1)(d02:i0≠i2)(d03:i0≠i3)(d12:i1≠i2)(d13:i1≠i3)(d23:i2≠i3)
    (z0:f0 i0=List.replicate 64 0)(z1:f0 i1=List.replicate 64 0)(z2:f0 i2=List.replicate 64 0)(z3:f0 i3=List.replicate 64 0)(zb:f1 iC=List.replicate 64 0)(zr:f2 iC=List.replicate 64 0)
    (e0:dY X m 0=(64*i0:Nat))(e1:dY X m 1=(64*i1:Nat))(e2:dY X m 2=(64*i2:Nat))(e3:dY X m 3=(64*i3:Nat))(eC:dC X m=(64*iC:Nat))
    {a u p q r:Int}(hp1: -1024≤p)(hp2:p≤1023)(hq1: -1024≤q)(hq2:q≤1023)(hr1: -1024≤r)(hr2:r≤1023)
    (hr:Rd D T a u (unB w h P quant p q r x y++R)):
    jah D X m ⟨a,u,p,q,r,Dh f0 n0,Dh f1 n1,Dh f2 n1⟩=true∧ ∃a1 u1,Rd D T a1 u1 R∧un6 D X m ⟨a,u,p,q,r,Dh f0 n0,Dh f1 n1,Dh f2 n1⟩=
      ⟨a1,u1,coef 0 quant (Dc (Fy (x+8) (y+8) w h P)) 0,coef 1 quant (Dc (Nx (Nw (Ov w h) x y w h P))) 0,coef 1 quant (Dc (Nx (Nw (Po w h) x y w h P))) 0,
        Dh (Ko (Ko (Ko (Ko f0 i0 (cfY w h P quant x y)) i1 (cfY w h P quant (x+8) y)) i2 (cfY w h P quant x (y+8))) i3 (cfY w h P quant (x+8) (y+8))) n0,
        Dh (Ko f1 iC (cfC (Ov w h) w h P quant x y)) n1,Dh (Ko f2 iC (cfC (Po w h) w h P quant x y)) n1⟩:=by
  have Y:=fun {x y:Int} (hx:0≤x) (hy:0≤y)=>Kp I.q (I.y hx hy) (q:=0) (by omega) (k:=0) (by omega) (by omega)
  unfold unB at hr
  simp only[List.append_assoc] at hr
  have LY: ∀{x y:Int},(cfY w h P quant x y).length=64:=Jf ..
  obtain ⟨o0,a0,u0,r0,s0⟩:=jk2 I.q (I.y hx hy) hf0 l0 z0 (s:=⟨a,u,p,q,r,Dh f0 n0,Dh f1 n1,Dh f2 n1⟩) rfl hp1 hp2 e0 hr
  obtain ⟨o1,a1,u1,r1,s1⟩:=jk2 I.q (I.y (x:=x+8) (by omega) hy) (f:=(Ko f0 i0 (cfY w h P quant x y))) (Rl hf0 LY) l1 (by unfold Ko;rw[if_neg (by omega)];exact z1) (s:=un1 D X m ⟨a,u,p,q,r,Dh f0 n0,Dh f1 n1,Dh f2 n1⟩) (by rw[un1,s0];rfl) (by rw[un1,s0];exact (Y hx hy).1) (by rw[un1,s0];exact (Y hx hy).2.1) e1 (by rw[un1,s0];exact r0)
  obtain ⟨o2,a2,u2,r2,s2⟩:=jk2 I.q (I.y (y:=y+8) hx (by omega)) (f:=(Ko (Ko f0 i0 (cfY w h P quant x y)) i1 (cfY w h P quant (x+8) y))) (Rl (Rl hf0 LY) LY) l2 (by unfold Ko;rw[if_neg (by omega),if_neg (by omega)];exact z2) (s:=un2 D X m ⟨a,u,p,q,r,Dh f0 n0,Dh f1 n1,Dh f2 n1⟩) (by rw[un2,s1];rfl) (by rw[un2,s1];exact (Y (by omega) hy).1) (by rw[un2,s1];exact (Y (by omega) hy).2.1) e2 (by rw[un2,s1];exact r1)
  obtain ⟨o3,a3,u3,r3,s3⟩:=jk2 I.q (I.y (x:=x+8) (y:=y+8) (by omega) (by omega)) (f:=(Ko (Ko (Ko f0 i0 (cfY w h P quant x y)) i1 (cfY w h P quant (x+8) y)) i2 (cfY w h P quant x (y+8)))) (Rl (Rl (Rl hf0 LY) LY) LY) l3 (by unfold Ko;rw[if_neg (by omega),if_neg (by omega),if_neg (by omega)];exact z3) (s:=un3 D X m ⟨a,u,p,q,r,Dh f0 n0,Dh f1 n1,Dh f2 n1⟩) (by rw[un3,s2];rfl) (by rw[un3,s2];exact (Y hx (by omega)).1) (by rw[un3,s2];exact (Y hx (by omega)).2.1) e3 (by rw[un3,s2];exact r2)
  have t3:un4 D X m ⟨a,u,p,q,r,Dh f0 n0,Dh f1 n1,Dh f2 n1⟩=_:=s3
  have q1:(un1 D X m ⟨a,u,p,q,r,Dh f0 n0,Dh f1 n1,Dh f2 n1⟩).p1=q∧(un1 D X m ⟨a,u,p,q,r,Dh f0 n0,Dh f1 n1,Dh f2 n1⟩).p2=r:=⟨rfl,rfl⟩
  obtain ⟨o4,a4,u4,r4,s4⟩:=j9b I.q (I.cb hx hy) hf1 lC zb (s:=un4 D X m ⟨a,u,p,q,r,Dh f0 n0,Dh f1 n1,Dh f2 n1⟩) rfl hq1 hq2 eC (by rw[t3];exact r3)
  have t4:un5 D X m ⟨a,u,p,q,r,Dh f0 n0,Dh f1 n1,Dh f2 n1⟩=_:=s4
  obtain ⟨o5,a5,u5,r5,s5⟩:=qan I.q (I.cr hx hy) hf2 lC zr (s:=un5 D X m ⟨a,u,p,q,r,Dh f0 n0,Dh f1 n1,Dh f2 n1⟩) rfl hr1 hr2 eC (by rw[t4];exact r4)
  refine ⟨?_,a5,u5,r5,?_⟩
  · unfold jah
    rw[o0,o1,o2,o3,o4,o5];rfl
  · show rd2 D (dC X m) _=_
    rw[s5,t4,t3];rfl
end
end
end Go.Proofs.YtljjbikbfeigdaaGreatDoor
namespace Go.Proofs.YtljjbikbfeigdaaGreatDoor
noncomputable section
open Go
def jg5(X j:Nat):Nat:=j/(2*X)/2*X+j % (2*X)/2
theorem jo3{X R K:Nat}(hK:K<X):(R*X+K)/X=R∧(R*X+K) % X=K:=by
  have hX:0<X:=by omega
  constructor
  · rw[Nat.mul_comm,Nat.mul_add_div hX,Nat.div_eq_of_lt hK,Nat.add_zero]
  · rw[Nat.mul_comm,Nat.mul_add_mod,Nat.mod_eq_of_lt hK]
theorem jfb{X R K:Nat}(hK:K<2*X):jg5 X (R*(2*X)+K)=R/2*X+K/2:=by
  unfold jg5
  obtain ⟨a,b⟩:=jo3 (R:=R) hK
  rw[a,b]
theorem j06{X r c j:Nat}(hX:0<X)(hc:c<X)(h:jg5 X j=r*X+c):j/(2*X)/2=r∧j % (2*X)/2=c:=by
  unfold jg5 at h
  have hK:j % (2*X)/2<X:=by have:=Nat.mod_lt j (show 0<2*X by omega);omega
  obtain ⟨a,b⟩:=jo3 (R:=j/(2*X)/2) hK
  obtain ⟨a',b'⟩:=jo3 (R:=r) hc
  rw[h,a'] at a
  rw[h,b'] at b
  exact ⟨a.symm,b.symm⟩
section
variable (w h:Int) (P quant:List Int) (X:Nat)
def F0(m j:Nat):List Int:=if jg5 X j<m then cfY w h P quant (8*(j % (2*X):Nat)) (8*(j/(2*X):Nat)) else List.replicate 64 0
def F1(off:Int)(m j:Nat):List Int:=if j<m then cfC off w h P quant (16*(j % X:Nat)) (16*(j/X:Nat)) else List.replicate 64 0
end
section
variable {w h:Int} {P quant:List Int} {X:Nat}
theorem jjr(m j:Nat):(F0 w h P quant X m j).length=64:=by
  unfold F0;split
  · exact Jf ..
  · simp
theorem Yy(off:Int)(m j:Nat):(F1 w h P quant X off m j).length=64:=by
  unfold F1;split
  · exact Jf ..
  · simp
theorem jdw{r c K R:Nat}(hK:K<2*X)(hr:R/2=r)(hk:K/2=c):F0 w h P quant X (r*X+c) (R*(2*X)+K)=List.replicate 64 0:=by
  unfold F0
  rw[jfb hK,hr,hk,if_neg (by omega)]
theorem jk1{r c K R:Nat}(hK:K<2*X)(hr:R/2=r)(hk:K/2=c):F0 w h P quant X (r*X+c+1) (R*(2*X)+K)=cfY w h P quant (8*(K:Nat)) (8*(R:Nat)):=by
  unfold F0
  obtain ⟨a,b⟩:=jo3 (R:=R) hK
  rw[jfb hK,hr,hk,if_pos (by omega),a,b]
theorem j3h{r c:Nat}(hc:c<X):F0 w h P quant X (r*X+c+1)=Ko (Ko (Ko (Ko (F0 w h P quant X (r*X+c)) (2*r*(2*X)+2*c) (cfY w h P quant (16*c:Nat) (16*r:Nat))) (2*r*(2*X)+(2*c+1)) (cfY w h P quant ((16*c:Nat)+8) (16*r:Nat))) ((2*r+1)*(2*X)+2*c) (cfY w h P quant (16*c:Nat) ((16*r:Nat)+8))) ((2*r+1)*(2*X)+(2*c+1)) (cfY w h P quant ((16*c:Nat)+8) ((16*r:Nat)+8)):=by
  funext j
  unfold Ko
  by_cases h3:j=(2*r+1)*(2*X)+(2*c+1)
  · rw[if_pos h3,h3,jk1 (by omega) (by omega) (by omega)]
    congr 1<;>omega
  rw[if_neg h3]
  by_cases h2:j=(2*r+1)*(2*X)+2*c
  · rw[if_pos h2,h2,jk1 (by omega) (by omega) (by omega)]
    congr 1<;>omega
  rw[if_neg h2]
  by_cases h1:j=2*r*(2*X)+(2*c+1)
  · rw[if_pos h1,h1,jk1 (by omega) (by omega) (by omega)]
    congr 1<;>omega
  rw[if_neg h1]
  by_cases h0:j=2*r*(2*X)+2*c
  · rw[if_pos h0,h0,jk1 (by omega) (by omega) (by omega)]
    congr 1<;>omega
  rw[if_neg h0]
  have hn:jg5 X j≠r*X+c:=by
    intro e
    obtain ⟨a,b⟩:=j06 (by omega) hc e
    have hj:=Nat.div_add_mod j (2*X)
    rw[Nat.mul_comm] at hj
    rcases (show j/(2*X)=2*r∨j/(2*X)=2*r+1 by omega) with hR|hR
    · rw[hR] at hj
      rcases (show j % (2*X)=2*c∨j % (2*X)=2*c+1 by omega) with hK|hK
      · exact h0 (by rw[←hj,hK])
      · exact h1 (by rw[←hj,hK])
    · rw[hR] at hj
      rcases (show j % (2*X)=2*c∨j % (2*X)=2*c+1 by omega) with hK|hK
      · exact h2 (by rw[←hj,hK])
      · exact h3 (by rw[←hj,hK])
  unfold F0
  by_cases hl:jg5 X j<r*X+c
  · rw[if_pos hl,if_pos (by omega)]
  · rw[if_neg hl,if_neg (by omega)]
theorem jsn{off:Int}{r c:Nat}(hc:c<X):F1 w h P quant X off (r*X+c+1)=Ko (F1 w h P quant X off (r*X+c)) (r*X+c) (cfC off w h P quant (16*c:Nat) (16*r:Nat)):=by
  funext j
  unfold Ko F1
  obtain ⟨a,b⟩:=jo3 (R:=r) hc
  by_cases h0:j=r*X+c
  · rw[if_pos h0,h0,if_pos (by omega),a,b]
    congr 1<;>omega
  · rw[if_neg h0]
    by_cases hl:j<r*X+c
    · rw[if_pos hl,if_pos (by omega)]
    · rw[if_neg hl,if_neg (by omega)]
theorem dYN{r c:Nat}(hc:c<X):dY X (r*X+c:Nat) 0=(64*(2*r*(2*X)+2*c):Nat)∧dY X (r*X+c:Nat) 1=(64*(2*r*(2*X)+(2*c+1)):Nat)∧dY X (r*X+c:Nat) 2=(64*((2*r+1)*(2*X)+2*c):Nat)∧dY X (r*X+c:Nat) 3=(64*((2*r+1)*(2*X)+(2*c+1)):Nat)∧dC X (r*X+c:Nat)=(64*(r*X+c):Nat):=by
  obtain ⟨a,b⟩:=jo3 (R:=r) hc
  have ea:((r*X+c:Nat):Int)/(X:Int)=(r:Int):=by rw[←Int.natCast_ediv,a]
  have eb:((r*X+c:Nat):Int) % (X:Int)=(c:Int):=by rw[←Int.natCast_emod,b]
  unfold dY dC
  rw[ea,eb]
  simp only[show (0:Int)/2=0 from rfl,show (1:Int)/2=0 from rfl,show (2:Int)/2=1 from rfl,show (3:Int)/2=1 from rfl,show (0:Int) % 2=0 from rfl,show (1:Int) % 2=1 from rfl,show (2:Int) % 2=0 from rfl,show (3:Int) % 2=1 from rfl,Int.add_zero,Int.natCast_mul,Int.natCast_add,Int.mul_comm (r:Int) 2,Int.mul_comm (c:Int) 2,Int.mul_comm (X:Int) 2]
  exact ⟨rfl,rfl,rfl,rfl,rfl⟩
end
end
end Go.Proofs.YtljjbikbfeigdaaGreatDoor
namespace Go.Proofs.YtljjbikbfeigdaaGreatDoor
noncomputable section
open Go
section
variable {w h:Int} {P quant D T:List Int} {X Y:Nat}
def stM(w h:Int)(P quant:List Int)(X N m:Nat)(a u p q s:Int):CS:=
  ⟨a,u,p,q,s,Dh (F0 w h P quant X m) (4*N),Dh (F1 w h P quant X (Ov w h) m) N,Dh (F1 w h P quant X (Po w h) m) N⟩
theorem jjs{r c:Nat}(hr:r<Y)(hc:c<X):r*X+c<X*Y:=by
  have h1:(r+1)*X≤Y*X:=Nat.mul_le_mul_right _ hr
  rw[Nat.add_mul,Nat.one_mul] at h1
  rw[Nat.mul_comm X Y];omega
theorem jlm{r c R K:Nat}(hr:r<Y)(hc:c<X)(hR:R≤2*r+1)(hK:K≤2*c+1):R*(2*X)+K<4*(X*Y):=by
  have h1:R*(2*X)≤(2*r+1)*(2*X):=Nat.mul_le_mul_right _ hR
  have h2:(2*r+1)*(2*X)=4*(r*X)+2*X:=by
    rw[Nat.add_mul,Nat.one_mul,Nat.mul_assoc,Nat.mul_left_comm r 2 X,←Nat.mul_assoc]
  have h3:=jjs (X:=X) (Y:=Y) hr hc
  have h4:(r+1)*X≤Y*X:=Nat.mul_le_mul_right _ hr
  rw[Nat.add_mul,Nat.one_mul] at h4
  rw[Nat.mul_comm X Y] at*
  omega
theorem qdt(I:Tc w h P quant)(hX: ∀c:Nat,(16*c:Nat)<w↔c<X)(hY: ∀r:Nat,(16*r:Nat)<h↔r<Y){j:Nat}(hj:j<8)(n:Nat): ∀(k:Nat) {r c:Nat} {a u p q s:Int},(h-(16*r:Nat)).toNat≤n→(w-(16*c:Nat)).toNat≤k→c≤X→r≤Y→(c=0∨r<Y)→
    -1024≤p→p≤1023→ -1024≤q→q≤1023→ -1024≤s→s≤1023→Rd D T a u (Hd w h P quant p q s (16*c:Nat) (16*r:Nat)++List.replicate j 1)→
    Lz D X (X*Y-(r*X+c)) (r*X+c:Nat) (stM w h P quant X (X*Y) (r*X+c) a u p q s)=true∧
    ∃a1 u1 p1 q1 s1,scC D X (X*Y-(r*X+c)) (r*X+c:Nat) (stM w h P quant X (X*Y) (r*X+c) a u p q s)=stM w h P quant X (X*Y) (X*Y) a1 u1 p1 q1 s1∧Rd D T a1 u1 (List.replicate j 1):=by
  have hend: ∀{r c:Nat} {a u p q s:Int},¬r<Y→r≤Y→(c=0∨r<Y)→Rd D T a u ([]++List.replicate j 1)→
      Lz D X (X*Y-(r*X+c)) (r*X+c:Nat) (stM w h P quant X (X*Y) (r*X+c) a u p q s)=true∧
      ∃a1 u1 p1 q1 s1,scC D X (X*Y-(r*X+c)) (r*X+c:Nat) (stM w h P quant X (X*Y) (r*X+c) a u p q s)=stM w h P quant X (X*Y) (X*Y) a1 u1 p1 q1 s1∧Rd D T a1 u1 (List.replicate j 1):=by
    intro r c a u p q s h1 h2 h3 hr
    have er:r=Y:=by omega
    have ec:c=0:=by omega
    subst er
    subst ec
    rw[Nat.add_zero,Nat.mul_comm r X,Nat.sub_self]
    exact ⟨(jrw hj hr).1,a,u,p,q,s,rfl,hr⟩
  induction n with
  | zero=>
    intro k r c a u p q s hn hk hc hrY h0 p1 p2 q1 q2 s1 s2 hr
    have hy: ¬((16*r:Nat):Int)<h:=by omega
    rw[Hd,if_neg hy] at hr
    exact hend (fun g=>hy ((hY r).2 g)) hrY h0 hr
  | succ n ihn=>
    intro k
    induction k with
    | zero=>
      intro r c a u p q s hn hk hc hrY h0 p1 p2 q1 q2 s1 s2 hr
      by_cases hy:((16*r:Nat):Int)<h
      · have hx: ¬((16*c:Nat):Int)<w:=by omega
        have hcX:c=X:=by have:=mt (hX c).2 hx;omega
        rw[Hd,if_pos hy,if_neg hx] at hr
        have:=(hY r).1 hy
        have e:r*X+c=(r+1)*X+0:=by rw[hcX,Nat.add_mul,Nat.one_mul,Nat.add_zero]
        rw[e]
        exact ihn _ (r:=r+1) (c:=0) (by omega) (Nat.le_refl _) (Nat.zero_le _) this (Or.inl rfl) p1 p2 q1 q2 s1 s2 (by
          rw[show ((16*(r+1):Nat):Int)=((16*r:Nat):Int)+16 from by omega];exact hr)
      · rw[Hd,if_neg hy] at hr
        exact hend (fun g=>hy ((hY r).2 g)) hrY h0 hr
    | succ k ihk=>
      intro r c a u p q s hn hk hc hrY h0 p1 p2 q1 q2 s1 s2 hr
      by_cases hy:((16*r:Nat):Int)<h
      · have hrl:=(hY r).1 hy
        by_cases hx:((16*c:Nat):Int)<w
        · have hcl:=(hX c).1 hx
          rw[Hd,if_pos hy,if_pos hx,List.append_assoc] at hr
          obtain ⟨y0,y1,y2,y3,yC⟩:=dYN (r:=r) hcl
          obtain ⟨o,a1,u1,hr1,e⟩:=qfh (n0:=4*(X*Y)) (n1:=X*Y) I (x:=(16*c:Nat)) (y:=(16*r:Nat)) (by omega) (by omega) (jjr (X:=X) (r*X+c)) (Yy (X:=X) (Ov w h) (r*X+c)) (Yy (X:=X) (Po w h) (r*X+c))
            (jlm hrl hcl (by omega) (by omega)) (jlm hrl hcl (by omega) (by omega)) (jlm hrl hcl (by omega) (by omega)) (jlm hrl hcl (by omega) (by omega)) (jjs hrl hcl)
            (by omega) (by rw[Nat.add_mul];omega) (by rw[Nat.add_mul];omega) (by rw[Nat.add_mul];omega) (by rw[Nat.add_mul];omega) (by omega)
            (jdw (by omega) (by omega) (by omega)) (jdw (by omega) (by omega) (by omega)) (jdw (by omega) (by omega) (by omega)) (jdw (by omega) (by omega) (by omega))
            (by unfold F1;rw[if_neg (by omega)]) (by unfold F1;rw[if_neg (by omega)]) y0 y1 y2 y3 yC p1 p2 q1 q2 s1 s2 hr
          have hl:=jjs hrl hcl
          have k0:=Kp I.q (I.y (x:=(16*c:Nat)+8) (y:=(16*r:Nat)+8) (by omega) (by omega)) (q:=0) (by omega) (k:=0) (by omega) (by omega)
          have k1:=Kp I.q (I.cb (x:=(16*c:Nat)) (y:=(16*r:Nat)) (by omega) (by omega)) (q:=1) (by omega) (k:=0) (by omega) (by omega)
          have k2:=Kp I.q (I.cr (x:=(16*c:Nat)) (y:=(16*r:Nat)) (by omega) (by omega)) (q:=1) (by omega) (k:=0) (by omega) (by omega)
          rw[←j3h hcl,←jsn hcl,←jsn hcl] at e
          have ih:=ihk (r:=r) (c:=c+1) hn (by omega) hcl hrY (Or.inr hrl) k0.1 k0.2.1 k1.1 k1.2.1 k2.1 k2.2.1 (a:=a1) (u:=u1) (by
            rw[show ((16*(c+1):Nat):Int)=((16*c:Nat):Int)+16 from by omega];exact hr1)
          rw[show X*Y-(r*X+c)=(X*Y-(r*X+(c+1)))+1 from by omega]
          have eM:(((r*X+c:Nat):Int)+1)=((r*X+(c+1):Nat):Int):=by omega
          have eS:un6 D X (r*X+c:Nat) (stM w h P quant X (X*Y) (r*X+c) a u p q s)=stM w h P quant X (X*Y) (r*X+(c+1)) a1 u1 _ _ _:=e
          constructor
          · show (jah D X (r*X+c:Nat) (stM w h P quant X (X*Y) (r*X+c) a u p q s)&&Lz D X _ (((r*X+c:Nat):Int)+1) (un6 D X (r*X+c:Nat) (stM w h P quant X (X*Y) (r*X+c) a u p q s)))=true
            rw[eM,eS,Bool.and_eq_true]
            exact ⟨o,ih.1⟩
          · show ∃a1 u1 p1 q1 s1,scC D X _ (((r*X+c:Nat):Int)+1) (un6 D X (r*X+c:Nat) (stM w h P quant X (X*Y) (r*X+c) a u p q s))=_∧_
            rw[eM,eS]
            exact ih.2
        · have hcX:c=X:=by have:=mt (hX c).2 hx;omega
          rw[Hd,if_pos hy,if_neg hx] at hr
          have e:r*X+c=(r+1)*X+0:=by rw[hcX,Nat.add_mul,Nat.one_mul,Nat.add_zero]
          rw[e]
          exact ihn _ (r:=r+1) (c:=0) (by omega) (Nat.le_refl _) (Nat.zero_le _) hrl (Or.inl rfl) p1 p2 q1 q2 s1 s2 (by
            rw[show ((16*(r+1):Nat):Int)=((16*r:Nat):Int)+16 from by omega];exact hr)
      · rw[Hd,if_neg hy] at hr
        exact hend (fun g=>hy ((hY r).2 g)) hrY h0 hr
end
end
end Go.Proofs.YtljjbikbfeigdaaGreatDoor
namespace Go.Proofs.YtljjbikbfeigdaaGreatDoor
noncomputable section
open Go
def j0e(w h:Int):List Int:=[255,192,0,17,8,h/256,h % 256,w/256,w % 256,3,1,34,0,2,17,1,3,17,1,255,196,1,162]
def j6l:List Int:=[255,218,0,12,3,1,0,2,17,3,17,0,63,0]
theorem j3b(q w h:Int):jrj q w h++jbn=jcv++(Cs (Ci q) 0 64++([1]++(Cs (Ci q) 64 64++(j0e w h++(Ns++j6l))))):=by
  unfold jrj jbn j0e j6l Ns jcv
  simp only[List.append_assoc,List.cons_append,List.nil_append]
theorem jhd:Ns.length=416:=by kernel_rfl
theorem jqu{q w h:Int}{P:List Int}(I:Tc w h P (Ci q)): ∃(B:List Int) (j:Nat),Ey B∧j<8∧Mz B=Hd w h P (Ci q) 0 0 0 0 0++List.replicate j 1∧Ts q w h P=(jrj q w h++jbn)++(Es B++ [255,217]):=by
  have h0:Rep (jrj q w h++jbn) ⟨jrj q w h++jbn,0,0⟩ []:=
    ⟨[],[],fun b hb=>by simp at hb,fun b hb=>by simp at hb,by simp,by simp[Es,Jb],rfl⟩
  have hr:=j2b I _ _ (Nat.le_refl _) (Nat.le_refl _) (Int.le_refl 0) (Int.le_refl 0) (by omega:(-1024:Int)≤0) (by omega:(0:Int)≤1023) (by omega:(-1024:Int)≤0) (by omega:(0:Int)≤1023) (by omega:(-1024:Int)≤0) (by omega:(0:Int)≤1023) h0
  obtain ⟨B,X,b1,b2,b3,b4,b5⟩:=hr
  rw[List.nil_append] at b5
  refine ⟨B,7-X.length,b1,by omega,jhf b5.symm (by omega),?_⟩
  unfold Ts Sf
  rw[b4,List.append_assoc]
theorem Xo{f:Nat→List Int}(hf: ∀j,f j=List.replicate 64 0): ∀n:Nat,Dh f n=List.replicate (64*n) 0
  | 0=>rfl
  | n+1=>by rw[Dh,Xo hf n,hf,List.replicate_append_replicate];congr 1
theorem Vz{f:Nat→List Int}(hf: ∀j,(f j).length=64){m n:Nat}(h:m<n):Cs (Dh f n) (64*m) 64=f m:=by
  obtain ⟨A,G,h1,h2⟩:=jfi hf h
  have e:=h2 (f m)
  rw[ji0] at e
  rw[e,←h1]
  unfold Cs
  have:=hf m
  rw[List.drop_left,List.take_append_of_le_length (by omega),List.take_of_length_le (by omega)]
theorem Wg{quant b:List Int}(Q:Qs quant)(hb:Bk b){q:Nat}(hq:q<2):Ws (Eu q quant (Dc b) 0 64)=true:=by
  have c0:=Kp Q hb hq (k:=0) (by omega) (by omega)
  have e:Eu q quant (Dc b) 0 64=coef q quant (Dc b) 0::Eu q quant (Dc b) 1 63:=Ph _ _ _ _
  unfold Ws
  rw[e]
  simp only[Bool.and_eq_true,decide_eq_true_eq,List.tail_cons,List.all_eq_true]
  refine ⟨c0.1,c0.2.1,fun v hv=> ?_⟩
  unfold Eu at hv
  obtain ⟨k,hk,rfl⟩:=List.mem_map.1 hv
  rw[List.mem_range'_1] at hk
  have:=Kp Q hb hq (k:=(k:Int)) (by omega) (by omega)
  exact ⟨this.2.2 (by omega),this.2.1⟩
theorem jbr:Ws (List.replicate 64 0)=true:=by decide+kernel
def xU(w:Int):Nat:=(xN w).toNat
structure jgl(q w h:Int)(P D:List Int):Prop where
  ok:cOk D=true
  wide:wdD D=w
  high:hgD D=h
  q0:Cs D 7 64=Cs (Ci q) 0 64
  q1:Cs D 72 64=Cs (Ci q) 64 64
  b0:(Kl D).b0=Dh (F0 w h P (Ci q) (xU w) (xU w*xU h)) (4*(xU w*xU h))
  b1:(Kl D).b1=Dh (F1 w h P (Ci q) (xU w) (Ov w h) (xU w*xU h)) (xU w*xU h)
  b2:(Kl D).b2=Dh (F1 w h P (Ci q) (xU w) (Po w h) (xU w*xU h)) (xU w*xU h)
  bytes:Bn 0 255 D=true
theorem jci{q w h:Int}{P:List Int}(I:Tc w h P (Ci q))(hw:w≤65535)(hh:h≤65535)(hwh:w*h≤65536):jgl q w h P (Ts q w h P):=by
  obtain ⟨B,j,b1,b2,b3,b4⟩:=jqu I
  have hw1:=I.w1
  have hh1:=I.h1
  generalize hD:Ts q w h P=D at*
  rw[j3b] at b4
  simp only[List.append_assoc] at b4
  have d0:D.drop 0=jcv++(Cs (Ci q) 0 64++([1]++(Cs (Ci q) 64 64++(j0e w h++(Ns++(j6l++(Es B++ [255,217]))))))):=b4
  have d7:=Gk (m:=7) d0 rfl
  have d71:=Gk (m:=71) d7 (by rw[(Hs q).1])
  have d72:=Gk (m:=72) d71 rfl
  have d136:=Gk (m:=136) d72 (by rw[(Hs q).2])
  have d159:=Gk (m:=159) d136 rfl
  have d575:=Gk (m:=575) d159 (by rw[jhd])
  have d589:=Gk (m:=589) d575 rfl
  have wd:wdD D=w:=by
    have e1:Bg D 143=w/256:=Rf (k:=7) d136
    have e2:Bg D 144=w % 256:=Rf (k:=8) d136
    unfold wdD
    rw[e1,e2];omega
  have hg:hgD D=h:=by
    have e1:Bg D 141=h/256:=Rf (k:=5) d136
    have e2:Bg D 142=h % 256:=Rf (k:=6) d136
    unfold hgD
    rw[e1,e2];omega
  have eX:xN w=((xU w:Nat):Int):=by unfold xU xN;omega
  have eY:xN h=((xU h:Nat):Int):=by unfold xU xN;omega
  have eN:Gt D=((xU w*xU h:Nat):Int):=by
    unfold Gt nmC
    rw[wd,hg,eX,eY,Int.natCast_mul]
  have hN:(Gt D).toNat=xU w*xU h:=by rw[eN,Int.toNat_natCast]
  have hz4:Cr (4*Gt D)=Dh (F0 w h P (Ci q) (xU w) 0) (4*(xU w*xU h)):=by
    rw[Xo (fun j=>by unfold F0;rw[if_neg (by omega)]),eN]
    exact jbi (by omega)
  have hz1: ∀off,Cr (Gt D)=Dh (F1 w h P (Ci q) (xU w) off 0) (xU w*xU h):=by
    intro off
    rw[Xo (fun j=>by unfold F1;rw[if_neg (by omega)])]
    exact jbi hN
  have hrd:Rd D [255,217] 589 0 (Hd w h P (Ci q) 0 0 0 0 0++List.replicate j 1):=⟨589,B,rfl,d589,b1,by omega,by omega,fun _=>rfl,by rw[b3];rfl⟩
  obtain ⟨s1,a1,u1,p1,q1,r1,s2,s3⟩:=qdt I (X:=xU w) (Y:=xU h) (fun c=>by unfold xU xN;omega) (fun r=>by unfold xU xN;omega) b2 _ _ (r:=0) (c:=0) (Nat.le_refl _) (Nat.le_refl _) (Nat.zero_le _) (Nat.zero_le _) (Or.inl rfl) (by omega:(-1024:Int)≤0) (by omega:(0:Int)≤1023) (by omega:(-1024:Int)≤0) (by omega:(0:Int)≤1023) (by omega:(-1024:Int)≤0) (by omega:(0:Int)≤1023) hrd
  rw[Nat.zero_mul,Nat.add_zero,Nat.sub_zero] at s1 s2
  have eS:st0 589 (Cr (4*Gt D)) (Cr (Gt D)) (Cr (Gt D))=stM w h P (Ci q) (xU w) (xU w*xU h) 0 589 0 0 0 0:=by
    unfold st0 stM
    rw[hz4,←hz1 (Ov w h),←hz1 (Po w h)]
  have hfin:Kl D=stM w h P (Ci q) (xU w) (xU w*xU h) (xU w*xU h) a1 u1 p1 q1 r1:=by
    unfold Kl
    rw[wd,eX,hN,eS]
    exact s2
  obtain ⟨l1,l2⟩:=jrw b2 s3
  obtain ⟨r1,r2⟩:=j0s l2
  have hend:eoC D=Mp D (Mr u1) a1 u1:=by
    have:eoC D=Mp D (Mr (Kl D).us) (Kl D).at_ (Kl D).us:=rfl
    rw[this,hfin];rfl
  obtain ⟨t1,t2,t3⟩:=Ow r2
  obtain ⟨t4,t5,t6⟩:=Ow t3
  have tl:=congrArg List.length r2
  rw[List.length_drop] at tl
  have hq:=Ju (B:=Ci q) (by
    have:=I.q.q
    unfold Bn at this⊢
    rw[List.all_eq_true] at this⊢
    intro x hx
    have:=this x hx
    simp only[Bool.and_eq_true,decide_eq_true_eq] at this⊢
    omega)
  have hqc: ∀s n,Ey (Cs (Ci q) s n):=fun s n x hx=>hq x (List.mem_of_mem_drop (List.mem_of_mem_take hx))
  have hq1: ∀s n,(Cs (Ci q) s n).all (fun x=>decide (1≤x))=true:=by
    intro s n
    rw[List.all_eq_true]
    intro x hx
    have:=List.all_eq_true.1 I.q.q x (List.mem_of_mem_drop (List.mem_of_mem_take hx))
    simp only[Bool.and_eq_true,decide_eq_true_eq] at this⊢
    exact this.1
  have c7:Cs D 7 64=Cs (Ci q) 0 64:=Qf d7 (Hs q).1
  have g3:Cs D 72 64=Cs (Ci q) 64 64:=Qf d72 (Hs q).2
  refine ⟨?_,wd,hg,c7,g3,by rw[hfin];rfl,by rw[hfin];rfl,by rw[hfin];rfl,?_⟩
  · have g1:Cs D 0 7=[255,216,255,219,0,132,0]:=Qf d0 rfl
    have g2:Bg D 71=1:=Rf (k:=0) d71
    have g4:Cs D 136 5=[255,192,0,17,8]:=by unfold Cs;rw[d136];rfl
    have g5:Cs D 145 10=[3,1,34,0,2,17,1,3,17,1]:=by
      unfold Cs
      rw[show (145:Nat)=136+9 from rfl,←List.drop_drop,d136];rfl
    have g6:Cs D 155 4=[255,196,1,162]:=by
      unfold Cs
      rw[show (155:Nat)=136+19 from rfl,←List.drop_drop,d136];rfl
    have g7:Cs D 159 416=Ns:=Qf d159 jhd
    have g8:Cs D 575 4=[255,218,0,12]:=by unfold Cs;rw[d575];rfl
    have g9:Cs D 579 10=jzv:=by
      unfold Cs
      rw[show (579:Nat)=575+4 from rfl,←List.drop_drop,d575];rfl
    have g10:Xh (4*Gt D).toNat (Kl D).b0=true:=by
      unfold Xh
      rw[List.all_eq_true]
      intro m hm
      rw[show (4*Gt D).toNat=4*(xU w*xU h) from by rw[eN];omega,List.mem_range] at hm
      rw[hfin]
      show Ws (Cs (Dh _ _) (64*m) 64)=true
      rw[Vz (jjr _) hm]
      unfold F0
      split
      · exact Wg I.q (I.y (Int.mul_nonneg (by omega) (Int.natCast_nonneg _)) (Int.mul_nonneg (by omega) (Int.natCast_nonneg _))) (by omega)
      · exact jbr
    have g11: ∀b,(b=(Kl D).b1∨b=(Kl D).b2)→Xh (Gt D).toNat b=true:=by
      intro b hb
      unfold Xh
      rw[List.all_eq_true]
      intro m hm
      rw[hN,List.mem_range] at hm
      rw[hfin] at hb
      rcases hb with rfl|rfl
      · show Ws (Cs (Dh _ _) (64*m) 64)=true
        rw[Vz (Yy _ _) hm]
        unfold F1
        rw[if_pos hm]
        exact Wg I.q (I.cb (Int.mul_nonneg (by omega) (Int.natCast_nonneg _)) (Int.mul_nonneg (by omega) (Int.natCast_nonneg _))) (by omega)
      · show Ws (Cs (Dh _ _) (64*m) 64)=true
        rw[Vz (Yy _ _) hm]
        unfold F1
        rw[if_pos hm]
        exact Wg I.q (I.cr (Int.mul_nonneg (by omega) (Int.natCast_nonneg _)) (Int.mul_nonneg (by omega) (Int.natCast_nonneg _))) (by omega)
    have et:((Mp D (Mr u1) a1 u1).toNat:Int)=Mp D (Mr u1) a1 u1:=by omega
    have s1':Lz D (xN w) (xU w*xU h) 0 (stM w h P (Ci q) (xU w) (xU w*xU h) 0 589 0 0 0 0)=true:=by rw[eX];exact s1
    unfold cOk
    rw[g1,c7,hq1,g2,g3,hq1,g4,wd,hg,g5,g6,g7,g8,g9,eS,g10,g11 _ (Or.inl rfl),g11 _ (Or.inr rfl),hN,s1',hend]
    rw[et] at t1
    have t4':Bg D (Mp D (Mr u1) a1 u1+1)=217:=by rw[←t4];congr 1;omega
    have hlen:Mp D (Mr u1) a1 u1+2=(D.length:Int):=by
      simp only[List.length_cons,List.length_nil] at tl
      omega
    rw[t1,t4',hlen]
    simp only[decide_true,Bool.and_self,Bool.and_true,Bool.true_and,hw1,hh1,hwh]
  · refine job ?_
    rw[b4]
    have m1:Ey jcv:=Ju (by kernel_rfl)
    have m3:Ey ([1]:List Int):=Ju (by kernel_rfl)
    have m5:Ey (j0e w h):=by
      intro x hx
      unfold j0e at hx
      simp only[List.mem_cons,List.not_mem_nil,or_false] at hx
      omega
    have m6:Ey Ns:=Ju (by kernel_rfl)
    have m7:Ey j6l:=Ju (by kernel_rfl)
    have m8:Ey ([255,217]:List Int):=Ju (by kernel_rfl)
    exact Em m1 (Em (hqc _ _) (Em m3 (Em (hqc _ _) (Em m5 (Em m6 (Em m7 (Em (jcl b1) m8)))))))
end
end Go.Proofs.YtljjbikbfeigdaaGreatDoor
namespace Go.Proofs.YtljjbikbfeigdaaGreatDoor
noncomputable section
open Go
theorem jo8: ∀f s,jsm f=some s→Dw Tryz.prog Z f s:=by
  intro f s h
  unfold jsm at h
  split at h
  · cases h;exact Ce qcu
  · cases h;exact Ce j39
  · cases h
theorem j8w{q w h:Int}{a b c:List Int}(h1:1≤w)(h2:1≤h)(ha:(a.length:Int)=w*h)(hb:(b.length:Int)=(w+1)/2*((h+1)/2))(hc:(c.length:Int)=(w+1)/2*((h+1)/2))(pa:Bn 0 255 a=true)(pb:Bn 0 255 b=true)(pc:Bn 0 255 c=true):Tc w h (a++(b++c)) (Ci q):=
  ⟨h1,h2,by simp only[List.length_append];omega,Lx pa (Lx pb pc),by simp[Ci],jbm q⟩
def vc9:VC:=
 let t0:T:=.lit 0
 let t1:T:=.lit (-9223372036854775808)
 let t2:T:=.lit 9223372036854775807
 let t3:T:=.tdiv (.add (.iv 21) (.lit 1)) (.lit 2)
 let t4:T:=.tdiv (.add (.iv 22) (.lit 1)) (.lit 2)
 let t5:T:=.mul t3 t4
 let t6:T:=.alit []
 let t7:T:=.fi 439 t0 t0 t0 t0 (.av 1100) t6 t6 t6
 (.need [(.le t0 (.iv 20))] (.cond (.lt (.lit 2147483647) (.iv 20)) .done (.need [(.le t0 (.iv 24))] (.cond (.lt (.lit 2147483647) (.iv 24)) .done (.need [(.le t0 (.iv 27))] (.cond (.lt (.lit 2147483647) (.iv 27)) .done (.cond (.le (.lit 1) (.iv 21)) (.cond (.le (.lit 1) (.iv 22)) (.cond (.le (.iv 21) (.lit 65535)) (.cond (.le (.iv 22) (.lit 65535)) (.need [(.le t1 (.mul (.iv 21) (.iv 22))),(.le (.mul (.iv 21) (.iv 22)) t2)] (.cond (.le (.mul (.iv 21) (.iv 22)) (.lit 65536)) (.cond (.le (.lit 1) (.iv 30)) (.cond (.le (.iv 30) (.lit 100)) (.cond (.not (.eq (.iv 20) (.mul (.iv 21) (.iv 22)))) .done (.need [(.le t1 (.add (.iv 21) (.lit 1))),(.le (.add (.iv 21) (.lit 1)) t2)] (.need [(.le t1 t3),(.le t3 t2)] (.need [(.le t1 (.add (.iv 22) (.lit 1))),(.le (.add (.iv 22) (.lit 1)) t2)] (.need [(.le t1 t4),(.le t4 t2)] (.need [(.le t1 t5),(.le t5 t2)] (.cond (.eq (.iv 24) t5) (.cond (.not (.eq (.iv 27) t5)) .done (.need [(.eq (.iv 27) (.iv 24)),(.eq (.len (.av 7)) (.iv 24))] (.any 1000 0 [(.eq (.iv 1120) (.len (.av 1100))),(.le (.iv 1120) (.iv 1121)),(.aeq (.av 1100) (.fa 512 (.iv 30) (.iv 21) (.iv 22) t0 (.splice (.av 5) (.len (.av 5)) (.splice (.av 6) (.len (.av 6)) (.av 7))) t6 t6 t6)),(.le (.len (.av 1100)) (.lit 1000000000000))] (.need [(.eq (.len (.av 1100)) (.iv 1120)),(.le (.iv 1120) (.lit 1000000000000)),(.fb 2 t0 (.lit 255) t0 t0 (.av 1100) t6 t6 t6),(.fb 540 t0 t0 t0 t0 (.av 1100) t6 t6 t6)] (.any 1400 0 [(.eq (.iv 1520) (.mul (.lit 4) t7)),(.eq (.iv 1521) t7),(.eq (.iv 1522) t7)] (.cond (.not (.eq (.fi 431 t0 t0 t0 t0 (.av 1100) t6 t6 t6) (.iv 21))) (.need [.ff] .done) (.cond (.not (.eq (.fi 432 t0 t0 t0 t0 (.av 1100) t6 t6 t6) (.iv 22))) (.need [.ff] .done) .done))))))) .done))))))) .done) .done) .done)) .done) .done) .done) .done)))))))
theorem w9:Dd (Db Tryz.prog Jt jsm ⟨fun _ _=>none,Jd⟩ 100000 9 c9) vc9=true:=by kernel_rfl
set_option maxRecDepth 20000 in
set_option maxHeartbeats 2000000 in
theorem qh6:Cf Tryz.prog Z 9 c9:=by
  refine Bf Cq jo8 w9 fun ρ h=> ?_
  simp only[c9,jva,cRo,j1h,Vd,roE,cA,fA,z0,Jl,Jk,Du,Bi,Di,List.flatMap_cons,List.flatMap_nil,List.append_nil,List.append_assoc,List.cons_append,List.nil_append,and_true,↓Bo,↓Bq,↓Bs,↓Az,↓Ca,↓Bz,↓Bu,↓Bc,↓Bb,↓Be,↓Ba,↓Bv,↓Ay,↓Bt,↓Br,↓Bw,↓Bx,↓By,Ag,As,Ap,Ar,T.I,T.A,T.B,Int.toNat_zero,List.drop_zero,and_true,implies_true,VC.sem,Aa,Af,Ak,Ai,Ae,Ac,Ad,Am,Al,Ah,An,Aj,Ab,Aq,Ao,Tm] at h
  obtain ⟨h1,h2,h3,h4,h5,h6,h7,h8,h9,h10⟩:=h
  simp only[vc9,↓Bo,↓Bq,↓Bs,↓Az,↓Ca,↓Bz,↓Bu,↓Bc,↓Bb,↓Be,↓Ba,↓Bv,↓Ay,↓Bt,↓Br,↓Bw,↓Bx,↓By,Ag,As,Ap,Ar,T.I,T.A,T.B,Int.toNat_zero,List.drop_zero,and_true,implies_true,VC.sem,Aa,Af,Ak,Ai,Ae,Ac,Ad,Am,Al,Ah,An,Aj,Ab,Aq,Ao,Tm,jl6,jx5,jnh,jmj,qd4]
  have bnd:1≤ρ.i 21→1≤ρ.i 22→ρ.i 21≤65535→ρ.i 22≤65535→0≤ρ.i 21*ρ.i 22∧ρ.i 21*ρ.i 22≤65535*65535∧(ρ.i 21+1).tdiv 2=(ρ.i 21+1)/2∧(ρ.i 22+1).tdiv 2=(ρ.i 22+1)/2∧0≤(ρ.i 21+1)/2*((ρ.i 22+1)/2)∧(ρ.i 21+1)/2*((ρ.i 22+1)/2)≤32768*32768∧(ρ.i 21+1).tdiv 2*(ρ.i 22+1).tdiv 2=(ρ.i 21+1)/2*((ρ.i 22+1)/2):=
    fun a b c d=>⟨Int.mul_nonneg (by omega) (by omega),Int.mul_le_mul c d (by omega) (by omega),td2 (by omega),td2 (by omega),Int.mul_nonneg (by omega) (by omega),Int.mul_le_mul (by omega) (by omega) (by omega) (by omega),by rw[td2 (by omega),td2 (by omega)]⟩
  have fnd:1≤ρ.i 21→1≤ρ.i 22→ρ.i 21≤65535→ρ.i 22≤65535→ρ.i 21*ρ.i 22≤65536→((ρ.a 5).length:Int)=ρ.i 21*ρ.i 22→((ρ.a 6).length:Int)=(ρ.i 21+1).tdiv 2*(ρ.i 22+1).tdiv 2→((ρ.a 7).length:Int)=(ρ.i 21+1).tdiv 2*(ρ.i 22+1).tdiv 2→jgl (ρ.i 30) (ρ.i 21) (ρ.i 22) (ρ.a 5++(ρ.a 6++ρ.a 7)) (Ts (ρ.i 30) (ρ.i 21) (ρ.i 22) (ρ.a 5++(ρ.a 6++ρ.a 7))):=by
    intro a b c d e f g i
    obtain ⟨-,-,k1,k2,-⟩:=bnd a b c d
    rw[k1,k2] at g i
    exact jci (j8w a b f g i h7 h8 h9) c d e
  (repeat' (first|with_reducible exact True.intro|with_reducible refine And.intro ?_ ?_|intro _))<;>(try omega)
  all_goals (try (have:=bnd (by omega) (by omega) (by omega) (by omega);omega))
  · rw[‹ρ.a 1100=_›]
    exact (fnd (by omega) (by omega) (by omega) (by omega) (by omega) (by omega) (by omega) (by omega)).bytes
  · rw[‹ρ.a 1100=_›]
    exact (fnd (by omega) (by omega) (by omega) (by omega) (by omega) (by omega) (by omega) (by omega)).ok
  · have f:=(fnd (by omega) (by omega) (by omega) (by omega) (by omega) (by omega) (by omega) (by omega))
    have fw:=f.wide
    have fh:=f.high
    have ea:ρ.a 1100=Ts (ρ.i 30) (ρ.i 21) (ρ.i 22) (ρ.a 5++(ρ.a 6++ρ.a 7)):= ‹_›
    rw[←ea] at fw fh
    omega
  · have f:=(fnd (by omega) (by omega) (by omega) (by omega) (by omega) (by omega) (by omega) (by omega))
    have fw:=f.wide
    have fh:=f.high
    have ea:ρ.a 1100=Ts (ρ.i 30) (ρ.i 21) (ρ.i 22) (ρ.a 5++(ρ.a 6++ρ.a 7)):= ‹_›
    rw[←ea] at fw fh
    omega
end
end Go.Proofs.YtljjbikbfeigdaaGreatDoor
namespace Go.Proofs.YtljjbikbfeigdaaGreatDoor
noncomputable section
open Go
theorem jpi{w h:Int}:1≤w→1≤h→w≤65535→h≤65535→1≤w*h∧w*h≤65535*65535∧1≤(w+1).tdiv 2∧(w+1).tdiv 2≤32768∧1≤(h+1).tdiv 2∧(h+1).tdiv 2≤32768∧1≤(w+1).tdiv 2*(h+1).tdiv 2∧(w+1).tdiv 2*(h+1).tdiv 2≤32768*32768:=by
  intro a b c d
  rw[td2 (by omega),td2 (by omega)]
  exact ⟨Int.le_trans (by omega) (Int.mul_le_mul (a:=1) (b:=1) a b (by omega) (by omega)),Int.mul_le_mul c d (by omega) (by omega),by omega,by omega,by omega,by omega,Int.le_trans (by omega) (Int.mul_le_mul (a:=1) (b:=1) (by omega) (by omega) (by omega) (by omega)),Int.mul_le_mul (by omega) (by omega) (by omega) (by omega)⟩
def jm2:VC:=
 let t0:T:=.lit (-9223372036854775808)
 let t1:T:=.lit 9223372036854775807
 let t2:T:=.tdiv (.add (.iv 21) (.lit 1)) (.lit 2)
 let t3:T:=.tdiv (.add (.iv 22) (.lit 1)) (.lit 2)
 let t4:T:=.mul t2 t3
 (.cond (.le (.lit 1) (.iv 21)) (.cond (.le (.lit 1) (.iv 22)) (.cond (.le (.iv 21) (.lit 65535)) (.cond (.le (.iv 22) (.lit 65535)) (.need [(.le t0 (.mul (.iv 21) (.iv 22))),(.le (.mul (.iv 21) (.iv 22)) t1)] (.cond (.le (.mul (.iv 21) (.iv 22)) (.lit 65536)) (.cond (.le (.lit 1) (.iv 30)) (.cond (.le (.iv 30) (.lit 100)) (.cond (.not (.eq (.lit 0) (.mul (.iv 21) (.iv 22)))) .done (.need [(.le t0 (.add (.iv 21) (.lit 1))),(.le (.add (.iv 21) (.lit 1)) t1)] (.need [(.le t0 t2),(.le t2 t1)] (.need [(.le t0 (.add (.iv 22) (.lit 1))),(.le (.add (.iv 22) (.lit 1)) t1)] (.need [(.le t0 t3),(.le t3 t1)] (.need [(.le t0 t4),(.le t4 t1)] (.cond (.eq (.lit 0) t4) (.fail "stop encode.go:142") .done))))))) .done) .done) .done)) .done) .done) .done) .done)
theorem j2u:Dd (Db Tryz.prog Jt Jq ⟨fun _ _=>none,jqk⟩ 100000 9 (c9n false false false)) jm2=true:=by kernel_rfl
theorem jpx:Cf Tryz.prog Z 9 (c9n false false false):=by
  refine Bf Cq Cn j2u fun ρ h=> ?_
  simp only[c9n,Tn,roN,slN,z0,Jl,Jk,Du,Bi,Di,List.flatMap_cons,List.flatMap_nil,List.append_nil,List.append_assoc,List.cons_append,List.nil_append,and_true,↓Bo,↓Bq,↓Bs,↓Az,↓Ca,↓Bz,↓Bu,↓Bc,↓Bb,↓Be,↓Ba,↓Bv,↓Ay,↓Bt,↓Br,↓Bw,↓Bx,↓By,Ag,As,Ap,Ar,T.I,T.A,T.B,Int.toNat_zero,List.drop_zero,and_true,implies_true,VC.sem,Aa,Af,Ak,Ai,Ae,Ac,Ad,Am,Al,Ah,An,Aj,Ab,Aq,Ao,Tm] at h
  have bnd:=jpi (w:=ρ.i 21) (h:=ρ.i 22)
  simp only[jm2,↓Bo,↓Bq,↓Bs,↓Az,↓Ca,↓Bz,↓Bu,↓Bc,↓Bb,↓Be,↓Ba,↓Bv,↓Ay,↓Bt,↓Br,↓Bw,↓Bx,↓By,Ag,As,Ap,Ar,T.I,T.A,T.B,Int.toNat_zero,List.drop_zero,and_true,implies_true,VC.sem,Aa,Af,Ak,Ai,Ae,Ac,Ad,Am,Al,Ah,An,Aj,Ab,Aq,Ao]
  (repeat' (first|with_reducible exact True.intro|with_reducible refine And.intro ?_ ?_|intro _))<;>(try omega)
  all_goals (try (have:=bnd (by omega) (by omega) (by omega) (by omega);omega))
def jmq:VC:=
 let t0:T:=.lit (-9223372036854775808)
 let t1:T:=.lit 9223372036854775807
 let t2:T:=.tdiv (.add (.iv 21) (.lit 1)) (.lit 2)
 let t3:T:=.tdiv (.add (.iv 22) (.lit 1)) (.lit 2)
 let t4:T:=.mul t2 t3
 (.need [(.le (.lit 0) (.iv 27))] (.cond (.lt (.lit 2147483647) (.iv 27)) .done (.cond (.le (.lit 1) (.iv 21)) (.cond (.le (.lit 1) (.iv 22)) (.cond (.le (.iv 21) (.lit 65535)) (.cond (.le (.iv 22) (.lit 65535)) (.need [(.le t0 (.mul (.iv 21) (.iv 22))),(.le (.mul (.iv 21) (.iv 22)) t1)] (.cond (.le (.mul (.iv 21) (.iv 22)) (.lit 65536)) (.cond (.le (.lit 1) (.iv 30)) (.cond (.le (.iv 30) (.lit 100)) (.cond (.not (.eq (.lit 0) (.mul (.iv 21) (.iv 22)))) .done (.need [(.le t0 (.add (.iv 21) (.lit 1))),(.le (.add (.iv 21) (.lit 1)) t1)] (.need [(.le t0 t2),(.le t2 t1)] (.need [(.le t0 (.add (.iv 22) (.lit 1))),(.le (.add (.iv 22) (.lit 1)) t1)] (.need [(.le t0 t3),(.le t3 t1)] (.need [(.le t0 t4),(.le t4 t1)] (.cond (.eq (.lit 0) t4) (.cond (.not (.eq (.iv 27) t4)) .done (.fail "stop encode.go:142")) .done))))))) .done) .done) .done)) .done) .done) .done) .done)))
theorem j5n:Dd (Db Tryz.prog Jt Jq ⟨fun _ _=>none,jqk⟩ 100000 9 (c9n false false true)) jmq=true:=by kernel_rfl
theorem jpu:Cf Tryz.prog Z 9 (c9n false false true):=by
  refine Bf Cq Cn j5n fun ρ h=> ?_
  simp only[c9n,Tn,roN,slN,z0,Jl,Jk,Du,Bi,Di,List.flatMap_cons,List.flatMap_nil,List.append_nil,List.append_assoc,List.cons_append,List.nil_append,and_true,↓Bo,↓Bq,↓Bs,↓Az,↓Ca,↓Bz,↓Bu,↓Bc,↓Bb,↓Be,↓Ba,↓Bv,↓Ay,↓Bt,↓Br,↓Bw,↓Bx,↓By,Ag,As,Ap,Ar,T.I,T.A,T.B,Int.toNat_zero,List.drop_zero,and_true,implies_true,VC.sem,Aa,Af,Ak,Ai,Ae,Ac,Ad,Am,Al,Ah,An,Aj,Ab,Aq,Ao,Tm] at h
  have bnd:=jpi (w:=ρ.i 21) (h:=ρ.i 22)
  simp only[jmq,↓Bo,↓Bq,↓Bs,↓Az,↓Ca,↓Bz,↓Bu,↓Bc,↓Bb,↓Be,↓Ba,↓Bv,↓Ay,↓Bt,↓Br,↓Bw,↓Bx,↓By,Ag,As,Ap,Ar,T.I,T.A,T.B,Int.toNat_zero,List.drop_zero,and_true,implies_true,VC.sem,Aa,Af,Ak,Ai,Ae,Ac,Ad,Am,Al,Ah,An,Aj,Ab,Aq,Ao]
  (repeat' (first|with_reducible exact True.intro|with_reducible refine And.intro ?_ ?_|intro _))<;>(try omega)
  all_goals (try (have:=bnd (by omega) (by omega) (by omega) (by omega);omega))
def jn7:VC:=
 let t0:T:=.lit (-9223372036854775808)
 let t1:T:=.lit 9223372036854775807
 let t2:T:=.tdiv (.add (.iv 21) (.lit 1)) (.lit 2)
 let t3:T:=.tdiv (.add (.iv 22) (.lit 1)) (.lit 2)
 let t4:T:=.mul t2 t3
 (.need [(.le (.lit 0) (.iv 24))] (.cond (.lt (.lit 2147483647) (.iv 24)) .done (.cond (.le (.lit 1) (.iv 21)) (.cond (.le (.lit 1) (.iv 22)) (.cond (.le (.iv 21) (.lit 65535)) (.cond (.le (.iv 22) (.lit 65535)) (.need [(.le t0 (.mul (.iv 21) (.iv 22))),(.le (.mul (.iv 21) (.iv 22)) t1)] (.cond (.le (.mul (.iv 21) (.iv 22)) (.lit 65536)) (.cond (.le (.lit 1) (.iv 30)) (.cond (.le (.iv 30) (.lit 100)) (.cond (.not (.eq (.lit 0) (.mul (.iv 21) (.iv 22)))) .done (.need [(.le t0 (.add (.iv 21) (.lit 1))),(.le (.add (.iv 21) (.lit 1)) t1)] (.need [(.le t0 t2),(.le t2 t1)] (.need [(.le t0 (.add (.iv 22) (.lit 1))),(.le (.add (.iv 22) (.lit 1)) t1)] (.need [(.le t0 t3),(.le t3 t1)] (.need [(.le t0 t4),(.le t4 t1)] (.cond (.eq (.iv 24) t4) (.cond (.not (.eq (.lit 0) t4)) .done (.fail "stop encode.go:142")) .done))))))) .done) .done) .done)) .done) .done) .done) .done)))
theorem j29:Dd (Db Tryz.prog Jt Jq ⟨fun _ _=>none,jqk⟩ 100000 9 (c9n false true false)) jn7=true:=by kernel_rfl
theorem jpr:Cf Tryz.prog Z 9 (c9n false true false):=by
  refine Bf Cq Cn j29 fun ρ h=> ?_
  simp only[c9n,Tn,roN,slN,z0,Jl,Jk,Du,Bi,Di,List.flatMap_cons,List.flatMap_nil,List.append_nil,List.append_assoc,List.cons_append,List.nil_append,and_true,↓Bo,↓Bq,↓Bs,↓Az,↓Ca,↓Bz,↓Bu,↓Bc,↓Bb,↓Be,↓Ba,↓Bv,↓Ay,↓Bt,↓Br,↓Bw,↓Bx,↓By,Ag,As,Ap,Ar,T.I,T.A,T.B,Int.toNat_zero,List.drop_zero,and_true,implies_true,VC.sem,Aa,Af,Ak,Ai,Ae,Ac,Ad,Am,Al,Ah,An,Aj,Ab,Aq,Ao,Tm] at h
  have bnd:=jpi (w:=ρ.i 21) (h:=ρ.i 22)
  simp only[jn7,↓Bo,↓Bq,↓Bs,↓Az,↓Ca,↓Bz,↓Bu,↓Bc,↓Bb,↓Be,↓Ba,↓Bv,↓Ay,↓Bt,↓Br,↓Bw,↓Bx,↓By,Ag,As,Ap,Ar,T.I,T.A,T.B,Int.toNat_zero,List.drop_zero,and_true,implies_true,VC.sem,Aa,Af,Ak,Ai,Ae,Ac,Ad,Am,Al,Ah,An,Aj,Ab,Aq,Ao]
  (repeat' (first|with_reducible exact True.intro|with_reducible refine And.intro ?_ ?_|intro _))<;>(try omega)
  all_goals (try (have:=bnd (by omega) (by omega) (by omega) (by omega);omega))
def joh:VC:=
 let t0:T:=.lit (-9223372036854775808)
 let t1:T:=.lit 9223372036854775807
 let t2:T:=.tdiv (.add (.iv 21) (.lit 1)) (.lit 2)
 let t3:T:=.tdiv (.add (.iv 22) (.lit 1)) (.lit 2)
 let t4:T:=.mul t2 t3
 (.need [(.le (.lit 0) (.iv 24))] (.cond (.lt (.lit 2147483647) (.iv 24)) .done (.need [(.le (.lit 0) (.iv 27))] (.cond (.lt (.lit 2147483647) (.iv 27)) .done (.cond (.le (.lit 1) (.iv 21)) (.cond (.le (.lit 1) (.iv 22)) (.cond (.le (.iv 21) (.lit 65535)) (.cond (.le (.iv 22) (.lit 65535)) (.need [(.le t0 (.mul (.iv 21) (.iv 22))),(.le (.mul (.iv 21) (.iv 22)) t1)] (.cond (.le (.mul (.iv 21) (.iv 22)) (.lit 65536)) (.cond (.le (.lit 1) (.iv 30)) (.cond (.le (.iv 30) (.lit 100)) (.cond (.not (.eq (.lit 0) (.mul (.iv 21) (.iv 22)))) .done (.need [(.le t0 (.add (.iv 21) (.lit 1))),(.le (.add (.iv 21) (.lit 1)) t1)] (.need [(.le t0 t2),(.le t2 t1)] (.need [(.le t0 (.add (.iv 22) (.lit 1))),(.le (.add (.iv 22) (.lit 1)) t1)] (.need [(.le t0 t3),(.le t3 t1)] (.need [(.le t0 t4),(.le t4 t1)] (.cond (.eq (.iv 24) t4) (.cond (.not (.eq (.iv 27) t4)) .done (.fail "stop encode.go:142")) .done))))))) .done) .done) .done)) .done) .done) .done) .done)))))
theorem j4v:Dd (Db Tryz.prog Jt Jq ⟨fun _ _=>none,jqk⟩ 100000 9 (c9n false true true)) joh=true:=by kernel_rfl
theorem jpw:Cf Tryz.prog Z 9 (c9n false true true):=by
  refine Bf Cq Cn j4v fun ρ h=> ?_
  simp only[c9n,Tn,roN,slN,z0,Jl,Jk,Du,Bi,Di,List.flatMap_cons,List.flatMap_nil,List.append_nil,List.append_assoc,List.cons_append,List.nil_append,and_true,↓Bo,↓Bq,↓Bs,↓Az,↓Ca,↓Bz,↓Bu,↓Bc,↓Bb,↓Be,↓Ba,↓Bv,↓Ay,↓Bt,↓Br,↓Bw,↓Bx,↓By,Ag,As,Ap,Ar,T.I,T.A,T.B,Int.toNat_zero,List.drop_zero,and_true,implies_true,VC.sem,Aa,Af,Ak,Ai,Ae,Ac,Ad,Am,Al,Ah,An,Aj,Ab,Aq,Ao,Tm] at h
  have bnd:=jpi (w:=ρ.i 21) (h:=ρ.i 22)
  simp only[joh,↓Bo,↓Bq,↓Bs,↓Az,↓Ca,↓Bz,↓Bu,↓Bc,↓Bb,↓Be,↓Ba,↓Bv,↓Ay,↓Bt,↓Br,↓Bw,↓Bx,↓By,Ag,As,Ap,Ar,T.I,T.A,T.B,Int.toNat_zero,List.drop_zero,and_true,implies_true,VC.sem,Aa,Af,Ak,Ai,Ae,Ac,Ad,Am,Al,Ah,An,Aj,Ab,Aq,Ao]
  (repeat' (first|with_reducible exact True.intro|with_reducible refine And.intro ?_ ?_|intro _))<;>(try omega)
  all_goals (try (have:=bnd (by omega) (by omega) (by omega) (by omega);omega))
def jnq:VC:=
 let t0:T:=.lit (-9223372036854775808)
 let t1:T:=.lit 9223372036854775807
 let t2:T:=.tdiv (.add (.iv 21) (.lit 1)) (.lit 2)
 let t3:T:=.tdiv (.add (.iv 22) (.lit 1)) (.lit 2)
 let t4:T:=.mul t2 t3
 (.need [(.le (.lit 0) (.iv 20))] (.cond (.lt (.lit 2147483647) (.iv 20)) .done (.cond (.le (.lit 1) (.iv 21)) (.cond (.le (.lit 1) (.iv 22)) (.cond (.le (.iv 21) (.lit 65535)) (.cond (.le (.iv 22) (.lit 65535)) (.need [(.le t0 (.mul (.iv 21) (.iv 22))),(.le (.mul (.iv 21) (.iv 22)) t1)] (.cond (.le (.mul (.iv 21) (.iv 22)) (.lit 65536)) (.cond (.le (.lit 1) (.iv 30)) (.cond (.le (.iv 30) (.lit 100)) (.cond (.not (.eq (.iv 20) (.mul (.iv 21) (.iv 22)))) .done (.need [(.le t0 (.add (.iv 21) (.lit 1))),(.le (.add (.iv 21) (.lit 1)) t1)] (.need [(.le t0 t2),(.le t2 t1)] (.need [(.le t0 (.add (.iv 22) (.lit 1))),(.le (.add (.iv 22) (.lit 1)) t1)] (.need [(.le t0 t3),(.le t3 t1)] (.need [(.le t0 t4),(.le t4 t1)] (.cond (.eq (.lit 0) t4) (.fail "stop encode.go:142") .done))))))) .done) .done) .done)) .done) .done) .done) .done)))
theorem j4g:Dd (Db Tryz.prog Jt Jq ⟨fun _ _=>none,jqk⟩ 100000 9 (c9n true false false)) jnq=true:=by kernel_rfl
theorem jq8:Cf Tryz.prog Z 9 (c9n true false false):=by
  refine Bf Cq Cn j4g fun ρ h=> ?_
  simp only[c9n,Tn,roN,slN,z0,Jl,Jk,Du,Bi,Di,List.flatMap_cons,List.flatMap_nil,List.append_nil,List.append_assoc,List.cons_append,List.nil_append,and_true,↓Bo,↓Bq,↓Bs,↓Az,↓Ca,↓Bz,↓Bu,↓Bc,↓Bb,↓Be,↓Ba,↓Bv,↓Ay,↓Bt,↓Br,↓Bw,↓Bx,↓By,Ag,As,Ap,Ar,T.I,T.A,T.B,Int.toNat_zero,List.drop_zero,and_true,implies_true,VC.sem,Aa,Af,Ak,Ai,Ae,Ac,Ad,Am,Al,Ah,An,Aj,Ab,Aq,Ao,Tm] at h
  have bnd:=jpi (w:=ρ.i 21) (h:=ρ.i 22)
  simp only[jnq,↓Bo,↓Bq,↓Bs,↓Az,↓Ca,↓Bz,↓Bu,↓Bc,↓Bb,↓Be,↓Ba,↓Bv,↓Ay,↓Bt,↓Br,↓Bw,↓Bx,↓By,Ag,As,Ap,Ar,T.I,T.A,T.B,Int.toNat_zero,List.drop_zero,and_true,implies_true,VC.sem,Aa,Af,Ak,Ai,Ae,Ac,Ad,Am,Al,Ah,An,Aj,Ab,Aq,Ao]
  (repeat' (first|with_reducible exact True.intro|with_reducible refine And.intro ?_ ?_|intro _))<;>(try omega)
  all_goals (try (have:=bnd (by omega) (by omega) (by omega) (by omega);omega))
def jnt:VC:=
 let t0:T:=.lit (-9223372036854775808)
 let t1:T:=.lit 9223372036854775807
 let t2:T:=.tdiv (.add (.iv 21) (.lit 1)) (.lit 2)
 let t3:T:=.tdiv (.add (.iv 22) (.lit 1)) (.lit 2)
 let t4:T:=.mul t2 t3
 (.need [(.le (.lit 0) (.iv 20))] (.cond (.lt (.lit 2147483647) (.iv 20)) .done (.need [(.le (.lit 0) (.iv 27))] (.cond (.lt (.lit 2147483647) (.iv 27)) .done (.cond (.le (.lit 1) (.iv 21)) (.cond (.le (.lit 1) (.iv 22)) (.cond (.le (.iv 21) (.lit 65535)) (.cond (.le (.iv 22) (.lit 65535)) (.need [(.le t0 (.mul (.iv 21) (.iv 22))),(.le (.mul (.iv 21) (.iv 22)) t1)] (.cond (.le (.mul (.iv 21) (.iv 22)) (.lit 65536)) (.cond (.le (.lit 1) (.iv 30)) (.cond (.le (.iv 30) (.lit 100)) (.cond (.not (.eq (.iv 20) (.mul (.iv 21) (.iv 22)))) .done (.need [(.le t0 (.add (.iv 21) (.lit 1))),(.le (.add (.iv 21) (.lit 1)) t1)] (.need [(.le t0 t2),(.le t2 t1)] (.need [(.le t0 (.add (.iv 22) (.lit 1))),(.le (.add (.iv 22) (.lit 1)) t1)] (.need [(.le t0 t3),(.le t3 t1)] (.need [(.le t0 t4),(.le t4 t1)] (.cond (.eq (.lit 0) t4) (.cond (.not (.eq (.iv 27) t4)) .done (.fail "stop encode.go:142")) .done))))))) .done) .done) .done)) .done) .done) .done) .done)))))
theorem j3n:Dd (Db Tryz.prog Jt Jq ⟨fun _ _=>none,jqk⟩ 100000 9 (c9n true false true)) jnt=true:=by kernel_rfl
theorem jrb:Cf Tryz.prog Z 9 (c9n true false true):=by
  refine Bf Cq Cn j3n fun ρ h=> ?_
  simp only[c9n,Tn,roN,slN,z0,Jl,Jk,Du,Bi,Di,List.flatMap_cons,List.flatMap_nil,List.append_nil,List.append_assoc,List.cons_append,List.nil_append,and_true,↓Bo,↓Bq,↓Bs,↓Az,↓Ca,↓Bz,↓Bu,↓Bc,↓Bb,↓Be,↓Ba,↓Bv,↓Ay,↓Bt,↓Br,↓Bw,↓Bx,↓By,Ag,As,Ap,Ar,T.I,T.A,T.B,Int.toNat_zero,List.drop_zero,and_true,implies_true,VC.sem,Aa,Af,Ak,Ai,Ae,Ac,Ad,Am,Al,Ah,An,Aj,Ab,Aq,Ao,Tm] at h
  have bnd:=jpi (w:=ρ.i 21) (h:=ρ.i 22)
  simp only[jnt,↓Bo,↓Bq,↓Bs,↓Az,↓Ca,↓Bz,↓Bu,↓Bc,↓Bb,↓Be,↓Ba,↓Bv,↓Ay,↓Bt,↓Br,↓Bw,↓Bx,↓By,Ag,As,Ap,Ar,T.I,T.A,T.B,Int.toNat_zero,List.drop_zero,and_true,implies_true,VC.sem,Aa,Af,Ak,Ai,Ae,Ac,Ad,Am,Al,Ah,An,Aj,Ab,Aq,Ao]
  (repeat' (first|with_reducible exact True.intro|with_reducible refine And.intro ?_ ?_|intro _))<;>(try omega)
  all_goals (try (have:=bnd (by omega) (by omega) (by omega) (by omega);omega))
def jp0:VC:=
 let t0:T:=.lit (-9223372036854775808)
 let t1:T:=.lit 9223372036854775807
 let t2:T:=.tdiv (.add (.iv 21) (.lit 1)) (.lit 2)
 let t3:T:=.tdiv (.add (.iv 22) (.lit 1)) (.lit 2)
 let t4:T:=.mul t2 t3
 (.need [(.le (.lit 0) (.iv 20))] (.cond (.lt (.lit 2147483647) (.iv 20)) .done (.need [(.le (.lit 0) (.iv 24))] (.cond (.lt (.lit 2147483647) (.iv 24)) .done (.cond (.le (.lit 1) (.iv 21)) (.cond (.le (.lit 1) (.iv 22)) (.cond (.le (.iv 21) (.lit 65535)) (.cond (.le (.iv 22) (.lit 65535)) (.need [(.le t0 (.mul (.iv 21) (.iv 22))),(.le (.mul (.iv 21) (.iv 22)) t1)] (.cond (.le (.mul (.iv 21) (.iv 22)) (.lit 65536)) (.cond (.le (.lit 1) (.iv 30)) (.cond (.le (.iv 30) (.lit 100)) (.cond (.not (.eq (.iv 20) (.mul (.iv 21) (.iv 22)))) .done (.need [(.le t0 (.add (.iv 21) (.lit 1))),(.le (.add (.iv 21) (.lit 1)) t1)] (.need [(.le t0 t2),(.le t2 t1)] (.need [(.le t0 (.add (.iv 22) (.lit 1))),(.le (.add (.iv 22) (.lit 1)) t1)] (.need [(.le t0 t3),(.le t3 t1)] (.need [(.le t0 t4),(.le t4 t1)] (.cond (.eq (.iv 24) t4) (.cond (.not (.eq (.lit 0) t4)) .done (.fail "stop encode.go:142")) .done))))))) .done) .done) .done)) .done) .done) .done) .done)))))
theorem j59:Dd (Db Tryz.prog Jt Jq ⟨fun _ _=>none,jqk⟩ 100000 9 (c9n true true false)) jp0=true:=by kernel_rfl
theorem jr9:Cf Tryz.prog Z 9 (c9n true true false):=by
  refine Bf Cq Cn j59 fun ρ h=> ?_
  simp only[c9n,Tn,roN,slN,z0,Jl,Jk,Du,Bi,Di,List.flatMap_cons,List.flatMap_nil,List.append_nil,List.append_assoc,List.cons_append,List.nil_append,and_true,↓Bo,↓Bq,↓Bs,↓Az,↓Ca,↓Bz,↓Bu,↓Bc,↓Bb,↓Be,↓Ba,↓Bv,↓Ay,↓Bt,↓Br,↓Bw,↓Bx,↓By,Ag,As,Ap,Ar,T.I,T.A,T.B,Int.toNat_zero,List.drop_zero,and_true,implies_true,VC.sem,Aa,Af,Ak,Ai,Ae,Ac,Ad,Am,Al,Ah,An,Aj,Ab,Aq,Ao,Tm] at h
  have bnd:=jpi (w:=ρ.i 21) (h:=ρ.i 22)
  simp only[jp0,↓Bo,↓Bq,↓Bs,↓Az,↓Ca,↓Bz,↓Bu,↓Bc,↓Bb,↓Be,↓Ba,↓Bv,↓Ay,↓Bt,↓Br,↓Bw,↓Bx,↓By,Ag,As,Ap,Ar,T.I,T.A,T.B,Int.toNat_zero,List.drop_zero,and_true,implies_true,VC.sem,Aa,Af,Ak,Ai,Ae,Ac,Ad,Am,Al,Ah,An,Aj,Ab,Aq,Ao]
  (repeat' (first|with_reducible exact True.intro|with_reducible refine And.intro ?_ ?_|intro _))<;>(try omega)
  all_goals (try (have:=bnd (by omega) (by omega) (by omega) (by omega);omega))
end
end Go.Proofs.YtljjbikbfeigdaaGreatDoor
namespace Go.Proofs.YtljjbikbfeigdaaGreatDoor
noncomputable section
open Go.ChangeShapes Go.WideShapes Go.ChangeAt Go.RowKit
open Go.ChangeMaps (open_string shut_string)
set_option linter.unusedVariables false
theorem qk7(ρ:Et)(h:Dx Z ρ (preSl true true true)):Dx Z ρ c9.pre:=by
  simp only[preSl,Tn,Co,Ag,As,and_true] at h
  simp only[c9,jva,Co,Ag,As,and_true]
  exact ⟨⟨⟨⟨h.1.1,h.2.1.1,h.2.2.1.1,h.1.2.1,h.2.1.2.1,h.2.2.1.2.1,h.1.2.2,h.2.1.2.2,h.2.2.1.2.2⟩,h.2.2.2.1.1⟩,h.2.2.2.1.2⟩,h.2.2.2.2⟩
theorem qf3{s0 s1 s2:jd4}{a1 a2 a3:Int}{w:World}(hg:Sy w)(o0:Yp w s0)(o1:Yp w s1)(o2:Yp w s2)(w1:(Lit.int .i64 a1).wf=true)(w2:(Lit.int .i64 a2).wf=true)(w3:(Lit.int .i64 a3).wf=true):
    Calls Tryz.prog 9 #[s0.val,s1.val,s2.val,.int .i64 a1,.int .i64 a2,.int .i64 a3] w fun e w'=>e=.returned (.bool true)∧Below w.heap.size w w':=by
  obtain ⟨b0,k0,f0,n0,c0,l0⟩:=s0
  obtain ⟨b1,k1,f1,n1,c1,l1⟩:=s1
  obtain ⟨b2,k2,f2,n2,c2,l2⟩:=s2
  have no: ∀ρ:Et,∀y∈([]:List (Cl×IntKind×T)),y.1.blk ρ w.heap.size<w.heap.size∧ ∀(j:Nat) v,(y.2.2.A Z ρ)[j]? =some v→w.cell? ⟨y.1.blk ρ w.heap.size,y.1.off ρ+j,none⟩=some (.int y.2.1 v):=fun _ _ hy=>by cases hy
  cases b0<;>cases b1<;>cases b2
  · exact Ep [] _ _ _ jpx rfl rfl (fun _ h=>h) rfl rfl no o0 o1 o2 w1 w2 w3
  · exact Ep [] _ _ _ jpu rfl rfl (fun _ h=>h) rfl rfl no o0 o1 o2 w1 w2 w3
  · exact Ep [] _ _ _ jpr rfl rfl (fun _ h=>h) rfl rfl no o0 o1 o2 w1 w2 w3
  · exact Ep [] _ _ _ jpw rfl rfl (fun _ h=>h) rfl rfl no o0 o1 o2 w1 w2 w3
  · exact Ep [] _ _ _ jq8 rfl rfl (fun _ h=>h) rfl rfl no o0 o1 o2 w1 w2 w3
  · exact Ep [] _ _ _ jrb rfl rfl (fun _ h=>h) rfl rfl no o0 o1 o2 w1 w2 w3
  · exact Ep [] _ _ _ jr9 rfl rfl (fun _ h=>h) rfl rfl no o0 o1 o2 w1 w2 w3
  · exact Ep Vd _ _ _ qh6 rfl rfl qk7 rfl rfl (jfr hg) o0 o1 o2 w1 w2 w3
theorem qki(os:Os):Input.okWideB Tryz.prog ((Fh os).forCall (fun _ _=>0) ⟨#[],#[.slice none 0 0,.slice none 0 0,.slice none 0 0,.int .i64 0,.int .i64 0,.int .i64 0],[]⟩) 9 ⟨#[],#[.slice none 0 0,.slice none 0 0,.slice none 0 0,.int .i64 0,.int .i64 0,.int .i64 0],[]⟩=true:=by kernel_rfl
set_option maxRecDepth 100000 in
theorem Md{W:World}{base:Nat}{a:Option Addr}{len cap:Nat}(h:Value.okWide Tryz.prog W .any base 22 (.slice a len cap)): ∀x,a=some x→x.spot=none∧x.block<W.heap.size:=by
  intro x hx
  subst hx
  unfold Value.okWide Cell.okWide Cell.ok at h
  rw[Tryz.underlying22] at h
  obtain ⟨_,_,_,h1,row,cells,h2,_⟩:=h
  refine ⟨h1,?_⟩
  unfold World.shape? at h2
  rcases Nat.lt_or_ge x.block W.heap.size with hl|hl
  · exact hl
  · rw[Array.getElem?_eq_none hl] at h2;simp at h2
set_option maxRecDepth 100000 in
theorem j4j(os:Os)(started:os.Started)(H:Type)(enc:TypeId×Value→H):
    ReturnsInHanded {} Tryz.checked os 9 .any (fun w args=>(Rows.fnColorStreamSpec.pre enc Tryz.prog Tryz.f9 [] false w args∧laidMetH Tryz.prog Rows.fnColorStreamRow.laid w)∧sizedMet enc Tryz.prog Tryz.f9 (OpenSpec.ofChange Rows.fnColorStreamSpec) false w args)
      (Rows.fnColorStreamSpec.post enc Tryz.prog Tryz.f9 false true false false):=by
  refine returnsInHanded_of_change_and (C:=Tryz.checked) (X:=fun w _=>laidMetH Tryz.prog Rows.fnColorStreamRow.laid w) (fun _ _ _ hh h=>h.of_heap hh) own started (by kernel_rfl) Tryz.func9
    (ChangeSpec.witness_shaped (enc:=enc) (C:=Tryz.checked) (os:=os) (X:=fun w _=>laidMetH Tryz.prog Rows.fnColorStreamRow.laid w) false (Fh os) #[.slice none 0 0,.slice none 0 0,.slice none 0 0,.int .i64 0,.int .i64 0,.int .i64 0] 8 rfl (World.shaped_of_RefB (lwA os _) (lwB os _)) (qki os) (by as_aux_lemma=>kernel_rfl) (by as_aux_lemma=>kernel_rfl) (jlo os _)) ?_
  intro W base args ds gs before hval0 hW _ _ hL _
  have hval: ∀(j:Nat) t v,Tryz.f9.params[j]? =some t→args[j]? =some v→Value.okWide Tryz.prog W .any base t v:=hval0
  have hW':=hW
  obtain ⟨p,q,hA0,hV,rfl,hfz,hnd⟩:=hW
  have hA:DataW.TrodAll enc Tryz.prog W 0 (fun _=>true) true Tryz.f9.params.toList args.toList ds p:=hA0
  rw[Tryz.params9] at hA hval
  obtain ⟨v0,vs0,d0,ds0,p0,q0,hargs,rfl,rfl,h0,r0⟩:=trodAll_cons hA
  obtain ⟨v1,vs1,d1,ds1,p1,q1,rfl,rfl,rfl,h1,r1⟩:=trodAll_cons r0
  obtain ⟨v2,vs2,d2,ds2,p2,q2,rfl,rfl,rfl,h2,r2⟩:=trodAll_cons r1
  obtain ⟨v3,vs3,d3,ds3,p3,q3,rfl,rfl,rfl,h3,r3⟩:=trodAll_cons r2
  obtain ⟨v4,vs4,d4,ds4,p4,q4,rfl,rfl,rfl,h4,r4⟩:=trodAll_cons r3
  obtain ⟨v5,vs5,d5,ds5,p5,q5,rfl,rfl,rfl,h5,r5⟩:=trodAll_cons r4
  obtain ⟨rfl,rfl,rfl⟩:=trodAll_nil r5
  obtain rfl:args= #[v0,v1,v2,v3,v4,v5]:=by cases args;simp_all
  obtain ⟨rfl,rfl⟩:=trodVars_none hV
  obtain ⟨a0,len0,cap0,rfl⟩:=okWide_slice Tryz.underlying22 (hval 0 22 v0 rfl rfl)
  have hsp0:=Md (hval 0 22 _ rfl rfl)
  have k0:=h0
  have lt0: ∀x∈p0,x.block<W.heap.size:=by obtain ⟨m,hm⟩:=k0;exact DataW.trod_lt m _ _ _ hm
  obtain ⟨z0,y0⟩: ∃zs,Ll .u8 W a0 len0 cap0 zs:=by
    obtain ⟨fuel,hf⟩:=h0
    rcases open_ints Tryz.underlying22 Tryz.underlying5 (by kernel_rfl) hf with ⟨hcs,_⟩|⟨x,l,c,zs,hcs,_,hl,hm,hz,_,hcell,hwz⟩
    · simp[Value.cells] at hcs
      obtain ⟨rfl,rfl,rfl⟩:=hcs
      exact ⟨[],.inl ⟨rfl,rfl,rfl,rfl⟩⟩
    · simp[Value.cells] at hcs
      obtain ⟨rfl,rfl,rfl⟩:=hcs
      exact ⟨zs,.inr ⟨_,rfl,hl,hm,by simpa using hz,hcell,hwz⟩⟩
  obtain ⟨s0,o0,e0⟩:=Hn y0 hsp0
  obtain ⟨a1,len1,cap1,rfl⟩:=okWide_slice Tryz.underlying22 (hval 1 22 v1 rfl rfl)
  have hsp1:=Md (hval 1 22 _ rfl rfl)
  have k1:=h1
  have lt1: ∀x∈p1,x.block<W.heap.size:=by obtain ⟨m,hm⟩:=k1;exact DataW.trod_lt m _ _ _ hm
  obtain ⟨z1,y1⟩: ∃zs,Ll .u8 W a1 len1 cap1 zs:=by
    obtain ⟨fuel,hf⟩:=h1
    rcases open_ints Tryz.underlying22 Tryz.underlying5 (by kernel_rfl) hf with ⟨hcs,_⟩|⟨x,l,c,zs,hcs,_,hl,hm,hz,_,hcell,hwz⟩
    · simp[Value.cells] at hcs
      obtain ⟨rfl,rfl,rfl⟩:=hcs
      exact ⟨[],.inl ⟨rfl,rfl,rfl,rfl⟩⟩
    · simp[Value.cells] at hcs
      obtain ⟨rfl,rfl,rfl⟩:=hcs
      exact ⟨zs,.inr ⟨_,rfl,hl,hm,by simpa using hz,hcell,hwz⟩⟩
  obtain ⟨s1,o1,e1⟩:=Hn y1 hsp1
  obtain ⟨a2,len2,cap2,rfl⟩:=okWide_slice Tryz.underlying22 (hval 2 22 v2 rfl rfl)
  have hsp2:=Md (hval 2 22 _ rfl rfl)
  have k2:=h2
  have lt2: ∀x∈p2,x.block<W.heap.size:=by obtain ⟨m,hm⟩:=k2;exact DataW.trod_lt m _ _ _ hm
  obtain ⟨z2,y2⟩: ∃zs,Ll .u8 W a2 len2 cap2 zs:=by
    obtain ⟨fuel,hf⟩:=h2
    rcases open_ints Tryz.underlying22 Tryz.underlying5 (by kernel_rfl) hf with ⟨hcs,_⟩|⟨x,l,c,zs,hcs,_,hl,hm,hz,_,hcell,hwz⟩
    · simp[Value.cells] at hcs
      obtain ⟨rfl,rfl,rfl⟩:=hcs
      exact ⟨[],.inl ⟨rfl,rfl,rfl,rfl⟩⟩
    · simp[Value.cells] at hcs
      obtain ⟨rfl,rfl,rfl⟩:=hcs
      exact ⟨zs,.inr ⟨_,rfl,hl,hm,by simpa using hz,hcell,hwz⟩⟩
  obtain ⟨s2,o2,e2⟩:=Hn y2 hsp2
  obtain ⟨a3,rfl,rfl,rfl,w3⟩:=open_int Tryz.underlying3 (hval 3 3 v3 rfl rfl) h3
  obtain ⟨a4,rfl,rfl,rfl,w4⟩:=open_int Tryz.underlying3 (hval 4 3 v4 rfl rfl) h4
  obtain ⟨a5,rfl,rfl,rfl,w5⟩:=open_int Tryz.underlying3 (hval 5 3 v5 rfl rfl) h5
  clear hA0 hval0
  have hw:=qf3 (Gu hL) o0 o1 o2 w3 w4 w5
  rw[e0,e1,e2] at hw
  refine hw.mono fun e W' ⟨he,bel⟩=> ?_
  subst he
  exact ⟨_,rfl,_,_,_,[],_,[],hW',trodAll_mk1 (shut_bool Tryz.underlying4 _),(trodAll_cons_mk (Below.trod Hv (by kernel_rfl) (of_decide_eq_true (by kernel_rfl)) k0 bel lt0) (trodAll_cons_mk (Below.trod Hv (by kernel_rfl) (of_decide_eq_true (by kernel_rfl)) k1 bel lt1) (trodAll_cons_mk (Below.trod Hv (by kernel_rfl) (of_decide_eq_true (by kernel_rfl)) k2 bel lt2) (trodAll_cons_mk (shut_int Tryz.underlying3 w3) (trodAll_cons_mk (shut_int Tryz.underlying3 w4) (trodAll_cons_mk (shut_int Tryz.underlying3 w5) trodAll_mk0)))))),rfl,bel.frame _,fun h=>by cases h⟩
theorem qg9:Rows.fnColorStreamRow.holds Tryz.pinned (OpenSpec.ofChange Rows.fnColorStreamSpec):=
  OpenClaim.holds_of_wide 9 Tryz.f9 rfl rfl rfl rfl rfl rfl rfl ⟨rfl,rfl,rfl,rfl,rfl⟩ rfl rfl rfl rfl rfl (by kernel_rfl) Tryz.func9 (by kernel_rfl)
    (of_decide_eq_true (by kernel_rfl)) (by unfold Func.isWrapper;first|(rw[if_pos (by decide+kernel)];kernel_rfl)|(rw[if_neg (by decide+kernel)];exact ⟨rfl,rfl⟩))
    (fun os started H enc _=>j4j os started H enc)
theorem Wu:Rows.FnColorStreamSaid:=qg9
end
end Go.Proofs.YtljjbikbfeigdaaGreatDoor
namespace Go.Proofs.YtljjbikbfeigdaaGreatDoor
noncomputable section
open Go
theorem fnColorStream_card:Rows.FnColorStreamCardSaid:=
  Claim7.holds_tied_plain_at .later [] [.handle,.data,.data,.data] true (true, "977f8b3d36f08ad5ecfe52211fd5863dd3e3b83d416ebc4a6795e26478be98c3") true
    Wu (fun _ h=>by cases h) (by kernel_rfl) (fun _ h=>by cases h) fnColorStream_row_tie rfl ⟨rfl,rfl⟩ (by kernel_rfl) rfl
    (fun f fn hf hfn=>by
      obtain rfl:f=9:=Option.some.inj ((show Tryz.prog.funcNamed "jpegcodec/laws.FnColorStream" =some 9 by kernel_rfl).symm.trans hf)|>.symm
      obtain rfl:fn=Tryz.f9:=(Option.some.inj (Tryz.func9.symm.trans hfn)).symm
      exact ⟨by kernel_rfl,fun j t ht=>by
        rw[Tryz.params9] at ht
        have h3:t=22∨t=3:=by
          rcases j with _|_|_|_|_|_|j
          · exact .inl (by simpa using ht.symm)
          · exact .inl (by simpa using ht.symm)
          · exact .inl (by simpa using ht.symm)
          · exact .inr (by simpa using ht.symm)
          · exact .inr (by simpa using ht.symm)
          · exact .inr (by simpa using ht.symm)
          · simp at ht
        rcases h3 with rfl|rfl
        · exact (show Tryz.prog.wantsStandIn 22=false by kernel_rfl)
        · exact (show Tryz.prog.wantsStandIn 3=false by kernel_rfl)⟩)
    (by kernel_rfl)
#print axioms fnColorStream_card
end
end Go.Proofs.YtljjbikbfeigdaaGreatDoor
