/- Part of the proof of FnColorEdgesCardSaid: Contracts of the specification's reader shown: blocks, the segments with tables. -/
import Derived.Test.YtljjbikbfeigdaaGreatDoorCe19
set_option linter.all false
namespace Go.Proofs.YtljjbikbfeigdaaGreatDoor
noncomputable section
open Go
theorem Xu{q i:Nat}(h1:Cf Tryz.prog Z 74 (c74 q i))(h2:Cf Tryz.prog Z 75 (c75 (2*q+1))): ∀f s,spB q i f=some s→Ei Tryz.prog Z f s:=by
  intro f s hs
  unfold spB at hs
  split at hs
  · cases hs;exact Dq h1
  · cases hs;exact Dq h2
  · cases hs
theorem jf2(x y:Int)(D:List Int):Z.fi 270 x y 0 0 D [] [] []=Tg 0 D x y:=id rfl
theorem jr2(x y:Int)(D:List Int):Z.fi 272 x y 0 0 D [] [] []=e1 (Xv 0 D x y):=id rfl
theorem jpp(x y:Int)(D:List Int):Z.fi 274 x y 0 0 D [] [] []=e2 (Xv 0 D x y):=id rfl
theorem jlv(x y:Int)(D:List Int):Z.fb 270 x y 0 0 D [] [] []=Yu 0 D x y:=id rfl
theorem jab(x y p:Int)(D:List Int):Z.fb 420 x y p 0 D [] [] []=Li 0 D x y p:=id rfl
theorem jfh(d x y p:Int)(D bl:List Int):Z.fi 420 d x y p D bl [] []=e0 (Gg 0 D d x y p bl):=id rfl
theorem jee(d x y p:Int)(D bl:List Int):Z.fi 422 d x y p D bl [] []=e1 (Gg 0 D d x y p bl):=id rfl
theorem jfz(d x y p:Int)(D bl:List Int):Z.fa 424 d x y p D bl [] []=(Gg 0 D d x y p bl).drop 2:=id rfl
theorem jc8(d x y p:Int)(D bl:List Int):Gg 0 D d x y p bl=Ef (Bl 1) (At 1) D d 1 (e1 (Xv 0 D x y)) (e2 (Xv 0 D x y)) (bl.set d.toNat (p+Tg 0 D x y)):=by rfl
theorem jas(x y p:Int)(D:List Int):Li 0 D x y p=(Yu 0 D x y&&(decide (-1024≤p+Tg 0 D x y)&&(decide (p+Tg 0 D x y≤1023)&&Ge (Bl 1) (At 1) D 1 (e1 (Xv 0 D x y)) (e2 (Xv 0 D x y))))):=by unfold Li;rfl
theorem jfl{x y:Int}{D:List Int}(h1:0≤x)(h2:0≤y)(h3:y≤7)(ho:Yu 0 D x y=true):0≤e1 (Xv 0 D x y)∧0≤e2 (Xv 0 D x y)∧e2 (Xv 0 D x y)≤7:=by
  unfold Yu at ho
  rw[Bool.and_eq_true] at ho
  obtain ⟨r1,r2,r3,r4,r5⟩:=Kb (h:=2*0) (by omega) ho.1 h1 h2 h3
  exact Le D _ 0 _ _ r3 r4 r5
theorem jey(x y:Int)(D:List Int):Z.fi 271 x y 0 0 D [] [] []=Tg 1 D x y:=id rfl
theorem jk5(x y:Int)(D:List Int):Z.fi 273 x y 0 0 D [] [] []=e1 (Xv 1 D x y):=id rfl
theorem jjg(x y:Int)(D:List Int):Z.fi 275 x y 0 0 D [] [] []=e2 (Xv 1 D x y):=id rfl
theorem jde(x y:Int)(D:List Int):Z.fb 271 x y 0 0 D [] [] []=Yu 1 D x y:=id rfl
theorem Zj(x y p:Int)(D:List Int):Z.fb 421 x y p 0 D [] [] []=Li 1 D x y p:=id rfl
theorem jej(d x y p:Int)(D bl:List Int):Z.fi 421 d x y p D bl [] []=e0 (Gg 1 D d x y p bl):=id rfl
theorem jf6(d x y p:Int)(D bl:List Int):Z.fi 423 d x y p D bl [] []=e1 (Gg 1 D d x y p bl):=id rfl
theorem jff(d x y p:Int)(D bl:List Int):Z.fa 425 d x y p D bl [] []=(Gg 1 D d x y p bl).drop 2:=id rfl
theorem Yq(d x y p:Int)(D bl:List Int):Gg 1 D d x y p bl=Ef (Bl 3) (At 3) D d 1 (e1 (Xv 1 D x y)) (e2 (Xv 1 D x y)) (bl.set d.toNat (p+Tg 1 D x y)):=by rfl
theorem Zm(x y p:Int)(D:List Int):Li 1 D x y p=(Yu 1 D x y&&(decide (-1024≤p+Tg 1 D x y)&&(decide (p+Tg 1 D x y≤1023)&&Ge (Bl 3) (At 3) D 1 (e1 (Xv 1 D x y)) (e2 (Xv 1 D x y))))):=by unfold Li;rfl
theorem jg6{x y:Int}{D:List Int}(h1:0≤x)(h2:0≤y)(h3:y≤7)(ho:Yu 1 D x y=true):0≤e1 (Xv 1 D x y)∧0≤e2 (Xv 1 D x y)∧e2 (Xv 1 D x y)≤7:=by
  unfold Yu at ho
  rw[Bool.and_eq_true] at ho
  obtain ⟨r1,r2,r3,r4,r5⟩:=Kb (h:=2*1) (by omega) ho.1 h1 h2 h3
  exact Le D _ 0 _ _ r3 r4 r5
theorem Gy(D:List Int):D.getD 0 0=Bg D 0:=rfl
theorem jy5(l:List Int):Z.fb 441 0 0 0 0 l [] [] []=Ws l:=id rfl
theorem j2l{l:List Int}(hl:l.length=64)(h:Ws l=true): -1024≤Bg l 0∧Bg l 0≤1023∧ ∀i:Int,0≤i→i<63→ -1023≤Bg l (1+i)∧Bg l (1+i)≤1023:=by
  unfold Ws at h
  simp only[Bool.and_eq_true,decide_eq_true_eq] at h
  refine ⟨h.1,h.2.1,fun i h0 h1=> ?_⟩
  have hi:(1+i).toNat<l.length:=by omega
  have e:Bg l (1+i)=l.tail[i.toNat]'(by simp;omega):=by
    unfold Bg
    rw[List.getD_eq_getElem?_getD,List.getElem?_eq_getElem hi]
    simp only[Option.getD_some,List.getElem_tail]
    congr 1;omega
  have:=List.all_eq_true.1 h.2.2 _ (List.getElem_mem (l:=l.tail) (n:=i.toNat) (by simp;omega))
  simp only[Bool.and_eq_true,decide_eq_true_eq] at this
  rw[e];exact this
def qfb:VC:=
 let t0:T:=.add (.iv 1000) (.lit 1)
 (.cond (.lt (.get (.av 7) (.lit 0)) (.lit (-1024))) (.need [.ff] .done) (.cond (.lt (.lit 1023) (.get (.av 7) (.lit 0))) (.need [.ff] .done) (.need [(.le (.lit 0) (.lit 0)),(.le (.lit 0) (.lit 63))] (.any 1000 1000000000 [(.le (.lit 0) (.iv 1000)),(.le (.iv 1000) (.lit 63))] (.cond (.lt (.iv 1000) (.lit 63)) (.need [(.lt (.add (.lit 1) (.iv 1000)) (.lit 64))] (.cond (.lt (.get (.av 7) (.add (.lit 1) (.iv 1000))) (.lit (-1023))) (.need [.ff] .done) (.cond (.lt (.lit 1023) (.get (.av 7) (.add (.lit 1) (.iv 1000)))) (.need [.ff] .done) (.need [(.le (.lit (-9223372036854775808)) t0),(.le t0 (.lit 9223372036854775807))] (.need [(.le (.lit 0) t0),(.le t0 (.lit 63)),(.lt (.lit 0) (.sub (.lit 63) (.iv 1000))),(.lt (.sub (.lit 63) t0) (.sub (.lit 63) (.iv 1000)))] .done))))) .done)))))
theorem w47:Dd (Db Tryz.prog Jt Jq ⟨jwo,jr5⟩ 100000 47 c47) qfb=true:=by kernel_rfl
theorem jya:Cf Tryz.prog Z 47 c47:=by
  refine Bf Cq Cn w47 fun ρ h=> ?_
  simp only[c47,c47.fA441,z0,jy5,Bi,Di,List.flatMap_cons,List.flatMap_nil,List.append_nil,List.append_assoc,List.cons_append,List.nil_append,and_true,↓qA,qB,and_true,implies_true,T.I,T.A,T.B,VC.sem] at h
  obtain ⟨h1,h2⟩:=h
  obtain ⟨k1,k2,k3⟩:=j2l (by omega) h1
  have k4:=k3 (ρ.i 1000)
  simp only[qfb,↓qA,qB,and_true,implies_true,T.I,T.A,T.B,VC.sem,Ck,Gy]
  (repeat' (first|exact True.intro|refine And.intro ?_ ?_|intro _))<;>(try assumption)<;>(try omega)
theorem jwh(x y:Int)(q b:List Int):Z.fa 411 x y 0 0 q b [] []=Lw x.toNat b y.toNat q:=id rfl
theorem Kt(j:Nat)(b:List Int): ∀(k:Nat) (q:List Int),(Lw j b k q).length=q.length
  | 0,_=>rfl
  | k+1,q=>by rw[Lw,List.length_set,Kt j b k q]
theorem je5(j:Nat)(b:List Int){k:Int}(q:List Int)(h:0≤k):Lw j b (k+1).toNat q=(Lw j b k.toNat q).set (64*j+k.toNat) (Bg b (65*j+1+k)):=by
  rw[show (k+1).toNat=k.toNat+1 from by omega,Lw]
  congr 2;omega
theorem ji5{lo hi:Int}{l:List Int}{s n:Nat}(h:Bn lo hi ((l.drop s).take n)=true){i:Int}(h0:s≤i)(h1:i<s+n)(h2:i<l.length):lo≤Bg l i∧Bg l i≤hi:=by
  have:=Ct h (n:=i-s) (by omega) (by simp;omega)
  have e:Bg ((l.drop s).take n) (i-s)=Bg l i:=by
    unfold Bg
    rw[List.getD_eq_getElem?_getD,List.getElem?_take,if_pos (by omega),List.getElem?_drop,List.getD_eq_getElem?_getD]
    congr 2;omega
  rw[e] at this;exact this
def qer:VC:=
 let t0:T:=.lit 0
 let t1:T:=.get (.av 2) t0
 let t2:T:=.lit 64
 let t3:T:=.alit []
 let t4:T:=.fa 411 t0 t2 t0 t0 (.av 30) (.av 2) t3 t3
 let t5:T:=.fa 411 (.lit 1) t2 t0 t0 t4 (.av 2) t3 t3
 let t6:T:=.lit (-9223372036854775808)
 let t7:T:=.add (.lit 1) (.iv 1000)
 let t8:T:=.lit 9223372036854775807
 let t9:T:=.get (.av 2) t7
 let t11:T:=.add (.mul t1 t2) (.iv 1000)
 let t12:T:=.add (.iv 1000) (.lit 1)
 let t13:T:=.set (.av 1000) t11 t9
 let t14:T:=.get (.av 2) (.lit 65)
 let t15:T:=.add (.lit 1) (.iv 1400)
 let t16:T:=.get (.av 2) (.add (.lit 65) t15)
 let t18:T:=.add (.mul t14 t2) (.iv 1400)
 let t19:T:=.add (.iv 1400) (.lit 1)
 let t20:T:=.set (.av 1400) t18 t16
 (.need [(.lt t0 (.len (.av 2)))] (.cond (.lt (.lit 3) t1) (.need [.ff,(.aeq t5 (.av 30))] .done) (.need [(.le t0 t0),(.le t0 t2),(.aeq (.av 30) (.fa 411 t0 t0 t0 t0 (.av 30) (.av 2) t3 t3))] (.any 1000 1000000000 [(.le t0 (.iv 1000)),(.le (.iv 1000) t2),(.eq (.len (.av 1000)) (.lit 256)),(.aeq (.av 1000) (.fa 411 t0 (.iv 1000) t0 t0 (.av 30) (.av 2) t3 t3))] (.cond (.lt (.iv 1000) t2) (.need [(.le t6 t7),(.le t7 t8)] (.need [(.le t0 t7),(.lt t7 (.lit 130))] (.need [(.lt t7 (.len (.av 2)))] (.cond (.eq t9 t0) (.need [.ff,(.aeq t5 (.av 1000))] .done) (.need [(.le t6 t9),(.le t9 t8)] (.need [(.le t0 t1),(.lt t1 (.lit 4))] (.need [(.le t0 (.mul t1 t2))] (.need [(.le t0 t11),(.lt t11 (.lit 256))] (.need [(.le t6 t12),(.le t12 t8)] (.need [(.le t0 t12),(.le t12 t2),(.eq (.len t13) (.lit 256)),(.aeq t13 (.fa 411 t0 t12 t0 t0 (.av 30) (.av 2) t3 t3)),(.lt t0 (.sub t2 (.iv 1000))),(.lt (.sub t2 t12) (.sub t2 (.iv 1000)))] .done)))))))))) (.need [(.le t0 (.iv 10)),(.le (.iv 10) (.iv 10)),(.le t0 (.iv 10)),(.lt (.lit 65) (.iv 10))] (.need [(.lt (.lit 65) (.len (.av 2)))] (.cond (.lt (.lit 3) t14) (.need [.ff,(.aeq t5 (.av 1000))] .done) (.need [(.aeq (.av 1000) (.fa 411 (.lit 1) t0 t0 t0 t4 (.av 2) t3 t3))] (.any 1400 1000000000 [(.le t0 (.iv 1400)),(.le (.iv 1400) t2),(.eq (.len (.av 1400)) (.lit 256)),(.aeq (.av 1400) (.fa 411 (.lit 1) (.iv 1400) t0 t0 t4 (.av 2) t3 t3))] (.cond (.lt (.iv 1400) t2) (.need [(.le t6 t15),(.le t15 t8)] (.need [(.le t0 t15),(.lt t15 (.lit 65))] (.need [(.lt (.add (.lit 65) t15) (.len (.av 2)))] (.cond (.eq t16 t0) (.need [.ff,(.aeq t5 (.av 1400))] .done) (.need [(.le t6 t16),(.le t16 t8)] (.need [(.le t0 t14),(.lt t14 (.lit 4))] (.need [(.le t0 (.mul t14 t2))] (.need [(.le t0 t18),(.lt t18 (.lit 256))] (.need [(.le t6 t19),(.le t19 t8)] (.need [(.le t0 t19),(.le t19 t2),(.eq (.len t20) (.lit 256)),(.aeq t20 (.fa 411 (.lit 1) t19 t0 t0 t4 (.av 2) t3 t3)),(.lt t0 (.sub t2 (.iv 1400))),(.lt (.sub t2 t19) (.sub t2 (.iv 1400)))] .done)))))))))) (.need [(.le t0 (.sub (.iv 10) (.lit 65))),(.le (.sub (.iv 10) (.lit 65)) (.sub (.iv 10) (.lit 65))),(.le t0 (.sub (.iv 10) (.lit 65)))] (.need [(.aeq t5 (.av 1400))] .done)))))))))))))
theorem w48:Dd (Db Tryz.prog Jt Jq ⟨Tv z0,Lb⟩ 100000 48 c48) qer=true:=by kernel_rfl
theorem j1j:Cf Tryz.prog Z 48 c48:=by
  refine Bf Cq Cn w48 fun ρ h=> ?_
  have g1:=Cc h (.le (.lit 130) (.iv 10)) (by kernel_rfl)
  have g2:=Cc h (.eq (.len (.av 2)) (.lit 130)) (by kernel_rfl)
  have g3:=Cc h (.eq (.len (.av 30)) (.lit 256)) (by kernel_rfl)
  have g4:=Cc h (Du 0 255 (.av 2)) (by kernel_rfl)
  have g5:=Cc h (.eq (.get (.av 2) z0) z0) (by kernel_rfl)
  have g6:=Cc h (.eq (.get (.av 2) (.lit 65)) (.lit 1)) (by kernel_rfl)
  have g7:=Cc h (Du 1 255 (.cut (.av 2) (.lit 1) (.lit 64))) (by kernel_rfl)
  have g8:=Cc h (Du 1 255 (.cut (.av 2) (.lit 66) (.lit 64))) (by kernel_rfl)
  clear h
  simp only[Du,z0,Tm,Ck,↓qA,qB,and_true,implies_true,T.I,T.A,T.B,VC.sem] at g1 g2 g3 g4 g5 g6 g7 g8
  have k1:=fun h0 h1=>ji5 g7 (i:=1+ρ.i 1000) h0 h1 (by omega)
  have k2:=fun h0 h1=>ji5 g8 (i:=65+(1+ρ.i 1400)) h0 h1 (by omega)
  have k3:=je5 0 (ρ.a 2) (k:=ρ.i 1000) (ρ.a 30)
  have k4:=je5 1 (ρ.a 2) (k:=ρ.i 1400) (Lw 0 (ρ.a 2) (Int.toNat 64) (ρ.a 30))
  simp only[qer,↓qA,qB,and_true,implies_true,T.I,T.A,T.B,VC.sem,Ck,jwh,Gy,g5,g6,List.length_set]
  simp only[Gy] at g5
  generalize hQ:Lw 0 (ρ.a 2) (Int.toNat 64) (ρ.a 30)=Q at*
  (repeat' (first|exact True.intro|refine And.intro ?_ ?_|intro _))<;>(try omega)
  · rfl
  · rw[k3 (by omega),← ‹ρ.a 1000=Lw 0 _ _ _›,show (0*64+ρ.i 1000).toNat=64*0+(ρ.i 1000).toNat from by omega,show (1+ρ.i 1000)=(65*((0:Nat):Int)+1+ρ.i 1000) from by omega]
  · have e:= ‹ρ.a 1000=Lw 0 _ _ _›
    rw[show ρ.i 1000=64 from by omega,hQ] at e
    exact e
  · have e:= ‹ρ.a 1400=Lw _ _ _ _›
    rw[show Int.toNat 1=1 from rfl] at*
    rw[k4 (by omega),←e,show (1*64+ρ.i 1400).toNat=64*1+(ρ.i 1400).toNat from by omega,show (65+(1+ρ.i 1400))=(65*((1:Nat):Int)+1+ρ.i 1400) from by omega]
  · have e:= ‹ρ.a 1400=Lw _ _ _ _›
    rw[show ρ.i 1400=64 from by omega] at e
    exact e.symm
end
end Go.Proofs.YtljjbikbfeigdaaGreatDoor
