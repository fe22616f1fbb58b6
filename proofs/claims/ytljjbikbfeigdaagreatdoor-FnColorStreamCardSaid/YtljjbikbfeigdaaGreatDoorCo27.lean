/- Part of the proof of FnColorStreamCardSaid: Blocks of a plane, in plain Lean. -/
import Derived.Test.YtljjbikbfeigdaaGreatDoorCo26
set_option linter.all false
namespace Go.Proofs.YtljjbikbfeigdaaGreatDoor
noncomputable section
open Go
theorem Fw{px py wide high:Int}{pix:List Int}:(Fy px py wide high pix).length=64:=by simp[Fy]
theorem jel{px py wide high:Int}{pix:List Int}{y x:Int}(h1:0≤y)(h2:y<8)(h3:0≤x)(h4:x<8):
    (Fy px py wide high pix)[(8*y+x).toNat]? =some (Bg pix (min (py+y) (high-1)*wide+min (px+x) (wide-1))):=by
  unfold Fy
  rw[List.getElem?_map,List.getElem?_range (by omega)]
  have e1:(((8*y+x).toNat/8:Nat):Int)=y:=by omega
  have e2:(((8*y+x).toNat % 8:Nat):Int)=x:=by omega
  simp only[Option.map_some,e1,e2]
theorem Sp{X Y w h:Int}(h1:0≤X)(h2:X<w)(h3:0≤Y)(h4:Y<h):0≤Y*w∧0≤Y*w+X∧Y*w+X<w*h:=by
  have g1:0≤Y*w:=Int.mul_nonneg h3 (by omega)
  have g2:Y*w≤(h-1)*w:=Int.mul_le_mul_of_nonneg_right (by omega) (by omega)
  have g3:(h-1)*w=w*h-w:=by rw[Int.sub_mul,Int.one_mul,Int.mul_comm]
  omega
theorem Zg{px py wide high:Int}{pix:List Int}(h1:0≤px)(h2:0≤py)(hw:1≤wide)(hh:1≤high)(hl:(pix.length:Int)=wide*high)(ha:Bn 0 255 pix=true):Bn 0 255 (Fy px py wide high pix)=true:=by
  unfold Bn Fy
  rw[List.all_eq_true]
  intro x hx
  obtain ⟨i,hi,rfl⟩:=List.mem_map.1 hx
  have hb:=Sp (X:=min (px+((i % 8:Nat):Int)) (wide-1)) (Y:=min (py+((i/8:Nat):Int)) (high-1)) (w:=wide) (h:=high) (by omega) (by omega) (by omega) (by omega)
  have:=Ct ha (n:=min (py+((i/8:Nat):Int)) (high-1)*wide+min (px+((i % 8:Nat):Int)) (wide-1)) hb.2.1 (by omega)
  simp only[Bool.and_eq_true,decide_eq_true_eq]
  exact this
theorem Sa{l P:List Int}{n:Nat}{x:Int}(h:l.take n=P.take n)(hl:n<l.length)(hx:P[n]? =some x):(l.set n x).take (n+1)=P.take (n+1):=by
  rw[Qy _ _ _ hl,h,List.take_add_one,hx];rfl
end
end Go.Proofs.YtljjbikbfeigdaaGreatDoor
namespace Go.Proofs.YtljjbikbfeigdaaGreatDoor
noncomputable section
open Go
theorem ja1(a b:Int):Tu a b=min a b:=by unfold Tu;split<;>omega
theorem Ou(x y z u:Int)(a:List Int):Z.fa 90 x y z u a [] [] []=Fy x y z u a:=rfl
def qg3:VC:=
 let t0:T:=.lit (-9223372036854775808)
 let t1:T:=.lit 9223372036854775807
 let t2:T:=.lit 0
 let t3:T:=.lit 8
 let t4:T:=.fa 90 (.iv 5) (.iv 6) (.iv 21) (.iv 22) (.av 5) (.alit []) (.alit []) (.alit [])
 let t5:T:=.mul t3 (.iv 1000)
 let t6:T:=.add t5 (.iv 1400)
 let t7:T:=.mn (.add (.iv 6) (.iv 1000)) (.sub (.iv 22) (.lit 1))
 let t8:T:=.mul t7 (.iv 21)
 let t9:T:=.mn (.add (.iv 5) (.iv 1400)) (.sub (.iv 21) (.lit 1))
 let t10:T:=.add t8 t9
 let t11:T:=.add (.iv 1400) (.lit 1)
 let t12:T:=.set (.av 1400) t6 (.wrap .i32 (.get (.av 5) t10))
 let t14:T:=.add (.iv 1000) (.lit 1)
 (.need [(.le t0 (.sub (.iv 21) (.lit 1))),(.le (.sub (.iv 21) (.lit 1)) t1)] (.need [(.le t0 (.sub (.iv 22) (.lit 1))),(.le (.sub (.iv 22) (.lit 1)) t1)] (.need [(.le t2 t2),(.le t2 t3),(.aeq (.cut (.av 4) t2 (.mul t3 t2)) (.cut t4 t2 (.mul t3 t2)))] (.any 1000 3 [(.le t2 (.iv 1000)),(.le (.iv 1000) t3),(.eq (.len (.av 1000)) (.lit 64)),(.aeq (.cut (.av 1000) t2 t5) (.cut t4 t2 t5))] (.cond (.lt (.iv 1000) t3) (.need [(.aeq (.cut (.av 1000) t2 (.add t5 t2)) (.cut t4 t2 (.add t5 t2)))] (.any 1400 3 [(.le t2 (.iv 1400)),(.le (.iv 1400) t3),(.eq (.len (.av 1400)) (.lit 64)),(.aeq (.cut (.av 1400) t2 t6) (.cut t4 t2 t6))] (.cond (.lt (.iv 1400) t3) (.need [(.le t0 (.add (.iv 5) (.iv 1400))),(.le (.add (.iv 5) (.iv 1400)) t1)] (.need [(.le t0 (.add (.iv 6) (.iv 1000))),(.le (.add (.iv 6) (.iv 1000)) t1)] (.need [(.le t0 t7),(.le t7 t1)] (.need [(.le t0 t8),(.le t8 t1)] (.need [(.le t0 t9),(.le t9 t1)] (.need [(.le t0 t10),(.le t10 t1)] (.need [(.le t0 t5),(.le t5 t1)] (.need [(.le t0 t6),(.le t6 t1)] (.need [(.le t2 t10),(.lt t10 (.iv 20))] (.need [(.lt t10 (.len (.av 5)))] (.need [(.le t2 t6),(.lt t6 (.lit 64))] (.need [(.le t0 t11),(.le t11 t1)] (.need [(.le t2 t11),(.le t11 t3),(.eq (.len t12) (.lit 64)),(.aeq (.cut t12 t2 (.add t5 t11)) (.cut t4 t2 (.add t5 t11))),(.lt t2 (.sub t3 (.iv 1400))),(.lt (.sub t3 t11) (.sub t3 (.iv 1400)))] .done))))))))))))) (.need [(.le t0 t14),(.le t14 t1)] (.need [(.le t2 t14),(.le t14 t3),(.aeq (.cut (.av 1400) t2 (.mul t3 t14)) (.cut t4 t2 (.mul t3 t14))),(.lt t2 (.sub t3 (.iv 1000))),(.lt (.sub t3 t14) (.sub t3 (.iv 1000)))] .done))))) (.need [(.aeq (.av 1000) t4),(.fb 2 t2 (.lit 255) t2 t2 (.av 1000) (.alit []) (.alit []) (.alit []))] .done))))))
theorem w88:Dd (Db Tryz.prog Jt Jq ⟨qkk,qf6⟩ 100000 88 c88) qg3=true:=by kernel_rfl
set_option maxHeartbeats 2000000 in
theorem qab:Cf Tryz.prog Z 88 c88:=by
  refine Bf Cq Cn w88 fun ρ h=> ?_
  simp only[c88,jke,bB,jbb,Du,z0,Bi,Di,List.flatMap_cons,List.flatMap_nil,List.append_nil,List.append_assoc,List.cons_append,List.nil_append,and_true,↓Bo,↓Bq,↓Bs,↓Az,↓Ca,↓Bz,↓Bu,↓Bc,↓Bb,↓Be,↓Ba,↓Bv,↓Ay,↓Bt,↓Br,↓Bw,↓Bx,↓By,Ag,As,Ap,Ar,T.I,T.A,T.B,Int.toNat_zero,List.drop_zero,and_true,implies_true,VC.sem,Aa,Af,Ak,Ai,Ae,Ac,Ad,Am,Al,Ah,An,Aj,Ab,Aq,Ao] at h
  obtain ⟨h1,h2,h3,h4,h5,h6,h7,h8,h9,h10,h11,h12,h13⟩:=h
  have ha:Bn 0 255 (ρ.a 5)=true:=h7
  have IB: ∀x y:Int,0≤x→0≤y→0≤min (ρ.i 6+y) (ρ.i 22-1)*ρ.i 21∧0≤min (ρ.i 6+y) (ρ.i 22-1)*ρ.i 21+min (ρ.i 5+x) (ρ.i 21-1)∧min (ρ.i 6+y) (ρ.i 22-1)*ρ.i 21+min (ρ.i 5+x) (ρ.i 21-1)<(ρ.a 5).length∧((ρ.a 5).length:Int)≤4294836225:=by
    intro x y hx hy
    have:=Sp (X:=min (ρ.i 5+x) (ρ.i 21-1)) (Y:=min (ρ.i 6+y) (ρ.i 22-1)) (w:=ρ.i 21) (h:=ρ.i 22) (by omega) (by omega) (by omega) (by omega)
    have hm:ρ.i 21*ρ.i 22≤65535*65535:=Int.mul_le_mul (by omega) (by omega) (by omega) (by omega)
    omega
  simp only[qg3,jkx,qbb,↓Bo,↓Bq,↓Bs,↓Az,↓Ca,↓Bz,↓Bu,↓Bc,↓Bb,↓Be,↓Ba,↓Bv,↓Ay,↓Bt,↓Br,↓Bw,↓Bx,↓By,Ag,As,Ap,Ar,T.I,T.A,T.B,Int.toNat_zero,List.drop_zero,and_true,implies_true,VC.sem,Aa,Af,Ak,Ai,Ae,Ac,Ad,Am,Al,Ah,An,Aj,Ab,Aq,Ao,ja1]
  (repeat' (first|refine And.intro ?_ ?_|intro _))<;>(try trivial)<;>(try omega)
  · have e:8*ρ.i 1000+0=8*ρ.i 1000:=by omega
    rw[e];assumption
  · have:=IB (ρ.i 1400) (ρ.i 1000) (by omega) (by omega);omega
  · have:=IB (ρ.i 1400) (ρ.i 1000) (by omega) (by omega);omega
  · have:=IB (ρ.i 1400) (ρ.i 1000) (by omega) (by omega);omega
  · have:=IB (ρ.i 1400) (ρ.i 1000) (by omega) (by omega);omega
  · have:=IB (ρ.i 1400) (ρ.i 1000) (by omega) (by omega);omega
  · rw[List.length_set];assumption
  · have hi:=IB (ρ.i 1400) (ρ.i 1000) (by omega) (by omega)
    have hv:=Ct ha (n:=min (ρ.i 6+ρ.i 1000) (ρ.i 22-1)*ρ.i 21+min (ρ.i 5+ρ.i 1400) (ρ.i 21-1)) (by omega) (by omega)
    have hg:=jel (px:=ρ.i 5) (py:=ρ.i 6) (wide:=ρ.i 21) (high:=ρ.i 22) (pix:=ρ.a 5) (y:=ρ.i 1000) (x:=ρ.i 1400) (by omega) (by omega) (by omega) (by omega)
    have hw:IntKind.i32.wrap ((ρ.a 5).getD (min (ρ.i 6+ρ.i 1000) (ρ.i 22-1)*ρ.i 21+min (ρ.i 5+ρ.i 1400) (ρ.i 21-1)).toNat 0)=Bg (ρ.a 5) (min (ρ.i 6+ρ.i 1000) (ρ.i 22-1)*ρ.i 21+min (ρ.i 5+ρ.i 1400) (ρ.i 21-1)):=by
      rw[IntKind.wrap_i32]
      show (Bg _ _+_) % _-_=_
      omega
    have e:(8*ρ.i 1000+(ρ.i 1400+1)).toNat=(8*ρ.i 1000+ρ.i 1400).toNat+1:=by omega
    rw[hw,e,Ou]
    exact Sa ‹_› (by omega) hg
  · have e:8*(ρ.i 1000+1)=8*ρ.i 1000+ρ.i 1400:=by omega
    rw[e];assumption
  · have e:= ‹List.take (8*ρ.i 1000).toNat (ρ.a 1000)=_›
    rw[Ou,List.take_of_length_le (by omega),List.take_of_length_le (by rw[Fw];omega)] at e
    exact e
  · have e:= ‹List.take (8*ρ.i 1000).toNat (ρ.a 1000)=_›
    rw[Ou,List.take_of_length_le (by omega),List.take_of_length_le (by rw[Fw];omega)] at e
    rw[e]
    exact Zg (by omega) (by omega) (by omega) (by omega) h5 ha
end
end Go.Proofs.YtljjbikbfeigdaaGreatDoor
namespace Go.Proofs.YtljjbikbfeigdaaGreatDoor
noncomputable section
open Go
theorem jyf(w h:Int)(L q p:List Int):Z.fa 500 0 0 0 0 L q p ([w]++ [h])=pk (jq1 w h p q (up L)):=id rfl
theorem qck(w h x y z:Int)(L q p:List Int):Z.fa 501 x y z 0 L q p ([w]++ [h])=pk (Tl w h p q (up L) z x y):=id rfl
theorem j6p(q b:List Int):Z.fi 61 0 0 0 0 q b [] []=coef 0 q (Dc b) 0:=id rfl
theorem j2y(w h b n:Int)(p q t:List Int):jq1 w h p q (up ([b]++([n]++t)))=Tl w h p q (up ([b]++([n]++(t++ [255,218,0,8,1,1,0,0,63,0])))) 0 0 0:=by unfold jq1;rfl
theorem j27: ∀f s,qdk f=some s→Dw Tryz.prog Z f s:=by
  intro f s h
  unfold qdk at h
  split at h
  · cases h;exact Ce jdu
  · cases h;exact Ce qab
  · cases h;exact Ce jm1
  · cases h;exact Ce jpo
  · cases h
def qio:VC:=
 let t0:T:=.add (.len (.av 0)) (.iv 0)
 let t1:T:=.lit 10
 let t2:T:=.lit 0
 let t3:T:=.lit 4096
 let t4:T:=.splice (.av 1100) (.len (.av 1100)) (.cut (.av 1101) t2 (.iv 1100))
 let t5:T:=.splice (.av 0) (.len (.av 0)) (.cut (.av 1) t2 (.iv 0))
 let t6:T:=.alit [0]
 let t7:T:=.set t6 t2 (.iv 1)
 let t8:T:=.set t6 t2 (.iv 2)
 let t9:T:=.splice (.set t6 t2 (.iv 21)) (.len (.set t6 t2 (.iv 21))) (.set t6 t2 (.iv 22))
 let t10:T:=.fa 500 t2 t2 t2 t2 (.splice t7 (.len t7) (.splice t8 (.len t8) t5)) (.av 3) (.av 5) t9
 let t11:T:=.add (.len (.av 1400)) (.iv 1402)
 let t12:T:=.mul (.lit 1180800) (.iv 1403)
 let t13:T:=.splice (.set t6 t2 (.iv 1400)) (.len (.set t6 t2 (.iv 1400))) (.splice (.set t6 t2 (.iv 1401)) (.len (.set t6 t2 (.iv 1401))) (.splice (.av 1400) (.len (.av 1400)) (.cut (.av 1401) t2 (.iv 1402))))
 let t14:T:=.add (.len (.av 1800)) (.iv 1802)
 let t15:T:=.splice (.set t6 t2 (.iv 1800)) (.len (.set t6 t2 (.iv 1800))) (.splice (.set t6 t2 (.iv 1801)) (.len (.set t6 t2 (.iv 1801))) (.splice (.av 1800) (.len (.av 1800)) (.cut (.av 1801) t2 (.iv 1802))))
 let t16:T:=.splice (.set t6 t2 (.iv 2701)) (.len (.set t6 t2 (.iv 2701))) (.splice (.set t6 t2 (.iv 2702)) (.len (.set t6 t2 (.iv 2702))) (.splice (.av 2700) (.len (.av 2700)) (.cut (.av 2701) t2 (.iv 2700))))
 let t17:T:=.fi 61 t2 t2 t2 t2 (.av 3) (.av 2300) (.alit []) (.alit [])
 let t18:T:=.add (.iv 1803) (.lit 8)
 let t19:T:=.add (.iv 1403) (.lit 8)
 let t20:T:=.splice (.set t6 t2 (.iv 1901)) (.len (.set t6 t2 (.iv 1901))) (.splice (.set t6 t2 (.iv 1902)) (.len (.set t6 t2 (.iv 1902))) (.splice (.av 1900) (.len (.av 1900)) (.cut (.av 1901) t2 (.iv 1900))))
 (.need [(.le (.add t0 t1) (.lit 1000000000000)),(.le t2 t1),(.le t1 t3),(.le t1 t1),(.eq (.len (.alit [255,218,0,8,1,1,0,0,63,0])) t1)] (.any 1000 1 [(.eq (.add (.len (.av 1100)) (.iv 1100)) (.add t0 t1)),(.le t2 (.iv 1100)),(.le (.iv 1100) t3),(.eq (.len (.av 1101)) t3),(.aeq t4 (.splice t5 (.len t5) (.alit [255,218,0,8,1,1,0,0,63,0])))] (.need [(.le t2 t2),(.le t2 (.add (.iv 22) (.lit 7))),(.le (.lit (-1024)) t2),(.le t2 (.lit 1023)),(.eq (.len (.rep (.lit 64) t2)) (.lit 64)),(.le (.add (.len (.av 1100)) (.iv 1100)) (.add t0 (.add t1 (.mul (.lit 1180800) t2)))),(.aeq (.fa 501 t2 t2 t2 t2 (.splice t7 (.len t7) (.splice t8 (.len t8) t4)) (.av 3) (.av 5) t9) t10)] (.any 1400 6 [(.le t2 (.iv 1402)),(.le (.iv 1402) t3),(.eq (.len (.av 1401)) t3),(.le t2 (.iv 1400)),(.le (.iv 1400) (.lit 4294967295)),(.le t2 (.iv 1401)),(.le (.iv 1401) (.lit 7)),(.le t2 (.iv 1403)),(.le (.iv 1403) (.add (.iv 22) (.lit 7))),(.le (.lit (-1024)) (.iv 1404)),(.le (.iv 1404) (.lit 1023)),(.eq (.len (.av 1402)) (.lit 64)),(.le t11 (.add t0 (.add t1 t12))),(.aeq (.fa 501 t2 (.iv 1403) (.iv 1404) t2 t13 (.av 3) (.av 5) t9) t10)] (.cond (.lt (.iv 1403) (.iv 22)) (.need [(.le t2 (.add (.iv 21) (.lit 7))),(.le t11 (.add t0 (.add t1 (.add t12 (.mul (.lit 144) t2)))))] (.any 1800 6 [(.le t2 (.iv 1802)),(.le (.iv 1802) t3),(.eq (.len (.av 1801)) t3),(.le t2 (.iv 1800)),(.le (.iv 1800) (.lit 4294967295)),(.le t2 (.iv 1801)),(.le (.iv 1801) (.lit 7)),(.le t2 (.iv 1803)),(.le (.iv 1803) (.add (.iv 21) (.lit 7))),(.le (.lit (-1024)) (.iv 1804)),(.le (.iv 1804) (.lit 1023)),(.eq (.len (.av 1802)) (.lit 64)),(.le t14 (.add t0 (.add t1 (.add t12 (.mul (.lit 144) (.iv 1803)))))),(.aeq (.fa 501 (.iv 1803) (.iv 1403) (.iv 1804) t2 t15 (.av 3) (.av 5) t9) t10)] (.cond (.lt (.iv 1803) (.iv 21)) (.need [(.le (.iv 1803) (.lit 65535)),(.le (.iv 1403) (.lit 65535))] (.any 2200 8 [(.eq (.len (.av 2300)) (.lit 64)),(.aeq (.av 2300) (.fa 90 (.iv 1803) (.iv 1403) (.iv 21) (.iv 22) (.av 5) (.alit []) (.alit []) (.alit []))),(.fb 2 t2 (.lit 255) t2 t2 (.av 2300) (.alit []) (.alit []) (.alit []))] (.need [(.le (.add t14 (.lit 1152)) (.lit 1000000000000))] (.any 2600 8 [(.le t2 (.iv 2700)),(.le (.iv 2700) t3),(.eq (.len (.av 2701)) t3),(.le t2 (.iv 2701)),(.le (.iv 2701) (.lit 4294967295)),(.le t2 (.iv 2702)),(.le (.iv 2702) (.lit 7)),(.le (.add (.len (.av 2700)) (.iv 2700)) (.add t14 (.lit 1152))),(.aeq t16 (.fa 70 (.iv 1804) t2 t2 t2 t15 (.av 3) (.av 2300) (.alit []))),(.eq (.len (.av 2702)) (.lit 64)),(.le (.lit (-1024)) t17),(.le t17 (.lit 1023))] (.need [(.le (.lit (-9223372036854775808)) t18),(.le t18 (.lit 9223372036854775807))] (.need [(.le t2 t18),(.le t18 (.add (.iv 21) (.lit 7))),(.le (.add (.len (.av 2700)) (.iv 2700)) (.add t0 (.add t1 (.add t12 (.mul (.lit 144) t18))))),(.aeq (.fa 501 t18 (.iv 1403) t17 t2 t16 (.av 3) (.av 5) t9) t10),(.lt t2 (.sub (.add (.iv 21) (.lit 8)) (.iv 1803))),(.lt (.sub (.add (.iv 21) (.lit 8)) t18) (.sub (.add (.iv 21) (.lit 8)) (.iv 1803)))] .done)))))) (.need [(.le (.lit (-9223372036854775808)) t19),(.le t19 (.lit 9223372036854775807))] (.need [(.le t2 t19),(.le t19 (.add (.iv 22) (.lit 7))),(.le t14 (.add t0 (.add t1 (.mul (.lit 1180800) t19)))),(.aeq (.fa 501 t2 t19 (.iv 1804) t2 t15 (.av 3) (.av 5) t9) t10),(.lt t2 (.sub (.add (.iv 22) (.lit 8)) (.iv 1403))),(.lt (.sub (.add (.iv 22) (.lit 8)) t19) (.sub (.add (.iv 22) (.lit 8)) (.iv 1403)))] .done))))) (.need [(.le (.add t11 (.lit 6)) (.lit 1000000000000)),(.le t2 (.lit 127)),(.le (.lit 127) (.lit 65535)),(.le t2 (.lit 7)),(.le (.lit 7) (.lit 16))] (.any 1800 6 [(.le t2 (.iv 1900)),(.le (.iv 1900) t3),(.eq (.len (.av 1901)) t3),(.le t2 (.iv 1901)),(.le (.iv 1901) (.lit 4294967295)),(.le t2 (.iv 1902)),(.le (.iv 1902) (.lit 7)),(.le (.add (.len (.av 1900)) (.iv 1900)) (.add t11 (.lit 6))),(.aeq t20 (.fa 3 (.lit 127) (.lit 7) t2 t2 t13 (.alit []) (.alit []) (.alit [])))] (.need [(.le (.add (.len (.av 1900)) (.iv 1900)) (.add t0 (.lit 100000000000))),(.aeq t20 t10)] .done))))))))
theorem w67:Dd (Db Tryz.prog Jt qdk ⟨qis,Jd⟩ 100000 67 c67) qio=true:=by kernel_rfl
set_option maxRecDepth 20000 in
set_option maxHeartbeats 4000000 in
theorem qba:Cf Tryz.prog Z 67 c67:=by
  refine Bf Cq j27 w67 fun ρ h=> ?_
  simp only[c67,eIn,hE,bE,jd7,hB,bW,bB,Gl,Tt,jbb,jke,jjj,ja2,cA,fA,z0,Du,Bi,Di,List.flatMap_cons,List.flatMap_nil,List.append_nil,List.append_assoc,List.cons_append,List.nil_append,and_true,↓Bo,↓Bq,↓Bs,↓Az,↓Ca,↓Bz,↓Bu,↓Bc,↓Bb,↓Be,↓Ba,↓Bv,↓Ay,↓Bt,↓Br,↓Bw,↓Bx,↓By,Ag,As,Ap,Ar,T.I,T.A,T.B,Int.toNat_zero,List.drop_zero,and_true,implies_true,VC.sem,Aa,Af,Ak,Ai,Ae,Ac,Ad,Am,Al,Ah,An,Aj,Ab,Aq,Ao] at h
  obtain ⟨h1,h2,h3,h4,h5,h6,h7,h8,h9⟩:=h
  simp only[qio,Fb,↓Bo,↓Bq,↓Bs,↓Az,↓Ca,↓Bz,↓Bu,↓Bc,↓Bb,↓Be,↓Ba,↓Bv,↓Ay,↓Bt,↓Br,↓Bw,↓Bx,↓By,Ag,As,Ap,Ar,T.I,T.A,T.B,Int.toNat_zero,List.drop_zero,and_true,implies_true,VC.sem,Aa,Af,Ak,Ai,Ae,Ac,Ad,Am,Al,Ah,An,Aj,Ab,Aq,Ao,jyf,qck,fb2]
  clear h1
  (repeat' (first|with_reducible exact True.intro|with_reducible refine And.intro ?_ ?_|intro _))<;>(try omega)
  · rfl
  · simp only[List.length_replicate];rfl
  · have e:= ‹ρ.a 1100++_=_›
    rw[e,j2y]
  · refine Eq.trans ?_ ‹pk (Tl _ _ _ _ (up ([ρ.i 1800]++_)) (ρ.i 1804) (ρ.i 1803) _)=_›
    rw[jm5 (x:=ρ.i 1803) (by omega) (by omega),‹[ρ.i 2701]++_=_›,j17,Lc,j6p,‹ρ.a 2300=_›,Ou]
  · refine Eq.trans ?_ ‹pk (Tl _ _ _ _ (up ([ρ.i 1800]++_)) (ρ.i 1804) (ρ.i 1803) _)=_›
    rw[jfs (x:=ρ.i 1803) (by omega) (by omega)]
  · refine Eq.trans ?_ ‹pk (Tl _ _ _ _ (up ([ρ.i 1400]++_)) (ρ.i 1404) 0 _)=_›
    rw[Zy (by omega),‹[ρ.i 1901]++_=_›,jhh]
end
end Go.Proofs.YtljjbikbfeigdaaGreatDoor
