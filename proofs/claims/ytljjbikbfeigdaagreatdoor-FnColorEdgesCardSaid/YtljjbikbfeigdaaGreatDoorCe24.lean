/- Part of the proof of FnColorEdgesCardSaid: Blocks of a plane, in plain Lean. -/
import Derived.Test.YtljjbikbfeigdaaGreatDoorCe23
import Derived.Test.YtljjbikbfeigdaaGreatDoorRows
import Derived.Lib.LaidTab
import Derived.MakeChecks
import Derived.Below
import Derived.ProofKit
import Derived.LaidMore
import Derived.Stop.Joined
import Derived.WalkKit
import Derived.OpenShut
import Derived.ShutString
import Derived.ChangeOld
set_option linter.all false
namespace Go.Proofs.YtljjbikbfeigdaaGreatDoor
noncomputable section
open Go
theorem Fw{px py wide high:Int}{pix:List Int}:(Fy px py wide high pix).length=64:=by simp[Fy]
theorem jel{px py wide high:Int}{pix:List Int}{y x:Int}(h1:0≤y)(h2:y<8)(h3:0≤x)(h4:x<8):
    (Fy px py wide high pix)[(8*y+x).toNat]? =some (Bg pix (min (py+y) (high-1)*wide+min (px+x) (wide-1))):=by
  unfold Fy
  rw[List.getElem?_map,List.getElem?_range (by omega)]
  have e1:(((8*y+x).toNat/8:Nat):Int)=y:=by omega
  have e2:(((8*y+x).toNat % 8:Nat):Int)=x:=by omega
  simp only[Option.map_some,e1,e2]
theorem Sp{X Y w h:Int}(h1:0≤X)(h2:X<w)(h3:0≤Y)(h4:Y<h):0≤Y*w∧0≤Y*w+X∧Y*w+X<w*h:=by
  have g1:0≤Y*w:=Int.mul_nonneg h3 (by omega)
  have g2:Y*w≤(h-1)*w:=Int.mul_le_mul_of_nonneg_right (by omega) (by omega)
  have g3:(h-1)*w=w*h-w:=by rw[Int.sub_mul,Int.one_mul,Int.mul_comm]
  omega
theorem Zg{px py wide high:Int}{pix:List Int}(h1:0≤px)(h2:0≤py)(hw:1≤wide)(hh:1≤high)(hl:(pix.length:Int)=wide*high)(ha:Bn 0 255 pix=true):Bn 0 255 (Fy px py wide high pix)=true:=by
  unfold Bn Fy
  rw[List.all_eq_true]
  intro x hx
  obtain ⟨i,hi,rfl⟩:=List.mem_map.1 hx
  have hb:=Sp (X:=min (px+((i % 8:Nat):Int)) (wide-1)) (Y:=min (py+((i/8:Nat):Int)) (high-1)) (w:=wide) (h:=high) (by omega) (by omega) (by omega) (by omega)
  have:=Ct ha (n:=min (py+((i/8:Nat):Int)) (high-1)*wide+min (px+((i % 8:Nat):Int)) (wide-1)) hb.2.1 (by omega)
  simp only[Bool.and_eq_true,decide_eq_true_eq]
  exact this
theorem Sa{l P:List Int}{n:Nat}{x:Int}(h:l.take n=P.take n)(hl:n<l.length)(hx:P[n]? =some x):(l.set n x).take (n+1)=P.take (n+1):=by
  rw[Qy _ _ _ hl,h,List.take_add_one,hx];rfl
theorem ja1(a b:Int):Tu a b=min a b:=by unfold Tu;split<;>omega
theorem Ou(x y z u:Int)(a:List Int):Z.fa 90 x y z u a [] [] []=Fy x y z u a:=rfl
def qg3:VC:=
 let t0:T:=.lit (-9223372036854775808)
 let t1:T:=.lit 9223372036854775807
 let t2:T:=.lit 0
 let t3:T:=.lit 8
 let t4:T:=.fa 90 (.iv 5) (.iv 6) (.iv 21) (.iv 22) (.av 5) (.alit []) (.alit []) (.alit [])
 let t5:T:=.mul t3 (.iv 1000)
 let t6:T:=.add t5 (.iv 1400)
 let t7:T:=.mn (.add (.iv 6) (.iv 1000)) (.sub (.iv 22) (.lit 1))
 let t8:T:=.mul t7 (.iv 21)
 let t9:T:=.mn (.add (.iv 5) (.iv 1400)) (.sub (.iv 21) (.lit 1))
 let t10:T:=.add t8 t9
 let t11:T:=.add (.iv 1400) (.lit 1)
 let t12:T:=.set (.av 1400) t6 (.wrap .i32 (.get (.av 5) t10))
 let t14:T:=.add (.iv 1000) (.lit 1)
 (.need [(.le t0 (.sub (.iv 21) (.lit 1))),(.le (.sub (.iv 21) (.lit 1)) t1)] (.need [(.le t0 (.sub (.iv 22) (.lit 1))),(.le (.sub (.iv 22) (.lit 1)) t1)] (.need [(.le t2 t2),(.le t2 t3),(.aeq (.cut (.av 4) t2 (.mul t3 t2)) (.cut t4 t2 (.mul t3 t2)))] (.any 1000 3 [(.le t2 (.iv 1000)),(.le (.iv 1000) t3),(.eq (.len (.av 1000)) (.lit 64)),(.aeq (.cut (.av 1000) t2 t5) (.cut t4 t2 t5))] (.cond (.lt (.iv 1000) t3) (.need [(.aeq (.cut (.av 1000) t2 (.add t5 t2)) (.cut t4 t2 (.add t5 t2)))] (.any 1400 3 [(.le t2 (.iv 1400)),(.le (.iv 1400) t3),(.eq (.len (.av 1400)) (.lit 64)),(.aeq (.cut (.av 1400) t2 t6) (.cut t4 t2 t6))] (.cond (.lt (.iv 1400) t3) (.need [(.le t0 (.add (.iv 5) (.iv 1400))),(.le (.add (.iv 5) (.iv 1400)) t1)] (.need [(.le t0 (.add (.iv 6) (.iv 1000))),(.le (.add (.iv 6) (.iv 1000)) t1)] (.need [(.le t0 t7),(.le t7 t1)] (.need [(.le t0 t8),(.le t8 t1)] (.need [(.le t0 t9),(.le t9 t1)] (.need [(.le t0 t10),(.le t10 t1)] (.need [(.le t0 t5),(.le t5 t1)] (.need [(.le t0 t6),(.le t6 t1)] (.need [(.le t2 t10),(.lt t10 (.iv 20))] (.need [(.lt t10 (.len (.av 5)))] (.need [(.le t2 t6),(.lt t6 (.lit 64))] (.need [(.le t0 t11),(.le t11 t1)] (.need [(.le t2 t11),(.le t11 t3),(.eq (.len t12) (.lit 64)),(.aeq (.cut t12 t2 (.add t5 t11)) (.cut t4 t2 (.add t5 t11))),(.lt t2 (.sub t3 (.iv 1400))),(.lt (.sub t3 t11) (.sub t3 (.iv 1400)))] .done))))))))))))) (.need [(.le t0 t14),(.le t14 t1)] (.need [(.le t2 t14),(.le t14 t3),(.aeq (.cut (.av 1400) t2 (.mul t3 t14)) (.cut t4 t2 (.mul t3 t14))),(.lt t2 (.sub t3 (.iv 1000))),(.lt (.sub t3 t14) (.sub t3 (.iv 1000)))] .done))))) (.need [(.aeq (.av 1000) t4),(.fb 2 t2 (.lit 255) t2 t2 (.av 1000) (.alit []) (.alit []) (.alit []))] .done))))))
theorem w88:Dd (Db Tryz.prog Jt Jq ⟨qkk,qf6⟩ 100000 88 c88) qg3=true:=by kernel_rfl
set_option maxHeartbeats 2000000 in
theorem qab:Cf Tryz.prog Z 88 c88:=by
  refine Bf Cq Cn w88 fun ρ h=> ?_
  simp only[c88,jke,bB,jbb,Du,z0,Bi,Di,List.flatMap_cons,List.flatMap_nil,List.append_nil,List.append_assoc,List.cons_append,List.nil_append,and_true,↓qA,qB,and_true,implies_true,T.I,T.A,T.B,VC.sem] at h
  obtain ⟨h1,h2,h3,h4,h5,h6,h7,h8,h9,h10,h11,h12,h13⟩:=h
  have ha:Bn 0 255 (ρ.a 5)=true:=h7
  have IB: ∀x y:Int,0≤x→0≤y→0≤min (ρ.i 6+y) (ρ.i 22-1)*ρ.i 21∧0≤min (ρ.i 6+y) (ρ.i 22-1)*ρ.i 21+min (ρ.i 5+x) (ρ.i 21-1)∧min (ρ.i 6+y) (ρ.i 22-1)*ρ.i 21+min (ρ.i 5+x) (ρ.i 21-1)<(ρ.a 5).length∧((ρ.a 5).length:Int)≤4294836225:=by
    intro x y hx hy
    have:=Sp (X:=min (ρ.i 5+x) (ρ.i 21-1)) (Y:=min (ρ.i 6+y) (ρ.i 22-1)) (w:=ρ.i 21) (h:=ρ.i 22) (by omega) (by omega) (by omega) (by omega)
    have hm:ρ.i 21*ρ.i 22≤65535*65535:=Int.mul_le_mul (by omega) (by omega) (by omega) (by omega)
    omega
  simp only[qg3,jkx,qbb,↓qA,qB,and_true,implies_true,T.I,T.A,T.B,VC.sem,ja1]
  (repeat' (first|refine And.intro ?_ ?_|intro _))<;>(try trivial)<;>(try omega)
  · have e:8*ρ.i 1000+0=8*ρ.i 1000:=by omega
    rw[e];assumption
  · have:=IB (ρ.i 1400) (ρ.i 1000) (by omega) (by omega);omega
  · have:=IB (ρ.i 1400) (ρ.i 1000) (by omega) (by omega);omega
  · have:=IB (ρ.i 1400) (ρ.i 1000) (by omega) (by omega);omega
  · have:=IB (ρ.i 1400) (ρ.i 1000) (by omega) (by omega);omega
  · have:=IB (ρ.i 1400) (ρ.i 1000) (by omega) (by omega);omega
  · rw[List.length_set];assumption
  · have hi:=IB (ρ.i 1400) (ρ.i 1000) (by omega) (by omega)
    have hv:=Ct ha (n:=min (ρ.i 6+ρ.i 1000) (ρ.i 22-1)*ρ.i 21+min (ρ.i 5+ρ.i 1400) (ρ.i 21-1)) (by omega) (by omega)
    have hg:=jel (px:=ρ.i 5) (py:=ρ.i 6) (wide:=ρ.i 21) (high:=ρ.i 22) (pix:=ρ.a 5) (y:=ρ.i 1000) (x:=ρ.i 1400) (by omega) (by omega) (by omega) (by omega)
    have hw:IntKind.i32.wrap ((ρ.a 5).getD (min (ρ.i 6+ρ.i 1000) (ρ.i 22-1)*ρ.i 21+min (ρ.i 5+ρ.i 1400) (ρ.i 21-1)).toNat 0)=Bg (ρ.a 5) (min (ρ.i 6+ρ.i 1000) (ρ.i 22-1)*ρ.i 21+min (ρ.i 5+ρ.i 1400) (ρ.i 21-1)):=by
      rw[IntKind.wrap_i32]
      show (Bg _ _+_) % _-_=_
      omega
    have e:(8*ρ.i 1000+(ρ.i 1400+1)).toNat=(8*ρ.i 1000+ρ.i 1400).toNat+1:=by omega
    rw[hw,e,Ou]
    exact Sa ‹_› (by omega) hg
  · have e:8*(ρ.i 1000+1)=8*ρ.i 1000+ρ.i 1400:=by omega
    rw[e];assumption
  · have e:= ‹List.take (8*ρ.i 1000).toNat (ρ.a 1000)=_›
    rw[Ou,List.take_of_length_le (by omega),List.take_of_length_le (by rw[Fw];omega)] at e
    exact e
  · have e:= ‹List.take (8*ρ.i 1000).toNat (ρ.a 1000)=_›
    rw[Ou,List.take_of_length_le (by omega),List.take_of_length_le (by rw[Fw];omega)] at e
    rw[e]
    exact Zg (by omega) (by omega) (by omega) (by omega) h5 ha
theorem jyf(w h:Int)(L q p:List Int):Z.fa 500 0 0 0 0 L q p ([w]++ [h])=pk (jq1 w h p q (up L)):=id rfl
theorem qck(w h x y z:Int)(L q p:List Int):Z.fa 501 x y z 0 L q p ([w]++ [h])=pk (Tl w h p q (up L) z x y):=id rfl
theorem j6p(q b:List Int):Z.fi 61 0 0 0 0 q b [] []=coef 0 q (Dc b) 0:=id rfl
theorem j2y(w h b n:Int)(p q t:List Int):jq1 w h p q (up ([b]++([n]++t)))=Tl w h p q (up ([b]++([n]++(t++ [255,218,0,8,1,1,0,0,63,0])))) 0 0 0:=by unfold jq1;rfl
theorem j27: ∀f s,qdk f=some s→Dw Tryz.prog Z f s:=by
  intro f s h
  unfold qdk at h
  split at h
  · cases h;exact Ce jdu
  · cases h;exact Ce qab
  · cases h;exact Ce jm1
  · cases h;exact Ce jpo
  · cases h
def qio:VC:=
 let t0:T:=.add (.len (.av 0)) (.iv 0)
 let t1:T:=.lit 10
 let t2:T:=.lit 0
 let t3:T:=.lit 4096
 let t4:T:=.splice (.av 1100) (.len (.av 1100)) (.cut (.av 1101) t2 (.iv 1100))
 let t5:T:=.splice (.av 0) (.len (.av 0)) (.cut (.av 1) t2 (.iv 0))
 let t6:T:=.alit [0]
 let t7:T:=.set t6 t2 (.iv 1)
 let t8:T:=.set t6 t2 (.iv 2)
 let t9:T:=.splice (.set t6 t2 (.iv 21)) (.len (.set t6 t2 (.iv 21))) (.set t6 t2 (.iv 22))
 let t10:T:=.fa 500 t2 t2 t2 t2 (.splice t7 (.len t7) (.splice t8 (.len t8) t5)) (.av 3) (.av 5) t9
 let t11:T:=.add (.len (.av 1400)) (.iv 1402)
 let t12:T:=.mul (.lit 1180800) (.iv 1403)
 let t13:T:=.splice (.set t6 t2 (.iv 1400)) (.len (.set t6 t2 (.iv 1400))) (.splice (.set t6 t2 (.iv 1401)) (.len (.set t6 t2 (.iv 1401))) (.splice (.av 1400) (.len (.av 1400)) (.cut (.av 1401) t2 (.iv 1402))))
 let t14:T:=.add (.len (.av 1800)) (.iv 1802)
 let t15:T:=.splice (.set t6 t2 (.iv 1800)) (.len (.set t6 t2 (.iv 1800))) (.splice (.set t6 t2 (.iv 1801)) (.len (.set t6 t2 (.iv 1801))) (.splice (.av 1800) (.len (.av 1800)) (.cut (.av 1801) t2 (.iv 1802))))
 let t16:T:=.splice (.set t6 t2 (.iv 2701)) (.len (.set t6 t2 (.iv 2701))) (.splice (.set t6 t2 (.iv 2702)) (.len (.set t6 t2 (.iv 2702))) (.splice (.av 2700) (.len (.av 2700)) (.cut (.av 2701) t2 (.iv 2700))))
 let t17:T:=.fi 61 t2 t2 t2 t2 (.av 3) (.av 2300) (.alit []) (.alit [])
 let t18:T:=.add (.iv 1803) (.lit 8)
 let t19:T:=.add (.iv 1403) (.lit 8)
 let t20:T:=.splice (.set t6 t2 (.iv 1901)) (.len (.set t6 t2 (.iv 1901))) (.splice (.set t6 t2 (.iv 1902)) (.len (.set t6 t2 (.iv 1902))) (.splice (.av 1900) (.len (.av 1900)) (.cut (.av 1901) t2 (.iv 1900))))
 (.need [(.le (.add t0 t1) (.lit 1000000000000)),(.le t2 t1),(.le t1 t3),(.le t1 t1),(.eq (.len (.alit [255,218,0,8,1,1,0,0,63,0])) t1)] (.any 1000 1 [(.eq (.add (.len (.av 1100)) (.iv 1100)) (.add t0 t1)),(.le t2 (.iv 1100)),(.le (.iv 1100) t3),(.eq (.len (.av 1101)) t3),(.aeq t4 (.splice t5 (.len t5) (.alit [255,218,0,8,1,1,0,0,63,0])))] (.need [(.le t2 t2),(.le t2 (.add (.iv 22) (.lit 7))),(.le (.lit (-1024)) t2),(.le t2 (.lit 1023)),(.eq (.len (.rep (.lit 64) t2)) (.lit 64)),(.le (.add (.len (.av 1100)) (.iv 1100)) (.add t0 (.add t1 (.mul (.lit 1180800) t2)))),(.aeq (.fa 501 t2 t2 t2 t2 (.splice t7 (.len t7) (.splice t8 (.len t8) t4)) (.av 3) (.av 5) t9) t10)] (.any 1400 6 [(.le t2 (.iv 1402)),(.le (.iv 1402) t3),(.eq (.len (.av 1401)) t3),(.le t2 (.iv 1400)),(.le (.iv 1400) (.lit 4294967295)),(.le t2 (.iv 1401)),(.le (.iv 1401) (.lit 7)),(.le t2 (.iv 1403)),(.le (.iv 1403) (.add (.iv 22) (.lit 7))),(.le (.lit (-1024)) (.iv 1404)),(.le (.iv 1404) (.lit 1023)),(.eq (.len (.av 1402)) (.lit 64)),(.le t11 (.add t0 (.add t1 t12))),(.aeq (.fa 501 t2 (.iv 1403) (.iv 1404) t2 t13 (.av 3) (.av 5) t9) t10)] (.cond (.lt (.iv 1403) (.iv 22)) (.need [(.le t2 (.add (.iv 21) (.lit 7))),(.le t11 (.add t0 (.add t1 (.add t12 (.mul (.lit 144) t2)))))] (.any 1800 6 [(.le t2 (.iv 1802)),(.le (.iv 1802) t3),(.eq (.len (.av 1801)) t3),(.le t2 (.iv 1800)),(.le (.iv 1800) (.lit 4294967295)),(.le t2 (.iv 1801)),(.le (.iv 1801) (.lit 7)),(.le t2 (.iv 1803)),(.le (.iv 1803) (.add (.iv 21) (.lit 7))),(.le (.lit (-1024)) (.iv 1804)),(.le (.iv 1804) (.lit 1023)),(.eq (.len (.av 1802)) (.lit 64)),(.le t14 (.add t0 (.add t1 (.add t12 (.mul (.lit 144) (.iv 1803)))))),(.aeq (.fa 501 (.iv 1803) (.iv 1403) (.iv 1804) t2 t15 (.av 3) (.av 5) t9) t10)] (.cond (.lt (.iv 1803) (.iv 21)) (.need [(.le (.iv 1803) (.lit 65535)),(.le (.iv 1403) (.lit 65535))] (.any 2200 8 [(.eq (.len (.av 2300)) (.lit 64)),(.aeq (.av 2300) (.fa 90 (.iv 1803) (.iv 1403) (.iv 21) (.iv 22) (.av 5) (.alit []) (.alit []) (.alit []))),(.fb 2 t2 (.lit 255) t2 t2 (.av 2300) (.alit []) (.alit []) (.alit []))] (.need [(.le (.add t14 (.lit 1152)) (.lit 1000000000000))] (.any 2600 8 [(.le t2 (.iv 2700)),(.le (.iv 2700) t3),(.eq (.len (.av 2701)) t3),(.le t2 (.iv 2701)),(.le (.iv 2701) (.lit 4294967295)),(.le t2 (.iv 2702)),(.le (.iv 2702) (.lit 7)),(.le (.add (.len (.av 2700)) (.iv 2700)) (.add t14 (.lit 1152))),(.aeq t16 (.fa 70 (.iv 1804) t2 t2 t2 t15 (.av 3) (.av 2300) (.alit []))),(.eq (.len (.av 2702)) (.lit 64)),(.le (.lit (-1024)) t17),(.le t17 (.lit 1023))] (.need [(.le (.lit (-9223372036854775808)) t18),(.le t18 (.lit 9223372036854775807))] (.need [(.le t2 t18),(.le t18 (.add (.iv 21) (.lit 7))),(.le (.add (.len (.av 2700)) (.iv 2700)) (.add t0 (.add t1 (.add t12 (.mul (.lit 144) t18))))),(.aeq (.fa 501 t18 (.iv 1403) t17 t2 t16 (.av 3) (.av 5) t9) t10),(.lt t2 (.sub (.add (.iv 21) (.lit 8)) (.iv 1803))),(.lt (.sub (.add (.iv 21) (.lit 8)) t18) (.sub (.add (.iv 21) (.lit 8)) (.iv 1803)))] .done)))))) (.need [(.le (.lit (-9223372036854775808)) t19),(.le t19 (.lit 9223372036854775807))] (.need [(.le t2 t19),(.le t19 (.add (.iv 22) (.lit 7))),(.le t14 (.add t0 (.add t1 (.mul (.lit 1180800) t19)))),(.aeq (.fa 501 t2 t19 (.iv 1804) t2 t15 (.av 3) (.av 5) t9) t10),(.lt t2 (.sub (.add (.iv 22) (.lit 8)) (.iv 1403))),(.lt (.sub (.add (.iv 22) (.lit 8)) t19) (.sub (.add (.iv 22) (.lit 8)) (.iv 1403)))] .done))))) (.need [(.le (.add t11 (.lit 6)) (.lit 1000000000000)),(.le t2 (.lit 127)),(.le (.lit 127) (.lit 65535)),(.le t2 (.lit 7)),(.le (.lit 7) (.lit 16))] (.any 1800 6 [(.le t2 (.iv 1900)),(.le (.iv 1900) t3),(.eq (.len (.av 1901)) t3),(.le t2 (.iv 1901)),(.le (.iv 1901) (.lit 4294967295)),(.le t2 (.iv 1902)),(.le (.iv 1902) (.lit 7)),(.le (.add (.len (.av 1900)) (.iv 1900)) (.add t11 (.lit 6))),(.aeq t20 (.fa 3 (.lit 127) (.lit 7) t2 t2 t13 (.alit []) (.alit []) (.alit [])))] (.need [(.le (.add (.len (.av 1900)) (.iv 1900)) (.add t0 (.lit 100000000000))),(.aeq t20 t10)] .done))))))))
theorem w67:Dd (Db Tryz.prog Jt qdk ⟨qis,Jd⟩ 100000 67 c67) qio=true:=by kernel_rfl
set_option maxRecDepth 20000 in
set_option maxHeartbeats 4000000 in
theorem qba:Cf Tryz.prog Z 67 c67:=by
  refine Bf Cq j27 w67 fun ρ h=> ?_
  simp only[c67,eIn,hE,bE,jd7,hB,bW,bB,Gl,Tt,jbb,jke,jjj,ja2,cA,fA,z0,Du,Bi,Di,List.flatMap_cons,List.flatMap_nil,List.append_nil,List.append_assoc,List.cons_append,List.nil_append,and_true,↓qA,qB,and_true,implies_true,T.I,T.A,T.B,VC.sem] at h
  obtain ⟨h1,h2,h3,h4,h5,h6,h7,h8,h9⟩:=h
  simp only[qio,Fb,↓qA,qB,and_true,implies_true,T.I,T.A,T.B,VC.sem,jyf,qck,fb2]
  clear h1
  (repeat' (first|with_reducible exact True.intro|with_reducible refine And.intro ?_ ?_|intro _))<;>(try omega)
  · rfl
  · simp only[List.length_replicate];rfl
  · have e:= ‹ρ.a 1100++_=_›
    rw[e,j2y]
  · refine Eq.trans ?_ ‹pk (Tl _ _ _ _ (up ([ρ.i 1800]++_)) (ρ.i 1804) (ρ.i 1803) _)=_›
    rw[jm5 (x:=ρ.i 1803) (by omega) (by omega),‹[ρ.i 2701]++_=_›,j17,Lc,j6p,‹ρ.a 2300=_›,Ou]
  · refine Eq.trans ?_ ‹pk (Tl _ _ _ _ (up ([ρ.i 1800]++_)) (ρ.i 1804) (ρ.i 1803) _)=_›
    rw[jfs (x:=ρ.i 1803) (by omega) (by omega)]
  · refine Eq.trans ?_ ‹pk (Tl _ _ _ _ (up ([ρ.i 1400]++_)) (ρ.i 1404) 0 _)=_›
    rw[Zy (by omega),‹[ρ.i 1901]++_=_›,jhh]
theorem jb1: ∀f s,j0k f=some s→Dw Tryz.prog Z f s:=by
  intro f s h
  unfold j0k at h
  split at h
  · cases h;exact Ce jkm
  · cases h;exact Ce jdu
  · cases h;exact Ce jsg
  · cases h;exact Ce qba
  · unfold j64 at h
    cases h
    intro ρ w0 w h args r hr
    simp only at hr
    split at hr
    · rename_i s _ _
      split at hr
      · rename_i hs
        match s,hs with
        | 0,_=>exact Ce jno ρ w0 w h _ r hr
        | 1,_=>exact Ce jxt ρ w0 w h _ r hr
        | 2,_=>exact Ce jyj ρ w0 w h _ r hr
        | 3,_=>exact Ce j03 ρ w0 w h _ r hr
        | n+4,hn=>exact absurd hn (by omega)
      · cases hr
    · cases hr
  · cases h
theorem j8b:Z.fa 46 0 0 0 0 [] [] [] []=uqL:=id rfl
theorem jyq(q:Int):Z.fa 511 q 0 0 0 [] [] [] []=Ci q:=id rfl
theorem qhx(P:List Int):Z.fb 2 1 255 0 0 P [] [] []=Bn 1 255 P:=id rfl
set_option maxRecDepth 20000 in
theorem qb4:uqL.all (fun u=>decide (1≤u)&&decide (u≤255))=true:=by decide+kernel
theorem jqb:(uqL.length:Int)=128:=by rw[show uqL.length=128 by kernel_rfl];rfl
theorem jij{k:Int}(h0:0≤k)(h1:k<128):1≤Bg uqL k∧Bg uqL k≤255:=by
  have hk:k.toNat<uqL.length:=by have:=jqb;omega
  have:=List.all_eq_true.1 qb4 (Bg uqL k) (by
    unfold Bg
    rw[List.getD_eq_getElem?_getD,List.getElem?_eq_getElem hk]
    exact List.getElem_mem hk)
  simp only[Bool.and_eq_true,decide_eq_true_eq] at this
  exact this
theorem jvx{q:Int}(h1:1≤q)(h2:q≤100):0≤Kd q∧Kd q≤5000:=by
  unfold Kd
  split
  · exact ⟨Int.ediv_nonneg (by omega) (by omega),Int.ediv_le_self _ (by omega)⟩
  · omega
theorem jst{q k:Int}(h1:1≤q)(h2:q≤100)(h3:0≤k)(h4:k<128):0≤Bg uqL k*Kd q∧Bg uqL k*Kd q≤1275000:=by
  have a:=jij h3 h4
  have b:=jvx h1 h2
  exact ⟨Int.mul_nonneg (by omega) (by omega),Int.mul_le_mul (c:=255) (d:=5000) (by omega) (by omega) (by omega) (by omega)⟩
theorem jqx{q:Int}{k:Nat}(hk:k<128):(Ci q)[k]? =some (qel q k):=by
  unfold Ci
  rw[List.getElem?_map,List.getElem?_range hk];rfl
theorem j2h(q:Int)(k:Nat):1≤qel q k∧qel q k≤255:=by unfold qel;split<;>(try split)<;>omega
theorem jbm(q:Int):Bn 1 255 (Ci q)=true:=by
  unfold Bn Ci
  rw[List.all_eq_true]
  intro x hx
  obtain ⟨k,_,rfl⟩:=List.mem_map.1 hx
  have:=j2h q k
  simp only[Bool.and_eq_true,decide_eq_true_eq];exact this
theorem Su(q:Int):((Ci q).length:Int)=128:=by simp[Ci]
theorem jkh{x:Int}(h1:0≤x)(h2:x<65536):Dj .and .i64 x 255=x % 256:=by
  obtain ⟨a,rfl⟩:=Int.eq_ofNat_of_zero_le h1
  have ha:a<2^64:=by omega
  have key:((BitVec.ofInt 64 (a:Int)&&&BitVec.ofInt 64 ((255:Nat):Int):BitVec 64)).toNat=a % 256:=by
    rw[BitVec.ofInt_natCast,BitVec.ofInt_natCast,BitVec.toNat_and,BitVec.toNat_ofNat,BitVec.toNat_ofNat,Nat.mod_eq_of_lt ha,Nat.mod_eq_of_lt (by omega:255<2^64)]
    exact Nat.and_two_pow_sub_one_eq_mod a 8
  show IntKind.i64.wrap ((((BitVec.ofInt 64 (a:Int)&&&BitVec.ofInt 64 ((255:Nat):Int):BitVec 64)).toNat:Nat):Int)=_
  rw[key,IntKind.wrap_i64]
  omega
theorem j7w:(Bl 1).drop 1=[0,2,1,3,3,2,4,3,5,5,4,4,0,0,1,125]:=by kernel_rfl
theorem j8s:(Bl 0).drop 1=[0,1,5,1,1,1,1,1,1,0,0,0,0,0,0,0]:=by kernel_rfl
theorem j18:At 0=[0,1,2,3,4,5,6,7,8,9,10,11]:=by kernel_rfl
theorem jy9{b n:Int}{t:List Int}{s:St}(h: [b]++([n]++t)=pk s):t=s.t:=by
  obtain ⟨t',b',n'⟩:=s
  unfold pk at h
  simp only[List.cons_append,List.nil_append,List.cons.injEq] at h
  exact h.2.2
theorem j0c(t:List Int):up ([0]++([0]++t))=⟨t,0,0⟩:=rfl
def u6(t:T):Aw:=.int .u64 t
def c79:Hg where
  args:=[.v (.one (u6 (.iv 0))),.v (.one (u6 (.iv 1)))]
  hp:={rw:=[],nv:=1000}
  pre:=Di (.lit 0) (.iv 0) (.lit 131072)++Di (.lit 0) (.iv 1) (.lit 65535)
  val:=.tup [.one (u6 (.lit 0)),.one (u6 (.mul (.iv 0) (.iv 1)))]
  hp':={rw:=[]}
  post:=[]
  quiet:=true
def c57:Hg where
  args:=[.v (.one (cI (.iv 0))),.v (.one (cI (.iv 1))),.v (.one (cI (.iv 2)))]
  hp:={rw:=[],nv:=1000}
  pre:=Di (.lit 1) (.iv 0) (.lit 2)++Di (.lit 1) (.iv 1) (.lit 65535)++Di (.lit 1) (.iv 2) (.lit 65535)
  val:=.v (.one (cI (.mul (.mul (.iv 0) (.iv 1)) (.iv 2))))
  hp':={rw:=[]}
  post:=[]
  quiet:=true
def jw2:Nat→Option Ec:=fun f=>match f with
  | 79=>some (Gp c79)
  | _=>none
theorem Yr(x:Int):x.fdiv (2^min (Int.toNat 32) IntKind.u64.bits)=x/4294967296:=by
  have e:((2:Int)^min (Int.toNat 32) IntKind.u64.bits)=4294967296:=by decide
  rw[e,Int.fdiv_eq_ediv_of_nonneg _ (by omega)]
theorem jf1{x:Int}(h1:0≤x)(h2:x<4294967296):Dj .and .u64 x 4294967295=x:=by
  obtain ⟨a,rfl⟩:=Int.eq_ofNat_of_zero_le h1
  have ha:a<2^64:=by omega
  have key:((BitVec.ofInt 64 (a:Int)&&&BitVec.ofInt 64 ((4294967295:Nat):Int):BitVec 64)).toNat=a % 4294967296:=by
    rw[BitVec.ofInt_natCast,BitVec.ofInt_natCast,BitVec.toNat_and,BitVec.toNat_ofNat,BitVec.toNat_ofNat,Nat.mod_eq_of_lt ha,Nat.mod_eq_of_lt (by omega:4294967295<2^64)]
    exact Nat.and_two_pow_sub_one_eq_mod a 32
  show IntKind.u64.wrap ((((BitVec.ofInt 64 (a:Int)&&&BitVec.ofInt 64 ((4294967295:Nat):Int):BitVec 64)).toNat:Nat):Int)=_
  rw[key,IntKind.wrap_u64]
  omega
def j1f:VC:=
 let t0:T:=.wrap .u64 (.add (.wrap .u64 (.mul (.shr .u64 (.iv 0) (.lit 32)) (.bits .and .u64 (.iv 1) (.lit 4294967295)))) (.shr .u64 (.wrap .u64 (.mul (.bits .and .u64 (.iv 0) (.lit 4294967295)) (.bits .and .u64 (.iv 1) (.lit 4294967295)))) (.lit 32)))
 (.need [(.eq (.mul (.iv 0) (.iv 1)) (.wrap .u64 (.mul (.iv 0) (.iv 1)))),(.eq (.lit 0) (.wrap .u64 (.add (.wrap .u64 (.add (.wrap .u64 (.mul (.shr .u64 (.iv 0) (.lit 32)) (.shr .u64 (.iv 1) (.lit 32)))) (.shr .u64 t0 (.lit 32)))) (.shr .u64 (.wrap .u64 (.add (.bits .and .u64 t0 (.lit 4294967295)) (.wrap .u64 (.mul (.bits .and .u64 (.iv 0) (.lit 4294967295)) (.shr .u64 (.iv 1) (.lit 32)))))) (.lit 32)))))] .done)
theorem w79:Dd (Db Tryz.prog Jt Jq jt4 100000 79 c79) j1f=true:=by kernel_rfl
theorem jpq:Cf Tryz.prog Z 79 c79:=by
  refine Bf Cq Cn w79 fun ρ h=> ?_
  simp only[c79,Bi,Di,List.flatMap_cons,List.flatMap_nil,List.append_nil,List.append_assoc,List.cons_append,List.nil_append,and_true,↓qA,qB,and_true,implies_true,T.I,T.A,T.B,VC.sem] at h
  obtain ⟨h1,h2,h3,h4⟩:=h
  have hp0:0≤ρ.i 0*ρ.i 1:=Int.mul_nonneg (by omega) (by omega)
  have hp1:ρ.i 0*ρ.i 1≤131072*65535:=Int.mul_le_mul (by omega) (by omega) (by omega) (by omega)
  have e0:ρ.i 0/4294967296=0:=Int.ediv_eq_zero_of_lt (by omega) (by omega)
  have e1:ρ.i 1/4294967296=0:=Int.ediv_eq_zero_of_lt (by omega) (by omega)
  have w0:IntKind.u64.wrap 0=0:=rfl
  have wp:IntKind.u64.wrap (ρ.i 0*ρ.i 1)=ρ.i 0*ρ.i 1:=by rw[IntKind.wrap_u64];omega
  have wq:IntKind.u64.wrap (ρ.i 0*ρ.i 1/4294967296)=ρ.i 0*ρ.i 1/4294967296:=by rw[IntKind.wrap_u64];omega
  have eq:ρ.i 0*ρ.i 1/4294967296/4294967296=0:=by omega
  simp only[j1f,↓qA,qB,and_true,implies_true,T.I,T.A,T.B,VC.sem,Yr,e0,e1,jf1 (x:=ρ.i 0) (by omega) (by omega),jf1 (x:=ρ.i 1) (by omega) (by omega),Int.zero_mul,Int.mul_zero,w0,wp,Int.zero_add,Int.add_zero,wq,jf1 (x:=ρ.i 0*ρ.i 1/4294967296) (by omega) (by omega),eq]
def j0y:VC:=
 let t0:T:=.eq (.mul (.mul (.iv 0) (.iv 1)) (.iv 2)) (.lit (-1))
 let t1:T:=.mul (.wrap .u64 (.iv 0)) (.wrap .u64 (.iv 1))
 let t2:T:=.mul t1 (.wrap .u64 (.iv 2))
 (.cond (.lt (.iv 0) (.lit 0)) (.need [t0] .done) (.cond (.lt (.iv 1) (.lit 0)) (.need [t0] .done) (.cond (.lt (.iv 2) (.lit 0)) (.need [t0] .done) (.need [(.le (.lit 0) (.wrap .u64 (.iv 0))),(.le (.wrap .u64 (.iv 0)) (.lit 131072)),(.le (.lit 0) (.wrap .u64 (.iv 1))),(.le (.wrap .u64 (.iv 1)) (.lit 65535))] (.need [(.le (.lit 0) t1),(.le t1 (.lit 131072)),(.le (.lit 0) (.wrap .u64 (.iv 2))),(.le (.wrap .u64 (.iv 2)) (.lit 65535))] (.need [(.le (.lit (-9223372036854775808)) t2),(.le t2 (.lit 9223372036854775807))] (.cond (.lt t2 (.lit 0)) (.need [t0] .done) (.cond (.not (.eq (.wrap .u64 t2) t2)) (.need [t0] .done) (.need [(.eq (.mul (.mul (.iv 0) (.iv 1)) (.iv 2)) t2)] .done)))))))))
theorem w57:Dd (Db Tryz.prog jw2 Jq jt4 100000 57 c57) j0y=true:=by kernel_rfl
theorem jk4: ∀f s,jw2 f=some s→Ei Tryz.prog Z f s:=by
  intro f s h
  unfold jw2 at h
  split at h
  · cases h;exact Dq jpq
  · cases h
theorem jq7:Cf Tryz.prog Z 57 c57:=by
  refine Bf jk4 Cn w57 fun ρ h=> ?_
  simp only[c57,Bi,Di,List.flatMap_cons,List.flatMap_nil,List.append_nil,List.append_assoc,List.cons_append,List.nil_append,and_true,↓qA,qB,and_true,implies_true,T.I,T.A,T.B,VC.sem] at h
  obtain ⟨h1,h2,h3,h4,h5,h6⟩:=h
  have hp0:1≤ρ.i 0*ρ.i 1:=Int.le_trans (by omega) (Int.mul_le_mul (a:=1) (b:=1) h1 h3 (by omega) (by omega))
  have hp1:ρ.i 0*ρ.i 1≤2*65535:=Int.mul_le_mul (by omega) (by omega) (by omega) (by omega)
  have hq0:0≤ρ.i 0*ρ.i 1*ρ.i 2:=Int.mul_nonneg (by omega) (by omega)
  have hq1:ρ.i 0*ρ.i 1*ρ.i 2≤131070*65535:=Int.mul_le_mul (by omega) (by omega) (by omega) (by omega)
  have u0:IntKind.u64.wrap (ρ.i 0)=ρ.i 0:=by rw[IntKind.wrap_u64];omega
  have u1:IntKind.u64.wrap (ρ.i 1)=ρ.i 1:=by rw[IntKind.wrap_u64];omega
  have u2:IntKind.u64.wrap (ρ.i 2)=ρ.i 2:=by rw[IntKind.wrap_u64];omega
  have u3:IntKind.u64.wrap (ρ.i 0*ρ.i 1*ρ.i 2)=ρ.i 0*ρ.i 1*ρ.i 2:=by rw[IntKind.wrap_u64];omega
  simp only[j0y,↓qA,qB,and_true,implies_true,T.I,T.A,T.B,VC.sem,u0,u1,u2,u3]
  (repeat' (first|with_reducible exact True.intro|with_reducible refine And.intro ?_ ?_|intro _))<;>(try omega)
  exact absurd True.intro ‹¬True›
theorem jtm(x:Int):Z.fa 412 x 0 0 0 [] [] [] []=Te x:=id rfl
theorem ju8(x:Int):Z.fa 437 x 0 0 0 [] [] [] []=Cr x:=id rfl
theorem Ma{x:Int}(h:0≤x):(x+8-1).tdiv 8=(x+7)/8:=by rw[Int.tdiv_eq_ediv_of_nonneg (by omega)];omega
theorem jfm{h:Nat}(hh:h<4){D:List Int}{d:Int}(n:Nat): ∀{k a u:Int} {bl:List Int},(64-k).toNat≤n→0≤a→0≤u→u≤7→Ge (Bl h) (At h) D k a u=true→
    0≤e0 (Ef (Bl h) (At h) D d k a u bl)∧0≤e1 (Ef (Bl h) (At h) D d k a u bl)∧e1 (Ef (Bl h) (At h) D d k a u bl)≤7∧((Ef (Bl h) (At h) D d k a u bl).drop 2).length=bl.length:=by
  induction n with
  | zero=>
    intro k a u bl hn h1 h2 h3 ho
    rw[jbx (by omega)]
    exact ⟨h1,h2,h3,rfl⟩
  | succ n ih=>
    intro k a u bl hn h1 h2 h3 ho
    by_cases hk:k≤63
    · obtain ⟨f1,f2,f3,f4,f5,f6,f7,f8,f9⟩:=jz0 hh h1 h2 h3 hk ho
      by_cases hz:e0 (Bm (Bl h) (At h) D a u) % 16=0
      · rcases f8 hz with hr|⟨hr,q2,q3⟩
        · rw[jeq hk hz hr];exact ⟨f4,f5,f6,rfl⟩
        · rw[jev hk hz (by omega)];exact ih (by omega) f4 f5 f6 q3
      · obtain ⟨m1,m2,m3,m4,m5,m6⟩:=f9 hz
        rw[jf0 hk hz (by omega)]
        have:=ih (bl:=bl.set (d+(k+e0 (Bm (Bl h) (At h) D a u)/16)).toNat (sgn (e0 (Bm (Bl h) (At h) D a u) % 16) (e0 (Ez D (e0 (Bm (Bl h) (At h) D a u) % 16).toNat 0 (e1 (Bm (Bl h) (At h) D a u)) (e2 (Bm (Bl h) (At h) D a u)))))) (by omega) m4 m5 m6 m3
        rw[List.length_set] at this
        exact this
    · rw[jbx hk];exact ⟨h1,h2,h3,rfl⟩
theorem jzh{m X:Int}(h0:0≤m)(hX:1≤X):m.tdiv X*X+m.tmod X=m∧0≤m.tdiv X∧m.tdiv X≤m∧0≤m.tdiv X*X∧0≤m.tmod X∧m.tmod X<X:=by
  rw[Int.tdiv_eq_ediv_of_nonneg h0,Int.tmod_eq_emod_of_nonneg h0]
  have h1:=Int.mul_ediv_add_emod m X
  have h2:=Int.ediv_nonneg h0 (show 0≤X by omega)
  have h3:=Int.emod_nonneg m (show X≠0 by omega)
  have h4:=Int.emod_lt_of_pos m (show 0<X by omega)
  have h5:=Int.mul_nonneg h2 (show 0≤X by omega)
  have h6:=Int.ediv_le_self X h0
  rw[Int.mul_comm X] at h1
  exact ⟨h1,h2,h6,h5,h3,h4⟩
theorem ja4{f:FuncId}{l:List (Int×Hg)}{d:Hg}(hl: ∀x∈l,Cf Tryz.prog Z f x.2)(hd:Cf Tryz.prog Z f d):Ei Tryz.prog Z f (jim l d):=by
  intro ρ w0 w h args r hs
  unfold jim at hs
  split at hs
  · split at hs
    · split at hs
      · rename_i x hx
        exact Dq (hl x (List.mem_of_find?_eq_some hx)) ρ w0 w h args r hs
      · exact Dq hd ρ w0 w h args r hs
    · exact Dq hd ρ w0 w h args r hs
  · exact Dq hd ρ w0 w h args r hs
theorem Dl{D:List Int}{s n:Nat}{i:Int}(h0:0≤i)(h1:i<n):Bg ((D.drop s).take n) i=Bg D (s+i):=by
  unfold Bg
  rw[List.getD_eq_getElem?_getD,List.getElem?_take,if_pos (by omega),List.getElem?_drop,List.getD_eq_getElem?_getD]
  congr 2;omega
theorem Dm{D l:List Int}{s n:Nat}(h:Cs D s n=l){i:Int}(h0:0≤i)(h1:i<n):Bg D (s+i)=Bg l i:=by
  rw[←h];exact (Dl h0 h1).symm
theorem jss{l m:List Int}(hl:l.length=m.length)(h: ∀i:Nat,i<l.length→Bg l i=Bg m i):l=m:=by
  apply List.ext_getElem hl
  intro i h1 h2
  have:=h i h1
  unfold Bg at this
  rw[List.getD_eq_getElem?_getD,List.getD_eq_getElem?_getD,Int.toNat_natCast,List.getElem?_eq_getElem h1,List.getElem?_eq_getElem h2] at this
  exact this
theorem j0l{l:List Int}{m:Nat}{x n:Int}(hm:m<l.length)(h0:0≤n):Bg (l.set m x) n=if n=m then x else Bg l n:=by
  unfold Bg
  rw[List.getD_eq_getElem?_getD,List.getElem?_set,List.getD_eq_getElem?_getD]
  by_cases h:n=m
  · rw[if_pos h,if_pos (by omega),if_pos (by omega)];rfl
  · rw[if_neg h,if_neg (by omega)]
theorem Mn{j:Nat}{b:List Int}: ∀(k:Nat) {q:List Int} {i:Int},0≤i→64*j+k≤q.length→Bg (Lw j b k q) i=if 64*j≤i∧i<64*j+k then Bg b (65*j+1+(i-64*j)) else Bg q i
  | 0,q,i,h0,_=>by rw[if_neg (by omega)];rfl
  | k+1,q,i,h0,hl=>by
    rw[Lw,j0l (by rw[Kt];omega) h0,Mn k h0 (by omega)]
    by_cases hi:i=(64*j+k:Nat)
    · rw[if_pos hi,if_pos (by omega)];congr 1;omega
    · rw[if_neg hi]
      by_cases h2:64*j≤i∧i<64*j+k
      · rw[if_pos h2,if_pos (by omega)]
      · rw[if_neg h2,if_neg (by omega)]
theorem jc9{D:List Int}{q:List Int}(hq:q.length=256)(hD:136≤D.length):(Lw 1 ((D.drop 6).take 130) 64 (Lw 0 ((D.drop 6).take 130) 64 q)).take 64=Cs D 7 64:=by
  apply jss
  · simp[Kt,Cs];omega
  · intro i hi
    have hi64:i<64:=by simp at hi;omega
    have e1: ∀l:List Int,Bg (l.take 64) (i:Int)=Bg l (i:Int):=by
      intro l
      have:=Dl (D:=l) (s:=0) (n:=64) (i:=(i:Int)) (by omega) (by omega)
      rw[List.drop_zero] at this
      rw[this];congr 1;omega
    rw[e1,Mn 64 (by omega) (by rw[Kt];omega),if_neg (by omega),Mn 64 (by omega) (by omega),if_pos (by omega),Dl (by omega) (by omega)]
    unfold Cs
    rw[Dl (by omega) (by omega)]
    congr 1;omega
theorem Lv{lo hi:Int}{l:List Int}(h:Bn lo hi l=true)(s n:Nat):Bn lo hi ((l.drop s).take n)=true:=by
  unfold Bn at*
  rw[List.all_eq_true] at*
  exact fun x hx=>h x (List.mem_of_mem_drop (List.mem_of_mem_take hx))
theorem Zv{lo hi lo2:Int}{l:List Int}(h:Bn lo hi l=true)(h2:(l.all fun x=>decide (lo2≤x))=true):Bn lo2 hi l=true:=by
  unfold Bn at*
  rw[List.all_eq_true] at*
  intro x hx
  have a:=h x hx
  have b:=h2 x hx
  simp only[Bool.and_eq_true,decide_eq_true_eq] at*
  exact ⟨b,a.2⟩
theorem jnh(D:List Int):Z.fi 431 0 0 0 0 D [] [] []=wdD D:=id rfl
theorem jmj(D:List Int):Z.fi 432 0 0 0 0 D [] [] []=hgD D:=id rfl
theorem jhe(D:List Int):Z.fa 434 0 0 0 0 D [] [] []=Cs D 7 64:=id rfl
theorem jkr{D:List Int}: ∀(n:Nat) {a u:Int},0≤a→0≤Mp D n a u
  | 0,_,_,h=>h
  | n+1,_,_,h=>jkr n (Kz h)
theorem jdd{D:List Int}{r s m n:Nat}(h:s+n≤m):List.take n (List.drop s (List.take m (List.drop r D)))=Cs D (r+s) n:=by
  unfold Cs
  rw[List.drop_take,List.take_take,List.drop_drop,Nat.min_eq_left (by omega)]
theorem Vw{n:Int}(h:0≤n):((Cr n).length:Int)=64*n:=by simp[Cr];omega
theorem hS4:Cb (List.replicate 64 (0:Int)) ((64:Nat):Int).toNat (Cb (List.replicate 64 0) ((64:Nat):Int).toNat (Cb (List.replicate 64 0) ((64:Nat):Int).toNat (List.replicate 64 0)))=List.replicate 256 0:=by decide+kernel
theorem hS3:Cb (List.replicate 64 (0:Int)) ((64:Nat):Int).toNat (Cb (List.replicate 64 0) ((64:Nat):Int).toNat (List.replicate 64 0))=List.replicate 192 0:=by decide+kernel
theorem hql:(List.replicate 64 (0:Int)++(List.replicate 64 0++(List.replicate 64 0++List.replicate 64 0))).length=256:=by rw[List.length_append,List.length_append,List.length_append,List.length_replicate]
def qai(v:Int):List Int:=Gi ((if v<0 then v-1 else v) % 2^(Gb v).toNat) (Gb v).toNat
def hrB(h:Nat)(run v:Int):List Int:=jhm h (run*16+Gb v)++qai v
def zrB(q:Nat)(run:Int):List Int:=if 15<run then jhm (2*q+1) 240++zrB q (run-16) else []
termination_by run.toNat
decreasing_by omega
def acB(q:Nat):List Int→Int→List Int
  | [],run=>if 0<run then jhm (2*q+1) 0 else []
  | c::l,run=>if c=0 then acB q l (run+1) else zrB q run++(hrB (2*q+1) (run % 16) c++acB q l 0)
def Eu(q:Nat)(quant d:List Int)(z n:Nat):List Int:=(List.range' z n).map fun (k:Nat)=>coef q quant d (k:Int)
def To(q:Nat)(quant d:List Int)(prev:Int):List Int:=hrB (2*q) 0 (coef q quant d 0-prev)++acB q (Eu q quant d 1 63) 0
theorem Yn{v:Int}(h:Fe v≤2047):Gb v=((Gb v).toNat:Int)∧(Gb v).toNat≤11∧Fe v<2^(Gb v).toNat∧(v≠0→2^(Gb v).toNat≤2*Fe v)∧(v≠0→1≤Gb v):=by
  obtain ⟨k1,k2,k3,k4,k5⟩:=Mf h
  refine ⟨by omega,by omega,k4,k5,fun hv=> ?_⟩
  rcases (show Gb v=0∨1≤Gb v by omega) with hz|hz
  · have:=k4
    rw[hz] at this
    have h0:Fe v<1:=this
    unfold Fe at h0;split at h0<;>omega
  · exact hz
theorem jni{H:List Int}{s:St}{L:List Int}{h:Nat}{run v:Int}(hr:Rep H s L)(hf:jn6 h (run*16+Gb v))(hv:Fe v≤2047):Rep H (Pu h s run v) (L++hrB h run v):=by
  obtain ⟨k1,k2,k3,k4,k5⟩:=Yn hv
  have h1:=jg1 hf hr
  unfold hrB Pu
  simp only
  by_cases hz:0<Gb v
  · rw[if_pos hz,←List.append_assoc]
    have hp:=Gv (Gb v).toNat
    have h2:=Rk h1 (x:=(if v<0 then v-1 else v) % 2^(Gb v).toNat) (k:=(Gb v).toNat) (Int.emod_nonneg _ (Int.ne_of_gt hp)) (Int.emod_lt_of_pos _ hp) (by omega)
    rw[←k1] at h2
    exact h2
  · rw[if_neg hz]
    have e:qai v=[]:=by unfold qai;rw[show (Gb v).toNat=0 from by omega];rfl
    rw[e,List.append_nil]
    exact h1
theorem j5k{H:List Int}{q:Nat}(hq:q<2)(n:Nat): ∀{s:St} {L:List Int} {run:Int},run.toNat≤n→Rep H s L→Rep H (jbp q s run) (L++zrB q run):=by
  induction n with
  | zero=>
    intro s L run hn hr
    rw[jaz (by omega),zrB,if_neg (by omega),List.append_nil];exact hr
  | succ n ih=>
    intro s L run hn hr
    by_cases h:15<run
    · rw[jbh h,zrB,if_pos h,←List.append_assoc]
      exact ih (by omega) (jg1 (jnj hq) hr)
    · rw[jaz h,zrB,if_neg h,List.append_nil];exact hr
theorem jpf{H:List Int}{q:Nat}(hq:q<2){quant d:List Int}(hb: ∀k:Nat,k<64→k≠0→Fe (coef q quant d (k:Int))≤1023): ∀(n:Nat) {s:St} {L:List Int} {run:Int},n≤63→0≤run→Rep H s L→
    Rep H (acF q quant d s ((64-n:Nat):Int) run) (L++acB q (Eu q quant d (64-n) n) run)
  | 0,s,L,run,_,hrun,hr=>by
    by_cases h:0<run
    · rw[jlj (by omega) h]
      simp only[Eu,List.range'_zero,List.map_nil,acB,if_pos h]
      exact jg1 (jmw hq) hr
    · rw[jks (by omega) h]
      simp only[Eu,List.range'_zero,List.map_nil,acB,if_neg h,List.append_nil]
      exact hr
  | n+1,s,L,run,hn,hrun,hr=>by
    have e:Eu q quant d (64-(n+1)) (n+1)=coef q quant d ((64-(n+1):Nat):Int)::Eu q quant d (64-n) n:=by
      unfold Eu
      rw[List.range'_succ,List.map_cons,show 64-(n+1)+1=64-n from by omega]
    have en:((64-(n+1):Nat):Int)+1=((64-n:Nat):Int):=by omega
    rw[e]
    simp only[acB]
    by_cases hc:coef q quant d ((64-(n+1):Nat):Int)=0
    · rw[jg3 (by omega) hc,if_pos hc,en]
      exact jpf hq hb n (by omega) (by omega) hr
    · have hbk:=hb (64-(n+1)) (by omega) (by omega)
      obtain ⟨k1,k2,k3,k4,k5⟩:=Yn (v:=coef q quant d ((64-(n+1):Nat):Int)) (by omega)
      have k6:=(Mf (v:=coef q quant d ((64-(n+1):Nat):Int)) (by omega)).2.2.1 hbk
      have k7:=k5 hc
      rw[jft (by omega) hc,if_neg hc,en,←List.append_assoc,←List.append_assoc]
      refine jpf hq hb n (by omega) (by omega) ?_
      refine jni (j5k hq _ (Nat.le_refl _) hr) (jsi hq (by omega) (by omega) k7 k6) (by omega)
theorem jtr{H:List Int}{q:Nat}(hq:q<2){quant blk:List Int}(hb: ∀k:Nat,k<64→k≠0→Fe (coef q quant (Dc blk) (k:Int))≤1023){s:St}{L:List Int}{prev:Int}(h0:Fe (coef q quant (Dc blk) 0-prev)≤2047)(hr:Rep H s L):
    Rep H (Ub q quant blk s prev) (L++To q quant (Dc blk) prev):=by
  obtain ⟨k1,k2,k3,k4,k5⟩:=Yn h0
  unfold Ub To
  rw[←List.append_assoc]
  have:=jpf hq hb 63 (run:=0) (by omega) (by omega) (jni (h:=2*q) (run:=0) (v:=coef q quant (Dc blk) 0-prev) hr (by rw[Int.zero_mul,Int.zero_add];exact jku hq (by omega) (by omega)) h0)
  exact this
theorem j69{v:Int}(h:Fe v≤2047):sgn (Gb v) ((if v<0 then v-1 else v) % 2^(Gb v).toNat % 2^(Gb v).toNat)=v:=by
  obtain ⟨k1,k2,k3,k4,k5⟩:=Yn h
  rw[Int.emod_emod]
  by_cases hz:v=0
  · subst hz;decide
  · have k4:=k4 hz
    have k5:=k5 hz
    have e:(Gb v).toNat=(Gb v-1).toNat+1:=by omega
    have ep:(2:Int)^(Gb v).toNat=2*2^(Gb v-1).toNat:=by rw[e,Int.pow_succ,Int.mul_comm]
    unfold sgn
    rw[ep] at k3 k4⊢
    have hp:=Gv (Gb v-1).toNat
    generalize (2:Int)^(Gb v-1).toNat=p at k3 k4 hp⊢
    unfold Fe at k3 k4
    by_cases hn:v<0
    · rw[if_pos hn] at k3 k4⊢
      have em:(v-1) % (2*p)=2*p+(v-1):=by
        rw[←Int.add_emod_right (v-1) (2*p),Int.add_comm]
        exact Int.emod_eq_of_lt (by omega) (by omega)
      rw[em,if_pos (by omega)];omega
    · rw[if_neg hn] at k3 k4⊢
      rw[Int.emod_eq_of_lt (by omega) (by omega),if_neg (by omega)]
theorem jz2{D T:List Int}{h:Nat}{run v at_ us:Int}{R:List Int}(hf:jn6 h (run*16+Gb v))(hv:Fe v≤2047)(hr:Rd D T at_ us (hrB h run v++R)):
    Gz (Bl h) (At h) D at_ us=true∧ ∃a1 u1,Bm (Bl h) (At h) D at_ us=[run*16+Gb v,a1,u1]∧
      Ng D (Gb v).toNat a1 u1=true∧ ∃x a2 u2,Ez D (Gb v).toNat 0 a1 u1=[x,a2,u2]∧sgn (Gb v) x=v∧Rd D T a2 u2 R:=by
  unfold hrB at hr
  rw[List.append_assoc] at hr
  obtain ⟨h1,a1,u1,h2,h3⟩:=jla hf hr
  obtain ⟨g1,a2,u2,g2,g3⟩:=jwa (v:=0) h3
  refine ⟨h1,a1,u1,h2,g1,_,a2,u2,g2,?_,g3⟩
  rw[Int.zero_mul,Int.zero_add]
  exact j69 hv
def plc(bl:List Int)(p:Int):List Int→List Int
  | []=>bl
  | c::l=>plc (if c=0 then bl else bl.set p.toNat c) (p+1) l
theorem jf9: ∀{cs A G:List Int},plc (A++(List.replicate cs.length 0++G)) (A.length:Int) cs=A++(cs++G)
  | [],A,G=>rfl
  | c::l,A,G=>by
    have ih:=jf9 (cs:=l) (A:=A++ [c]) (G:=G)
    simp only[plc,List.length_cons,List.replicate_succ,List.cons_append]
    have e:(if c=0 then A++0::(List.replicate l.length 0++G) else (A++0::(List.replicate l.length 0++G)).set (A.length:Int).toNat c)=(A++ [c])++(List.replicate l.length 0++G):=by
      by_cases hc:c=0
      · rw[if_pos hc,hc];simp
      · rw[if_neg hc];simp[List.set_append]
    rw[e,show ((A.length:Int)+1)=((A++ [c]).length:Int) from by simp,ih];simp
section
variable {D T:List Int} {q:Nat}
theorem qal(hq:q<2)(n:Nat): ∀{run k at_ us:Int} {X:List Int},run.toNat≤n→0≤run→k+run≤63→Rd D T at_ us (zrB q run++X)→
    ∃k1 a1 u1,k1+run % 16=k+run∧k≤k1∧Rd D T a1 u1 X∧(∀d bl,Ef (Bl (2*q+1)) (At (2*q+1)) D d k at_ us bl=Ef (Bl (2*q+1)) (At (2*q+1)) D d k1 a1 u1 bl)∧
      (Ge (Bl (2*q+1)) (At (2*q+1)) D k1 a1 u1=true→Ge (Bl (2*q+1)) (At (2*q+1)) D k at_ us=true):=by
  induction n with
  | zero=>
    intro run k at_ us X hn h0 hk hr
    rw[zrB,if_neg (by omega),List.nil_append] at hr
    exact ⟨k,at_,us,by omega,by omega,hr,fun _ _=>rfl,id⟩
  | succ n ih=>
    intro run k at_ us X hn h0 hk hr
    by_cases h:15<run
    · rw[zrB,if_pos h,List.append_assoc] at hr
      obtain ⟨g1,a1,u1,g2,g3⟩:=jla (jnj hq) hr
      obtain ⟨k1,a2,u2,f1,f2,f3,f4,f5⟩:=ih (run:=run-16) (k:=k+16) (by omega) (by omega) (by omega) g3
      refine ⟨k1,a2,u2,by omega,by omega,f3,fun d bl=> ?_,fun ho=> ?_⟩
      · rw[←f4 d bl,Ef,if_pos (by omega),if_pos (show Hi _ _ D at_ us=0 by unfold Hi;rw[g2];rfl),if_neg (show ¬Kk _ _ D at_ us=0 by unfold Kk;rw[g2];show ¬(240:Int)/16=0;decide)]
        unfold sAt sUs;rw[g2];rfl
      · rw[Ge,if_pos (by omega),if_pos (show Hi _ _ D at_ us=0 by unfold Hi;rw[g2];rfl),if_neg (show ¬Kk _ _ D at_ us=0 by unfold Kk;rw[g2];show ¬(240:Int)/16=0;decide)]
        simp only[Bool.and_eq_true,decide_eq_true_eq]
        refine ⟨g1,by unfold Kk;rw[g2];rfl,by omega,?_⟩
        unfold sAt sUs;rw[g2]
        exact f5 ho
    · rw[zrB,if_neg h,List.nil_append] at hr
      exact ⟨k,at_,us,by omega,by omega,hr,fun _ _=>rfl,id⟩
theorem jsa(hq:q<2){R:List Int}: ∀{cs:List Int} {run k at_ us:Int},(∀c∈cs,Fe c≤1023)→0≤run→1≤k→k+run+cs.length=64→Rd D T at_ us (acB q cs run++R)→
    Ge (Bl (2*q+1)) (At (2*q+1)) D k at_ us=true∧ ∃a1 u1,(∀d bl,Ef (Bl (2*q+1)) (At (2*q+1)) D d k at_ us bl=a1::u1::plc bl (d+(k+run)) cs)∧Rd D T a1 u1 R
  | [],run,k,at_,us,_,h0,h1,hk,hr=>by
    simp only[List.length_nil] at hk
    simp only[acB] at hr
    by_cases h:0<run
    · rw[if_pos h] at hr
      obtain ⟨g1,a1,u1,g2,g3⟩:=jla (jmw hq) hr
      refine ⟨?_,a1,u1,fun d bl=> ?_,g3⟩
      · rw[Ge,if_pos (by omega),if_pos (show Hi _ _ D at_ us=0 by unfold Hi;rw[g2];rfl),if_pos (show Kk _ _ D at_ us=0 by unfold Kk;rw[g2];rfl),g1];rfl
      · rw[Ef,if_pos (by omega),if_pos (show Hi _ _ D at_ us=0 by unfold Hi;rw[g2];rfl),if_pos (show Kk _ _ D at_ us=0 by unfold Kk;rw[g2];rfl)]
        unfold sAt sUs;rw[g2];rfl
    · rw[if_neg h,List.nil_append] at hr
      refine ⟨?_,at_,us,fun d bl=> ?_,hr⟩
      · rw[Ge,if_neg (by omega)]
      · rw[Ef,if_neg (by omega)];rfl
  | c::l,run,k,at_,us,hc,h0,h1,hk,hr=>by
    simp only[List.length_cons] at hk
    simp only[acB] at hr
    have hl: ∀x∈l,Fe x≤1023:=fun x hx=>hc x (List.mem_cons_of_mem _ hx)
    by_cases hz:c=0
    · rw[if_pos hz] at hr
      obtain ⟨g1,a1,u1,g2,g3⟩:=jsa hq hl (run:=run+1) (by omega) h1 (by omega) hr
      refine ⟨g1,a1,u1,fun d bl=> ?_,g3⟩
      rw[g2]
      simp only[plc,if_pos hz]
      rw[show d+(k+(run+1))=d+(k+run)+1 from by omega]
    · rw[if_neg hz,List.append_assoc,List.append_assoc] at hr
      obtain ⟨k1,a1,u1,f1,f2,f3,f4,f5⟩:=qal hq _ (Nat.le_refl _) h0 (show k+run≤63 by omega) hr
      have hcb:=hc c (List.mem_cons_self ..)
      obtain ⟨p1,p2,p3,p4,p5⟩:=Yn (v:=c) (by omega)
      have p6:=(Mf (v:=c) (by omega)).2.2.1 hcb
      have p7:=p5 hz
      obtain ⟨s1,a2,u2,s2,s3,x,a3,u3,s4,s5,s6⟩:=jz2 (jsi hq (by omega) (by omega) p7 p6) (by omega) f3
      obtain ⟨g1,a4,u4,g2,g3⟩:=jsa hq hl (run:=0) (k:=k1+run % 16+1) (by omega) (by omega) (by omega) s6
      have hsz:Hi (Bl (2*q+1)) (At (2*q+1)) D a1 u1=Gb c:=by unfold Hi;rw[s2];show (run % 16*16+Gb c) % 16=_;omega
      have hrn:Kk (Bl (2*q+1)) (At (2*q+1)) D a1 u1=run % 16:=by unfold Kk;rw[s2];show (run % 16*16+Gb c)/16=_;omega
      have hat:sAt (Bl (2*q+1)) (At (2*q+1)) D a1 u1=a2:=by unfold sAt;rw[s2];rfl
      have hus:sUs (Bl (2*q+1)) (At (2*q+1)) D a1 u1=u2:=by unfold sUs;rw[s2];rfl
      have hnm:jqj (Bl (2*q+1)) (At (2*q+1)) D a1 u1=[x,a3,u3]:=by unfold jqj;rw[hsz,hat,hus,s4]
      refine ⟨f5 ?_,a4,u4,fun d bl=> ?_,g3⟩
      · rw[Ge,if_pos (by omega),hsz,hrn,hat,hus,hnm,if_neg (by omega),if_pos (by omega)]
        simp only[Bool.and_eq_true,decide_eq_true_eq]
        exact ⟨s1,by omega,s3,g1⟩
      · rw[f4 d bl,Ef,if_pos (by omega),hsz,hrn,hnm,if_neg (by omega),if_pos (by omega)]
        show Ef _ _ D d (k1+run % 16+1) a3 u3 (bl.set _ (sgn (Gb c) x))=_
        rw[s5,g2]
        simp only[plc,if_neg hz]
        rw[show d+(k1+run % 16+1+0)=d+(k+run)+1 from by omega,show d+(k1+run % 16)=d+(k+run) from by omega]
end
section
variable (w h:Int) (pix quant:List Int)
end
section
variable {w h:Int} {pix quant:List Int}
theorem Wh{v n:Int}(h0: -n≤v)(h1:v≤n):Fe v≤n:=by unfold Fe;split<;>omega
theorem js0:Gi 127 7=List.replicate 7 1:=by decide
theorem Jf(q:Nat)(d:List Int)(z n:Nat):(Eu q quant d z n).length=n:=by simp[Eu]
theorem Ph(q:Nat)(d:List Int)(z n:Nat):Eu q quant d z (n+1)=coef q quant d (z:Int)::Eu q quant d (z+1) n:=by
  unfold Eu;rw[List.range'_succ,List.map_cons]
variable {D T:List Int}
theorem j81: ∀(j:Nat) {a u:Int},Rd D T a u (List.replicate j 1)→Mr u=j→Uw D j a u=true∧Rd D T (Mp D j a u) 0 []
  | 0,a,u,hr,hj=>by
    obtain ⟨n,B,h1,h2,h3,h4,h5,h6,h7⟩:=hr
    have hu:u=0:=by
      unfold Mr at hj
      split at hj
      · assumption
      · omega
    subst hu
    exact ⟨rfl,n,B,h1,h2,h3,h4,h5,h6,h7⟩
  | j+1,a,u,hr,hj=>by
    obtain ⟨n,B,h1,h2,h3,h4,h5,h6,h7⟩:=hr
    have hu: ¬u=0:=by
      intro hu
      subst hu
      simp[Mr] at hj
    have hr:Rd D T a u (1::List.replicate j 1):=⟨n,B,h1,h2,h3,h4,h5,h6,h7⟩
    obtain ⟨g1,g2,g3⟩:=jpn hr
    have hs:Mr u=Mr (Rj u)+1:=by
      unfold Mr Rj
      rw[if_neg hu]
      by_cases h8:u+1=8
      · rw[if_pos h8,if_pos rfl];omega
      · rw[if_neg h8,if_neg (by omega)];omega
    obtain ⟨k1,k2⟩:=j81 j g3 (by omega)
    refine ⟨?_,k2⟩
    simp only[Uw,g1,g2,k1];rfl
theorem jrw{j:Nat}(hj:j<8){a u:Int}(hr:Rd D T a u (List.replicate j 1)):Uw D (Mr u) a u=true∧Rd D T (Mp D (Mr u) a u) 0 []:=by
  have hn:Mr u=j:=by
    obtain ⟨n,B,h1,h2,h3,h4,h5,h6,h7⟩:=hr
    have hl:=congrArg List.length h7
    rw[List.length_replicate,List.length_drop] at hl
    have hB:(Mz B).length=8*B.length:=by
      clear h2 h3 h6 h7 hl
      induction B with
      | nil=>rfl
      | cons c B ih=>rw[Qo,List.length_append,ih,Wb,List.length_cons];omega
    rw[hB] at hl
    unfold Mr
    by_cases hu:u=0
    · rw[if_pos hu]
      cases B with
      | nil=>simp at hl;omega
      | cons c B=>rw[List.length_cons] at hl;omega
    · rw[if_neg hu]
      cases B with
      | nil=>exact absurd (h6 rfl) hu
      | cons c B=>
        cases B with
        | nil=>simp at hl;omega
        | cons d B=>simp only[List.length_cons] at hl;omega
  have:=j81 j hr hn
  rw[hn];exact this
theorem j0s{a:Int}(hr:Rd D T a 0 []):0≤a∧D.drop a.toNat=T:=by
  obtain ⟨n,B,h1,h2,h3,h4,h5,h6,h7⟩:=hr
  cases B with
  | nil=>rw[h1];exact ⟨by omega,h2⟩
  | cons c B=>
    have:=congrArg List.length h7
    rw[Qo,Int.toNat_zero,List.drop_zero,List.length_append,Wb,List.length_nil] at this
    omega
end
section
variable (w h:Int) (pix quant:List Int)
end
section
variable {w h:Int} {pix quant:List Int}
end
def jcv:List Int:=[255,216,255,219,0,132,0]
theorem Hs(q:Int):(Cs (Ci q) 0 64).length=64∧(Cs (Ci q) 64 64).length=64:=by
  have:(Ci q).length=128:=by simp[Ci]
  unfold Cs
  rw[List.length_take,List.length_take,List.length_drop,List.length_drop,this]
  omega
theorem jhf{X L P:List Int}{k:Nat}(h:X++P=L++List.replicate k (1:Int))(hp:P.length≤k):X=L++List.replicate (k-P.length) 1:=by
  have e:List.replicate k (1:Int)=List.replicate (k-P.length) 1++List.replicate P.length 1:=by rw[List.replicate_append_replicate];congr 1;omega
  rw[e,←List.append_assoc] at h
  exact (List.append_inj' h (by simp)).1
theorem Gk{α:Type}{D A R:List α}{n m:Nat}(h:D.drop n=A++R)(hm:n+A.length=m):D.drop m=R:=by
  subst hm
  rw[←List.drop_drop,h,List.drop_left]
theorem Qf{D A R:List Int}{n k:Nat}(h:D.drop n=A++R)(hk:A.length=k):Cs D n k=A:=by
  subst hk
  unfold Cs
  rw[h,List.take_left]
theorem Rf{D R:List Int}{n k:Nat}(h:D.drop n=R):Bg D ((n+k:Nat):Int)=Bg R (k:Int):=by
  subst h
  unfold Bg
  rw[Int.toNat_natCast,Int.toNat_natCast,List.getD_eq_getElem?_getD,List.getD_eq_getElem?_getD,List.getElem?_drop]
theorem jbi{n:Int}{N:Nat}(h:n.toNat=N):Cr n=List.replicate (64*N) 0:=by
  unfold Cr
  congr 1;omega
theorem job{B:List Int}(h:Ey B):Bn 0 255 B=true:=by
  unfold Bn
  rw[List.all_eq_true]
  intro x hx
  have:=h x hx
  simp only[Bool.and_eq_true,decide_eq_true_eq];exact this
theorem Ju{B:List Int}(h:Bn 0 255 B=true):Ey B:=by
  intro x hx
  unfold Bn at h
  have:=List.all_eq_true.1 h x hx
  simpa using this
theorem Em{A B:List Int}(ha:Ey A)(hb:Ey B):Ey (A++B):=by
  intro x hx
  rcases List.mem_append.1 hx with h|h
  · exact ha x h
  · exact hb x h
theorem jcl{B:List Int}(h:Ey B):Ey (Es B):=by
  intro x hx
  unfold Es at hx
  obtain ⟨b,hb,hx⟩:=List.mem_flatMap.1 hx
  unfold Oi at hx
  have:=h b hb
  split at hx
  · simp only[List.mem_cons,List.not_mem_nil,or_false] at hx
    omega
  · rw[List.mem_singleton.1 hx];exact this
def Jl:T:=.lit (-9223372036854775808)
def Jk:T:=.lit 9223372036854775807
theorem jtv:Tryz.prog.globalNamed "jpegcodec/pub/jpeg.unzig" =some 4:=by kernel_rfl
theorem j8q:Tryz.prog.globalNamed "jpegcodec/pub/jpeg.bitCount" =some 5:=by kernel_rfl
theorem jsh:Tryz.prog.globalNamed "jpegcodec/pub/jpeg.unscaledQuant" =some 2:=by kernel_rfl
theorem jwu:(Tryz.prog.globals[4]?).map (·.type)=some 27:=by kernel_rfl
theorem jzl:(Tryz.prog.globals[2]?).map (·.type)=some 133:=by kernel_rfl
theorem jym:Tryz.prog.underlying 27=some (.array 64 3):=by kernel_rfl
theorem qby:Tryz.prog.underlying 133=some (.array 2 132):=by kernel_rfl
theorem j1c:Tryz.prog.underlying 132=some (.array 64 5):=by kernel_rfl
theorem jwl:(Rows.laid_jpegcodec_pub_jpeg_unzig:DataW Unit)=Lib.tabData .i64 (Z.fa 45 0 0 0 0 [] [] [] []):=by kernel_rfl
theorem qim:(Rows.laid_jpegcodec_pub_jpeg_bitCount:DataW Unit)=Lib.tabData .u8 Gj:=by kernel_rfl
theorem j0p:(Rows.laid_jpegcodec_pub_jpeg_unscaledQuant:DataW Unit)=.agg [Lib.tabData .u8 (uqL.take 64),Lib.tabData .u8 (uqL.drop 64)]:=by kernel_rfl
theorem plain:(Rows.fnGrayStreamRow.laid.filter fun x=>x.2.handleName?.isNone)=[("jpegcodec/pub/jpeg.unzig",Rows.laid_jpegcodec_pub_jpeg_unzig),("jpegcodec/pub/jpeg.bitCount",Rows.laid_jpegcodec_pub_jpeg_bitCount),("jpegcodec/pub/jpeg.unscaledQuant",Rows.laid_jpegcodec_pub_jpeg_unscaledQuant)]:=by kernel_rfl
theorem qfo:(Tryz.prog.globals[5]?).map (·.type)=some 251:=by kernel_rfl
theorem jye:Tryz.prog.underlying 251=some (.array 256 5):=by kernel_rfl
theorem j3u:Tryz.prog.underlying 3=some (.int .i64):=by kernel_rfl
theorem j2e:Tryz.prog.underlying 5=some (.int .u8):=by kernel_rfl
theorem co3:Tryz.prog.cellsOf 3=1:=by kernel_rfl
theorem co5:Tryz.prog.cellsOf 5=1:=by kernel_rfl
theorem j9q:Tryz.prog.cellsOf 27=64:=by kernel_rfl
theorem j7z:Tryz.prog.cellsOf 251=256:=by kernel_rfl
theorem j1o:Tryz.prog.cellsOf 132=64:=by kernel_rfl
theorem qht:Tryz.prog.cellsOf 133=128:=by kernel_rfl
theorem jb3{w:World}{fuel:Nat}{cs:List Value}{X Y:List Int}{p:List MemPlace}(h:DataW.trod (fun _=>()) Tryz.prog w 0 (fun _=>true) false fuel 133 cs=some (.agg [Lib.tabData .u8 X,Lib.tabData .u8 Y],p)):
    cs=(X++Y).map fun z=>Value.int .u8 z:=by
  cases fuel with
  | zero=>simp[DataW.trod] at h
  | succ fuel=>
    simp only[DataW.trod,qby,j1o,qht] at h
    split at h
    · rename_i hl
      obtain ⟨xs,hm,hx⟩:=Option.map_eq_some_iff.1 h
      have hxs:xs.map (·.1)=[Lib.tabData .u8 X,Lib.tabData .u8 Y]:=by
        have:=congrArg Prod.fst hx
        simpa using this
      obtain ⟨b0,hb0,hf0⟩:=Lib.mapM_at hm 0 0 rfl
      obtain ⟨b1,hb1,hf1⟩:=Lib.mapM_at hm 1 1 rfl
      have e0:b0.1=Lib.tabData .u8 X:=by
        have:(xs.map (·.1))[0]? =some b0.1:=by simp[hb0]
        rw[hxs] at this;simpa using this.symm
      have e1:b1.1=Lib.tabData .u8 Y:=by
        have:(xs.map (·.1))[1]? =some b1.1:=by simp[hb1]
        rw[hxs] at this;simpa using this.symm
      obtain ⟨b00,b01⟩:=b0
      obtain ⟨b10,b11⟩:=b1
      simp only at e0 e1
      subst e0
      subst e1
      have c0:=Lib.cells_of_tab j1c j2e co5 j1o hf0
      have c1:=Lib.cells_of_tab j1c j2e co5 j1o hf1
      rw[List.map_append,←c0,←c1]
      simp only[Nat.zero_mul,Nat.one_mul,List.drop_zero]
      rw[List.take_of_length_le (l:=cs.drop 64) (by rw[List.length_drop];omega),List.take_append_drop]
    · cases h
section
open Go Go.RowKit
def Sy(w:World):Prop:=
  (∀j v,(Z.fa 45 0 0 0 0 [] [] [] [])[j]? =some v→w.cell? ⟨4,j,none⟩=some (.int .i64 v))∧(∀j v,Gj[j]? =some v→w.cell? ⟨5,j,none⟩=some (.int .u8 v))∧(∀j v,uqL[j]? =some v→w.cell? ⟨2,j,none⟩=some (.int .u8 v))
theorem Uc{S:Hw}{ρ:Et}{w w':World}{h:Hp}(hh:Cv S ρ w h w')(hrw:h.rw=[])(hl:ρ.loose=[]):Below w.heap.size w w':=by
  refine ⟨hh.os,hh.tape,hh.output,by rw[hh.size];omega,fun k hk=>hh.frame k hk (by rw[hl];simp) fun x hx=>by rw[hrw] at hx;cases hx⟩
theorem Hb{w:World}{b o:Nat}{v:Value}(h:w.cell? ⟨b,o,none⟩=some v):b<w.heap.size:=by
  unfold World.cell? at h
  simp only at h
  rcases Nat.lt_or_ge b w.heap.size with hl|hl
  · exact hl
  · rw[Array.getElem?_eq_none hl] at h;cases h
end
section
open Go Go.ChangeShapes Go.WideShapes Go.RowKit
noncomputable def Fh (os:Os):World:=
  let w0:=World.holding Tryz.prog os ⟨#[],#[],[]⟩
  let put (k:Nat) (c:Array Value) (h:Array Obj):Array Obj:=h.modify k fun
    | .cells _ t frozen=>.cells c t frozen
    | o=>o
  { w0 with heap:=put 3 #[.iface 237 (.agg #[.pointer (some ⟨9,100,none⟩)])] (put 2 (uqL.map (Value.int .u8)).toArray (put 5 (Gj.map (Value.int .u8)).toArray (put 4 ((Z.fa 45 0 0 0 0 [] [] [] []).map (Value.int .i64)).toArray w0.heap)))}
end
section
open Go.ChangeShapes Go.WideShapes Go.ChangeAt Go.RowKit
open Go.ChangeMaps (open_string shut_string)
set_option linter.unusedVariables false
theorem own:ownKnob Tryz.prog.godebug=none:=by kernel_rfl
theorem Hv:laidOutB Tryz.prog=true:=by kernel_rfl
def Ll(k:IntKind)(w:World)(a:Option Addr)(len cap:Nat)(zs:List Int):Prop:=
  (a=none∧len=0∧cap=0∧zs=[])∨
  ∃x,a=some x∧len≤cap∧cap≤maxLen∧zs.length=cap∧(∀i,i<zs.length→w.cell? (x.add i)=some (.int k (zs.getD i 0)))∧ ∀n∈zs,(Lit.int k n).wf=true
end
def jkc:List (Cl×Gn):=[(.old 21,⟨91,[.cells [.sl (.old 22) 0 z0 (.iv 20) (.iv 20),.sl (.old 22) 0 (.iv 20) (.iv 24) (.iv 24),.sl (.old 22) 0 (.add (.iv 20) (.iv 24)) (.iv 24) (.iv 24),cI (.iv 21),cI (.iv 25),cI (.lit 2),cI z0,cI z0,cI (.iv 21),cI (.iv 22)]]⟩),(.old 22,⟨5,[.arrD .u8 (.av 5)]⟩)]
def hf(t:T):T:=.tdiv (.add t (.lit 1)) (.lit 2)
def ja7:List T:=Di (.lit 1) (.iv 21) (.lit 65535)++Di (.lit 1) (.iv 22) (.lit 65535)++ [.eq (.iv 20) (.mul (.iv 21) (.iv 22)),.eq (.iv 25) (hf (.iv 21)),.eq (.iv 24) (.mul (.iv 25) (hf (.iv 22))),.eq (.len (.av 5)) (.add (.iv 20) (.mul (.lit 2) (.iv 24))),Du 0 255 (.av 5)]
def bB4(k:Nat)(a:T):Cl×Gn:=(.old k,⟨183,[.arr .i32 a 256]⟩)
def chT(f:Nat)(x y:T):T:=.fa f x y (.iv 21) (.iv 22) (.av 5) (.alit []) (.alit []) (.alit [])
def qaf(a s b n:T):T:=.splice a s (.cut b z0 n)
def pxy:List T:=Di z0 (.iv 5) (.lit 65551)++Di z0 (.iv 6) (.lit 65551)
def c91:Hg where
  args:=[p0 (.old 21),.v (.agg [.cells [cI (.iv 5),cI (.iv 6)]]),p0 (.old 20),.v (.one (.ptr (.old 23) 0 (.iv 7))),.v (.one (.ptr (.old 24) 0 (.iv 8)))]
  hp:={rw:=jkc++ [bB 20 (.av 4),bB4 23 (.av 10),bB4 24 (.av 11)],nv:=1000}
  pre:=ja7++pxy++Di z0 (.iv 7) (.lit 192)++Di z0 (.iv 8) (.lit 192)++ [.eq (.len (.av 4)) (.lit 64),.eq (.len (.av 10)) (.lit 256),.eq (.len (.av 11)) (.lit 256)]
  val:=.tup []
  hp':={rw:=jkc++ [bB 20 (jkx (.iv 5) (.iv 6)),bB4 23 (.splice (.av 10) (.iv 7) (chT 91 (.iv 5) (.iv 6))),bB4 24 (.splice (.av 11) (.iv 8) (chT 92 (.iv 5) (.iv 6)))]}
  post:=[]
  quiet:=false
def qhq(n:T):List (Cl×List Cp):=[(.old 20,[.arr .i32 (qaf (.av 4) z0 (jkx (.iv 5) (.iv 6)) n) 64]),(.old 23,[.arr .i32 (qaf (.av 10) (.iv 7) (chT 91 (.iv 5) (.iv 6)) n) 256]),(.old 24,[.arr .i32 (qaf (.av 11) (.iv 8) (chT 92 (.iv 5) (.iv 6)) n) 256])]
def qdi:List SR→Hp→Option Jh:=En fun b _ _=>{
  lo:=29,hi:=106
  tr:=(13,.v (.one (cI (.iv b))))::Gq b 14 5
  rw:=qhq (.mul (.lit 8) (.iv b))
  facts:=Di z0 (.iv b) (.lit 8)
  meas:=.sub (.lit 8) (.iv b)
  quiet:=true}
def qc6:List SR→Hp→Option Jh:=En fun b fr _=>{
  lo:=40,hi:=106
  tr:=(15,.v (.one (cI (.iv b))))::Gq b 16 3
  rw:=qhq (.add (.mul (.lit 8) (Js fr 13)) (.iv b))
  facts:=Di z0 (.iv b) (.lit 8)
  meas:=.sub (.lit 8) (.iv b)
  quiet:=true}
def scT(n:T):T:=.fa 94 n z0 z0 z0 (.av 10) (.av 4) (.alit []) (.alit [])
def c93:Hg where
  args:=[p0 (.old 20),p0 (.old 23)]
  hp:={rw:=[bB 20 (.av 4),bB4 23 (.av 10)],nv:=1000}
  pre:=[.eq (.len (.av 4)) (.lit 64),.eq (.len (.av 10)) (.lit 256),Du 0 255 (.av 10)]
  val:=.tup []
  hp':={rw:=[bB 20 (fA 93 z0 z0 z0 z0 (.av 10)),bB4 23 (.av 10)]}
  post:=[]
  quiet:=true
def j9l:List SR→Hp→Option Jh:=En fun b fr _=>{
  lo:=21,hi:=80
  tr:=(6,.v (.one (cI (.iv b))))::Gq b 7 3
  rw:=[(.old 20,[.arr .i32 (scT (.add (.lit (16*Wj fr 4:Nat)) (.mul (.lit 4) (.iv b)))) 64])]
  facts:=Di z0 (.iv b) (.lit 4)
  meas:=.sub (.lit 4) (.iv b)
  quiet:=true}
def qbx:List SR→Hp→Option Jh:=En fun b fr _=>{
  lo:=25,hi:=80
  tr:=(7,.v (.one (cI (.iv b))))::Gq b 8 2
  rw:=[(.old 20,[.arr .i32 (scT (.add (.add (.lit (16*Wj fr 4:Nat)) (.mul (.lit 4) (Js fr 6))) (.iv b))) 64])]
  facts:=Di z0 (.iv b) (.lit 4)
  meas:=.sub (.lit 4) (.iv b)
  quiet:=true}
def j73:Nat→Nat→Option (List SR→Hp→Option Jh):=fun f k=>match f,k with
  | 91,5=>some qdi
  | 91,11=>some qc6
  | 93,5=>some j9l
  | 93,8=>some qbx
  | _,_=>none
def l5(a b c d e:T):T:=app (one a) (app (one b) (app (one c) (app (one d) (one e))))
def qiq(x y p q r s:T):T:=.fa 502 x y z0 z0 s (.av 3) (.av 5) (l5 (.iv 21) (.iv 22) p q r)
def qbr:T:=.fa 503 z0 z0 z0 z0 s0 (.av 3) (.av 5) wh
def j8j:SR:=.v (.one (.iface 86 (pL0 (.old 21))))
def jk8:Int:=200000000000
def j25:Hg where
  args:=[p0 (.old 0),j8j]
  hp:={rw:=hE 0 (.iv 0) (.av 1) (.iv 1) (.iv 2) (.av 2) (.av 3)++jkc,ro:=roE,nv:=1000,ow:=owW 0 (.av 0)}
  pre:=Tt jk8++ja7++ [.eq (.len (.av 3)) (.lit 128),Du 1 255 (.av 3)]
  val:=.tup []
  hp':={rw:=hE 100 (.iv 100) (.av 101) (.iv 101) (.iv 102) (.av 2) (.av 3)++jkc,ro:=roE,ow:=owW 100 (.av 100)}
  post:=jg8 jk8 qbr
  quiet:=false
def j8l(b:Nat):List (Nat×SR):=[(7,.v (.one (.int .i32 (.iv (b+4))))),(8,.v (.one (.int .i32 (.iv (b+5))))),(9,.v (.one (.int .i32 (.iv (b+6)))))]
def j7j(b:Nat):List T:=Di (.lit (-1024)) (.iv (b+4)) (.lit 1023)++Di (.lit (-1024)) (.iv (b+5)) (.lit 1023)++Di (.lit (-1024)) (.iv (b+6)) (.lit 1023)++ [.eq (.len (.av (b+2))) (.lit 64),.eq (.len (.av (b+4))) (.lit 256),.eq (.len (.av (b+5))) (.lit 256)]
def jwx(b:Nat)(fr:List SR):List (Cl×List Cp):=rwE b++ [(Fl fr 4,[.arr .i32 (.av (b+2)) 64]),(Fl fr 5,[.arr .i32 (.av (b+4)) 256]),(Fl fr 6,[.arr .i32 (.av (b+5)) 256])]
def j9x:List SR→Hp→Option Jh:=En fun b fr _=>{
  lo:=52,hi:=122
  tr:=(20,.v (.one (cI (.iv (b+3)))))::(j8l b++Gq b 21 5)
  rw:=jwx b fr
  ow:=some (.av b)
  facts:=okB b++ [.le z0 (.iv (b+3)),.le (.iv (b+3)) (.add (.iv 22) (.lit 15))]++j7j b++ [
    .le (.add (.len (.av b)) (.iv (b+2))) (.add (.add (.len (.av 0)) (.iv 0)) (.add (.lit 14) (.mul (.lit 1769904) (.iv (b+3))))),
    .aeq (qiq z0 (.iv (b+3)) (.iv (b+4)) (.iv (b+5)) (.iv (b+6)) (stB b)) qbr]
  meas:=.sub (.add (.iv 22) (.lit 16)) (.iv (b+3))
  quiet:=false}
def qbz:List SR→Hp→Option Jh:=En fun b fr _=>{
  lo:=62,hi:=122
  tr:=(21,.v (.one (cI (.iv (b+3)))))::(j8l b++Gq b 22 4)
  rw:=jwx b fr
  ow:=some (.av b)
  facts:=okB b++ [.le z0 (.iv (b+3)),.le (.iv (b+3)) (.add (.iv 21) (.lit 15))]++j7j b++ [
    .le (.add (.len (.av b)) (.iv (b+2))) (.add (.add (.len (.av 0)) (.iv 0)) (.add (.lit 14) (.add (.mul (.lit 1769904) (Js fr 20)) (.mul (.lit 432) (.iv (b+3)))))),
    .aeq (qiq (.iv (b+3)) (Js fr 20) (.iv (b+4)) (.iv (b+5)) (.iv (b+6)) (stB b)) qbr]
  meas:=.sub (.add (.iv 21) (.lit 16)) (.iv (b+3))
  quiet:=false}
def qfg:Nat→Nat→Option (List SR→Hp→Option Jh):=fun f k=>match f,k with
  | 67,13=>some j9x
  | 67,16=>some qbz
  | _,_=>none
def jyr:Nat→Option Ec:=fun f=>match f with
  | 93=>some (Gp c93)
  | _=>none
def jr7:Nat→Option Ff:=fun f=>match f with
  | 154=>some (Cx jnl)
  | 91=>some (Cx c91)
  | 89=>some (fun args h=>match jhw 2 0 args with|true=>Cx (c89 0) args h|false=>Cx (c89 1) args h)
  | 94=>some (Cx c94)
  | _=>none
def j45:Hg where
  args:=[.v (.one (.iface 96 (pL0 (.old 3)))),j8j,p0 (.old 8)]
  hp:={rw:=[bW 0,juu]++jkc,ro:=Vd,nv:=1000,ow:=owW 0 (.av 0)}
  pre:=ja7++Di (.lit 1) (.iv 30) (.lit 100)++ [.aeq (.av 0) (.alit [])]
  val:=.v (.one .nilI)
  hp':={rw:=[bW 100,juu]++jkc,ro:=Vd,ow:=owW 100 (.av 100)}
  post:=[.aeq (.av 100) (.fa 512 (.iv 30) (.iv 21) (.iv 22) z0 (.av 5) (.alit []) (.alit []) (.alit [])),.le (.len (.av 100)) Gl]
  quiet:=false
def j0a:Nat→Option Ff:=fun f=>match f with
  | 153=>some (Cx jq5)
  | 154=>some (Cx jnl)
  | 155=>some (Cx jvm)
  | 67=>some (Cx j25)
  | 81=>j64 81
  | _=>none
def j2v:Hg where
  args:=[slR (.old 22) (.iv 26) (.iv 20) (.iv 20),.v (.one (cI (.iv 21))),slR (.ro 0) z0 (.iv 20) (.iv 9),.v (.one (cI (.iv 21))),.v (.one (cI (.iv 22)))]
  hp:={rw:=[(.old 22,⟨5,[.arrD .u8 (.av 4)]⟩)],ro:=[(.ro 0,.u8,.av 5)],nv:=1000}
  pre:=Di (.lit 1) (.iv 21) (.lit 65535)++Di (.lit 1) (.iv 22) (.lit 65535)++ [.eq (.iv 20) (.mul (.iv 21) (.iv 22)),.eq (.len (.av 5)) (.iv 20),.le z0 (.iv 26),.le (.add (.iv 26) (.iv 20)) (.len (.av 4)),.le (.len (.av 4)) Gl,.le (.iv 20) (.iv 9)]
  val:=.tup []
  hp':={rw:=[(.old 22,⟨5,[.arrD .u8 (.splice (.av 4) (.iv 26) (.av 5))]⟩)],ro:=[(.ro 0,.u8,.av 5)]}
  post:=[]
  quiet:=true
def qb8:List SR→Hp→Option Jh:=En fun b _ _=>{
  lo:=14,hi:=37
  tr:=(13,.v (.one (cI (.iv b))))::Gq b 10 2
  rw:=[(.old 22,[.arrD .u8 (.splice (.av 4) (.iv 26) (.cut (.av 5) z0 (.mul (.iv b) (.iv 21))))])]
  facts:=Di z0 (.iv b) (.iv 22)
  meas:=.sub (.iv 22) (.iv b)
  quiet:=true}
def j8i:Nat→Nat→Option (List SR→Hp→Option Jh):=fun f k=>match f,k with
  | 29,1=>some qb8
  | 30,1000003=>some (fun _ _=>none)
  | _,_=>none
def c25:Hg where
  args:=[slR (.ro 0) z0 (.iv 20) (.iv 9),slR (.ro 1) z0 (.iv 24) (.iv 10),slR (.ro 2) z0 (.iv 27) (.iv 11),.v (.one (cI (.lit 2))),.v (.one (cI (.iv 21))),.v (.one (cI (.iv 22))),.v (.one (cI (.iv 30)))]
  hp:={rw:=[],ro:=[(.ro 0,.u8,.av 5),(.ro 1,.u8,.av 6),(.ro 2,.u8,.av 7)]++Vd,nv:=1000}
  pre:=Di (.lit 1) (.iv 21) (.lit 65535)++Di (.lit 1) (.iv 22) (.lit 65535)++ [.eq (.iv 20) (.mul (.iv 21) (.iv 22)),.eq (.iv 24) (.mul (hf (.iv 21)) (hf (.iv 22))),.eq (.iv 27) (.iv 24),.eq (.len (.av 5)) (.iv 20),.eq (.len (.av 6)) (.iv 24),.eq (.len (.av 7)) (.iv 24),Du 0 255 (.av 5),Du 0 255 (.av 6),Du 0 255 (.av 7),.le (.iv 20) (.iv 9),.le (.iv 24) (.iv 10),.le (.iv 27) (.iv 11)]++Di (.lit 1) (.iv 30) (.lit 100)
  val:=.tup [.one (.sl (.own 101) 0 z0 (.iv 120) (.iv 121)),.one (cI z0)]
  hp':={rw:=[(.own 101,⟨5,[.arrD .u8 (.av 100),.tail [.int .u8 z0] (.sub (.iv 121) (.iv 120))]⟩)],ro:=[(.ro 0,.u8,.av 5),(.ro 1,.u8,.av 6),(.ro 2,.u8,.av 7)]++Vd}
  post:=[.eq (.iv 120) (.len (.av 100)),.le (.iv 120) (.iv 121),.aeq (.av 100) (.fa 512 (.iv 30) (.iv 21) (.iv 22) z0 (app (.av 5) (app (.av 6) (.av 7))) (.alit []) (.alit []) (.alit [])),.le (.len (.av 100)) Gl]
  quiet:=false
def qh3(P:Program):Nat→Option Ec:=jeh P (fun f=>f==43||f==44||f==58||f==46) (fun f=>match f with
  | 57=>some (Gp c57)
  | 29=>some (Gp j2v)
  | _=>none) 1000 5
def jze:Nat→Option Ff:=fun f=>match f with
  | 45=>some (Cx j45)
  | _=>none
def i3(a b c:T):List Aw:=[cI a,cI b,cI c]
def Xk(r:Cl)(b0 b1 b2:Cl)(n0 n1 n2 cap:T)(q0 q1 q2:T):Cl×Gn:=
  (r,⟨30,[.cells (i3 (.lit 1) (.lit 2) (.lit 2)),.arr .i64 q0 64,.cells (.sl b0 0 z0 n0 n0::i3 (.lit 2) (.lit 1) (.lit 1)),.arr .i64 q1 64,.cells (.sl b1 0 z0 n1 n1::i3 (.lit 3) (.lit 1) (.lit 1)),.arr .i64 q2 64,.cells [.sl b2 0 z0 n2 n2],.tail jen (.sub cap (.lit 3))]⟩)
def j88(r:Cl)(cap:T):Cl×Gn:=(r,⟨3,[.cells (i3 z0 (.lit 1) (.lit 1)),.tail [.int .i64 (.lit 0)] (.sub cap (.lit 3))]⟩)
def jqm(k:T):T:=fA 414 k z0 z0 z0 (.alit [])
def jfv(k:T):T:=fA 415 k z0 z0 z0 (.alit [])
def j85(w h:T)(rc rd:Cl)(cc cd hd:T):List Aw:=[cI (.lit 192),cI w,cI h,.sl rc 0 z0 (.lit 3) cc,.bool .ff,cI hd,cI (.lit 192),.sl rd 0 z0 (.lit 3) cd]
def jti(hd sc miss:T):Cl×Gn:=jc7 (j85 (.iv 21) (.iv 22) (.old 5) (.old 6) (.iv 50) (.iv 51) hd) (.av 30) (Th [0,1,2,3]) sc miss
def jkw(q0 q1:T):Cl×Gn:=Xk (.old 5) (.old 7) (.old 8) (.old 9) (.iv 20) (.iv 23) (.iv 23) (.iv 50) q0 q1 q1
def jkf:Cl×Gn:=j88 (.old 6) (.iv 51)
def qdj:Hg where
  args:=[p0 (.old 4),slR (.ro 0) (.lit 0) (.lit 416) (.iv 10)]
  hp:={rw:=[jc7 ([.val 80,.val 81,.val 82,.val 83,.val 84,.val 85,cI (.lit 192),.val 87]) (.av 30) (Th []) z0 (.av 31)],ro:=[(.ro 0,.u8,.alit Ns)],nv:=1000}
  pre:=[.le (.lit 416) (.iv 10)]
  val:=.v (.one (.bool .tt))
  hp':={rw:=[jc7 ([.val 80,.val 81,.val 82,.val 83,.val 84,.val 85,cI (.lit 192),.val 87]) (.av 30) (j8n [0,1,2,3]) z0 (.av 31),jve 0,jve 1,jve 2,jve 3],ro:=[(.ro 0,.u8,.alit Ns)]}
  post:=[]
  quiet:=false
def nmT:T:=.fi 438 hdW hdH z0 z0 (.alit []) (.alit []) (.alit []) (.alit [])
def j6m:Hg where
  args:=[p0 (.old 4),.v (.one (cI (.lit 192))),slR (.ro 0) (.lit 0) (.lit 15) (.iv 10)]
  hp:={rw:=[jc7 cs0 (.av 30) (Th []) z0 (jqm z0)],ro:=[(.ro 0,.u8,.av 2)],nv:=1000}
  pre:=[.le (.lit 15) (.iv 10),.eq (.len (.av 2)) (.lit 15),Du 0 255 (.av 2),.eq (g2 0) (.lit 8),.eq (g2 5) (.lit 3),.eq (g2 6) (.lit 1),.eq (g2 7) (.lit 34),.eq (g2 8) z0,.eq (g2 9) (.lit 2),.eq (g2 10) (.lit 17),.eq (g2 11) (.lit 1),.eq (g2 12) (.lit 3),.eq (g2 13) (.lit 17),.eq (g2 14) (.lit 1),.le (.lit 1) hdW,.le (.lit 1) hdH,.le (.mul hdW hdH) (.lit 65536)]
  val:=.v (.one (.bool .tt))
  hp':={rw:=[jc7 (j85 hdW hdH (.own 105) (.own 106) (.iv 105) (.iv 106) z0) (.av 30) (Th []) z0 (jqm (.lit 192)),
      Xk (.own 105) (.own 107) (.own 108) (.own 109) (.iv 120) (.iv 121) (.iv 122) (.iv 105) (.rep (.lit 64) z0) (.rep (.lit 64) z0) (.rep (.lit 64) z0),j88 (.own 106) (.iv 106),
      (.own 107,⟨27,[.arrD .i64 (.av 107)]⟩),(.own 108,⟨27,[.arrD .i64 (.av 108)]⟩),(.own 109,⟨27,[.arrD .i64 (.av 109)]⟩)],ro:=[(.ro 0,.u8,.av 2)]}
  post:=[.eq (.iv 120) (.mul (.lit 4) nmT),.eq (.iv 121) nmT,.eq (.iv 122) nmT,.aeq (.av 107) (fA 437 (.iv 120) z0 z0 z0 (.alit [])),.aeq (.av 108) (fA 437 (.iv 121) z0 z0 z0 (.alit [])),.aeq (.av 109) (fA 437 (.iv 122) z0 z0 z0 (.alit []))]
  quiet:=false
def j8r(h:Hp)(a:T):List (Cl×List Cp):=[(.old 4,(jkk h (.old 4)).dropLast++ [.arr .i64 a 192])]
def qdl:List SR→Hp→Option Jh:=En fun b fr h=>{
  lo:=243,hi:=254
  tr:=[(242,.v (.one (cI (.iv b)))),(16,.v (.one (.junk (b+116))))]
  rw:=j8r h (.av b)
  facts:=Di (.lit 0) (.iv b) (.lit 64)++ [.eq (.len (.av b)) (.lit 192),.aeq (.av b) (jqm (.add (.lit (64*Wj fr 13:Nat)) (.iv b)))]
  meas:=.sub (.lit 64) (.iv b)
  quiet:=true}
def jnb:T:=.alit [3,1,0,2,17,3,17,0,63,0]
def j89:List T:=[.le (.lit 1) (.get (.av 30) z0),.le (.lit 1) (.get (.av 30) (.lit 64))]
def j9u:Hg where
  args:=[p0 (.old 4),slR (.ro 0) (.lit 0) (.lit 10) (.iv 10)]
  hp:={rw:=[jti z0 z0 (jfv z0),jkw (.rep (.lit 64) z0) (.rep (.lit 64) z0),jkf],ro:=[(.ro 0,.u8,jnb)],nv:=1000}
  pre:=.le (.lit 10) (.iv 10)::j89
  val:=.tup [.one (.ptr (.own 101) 0 (.lit 0)),.one (.bool .tt)]
  hp':={rw:=[jti z0 z0 (jfv (.lit 192)),jkw (.cut (.av 30) z0 (.lit 64)) (.cut (.av 30) (.lit 64) (.lit 64)),jkf,
      (.own 101,⟨118,[.cells ([.sl (.own 102) 0 (.lit 0) (.lit 3) (.iv 102)]++ [0,2,2,1,3,3].map (fun h=>.ptr (.old 4) (Xz h) (.lit 0))++ [cI z0,cI (.lit 63),cI z0,cI z0,.nils,cI z0,cI z0,.bool .ff,cI z0,cI z0,cI z0,cI z0])]⟩),
      (.own 102,⟨3,[.cells (i3 z0 (.lit 1) (.lit 2)),.tail [.int .i64 (.lit 0)] (.sub (.iv 102) (.lit 3))]⟩)],ro:=[(.ro 0,.u8,jnb)]}
  post:=[]
  quiet:=false
def qax:List SR→Hp→Option Jh:=En fun b fr h=>{
  lo:=139,hi:=168
  tr:=[(8,.v (.one (cI (.iv b))))]
  rw:=j8r h (.av b)
  facts:=Di (.lit 0) (.iv b) (.lit 64)++ [.eq (.len (.av b)) (.lit 192),.aeq (.av b) (jfv (.add (.lit (64*Wj fr 7:Nat)) (.iv b)))]
  meas:=.sub (.lit 64) (.iv b)
  quiet:=true}
def stT(a u p q r:T):T:=app (one a) (app (one u) (app (one p) (app (one q) (app (one r) (.av 1)))))
def xT:T:=.tdiv (.add (.iv 21) (.lit 15)) (.lit 16)
def qgi:List T:=Di (.lit 1) (.iv 21) (.lit 65535)++Di (.lit 1) (.iv 22) (.lit 65535)++ [.le (.mul (.iv 21) (.iv 22)) (.lit 65536),.eq (.iv 23) (.mul xT (.tdiv (.add (.iv 22) (.lit 15)) (.lit 16))),.eq (.iv 20) (.mul (.lit 4) (.iv 23))]
def fC(k:Nat):T:=.fa k (.iv 23) (.iv 0) xT z0 (.av 1) (.av 7) (.av 8) (.av 9)
def Ye(k:Nat)(a:T):Cl×Gn:=(.old k,⟨27,[.arrD .i64 a]⟩)
def jh4(k:Nat)(n:T):T:=.eq (.len (.av k)) (.mul (.lit 64) n)
def qa6:Hg where
  args:=[p0 (.old 4),.v (.one (.sl (.old 2) 0 (.lit 579) (.lit 10) (.iv 10))),.v (.one jcm),.v (.one (cI (.iv 0)))]
  hp:={rw:=[jti z0 z0 (jfv z0),jkw (.rep (.lit 64) z0) (.rep (.lit 64) z0),jkf,Ye 7 (.av 7),Ye 8 (.av 8),Ye 9 (.av 9),bD,bSy 0,bSy 1,bSy 2,bSy 3],nv:=1000}
  pre:=Ny++ [.le (.lit 0) (.iv 0),.le (.lit 589) (.iv 6),.le (.lit 10) (.iv 10),.aeq (.cut (.av 1) (.lit 579) (.lit 10)) jnb]++qgi++ [jh4 7 (.iv 20),jh4 8 (.iv 23),jh4 9 (.iv 23)]++j89++ [
    .fb 530 (.iv 23) z0 xT z0 (stT (.iv 0) z0 z0 z0 z0) (.av 7) (.av 8) (.av 9)]
  val:=.tup [.one (cI (.fi 530 (.iv 23) (.iv 0) xT z0 (.av 1) (.av 7) (.av 8) (.av 9))),.one (.bool .tt)]
  hp':={rw:=[jti (.iv 0) (.lit 1) (jfv (.lit 192)),jkw (.cut (.av 30) z0 (.lit 64)) (.cut (.av 30) (.lit 64) (.lit 64)),jkf,Ye 7 (fC 531),Ye 8 (fC 532),Ye 9 (fC 533),bD,bSy 0,bSy 1,bSy 2,bSy 3]}
  post:=[]
  quiet:=false
def j9c:List SR→Hp→Option Jh:=En fun b fr h=>{
  lo:=85,hi:=193
  tr:=(84,.v (.one (cI (.iv b))))::Gq b 15 9
  rw:=[(Fl fr 10,[.cells (jt6 h (Fl fr 10) 11++ [jcm,cI (.iv (b+1)),cI (.iv (b+2)),.bool .ff,cI (.iv (b+3)),cI (.iv (b+4)),cI (.iv (b+5)),cI z0])]),(.old 7,[.arrD .i64 (.av b)]),(.old 8,[.arrD .i64 (.av (b+1))]),(.old 9,[.arrD .i64 (.av (b+2))])]
  facts:=Di (.lit 0) (.iv b) (.iv 23)++ [.le (.lit 0) (.iv (b+1))]++Di (.lit 0) (.iv (b+2)) (.lit 7)++Di (.lit (-1024)) (.iv (b+3)) (.lit 1023)++Di (.lit (-1024)) (.iv (b+4)) (.lit 1023)++Di (.lit (-1024)) (.iv (b+5)) (.lit 1023)++ [jh4 b (.iv 20),jh4 (b+1) (.iv 23),jh4 (b+2) (.iv 23),
    .fb 530 (.sub (.iv 23) (.iv b)) (.iv b) xT z0 (stT (.iv (b+1)) (.iv (b+2)) (.iv (b+3)) (.iv (b+4)) (.iv (b+5))) (.av b) (.av (b+1)) (.av (b+2)),
    .aeq (.fa 530 (.sub (.iv 23) (.iv b)) (.iv b) xT z0 (stT (.iv (b+1)) (.iv (b+2)) (.iv (b+3)) (.iv (b+4)) (.iv (b+5))) (.av b) (.av (b+1)) (.av (b+2))) (.fa 530 (.iv 23) z0 xT z0 (stT (.iv 0) z0 z0 z0 z0) (.av 7) (.av 8) (.av 9))]
  meas:=.sub (.iv 23) (.iv b)
  quiet:=false}
def jme:Nat→Nat→Option (List SR→Hp→Option Jh):=fun f k=>match f,k with
  | 50,34=>some qdl
  | 50,2000004=>some (jqf 7 (.lit 3))
  | 49,19=>some j8e
  | 49,1000026=>some fun _ _=>none
  | 73,17=>some qax
  | 35,13=>some j9c
  | _,_=>none
def jjp(q i:Nat):Hg:={c53 q i with
  hp':={rw:=[bSB q i (.iv 100) (.iv 101) (.iv 102),bD,jjw [2*q,2*q+1],bSy (2*q),bSy (2*q+1),bBl (.av 107)]}
  post:=[.le z0 (.iv 100),.le z0 (.iv 101),.le (.iv 101) (.lit 7),.eq (.iv 100) (fDB (420+q) (.iv 5) (.iv 0) (.iv 1) (.iv 3) (.av 7)),.eq (.iv 101) (fDB (422+q) (.iv 5) (.iv 0) (.iv 1) (.iv 3) (.av 7)),.eq (.iv 102) (.add (.iv 3) (fD (270+q) (.iv 0) (.iv 1) z0 z0)),.aeq (.av 107) (jzo (424+q) (.iv 5) (.iv 0) (.iv 1) (.iv 3) (.av 7)),.eq (.len (.av 107)) (.len (.av 7))]++Di (.lit (-1024)) (.iv 102) (.lit 1023)
  quiet:=false}
def c71:Hg where
  args:=[.v (.one (.sl (.old 5) 0 z0 (.lit 3) (.iv 50)))]
  hp:={rw:=[(.old 5,⟨30,[.cells (i3 (.iv 40) (.iv 41) (.iv 42)),.arr .i64 (.av 40) 64,.cells (.nils::i3 (.iv 43) (.iv 44) (.iv 45)),.arr .i64 (.av 41) 64,.cells (.nils::i3 (.iv 46) (.iv 47) (.iv 48)),.arr .i64 (.av 42) 64,.cells [.nils],.tail jen (.sub (.iv 50) (.lit 3))]⟩)],nv:=1000}
  pre:=[.le (.lit 3) (.iv 50),.eq (.iv 40) (.lit 1),.eq (.iv 41) (.lit 2),.eq (.iv 42) (.lit 2),.eq (.iv 43) (.lit 2),.eq (.iv 44) (.lit 1),.eq (.iv 45) (.lit 1),.eq (.iv 46) (.lit 3),.eq (.iv 47) (.lit 1),.eq (.iv 48) (.lit 1)]
  val:=.v (.one (.bool .tt))
  hp':={rw:=[(.old 5,⟨30,[.cells (i3 (.iv 40) (.iv 41) (.iv 42)),.arr .i64 (.av 40) 64,.cells (.nils::i3 (.iv 43) (.iv 44) (.iv 45)),.arr .i64 (.av 41) 64,.cells (.nils::i3 (.iv 46) (.iv 47) (.iv 48)),.arr .i64 (.av 42) 64,.cells [.nils],.tail jen (.sub (.iv 50) (.lit 3))]⟩)]}
  post:=[]
  quiet:=false
def jxe:Nat→Option Ff:=fun f=>match f with
  | 71=>some (Cx c71)
  | _=>none
def qfx:Nat→Bool:=fun f=> !(f==51)&& !(f==71)
def j7g(P:Program):Nat→Option Ec:=jeh P (fun f=>f==37) Jt 1000 2
def j84:Nat→Option Ec:=fun f=>match f with
  | 54=>some (Gp c54)
  | _=>none
def jr4:Nat→Option Ff:=fun f=>match f with
  | 51=>some (Cx j9u)
  | 53=>some (fun args h=>match jhw 2 0 args with|true=>Cx (jjp 0 0) args h|false=>match jhw 2 1 args with|true=>Cx (jjp 1 1) args h|false=>Cx (jjp 1 2) args h)
  | _=>none
def jq3(P:Program):Nat→Option Ec:=jeh P (fun f=>f==37) j84 1000 2
def fD0(k:Nat):T:=fD k z0 z0 z0 z0
def jue(k:Nat):T:=faD k z0 z0 z0 z0
def j6j:Hg where
  args:=[j3t]
  hp:={rw:=[bD],nv:=1000}
  pre:=Ny++ [Mc 540 z0 z0 z0 z0]
  val:=.tup [.one (.ptr (.own 101) 0 (.lit 0)),.one (.bool .tt)]
  hp':={rw:=[bD,(.own 101,⟨73,[.cells [cI (.lit 192),cI (fD0 431),cI (fD0 432),.sl (.own 102) 0 (.lit 0) (.lit 3) (.iv 102),.bool .tt,cI (.lit 589)],.junk 101]⟩),
      Xk (.own 102) (.own 103) (.own 104) (.own 105) (.iv 120) (.iv 121) (.iv 122) (.iv 102) (jue 434) (jue 438) (jue 438),(.own 103,⟨27,[.arrD .i64 (jue 541)]⟩),(.own 104,⟨27,[.arrD .i64 (jue 542)]⟩),(.own 105,⟨27,[.arrD .i64 (jue 543)]⟩)]}
  post:=[.eq (.iv 120) (.mul (.lit 4) (fD0 439)),.eq (.iv 121) (fD0 439),.eq (.iv 122) (fD0 439)]
  quiet:=false
def qb0:Nat→Option Ec:=fun f=>match f with
  | 31=>some (jim [(2,Wy (.lit 2) 219),(136,Wy (.lit 136) 192),(155,Wy (.lit 155) 196),(575,Wy (.lit 575) 218)] (Wy (.iv 0) 217))
  | 33=>some (jim [(4,Xr 4 132),(138,Xr 138 17),(157,Xr 157 418),(577,Xr 577 12)] (Xr 4 132))
  | 47=>some (Gp c47)
  | 48=>some (Gp c48)
  | _=>none
def jxb:Nat→Option Ff:=fun f=>match f with
  | 49=>some (Cx qdj)
  | 50=>some (Cx j6m)
  | 35=>some (Cx qa6)
  | _=>none
def j1h:List SR:=[slR (.ro 0) z0 (.iv 20) (.iv 9),slR (.ro 1) z0 (.iv 24) (.iv 10),slR (.ro 2) z0 (.iv 27) (.iv 11),.v (.one (cI (.iv 21))),.v (.one (cI (.iv 22))),.v (.one (cI (.iv 30)))]
def cRo:List (Cl×IntKind×T):=[(.ro 0,.u8,.av 5),(.ro 1,.u8,.av 6),(.ro 2,.u8,.av 7)]++Vd
def jva:List T:=[.eq (.len (.av 5)) (.iv 20),.eq (.len (.av 6)) (.iv 24),.eq (.len (.av 7)) (.iv 27),.le (.iv 20) (.iv 9),.le (.iv 24) (.iv 10),.le (.iv 27) (.iv 11),Du 0 255 (.av 5),Du 0 255 (.av 6),Du 0 255 (.av 7)]++Di Jl (.iv 21) Jk++Di Jl (.iv 22) Jk++Di Jl (.iv 30) Jk
def slN(b:Bool)(k:Nat)(n c:Nat):SR:=match b with
  | true=>slR (.ro k) z0 (.iv n) (.iv c)
  | false=>.v (.one .nils)
def roN(b:Bool)(k a:Nat):List (Cl×IntKind×T):=match b with
  | true=>[(.ro k,.u8,.av a)]
  | false=>[]
def Tn(b:Bool)(a n c:Nat):List T:=match b with
  | true=>[.eq (.len (.av a)) (.iv n),.le (.iv n) (.iv c),Du 0 255 (.av a)]
  | false=>[]
def c9n(a b c:Bool):Hg where
  args:=[slN a 0 20 9,slN b 1 24 10,slN c 2 27 11,.v (.one (cI (.iv 21))),.v (.one (cI (.iv 22))),.v (.one (cI (.iv 30)))]
  hp:={rw:=[],ro:=roN a 0 5++(roN b 1 6++roN c 2 7),nv:=1000}
  pre:=Tn a 5 20 9++(Tn b 6 24 10++(Tn c 7 27 11++(Di Jl (.iv 21) Jk++Di Jl (.iv 22) Jk++Di Jl (.iv 30) Jk)))
  val:=.v (.one (.bool .tt))
  hp':={rw:=[],ro:=roN a 0 5++(roN b 1 6++roN c 2 7)}
  post:=[]
  quiet:=false
def jqk:Nat→Bool:=fun f=> !(f==15||f==25||f==17)
section
open Go Go.ChangeShapes Go.WideShapes Go.RowKit
structure jd4 where
  b:Bool
  bk:Nat
  of:Nat
  ln:Nat
  cp:Nat
  l:List Int
def jd4.val(s:jd4):Value:=match s.b with
  | true=>.slice (some ⟨s.bk,s.of,none⟩) s.ln s.cp
  | false=>.slice none 0 0
structure Yp(w:World)(s:jd4):Prop where
  lt:s.b=true→s.bk<w.heap.size
  len:s.b=true→(s.l.length:Int)=s.ln
  cap:s.b=true→(s.ln:Int)≤s.cp
  cells:s.b=true→ ∀(j:Nat) v,s.l[j]? =some v→w.cell? ⟨s.bk,s.of+j,none⟩=some (.int .u8 v)
  inn:s.b=true→Bn 0 255 s.l=true
theorem Hn{w:World}{a:Option Addr}{len cap:Nat}{z:List Int}(h:Ll .u8 w a len cap z)(hs: ∀x,a=some x→x.spot=none∧x.block<w.heap.size): ∃s,Yp w s∧s.val=.slice a len cap:=by
  rcases h with ⟨rfl,rfl,rfl,rfl⟩|⟨x,rfl,hl,hm,hz,hcell,hwf⟩
  · exact ⟨⟨false,0,0,0,0,[]⟩,⟨fun h=>(by cases h),fun h=>(by cases h),fun h=>(by cases h),fun h=>(by cases h),fun h=>(by cases h)⟩,rfl⟩
  · obtain ⟨hx,hb⟩:=hs x rfl
    refine ⟨⟨true,x.block,x.off,len,cap,z.take len⟩,⟨fun _=>hb,fun _=> ?_,fun _=> ?_,fun _ j v hv=> ?_,fun _=> ?_⟩,?_⟩
    · show ((z.take len).length:Int)=len
      rw[List.length_take];omega
    · show (len:Int)≤cap
      omega
    · have hj:j<(z.take len).length:=(List.getElem?_eq_some_iff.1 hv).1
      rw[List.length_take] at hj
      have hz':z.getD j 0=v:=by
        have hv':(z.take len)[j]? =some v:=hv
        rw[List.getElem?_take,if_pos (by omega)] at hv'
        rw[List.getD_eq_getElem?_getD,hv'];rfl
      have:=hcell j (by omega)
      rw[hz'] at this
      have e:x.add j=⟨x.block,x.off+j,none⟩:=by
        unfold Addr.add
        split
        · rename_i h0
          subst h0
          rw[←hx];rfl
        · rfl
      rw[e] at this
      exact this
    · show Bn 0 255 (z.take len)=true
      unfold Bn
      rw[List.all_eq_true]
      intro n hn
      have:=hwf n (List.mem_of_mem_take hn)
      simp only[Lit.wf,Bool.and_eq_true,decide_eq_true_eq] at this
      simp only[Bool.and_eq_true,decide_eq_true_eq];exact this
    · obtain ⟨b,o,s⟩:=x
      simp only at hx
      subst hx
      rfl
def qlv(s0 s1 s2:jd4)(w h q:Int):Et:=
  { i:=fun k=>if k=20 then s0.ln else if k=9 then s0.cp else if k=24 then s1.ln else if k=10 then s1.cp else if k=27 then s2.ln else if k=11 then s2.cp else if k=21 then w else if k=22 then h else q
    a:=fun k=>if k=5 then s0.l else if k=6 then s1.l else s2.l
    blk:=fun k=>if k=0 then s0.bk else if k=1 then s1.bk else s2.bk
    off:=fun k=>if k=0 then s0.of else if k=1 then s1.of else s2.of}
theorem j54{b:Bool}{k a:Nat}{y:Cl×IntKind×T}(h:y∈roN b k a):b=true∧y=(.ro k,.u8,.av a):=by
  cases b with
  | true=>exact ⟨rfl,by simpa [roN] using h⟩
  | false=>simp[roN] at h
theorem jpv{ρ:Et}{w:World}{s:jd4}{k a:Nat}(o:Yp w s)(e1:ρ.blk k=s.bk)(e2:ρ.off k=s.of)(e3:ρ.a a=s.l){y:Cl×IntKind×T}(h:y∈roN s.b k a):
    y.1.blk ρ w.heap.size<w.heap.size∧ ∀(j:Nat) v,(y.2.2.A Z ρ)[j]? =some v→w.cell? ⟨y.1.blk ρ w.heap.size,y.1.off ρ+j,none⟩=some (.int y.2.1 v):=by
  obtain ⟨hb,rfl⟩:=j54 h
  refine ⟨?_,fun j v hv=> ?_⟩
  · show ρ.blk k<_
    rw[e1];exact o.lt hb
  · have hv':(ρ.a a)[j]? =some v:=hv
    rw[e3] at hv'
    show w.cell? ⟨ρ.blk k,ρ.off k+j,none⟩=some (.int .u8 v)
    rw[e1,e2]
    exact o.cells hb j v hv'
theorem jek{ρ:Et}{w:World}{s:jd4}{a n c:Nat}(o:Yp w s)(e1:ρ.a a=s.l)(e2:ρ.i n=s.ln)(e3:ρ.i c=s.cp):Dx Z ρ (Tn s.b a n c):=by
  cases hb:s.b with
  | false=>exact Dx.nil
  | true=>
    simp only[Tn,Du,z0,Bi,Di,↓qA,qB,and_true,implies_true,T.I,T.A,T.B,VC.sem]
    rw[e1,e2,e3]
    exact ⟨o.len hb,o.cap hb,o.inn hb⟩
theorem jk7{ρ:Et}{B:Nat}{s:jd4}{k n c:Nat}(e0:ρ.blk k=s.bk)(e1:ρ.off k=s.of)(e2:ρ.i n=s.ln)(e3:ρ.i c=s.cp):(slN s.b k n c).den Z ρ B=s.val:=by
  unfold jd4.val
  cases hb:s.b with
  | false=>rfl
  | true=>
    show Value.slice (some ⟨ρ.blk k,ρ.off k+0+(0:Int).toNat,none⟩) (ρ.i n).toNat (ρ.i c).toNat=_
    rw[e0,e1,e2,e3,Int.toNat_natCast,Int.toNat_natCast]
    rfl
theorem jpc{ρ:Et}{b:Bool}{k n c:Nat}:(slN b k n c).wf Z ρ:=by cases b<;>trivial
def argsSl(a b c:Bool):List SR:=[slN a 0 20 9,slN b 1 24 10,slN c 2 27 11,.v (.one (cI (.iv 21))),.v (.one (cI (.iv 22))),.v (.one (cI (.iv 30)))]
def preSl(a b c:Bool):List T:=Tn a 5 20 9++(Tn b 6 24 10++(Tn c 7 27 11++(Di Jl (.iv 21) Jk++Di Jl (.iv 22) Jk++Di Jl (.iv 30) Jk)))
theorem Ep{f:Nat}{c:Hg}(G:List (Cl×IntKind×T))(s0 s1 s2:jd4){a1 a2 a3:Int}{w:World}(hc:Cf Tryz.prog Z f c)(ha:c.args=argsSl s0.b s1.b s2.b)(hhp:c.hp={rw:=[],ro:=roN s0.b 0 5++(roN s1.b 1 6++(roN s2.b 2 7++G)),nv:=1000})
    (hpre: ∀ρ,Dx Z ρ (preSl s0.b s1.b s2.b)→Dx Z ρ c.pre)(hv:c.val=.v (.one (.bool .tt)))(hh':c.hp'.rw=[])
    (hG: ∀ρ:Et,∀y∈G,y.1.blk ρ w.heap.size<w.heap.size∧ ∀(j:Nat) v,(y.2.2.A Z ρ)[j]? =some v→w.cell? ⟨y.1.blk ρ w.heap.size,y.1.off ρ+j,none⟩=some (.int y.2.1 v))
    (o0:Yp w s0)(o1:Yp w s1)(o2:Yp w s2)(w1:(Lit.int .i64 a1).wf=true)(w2:(Lit.int .i64 a2).wf=true)(w3:(Lit.int .i64 a3).wf=true):
    Calls Tryz.prog f #[s0.val,s1.val,s2.val,.int .i64 a1,.int .i64 a2,.int .i64 a3] w fun e w'=>e=.returned (.bool true)∧Below w.heap.size w w':=by
  let ρ:Et:=qlv s0 s1 s2 a1 a2 a3
  have hro: ∀y∈c.hp.ro,y.1.blk ρ w.heap.size<w.heap.size∧ ∀(j:Nat) v,(y.2.2.A Z ρ)[j]? =some v→w.cell? ⟨y.1.blk ρ w.heap.size,y.1.off ρ+j,none⟩=some (.int y.2.1 v):=by
    intro y hy
    rw[hhp] at hy
    rcases List.mem_append.1 hy with h|h
    · exact jpv (ρ:=ρ) o0 rfl rfl rfl h
    rcases List.mem_append.1 h with h|h
    · exact jpv (ρ:=ρ) o1 rfl rfl rfl h
    rcases List.mem_append.1 h with h|h
    · exact jpv (ρ:=ρ) o2 rfl rfl rfl h
    exact hG ρ y h
  have hHp:Cv Z ρ w c.hp w:=by
    refine ⟨?_,?_,?_,?_,fun y hy j v hv=>(hro y hy).2 j v hv,?_,fun y hy=>(hro y hy).1,?_,fun k _=>rfl,fun i _ _ _=>rfl,?_,rfl,rfl,rfl⟩
    all_goals rw[hhp]
    · intro x hx;cases hx
    · intro x hx;cases hx
    · intro x hx;cases hx
    · exact List.nodup_nil
    · intro x _ y hy;cases hy
    · rfl
    · intro o ho;cases ho
  have hmet:Dx Z ρ c.pre:=by
    refine hpre ρ (Co.2 ⟨jek (ρ:=ρ) o0 rfl rfl rfl,Co.2 ⟨jek (ρ:=ρ) o1 rfl rfl rfl,Co.2 ⟨jek (ρ:=ρ) o2 rfl rfl rfl,?_⟩⟩⟩)
    simp only[Lit.wf,Bool.and_eq_true,decide_eq_true_eq] at w1 w2 w3
    simp only[Jl,Jk,z0,Bi,Di,List.flatMap_cons,List.flatMap_nil,List.append_nil,List.append_assoc,List.cons_append,List.nil_append,and_true,↓qA,qB,and_true,implies_true,T.I,T.A,T.B,VC.sem]
    exact ⟨w1.1,w1.2,w2.1,w2.2,w3.1,w3.2⟩
  have:=hc ρ w w hHp hmet (by
    rw[ha];intro x hx
    simp only[argsSl,List.mem_cons,List.not_mem_nil,or_false] at hx
    rcases hx with rfl|rfl|rfl|rfl|rfl|rfl
    · exact jpc
    · exact jpc
    · exact jpc
    · trivial
    · trivial
    · trivial) (fun _=>rfl)
  rw[ha] at this
  have ea:((argsSl s0.b s1.b s2.b).map (SR.den Z ρ w.heap.size)).toArray= #[s0.val,s1.val,s2.val,.int .i64 a1,.int .i64 a2,.int .i64 a3]:=by
    simp only[argsSl,List.map_cons,List.map_nil]
    rw[jk7 (ρ:=ρ) (s:=s0) rfl rfl rfl rfl,jk7 (ρ:=ρ) (s:=s1) rfl rfl rfl rfl,jk7 (ρ:=ρ) (s:=s2) rfl rfl rfl rfl]
    rfl
  rw[ea] at this
  refine this.mono fun e w' ⟨ρ',q1,q2,q3,q4,q5⟩=>⟨?_,Uc q5 hh' (q1.loose.trans rfl)⟩
  rw[q4,hv];rfl
theorem jfr{w:World}(hg:Sy w)(ρ:Et): ∀y∈Vd,y.1.blk ρ w.heap.size<w.heap.size∧ ∀(j:Nat) v,(y.2.2.A Z ρ)[j]? =some v→w.cell? ⟨y.1.blk ρ w.heap.size,y.1.off ρ+j,none⟩=some (.int y.2.1 v):=by
  obtain ⟨g1,g2,g3⟩:=hg
  have l4:=Hb (g1 0 0 (by kernel_rfl))
  have l5:=Hb (g2 0 0 (by kernel_rfl))
  have l2:=Hb (g3 0 16 (by kernel_rfl))
  intro y hy
  simp only[Vd,roE,List.cons_append,List.nil_append,List.mem_cons,List.not_mem_nil,or_false] at hy
  rcases hy with rfl|rfl|rfl
  · refine ⟨l5,fun j v hv=> ?_⟩
    have:=g2 j v hv
    rw[show (Cl.off ρ (.glob 5))+j=j from Nat.zero_add j]
    exact this
  · refine ⟨l4,fun j v hv=> ?_⟩
    have:=g1 j v hv
    rw[show (Cl.off ρ (.glob 4))+j=j from Nat.zero_add j]
    exact this
  · refine ⟨l2,fun j v hv=> ?_⟩
    have:=g3 j v hv
    rw[show (Cl.off ρ (.glob 2))+j=j from Nat.zero_add j]
    exact this
end
def Zd:List (Cl×IntKind×T):=[(.glob 0,.i64,cA 47),(.glob 1,.i64,cA 45)]
def qfl(t:T):SR:=.v (.agg [.arr .i64 t 64])
def c21:Hg where
  args:=[slR (.ro 0) z0 (.iv 20) (.iv 9),.v (.one (cI (.iv 21))),.v (.one (cI (.iv 22))),.v (.one (cI (.iv 5))),.v (.one (cI (.iv 6)))]
  hp:={rw:=[],ro:=[(.ro 0,.u8,.av 5)],nv:=1000}
  pre:=jbb++ [.le (.iv 20) (.iv 9)]++Di z0 (.iv 5) (.lit 65535)++Di z0 (.iv 6) (.lit 65535)
  val:=qfl (jkx (.mul (.lit 8) (.iv 5)) (.mul (.lit 8) (.iv 6)))
  hp':={rw:=[],ro:=[(.ro 0,.u8,.av 5)]}
  post:=[]
  quiet:=false
def qiw:List SR→Hp→Option Jh:=En fun b fr _=>{
  lo:=16,hi:=46
  tr:=(15,.v (.one (cI (.iv b))))::Gq b 12 3
  rw:=[(Fl fr 11,[.arr .i64 (.av b) 64])]
  facts:=Di z0 (.iv b) (.lit 64)++ [.eq (.len (.av b)) (.lit 64),.aeq (.cut (.av b) z0 (.iv b)) (.cut (jkx (.mul (.lit 8) (.iv 5)) (.mul (.lit 8) (.iv 6))) z0 (.iv b))]
  meas:=.sub (.lit 64) (.iv b)
  quiet:=true}
def hfT(n x:T):T:=fA 600 n x z0 z0 (.av 0)
def cfT(n y:T):T:=fA 601 n y z0 z0 (.av 0)
def exT(k:T):T:=fA 602 k z0 z0 z0 (.av 0)
def c22:Hg where
  args:=[p0 (.old 0)]
  hp:={rw:=[(.old 0,⟨27,[.arr .i64 (.av 0) 64]⟩)],ro:=Zd,nv:=1000}
  pre:=[.eq (.len (.av 0)) (.lit 64),Du 0 255 (.av 0)]
  val:=qfl (fA 603 z0 z0 z0 z0 (.av 0))
  hp':={rw:=[(.old 0,⟨27,[.arr .i64 (.av 0) 64]⟩)],ro:=Zd}
  post:=[]
  quiet:=false
def qdp:List SR→Hp→Option Jh:=En fun b fr _=>{
  lo:=15,hi:=49
  tr:=(14,.v (.one (cI (.iv b))))::Gq b 6 3
  rw:=[(Fl fr 3,[.arr .i64 (hfT (.mul (.lit 8) (.iv b)) z0) 64])]
  facts:=Di z0 (.iv b) (.lit 8)
  meas:=.sub (.lit 8) (.iv b)
  quiet:=true}
def qaw:List SR→Hp→Option Jh:=En fun b fr _=>{
  lo:=18,hi:=48
  tr:=(17,.v (.one (cI (.iv b))))::Gq b 7 2
  rw:=[(Fl fr 3,[.arr .i64 (hfT (.add (.mul (.lit 8) (Js fr 6)) (.iv b)) z0) 64])]
  facts:=Di z0 (.iv b) (.lit 8)
  meas:=.sub (.lit 8) (.iv b)
  quiet:=true}
def qdx:List SR→Hp→Option Jh:=En fun b fr _=>{
  lo:=21,hi:=47
  tr:=(20,.v (.one (cI (.iv b))))::Gq b 8 1
  rw:=[(Fl fr 3,[.arr .i64 (hfT (.add (.mul (.lit 8) (Js fr 6)) (Js fr 7)) (.iv b)) 64])]
  facts:=Di z0 (.iv b) (.lit 8)
  meas:=.sub (.lit 8) (.iv b)
  quiet:=true}
def j9g:List SR→Hp→Option Jh:=En fun b fr _=>{
  lo:=50,hi:=81
  tr:=(49,.v (.one (cI (.iv b))))::Gq b 9 3
  rw:=[(Fl fr 4,[.arr .i64 (cfT (.mul (.lit 8) (.iv b)) z0) 64])]
  facts:=Di z0 (.iv b) (.lit 8)
  meas:=.sub (.lit 8) (.iv b)
  quiet:=true}
def qap:List SR→Hp→Option Jh:=En fun b fr _=>{
  lo:=53,hi:=80
  tr:=(52,.v (.one (cI (.iv b))))::Gq b 10 2
  rw:=[(Fl fr 4,[.arr .i64 (cfT (.add (.mul (.lit 8) (Js fr 9)) (.iv b)) z0) 64])]
  facts:=Di z0 (.iv b) (.lit 8)
  meas:=.sub (.lit 8) (.iv b)
  quiet:=true}
def qam:List SR→Hp→Option Jh:=En fun b fr _=>{
  lo:=56,hi:=79
  tr:=(55,.v (.one (cI (.iv b))))::Gq b 11 1
  rw:=[(Fl fr 4,[.arr .i64 (cfT (.add (.mul (.lit 8) (Js fr 9)) (Js fr 10)) (.iv b)) 64])]
  facts:=Di z0 (.iv b) (.lit 8)
  meas:=.sub (.lit 8) (.iv b)
  quiet:=true}
def qaa:List SR→Hp→Option Jh:=En fun b fr _=>{
  lo:=83,hi:=92
  tr:=(82,.v (.one (cI (.iv b))))::Gq b 12 2
  rw:=[(Fl fr 5,[.arr .i64 (exT (.iv b)) 64])]
  facts:=Di z0 (.iv b) (.lit 64)
  meas:=.sub (.lit 64) (.iv b)
  quiet:=true}
def j8a:Nat→Nat→Option (List SR→Hp→Option Jh):=fun f k=>match f,k with
  | 21,3=>some qiw
  | 22,3=>some qdp
  | 22,6=>some qaw
  | 22,9=>some qdx
  | 22,16=>some j9g
  | 22,19=>some qap
  | 22,22=>some qam
  | 22,29=>some qaa
  | _,_=>none
end
end Go.Proofs.YtljjbikbfeigdaaGreatDoor
