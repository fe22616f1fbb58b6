/- Part of the proof of FnColorEdgesCardSaid: Contracts of the encoder shown: bits and codes. -/
import Derived.Test.YtljjbikbfeigdaaGreatDoorCe08
set_option linter.all false
namespace Go.Proofs.YtljjbikbfeigdaaGreatDoor
noncomputable section
open Go
theorem j3g: ∀f s,qc1 f=some s→Dw Tryz.prog Z f s:=by
  intro f s h
  unfold qc1 at h
  split at h
  · cases h;exact Ce jdu
  · cases h;exact Ce jsg
  · cases h;exact Ce jkm
  · cases h
theorem qcx(x y:Int):0≤Dj .or .u32 x y∧Dj .or .u32 x y≤4294967295:=by
  unfold Dj
  simp only
  rw[IntKind.wrap_u32];omega
theorem jwj(b n:Int)(t:List Int):Z.fa 1 0 0 0 0 ([b]++([n]++t)) [] [] []=pk (emF t b n):=rfl
theorem jol(x y b n:Int)(t:List Int):Z.fa 3 x y 0 0 ([b]++([n]++t)) [] [] []=pk (jbk ⟨t,b,n⟩ x y):=rfl
def qhg:VC:=
 let t0:T:=.lit 0
 let t1:T:=.wrap .u32 (.add (.iv 11) (.iv 2))
 let t2:T:=.wrap .u32 (.sub (.lit 32) t1)
 let t3:T:=.bits .or .u32 (.wrap .u32 (.shl .u32 (.iv 10) t2)) (.iv 1)
 let t4:T:=.add (.mul (.lit 4) (.add (.len (.av 0)) (.iv 0))) (.lit 24)
 let t5:T:=.set (.alit [0]) t0 t3
 let t6:T:=.set (.alit [0]) t0 t1
 let t7:T:=.splice (.av 0) (.len (.av 0)) (.cut (.av 1) t0 (.iv 0))
 let t8:T:=.fa 1 t0 t0 t0 t0 (.splice t5 (.len t5) (.splice t6 (.len t6) t7)) (.alit []) (.alit []) (.alit [])
 let t9:T:=.add (.len (.av 1000)) (.iv 1002)
 let t10:T:=.splice (.av 1000) (.len (.av 1000)) (.cut (.av 1001) t0 (.iv 1002))
 let t11:T:=.splice (.set (.alit [0]) t0 (.iv 1000)) (.len (.set (.alit [0]) t0 (.iv 1000))) (.splice (.set (.alit [0]) t0 (.iv 1001)) (.len (.set (.alit [0]) t0 (.iv 1001))) t10)
 let t12:T:=.add (.len (.av 1500)) (.iv 1500)
 let t13:T:=.splice (.av 1500) (.len (.av 1500)) (.cut (.av 1501) t0 (.iv 1500))
 let t14:T:=.splice (.av 1900) (.len (.av 1900)) (.cut (.av 1901) t0 (.iv 1900))
 let t15:T:=.wrap .u32 (.mul (.iv 1000) (.lit 256))
 let t16:T:=.le t15 (.lit 4294967295)
 let t17:T:=.wrap .u32 (.sub (.iv 1001) (.lit 8))
 let t18:T:=.set (.alit [0]) t0 t15
 let t20:T:=.set (.alit [0]) t0 t17
 (.need [(.le t0 t2)] (.need [(.le t0 t3),(.le t3 (.lit 4294967295)),(.le t0 t1),(.le t1 (.lit 23)),(.le (.add (.mul (.lit 4) (.add (.len (.av 0)) (.iv 0))) t1) t4),(.aeq t8 t8)] (.any 1000 0 [(.le t0 (.iv 1000)),(.le (.iv 1000) (.lit 4294967295)),(.le t0 (.iv 1001)),(.le (.iv 1001) (.lit 23)),(.le t0 (.iv 1002)),(.le (.iv 1002) (.lit 4096)),(.eq (.len (.av 1001)) (.lit 4096)),(.le (.add (.mul (.lit 4) t9) (.iv 1001)) t4),(.aeq (.fa 1 t0 t0 t0 t0 t11 (.alit []) (.alit []) (.alit [])) t8)] (.cond (.le (.lit 8) (.iv 1001)) (.need [(.le (.add t9 (.lit 1)) (.lit 1000000000000))] (.any 1400 0 [(.eq t12 (.add t9 (.lit 1))),(.le t0 (.iv 1500)),(.le (.iv 1500) (.lit 4096)),(.eq (.len (.av 1501)) (.lit 4096)),(.aeq t13 (.splice t10 (.len t10) (.set (.alit [0]) t0 (.wrap .u8 (.shr .u32 (.iv 1000) (.lit 24))))))] (.cond (.eq (.wrap .u8 (.shr .u32 (.iv 1000) (.lit 24))) (.lit 255)) (.need [(.le (.add t12 (.lit 1)) (.lit 1000000000000))] (.any 1800 0 [(.eq (.add (.len (.av 1900)) (.iv 1900)) (.add t12 (.lit 1))),(.le t0 (.iv 1900)),(.le (.iv 1900) (.lit 4096)),(.eq (.len (.av 1901)) (.lit 4096)),(.aeq t14 (.splice t13 (.len t13) (.set (.alit [0]) t0 t0)))] (.need [(.le t0 t15),t16,(.le t0 t17),(.le t17 (.lit 23)),(.le (.add (.mul (.lit 4) (.add (.len (.av 1900)) (.iv 1900))) t17) t4),(.aeq (.fa 1 t0 t0 t0 t0 (.splice t18 (.len t18) (.splice t20 (.len t20) t14)) (.alit []) (.alit []) (.alit [])) t8),(.lt t0 (.iv 1001)),(.lt t17 (.iv 1001))] .done))) (.need [(.le t0 t15),t16,(.le t0 t17),(.le t17 (.lit 23)),(.le (.add (.mul (.lit 4) t12) t17) t4),(.aeq (.fa 1 t0 t0 t0 t0 (.splice t18 (.len t18) (.splice t20 (.len t20) t13)) (.alit []) (.alit []) (.alit [])) t8),(.lt t0 (.iv 1001)),(.lt t17 (.iv 1001))] .done)))) (.need [(.le (.iv 1001) (.lit 7)),(.le t9 (.add (.add (.len (.av 0)) (.iv 0)) (.lit 6))),(.aeq t11 (.fa 3 (.iv 10) (.iv 11) t0 t0 (.splice (.set (.alit [0]) t0 (.iv 1)) (.len (.set (.alit [0]) t0 (.iv 1))) (.splice (.set (.alit [0]) t0 (.iv 2)) (.len (.set (.alit [0]) t0 (.iv 2))) t7)) (.alit []) (.alit []) (.alit [])))] .done)))))
theorem w94:Dd (Db Tryz.prog Jt qc1 ⟨jr1,jnn⟩ 100000 94 c94) qhg=true:=by kernel_rfl
theorem jpo:Cf Tryz.prog Z 94 c94:=by
  refine Bf Cq j3g w94 fun ρ h=> ?_
  simp only[c94,eIn,hE,bE,jd7,hB,bW,Gl,Tt,ja2,Bi,Di,List.flatMap_cons,List.flatMap_nil,List.append_nil,List.append_assoc,List.cons_append,List.nil_append,and_true,↓qA,qB,and_true,implies_true,T.I,T.A,T.B,VC.sem] at h
  obtain ⟨h1,h2,h3,h4,h5,h6,h7,h8,h9,h10,h11,h12,h13,h14,h15⟩:=h
  have hn:IntKind.u32.wrap (ρ.i 11+ρ.i 2)=ρ.i 11+ρ.i 2:=by rw[IntKind.wrap_u32];omega
  have hn2:IntKind.u32.wrap (32-(ρ.i 11+ρ.i 2))=32-(ρ.i 11+ρ.i 2):=by rw[IntKind.wrap_u32];omega
  obtain ⟨o1,o2⟩:=qcx (IntKind.u32.wrap (ρ.i 10*2^min (32-(ρ.i 11+ρ.i 2)).toNat IntKind.u32.bits)) (ρ.i 1)
  simp only[qhg,Fb,hn,hn2,↓qA,qB,and_true,implies_true,T.I,T.A,T.B,VC.sem]
  (repeat' (first|refine And.intro ?_ ?_|intro _))<;>(try trivial)<;>(try omega)<;>(try (simp only[Tu,imx,Dk,IntKind.wrap_u32,IntKind.wrap_i32,IntKind.wrap_u8] at*;omega))
  · have hw:IntKind.u32.wrap (ρ.i 1001-8)=ρ.i 1001-8:=by rw[IntKind.wrap_u32];omega
    refine Eq.trans ?_ ‹Z.fa 1 0 0 0 0 ([ρ.i 1000]++_) [] [] []=_›
    rw[hw,‹ρ.a 1900++_=_›,‹ρ.a 1500++_=_›,jwj,jwj,jgu (t:=ρ.a 1000++_) (by omega)]
    simp[Oi,‹IntKind.u8.wrap (ρ.i 1000/16777216)=255›]
  · have hw:IntKind.u32.wrap (ρ.i 1001-8)=ρ.i 1001-8:=by rw[IntKind.wrap_u32];omega
    refine Eq.trans ?_ ‹Z.fa 1 0 0 0 0 ([ρ.i 1000]++_) [] [] []=_›
    rw[hw,‹ρ.a 1500++_=_›,jwj,jwj,jgu (t:=ρ.a 1000++_) (by omega)]
    simp[Oi,‹¬IntKind.u8.wrap (ρ.i 1000/16777216)=255›]
  · have:= ‹Z.fa 1 0 0 0 0 ([ρ.i 1000]++_) [] [] []=_›
    rw[jwj,js2 (by omega)] at this
    exact this
theorem Wn: ∀f s,jn3 f=some s→Dw Tryz.prog Z f s:=by
  intro f s h
  unfold jn3 at h
  split at h
  · cases h;exact Ce jpo
  · cases h
theorem Ea(x y a b:Int):cond (ilt x y) a b=if x<y then a else b:=by
  unfold ilt
  by_cases h:x<y<;>simp[h]
theorem jb4{v:Int}(h1: -2047≤v)(h2:v≤2047):(if v<0 then IntKind.i32.wrap (0-v) else v)=Fe v:=by
  unfold Fe;split
  · rw[IntKind.wrap_i32];omega
  · rfl
theorem je0{v:Int}(h:Fe v≤2047):(if Fe v<256 then IntKind.u32.wrap (Gj.getD (Fe v).toNat 0) else IntKind.u32.wrap (8+IntKind.u32.wrap (Gj.getD (Fe v/256).toNat 0)))=Gb v:=by
  have hs:=Mf h
  have hb: ∀i,0≤Gj.getD i 0∧Gj.getD i 0≤8:=by
    intro i
    have h1:Gj.all (fun x=>decide (0≤x)&&decide (x≤8))=true:=by decide+kernel
    rw[List.getD_eq_getElem?_getD]
    cases hi:Gj[i]? with
    | none=>simp
    | some x=>
      have:=List.all_eq_true.1 h1 x (List.mem_of_getElem? hi)
      simp only[Bool.and_eq_true,decide_eq_true_eq] at this
      exact this
  unfold Gb
  split
  · have:=hb (Fe v).toNat
    rw[IntKind.wrap_u32];omega
  · have:=hb (Fe v/256).toNat
    rw[IntKind.wrap_u32,IntKind.wrap_u32];omega
theorem js8{v:Int}(h:Fe v≤2047):Dj .and .u32 (IntKind.u32.wrap (if v<0 then IntKind.i32.wrap (v-1) else v)) (IntKind.u32.wrap (IntKind.u32.wrap (1*2^min (Gb v).toNat IntKind.u32.bits)-1))=(if v<0 then v-1 else v) % 2^(Gb v).toNat:=by
  obtain ⟨k1,k2,k3,k4,k5⟩:=Mf h
  have hm:min (Gb v).toNat IntKind.u32.bits=(Gb v).toNat:=by show min _ 32=_;omega
  have hn:(Gb v).toNat≤11:=by omega
  rw[hm,Int.one_mul]
  generalize (Gb v).toNat=n at*
  have p1:(2:Int)^n≤2048:=by
    have:=Nat.pow_le_pow_right (show 0<2 by omega) hn
    have e:((2^n:Nat):Int)=(2:Int)^n:=by simp
    omega
  have p2:(1:Int)≤2^n:=by
    have:=Nat.pow_pos (n:=n) (show 0<2 by omega)
    have e:((2^n:Nat):Int)=(2:Int)^n:=by simp
    omega
  have hv:(if v<0 then IntKind.i32.wrap (v-1) else v)=(if v<0 then v-1 else v):=by
    have: -2047≤v∧v≤2047:=by unfold Fe at h;split at h<;>omega
    split
    · rw[IntKind.wrap_i32];omega
    · rfl
  rw[hv]
  generalize (if v<0 then v-1 else v)=b
  have w1:IntKind.u32.wrap ((2:Int)^n)=2^n:=by rw[IntKind.wrap_u32];omega
  have w2:IntKind.u32.wrap ((2:Int)^n-1)=2^n-1:=by rw[IntKind.wrap_u32];omega
  rw[w1,w2,jn5 (by rw[IntKind.wrap_u32];omega) (by rw[IntKind.wrap_u32];omega) (by omega),IntKind.wrap_u32]
  have hd:((2:Int)^n)∣4294967296:=by
    have:(4294967296:Int)=2^n*2^(32-n):=by rw[←Int.pow_add,show n+(32-n)=32 from by omega];rfl
    rw[this];exact Int.dvd_mul_right _ _
  exact Int.emod_emod_of_dvd _ hd
theorem jhh(x y:Int)(L:List Int):Z.fa 3 x y 0 0 L [] [] []=pk (jbk (up L) x y):=rfl
theorem jtz:Z.fa 44 0 0 0 0 [] [] [] []=Gj:=rfl
theorem jid(h:Nat)(hh:h=0∨h=1∨h=2∨h=3):Z.fa (40+h) 0 0 0 0 [] [] [] []=Kv.getD h []:=by
  rcases hh with rfl|rfl|rfl|rfl<;>rfl
theorem jct(h:Nat)(x y b n:Int)(t:List Int)(hh:h=0∨h=1∨h=2∨h=3):Z.fa (10+h) x y 0 0 ([b]++([n]++t)) [] [] []=pk (Pu h ⟨t,b,n⟩ x y):=by
  rcases hh with rfl|rfl|rfl|rfl<;>rfl
def jsy:VC:=
 let t0:T:=.lit 0
 let t1:T:=.ite (.lt (.iv 11) t0) (.wrap .i32 (.sub t0 (.iv 11))) (.iv 11)
 let t2:T:=.lt t1 (.lit 256)
 let t4:T:=.or (.not t2) (.le t0 t1)
 let t5:T:=.alit []
 let t6:T:=.fa 44 t0 t0 t0 t0 t5 t5 t5 t5
 let t8:T:=.shr .i32 t1 (.lit 8)
 let t9:T:=.or t2 (.le t0 t8)
 let t10:T:=.ite t2 (.wrap .u32 (.get t6 t1)) (.wrap .u32 (.add (.lit 8) (.wrap .u32 (.get t6 t8))))
 let t11:T:=.bits .or .i32 (.wrap .i32 (.mul (.iv 10) (.lit 16))) (.wrap .i32 t10)
 let t12:T:=.get (.fa 40 t0 t0 t0 t0 t5 t5 t5 t5) t11
 let t13:T:=.bits .and .u32 t12 (.lit 16777215)
 let t14:T:=.shr .u32 t12 (.lit 24)
 let t15:T:=.add (.len (.av 1100)) (.iv 1100)
 let t16:T:=.splice (.set (.alit [0]) t0 (.iv 1101)) (.len (.set (.alit [0]) t0 (.iv 1101))) (.splice (.set (.alit [0]) t0 (.iv 1102)) (.len (.set (.alit [0]) t0 (.iv 1102))) (.splice (.av 1100) (.len (.av 1100)) (.cut (.av 1101) t0 (.iv 1100))))
 let t17:T:=.splice (.set (.alit [0]) t0 (.iv 1)) (.len (.set (.alit [0]) t0 (.iv 1))) (.splice (.set (.alit [0]) t0 (.iv 2)) (.len (.set (.alit [0]) t0 (.iv 2))) (.splice (.av 0) (.len (.av 0)) (.cut (.av 1) t0 (.iv 0))))
 let t18:T:=.bits .and .u32 (.wrap .u32 (.ite (.lt (.iv 11) t0) (.wrap .i32 (.sub (.iv 11) (.lit 1))) (.iv 11))) (.wrap .u32 (.sub (.wrap .u32 (.shl .u32 (.lit 1) t10)) (.lit 1)))
 let t19:T:=.splice (.set (.alit [0]) t0 (.iv 1501)) (.len (.set (.alit [0]) t0 (.iv 1501))) (.splice (.set (.alit [0]) t0 (.iv 1502)) (.len (.set (.alit [0]) t0 (.iv 1502))) (.splice (.av 1500) (.len (.av 1500)) (.cut (.av 1501) t0 (.iv 1500))))
 let t20:T:=.fa 10 (.iv 10) (.iv 11) t0 t0 t17 t5 t5 t5
 (.need [t4,(.or (.not t2) t2),t4,(.or (.not t2) (.lt t1 (.len t6))),t9,(.or t2 (.lt t8 (.lit 256))),t9,(.or t2 (.lt t8 (.len t6)))] (.need [(.le t0 t11),(.lt t11 (.lit 12))] (.need [(.le (.add (.add (.len (.av 0)) (.iv 0)) (.lit 6)) (.lit 1000000000000)),(.le t0 t13),(.le t13 (.lit 65535)),(.le t0 t14),(.le t14 (.lit 16))] (.any 1000 0 [(.le t0 (.iv 1100)),(.le (.iv 1100) (.lit 4096)),(.eq (.len (.av 1101)) (.lit 4096)),(.le t0 (.iv 1101)),(.le (.iv 1101) (.lit 4294967295)),(.le t0 (.iv 1102)),(.le (.iv 1102) (.lit 7)),(.le t15 (.add (.add (.len (.av 0)) (.iv 0)) (.lit 6))),(.aeq t16 (.fa 3 t13 t14 t0 t0 t17 t5 t5 t5))] (.cond (.lt t0 t10) (.need [(.le t0 t10)] (.need [(.le (.add t15 (.lit 6)) (.lit 1000000000000)),(.le t0 t18),(.le t18 (.lit 65535)),(.le t10 (.lit 16))] (.any 1400 0 [(.le t0 (.iv 1500)),(.le (.iv 1500) (.lit 4096)),(.eq (.len (.av 1501)) (.lit 4096)),(.le t0 (.iv 1501)),(.le (.iv 1501) (.lit 4294967295)),(.le t0 (.iv 1502)),(.le (.iv 1502) (.lit 7)),(.le (.add (.len (.av 1500)) (.iv 1500)) (.add t15 (.lit 6))),(.aeq t19 (.fa 3 t18 t10 t0 t0 t16 t5 t5 t5))] (.need [(.le (.add (.len (.av 1500)) (.iv 1500)) (.add (.add (.len (.av 0)) (.iv 0)) (.lit 12))),(.aeq t19 t20)] .done)))) (.need [(.le t15 (.add (.add (.len (.av 0)) (.iv 0)) (.lit 12))),(.aeq t16 t20)] .done))))))
theorem qa9:Dd (Db Tryz.prog Jt jn3 ⟨jr1,jnn⟩ 100000 109 (Wt 0 0 2047)) jsy=true:=by kernel_rfl
set_option maxRecDepth 20000 in
theorem jvq:Cf Tryz.prog Z 109 (Wt 0 0 2047):=by
  refine Bf Cq Wn qa9 fun ρ h=> ?_
  simp only[Wt,eIn,hE,bE,jd7,hB,bW,Gl,Tt,ja2,cA,fA,z0,Bi,Di,List.flatMap_cons,List.flatMap_nil,List.append_nil,List.append_assoc,List.cons_append,List.nil_append,and_true,↓qA,qB,and_true,implies_true,T.I,T.A,T.B,VC.sem] at h
  obtain ⟨h1,h2,h3,h4,h5,h6,h7,h8,h9,h10,h11,h12,h13,h14,h15,h16,h17,h18,h19⟩:=h
  have hab:Fe (ρ.i 11)≤2047:=by unfold Fe;split<;>omega
  have hab0:0≤Fe (ρ.i 11):=by unfold Fe;split<;>omega
  obtain ⟨k1,k2,k3,k4,k5⟩:=Mf (v:=ρ.i 11) (by omega)
  have k3:=k3
  have e1:=jb4 (v:=ρ.i 11) (by omega) (by omega)
  have e2:=je0 (v:=ρ.i 11) (by omega)
  have e3:IntKind.i32.wrap (Gb (ρ.i 11))=Gb (ρ.i 11):=by rw[IntKind.wrap_i32];omega
  have e4:IntKind.i32.wrap (ρ.i 10*16)=ρ.i 10*16:=by rw[IntKind.wrap_i32];omega
  have e5:=j51 (r:=ρ.i 10) (n:=Gb (ρ.i 11)) (by omega) (by omega) (by omega) (by omega)
  have e7:Z.fa 40 0 0 0 0 [] [] [] []=Kv.getD 0 []:=jid 0 (by omega)
  obtain ⟨l1,l2,l3⟩:=Rp 0 (by omega) (ρ.i 10*16+Gb (ρ.i 11)).toNat
  have e8:=jhl (x:=(Kv.getD 0 []).getD (ρ.i 10*16+Gb (ρ.i 11)).toNat 0) (by omega) (by omega)
  have e9:=js8 (v:=ρ.i 11) (by omega)
  have hbl:((Z.fa 44 0 0 0 0 [] [] [] []).length:Int)=256:=rfl
  have hm:0≤(if ρ.i 11<0 then ρ.i 11-1 else ρ.i 11) % 2^(Gb (ρ.i 11)).toNat∧(if ρ.i 11<0 then ρ.i 11-1 else ρ.i 11) % 2^(Gb (ρ.i 11)).toNat≤65535:=by
    have p2:(0:Int)<2^(Gb (ρ.i 11)).toNat:=Int.pow_pos (by omega)
    have p1:(2:Int)^(Gb (ρ.i 11)).toNat≤4096:=by
      by_cases hz:ρ.i 11=0
      · rw[hz];decide
      · have:=k5 hz;omega
    have:=Int.emod_lt_of_pos (if ρ.i 11<0 then ρ.i 11-1 else ρ.i 11) p2
    have:=Int.emod_nonneg (if ρ.i 11<0 then ρ.i 11-1 else ρ.i 11) (Int.ne_of_gt p2)
    omega
  rw[←jtz] at e2
  rw[←e7] at e8 l1 l2 l3
  simp only[jsy,Fb,↓qA,qB,and_true,implies_true,T.I,T.A,T.B,VC.sem,Ea,e1,e2,e3,e4,e5,e8,e9,hbl]
  (repeat' (first|refine And.intro ?_ ?_|intro _))<;>(try trivial)<;>(try omega)<;>(try (simp only[Tu,imx,Dk,IntKind.wrap_u32,IntKind.wrap_i32,IntKind.wrap_u8] at*;omega))
  · rw[‹[ρ.i 1501]++_=_›,jhh,‹[ρ.i 1101]++_=_›,jol,Lc]
    refine Eq.trans ?_ (jct 0 _ _ _ _ _ (by omega)).symm
    unfold Pu
    rw[if_pos (show 0<Gb (ρ.i 11) by omega),←e7]
  · rw[‹[ρ.i 1101]++_=_›,jol]
    refine Eq.trans ?_ (jct 0 _ _ _ _ _ (by omega)).symm
    unfold Pu
    rw[if_neg (show ¬0<Gb (ρ.i 11) by omega),←e7]
def js3:VC:=
 let t0:T:=.lit 0
 let t1:T:=.ite (.lt (.iv 11) t0) (.wrap .i32 (.sub t0 (.iv 11))) (.iv 11)
 let t2:T:=.lt t1 (.lit 256)
 let t4:T:=.or (.not t2) (.le t0 t1)
 let t5:T:=.alit []
 let t6:T:=.fa 44 t0 t0 t0 t0 t5 t5 t5 t5
 let t8:T:=.shr .i32 t1 (.lit 8)
 let t9:T:=.or t2 (.le t0 t8)
 let t10:T:=.ite t2 (.wrap .u32 (.get t6 t1)) (.wrap .u32 (.add (.lit 8) (.wrap .u32 (.get t6 t8))))
 let t11:T:=.bits .or .i32 (.wrap .i32 (.mul (.iv 10) (.lit 16))) (.wrap .i32 t10)
 let t12:T:=.get (.fa 41 t0 t0 t0 t0 t5 t5 t5 t5) t11
 let t13:T:=.bits .and .u32 t12 (.lit 16777215)
 let t14:T:=.shr .u32 t12 (.lit 24)
 let t15:T:=.add (.len (.av 1100)) (.iv 1100)
 let t16:T:=.splice (.set (.alit [0]) t0 (.iv 1101)) (.len (.set (.alit [0]) t0 (.iv 1101))) (.splice (.set (.alit [0]) t0 (.iv 1102)) (.len (.set (.alit [0]) t0 (.iv 1102))) (.splice (.av 1100) (.len (.av 1100)) (.cut (.av 1101) t0 (.iv 1100))))
 let t17:T:=.splice (.set (.alit [0]) t0 (.iv 1)) (.len (.set (.alit [0]) t0 (.iv 1))) (.splice (.set (.alit [0]) t0 (.iv 2)) (.len (.set (.alit [0]) t0 (.iv 2))) (.splice (.av 0) (.len (.av 0)) (.cut (.av 1) t0 (.iv 0))))
 let t18:T:=.bits .and .u32 (.wrap .u32 (.ite (.lt (.iv 11) t0) (.wrap .i32 (.sub (.iv 11) (.lit 1))) (.iv 11))) (.wrap .u32 (.sub (.wrap .u32 (.shl .u32 (.lit 1) t10)) (.lit 1)))
 let t19:T:=.splice (.set (.alit [0]) t0 (.iv 1501)) (.len (.set (.alit [0]) t0 (.iv 1501))) (.splice (.set (.alit [0]) t0 (.iv 1502)) (.len (.set (.alit [0]) t0 (.iv 1502))) (.splice (.av 1500) (.len (.av 1500)) (.cut (.av 1501) t0 (.iv 1500))))
 let t20:T:=.fa 11 (.iv 10) (.iv 11) t0 t0 t17 t5 t5 t5
 (.need [t4,(.or (.not t2) t2),t4,(.or (.not t2) (.lt t1 (.len t6))),t9,(.or t2 (.lt t8 (.lit 256))),t9,(.or t2 (.lt t8 (.len t6)))] (.need [(.le t0 t11),(.lt t11 (.lit 251))] (.need [(.le (.add (.add (.len (.av 0)) (.iv 0)) (.lit 6)) (.lit 1000000000000)),(.le t0 t13),(.le t13 (.lit 65535)),(.le t0 t14),(.le t14 (.lit 16))] (.any 1000 0 [(.le t0 (.iv 1100)),(.le (.iv 1100) (.lit 4096)),(.eq (.len (.av 1101)) (.lit 4096)),(.le t0 (.iv 1101)),(.le (.iv 1101) (.lit 4294967295)),(.le t0 (.iv 1102)),(.le (.iv 1102) (.lit 7)),(.le t15 (.add (.add (.len (.av 0)) (.iv 0)) (.lit 6))),(.aeq t16 (.fa 3 t13 t14 t0 t0 t17 t5 t5 t5))] (.cond (.lt t0 t10) (.need [(.le t0 t10)] (.need [(.le (.add t15 (.lit 6)) (.lit 1000000000000)),(.le t0 t18),(.le t18 (.lit 65535)),(.le t10 (.lit 16))] (.any 1400 0 [(.le t0 (.iv 1500)),(.le (.iv 1500) (.lit 4096)),(.eq (.len (.av 1501)) (.lit 4096)),(.le t0 (.iv 1501)),(.le (.iv 1501) (.lit 4294967295)),(.le t0 (.iv 1502)),(.le (.iv 1502) (.lit 7)),(.le (.add (.len (.av 1500)) (.iv 1500)) (.add t15 (.lit 6))),(.aeq t19 (.fa 3 t18 t10 t0 t0 t16 t5 t5 t5))] (.need [(.le (.add (.len (.av 1500)) (.iv 1500)) (.add (.add (.len (.av 0)) (.iv 0)) (.lit 12))),(.aeq t19 t20)] .done)))) (.need [(.le t15 (.add (.add (.len (.av 0)) (.iv 0)) (.lit 12))),(.aeq t16 t20)] .done))))))
theorem qc4:Dd (Db Tryz.prog Jt jn3 ⟨jr1,jnn⟩ 100000 109 (Wt 1 15 1023)) js3=true:=by kernel_rfl
set_option maxRecDepth 20000 in
theorem jv2:Cf Tryz.prog Z 109 (Wt 1 15 1023):=by
  refine Bf Cq Wn qc4 fun ρ h=> ?_
  simp only[Wt,eIn,hE,bE,jd7,hB,bW,Gl,Tt,ja2,cA,fA,z0,Bi,Di,List.flatMap_cons,List.flatMap_nil,List.append_nil,List.append_assoc,List.cons_append,List.nil_append,and_true,↓qA,qB,and_true,implies_true,T.I,T.A,T.B,VC.sem] at h
  obtain ⟨h1,h2,h3,h4,h5,h6,h7,h8,h9,h10,h11,h12,h13,h14,h15,h16,h17,h18,h19⟩:=h
  have hab:Fe (ρ.i 11)≤1023:=by unfold Fe;split<;>omega
  have hab0:0≤Fe (ρ.i 11):=by unfold Fe;split<;>omega
  obtain ⟨k1,k2,k3,k4,k5⟩:=Mf (v:=ρ.i 11) (by omega)
  have k3:=k3
  have e1:=jb4 (v:=ρ.i 11) (by omega) (by omega)
  have e2:=je0 (v:=ρ.i 11) (by omega)
  have e3:IntKind.i32.wrap (Gb (ρ.i 11))=Gb (ρ.i 11):=by rw[IntKind.wrap_i32];omega
  have e4:IntKind.i32.wrap (ρ.i 10*16)=ρ.i 10*16:=by rw[IntKind.wrap_i32];omega
  have e5:=j51 (r:=ρ.i 10) (n:=Gb (ρ.i 11)) (by omega) (by omega) (by omega) (by omega)
  have e7:Z.fa 41 0 0 0 0 [] [] [] []=Kv.getD 1 []:=jid 1 (by omega)
  obtain ⟨l1,l2,l3⟩:=Rp 1 (by omega) (ρ.i 10*16+Gb (ρ.i 11)).toNat
  have e8:=jhl (x:=(Kv.getD 1 []).getD (ρ.i 10*16+Gb (ρ.i 11)).toNat 0) (by omega) (by omega)
  have e9:=js8 (v:=ρ.i 11) (by omega)
  have hbl:((Z.fa 44 0 0 0 0 [] [] [] []).length:Int)=256:=rfl
  have hm:0≤(if ρ.i 11<0 then ρ.i 11-1 else ρ.i 11) % 2^(Gb (ρ.i 11)).toNat∧(if ρ.i 11<0 then ρ.i 11-1 else ρ.i 11) % 2^(Gb (ρ.i 11)).toNat≤65535:=by
    have p2:(0:Int)<2^(Gb (ρ.i 11)).toNat:=Int.pow_pos (by omega)
    have p1:(2:Int)^(Gb (ρ.i 11)).toNat≤4096:=by
      by_cases hz:ρ.i 11=0
      · rw[hz];decide
      · have:=k5 hz;omega
    have:=Int.emod_lt_of_pos (if ρ.i 11<0 then ρ.i 11-1 else ρ.i 11) p2
    have:=Int.emod_nonneg (if ρ.i 11<0 then ρ.i 11-1 else ρ.i 11) (Int.ne_of_gt p2)
    omega
  rw[←jtz] at e2
  rw[←e7] at e8 l1 l2 l3
  simp only[js3,Fb,↓qA,qB,and_true,implies_true,T.I,T.A,T.B,VC.sem,Ea,e1,e2,e3,e4,e5,e8,e9,hbl]
  (repeat' (first|refine And.intro ?_ ?_|intro _))<;>(try trivial)<;>(try omega)<;>(try (simp only[Tu,imx,Dk,IntKind.wrap_u32,IntKind.wrap_i32,IntKind.wrap_u8] at*;omega))
  · rw[‹[ρ.i 1501]++_=_›,jhh,‹[ρ.i 1101]++_=_›,jol,Lc]
    refine Eq.trans ?_ (jct 1 _ _ _ _ _ (by omega)).symm
    unfold Pu
    rw[if_pos (show 0<Gb (ρ.i 11) by omega),←e7]
  · rw[‹[ρ.i 1101]++_=_›,jol]
    refine Eq.trans ?_ (jct 1 _ _ _ _ _ (by omega)).symm
    unfold Pu
    rw[if_neg (show ¬0<Gb (ρ.i 11) by omega),←e7]
def jto:VC:=
 let t0:T:=.lit 0
 let t1:T:=.ite (.lt (.iv 11) t0) (.wrap .i32 (.sub t0 (.iv 11))) (.iv 11)
 let t2:T:=.lt t1 (.lit 256)
 let t4:T:=.or (.not t2) (.le t0 t1)
 let t5:T:=.alit []
 let t6:T:=.fa 44 t0 t0 t0 t0 t5 t5 t5 t5
 let t8:T:=.shr .i32 t1 (.lit 8)
 let t9:T:=.or t2 (.le t0 t8)
 let t10:T:=.ite t2 (.wrap .u32 (.get t6 t1)) (.wrap .u32 (.add (.lit 8) (.wrap .u32 (.get t6 t8))))
 let t11:T:=.bits .or .i32 (.wrap .i32 (.mul (.iv 10) (.lit 16))) (.wrap .i32 t10)
 let t12:T:=.get (.fa 42 t0 t0 t0 t0 t5 t5 t5 t5) t11
 let t13:T:=.bits .and .u32 t12 (.lit 16777215)
 let t14:T:=.shr .u32 t12 (.lit 24)
 let t15:T:=.add (.len (.av 1100)) (.iv 1100)
 let t16:T:=.splice (.set (.alit [0]) t0 (.iv 1101)) (.len (.set (.alit [0]) t0 (.iv 1101))) (.splice (.set (.alit [0]) t0 (.iv 1102)) (.len (.set (.alit [0]) t0 (.iv 1102))) (.splice (.av 1100) (.len (.av 1100)) (.cut (.av 1101) t0 (.iv 1100))))
 let t17:T:=.splice (.set (.alit [0]) t0 (.iv 1)) (.len (.set (.alit [0]) t0 (.iv 1))) (.splice (.set (.alit [0]) t0 (.iv 2)) (.len (.set (.alit [0]) t0 (.iv 2))) (.splice (.av 0) (.len (.av 0)) (.cut (.av 1) t0 (.iv 0))))
 let t18:T:=.bits .and .u32 (.wrap .u32 (.ite (.lt (.iv 11) t0) (.wrap .i32 (.sub (.iv 11) (.lit 1))) (.iv 11))) (.wrap .u32 (.sub (.wrap .u32 (.shl .u32 (.lit 1) t10)) (.lit 1)))
 let t19:T:=.splice (.set (.alit [0]) t0 (.iv 1501)) (.len (.set (.alit [0]) t0 (.iv 1501))) (.splice (.set (.alit [0]) t0 (.iv 1502)) (.len (.set (.alit [0]) t0 (.iv 1502))) (.splice (.av 1500) (.len (.av 1500)) (.cut (.av 1501) t0 (.iv 1500))))
 let t20:T:=.fa 12 (.iv 10) (.iv 11) t0 t0 t17 t5 t5 t5
 (.need [t4,(.or (.not t2) t2),t4,(.or (.not t2) (.lt t1 (.len t6))),t9,(.or t2 (.lt t8 (.lit 256))),t9,(.or t2 (.lt t8 (.len t6)))] (.need [(.le t0 t11),(.lt t11 (.lit 12))] (.need [(.le (.add (.add (.len (.av 0)) (.iv 0)) (.lit 6)) (.lit 1000000000000)),(.le t0 t13),(.le t13 (.lit 65535)),(.le t0 t14),(.le t14 (.lit 16))] (.any 1000 0 [(.le t0 (.iv 1100)),(.le (.iv 1100) (.lit 4096)),(.eq (.len (.av 1101)) (.lit 4096)),(.le t0 (.iv 1101)),(.le (.iv 1101) (.lit 4294967295)),(.le t0 (.iv 1102)),(.le (.iv 1102) (.lit 7)),(.le t15 (.add (.add (.len (.av 0)) (.iv 0)) (.lit 6))),(.aeq t16 (.fa 3 t13 t14 t0 t0 t17 t5 t5 t5))] (.cond (.lt t0 t10) (.need [(.le t0 t10)] (.need [(.le (.add t15 (.lit 6)) (.lit 1000000000000)),(.le t0 t18),(.le t18 (.lit 65535)),(.le t10 (.lit 16))] (.any 1400 0 [(.le t0 (.iv 1500)),(.le (.iv 1500) (.lit 4096)),(.eq (.len (.av 1501)) (.lit 4096)),(.le t0 (.iv 1501)),(.le (.iv 1501) (.lit 4294967295)),(.le t0 (.iv 1502)),(.le (.iv 1502) (.lit 7)),(.le (.add (.len (.av 1500)) (.iv 1500)) (.add t15 (.lit 6))),(.aeq t19 (.fa 3 t18 t10 t0 t0 t16 t5 t5 t5))] (.need [(.le (.add (.len (.av 1500)) (.iv 1500)) (.add (.add (.len (.av 0)) (.iv 0)) (.lit 12))),(.aeq t19 t20)] .done)))) (.need [(.le t15 (.add (.add (.len (.av 0)) (.iv 0)) (.lit 12))),(.aeq t16 t20)] .done))))))
theorem qcr:Dd (Db Tryz.prog Jt jn3 ⟨jr1,jnn⟩ 100000 109 (Wt 2 0 2047)) jto=true:=by kernel_rfl
set_option maxRecDepth 20000 in
theorem jvw:Cf Tryz.prog Z 109 (Wt 2 0 2047):=by
  refine Bf Cq Wn qcr fun ρ h=> ?_
  simp only[Wt,eIn,hE,bE,jd7,hB,bW,Gl,Tt,ja2,cA,fA,z0,Bi,Di,List.flatMap_cons,List.flatMap_nil,List.append_nil,List.append_assoc,List.cons_append,List.nil_append,and_true,↓qA,qB,and_true,implies_true,T.I,T.A,T.B,VC.sem] at h
  obtain ⟨h1,h2,h3,h4,h5,h6,h7,h8,h9,h10,h11,h12,h13,h14,h15,h16,h17,h18,h19⟩:=h
  have hab:Fe (ρ.i 11)≤2047:=by unfold Fe;split<;>omega
  have hab0:0≤Fe (ρ.i 11):=by unfold Fe;split<;>omega
  obtain ⟨k1,k2,k3,k4,k5⟩:=Mf (v:=ρ.i 11) (by omega)
  have k3:=k3
  have e1:=jb4 (v:=ρ.i 11) (by omega) (by omega)
  have e2:=je0 (v:=ρ.i 11) (by omega)
  have e3:IntKind.i32.wrap (Gb (ρ.i 11))=Gb (ρ.i 11):=by rw[IntKind.wrap_i32];omega
  have e4:IntKind.i32.wrap (ρ.i 10*16)=ρ.i 10*16:=by rw[IntKind.wrap_i32];omega
  have e5:=j51 (r:=ρ.i 10) (n:=Gb (ρ.i 11)) (by omega) (by omega) (by omega) (by omega)
  have e7:Z.fa 42 0 0 0 0 [] [] [] []=Kv.getD 2 []:=jid 2 (by omega)
  obtain ⟨l1,l2,l3⟩:=Rp 2 (by omega) (ρ.i 10*16+Gb (ρ.i 11)).toNat
  have e8:=jhl (x:=(Kv.getD 2 []).getD (ρ.i 10*16+Gb (ρ.i 11)).toNat 0) (by omega) (by omega)
  have e9:=js8 (v:=ρ.i 11) (by omega)
  have hbl:((Z.fa 44 0 0 0 0 [] [] [] []).length:Int)=256:=rfl
  have hm:0≤(if ρ.i 11<0 then ρ.i 11-1 else ρ.i 11) % 2^(Gb (ρ.i 11)).toNat∧(if ρ.i 11<0 then ρ.i 11-1 else ρ.i 11) % 2^(Gb (ρ.i 11)).toNat≤65535:=by
    have p2:(0:Int)<2^(Gb (ρ.i 11)).toNat:=Int.pow_pos (by omega)
    have p1:(2:Int)^(Gb (ρ.i 11)).toNat≤4096:=by
      by_cases hz:ρ.i 11=0
      · rw[hz];decide
      · have:=k5 hz;omega
    have:=Int.emod_lt_of_pos (if ρ.i 11<0 then ρ.i 11-1 else ρ.i 11) p2
    have:=Int.emod_nonneg (if ρ.i 11<0 then ρ.i 11-1 else ρ.i 11) (Int.ne_of_gt p2)
    omega
  rw[←jtz] at e2
  rw[←e7] at e8 l1 l2 l3
  simp only[jto,Fb,↓qA,qB,and_true,implies_true,T.I,T.A,T.B,VC.sem,Ea,e1,e2,e3,e4,e5,e8,e9,hbl]
  (repeat' (first|refine And.intro ?_ ?_|intro _))<;>(try trivial)<;>(try omega)<;>(try (simp only[Tu,imx,Dk,IntKind.wrap_u32,IntKind.wrap_i32,IntKind.wrap_u8] at*;omega))
  · rw[‹[ρ.i 1501]++_=_›,jhh,‹[ρ.i 1101]++_=_›,jol,Lc]
    refine Eq.trans ?_ (jct 2 _ _ _ _ _ (by omega)).symm
    unfold Pu
    rw[if_pos (show 0<Gb (ρ.i 11) by omega),←e7]
  · rw[‹[ρ.i 1101]++_=_›,jol]
    refine Eq.trans ?_ (jct 2 _ _ _ _ _ (by omega)).symm
    unfold Pu
    rw[if_neg (show ¬0<Gb (ρ.i 11) by omega),←e7]
def jts:VC:=
 let t0:T:=.lit 0
 let t1:T:=.ite (.lt (.iv 11) t0) (.wrap .i32 (.sub t0 (.iv 11))) (.iv 11)
 let t2:T:=.lt t1 (.lit 256)
 let t4:T:=.or (.not t2) (.le t0 t1)
 let t5:T:=.alit []
 let t6:T:=.fa 44 t0 t0 t0 t0 t5 t5 t5 t5
 let t8:T:=.shr .i32 t1 (.lit 8)
 let t9:T:=.or t2 (.le t0 t8)
 let t10:T:=.ite t2 (.wrap .u32 (.get t6 t1)) (.wrap .u32 (.add (.lit 8) (.wrap .u32 (.get t6 t8))))
 let t11:T:=.bits .or .i32 (.wrap .i32 (.mul (.iv 10) (.lit 16))) (.wrap .i32 t10)
 let t12:T:=.get (.fa 43 t0 t0 t0 t0 t5 t5 t5 t5) t11
 let t13:T:=.bits .and .u32 t12 (.lit 16777215)
 let t14:T:=.shr .u32 t12 (.lit 24)
 let t15:T:=.add (.len (.av 1100)) (.iv 1100)
 let t16:T:=.splice (.set (.alit [0]) t0 (.iv 1101)) (.len (.set (.alit [0]) t0 (.iv 1101))) (.splice (.set (.alit [0]) t0 (.iv 1102)) (.len (.set (.alit [0]) t0 (.iv 1102))) (.splice (.av 1100) (.len (.av 1100)) (.cut (.av 1101) t0 (.iv 1100))))
 let t17:T:=.splice (.set (.alit [0]) t0 (.iv 1)) (.len (.set (.alit [0]) t0 (.iv 1))) (.splice (.set (.alit [0]) t0 (.iv 2)) (.len (.set (.alit [0]) t0 (.iv 2))) (.splice (.av 0) (.len (.av 0)) (.cut (.av 1) t0 (.iv 0))))
 let t18:T:=.bits .and .u32 (.wrap .u32 (.ite (.lt (.iv 11) t0) (.wrap .i32 (.sub (.iv 11) (.lit 1))) (.iv 11))) (.wrap .u32 (.sub (.wrap .u32 (.shl .u32 (.lit 1) t10)) (.lit 1)))
 let t19:T:=.splice (.set (.alit [0]) t0 (.iv 1501)) (.len (.set (.alit [0]) t0 (.iv 1501))) (.splice (.set (.alit [0]) t0 (.iv 1502)) (.len (.set (.alit [0]) t0 (.iv 1502))) (.splice (.av 1500) (.len (.av 1500)) (.cut (.av 1501) t0 (.iv 1500))))
 let t20:T:=.fa 13 (.iv 10) (.iv 11) t0 t0 t17 t5 t5 t5
 (.need [t4,(.or (.not t2) t2),t4,(.or (.not t2) (.lt t1 (.len t6))),t9,(.or t2 (.lt t8 (.lit 256))),t9,(.or t2 (.lt t8 (.len t6)))] (.need [(.le t0 t11),(.lt t11 (.lit 251))] (.need [(.le (.add (.add (.len (.av 0)) (.iv 0)) (.lit 6)) (.lit 1000000000000)),(.le t0 t13),(.le t13 (.lit 65535)),(.le t0 t14),(.le t14 (.lit 16))] (.any 1000 0 [(.le t0 (.iv 1100)),(.le (.iv 1100) (.lit 4096)),(.eq (.len (.av 1101)) (.lit 4096)),(.le t0 (.iv 1101)),(.le (.iv 1101) (.lit 4294967295)),(.le t0 (.iv 1102)),(.le (.iv 1102) (.lit 7)),(.le t15 (.add (.add (.len (.av 0)) (.iv 0)) (.lit 6))),(.aeq t16 (.fa 3 t13 t14 t0 t0 t17 t5 t5 t5))] (.cond (.lt t0 t10) (.need [(.le t0 t10)] (.need [(.le (.add t15 (.lit 6)) (.lit 1000000000000)),(.le t0 t18),(.le t18 (.lit 65535)),(.le t10 (.lit 16))] (.any 1400 0 [(.le t0 (.iv 1500)),(.le (.iv 1500) (.lit 4096)),(.eq (.len (.av 1501)) (.lit 4096)),(.le t0 (.iv 1501)),(.le (.iv 1501) (.lit 4294967295)),(.le t0 (.iv 1502)),(.le (.iv 1502) (.lit 7)),(.le (.add (.len (.av 1500)) (.iv 1500)) (.add t15 (.lit 6))),(.aeq t19 (.fa 3 t18 t10 t0 t0 t16 t5 t5 t5))] (.need [(.le (.add (.len (.av 1500)) (.iv 1500)) (.add (.add (.len (.av 0)) (.iv 0)) (.lit 12))),(.aeq t19 t20)] .done)))) (.need [(.le t15 (.add (.add (.len (.av 0)) (.iv 0)) (.lit 12))),(.aeq t16 t20)] .done))))))
theorem qch:Dd (Db Tryz.prog Jt jn3 ⟨jr1,jnn⟩ 100000 109 (Wt 3 15 1023)) jts=true:=by kernel_rfl
set_option maxRecDepth 20000 in
theorem jvl:Cf Tryz.prog Z 109 (Wt 3 15 1023):=by
  refine Bf Cq Wn qch fun ρ h=> ?_
  simp only[Wt,eIn,hE,bE,jd7,hB,bW,Gl,Tt,ja2,cA,fA,z0,Bi,Di,List.flatMap_cons,List.flatMap_nil,List.append_nil,List.append_assoc,List.cons_append,List.nil_append,and_true,↓qA,qB,and_true,implies_true,T.I,T.A,T.B,VC.sem] at h
  obtain ⟨h1,h2,h3,h4,h5,h6,h7,h8,h9,h10,h11,h12,h13,h14,h15,h16,h17,h18,h19⟩:=h
  have hab:Fe (ρ.i 11)≤1023:=by unfold Fe;split<;>omega
  have hab0:0≤Fe (ρ.i 11):=by unfold Fe;split<;>omega
  obtain ⟨k1,k2,k3,k4,k5⟩:=Mf (v:=ρ.i 11) (by omega)
  have k3:=k3
  have e1:=jb4 (v:=ρ.i 11) (by omega) (by omega)
  have e2:=je0 (v:=ρ.i 11) (by omega)
  have e3:IntKind.i32.wrap (Gb (ρ.i 11))=Gb (ρ.i 11):=by rw[IntKind.wrap_i32];omega
  have e4:IntKind.i32.wrap (ρ.i 10*16)=ρ.i 10*16:=by rw[IntKind.wrap_i32];omega
  have e5:=j51 (r:=ρ.i 10) (n:=Gb (ρ.i 11)) (by omega) (by omega) (by omega) (by omega)
  have e7:Z.fa 43 0 0 0 0 [] [] [] []=Kv.getD 3 []:=jid 3 (by omega)
  obtain ⟨l1,l2,l3⟩:=Rp 3 (by omega) (ρ.i 10*16+Gb (ρ.i 11)).toNat
  have e8:=jhl (x:=(Kv.getD 3 []).getD (ρ.i 10*16+Gb (ρ.i 11)).toNat 0) (by omega) (by omega)
  have e9:=js8 (v:=ρ.i 11) (by omega)
  have hbl:((Z.fa 44 0 0 0 0 [] [] [] []).length:Int)=256:=rfl
  have hm:0≤(if ρ.i 11<0 then ρ.i 11-1 else ρ.i 11) % 2^(Gb (ρ.i 11)).toNat∧(if ρ.i 11<0 then ρ.i 11-1 else ρ.i 11) % 2^(Gb (ρ.i 11)).toNat≤65535:=by
    have p2:(0:Int)<2^(Gb (ρ.i 11)).toNat:=Int.pow_pos (by omega)
    have p1:(2:Int)^(Gb (ρ.i 11)).toNat≤4096:=by
      by_cases hz:ρ.i 11=0
      · rw[hz];decide
      · have:=k5 hz;omega
    have:=Int.emod_lt_of_pos (if ρ.i 11<0 then ρ.i 11-1 else ρ.i 11) p2
    have:=Int.emod_nonneg (if ρ.i 11<0 then ρ.i 11-1 else ρ.i 11) (Int.ne_of_gt p2)
    omega
  rw[←jtz] at e2
  rw[←e7] at e8 l1 l2 l3
  simp only[jts,Fb,↓qA,qB,and_true,implies_true,T.I,T.A,T.B,VC.sem,Ea,e1,e2,e3,e4,e5,e8,e9,hbl]
  (repeat' (first|refine And.intro ?_ ?_|intro _))<;>(try trivial)<;>(try omega)<;>(try (simp only[Tu,imx,Dk,IntKind.wrap_u32,IntKind.wrap_i32,IntKind.wrap_u8] at*;omega))
  · rw[‹[ρ.i 1501]++_=_›,jhh,‹[ρ.i 1101]++_=_›,jol,Lc]
    refine Eq.trans ?_ (jct 3 _ _ _ _ _ (by omega)).symm
    unfold Pu
    rw[if_pos (show 0<Gb (ρ.i 11) by omega),←e7]
  · rw[‹[ρ.i 1101]++_=_›,jol]
    refine Eq.trans ?_ (jct 3 _ _ _ _ _ (by omega)).symm
    unfold Pu
    rw[if_neg (show ¬0<Gb (ρ.i 11) by omega),←e7]
end
end Go.Proofs.YtljjbikbfeigdaaGreatDoor
