/- Part of the proof of FnColorEdgesCardSaid: Contracts of the encoder shown: the look-up tables. -/
import Derived.Test.YtljjbikbfeigdaaGreatDoorCe21
set_option linter.all false
namespace Go.Proofs.YtljjbikbfeigdaaGreatDoor
noncomputable section
open Go
def jkt(h:Nat):Bool:=(List.range 16).all fun i=>
  decide (Bg ((Bl h).drop 1) (i:Int)=Bg (Bl h) ((i+1:Nat):Int))&&(decide (0≤Bg (Bl h) ((i+1:Nat):Int))&&(decide (Bg (Bl h) ((i+1:Nat):Int)≤162)&&(decide (0≤KI h i)&&(decide (KI h i+Bg (Bl h) ((i+1:Nat):Int)≤(At h).length)&&(decide (0≤CI h i)&&(decide (CI h i+Bg (Bl h) ((i+1:Nat):Int)≤65536)&&
  (List.range (Bg (Bl h) ((i+1:Nat):Int)).toNat).all fun j=>decide (Dj .or .u32 (((i+1:Nat):Int)*16777216) (CI h i+(j:Int))=Oe h (Bg (At h) (KI h i+(j:Int))))))))))
theorem jll:(List.range 4).all jkt=true:=by decide+kernel
def jgi(h:Nat):Bool:=(At h).all fun s=>decide (0≤s)&&decide (s<Jn h)
theorem jbq:(List.range 4).all jgi=true:=by decide+kernel
theorem Ry:(List.range 4).all (fun h=>decide (Mv h (At h).length=(Jn h:Int)-1)&&(decide (KI h 16=(At h).length)&&(decide ((At h).length=La h)&&decide (Nv h (At h).length=Kv.getD h []))))=true:=by decide+kernel
theorem Cu{h:Nat}(hh:h<4){i:Int}(h0:0≤i)(h1:i<16):Bg ((Bl h).drop 1) i=Bg (Bl h) (i+1)∧0≤Bg (Bl h) (i+1)∧Bg (Bl h) (i+1)≤162∧0≤KI h i.toNat∧KI h i.toNat+Bg (Bl h) (i+1)≤(At h).length∧0≤CI h i.toNat∧CI h i.toNat+Bg (Bl h) (i+1)≤65536∧
    (∀j:Int,0≤j→j<Bg (Bl h) (i+1)→Dj .or .u32 ((i+1)*16777216) (CI h i.toNat+j)=Oe h (Bg (At h) (KI h i.toNat+j)))∧
    KI h (i+1).toNat=KI h i.toNat+Bg (Bl h) (i+1)∧CI h (i+1).toNat=(CI h i.toNat+Bg (Bl h) (i+1))*2:=by
  have h2:=List.all_eq_true.1 jll h (List.mem_range.2 hh)
  have h3:=List.all_eq_true.1 h2 i.toNat (List.mem_range.2 (by omega))
  simp only[Bool.and_eq_true,decide_eq_true_eq] at h3
  rw[show ((i.toNat+1:Nat):Int)=i+1 from by omega,show ((i.toNat:Nat):Int)=i from by omega] at h3
  obtain ⟨a1,a2,a3,a4,a5,a6,a7,a8⟩:=h3
  refine ⟨a1,a2,a3,a4,a5,a6,a7,fun j j0 j1=> ?_,?_,?_⟩
  · have:=List.all_eq_true.1 a8 j.toNat (List.mem_range.2 (by omega))
    simp only[decide_eq_true_eq] at this
    rw[show ((j.toNat:Nat):Int)=j from by omega] at this
    exact this
  · rw[show (i+1).toNat=i.toNat+1 from by omega,KI,show ((i.toNat+1:Nat):Int)=i+1 from by omega]
  · rw[show (i+1).toNat=i.toNat+1 from by omega,CI,show ((i.toNat+1:Nat):Int)=i+1 from by omega]
theorem Ht{h:Nat}(hh:h<4){i:Int}(h0:0≤i)(h1:i<(At h).length):0≤Bg (At h) i∧Bg (At h) i<Jn h:=by
  have h2:=List.all_eq_true.1 jbq h (List.mem_range.2 hh)
  have hk:i.toNat<(At h).length:=by omega
  have:=List.all_eq_true.1 h2 (Bg (At h) i) (by
    unfold Bg
    rw[List.getD_eq_getElem?_getD,List.getElem?_eq_getElem hk]
    exact List.getElem_mem hk)
  simp only[Bool.and_eq_true,decide_eq_true_eq] at this
  exact this
theorem On{h:Nat}{k:Int}(h0:0≤k)(h1:k<(At h).length):Mv h (k+1).toNat=if Mv h k.toNat<Bg (At h) k then Bg (At h) k else Mv h k.toNat:=by
  unfold Mv
  rw[Hu _ h0 h1,List.foldl_append];rfl
theorem Oj{h:Nat}{k:Int}(h0:0≤k)(h1:k<(At h).length):Nv h (k+1).toNat=(Nv h k.toNat).set (Bg (At h) k).toNat (Oe h (Bg (At h) k)):=by
  unfold Nv
  rw[Hu _ h0 h1,List.foldl_append];rfl
theorem jv7(x y:Int):Z.fi 521 x y 0 0 [] [] [] []=KI x.toNat y.toNat:=id rfl
theorem juo(x y:Int):Z.fi 522 x y 0 0 [] [] [] []=CI x.toNat y.toNat:=id rfl
theorem juz(x y:Int):Z.fi 523 x y 0 0 [] [] [] []=Mv x.toNat y.toNat:=id rfl
theorem jih(x y:Int):Z.fa 520 x y 0 0 [] [] [] []=Nv x.toNat y.toNat:=id rfl
theorem jc5(h:Nat):Mv h 0=0:=rfl
theorem juh(h:Nat):KI h 0=0:=rfl
theorem jvs(h:Nat):CI h 0=0:=rfl
theorem jby(h:Nat):Nv h 0=List.replicate (if h % 2=0 then 12 else 251) 0:=rfl
attribute [local irreducible] KI CI Mv Nv
theorem jpg:((At 0).length:Int)=12:=by rw[show (At 0).length=12 by kernel_rfl];rfl
theorem qc5:Z.fa 40 0 0 0 0 [] [] [] []=Kv.getD 0 []:=id rfl
def jg7:VC:=
 let t0:T:=.lit 0
 let t1:T:=.lit 12
 let t2:T:=.alit []
 let t3:T:=.lit (-9223372036854775808)
 let t4:T:=.get (.alit (At 0)) (.iv 1000)
 let t6:T:=.lit 9223372036854775807
 let t8:T:=.add (.iv 1000) (.lit 1)
 let t9:T:=.fi 521 t0 (.iv 1400) t0 t0 t2 t2 t2 t2
 let t10:T:=.fi 522 t0 (.iv 1400) t0 t0 t2 t2 t2 t2
 let t11:T:=.add (.iv 1400) (.lit 1)
 let t12:T:=.get (.alit ((Bl 0).drop 1)) (.iv 1400)
 let t13:T:=.add (.iv 1802) (.lit 1)
 let t14:T:=.wrap .u8 (.add (.iv 1800) (.lit 1))
 let t15:T:=.set (.av 1800) (.get (.alit (At 0)) (.iv 1802)) (.bits .or .u32 (.wrap .u32 (.mul (.wrap .u32 t11) (.lit 16777216))) (.iv 1801))
 (.need [(.le t0 t0),(.le t0 t1),(.eq t0 (.fi 523 t0 t0 t0 t0 t2 t2 t2 t2))] (.any 1000 1000000001 [(.le t0 (.iv 1000)),(.le (.iv 1000) t1),(.eq (.iv 1001) (.fi 523 t0 (.iv 1000) t0 t0 t2 t2 t2 t2))] (.cond (.lt (.iv 1000) t1) (.need [(.lt (.iv 1000) (.len (.alit (At 0))))] (.need [(.le t3 t4),(.le t4 t6)] (.need [(.or (.not (.lt (.iv 1001) t4)) (.le t3 t4)),(.or (.not (.lt (.iv 1001) t4)) (.le t4 t6))] (.need [(.le t3 t8),(.le t8 t6)] (.need [(.le t0 t8),(.le t8 t1),(.eq (.ite (.lt (.iv 1001) t4) t4 (.iv 1001)) (.fi 523 t0 t8 t0 t0 t2 t2 t2 t2)),(.lt t0 (.sub t1 (.iv 1000))),(.lt (.sub t1 t8) (.sub t1 (.iv 1000)))] .done))))) (.need [(.eq (.iv 1001) (.lit 11))] (.need [(.le t0 (.lit 16)),(.eq t0 (.fi 521 t0 t0 t0 t0 t2 t2 t2 t2)),(.eq t0 (.fi 522 t0 t0 t0 t0 t2 t2 t2 t2)),(.eq (.len (.rep t1 t0)) t1),(.aeq (.rep t1 t0) (.fa 520 t0 t0 t0 t0 t2 t2 t2 t2))] (.any 1400 1000000002 [(.le t0 (.iv 1400)),(.le (.iv 1400) (.lit 16)),(.eq (.iv 1402) t9),(.eq (.iv 1401) t10),(.eq (.len (.av 1400)) t1),(.aeq (.av 1400) (.fa 520 t0 (.iv 1402) t0 t0 t2 t2 t2 t2))] (.cond (.lt (.iv 1400) (.lit 16)) (.need [(.le t3 t11),(.le t11 t6)] (.need [(.le t0 t12),(.eq (.iv 1402) (.add t9 t0)),(.eq (.iv 1401) (.add t10 t0))] (.any 1800 1000000002 [(.le t0 (.iv 1800)),(.le (.iv 1800) t12),(.eq (.iv 1802) (.add t9 (.iv 1800))),(.eq (.iv 1801) (.add t10 (.iv 1800))),(.eq (.len (.av 1800)) t1),(.aeq (.av 1800) (.fa 520 t0 (.iv 1802) t0 t0 t2 t2 t2 t2))] (.cond (.lt (.iv 1800) t12) (.need [(.le t0 (.iv 1802)),(.lt (.iv 1802) t1)] (.need [(.lt (.iv 1802) (.len (.alit (At 0))))] (.need [(.le t0 (.get (.alit (At 0)) (.iv 1802))),(.lt (.get (.alit (At 0)) (.iv 1802)) t1)] (.need [(.le t3 t13),(.le t13 t6)] (.need [(.le t0 t14),(.le t14 t12),(.eq t13 (.add t9 t14)),(.eq (.wrap .u32 (.add (.iv 1801) (.lit 1))) (.add t10 t14)),(.eq (.len t15) t1),(.aeq t15 (.fa 520 t0 t13 t0 t0 t2 t2 t2 t2)),(.lt t0 (.sub t12 (.iv 1800))),(.lt (.sub t12 t14) (.sub t12 (.iv 1800)))] .done))))) (.need [(.le t0 t11),(.le t11 (.lit 16)),(.eq (.iv 1802) (.fi 521 t0 t11 t0 t0 t2 t2 t2 t2)),(.eq (.wrap .u32 (.mul (.iv 1801) (.lit 2))) (.fi 522 t0 t11 t0 t0 t2 t2 t2 t2)),(.lt t0 (.sub (.lit 16) (.iv 1400))),(.lt (.sub (.lit 16) t11) (.sub (.lit 16) (.iv 1400)))] .done))))) (.need [(.aeq (.fa 40 t0 t0 t0 t0 t2 t2 t2 t2) (.av 1400))] .done))))))))
theorem jxw:Dd (Db Tryz.prog Jt Jq ⟨jm6 0,fun _=>false⟩ 100000 81 (c81 0)) jg7=true:=by kernel_rfl
set_option maxRecDepth 20000 in
theorem jno:Cf Tryz.prog Z 81 (c81 0):=by
  refine Bf Cq Cn jxw fun ρ h=> ?_
  have g1:=Cc h (.le (.lit (La 0)) (.iv 1)) (by kernel_rfl)
  clear h
  have hE:=List.all_eq_true.1 Ry 0 (List.mem_range.2 (by omega))
  simp only[Bool.and_eq_true,decide_eq_true_eq] at hE
  obtain ⟨m1,m2,m3,m4⟩:=hE
  have hL:=jpg
  have hl2:(Jn 0:Int)=12:=rfl
  rw[hl2] at m1
  simp only[↓qA,qB,and_true,implies_true,T.I,T.A,T.B,VC.sem] at g1
  have t1:Int.toNat 0=0:=rfl
  have w8:0≤ρ.i 1800→ρ.i 1800<200→IntKind.u8.wrap (ρ.i 1800+1)=ρ.i 1800+1:=by intro a b;rw[IntKind.wrap_u8];omega
  have Qk:0≤ρ.i 1801→ρ.i 1801≤65536→IntKind.u32.wrap (ρ.i 1801+1)=ρ.i 1801+1∧IntKind.u32.wrap (ρ.i 1801*2)=ρ.i 1801*2:=by intro a b;rw[IntKind.wrap_u32,IntKind.wrap_u32];omega
  have w33:0≤ρ.i 1400→ρ.i 1400<16→IntKind.u32.wrap (IntKind.u32.wrap (ρ.i 1400+1)*16777216)=(ρ.i 1400+1)*16777216:=by intro a b;rw[IntKind.wrap_u32,IntKind.wrap_u32];omega
  simp only[jg7,↓qA,qB,and_true,implies_true,T.I,T.A,T.B,VC.sem,Ck,jv7,juo,juz,jih,qc5,hL,t1,Int.toNat_zero,List.length_set,Ea]
  (repeat' (first|with_reducible exact True.intro|with_reducible refine And.intro ?_ ?_|intro _))<;>(try omega)
  · exact (jc5 0).symm
  · have S:=Ht (h:=0) (by omega) (i:=ρ.i 1000) (by omega) (by omega)
    omega
  · have S:=Ht (h:=0) (by omega) (i:=ρ.i 1000) (by omega) (by omega)
    omega
  · rw[On (by omega) (by omega),‹ρ.i 1001=Mv 0 (ρ.i 1000).toNat›]
  · rw[‹ρ.i 1001=Mv 0 (ρ.i 1000).toNat›,show (ρ.i 1000).toNat=(At 0).length from by omega,m1];rfl
  · exact (juh 0).symm
  · exact (jvs 0).symm
  · simp only[List.length_replicate];rfl
  · exact (jby 0).symm
  · have T:=Cu (h:=0) (by omega) (i:=ρ.i 1400) (by omega) (by omega)
    omega
  · have T:=Cu (h:=0) (by omega) (i:=ρ.i 1400) (by omega) (by omega)
    omega
  · have T:=Cu (h:=0) (by omega) (i:=ρ.i 1400) (by omega) (by omega)
    omega
  · have T:=Cu (h:=0) (by omega) (i:=ρ.i 1400) (by omega) (by omega)
    have S:=Ht (h:=0) (by omega) (i:=ρ.i 1802) (by omega) (by omega)
    omega
  · have T:=Cu (h:=0) (by omega) (i:=ρ.i 1400) (by omega) (by omega)
    have S:=Ht (h:=0) (by omega) (i:=ρ.i 1802) (by omega) (by omega)
    omega
  · have T:=Cu (h:=0) (by omega) (i:=ρ.i 1400) (by omega) (by omega)
    rw[w8 (by omega) (by omega)];omega
  · have T:=Cu (h:=0) (by omega) (i:=ρ.i 1400) (by omega) (by omega)
    rw[w8 (by omega) (by omega)];omega
  · have T:=Cu (h:=0) (by omega) (i:=ρ.i 1400) (by omega) (by omega)
    rw[w8 (by omega) (by omega)];omega
  · have T:=Cu (h:=0) (by omega) (i:=ρ.i 1400) (by omega) (by omega)
    rw[w8 (by omega) (by omega),(Qk (by omega) (by omega)).1];omega
  · have T:=Cu (h:=0) (by omega) (i:=ρ.i 1400) (by omega) (by omega)
    have C:=T.2.2.2.2.2.2.2.1 (ρ.i 1800) (by omega) (by omega)
    rw[Oj (by omega) (by omega),w33 (by omega) (by omega),‹ρ.i 1801=CI 0 (ρ.i 1400).toNat+ρ.i 1800›,C,‹ρ.a 1800=Nv 0 (ρ.i 1802).toNat›,‹ρ.i 1802=KI 0 (ρ.i 1400).toNat+ρ.i 1800›]
  · have T:=Cu (h:=0) (by omega) (i:=ρ.i 1400) (by omega) (by omega)
    rw[w8 (by omega) (by omega)];omega
  · have T:=Cu (h:=0) (by omega) (i:=ρ.i 1400) (by omega) (by omega)
    omega
  · have T:=Cu (h:=0) (by omega) (i:=ρ.i 1400) (by omega) (by omega)
    rw[(Qk (by omega) (by omega)).2];omega
  · have e16:(ρ.i 1400).toNat=16:=by omega
    rw[←m4,‹ρ.a 1400=Nv 0 (ρ.i 1402).toNat›,‹ρ.i 1402=KI 0 (ρ.i 1400).toNat›,e16,m2];rfl
theorem qd3:((At 1).length:Int)=162:=by rw[show (At 1).length=162 by kernel_rfl];rfl
theorem qkw:Z.fa 41 0 0 0 0 [] [] [] []=Kv.getD 1 []:=id rfl
def j0b:VC:=
 let t0:T:=.lit 0
 let t1:T:=.lit 1
 let t2:T:=.alit []
 let t3:T:=.lit (-9223372036854775808)
 let t4:T:=.get (.alit (At 1)) (.iv 1000)
 let t6:T:=.lit 9223372036854775807
 let t8:T:=.add (.iv 1000) t1
 let t9:T:=.fi 521 t1 (.iv 1400) t0 t0 t2 t2 t2 t2
 let t10:T:=.fi 522 t1 (.iv 1400) t0 t0 t2 t2 t2 t2
 let t11:T:=.add (.iv 1400) t1
 let t12:T:=.get (.alit ((Bl 1).drop 1)) (.iv 1400)
 let t13:T:=.add (.iv 1802) t1
 let t14:T:=.wrap .u8 (.add (.iv 1800) t1)
 let t15:T:=.set (.av 1800) (.get (.alit (At 1)) (.iv 1802)) (.bits .or .u32 (.wrap .u32 (.mul (.wrap .u32 t11) (.lit 16777216))) (.iv 1801))
 (.need [(.le t0 t0),(.le t0 (.lit 162)),(.eq t0 (.fi 523 t1 t0 t0 t0 t2 t2 t2 t2))] (.any 1000 1000000001 [(.le t0 (.iv 1000)),(.le (.iv 1000) (.lit 162)),(.eq (.iv 1001) (.fi 523 t1 (.iv 1000) t0 t0 t2 t2 t2 t2))] (.cond (.lt (.iv 1000) (.lit 162)) (.need [(.lt (.iv 1000) (.len (.alit (At 1))))] (.need [(.le t3 t4),(.le t4 t6)] (.need [(.or (.not (.lt (.iv 1001) t4)) (.le t3 t4)),(.or (.not (.lt (.iv 1001) t4)) (.le t4 t6))] (.need [(.le t3 t8),(.le t8 t6)] (.need [(.le t0 t8),(.le t8 (.lit 162)),(.eq (.ite (.lt (.iv 1001) t4) t4 (.iv 1001)) (.fi 523 t1 t8 t0 t0 t2 t2 t2 t2)),(.lt t0 (.sub (.lit 162) (.iv 1000))),(.lt (.sub (.lit 162) t8) (.sub (.lit 162) (.iv 1000)))] .done))))) (.need [(.eq (.iv 1001) (.lit 250))] (.need [(.le t0 (.lit 16)),(.eq t0 (.fi 521 t1 t0 t0 t0 t2 t2 t2 t2)),(.eq t0 (.fi 522 t1 t0 t0 t0 t2 t2 t2 t2)),(.eq (.len (.rep (.lit 251) t0)) (.lit 251)),(.aeq (.rep (.lit 251) t0) (.fa 520 t1 t0 t0 t0 t2 t2 t2 t2))] (.any 1400 1000000002 [(.le t0 (.iv 1400)),(.le (.iv 1400) (.lit 16)),(.eq (.iv 1402) t9),(.eq (.iv 1401) t10),(.eq (.len (.av 1400)) (.lit 251)),(.aeq (.av 1400) (.fa 520 t1 (.iv 1402) t0 t0 t2 t2 t2 t2))] (.cond (.lt (.iv 1400) (.lit 16)) (.need [(.le t3 t11),(.le t11 t6)] (.need [(.le t0 t12),(.eq (.iv 1402) (.add t9 t0)),(.eq (.iv 1401) (.add t10 t0))] (.any 1800 1000000002 [(.le t0 (.iv 1800)),(.le (.iv 1800) t12),(.eq (.iv 1802) (.add t9 (.iv 1800))),(.eq (.iv 1801) (.add t10 (.iv 1800))),(.eq (.len (.av 1800)) (.lit 251)),(.aeq (.av 1800) (.fa 520 t1 (.iv 1802) t0 t0 t2 t2 t2 t2))] (.cond (.lt (.iv 1800) t12) (.need [(.le t0 (.iv 1802)),(.lt (.iv 1802) (.lit 162))] (.need [(.lt (.iv 1802) (.len (.alit (At 1))))] (.need [(.le t0 (.get (.alit (At 1)) (.iv 1802))),(.lt (.get (.alit (At 1)) (.iv 1802)) (.lit 251))] (.need [(.le t3 t13),(.le t13 t6)] (.need [(.le t0 t14),(.le t14 t12),(.eq t13 (.add t9 t14)),(.eq (.wrap .u32 (.add (.iv 1801) t1)) (.add t10 t14)),(.eq (.len t15) (.lit 251)),(.aeq t15 (.fa 520 t1 t13 t0 t0 t2 t2 t2 t2)),(.lt t0 (.sub t12 (.iv 1800))),(.lt (.sub t12 t14) (.sub t12 (.iv 1800)))] .done))))) (.need [(.le t0 t11),(.le t11 (.lit 16)),(.eq (.iv 1802) (.fi 521 t1 t11 t0 t0 t2 t2 t2 t2)),(.eq (.wrap .u32 (.mul (.iv 1801) (.lit 2))) (.fi 522 t1 t11 t0 t0 t2 t2 t2 t2)),(.lt t0 (.sub (.lit 16) (.iv 1400))),(.lt (.sub (.lit 16) t11) (.sub (.lit 16) (.iv 1400)))] .done))))) (.need [(.aeq (.fa 41 t0 t0 t0 t0 t2 t2 t2 t2) (.av 1400))] .done))))))))
theorem qfs:Dd (Db Tryz.prog Jt Jq ⟨jm6 1,fun _=>false⟩ 100000 81 (c81 1)) j0b=true:=by kernel_rfl
set_option maxRecDepth 20000 in
theorem jxt:Cf Tryz.prog Z 81 (c81 1):=by
  refine Bf Cq Cn qfs fun ρ h=> ?_
  have g1:=Cc h (.le (.lit (La 1)) (.iv 1)) (by kernel_rfl)
  clear h
  have hE:=List.all_eq_true.1 Ry 1 (List.mem_range.2 (by omega))
  simp only[Bool.and_eq_true,decide_eq_true_eq] at hE
  obtain ⟨m1,m2,m3,m4⟩:=hE
  have hL:=qd3
  have hl2:(Jn 1:Int)=251:=rfl
  rw[hl2] at m1
  simp only[↓qA,qB,and_true,implies_true,T.I,T.A,T.B,VC.sem] at g1
  have t1:Int.toNat 1=1:=rfl
  have w8:0≤ρ.i 1800→ρ.i 1800<200→IntKind.u8.wrap (ρ.i 1800+1)=ρ.i 1800+1:=by intro a b;rw[IntKind.wrap_u8];omega
  have Qk:0≤ρ.i 1801→ρ.i 1801≤65536→IntKind.u32.wrap (ρ.i 1801+1)=ρ.i 1801+1∧IntKind.u32.wrap (ρ.i 1801*2)=ρ.i 1801*2:=by intro a b;rw[IntKind.wrap_u32,IntKind.wrap_u32];omega
  have w33:0≤ρ.i 1400→ρ.i 1400<16→IntKind.u32.wrap (IntKind.u32.wrap (ρ.i 1400+1)*16777216)=(ρ.i 1400+1)*16777216:=by intro a b;rw[IntKind.wrap_u32,IntKind.wrap_u32];omega
  simp only[j0b,↓qA,qB,and_true,implies_true,T.I,T.A,T.B,VC.sem,Ck,jv7,juo,juz,jih,qkw,hL,t1,Int.toNat_zero,List.length_set,Ea]
  (repeat' (first|with_reducible exact True.intro|with_reducible refine And.intro ?_ ?_|intro _))<;>(try omega)
  · exact (jc5 1).symm
  · have S:=Ht (h:=1) (by omega) (i:=ρ.i 1000) (by omega) (by omega)
    omega
  · have S:=Ht (h:=1) (by omega) (i:=ρ.i 1000) (by omega) (by omega)
    omega
  · rw[On (by omega) (by omega),‹ρ.i 1001=Mv 1 (ρ.i 1000).toNat›]
  · rw[‹ρ.i 1001=Mv 1 (ρ.i 1000).toNat›,show (ρ.i 1000).toNat=(At 1).length from by omega,m1];rfl
  · exact (juh 1).symm
  · exact (jvs 1).symm
  · simp only[List.length_replicate];rfl
  · exact (jby 1).symm
  · have T:=Cu (h:=1) (by omega) (i:=ρ.i 1400) (by omega) (by omega)
    omega
  · have T:=Cu (h:=1) (by omega) (i:=ρ.i 1400) (by omega) (by omega)
    omega
  · have T:=Cu (h:=1) (by omega) (i:=ρ.i 1400) (by omega) (by omega)
    omega
  · have T:=Cu (h:=1) (by omega) (i:=ρ.i 1400) (by omega) (by omega)
    have S:=Ht (h:=1) (by omega) (i:=ρ.i 1802) (by omega) (by omega)
    omega
  · have T:=Cu (h:=1) (by omega) (i:=ρ.i 1400) (by omega) (by omega)
    have S:=Ht (h:=1) (by omega) (i:=ρ.i 1802) (by omega) (by omega)
    omega
  · have T:=Cu (h:=1) (by omega) (i:=ρ.i 1400) (by omega) (by omega)
    rw[w8 (by omega) (by omega)];omega
  · have T:=Cu (h:=1) (by omega) (i:=ρ.i 1400) (by omega) (by omega)
    rw[w8 (by omega) (by omega)];omega
  · have T:=Cu (h:=1) (by omega) (i:=ρ.i 1400) (by omega) (by omega)
    rw[w8 (by omega) (by omega)];omega
  · have T:=Cu (h:=1) (by omega) (i:=ρ.i 1400) (by omega) (by omega)
    rw[w8 (by omega) (by omega),(Qk (by omega) (by omega)).1];omega
  · have T:=Cu (h:=1) (by omega) (i:=ρ.i 1400) (by omega) (by omega)
    have C:=T.2.2.2.2.2.2.2.1 (ρ.i 1800) (by omega) (by omega)
    rw[Oj (by omega) (by omega),w33 (by omega) (by omega),‹ρ.i 1801=CI 1 (ρ.i 1400).toNat+ρ.i 1800›,C,‹ρ.a 1800=Nv 1 (ρ.i 1802).toNat›,‹ρ.i 1802=KI 1 (ρ.i 1400).toNat+ρ.i 1800›]
  · have T:=Cu (h:=1) (by omega) (i:=ρ.i 1400) (by omega) (by omega)
    rw[w8 (by omega) (by omega)];omega
  · have T:=Cu (h:=1) (by omega) (i:=ρ.i 1400) (by omega) (by omega)
    omega
  · have T:=Cu (h:=1) (by omega) (i:=ρ.i 1400) (by omega) (by omega)
    rw[(Qk (by omega) (by omega)).2];omega
  · have e16:(ρ.i 1400).toNat=16:=by omega
    rw[←m4,‹ρ.a 1400=Nv 1 (ρ.i 1402).toNat›,‹ρ.i 1402=KI 1 (ρ.i 1400).toNat›,e16,m2];rfl
theorem qbw:((At 2).length:Int)=12:=by rw[show (At 2).length=12 by kernel_rfl];rfl
theorem ql0:Z.fa 42 0 0 0 0 [] [] [] []=Kv.getD 2 []:=id rfl
def jzw:VC:=
 let t0:T:=.lit 0
 let t1:T:=.lit 12
 let t2:T:=.lit 2
 let t3:T:=.alit []
 let t4:T:=.lit (-9223372036854775808)
 let t5:T:=.get (.alit (At 2)) (.iv 1000)
 let t7:T:=.lit 9223372036854775807
 let t9:T:=.add (.iv 1000) (.lit 1)
 let t10:T:=.fi 521 t2 (.iv 1400) t0 t0 t3 t3 t3 t3
 let t11:T:=.fi 522 t2 (.iv 1400) t0 t0 t3 t3 t3 t3
 let t12:T:=.add (.iv 1400) (.lit 1)
 let t13:T:=.get (.alit ((Bl 2).drop 1)) (.iv 1400)
 let t14:T:=.add (.iv 1802) (.lit 1)
 let t15:T:=.wrap .u8 (.add (.iv 1800) (.lit 1))
 let t16:T:=.set (.av 1800) (.get (.alit (At 2)) (.iv 1802)) (.bits .or .u32 (.wrap .u32 (.mul (.wrap .u32 t12) (.lit 16777216))) (.iv 1801))
 (.need [(.le t0 t0),(.le t0 t1),(.eq t0 (.fi 523 t2 t0 t0 t0 t3 t3 t3 t3))] (.any 1000 1000000001 [(.le t0 (.iv 1000)),(.le (.iv 1000) t1),(.eq (.iv 1001) (.fi 523 t2 (.iv 1000) t0 t0 t3 t3 t3 t3))] (.cond (.lt (.iv 1000) t1) (.need [(.lt (.iv 1000) (.len (.alit (At 2))))] (.need [(.le t4 t5),(.le t5 t7)] (.need [(.or (.not (.lt (.iv 1001) t5)) (.le t4 t5)),(.or (.not (.lt (.iv 1001) t5)) (.le t5 t7))] (.need [(.le t4 t9),(.le t9 t7)] (.need [(.le t0 t9),(.le t9 t1),(.eq (.ite (.lt (.iv 1001) t5) t5 (.iv 1001)) (.fi 523 t2 t9 t0 t0 t3 t3 t3 t3)),(.lt t0 (.sub t1 (.iv 1000))),(.lt (.sub t1 t9) (.sub t1 (.iv 1000)))] .done))))) (.need [(.eq (.iv 1001) (.lit 11))] (.need [(.le t0 (.lit 16)),(.eq t0 (.fi 521 t2 t0 t0 t0 t3 t3 t3 t3)),(.eq t0 (.fi 522 t2 t0 t0 t0 t3 t3 t3 t3)),(.eq (.len (.rep t1 t0)) t1),(.aeq (.rep t1 t0) (.fa 520 t2 t0 t0 t0 t3 t3 t3 t3))] (.any 1400 1000000002 [(.le t0 (.iv 1400)),(.le (.iv 1400) (.lit 16)),(.eq (.iv 1402) t10),(.eq (.iv 1401) t11),(.eq (.len (.av 1400)) t1),(.aeq (.av 1400) (.fa 520 t2 (.iv 1402) t0 t0 t3 t3 t3 t3))] (.cond (.lt (.iv 1400) (.lit 16)) (.need [(.le t4 t12),(.le t12 t7)] (.need [(.le t0 t13),(.eq (.iv 1402) (.add t10 t0)),(.eq (.iv 1401) (.add t11 t0))] (.any 1800 1000000002 [(.le t0 (.iv 1800)),(.le (.iv 1800) t13),(.eq (.iv 1802) (.add t10 (.iv 1800))),(.eq (.iv 1801) (.add t11 (.iv 1800))),(.eq (.len (.av 1800)) t1),(.aeq (.av 1800) (.fa 520 t2 (.iv 1802) t0 t0 t3 t3 t3 t3))] (.cond (.lt (.iv 1800) t13) (.need [(.le t0 (.iv 1802)),(.lt (.iv 1802) t1)] (.need [(.lt (.iv 1802) (.len (.alit (At 2))))] (.need [(.le t0 (.get (.alit (At 2)) (.iv 1802))),(.lt (.get (.alit (At 2)) (.iv 1802)) t1)] (.need [(.le t4 t14),(.le t14 t7)] (.need [(.le t0 t15),(.le t15 t13),(.eq t14 (.add t10 t15)),(.eq (.wrap .u32 (.add (.iv 1801) (.lit 1))) (.add t11 t15)),(.eq (.len t16) t1),(.aeq t16 (.fa 520 t2 t14 t0 t0 t3 t3 t3 t3)),(.lt t0 (.sub t13 (.iv 1800))),(.lt (.sub t13 t15) (.sub t13 (.iv 1800)))] .done))))) (.need [(.le t0 t12),(.le t12 (.lit 16)),(.eq (.iv 1802) (.fi 521 t2 t12 t0 t0 t3 t3 t3 t3)),(.eq (.wrap .u32 (.mul (.iv 1801) t2)) (.fi 522 t2 t12 t0 t0 t3 t3 t3 t3)),(.lt t0 (.sub (.lit 16) (.iv 1400))),(.lt (.sub (.lit 16) t12) (.sub (.lit 16) (.iv 1400)))] .done))))) (.need [(.aeq (.fa 42 t0 t0 t0 t0 t3 t3 t3 t3) (.av 1400))] .done))))))))
theorem qeo:Dd (Db Tryz.prog Jt Jq ⟨jm6 2,fun _=>false⟩ 100000 81 (c81 2)) jzw=true:=by kernel_rfl
set_option maxRecDepth 20000 in
theorem jyj:Cf Tryz.prog Z 81 (c81 2):=by
  refine Bf Cq Cn qeo fun ρ h=> ?_
  have g1:=Cc h (.le (.lit (La 2)) (.iv 1)) (by kernel_rfl)
  clear h
  have hE:=List.all_eq_true.1 Ry 2 (List.mem_range.2 (by omega))
  simp only[Bool.and_eq_true,decide_eq_true_eq] at hE
  obtain ⟨m1,m2,m3,m4⟩:=hE
  have hL:=qbw
  have hl2:(Jn 2:Int)=12:=rfl
  rw[hl2] at m1
  simp only[↓qA,qB,and_true,implies_true,T.I,T.A,T.B,VC.sem] at g1
  have t1:Int.toNat 2=2:=rfl
  have w8:0≤ρ.i 1800→ρ.i 1800<200→IntKind.u8.wrap (ρ.i 1800+1)=ρ.i 1800+1:=by intro a b;rw[IntKind.wrap_u8];omega
  have Qk:0≤ρ.i 1801→ρ.i 1801≤65536→IntKind.u32.wrap (ρ.i 1801+1)=ρ.i 1801+1∧IntKind.u32.wrap (ρ.i 1801*2)=ρ.i 1801*2:=by intro a b;rw[IntKind.wrap_u32,IntKind.wrap_u32];omega
  have w33:0≤ρ.i 1400→ρ.i 1400<16→IntKind.u32.wrap (IntKind.u32.wrap (ρ.i 1400+1)*16777216)=(ρ.i 1400+1)*16777216:=by intro a b;rw[IntKind.wrap_u32,IntKind.wrap_u32];omega
  simp only[jzw,↓qA,qB,and_true,implies_true,T.I,T.A,T.B,VC.sem,Ck,jv7,juo,juz,jih,ql0,hL,t1,Int.toNat_zero,List.length_set,Ea]
  (repeat' (first|with_reducible exact True.intro|with_reducible refine And.intro ?_ ?_|intro _))<;>(try omega)
  · exact (jc5 2).symm
  · have S:=Ht (h:=2) (by omega) (i:=ρ.i 1000) (by omega) (by omega)
    omega
  · have S:=Ht (h:=2) (by omega) (i:=ρ.i 1000) (by omega) (by omega)
    omega
  · rw[On (by omega) (by omega),‹ρ.i 1001=Mv 2 (ρ.i 1000).toNat›]
  · rw[‹ρ.i 1001=Mv 2 (ρ.i 1000).toNat›,show (ρ.i 1000).toNat=(At 2).length from by omega,m1];rfl
  · exact (juh 2).symm
  · exact (jvs 2).symm
  · simp only[List.length_replicate];rfl
  · exact (jby 2).symm
  · have T:=Cu (h:=2) (by omega) (i:=ρ.i 1400) (by omega) (by omega)
    omega
  · have T:=Cu (h:=2) (by omega) (i:=ρ.i 1400) (by omega) (by omega)
    omega
  · have T:=Cu (h:=2) (by omega) (i:=ρ.i 1400) (by omega) (by omega)
    omega
  · have T:=Cu (h:=2) (by omega) (i:=ρ.i 1400) (by omega) (by omega)
    have S:=Ht (h:=2) (by omega) (i:=ρ.i 1802) (by omega) (by omega)
    omega
  · have T:=Cu (h:=2) (by omega) (i:=ρ.i 1400) (by omega) (by omega)
    have S:=Ht (h:=2) (by omega) (i:=ρ.i 1802) (by omega) (by omega)
    omega
  · have T:=Cu (h:=2) (by omega) (i:=ρ.i 1400) (by omega) (by omega)
    rw[w8 (by omega) (by omega)];omega
  · have T:=Cu (h:=2) (by omega) (i:=ρ.i 1400) (by omega) (by omega)
    rw[w8 (by omega) (by omega)];omega
  · have T:=Cu (h:=2) (by omega) (i:=ρ.i 1400) (by omega) (by omega)
    rw[w8 (by omega) (by omega)];omega
  · have T:=Cu (h:=2) (by omega) (i:=ρ.i 1400) (by omega) (by omega)
    rw[w8 (by omega) (by omega),(Qk (by omega) (by omega)).1];omega
  · have T:=Cu (h:=2) (by omega) (i:=ρ.i 1400) (by omega) (by omega)
    have C:=T.2.2.2.2.2.2.2.1 (ρ.i 1800) (by omega) (by omega)
    rw[Oj (by omega) (by omega),w33 (by omega) (by omega),‹ρ.i 1801=CI 2 (ρ.i 1400).toNat+ρ.i 1800›,C,‹ρ.a 1800=Nv 2 (ρ.i 1802).toNat›,‹ρ.i 1802=KI 2 (ρ.i 1400).toNat+ρ.i 1800›]
  · have T:=Cu (h:=2) (by omega) (i:=ρ.i 1400) (by omega) (by omega)
    rw[w8 (by omega) (by omega)];omega
  · have T:=Cu (h:=2) (by omega) (i:=ρ.i 1400) (by omega) (by omega)
    omega
  · have T:=Cu (h:=2) (by omega) (i:=ρ.i 1400) (by omega) (by omega)
    rw[(Qk (by omega) (by omega)).2];omega
  · have e16:(ρ.i 1400).toNat=16:=by omega
    rw[←m4,‹ρ.a 1400=Nv 2 (ρ.i 1402).toNat›,‹ρ.i 1402=KI 2 (ρ.i 1400).toNat›,e16,m2];rfl
theorem j9z:((At 3).length:Int)=162:=by rw[show (At 3).length=162 by kernel_rfl];rfl
theorem qk6:Z.fa 43 0 0 0 0 [] [] [] []=Kv.getD 3 []:=id rfl
def jzz:VC:=
 let t0:T:=.lit 0
 let t1:T:=.lit 3
 let t2:T:=.alit []
 let t3:T:=.lit (-9223372036854775808)
 let t4:T:=.get (.alit (At 3)) (.iv 1000)
 let t6:T:=.lit 9223372036854775807
 let t8:T:=.add (.iv 1000) (.lit 1)
 let t9:T:=.fi 521 t1 (.iv 1400) t0 t0 t2 t2 t2 t2
 let t10:T:=.fi 522 t1 (.iv 1400) t0 t0 t2 t2 t2 t2
 let t11:T:=.add (.iv 1400) (.lit 1)
 let t12:T:=.get (.alit ((Bl 3).drop 1)) (.iv 1400)
 let t13:T:=.add (.iv 1802) (.lit 1)
 let t14:T:=.wrap .u8 (.add (.iv 1800) (.lit 1))
 let t15:T:=.set (.av 1800) (.get (.alit (At 3)) (.iv 1802)) (.bits .or .u32 (.wrap .u32 (.mul (.wrap .u32 t11) (.lit 16777216))) (.iv 1801))
 (.need [(.le t0 t0),(.le t0 (.lit 162)),(.eq t0 (.fi 523 t1 t0 t0 t0 t2 t2 t2 t2))] (.any 1000 1000000001 [(.le t0 (.iv 1000)),(.le (.iv 1000) (.lit 162)),(.eq (.iv 1001) (.fi 523 t1 (.iv 1000) t0 t0 t2 t2 t2 t2))] (.cond (.lt (.iv 1000) (.lit 162)) (.need [(.lt (.iv 1000) (.len (.alit (At 3))))] (.need [(.le t3 t4),(.le t4 t6)] (.need [(.or (.not (.lt (.iv 1001) t4)) (.le t3 t4)),(.or (.not (.lt (.iv 1001) t4)) (.le t4 t6))] (.need [(.le t3 t8),(.le t8 t6)] (.need [(.le t0 t8),(.le t8 (.lit 162)),(.eq (.ite (.lt (.iv 1001) t4) t4 (.iv 1001)) (.fi 523 t1 t8 t0 t0 t2 t2 t2 t2)),(.lt t0 (.sub (.lit 162) (.iv 1000))),(.lt (.sub (.lit 162) t8) (.sub (.lit 162) (.iv 1000)))] .done))))) (.need [(.eq (.iv 1001) (.lit 250))] (.need [(.le t0 (.lit 16)),(.eq t0 (.fi 521 t1 t0 t0 t0 t2 t2 t2 t2)),(.eq t0 (.fi 522 t1 t0 t0 t0 t2 t2 t2 t2)),(.eq (.len (.rep (.lit 251) t0)) (.lit 251)),(.aeq (.rep (.lit 251) t0) (.fa 520 t1 t0 t0 t0 t2 t2 t2 t2))] (.any 1400 1000000002 [(.le t0 (.iv 1400)),(.le (.iv 1400) (.lit 16)),(.eq (.iv 1402) t9),(.eq (.iv 1401) t10),(.eq (.len (.av 1400)) (.lit 251)),(.aeq (.av 1400) (.fa 520 t1 (.iv 1402) t0 t0 t2 t2 t2 t2))] (.cond (.lt (.iv 1400) (.lit 16)) (.need [(.le t3 t11),(.le t11 t6)] (.need [(.le t0 t12),(.eq (.iv 1402) (.add t9 t0)),(.eq (.iv 1401) (.add t10 t0))] (.any 1800 1000000002 [(.le t0 (.iv 1800)),(.le (.iv 1800) t12),(.eq (.iv 1802) (.add t9 (.iv 1800))),(.eq (.iv 1801) (.add t10 (.iv 1800))),(.eq (.len (.av 1800)) (.lit 251)),(.aeq (.av 1800) (.fa 520 t1 (.iv 1802) t0 t0 t2 t2 t2 t2))] (.cond (.lt (.iv 1800) t12) (.need [(.le t0 (.iv 1802)),(.lt (.iv 1802) (.lit 162))] (.need [(.lt (.iv 1802) (.len (.alit (At 3))))] (.need [(.le t0 (.get (.alit (At 3)) (.iv 1802))),(.lt (.get (.alit (At 3)) (.iv 1802)) (.lit 251))] (.need [(.le t3 t13),(.le t13 t6)] (.need [(.le t0 t14),(.le t14 t12),(.eq t13 (.add t9 t14)),(.eq (.wrap .u32 (.add (.iv 1801) (.lit 1))) (.add t10 t14)),(.eq (.len t15) (.lit 251)),(.aeq t15 (.fa 520 t1 t13 t0 t0 t2 t2 t2 t2)),(.lt t0 (.sub t12 (.iv 1800))),(.lt (.sub t12 t14) (.sub t12 (.iv 1800)))] .done))))) (.need [(.le t0 t11),(.le t11 (.lit 16)),(.eq (.iv 1802) (.fi 521 t1 t11 t0 t0 t2 t2 t2 t2)),(.eq (.wrap .u32 (.mul (.iv 1801) (.lit 2))) (.fi 522 t1 t11 t0 t0 t2 t2 t2 t2)),(.lt t0 (.sub (.lit 16) (.iv 1400))),(.lt (.sub (.lit 16) t11) (.sub (.lit 16) (.iv 1400)))] .done))))) (.need [(.aeq (.fa 43 t0 t0 t0 t0 t2 t2 t2 t2) (.av 1400))] .done))))))))
theorem qi8:Dd (Db Tryz.prog Jt Jq ⟨jm6 3,fun _=>false⟩ 100000 81 (c81 3)) jzz=true:=by kernel_rfl
set_option maxRecDepth 20000 in
theorem j03:Cf Tryz.prog Z 81 (c81 3):=by
  refine Bf Cq Cn qi8 fun ρ h=> ?_
  have g1:=Cc h (.le (.lit (La 3)) (.iv 1)) (by kernel_rfl)
  clear h
  have hE:=List.all_eq_true.1 Ry 3 (List.mem_range.2 (by omega))
  simp only[Bool.and_eq_true,decide_eq_true_eq] at hE
  obtain ⟨m1,m2,m3,m4⟩:=hE
  have hL:=j9z
  have hl2:(Jn 3:Int)=251:=rfl
  rw[hl2] at m1
  simp only[↓qA,qB,and_true,implies_true,T.I,T.A,T.B,VC.sem] at g1
  have t1:Int.toNat 3=3:=rfl
  have w8:0≤ρ.i 1800→ρ.i 1800<200→IntKind.u8.wrap (ρ.i 1800+1)=ρ.i 1800+1:=by intro a b;rw[IntKind.wrap_u8];omega
  have Qk:0≤ρ.i 1801→ρ.i 1801≤65536→IntKind.u32.wrap (ρ.i 1801+1)=ρ.i 1801+1∧IntKind.u32.wrap (ρ.i 1801*2)=ρ.i 1801*2:=by intro a b;rw[IntKind.wrap_u32,IntKind.wrap_u32];omega
  have w33:0≤ρ.i 1400→ρ.i 1400<16→IntKind.u32.wrap (IntKind.u32.wrap (ρ.i 1400+1)*16777216)=(ρ.i 1400+1)*16777216:=by intro a b;rw[IntKind.wrap_u32,IntKind.wrap_u32];omega
  simp only[jzz,↓qA,qB,and_true,implies_true,T.I,T.A,T.B,VC.sem,Ck,jv7,juo,juz,jih,qk6,hL,t1,Int.toNat_zero,List.length_set,Ea]
  (repeat' (first|with_reducible exact True.intro|with_reducible refine And.intro ?_ ?_|intro _))<;>(try omega)
  · exact (jc5 3).symm
  · have S:=Ht (h:=3) (by omega) (i:=ρ.i 1000) (by omega) (by omega)
    omega
  · have S:=Ht (h:=3) (by omega) (i:=ρ.i 1000) (by omega) (by omega)
    omega
  · rw[On (by omega) (by omega),‹ρ.i 1001=Mv 3 (ρ.i 1000).toNat›]
  · rw[‹ρ.i 1001=Mv 3 (ρ.i 1000).toNat›,show (ρ.i 1000).toNat=(At 3).length from by omega,m1];rfl
  · exact (juh 3).symm
  · exact (jvs 3).symm
  · simp only[List.length_replicate];rfl
  · exact (jby 3).symm
  · have T:=Cu (h:=3) (by omega) (i:=ρ.i 1400) (by omega) (by omega)
    omega
  · have T:=Cu (h:=3) (by omega) (i:=ρ.i 1400) (by omega) (by omega)
    omega
  · have T:=Cu (h:=3) (by omega) (i:=ρ.i 1400) (by omega) (by omega)
    omega
  · have T:=Cu (h:=3) (by omega) (i:=ρ.i 1400) (by omega) (by omega)
    have S:=Ht (h:=3) (by omega) (i:=ρ.i 1802) (by omega) (by omega)
    omega
  · have T:=Cu (h:=3) (by omega) (i:=ρ.i 1400) (by omega) (by omega)
    have S:=Ht (h:=3) (by omega) (i:=ρ.i 1802) (by omega) (by omega)
    omega
  · have T:=Cu (h:=3) (by omega) (i:=ρ.i 1400) (by omega) (by omega)
    rw[w8 (by omega) (by omega)];omega
  · have T:=Cu (h:=3) (by omega) (i:=ρ.i 1400) (by omega) (by omega)
    rw[w8 (by omega) (by omega)];omega
  · have T:=Cu (h:=3) (by omega) (i:=ρ.i 1400) (by omega) (by omega)
    rw[w8 (by omega) (by omega)];omega
  · have T:=Cu (h:=3) (by omega) (i:=ρ.i 1400) (by omega) (by omega)
    rw[w8 (by omega) (by omega),(Qk (by omega) (by omega)).1];omega
  · have T:=Cu (h:=3) (by omega) (i:=ρ.i 1400) (by omega) (by omega)
    have C:=T.2.2.2.2.2.2.2.1 (ρ.i 1800) (by omega) (by omega)
    rw[Oj (by omega) (by omega),w33 (by omega) (by omega),‹ρ.i 1801=CI 3 (ρ.i 1400).toNat+ρ.i 1800›,C,‹ρ.a 1800=Nv 3 (ρ.i 1802).toNat›,‹ρ.i 1802=KI 3 (ρ.i 1400).toNat+ρ.i 1800›]
  · have T:=Cu (h:=3) (by omega) (i:=ρ.i 1400) (by omega) (by omega)
    rw[w8 (by omega) (by omega)];omega
  · have T:=Cu (h:=3) (by omega) (i:=ρ.i 1400) (by omega) (by omega)
    omega
  · have T:=Cu (h:=3) (by omega) (i:=ρ.i 1400) (by omega) (by omega)
    rw[(Qk (by omega) (by omega)).2];omega
  · have e16:(ρ.i 1400).toNat=16:=by omega
    rw[←m4,‹ρ.a 1400=Nv 3 (ρ.i 1402).toNat›,‹ρ.i 1402=KI 3 (ρ.i 1400).toNat›,e16,m2];rfl
end
end Go.Proofs.YtljjbikbfeigdaaGreatDoor
