/- Part of the proof of FnColorEdgesCardSaid: Contracts of the specification's reader shown: markers, segments, blocks. -/
import Derived.Test.YtljjbikbfeigdaaGreatDoorCe18
set_option linter.all false
namespace Go.Proofs.YtljjbikbfeigdaaGreatDoor
noncomputable section
open Go
theorem Ty{v b:Int}(h0:0≤v)(h1:v≤255)(hb:0≤b)(hb1:b≤255):Dj .or .i64 (v*256) b=v*256+b:=by
  obtain ⟨v,rfl⟩:=Int.eq_ofNat_of_zero_le h0
  obtain ⟨b,rfl⟩:=Int.eq_ofNat_of_zero_le hb
  have e:((v:Int)*256)=((2^8*v:Nat):Int):=by omega
  rw[e]
  have key:((BitVec.ofInt 64 ((2^8*v:Nat):Int)|||BitVec.ofInt 64 (b:Int):BitVec 64)).toNat=2^8*v+b:=by
    rw[BitVec.ofInt_natCast,BitVec.ofInt_natCast,BitVec.toNat_or,BitVec.toNat_ofNat,BitVec.toNat_ofNat,Nat.mod_eq_of_lt (by omega:2^8*v<2^64),Nat.mod_eq_of_lt (by omega:b<2^64),←Nat.two_pow_add_eq_or_of_lt (by omega:b<2^8)]
  show IntKind.i64.wrap ((((BitVec.ofInt 64 ((2^8*v:Nat):Int)|||BitVec.ofInt 64 (b:Int):BitVec 64)).toNat:Nat):Int)=_
  rw[key,IntKind.wrap_i64]
  omega
def j14:VC:=
 let t0:T:=.get (.av 1) (.iv 1000)
 let t1:T:=.add (.iv 1000) (.lit 1)
 let t2:T:=.le (.lit (-9223372036854775808)) t1
 let t3:T:=.le t1 (.lit 9223372036854775807)
 (.need [(.le (.lit 0) (.iv 6))] (.cond (.le (.iv 6) (.lit 2)) (.need [.ff,.ff] .done) (.need [(.lt (.lit 2) (.iv 6))] (.need [(.lt (.lit 2) (.len (.av 1)))] (.need [(.le (.lit 2) (.lit 2)),(.le (.lit 2) (.add (.lit 2) (.lit 1)))] (.any 1000 1000000000 [(.le (.lit 2) (.iv 1000)),(.le (.iv 1000) (.add (.lit 2) (.lit 1)))] (.cond (.lt (.iv 1000) (.iv 6)) (.need [(.le (.lit 0) (.iv 1000))] (.need [(.lt (.iv 1000) (.len (.av 1)))] (.cond (.eq t0 (.lit 255)) (.need [t2,t3] (.need [(.le (.lit 2) t1),(.le t1 (.add (.lit 2) (.lit 1))),(.lt (.lit 0) (.sub (.add (.lit 2) (.lit 2)) (.iv 1000))),(.lt (.sub (.add (.lit 2) (.lit 2)) t1) (.sub (.add (.lit 2) (.lit 2)) (.iv 1000)))] .done)) (.cond (.eq (.iv 1000) (.iv 6)) (.need [(.eq (.lit 4) (.iv 1000)),.ff] .done) (.need [(.le (.lit (-9223372036854775808)) t0),(.le t0 (.lit 9223372036854775807))] (.need [t2,t3] (.need [(.eq (.lit 4) t1),(.eq (.lit 219) t0)] .done))))))) (.cond (.eq (.iv 1000) (.iv 6)) (.need [(.eq (.lit 4) (.iv 1000)),.ff] .done) (.need [(.le (.lit 0) (.iv 1000)),(.lt (.iv 1000) (.iv 6))] (.need [(.lt (.iv 1000) (.len (.av 1)))] (.need [(.le (.lit (-9223372036854775808)) t0),(.le t0 (.lit 9223372036854775807))] (.need [t2,t3] (.need [(.eq (.lit 4) t1),(.eq (.lit 219) t0)] .done)))))))))))))
theorem qep:Dd (Db Tryz.prog Jt Jq ⟨Tv (.lit 2),Lb⟩ 100000 31 (Wy (.lit 2) 219)) j14=true:=by kernel_rfl
theorem jon:Cf Tryz.prog Z 31 (Wy (.lit 2) 219):=by
  refine Bf Cq Cn qep fun ρ h=> ?_
  simp only[Wy,bD,Ny,gD,Du,z0,Gl,Tm,Ck,Bi,Di,List.flatMap_cons,List.flatMap_nil,List.append_nil,List.append_assoc,List.cons_append,List.nil_append,and_true,↓qA,qB,and_true,implies_true,T.I,T.A,T.B,VC.sem,Int.reduceAdd] at h
  obtain ⟨h1,h2,h3,h4,h5,h5',h6,h7⟩:=h
  have hb:=Ct h4 (n:=ρ.i 1000)
  have k0:ρ.i 1000=2→Bg (ρ.a 1) (ρ.i 1000)=255:=fun e=>by rw[e];exact h6
  have k1:ρ.i 1000=3→Bg (ρ.a 1) (ρ.i 1000)=219:=fun e=>by rw[e];exact h7
  simp only[j14,↓qA,qB,and_true,implies_true,T.I,T.A,T.B,VC.sem,Ck,Int.reduceAdd]
  (repeat' (first|exact True.intro|refine And.intro ?_ ?_|intro _))<;>(try assumption)<;>(try omega)
def jmy:VC:=
 let t0:T:=.lit 136
 let t1:T:=.get (.av 1) (.iv 1000)
 let t2:T:=.add (.iv 1000) (.lit 1)
 let t3:T:=.le (.lit (-9223372036854775808)) t2
 let t4:T:=.le t2 (.lit 9223372036854775807)
 (.need [(.le (.lit 0) (.iv 6))] (.cond (.le (.iv 6) t0) (.need [.ff,.ff] .done) (.need [(.lt t0 (.iv 6))] (.need [(.lt t0 (.len (.av 1)))] (.need [(.le t0 t0),(.le t0 (.add t0 (.lit 1)))] (.any 1000 1000000000 [(.le t0 (.iv 1000)),(.le (.iv 1000) (.add t0 (.lit 1)))] (.cond (.lt (.iv 1000) (.iv 6)) (.need [(.le (.lit 0) (.iv 1000))] (.need [(.lt (.iv 1000) (.len (.av 1)))] (.cond (.eq t1 (.lit 255)) (.need [t3,t4] (.need [(.le t0 t2),(.le t2 (.add t0 (.lit 1))),(.lt (.lit 0) (.sub (.add t0 (.lit 2)) (.iv 1000))),(.lt (.sub (.add t0 (.lit 2)) t2) (.sub (.add t0 (.lit 2)) (.iv 1000)))] .done)) (.cond (.eq (.iv 1000) (.iv 6)) (.need [(.eq (.lit 138) (.iv 1000)),.ff] .done) (.need [(.le (.lit (-9223372036854775808)) t1),(.le t1 (.lit 9223372036854775807))] (.need [t3,t4] (.need [(.eq (.lit 138) t2),(.eq (.lit 192) t1)] .done))))))) (.cond (.eq (.iv 1000) (.iv 6)) (.need [(.eq (.lit 138) (.iv 1000)),.ff] .done) (.need [(.le (.lit 0) (.iv 1000)),(.lt (.iv 1000) (.iv 6))] (.need [(.lt (.iv 1000) (.len (.av 1)))] (.need [(.le (.lit (-9223372036854775808)) t1),(.le t1 (.lit 9223372036854775807))] (.need [t3,t4] (.need [(.eq (.lit 138) t2),(.eq (.lit 192) t1)] .done)))))))))))))
theorem j60:Dd (Db Tryz.prog Jt Jq ⟨Tv (.lit 136),Lb⟩ 100000 31 (Wy (.lit 136) 192)) jmy=true:=by kernel_rfl
theorem jgw:Cf Tryz.prog Z 31 (Wy (.lit 136) 192):=by
  refine Bf Cq Cn j60 fun ρ h=> ?_
  simp only[Wy,bD,Ny,gD,Du,z0,Gl,Tm,Ck,Bi,Di,List.flatMap_cons,List.flatMap_nil,List.append_nil,List.append_assoc,List.cons_append,List.nil_append,and_true,↓qA,qB,and_true,implies_true,T.I,T.A,T.B,VC.sem,Int.reduceAdd] at h
  obtain ⟨h1,h2,h3,h4,h5,h5',h6,h7⟩:=h
  have hb:=Ct h4 (n:=ρ.i 1000)
  have k0:ρ.i 1000=136→Bg (ρ.a 1) (ρ.i 1000)=255:=fun e=>by rw[e];exact h6
  have k1:ρ.i 1000=137→Bg (ρ.a 1) (ρ.i 1000)=192:=fun e=>by rw[e];exact h7
  simp only[jmy,↓qA,qB,and_true,implies_true,T.I,T.A,T.B,VC.sem,Ck,Int.reduceAdd]
  (repeat' (first|exact True.intro|refine And.intro ?_ ?_|intro _))<;>(try assumption)<;>(try omega)
def j0r:VC:=
 let t0:T:=.add (.iv 0) (.lit 2)
 let t1:T:=.get (.av 1) (.iv 1000)
 let t2:T:=.add (.iv 1000) (.lit 1)
 let t3:T:=.le (.lit (-9223372036854775808)) t2
 let t4:T:=.le t2 (.lit 9223372036854775807)
 (.need [(.le (.lit 0) (.iv 6))] (.cond (.le (.iv 6) (.iv 0)) (.need [(.eq t0 (.iv 0)),.ff] .done) (.need [(.lt (.iv 0) (.iv 6))] (.need [(.lt (.iv 0) (.len (.av 1)))] (.need [(.le (.iv 0) (.iv 0)),(.le (.iv 0) (.add (.iv 0) (.lit 1)))] (.any 1000 1000000000 [(.le (.iv 0) (.iv 1000)),(.le (.iv 1000) (.add (.iv 0) (.lit 1)))] (.cond (.lt (.iv 1000) (.iv 6)) (.need [(.le (.lit 0) (.iv 1000))] (.need [(.lt (.iv 1000) (.len (.av 1)))] (.cond (.eq t1 (.lit 255)) (.need [t3,t4] (.need [(.le (.iv 0) t2),(.le t2 (.add (.iv 0) (.lit 1))),(.lt (.lit 0) (.sub t0 (.iv 1000))),(.lt (.sub t0 t2) (.sub t0 (.iv 1000)))] .done)) (.cond (.eq (.iv 1000) (.iv 6)) (.need [(.eq t0 (.iv 1000)),.ff] .done) (.need [(.le (.lit (-9223372036854775808)) t1),(.le t1 (.lit 9223372036854775807))] (.need [t3,t4] (.need [(.eq t0 t2),(.eq (.lit 217) t1)] .done))))))) (.cond (.eq (.iv 1000) (.iv 6)) (.need [(.eq t0 (.iv 1000)),.ff] .done) (.need [(.le (.lit 0) (.iv 1000)),(.lt (.iv 1000) (.iv 6))] (.need [(.lt (.iv 1000) (.len (.av 1)))] (.need [(.le (.lit (-9223372036854775808)) t1),(.le t1 (.lit 9223372036854775807))] (.need [t3,t4] (.need [(.eq t0 t2),(.eq (.lit 217) t1)] .done)))))))))))))
theorem qhi:Dd (Db Tryz.prog Jt Jq ⟨Tv (.iv 0),Lb⟩ 100000 31 (Wy (.iv 0) 217)) j0r=true:=by kernel_rfl
theorem jmh:Cf Tryz.prog Z 31 (Wy (.iv 0) 217):=by
  refine Bf Cq Cn qhi fun ρ h=> ?_
  simp only[Wy,bD,Ny,gD,Du,z0,Gl,Tm,Ck,Bi,Di,List.flatMap_cons,List.flatMap_nil,List.append_nil,List.append_assoc,List.cons_append,List.nil_append,and_true,↓qA,qB,and_true,implies_true,T.I,T.A,T.B,VC.sem] at h
  obtain ⟨h1,h2,h3,h4,h5,h6,h7,h8⟩:=h
  have hb:=Ct h4 (n:=ρ.i 1000)
  have k0:ρ.i 1000=ρ.i 0→Bg (ρ.a 1) (ρ.i 1000)=255:=fun e=>by rw[e];exact h7
  have k1:ρ.i 1000=ρ.i 0+1→Bg (ρ.a 1) (ρ.i 1000)=217:=fun e=>by rw[e];exact h8
  simp only[j0r,↓qA,qB,and_true,implies_true,T.I,T.A,T.B,VC.sem,Ck]
  (repeat' (first|exact True.intro|refine And.intro ?_ ?_|intro _))<;>(try assumption)<;>(try omega)
def jzi:VC:=
 let t0:T:=.lit (-9223372036854775808)
 let t1:T:=.lit 9223372036854775807
 let t2:T:=.mul (.get (.av 1) (.lit 4)) (.lit 256)
 let t3:T:=.bits .or .i64 t2 (.get (.av 1) (.lit 5))
 let t4:T:=.add (.lit 4) t3
 (.need [(.le (.lit 0) (.iv 6))] (.cond (.lt (.iv 6) (.lit 6)) (.fail "leaf fit") (.need [(.lt (.lit 4) (.iv 6))] (.need [(.lt (.lit 4) (.len (.av 1)))] (.need [(.le t0 (.get (.av 1) (.lit 4))),(.le (.get (.av 1) (.lit 4)) t1)] (.need [(.le t0 t2),(.le t2 t1)] (.need [(.lt (.lit 5) (.iv 6))] (.need [(.lt (.lit 5) (.len (.av 1)))] (.need [(.le t0 (.get (.av 1) (.lit 5))),(.le (.get (.av 1) (.lit 5)) t1)] (.cond (.lt t3 (.lit 2)) (.fail "leaf fit") (.need [(.le t0 t4),(.le t4 t1)] (.cond (.lt (.iv 6) t4) (.fail "leaf fit") (.need [(.le (.lit 0) (.iv 7)),(.le (.iv 7) (.iv 7)),(.le (.lit 0) t4),(.le t4 (.iv 7)),(.le (.lit 6) t4),(.le (.lit 0) (.iv 7))] (.need [(.eq (.lit 136) t4),(.eq (.lit 130) (.sub t4 (.lit 6))),(.eq (.lit 6) (.ite (.eq (.iv 7) (.lit 6)) (.lit 0) (.lit 6)))] .done))))))))))))))
theorem qff:Dd (Db Tryz.prog Jt Jq ⟨Tv z0,Lb⟩ 100000 33 (Xr 4 132)) jzi=true:=by kernel_rfl
theorem jav:Cf Tryz.prog Z 33 (Xr 4 132):=by
  refine Bf Cq Cn qff fun ρ h=> ?_
  simp only[Xr,bD,Ny,gD,Du,z0,Gl,Tm,Ck,Bi,Di,List.flatMap_cons,List.flatMap_nil,List.append_nil,List.append_assoc,List.cons_append,List.nil_append,and_true,↓qA,qB,and_true,implies_true,T.I,T.A,T.B,VC.sem,Nat.reduceAdd,Nat.reduceDiv,Nat.reduceMod,Int.cast_ofNat_Int] at h
  obtain ⟨h1,h2,h3,h4,h5,h6,h7⟩:=h
  have e1:Dj .or .i64 (Bg (ρ.a 1) 4*256) (Bg (ρ.a 1) 5)=132:=by
    rw[h6,h7,Ty (by omega) (by omega) (by omega) (by omega)];rfl
  simp only[jzi,↓qA,qB,and_true,implies_true,T.I,T.A,T.B,VC.sem,Ck,e1,Int.reduceAdd,Dk]
  (repeat' (first|exact True.intro|refine And.intro ?_ ?_|intro _))<;>(try assumption)<;>(try omega)
end
end Go.Proofs.YtljjbikbfeigdaaGreatDoor
