/- Part of the proof of FnColorStreamCardSaid: Contracts of the encoder shown: a whole gray image, the plain part. -/
import Derived.Test.YtljjbikbfeigdaaGreatDoorCo28
set_option linter.all false
namespace Go.Proofs.YtljjbikbfeigdaaGreatDoor
noncomputable section
open Go
theorem j8b:Z.fa 46 0 0 0 0 [] [] [] []=uqL:=id rfl
theorem jyq(q:Int):Z.fa 511 q 0 0 0 [] [] [] []=Ci q:=id rfl
theorem qhx(P:List Int):Z.fb 2 1 255 0 0 P [] [] []=Bn 1 255 P:=id rfl
set_option maxRecDepth 20000 in
theorem qb4:uqL.all (fun u=>decide (1≤u)&&decide (u≤255))=true:=by decide+kernel
theorem jqb:(uqL.length:Int)=128:=by rw[show uqL.length=128 by kernel_rfl];rfl
theorem jij{k:Int}(h0:0≤k)(h1:k<128):1≤Bg uqL k∧Bg uqL k≤255:=by
  have hk:k.toNat<uqL.length:=by have:=jqb;omega
  have:=List.all_eq_true.1 qb4 (Bg uqL k) (by
    unfold Bg
    rw[List.getD_eq_getElem?_getD,List.getElem?_eq_getElem hk]
    exact List.getElem_mem hk)
  simp only[Bool.and_eq_true,decide_eq_true_eq] at this
  exact this
theorem jvx{q:Int}(h1:1≤q)(h2:q≤100):0≤Kd q∧Kd q≤5000:=by
  unfold Kd
  split
  · exact ⟨Int.ediv_nonneg (by omega) (by omega),Int.ediv_le_self _ (by omega)⟩
  · omega
theorem jst{q k:Int}(h1:1≤q)(h2:q≤100)(h3:0≤k)(h4:k<128):0≤Bg uqL k*Kd q∧Bg uqL k*Kd q≤1275000:=by
  have a:=jij h3 h4
  have b:=jvx h1 h2
  exact ⟨Int.mul_nonneg (by omega) (by omega),Int.mul_le_mul (c:=255) (d:=5000) (by omega) (by omega) (by omega) (by omega)⟩
theorem jqx{q:Int}{k:Nat}(hk:k<128):(Ci q)[k]? =some (qel q k):=by
  unfold Ci
  rw[List.getElem?_map,List.getElem?_range hk];rfl
theorem j2h(q:Int)(k:Nat):1≤qel q k∧qel q k≤255:=by unfold qel;split<;>(try split)<;>omega
theorem jbm(q:Int):Bn 1 255 (Ci q)=true:=by
  unfold Bn Ci
  rw[List.all_eq_true]
  intro x hx
  obtain ⟨k,_,rfl⟩:=List.mem_map.1 hx
  have:=j2h q k
  simp only[Bool.and_eq_true,decide_eq_true_eq];exact this
theorem Su(q:Int):((Ci q).length:Int)=128:=by simp[Ci]
theorem jkh{x:Int}(h1:0≤x)(h2:x<65536):Dj .and .i64 x 255=x % 256:=by
  obtain ⟨a,rfl⟩:=Int.eq_ofNat_of_zero_le h1
  have ha:a<2^64:=by omega
  have key:((BitVec.ofInt 64 (a:Int)&&&BitVec.ofInt 64 ((255:Nat):Int):BitVec 64)).toNat=a % 256:=by
    rw[BitVec.ofInt_natCast,BitVec.ofInt_natCast,BitVec.toNat_and,BitVec.toNat_ofNat,BitVec.toNat_ofNat,Nat.mod_eq_of_lt ha,Nat.mod_eq_of_lt (by omega:255<2^64)]
    exact Nat.and_two_pow_sub_one_eq_mod a 8
  show IntKind.i64.wrap ((((BitVec.ofInt 64 (a:Int)&&&BitVec.ofInt 64 ((255:Nat):Int):BitVec 64)).toNat:Nat):Int)=_
  rw[key,IntKind.wrap_i64]
  omega
theorem j7w:(Bl 1).drop 1=[0,2,1,3,3,2,4,3,5,5,4,4,0,0,1,125]:=by kernel_rfl
theorem j8s:(Bl 0).drop 1=[0,1,5,1,1,1,1,1,1,0,0,0,0,0,0,0]:=by kernel_rfl
theorem j18:At 0=[0,1,2,3,4,5,6,7,8,9,10,11]:=by kernel_rfl
theorem jy9{b n:Int}{t:List Int}{s:St}(h: [b]++([n]++t)=pk s):t=s.t:=by
  obtain ⟨t',b',n'⟩:=s
  unfold pk at h
  simp only[List.cons_append,List.nil_append,List.cons.injEq] at h
  exact h.2.2
theorem j0c(t:List Int):up ([0]++([0]++t))=⟨t,0,0⟩:=rfl
end
end Go.Proofs.YtljjbikbfeigdaaGreatDoor
namespace Go.Proofs.YtljjbikbfeigdaaGreatDoor
noncomputable section
open Go
def u6(t:T):Aw:=.int .u64 t
def c79:Hg where
  args:=[.v (.one (u6 (.iv 0))),.v (.one (u6 (.iv 1)))]
  hp:={rw:=[],nv:=1000}
  pre:=Di (.lit 0) (.iv 0) (.lit 131072)++Di (.lit 0) (.iv 1) (.lit 65535)
  val:=.tup [.one (u6 (.lit 0)),.one (u6 (.mul (.iv 0) (.iv 1)))]
  hp':={rw:=[]}
  post:=[]
  quiet:=true
def c57:Hg where
  args:=[.v (.one (cI (.iv 0))),.v (.one (cI (.iv 1))),.v (.one (cI (.iv 2)))]
  hp:={rw:=[],nv:=1000}
  pre:=Di (.lit 1) (.iv 0) (.lit 2)++Di (.lit 1) (.iv 1) (.lit 65535)++Di (.lit 1) (.iv 2) (.lit 65535)
  val:=.v (.one (cI (.mul (.mul (.iv 0) (.iv 1)) (.iv 2))))
  hp':={rw:=[]}
  post:=[]
  quiet:=true
def jw2:Nat→Option Ec:=fun f=>match f with
  | 79=>some (Gp c79)
  | _=>none
end
end Go.Proofs.YtljjbikbfeigdaaGreatDoor
namespace Go.Proofs.YtljjbikbfeigdaaGreatDoor
noncomputable section
open Go
theorem Yr(x:Int):x.fdiv (2^min (Int.toNat 32) IntKind.u64.bits)=x/4294967296:=by
  have e:((2:Int)^min (Int.toNat 32) IntKind.u64.bits)=4294967296:=by decide
  rw[e,Int.fdiv_eq_ediv_of_nonneg _ (by omega)]
theorem jf1{x:Int}(h1:0≤x)(h2:x<4294967296):Dj .and .u64 x 4294967295=x:=by
  obtain ⟨a,rfl⟩:=Int.eq_ofNat_of_zero_le h1
  have ha:a<2^64:=by omega
  have key:((BitVec.ofInt 64 (a:Int)&&&BitVec.ofInt 64 ((4294967295:Nat):Int):BitVec 64)).toNat=a % 4294967296:=by
    rw[BitVec.ofInt_natCast,BitVec.ofInt_natCast,BitVec.toNat_and,BitVec.toNat_ofNat,BitVec.toNat_ofNat,Nat.mod_eq_of_lt ha,Nat.mod_eq_of_lt (by omega:4294967295<2^64)]
    exact Nat.and_two_pow_sub_one_eq_mod a 32
  show IntKind.u64.wrap ((((BitVec.ofInt 64 (a:Int)&&&BitVec.ofInt 64 ((4294967295:Nat):Int):BitVec 64)).toNat:Nat):Int)=_
  rw[key,IntKind.wrap_u64]
  omega
def j1f:VC:=
 let t0:T:=.wrap .u64 (.add (.wrap .u64 (.mul (.shr .u64 (.iv 0) (.lit 32)) (.bits .and .u64 (.iv 1) (.lit 4294967295)))) (.shr .u64 (.wrap .u64 (.mul (.bits .and .u64 (.iv 0) (.lit 4294967295)) (.bits .and .u64 (.iv 1) (.lit 4294967295)))) (.lit 32)))
 (.need [(.eq (.mul (.iv 0) (.iv 1)) (.wrap .u64 (.mul (.iv 0) (.iv 1)))),(.eq (.lit 0) (.wrap .u64 (.add (.wrap .u64 (.add (.wrap .u64 (.mul (.shr .u64 (.iv 0) (.lit 32)) (.shr .u64 (.iv 1) (.lit 32)))) (.shr .u64 t0 (.lit 32)))) (.shr .u64 (.wrap .u64 (.add (.bits .and .u64 t0 (.lit 4294967295)) (.wrap .u64 (.mul (.bits .and .u64 (.iv 0) (.lit 4294967295)) (.shr .u64 (.iv 1) (.lit 32)))))) (.lit 32)))))] .done)
theorem w79:Dd (Db Tryz.prog Jt Jq jt4 100000 79 c79) j1f=true:=by kernel_rfl
theorem jpq:Cf Tryz.prog Z 79 c79:=by
  refine Bf Cq Cn w79 fun ρ h=> ?_
  simp only[c79,Bi,Di,List.flatMap_cons,List.flatMap_nil,List.append_nil,List.append_assoc,List.cons_append,List.nil_append,and_true,↓Bo,↓Bq,↓Bs,↓Az,↓Ca,↓Bz,↓Bu,↓Bc,↓Bb,↓Be,↓Ba,↓Bv,↓Ay,↓Bt,↓Br,↓Bw,↓Bx,↓By,Ag,As,Ap,Ar,T.I,T.A,T.B,Int.toNat_zero,List.drop_zero,and_true,implies_true,VC.sem,Aa,Af,Ak,Ai,Ae,Ac,Ad,Am,Al,Ah,An,Aj,Ab,Aq,Ao] at h
  obtain ⟨h1,h2,h3,h4⟩:=h
  have hp0:0≤ρ.i 0*ρ.i 1:=Int.mul_nonneg (by omega) (by omega)
  have hp1:ρ.i 0*ρ.i 1≤131072*65535:=Int.mul_le_mul (by omega) (by omega) (by omega) (by omega)
  have e0:ρ.i 0/4294967296=0:=Int.ediv_eq_zero_of_lt (by omega) (by omega)
  have e1:ρ.i 1/4294967296=0:=Int.ediv_eq_zero_of_lt (by omega) (by omega)
  have w0:IntKind.u64.wrap 0=0:=rfl
  have wp:IntKind.u64.wrap (ρ.i 0*ρ.i 1)=ρ.i 0*ρ.i 1:=by rw[IntKind.wrap_u64];omega
  have wq:IntKind.u64.wrap (ρ.i 0*ρ.i 1/4294967296)=ρ.i 0*ρ.i 1/4294967296:=by rw[IntKind.wrap_u64];omega
  have eq:ρ.i 0*ρ.i 1/4294967296/4294967296=0:=by omega
  simp only[j1f,↓Bo,↓Bq,↓Bs,↓Az,↓Ca,↓Bz,↓Bu,↓Bc,↓Bb,↓Be,↓Ba,↓Bv,↓Ay,↓Bt,↓Br,↓Bw,↓Bx,↓By,Ag,As,Ap,Ar,T.I,T.A,T.B,Int.toNat_zero,List.drop_zero,and_true,implies_true,VC.sem,Aa,Af,Ak,Ai,Ae,Ac,Ad,Am,Al,Ah,An,Aj,Ab,Aq,Ao,Yr,e0,e1,jf1 (x:=ρ.i 0) (by omega) (by omega),jf1 (x:=ρ.i 1) (by omega) (by omega),Int.zero_mul,Int.mul_zero,w0,wp,Int.zero_add,Int.add_zero,wq,jf1 (x:=ρ.i 0*ρ.i 1/4294967296) (by omega) (by omega),eq]
def j0y:VC:=
 let t0:T:=.eq (.mul (.mul (.iv 0) (.iv 1)) (.iv 2)) (.lit (-1))
 let t1:T:=.mul (.wrap .u64 (.iv 0)) (.wrap .u64 (.iv 1))
 let t2:T:=.mul t1 (.wrap .u64 (.iv 2))
 (.cond (.lt (.iv 0) (.lit 0)) (.need [t0] .done) (.cond (.lt (.iv 1) (.lit 0)) (.need [t0] .done) (.cond (.lt (.iv 2) (.lit 0)) (.need [t0] .done) (.need [(.le (.lit 0) (.wrap .u64 (.iv 0))),(.le (.wrap .u64 (.iv 0)) (.lit 131072)),(.le (.lit 0) (.wrap .u64 (.iv 1))),(.le (.wrap .u64 (.iv 1)) (.lit 65535))] (.need [(.le (.lit 0) t1),(.le t1 (.lit 131072)),(.le (.lit 0) (.wrap .u64 (.iv 2))),(.le (.wrap .u64 (.iv 2)) (.lit 65535))] (.need [(.le (.lit (-9223372036854775808)) t2),(.le t2 (.lit 9223372036854775807))] (.cond (.lt t2 (.lit 0)) (.need [t0] .done) (.cond (.not (.eq (.wrap .u64 t2) t2)) (.need [t0] .done) (.need [(.eq (.mul (.mul (.iv 0) (.iv 1)) (.iv 2)) t2)] .done)))))))))
theorem w57:Dd (Db Tryz.prog jw2 Jq jt4 100000 57 c57) j0y=true:=by kernel_rfl
theorem jk4: ∀f s,jw2 f=some s→Ei Tryz.prog Z f s:=by
  intro f s h
  unfold jw2 at h
  split at h
  · cases h;exact Dq jpq
  · cases h
theorem jq7:Cf Tryz.prog Z 57 c57:=by
  refine Bf jk4 Cn w57 fun ρ h=> ?_
  simp only[c57,Bi,Di,List.flatMap_cons,List.flatMap_nil,List.append_nil,List.append_assoc,List.cons_append,List.nil_append,and_true,↓Bo,↓Bq,↓Bs,↓Az,↓Ca,↓Bz,↓Bu,↓Bc,↓Bb,↓Be,↓Ba,↓Bv,↓Ay,↓Bt,↓Br,↓Bw,↓Bx,↓By,Ag,As,Ap,Ar,T.I,T.A,T.B,Int.toNat_zero,List.drop_zero,and_true,implies_true,VC.sem,Aa,Af,Ak,Ai,Ae,Ac,Ad,Am,Al,Ah,An,Aj,Ab,Aq,Ao] at h
  obtain ⟨h1,h2,h3,h4,h5,h6⟩:=h
  have hp0:1≤ρ.i 0*ρ.i 1:=Int.le_trans (by omega) (Int.mul_le_mul (a:=1) (b:=1) h1 h3 (by omega) (by omega))
  have hp1:ρ.i 0*ρ.i 1≤2*65535:=Int.mul_le_mul (by omega) (by omega) (by omega) (by omega)
  have hq0:0≤ρ.i 0*ρ.i 1*ρ.i 2:=Int.mul_nonneg (by omega) (by omega)
  have hq1:ρ.i 0*ρ.i 1*ρ.i 2≤131070*65535:=Int.mul_le_mul (by omega) (by omega) (by omega) (by omega)
  have u0:IntKind.u64.wrap (ρ.i 0)=ρ.i 0:=by rw[IntKind.wrap_u64];omega
  have u1:IntKind.u64.wrap (ρ.i 1)=ρ.i 1:=by rw[IntKind.wrap_u64];omega
  have u2:IntKind.u64.wrap (ρ.i 2)=ρ.i 2:=by rw[IntKind.wrap_u64];omega
  have u3:IntKind.u64.wrap (ρ.i 0*ρ.i 1*ρ.i 2)=ρ.i 0*ρ.i 1*ρ.i 2:=by rw[IntKind.wrap_u64];omega
  simp only[j0y,↓Bo,↓Bq,↓Bs,↓Az,↓Ca,↓Bz,↓Bu,↓Bc,↓Bb,↓Be,↓Ba,↓Bv,↓Ay,↓Bt,↓Br,↓Bw,↓Bx,↓By,Ag,As,Ap,Ar,T.I,T.A,T.B,Int.toNat_zero,List.drop_zero,and_true,implies_true,VC.sem,Aa,Af,Ak,Ai,Ae,Ac,Ad,Am,Al,Ah,An,Aj,Ab,Aq,Ao,u0,u1,u2,u3]
  (repeat' (first|with_reducible exact True.intro|with_reducible refine And.intro ?_ ?_|intro _))<;>(try omega)
  exact absurd True.intro ‹¬True›
end
end Go.Proofs.YtljjbikbfeigdaaGreatDoor
