/- Part of the proof of FnColorEdgesCardSaid: Contracts of the specification: the blocks of a gray image held against its samples. -/
import Derived.Test.YtljjbikbfeigdaaGreatDoorCe25
set_option linter.all false
namespace Go.Proofs.YtljjbikbfeigdaaGreatDoor
noncomputable section
open Go
def up8(t:T):T:=.tdiv (.add t (.lit 7)) (.lit 8)
def dn8(t:T):T:=.tdiv t (.lit 8)
def ed8(e:Bool)(t:T):T:=match e with|true=>up8 t|false=>dn8 t
def j7m(e:Bool):T:=match e with|true=>.tt|false=>.ff
def qcm:List SR→Hp→Option Jh:=En fun b fr _=>{
  lo:=53,hi:=109
  tr:=(52,.v (.one (cI (.iv b))))::Gq b 19 6
  facts:=Di z0 (.iv b) (Js fr 51)
  meas:=.sub (Js fr 51) (.iv b)
  quiet:=false}
def j91:List SR→Hp→Option Jh:=En fun b _ _=>{
  lo:=86,hi:=108
  tr:=(85,.v (.one (cI (.iv b))))::Gq b 23 2
  facts:=Di z0 (.iv b) (.lit 64)
  meas:=.sub (.lit 64) (.iv b)
  quiet:=true}
def jd1:Nat→Nat→Option (List SR→Hp→Option Jh):=fun f k=>match f,k with
  | 13,7=>some qcm
  | 13,13=>some j91
  | _,_=>none
def Ri:Nat→Option Ff:=fun f=>match f with
  | 21=>some (Cx c21)
  | 22=>some (Cx c22)
  | _=>none
def jar(P:Program):Nat→Option Ec:=jeh P (fun f=>f==23||f==18||f==19||f==20||f==36||f==37||f==38) Jt 1000 5
theorem Nn: ∀f s,jar Tryz.prog f=some s→Ei Tryz.prog Z f s:=Sj jcn Hq Cq _ _
theorem Mb: ∀f s,Ri f=some s→Dw Tryz.prog Z f s:=by
  intro f s h
  unfold Ri at h
  split at h
  · cases h;exact Ce j93
  · cases h;exact Ce qd8
  · cases h
theorem Vh(x y z u:Int)(a b c d:List Int):Z.fb 610 x y z u a b c d=Fp x y z u a b c (e0 d):=id rfl
theorem Pw{m X Y A B:Int}(h0:0≤m)(h1:m<X*Y)(hX:0≤X)(hXA:X≤A)(hY:0≤Y)(hYB:Y≤B):
    1≤X∧0≤m.tdiv X∧m.tdiv X<Y∧0≤m.tmod X∧m.tmod X<X∧0≤m.tdiv X*A∧m.tdiv X*A+m.tmod X<A*B∧m.tdiv X≤m:=by
  have hX1:1≤X:=by
    rcases Int.lt_or_le 0 X with h|h
    · omega
    · exfalso
      have:X=0:=by omega
      subst this
      rw[Int.zero_mul] at h1;omega
  obtain ⟨q1,q2,q3,q4,q5,q6⟩:=jzh h0 hX1
  have hr:m.tdiv X<Y:=by
    apply Int.lt_of_mul_lt_mul_left (a:=X) _ hX
    rw[Int.mul_comm X];omega
  have g1:(m.tdiv X+1)*A≤B*A:=Int.mul_le_mul_of_nonneg_right (by omega) (by omega)
  have g2:0≤m.tdiv X*A:=Int.mul_nonneg q2 (by omega)
  rw[Int.add_mul,Int.one_mul,Int.mul_comm B A] at g1
  exact ⟨hX1,q2,hr,q5,q6,g2,by omega,q3⟩
theorem Ly{W H m k X Y A:Int}{pl bl q:List Int}(h:Fp W H X Y pl bl q A=true)(hX:0≤X)(hY:0≤Y)(hA:0≤A)(h0:0≤m)(h1:m<X*Y)(k0:0≤k)(k1:k<64):
    imx (Bg bl ((m.tdiv X*A+m.tmod X)*64+k)*Bg q k*1099511627776-Bg (My (Fy (8*m.tmod X) (8*m.tdiv X) W H pl)) k) (0-(Bg bl ((m.tdiv X*A+m.tmod X)*64+k)*Bg q k*1099511627776-Bg (My (Fy (8*m.tmod X) (8*m.tdiv X) W H pl)) k))≤(Bg q k+1)*549755813888:=by
  obtain ⟨x,rfl⟩:=Int.eq_ofNat_of_zero_le hX
  obtain ⟨y,rfl⟩:=Int.eq_ofNat_of_zero_le hY
  obtain ⟨a,rfl⟩:=Int.eq_ofNat_of_zero_le hA
  obtain ⟨n,rfl⟩:=Int.eq_ofNat_of_zero_le h0
  obtain ⟨j,rfl⟩:=Int.eq_ofNat_of_zero_le k0
  have hn:n<x*y:=by
    rw[←Int.natCast_mul] at h1;omega
  have:=jwq h (m:=n) (by simpa using hn) (k:=j) (by omega)
  rw[Int.toNat_natCast,Int.toNat_natCast] at this
  rw[Int.tdiv_eq_ediv_of_nonneg (by omega),Int.tmod_eq_emod_of_nonneg (by omega),←Int.natCast_ediv,←Int.natCast_emod]
  have e:(((n/x:Nat):Int)*(a:Int)+((n % x:Nat):Int))*64+(j:Int)=64*((n/x*a+n % x:Nat):Int)+(j:Int):=by
    rw[Int.natCast_add,Int.natCast_mul,Int.mul_comm _ 64]
  rw[e]
  exact of_decide_eq_true this
theorem Lt{s:List Int}(hs: ∀x∈s,0≤x∧x≤255)(k:Int): -2166096181624832≤Bg (My s) k∧Bg (My s) k≤2166096181624832:=by
  refine Dy (fun x hx=> ?_) (by decide) (by decide) k
  unfold My exP at hx
  obtain ⟨i,hi,rfl⟩:=List.mem_map.1 hx
  rw[if_pos (by rw[List.mem_range] at hi;omega)]
  refine Dy (fun x hx=> ?_) (by decide) (by decide) _
  unfold jd0 Pb at hx
  obtain ⟨i,hi,rfl⟩:=List.mem_map.1 hx
  have:=jan (jn8 hs) (i:Int) 8
  rw[if_pos (by rw[List.mem_range] at hi;omega)]
  omega
theorem Gr{px py w h:Int}{pix:List Int}(ha:Bn 0 255 pix=true): ∀x∈Fy px py w h pix,0≤x∧x≤255:=by
  intro x hx
  unfold Fy at hx
  obtain ⟨i,_,rfl⟩:=List.mem_map.1 hx
  exact Dy (De ha) (by decide) (by decide) _
end
end Go.Proofs.YtljjbikbfeigdaaGreatDoor
