/- Part of the proof of FnColorEdgesCardSaid: The encoder's coefficients are what the specification's checker asks for. -/
import Derived.Test.YtljjbikbfeigdaaGreatDoorCe26
set_option linter.all false
namespace Go.Proofs.YtljjbikbfeigdaaGreatDoor
noncomputable section
open Go
def Hm(f:Int→Int):Int:=f 0+f 1+f 2+f 3+f 4+f 5+f 6+f 7
theorem jui(f:Int→Int→Int):Hm (fun y=>Hm fun x=>f x y)=Hm fun x=>Hm fun y=>f x y:=by
  simp only[Hm];omega
theorem jaa(c:Int)(f:Int→Int):c*Hm f=Hm fun x=>c*f x:=by
  simp only[Hm,Int.mul_add]
theorem joe(f g:Int→Int):Hm (fun x=>f x-g x)=Hm f-Hm g:=by
  simp only[Hm];omega
theorem Pc{f g:Int→Int}(h: ∀x,f x=g x):Hm f=Hm g:=by
  have:f=g:=funext h
  rw[this]
theorem j3d{f g:Int→Int}(h: ∀x:Int,0≤x→x<8→f x=g x):Hm f=Hm g:=by
  unfold Hm
  rw[h 0 (by decide) (by decide),h 1 (by decide) (by decide),h 2 (by decide) (by decide),h 3 (by decide) (by decide),h 4 (by decide) (by decide),h 5 (by decide) (by decide),h 6 (by decide) (by decide),h 7 (by decide) (by decide)]
theorem j35(U V:Int→Int)(s:Int→Int→Int):Hm (fun y=>V y*Hm fun x=>U x*(s x y-128))=Hm (fun x=>U x*Hm fun y=>V y*s x y)-128*Hm U*Hm V:=by
  have e1:Hm (fun y=>V y*Hm fun x=>U x*(s x y-128))=Hm (fun y=>Hm fun x=>U x*(V y*s x y))-Hm (fun y=>Hm fun x=>128*U x*V y):=by
    rw[←joe]
    refine Pc fun y=> ?_
    rw[jaa,←joe]
    refine Pc fun x=> ?_
    rw[Int.mul_sub,Int.mul_sub,Int.mul_left_comm (V y) (U x) (s x y)]
    congr 1
    rw[Int.mul_comm (V y),Int.mul_comm (U x)]
  have e2:Hm (fun y=>Hm fun x=>128*U x*V y)=128*Hm U*Hm V:=by
    rw[jaa (128*Hm U)]
    refine Pc fun y=> ?_
    rw[Int.mul_assoc,Int.mul_comm (Hm U) (V y),←Int.mul_assoc,jaa]
    refine Pc fun x=> ?_
    rw[Int.mul_assoc,Int.mul_comm (U x),←Int.mul_assoc]
  rw[e1,e2,jui]
  congr 1
  refine Pc fun x=> ?_
  rw[jaa]
theorem jte: ∀u:Nat,u<8→bas u=[Bg Fx (8*0+u),Bg Fx (8*1+u),Bg Fx (8*2+u),Bg Fx (8*3+u),Bg Fx (8*4+u),Bg Fx (8*5+u),Bg Fx (8*6+u),Bg Fx (8*7+u)]:=by decide+kernel
theorem jut{u v:Nat}(hu:u<8)(hv:v<8)(s:List Int):
    exact u v s=Hm (fun x=>Bg Fx (8*x+u)*Hm fun y=>Bg Fx (8*y+v)*Bg s (8*y+x))-128*Hm (fun x=>Bg Fx (8*x+u))*Hm (fun y=>Bg Fx (8*y+v)):=by
  unfold exact
  rw[jte u hu,jte v hv]
  have e1: ∀a b c d e f g h:Int,jb6 [a,b,c,d,e,f,g,h]=a+b+c+d+e+f+g+h:=by intros;simp only[jb6];omega
  have e2: ∀(A:List Int) (a b c d e f g h:Int) (X Y Z W P Q R T:List Int),Qx [a,b,c,d,e,f,g,h] A [X,Y,Z,W,P,Q,R,T]=a*Nr A X+b*Nr A Y+c*Nr A Z+d*Nr A W+e*Nr A P+f*Nr A Q+g*Nr A R+h*Nr A T:=by intros;simp only[Qx];omega
  have e3: ∀a b c d e f g h p q r t w x y z:Int,Nr [a,b,c,d,e,f,g,h] [p,q,r,t,w,x,y,z]=a*p+b*q+c*r+d*t+e*w+f*x+g*y+h*z:=by intros;simp only[Nr];omega
  rw[e1,e1]
  unfold Zo jc1
  rw[e2]
  simp only[e3]
  rfl
theorem j8x(s:List Int)(i:Int):Us s i 8=Hm fun x=>Bg Fx (8*x+i % 8)*(Bg s (8*(i/8)+x)-128):=by
  simp only[Us,Hm]
  simp only[Int.zero_add]
  rfl
theorem j9r(h:List Int)(i:Int):Ww h i 8=Hm fun y=>Bg Fx (8*y+i/8)*Bg h (8*y+i % 8):=by
  simp only[Ww,Hm]
  simp only[Int.zero_add]
  rfl
theorem j3l{s:List Int}{j:Int}(h0:0≤j)(h1:j<64):Bg (Pg s) j=Us s j 8:=by
  unfold Pg
  rw[Ku h0 h1,if_pos h1]
theorem jx2{s:List Int}{k:Int}(h0:0≤k)(h1:k<64){u v:Nat}(hu:u<8)(hv:v<8)(hn:Bg Hl k=8*(v:Int)+u):Bg (My s) k=exact u v s:=by
  have e1:Bg (My s) k=Bg (jd0 s) (8*(v:Int)+u):=by
    obtain ⟨m,rfl⟩:=Int.eq_ofNat_of_zero_le h0
    show ((List.range 64).map fun i:Nat=>if (i:Int)<64 then Bg (jd0 s) (Bg Hl i) else 0).getD ((m:Int)).toNat 0=_
    rw[List.getD_eq_getElem?_getD,List.getElem?_map,Int.toNat_natCast,List.getElem?_range (by omega)]
    simp only[Option.map_some,Option.getD_some]
    rw[if_pos h1,hn]
  have e2:Bg (jd0 s) (8*(v:Int)+u)=Ww (Pg s) (8*(v:Int)+u) 8:=by
    unfold jd0
    rw[Ku (by omega) (by omega),if_pos (by omega)]
  rw[e1,e2,j9r,show (8*(v:Int)+(u:Int))/8=v from by omega,show (8*(v:Int)+(u:Int)) % 8=u from by omega,jut hu hv,←j35]
  have e3: ∀y:Int,0≤y→y<8→Bg (Pg s) (8*y+u)=Hm fun x=>Bg Fx (8*x+u)*(Bg s (8*y+x)-128):=by
    intro y a b
    rw[j3l (by omega) (by omega),j8x,show (8*y+(u:Int)) % 8=u from by omega,show (8*y+(u:Int))/8=y from by omega]
  exact j3d fun y a b=>by rw[e3 y a b]
theorem jw1{x q:Int}(hq:1≤q): -(4*q)≤8*(Oc x (8*q)*q)-x∧8*(Oc x (8*q)*q)-x≤4*q:=by
  have e:8*q/2=4*q:=by omega
  unfold Oc
  rw[e]
  split
  · have g1:=Int.mul_ediv_self_le (x:=x+4*q) (k:=8*q) (by omega)
    have g2:=Int.lt_mul_ediv_self_add (x:=x+4*q) (k:=8*q) (by omega)
    generalize (x+4*q)/(8*q)=n at*
    rw[Int.mul_assoc,Int.mul_comm q n] at g1 g2
    omega
  · have g1:=Int.mul_ediv_self_le (x:= -x+4*q) (k:=8*q) (by omega)
    have g2:=Int.lt_mul_ediv_self_add (x:= -x+4*q) (k:=8*q) (by omega)
    generalize (-x+4*q)/(8*q)=n at*
    rw[Int.mul_assoc,Int.mul_comm q n] at g1 g2
    rw[Int.neg_mul]
    omega
theorem jib{s:List Int}(hl:s.length=64)(hs: ∀x∈s,0≤x∧x≤255){k Q:Int}(h0:0≤k)(h1:k<64)(hQ:1≤Q):jsb (Oc (Bg (Dc s) (Bg Hl k)) (8*Q)) Q (Bg (My s) k)=true:=by
  obtain ⟨u1,u2,_⟩:=Rv h0 h1
  obtain ⟨n,hn⟩:=Int.eq_ofNat_of_zero_le u1
  have hn2:Bg Hl k=8*((n/8:Nat):Int)+((n % 8:Nat):Int):=by rw[hn];omega
  rw[jx2 h0 h1 (u:=n % 8) (v:=n/8) (by omega) (by omega) hn2,hn2]
  obtain ⟨d1,d2,_⟩:=jp2 hl hs (u:=n % 8) (v:=n/8) (by omega) (by omega)
  generalize Bg (Dc s) (8*((n/8:Nat):Int)+((n % 8:Nat):Int))=F at*
  generalize exact (n % 8) (n/8) s=e at*
  obtain ⟨r1,r2⟩:=jw1 (x:=F) hQ
  unfold jsb imx
  generalize Oc F (8*Q)*Q=p at*
  rw[decide_eq_true_eq]
  split<;>omega
theorem jmb{q:Nat}{quant d:List Int}{k:Nat}(hk:k<64):Bg (Eu q quant d 0 64) k=coef q quant d k:=by
  unfold Bg Eu
  rw[List.getD_eq_getElem?_getD,List.getElem?_map,Int.toNat_natCast,←List.range_eq_range',List.getElem?_range hk]
  rfl
theorem jny{l:List Int}(h:Ws l=true): ∀x∈l,-1024≤x∧x≤1023:=by
  unfold Ws at h
  simp only[Bool.and_eq_true,decide_eq_true_eq,List.all_eq_true] at h
  intro x hx
  cases l with
  | nil=>simp at hx
  | cons a l=>
    rcases List.mem_cons.1 hx with rfl|hx
    · exact ⟨h.1,h.2.1⟩
    · have:=h.2.2 x hx
      omega
end
end Go.Proofs.YtljjbikbfeigdaaGreatDoor
