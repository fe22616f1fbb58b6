/- Part of the proof of FnColorEdgesCardSaid: The forward transform, element by element; its distance from the exact one; the quantized coefficients' bounds. -/
import Derived.Test.YtljjbikbfeigdaaGreatDoorCe13
set_option linter.all false
namespace Go.Proofs.YtljjbikbfeigdaaGreatDoor
noncomputable section
open Go
theorem jls{c:Prop}[Decidable c]{x y z:Int}(h: ¬c)(h2:y=z):(if c then x else y)=z:=by rw[if_neg h];exact h2
theorem jdt{c:Prop}[Decidable c]{x y z:Int}(h:c)(h2:x=z):(if c then x else y)=z:=by rw[if_pos h];exact h2
theorem Hz{l:List Int}{m n x:Int}(h1:0≤m)(h2:m<64)(h3:0≤n)(hl:l.length=64):Bg (l.set m.toNat x) n=if n=m then x else Bg l n:=by
  unfold Bg
  rw[List.getD_eq_getElem?_getD,List.getD_eq_getElem?_getD]
  split
  · rename_i e;subst e
    rw[List.getElem?_set_self (by omega)];rfl
  · rw[List.getElem?_set_ne (by omega)]
theorem jco{i:Int}{a:List Int}:(Wr i a).length=a.length:=by simp[Wr]
theorem jcr{i:Int}{a:List Int}:(Wi i a).length=a.length:=by simp[Wi]
theorem jd3{a:List Int}(hl:a.length=64){i j:Int}(h1:0≤i)(h2:i<8)(h3:0≤j)(h4:j<8){v:Nat}(hv:v<8):
    Bg (Wr i a) (8*(v:Int)+j)=if j=i then Df i a (pm v) else Bg a (8*(v:Int)+j):=by
  unfold Wr
  rw[Hz (by omega) (by omega) (by omega) (by simp[hl]),Hz (by omega) (by omega) (by omega) (by simp[hl]),Hz (by omega) (by omega) (by omega) (by simp[hl]),Hz (by omega) (by omega) (by omega) (by simp[hl]),Hz (by omega) (by omega) (by omega) (by simp[hl]),Hz (by omega) (by omega) (by omega) (by simp[hl]),Hz (by omega) (by omega) (by omega) (by simp[hl]),Hz (by omega) (by omega) (by omega) hl]
  generalize Df i a=f
  generalize Bg a=g
  by_cases hj:j=i
  · rw[if_pos hj]
    match v,hv with
    | 0,_|1,_|2,_|3,_|4,_|5,_|6,_|7,_=>repeat (first|exact jdt (by omega) rfl|refine jls (by omega) ?_|rfl)
  · rw[if_neg hj]
    match v,hv with
    | 0,_|1,_|2,_|3,_|4,_|5,_|6,_|7,_=>repeat (first|exact jdt (by omega) rfl|refine jls (by omega) ?_|rfl)
theorem jcs{a:List Int}(hl:a.length=64){i v:Int}(h1:0≤i)(h2:i<8)(h3:0≤v)(h4:v<8){u:Nat}(hu:u<8):
    Bg (Wi i a) (8*v+(u:Int))=if v=i then Pa i a (pm u) else Bg a (8*v+(u:Int)):=by
  unfold Wi
  rw[Hz (by omega) (by omega) (by omega) (by simp[hl]),Hz (by omega) (by omega) (by omega) (by simp[hl]),Hz (by omega) (by omega) (by omega) (by simp[hl]),Hz (by omega) (by omega) (by omega) (by simp[hl]),Hz (by omega) (by omega) (by omega) (by simp[hl]),Hz (by omega) (by omega) (by omega) (by simp[hl]),Hz (by omega) (by omega) (by omega) (by simp[hl]),Hz (by omega) (by omega) (by omega) hl]
  generalize Pa i a=f
  generalize Bg a=g
  by_cases hj:v=i
  · rw[if_pos hj]
    match u,hu with
    | 0,_|1,_|2,_|3,_|4,_|5,_|6,_|7,_=>repeat (first|exact jdt (by omega) rfl|refine jls (by omega) ?_|rfl)
  · rw[if_neg hj]
    match u,hu with
    | 0,_|1,_|2,_|3,_|4,_|5,_|6,_|7,_=>repeat (first|exact jdt (by omega) rfl|refine jls (by omega) ?_|rfl)
theorem jm3{i:Int}{a b:List Int}(h: ∀v:Nat,v<8→Bg a (8*(v:Int)+i)=Bg b (8*(v:Int)+i)):Df i a=Df i b:=by
  have e0:Bg a i=Bg b i:=by simpa using h 0 (by omega)
  have e1:Bg a (8+i)=Bg b (8+i):=h 1 (by omega)
  have e2:Bg a (16+i)=Bg b (16+i):=h 2 (by omega)
  have e3:Bg a (24+i)=Bg b (24+i):=h 3 (by omega)
  have e4:Bg a (32+i)=Bg b (32+i):=h 4 (by omega)
  have e5:Bg a (40+i)=Bg b (40+i):=h 5 (by omega)
  have e6:Bg a (48+i)=Bg b (48+i):=h 6 (by omega)
  have e7:Bg a (56+i)=Bg b (56+i):=h 7 (by omega)
  unfold Df
  rw[e0,e1,e2,e3,e4,e5,e6,e7]
theorem jnz{i:Int}{a b:List Int}(h: ∀u:Nat,u<8→Bg a (8*i+(u:Int))=Bg b (8*i+(u:Int))):Pa i a=Pa i b:=by
  have e0:Bg a (8*i)=Bg b (8*i):=by simpa using h 0 (by omega)
  have e1:Bg a (1+8*i)=Bg b (1+8*i):=by
    have:=h 1 (by omega)
    rw[Int.add_comm] at this
    exact this
  have e2:Bg a (2+8*i)=Bg b (2+8*i):=by
    have:=h 2 (by omega)
    rw[Int.add_comm] at this
    exact this
  have e3:Bg a (3+8*i)=Bg b (3+8*i):=by
    have:=h 3 (by omega)
    rw[Int.add_comm] at this
    exact this
  have e4:Bg a (4+8*i)=Bg b (4+8*i):=by
    have:=h 4 (by omega)
    rw[Int.add_comm] at this
    exact this
  have e5:Bg a (5+8*i)=Bg b (5+8*i):=by
    have:=h 5 (by omega)
    rw[Int.add_comm] at this
    exact this
  have e6:Bg a (6+8*i)=Bg b (6+8*i):=by
    have:=h 6 (by omega)
    rw[Int.add_comm] at this
    exact this
  have e7:Bg a (7+8*i)=Bg b (7+8*i):=by
    have:=h 7 (by omega)
    rw[Int.add_comm] at this
    exact this
  unfold Pa
  rw[e0,e1,e2,e3,e4,e5,e6,e7]
theorem jvh(m:Nat): ∀{i j:Int} {a:List Int},a.length=64→i=8-(m:Int)→0≤i→0≤j→j<8→ ∀{v:Nat},v<8→
    Bg (Tf i a) (8*(v:Int)+j)=if i≤j then Df j a (pm v) else Bg a (8*(v:Int)+j):=by
  induction m with
  | zero=>
    intro i j a hl hi h0 h1 h2 v hv
    rw[jc0 (by omega),if_neg (by omega)]
  | succ m ih=>
    intro i j a hl hi h0 h1 h2 v hv
    rw[Yx (by omega),ih (by rw[jco,hl]) (by omega) (by omega) h1 h2 hv]
    by_cases hj:i+1≤j
    · rw[if_pos hj,if_pos (by omega)]
      rw[jm3 (b:=a)]
      intro w hw
      rw[jd3 hl h0 (by omega) h1 h2 hw,if_neg (by omega)]
    · rw[if_neg hj,jd3 hl h0 (by omega) h1 h2 hv]
      by_cases e:j=i
      · subst e;rw[if_pos rfl,if_pos (Int.le_refl _)]
      · rw[if_neg e,if_neg (by omega)]
theorem jvn(m:Nat): ∀{i v:Int} {a:List Int},a.length=64→i=8-(m:Int)→0≤i→0≤v→v<8→ ∀{u:Nat},u<8→
    Bg (Ul i a) (8*v+(u:Int))=if i≤v then Pa v a (pm u) else Bg a (8*v+(u:Int)):=by
  induction m with
  | zero=>
    intro i v a hl hi h0 h1 h2 u hu
    rw[jbj (by omega),if_neg (by omega)]
  | succ m ih=>
    intro i v a hl hi h0 h1 h2 u hu
    rw[Xn (by omega),ih (by rw[jcr,hl]) (by omega) (by omega) h1 h2 hu]
    by_cases hj:i+1≤v
    · rw[if_pos hj,if_pos (by omega)]
      rw[jnz (b:=a)]
      intro w hw
      rw[jcs hl h0 (by omega) h1 h2 hw,if_neg (by omega)]
    · rw[if_neg hj,jcs hl h0 (by omega) h1 h2 hu]
      by_cases e:v=i
      · subst e;rw[if_pos rfl,if_pos (Int.le_refl _)]
      · rw[if_neg e,if_neg (by omega)]
theorem jil(m:Nat): ∀{i:Int} {a:List Int},i=8-(m:Int)→(Tf i a).length=a.length:=by
  induction m with
  | zero=>intro i a hi;rw[jc0 (by omega)]
  | succ m ih=>intro i a hi;rw[Yx (by omega),ih (by omega),jco]
theorem ju7{a:List Int}(hl:a.length=64){u v:Nat}(hu:u<8)(hv:v<8):Bg (Dc a) (8*(v:Int)+(u:Int))=
    jbf Qg (Uz (Df 0 a (pm v)) (Df 1 a (pm v)) (Df 2 a (pm v)) (Df 3 a (pm v)) (Df 4 a (pm v)) (Df 5 a (pm v)) (Df 6 a (pm v)) (Df 7 a (pm v))) (pm u):=by
  unfold Dc
  rw[jvn 8 (by rw[jil 8 (by omega),hl]) (by omega) (by omega) (by omega) (by omega) hu,if_pos (by omega)]
  unfold Pa
  have g: ∀j:Int,0≤j→j<8→Bg (Tf 0 a) (j+8*(v:Int))=Df j a (pm v):=by
    intro j h1 h2
    rw[Int.add_comm,jvh 8 hl (by omega) (by omega) h1 h2 hv,if_pos h1]
  rw[g 1 (by omega) (by omega),g 2 (by omega) (by omega),g 3 (by omega) (by omega),g 4 (by omega) (by omega),g 5 (by omega) (by omega),g 6 (by omega) (by omega),g 7 (by omega) (by omega)]
  have g0:=g 0 (by omega) (by omega)
  rw[Int.zero_add] at g0
  rw[g0]
theorem jp2{a:List Int}(hl:a.length=64)(ha: ∀y∈a,0≤y∧y≤255){u v:Nat}(hu:u<8)(hv:v<8):
    -(2^39)≤2^37*Bg (Dc a) (8*(v:Int)+(u:Int))-exact u v a∧2^37*Bg (Dc a) (8*(v:Int)+(u:Int))-exact u v a≤2^39∧
    Bg (Dc a) (8*(v:Int)+(u:Int))≤8187∧ -(if u=0∧v=0 then 8195 else 8187)≤Bg (Dc a) (8*(v:Int)+(u:Int)):=by
  rw[ju7 hl hu hv]
  obtain ⟨_,hok⟩:=Qp.2 v hv
  have hok:=hok u hu
  unfold jwk at hok
  simp only[Bool.and_eq_true,decide_eq_true_eq] at hok
  obtain ⟨⟨⟨⟨_,c1⟩,c2⟩,c3⟩,c4⟩:=hok
  have d1:=jt3 ha (k1:=2^37) (k2:=scl u v) (by decide) hu hv
  have d2:=jt3 ha (k1:=1) (k2:=0) (by decide) hu hv
  generalize jbf Qg (Uz (Df 0 a (pm v)) (Df 1 a (pm v)) (Df 2 a (pm v)) (Df 3 a (pm v)) (Df 4 a (pm v)) (Df 5 a (pm v)) (Df 6 a (pm v)) (Df 7 a (pm v))) (pm u)=z at*
  have hp:0<scl u v:=p2 _
  generalize scl u v=p at*
  have e1:(2:Int)^37*(z*p)-p*exact u v a=(2^37*z-exact u v a)*p:=by
    rw[Int.sub_mul,Int.mul_assoc,Int.mul_comm p]
  rw[e1] at d1
  refine ⟨?_,?_,?_,?_⟩
  · apply Int.le_of_mul_le_mul_right (a:=p) _ hp;omega
  · apply Int.le_of_mul_le_mul_right (a:=p) _ hp;omega
  · have:z<8188:=by
      apply Int.lt_of_mul_lt_mul_right (a:=p) _ (by omega);omega
    omega
  · have: -(if u=0∧v=0 then 8196 else 8188)<z:=by
      apply Int.lt_of_mul_lt_mul_right (a:=p) _ (by omega);omega
    split at this<;>rename_i hh
    · rw[if_pos hh];omega
    · rw[if_neg hh];omega
end
end Go.Proofs.YtljjbikbfeigdaaGreatDoor
