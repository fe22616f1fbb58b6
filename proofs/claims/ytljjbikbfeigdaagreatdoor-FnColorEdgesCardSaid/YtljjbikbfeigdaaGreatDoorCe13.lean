/- Part of the proof of FnColorEdgesCardSaid: The forward transform is near the exact one. -/
import Derived.Test.YtljjbikbfeigdaaGreatDoorCe12
set_option linter.all false
namespace Go.Proofs.YtljjbikbfeigdaaGreatDoor
noncomputable section
open Go
def Xc:List Ky:=[⟨[1,0,0,0,0,0,0,0],0,0,0⟩,⟨[0,1,0,0,0,0,0,0],0,0,0⟩,⟨[0,0,1,0,0,0,0,0],0,0,0⟩,⟨[0,0,0,1,0,0,0,0],0,0,0⟩,⟨[0,0,0,0,1,0,0,0],0,0,0⟩,⟨[0,0,0,0,0,1,0,0],0,0,0⟩,⟨[0,0,0,0,0,0,1,0],0,0,0⟩,⟨[0,0,0,0,0,0,0,1],0,0,0⟩]
def Nt:List Ky:=(Mm 0 255 jgf Xc).getD []
def qi2:List Nat:=[0,7,2,5,1,6,3,4]
def pm(k:Nat):Nat:=qi2.getD k 0
def yhi(v:Nat):Int:=(mxd 0 255 (Fz Nt (pm v)).c+(Fz Nt (pm v)).hi)/2^(Fz Nt (pm v)).s
def ylo(v:Nat):Int:= -(-(mnd 0 255 (Fz Nt (pm v)).c+(Fz Nt (pm v)).lo)/2^(Fz Nt (pm v)).s)
def Yg(v:Nat):List Ky:=(Mm (ylo v) (yhi v) Qg Xc).getD []
def qm2:List (List Int):=[[370728,370728,370728,370728,370728,370728,370728,370728],[514214,435930,291279,102284,-102284,-291279,-435930,-514214],[484379,200636,-200636,-484379,-484379,-200636,200636,484379],[435930,-102284,-514214,-291279,291279,514214,102284,-435930],[370728,-370728,-370728,370728,370728,-370728,-370728,370728],[291279,-514214,102284,435930,-435930,-102284,514214,-291279],[200636,-484379,484379,-200636,-200636,484379,-484379,200636],[102284,-291279,435930,-514214,514214,-435930,291279,-102284]]
def bas(u:Nat):List Int:=qm2.getD u []
def jb6:List Int→Int
  | []=>0
  | a::l=>a+jb6 l
def up2(k1 k2:Int)(A F:List Int):List Int→List Int→Int
  | b::B,e::E=>mxd 0 255 (Yb (Re (k1*b) A) (Re (-(k2*e)) F))+up2 k1 k2 A F B E
  | _,_=>0
def dn2(k1 k2:Int)(A F:List Int):List Int→List Int→Int
  | b::B,e::E=>mnd 0 255 (Yb (Re (k1*b) A) (Re (-(k2*e)) F))+dn2 k1 k2 A F B E
  | _,_=>0
def jtw(k1 k2:Int)(u v:Nat):Int:=
  let B:=Fz (Yg v) (pm u)
  let A:=Fz Nt (pm v)
  up2 k1 k2 A.c (bas v) B.c (bas u)+k1*(mxd A.lo A.hi B.c+B.hi*2^A.s)+k2*128*jb6 (bas u)*jb6 (bas v)
def jsu(k1 k2:Int)(u v:Nat):Int:=
  let B:=Fz (Yg v) (pm u)
  let A:=Fz Nt (pm v)
  dn2 k1 k2 A.c (bas v) B.c (bas u)+k1*(mnd A.lo A.hi B.c+B.lo*2^A.s)+k2*128*jb6 (bas u)*jb6 (bas v)
def scl(u v:Nat):Int:=2^((Fz (Yg v) (pm u)).s+(Fz Nt (pm v)).s)
def jwk(u v:Nat):Bool:=
  decide ((Fz (Yg v) (pm u)).c.length=8)&&decide ((Fz Nt (pm v)).c.length=8)&&
  decide (jtw (2^37) (scl u v) u v≤2^39*scl u v)&&decide (-(2^39)*scl u v≤jsu (2^37) (scl u v) u v)&&
  decide (jtw 1 0 u v<8188*scl u v)&&decide (-(if u=0∧v=0 then 8196 else 8188)*scl u v<jsu 1 0 u v)
def j8f:Bool:=(Mm 0 255 jgf Xc).isSome&&(List.range 8).all fun v=>(Mm (ylo v) (yhi v) Qg Xc).isSome&&(List.range 8).all fun u=>jwk u v
theorem jxp:j8f=true:=by decide+kernel
def Qx:List Int→List Int→List (List Int)→Int
  | b::B,A,x::X=>b*Nr A x+Qx B A X
  | _,_,_=>0
def j1d(a:Ky):List (List Int)→List Int→Prop
  | [],[]=>True
  | x::X,y::Y=>a.Is x y∧j1d a X Y
  | _,_=>False
theorem qhy{a:Ky}: ∀{X:List (List Int)} {Y:List Int},j1d a X Y→ ∃fs:List Int,fs.length=Y.length∧(∀f∈fs,a.lo≤f∧f≤a.hi)∧ ∀B:List Int,Nr B Y*2^a.s=Qx B a.c X+Nr B fs
  | [],[],_=>⟨[],rfl,fun _ h=>by simp at h,fun B=>by cases B<;>simp[Nr,Qx]⟩
  | [],_::_,h=>h.elim
  | _::_,[],h=>h.elim
  | x::X,y::Y,h=>by
    obtain ⟨⟨e,h1,h2,h3⟩,h⟩:=h
    obtain ⟨fs,g1,g2,g3⟩:=qhy h
    refine ⟨e::fs,by simp[g1],fun f hf=> ?_,fun B=> ?_⟩
    · rcases List.mem_cons.1 hf with rfl|hf
      · exact ⟨h1,h2⟩
      · exact g2 f hf
    · cases B with
      | nil=>simp[Nr,Qx]
      | cons b B=>
        simp only[Nr,Qx]
        have e1:b*y*2^a.s=b*Nr a.c x+b*e:=by rw[Int.mul_assoc,h3,Int.mul_add]
        rw[Int.add_mul,e1,g3];omega
theorem jcz: ∀(l m:List Int),(Yb l m).length=max l.length m.length
  | [],m=>by simp[Yb]
  | a::l,[]=>by simp[Yb]
  | a::l,b::m=>by simp only[Yb,List.length_cons];rw[jcz l m];omega
theorem Ue(k:Int): ∀(l:List Int),(Re k l).length=l.length
  | []=>rfl
  | a::l=>by simp only[Re,List.length_cons];rw[Ue k l]
theorem qik{k1 k2:Int}{A F:List Int}(hA:A.length=8)(hF:F.length=8): ∀{B E:List Int} {X:List (List Int)},B.length=X.length→E.length=X.length→(∀x∈X,x.length=8∧ ∀y∈x,0≤y∧y≤255)→
    dn2 k1 k2 A F B E≤k1*Qx B A X-k2*Qx E F X∧k1*Qx B A X-k2*Qx E F X≤up2 k1 k2 A F B E
  | [],[],[],_,_,_=>by simp[Qx,up2,dn2]
  | _::_,_,[],h,_,_=>by simp at h
  | _,_::_,[],_,h,_=>by simp at h
  | [],_,_::_,h,_,_=>by simp at h
  | _,[],_::_,_,h,_=>by simp at h
  | b::B,e::E,x::X,h1,h2,h3=>by
    obtain ⟨i1,i2⟩:=qik (k1:=k1) (k2:=k2) hA hF (B:=B) (E:=E) (X:=X) (by simpa using h1) (by simpa using h2) (fun y hy=>h3 y (List.mem_cons_of_mem _ hy))
    obtain ⟨hx1,hx2⟩:=h3 x List.mem_cons_self
    have hd:=Zz (c:=Yb (Re (k1*b) A) (Re (-(k2*e)) F)) (x:=x) (by rw[jcz,Ue,Ue];omega) hx2
    rw[jfg,Ps,Ps] at hd
    simp only[Qx,up2,dn2]
    have e1:k1*(b*Nr A x+Qx B A X)=k1*b*Nr A x+k1*Qx B A X:=by rw[Int.mul_add,Int.mul_assoc]
    have e2:k2*(e*Nr F x+Qx E F X)=k2*e*Nr F x+k2*Qx E F X:=by rw[Int.mul_add,Int.mul_assoc]
    have e3: -(k2*e)*Nr F x= -(k2*e*Nr F x):=by rw[Int.neg_mul]
    rw[e1,e2];omega
def jc1(i:Int)(a:List Int):List Int:=[Bg a i,Bg a (8+i),Bg a (16+i),Bg a (24+i),Bg a (32+i),Bg a (40+i),Bg a (48+i),Bg a (56+i)]
def Zo(a:List Int):List (List Int):=[jc1 0 a,jc1 1 a,jc1 2 a,jc1 3 a,jc1 4 a,jc1 5 a,jc1 6 a,jc1 7 a]
def exact(u v:Nat)(a:List Int):Int:=Qx (bas u) (bas v) (Zo a)-128*jb6 (bas u)*jb6 (bas v)
theorem j2a(x0 x1 x2 x3 x4 x5 x6 x7:Int):jqv [x0,x1,x2,x3,x4,x5,x6,x7] Xc (Uz x0 x1 x2 x3 x4 x5 x6 x7):=by
  refine ⟨rfl,fun n hn=> ?_⟩
  match n,hn with
  | 0,_|1,_|2,_|3,_|4,_|5,_|6,_|7,_=>exact ⟨0,Int.le_refl _,Int.le_refl _,by simp[Fz,Xc,Nr,Uz]⟩
theorem jzp{xl xh:Int}{p:List Xl}(hp:p.all Xl.ok=true)(hs:(Mm xl xh p Xc).isSome=true){x0 x1 x2 x3 x4 x5 x6 x7:Int}(hx: ∀y∈ [x0,x1,x2,x3,x4,x5,x6,x7],xl≤y∧y≤xh){n:Nat}(hn:n<8):
    (Fz ((Mm xl xh p Xc).getD []) n).Is [x0,x1,x2,x3,x4,x5,x6,x7] (jbf p (Uz x0 x1 x2 x3 x4 x5 x6 x7) n):=by
  obtain ⟨l,hl⟩:=Option.isSome_iff_exists.1 hs
  rw[hl]
  exact (jt2 (x:=[x0,x1,x2,x3,x4,x5,x6,x7]) rfl hx hp (j2a x0 x1 x2 x3 x4 x5 x6 x7) hl).2 n hn
theorem jy8{k:Nat}(h:k<8):pm k<8:=by
  match k,h with
  | 0,_|1,_|2,_|3,_|4,_|5,_|6,_|7,_=>decide
theorem Qp:(Mm 0 255 jgf Xc).isSome=true∧ ∀v,v<8→(Mm (ylo v) (yhi v) Qg Xc).isSome=true∧ ∀u,u<8→jwk u v=true:=by
  have h:=jxp
  unfold j8f at h
  simp only[Bool.and_eq_true,List.all_eq_true,List.mem_range] at h
  exact h
theorem qao{lo hi:Int}{a:List Int}{n:Int}(h0:lo≤0)(h1:0≤hi)(h: ∀y∈a,lo≤y∧y≤hi):lo≤Bg a n∧Bg a n≤hi:=by
  unfold Bg
  rw[List.getD_eq_getElem?_getD]
  cases hi:a[n.toNat]? with
  | none=>simp;omega
  | some x=>exact h x (List.mem_of_getElem? hi)
section
variable {a:List Int} (ha: ∀y∈a,0≤y∧y≤255)
include ha
theorem jlc(i:Int): ∀y∈jc1 i a,0≤y∧y≤255:=by
  intro y hy
  simp only[jc1,List.mem_cons,List.not_mem_nil,or_false] at hy
  rcases hy with rfl|rfl|rfl|rfl|rfl|rfl|rfl|rfl<;>exact qao (by omega) (by omega) ha
theorem j05(i:Int){n:Nat}(hn:n<8):(Fz Nt n).Is (jc1 i a) (Df i a n):=
  jzp (by decide) Qp.1 (jlc ha i) hn
theorem j4d(i:Int){v:Nat}(hv:v<8):ylo v≤Df i a (pm v)∧Df i a (pm v)≤yhi v:=by
  have hlen:(Fz Nt (pm v)).c.length=8:=by
    have:=(Qp.2 v hv).2 0 (by omega)
    unfold jwk at this
    simp only[Bool.and_eq_true,decide_eq_true_eq] at this
    exact this.1.1.1.1.2
  obtain ⟨e,h1,h2,h3⟩:=j05 ha i (jy8 hv)
  have hd:=Zz (c:=(Fz Nt (pm v)).c) (x:=jc1 i a) (by rw[hlen];exact Nat.le_refl _) (jlc ha i)
  have hp:=p2 (Fz Nt (pm v)).s
  unfold ylo yhi
  constructor
  · have: -(Df i a (pm v))≤ -(mnd 0 255 (Fz Nt (pm v)).c+(Fz Nt (pm v)).lo)/2^(Fz Nt (pm v)).s:=by
      rw[Int.le_ediv_iff_mul_le hp,Int.neg_mul,h3];omega
    omega
  · rw[Int.le_ediv_iff_mul_le hp,h3];omega
theorem jt3{k1 k2:Int}(hk:0≤k1){u v:Nat}(hu:u<8)(hv:v<8):
    jsu k1 k2 u v≤k1*(jbf Qg (Uz (Df 0 a (pm v)) (Df 1 a (pm v)) (Df 2 a (pm v)) (Df 3 a (pm v)) (Df 4 a (pm v)) (Df 5 a (pm v)) (Df 6 a (pm v)) (Df 7 a (pm v))) (pm u)*scl u v)-k2*exact u v a∧
    k1*(jbf Qg (Uz (Df 0 a (pm v)) (Df 1 a (pm v)) (Df 2 a (pm v)) (Df 3 a (pm v)) (Df 4 a (pm v)) (Df 5 a (pm v)) (Df 6 a (pm v)) (Df 7 a (pm v))) (pm u)*scl u v)-k2*exact u v a≤jtw k1 k2 u v:=by
  obtain ⟨hr,hok⟩:=Qp.2 v hv
  have hok:=hok u hu
  unfold jwk at hok
  simp only[Bool.and_eq_true,decide_eq_true_eq] at hok
  obtain ⟨⟨⟨⟨⟨hB,hA⟩,_⟩,_⟩,_⟩,_⟩:=hok
  have hy: ∀y∈ [Df 0 a (pm v),Df 1 a (pm v),Df 2 a (pm v),Df 3 a (pm v),Df 4 a (pm v),Df 5 a (pm v),Df 6 a (pm v),Df 7 a (pm v)],ylo v≤y∧y≤yhi v:=by
    intro y hy
    simp only[List.mem_cons,List.not_mem_nil,or_false] at hy
    rcases hy with rfl|rfl|rfl|rfl|rfl|rfl|rfl|rfl<;>exact j4d ha _ hv
  obtain ⟨e,e1,e2,e3⟩:=jzp (p:=Qg) (by decide) hr hy (jy8 hu)
  have hall:j1d (Fz Nt (pm v)) (Zo a) [Df 0 a (pm v),Df 1 a (pm v),Df 2 a (pm v),Df 3 a (pm v),Df 4 a (pm v),Df 5 a (pm v),Df 6 a (pm v),Df 7 a (pm v)]:=by
    refine ⟨?_,?_,?_,?_,?_,?_,?_,?_,trivial⟩<;>exact j05 ha _ (jy8 hv)
  obtain ⟨fs,f1,f2,f3⟩:=qhy hall
  change jbf Qg _ (pm u)*2^(Fz (Yg v) (pm u)).s=Nr (Fz (Yg v) (pm u)).c _+e at e3
  change (Fz (Yg v) (pm u)).lo≤e at e1
  change e≤(Fz (Yg v) (pm u)).hi at e2
  have hlin:=f3 (Fz (Yg v) (pm u)).c
  have hf:=Zz (c:=(Fz (Yg v) (pm u)).c) (x:=fs) (by rw[hB,f1];exact Nat.le_refl _) f2
  have hbas: ∀u,u<8→(bas u).length=8:=by
    intro u hu
    match u,hu with
    | 0,_|1,_|2,_|3,_|4,_|5,_|6,_|7,_=>decide
  have hX: ∀x∈Zo a,x.length=8∧ ∀y∈x,0≤y∧y≤255:=by
    intro x hx
    simp only[Zo,List.mem_cons,List.not_mem_nil,or_false] at hx
    rcases hx with rfl|rfl|rfl|rfl|rfl|rfl|rfl|rfl<;>exact ⟨rfl,jlc ha _⟩
  have hb:=qik (k1:=k1) (k2:=k2) hA (hbas v hv) (B:=(Fz (Yg v) (pm u)).c) (E:=bas u) (X:=Zo a) (by rw[hB];rfl) (by rw[hbas u hu];rfl) hX
  have hp:=p2 (Fz Nt (pm v)).s
  generalize jbf Qg (Uz (Df 0 a (pm v)) (Df 1 a (pm v)) (Df 2 a (pm v)) (Df 3 a (pm v)) (Df 4 a (pm v)) (Df 5 a (pm v)) (Df 6 a (pm v)) (Df 7 a (pm v))) (pm u)=z at*
  have hz:z*scl u v=Qx (Fz (Yg v) (pm u)).c (Fz Nt (pm v)).c (Zo a)+(Nr (Fz (Yg v) (pm u)).c fs+e*2^(Fz Nt (pm v)).s):=by
    unfold scl
    rw[Int.pow_add,←Int.mul_assoc,e3,Int.add_mul,hlin];omega
  rw[hz]
  unfold exact jtw jsu
  have g1:e*2^(Fz Nt (pm v)).s≤(Fz (Yg v) (pm u)).hi*2^(Fz Nt (pm v)).s:=Int.mul_le_mul_of_nonneg_right e2 (by omega)
  have g2:(Fz (Yg v) (pm u)).lo*2^(Fz Nt (pm v)).s≤e*2^(Fz Nt (pm v)).s:=Int.mul_le_mul_of_nonneg_right e1 (by omega)
  have g3:=Int.mul_le_mul_of_nonneg_left (Int.add_le_add hf.2 g1) hk
  have g4:=Int.mul_le_mul_of_nonneg_left (Int.add_le_add hf.1 g2) hk
  have g5:k2*(Qx (bas u) (bas v) (Zo a)-128*jb6 (bas u)*jb6 (bas v))=k2*Qx (bas u) (bas v) (Zo a)-k2*128*jb6 (bas u)*jb6 (bas v):=by
    rw[Int.mul_sub];simp only[Int.mul_assoc]
  rw[g5,Int.mul_add]
  constructor<;>(simp only;omega)
end
end
end Go.Proofs.YtljjbikbfeigdaaGreatDoor
