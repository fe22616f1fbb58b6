/- FnColorEdges: for every input the call returns true, and the input reads behind the call as it read before; the package variables that the row lists hold what the program's text lays (the card ties them). -/
import Derived.Test.YtljjbikbfeigdaaGreatDoorCe31
import Derived.Test.YtljjbikbfeigdaaGreatDoorTie
import Derived.Test.YtljjbikbfeigdaaGreatDoorCards
import Derived.SevenTiedAt
set_option linter.all false
namespace Go.Proofs.YtljjbikbfeigdaaGreatDoor
noncomputable section
open Go
section
variable {w h:Int} {P quant D T:List Int} {X Y:Nat}
def stM(w h:Int)(P quant:List Int)(X N m:Nat)(a u p q s:Int):CS:=
  ⟨a,u,p,q,s,Dh (F0 w h P quant X m) (4*N),Dh (F1 w h P quant X (Ov w h) m) N,Dh (F1 w h P quant X (Po w h) m) N⟩
theorem jjs{r c:Nat}(hr:r<Y)(hc:c<X):r*X+c<X*Y:=by
  have h1:(r+1)*X≤Y*X:=Nat.mul_le_mul_right _ hr
  rw[Nat.add_mul,Nat.one_mul] at h1
  rw[Nat.mul_comm X Y];omega
theorem jlm{r c R K:Nat}(hr:r<Y)(hc:c<X)(hR:R≤2*r+1)(hK:K≤2*c+1):R*(2*X)+K<4*(X*Y):=by
  have h1:R*(2*X)≤(2*r+1)*(2*X):=Nat.mul_le_mul_right _ hR
  have h2:(2*r+1)*(2*X)=4*(r*X)+2*X:=by
    rw[Nat.add_mul,Nat.one_mul,Nat.mul_assoc,Nat.mul_left_comm r 2 X,←Nat.mul_assoc]
  have h3:=jjs (X:=X) (Y:=Y) hr hc
  have h4:(r+1)*X≤Y*X:=Nat.mul_le_mul_right _ hr
  rw[Nat.add_mul,Nat.one_mul] at h4
  rw[Nat.mul_comm X Y] at*
  omega
theorem qdt(I:Tc w h P quant)(hX: ∀c:Nat,(16*c:Nat)<w↔c<X)(hY: ∀r:Nat,(16*r:Nat)<h↔r<Y){j:Nat}(hj:j<8)(n:Nat): ∀(k:Nat) {r c:Nat} {a u p q s:Int},(h-(16*r:Nat)).toNat≤n→(w-(16*c:Nat)).toNat≤k→c≤X→r≤Y→(c=0∨r<Y)→
    -1024≤p→p≤1023→ -1024≤q→q≤1023→ -1024≤s→s≤1023→Rd D T a u (Hd w h P quant p q s (16*c:Nat) (16*r:Nat)++List.replicate j 1)→
    Lz D X (X*Y-(r*X+c)) (r*X+c:Nat) (stM w h P quant X (X*Y) (r*X+c) a u p q s)=true∧
    ∃a1 u1 p1 q1 s1,scC D X (X*Y-(r*X+c)) (r*X+c:Nat) (stM w h P quant X (X*Y) (r*X+c) a u p q s)=stM w h P quant X (X*Y) (X*Y) a1 u1 p1 q1 s1∧Rd D T a1 u1 (List.replicate j 1):=by
  have hend: ∀{r c:Nat} {a u p q s:Int},¬r<Y→r≤Y→(c=0∨r<Y)→Rd D T a u ([]++List.replicate j 1)→
      Lz D X (X*Y-(r*X+c)) (r*X+c:Nat) (stM w h P quant X (X*Y) (r*X+c) a u p q s)=true∧
      ∃a1 u1 p1 q1 s1,scC D X (X*Y-(r*X+c)) (r*X+c:Nat) (stM w h P quant X (X*Y) (r*X+c) a u p q s)=stM w h P quant X (X*Y) (X*Y) a1 u1 p1 q1 s1∧Rd D T a1 u1 (List.replicate j 1):=by
    intro r c a u p q s h1 h2 h3 hr
    have er:r=Y:=by omega
    have ec:c=0:=by omega
    subst er
    subst ec
    rw[Nat.add_zero,Nat.mul_comm r X,Nat.sub_self]
    exact ⟨(jrw hj hr).1,a,u,p,q,s,rfl,hr⟩
  induction n with
  | zero=>
    intro k r c a u p q s hn hk hc hrY h0 p1 p2 q1 q2 s1 s2 hr
    have hy: ¬((16*r:Nat):Int)<h:=by omega
    rw[Hd,if_neg hy] at hr
    exact hend (fun g=>hy ((hY r).2 g)) hrY h0 hr
  | succ n ihn=>
    intro k
    induction k with
    | zero=>
      intro r c a u p q s hn hk hc hrY h0 p1 p2 q1 q2 s1 s2 hr
      by_cases hy:((16*r:Nat):Int)<h
      · have hx: ¬((16*c:Nat):Int)<w:=by omega
        have hcX:c=X:=by have:=mt (hX c).2 hx;omega
        rw[Hd,if_pos hy,if_neg hx] at hr
        have:=(hY r).1 hy
        have e:r*X+c=(r+1)*X+0:=by rw[hcX,Nat.add_mul,Nat.one_mul,Nat.add_zero]
        rw[e]
        exact ihn _ (r:=r+1) (c:=0) (by omega) (Nat.le_refl _) (Nat.zero_le _) this (Or.inl rfl) p1 p2 q1 q2 s1 s2 (by
          rw[show ((16*(r+1):Nat):Int)=((16*r:Nat):Int)+16 from by omega];exact hr)
      · rw[Hd,if_neg hy] at hr
        exact hend (fun g=>hy ((hY r).2 g)) hrY h0 hr
    | succ k ihk=>
      intro r c a u p q s hn hk hc hrY h0 p1 p2 q1 q2 s1 s2 hr
      by_cases hy:((16*r:Nat):Int)<h
      · have hrl:=(hY r).1 hy
        by_cases hx:((16*c:Nat):Int)<w
        · have hcl:=(hX c).1 hx
          rw[Hd,if_pos hy,if_pos hx,List.append_assoc] at hr
          obtain ⟨y0,y1,y2,y3,yC⟩:=dYN (r:=r) hcl
          obtain ⟨o,a1,u1,hr1,e⟩:=qfh (n0:=4*(X*Y)) (n1:=X*Y) I (x:=(16*c:Nat)) (y:=(16*r:Nat)) (by omega) (by omega) (jjr (X:=X) (r*X+c)) (Yy (X:=X) (Ov w h) (r*X+c)) (Yy (X:=X) (Po w h) (r*X+c))
            (jlm hrl hcl (by omega) (by omega)) (jlm hrl hcl (by omega) (by omega)) (jlm hrl hcl (by omega) (by omega)) (jlm hrl hcl (by omega) (by omega)) (jjs hrl hcl)
            (by omega) (by rw[Nat.add_mul];omega) (by rw[Nat.add_mul];omega) (by rw[Nat.add_mul];omega) (by rw[Nat.add_mul];omega) (by omega)
            (jdw (by omega) (by omega) (by omega)) (jdw (by omega) (by omega) (by omega)) (jdw (by omega) (by omega) (by omega)) (jdw (by omega) (by omega) (by omega))
            (by unfold F1;rw[if_neg (by omega)]) (by unfold F1;rw[if_neg (by omega)]) y0 y1 y2 y3 yC p1 p2 q1 q2 s1 s2 hr
          have hl:=jjs hrl hcl
          have k0:=Kp I.q (I.y (x:=(16*c:Nat)+8) (y:=(16*r:Nat)+8) (by omega) (by omega)) (q:=0) (by omega) (k:=0) (by omega) (by omega)
          have k1:=Kp I.q (I.cb (x:=(16*c:Nat)) (y:=(16*r:Nat)) (by omega) (by omega)) (q:=1) (by omega) (k:=0) (by omega) (by omega)
          have k2:=Kp I.q (I.cr (x:=(16*c:Nat)) (y:=(16*r:Nat)) (by omega) (by omega)) (q:=1) (by omega) (k:=0) (by omega) (by omega)
          rw[←j3h hcl,←jsn hcl,←jsn hcl] at e
          have ih:=ihk (r:=r) (c:=c+1) hn (by omega) hcl hrY (Or.inr hrl) k0.1 k0.2.1 k1.1 k1.2.1 k2.1 k2.2.1 (a:=a1) (u:=u1) (by
            rw[show ((16*(c+1):Nat):Int)=((16*c:Nat):Int)+16 from by omega];exact hr1)
          rw[show X*Y-(r*X+c)=(X*Y-(r*X+(c+1)))+1 from by omega]
          have eM:(((r*X+c:Nat):Int)+1)=((r*X+(c+1):Nat):Int):=by omega
          have eS:un6 D X (r*X+c:Nat) (stM w h P quant X (X*Y) (r*X+c) a u p q s)=stM w h P quant X (X*Y) (r*X+(c+1)) a1 u1 _ _ _:=e
          constructor
          · show (jah D X (r*X+c:Nat) (stM w h P quant X (X*Y) (r*X+c) a u p q s)&&Lz D X _ (((r*X+c:Nat):Int)+1) (un6 D X (r*X+c:Nat) (stM w h P quant X (X*Y) (r*X+c) a u p q s)))=true
            rw[eM,eS,Bool.and_eq_true]
            exact ⟨o,ih.1⟩
          · show ∃a1 u1 p1 q1 s1,scC D X _ (((r*X+c:Nat):Int)+1) (un6 D X (r*X+c:Nat) (stM w h P quant X (X*Y) (r*X+c) a u p q s))=_∧_
            rw[eM,eS]
            exact ih.2
        · have hcX:c=X:=by have:=mt (hX c).2 hx;omega
          rw[Hd,if_pos hy,if_neg hx] at hr
          have e:r*X+c=(r+1)*X+0:=by rw[hcX,Nat.add_mul,Nat.one_mul,Nat.add_zero]
          rw[e]
          exact ihn _ (r:=r+1) (c:=0) (by omega) (Nat.le_refl _) (Nat.zero_le _) hrl (Or.inl rfl) p1 p2 q1 q2 s1 s2 (by
            rw[show ((16*(r+1):Nat):Int)=((16*r:Nat):Int)+16 from by omega];exact hr)
      · rw[Hd,if_neg hy] at hr
        exact hend (fun g=>hy ((hY r).2 g)) hrY h0 hr
end
def j0e(w h:Int):List Int:=[255,192,0,17,8,h/256,h % 256,w/256,w % 256,3,1,34,0,2,17,1,3,17,1,255,196,1,162]
def j6l:List Int:=[255,218,0,12,3,1,0,2,17,3,17,0,63,0]
theorem j3b(q w h:Int):jrj q w h++jbn=jcv++(Cs (Ci q) 0 64++([1]++(Cs (Ci q) 64 64++(j0e w h++(Ns++j6l))))):=by
  unfold jrj jbn j0e j6l Ns jcv
  simp only[List.append_assoc,List.cons_append,List.nil_append]
theorem jhd:Ns.length=416:=by kernel_rfl
theorem jqu{q w h:Int}{P:List Int}(I:Tc w h P (Ci q)): ∃(B:List Int) (j:Nat),Ey B∧j<8∧Mz B=Hd w h P (Ci q) 0 0 0 0 0++List.replicate j 1∧Ts q w h P=(jrj q w h++jbn)++(Es B++ [255,217]):=by
  have h0:Rep (jrj q w h++jbn) ⟨jrj q w h++jbn,0,0⟩ []:=
    ⟨[],[],fun b hb=>by simp at hb,fun b hb=>by simp at hb,by simp,by simp[Es,Jb],rfl⟩
  have hr:=j2b I _ _ (Nat.le_refl _) (Nat.le_refl _) (Int.le_refl 0) (Int.le_refl 0) (by omega:(-1024:Int)≤0) (by omega:(0:Int)≤1023) (by omega:(-1024:Int)≤0) (by omega:(0:Int)≤1023) (by omega:(-1024:Int)≤0) (by omega:(0:Int)≤1023) h0
  obtain ⟨B,X,b1,b2,b3,b4,b5⟩:=hr
  rw[List.nil_append] at b5
  refine ⟨B,7-X.length,b1,by omega,jhf b5.symm (by omega),?_⟩
  unfold Ts Sf
  rw[b4,List.append_assoc]
theorem Xo{f:Nat→List Int}(hf: ∀j,f j=List.replicate 64 0): ∀n:Nat,Dh f n=List.replicate (64*n) 0
  | 0=>rfl
  | n+1=>by rw[Dh,Xo hf n,hf,List.replicate_append_replicate];congr 1
theorem Vz{f:Nat→List Int}(hf: ∀j,(f j).length=64){m n:Nat}(h:m<n):Cs (Dh f n) (64*m) 64=f m:=by
  obtain ⟨A,G,h1,h2⟩:=jfi hf h
  have e:=h2 (f m)
  rw[ji0] at e
  rw[e,←h1]
  unfold Cs
  have:=hf m
  rw[List.drop_left,List.take_append_of_le_length (by omega),List.take_of_length_le (by omega)]
theorem Wg{quant b:List Int}(Q:Qs quant)(hb:Bk b){q:Nat}(hq:q<2):Ws (Eu q quant (Dc b) 0 64)=true:=by
  have c0:=Kp Q hb hq (k:=0) (by omega) (by omega)
  have e:Eu q quant (Dc b) 0 64=coef q quant (Dc b) 0::Eu q quant (Dc b) 1 63:=Ph _ _ _ _
  unfold Ws
  rw[e]
  simp only[Bool.and_eq_true,decide_eq_true_eq,List.tail_cons,List.all_eq_true]
  refine ⟨c0.1,c0.2.1,fun v hv=> ?_⟩
  unfold Eu at hv
  obtain ⟨k,hk,rfl⟩:=List.mem_map.1 hv
  rw[List.mem_range'_1] at hk
  have:=Kp Q hb hq (k:=(k:Int)) (by omega) (by omega)
  exact ⟨this.2.2 (by omega),this.2.1⟩
theorem jbr:Ws (List.replicate 64 0)=true:=by decide+kernel
def xU(w:Int):Nat:=(xN w).toNat
structure jgl(q w h:Int)(P D:List Int):Prop where
  ok:cOk D=true
  wide:wdD D=w
  high:hgD D=h
  q0:Cs D 7 64=Cs (Ci q) 0 64
  q1:Cs D 72 64=Cs (Ci q) 64 64
  b0:(Kl D).b0=Dh (F0 w h P (Ci q) (xU w) (xU w*xU h)) (4*(xU w*xU h))
  b1:(Kl D).b1=Dh (F1 w h P (Ci q) (xU w) (Ov w h) (xU w*xU h)) (xU w*xU h)
  b2:(Kl D).b2=Dh (F1 w h P (Ci q) (xU w) (Po w h) (xU w*xU h)) (xU w*xU h)
  bytes:Bn 0 255 D=true
theorem jci{q w h:Int}{P:List Int}(I:Tc w h P (Ci q))(hw:w≤65535)(hh:h≤65535)(hwh:w*h≤65536):jgl q w h P (Ts q w h P):=by
  obtain ⟨B,j,b1,b2,b3,b4⟩:=jqu I
  have hw1:=I.w1
  have hh1:=I.h1
  generalize hD:Ts q w h P=D at*
  rw[j3b] at b4
  simp only[List.append_assoc] at b4
  have d0:D.drop 0=jcv++(Cs (Ci q) 0 64++([1]++(Cs (Ci q) 64 64++(j0e w h++(Ns++(j6l++(Es B++ [255,217]))))))):=b4
  have d7:=Gk (m:=7) d0 rfl
  have d71:=Gk (m:=71) d7 (by rw[(Hs q).1])
  have d72:=Gk (m:=72) d71 rfl
  have d136:=Gk (m:=136) d72 (by rw[(Hs q).2])
  have d159:=Gk (m:=159) d136 rfl
  have d575:=Gk (m:=575) d159 (by rw[jhd])
  have d589:=Gk (m:=589) d575 rfl
  have wd:wdD D=w:=by
    have e1:Bg D 143=w/256:=Rf (k:=7) d136
    have e2:Bg D 144=w % 256:=Rf (k:=8) d136
    unfold wdD
    rw[e1,e2];omega
  have hg:hgD D=h:=by
    have e1:Bg D 141=h/256:=Rf (k:=5) d136
    have e2:Bg D 142=h % 256:=Rf (k:=6) d136
    unfold hgD
    rw[e1,e2];omega
  have eX:xN w=((xU w:Nat):Int):=by unfold xU xN;omega
  have eY:xN h=((xU h:Nat):Int):=by unfold xU xN;omega
  have eN:Gt D=((xU w*xU h:Nat):Int):=by
    unfold Gt nmC
    rw[wd,hg,eX,eY,Int.natCast_mul]
  have hN:(Gt D).toNat=xU w*xU h:=by rw[eN,Int.toNat_natCast]
  have hz4:Cr (4*Gt D)=Dh (F0 w h P (Ci q) (xU w) 0) (4*(xU w*xU h)):=by
    rw[Xo (fun j=>by unfold F0;rw[if_neg (by omega)]),eN]
    exact jbi (by omega)
  have hz1: ∀off,Cr (Gt D)=Dh (F1 w h P (Ci q) (xU w) off 0) (xU w*xU h):=by
    intro off
    rw[Xo (fun j=>by unfold F1;rw[if_neg (by omega)])]
    exact jbi hN
  have hrd:Rd D [255,217] 589 0 (Hd w h P (Ci q) 0 0 0 0 0++List.replicate j 1):=⟨589,B,rfl,d589,b1,by omega,by omega,fun _=>rfl,by rw[b3];rfl⟩
  obtain ⟨s1,a1,u1,p1,q1,r1,s2,s3⟩:=qdt I (X:=xU w) (Y:=xU h) (fun c=>by unfold xU xN;omega) (fun r=>by unfold xU xN;omega) b2 _ _ (r:=0) (c:=0) (Nat.le_refl _) (Nat.le_refl _) (Nat.zero_le _) (Nat.zero_le _) (Or.inl rfl) (by omega:(-1024:Int)≤0) (by omega:(0:Int)≤1023) (by omega:(-1024:Int)≤0) (by omega:(0:Int)≤1023) (by omega:(-1024:Int)≤0) (by omega:(0:Int)≤1023) hrd
  rw[Nat.zero_mul,Nat.add_zero,Nat.sub_zero] at s1 s2
  have eS:st0 589 (Cr (4*Gt D)) (Cr (Gt D)) (Cr (Gt D))=stM w h P (Ci q) (xU w) (xU w*xU h) 0 589 0 0 0 0:=by
    unfold st0 stM
    rw[hz4,←hz1 (Ov w h),←hz1 (Po w h)]
  have hfin:Kl D=stM w h P (Ci q) (xU w) (xU w*xU h) (xU w*xU h) a1 u1 p1 q1 r1:=by
    unfold Kl
    rw[wd,eX,hN,eS]
    exact s2
  obtain ⟨l1,l2⟩:=jrw b2 s3
  obtain ⟨r1,r2⟩:=j0s l2
  have hend:eoC D=Mp D (Mr u1) a1 u1:=by
    have:eoC D=Mp D (Mr (Kl D).us) (Kl D).at_ (Kl D).us:=rfl
    rw[this,hfin];rfl
  obtain ⟨t1,t2,t3⟩:=Ow r2
  obtain ⟨t4,t5,t6⟩:=Ow t3
  have tl:=congrArg List.length r2
  rw[List.length_drop] at tl
  have hq:=Ju (B:=Ci q) (by
    have:=I.q.q
    unfold Bn at this⊢
    rw[List.all_eq_true] at this⊢
    intro x hx
    have:=this x hx
    simp only[Bool.and_eq_true,decide_eq_true_eq] at this⊢
    omega)
  have hqc: ∀s n,Ey (Cs (Ci q) s n):=fun s n x hx=>hq x (List.mem_of_mem_drop (List.mem_of_mem_take hx))
  have hq1: ∀s n,(Cs (Ci q) s n).all (fun x=>decide (1≤x))=true:=by
    intro s n
    rw[List.all_eq_true]
    intro x hx
    have:=List.all_eq_true.1 I.q.q x (List.mem_of_mem_drop (List.mem_of_mem_take hx))
    simp only[Bool.and_eq_true,decide_eq_true_eq] at this⊢
    exact this.1
  have c7:Cs D 7 64=Cs (Ci q) 0 64:=Qf d7 (Hs q).1
  have g3:Cs D 72 64=Cs (Ci q) 64 64:=Qf d72 (Hs q).2
  refine ⟨?_,wd,hg,c7,g3,by rw[hfin];rfl,by rw[hfin];rfl,by rw[hfin];rfl,?_⟩
  · have g1:Cs D 0 7=[255,216,255,219,0,132,0]:=Qf d0 rfl
    have g2:Bg D 71=1:=Rf (k:=0) d71
    have g4:Cs D 136 5=[255,192,0,17,8]:=by unfold Cs;rw[d136];rfl
    have g5:Cs D 145 10=[3,1,34,0,2,17,1,3,17,1]:=by
      unfold Cs
      rw[show (145:Nat)=136+9 from rfl,←List.drop_drop,d136];rfl
    have g6:Cs D 155 4=[255,196,1,162]:=by
      unfold Cs
      rw[show (155:Nat)=136+19 from rfl,←List.drop_drop,d136];rfl
    have g7:Cs D 159 416=Ns:=Qf d159 jhd
    have g8:Cs D 575 4=[255,218,0,12]:=by unfold Cs;rw[d575];rfl
    have g9:Cs D 579 10=jzv:=by
      unfold Cs
      rw[show (579:Nat)=575+4 from rfl,←List.drop_drop,d575];rfl
    have g10:Xh (4*Gt D).toNat (Kl D).b0=true:=by
      unfold Xh
      rw[List.all_eq_true]
      intro m hm
      rw[show (4*Gt D).toNat=4*(xU w*xU h) from by rw[eN];omega,List.mem_range] at hm
      rw[hfin]
      show Ws (Cs (Dh _ _) (64*m) 64)=true
      rw[Vz (jjr _) hm]
      unfold F0
      split
      · exact Wg I.q (I.y (Int.mul_nonneg (by omega) (Int.natCast_nonneg _)) (Int.mul_nonneg (by omega) (Int.natCast_nonneg _))) (by omega)
      · exact jbr
    have g11: ∀b,(b=(Kl D).b1∨b=(Kl D).b2)→Xh (Gt D).toNat b=true:=by
      intro b hb
      unfold Xh
      rw[List.all_eq_true]
      intro m hm
      rw[hN,List.mem_range] at hm
      rw[hfin] at hb
      rcases hb with rfl|rfl
      · show Ws (Cs (Dh _ _) (64*m) 64)=true
        rw[Vz (Yy _ _) hm]
        unfold F1
        rw[if_pos hm]
        exact Wg I.q (I.cb (Int.mul_nonneg (by omega) (Int.natCast_nonneg _)) (Int.mul_nonneg (by omega) (Int.natCast_nonneg _))) (by omega)
      · show Ws (Cs (Dh _ _) (64*m) 64)=true
        rw[Vz (Yy _ _) hm]
        unfold F1
        rw[if_pos hm]
        exact Wg I.q (I.cr (Int.mul_nonneg (by omega) (Int.natCast_nonneg _)) (Int.mul_nonneg (by omega) (Int.natCast_nonneg _))) (by omega)
    have et:((Mp D (Mr u1) a1 u1).toNat:Int)=Mp D (Mr u1) a1 u1:=by omega
    have s1':Lz D (xN w) (xU w*xU h) 0 (stM w h P (Ci q) (xU w) (xU w*xU h) 0 589 0 0 0 0)=true:=by rw[eX];exact s1
    unfold cOk
    rw[g1,c7,hq1,g2,g3,hq1,g4,wd,hg,g5,g6,g7,g8,g9,eS,g10,g11 _ (Or.inl rfl),g11 _ (Or.inr rfl),hN,s1',hend]
    rw[et] at t1
    have t4':Bg D (Mp D (Mr u1) a1 u1+1)=217:=by rw[←t4];congr 1;omega
    have hlen:Mp D (Mr u1) a1 u1+2=(D.length:Int):=by
      simp only[List.length_cons,List.length_nil] at tl
      omega
    rw[t1,t4',hlen]
    simp only[decide_true,Bool.and_self,Bool.and_true,Bool.true_and,hw1,hh1,hwh]
  · refine job ?_
    rw[b4]
    have m1:Ey jcv:=Ju (by kernel_rfl)
    have m3:Ey ([1]:List Int):=Ju (by kernel_rfl)
    have m5:Ey (j0e w h):=by
      intro x hx
      unfold j0e at hx
      simp only[List.mem_cons,List.not_mem_nil,or_false] at hx
      omega
    have m6:Ey Ns:=Ju (by kernel_rfl)
    have m7:Ey j6l:=Ju (by kernel_rfl)
    have m8:Ey ([255,217]:List Int):=Ju (by kernel_rfl)
    exact Em m1 (Em (hqc _ _) (Em m3 (Em (hqc _ _) (Em m5 (Em m6 (Em m7 (Em (jcl b1) m8)))))))
theorem j8w{q w h:Int}{a b c:List Int}(h1:1≤w)(h2:1≤h)(ha:(a.length:Int)=w*h)(hb:(b.length:Int)=(w+1)/2*((h+1)/2))(hc:(c.length:Int)=(w+1)/2*((h+1)/2))(pa:Bn 0 255 a=true)(pb:Bn 0 255 b=true)(pc:Bn 0 255 c=true):Tc w h (a++(b++c)) (Ci q):=
  ⟨h1,h2,by simp only[List.length_append];omega,Lx pa (Lx pb pc),by simp[Ci],jbm q⟩
theorem jpi{w h:Int}:1≤w→1≤h→w≤65535→h≤65535→1≤w*h∧w*h≤65535*65535∧1≤(w+1).tdiv 2∧(w+1).tdiv 2≤32768∧1≤(h+1).tdiv 2∧(h+1).tdiv 2≤32768∧1≤(w+1).tdiv 2*(h+1).tdiv 2∧(w+1).tdiv 2*(h+1).tdiv 2≤32768*32768:=by
  intro a b c d
  rw[td2 (by omega),td2 (by omega)]
  exact ⟨Int.le_trans (by omega) (Int.mul_le_mul (a:=1) (b:=1) a b (by omega) (by omega)),Int.mul_le_mul c d (by omega) (by omega),by omega,by omega,by omega,by omega,Int.le_trans (by omega) (Int.mul_le_mul (a:=1) (b:=1) (by omega) (by omega) (by omega) (by omega)),Int.mul_le_mul (by omega) (by omega) (by omega) (by omega)⟩
def fr3:List (Cl×Gn):=[(.old 4,⟨73,[.cells [cI (.lit 192),cI (.iv 21),cI (.iv 22),.sl (.old 5) 0 z0 (.lit 3) (.iv 50),.bool .tt,cI (.lit 589)],.junk 1]⟩),
  Xk (.old 5) (.old 7) (.old 8) (.old 9) (.iv 40) (.iv 41) (.iv 42) (.iv 50) (.av 30) (.av 31) (.av 31),Ye 7 (.av 7),Ye 8 (.av 8),Ye 9 (.av 9)]
def Vq(i:Nat)(t:T):T:=match i with|0=>t|_=>.tdiv (.add t (.lit 1)) (.lit 2)
def jac(i:Nat)(e:Bool)(t:T):T:=match i with|0=>t|_=>(match e with|true=>t|false=>.tdiv t (.lit 2))
def jo0(i:Nat)(e:Bool)(t:T):T:=match e with|true=>up8 (Vq i t)|false=>dn8 (jac i e t)
def jmf(t:T):T:=.tdiv (.add t (.lit 15)) (.lit 16)
def jl7(i:Nat)(t:T):T:=match i with|0=>.mul (jmf t) (.lit 2)|_=>jmf t
def avQ(i:Nat):T:=match i with|0=>.av 30|_=>.av 31
def Qz(i:Nat)(e:Bool):Hg where
  args:=[p0 (.old 4),.v (.one (cI (.lit (i:Nat)))),slR (.ro 0) z0 (.iv 20) (.iv 9),.v (.one (cI (.iv 25))),.v (.one (cI (.iv 26))),.v (.one (.bool (j7m e)))]
  hp:={rw:=fr3,ro:=(.ro 0,.u8,.av 5)::Zd,nv:=1000}
  pre:=Di (.lit 1) (.iv 21) (.lit 65535)++Di (.lit 1) (.iv 22) (.lit 65535)++ [.eq (.len (.av 5)) (.mul (Vq i (.iv 21)) (Vq i (.iv 22))),.eq (.len (.av 5)) (.iv 20),Du 0 255 (.av 5),.le (.iv 20) (.iv 9),.le (.mul (.iv 21) (.iv 22)) (.lit 65536),
    .eq (.iv 25) (jac i e (.iv 21)),.eq (.iv 26) (jac i e (.iv 22)),.eq (.iv (40+i)) (.mul (jl7 i (.iv 21)) (jl7 i (.iv 22))),.eq (.len (.av (7+i))) (.mul (.lit 64) (.iv (40+i))),.eq (.len (avQ i)) (.lit 64),Du 1 255 (avQ i),Du (-1024) 1023 (.av (7+i)),
    .fb 610 (Vq i (.iv 21)) (Vq i (.iv 22)) (jo0 i e (.iv 21)) (jo0 i e (.iv 22)) (.av 5) (.av (7+i)) (avQ i) (one (jl7 i (.iv 21)))]
  val:=.v (.one (.bool .tt))
  hp':={rw:=fr3,ro:=(.ro 0,.u8,.av 5)::Zd}
  post:=[]
  quiet:=false
def c7:Hg where
  args:=j1h
  hp:={rw:=[],ro:=cRo++Zd,nv:=1000}
  pre:=jva
  val:=.v (.one (.bool .tt))
  hp':={rw:=[],ro:=cRo++Zd}
  post:=[]
  quiet:=false
def qmi(e:Bool):Nat→Option Ff:=fun f=>match f with
  | 25=>some (Cx c25)
  | 17=>some (Cx j6j)
  | 13=>some (fun args h=>match jhw 1 0 args with|true=>Cx (Qz 0 e) args h|false=>match jhw 1 1 args with|true=>Cx (Qz 1 e) args h|false=>Cx (Qz 2 e) args h)
  | _=>none
def joy:VC:=
 let t0:T:=.lit (-9223372036854775808)
 let t1:T:=.lit 9223372036854775807
 let t2:T:=.add (.mul (.iv 21) (.lit 2)) (.lit 2)
 let t3:T:=.sub t2 (.lit 1)
 let t4:T:=.tdiv t3 (.lit 2)
 let t5:T:=.add (.mul (.iv 22) (.lit 2)) (.lit 2)
 let t6:T:=.sub t5 (.lit 1)
 let t7:T:=.tdiv t6 (.lit 2)
 let t8:T:=.sub (.add (.iv 21) (.lit 16)) (.lit 1)
 let t9:T:=.tdiv t8 (.lit 16)
 let t10:T:=.sub (.add (.iv 22) (.lit 16)) (.lit 1)
 let t11:T:=.tdiv t10 (.lit 16)
 let t12:T:=.mul t9 (.lit 2)
 let t13:T:=.mul t11 (.lit 2)
 let t14:T:=.add t4 (.lit 8)
 let t15:T:=.sub t14 (.lit 1)
 let t16:T:=.tdiv t15 (.lit 8)
 let t17:T:=.add t7 (.lit 8)
 let t18:T:=.sub t17 (.lit 1)
 let t19:T:=.tdiv t18 (.lit 8)
 let t20:T:=.mul t16 t19
 let t21:T:=.lit 0
 let t22:T:=.tdiv (.iv 1000) t16
 let t24:T:=.le t4 (.lit 65535)
 let t26:T:=.le t7 (.lit 65535)
 let t27:T:=.eq (.len (.av 5)) (.mul t4 t7)
 let t28:T:=.tmod (.iv 1000) t16
 let t30:T:=.le t28 (.lit 65535)
 let t32:T:=.le t22 (.lit 65535)
 let t33:T:=.fa 90 (.mul (.lit 8) t28) (.mul (.lit 8) t22) t4 t7 (.av 5) (.alit []) (.alit []) (.alit [])
 let t34:T:=.mul t22 t12
 let t35:T:=.add t34 t28
 let t36:T:=.mul t35 (.lit 64)
 let t37:T:=.add t36 (.iv 2200)
 let t38:T:=.mul (.get (.av 7) t37) (.get (.av 30) (.iv 2200))
 let t39:T:=.mul t38 (.lit 1099511627776)
 let t40:T:=.sub t39 (.get (.fa 603 t21 t21 t21 t21 t33 (.alit []) (.alit []) (.alit [])) (.iv 2200))
 let t41:T:=.sub t21 t40
 let t42:T:=.add (.get (.av 30) (.iv 2200)) (.lit 1)
 let t43:T:=.mul t42 (.lit 549755813888)
 let t44:T:=.add (.iv 2200) (.lit 1)
 let t45:T:=.add (.iv 1000) (.lit 1)
 let t46:T:=.sub t20 (.iv 1000)
 (.need [(.le t0 (.mul (.iv 21) (.lit 2))),(.le (.mul (.iv 21) (.lit 2)) t1),(.le t0 t2),(.le t2 t1),(.le t0 t3),(.le t3 t1),(.le t0 t4),(.le t4 t1),(.le t0 (.mul (.iv 22) (.lit 2))),(.le (.mul (.iv 22) (.lit 2)) t1),(.le t0 t5),(.le t5 t1),(.le t0 t6),(.le t6 t1),(.le t0 t7),(.le t7 t1)] (.need [(.le t0 (.add (.iv 21) (.lit 16))),(.le (.add (.iv 21) (.lit 16)) t1),(.le t0 t8),(.le t8 t1),(.le t0 t9),(.le t9 t1),(.le t0 (.add (.iv 22) (.lit 16))),(.le (.add (.iv 22) (.lit 16)) t1),(.le t0 t10),(.le t10 t1),(.le t0 t11),(.le t11 t1),(.le t0 t12),(.le t12 t1),(.le t0 t13),(.le t13 t1)] (.need [(.le t0 t14),(.le t14 t1),(.le t0 t15),(.le t15 t1),(.le t0 t16),(.le t16 t1),(.le t0 t17),(.le t17 t1),(.le t0 t18),(.le t18 t1),(.le t0 t19),(.le t19 t1)] (.need [(.le t0 t20),(.le t20 t1)] (.need [(.le t21 t21),(.le t21 t20)] (.any 1000 9 [(.le t21 (.iv 1000)),(.le (.iv 1000) t20)] (.cond (.lt (.iv 1000) t20) (.need [(.not (.eq t16 t21))] (.need [(.le t0 t22),(.le t22 t1)] (.need [(.le (.lit 1) t4),t24,(.le (.lit 1) t7),t26,t27,(.le t21 t28),t30,(.le t21 t22),t32,(.le (.lit 1) t4),t24,(.le (.lit 1) t7),t26,t27,(.le t21 t28),t30,(.le t21 t22),t32] (.any 1400 9 [] (.need [(.eq (.len t33) (.lit 64)),(.fb 2 t21 (.lit 255) t21 t21 t33 (.alit []) (.alit []) (.alit []))] (.any 1800 10 [] (.need [(.le t0 t34),(.le t34 t1)] (.need [(.le t0 t35),(.le t35 t1)] (.need [(.le t21 t35),(.lt t35 (.iv 40))] (.need [(.le t21 (.lit 64))] (.any 2200 1000000011 [(.le t21 (.iv 2200)),(.le (.iv 2200) (.lit 64))] (.cond (.lt (.iv 2200) (.lit 64)) (.need [(.le t21 t36)] (.need [(.le t21 t37),(.lt t37 (.len (.av 7)))] (.need [(.le t0 t38),(.le t38 t1),(.le t0 t39),(.le t39 t1),(.le t0 t40),(.le t40 t1),(.le t0 t41),(.le t41 t1),(.le t0 t42),(.le t42 t1),(.le t0 t43),(.le t43 t1)] (.cond (.not (.le (.mx t40 t41) t43)) (.need [.ff] .done) (.need [(.le t0 t44),(.le t44 t1)] (.need [(.le t21 t44),(.le t44 (.lit 64)),(.lt t21 (.sub (.lit 64) (.iv 2200))),(.lt (.sub (.lit 64) t44) (.sub (.lit 64) (.iv 2200)))] .done)))))) (.need [(.le t0 t45),(.le t45 t1)] (.need [(.le t21 t45),(.le t45 t20),(.lt t21 t46),(.lt (.sub t20 t45) t46)] .done)))))))))))))) .done)))))))
theorem j5c:Dd (Db Tryz.prog (jar Tryz.prog) Ri ⟨jd1,fun _=>false⟩ 100000 13 (Qz 0 true)) joy=true:=by kernel_rfl
set_option maxRecDepth 20000 in
set_option maxHeartbeats 2000000 in
theorem qa4:Cf Tryz.prog Z 13 (Qz 0 true):=by
  refine Bf Nn Mb j5c fun ρ h=> ?_
  simp only[Qz,fr3,Xk,Ye,i3,Vq,jac,jo0,jmf,jl7,avQ,Zd,Nat.reduceAdd,Du,up8,dn8,z0,one,Bi,Di,List.flatMap_cons,List.flatMap_nil,List.append_nil,List.append_assoc,List.cons_append,List.nil_append,and_true,↓qA,qB,and_true,implies_true,T.I,T.A,T.B,VC.sem,Vh] at h
  obtain ⟨h1,h2,h3,h4,h5,h6,h7,h8,h9,h10,h11,h12,h13,h14,h15,h16,h17,-⟩:=h
  have ha:Bn 0 255 (ρ.a 5)=true:=h7
  have hq:Bn 1 255 (ρ.a 30)=true:=h15
  have hb:=De (show Bn (-1024) 1023 (ρ.a 7)=true from h16)
  have s1:(ρ.i 21*2+2-1).tdiv 2=ρ.i 21:=by rw[Int.tdiv_eq_ediv_of_nonneg (by omega)];omega
  have s2:(ρ.i 22*2+2-1).tdiv 2=ρ.i 22:=by rw[Int.tdiv_eq_ediv_of_nonneg (by omega)];omega
  have s3:(ρ.i 21+2-1).tdiv 2=(ρ.i 21+1)/2:=by rw[Int.tdiv_eq_ediv_of_nonneg (by omega)];omega
  have s4:(ρ.i 22+2-1).tdiv 2=(ρ.i 22+1)/2:=by rw[Int.tdiv_eq_ediv_of_nonneg (by omega)];omega
  have s5:(ρ.i 21+16-1).tdiv 16=(ρ.i 21+15)/16:=by rw[Int.tdiv_eq_ediv_of_nonneg (by omega)];omega
  have s6:(ρ.i 22+16-1).tdiv 16=(ρ.i 22+15)/16:=by rw[Int.tdiv_eq_ediv_of_nonneg (by omega)];omega
  have s7:(ρ.i 21+15).tdiv 16=(ρ.i 21+15)/16:=Int.tdiv_eq_ediv_of_nonneg (by omega)
  have s8:(ρ.i 22+15).tdiv 16=(ρ.i 22+15)/16:=Int.tdiv_eq_ediv_of_nonneg (by omega)
  have r1:(ρ.i 21+1).tdiv 2=(ρ.i 21+1)/2:=Int.tdiv_eq_ediv_of_nonneg (by omega)
  have r2:(ρ.i 22+1).tdiv 2=(ρ.i 22+1)/2:=Int.tdiv_eq_ediv_of_nonneg (by omega)
  have r3:(ρ.i 21).tdiv 2=ρ.i 21/2:=Int.tdiv_eq_ediv_of_nonneg (by omega)
  have r4:(ρ.i 22).tdiv 2=ρ.i 22/2:=Int.tdiv_eq_ediv_of_nonneg (by omega)
  have t1:=Ma (x:=ρ.i 21) (by omega)
  have t2:=Ma (x:=ρ.i 22) (by omega)
  have u1:(ρ.i 21+7).tdiv 8=(ρ.i 21+7)/8:=Int.tdiv_eq_ediv_of_nonneg (by omega)
  have u2:(ρ.i 22+7).tdiv 8=(ρ.i 22+7)/8:=Int.tdiv_eq_ediv_of_nonneg (by omega)
  simp only[r1,r2,r3,r4,s7,s8,u1,u2] at h5 h10 h11 h12 h17
  have v3:(ρ.i 21/2).tdiv 8=ρ.i 21/2/8:=Int.tdiv_eq_ediv_of_nonneg (by omega)
  have v4:(ρ.i 22/2).tdiv 8=ρ.i 22/2/8:=Int.tdiv_eq_ediv_of_nonneg (by omega)
  have v5:(ρ.i 21).tdiv 8=ρ.i 21/8:=Int.tdiv_eq_ediv_of_nonneg (by omega)
  have v6:(ρ.i 22).tdiv 8=ρ.i 22/8:=Int.tdiv_eq_ediv_of_nonneg (by omega)
  (try simp only[v3,v4,v5,v6] at h17)
  simp only[joy,↓qA,qB,and_true,implies_true,T.I,T.A,T.B,VC.sem,s1,s2,s3,s4,s5,s6,t1,t2,Ou,Sx,Xe]
  have h17':Fp (ρ.i 21) (ρ.i 22) ((ρ.i 21+7)/8) ((ρ.i 22+7)/8) (ρ.a 5) (ρ.a 7) (ρ.a 30) ((ρ.i 21+15)/16*2)=true:=h17
  have P1:0≤((ρ.i 21+7)/8)*((ρ.i 22+7)/8)∧((ρ.i 21+7)/8)*((ρ.i 22+7)/8)≤8192*8192:=⟨Int.mul_nonneg (by omega) (by omega),Int.mul_le_mul (by omega) (by omega) (by omega) (by omega)⟩
  have P2:0≤((ρ.i 21+15)/16*2)*((ρ.i 22+15)/16*2)∧((ρ.i 21+15)/16*2)*((ρ.i 22+15)/16*2)≤8192*8192:=⟨Int.mul_nonneg (by omega) (by omega),Int.mul_le_mul (by omega) (by omega) (by omega) (by omega)⟩
  have BI:=fun (a:0≤ρ.i 1000) (b:ρ.i 1000<((ρ.i 21+7)/8)*((ρ.i 22+7)/8))=>Pw (A:=(ρ.i 21+15)/16*2) (B:=(ρ.i 22+15)/16*2) a b (by omega) (by omega) (by omega) (by omega)
  have QB:=Dy (fun x hx=>show 0≤x∧x≤255 from ⟨by have:=De hq x hx;omega,(De hq x hx).2⟩) (by decide) (by decide) (ρ.i 2200)
  have BB:=Dy hb (by decide) (by decide) (((ρ.i 1000).tdiv ((ρ.i 21+7)/8)*((ρ.i 21+15)/16*2)+(ρ.i 1000).tmod ((ρ.i 21+7)/8))*64+ρ.i 2200)
  have MB:=He (B:=1024) (C:=255) BB.1 (by omega) (by omega) QB.2
  have EB:=Lt (Gr (px:=8*(ρ.i 1000).tmod ((ρ.i 21+7)/8)) (py:=8*(ρ.i 1000).tdiv ((ρ.i 21+7)/8)) (w:=ρ.i 21) (h:=ρ.i 22) ha) (ρ.i 2200)
  have KEY:=fun (a:0≤ρ.i 1000) (b:ρ.i 1000<((ρ.i 21+7)/8)*((ρ.i 22+7)/8)) (c:0≤ρ.i 2200) (d:ρ.i 2200<64)=>Ly h17' (by omega) (by omega) (by omega) a b c d
  (repeat' (first|with_reducible exact True.intro|with_reducible refine And.intro ?_ ?_|intro _))<;>(try omega)
  · rw[Fw];rfl
  · show Bn 0 255 _=true
    unfold Bn
    rw[List.all_eq_true]
    intro x hx
    have:=Gr ha x hx
    simp only[Bool.and_eq_true,decide_eq_true_eq];exact this
def jp4:VC:=
 let t0:T:=.lit (-9223372036854775808)
 let t1:T:=.lit 9223372036854775807
 let t2:T:=.sub (.add (.iv 21) (.lit 2)) (.lit 1)
 let t3:T:=.tdiv t2 (.lit 2)
 let t4:T:=.sub (.add (.iv 22) (.lit 2)) (.lit 1)
 let t5:T:=.tdiv t4 (.lit 2)
 let t6:T:=.sub (.add (.iv 21) (.lit 16)) (.lit 1)
 let t7:T:=.tdiv t6 (.lit 16)
 let t10:T:=.sub (.add (.iv 22) (.lit 16)) (.lit 1)
 let t11:T:=.tdiv t10 (.lit 16)
 let t14:T:=.add t3 (.lit 8)
 let t15:T:=.sub t14 (.lit 1)
 let t16:T:=.tdiv t15 (.lit 8)
 let t17:T:=.add t5 (.lit 8)
 let t18:T:=.sub t17 (.lit 1)
 let t19:T:=.tdiv t18 (.lit 8)
 let t20:T:=.mul t16 t19
 let t21:T:=.lit 0
 let t22:T:=.tdiv (.iv 1000) t16
 let t24:T:=.le t3 (.lit 65535)
 let t26:T:=.le t5 (.lit 65535)
 let t27:T:=.eq (.len (.av 5)) (.mul t3 t5)
 let t28:T:=.tmod (.iv 1000) t16
 let t30:T:=.le t28 (.lit 65535)
 let t32:T:=.le t22 (.lit 65535)
 let t33:T:=.fa 90 (.mul (.lit 8) t28) (.mul (.lit 8) t22) t3 t5 (.av 5) (.alit []) (.alit []) (.alit [])
 let t34:T:=.mul t22 t7
 let t35:T:=.add t34 t28
 let t36:T:=.mul t35 (.lit 64)
 let t37:T:=.add t36 (.iv 2200)
 let t38:T:=.mul (.get (.av 8) t37) (.get (.av 31) (.iv 2200))
 let t39:T:=.mul t38 (.lit 1099511627776)
 let t40:T:=.sub t39 (.get (.fa 603 t21 t21 t21 t21 t33 (.alit []) (.alit []) (.alit [])) (.iv 2200))
 let t41:T:=.sub t21 t40
 let t42:T:=.add (.get (.av 31) (.iv 2200)) (.lit 1)
 let t43:T:=.mul t42 (.lit 549755813888)
 let t44:T:=.add (.iv 2200) (.lit 1)
 let t45:T:=.add (.iv 1000) (.lit 1)
 let t46:T:=.sub t20 (.iv 1000)
 (.need [(.le t0 (.iv 21)),(.le (.iv 21) t1),(.le t0 (.add (.iv 21) (.lit 2))),(.le (.add (.iv 21) (.lit 2)) t1),(.le t0 t2),(.le t2 t1),(.le t0 t3),(.le t3 t1),(.le t0 (.iv 22)),(.le (.iv 22) t1),(.le t0 (.add (.iv 22) (.lit 2))),(.le (.add (.iv 22) (.lit 2)) t1),(.le t0 t4),(.le t4 t1),(.le t0 t5),(.le t5 t1)] (.need [(.le t0 (.add (.iv 21) (.lit 16))),(.le (.add (.iv 21) (.lit 16)) t1),(.le t0 t6),(.le t6 t1),(.le t0 t7),(.le t7 t1),(.le t0 (.add (.iv 22) (.lit 16))),(.le (.add (.iv 22) (.lit 16)) t1),(.le t0 t10),(.le t10 t1),(.le t0 t11),(.le t11 t1),(.le t0 t7),(.le t7 t1),(.le t0 t11),(.le t11 t1)] (.need [(.le t0 t14),(.le t14 t1),(.le t0 t15),(.le t15 t1),(.le t0 t16),(.le t16 t1),(.le t0 t17),(.le t17 t1),(.le t0 t18),(.le t18 t1),(.le t0 t19),(.le t19 t1)] (.need [(.le t0 t20),(.le t20 t1)] (.need [(.le t21 t21),(.le t21 t20)] (.any 1000 9 [(.le t21 (.iv 1000)),(.le (.iv 1000) t20)] (.cond (.lt (.iv 1000) t20) (.need [(.not (.eq t16 t21))] (.need [(.le t0 t22),(.le t22 t1)] (.need [(.le (.lit 1) t3),t24,(.le (.lit 1) t5),t26,t27,(.le t21 t28),t30,(.le t21 t22),t32,(.le (.lit 1) t3),t24,(.le (.lit 1) t5),t26,t27,(.le t21 t28),t30,(.le t21 t22),t32] (.any 1400 9 [] (.need [(.eq (.len t33) (.lit 64)),(.fb 2 t21 (.lit 255) t21 t21 t33 (.alit []) (.alit []) (.alit []))] (.any 1800 10 [] (.need [(.le t0 t34),(.le t34 t1)] (.need [(.le t0 t35),(.le t35 t1)] (.need [(.le t21 t35),(.lt t35 (.iv 41))] (.need [(.le t21 (.lit 64))] (.any 2200 1000000011 [(.le t21 (.iv 2200)),(.le (.iv 2200) (.lit 64))] (.cond (.lt (.iv 2200) (.lit 64)) (.need [(.le t21 t36)] (.need [(.le t21 t37),(.lt t37 (.len (.av 8)))] (.need [(.le t0 t38),(.le t38 t1),(.le t0 t39),(.le t39 t1),(.le t0 t40),(.le t40 t1),(.le t0 t41),(.le t41 t1),(.le t0 t42),(.le t42 t1),(.le t0 t43),(.le t43 t1)] (.cond (.not (.le (.mx t40 t41) t43)) (.need [.ff] .done) (.need [(.le t0 t44),(.le t44 t1)] (.need [(.le t21 t44),(.le t44 (.lit 64)),(.lt t21 (.sub (.lit 64) (.iv 2200))),(.lt (.sub (.lit 64) t44) (.sub (.lit 64) (.iv 2200)))] .done)))))) (.need [(.le t0 t45),(.le t45 t1)] (.need [(.le t21 t45),(.le t45 t20),(.lt t21 t46),(.lt (.sub t20 t45) t46)] .done)))))))))))))) .done)))))))
theorem j4i:Dd (Db Tryz.prog (jar Tryz.prog) Ri ⟨jd1,fun _=>false⟩ 100000 13 (Qz 1 true)) jp4=true:=by kernel_rfl
set_option maxRecDepth 20000 in
set_option maxHeartbeats 2000000 in
theorem qb7:Cf Tryz.prog Z 13 (Qz 1 true):=by
  refine Bf Nn Mb j4i fun ρ h=> ?_
  simp only[Qz,fr3,Xk,Ye,i3,Vq,jac,jo0,jmf,jl7,avQ,Zd,Nat.reduceAdd,Du,up8,dn8,z0,one,Bi,Di,List.flatMap_cons,List.flatMap_nil,List.append_nil,List.append_assoc,List.cons_append,List.nil_append,and_true,↓qA,qB,and_true,implies_true,T.I,T.A,T.B,VC.sem,Vh] at h
  obtain ⟨h1,h2,h3,h4,h5,h6,h7,h8,h9,h10,h11,h12,h13,h14,h15,h16,h17,-⟩:=h
  have ha:Bn 0 255 (ρ.a 5)=true:=h7
  have hq:Bn 1 255 (ρ.a 31)=true:=h15
  have hb:=De (show Bn (-1024) 1023 (ρ.a 8)=true from h16)
  have s1:(ρ.i 21*2+2-1).tdiv 2=ρ.i 21:=by rw[Int.tdiv_eq_ediv_of_nonneg (by omega)];omega
  have s2:(ρ.i 22*2+2-1).tdiv 2=ρ.i 22:=by rw[Int.tdiv_eq_ediv_of_nonneg (by omega)];omega
  have s3:(ρ.i 21+2-1).tdiv 2=(ρ.i 21+1)/2:=by rw[Int.tdiv_eq_ediv_of_nonneg (by omega)];omega
  have s4:(ρ.i 22+2-1).tdiv 2=(ρ.i 22+1)/2:=by rw[Int.tdiv_eq_ediv_of_nonneg (by omega)];omega
  have s5:(ρ.i 21+16-1).tdiv 16=(ρ.i 21+15)/16:=by rw[Int.tdiv_eq_ediv_of_nonneg (by omega)];omega
  have s6:(ρ.i 22+16-1).tdiv 16=(ρ.i 22+15)/16:=by rw[Int.tdiv_eq_ediv_of_nonneg (by omega)];omega
  have s7:(ρ.i 21+15).tdiv 16=(ρ.i 21+15)/16:=Int.tdiv_eq_ediv_of_nonneg (by omega)
  have s8:(ρ.i 22+15).tdiv 16=(ρ.i 22+15)/16:=Int.tdiv_eq_ediv_of_nonneg (by omega)
  have r1:(ρ.i 21+1).tdiv 2=(ρ.i 21+1)/2:=Int.tdiv_eq_ediv_of_nonneg (by omega)
  have r2:(ρ.i 22+1).tdiv 2=(ρ.i 22+1)/2:=Int.tdiv_eq_ediv_of_nonneg (by omega)
  have r3:(ρ.i 21).tdiv 2=ρ.i 21/2:=Int.tdiv_eq_ediv_of_nonneg (by omega)
  have r4:(ρ.i 22).tdiv 2=ρ.i 22/2:=Int.tdiv_eq_ediv_of_nonneg (by omega)
  have t1:=Ma (x:=(ρ.i 21+1)/2) (by omega)
  have t2:=Ma (x:=(ρ.i 22+1)/2) (by omega)
  have u1:((ρ.i 21+1)/2+7).tdiv 8=((ρ.i 21+1)/2+7)/8:=Int.tdiv_eq_ediv_of_nonneg (by omega)
  have u2:((ρ.i 22+1)/2+7).tdiv 8=((ρ.i 22+1)/2+7)/8:=Int.tdiv_eq_ediv_of_nonneg (by omega)
  simp only[r1,r2,r3,r4,s7,s8,u1,u2] at h5 h10 h11 h12 h17
  have v3:(ρ.i 21/2).tdiv 8=ρ.i 21/2/8:=Int.tdiv_eq_ediv_of_nonneg (by omega)
  have v4:(ρ.i 22/2).tdiv 8=ρ.i 22/2/8:=Int.tdiv_eq_ediv_of_nonneg (by omega)
  have v5:(ρ.i 21).tdiv 8=ρ.i 21/8:=Int.tdiv_eq_ediv_of_nonneg (by omega)
  have v6:(ρ.i 22).tdiv 8=ρ.i 22/8:=Int.tdiv_eq_ediv_of_nonneg (by omega)
  (try simp only[v3,v4,v5,v6] at h17)
  simp only[jp4,↓qA,qB,and_true,implies_true,T.I,T.A,T.B,VC.sem,s1,s2,s3,s4,s5,s6,t1,t2,Ou,Sx,Xe]
  have h17':Fp ((ρ.i 21+1)/2) ((ρ.i 22+1)/2) (((ρ.i 21+1)/2+7)/8) (((ρ.i 22+1)/2+7)/8) (ρ.a 5) (ρ.a 8) (ρ.a 31) ((ρ.i 21+15)/16)=true:=h17
  have P1:0≤(((ρ.i 21+1)/2+7)/8)*(((ρ.i 22+1)/2+7)/8)∧(((ρ.i 21+1)/2+7)/8)*(((ρ.i 22+1)/2+7)/8)≤8192*8192:=⟨Int.mul_nonneg (by omega) (by omega),Int.mul_le_mul (by omega) (by omega) (by omega) (by omega)⟩
  have P2:0≤((ρ.i 21+15)/16)*((ρ.i 22+15)/16)∧((ρ.i 21+15)/16)*((ρ.i 22+15)/16)≤8192*8192:=⟨Int.mul_nonneg (by omega) (by omega),Int.mul_le_mul (by omega) (by omega) (by omega) (by omega)⟩
  have BI:=fun (a:0≤ρ.i 1000) (b:ρ.i 1000<(((ρ.i 21+1)/2+7)/8)*(((ρ.i 22+1)/2+7)/8))=>Pw (A:=(ρ.i 21+15)/16) (B:=(ρ.i 22+15)/16) a b (by omega) (by omega) (by omega) (by omega)
  have QB:=Dy (fun x hx=>show 0≤x∧x≤255 from ⟨by have:=De hq x hx;omega,(De hq x hx).2⟩) (by decide) (by decide) (ρ.i 2200)
  have BB:=Dy hb (by decide) (by decide) (((ρ.i 1000).tdiv (((ρ.i 21+1)/2+7)/8)*((ρ.i 21+15)/16)+(ρ.i 1000).tmod (((ρ.i 21+1)/2+7)/8))*64+ρ.i 2200)
  have MB:=He (B:=1024) (C:=255) BB.1 (by omega) (by omega) QB.2
  have EB:=Lt (Gr (px:=8*(ρ.i 1000).tmod (((ρ.i 21+1)/2+7)/8)) (py:=8*(ρ.i 1000).tdiv (((ρ.i 21+1)/2+7)/8)) (w:=(ρ.i 21+1)/2) (h:=(ρ.i 22+1)/2) ha) (ρ.i 2200)
  have KEY:=fun (a:0≤ρ.i 1000) (b:ρ.i 1000<(((ρ.i 21+1)/2+7)/8)*(((ρ.i 22+1)/2+7)/8)) (c:0≤ρ.i 2200) (d:ρ.i 2200<64)=>Ly h17' (by omega) (by omega) (by omega) a b c d
  (repeat' (first|with_reducible exact True.intro|with_reducible refine And.intro ?_ ?_|intro _))<;>(try omega)
  · rw[Fw];rfl
  · show Bn 0 255 _=true
    unfold Bn
    rw[List.all_eq_true]
    intro x hx
    have:=Gr ha x hx
    simp only[Bool.and_eq_true,decide_eq_true_eq];exact this
def jod:VC:=
 let t0:T:=.lit (-9223372036854775808)
 let t1:T:=.lit 9223372036854775807
 let t2:T:=.sub (.add (.iv 21) (.lit 2)) (.lit 1)
 let t3:T:=.tdiv t2 (.lit 2)
 let t4:T:=.sub (.add (.iv 22) (.lit 2)) (.lit 1)
 let t5:T:=.tdiv t4 (.lit 2)
 let t6:T:=.sub (.add (.iv 21) (.lit 16)) (.lit 1)
 let t7:T:=.tdiv t6 (.lit 16)
 let t10:T:=.sub (.add (.iv 22) (.lit 16)) (.lit 1)
 let t11:T:=.tdiv t10 (.lit 16)
 let t14:T:=.add t3 (.lit 8)
 let t15:T:=.sub t14 (.lit 1)
 let t16:T:=.tdiv t15 (.lit 8)
 let t17:T:=.add t5 (.lit 8)
 let t18:T:=.sub t17 (.lit 1)
 let t19:T:=.tdiv t18 (.lit 8)
 let t20:T:=.mul t16 t19
 let t21:T:=.lit 0
 let t22:T:=.tdiv (.iv 1000) t16
 let t24:T:=.le t3 (.lit 65535)
 let t26:T:=.le t5 (.lit 65535)
 let t27:T:=.eq (.len (.av 5)) (.mul t3 t5)
 let t28:T:=.tmod (.iv 1000) t16
 let t30:T:=.le t28 (.lit 65535)
 let t32:T:=.le t22 (.lit 65535)
 let t33:T:=.fa 90 (.mul (.lit 8) t28) (.mul (.lit 8) t22) t3 t5 (.av 5) (.alit []) (.alit []) (.alit [])
 let t34:T:=.mul t22 t7
 let t35:T:=.add t34 t28
 let t36:T:=.mul t35 (.lit 64)
 let t37:T:=.add t36 (.iv 2200)
 let t38:T:=.mul (.get (.av 9) t37) (.get (.av 31) (.iv 2200))
 let t39:T:=.mul t38 (.lit 1099511627776)
 let t40:T:=.sub t39 (.get (.fa 603 t21 t21 t21 t21 t33 (.alit []) (.alit []) (.alit [])) (.iv 2200))
 let t41:T:=.sub t21 t40
 let t42:T:=.add (.get (.av 31) (.iv 2200)) (.lit 1)
 let t43:T:=.mul t42 (.lit 549755813888)
 let t44:T:=.add (.iv 2200) (.lit 1)
 let t45:T:=.add (.iv 1000) (.lit 1)
 let t46:T:=.sub t20 (.iv 1000)
 (.need [(.le t0 (.iv 21)),(.le (.iv 21) t1),(.le t0 (.add (.iv 21) (.lit 2))),(.le (.add (.iv 21) (.lit 2)) t1),(.le t0 t2),(.le t2 t1),(.le t0 t3),(.le t3 t1),(.le t0 (.iv 22)),(.le (.iv 22) t1),(.le t0 (.add (.iv 22) (.lit 2))),(.le (.add (.iv 22) (.lit 2)) t1),(.le t0 t4),(.le t4 t1),(.le t0 t5),(.le t5 t1)] (.need [(.le t0 (.add (.iv 21) (.lit 16))),(.le (.add (.iv 21) (.lit 16)) t1),(.le t0 t6),(.le t6 t1),(.le t0 t7),(.le t7 t1),(.le t0 (.add (.iv 22) (.lit 16))),(.le (.add (.iv 22) (.lit 16)) t1),(.le t0 t10),(.le t10 t1),(.le t0 t11),(.le t11 t1),(.le t0 t7),(.le t7 t1),(.le t0 t11),(.le t11 t1)] (.need [(.le t0 t14),(.le t14 t1),(.le t0 t15),(.le t15 t1),(.le t0 t16),(.le t16 t1),(.le t0 t17),(.le t17 t1),(.le t0 t18),(.le t18 t1),(.le t0 t19),(.le t19 t1)] (.need [(.le t0 t20),(.le t20 t1)] (.need [(.le t21 t21),(.le t21 t20)] (.any 1000 9 [(.le t21 (.iv 1000)),(.le (.iv 1000) t20)] (.cond (.lt (.iv 1000) t20) (.need [(.not (.eq t16 t21))] (.need [(.le t0 t22),(.le t22 t1)] (.need [(.le (.lit 1) t3),t24,(.le (.lit 1) t5),t26,t27,(.le t21 t28),t30,(.le t21 t22),t32,(.le (.lit 1) t3),t24,(.le (.lit 1) t5),t26,t27,(.le t21 t28),t30,(.le t21 t22),t32] (.any 1400 9 [] (.need [(.eq (.len t33) (.lit 64)),(.fb 2 t21 (.lit 255) t21 t21 t33 (.alit []) (.alit []) (.alit []))] (.any 1800 10 [] (.need [(.le t0 t34),(.le t34 t1)] (.need [(.le t0 t35),(.le t35 t1)] (.need [(.le t21 t35),(.lt t35 (.iv 42))] (.need [(.le t21 (.lit 64))] (.any 2200 1000000011 [(.le t21 (.iv 2200)),(.le (.iv 2200) (.lit 64))] (.cond (.lt (.iv 2200) (.lit 64)) (.need [(.le t21 t36)] (.need [(.le t21 t37),(.lt t37 (.len (.av 9)))] (.need [(.le t0 t38),(.le t38 t1),(.le t0 t39),(.le t39 t1),(.le t0 t40),(.le t40 t1),(.le t0 t41),(.le t41 t1),(.le t0 t42),(.le t42 t1),(.le t0 t43),(.le t43 t1)] (.cond (.not (.le (.mx t40 t41) t43)) (.need [.ff] .done) (.need [(.le t0 t44),(.le t44 t1)] (.need [(.le t21 t44),(.le t44 (.lit 64)),(.lt t21 (.sub (.lit 64) (.iv 2200))),(.lt (.sub (.lit 64) t44) (.sub (.lit 64) (.iv 2200)))] .done)))))) (.need [(.le t0 t45),(.le t45 t1)] (.need [(.le t21 t45),(.le t45 t20),(.lt t21 t46),(.lt (.sub t20 t45) t46)] .done)))))))))))))) .done)))))))
theorem j2i:Dd (Db Tryz.prog (jar Tryz.prog) Ri ⟨jd1,fun _=>false⟩ 100000 13 (Qz 2 true)) jod=true:=by kernel_rfl
set_option maxRecDepth 20000 in
set_option maxHeartbeats 2000000 in
theorem qa5:Cf Tryz.prog Z 13 (Qz 2 true):=by
  refine Bf Nn Mb j2i fun ρ h=> ?_
  simp only[Qz,fr3,Xk,Ye,i3,Vq,jac,jo0,jmf,jl7,avQ,Zd,Nat.reduceAdd,Du,up8,dn8,z0,one,Bi,Di,List.flatMap_cons,List.flatMap_nil,List.append_nil,List.append_assoc,List.cons_append,List.nil_append,and_true,↓qA,qB,and_true,implies_true,T.I,T.A,T.B,VC.sem,Vh] at h
  obtain ⟨h1,h2,h3,h4,h5,h6,h7,h8,h9,h10,h11,h12,h13,h14,h15,h16,h17,-⟩:=h
  have ha:Bn 0 255 (ρ.a 5)=true:=h7
  have hq:Bn 1 255 (ρ.a 31)=true:=h15
  have hb:=De (show Bn (-1024) 1023 (ρ.a 9)=true from h16)
  have s1:(ρ.i 21*2+2-1).tdiv 2=ρ.i 21:=by rw[Int.tdiv_eq_ediv_of_nonneg (by omega)];omega
  have s2:(ρ.i 22*2+2-1).tdiv 2=ρ.i 22:=by rw[Int.tdiv_eq_ediv_of_nonneg (by omega)];omega
  have s3:(ρ.i 21+2-1).tdiv 2=(ρ.i 21+1)/2:=by rw[Int.tdiv_eq_ediv_of_nonneg (by omega)];omega
  have s4:(ρ.i 22+2-1).tdiv 2=(ρ.i 22+1)/2:=by rw[Int.tdiv_eq_ediv_of_nonneg (by omega)];omega
  have s5:(ρ.i 21+16-1).tdiv 16=(ρ.i 21+15)/16:=by rw[Int.tdiv_eq_ediv_of_nonneg (by omega)];omega
  have s6:(ρ.i 22+16-1).tdiv 16=(ρ.i 22+15)/16:=by rw[Int.tdiv_eq_ediv_of_nonneg (by omega)];omega
  have s7:(ρ.i 21+15).tdiv 16=(ρ.i 21+15)/16:=Int.tdiv_eq_ediv_of_nonneg (by omega)
  have s8:(ρ.i 22+15).tdiv 16=(ρ.i 22+15)/16:=Int.tdiv_eq_ediv_of_nonneg (by omega)
  have r1:(ρ.i 21+1).tdiv 2=(ρ.i 21+1)/2:=Int.tdiv_eq_ediv_of_nonneg (by omega)
  have r2:(ρ.i 22+1).tdiv 2=(ρ.i 22+1)/2:=Int.tdiv_eq_ediv_of_nonneg (by omega)
  have r3:(ρ.i 21).tdiv 2=ρ.i 21/2:=Int.tdiv_eq_ediv_of_nonneg (by omega)
  have r4:(ρ.i 22).tdiv 2=ρ.i 22/2:=Int.tdiv_eq_ediv_of_nonneg (by omega)
  have t1:=Ma (x:=(ρ.i 21+1)/2) (by omega)
  have t2:=Ma (x:=(ρ.i 22+1)/2) (by omega)
  have u1:((ρ.i 21+1)/2+7).tdiv 8=((ρ.i 21+1)/2+7)/8:=Int.tdiv_eq_ediv_of_nonneg (by omega)
  have u2:((ρ.i 22+1)/2+7).tdiv 8=((ρ.i 22+1)/2+7)/8:=Int.tdiv_eq_ediv_of_nonneg (by omega)
  simp only[r1,r2,r3,r4,s7,s8,u1,u2] at h5 h10 h11 h12 h17
  have v3:(ρ.i 21/2).tdiv 8=ρ.i 21/2/8:=Int.tdiv_eq_ediv_of_nonneg (by omega)
  have v4:(ρ.i 22/2).tdiv 8=ρ.i 22/2/8:=Int.tdiv_eq_ediv_of_nonneg (by omega)
  have v5:(ρ.i 21).tdiv 8=ρ.i 21/8:=Int.tdiv_eq_ediv_of_nonneg (by omega)
  have v6:(ρ.i 22).tdiv 8=ρ.i 22/8:=Int.tdiv_eq_ediv_of_nonneg (by omega)
  (try simp only[v3,v4,v5,v6] at h17)
  simp only[jod,↓qA,qB,and_true,implies_true,T.I,T.A,T.B,VC.sem,s1,s2,s3,s4,s5,s6,t1,t2,Ou,Sx,Xe]
  have h17':Fp ((ρ.i 21+1)/2) ((ρ.i 22+1)/2) (((ρ.i 21+1)/2+7)/8) (((ρ.i 22+1)/2+7)/8) (ρ.a 5) (ρ.a 9) (ρ.a 31) ((ρ.i 21+15)/16)=true:=h17
  have P1:0≤(((ρ.i 21+1)/2+7)/8)*(((ρ.i 22+1)/2+7)/8)∧(((ρ.i 21+1)/2+7)/8)*(((ρ.i 22+1)/2+7)/8)≤8192*8192:=⟨Int.mul_nonneg (by omega) (by omega),Int.mul_le_mul (by omega) (by omega) (by omega) (by omega)⟩
  have P2:0≤((ρ.i 21+15)/16)*((ρ.i 22+15)/16)∧((ρ.i 21+15)/16)*((ρ.i 22+15)/16)≤8192*8192:=⟨Int.mul_nonneg (by omega) (by omega),Int.mul_le_mul (by omega) (by omega) (by omega) (by omega)⟩
  have BI:=fun (a:0≤ρ.i 1000) (b:ρ.i 1000<(((ρ.i 21+1)/2+7)/8)*(((ρ.i 22+1)/2+7)/8))=>Pw (A:=(ρ.i 21+15)/16) (B:=(ρ.i 22+15)/16) a b (by omega) (by omega) (by omega) (by omega)
  have QB:=Dy (fun x hx=>show 0≤x∧x≤255 from ⟨by have:=De hq x hx;omega,(De hq x hx).2⟩) (by decide) (by decide) (ρ.i 2200)
  have BB:=Dy hb (by decide) (by decide) (((ρ.i 1000).tdiv (((ρ.i 21+1)/2+7)/8)*((ρ.i 21+15)/16)+(ρ.i 1000).tmod (((ρ.i 21+1)/2+7)/8))*64+ρ.i 2200)
  have MB:=He (B:=1024) (C:=255) BB.1 (by omega) (by omega) QB.2
  have EB:=Lt (Gr (px:=8*(ρ.i 1000).tmod (((ρ.i 21+1)/2+7)/8)) (py:=8*(ρ.i 1000).tdiv (((ρ.i 21+1)/2+7)/8)) (w:=(ρ.i 21+1)/2) (h:=(ρ.i 22+1)/2) ha) (ρ.i 2200)
  have KEY:=fun (a:0≤ρ.i 1000) (b:ρ.i 1000<(((ρ.i 21+1)/2+7)/8)*(((ρ.i 22+1)/2+7)/8)) (c:0≤ρ.i 2200) (d:ρ.i 2200<64)=>Ly h17' (by omega) (by omega) (by omega) a b c d
  (repeat' (first|with_reducible exact True.intro|with_reducible refine And.intro ?_ ?_|intro _))<;>(try omega)
  · rw[Fw];rfl
  · show Bn 0 255 _=true
    unfold Bn
    rw[List.all_eq_true]
    intro x hx
    have:=Gr ha x hx
    simp only[Bool.and_eq_true,decide_eq_true_eq];exact this
theorem Up{a b:List Int}{k:Int}(h0:0≤k)(h1:k<a.length):Bg (a++b) k=Bg a k:=by
  unfold Bg
  rw[List.getD_eq_getElem?_getD,List.getD_eq_getElem?_getD,List.getElem?_append_left (by omega)]
theorem Mi{a b:List Int}{k:Int}(h0:0≤k):Bg (a++b) ((a.length:Int)+k)=Bg b k:=by
  unfold Bg
  rw[List.getD_eq_getElem?_getD,List.getD_eq_getElem?_getD,List.getElem?_append_right (by omega)]
  congr 2
  omega
theorem at8_cutN{D:List Int}{s n:Nat}{i:Int}(h0:0≤i)(h1:i<n):Bg ((D.drop s).take n) i=Bg D (s+i):=by
  unfold Bg
  rw[List.getD_eq_getElem?_getD,List.getElem?_take,if_pos (by omega),List.getElem?_drop,List.getD_eq_getElem?_getD]
  congr 2;omega
theorem qcy{f:Nat→Int}{n:Nat}{k:Int}(h0:0≤k)(h1:k<n):Bg ((List.range n).map f) k=f k.toNat:=by
  unfold Bg
  rw[List.getD_eq_getElem?_getD,List.getElem?_map,List.getElem?_range (by omega)];rfl
theorem jx7{px py w h:Int}{a R:List Int}(h0:0≤px)(h1:0≤py)(hw:1≤w)(hh:1≤h)(hl:(a.length:Int)=w*h):Fy px py w h (a++R)=Fy px py w h a:=by
  unfold Fy
  refine List.map_congr_left fun i hi=> ?_
  rw[List.mem_range] at hi
  have a1:0≤min (py+(i/8:Nat)) (h-1):=by omega
  have a2:min (py+(i/8:Nat)) (h-1)≤h-1:=by omega
  have a3:0≤min (px+(i % 8:Nat)) (w-1):=by omega
  have a4:min (px+(i % 8:Nat)) (w-1)≤w-1:=by omega
  generalize min (py+(i/8:Nat)) (h-1)=r at*
  generalize min (px+(i % 8:Nat)) (w-1)=c at*
  have b1:=Int.mul_nonneg a1 (show 0≤w by omega)
  have b2:=Int.mul_le_mul_of_nonneg_right a2 (show 0≤w by omega)
  rw[Int.sub_mul,Int.one_mul,Int.mul_comm h w] at b2
  exact Up (by omega) (by omega)
theorem j6d{off x y w h:Int}{P:List Int}(k i:Nat)(hk:k<4)(hi:i<64):Bg (Nw off x y w h P) ((64*k+i:Nat):Int)=Bg P (off+(min (y+(8*(k/2)+i/8:Nat)) (h-1)/2*((w+1)/2)+min (x+(8*(k % 2)+i % 8:Nat)) (w-1)/2)):=by
  have L: ∀px py,(Mw off px py w h P).length=64:=fun _ _=>Dz
  have C: ∀px py (i:Nat),i<64→Bg (Mw off px py w h P) (i:Int)=Bg P (off+(min (py+(i/8:Nat)) (h-1)/2*((w+1)/2)+min (px+(i % 8:Nat)) (w-1)/2)):=by
    intro px py i hi
    unfold Mw
    rw[qcy (by omega) (by omega),Int.toNat_natCast]
  unfold Nw
  rcases (show k=0∨k=1∨k=2∨k=3 by omega) with rfl|rfl|rfl|rfl
  · rw[Up (by omega) (by rw[L];omega),show ((64*0+i:Nat):Int)=(i:Int) by omega,C _ _ _ hi,show 8*(0/2)+i/8=i/8 by omega,show 8*(0 % 2)+i % 8=i % 8 by omega]
  · have e:((64*1+i:Nat):Int)=((Mw off x y w h P).length:Int)+(i:Int):=by rw[L];omega
    rw[e,Mi (by omega),Up (by omega) (by rw[L];omega),C _ _ _ hi,show 8*(1/2)+i/8=i/8 by omega,show x+((8*(1 % 2)+i % 8:Nat):Int)=x+8+((i % 8:Nat):Int) by omega]
  · have e:((64*2+i:Nat):Int)=((Mw off x y w h P).length:Int)+(((Mw off (x+8) y w h P).length:Int)+(i:Int)):=by rw[L,L];omega
    rw[e,Mi (by omega),Mi (by omega),Up (by omega) (by rw[L];omega),C _ _ _ hi,show y+((8*(2/2)+i/8:Nat):Int)=y+8+((i/8:Nat):Int) by omega,show 8*(2 % 2)+i % 8=i % 8 by omega]
  · have e:((64*3+i:Nat):Int)=((Mw off x y w h P).length:Int)+(((Mw off (x+8) y w h P).length:Int)+(((Mw off x (y+8) w h P).length:Int)+(i:Int))):=by rw[L,L,L];omega
    rw[e,Mi (by omega),Mi (by omega),Mi (by omega),C _ _ _ hi,show y+((8*(3/2)+i/8:Nat):Int)=y+8+((i/8:Nat):Int) by omega,show x+((8*(3 % 2)+i % 8:Nat):Int)=x+8+((i % 8:Nat):Int) by omega]
theorem jo1{t h d:Int}(h0:0≤t)(hh:1≤h)(d0:0≤d)(d1:d≤1):min (2*t+d) (h-1)/2=min t ((h+1)/2-1):=by omega
theorem j38{off w h:Int}{P b:List Int}{R C:Nat}(hw:1≤w)(hh:1≤h)(hb: ∀k:Int,0≤k→k<(w+1)/2*((h+1)/2)→Bg P (off+k)=Bg b k):
    Nx (Nw off (16*(C:Int)) (16*(R:Int)) w h P)=Fy (8*(C:Int)) (8*(R:Int)) ((w+1)/2) ((h+1)/2) b:=by
  unfold Nx Fy
  refine List.map_congr_left fun p hp=> ?_
  rw[List.mem_range] at hp
  have S: ∀d e:Nat,d≤1→e≤1→Bg (Nw off (16*(C:Int)) (16*(R:Int)) w h P) ((64*(2*(p/32)+p % 8/4)+16*(p/8 % 4)+2*(p % 4)+8*d+e:Nat):Int)=Bg P (off+(min (8*(R:Int)+((p/8:Nat):Int)) ((h+1)/2-1)*((w+1)/2)+min (8*(C:Int)+((p % 8:Nat):Int)) ((w+1)/2-1))):=by
    intro d e hd he
    have:=j6d (off:=off) (x:=16*(C:Nat)) (y:=16*(R:Nat)) (w:=w) (h:=h) (P:=P) (2*(p/32)+p % 8/4) (16*(p/8 % 4)+2*(p % 4)+8*d+e) (by omega) (by omega)
    rw[show 64*(2*(p/32)+p % 8/4)+(16*(p/8 % 4)+2*(p % 4)+8*d+e)=64*(2*(p/32)+p % 8/4)+16*(p/8 % 4)+2*(p % 4)+8*d+e by omega] at this
    rw[this]
    have e1:(16*(R:Int))+((8*((2*(p/32)+p % 8/4)/2)+(16*(p/8 % 4)+2*(p % 4)+8*d+e)/8:Nat):Int)=2*(8*(R:Int)+((p/8:Nat):Int))+(d:Int):=by omega
    have e2:(16*(C:Int))+((8*((2*(p/32)+p % 8/4) % 2)+(16*(p/8 % 4)+2*(p % 4)+8*d+e) % 8:Nat):Int)=2*(8*(C:Int)+((p % 8:Nat):Int))+(e:Int):=by omega
    rw[e1,e2,jo1 (by omega) hh (by omega) (by omega),jo1 (by omega) hw (by omega) (by omega)]
  unfold scV
  have s0:=S 0 0 (by omega) (by omega)
  have s1:=S 0 1 (by omega) (by omega)
  have s2:=S 1 0 (by omega) (by omega)
  have s3:=S 1 1 (by omega) (by omega)
  have g: ∀n:Nat,((64*(2*(p/32)+p % 8/4)+16*(p/8 % 4)+2*(p % 4)+n:Nat):Int)=((64*(2*(p/32)+p % 8/4)+16*(p/8 % 4)+2*(p % 4):Nat):Int)+(n:Int):=fun n=>by omega
  rw[show 64*(2*(p/32)+p % 8/4)+16*(p/8 % 4)+2*(p % 4)+8*0+0=64*(2*(p/32)+p % 8/4)+16*(p/8 % 4)+2*(p % 4) by omega] at s0
  rw[show 64*(2*(p/32)+p % 8/4)+16*(p/8 % 4)+2*(p % 4)+8*0+1=64*(2*(p/32)+p % 8/4)+16*(p/8 % 4)+2*(p % 4)+1 by omega,g 1] at s1
  rw[show 64*(2*(p/32)+p % 8/4)+16*(p/8 % 4)+2*(p % 4)+8*1+0=64*(2*(p/32)+p % 8/4)+16*(p/8 % 4)+2*(p % 4)+8 by omega,g 8] at s2
  rw[show 64*(2*(p/32)+p % 8/4)+16*(p/8 % 4)+2*(p % 4)+8*1+1=64*(2*(p/32)+p % 8/4)+16*(p/8 % 4)+2*(p % 4)+9 by omega,g 9] at s3
  show (Bg _ _+Bg _ (_+1)+Bg _ (_+8)+Bg _ (_+9)+2)/4=_
  rw[s0]
  erw [s1,s2,s3]
  have a1:0≤min (8*(R:Int)+((p/8:Nat):Int)) ((h+1)/2-1):=by omega
  have a2:min (8*(R:Int)+((p/8:Nat):Int)) ((h+1)/2-1)≤(h+1)/2-1:=by omega
  have a3:0≤min (8*(C:Int)+((p % 8:Nat):Int)) ((w+1)/2-1):=by omega
  have a4:min (8*(C:Int)+((p % 8:Nat):Int)) ((w+1)/2-1)≤(w+1)/2-1:=by omega
  generalize min (8*(R:Int)+((p/8:Nat):Int)) ((h+1)/2-1)=r at*
  generalize min (8*(C:Int)+((p % 8:Nat):Int)) ((w+1)/2-1)=c at*
  have b0:0≤(w+1)/2:=by omega
  have b1:=Int.mul_nonneg a1 b0
  have b2:=Int.mul_le_mul_of_nonneg_right a2 b0
  rw[Int.sub_mul,Int.one_mul,Int.mul_comm ((h+1)/2)] at b2
  rw[hb _ (by omega) (by omega)]
  omega
theorem jgs{f:Nat→List Int}(hf: ∀m,(f m).length=64){W H X Y:Int}{pl bl qt quant:List Int}{q A n:Nat}(hb:bl=Dh f n)(hq: ∀k:Nat,k<64→Bg qt k=Bg quant (64*q+k))(h1: ∀k:Nat,k<64→1≤Bg quant (64*(q:Nat)+k))
    (hX:X.toNat≤A)(hY:Y.toNat*A≤n)(hP: ∀c r:Nat,c<X.toNat→r<Y.toNat→Bn 0 255 (Fy (8*(c:Int)) (8*(r:Int)) W H pl)=true)
    (hv: ∀c r:Nat,c<X.toNat→r<Y.toNat→f (r*A+c)=Eu q quant (Dc (Fy (8*(c:Int)) (8*(r:Int)) W H pl)) 0 64):Fp W H X Y pl bl qt (A:Nat)=true:=by
  unfold Fp
  rw[List.all_eq_true]
  intro m hm
  rw[List.mem_range] at hm
  unfold jl8
  rw[List.all_eq_true]
  intro k hk
  rw[List.mem_range] at hk
  rw[Int.toNat_natCast]
  generalize hXn:X.toNat=x at*
  generalize hYn:Y.toNat=y at*
  have hx:0<x:=by
    rcases Nat.eq_zero_or_pos x with h|h
    · rw[h,Nat.zero_mul] at hm;omega
    · exact h
  have c1:m % x<x:=Nat.mod_lt _ hx
  have c2:m/x<y:=by rw[Nat.div_lt_iff_lt_mul hx,Nat.mul_comm];exact hm
  have c3:m/x*A+m % x<n:=by
    have g:(m/x+1)*A≤y*A:=Nat.mul_le_mul_right _ (by omega)
    rw[Nat.add_mul,Nat.one_mul] at g
    omega
  have e:=Vz hf c3
  have e2:Bg bl (64*((m/x*A+m % x:Nat):Int)+(k:Int))=Bg (f (m/x*A+m % x)) (k:Int):=by
    rw[←e,hb]
    unfold Cs
    rw[at8_cutN (by omega) (by omega)]
    congr 1
    try omega
  rw[e2,hv _ _ c1 c2,hq k hk]
  have e3:Bg (Eu q quant (Dc (Fy (8*((m % x:Nat):Int)) (8*((m/x:Nat):Int)) W H pl)) 0 64) (k:Int)=coef q quant (Dc (Fy (8*((m % x:Nat):Int)) (8*((m/x:Nat):Int)) W H pl)) k:=jmb hk
  rw[e3]
  exact jib Fw (De (hP _ _ c1 c2)) (k:=(k:Int)) (by omega) (by omega) (h1 k hk)
theorem Zs{f:Nat→List Int}(hf: ∀j,Bn (-1024) 1023 (f j)=true): ∀n,Bn (-1024) 1023 (Dh f n)=true
  | 0=>rfl
  | n+1=>Lx (Zs hf n) (hf n)
theorem Pe{l:List Int}(h:Ws l=true):Bn (-1024) 1023 l=true:=by
  unfold Bn
  rw[List.all_eq_true]
  intro x hx
  have:=jny h x hx
  simp only[Bool.and_eq_true,decide_eq_true_eq];exact this
theorem qfu{w h:Int}{P quant:List Int}{X m:Nat}(I:Tc w h P quant)(j:Nat):Bn (-1024) 1023 (F0 w h P quant X m j)=true:=by
  unfold F0
  split
  · exact Pe (Wg I.q (I.y (Int.mul_nonneg (by omega) (Int.natCast_nonneg _)) (Int.mul_nonneg (by omega) (Int.natCast_nonneg _))) (by omega))
  · exact Pe jbr
theorem j7t{w h off:Int}{P quant:List Int}{X m:Nat}(I:Tc w h P quant)(ho:off=Ov w h∨off=Po w h)(j:Nat):Bn (-1024) 1023 (F1 w h P quant X off m j)=true:=by
  unfold F1
  split
  · rcases ho with rfl|rfl
    · exact Pe (Wg I.q (I.cb (Int.mul_nonneg (by omega) (Int.natCast_nonneg _)) (Int.mul_nonneg (by omega) (Int.natCast_nonneg _))) (by omega))
    · exact Pe (Wg I.q (I.cr (Int.mul_nonneg (by omega) (Int.natCast_nonneg _)) (Int.mul_nonneg (by omega) (Int.natCast_nonneg _))) (by omega))
  · exact Pe jbr
theorem jnu{w:Int}(h:1≤w):((xU w:Nat):Int)=(w+15)/16:=by unfold xU xN;omega
theorem jov{q:Int}{s k:Nat}(hk:k<64)(hs:s≤64):Bg (Cs (Ci q) s 64) k=Bg (Ci q) (s+k):=by
  unfold Cs
  exact at8_cutN (by omega) (by omega)
structure ql3(w h:Int)(a b c D:List Int):Prop where
  n:Gt D=(w+15)/16*((h+15)/16)
  l0:(((Kl D).b0).length:Int)=64*(4*Gt D)
  l1:(((Kl D).b1).length:Int)=64*Gt D
  l2:(((Kl D).b2).length:Int)=64*Gt D
  r0:Bn (-1024) 1023 (Kl D).b0=true
  r1:Bn (-1024) 1023 (Kl D).b1=true
  r2:Bn (-1024) 1023 (Kl D).b2=true
  q0:Bn 1 255 (Cs D 7 64)=true
  q1:Bn 1 255 (Cs D 72 64)=true
  e0:(Cs D 7 64).length=64
  e1:(Cs D 72 64).length=64
  k0: ∀{X Y:Int},X≤(w+7)/8→Y≤(h+7)/8→Fp w h X Y a (Kl D).b0 (Cs D 7 64) ((w+15)/16*2)=true
  k1: ∀{X Y:Int},X≤((w+1)/2+7)/8→Y≤((h+1)/2+7)/8→Fp ((w+1)/2) ((h+1)/2) X Y b (Kl D).b1 (Cs D 72 64) ((w+15)/16)=true
  k2: ∀{X Y:Int},X≤((w+1)/2+7)/8→Y≤((h+1)/2+7)/8→Fp ((w+1)/2) ((h+1)/2) X Y c (Kl D).b2 (Cs D 72 64) ((w+15)/16)=true
theorem qeu{q w h off:Int}{P pl bl qt:List Int}(hw:1≤w)(hh:1≤h)(I:Tc w h P (Ci q))(hb:bl=Dh (F1 w h P (Ci q) (xU w) off (xU w*xU h)) (xU w*xU h))(hq:qt=Cs (Ci q) 64 64)
    (hp: ∀k:Int,0≤k→k<(w+1)/2*((h+1)/2)→Bg P (off+k)=Bg pl k)(hl:(pl.length:Int)=(w+1)/2*((h+1)/2))(hr:Bn 0 255 pl=true){X Y:Int}(hX:X≤((w+1)/2+7)/8)(hY:Y≤((h+1)/2+7)/8):
    Fp ((w+1)/2) ((h+1)/2) X Y pl bl qt ((w+15)/16)=true:=by
  rw[←jnu hw]
  have e1:=jnu hw
  have e2:=jnu hh
  have x1:X.toNat≤xU w:=by omega
  have y1:Y.toNat≤xU h:=by omega
  refine jgs (f:=F1 w h P (Ci q) (xU w) off (xU w*xU h)) (q:=1) (quant:=Ci q) (n:=xU w*xU h) (Yy _ _) hb (fun k hk=> ?_) (fun k hk=> ?_) x1 ?_ (fun c r hc hr2=> ?_) (fun c r hc hr2=> ?_)
  · rw[hq,jov hk (by omega)];rfl
  · have:=Ct I.q.q (n:=64*((1:Nat):Int)+(k:Int)) (by omega) (by rw[I.q.ql];omega)
    exact this.1
  · rw[Nat.mul_comm (xU w)]
    exact Nat.mul_le_mul_right _ y1
  · exact Zg (by omega) (by omega) (by omega) (by omega) hl hr
  · obtain ⟨d1,d2⟩:=jo3 (X:=xU w) (R:=r) (K:=c) (by omega)
    have g:(r+1)*xU w≤xU h*xU w:=Nat.mul_le_mul_right _ (by omega)
    rw[Nat.add_mul,Nat.one_mul,Nat.mul_comm (xU h)] at g
    unfold F1
    rw[if_pos (by omega),d1,d2]
    unfold cfC
    rw[j38 hw hh hp]
theorem ql9{q w h:Int}{a b c D:List Int}(F:jgl q w h (a++(b++c)) D)(I:Tc w h (a++(b++c)) (Ci q))(ha:(a.length:Int)=w*h)(hb:(b.length:Int)=(w+1)/2*((h+1)/2))(hc:(c.length:Int)=(w+1)/2*((h+1)/2))
    (pa:Bn 0 255 a=true)(pb:Bn 0 255 b=true)(pc:Bn 0 255 c=true):ql3 w h a b c D:=by
  have hw:=I.w1
  have hh:=I.h1
  have e1:=jnu hw
  have e2:=jnu hh
  have en:Gt D=((xU w*xU h:Nat):Int):=by
    unfold Gt nmC
    rw[F.wide,F.high,Int.natCast_mul,e1,e2];rfl
  have qin: ∀s,Bn 1 255 (Cs (Ci q) s 64)=true:=by
    intro s
    unfold Bn
    rw[List.all_eq_true]
    intro x hx
    have:=De I.q.q x (List.mem_of_mem_drop (List.mem_of_mem_take hx))
    simp only[Bool.and_eq_true,decide_eq_true_eq];exact this
  refine ⟨by rw[en,Int.natCast_mul,e1,e2],?_,?_,?_,?_,?_,?_,by rw[F.q0];exact qin _,by rw[F.q1];exact qin _,by rw[F.q0];exact (Hs q).1,by rw[F.q1];exact (Hs q).2,fun {X Y} hX hY=> ?_,fun {X Y} hX hY=> ?_,fun {X Y} hX hY=> ?_⟩
  · rw[F.b0,Wa (jjr _),en];omega
  · rw[F.b1,Wa (Yy _ _),en];omega
  · rw[F.b2,Wa (Yy _ _),en];omega
  · rw[F.b0];exact Zs (qfu I) _
  · rw[F.b1];exact Zs (j7t I (Or.inl rfl)) _
  · rw[F.b2];exact Zs (j7t I (Or.inr rfl)) _
  · have eA:(w+15)/16*2=((2*xU w:Nat):Int):=by omega
    rw[eA]
    have x1:X.toNat≤2*xU w:=by omega
    have y1:Y.toNat≤2*xU h:=by omega
    refine jgs (f:=F0 w h (a++(b++c)) (Ci q) (xU w) (xU w*xU h)) (q:=0) (quant:=Ci q) (n:=4*(xU w*xU h)) (jjr _) F.b0 (fun k hk=> ?_) (fun k hk=> ?_) x1 ?_ (fun c r hc hr2=> ?_) (fun c r hc hr2=> ?_)
    · rw[F.q0,jov hk (by omega)];rfl
    · have:=Ct I.q.q (n:=64*((0:Nat):Int)+(k:Int)) (by omega) (by rw[I.q.ql];omega)
      exact this.1
    · have g:Y.toNat*(2*xU w)≤2*xU h*(2*xU w):=Nat.mul_le_mul_right _ y1
      rw[show 2*xU h*(2*xU w)=4*(xU w*xU h) by rw[Nat.mul_assoc,Nat.mul_left_comm (xU h) 2,←Nat.mul_assoc 2 2,Nat.mul_comm (xU h)]] at g
      exact g
    · exact Zg (by omega) (by omega) hw hh ha pa
    · have g:(r/2+1)*xU w≤xU h*xU w:=Nat.mul_le_mul_right _ (by omega)
      rw[Nat.add_mul,Nat.one_mul,Nat.mul_comm (xU h)] at g
      obtain ⟨d1,d2⟩:=jo3 (X:=2*xU w) (R:=r) (K:=c) (by omega)
      unfold F0
      rw[jfb (by omega),if_pos (by omega),d1,d2]
      unfold cfY
      rw[jx7 (by omega) (by omega) hw hh ha]
  · refine qeu hw hh I F.b1 F.q1 (fun k h0 h1=> ?_) hb pb hX hY
    unfold Ov
    rw[←ha,Mi h0,Up h0 (by omega)]
  · refine qeu hw hh I F.b2 F.q1 (fun k h0 h1=> ?_) hc pc hX hY
    unfold Po
    rw[←ha,←hb,Int.add_assoc,Mi (by omega),Mi h0]
theorem rspOd1_ok: ∀f s,qmi true f=some s→Dw Tryz.prog Z f s:=by
  intro f s h
  unfold qmi at h
  split at h
  · cases h;exact Ce qcu
  · cases h;exact Ce j39
  · cases h
    intro ρ w0 w h args r he hn hw hh
    dsimp only at he
    split at he
    · exact Ce qa4 ρ w0 w h args r he hn hw hh
    · split at he
      · exact Ce qb7 ρ w0 w h args r he hn hw hh
      · exact Ce qa5 ρ w0 w h args r he hn hw hh
  · cases h
theorem mul4(d x:Int):d*2*(x*2)=4*(d*x):=by rw[Int.mul_comm d 2,Int.mul_comm x 2,Int.mul_assoc,Int.mul_left_comm d 2 x];omega
theorem zc541(D:List Int):Z.fa 541 0 0 0 0 D [] [] []=(Kl D).b0:=id rfl
theorem zc542(D:List Int):Z.fa 542 0 0 0 0 D [] [] []=(Kl D).b1:=id rfl
theorem zc543(D:List Int):Z.fa 543 0 0 0 0 D [] [] []=(Kl D).b2:=id rfl
theorem td_all{w:Int}(h:1≤w):(w+15).tdiv 16=(w+15)/16∧(w+1).tdiv 2=(w+1)/2∧w.tdiv 8=w/8∧(w+7).tdiv 8=(w+7)/8∧w.tdiv 2=w/2∧(w/2).tdiv 8=w/2/8∧((w+1)/2+7).tdiv 8=((w+1)/2+7)/8:=
  ⟨Int.tdiv_eq_ediv_of_nonneg (by omega),Int.tdiv_eq_ediv_of_nonneg (by omega),Int.tdiv_eq_ediv_of_nonneg (by omega),Int.tdiv_eq_ediv_of_nonneg (by omega),Int.tdiv_eq_ediv_of_nonneg (by omega),Int.tdiv_eq_ediv_of_nonneg (by omega),Int.tdiv_eq_ediv_of_nonneg (by omega)⟩
def vc8:VC:=
 let t0:T:=.lit 0
 let t1:T:=.lit (-9223372036854775808)
 let t2:T:=.lit 9223372036854775807
 let t3:T:=.tdiv (.add (.iv 21) (.lit 1)) (.lit 2)
 let t4:T:=.tdiv (.add (.iv 22) (.lit 1)) (.lit 2)
 let t5:T:=.mul t3 t4
 let t6:T:=.alit []
 let t7:T:=.fi 439 t0 t0 t0 t0 (.av 1100) t6 t6 t6
 let t8:T:=.fi 431 t0 t0 t0 t0 (.av 1100) t6 t6 t6
 let t9:T:=.fi 432 t0 t0 t0 t0 (.av 1100) t6 t6 t6
 let t11:T:=.tdiv (.add t8 (.lit 15)) (.lit 16)
 let t12:T:=.mul t11 (.lit 2)
 let t13:T:=.tdiv (.add t9 (.lit 15)) (.lit 16)
 let t14:T:=.fa 541 t0 t0 t0 t0 (.av 1100) t6 t6 t6
 let t15:T:=.fa 434 t0 t0 t0 t0 (.av 1100) t6 t6 t6
 let t16:T:=.tdiv (.add t8 (.lit 1)) (.lit 2)
 let t17:T:=.tdiv (.add t9 (.lit 1)) (.lit 2)
 let t20:T:=.fa 542 t0 t0 t0 t0 (.av 1100) t6 t6 t6
 let t21:T:=.fa 438 t0 t0 t0 t0 (.av 1100) t6 t6 t6
 let t22:T:=.tdiv (.add t16 (.lit 7)) (.lit 8)
 let t23:T:=.tdiv (.add t17 (.lit 7)) (.lit 8)
 let t24:T:=.set (.alit [0]) t0 t11
 let t25:T:=.fa 543 t0 t0 t0 t0 (.av 1100) t6 t6 t6
 (.need [(.le t0 (.iv 20))] (.cond (.lt (.lit 2147483647) (.iv 20)) .done (.need [(.le t0 (.iv 24))] (.cond (.lt (.lit 2147483647) (.iv 24)) .done (.need [(.le t0 (.iv 27))] (.cond (.lt (.lit 2147483647) (.iv 27)) .done (.cond (.le (.lit 1) (.iv 21)) (.cond (.le (.lit 1) (.iv 22)) (.cond (.le (.iv 21) (.lit 65535)) (.cond (.le (.iv 22) (.lit 65535)) (.need [(.le t1 (.mul (.iv 21) (.iv 22))),(.le (.mul (.iv 21) (.iv 22)) t2)] (.cond (.le (.mul (.iv 21) (.iv 22)) (.lit 65536)) (.cond (.le (.lit 1) (.iv 30)) (.cond (.le (.iv 30) (.lit 100)) (.cond (.not (.eq (.iv 20) (.mul (.iv 21) (.iv 22)))) .done (.need [(.le t1 (.add (.iv 21) (.lit 1))),(.le (.add (.iv 21) (.lit 1)) t2)] (.need [(.le t1 t3),(.le t3 t2)] (.need [(.le t1 (.add (.iv 22) (.lit 1))),(.le (.add (.iv 22) (.lit 1)) t2)] (.need [(.le t1 t4),(.le t4 t2)] (.need [(.le t1 t5),(.le t5 t2)] (.cond (.eq (.iv 24) t5) (.cond (.not (.eq (.iv 27) t5)) .done (.need [(.eq (.iv 27) (.iv 24)),(.eq (.len (.av 7)) (.iv 24))] (.any 1000 0 [(.eq (.iv 1120) (.len (.av 1100))),(.le (.iv 1120) (.iv 1121)),(.aeq (.av 1100) (.fa 512 (.iv 30) (.iv 21) (.iv 22) t0 (.splice (.av 5) (.len (.av 5)) (.splice (.av 6) (.len (.av 6)) (.av 7))) t6 t6 t6)),(.le (.len (.av 1100)) (.lit 1000000000000))] (.need [(.eq (.len (.av 1100)) (.iv 1120)),(.le (.iv 1120) (.lit 1000000000000)),(.fb 2 t0 (.lit 255) t0 t0 (.av 1100) t6 t6 t6),(.fb 540 t0 t0 t0 t0 (.av 1100) t6 t6 t6)] (.any 1400 0 [(.eq (.iv 1520) (.mul (.lit 4) t7)),(.eq (.iv 1521) t7),(.eq (.iv 1522) t7)] (.cond (.not (.eq t8 (.iv 21))) (.need [.ff] .done) (.cond (.not (.eq t9 (.iv 22))) (.need [.ff] .done) (.need [(.le (.lit 1) t8),(.le t8 (.lit 65535)),(.le (.lit 1) t9),(.le t9 (.lit 65535)),(.eq (.len (.av 5)) (.mul t8 t9)),(.le (.mul t8 t9) (.lit 65536)),(.eq (.iv 21) t8),(.eq (.iv 22) t9),(.eq (.iv 1520) (.mul t12 (.mul t13 (.lit 2)))),(.eq (.len t14) (.mul (.lit 64) (.iv 1520))),(.eq (.len t15) (.lit 64)),(.fb 2 (.lit 1) (.lit 255) t0 t0 t15 t6 t6 t6),(.fb 2 (.lit (-1024)) (.lit 1023) t0 t0 t14 t6 t6 t6),(.fb 610 t8 t9 (.tdiv (.add t8 (.lit 7)) (.lit 8)) (.tdiv (.add t9 (.lit 7)) (.lit 8)) (.av 5) t14 t15 (.set (.alit [0]) t0 t12))] (.any 1800 0 [] (.need [(.eq (.len (.av 6)) (.mul t16 t17)),(.eq (.iv 1521) (.mul t11 t13)),(.eq (.len t20) (.mul (.lit 64) (.iv 1521))),(.eq (.len t21) (.lit 64)),(.fb 2 (.lit 1) (.lit 255) t0 t0 t21 t6 t6 t6),(.fb 2 (.lit (-1024)) (.lit 1023) t0 t0 t20 t6 t6 t6),(.fb 610 t16 t17 t22 t23 (.av 6) t20 t21 t24)] (.any 2200 0 [] (.need [(.eq (.len (.av 7)) (.mul t16 t17)),(.eq (.iv 1522) (.mul t11 t13)),(.eq (.len t25) (.mul (.lit 64) (.iv 1522))),(.fb 2 (.lit (-1024)) (.lit 1023) t0 t0 t25 t6 t6 t6),(.fb 610 t16 t17 t22 t23 (.av 7) t25 t21 t24)] (.any 2600 0 [] .done))))))))))))) .done))))))) .done) .done) .done)) .done) .done) .done) .done)))))))
theorem w8:Dd (Db Tryz.prog Jt (qmi true) ⟨fun _ _=>none,Jd⟩ 100000 8 c7) vc8=true:=by kernel_rfl
set_option maxRecDepth 20000 in
set_option maxHeartbeats 4000000 in
theorem c8_ok:Cf Tryz.prog Z 8 c7:=by
  refine Bf Cq rspOd1_ok w8 fun ρ h=> ?_
  simp only[c7,jva,cRo,j1h,Vd,roE,Zd,cA,fA,z0,Jl,Jk,Du,Bi,Di,List.flatMap_cons,List.flatMap_nil,List.append_nil,List.append_assoc,List.cons_append,List.nil_append,and_true,↓qA,qB,and_true,implies_true,T.I,T.A,T.B,VC.sem,Tm] at h
  obtain ⟨h1,h2,h3,h4,h5,h6,h7,h8,h9,h10⟩:=h
  simp only[vc8,↓qA,qB,and_true,implies_true,T.I,T.A,T.B,VC.sem,Tm,jl6,jx5,jnh,jmj,qd4,jhe,j75,zc541,zc542,zc543,Vh]
  have bnd:1≤ρ.i 21→1≤ρ.i 22→ρ.i 21≤65535→ρ.i 22≤65535→0≤ρ.i 21*ρ.i 22∧ρ.i 21*ρ.i 22≤65535*65535∧(ρ.i 21+1).tdiv 2=(ρ.i 21+1)/2∧(ρ.i 22+1).tdiv 2=(ρ.i 22+1)/2∧0≤(ρ.i 21+1)/2*((ρ.i 22+1)/2)∧(ρ.i 21+1)/2*((ρ.i 22+1)/2)≤32768*32768∧(ρ.i 21+1).tdiv 2*(ρ.i 22+1).tdiv 2=(ρ.i 21+1)/2*((ρ.i 22+1)/2)∧(ρ.i 21).tdiv 2=ρ.i 21/2∧(ρ.i 22).tdiv 2=ρ.i 22/2:=
    fun a b c d=>⟨Int.mul_nonneg (by omega) (by omega),Int.mul_le_mul c d (by omega) (by omega),td2 (by omega),td2 (by omega),Int.mul_nonneg (by omega) (by omega),Int.mul_le_mul (by omega) (by omega) (by omega) (by omega),by rw[td2 (by omega),td2 (by omega)],td2 (by omega),td2 (by omega)⟩
  have X:1≤ρ.i 21→1≤ρ.i 22→ρ.i 21≤65535→ρ.i 22≤65535→ρ.i 21*ρ.i 22≤65536→((ρ.a 5).length:Int)=ρ.i 21*ρ.i 22→((ρ.a 6).length:Int)=(ρ.i 21+1).tdiv 2*(ρ.i 22+1).tdiv 2→((ρ.a 7).length:Int)=(ρ.i 21+1).tdiv 2*(ρ.i 22+1).tdiv 2→ρ.a 1100=Ts (ρ.i 30) (ρ.i 21) (ρ.i 22) (ρ.a 5++(ρ.a 6++ρ.a 7))→jgl (ρ.i 30) (ρ.i 21) (ρ.i 22) (ρ.a 5++(ρ.a 6++ρ.a 7)) (ρ.a 1100)∧ql3 (ρ.i 21) (ρ.i 22) (ρ.a 5) (ρ.a 6) (ρ.a 7) (ρ.a 1100):=by
    intro a b c d e f g i j
    obtain ⟨-,-,k1,k2,-⟩:=bnd a b c d
    rw[k1,k2] at g i
    have I:=j8w (q:=ρ.i 30) a b f g i h7 h8 h9
    rw[j]
    have F:=jci I c d e
    exact ⟨F,ql9 F I f g i h7 h8 h9⟩
  (repeat' (first|with_reducible exact True.intro|with_reducible refine And.intro ?_ ?_|intro _))<;>(try omega)
  all_goals (try (have:=bnd (by omega) (by omega) (by omega) (by omega);omega))
  all_goals (obtain ⟨F,A⟩:=X (by omega) (by omega) (by omega) (by omega) (by omega) (by omega) (by omega) (by omega) ‹_›)
  all_goals (first
    | with_reducible exact F.bytes
    | with_reducible exact F.ok
    | with_reducible exact absurd F.wide ‹_›
    | with_reducible exact absurd F.high ‹_›
    | with_reducible exact A.q0
    | with_reducible exact A.q1
    | with_reducible exact A.r0
    | with_reducible exact A.r1
    | with_reducible exact A.r2
    | skip)
  all_goals (
    obtain ⟨a1,a2,a3,a4,a5,a6,a7⟩:=td_all (w:=ρ.i 21) (by omega)
    obtain ⟨b1,b2,b3,b4,b5,b6,b7⟩:=td_all (w:=ρ.i 22) (by omega)
    have fw:=F.wide
    have fh:=F.high
    have l0:=A.l0
    have l1:=A.l1
    have l2:=A.l2
    have e0:=A.e0
    have e1:=A.e1
    have an:=A.n
    simp only[fw,fh,a1,a2,a3,a4,a5,a6,a7,b1,b2,b3,b4,b5,b6,b7,mul4] at*)
  all_goals (try omega)
  · exact A.k0 (by omega) (by omega)
  · exact A.k1 (by omega) (by omega)
  · exact A.k2 (by omega) (by omega)
def vc8n_000:VC:=
 let t0:T:=.lit (-9223372036854775808)
 let t1:T:=.lit 9223372036854775807
 let t2:T:=.tdiv (.add (.iv 21) (.lit 1)) (.lit 2)
 let t3:T:=.tdiv (.add (.iv 22) (.lit 1)) (.lit 2)
 let t4:T:=.mul t2 t3
 (.cond (.le (.lit 1) (.iv 21)) (.cond (.le (.lit 1) (.iv 22)) (.cond (.le (.iv 21) (.lit 65535)) (.cond (.le (.iv 22) (.lit 65535)) (.need [(.le t0 (.mul (.iv 21) (.iv 22))),(.le (.mul (.iv 21) (.iv 22)) t1)] (.cond (.le (.mul (.iv 21) (.iv 22)) (.lit 65536)) (.cond (.le (.lit 1) (.iv 30)) (.cond (.le (.iv 30) (.lit 100)) (.cond (.not (.eq (.lit 0) (.mul (.iv 21) (.iv 22)))) .done (.need [(.le t0 (.add (.iv 21) (.lit 1))),(.le (.add (.iv 21) (.lit 1)) t1)] (.need [(.le t0 t2),(.le t2 t1)] (.need [(.le t0 (.add (.iv 22) (.lit 1))),(.le (.add (.iv 22) (.lit 1)) t1)] (.need [(.le t0 t3),(.le t3 t1)] (.need [(.le t0 t4),(.le t4 t1)] (.cond (.eq (.lit 0) t4) (.fail "stop encode.go:166") .done))))))) .done) .done) .done)) .done) .done) .done) .done)
theorem w8n_000:Dd (Db Tryz.prog Jt Jq ⟨fun _ _=>none,jqk⟩ 100000 8 (c9n false false false)) vc8n_000=true:=by kernel_rfl
theorem c8n_000_ok:Cf Tryz.prog Z 8 (c9n false false false):=by
  refine Bf Cq Cn w8n_000 fun ρ h=> ?_
  simp only[c9n,Tn,roN,slN,z0,Jl,Jk,Du,Bi,Di,List.flatMap_cons,List.flatMap_nil,List.append_nil,List.append_assoc,List.cons_append,List.nil_append,and_true,↓qA,qB,and_true,implies_true,T.I,T.A,T.B,VC.sem,Tm] at h
  have bnd:=jpi (w:=ρ.i 21) (h:=ρ.i 22)
  simp only[vc8n_000,↓qA,qB,and_true,implies_true,T.I,T.A,T.B,VC.sem]
  (repeat' (first|with_reducible exact True.intro|with_reducible refine And.intro ?_ ?_|intro _))<;>(try omega)
  all_goals (try (have:=bnd (by omega) (by omega) (by omega) (by omega);omega))
def vc8n_001:VC:=
 let t0:T:=.lit (-9223372036854775808)
 let t1:T:=.lit 9223372036854775807
 let t2:T:=.tdiv (.add (.iv 21) (.lit 1)) (.lit 2)
 let t3:T:=.tdiv (.add (.iv 22) (.lit 1)) (.lit 2)
 let t4:T:=.mul t2 t3
 (.need [(.le (.lit 0) (.iv 27))] (.cond (.lt (.lit 2147483647) (.iv 27)) .done (.cond (.le (.lit 1) (.iv 21)) (.cond (.le (.lit 1) (.iv 22)) (.cond (.le (.iv 21) (.lit 65535)) (.cond (.le (.iv 22) (.lit 65535)) (.need [(.le t0 (.mul (.iv 21) (.iv 22))),(.le (.mul (.iv 21) (.iv 22)) t1)] (.cond (.le (.mul (.iv 21) (.iv 22)) (.lit 65536)) (.cond (.le (.lit 1) (.iv 30)) (.cond (.le (.iv 30) (.lit 100)) (.cond (.not (.eq (.lit 0) (.mul (.iv 21) (.iv 22)))) .done (.need [(.le t0 (.add (.iv 21) (.lit 1))),(.le (.add (.iv 21) (.lit 1)) t1)] (.need [(.le t0 t2),(.le t2 t1)] (.need [(.le t0 (.add (.iv 22) (.lit 1))),(.le (.add (.iv 22) (.lit 1)) t1)] (.need [(.le t0 t3),(.le t3 t1)] (.need [(.le t0 t4),(.le t4 t1)] (.cond (.eq (.lit 0) t4) (.cond (.not (.eq (.iv 27) t4)) .done (.fail "stop encode.go:166")) .done))))))) .done) .done) .done)) .done) .done) .done) .done)))
theorem w8n_001:Dd (Db Tryz.prog Jt Jq ⟨fun _ _=>none,jqk⟩ 100000 8 (c9n false false true)) vc8n_001=true:=by kernel_rfl
theorem c8n_001_ok:Cf Tryz.prog Z 8 (c9n false false true):=by
  refine Bf Cq Cn w8n_001 fun ρ h=> ?_
  simp only[c9n,Tn,roN,slN,z0,Jl,Jk,Du,Bi,Di,List.flatMap_cons,List.flatMap_nil,List.append_nil,List.append_assoc,List.cons_append,List.nil_append,and_true,↓qA,qB,and_true,implies_true,T.I,T.A,T.B,VC.sem,Tm] at h
  have bnd:=jpi (w:=ρ.i 21) (h:=ρ.i 22)
  simp only[vc8n_001,↓qA,qB,and_true,implies_true,T.I,T.A,T.B,VC.sem]
  (repeat' (first|with_reducible exact True.intro|with_reducible refine And.intro ?_ ?_|intro _))<;>(try omega)
  all_goals (try (have:=bnd (by omega) (by omega) (by omega) (by omega);omega))
def vc8n_010:VC:=
 let t0:T:=.lit (-9223372036854775808)
 let t1:T:=.lit 9223372036854775807
 let t2:T:=.tdiv (.add (.iv 21) (.lit 1)) (.lit 2)
 let t3:T:=.tdiv (.add (.iv 22) (.lit 1)) (.lit 2)
 let t4:T:=.mul t2 t3
 (.need [(.le (.lit 0) (.iv 24))] (.cond (.lt (.lit 2147483647) (.iv 24)) .done (.cond (.le (.lit 1) (.iv 21)) (.cond (.le (.lit 1) (.iv 22)) (.cond (.le (.iv 21) (.lit 65535)) (.cond (.le (.iv 22) (.lit 65535)) (.need [(.le t0 (.mul (.iv 21) (.iv 22))),(.le (.mul (.iv 21) (.iv 22)) t1)] (.cond (.le (.mul (.iv 21) (.iv 22)) (.lit 65536)) (.cond (.le (.lit 1) (.iv 30)) (.cond (.le (.iv 30) (.lit 100)) (.cond (.not (.eq (.lit 0) (.mul (.iv 21) (.iv 22)))) .done (.need [(.le t0 (.add (.iv 21) (.lit 1))),(.le (.add (.iv 21) (.lit 1)) t1)] (.need [(.le t0 t2),(.le t2 t1)] (.need [(.le t0 (.add (.iv 22) (.lit 1))),(.le (.add (.iv 22) (.lit 1)) t1)] (.need [(.le t0 t3),(.le t3 t1)] (.need [(.le t0 t4),(.le t4 t1)] (.cond (.eq (.iv 24) t4) (.cond (.not (.eq (.lit 0) t4)) .done (.fail "stop encode.go:166")) .done))))))) .done) .done) .done)) .done) .done) .done) .done)))
theorem w8n_010:Dd (Db Tryz.prog Jt Jq ⟨fun _ _=>none,jqk⟩ 100000 8 (c9n false true false)) vc8n_010=true:=by kernel_rfl
theorem c8n_010_ok:Cf Tryz.prog Z 8 (c9n false true false):=by
  refine Bf Cq Cn w8n_010 fun ρ h=> ?_
  simp only[c9n,Tn,roN,slN,z0,Jl,Jk,Du,Bi,Di,List.flatMap_cons,List.flatMap_nil,List.append_nil,List.append_assoc,List.cons_append,List.nil_append,and_true,↓qA,qB,and_true,implies_true,T.I,T.A,T.B,VC.sem,Tm] at h
  have bnd:=jpi (w:=ρ.i 21) (h:=ρ.i 22)
  simp only[vc8n_010,↓qA,qB,and_true,implies_true,T.I,T.A,T.B,VC.sem]
  (repeat' (first|with_reducible exact True.intro|with_reducible refine And.intro ?_ ?_|intro _))<;>(try omega)
  all_goals (try (have:=bnd (by omega) (by omega) (by omega) (by omega);omega))
def vc8n_011:VC:=
 let t0:T:=.lit (-9223372036854775808)
 let t1:T:=.lit 9223372036854775807
 let t2:T:=.tdiv (.add (.iv 21) (.lit 1)) (.lit 2)
 let t3:T:=.tdiv (.add (.iv 22) (.lit 1)) (.lit 2)
 let t4:T:=.mul t2 t3
 (.need [(.le (.lit 0) (.iv 24))] (.cond (.lt (.lit 2147483647) (.iv 24)) .done (.need [(.le (.lit 0) (.iv 27))] (.cond (.lt (.lit 2147483647) (.iv 27)) .done (.cond (.le (.lit 1) (.iv 21)) (.cond (.le (.lit 1) (.iv 22)) (.cond (.le (.iv 21) (.lit 65535)) (.cond (.le (.iv 22) (.lit 65535)) (.need [(.le t0 (.mul (.iv 21) (.iv 22))),(.le (.mul (.iv 21) (.iv 22)) t1)] (.cond (.le (.mul (.iv 21) (.iv 22)) (.lit 65536)) (.cond (.le (.lit 1) (.iv 30)) (.cond (.le (.iv 30) (.lit 100)) (.cond (.not (.eq (.lit 0) (.mul (.iv 21) (.iv 22)))) .done (.need [(.le t0 (.add (.iv 21) (.lit 1))),(.le (.add (.iv 21) (.lit 1)) t1)] (.need [(.le t0 t2),(.le t2 t1)] (.need [(.le t0 (.add (.iv 22) (.lit 1))),(.le (.add (.iv 22) (.lit 1)) t1)] (.need [(.le t0 t3),(.le t3 t1)] (.need [(.le t0 t4),(.le t4 t1)] (.cond (.eq (.iv 24) t4) (.cond (.not (.eq (.iv 27) t4)) .done (.fail "stop encode.go:166")) .done))))))) .done) .done) .done)) .done) .done) .done) .done)))))
theorem w8n_011:Dd (Db Tryz.prog Jt Jq ⟨fun _ _=>none,jqk⟩ 100000 8 (c9n false true true)) vc8n_011=true:=by kernel_rfl
theorem c8n_011_ok:Cf Tryz.prog Z 8 (c9n false true true):=by
  refine Bf Cq Cn w8n_011 fun ρ h=> ?_
  simp only[c9n,Tn,roN,slN,z0,Jl,Jk,Du,Bi,Di,List.flatMap_cons,List.flatMap_nil,List.append_nil,List.append_assoc,List.cons_append,List.nil_append,and_true,↓qA,qB,and_true,implies_true,T.I,T.A,T.B,VC.sem,Tm] at h
  have bnd:=jpi (w:=ρ.i 21) (h:=ρ.i 22)
  simp only[vc8n_011,↓qA,qB,and_true,implies_true,T.I,T.A,T.B,VC.sem]
  (repeat' (first|with_reducible exact True.intro|with_reducible refine And.intro ?_ ?_|intro _))<;>(try omega)
  all_goals (try (have:=bnd (by omega) (by omega) (by omega) (by omega);omega))
def vc8n_100:VC:=
 let t0:T:=.lit (-9223372036854775808)
 let t1:T:=.lit 9223372036854775807
 let t2:T:=.tdiv (.add (.iv 21) (.lit 1)) (.lit 2)
 let t3:T:=.tdiv (.add (.iv 22) (.lit 1)) (.lit 2)
 let t4:T:=.mul t2 t3
 (.need [(.le (.lit 0) (.iv 20))] (.cond (.lt (.lit 2147483647) (.iv 20)) .done (.cond (.le (.lit 1) (.iv 21)) (.cond (.le (.lit 1) (.iv 22)) (.cond (.le (.iv 21) (.lit 65535)) (.cond (.le (.iv 22) (.lit 65535)) (.need [(.le t0 (.mul (.iv 21) (.iv 22))),(.le (.mul (.iv 21) (.iv 22)) t1)] (.cond (.le (.mul (.iv 21) (.iv 22)) (.lit 65536)) (.cond (.le (.lit 1) (.iv 30)) (.cond (.le (.iv 30) (.lit 100)) (.cond (.not (.eq (.iv 20) (.mul (.iv 21) (.iv 22)))) .done (.need [(.le t0 (.add (.iv 21) (.lit 1))),(.le (.add (.iv 21) (.lit 1)) t1)] (.need [(.le t0 t2),(.le t2 t1)] (.need [(.le t0 (.add (.iv 22) (.lit 1))),(.le (.add (.iv 22) (.lit 1)) t1)] (.need [(.le t0 t3),(.le t3 t1)] (.need [(.le t0 t4),(.le t4 t1)] (.cond (.eq (.lit 0) t4) (.fail "stop encode.go:166") .done))))))) .done) .done) .done)) .done) .done) .done) .done)))
theorem w8n_100:Dd (Db Tryz.prog Jt Jq ⟨fun _ _=>none,jqk⟩ 100000 8 (c9n true false false)) vc8n_100=true:=by kernel_rfl
theorem c8n_100_ok:Cf Tryz.prog Z 8 (c9n true false false):=by
  refine Bf Cq Cn w8n_100 fun ρ h=> ?_
  simp only[c9n,Tn,roN,slN,z0,Jl,Jk,Du,Bi,Di,List.flatMap_cons,List.flatMap_nil,List.append_nil,List.append_assoc,List.cons_append,List.nil_append,and_true,↓qA,qB,and_true,implies_true,T.I,T.A,T.B,VC.sem,Tm] at h
  have bnd:=jpi (w:=ρ.i 21) (h:=ρ.i 22)
  simp only[vc8n_100,↓qA,qB,and_true,implies_true,T.I,T.A,T.B,VC.sem]
  (repeat' (first|with_reducible exact True.intro|with_reducible refine And.intro ?_ ?_|intro _))<;>(try omega)
  all_goals (try (have:=bnd (by omega) (by omega) (by omega) (by omega);omega))
def vc8n_101:VC:=
 let t0:T:=.lit (-9223372036854775808)
 let t1:T:=.lit 9223372036854775807
 let t2:T:=.tdiv (.add (.iv 21) (.lit 1)) (.lit 2)
 let t3:T:=.tdiv (.add (.iv 22) (.lit 1)) (.lit 2)
 let t4:T:=.mul t2 t3
 (.need [(.le (.lit 0) (.iv 20))] (.cond (.lt (.lit 2147483647) (.iv 20)) .done (.need [(.le (.lit 0) (.iv 27))] (.cond (.lt (.lit 2147483647) (.iv 27)) .done (.cond (.le (.lit 1) (.iv 21)) (.cond (.le (.lit 1) (.iv 22)) (.cond (.le (.iv 21) (.lit 65535)) (.cond (.le (.iv 22) (.lit 65535)) (.need [(.le t0 (.mul (.iv 21) (.iv 22))),(.le (.mul (.iv 21) (.iv 22)) t1)] (.cond (.le (.mul (.iv 21) (.iv 22)) (.lit 65536)) (.cond (.le (.lit 1) (.iv 30)) (.cond (.le (.iv 30) (.lit 100)) (.cond (.not (.eq (.iv 20) (.mul (.iv 21) (.iv 22)))) .done (.need [(.le t0 (.add (.iv 21) (.lit 1))),(.le (.add (.iv 21) (.lit 1)) t1)] (.need [(.le t0 t2),(.le t2 t1)] (.need [(.le t0 (.add (.iv 22) (.lit 1))),(.le (.add (.iv 22) (.lit 1)) t1)] (.need [(.le t0 t3),(.le t3 t1)] (.need [(.le t0 t4),(.le t4 t1)] (.cond (.eq (.lit 0) t4) (.cond (.not (.eq (.iv 27) t4)) .done (.fail "stop encode.go:166")) .done))))))) .done) .done) .done)) .done) .done) .done) .done)))))
theorem w8n_101:Dd (Db Tryz.prog Jt Jq ⟨fun _ _=>none,jqk⟩ 100000 8 (c9n true false true)) vc8n_101=true:=by kernel_rfl
theorem c8n_101_ok:Cf Tryz.prog Z 8 (c9n true false true):=by
  refine Bf Cq Cn w8n_101 fun ρ h=> ?_
  simp only[c9n,Tn,roN,slN,z0,Jl,Jk,Du,Bi,Di,List.flatMap_cons,List.flatMap_nil,List.append_nil,List.append_assoc,List.cons_append,List.nil_append,and_true,↓qA,qB,and_true,implies_true,T.I,T.A,T.B,VC.sem,Tm] at h
  have bnd:=jpi (w:=ρ.i 21) (h:=ρ.i 22)
  simp only[vc8n_101,↓qA,qB,and_true,implies_true,T.I,T.A,T.B,VC.sem]
  (repeat' (first|with_reducible exact True.intro|with_reducible refine And.intro ?_ ?_|intro _))<;>(try omega)
  all_goals (try (have:=bnd (by omega) (by omega) (by omega) (by omega);omega))
def vc8n_110:VC:=
 let t0:T:=.lit (-9223372036854775808)
 let t1:T:=.lit 9223372036854775807
 let t2:T:=.tdiv (.add (.iv 21) (.lit 1)) (.lit 2)
 let t3:T:=.tdiv (.add (.iv 22) (.lit 1)) (.lit 2)
 let t4:T:=.mul t2 t3
 (.need [(.le (.lit 0) (.iv 20))] (.cond (.lt (.lit 2147483647) (.iv 20)) .done (.need [(.le (.lit 0) (.iv 24))] (.cond (.lt (.lit 2147483647) (.iv 24)) .done (.cond (.le (.lit 1) (.iv 21)) (.cond (.le (.lit 1) (.iv 22)) (.cond (.le (.iv 21) (.lit 65535)) (.cond (.le (.iv 22) (.lit 65535)) (.need [(.le t0 (.mul (.iv 21) (.iv 22))),(.le (.mul (.iv 21) (.iv 22)) t1)] (.cond (.le (.mul (.iv 21) (.iv 22)) (.lit 65536)) (.cond (.le (.lit 1) (.iv 30)) (.cond (.le (.iv 30) (.lit 100)) (.cond (.not (.eq (.iv 20) (.mul (.iv 21) (.iv 22)))) .done (.need [(.le t0 (.add (.iv 21) (.lit 1))),(.le (.add (.iv 21) (.lit 1)) t1)] (.need [(.le t0 t2),(.le t2 t1)] (.need [(.le t0 (.add (.iv 22) (.lit 1))),(.le (.add (.iv 22) (.lit 1)) t1)] (.need [(.le t0 t3),(.le t3 t1)] (.need [(.le t0 t4),(.le t4 t1)] (.cond (.eq (.iv 24) t4) (.cond (.not (.eq (.lit 0) t4)) .done (.fail "stop encode.go:166")) .done))))))) .done) .done) .done)) .done) .done) .done) .done)))))
theorem w8n_110:Dd (Db Tryz.prog Jt Jq ⟨fun _ _=>none,jqk⟩ 100000 8 (c9n true true false)) vc8n_110=true:=by kernel_rfl
theorem c8n_110_ok:Cf Tryz.prog Z 8 (c9n true true false):=by
  refine Bf Cq Cn w8n_110 fun ρ h=> ?_
  simp only[c9n,Tn,roN,slN,z0,Jl,Jk,Du,Bi,Di,List.flatMap_cons,List.flatMap_nil,List.append_nil,List.append_assoc,List.cons_append,List.nil_append,and_true,↓qA,qB,and_true,implies_true,T.I,T.A,T.B,VC.sem,Tm] at h
  have bnd:=jpi (w:=ρ.i 21) (h:=ρ.i 22)
  simp only[vc8n_110,↓qA,qB,and_true,implies_true,T.I,T.A,T.B,VC.sem]
  (repeat' (first|with_reducible exact True.intro|with_reducible refine And.intro ?_ ?_|intro _))<;>(try omega)
  all_goals (try (have:=bnd (by omega) (by omega) (by omega) (by omega);omega))
section
open Go.ChangeShapes Go.WideShapes Go.ChangeAt Go.RowKit
open Go.ChangeMaps (open_string shut_string)
set_option linter.unusedVariables false
theorem qb2(ρ:Et)(h:Dx Z ρ (preSl true true true)):Dx Z ρ c7.pre:=by
  simp only[preSl,Tn,Co,Ag,As,and_true] at h
  simp only[c7,jva,Co,Ag,As,and_true]
  exact ⟨⟨⟨⟨h.1.1,h.2.1.1,h.2.2.1.1,h.1.2.1,h.2.1.2.1,h.2.2.1.2.1,h.1.2.2,h.2.1.2.2,h.2.2.1.2.2⟩,h.2.2.2.1.1⟩,h.2.2.2.1.2⟩,h.2.2.2.2⟩
theorem je8{w:World}(hg:Ln w)(ρ:Et): ∀y∈Vd++Zd,y.1.blk ρ w.heap.size<w.heap.size∧ ∀(j:Nat) v,(y.2.2.A Z ρ)[j]? =some v→w.cell? ⟨y.1.blk ρ w.heap.size,y.1.off ρ+j,none⟩=some (.int y.2.1 v):=by
  intro y hy
  rcases List.mem_append.1 hy with hy|hy
  · exact jfr hg.1 ρ y hy
  obtain ⟨_,g4,g5⟩:=hg
  have l0:=Hb (g4 0 370728 (by kernel_rfl))
  have l1:=Hb (g5 0 0 (by kernel_rfl))
  simp only[Zd,List.mem_cons,List.not_mem_nil,or_false] at hy
  rcases hy with rfl|rfl
  · refine ⟨l0,fun j v hv=> ?_⟩
    have:=g4 j v hv
    rw[show (Cl.off ρ (.glob 0))+j=j from Nat.zero_add j]
    exact this
  · refine ⟨l1,fun j v hv=> ?_⟩
    have:=g5 j v hv
    rw[show (Cl.off ρ (.glob 1))+j=j from Nat.zero_add j]
    exact this
theorem qey{s0 s1 s2:jd4}{a1 a2 a3:Int}{w:World}(hg:Ln w)(o0:Yp w s0)(o1:Yp w s1)(o2:Yp w s2)(w1:(Lit.int .i64 a1).wf=true)(w2:(Lit.int .i64 a2).wf=true)(w3:(Lit.int .i64 a3).wf=true):
    Calls Tryz.prog 8 #[s0.val,s1.val,s2.val,.int .i64 a1,.int .i64 a2,.int .i64 a3] w fun e w'=>e=.returned (.bool true)∧Below w.heap.size w w':=by
  obtain ⟨b0,k0,f0,n0,c0,l0⟩:=s0
  obtain ⟨b1,k1,f1,n1,c1,l1⟩:=s1
  obtain ⟨b2,k2,f2,n2,c2,l2⟩:=s2
  have no: ∀ρ:Et,∀y∈([]:List (Cl×IntKind×T)),y.1.blk ρ w.heap.size<w.heap.size∧ ∀(j:Nat) v,(y.2.2.A Z ρ)[j]? =some v→w.cell? ⟨y.1.blk ρ w.heap.size,y.1.off ρ+j,none⟩=some (.int y.2.1 v):=fun _ _ hy=>by cases hy
  cases b0<;>cases b1<;>cases b2
  · exact Ep [] _ _ _ c8n_000_ok rfl rfl (fun _ h=>h) rfl rfl no o0 o1 o2 w1 w2 w3
  · exact Ep [] _ _ _ c8n_001_ok rfl rfl (fun _ h=>h) rfl rfl no o0 o1 o2 w1 w2 w3
  · exact Ep [] _ _ _ c8n_010_ok rfl rfl (fun _ h=>h) rfl rfl no o0 o1 o2 w1 w2 w3
  · exact Ep [] _ _ _ c8n_011_ok rfl rfl (fun _ h=>h) rfl rfl no o0 o1 o2 w1 w2 w3
  · exact Ep [] _ _ _ c8n_100_ok rfl rfl (fun _ h=>h) rfl rfl no o0 o1 o2 w1 w2 w3
  · exact Ep [] _ _ _ c8n_101_ok rfl rfl (fun _ h=>h) rfl rfl no o0 o1 o2 w1 w2 w3
  · exact Ep [] _ _ _ c8n_110_ok rfl rfl (fun _ h=>h) rfl rfl no o0 o1 o2 w1 w2 w3
  · exact Ep (Vd++Zd) _ _ _ c8_ok rfl rfl qb2 rfl rfl (je8 hg) o0 o1 o2 w1 w2 w3
theorem lvA(os:Os)(args:Array Value):World.variablesRefB Tryz.prog ((Eg os).forCall (fun _ _=>0) ⟨#[],args,[]⟩)=true:=by kernel_rfl
theorem lvB(os:Os)(args:Array Value):(((Eg os).forCall (fun _ _=>0) ⟨#[],args,[]⟩).heap.toList.drop Tryz.prog.globals.size).take ((begin Tryz.prog (fun _ _=>0) default).world.heap.size-Tryz.prog.globals.size)=(begin Tryz.prog (fun _ _=>0) default).world.heap.toList.drop Tryz.prog.globals.size:=by kernel_rfl
theorem Yw:(Rows.fnGrayCoefficientsRow.laid.filter fun x=>x.2.handleName?.isNone)=We:=by kernel_rfl
theorem Ra{W:World}(h:laidMetH Tryz.prog Rows.fnGrayCoefficientsRow.laid W):Ln W:=by
  have h':laidMet Tryz.prog (Rows.fnGrayCoefficientsRow.laid.filter fun x=>x.2.handleName?.isNone) W∧handlesMet Tryz.prog (Rows.fnGrayCoefficientsRow.laid.filter fun x=>x.2.handleName?.isSome) W:=h
  exact Qh (Yw▸h'.1)
theorem qkg(os:Os):Input.okWideB Tryz.prog ((Eg os).forCall (fun _ _=>0) ⟨#[],#[.slice none 0 0,.slice none 0 0,.slice none 0 0,.int .i64 0,.int .i64 0,.int .i64 0],[]⟩) 8 ⟨#[],#[.slice none 0 0,.slice none 0 0,.slice none 0 0,.int .i64 0,.int .i64 0,.int .i64 0],[]⟩=true:=by kernel_rfl
set_option maxRecDepth 100000 in
theorem Md{W:World}{base:Nat}{a:Option Addr}{len cap:Nat}(h:Value.okWide Tryz.prog W .any base 22 (.slice a len cap)): ∀x,a=some x→x.spot=none∧x.block<W.heap.size:=by
  intro x hx
  subst hx
  unfold Value.okWide Cell.okWide Cell.ok at h
  rw[Tryz.underlying22] at h
  obtain ⟨_,_,_,h1,row,cells,h2,_⟩:=h
  refine ⟨h1,?_⟩
  unfold World.shape? at h2
  rcases Nat.lt_or_ge x.block W.heap.size with hl|hl
  · exact hl
  · rw[Array.getElem?_eq_none hl] at h2;simp at h2
set_option maxRecDepth 100000 in
theorem j4e(os:Os)(started:os.Started)(H:Type)(enc:TypeId×Value→H):
    ReturnsInHanded {} Tryz.checked os 8 .any (fun w args=>(Rows.fnColorEdgesSpec.pre enc Tryz.prog Tryz.f8 [] false w args∧laidMetH Tryz.prog Rows.fnColorEdgesRow.laid w)∧sizedMet enc Tryz.prog Tryz.f8 (OpenSpec.ofChange Rows.fnColorEdgesSpec) false w args)
      (Rows.fnColorEdgesSpec.post enc Tryz.prog Tryz.f8 false true false false):=by
  refine returnsInHanded_of_change_and (C:=Tryz.checked) (X:=fun w _=>laidMetH Tryz.prog Rows.fnColorEdgesRow.laid w) (fun _ _ _ hh h=>h.of_heap hh) own started (by kernel_rfl) Tryz.func8
    (ChangeSpec.witness_shaped (enc:=enc) (C:=Tryz.checked) (os:=os) (X:=fun w _=>laidMetH Tryz.prog Rows.fnColorEdgesRow.laid w) false (Eg os) #[.slice none 0 0,.slice none 0 0,.slice none 0 0,.int .i64 0,.int .i64 0,.int .i64 0] 8 rfl (World.shaped_of_RefB (lvA os _) (lvB os _)) (qkg os) (by as_aux_lemma=>kernel_rfl) (by as_aux_lemma=>kernel_rfl) (jjh os _)) ?_
  intro W base args ds gs before hval0 hW _ _ hL _
  have hval: ∀(j:Nat) t v,Tryz.f8.params[j]? =some t→args[j]? =some v→Value.okWide Tryz.prog W .any base t v:=hval0
  have hW':=hW
  obtain ⟨p,q,hA0,hV,rfl,hfz,hnd⟩:=hW
  have hA:DataW.TrodAll enc Tryz.prog W 0 (fun _=>true) true Tryz.f8.params.toList args.toList ds p:=hA0
  rw[Tryz.params8] at hA hval
  obtain ⟨v0,vs0,d0,ds0,p0,q0,hargs,rfl,rfl,h0,r0⟩:=trodAll_cons hA
  obtain ⟨v1,vs1,d1,ds1,p1,q1,rfl,rfl,rfl,h1,r1⟩:=trodAll_cons r0
  obtain ⟨v2,vs2,d2,ds2,p2,q2,rfl,rfl,rfl,h2,r2⟩:=trodAll_cons r1
  obtain ⟨v3,vs3,d3,ds3,p3,q3,rfl,rfl,rfl,h3,r3⟩:=trodAll_cons r2
  obtain ⟨v4,vs4,d4,ds4,p4,q4,rfl,rfl,rfl,h4,r4⟩:=trodAll_cons r3
  obtain ⟨v5,vs5,d5,ds5,p5,q5,rfl,rfl,rfl,h5,r5⟩:=trodAll_cons r4
  obtain ⟨rfl,rfl,rfl⟩:=trodAll_nil r5
  obtain rfl:args= #[v0,v1,v2,v3,v4,v5]:=by cases args;simp_all
  obtain ⟨rfl,rfl⟩:=trodVars_none hV
  obtain ⟨a0,len0,cap0,rfl⟩:=okWide_slice Tryz.underlying22 (hval 0 22 v0 rfl rfl)
  have hsp0:=Md (hval 0 22 _ rfl rfl)
  have k0:=h0
  have lt0: ∀x∈p0,x.block<W.heap.size:=by obtain ⟨m,hm⟩:=k0;exact DataW.trod_lt m _ _ _ hm
  obtain ⟨z0,y0⟩: ∃zs,Ll .u8 W a0 len0 cap0 zs:=by
    obtain ⟨fuel,hf⟩:=h0
    rcases open_ints Tryz.underlying22 Tryz.underlying5 (by kernel_rfl) hf with ⟨hcs,_⟩|⟨x,l,c,zs,hcs,_,hl,hm,hz,_,hcell,hwz⟩
    · simp[Value.cells] at hcs
      obtain ⟨rfl,rfl,rfl⟩:=hcs
      exact ⟨[],.inl ⟨rfl,rfl,rfl,rfl⟩⟩
    · simp[Value.cells] at hcs
      obtain ⟨rfl,rfl,rfl⟩:=hcs
      exact ⟨zs,.inr ⟨_,rfl,hl,hm,by simpa using hz,hcell,hwz⟩⟩
  obtain ⟨s0,o0,e0⟩:=Hn y0 hsp0
  obtain ⟨a1,len1,cap1,rfl⟩:=okWide_slice Tryz.underlying22 (hval 1 22 v1 rfl rfl)
  have hsp1:=Md (hval 1 22 _ rfl rfl)
  have k1:=h1
  have lt1: ∀x∈p1,x.block<W.heap.size:=by obtain ⟨m,hm⟩:=k1;exact DataW.trod_lt m _ _ _ hm
  obtain ⟨z1,y1⟩: ∃zs,Ll .u8 W a1 len1 cap1 zs:=by
    obtain ⟨fuel,hf⟩:=h1
    rcases open_ints Tryz.underlying22 Tryz.underlying5 (by kernel_rfl) hf with ⟨hcs,_⟩|⟨x,l,c,zs,hcs,_,hl,hm,hz,_,hcell,hwz⟩
    · simp[Value.cells] at hcs
      obtain ⟨rfl,rfl,rfl⟩:=hcs
      exact ⟨[],.inl ⟨rfl,rfl,rfl,rfl⟩⟩
    · simp[Value.cells] at hcs
      obtain ⟨rfl,rfl,rfl⟩:=hcs
      exact ⟨zs,.inr ⟨_,rfl,hl,hm,by simpa using hz,hcell,hwz⟩⟩
  obtain ⟨s1,o1,e1⟩:=Hn y1 hsp1
  obtain ⟨a2,len2,cap2,rfl⟩:=okWide_slice Tryz.underlying22 (hval 2 22 v2 rfl rfl)
  have hsp2:=Md (hval 2 22 _ rfl rfl)
  have k2:=h2
  have lt2: ∀x∈p2,x.block<W.heap.size:=by obtain ⟨m,hm⟩:=k2;exact DataW.trod_lt m _ _ _ hm
  obtain ⟨z2,y2⟩: ∃zs,Ll .u8 W a2 len2 cap2 zs:=by
    obtain ⟨fuel,hf⟩:=h2
    rcases open_ints Tryz.underlying22 Tryz.underlying5 (by kernel_rfl) hf with ⟨hcs,_⟩|⟨x,l,c,zs,hcs,_,hl,hm,hz,_,hcell,hwz⟩
    · simp[Value.cells] at hcs
      obtain ⟨rfl,rfl,rfl⟩:=hcs
      exact ⟨[],.inl ⟨rfl,rfl,rfl,rfl⟩⟩
    · simp[Value.cells] at hcs
      obtain ⟨rfl,rfl,rfl⟩:=hcs
      exact ⟨zs,.inr ⟨_,rfl,hl,hm,by simpa using hz,hcell,hwz⟩⟩
  obtain ⟨s2,o2,e2⟩:=Hn y2 hsp2
  obtain ⟨a3,rfl,rfl,rfl,w3⟩:=open_int Tryz.underlying3 (hval 3 3 v3 rfl rfl) h3
  obtain ⟨a4,rfl,rfl,rfl,w4⟩:=open_int Tryz.underlying3 (hval 4 3 v4 rfl rfl) h4
  obtain ⟨a5,rfl,rfl,rfl,w5⟩:=open_int Tryz.underlying3 (hval 5 3 v5 rfl rfl) h5
  clear hA0 hval0
  have hw:=qey (Ra hL) o0 o1 o2 w3 w4 w5
  rw[e0,e1,e2] at hw
  refine hw.mono fun e W' ⟨he,bel⟩=> ?_
  subst he
  exact ⟨_,rfl,_,_,_,[],_,[],hW',trodAll_mk1 (shut_bool Tryz.underlying4 _),(trodAll_cons_mk (Below.trod Hv (by kernel_rfl) (of_decide_eq_true (by kernel_rfl)) k0 bel lt0) (trodAll_cons_mk (Below.trod Hv (by kernel_rfl) (of_decide_eq_true (by kernel_rfl)) k1 bel lt1) (trodAll_cons_mk (Below.trod Hv (by kernel_rfl) (of_decide_eq_true (by kernel_rfl)) k2 bel lt2) (trodAll_cons_mk (shut_int Tryz.underlying3 w3) (trodAll_cons_mk (shut_int Tryz.underlying3 w4) (trodAll_cons_mk (shut_int Tryz.underlying3 w5) trodAll_mk0)))))),rfl,bel.frame _,fun h=>by cases h⟩
theorem qij:Rows.fnColorEdgesRow.holds Tryz.pinned (OpenSpec.ofChange Rows.fnColorEdgesSpec):=
  OpenClaim.holds_of_wide 8 Tryz.f8 rfl rfl rfl rfl rfl rfl rfl ⟨rfl,rfl,rfl,rfl,rfl⟩ rfl rfl rfl rfl rfl (by kernel_rfl) Tryz.func8 (by kernel_rfl)
    (of_decide_eq_true (by kernel_rfl)) (by unfold Func.isWrapper;first|(rw[if_pos (by decide+kernel)];kernel_rfl)|(rw[if_neg (by decide+kernel)];exact ⟨rfl,rfl⟩))
    (fun os started H enc _=>j4e os started H enc)
theorem Yk:Rows.FnColorEdgesSaid:=qij
end
theorem fnColorEdges_card:Rows.FnColorEdgesCardSaid:=
  Claim7.holds_tied_plain_at .later [] [.data,.data,.handle,.data,.data,.data] true (true, "977f8b3d36f08ad5ecfe52211fd5863dd3e3b83d416ebc4a6795e26478be98c3") true
    Yk (fun _ h=>by cases h) (by kernel_rfl) (fun _ h=>by cases h) fnColorEdges_row_tie rfl ⟨rfl,rfl⟩ (by kernel_rfl) rfl
    (fun f fn hf hfn=>by
      obtain rfl:f=8:=Option.some.inj ((show Tryz.prog.funcNamed "jpegcodec/laws.FnColorEdges" =some 8 by kernel_rfl).symm.trans hf)|>.symm
      obtain rfl:fn=Tryz.f8:=(Option.some.inj (Tryz.func8.symm.trans hfn)).symm
      exact ⟨by kernel_rfl,fun j t ht=>by
        rw[Tryz.params8] at ht
        have h3:t=22∨t=3:=by
          rcases j with _|_|_|_|_|_|j
          · exact .inl (by simpa using ht.symm)
          · exact .inl (by simpa using ht.symm)
          · exact .inl (by simpa using ht.symm)
          · exact .inr (by simpa using ht.symm)
          · exact .inr (by simpa using ht.symm)
          · exact .inr (by simpa using ht.symm)
          · simp at ht
        rcases h3 with rfl|rfl
        · exact (show Tryz.prog.wantsStandIn 22=false by kernel_rfl)
        · exact (show Tryz.prog.wantsStandIn 3=false by kernel_rfl)⟩)
    (by kernel_rfl)
#print axioms fnColorEdges_card
end
end Go.Proofs.YtljjbikbfeigdaaGreatDoor
