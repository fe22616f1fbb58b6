/- Part of the proof of FnColorStreamCardSaid: The bits of blocks: what the encoder writes, and that the specification's reader finds it again. -/
import Derived.Test.YtljjbikbfeigdaaGreatDoorCo32
import Derived.Test.YtljjbikbfeigdaaGreatDoorRows
import Derived.Lib.LaidTab
import Derived.MakeChecks
import Derived.Below
set_option linter.all false
namespace Go.Proofs.YtljjbikbfeigdaaGreatDoor
noncomputable section
open Go
def qai(v:Int):List Int:=Gi ((if v<0 then v-1 else v) % 2^(Gb v).toNat) (Gb v).toNat
def hrB(h:Nat)(run v:Int):List Int:=jhm h (run*16+Gb v)++qai v
def zrB(q:Nat)(run:Int):List Int:=if 15<run then jhm (2*q+1) 240++zrB q (run-16) else []
termination_by run.toNat
decreasing_by omega
def acB(q:Nat):List Int→Int→List Int
  | [],run=>if 0<run then jhm (2*q+1) 0 else []
  | c::l,run=>if c=0 then acB q l (run+1) else zrB q run++(hrB (2*q+1) (run % 16) c++acB q l 0)
def Eu(q:Nat)(quant d:List Int)(z n:Nat):List Int:=(List.range' z n).map fun (k:Nat)=>coef q quant d (k:Int)
def To(q:Nat)(quant d:List Int)(prev:Int):List Int:=hrB (2*q) 0 (coef q quant d 0-prev)++acB q (Eu q quant d 1 63) 0
theorem Yn{v:Int}(h:Fe v≤2047):Gb v=((Gb v).toNat:Int)∧(Gb v).toNat≤11∧Fe v<2^(Gb v).toNat∧(v≠0→2^(Gb v).toNat≤2*Fe v)∧(v≠0→1≤Gb v):=by
  obtain ⟨k1,k2,k3,k4,k5⟩:=Mf h
  refine ⟨by omega,by omega,k4,k5,fun hv=> ?_⟩
  rcases (show Gb v=0∨1≤Gb v by omega) with hz|hz
  · have:=k4
    rw[hz] at this
    have h0:Fe v<1:=this
    unfold Fe at h0;split at h0<;>omega
  · exact hz
theorem jni{H:List Int}{s:St}{L:List Int}{h:Nat}{run v:Int}(hr:Rep H s L)(hf:jn6 h (run*16+Gb v))(hv:Fe v≤2047):Rep H (Pu h s run v) (L++hrB h run v):=by
  obtain ⟨k1,k2,k3,k4,k5⟩:=Yn hv
  have h1:=jg1 hf hr
  unfold hrB Pu
  simp only
  by_cases hz:0<Gb v
  · rw[if_pos hz,←List.append_assoc]
    have hp:=Gv (Gb v).toNat
    have h2:=Rk h1 (x:=(if v<0 then v-1 else v) % 2^(Gb v).toNat) (k:=(Gb v).toNat) (Int.emod_nonneg _ (Int.ne_of_gt hp)) (Int.emod_lt_of_pos _ hp) (by omega)
    rw[←k1] at h2
    exact h2
  · rw[if_neg hz]
    have e:qai v=[]:=by unfold qai;rw[show (Gb v).toNat=0 from by omega];rfl
    rw[e,List.append_nil]
    exact h1
theorem j5k{H:List Int}{q:Nat}(hq:q<2)(n:Nat): ∀{s:St} {L:List Int} {run:Int},run.toNat≤n→Rep H s L→Rep H (jbp q s run) (L++zrB q run):=by
  induction n with
  | zero=>
    intro s L run hn hr
    rw[jaz (by omega),zrB,if_neg (by omega),List.append_nil];exact hr
  | succ n ih=>
    intro s L run hn hr
    by_cases h:15<run
    · rw[jbh h,zrB,if_pos h,←List.append_assoc]
      exact ih (by omega) (jg1 (jnj hq) hr)
    · rw[jaz h,zrB,if_neg h,List.append_nil];exact hr
theorem jpf{H:List Int}{q:Nat}(hq:q<2){quant d:List Int}(hb: ∀k:Nat,k<64→k≠0→Fe (coef q quant d (k:Int))≤1023): ∀(n:Nat) {s:St} {L:List Int} {run:Int},n≤63→0≤run→Rep H s L→
    Rep H (acF q quant d s ((64-n:Nat):Int) run) (L++acB q (Eu q quant d (64-n) n) run)
  | 0,s,L,run,_,hrun,hr=>by
    by_cases h:0<run
    · rw[jlj (by omega) h]
      simp only[Eu,List.range'_zero,List.map_nil,acB,if_pos h]
      exact jg1 (jmw hq) hr
    · rw[jks (by omega) h]
      simp only[Eu,List.range'_zero,List.map_nil,acB,if_neg h,List.append_nil]
      exact hr
  | n+1,s,L,run,hn,hrun,hr=>by
    have e:Eu q quant d (64-(n+1)) (n+1)=coef q quant d ((64-(n+1):Nat):Int)::Eu q quant d (64-n) n:=by
      unfold Eu
      rw[List.range'_succ,List.map_cons,show 64-(n+1)+1=64-n from by omega]
    have en:((64-(n+1):Nat):Int)+1=((64-n:Nat):Int):=by omega
    rw[e]
    simp only[acB]
    by_cases hc:coef q quant d ((64-(n+1):Nat):Int)=0
    · rw[jg3 (by omega) hc,if_pos hc,en]
      exact jpf hq hb n (by omega) (by omega) hr
    · have hbk:=hb (64-(n+1)) (by omega) (by omega)
      obtain ⟨k1,k2,k3,k4,k5⟩:=Yn (v:=coef q quant d ((64-(n+1):Nat):Int)) (by omega)
      have k6:=(Mf (v:=coef q quant d ((64-(n+1):Nat):Int)) (by omega)).2.2.1 hbk
      have k7:=k5 hc
      rw[jft (by omega) hc,if_neg hc,en,←List.append_assoc,←List.append_assoc]
      refine jpf hq hb n (by omega) (by omega) ?_
      refine jni (j5k hq _ (Nat.le_refl _) hr) (jsi hq (by omega) (by omega) k7 k6) (by omega)
theorem jtr{H:List Int}{q:Nat}(hq:q<2){quant blk:List Int}(hb: ∀k:Nat,k<64→k≠0→Fe (coef q quant (Dc blk) (k:Int))≤1023){s:St}{L:List Int}{prev:Int}(h0:Fe (coef q quant (Dc blk) 0-prev)≤2047)(hr:Rep H s L):
    Rep H (Ub q quant blk s prev) (L++To q quant (Dc blk) prev):=by
  obtain ⟨k1,k2,k3,k4,k5⟩:=Yn h0
  unfold Ub To
  rw[←List.append_assoc]
  have:=jpf hq hb 63 (run:=0) (by omega) (by omega) (jni (h:=2*q) (run:=0) (v:=coef q quant (Dc blk) 0-prev) hr (by rw[Int.zero_mul,Int.zero_add];exact jku hq (by omega) (by omega)) h0)
  exact this
theorem j69{v:Int}(h:Fe v≤2047):sgn (Gb v) ((if v<0 then v-1 else v) % 2^(Gb v).toNat % 2^(Gb v).toNat)=v:=by
  obtain ⟨k1,k2,k3,k4,k5⟩:=Yn h
  rw[Int.emod_emod]
  by_cases hz:v=0
  · subst hz;decide
  · have k4:=k4 hz
    have k5:=k5 hz
    have e:(Gb v).toNat=(Gb v-1).toNat+1:=by omega
    have ep:(2:Int)^(Gb v).toNat=2*2^(Gb v-1).toNat:=by rw[e,Int.pow_succ,Int.mul_comm]
    unfold sgn
    rw[ep] at k3 k4⊢
    have hp:=Gv (Gb v-1).toNat
    generalize (2:Int)^(Gb v-1).toNat=p at k3 k4 hp⊢
    unfold Fe at k3 k4
    by_cases hn:v<0
    · rw[if_pos hn] at k3 k4⊢
      have em:(v-1) % (2*p)=2*p+(v-1):=by
        rw[←Int.add_emod_right (v-1) (2*p),Int.add_comm]
        exact Int.emod_eq_of_lt (by omega) (by omega)
      rw[em,if_pos (by omega)];omega
    · rw[if_neg hn] at k3 k4⊢
      rw[Int.emod_eq_of_lt (by omega) (by omega),if_neg (by omega)]
theorem jz2{D T:List Int}{h:Nat}{run v at_ us:Int}{R:List Int}(hf:jn6 h (run*16+Gb v))(hv:Fe v≤2047)(hr:Rd D T at_ us (hrB h run v++R)):
    Gz (Bl h) (At h) D at_ us=true∧ ∃a1 u1,Bm (Bl h) (At h) D at_ us=[run*16+Gb v,a1,u1]∧
      Ng D (Gb v).toNat a1 u1=true∧ ∃x a2 u2,Ez D (Gb v).toNat 0 a1 u1=[x,a2,u2]∧sgn (Gb v) x=v∧Rd D T a2 u2 R:=by
  unfold hrB at hr
  rw[List.append_assoc] at hr
  obtain ⟨h1,a1,u1,h2,h3⟩:=jla hf hr
  obtain ⟨g1,a2,u2,g2,g3⟩:=jwa (v:=0) h3
  refine ⟨h1,a1,u1,h2,g1,_,a2,u2,g2,?_,g3⟩
  rw[Int.zero_mul,Int.zero_add]
  exact j69 hv
def plc(bl:List Int)(p:Int):List Int→List Int
  | []=>bl
  | c::l=>plc (if c=0 then bl else bl.set p.toNat c) (p+1) l
theorem jf9: ∀{cs A G:List Int},plc (A++(List.replicate cs.length 0++G)) (A.length:Int) cs=A++(cs++G)
  | [],A,G=>rfl
  | c::l,A,G=>by
    have ih:=jf9 (cs:=l) (A:=A++ [c]) (G:=G)
    simp only[plc,List.length_cons,List.replicate_succ,List.cons_append]
    have e:(if c=0 then A++0::(List.replicate l.length 0++G) else (A++0::(List.replicate l.length 0++G)).set (A.length:Int).toNat c)=(A++ [c])++(List.replicate l.length 0++G):=by
      by_cases hc:c=0
      · rw[if_pos hc,hc];simp
      · rw[if_neg hc];simp[List.set_append]
    rw[e,show ((A.length:Int)+1)=((A++ [c]).length:Int) from by simp,ih];simp
section
variable {D T:List Int} {q:Nat}
theorem qal(hq:q<2)(n:Nat): ∀{run k at_ us:Int} {X:List Int},run.toNat≤n→0≤run→k+run≤63→Rd D T at_ us (zrB q run++X)→
    ∃k1 a1 u1,k1+run % 16=k+run∧k≤k1∧Rd D T a1 u1 X∧(∀d bl,Ef (Bl (2*q+1)) (At (2*q+1)) D d k at_ us bl=Ef (Bl (2*q+1)) (At (2*q+1)) D d k1 a1 u1 bl)∧
      (Ge (Bl (2*q+1)) (At (2*q+1)) D k1 a1 u1=true→Ge (Bl (2*q+1)) (At (2*q+1)) D k at_ us=true):=by
  induction n with
  | zero=>
    intro run k at_ us X hn h0 hk hr
    rw[zrB,if_neg (by omega),List.nil_append] at hr
    exact ⟨k,at_,us,by omega,by omega,hr,fun _ _=>rfl,id⟩
  | succ n ih=>
    intro run k at_ us X hn h0 hk hr
    by_cases h:15<run
    · rw[zrB,if_pos h,List.append_assoc] at hr
      obtain ⟨g1,a1,u1,g2,g3⟩:=jla (jnj hq) hr
      obtain ⟨k1,a2,u2,f1,f2,f3,f4,f5⟩:=ih (run:=run-16) (k:=k+16) (by omega) (by omega) (by omega) g3
      refine ⟨k1,a2,u2,by omega,by omega,f3,fun d bl=> ?_,fun ho=> ?_⟩
      · rw[←f4 d bl,Ef,if_pos (by omega),if_pos (show Hi _ _ D at_ us=0 by unfold Hi;rw[g2];rfl),if_neg (show ¬Kk _ _ D at_ us=0 by unfold Kk;rw[g2];show ¬(240:Int)/16=0;decide)]
        unfold sAt sUs;rw[g2];rfl
      · rw[Ge,if_pos (by omega),if_pos (show Hi _ _ D at_ us=0 by unfold Hi;rw[g2];rfl),if_neg (show ¬Kk _ _ D at_ us=0 by unfold Kk;rw[g2];show ¬(240:Int)/16=0;decide)]
        simp only[Bool.and_eq_true,decide_eq_true_eq]
        refine ⟨g1,by unfold Kk;rw[g2];rfl,by omega,?_⟩
        unfold sAt sUs;rw[g2]
        exact f5 ho
    · rw[zrB,if_neg h,List.nil_append] at hr
      exact ⟨k,at_,us,by omega,by omega,hr,fun _ _=>rfl,id⟩
theorem jsa(hq:q<2){R:List Int}: ∀{cs:List Int} {run k at_ us:Int},(∀c∈cs,Fe c≤1023)→0≤run→1≤k→k+run+cs.length=64→Rd D T at_ us (acB q cs run++R)→
    Ge (Bl (2*q+1)) (At (2*q+1)) D k at_ us=true∧ ∃a1 u1,(∀d bl,Ef (Bl (2*q+1)) (At (2*q+1)) D d k at_ us bl=a1::u1::plc bl (d+(k+run)) cs)∧Rd D T a1 u1 R
  | [],run,k,at_,us,_,h0,h1,hk,hr=>by
    simp only[List.length_nil] at hk
    simp only[acB] at hr
    by_cases h:0<run
    · rw[if_pos h] at hr
      obtain ⟨g1,a1,u1,g2,g3⟩:=jla (jmw hq) hr
      refine ⟨?_,a1,u1,fun d bl=> ?_,g3⟩
      · rw[Ge,if_pos (by omega),if_pos (show Hi _ _ D at_ us=0 by unfold Hi;rw[g2];rfl),if_pos (show Kk _ _ D at_ us=0 by unfold Kk;rw[g2];rfl),g1];rfl
      · rw[Ef,if_pos (by omega),if_pos (show Hi _ _ D at_ us=0 by unfold Hi;rw[g2];rfl),if_pos (show Kk _ _ D at_ us=0 by unfold Kk;rw[g2];rfl)]
        unfold sAt sUs;rw[g2];rfl
    · rw[if_neg h,List.nil_append] at hr
      refine ⟨?_,at_,us,fun d bl=> ?_,hr⟩
      · rw[Ge,if_neg (by omega)]
      · rw[Ef,if_neg (by omega)];rfl
  | c::l,run,k,at_,us,hc,h0,h1,hk,hr=>by
    simp only[List.length_cons] at hk
    simp only[acB] at hr
    have hl: ∀x∈l,Fe x≤1023:=fun x hx=>hc x (List.mem_cons_of_mem _ hx)
    by_cases hz:c=0
    · rw[if_pos hz] at hr
      obtain ⟨g1,a1,u1,g2,g3⟩:=jsa hq hl (run:=run+1) (by omega) h1 (by omega) hr
      refine ⟨g1,a1,u1,fun d bl=> ?_,g3⟩
      rw[g2]
      simp only[plc,if_pos hz]
      rw[show d+(k+(run+1))=d+(k+run)+1 from by omega]
    · rw[if_neg hz,List.append_assoc,List.append_assoc] at hr
      obtain ⟨k1,a1,u1,f1,f2,f3,f4,f5⟩:=qal hq _ (Nat.le_refl _) h0 (show k+run≤63 by omega) hr
      have hcb:=hc c (List.mem_cons_self ..)
      obtain ⟨p1,p2,p3,p4,p5⟩:=Yn (v:=c) (by omega)
      have p6:=(Mf (v:=c) (by omega)).2.2.1 hcb
      have p7:=p5 hz
      obtain ⟨s1,a2,u2,s2,s3,x,a3,u3,s4,s5,s6⟩:=jz2 (jsi hq (by omega) (by omega) p7 p6) (by omega) f3
      obtain ⟨g1,a4,u4,g2,g3⟩:=jsa hq hl (run:=0) (k:=k1+run % 16+1) (by omega) (by omega) (by omega) s6
      have hsz:Hi (Bl (2*q+1)) (At (2*q+1)) D a1 u1=Gb c:=by unfold Hi;rw[s2];show (run % 16*16+Gb c) % 16=_;omega
      have hrn:Kk (Bl (2*q+1)) (At (2*q+1)) D a1 u1=run % 16:=by unfold Kk;rw[s2];show (run % 16*16+Gb c)/16=_;omega
      have hat:sAt (Bl (2*q+1)) (At (2*q+1)) D a1 u1=a2:=by unfold sAt;rw[s2];rfl
      have hus:sUs (Bl (2*q+1)) (At (2*q+1)) D a1 u1=u2:=by unfold sUs;rw[s2];rfl
      have hnm:jqj (Bl (2*q+1)) (At (2*q+1)) D a1 u1=[x,a3,u3]:=by unfold jqj;rw[hsz,hat,hus,s4]
      refine ⟨f5 ?_,a4,u4,fun d bl=> ?_,g3⟩
      · rw[Ge,if_pos (by omega),hsz,hrn,hat,hus,hnm,if_neg (by omega),if_pos (by omega)]
        simp only[Bool.and_eq_true,decide_eq_true_eq]
        exact ⟨s1,by omega,s3,g1⟩
      · rw[f4 d bl,Ef,if_pos (by omega),hsz,hrn,hnm,if_neg (by omega),if_pos (by omega)]
        show Ef _ _ D d (k1+run % 16+1) a3 u3 (bl.set _ (sgn (Gb c) x))=_
        rw[s5,g2]
        simp only[plc,if_neg hz]
        rw[show d+(k1+run % 16+1+0)=d+(k+run)+1 from by omega,show d+(k1+run % 16)=d+(k+run) from by omega]
end
end
end Go.Proofs.YtljjbikbfeigdaaGreatDoor
namespace Go.Proofs.YtljjbikbfeigdaaGreatDoor
noncomputable section
open Go
section
variable (w h:Int) (pix quant:List Int)
end
section
variable {w h:Int} {pix quant:List Int}
theorem Wh{v n:Int}(h0: -n≤v)(h1:v≤n):Fe v≤n:=by unfold Fe;split<;>omega
theorem js0:Gi 127 7=List.replicate 7 1:=by decide
theorem Jf(q:Nat)(d:List Int)(z n:Nat):(Eu q quant d z n).length=n:=by simp[Eu]
theorem Ph(q:Nat)(d:List Int)(z n:Nat):Eu q quant d z (n+1)=coef q quant d (z:Int)::Eu q quant d (z+1) n:=by
  unfold Eu;rw[List.range'_succ,List.map_cons]
variable {D T:List Int}
theorem j81: ∀(j:Nat) {a u:Int},Rd D T a u (List.replicate j 1)→Mr u=j→Uw D j a u=true∧Rd D T (Mp D j a u) 0 []
  | 0,a,u,hr,hj=>by
    obtain ⟨n,B,h1,h2,h3,h4,h5,h6,h7⟩:=hr
    have hu:u=0:=by
      unfold Mr at hj
      split at hj
      · assumption
      · omega
    subst hu
    exact ⟨rfl,n,B,h1,h2,h3,h4,h5,h6,h7⟩
  | j+1,a,u,hr,hj=>by
    obtain ⟨n,B,h1,h2,h3,h4,h5,h6,h7⟩:=hr
    have hu: ¬u=0:=by
      intro hu
      subst hu
      simp[Mr] at hj
    have hr:Rd D T a u (1::List.replicate j 1):=⟨n,B,h1,h2,h3,h4,h5,h6,h7⟩
    obtain ⟨g1,g2,g3⟩:=jpn hr
    have hs:Mr u=Mr (Rj u)+1:=by
      unfold Mr Rj
      rw[if_neg hu]
      by_cases h8:u+1=8
      · rw[if_pos h8,if_pos rfl];omega
      · rw[if_neg h8,if_neg (by omega)];omega
    obtain ⟨k1,k2⟩:=j81 j g3 (by omega)
    refine ⟨?_,k2⟩
    simp only[Uw,g1,g2,k1];rfl
theorem jrw{j:Nat}(hj:j<8){a u:Int}(hr:Rd D T a u (List.replicate j 1)):Uw D (Mr u) a u=true∧Rd D T (Mp D (Mr u) a u) 0 []:=by
  have hn:Mr u=j:=by
    obtain ⟨n,B,h1,h2,h3,h4,h5,h6,h7⟩:=hr
    have hl:=congrArg List.length h7
    rw[List.length_replicate,List.length_drop] at hl
    have hB:(Mz B).length=8*B.length:=by
      clear h2 h3 h6 h7 hl
      induction B with
      | nil=>rfl
      | cons c B ih=>rw[Qo,List.length_append,ih,Wb,List.length_cons];omega
    rw[hB] at hl
    unfold Mr
    by_cases hu:u=0
    · rw[if_pos hu]
      cases B with
      | nil=>simp at hl;omega
      | cons c B=>rw[List.length_cons] at hl;omega
    · rw[if_neg hu]
      cases B with
      | nil=>exact absurd (h6 rfl) hu
      | cons c B=>
        cases B with
        | nil=>simp at hl;omega
        | cons d B=>simp only[List.length_cons] at hl;omega
  have:=j81 j hr hn
  rw[hn];exact this
theorem j0s{a:Int}(hr:Rd D T a 0 []):0≤a∧D.drop a.toNat=T:=by
  obtain ⟨n,B,h1,h2,h3,h4,h5,h6,h7⟩:=hr
  cases B with
  | nil=>rw[h1];exact ⟨by omega,h2⟩
  | cons c B=>
    have:=congrArg List.length h7
    rw[Qo,Int.toNat_zero,List.drop_zero,List.length_append,Wb,List.length_nil] at this
    omega
end
end
end Go.Proofs.YtljjbikbfeigdaaGreatDoor
namespace Go.Proofs.YtljjbikbfeigdaaGreatDoor
noncomputable section
open Go
section
variable (w h:Int) (pix quant:List Int)
end
section
variable {w h:Int} {pix quant:List Int}
end
end
end Go.Proofs.YtljjbikbfeigdaaGreatDoor
namespace Go.Proofs.YtljjbikbfeigdaaGreatDoor
noncomputable section
open Go
def jcv:List Int:=[255,216,255,219,0,132,0]
theorem Hs(q:Int):(Cs (Ci q) 0 64).length=64∧(Cs (Ci q) 64 64).length=64:=by
  have:(Ci q).length=128:=by simp[Ci]
  unfold Cs
  rw[List.length_take,List.length_take,List.length_drop,List.length_drop,this]
  omega
theorem jhf{X L P:List Int}{k:Nat}(h:X++P=L++List.replicate k (1:Int))(hp:P.length≤k):X=L++List.replicate (k-P.length) 1:=by
  have e:List.replicate k (1:Int)=List.replicate (k-P.length) 1++List.replicate P.length 1:=by rw[List.replicate_append_replicate];congr 1;omega
  rw[e,←List.append_assoc] at h
  exact (List.append_inj' h (by simp)).1
end
end Go.Proofs.YtljjbikbfeigdaaGreatDoor
namespace Go.Proofs.YtljjbikbfeigdaaGreatDoor
noncomputable section
open Go
theorem Gk{α:Type}{D A R:List α}{n m:Nat}(h:D.drop n=A++R)(hm:n+A.length=m):D.drop m=R:=by
  subst hm
  rw[←List.drop_drop,h,List.drop_left]
theorem Qf{D A R:List Int}{n k:Nat}(h:D.drop n=A++R)(hk:A.length=k):Cs D n k=A:=by
  subst hk
  unfold Cs
  rw[h,List.take_left]
theorem Rf{D R:List Int}{n k:Nat}(h:D.drop n=R):Bg D ((n+k:Nat):Int)=Bg R (k:Int):=by
  subst h
  unfold Bg
  rw[Int.toNat_natCast,Int.toNat_natCast,List.getD_eq_getElem?_getD,List.getD_eq_getElem?_getD,List.getElem?_drop]
theorem jbi{n:Int}{N:Nat}(h:n.toNat=N):Cr n=List.replicate (64*N) 0:=by
  unfold Cr
  congr 1;omega
theorem job{B:List Int}(h:Ey B):Bn 0 255 B=true:=by
  unfold Bn
  rw[List.all_eq_true]
  intro x hx
  have:=h x hx
  simp only[Bool.and_eq_true,decide_eq_true_eq];exact this
theorem Ju{B:List Int}(h:Bn 0 255 B=true):Ey B:=by
  intro x hx
  unfold Bn at h
  have:=List.all_eq_true.1 h x hx
  simpa using this
theorem Em{A B:List Int}(ha:Ey A)(hb:Ey B):Ey (A++B):=by
  intro x hx
  rcases List.mem_append.1 hx with h|h
  · exact ha x h
  · exact hb x h
theorem jcl{B:List Int}(h:Ey B):Ey (Es B):=by
  intro x hx
  unfold Es at hx
  obtain ⟨b,hb,hx⟩:=List.mem_flatMap.1 hx
  unfold Oi at hx
  have:=h b hb
  split at hx
  · simp only[List.mem_cons,List.not_mem_nil,or_false] at hx
    omega
  · rw[List.mem_singleton.1 hx];exact this
end
end Go.Proofs.YtljjbikbfeigdaaGreatDoor
namespace Go.Proofs.YtljjbikbfeigdaaGreatDoor
noncomputable section
open Go
def Jl:T:=.lit (-9223372036854775808)
def Jk:T:=.lit 9223372036854775807
end
end Go.Proofs.YtljjbikbfeigdaaGreatDoor
namespace Go.Proofs.YtljjbikbfeigdaaGreatDoor
noncomputable section
open Go
end
end Go.Proofs.YtljjbikbfeigdaaGreatDoor
namespace Go.Proofs.YtljjbikbfeigdaaGreatDoor
noncomputable section
open Go
theorem jtv:Tryz.prog.globalNamed "jpegcodec/pub/jpeg.unzig" =some 4:=by kernel_rfl
theorem j8q:Tryz.prog.globalNamed "jpegcodec/pub/jpeg.bitCount" =some 5:=by kernel_rfl
theorem jsh:Tryz.prog.globalNamed "jpegcodec/pub/jpeg.unscaledQuant" =some 2:=by kernel_rfl
theorem jwu:(Tryz.prog.globals[4]?).map (·.type)=some 27:=by kernel_rfl
theorem jzl:(Tryz.prog.globals[2]?).map (·.type)=some 133:=by kernel_rfl
theorem jym:Tryz.prog.underlying 27=some (.array 64 3):=by kernel_rfl
theorem qby:Tryz.prog.underlying 133=some (.array 2 132):=by kernel_rfl
theorem j1c:Tryz.prog.underlying 132=some (.array 64 5):=by kernel_rfl
theorem jwl:(Rows.laid_jpegcodec_pub_jpeg_unzig:DataW Unit)=Lib.tabData .i64 (Z.fa 45 0 0 0 0 [] [] [] []):=by kernel_rfl
theorem qim:(Rows.laid_jpegcodec_pub_jpeg_bitCount:DataW Unit)=Lib.tabData .u8 Gj:=by kernel_rfl
theorem j0p:(Rows.laid_jpegcodec_pub_jpeg_unscaledQuant:DataW Unit)=.agg [Lib.tabData .u8 (uqL.take 64),Lib.tabData .u8 (uqL.drop 64)]:=by kernel_rfl
theorem plain:(Rows.fnGrayStreamRow.laid.filter fun x=>x.2.handleName?.isNone)=[("jpegcodec/pub/jpeg.unzig",Rows.laid_jpegcodec_pub_jpeg_unzig),("jpegcodec/pub/jpeg.bitCount",Rows.laid_jpegcodec_pub_jpeg_bitCount),("jpegcodec/pub/jpeg.unscaledQuant",Rows.laid_jpegcodec_pub_jpeg_unscaledQuant)]:=by kernel_rfl
theorem qfo:(Tryz.prog.globals[5]?).map (·.type)=some 251:=by kernel_rfl
theorem jye:Tryz.prog.underlying 251=some (.array 256 5):=by kernel_rfl
theorem j3u:Tryz.prog.underlying 3=some (.int .i64):=by kernel_rfl
theorem j2e:Tryz.prog.underlying 5=some (.int .u8):=by kernel_rfl
theorem co3:Tryz.prog.cellsOf 3=1:=by kernel_rfl
theorem co5:Tryz.prog.cellsOf 5=1:=by kernel_rfl
theorem j9q:Tryz.prog.cellsOf 27=64:=by kernel_rfl
theorem j7z:Tryz.prog.cellsOf 251=256:=by kernel_rfl
theorem j1o:Tryz.prog.cellsOf 132=64:=by kernel_rfl
theorem qht:Tryz.prog.cellsOf 133=128:=by kernel_rfl
theorem jb3{w:World}{fuel:Nat}{cs:List Value}{X Y:List Int}{p:List MemPlace}(h:DataW.trod (fun _=>()) Tryz.prog w 0 (fun _=>true) false fuel 133 cs=some (.agg [Lib.tabData .u8 X,Lib.tabData .u8 Y],p)):
    cs=(X++Y).map fun z=>Value.int .u8 z:=by
  cases fuel with
  | zero=>simp[DataW.trod] at h
  | succ fuel=>
    simp only[DataW.trod,qby,j1o,qht] at h
    split at h
    · rename_i hl
      obtain ⟨xs,hm,hx⟩:=Option.map_eq_some_iff.1 h
      have hxs:xs.map (·.1)=[Lib.tabData .u8 X,Lib.tabData .u8 Y]:=by
        have:=congrArg Prod.fst hx
        simpa using this
      obtain ⟨b0,hb0,hf0⟩:=Lib.mapM_at hm 0 0 rfl
      obtain ⟨b1,hb1,hf1⟩:=Lib.mapM_at hm 1 1 rfl
      have e0:b0.1=Lib.tabData .u8 X:=by
        have:(xs.map (·.1))[0]? =some b0.1:=by simp[hb0]
        rw[hxs] at this;simpa using this.symm
      have e1:b1.1=Lib.tabData .u8 Y:=by
        have:(xs.map (·.1))[1]? =some b1.1:=by simp[hb1]
        rw[hxs] at this;simpa using this.symm
      obtain ⟨b00,b01⟩:=b0
      obtain ⟨b10,b11⟩:=b1
      simp only at e0 e1
      subst e0
      subst e1
      have c0:=Lib.cells_of_tab j1c j2e co5 j1o hf0
      have c1:=Lib.cells_of_tab j1c j2e co5 j1o hf1
      rw[List.map_append,←c0,←c1]
      simp only[Nat.zero_mul,Nat.one_mul,List.drop_zero]
      rw[List.take_of_length_le (l:=cs.drop 64) (by rw[List.length_drop];omega),List.take_append_drop]
    · cases h
theorem jf5{W:World}{L:List (String×DataW Unit)}(hL:L.filter (fun x=>x.2.handleName?.isNone)=[("jpegcodec/pub/jpeg.unzig",Rows.laid_jpegcodec_pub_jpeg_unzig),("jpegcodec/pub/jpeg.bitCount",Rows.laid_jpegcodec_pub_jpeg_bitCount),("jpegcodec/pub/jpeg.unscaledQuant",Rows.laid_jpegcodec_pub_jpeg_unscaledQuant)])
    (h:laidMet Tryz.prog (L.filter fun x=>x.2.handleName?.isNone) W):
    (∀j v,(Z.fa 45 0 0 0 0 [] [] [] [])[j]? =some v→W.cell? ⟨4,j,none⟩=some (.int .i64 v))∧(∀j v,Gj[j]? =some v→W.cell? ⟨5,j,none⟩=some (.int .u8 v))∧(∀j v,uqL[j]? =some v→W.cell? ⟨2,j,none⟩=some (.int .u8 v)):=by
  rw[hL] at h
  obtain ⟨ps,⟨g0,t0,cs0,f0,p0,q0,hg0,ht0,hv0,hd0,⟨g1,t1,cs1,f1,p1,q1,hg1,ht1,hv1,hd1,⟨g2,t2,cs2,f2,p2,q2,hg2,ht2,hv2,hd2,_,_⟩,_⟩,_⟩,_,_⟩:=h
  obtain rfl:=Option.some.inj (jtv.symm.trans hg0)
  obtain rfl:=Option.some.inj (j8q.symm.trans hg1)
  obtain rfl:=Option.some.inj (jsh.symm.trans hg2)
  obtain rfl:=Option.some.inj (jwu.symm.trans ht0)
  obtain rfl:=Option.some.inj (qfo.symm.trans ht1)
  obtain rfl:=Option.some.inj (jzl.symm.trans ht2)
  rw[jwl] at hd0
  rw[qim] at hd1
  rw[j0p] at hd2
  have c0:=Lib.cells_of_tab jym j3u co3 j9q hd0
  have c1:=Lib.cells_of_tab jye j2e co5 j7z hd1
  have c2:=jb3 hd2
  rw[List.take_append_drop] at c2
  refine ⟨fun j v hj=> ?_,fun j v hj=> ?_,fun j v hj=> ?_⟩
  · have:=World.var?_cell hg0 hv0 j
    rw[this,←Array.getElem?_toList,c0,List.getElem?_map,hj];rfl
  · have:=World.var?_cell hg1 hv1 j
    rw[this,←Array.getElem?_toList,c1,List.getElem?_map,hj];rfl
  · have:=World.var?_cell hg2 hv2 j
    rw[this,←Array.getElem?_toList,c2,List.getElem?_map,hj];rfl
end
end Go.Proofs.YtljjbikbfeigdaaGreatDoor
namespace Go.Proofs.YtljjbikbfeigdaaGreatDoor
noncomputable section
open Go
end
end Go.Proofs.YtljjbikbfeigdaaGreatDoor
namespace Go.Proofs.YtljjbikbfeigdaaGreatDoor
noncomputable section
open Go
end
end Go.Proofs.YtljjbikbfeigdaaGreatDoor
namespace Go.Proofs.YtljjbikbfeigdaaGreatDoor
noncomputable section
open Go Go.RowKit
def Sy(w:World):Prop:=
  (∀j v,(Z.fa 45 0 0 0 0 [] [] [] [])[j]? =some v→w.cell? ⟨4,j,none⟩=some (.int .i64 v))∧(∀j v,Gj[j]? =some v→w.cell? ⟨5,j,none⟩=some (.int .u8 v))∧(∀j v,uqL[j]? =some v→w.cell? ⟨2,j,none⟩=some (.int .u8 v))
theorem Uc{S:Hw}{ρ:Et}{w w':World}{h:Hp}(hh:Cv S ρ w h w')(hrw:h.rw=[])(hl:ρ.loose=[]):Below w.heap.size w w':=by
  refine ⟨hh.os,hh.tape,hh.output,by rw[hh.size];omega,fun k hk=>hh.frame k hk (by rw[hl];simp) fun x hx=>by rw[hrw] at hx;cases hx⟩
theorem Hb{w:World}{b o:Nat}{v:Value}(h:w.cell? ⟨b,o,none⟩=some v):b<w.heap.size:=by
  unfold World.cell? at h
  simp only at h
  rcases Nat.lt_or_ge b w.heap.size with hl|hl
  · exact hl
  · rw[Array.getElem?_eq_none hl] at h;cases h
end
end Go.Proofs.YtljjbikbfeigdaaGreatDoor
