/- Part of the proof of FnColorEdgesCardSaid: What symbolic memory says of a world, and that reading and writing it is reading and writing the world. -/
import Derived.Test.YtljjbikbfeigdaaGreatDoorCe02
import Derived.Laws.Tables
import Derived.ChangeKeysEq
set_option linter.all false
namespace Go.Proofs.YtljjbikbfeigdaaGreatDoor
noncomputable section
open Go
section
variable {S:Hw} {ρ:Et} {B:Nat}
def Cp.wf(S:Hw)(ρ:Et):Cp→Prop
  | .arr _ a n=>(a.A S ρ).length=n
  | .bar a n=>(a.A S ρ).length=n
  | _=>True
def Cm(S:Hw)(ρ:Et)(l:List Cp):Prop:= ∀g∈l,g.wf S ρ
def SV.wf(S:Hw)(ρ:Et):SV→Prop
  | .one _=>True
  | .agg l=>Cm S ρ l
def SR.wf(S:Hw)(ρ:Et):SR→Prop
  | .v x=>x.wf S ρ
  | .tup xs=> ∀x∈xs,x.wf S ρ
  | .ite c x y=>(c.B S ρ=true→x.wf S ρ)∧(c.B S ρ=false→y.wf S ρ)
def Dx(S:Hw)(ρ:Et)(l:List T):Prop:= ∀t∈l,t.B S ρ=true
theorem Dx.nil:Dx S ρ []:=fun _ h=>by cases h
theorem Fu{l:List T}(h:Dx S ρ (needs l)):Dx S ρ l:=by
  intro t ht
  cases e:t.isTT with
  | true=>rw[j3w e];rfl
  | false=>exact h t (by simp[needs,ht,e])
theorem Ag{t:T}{l:List T}:Dx S ρ (t::l)↔t.B S ρ=true∧Dx S ρ l:=by simp[Dx]
theorem Co{l m:List T}:Dx S ρ (l++m)↔Dx S ρ l∧Dx S ρ m:=by
  constructor
  · exact fun h=>⟨fun t ht=>h t (by simp[ht]),fun t ht=>h t (by simp[ht])⟩
  · rintro ⟨h,k⟩ t ht;rcases List.mem_append.1 ht with h1|h1
    · exact h t h1
    · exact k t h1
theorem Au(g:Cp)(l:List Cp):Av S ρ B (g::l)=g.den S ρ B++Av S ρ B l:=by simp[Av]
theorem Bp(l m:List Cp):Av S ρ B (l++m)=Av S ρ B l++Av S ρ B m:=by simp[Av]
theorem Cj:Av S ρ B []=[]:=rfl
theorem jnf{g:Cp}{n:Nat}(hw:g.wf S ρ)(h:g.size=some n):(g.den S ρ B).length=n:=by
  cases g<;>simp[Cp.size,Cp.den,Cp.wf] at*
  · exact h
  · omega
  · omega
theorem Ax{g:Cp}{l:List Cp}:Cm S ρ (g::l)↔g.wf S ρ∧Cm S ρ l:=by simp[Cm]
theorem Ch{l m:List Cp}:Cm S ρ (l++m)↔Cm S ρ l∧Cm S ρ m:=by
  constructor
  · exact fun h=>⟨fun t ht=>h t (by simp[ht]),fun t ht=>h t (by simp[ht])⟩
  · rintro ⟨h,k⟩ t ht;rcases List.mem_append.1 ht with h1|h1
    · exact h t h1
    · exact k t h1
theorem Sw: ∀{l:List Cp} {n:Nat},Cm S ρ l→Rn l=some n→(Av S ρ B l).length=n
  | [],n,_,h=>by simp[Rn] at h;subst h;rfl
  | g::r,n,hw,h=>by
    unfold Rn at h
    split at h
    · rename_i a b ha hb
      simp only[Option.some.injEq] at h
      rw[Au,List.length_append,jnf (Ax.1 hw).1 ha,Sw (Ax.1 hw).2 hb]
      exact h
    · cases h
theorem Fj: ∀{l:List Cp} {s:Nat} {p:List Cp} {g:Cp} {j:Nat} {q:List Cp},Cm S ρ l→jh5 l s=some (p,g,j,q)→
    l=p++g::q∧(Av S ρ B p).length+j=s∧(∀n,g.size=some n→j<n)
  | [],s,p,g,j,q,_,h=>by simp[jh5] at h
  | x::r,s,p,g,j,q,hw,h=>by
    unfold jh5 at h
    split at h
    · rename_i n hn
      split at h
      · rename_i hlt
        simp only[Option.some.injEq,Prod.mk.injEq] at h
        obtain ⟨rfl,rfl,rfl,rfl⟩:=h
        exact ⟨rfl,by simp[Cj],fun m hm=>by rw[hn] at hm;injection hm with hm;omega⟩
      · rename_i hlt
        split at h
        · rename_i p' g' j' q' hs
          simp only[Option.some.injEq,Prod.mk.injEq] at h
          obtain ⟨rfl,rfl,rfl,rfl⟩:=h
          obtain ⟨h1,h2,h3⟩:=Fj (Ax.1 hw).2 hs
          refine ⟨by rw[h1];rfl,?_,h3⟩
          rw[Au,List.length_append,jnf (Ax.1 hw).1 hn]
          omega
        · cases h
    · rename_i hn
      simp only[Option.some.injEq,Prod.mk.injEq] at h
      obtain ⟨rfl,rfl,rfl,rfl⟩:=h
      exact ⟨rfl,by simp[Cj],fun m hm=>by rw[hn] at hm;cases hm⟩
theorem jdo{α:Type}(p m q:List α)(j:Nat)(h:j<m.length):(p++(m++q))[p.length+j]? =m[j]? :=by
  rw[List.getElem?_append_right (by omega),show p.length+j-p.length=j from by omega,List.getElem?_append_left h]
theorem jai{α:Type}(p m q:List α)(j:Nat)(v:α)(h:j<m.length):(p++(m++q)).set (p.length+j) v=p++(m.set j v++q):=by
  rw[List.set_append_right _ _ (by omega),show p.length+j-p.length=j from by omega,List.set_append_left _ _ h]
theorem Kc{i d n:T}(h:Dx S ρ (Pv i d n)):0≤d.I S ρ∧i.I S ρ<n.I S ρ:=by
  have h':=Fu h
  have h1:=(Ag.1 h').1
  have h2:=(Ag.1 (Ag.1 h').2).1
  rw[Sh,decide_eq_true_eq] at h1
  rw[jgq,decide_eq_true_eq] at h2
  exact ⟨by simpa [T.I] using h1,h2⟩
theorem jfy(k:IntKind)(l:List Int)(i:Nat)(h:i<l.length):(l.map (Value.int k))[i]? =some (.int k (l.getD i 0)):=by
  simp[List.getD,List.getElem?_eq_getElem h]
theorem Xa{l:List Cp}{s:Nat}{d:T}{c:List T}{x:Aw}(hw:Cm S ρ l)(h:Vj l s d=some (c,x))(hc:Dx S ρ c):
    (Av S ρ B l)[s+(d.I S ρ).toNat]? =some (x.den S ρ B):=by
  unfold Vj at h
  split at h
  · rename_i p cs j q hs
    obtain ⟨rfl,h2,h3⟩:=Fj (B:=B) hw hs
    split at h
    · rename_i hd
      rw[Qr] at hd;subst hd
      cases hj:cs[j]? with
      | none=>simp[hj] at h
      | some y=>
        simp[hj] at h
        obtain ⟨rfl,rfl⟩:=h
        have hjl:j<cs.length:=h3 _ rfl
        simp only[T.I,Int.toNat_zero,Nat.add_zero]
        rw[Bp,Au,←h2,jdo _ _ _ _ (by simpa [Cp.den] using hjl)]
        simp[Cp.den,hj]
    · cases h
  · rename_i p k a n j q hs
    obtain ⟨rfl,h2,h3⟩:=Fj (B:=B) hw hs
    simp only[Option.some.injEq,Prod.mk.injEq] at h
    obtain ⟨rfl,rfl⟩:=h
    obtain ⟨hd,hi⟩:=Kc hc
    have hl:(a.A S ρ).length=n:=(Ax.1 (Ch.1 hw).2).1
    simp only[Dg,T.I] at hi
    rw[Bp,Au,←h2,Nat.add_assoc,jdo _ _ _ _ (by simp[Cp.den];omega)]
    simp only[Cp.den,Aw.den,Sv,Dg,T.I]
    rw[jfy _ _ _ (by omega)]
    congr 3;omega
  · rename_i p k a j q hs
    obtain ⟨rfl,h2,h3⟩:=Fj (B:=B) hw hs
    simp only[Option.some.injEq,Prod.mk.injEq] at h
    obtain ⟨rfl,rfl⟩:=h
    obtain ⟨hd,hi⟩:=Kc hc
    simp only[Dg,T.I] at hi
    rw[Bp,Au,←h2,Nat.add_assoc,jdo _ _ _ _ (by simp[Cp.den];omega)]
    simp only[Cp.den,Aw.den,Sv,Dg,T.I]
    rw[jfy _ _ _ (by omega)]
    congr 3;omega
  · rename_i p a n j q hs
    obtain ⟨rfl,h2,h3⟩:=Fj (B:=B) hw hs
    simp only[Option.some.injEq,Prod.mk.injEq] at h
    obtain ⟨rfl,rfl⟩:=h
    obtain ⟨hd,hi⟩:=Kc hc
    have hl:(a.A S ρ).length=n:=(Ax.1 (Ch.1 hw).2).1
    simp only[Dg,T.I] at hi
    rw[Bp,Au,←h2,Nat.add_assoc,jdo _ _ _ _ (by simp[Cp.den];omega)]
    simp only[Cp.den,Aw.den,Qe,Zc,Sv,Dg,T.I]
    rw[show ((j:Int)+d.I S ρ).toNat=j+(d.I S ρ).toNat from by omega,List.getElem?_map,List.getElem?_eq_getElem (by omega),List.getD_eq_getElem?_getD,List.getElem?_eq_getElem (by omega)]
    simp only[Option.map_some,Option.getD_some,jlh]
  · cases h
theorem Ew: ∀(g:List Cp),Av S ρ B (Dn g)=Av S ρ B g∧(Cm S ρ g→Cm S ρ (Dn g))
  | []=>⟨rfl,id⟩
  | x::g=>by
    obtain ⟨h1,h2⟩:=Ew g
    cases x with
    | cells a=>
      unfold Dn
      split
      · rename_i b q he
        rw[he] at h1 h2
        refine ⟨?_,fun hw=> ?_⟩
        · rw[Au,Au,←h1,Au];simp[Cp.den]
        · exact Ax.2 ⟨trivial,(Ax.1 (h2 (Ax.1 hw).2)).2⟩
      · refine ⟨?_,fun hw=> ?_⟩
        · rw[Au,Au,h1]
        · exact Ax.2 ⟨trivial,h2 (Ax.1 hw).2⟩
    | arr k a n=>simp only[Dn];exact ⟨by rw[Au,Au,h1],fun hw=>Ax.2 ⟨(Ax.1 hw).1,h2 (Ax.1 hw).2⟩⟩
    | arrD k a=>simp only[Dn];exact ⟨by rw[Au,Au,h1],fun hw=>Ax.2 ⟨(Ax.1 hw).1,h2 (Ax.1 hw).2⟩⟩
    | bar a n=>simp only[Dn];exact ⟨by rw[Au,Au,h1],fun hw=>Ax.2 ⟨(Ax.1 hw).1,h2 (Ax.1 hw).2⟩⟩
    | junk n=>simp only[Dn];exact ⟨by rw[Au,Au,h1],fun hw=>Ax.2 ⟨(Ax.1 hw).1,h2 (Ax.1 hw).2⟩⟩
    | tail z n=>simp only[Dn];exact ⟨by rw[Au,Au,h1],fun hw=>Ax.2 ⟨(Ax.1 hw).1,h2 (Ax.1 hw).2⟩⟩
theorem Wq(a:T)(s n:Nat):(jor a s n).A S ρ=((a.A S ρ).drop s).take n:=by
  unfold jor
  split
  · simp[T.A]
  · split
    · simp[T.A,T.I];omega
    · simp[T.A,T.I]
  · simp[T.A,T.I]
theorem jmv(k:IntKind)(a:T)(s n:Nat):Av S ρ B (jv1 k a s n)=(((a.A S ρ).drop s).take n).map (Value.int k):=by
  unfold jv1
  split
  · simp[Cj]
  · simp only[Au,Cj,List.append_nil,Cp.den,Wq]
theorem jrr(k:IntKind)(a:T)(s n:Nat)(h:s+n≤(a.A S ρ).length):Cm S ρ (jv1 k a s n):=by
  unfold jv1
  split
  · exact fun _ h=>nomatch h
  · intro g hg
    simp only[List.mem_singleton] at hg
    subst hg
    simp only[Cp.wf,Wq,List.length_take,List.length_drop]
    omega
theorem Zr(g:List Cp):Av S ρ B (jr6 g)=Av S ρ B g∧(Cm S ρ g→Cm S ρ (jr6 g)):=by
  unfold jr6
  split
  · split
    · rename_i k n v m hv
      have:=Cy hv
      subst this
      refine ⟨rfl,fun _ g hg=> ?_⟩
      simp only[List.mem_singleton] at hg
      subst hg
      simp[Cp.wf,T.A,T.I]
    · exact ⟨rfl,id⟩
  · exact ⟨rfl,id⟩
theorem jfc{l:List Cp}{s:Nat}{d:T}{c:List T}{x:Aw}{l':List Cp}(hw:Cm S ρ l)(h:Wk l s d x=some (c,l'))(hc:Dx S ρ c):
    Av S ρ B l'=(Av S ρ B l).set (s+(d.I S ρ).toNat) (x.den S ρ B)∧Cm S ρ l'∧s+(d.I S ρ).toNat<(Av S ρ B l).length:=by
  unfold Wk at h
  split at h
  · rename_i x' p cs j q hs
    obtain ⟨rfl,h2,h3⟩:=Fj (B:=B) hw hs
    split at h
    · rename_i hd
      rw[Qr] at hd;subst hd
      simp only[Option.some.injEq,Prod.mk.injEq] at h
      obtain ⟨rfl,rfl⟩:=h
      have hjl:j<cs.length:=h3 _ rfl
      refine ⟨?_,?_,?_⟩
      · simp only[T.I,Int.toNat_zero,Nat.add_zero]
        rw[Bp,Au,Bp,Au,←h2,jai _ _ _ _ _ (by simpa [Cp.den] using hjl)]
        simp[Cp.den,List.map_set]
      · have:=Ch.1 hw
        exact Ch.2 ⟨this.1,Ax.2 ⟨trivial,(Ax.1 this.2).2⟩⟩
      · simp only[T.I,Int.toNat_zero,Nat.add_zero]
        rw[Bp,Au,←h2];simp[Cp.den];omega
    · cases h
  · rename_i p k a n j q k' t hs
    obtain ⟨rfl,h2,h3⟩:=Fj (B:=B) hw hs
    split at h
    · rename_i hk
      subst hk
      split at h
      · rename_i hcst
        simp only[Bool.and_eq_true] at hcst
        have hd:=Qr.1 hcst.1
        subst hd
        simp only[Option.some.injEq,Prod.mk.injEq] at h
        obtain ⟨rfl,rfl⟩:=h
        have hl:(a.A S ρ).length=n:=(Ax.1 (Ch.1 hw).2).1
        have hjn:j<n:=h3 _ rfl
        obtain ⟨w1,w2⟩:=Ch.1 hw
        refine ⟨?_,(Ew (S:=S) (ρ:=ρ) (B:=B) _).2 ?_,?_⟩
        · rw[(Ew (S:=S) (ρ:=ρ) (B:=B) _).1]
          simp only[T.I,Int.toNat_zero,Nat.add_zero]
          rw[Bp,Bp,Au,Bp,jmv,jmv,Bp,Au,←h2,jai _ _ _ _ _ (by simp[Cp.den];omega)]
          simp only[Cp.den,List.map_cons,List.map_nil,List.drop_zero]
          rw[List.take_of_length_le (l:=List.drop (j+1) _) (by simp;omega)]
          rw[List.set_eq_take_append_cons_drop,if_pos (by simp;omega)]
          simp[List.map_take,List.map_drop]
        · exact Ch.2 ⟨w1,Ch.2 ⟨jrr _ _ _ _ (by omega),Ax.2 ⟨trivial,Ch.2 ⟨jrr _ _ _ _ (by omega),(Ax.1 w2).2⟩⟩⟩⟩
        · simp only[T.I,Int.toNat_zero,Nat.add_zero]
          rw[Bp,Au,←h2];simp[Cp.den];omega
      simp only[Option.some.injEq,Prod.mk.injEq] at h
      obtain ⟨rfl,rfl⟩:=h
      obtain ⟨hd,hi⟩:=Kc hc
      have hl:(a.A S ρ).length=n:=(Ax.1 (Ch.1 hw).2).1
      simp only[Dg,T.I] at hi
      refine ⟨?_,?_,?_⟩
      · rw[Bp,Au,Bp,Au,←h2,Nat.add_assoc,jai _ _ _ _ _ (by simp[Cp.den];omega)]
        simp only[Cp.den,Aw.den,T.A,Dg,T.I,List.map_set]
        rw[show ((j:Int)+d.I S ρ).toNat=j+(d.I S ρ).toNat from by omega]
      · have:=Ch.1 hw
        exact Ch.2 ⟨this.1,Ax.2 ⟨by simp[Cp.wf,T.A,hl],(Ax.1 this.2).2⟩⟩
      · rw[Bp,Au,←h2];simp[Cp.den];omega
    · cases h
  · rename_i p k a j q k' t hs
    obtain ⟨rfl,h2,h3⟩:=Fj (B:=B) hw hs
    split at h
    · rename_i hk
      subst hk
      simp only[Option.some.injEq,Prod.mk.injEq] at h
      obtain ⟨rfl,rfl⟩:=h
      obtain ⟨hd,hi⟩:=Kc hc
      simp only[Dg,T.I] at hi
      refine ⟨?_,?_,?_⟩
      · rw[Bp,Au,Bp,Au,←h2,Nat.add_assoc,jai _ _ _ _ _ (by simp[Cp.den];omega)]
        simp only[Cp.den,Aw.den,T.A,Dg,T.I,List.map_set]
        rw[show ((j:Int)+d.I S ρ).toNat=j+(d.I S ρ).toNat from by omega]
      · have:=Ch.1 hw
        exact Ch.2 ⟨this.1,Ax.2 ⟨trivial,(Ax.1 this.2).2⟩⟩
      · rw[Bp,Au,←h2];simp[Cp.den];omega
    · cases h
  · rename_i p a n j q t hs
    obtain ⟨rfl,h2,h3⟩:=Fj (B:=B) hw hs
    simp only[Option.some.injEq,Prod.mk.injEq] at h
    obtain ⟨rfl,rfl⟩:=h
    obtain ⟨hd,hi⟩:=Kc hc
    have hl:(a.A S ρ).length=n:=(Ax.1 (Ch.1 hw).2).1
    simp only[Dg,T.I] at hi
    refine ⟨?_,?_,?_⟩
    · rw[Bp,Au,Bp,Au,←h2,Nat.add_assoc,jai _ _ _ _ _ (by simp[Cp.den];omega)]
      simp only[Cp.den,Aw.den,T.A,Dg,jk6,T.I,List.map_set]
      rw[show ((j:Int)+d.I S ρ).toNat=j+(d.I S ρ).toNat from by omega]
      congr 3
      cases t.B S ρ<;>rfl
    · have:=Ch.1 hw
      exact Ch.2 ⟨this.1,Ax.2 ⟨by simp[Cp.wf,T.A,hl],(Ax.1 this.2).2⟩⟩
    · rw[Bp,Au,←h2];simp[Cp.den];omega
  · cases h
theorem Fn: ∀{l:List Cp} {n:Nat} {x y:List Cp},Cm S ρ l→Fd l n=some (x,y)→
    Av S ρ B x++Av S ρ B y=Av S ρ B l∧(Av S ρ B x).length=n∧Cm S ρ x∧Cm S ρ y
  | l,0,x,y,hw,h=>by
    cases l<;>(simp only[Fd,Option.some.injEq,Prod.mk.injEq] at h;obtain ⟨rfl,rfl⟩:=h;exact ⟨rfl,rfl,(fun _ h=>nomatch h),hw⟩)
  | [],n+1,x,y,_,h=>by simp[Fd] at h
  | g::r,n+1,x,y,hw,h=>by
    have hg:=(Ax.1 hw).1
    have hr:=(Ax.1 hw).2
    unfold Fd at h
    split at h
    · rename_i cs
      split at h
      · rename_i hle
        cases hq:Fd r (n+1-cs.length) with
        | none=>simp[hq] at h
        | some xy=>
          obtain ⟨x',y'⟩:=xy
          simp[hq] at h
          obtain ⟨rfl,rfl⟩:=h
          obtain ⟨h1,h2,h3,h4⟩:=Fn hr hq
          refine ⟨by rw[Au,Au,List.append_assoc,h1],?_,Ax.2 ⟨hg,h3⟩,h4⟩
          rw[Au,List.length_append,h2];simp[Cp.den];omega
      · rename_i hle
        simp only[Option.some.injEq,Prod.mk.injEq] at h
        obtain ⟨rfl,rfl⟩:=h
        refine ⟨?_,?_,fun _ h=>by simp at h;subst h;trivial,Ax.2 ⟨trivial,hr⟩⟩
        · simp only[Au,Cj,List.append_nil,Cp.den,←List.append_assoc,←List.map_append,List.take_append_drop]
        · simp[Au,Cj,Cp.den];omega
    · rename_i k a m
      have hl:(a.A S ρ).length=m:=hg
      split at h
      · rename_i hle
        cases hq:Fd r (n+1-m) with
        | none=>simp[hq] at h
        | some xy=>
          obtain ⟨x',y'⟩:=xy
          simp[hq] at h
          obtain ⟨rfl,rfl⟩:=h
          obtain ⟨h1,h2,h3,h4⟩:=Fn hr hq
          refine ⟨by rw[Au,Au,List.append_assoc,h1],?_,Ax.2 ⟨hg,h3⟩,h4⟩
          rw[Au,List.length_append,h2];simp[Cp.den];omega
      · rename_i hle
        simp only[Option.some.injEq,Prod.mk.injEq] at h
        obtain ⟨rfl,rfl⟩:=h
        refine ⟨?_,?_,fun _ h=> ?_,Ax.2 ⟨?_,hr⟩⟩
        · simp only[Au,Cj,List.append_nil,Cp.den,Wq,←List.append_assoc,←List.map_append,List.drop_zero]
          rw[List.take_of_length_le (l:=List.drop (n+1) _) (by simp;omega),List.take_append_drop]
        · simp[Au,Cj,Cp.den,Wq];omega
        · simp at h;subst h;simp[Cp.wf,Wq];omega
        · simp[Cp.wf,Wq];omega
    · cases h
theorem Sg{i d m:T}{n:Nat}(h:Dx S ρ (needs [Ek (.lit 0) d,Ek (Ej i (.lit n)) m])):0≤d.I S ρ∧i.I S ρ+n≤m.I S ρ:=by
  have h':=Fu h
  have h1:=(Ag.1 h').1
  have h2:=(Ag.1 (Ag.1 h').2).1
  rw[Sh,decide_eq_true_eq] at h1
  rw[Sh,decide_eq_true_eq,Dg] at h2
  exact ⟨by simpa [T.I] using h1,by simpa [T.I] using h2⟩
theorem jo7{α:Type}(p m q:List α)(j n:Nat)(h:j+n≤m.length):((p++(m++q)).drop (p.length+j)).take n=(m.drop j).take n:=by
  rw[List.drop_append,List.drop_eq_nil_of_le (by omega:p.length≤p.length+j),List.nil_append,show p.length+j-p.length=j from by omega,List.drop_append,List.take_append]
  rw[show n-(List.drop j m).length=0 from by simp;omega]
  simp
theorem Qw{l:List Cp}{s:Nat}{d:T}{n:Nat}{c:List T}{x:List Cp}(hw:Cm S ρ l)(h:Rm l s d n=some (c,x))(hc:Dx S ρ c):
    Av S ρ B x=((Av S ρ B l).drop (s+(d.I S ρ).toNat)).take n∧(Av S ρ B x).length=n∧Cm S ρ x:=by
  unfold Rm at h
  split at h
  · rename_i hd
    rw[Qr] at hd;subst hd
    split at h
    · rename_i p y hp
      obtain ⟨h1,h2,h3,h4⟩:=Fn (B:=B) hw hp
      cases hq:Fd y n with
      | none=>simp[hq] at h
      | some xy=>
        obtain ⟨x',y'⟩:=xy
        simp[hq] at h
        obtain ⟨rfl,rfl⟩:=h
        obtain ⟨k1,k2,k3,k4⟩:=Fn (B:=B) h4 hq
        refine ⟨?_,k2,k3⟩
        simp only[T.I,Int.toNat_zero,Nat.add_zero]
        rw[←h1,←k1,←h2,List.drop_append,List.drop_length,List.nil_append,Nat.sub_self,List.drop_zero,←k2,List.take_append_length]
    · cases h
  · split at h
    · rename_i p k a m j q hs
      obtain ⟨rfl,h2,h3⟩:=Fj (B:=B) hw hs
      simp only[Option.some.injEq,Prod.mk.injEq] at h
      obtain ⟨rfl,rfl⟩:=h
      obtain ⟨hd,hi⟩:=Sg hc
      have hl:(a.A S ρ).length=m:=(Ax.1 (Ch.1 hw).2).1
      simp only[Dg,T.I] at hi
      refine ⟨?_,?_,?_⟩
      · rw[Bp,Au (l:=q),←h2,Nat.add_assoc,jo7 _ _ _ _ _ (by simp[Cp.den];omega)]
        simp only[Au,Cj,List.append_nil,Cp.den,T.A,Dg,T.I,List.map_take,List.map_drop]
        rw[show ((j:Int)+d.I S ρ).toNat=j+(d.I S ρ).toNat from by omega,Int.toNat_natCast]
      · simp[Au,Cj,Cp.den,T.A,Dg,T.I];omega
      · intro g hg;simp at hg;subst hg;simp[Cp.wf,T.A,Dg,T.I];omega
    · rename_i p k a j q hs
      obtain ⟨rfl,h2,h3⟩:=Fj (B:=B) hw hs
      simp only[Option.some.injEq,Prod.mk.injEq] at h
      obtain ⟨rfl,rfl⟩:=h
      obtain ⟨hd,hi⟩:=Sg hc
      simp only[Dg,T.I] at hi
      refine ⟨?_,?_,?_⟩
      · rw[Bp,Au (l:=q),←h2,Nat.add_assoc,jo7 _ _ _ _ _ (by simp[Cp.den];omega)]
        simp only[Au,Cj,List.append_nil,Cp.den,T.A,Dg,T.I,List.map_take,List.map_drop]
        rw[show ((j:Int)+d.I S ρ).toNat=j+(d.I S ρ).toNat from by omega,Int.toNat_natCast]
      · simp[Au,Cj,Cp.den,T.A,Dg,T.I];omega
      · intro g hg;simp at hg;subst hg;simp[Cp.wf,T.A,Dg,T.I];omega
    · cases h
theorem Xy(p m q:List Value)(j:Nat)(b:List Value)(h:j+b.length≤m.length):
    (p++(m++q)).take (p.length+j)++(b++(p++(m++q)).drop (p.length+j+b.length))=p++((m.take j++(b++m.drop (j+b.length)))++q):=by
  rw[List.take_append,List.take_of_length_le (by omega:p.length≤p.length+j),show p.length+j-p.length=j from by omega,List.take_append,
    show j-m.length=0 from by omega,List.drop_append,List.drop_eq_nil_of_le (by omega:p.length≤p.length+j+b.length),List.nil_append,
    show p.length+j+b.length-p.length=j+b.length from by omega,List.drop_append,show j+b.length-m.length=0 from by omega]
  simp[List.append_assoc]
theorem Oy{l:List Cp}{s:Nat}{d:T}{n:Nat}{c:List T}{x l':List Cp}(hw:Cm S ρ l)(hx:Cm S ρ x)(hn:(Av S ρ B x).length=n)(h:Nb l s d n x=some (c,l'))(hc:Dx S ρ c):
    Av S ρ B l'=(Av S ρ B l).take (s+(d.I S ρ).toNat)++(Av S ρ B x++(Av S ρ B l).drop (s+(d.I S ρ).toNat+n))∧Cm S ρ l'∧s+(d.I S ρ).toNat+n≤(Av S ρ B l).length:=by
  unfold Nb at h
  split at h
  · rename_i hd
    rw[Qr] at hd;subst hd
    split at h
    · rename_i p y hp
      obtain ⟨h1,h2,h3,h4⟩:=Fn (B:=B) hw hp
      cases hq:Fd y n with
      | none=>simp[hq] at h
      | some xy=>
        obtain ⟨x',y'⟩:=xy
        simp[hq] at h
        obtain ⟨rfl,rfl⟩:=h
        obtain ⟨k1,k2,k3,k4⟩:=Fn (B:=B) h4 hq
        simp only[T.I,Int.toNat_zero,Nat.add_zero]
        refine ⟨?_,Ch.2 ⟨h3,Ch.2 ⟨hx,k4⟩⟩,?_⟩
        · rw[←h1,←k1,←h2,List.take_append_length,Bp,Bp]
          congr 2
          rw[List.drop_append,List.drop_eq_nil_of_le (by omega),List.nil_append,List.drop_append,List.drop_eq_nil_of_le (by omega),List.nil_append]
          rw[show (Av S ρ B p).length+n-(Av S ρ B p).length-(Av S ρ B x').length=0 from by omega];rfl
        · rw[←h1,←k1];simp;omega
    · cases h
  · split at h
    · rename_i p k a m j q k' b n' hs
      split at h
      · rename_i hk
        obtain ⟨rfl,rfl⟩:=hk
        obtain ⟨rfl,h2,h3⟩:=Fj (B:=B) hw hs
        simp only[Option.some.injEq,Prod.mk.injEq] at h
        obtain ⟨rfl,rfl⟩:=h
        obtain ⟨hd,hi⟩:=Sg hc
        have hl:(a.A S ρ).length=m:=(Ax.1 (Ch.1 hw).2).1
        simp only[Dg,T.I] at hi
        have hb:(b.A S ρ).length=n':=by simpa [Au,Cj,Cp.den] using hn
        refine ⟨?_,?_,?_⟩
        · have:=Xy (Av S ρ B p) ((a.A S ρ).map (Value.int k)) (Av S ρ B q) (j+(d.I S ρ).toNat) ((b.A S ρ).map (Value.int k)) (by simp;omega)
          simp only[List.length_map,hb] at this
          simp only[Bp,Au,Cj,List.append_nil,Cp.den]
          rw[←h2,Nat.add_assoc (Av S ρ B p).length,this]
          simp only[T.A,Cb,Dg,T.I,List.map_append,List.map_take,List.map_drop]
          rw[show ((j:Int)+d.I S ρ).toNat=j+(d.I S ρ).toNat from by omega,hb]
        · have:=Ch.1 hw
          exact Ch.2 ⟨this.1,Ax.2 ⟨by simp[Cp.wf,T.A,Cb,Dg,T.I];omega,(Ax.1 this.2).2⟩⟩
        · rw[Bp,Au,←h2];simp[Cp.den];omega
      · cases h
    · rename_i p k a j q k' b n' hs
      split at h
      · rename_i hk
        obtain ⟨rfl,rfl⟩:=hk
        obtain ⟨rfl,h2,h3⟩:=Fj (B:=B) hw hs
        simp only[Option.some.injEq,Prod.mk.injEq] at h
        obtain ⟨rfl,rfl⟩:=h
        obtain ⟨hd,hi⟩:=Sg hc
        simp only[Dg,T.I] at hi
        have hb:(b.A S ρ).length=n':=by simpa [Au,Cj,Cp.den] using hn
        refine ⟨?_,?_,?_⟩
        · have:=Xy (Av S ρ B p) ((a.A S ρ).map (Value.int k)) (Av S ρ B q) (j+(d.I S ρ).toNat) ((b.A S ρ).map (Value.int k)) (by simp;omega)
          simp only[List.length_map,hb] at this
          simp only[Bp,Au,Cj,List.append_nil,Cp.den]
          rw[←h2,Nat.add_assoc (Av S ρ B p).length,this]
          simp only[T.A,Cb,Dg,T.I,List.map_append,List.map_take,List.map_drop]
          rw[show ((j:Int)+d.I S ρ).toNat=j+(d.I S ρ).toNat from by omega,hb]
        · have:=Ch.1 hw
          exact Ch.2 ⟨this.1,Ax.2 ⟨trivial,(Ax.1 this.2).2⟩⟩
        · rw[Bp,Au,←h2];simp[Cp.den];omega
      · cases h
    · cases h
end
def qlb(S:Hw)(ρ:Et)(w0:World)(h:Hp)(o:OW)(w:World):Prop:=
  (ρ.v o.v=.slice none 0 0∧o.a.A S ρ=[])∨
  ∃b cap,ρ.v o.v=.slice (some ⟨b,0,none⟩) (o.a.A S ρ).length cap∧(o.a.A S ρ).length≤cap∧
    w.heap[b]? =some (.cells ((o.a.A S ρ).map (Value.int o.k)++List.replicate (cap-(o.a.A S ρ).length) (Value.int o.k 0)).toArray o.e (0,0))∧
    (w0.heap.size≤b∨b∈ρ.loose)∧(∀x∈h.rw,x.1.blk ρ w0.heap.size≠b)∧ ∀x∈h.ro,x.1.blk ρ w0.heap.size≠b
structure Cv(S:Hw)(ρ:Et)(w0:World)(h:Hp)(w:World):Prop where
  rw_: ∀x∈h.rw,w.heap[x.1.blk ρ w0.heap.size]? =some (.cells (Av S ρ w0.heap.size x.2.segs).toArray x.2.ty (0,0))
  wf: ∀x∈h.rw,Cm S ρ x.2.segs
  off: ∀x∈h.rw,x.1.off ρ=0
  nd:(h.rw.map fun x=>x.1.blk ρ w0.heap.size).Nodup
  ro: ∀x∈h.ro,∀j v,(x.2.2.A S ρ)[j]? =some v→w.cell? ⟨x.1.blk ρ w0.heap.size,x.1.off ρ+j,none⟩=some (.int x.2.1 v)
  apart: ∀x∈h.ro,∀y∈h.rw,x.1.blk ρ w0.heap.size≠y.1.blk ρ w0.heap.size
  rolt: ∀x∈h.ro,x.1.blk ρ w0.heap.size<w0.heap.size
  size:w.heap.size=w0.heap.size+ρ.nb h.na
  nbs: ∀k,h.na≤k→ρ.nb (k+1)=ρ.nb k+1
  frame: ∀i,i<w0.heap.size→i∉ρ.loose→(∀x∈h.rw,x.1.blk ρ w0.heap.size≠i)→w.heap[i]? =w0.heap[i]?
  own: ∀o,h.ow=some o→qlb S ρ w0 h o w
  os:w.os=w0.os
  tape:w.tape=w0.tape
  output:w.output=w0.output
section
variable {S:Hw} {ρ:Et} {w0 w:World} {h:Hp} {P:Program}
theorem Cv.drew(hh:Cv S ρ w0 h w):Cv S ρ w0 h w.drew:=
  ⟨hh.rw_,hh.wf,hh.off,hh.nd,hh.ro,hh.apart,hh.rolt,hh.size,hh.nbs,hh.frame,hh.own,hh.os,hh.tape,hh.output⟩
theorem Gw: ∀{l:List (Cl×Gn)} {r:Cl} {b:Gn},Jr l r=some b→(r,b)∈l
  | [],_,_,h=>by simp[Jr] at h
  | (q,c)::l,r,b,h=>by
    unfold Jr at h
    split at h
    · rename_i e;have e:=Cl.code_inj e;subst e;injection h with h;subst h;simp
    · exact List.mem_cons_of_mem _ (Gw h)
theorem Jo: ∀{l:List (Cl×IntKind×T)} {r:Cl} {b:IntKind×T},Na l r=some b→(r,b)∈l
  | [],_,_,h=>by simp[Na] at h
  | (q,c)::l,r,b,h=>by
    unfold Na at h
    split at h
    · rename_i e;have e:=Cl.code_inj e;subst e;injection h with h;subst h;simp
    · exact List.mem_cons_of_mem _ (Jo h)
theorem jg4(f:Cl→Nat): ∀(l:List (Cl×Gn)) (r:Cl) (c:Gn),(Tp l r c).map (fun x=>f x.1)=l.map (fun x=>f x.1)
  | [],_,_=>rfl
  | (q,d)::l,r,c=>by
    unfold Tp;split
    · rfl
    · simp[jg4 f l r c]
theorem jna: ∀{l:List (Cl×Gn)} {r:Cl} {c:Gn} {x:Cl×Gn} (f:Cl→Nat),(l.map (fun x=>f x.1)).Nodup→x∈Tp l r c→x=(r,c)∨(x∈l∧((∃b,(r,b)∈l)→f x.1≠f r))
  | [],_,_,_,_,_,h=>by simp[Tp] at h
  | (q,d)::l,r,c,x,f,hn,h=>by
    simp only[List.map_cons,List.nodup_cons] at hn
    unfold Tp at h
    split at h
    · rename_i e
      have e:=Cl.code_inj e
      subst e
      rcases List.mem_cons.1 h with h|h
      · exact .inl h
      · refine .inr ⟨List.mem_cons_of_mem _ h,fun _ e=>hn.1 ?_⟩
        rw[←e];exact List.mem_map.2 ⟨x,h,rfl⟩
    · rename_i e
      have e:=Cl.code_ne e
      rcases List.mem_cons.1 h with h|h
      · subst h
        refine .inr ⟨by simp,fun ⟨b,hb⟩ e'=> ?_⟩
        rcases List.mem_cons.1 hb with hb|hb
        · injection hb with hb _;exact e hb.symm
        · apply hn.1;rw[e'];exact List.mem_map.2 ⟨(r,b),hb,rfl⟩
      · rcases jna f hn.2 h with h|⟨h1,h2⟩
        · exact .inl h
        · refine .inr ⟨List.mem_cons_of_mem _ h1,fun ⟨b,hb⟩=> ?_⟩
          rcases List.mem_cons.1 hb with hb|hb
          · injection hb with hb _;exact absurd hb.symm e
          · exact h2 ⟨b,hb⟩
theorem Cv.upd(hh:Cv S ρ w0 h w){r:Cl}{b:Gn}(hb:Jr h.rw r=some b){segs:List Cp}(hwf:Cm S ρ segs){w':World}
    (h1:w'.heap[r.blk ρ w0.heap.size]? =some (.cells (Av S ρ w0.heap.size segs).toArray b.ty (0,0)))(h2: ∀i,i≠r.blk ρ w0.heap.size→w'.heap[i]? =w.heap[i]?)
    (h3:w'.heap.size=w.heap.size)(h4:w'.os=w.os)(h5:w'.tape=w.tape)(h6:w'.output=w.output):
    Cv S ρ w0 {h with rw:=Tp h.rw r {b with segs:=segs}} w':=by
  have hm:=Gw hb
  have key: ∀x∈Tp h.rw r {b with segs:=segs},x=(r,{b with segs:=segs})∨(x∈h.rw∧x.1.blk ρ w0.heap.size≠r.blk ρ w0.heap.size):=fun x hx=>by
    rcases jna (fun q=>q.blk ρ w0.heap.size) hh.nd hx with h|⟨h1,h2⟩
    · exact .inl h
    · exact .inr ⟨h1,h2 ⟨b,hm⟩⟩
  have back: ∀x∈Tp h.rw r {b with segs:=segs},∃y∈h.rw,x.1=y.1:=fun x hx=>by
    rcases key x hx with h|⟨h,_⟩
    · subst h;exact ⟨(r,b),hm,rfl⟩
    · exact ⟨x,h,rfl⟩
  have fwd: ∀i,(∀x∈Tp h.rw r {b with segs:=segs},x.1.blk ρ w0.heap.size≠i)→ ∀x∈h.rw,x.1.blk ρ w0.heap.size≠i:=by
    intro i hi x hx e
    have h7:i∈(Tp h.rw r {b with segs:=segs}).map (fun x=>x.1.blk ρ w0.heap.size):=by
      rw[jg4 (fun q=>q.blk ρ w0.heap.size)];exact List.mem_map.2 ⟨x,hx,e⟩
    obtain ⟨y,hy,e'⟩:=List.mem_map.1 h7
    exact hi y hy e'
  refine ⟨?_,?_,?_,?_,?_,?_,hh.rolt,h3.trans hh.size,hh.nbs,?_,?_,h4.trans hh.os,h5.trans hh.tape,h6.trans hh.output⟩
  · intro x hx
    rcases key x hx with h|⟨h,hne⟩
    · subst h;exact h1
    · rw[h2 _ hne];exact hh.rw_ x h
  · intro x hx
    rcases key x hx with h|⟨h,hne⟩
    · subst h;exact hwf
    · exact hh.wf x h
  · intro x hx
    obtain ⟨y,hy,e⟩:=back x hx
    rw[e];exact hh.off y hy
  · show ((Tp h.rw r {b with segs:=segs}).map fun x=>x.1.blk ρ w0.heap.size).Nodup
    rw[jg4 (fun q=>q.blk ρ w0.heap.size)];exact hh.nd
  · intro x hx j v hv
    rw[World.cell?_of_block (w:=w) (h2 _ (hh.apart x hx (r,b) hm))]
    exact hh.ro x hx j v hv
  · intro x hx y hy
    obtain ⟨z,hz,e⟩:=back y hy
    rw[e];exact hh.apart x hx z hz
  · intro i hi hlo hne
    rw[h2 i (by have:=fwd i hne (r,b) hm;exact fun e=>this e.symm)]
    exact hh.frame i hi hlo (fwd i hne)
  · intro o ho
    rcases hh.own o ho with h|⟨p,cap,q1,q2,q3,q4,q5,q6⟩
    · exact .inl h
    · refine .inr ⟨p,cap,q1,q2,?_,q4,fun x hx=> ?_,q6⟩
      · rw[h2 p (fun e=>q5 (r,b) hm e.symm)];exact q3
      · obtain ⟨y,hy,e⟩:=back x hx
        rw[e];exact q5 y hy
theorem Cv.push(hh:Cv S ρ w0 h w)(t:Nat){segs:List Cp}(hwf:Cm S ρ segs):
    Cv S ρ w0 (Ze h ⟨t,segs⟩) (w.alloc (.cells (Av S ρ w0.heap.size segs).toArray t)):=by
  have hlt: ∀x∈h.rw,x.1.blk ρ w0.heap.size<w.heap.size:=fun x hx=>(Array.getElem?_eq_some_iff.1 (hh.rw_ x hx)).1
  have hn:(Cl.new h.na).blk ρ w0.heap.size=w.heap.size:=hh.size.symm
  have hold: ∀i,i<w.heap.size→(w.alloc (.cells (Av S ρ w0.heap.size segs).toArray t)).heap[i]? =w.heap[i]? :=fun i hi=>heap_alloc_old w _ hi
  refine ⟨?_,?_,?_,?_,?_,?_,?_,?_,fun k hk=>hh.nbs k (Nat.le_of_succ_le hk),?_,?_,hh.os,hh.tape,hh.output⟩
  · intro x hx
    rcases List.mem_append.1 hx with hx|hx
    · rw[hold _ (hlt x hx)];exact hh.rw_ x hx
    · simp only[List.mem_singleton] at hx
      subst hx
      simp only[hn]
      exact heap_alloc_new w _
  · intro x hx
    rcases List.mem_append.1 hx with hx|hx
    · exact hh.wf x hx
    · simp only[List.mem_singleton] at hx
      subst hx
      exact hwf
  · intro x hx
    rcases List.mem_append.1 hx with hx|hx
    · exact hh.off x hx
    · simp only[List.mem_singleton] at hx
      subst hx
      rfl
  · show ((h.rw++ [(Cl.new h.na,(⟨t,segs⟩:Gn))]).map fun x=>x.1.blk ρ w0.heap.size).Nodup
    rw[List.map_append,List.nodup_append]
    refine ⟨hh.nd,by simp,?_⟩
    intro a ha b hb e
    obtain ⟨x,hx,e'⟩:=List.mem_map.1 ha
    simp only[List.map_cons,List.map_nil,List.mem_singleton] at hb
    have:=hlt x hx
    rw[hn] at hb
    omega
  · intro x hx j v hv
    have hc:=hh.ro x hx j v hv
    rw[World.cell?_alloc_lt w _ _ (World.block_lt_of_cell? w _ hc)]
    exact hc
  · intro x hx y hy
    rcases List.mem_append.1 hy with hy|hy
    · exact hh.apart x hx y hy
    · simp only[List.mem_singleton] at hy
      subst hy
      simp only[hn]
      have:=hh.rolt x hx
      have:=hh.size
      omega
  · exact hh.rolt
  · simp only[World.size_alloc,Ze];rw[hh.size,hh.nbs h.na (Nat.le_refl _)];omega
  · intro i hi hlo hne
    have:=hh.size
    rw[hold i (by omega)]
    exact hh.frame i hi hlo fun x hx=>hne x (List.mem_append.2 (.inl hx))
  · intro o ho
    rcases hh.own o ho with h|⟨p,cap,q1,q2,q3,q4,q5,q6⟩
    · exact .inl h
    · have hp:p<w.heap.size:=(Array.getElem?_eq_some_iff.1 q3).1
      refine .inr ⟨p,cap,q1,q2,by rw[hold p hp];exact q3,q4,fun x hx=> ?_,q6⟩
      rcases List.mem_append.1 hx with hx|hx
      · exact q5 x hx
      · simp only[List.mem_singleton] at hx
        subst hx
        rw[hn];omega
def jrg(P:Program)(a:Act)(w:World)(o:Oper)(v:Value)(w':World):Prop:=
  (execOp a.eval o).run P w=.ok (.value v) w'∨((execOp a.eval o).run P w=.ok .skip w'∧v=undef)
theorem jrg.wp{a:Act}{o:Oper}{v:Value}{w':World}(hy:jrg P a w o v w'){K:Act→World→Prop}{Q:Exit→Act→World→Prop}(hK:K (a.put o.dst v) w'):o.wp P a w K Q:=by
  unfold Oper.wp
  rcases hy with hy|⟨hy,rfl⟩<;>rw[hy]<;>exact hK
theorem Sn{v:Value}{l:Aw}{B:Nat}(hv:Rb v=some l):l.den S ρ B=v:=by
  unfold Rb at hv
  split at hv<;>try (simp only[Option.some.injEq] at hv)
  · subst hv;rfl
  · subst hv;simp[Aw.den,Vo]
  · subst hv;rfl
  · subst hv;rfl
  · subst hv;rfl
  · subst hv;rfl
  · rename_i f x y
    split at hv
    · rename_i hc
      injection hv with hv
      subst hv
      simp only[Aw.den]
      rw[Array.eq_empty_of_size_eq_zero hc.1,Array.eq_empty_of_size_eq_zero hc.2]
    · cases hv
  · rename_i vs
    split at hv
    · rename_i hc
      injection hv with hv
      subst hv
      simp only[Aw.den,undef]
      rw[Array.eq_empty_of_size_eq_zero hc]
    · cases hv
  · cases hv
def Pq(S:Hw)(ρ:Et)(B:Nat)(fr:Nat→SR)(a:Act)(xs:Array Operand):Prop:= ∀t,Operand.tmp t∈xs→a.tmps.getD t undef=(fr t).den S ρ B
theorem Hx{fr:Nat→SR}{a:Act}{xs:Array Operand}{B:Nat}(ha:Pq S ρ B fr a xs){x:Operand}(hx:x∈xs){r:SR}(hr:Ua fr x=some r):a.eval x=r.den S ρ B:=by
  cases x with
  | tmp t=>simp only[Ua,Option.some.injEq] at hr;subst hr;exact ha t hx
  | const v=>
    simp only[Ua,Option.map_eq_some_iff] at hr
    obtain ⟨l,hl,rfl⟩:=hr
    simp only[Act.eval,Aw.sr,SR.den,SV.den]
    exact (Sn hl).symm
  | global g=>simp only[Ua,Option.some.injEq] at hr;subst hr;simp[Act.eval,SR.den,SV.den,Aw.den,Cw,Cl.blk,Cl.off,T.I]
  | func f=>simp only[Ua,Option.some.injEq] at hr;subst hr;simp[Act.eval,SR.den,SV.den,Aw.den]
theorem Dp{fr:Nat→SR}{a:Act}{xs:Array Operand}{B:Nat}(ha:Pq S ρ B fr a xs){x:Operand}(hx:x∈xs){l:Aw}(hl:Vy fr x=some l):a.eval x=l.den S ρ B:=by
  unfold Vy at hl
  split at hl
  · rename_i l' hr
    injection hl with hl
    subst hl
    exact Hx ha hx hr
  · cases hl
theorem Gs{fr:List SR}(hf: ∀x∈fr,x.wf S ρ)(t:Nat):(Do fr t).wf S ρ:=by
  unfold Do
  rw[List.getD_eq_getElem?_getD]
  cases ht:fr[t]? with
  | none=>trivial
  | some x=>exact hf x (List.mem_of_getElem? ht)
theorem Nu{fr:Nat→SR}(hf: ∀t,(fr t).wf S ρ){x:Operand}{r:SR}(hr:Ua fr x=some r):r.wf S ρ:=by
  cases x with
  | tmp t=>simp only[Ua,Option.some.injEq] at hr;subst hr;exact hf t
  | const v=>
    simp only[Ua,Option.map_eq_some_iff] at hr
    obtain ⟨l,hl,rfl⟩:=hr
    trivial
  | global g=>simp only[Ua,Option.some.injEq] at hr;subst hr;trivial
  | func f=>simp only[Ua,Option.some.injEq] at hr;subst hr;trivial
end
section
variable {S:Hw} {ρ:Et} {w0 w:World} {h:Hp} {P:Program} {B:Nat}
theorem Qd{t:T}(h:Dx S ρ (needs [t])):t.B S ρ=true:=(Ag.1 (Fu h)).1
theorem jhr{t:TypeId}{a:T}(h:Jv P t (.bool a)=true):P.underlying t=some .bool:=by
  unfold Jv at h
  cases hu:P.underlying t with
  | none=>simp[hu] at h
  | some d=>cases d<;>simp[hu] at h;rfl
theorem ji8{t:TypeId}(h:Jv P t .nilI=true): ∃ms,P.underlying t=some (.interface ms):=by
  unfold Jv at h
  cases hu:P.underlying t with
  | none=>simp[hu] at h
  | some d=>cases d<;>simp[hu] at h;exact ⟨_,rfl⟩
theorem je4{t u:TypeId}{x:Aw}(h:Jv P t (.iface u x)=true): ∃ms,P.underlying t=some (.interface ms):=by
  unfold Jv at h
  cases hu:P.underlying t with
  | none=>simp[hu] at h
  | some d=>cases d<;>simp[hu] at h;exact ⟨_,rfl⟩
theorem jj3{t:TypeId}(h:Jv P t .nilp=true): ∃e,P.underlying t=some (.pointer e):=by
  unfold Jv at h
  cases hu:P.underlying t with
  | none=>simp[hu] at h
  | some d=>cases d<;>simp[hu] at h;exact ⟨_,rfl⟩
theorem jms{t:TypeId}{r:Cl}{s:Nat}{d:T}(h:Jv P t (.ptr r s d)=true): ∃e,P.underlying t=some (.pointer e):=by
  unfold Jv at h
  cases hu:P.underlying t with
  | none=>simp[hu] at h
  | some d=>cases d<;>simp[hu] at h;exact ⟨_,rfl⟩
theorem Qj{op:BinOp}{t:TypeId}{X Y:Operand}(h:(Kx X||Kx Y)=true):(eqGuard op t X Y .nilIface .nilIface).run P w=.ok () w:=by
  unfold eqGuard
  cases X<;>cases Y<;>simp_all [Kx]<;>cases op<;>simp
theorem jc6{t:TypeId}{ms:Array (String×TypeId)}(hd:P.underlying t=some (.interface ms))(d:Nat):(Op.equalIn (d+1) t .nilIface .nilIface).run P w=.ok true w:=by
  simp[Op.equalIn,run_underlying hd]
theorem Tw{t:TypeId}{ms:Array (String×TypeId)}(hd:P.underlying t=some (.interface ms)):(Op.equal t .nilIface .nilIface).run P w=.ok true w:=jc6 hd 9999
theorem Sd{t u:TypeId}{x:Value}{ms:Array (String×TypeId)}(hd:P.underlying t=some (.interface ms))(d:Nat):(Op.equalIn (d+1) t (.iface u x) .nilIface).run P w=.ok false w:=by
  simp[Op.equalIn,run_underlying hd]
theorem Np{t u:TypeId}{x:Value}{ms:Array (String×TypeId)}(hd:P.underlying t=some (.interface ms)):(Op.equal t (.iface u x) .nilIface).run P w=.ok false w:=Sd hd 9999
theorem jc3{t e:TypeId}{x:Option Addr}(hd:P.underlying t=some (.pointer e))(d:Nat):(Op.equalIn (d+1) t (.pointer x) (.pointer none)).run P w=.ok x.isNone w:=by
  cases x<;>simp[Op.equalIn,run_underlying hd]
theorem Mj{t e:TypeId}{x:Option Addr}(hd:P.underlying t=some (.pointer e)):(Op.equal t (.pointer x) (.pointer none)).run P w=.ok x.isNone w:=jc3 hd 9999
theorem Vx{k:IntKind}{c:List T}{s:T}(hm:Dx S ρ (c++(j0t k s).1)):Dx S ρ c∧(j0t k s).2.I S ρ=k.wrap (s.I S ρ):=by
  obtain ⟨m1,m2⟩:=Co.1 hm
  refine ⟨m1,?_⟩
  unfold j0t at m2⊢
  split
  · have m2:=Fu m2
    have b1:=(Ag.1 m2).1
    have b2:=(Ag.1 (Ag.1 m2).2).1
    rw[Sh] at b1 b2
    have b1:=of_decide_eq_true b1
    have b2:=of_decide_eq_true b2
    simp only[T.I] at b1 b2
    show s.I S ρ=_
    rw[IntKind.wrap_i64];omega
  · exact j15 _ _
theorem jj9{k:IntKind}{c d:List T}{s:T}{l:Aw}(h:jh7 k c s=some (d,l))(hm:Dx S ρ d):Dx S ρ c∧ ∃u:T,l=.int k u∧u.I S ρ=k.wrap (s.I S ρ):=by
  unfold jh7 at h
  simp only[Option.some.injEq,Prod.mk.injEq] at h
  obtain ⟨rfl,rfl⟩:=h
  obtain ⟨h1,h2⟩:=Vx hm
  exact ⟨h1,_,rfl,h2⟩
set_option maxHeartbeats 1000000 in
theorem qdv{op:BinOp}{t:TypeId}{X Y:Operand}{x y l:Aw}{c:List T}(ht:Jv P t x=true)(hb:j4s op x y (Kx X) (Kx Y)=some (c,l))(hm:Dx S ρ c):
    (do eqGuard op t X Y (x.den S ρ B) (y.den S ρ B);binOp op t (x.den S ρ B) (y.den S ρ B):Sem Value).run P w=.ok (l.den S ρ B) w:=by
  unfold j4s at hb
  split at hb
  · rename_i k a k' b
    obtain ⟨hm,u,rfl,hu⟩:=jj9 hb hm
    have h1:=Qd hm
    rw[Sh,decide_eq_true_eq] at h1
    simp only[T.I] at h1
    have h2: ¬(b.I S ρ<0):=by omega
    simp[eqGuard,binOp,Aw.den,Op.shift,h2,hu,j6g]
  · rename_i k a k' b
    simp only[Option.some.injEq,Prod.mk.injEq] at hb
    obtain ⟨rfl,rfl⟩:=hb
    have h1:=Qd hm
    rw[Sh,decide_eq_true_eq] at h1
    simp only[T.I] at h1
    have h2: ¬(b.I S ρ<0):=by omega
    simp[eqGuard,binOp,Aw.den,Op.shift,h2,j63]
  · rename_i k a k' b hne1 hne2
    split at hb
    · cases hb
    · rename_i hk
      have hk:k=k':=by simpa using hk
      subst hk
      split at hb<;>(try simp only[jh7,Option.some.injEq,Prod.mk.injEq] at hb)<;>(try (obtain ⟨rfl,rfl⟩:=hb))
      · simp[eqGuard,binOp,Aw.den,Op.intArith,(Vx hm).2,Dg]
      · simp[eqGuard,binOp,Aw.den,Op.intArith,(Vx hm).2,jdy]
      · simp[eqGuard,binOp,Aw.den,Op.intArith,(Vx hm).2,Qu]
      · have h1:=Qd (Vx hm).1
        rw[Qe,Zc,Bool.not_eq_true'] at h1
        have h2:=of_decide_eq_false h1
        simp only[T.I] at h2
        simp[eqGuard,binOp,Aw.den,Op.intDiv,h2,(Vx hm).2,jwm]
      · have h1:=Qd hm
        rw[Qe,Zc,Bool.not_eq_true'] at h1
        have h2:=of_decide_eq_false h1
        simp only[T.I] at h2
        simp[eqGuard,binOp,Aw.den,Op.intDiv,h2,jyv]
      · simp[eqGuard,binOp,Aw.den,Op.intBits,Tz,Dj]
      · simp[eqGuard,binOp,Aw.den,Op.intBits,Tz,Dj]
      · simp[eqGuard,binOp,Aw.den,Op.intBits,Tz,Dj]
      · simp[eqGuard,binOp,Aw.den,Op.intBits,Tz,Dj]
      · simp[eqGuard,binOp,Aw.den,Op.intCmp,Zc];rfl
      · simp[eqGuard,binOp,Aw.den,Op.intCmp,Zc,Qe];rfl
      · simp[eqGuard,binOp,Aw.den,Op.intCmp,jgq]
      · simp[eqGuard,binOp,Aw.den,Op.intCmp,Sh]
      · simp[eqGuard,binOp,Aw.den,Op.intCmp,jgq]
      · simp[eqGuard,binOp,Aw.den,Op.intCmp,Sh]
  · rename_i a b
    simp only[Option.some.injEq,Prod.mk.injEq] at hb
    obtain ⟨rfl,rfl⟩:=hb
    obtain hd:=jhr ht
    simp[eqGuard,binOp,Aw.den,run_equal_bool w t _ _ hd,jl9]
  · rename_i a b
    simp only[Option.some.injEq,Prod.mk.injEq] at hb
    obtain ⟨rfl,rfl⟩:=hb
    obtain hd:=jhr ht
    simp[eqGuard,binOp,Aw.den,run_equal_bool w t _ _ hd,jl9,Qe]
  · split at hb
    · rename_i hc
      simp only[Option.some.injEq,Prod.mk.injEq] at hb
      obtain ⟨rfl,rfl⟩:=hb
      obtain ⟨ms,hd⟩:=ji8 ht
      simp[binOp,Aw.den,Qj hc,Tw hd,T.B]
    · cases hb
  · split at hb
    · rename_i hc
      simp only[Option.some.injEq,Prod.mk.injEq] at hb
      obtain ⟨rfl,rfl⟩:=hb
      obtain ⟨ms,hd⟩:=ji8 ht
      simp[binOp,Aw.den,Qj hc,Tw hd,T.B]
    · cases hb
  · simp only[Option.some.injEq,Prod.mk.injEq] at hb
    obtain ⟨rfl,rfl⟩:=hb
    obtain ⟨ms,hd⟩:=je4 ht
    simp[eqGuard,binOp,Aw.den,Np hd,T.B]
  · simp only[Option.some.injEq,Prod.mk.injEq] at hb
    obtain ⟨rfl,rfl⟩:=hb
    obtain ⟨ms,hd⟩:=je4 ht
    simp[eqGuard,binOp,Aw.den,Np hd,T.B]
  · simp only[Option.some.injEq,Prod.mk.injEq] at hb
    obtain ⟨rfl,rfl⟩:=hb
    obtain ⟨ms,hd⟩:=jj3 ht
    simp[eqGuard,binOp,Aw.den,Mj hd,T.B]
  · simp only[Option.some.injEq,Prod.mk.injEq] at hb
    obtain ⟨rfl,rfl⟩:=hb
    obtain ⟨ms,hd⟩:=jj3 ht
    simp[eqGuard,binOp,Aw.den,Mj hd,T.B]
  · simp only[Option.some.injEq,Prod.mk.injEq] at hb
    obtain ⟨rfl,rfl⟩:=hb
    obtain ⟨ms,hd⟩:=jms ht
    simp[eqGuard,binOp,Aw.den,Mj hd,T.B]
  · simp only[Option.some.injEq,Prod.mk.injEq] at hb
    obtain ⟨rfl,rfl⟩:=hb
    obtain ⟨ms,hd⟩:=jms ht
    simp[eqGuard,binOp,Aw.den,Mj hd,T.B]
  · cases hb
theorem Ha{t:TypeId}{n:Nat}(h:Kf P t=some n):(sizeOf t).run P w=.ok n w:=by
  unfold Kf at h
  cases hi:P.info? t with
  | none=>simp[hi] at h
  | some i=>simp[hi] at h;subst h;simp[sizeOf,typeInfo,hi]
theorem Mt{t:TypeId}{d:TypeDesc}(hd:P.underlying t=some d):(isAgg t).run P w=.ok (Vn P t) w:=by
  unfold isAgg Vn
  simp only[Sem.run_bind,run_underlying hd,Result.andThen_ok,hd]
  cases d<;>rfl
theorem Ho(b o n:Nat):(⟨b,o,none⟩:Addr).add n=⟨b,o+n,none⟩:=Addr.add_lit b o n
theorem Xq{d i:Int}(z:Nat)(hd:0≤d)(hi:0≤i):(d+i*z).toNat=d.toNat+i.toNat*z:=by
  obtain ⟨a,rfl⟩:=Int.eq_ofNat_of_zero_le hd
  obtain ⟨b,rfl⟩:=Int.eq_ofNat_of_zero_le hi
  have h:(b:Int)*(z:Int)=((b*z:Nat):Int):=(Int.natCast_mul b z).symm
  simp only[h,Int.toNat_natCast]
  omega
theorem jy6{a b c:T}(h:Dx S ρ (needs [a,b,c])):a.B S ρ=true∧b.B S ρ=true∧c.B S ρ=true:=by
  have h':=Fu h
  exact ⟨(Ag.1 h').1,(Ag.1 (Ag.1 h').2).1,(Ag.1 (Ag.1 (Ag.1 h').2).2).1⟩
theorem Fg{a b:T}(h:(Ek a b).B S ρ=true):a.I S ρ≤b.I S ρ:=by rw[Sh,decide_eq_true_eq] at h;exact h
theorem jmz{a b:T}(h:(jd5 a b).B S ρ=true):a.I S ρ<b.I S ρ:=by rw[jgq,decide_eq_true_eq] at h;exact h
theorem j1p{t:TypeId}{x i l:Aw}{c:List T}(hb:jkz P t x i=some (c,l))(hm:Dx S ρ c):(Instr.indexAt t (x.den S ρ B) (i.den S ρ B)).run P w=.ok (l.den S ρ B) w:=by
  unfold jkz at hb
  split at hb
  · rename_i k ti
    split at hb
    · rename_i n e r s d hu
      split at hb
      · rename_i z hz
        split at hb
        · rename_i q hqv
          have hqv:=Cy hqv
          subst hqv
          split at hb
          · rename_i hq
            simp only[Option.some.injEq,Prod.mk.injEq] at hb
            obtain ⟨rfl,rfl⟩:=hb
            simp[Instr.indexAt,Aw.den,asIntOf,run_underlying hu,Instr.sureAddr,T.I,hq,Ha hz,Cw,Ho]
          · cases hb
        · simp only[Option.some.injEq,Prod.mk.injEq] at hb
          obtain ⟨rfl,rfl⟩:=hb
          obtain ⟨h1,h2,h3⟩:=jy6 hm
          have h1:=Fg h1
          have h2:=jmz h2
          have h3:=Fg h3
          simp only[T.I] at h1 h2 h3
          simp[Instr.indexAt,Aw.den,asIntOf,run_underlying hu,Instr.sureAddr,T.I,h1,h2,Ha hz,Cw,Ho,Dg,Qu,Xq z h3 h1]
      · cases hb
    · rename_i e r s d ln cp hu
      split at hb
      · rename_i z hz
        split at hb
        · rename_i q hqv
          have hqv:=Cy hqv
          subst hqv
          split at hb
          · rename_i hq
            simp only[Option.some.injEq,Prod.mk.injEq] at hb
            obtain ⟨rfl,rfl⟩:=hb
            have h1:=jmz (Qd hm)
            simp only[T.I] at h1
            have hl:((ln.I S ρ).toNat:Int)=ln.I S ρ:=by omega
            simp only[Instr.indexAt,Aw.den,asIntOf,run_underlying hu,T.I,Sem.run_bind,Sem.run_pure,Result.andThen_ok,hl]
            rw[if_pos ⟨hq,h1⟩]
            simp[Ha hz,Cw,Ho]
          · cases hb
        · simp only[Option.some.injEq,Prod.mk.injEq] at hb
          obtain ⟨rfl,rfl⟩:=hb
          obtain ⟨h1,h2,h3⟩:=jy6 hm
          have h1:=Fg h1
          have h2:=jmz h2
          have h3:=Fg h3
          simp only[T.I] at h1 h3
          have hl:((ln.I S ρ).toNat:Int)=ln.I S ρ:=by omega
          simp only[Instr.indexAt,Aw.den,asIntOf,run_underlying hu,T.I,Sem.run_bind,Sem.run_pure,Result.andThen_ok,hl]
          rw[if_pos ⟨h1,h2⟩]
          simp[Ha hz,Cw,Ho,Dg,Qu,T.I,Xq z h3 h1]
      · cases hb
    · cases hb
  · cases hb
end
section
variable {S:Hw} {ρ:Et} {w0 w:World} {h:Hp} {P:Program} {B:Nat}
theorem je7(isS:Bool)(len cap:Nat)(lo hi mx:Option Value)(l h m:Int)
    (hm:(mx=none∧m=cap)∨(∃k,mx=some (.int k m)∧0≤m∧m≤cap))
    (hh:(hi=none∧mx=none∧h=len)∨(∃k,hi=some (.int k h)∧0≤h∧h≤m))
    (hl:(lo=none∧l=0)∨(∃k,lo=some (.int k l)∧0≤l∧l≤h)):
    (Instr.sliceBounds isS len cap lo hi mx).run P w=.ok (l.toNat,h.toNat,m.toNat) w:=by
  have hb: ∀(k:IntKind) (x:Int) (y:Nat) (code:BoundsCode),0≤x→x≤y→(Instr.sliceBound (.int k x) y code).run P w=.ok x.toNat w:=by
    intro k x y code h0 h1
    simp[Instr.sliceBound,asIntOf,h0,h1]
  rcases hm with ⟨rfl,rfl⟩|⟨k,rfl,hm0,hm1⟩
  · rcases hh with ⟨rfl,_,rfl⟩|⟨k,rfl,hh0,hh1⟩
    · rcases hl with ⟨rfl,rfl⟩|⟨k,rfl,hl0,hl1⟩
      · simp[Instr.sliceBounds]
      · simp[Instr.sliceBounds,hb _ _ _ _ hl0 hl1]
    · rcases hl with ⟨rfl,rfl⟩|⟨k',rfl,hl0,hl1⟩
      · simp[Instr.sliceBounds,hb _ _ _ _ hh0 hh1]
      · simp[Instr.sliceBounds,hb _ _ _ _ hh0 hh1,hb k' l h.toNat _ hl0 (by omega)]
  · rcases hh with ⟨_,h1,_⟩|⟨k1,rfl,hh0,hh1⟩
    · cases h1
    · rcases hl with ⟨rfl,rfl⟩|⟨k',rfl,hl0,hl1⟩
      · simp[Instr.sliceBounds,hb _ _ _ _ hm0 hm1,hb k1 h m.toNat _ hh0 (by omega)]
      · simp[Instr.sliceBounds,hb _ _ _ _ hm0 hm1,hb k1 h m.toNat _ hh0 (by omega),hb k' l h.toNat _ hl0 (by omega)]
theorem Nd{fr:Nat→SR}{a:Act}{xs:Array Operand}(ha:Pq S ρ B fr a xs){o:Option Operand}(ho: ∀x,o=some x→x∈xs){d t:T}(hb:Ut fr o d=some t):
    (o=none∧t=d)∨(∃x k,o=some x∧a.eval x=.int k (t.I S ρ)):=by
  unfold Ut at hb
  split at hb
  · injection hb with hb;exact .inl ⟨rfl,hb.symm⟩
  · split at hb
    · rename_i k t' he
      injection hb with hb
      subst hb
      exact .inr ⟨_,k,rfl,Dp ha (ho _ rfl) he⟩
    · cases hb
theorem jxn(m l d r:T)(z:Nat)(hn:(Ur m l r).B S ρ=true):(jgn m l z d r).I S ρ=if l.I S ρ=0 then d.I S ρ else if m.I S ρ=l.I S ρ then d.I S ρ else d.I S ρ+l.I S ρ*z:=by
  unfold Ur at hn
  unfold jgn
  split
  · rename_i hz;rw[Qr] at hz;subst hz;simp[T.I]
  · rename_i hz
    simp only[hz] at hn
    split
    · rename_i hr
      simp only[hr,jgq,decide_eq_true_eq] at hn
      rw[Dg,Qu]
      by_cases h0:l.I S ρ=0
      · simp[h0,T.I]
      · rw[if_neg h0,if_neg (by omega)];simp[T.I]
    · rw[jk6,Zc,Dg,Qu]
      by_cases h0:l.I S ρ=0
      · simp[h0,T.I]
      · simp[h0,T.I]
theorem jcp{r:Cl}{s:Nat}{d m l q:T}{z:Nat}(hd:0≤d.I S ρ)(hl:0≤l.I S ρ)(hm:0≤m.I S ρ)(hn:(Ur m l q).B S ρ=true):
    (if (m.I S ρ).toNat=(l.I S ρ).toNat then Cw S ρ B r s d else (Cw S ρ B r s d).add ((l.I S ρ).toNat*z))=Cw S ρ B r s (jgn m l z d q):=by
  simp only[Cw,jxn m l d q z hn,Ho]
  by_cases h0:l.I S ρ=0
  · simp[h0]
  · by_cases h1:m.I S ρ=l.I S ρ
    · simp[h1]
    · rw[if_neg h0,if_neg h1,if_neg (by omega),Xq z hd hl]
      congr 1;omega
set_option maxHeartbeats 1000000 in
theorem jug(l:Aw):(j19 l).den S ρ B=l.den S ρ B:=by
  unfold j19
  split
  · simp only[Aw.den,Cw,T.I]
    congr 3
    simp
    omega
  · rfl
theorem jzt{fr:Nat→SR}{a:Act}{xs:Array Operand}(ha:Pq S ρ B fr a xs){t:TypeId}{x l:Aw}{lo hi mx:Option Operand}{c:List T}(hlo: ∀x,lo=some x→x∈xs)(hhi: ∀x,hi=some x→x∈xs)(hmx: ∀x,mx=some x→x∈xs)
    (hb:jju P t x fr lo hi mx=some (c,l))(hm:Dx S ρ c):(Instr.sliceAt t (x.den S ρ B) (lo.map a.eval) (hi.map a.eval) (mx.map a.eval)).run P w=.ok (l.den S ρ B) w:=by
  unfold jju at hb
  split at hb
  · rename_i e r s d len cap hu
    split at hb
    · rename_i z tm tl hz hbm hbl
      split at hb
      · rename_i th hbh
        split at hb
        · cases hb
        · rename_i hno
          simp only[Option.some.injEq,Prod.mk.injEq] at hb
          obtain ⟨rfl,rfl⟩:=hb
          have hn:=Fu hm
          simp only[Ag] at hn
          obtain ⟨a1,a2,a3,a4,a5,a6,a7,a8,a9,a10,-⟩:=hn
          have a1:=Fg a1;have a2:=Fg a2;have a3:=Fg a3;have a4:=Fg a4;have a5:=Fg a5;have a6:=Fg a6;have a7:=Fg a7;have a8:=Fg a8;have a9:=Fg a9
          simp only[T.I] at a1 a3 a5 a7 a8 a9
          have hbd:(Instr.sliceBounds true (len.I S ρ).toNat (cap.I S ρ).toNat (lo.map a.eval) (hi.map a.eval) (mx.map a.eval)).run P w=.ok ((tl.I S ρ).toNat,(th.I S ρ).toNat,(tm.I S ρ).toNat) w:=by
            apply je7
            · rcases Nd ha hmx hbm with ⟨h1,h2⟩|⟨x,k,h1,h2⟩
              · left;subst h1 h2;exact ⟨rfl,by omega⟩
              · right;subst h1;exact ⟨k,by simp[h2],a1,by omega⟩
            · rcases Nd ha hhi hbh with ⟨h1,h2⟩|⟨x,k,h1,h2⟩
              · left;subst h1 h2
                refine ⟨rfl,?_,by omega⟩
                cases mx with
                | none=>rfl
                | some y=>simp at hno
              · right;subst h1
                refine ⟨k,by simp[h2],a3,?_⟩
                simpa using a4
            · rcases Nd ha hlo hbl with ⟨h1,h2⟩|⟨x,k,h1,h2⟩
              · left;subst h1 h2;exact ⟨rfl,by simp[T.I]⟩
              · right;subst h1;exact ⟨k,by simp[h2],a5,a6⟩
          have hmv:=jcp (B:=B) (r:=r) (s:=s) (z:=z) a7 a5 a1 a10
          have e1:((th.I S ρ).toNat-(tl.I S ρ).toNat)=(th.I S ρ-tl.I S ρ).toNat:=by omega
          have e2:((tm.I S ρ).toNat-(tl.I S ρ).toNat)=(tm.I S ρ-tl.I S ρ).toNat:=by omega
          simp only[Instr.sliceAt,Instr.slice,Aw.den,run_underlying hu,Sem.run_bind,Sem.run_pure,Result.andThen_ok,hbd,Ha hz,jdy]
          rw[←hmv,e1,e2]
          split<;>rfl
      · cases hb
    · cases hb
  · rename_i n e r s d hu
    split at hb
    · rename_i z tm tl hz hbm hbl
      split at hb
      · rename_i th hbh
        split at hb
        · cases hb
        · rename_i hno
          simp only[Option.some.injEq,Prod.mk.injEq] at hb
          obtain ⟨rfl,rfl⟩:=hb
          have hn:=Fu hm
          simp only[Ag] at hn
          obtain ⟨a1,a2,a3,a4,a5,a6,a7,a10,-⟩:=hn
          have a1:=Fg a1;have a2:=Fg a2;have a3:=Fg a3;have a4:=Fg a4;have a5:=Fg a5;have a6:=Fg a6;have a7:=Fg a7
          simp only[T.I] at a1 a2 a3 a5 a7
          have hbd:(Instr.sliceBounds false n n (lo.map a.eval) (hi.map a.eval) (mx.map a.eval)).run P w=.ok ((tl.I S ρ).toNat,(th.I S ρ).toNat,(tm.I S ρ).toNat) w:=by
            apply je7
            · rcases Nd ha hmx hbm with ⟨h1,h2⟩|⟨x,k,h1,h2⟩
              · left;subst h1 h2;exact ⟨rfl,by simp[T.I]⟩
              · right;subst h1;exact ⟨k,by simp[h2],a1,by omega⟩
            · rcases Nd ha hhi hbh with ⟨h1,h2⟩|⟨x,k,h1,h2⟩
              · left;subst h1 h2
                refine ⟨rfl,?_,by simp[T.I]⟩
                cases mx with
                | none=>rfl
                | some y=>simp at hno
              · right;subst h1
                exact ⟨k,by simp[h2],a3,a4⟩
            · rcases Nd ha hlo hbl with ⟨h1,h2⟩|⟨x,k,h1,h2⟩
              · left;subst h1 h2;exact ⟨rfl,by simp[T.I]⟩
              · right;subst h1;exact ⟨k,by simp[h2],a5,a6⟩
          have hmv:=jcp (B:=B) (r:=r) (s:=s) (z:=z) a7 a5 a1 a10
          have e1:((th.I S ρ).toNat-(tl.I S ρ).toNat)=(th.I S ρ-tl.I S ρ).toNat:=by omega
          have e2:((tm.I S ρ).toNat-(tl.I S ρ).toNat)=(tm.I S ρ-tl.I S ρ).toNat:=by omega
          simp only[Instr.sliceAt,Aw.den,Instr.sureAddr,run_underlying hu,Sem.run_bind,Sem.run_pure,Result.andThen_ok,hbd,Ha hz,jdy]
          rw[←hmv,e1,e2]
      · cases hb
    · cases hb
  · cases hb
theorem jlb(hh:Cv S ρ w0 h w){t:TypeId}(hu: ∃d,P.underlying t=some d){p:Aw}{c:List T}{x:SV}(hb:jnv P t p h=some (c,x))(hm:Dx S ρ c):
    (Instr.loadAt t (p.den S ρ w0.heap.size)).run P w=.ok (x.den S ρ w0.heap.size) w∧x.wf S ρ:=by
  obtain ⟨ud,hu⟩:=hu
  unfold jnv at hb
  split at hb
  · rename_i r s d
    split at hb
    · rename_i b hf
      have hmem:=Gw hf
      have hrw:=hh.rw_ _ hmem
      have hoff:=hh.off _ hmem
      have hwf:=hh.wf _ hmem
      simp only at hrw hoff hwf
      split at hb
      · rename_i hagg
        split at hb
        · rename_i n hn
          cases hl:Rm b.segs s d n with
          | none=>simp[hl] at hb
          | some cg=>
            obtain ⟨c',g⟩:=cg
            simp[hl] at hb
            obtain ⟨rfl,rfl⟩:=hb
            obtain ⟨h1,h2,h3⟩:=Qw (B:=w0.heap.size) hwf hl hm
            refine ⟨?_,h3⟩
            have hl2:=run_loadCells_list (P:=P) w (Cw S ρ w0.heap.size r s d) (Av S ρ w0.heap.size g) (fun j v hv=>by
              rw[Cw,Ho,cell_of_row w _ _ _ _ _ hrw,hoff,Nat.zero_add,List.getElem?_toArray]
              rw[h1,List.getElem?_take] at hv
              split at hv
              · rw[List.getElem?_drop] at hv;exact hv
              · cases hv)
            rw[h2] at hl2
            simp only[Instr.loadAt,Aw.den,Instr.sureAddr,loadVar,Sem.run_bind,Sem.run_pure,Result.andThen_ok,Mt hu,hagg,if_true,Ha hn,hl2,SV.den]
        · cases hb
      · rename_i hagg
        cases hl:Vj b.segs s d with
        | none=>simp[hl] at hb
        | some cg=>
          obtain ⟨c',g⟩:=cg
          simp[hl] at hb
          obtain ⟨rfl,rfl⟩:=hb
          have h1:=Xa (B:=w0.heap.size) hwf hl hm
          refine ⟨?_,trivial⟩
          have hc:w.cell? (Cw S ρ w0.heap.size r s d)=some (g.den S ρ w0.heap.size):=by
            rw[Cw,cell_of_row w _ _ _ _ _ hrw,hoff,Nat.zero_add,List.getElem?_toArray];exact h1
          simp only[Instr.loadAt,Aw.den,Instr.sureAddr,loadVar,Sem.run_bind,Sem.run_pure,Result.andThen_ok,Mt hu,hagg,Bool.false_eq_true,if_false,run_load,hc,SV.den]
    · split at hb
      · rename_i k a hf
        split at hb
        · rename_i hagg
          split at hb
          · rename_i n hn
            simp only[Option.some.injEq,Prod.mk.injEq] at hb
            obtain ⟨rfl,rfl⟩:=hb
            have hmn:=Fu hm
            simp only[Ag] at hmn
            obtain ⟨b1,b2,-⟩:=hmn
            have b1:=Fg b1;have b2:=Fg b2
            simp only[T.I,Dg] at b1 b2
            have hlen:(List.take n ((a.A S ρ).drop (s+(d.I S ρ).toNat))).length=n:=by simp;omega
            have hcut:(T.cut a (Ej (.lit s) d) (.lit n)).A S ρ=List.take n ((a.A S ρ).drop (s+(d.I S ρ).toNat)):=by
              simp only[T.A,Dg,T.I]
              rw[show ((s:Int)+d.I S ρ).toNat=s+(d.I S ρ).toNat from by omega];simp
            have hden:Av S ρ w0.heap.size [.arr k (.cut a (Ej (.lit s) d) (.lit n)) n]=(List.take n ((a.A S ρ).drop (s+(d.I S ρ).toNat))).map (Value.int k):=by
              simp only[Av,List.flatMap_cons,List.flatMap_nil,List.append_nil,Cp.den,hcut]
            have h2:(Av S ρ w0.heap.size [.arr k (.cut a (Ej (.lit s) d) (.lit n)) n]).length=n:=by rw[hden];simpa using hlen
            have hl2:=run_loadCells_list (P:=P) w (Cw S ρ w0.heap.size r s d) (Av S ρ w0.heap.size [.arr k (.cut a (Ej (.lit s) d) (.lit n)) n]) (fun j v hj=>by
              rw[hden,List.getElem?_map,Option.map_eq_some_iff] at hj
              obtain ⟨x,hx,rfl⟩:=hj
              have hjn:j<n:=by rw[←hlen];exact (List.getElem?_eq_some_iff.1 hx).1
              rw[List.getElem?_take,if_pos hjn,List.getElem?_drop] at hx
              have:=hh.ro _ (Jo hf) (s+(d.I S ρ).toNat+j) x hx
              simp only[Cw,Ho]
              rw[show r.off ρ+s+(d.I S ρ).toNat+j=r.off ρ+(s+(d.I S ρ).toNat+j) from by omega]
              exact this)
            rw[h2] at hl2
            refine ⟨?_,?_⟩
            · simp only[Instr.loadAt,Aw.den,Instr.sureAddr,loadVar,Sem.run_bind,Sem.run_pure,Result.andThen_ok,Mt hu,hagg,if_true,Ha hn,hl2,SV.den]
            · intro g hg
              simp only[List.mem_singleton] at hg
              subst hg
              show ((T.cut a (Ej (.lit s) d) (.lit n)).A S ρ).length=n
              rw[hcut];exact hlen
          · cases hb
        · rename_i hagg
          simp only[Option.some.injEq,Prod.mk.injEq] at hb
          obtain ⟨rfl,rfl⟩:=hb
          obtain ⟨hd,hi⟩:=Kc hm
          simp only[Dg,T.I] at hi
          have hro:=hh.ro _ (Jo hf) (s+(d.I S ρ).toNat) ((a.A S ρ).getD (s+(d.I S ρ).toNat) 0) (by simp only;rw[List.getD_eq_getElem?_getD,List.getElem?_eq_getElem (by omega)];rfl)
          refine ⟨?_,trivial⟩
          have hc:w.cell? (Cw S ρ w0.heap.size r s d)=some (.int k ((a.A S ρ).getD (s+(d.I S ρ).toNat) 0)):=by
            rw[Cw,Nat.add_assoc];exact hro
          simp only[Instr.loadAt,Aw.den,Instr.sureAddr,loadVar,Sem.run_bind,Sem.run_pure,Result.andThen_ok,Mt hu,hagg,Bool.false_eq_true,if_false,run_load,hc,SV.den,Sv,Dg,T.I]
          rw[show ((s:Int)+d.I S ρ).toNat=s+(d.I S ρ).toNat from by omega]
      · cases hb
  · cases hb
theorem jf3(hh:Cv S ρ w0 h w){l:Aw}{n:Nat}{c:List T}{g:List Cp}(hb:jp1 h l n=some (c,g))(hm:Dx S ρ c):
    ∃r s d ln cp,l=.sl r s d ln cp∧(Av S ρ w0.heap.size g).length=n∧Cm S ρ g∧
      ∀j v,(Av S ρ w0.heap.size g)[j]? =some v→w.cell? ((Cw S ρ w0.heap.size r s d).add j)=some v:=by
  unfold jp1 at hb
  split at hb
  · rename_i r s d ln cp
    refine ⟨r,s,d,ln,cp,rfl,?_⟩
    split at hb
    · rename_i b hf
      have hmem:=Gw hf
      have hrw:=hh.rw_ _ hmem
      have hoff:=hh.off _ hmem
      have hwf:=hh.wf _ hmem
      simp only at hrw hoff hwf
      obtain ⟨h1,h2,h3⟩:=Qw (B:=w0.heap.size) hwf hb hm
      refine ⟨h2,h3,fun j v hj=> ?_⟩
      have hjn:j<n:=by rw[←h2];exact (List.getElem?_eq_some_iff.1 hj).1
      simp only[Cw,Ho,hoff,Nat.zero_add]
      rw[cell_of_row w _ _ _ _ _ hrw,List.getElem?_toArray]
      rw[h1,List.getElem?_take,if_pos hjn,List.getElem?_drop] at hj
      rw[←hj]
    · split at hb
      · rename_i k a hf
        simp only[Option.some.injEq,Prod.mk.injEq] at hb
        obtain ⟨rfl,rfl⟩:=hb
        have hn:=Fu hm
        simp only[Ag] at hn
        obtain ⟨b1,b2,-⟩:=hn
        have b1:=Fg b1;have b2:=Fg b2
        simp only[T.I,Dg] at b1 b2
        have hlen:(List.take n ((a.A S ρ).drop (s+(d.I S ρ).toNat))).length=n:=by simp;omega
        have hcut:(T.cut a (Ej (.lit s) d) (.lit n)).A S ρ=List.take n ((a.A S ρ).drop (s+(d.I S ρ).toNat)):=by
          simp only[T.A,Dg,T.I]
          rw[show ((s:Int)+d.I S ρ).toNat=s+(d.I S ρ).toNat from by omega];simp
        have hden:Av S ρ w0.heap.size [.arr k (.cut a (Ej (.lit s) d) (.lit n)) n]=(List.take n ((a.A S ρ).drop (s+(d.I S ρ).toNat))).map (Value.int k):=by
          simp only[Av,List.flatMap_cons,List.flatMap_nil,List.append_nil,Cp.den,hcut]
        refine ⟨by rw[hden];simpa using hlen,?_,fun j v hj=> ?_⟩
        · intro g hg
          simp only[List.mem_singleton] at hg
          subst hg
          show ((T.cut a (Ej (.lit s) d) (.lit n)).A S ρ).length=n
          rw[hcut];exact hlen
        · rw[hden,List.getElem?_map,Option.map_eq_some_iff] at hj
          obtain ⟨x,hx,rfl⟩:=hj
          have hjn:j<n:=by rw[←hlen];exact (List.getElem?_eq_some_iff.1 hx).1
          rw[List.getElem?_take,if_pos hjn,List.getElem?_drop] at hx
          have:=hh.ro _ (Jo hf) (s+(d.I S ρ).toNat+j) x hx
          simp only[Cw,Ho]
          rw[show r.off ρ+s+(d.I S ρ).toNat+j=r.off ρ+(s+(d.I S ρ).toNat+j) from by omega]
          exact this
      · cases hb
  · cases hb
theorem jb7{l:Aw}(h:l.plain=true):(l.den S ρ B).oneCell'=true∧(l.den S ρ B).cells= #[l.den S ρ B]:=by
  cases l<;>first|(cases h;done)|exact ⟨rfl,rfl⟩
theorem jv9{g:Cp}(h:g.plain=true): ∀v∈g.den S ρ B,v.oneCell'=true:=by
  cases g with
  | cells l=>
    intro v hv
    simp only[Cp.den,List.mem_map] at hv
    obtain ⟨x,hx,rfl⟩:=hv
    simp only[Cp.plain,List.all_eq_true] at h
    exact (jb7 (h x hx)).1
  | arr k a n=>
    intro v hv
    simp only[Cp.den,List.mem_map] at hv
    obtain ⟨x,hx,rfl⟩:=hv
    rfl
  | arrD k a=>
    intro v hv
    simp only[Cp.den,List.mem_map] at hv
    obtain ⟨x,hx,rfl⟩:=hv
    rfl
  | bar a n=>
    intro v hv
    simp only[Cp.den,List.mem_map] at hv
    obtain ⟨x,hx,rfl⟩:=hv
    rfl
  | junk n=>cases h
  | tail z n=>cases h
theorem Yd{g:List Cp}(h:g.all Cp.plain=true): ∀v∈Av S ρ B g,v.oneCell'=true:=by
  intro v hv
  simp only[Av,List.mem_flatMap] at hv
  obtain ⟨x,hx,hv⟩:=hv
  exact jv9 (List.all_eq_true.1 h x hx) v hv
theorem jyo(hh:Cv S ρ w0 h w){t:TypeId}{p:Aw}{c:List T}{x:SV}{h':Hp}(hb:jk0 P t p x h=some (c,h'))(hx:x.wf S ρ)(hm:Dx S ρ c):
    ∃w',(Instr.storeAt t (p.den S ρ w0.heap.size) (x.den S ρ w0.heap.size)).run P w=.ok () w'∧Cv S ρ w0 h' w':=by
  unfold jk0 at hb
  split at hb
  · rename_i r s d
    split at hb
    · rename_i b hf
      have hmem:=Gw hf
      have hrw:=hh.rw_ _ hmem
      have hoff:=hh.off _ hmem
      have hwf:=hh.wf _ hmem
      simp only at hrw hoff hwf
      split at hb
      · rename_i l
        split at hb
        · rename_i hc
          obtain ⟨hsz,hpl⟩:=hc
          cases hl:Wk b.segs s d l with
          | none=>simp[hl] at hb
          | some cg=>
            obtain ⟨c',g⟩:=cg
            simp[hl] at hb
            obtain ⟨rfl,rfl⟩:=hb
            obtain ⟨h1,h2,h3⟩:=jfc (B:=w0.heap.size) hwf hl hm
            have hp12:(l.den S ρ w0.heap.size).oneCell'=true∧(l.den S ρ w0.heap.size).cells= #[l.den S ρ w0.heap.size]:=by
              rw[Bool.or_eq_true] at hpl
              rcases hpl with hpl|hpl
              · exact jb7 (S:=S) (ρ:=ρ) (B:=w0.heap.size) hpl
              · unfold j6w at hpl
                split at hpl
                · rename_i n
                  split at hpl
                  · rename_i o ho
                    have hn:=Nat.eq_of_beq_eq_true hpl
                    subst hn
                    rcases hh.own o ho with ⟨h1,_⟩|⟨_,_,h1,_⟩<;>(simp only[Aw.den,h1];exact ⟨rfl,rfl⟩)
                  · cases hpl
                · cases hpl
            obtain ⟨p1,p2⟩:=hp12
            have hst:=run_storeCells_at (P:=P) (r.blk ρ w0.heap.size) (s+(d.I S ρ).toNat) b.ty [l.den S ρ w0.heap.size] 0 _ w hrw (by simp;omega) (by simpa using p1)
            refine ⟨_,?_,hh.upd hf (segs:=g) h2 (w':=w.setRow (r.blk ρ w0.heap.size) (Av S ρ w0.heap.size g).toArray) (setRow_heap w _ _ _ _ _ hrw) (fun i hi=>setRow_other w _ _ _ hi) (by simp) rfl rfl rfl⟩
            simp only[Instr.storeAt,Aw.den,Instr.sureAddr,storeVar,Sem.run_bind,Sem.run_pure,Result.andThen_ok,Ha hsz,SV.den,p2]
            simp only[Cw,hoff,Nat.zero_add,List.size_toArray,List.length_cons,List.length_nil,ne_eq,not_true_eq_false,if_false]
            rw[hst]
            simp only[Nat.add_zero,List.length_cons,List.length_nil]
            rw[h1,List.set_eq_take_append_cons_drop,if_pos h3]
            simp
        · cases hb
      · rename_i g
        split at hb
        · rename_i n hn
          split at hb
          · rename_i hc
            obtain ⟨hsz,hpl⟩:=hc
            cases hl:Nb b.segs s d n g with
            | none=>simp[hl] at hb
            | some cg=>
              obtain ⟨c',g'⟩:=cg
              simp[hl] at hb
              obtain ⟨rfl,rfl⟩:=hb
              have hlen:=Sw (B:=w0.heap.size) hx hn
              obtain ⟨h1,h2,h3⟩:=Oy (B:=w0.heap.size) hwf hx hlen hl hm
              have hst:=run_storeCells_at (P:=P) (r.blk ρ w0.heap.size) (s+(d.I S ρ).toNat) b.ty (Av S ρ w0.heap.size g) 0 _ w hrw (by simp;omega) (Yd hpl)
              refine ⟨_,?_,hh.upd hf (segs:=g') h2 (w':=w.setRow (r.blk ρ w0.heap.size) (Av S ρ w0.heap.size g').toArray) (setRow_heap w _ _ _ _ _ hrw) (fun i hi=>setRow_other w _ _ _ hi) (by simp) rfl rfl rfl⟩
              simp only[Instr.storeAt,Aw.den,Instr.sureAddr,storeVar,Sem.run_bind,Sem.run_pure,Result.andThen_ok,Ha hsz,SV.den,Value.cells]
              simp only[Cw,hoff,Nat.zero_add,List.size_toArray,hlen,ne_eq,not_true_eq_false,if_false]
              rw[hst]
              simp only[Nat.add_zero,hlen]
              rw[h1]
              simp
          · cases hb
        · cases hb
    · cases hb
  · cases hb
end
section
variable {S:Hw} {ρ:Et} {w0 w:World} {h:Hp} {P:Program} {B:Nat}
theorem jb2: ∀{vs:List Value} {l:List Aw},Vv vs=some l→l.map (Aw.den S ρ B)=vs
  | [],l,h=>by simp[Vv] at h;subst h;rfl
  | v::vs,l,h=>by
    unfold Vv at h
    split at h
    · rename_i a b ha hb
      simp only[Option.some.injEq] at h
      subst h
      simp[Sn ha,jb2 hb]
    · cases h
theorem Ml: ∀{g:List Cp} {l:List Aw},Nm g=some l→Av S ρ B g=l.map (Aw.den S ρ B)∧Cm S ρ g
  | [],l,h=>by simp[Nm] at h;subst h;exact ⟨rfl,fun _ h=>nomatch h⟩
  | x::g,l,h=>by
    unfold Nm at h
    split at h
    · rename_i a b ha hb
      simp only[Option.some.injEq] at h
      subst h
      obtain ⟨h1,h2⟩:=Ml hb
      have:x.den S ρ B=a.map (Aw.den S ρ B)∧x.wf S ρ:=by
        unfold jsz at ha
        split at ha
        · injection ha with ha;subst ha;exact ⟨rfl,trivial⟩
        · split at ha
          · rename_i k m z n hmn
            injection ha with ha;subst ha
            simp[Cp.den,Cp.wf,T.A,T.I,Aw.den,hmn]
          · cases ha
        · split at ha
          · rename_i m z n hmn
            injection ha with ha;subst ha
            simp[Cp.den,Cp.wf,T.A,T.B,T.I,Aw.den,hmn.1,hmn.2,jlh]
          · cases ha
        · cases ha
      exact ⟨by rw[Au,this.1,h1,List.map_append],Ax.2 ⟨this.2,h2⟩⟩
    · cases h
theorem Kj{t:TypeId}{g:List Cp}(hz:Zu P t=some g): ∃i z,P.info? t=some i∧i.zero=some z∧Av S ρ B g=z.cells.toList∧Cm S ρ g:=by
  unfold Zu at hz
  split at hz
  · rename_i g0 z hg hzz
    split at hz
    · rename_i a b ha hb
      split at hz
      · rename_i hab
        injection hz with hz
        subst hz hab
        cases hi:P.info? t with
        | none=>simp[hi] at hzz
        | some i=>
          simp[hi] at hzz
          obtain ⟨h1,h2⟩:=Ml (S:=S) (ρ:=ρ) (B:=B) ha
          exact ⟨i,z,rfl,hzz,by rw[h1];exact jb2 hb,h2⟩
      · cases hz
    · cases hz
  · cases hz
theorem Uo(hh:Cv S ρ w0 h w):Cw S ρ w0.heap.size (.new h.na) 0 (.lit 0)=⟨w.heap.size,0,none⟩:=by
  simp[Cw,Cl.blk,Cl.off,T.I,hh.size]
theorem jxr(hh:Cv S ρ w0 h w){t:TypeId}{g:List Cp}(hz:Zu P t=some g):
    (Instr.alloc t true (.tuple #[])).run P w=.ok (Aw.den S ρ w0.heap.size (.ptr (.new h.na) 0 (.lit 0))) (w.alloc (.cells (Av S ρ w0.heap.size g).toArray t))∧
    Cv S ρ w0 (Ze h ⟨t,g⟩) (w.alloc (.cells (Av S ρ w0.heap.size g).toArray t)):=by
  obtain ⟨i,z,hi,hzz,hd,hw⟩:=Kj (S:=S) (ρ:=ρ) (B:=w0.heap.size) hz
  refine ⟨?_,hh.push t hw⟩
  simp[Instr.alloc,zeroValue,typeInfo,hi,hzz,newVar,newRow,Aw.den,Uo hh,hd]
theorem Va{x:SV}(h:x.plain=true):(x.den S ρ B).cells.toList=Av S ρ B x.segs:=by
  cases x with
  | one l=>simp only[SV.den,SV.segs,(jb7 (S:=S) (ρ:=ρ) (B:=B) h).2];simp[Au,Cj,Cp.den]
  | agg g=>simp[SV.den,SV.segs,Value.cells]
theorem jld{x:SV}(h:x.wf S ρ):Cm S ρ x.segs:=by
  cases x with
  | one l=>intro g hg;simp[SV.segs] at hg;subst hg;trivial
  | agg g=>exact h
theorem qbq(hh:Cv S ρ w0 h w){t:TypeId}{x:SV}(hx:x.wf S ρ)(hp:x.plain=true):
    (Instr.box t (x.den S ρ w0.heap.size)).run P w=.ok (Aw.den S ρ w0.heap.size (.ptr (.new h.na) 0 (.lit 0))) (w.alloc (.cells (Av S ρ w0.heap.size x.segs).toArray t))∧
    Cv S ρ w0 (Ze h ⟨t,x.segs⟩) (w.alloc (.cells (Av S ρ w0.heap.size x.segs).toArray t)):=by
  refine ⟨?_,hh.push t (jld hx)⟩
  simp[Instr.box,newVar,newRow,Aw.den,Uo hh,←Va hp]
theorem jhv(off:Nat): ∀(l:List Value) (k:Nat) (arr:List Value),off+k+l.length≤arr.length→
    (l.zipIdx k).foldl (fun (cs:Array Value) (p:Value×Nat)=>cs.setIfInBounds (off+p.2) p.1) arr.toArray=(arr.take (off+k)++(l++arr.drop (off+k+l.length))).toArray
  | [],k,arr,_=>by simp
  | v::l,k,arr,hl=>by
    simp only[List.length_cons] at hl
    simp only[List.zipIdx_cons,List.foldl_cons,List.setIfInBounds_toArray]
    rw[jhv off l (k+1) (arr.set (off+k) v) (by simp;omega)]
    congr 1
    rw[List.set_eq_take_append_cons_drop,if_pos (by omega)]
    have e1:(List.take (off+k) arr).length=off+k:=by simp;omega
    rw[List.take_append,List.drop_append,e1,List.take_of_length_le (by omega),List.drop_eq_nil_of_le (by omega:(List.take (off+k) arr).length≤off+(k+1)+l.length)]
    rw[show off+(k+1)-(off+k)=1 from by omega,show off+(k+1)+l.length-(off+k)=l.length+1 from by omega]
    simp only[List.take_succ_cons,List.take_zero,List.drop_succ_cons,List.drop_drop,List.nil_append,List.length_cons,List.append_assoc,List.cons_append]
    congr 4
    omega
theorem jda(place:Nat→Option (Nat×Nat)): ∀{ps:List (Nat×SR)} {g:List Cp} {c:List T} {g':List Cp},Cm S ρ g→(∀p∈ps,p.2.wf S ρ)→jeo place g ps=some (c,g')→
    Instr.fill place (Av S ρ B g).toArray (ps.map fun p=>(p.1,p.2.den S ρ B))=some (Av S ρ B g').toArray∧Cm S ρ g'
  | [],g,c,g',hg,_,h=>by
    simp only[jeo,Option.some.injEq,Prod.mk.injEq] at h
    obtain ⟨_,rfl⟩:=h
    exact ⟨rfl,hg⟩
  | (i,r)::ps,g,c,g',hg,hw,h=>by
    unfold jeo at h
    split at h
    · rename_i he
      cases he
    · rename_i i' x r' he
      injection he with he1 he2
      injection he1 with he1 he3
      subst he1 he2 he3
      split at h
      · rename_i off size n hp hn
        split at h
        · rename_i hc
          obtain ⟨rfl,hpl⟩:=hc
          split at h
          · rename_i c' g1 hs
            have hx:x.wf S ρ:=hw (i,.v x) (by simp)
            have hlen:=Sw (B:=B) (jld hx) hn
            obtain ⟨h1,h2,h3⟩:=Oy (B:=B) hg (jld hx) hlen hs (by
              unfold Nb at hs
              rw[if_pos (Qr.2 rfl)] at hs
              split at hs
              · rename_i p y hp'
                cases hq:Fd y n with
                | none=>simp[hq] at hs
                | some xy=>simp[hq] at hs;rw[hs.1];exact Dx.nil
              · cases hs)
            obtain ⟨h4,h5⟩:=jda place h2 (fun p hp=>hw p (by simp[hp])) h
            refine ⟨?_,h5⟩
            simp only[List.map_cons,Instr.fill,hp,SR.den]
            have hcells:=Va (S:=S) (ρ:=ρ) (B:=B) hpl
            have hsz:(x.den S ρ B).cells.size=n:=by rw[←hlen,←hcells];simp
            simp only[T.I,Int.toNat_zero,Nat.add_zero] at h1 h3
            rw[if_neg (by simp[hsz];omega)]
            rw[←h4]
            congr 1
            rw[←Array.foldl_toList,Array.toList_zipIdx,hcells,jhv off _ 0 _ (by omega),h1,hlen]
            simp
          · cases h
        · cases h
      · cases h
    · cases h
theorem Vk(k:IntKind): ∀{l:List Aw} {ns:List Int},Si k l=some ns→l.map (Aw.den S ρ B)=ns.map (Value.int k)
  | [],ns,h=>by simp[Si] at h;subst h;rfl
  | x::l,ns,h=>by
    unfold Si at h
    split at h
    · cases ‹_=[]›
    · rename_i k' n r he
      injection he with he1 he2
      subst he1 he2
      split at h
      · rename_i hk
        subst hk
        cases hr:Si k l with
        | none=>simp[hr] at h
        | some m=>simp[hr] at h;subst h;simp[Vk k hr,Aw.den,T.I]
      · cases h
    · cases h
theorem ja0(g:List Cp)(hw:Cm S ρ g):Av S ρ B (Uh g)=Av S ρ B g∧Cm S ρ (Uh g):=by
  unfold Uh
  split
  · rename_i l
    split
    · rename_i k t r
      split
      · rename_i ns hns
        have:=Vk (S:=S) (ρ:=ρ) (B:=B) k hns
        refine ⟨?_,fun g hg=> ?_⟩
        · simp only[Au,Cj,List.append_nil,Cp.den,T.A];exact this.symm
        · simp at hg;subst hg;simp[Cp.wf,T.A]
      · exact ⟨rfl,hw⟩
    · exact ⟨rfl,hw⟩
  · exact ⟨rfl,hw⟩
theorem ju1{t:TypeId}{g:List Cp}{off:Nat}{x:SV}(hu: ∃d,P.underlying t=some d)(hw:Cm S ρ g)(hb:jh9 P t g off=some x):
    (part t (Av S ρ B g).toArray off).run P w=.ok (x.den S ρ B) w∧x.wf S ρ:=by
  obtain ⟨d,hu⟩:=hu
  unfold jh9 at hb
  split at hb
  · rename_i hagg
    split at hb
    · rename_i n hn
      split at hb
      · rename_i y hl
        injection hb with hb
        subst hb
        obtain ⟨h1,h2,h3⟩:=Qw (B:=B) hw hl Dx.nil
        refine ⟨?_,h3⟩
        simp only[T.I,Int.toNat_zero,Nat.add_zero] at h1
        simp only[part,Sem.run_bind,Mt hu,Result.andThen_ok,hagg,if_true,Ha hn,Sem.run_pure,SV.den]
        rw[h1]
        simp
      · cases hb
    · cases hb
  · rename_i hagg
    split at hb
    · rename_i y hl
      injection hb with hb
      subst hb
      have h1:=Xa (B:=B) hw hl Dx.nil
      simp only[T.I,Int.toNat_zero,Nat.add_zero] at h1
      refine ⟨?_,trivial⟩
      simp only[part,Sem.run_bind,Mt hu,Result.andThen_ok,hagg,Bool.false_eq_true,if_false,List.getElem?_toArray,h1,Sem.run_pure,SV.den]
    · cases hb
theorem Ux(z:Array Value)(n m:Nat)(hz:z.size=n)(hn:0<n):((Array.range (m*n)).map (z[· % z.size]!)).toList=(List.replicate m z.toList).flatten:=by
  subst hz
  induction m with
  | zero=>simp
  | succ m ih=>
    simp only[Array.toList_map,Array.toList_range] at ih⊢
    rw[Nat.succ_mul,List.range_add,List.map_append,ih,List.replicate_succ',List.flatten_append]
    congr 1
    simp only[List.map_map,List.flatten_cons,List.flatten_nil,List.append_nil]
    apply List.ext_getElem
    · simp
    · intro i h1 h2
      simp at h1
      simp[Nat.mod_eq_of_lt h1,h1]
theorem jt9(a b:T):(Xf a b).A S ρ=a.A S ρ++b.A S ρ:=by
  unfold Xf
  split
  · rename_i h1 h2;rw[Pd h1,Pd h2];rfl
  · rw[Pd (t:=a) (by assumption)];rfl
  · rw[Pd (t:=b) (by assumption)];simp[T.A]
  · simp[T.A,T.I,Cb]
theorem jiw(k:IntKind): ∀{l:List Aw} {a:T} {j:Nat} {t:T},j+l.length≤(a.A S ρ).length→jhb k a j l=some t→
    (t.A S ρ).map (Value.int k)=((a.A S ρ).take j).map (Value.int k)++l.map (Aw.den S ρ B)++((a.A S ρ).drop (j+l.length)).map (Value.int k)
  | [],a,j,t,_,h=>by
    simp only[jhb,Option.some.injEq] at h
    subst h
    simp
  | x::l,a,j,t,hj,h=>by
    cases x with
    | int k' v=>
      simp only[jhb] at h
      split at h
      · rename_i hk
        subst hk
        simp only[List.length_cons] at hj
        have:=jiw k (l:=l) (a:=.set a (.lit j) v) (j:=j+1) (t:=t) (by simp[T.A];omega) h
        rw[this]
        simp only[T.A,T.I,Int.toNat_natCast,List.map_cons,Aw.den,List.length_cons]
        rw[List.take_add_one,List.take_set_of_le (Nat.le_refl j),List.getElem?_set_self (by omega),List.drop_set_of_lt (by omega)]
        simp
        rw[show j+1+l.length=j+(l.length+1) from by omega]
      · cases h
    | _=>simp[jhb] at h
theorem j1n{k:IntKind}{g:Cp}{t:T}(h:qbf k g=some t):(t.A S ρ).map (Value.int k)=g.den S ρ B:=by
  unfold qbf at h
  split at h
  · rename_i l
    split at h
    · rename_i ns hn
      cases h
      exact (Vk (S:=S) (ρ:=ρ) (B:=B) k hn).symm
    · have:=jiw (S:=S) (ρ:=ρ) (B:=B) k (l:=l) (j:=0) (by simp[T.A]) h
      rw[this]
      simp[T.A,Cp.den]
  · split at h
    · rename_i hk;cases h;subst hk;rfl
    · cases h
  · split at h
    · rename_i hk;cases h;subst hk;rfl
    · cases h
  · cases h
theorem Wc{k:IntKind}: ∀{g:List Cp} {t:T},jb5 k g=some t→(t.A S ρ).map (Value.int k)=Av S ρ B g
  | [],t,h=>by simp only[jb5,Option.some.injEq] at h;subst h;rfl
  | x::g,t,h=>by
    unfold jb5 at h
    split at h
    · rename_i a b ha hb
      cases h
      rw[jt9,List.map_append,j1n (B:=B) ha,Wc hb,Au]
    · cases h
theorem jp3(hh:Cv S ρ w0 h w){k:IntKind}{l:Aw}{n t:T}{c:List T}(hb:jt5 k h l n=some (c,t))(hm:Dx S ρ c):
    ∃r s d ln cp,l=.sl r s d ln cp∧(t.A S ρ).length=(n.I S ρ).toNat∧
      ∀j v,((t.A S ρ).map (Value.int k))[j]? =some v→w.cell? ((Cw S ρ w0.heap.size r s d).add j)=some v:=by
  unfold jt5 at hb
  split at hb
  · rename_i r s d ln cp
    refine ⟨r,s,d,ln,cp,rfl,?_⟩
    have fin: ∀(a:T) (i:T) (u:T) (jj:Nat),i.I S ρ=jj+d.I S ρ→u.I S ρ≤(a.A S ρ).length→Dx S ρ (needs [Ek (.lit 0) d,Ek (.lit 0) n,Ek (Ej i n) u])→
        (∀q v,(a.A S ρ)[q]? =some v→jj≤q→w.cell? ⟨r.blk ρ w0.heap.size,r.off ρ+s+(q-jj),none⟩=some (.int k v))→
        ((T.cut a i n).A S ρ).length=(n.I S ρ).toNat∧ ∀j v,(((T.cut a i n).A S ρ).map (Value.int k))[j]? =some v→w.cell? ((Cw S ρ w0.heap.size r s d).add j)=some v:=by
      intro a i u jj hi hu hm hc
      obtain ⟨b1,b2,b3⟩:=jy6 hm
      have b1:=Fg b1;have b2:=Fg b2;have b3:=Fg b3
      simp only[T.I,Dg] at b1 b2 b3
      refine ⟨by simp[T.A];omega,fun j v hj=> ?_⟩
      simp only[T.A,List.getElem?_map,Option.map_eq_some_iff] at hj
      obtain ⟨x,hx,rfl⟩:=hj
      rw[List.getElem?_take] at hx
      split at hx
      · rename_i hjn
        rw[List.getElem?_drop] at hx
        have:=hc _ _ hx (by omega)
        simp only[Cw,Ho]
        rw[show r.off ρ+s+(d.I S ρ).toNat+j=r.off ρ+s+((i.I S ρ).toNat+j-jj) from by omega]
        exact this
      · cases hx
    split at hb
    · rename_i b hf
      have hmem:=Gw hf
      have hrw:=hh.rw_ _ hmem
      have hoff:=hh.off _ hmem
      have hwf:=hh.wf _ hmem
      simp only at hrw hoff hwf
      have hcell: ∀{p:List Cp} {x:Cp} {q:List Cp} {jj:Nat} {a:T},b.segs=p++x::q→(Av S ρ w0.heap.size p).length+jj=s→x.den S ρ w0.heap.size=(a.A S ρ).map (Value.int k)→
          ∀q v,(a.A S ρ)[q]? =some v→jj≤q→w.cell? ⟨r.blk ρ w0.heap.size,r.off ρ+s+(q-jj),none⟩=some (.int k v):=by
        intro p x q jj a e1 e2 e3 q v hv hq
        rw[cell_of_row w _ _ _ _ _ hrw,List.getElem?_toArray,e1,Bp,Au,e3,hoff]
        have hlt:=(List.getElem?_eq_some_iff.1 hv).1
        rw[List.getElem?_append_right (by omega),List.getElem?_append_left (by simp;omega)]
        rw[show 0+s+(q-jj)-(Av S ρ w0.heap.size p).length=q from by omega]
        simp[hv]
      split at hb
      · rename_i p k' a m jj q hs
        split at hb
        · rename_i hk
          subst hk
          simp only[Option.some.injEq,Prod.mk.injEq] at hb
          obtain ⟨rfl,rfl⟩:=hb
          obtain ⟨h1,h2,h3⟩:=Fj (B:=w0.heap.size) hwf hs
          have hwf2:=hwf
          rw[h1] at hwf2
          have hl:(a.A S ρ).length=m:=(Ax.1 (Ch.1 hwf2).2).1
          exact fin a _ _ jj (by simp[Dg,T.I]) (by simp[T.I];omega) hm (hcell h1 h2 rfl)
        · cases hb
      · rename_i p k' a jj q hs
        split at hb
        · rename_i hk
          subst hk
          simp only[Option.some.injEq,Prod.mk.injEq] at hb
          obtain ⟨rfl,rfl⟩:=hb
          obtain ⟨h1,h2,h3⟩:=Fj (B:=w0.heap.size) hwf hs
          exact fin a _ _ jj (by simp[Dg,T.I]) (by simp[T.I]) hm (hcell h1 h2 rfl)
        · cases hb
      · cases hb
    · split at hb
      · rename_i k' a hf
        split at hb
        · rename_i hk
          subst hk
          simp only[Option.some.injEq,Prod.mk.injEq] at hb
          obtain ⟨rfl,rfl⟩:=hb
          refine fin a _ _ s (by simp[Dg,T.I]) (by simp[T.I]) hm fun q v hv hq=> ?_
          have:=hh.ro _ (Jo hf) q v hv
          simp only at this
          rw[show r.off ρ+s+(q-s)=r.off ρ+q from by omega]
          exact this
        · cases hb
      · cases hb
  · cases hb
theorem jgr(hh:Cv S ρ w0 h w){k:IntKind}{l:Aw}{n t:T}{c:List T}(hb:jew k h l n=some (c,t))(hm:Dx S ρ c):
    ∃r s d ln cp,l=.sl r s d ln cp∧(t.A S ρ).length=(n.I S ρ).toNat∧
      ∀j v,((t.A S ρ).map (Value.int k))[j]? =some v→w.cell? ((Cw S ρ w0.heap.size r s d).add j)=some v:=by
  unfold jew at hb
  split at hb
  · rename_i m hv
    split at hb
    · rename_i c' g hrd
      split at hb
      · rename_i t' hp
        simp only[Option.some.injEq,Prod.mk.injEq] at hb
        obtain ⟨rfl,rfl⟩:=hb
        obtain ⟨r,s,d,ln,cp,e,g1,g2,g3⟩:=jf3 hh hrd hm
        have e2:=Wc (S:=S) (ρ:=ρ) (B:=w0.heap.size) hp
        refine ⟨r,s,d,ln,cp,e,?_,?_⟩
        · rw[Cy hv]
          have:=congrArg List.length e2
          rw[List.length_map,g1] at this
          simp[T.I,this]
        · rw[e2];exact g3
      · cases hb
    · exact jp3 hh hb hm
  · exact jp3 hh hb hm
theorem jfp(k:IntKind)(l:List Int): ∀v∈l.map (Value.int k),v.oneCell'=true:=by
  intro v hv
  obtain ⟨x,_,rfl⟩:=List.mem_map.1 hv
  rfl
theorem jqs{a b:T}(ha:0≤a.I S ρ)(hb:0≤b.I S ρ):((jko a b).I S ρ).toNat=Nat.min (a.I S ρ).toNat (b.I S ρ).toNat:=by
  rw[jqy]
  show _=Min.min _ _
  split<;>omega
theorem jws(hh:Cv S ρ w0 h w){t u ty:TypeId}{x y:Aw}{r:Sb}(hb:jxu P t x y h=some r)(hm:Dx S ρ r.need):
    r.val.wf S ρ∧ ∃w',(Builtin.copy_ #[t,u] ty #[x.den S ρ w0.heap.size,y.den S ρ w0.heap.size]).run P w=.ok (r.val.den S ρ w0.heap.size) w'∧Cv S ρ w0 r.heap w':=by
  unfold jxu at hb
  split at hb
  · rename_i e q s d ln cp r2 s2 d2 ln2 cp2 hu
    split at hb
    · rename_i b hf
      split at hb
      · rename_i hz
        have hmem:=Gw hf
        have hrw:=hh.rw_ _ hmem
        have hoff:=hh.off _ hmem
        have hwf:=hh.wf _ hmem
        simp only at hrw hoff hwf
        have ha:Cw S ρ w0.heap.size q s d=⟨q.blk ρ w0.heap.size,s+(d.I S ρ).toNat,none⟩:=by simp[Cw,hoff]
        have key: ∀{p:List Cp} {X:Cp} {qs:List Cp} {k:IntKind} {a g:T} {jj:Nat} {c:List T} {Y:Cp} {u':T},b.segs=p++X::qs→(Av S ρ w0.heap.size p).length+jj=s→X.den S ρ w0.heap.size=(a.A S ρ).map (Value.int k)→
            jew k h (.sl r2 s2 d2 ln2 cp2) (jko ln ln2)=some (c,g)→u'.I S ρ≤(a.A S ρ).length→Dx S ρ (c++needs [Ek (.lit 0) ln,Ek (.lit 0) ln2,Ek (.lit 0) d,Ek (Ej (Ej (.lit jj) d) (jko ln ln2)) u'])→
            Y.den S ρ w0.heap.size=((T.splice a (Ej (.lit jj) d) g).A S ρ).map (Value.int k)→(((T.splice a (Ej (.lit jj) d) g).A S ρ).length=(a.A S ρ).length→Cm S ρ (p++Y::qs))→
            ∃w',(Builtin.copy_ #[t,u] ty #[(Aw.sl q s d ln cp).den S ρ w0.heap.size,(Aw.sl r2 s2 d2 ln2 cp2).den S ρ w0.heap.size]).run P w=.ok (Value.int .i64 ((jko ln ln2).I S ρ)) w'∧
              Cv S ρ w0 {h with rw:=Tp h.rw q {b with segs:=p++Y::qs}} w':=by
          intro p X qs k a g jj c Y u' e1 e2 e3 hrd hu' hm e4 e5
          obtain ⟨m1,m2⟩:=Co.1 hm
          have m2:=Fu m2
          have b1:=Fg (Ag.1 m2).1
          have b2:=Fg (Ag.1 (Ag.1 m2).2).1
          have b3:=Fg (Ag.1 (Ag.1 (Ag.1 m2).2).2).1
          have b4:=Fg (Ag.1 (Ag.1 (Ag.1 (Ag.1 m2).2).2).2).1
          simp only[T.I,Dg] at b1 b2 b3 b4
          obtain ⟨r',s',d',ln',cp',heq,g1,g3⟩:=jgr hh hrd m1
          injection heq with h1 h2 h3 h4 h5
          subst h1 h2 h3 h4 h5
          have hmn:=jqs (S:=S) (ρ:=ρ) (a:=ln) (b:=ln2) b1 b2
          have hmi:(0:Int)≤(jko ln ln2).I S ρ:=by rw[jqy];split<;>omega
          have hlen:(Av S ρ w0.heap.size b.segs).length=(Av S ρ w0.heap.size p).length+((a.A S ρ).length+(Av S ρ w0.heap.size qs).length):=by
            rw[e1,Bp,Au,e3];simp
          have hcp:=run_copy_row (P:=P) w t u ty e (q.blk ρ w0.heap.size) (s+(d.I S ρ).toNat) (ln.I S ρ).toNat (cp.I S ρ).toNat (Cw S ρ w0.heap.size r2 s2 d2) (ln2.I S ρ).toNat (cp2.I S ρ).toNat _ b.ty ((g.A S ρ).map (Value.int k)) hu hz hrw
            (by rw[List.length_map,g1,hmn];exact Nat.min_comm _ _) g3 (by rw[List.length_map,g1,List.size_toArray,hlen];omega) (jfp _ _)
          have hsp:Av S ρ w0.heap.size (p++Y::qs)=(Av S ρ w0.heap.size b.segs).take (s+(d.I S ρ).toNat)++((g.A S ρ).map (Value.int k)++(Av S ρ w0.heap.size b.segs).drop (s+(d.I S ρ).toNat+(g.A S ρ).length)):=by
            have:=Xy (Av S ρ w0.heap.size p) ((a.A S ρ).map (Value.int k)) (Av S ρ w0.heap.size qs) (jj+(d.I S ρ).toNat) ((g.A S ρ).map (Value.int k)) (by simp only[List.length_map,g1];omega)
            simp only[List.length_map] at this
            rw[e1,Bp,Au,Bp,Au,e3,e4,←e2,Nat.add_assoc (Av S ρ w0.heap.size p).length,this]
            simp only[T.A,Cb,Dg,T.I,List.map_append,List.map_take,List.map_drop]
            rw[show ((jj:Int)+d.I S ρ).toNat=jj+(d.I S ρ).toNat from by omega]
          refine ⟨w.setRow (q.blk ρ w0.heap.size) (Av S ρ w0.heap.size (p++Y::qs)).toArray,?_,hh.upd hf (segs:=p++Y::qs) (e5 ?_) (setRow_heap w _ _ _ _ _ hrw) (fun i hi=>setRow_other w _ _ _ hi) (by simp) rfl rfl rfl⟩
          · simp only[Aw.den]
            rw[ha,hcp,hsp]
            simp only[List.length_map,g1,goInt]
            rw[Int.toNat_of_nonneg hmi]
            simp
          · simp only[T.A,Cb,Dg,T.I,List.length_append,List.length_take,List.length_drop,g1]
            omega
        split at hb
        · rename_i p k a m jj qs hs
          obtain ⟨h1,h2,h3⟩:=Fj (B:=w0.heap.size) hwf hs
          have hwf2:=hwf
          rw[h1] at hwf2
          have hl:(a.A S ρ).length=m:=(Ax.1 (Ch.1 hwf2).2).1
          simp only at hb
          split at hb
          · rename_i c g hrd
            simp only[Option.some.injEq] at hb
            subst hb
            refine ⟨trivial,key h1 h2 rfl hrd (by simp[T.I];omega) hm rfl fun hle=> ?_⟩
            have:=Ch.1 hwf2
            exact Ch.2 ⟨this.1,Ax.2 ⟨by show _=m;rw[hle];exact hl,(Ax.1 this.2).2⟩⟩
          · cases hb
        · rename_i p k a jj qs hs
          obtain ⟨h1,h2,h3⟩:=Fj (B:=w0.heap.size) hwf hs
          simp only at hb
          split at hb
          · rename_i c g hrd
            simp only[Option.some.injEq] at hb
            subst hb
            refine ⟨trivial,key h1 h2 rfl hrd (by simp[T.I]) hm rfl fun hle=> ?_⟩
            have hwf2:=hwf
            rw[h1] at hwf2
            have:=Ch.1 hwf2
            exact Ch.2 ⟨this.1,Ax.2 ⟨trivial,(Ax.1 this.2).2⟩⟩
          · cases hb
        · cases hb
      · cases hb
    · cases hb
  · cases hb
theorem j2p(hh:Cv S ρ w0 h w){t u ty:TypeId}{x y:Aw}{r:Sb}(hb:jtj P t x y h=some r)(hm:Dx S ρ r.need):
    r.val.wf S ρ∧ ∃w',(Builtin.copy_ #[t,u] ty #[x.den S ρ w0.heap.size,y.den S ρ w0.heap.size]).run P w=.ok (r.val.den S ρ w0.heap.size) w'∧Cv S ρ w0 r.heap w':=by
  unfold jtj at hb
  split at hb
  · rename_i e q s d ln cp r2 s2 d2 ln2 cp2 hu
    split at hb
    · rename_i p1 p2 b hz hv1 hv2 hf
      split at hb
      · rename_i c g hrd
        split at hb
        · rename_i hpl
          split at hb
          · rename_i c' g' hst
            simp only[Option.some.injEq] at hb
            subst hb
            obtain ⟨m1,m2⟩:=Co.1 hm
            obtain ⟨r',s',d',ln',cp',heq,g1,g2,g3⟩:=jf3 hh hrd m1
            injection heq with e1 e2 e3 e4 e5
            subst e1 e2 e3 e4 e5
            have hmem:=Gw hf
            have hrw:=hh.rw_ _ hmem
            have hoff:=hh.off _ hmem
            have hwf:=hh.wf _ hmem
            simp only at hrw hoff hwf
            obtain ⟨h1,h2,h3⟩:=Oy (B:=w0.heap.size) hwf g2 g1 hst m2
            have hsz:(P.info? e).map (·.size)=some 1:=hz
            have hl1:(ln.I S ρ).toNat=p1:=by rw[Cy hv1];simp[T.I]
            have hl2:(ln2.I S ρ).toNat=p2:=by rw[Cy hv2];simp[T.I]
            have hcp:=run_copy_row (P:=P) w t u ty e (q.blk ρ w0.heap.size) (s+(d.I S ρ).toNat) p1 (cp.I S ρ).toNat (Cw S ρ w0.heap.size r2 s2 d2) p2 (cp2.I S ρ).toNat _ b.ty (Av S ρ w0.heap.size g) hu hsz hrw g1 g3
              (by rw[g1];simpa using h3) (Yd hpl)
            refine ⟨trivial,_,?_,hh.upd hf (segs:=Dn g') ((Ew (S:=S) (ρ:=ρ) (B:=w0.heap.size) g').2 h2) (w':=w.setRow (q.blk ρ w0.heap.size) (Av S ρ w0.heap.size (Dn g')).toArray) (setRow_heap w _ _ _ _ _ hrw) (fun i hi=>setRow_other w _ _ _ hi) (by simp) rfl rfl rfl⟩
            simp only[Aw.den,hl1,hl2]
            have ha:Cw S ρ w0.heap.size q s d=⟨q.blk ρ w0.heap.size,s+(d.I S ρ).toNat,none⟩:=by simp[Cw,hoff]
            rw[ha,hcp,g1,(Ew (S:=S) (ρ:=ρ) (B:=w0.heap.size) g').1,h1]
            simp[goInt,SR.den,SV.den,Aw.den,T.I]
          · cases hb
        · cases hb
      · cases hb
    · cases hb
  · cases hb
end
def Ei(P:Program)(S:Hw)(f:FuncId)(s:Ec):Prop:=
  ∀(ρ:Et) (w0 w:World) (h:Hp) (args:List SR) (r:Sb),s args h=some r→Dx S ρ r.need→(∀x∈args,x.wf S ρ)→Cv S ρ w0 h w→
    r.val.wf S ρ∧Calls P f (args.map (SR.den S ρ w0.heap.size)).toArray w (fun e w'=>e=.returned (r.val.den S ρ w0.heap.size)∧Cv S ρ w0 r.heap w')
section
variable {S:Hw} {ρ:Et} {w0 w:World} {h:Hp} {P:Program} {B:Nat}
theorem jki{fr:Nat→SR}{a:Act}{xs:Array Operand}(hf: ∀t,(fr t).wf S ρ)(ha:Pq S ρ B fr a xs): ∀{l:List Operand} {r:List SR},(∀x∈l,x∈xs)→l.mapM (Ua fr)=some r→
    l.map a.eval=r.map (SR.den S ρ B)∧ ∀x∈r,x.wf S ρ
  | [],r,_,h=>by simp at h;subst h;exact ⟨rfl,fun _ h=>nomatch h⟩
  | x::l,r,hl,h=>by
    simp only[List.mapM_cons,Option.bind_eq_bind,Option.pure_def] at h
    cases hx:Ua fr x with
    | none=>simp[hx] at h
    | some y=>
      cases hr:l.mapM (Ua fr) with
      | none=>simp[hx,hr] at h
      | some r'=>
        simp[hx,hr] at h
        subst h
        obtain ⟨h1,h2⟩:=jki hf ha (fun x hx=>hl x (by simp[hx])) hr
        refine ⟨by simp[Hx ha (hl x (by simp)) hx,h1],fun z hz=> ?_⟩
        rcases List.mem_cons.1 hz with rfl|hz
        · exact Nu hf hx
        · exact h2 z hz
theorem Oq{fr:Nat→SR}{a:Act}{xs:Array Operand}(hf: ∀t,(fr t).wf S ρ)(ha:Pq S ρ B fr a xs): ∀{l:List (Nat×Operand)} {r:List (Nat×SR)},(∀x∈l,x.2∈xs)→l.mapM (fun (i,x)=>(Ua fr x).map fun v=>(i,v))=some r→
    l.map (fun p=>(p.1,a.eval p.2))=r.map (fun p=>(p.1,p.2.den S ρ B))∧ ∀x∈r,x.2.wf S ρ
  | [],r,_,h=>by simp at h;subst h;exact ⟨rfl,fun _ h=>nomatch h⟩
  | (i,x)::l,r,hl,h=>by
    simp only[List.mapM_cons,Option.bind_eq_bind,Option.pure_def] at h
    cases hx:Ua fr x with
    | none=>simp[hx] at h
    | some y=>
      cases hr:l.mapM (fun (i,x)=>(Ua fr x).map fun v=>(i,v)) with
      | none=>simp[hx,hr] at h
      | some r'=>
        simp[hx,hr] at h
        subst h
        obtain ⟨h1,h2⟩:=Oq hf ha (fun x hx=>hl x (by simp[hx])) hr
        refine ⟨by simp[Hx ha (hl (i,x) (by simp)) hx,h1],fun z hz=> ?_⟩
        rcases List.mem_cons.1 hz with rfl|hz
        · exact Nu hf hx
        · exact h2 z hz
theorem jcf{f:FuncId}{args:Array Value}(h:jdb P f=true):(callFunc f args).run P w=.ok (.enter f args) w:=by
  unfold jdb at h
  cases hf:P.funcs[f]? with
  | none=>simp[hf] at h
  | some fn=>
    simp only[hf,Bool.and_eq_true,Bool.not_eq_true'] at h
    obtain ⟨h1,h2⟩:=h
    have h3:fn.body.isNone=false:=by cases hb:fn.body<;>simp[hb] at h1⊢
    unfold callFunc
    simp only[program,Sem.run_bind,Sem.run,Result.andThen_ok,hf,h2,h3,Bool.false_eq_true,if_false,Sem.run_pure]
theorem jr8{t:TypeId}{name:String}{f:FuncId}{v:Value}(h:jjd P t name=some f)(k:Nat):(method (k+1) t v name).run P w=.ok (f,v) w:=by
  unfold jjd at h
  split at h
  · rename_i i hi
    split at h
    · rename_i m hm
      split at h
      · rename_i hp
        split at h
        · rename_i g e hg hu
          injection h with h
          subst h
          have hp':m.path= #[]:=by simpa using hp
          simp[method,typeInfo,hi,hm,hp',follow,hg,receiverAt,run_underlying hu,Place.get]
        · cases h
      · cases h
    · cases h
  · cases h
theorem jgj{fr:Nat→SR}{a:Act}{c:Call}{t:TypeId}{f:FuncId}{args:List SR}(hf: ∀t,(fr t).wf S ρ)(ha:Pq S ρ B fr a c.operands)(h:jm4 P fr c=some (f,args)):
    (do let d ←resolve a.eval c t;invoke d.target d.args:Sem Next).run P w=.ok (.enter f (args.map (SR.den S ρ B)).toArray) w∧ ∀x∈args,x.wf S ρ:=by
  unfold jm4 at h
  simp only at h
  split at h
  · rename_i g hc
    split at h
    · rename_i hb
      cases hm:c.args.toList.mapM (Ua fr) with
      | none=>simp[hm] at h
      | some r=>
        simp[hm] at h
        obtain ⟨rfl,rfl⟩:=h
        obtain ⟨h1,h2⟩:=jki hf ha (fun x hx=>by simp[Call.operands,hc];exact .inr (by simpa using hx)) hm
        refine ⟨?_,h2⟩
        have h3:(c.args.map a.eval)=(r.map (SR.den S ρ B)).toArray:=by rw[←h1,←Array.toList_map]
        simp[resolve,hc,Act.eval,Deferred.ofValue,invoke,jcf hb,h3]
    · cases h
  · rename_i x name hc
    split at h
    · rename_i ti l hx
      split at h
      · rename_i g hg
        split at h
        · rename_i hb
          cases hm:c.args.toList.mapM (Ua fr) with
          | none=>simp[hm] at h
          | some r=>
            simp[hm] at h
            obtain ⟨rfl,rfl⟩:=h
            obtain ⟨h1,h2⟩:=jki hf ha (fun x hx=>by simp[Call.operands,hc];exact .inr (by simpa using hx)) hm
            refine ⟨?_,fun z hz=> ?_⟩
            · have h3:(c.args.map a.eval)=(r.map (SR.den S ρ B)).toArray:=by rw[←h1,←Array.toList_map]
              have h4:=Dp ha (x:=x) (by simp[Call.operands,hc]) hx
              obtain ⟨k,hk⟩: ∃k,P.types.size+Made.depth=k+1:=⟨P.types.size+(Made.depth-1),by unfold Made.depth;omega⟩
              have h5:=jr8 (w:=w) (v:=l.den S ρ B) hg k
              simp[resolve,hc,h4,Aw.den,invoke,callMethod,program,Sem.run,hk,h5,jcf hb,h3,Aw.sr,SR.den,SV.den]
              rw[List.take_of_length_le (by simp)]
            · rcases List.mem_cons.1 hz with rfl|hz
              · trivial
              · exact h2 z hz
        · cases h
      · cases h
    · cases h
  · cases h
end
section
variable {P:Program}
theorem jal{e:TypeId}{q:IntKind}(he:P.underlying e=some (.int q)):P.plainKey e=true:=by
  unfold Program.plainKey;rw[he]
theorem Rt(d:Nat){e:TypeId}{q k:IntKind}(he:P.underlying e=some (.int q))(w:World)(X Y:List Int)(hl:X.length=Y.length): ∀(m s:Nat),s+m=X.length→
    (Op.eqItems (d+1) e 1 (X.map (Value.int k)).toArray (Y.map (Value.int k)).toArray (List.range' s m)).run P w=.ok (decide (X.drop s=Y.drop s)) w
  | 0,s,h=>by
    rw[List.drop_of_length_le (by omega),List.drop_of_length_le (by omega)]
    simp[Op.eqItems]
  | m+1,s,h=>by
    have ih:=Rt (k:=k) d he w X Y hl m (s+1) (by omega)
    have hx:s<X.length:=by omega
    have hy:s<Y.length:=by omega
    have p1:=run_part_plain w (jal he) (xs:=(X.map (Value.int k)).toArray) (off:=s*1) (v:=.int k X[s]) (by simp[hx])
    have p2:=run_part_plain w (jal he) (xs:=(Y.map (Value.int k)).toArray) (off:=s*1) (v:=.int k Y[s]) (by simp[hy])
    have p3:=run_equalIn_int w d e k q X[s] Y[s] he
    rw[List.range'_succ]
    simp only[Op.eqItems,Sem.run_bind,p1,p2,p3,Result.andThen_ok]
    rw[List.drop_eq_getElem_cons hx,List.drop_eq_getElem_cons hy]
    by_cases hxy:X[s]=Y[s]
    · simp only[hxy,BEq.rfl,Bool.not_true,Bool.false_eq_true,if_false,ih,List.cons.injEq,true_and]
    · have:(X[s]==Y[s])=false:=by simpa using hxy
      have hne: ¬(X[s]::X.drop (s+1)=Y[s]::Y.drop (s+1)):=fun h=>hxy (List.cons.inj h).1
      simp only[this,Bool.not_false,if_true,Sem.run_pure,decide_eq_false hne]
theorem Vb{t e:TypeId}{n:Nat}{q k:IntKind}(hu:P.underlying t=some (.array n e))(he:P.underlying e=some (.int q))(hs:Kf P e=some 1)(w:World)(X Y:List Int)(hx:X.length=n)(hy:Y.length=n):
    (Op.equal t (.agg (X.map (Value.int k)).toArray) (.agg (Y.map (Value.int k)).toArray)).run P w=.ok (decide (X=Y)) w:=by
  obtain ⟨i,hi⟩:=info_of_underlying he
  have hc:P.cellsOf e=1:=by
    unfold Kf at hs
    unfold Program.cellsOf
    rw[hi] at hs⊢
    simpa using hs
  unfold Op.equal Op.maxDepth
  rw[run_equalIn_array w 9999 _ _ hu hi,hc,List.range_eq_range']
  have:=Rt (k:=k) 9998 he w X Y (by omega) n 0 (by omega)
  simpa using this
theorem Zt{op:BinOp}{t e:TypeId}{n:Nat}{q:IntKind}(hu:P.underlying t=some (.array n e))(he:P.underlying e=some (.int q))(w:World)(x y:Operand)(a b:Array Value):
    (eqGuard op t x y (.agg a) (.agg b)).run P w=.ok () w:=by
  have hd:P.eqGuardType P.depth t=false:=by
    have:P.depth=(2*(P.types.size+Made.depth))+1+1:=rfl
    rw[this]
    simp only[Program.eqGuardType,hu,he]
  unfold eqGuard
  cases op<;>simp[program,Sem.run,hd]<;>rfl
end
end
end Go.Proofs.YtljjbikbfeigdaaGreatDoor
