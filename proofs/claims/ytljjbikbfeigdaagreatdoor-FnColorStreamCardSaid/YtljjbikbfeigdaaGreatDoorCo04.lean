/- Part of the proof of FnColorStreamCardSaid: Zero values, literals, new blocks, parts of values: each yields what its symbolic form says. -/
import Derived.Test.YtljjbikbfeigdaaGreatDoorCo03
import Derived.Laws.Tables
import Derived.ChangeKeysEq
import Derived.Orders
set_option linter.all false
namespace Go.Proofs.YtljjbikbfeigdaaGreatDoor
noncomputable section
open Go
section
variable {S:Hw} {ρ:Et} {w0 w:World} {h:Hp} {P:Program} {B:Nat}
theorem jb2: ∀{vs:List Value} {l:List Aw},Vv vs=some l→l.map (Aw.den S ρ B)=vs
  | [],l,h=>by simp[Vv] at h;subst h;rfl
  | v::vs,l,h=>by
    unfold Vv at h
    split at h
    · rename_i a b ha hb
      simp only[Option.some.injEq] at h
      subst h
      simp[Sn ha,jb2 hb]
    · cases h
theorem Ml: ∀{g:List Cp} {l:List Aw},Nm g=some l→Av S ρ B g=l.map (Aw.den S ρ B)∧Cm S ρ g
  | [],l,h=>by simp[Nm] at h;subst h;exact ⟨rfl,fun _ h=>nomatch h⟩
  | x::g,l,h=>by
    unfold Nm at h
    split at h
    · rename_i a b ha hb
      simp only[Option.some.injEq] at h
      subst h
      obtain ⟨h1,h2⟩:=Ml hb
      have:x.den S ρ B=a.map (Aw.den S ρ B)∧x.wf S ρ:=by
        unfold jsz at ha
        split at ha
        · injection ha with ha;subst ha;exact ⟨rfl,trivial⟩
        · split at ha
          · rename_i k m z n hmn
            injection ha with ha;subst ha
            simp[Cp.den,Cp.wf,T.A,T.I,Aw.den,hmn]
          · cases ha
        · split at ha
          · rename_i m z n hmn
            injection ha with ha;subst ha
            simp[Cp.den,Cp.wf,T.A,T.B,T.I,Aw.den,hmn.1,hmn.2,jlh]
          · cases ha
        · cases ha
      exact ⟨by rw[Au,this.1,h1,List.map_append],Ax.2 ⟨this.2,h2⟩⟩
    · cases h
theorem Kj{t:TypeId}{g:List Cp}(hz:Zu P t=some g): ∃i z,P.info? t=some i∧i.zero=some z∧Av S ρ B g=z.cells.toList∧Cm S ρ g:=by
  unfold Zu at hz
  split at hz
  · rename_i g0 z hg hzz
    split at hz
    · rename_i a b ha hb
      split at hz
      · rename_i hab
        injection hz with hz
        subst hz hab
        cases hi:P.info? t with
        | none=>simp[hi] at hzz
        | some i=>
          simp[hi] at hzz
          obtain ⟨h1,h2⟩:=Ml (S:=S) (ρ:=ρ) (B:=B) ha
          exact ⟨i,z,rfl,hzz,by rw[h1];exact jb2 hb,h2⟩
      · cases hz
    · cases hz
  · cases hz
theorem Uo(hh:Cv S ρ w0 h w):Cw S ρ w0.heap.size (.new h.na) 0 (.lit 0)=⟨w.heap.size,0,none⟩:=by
  simp[Cw,Cl.blk,Cl.off,T.I,hh.size]
theorem jxr(hh:Cv S ρ w0 h w){t:TypeId}{g:List Cp}(hz:Zu P t=some g):
    (Instr.alloc t true (.tuple #[])).run P w=.ok (Aw.den S ρ w0.heap.size (.ptr (.new h.na) 0 (.lit 0))) (w.alloc (.cells (Av S ρ w0.heap.size g).toArray t))∧
    Cv S ρ w0 (Ze h ⟨t,g⟩) (w.alloc (.cells (Av S ρ w0.heap.size g).toArray t)):=by
  obtain ⟨i,z,hi,hzz,hd,hw⟩:=Kj (S:=S) (ρ:=ρ) (B:=w0.heap.size) hz
  refine ⟨?_,hh.push t hw⟩
  simp[Instr.alloc,zeroValue,typeInfo,hi,hzz,newVar,newRow,Aw.den,Uo hh,hd]
theorem Va{x:SV}(h:x.plain=true):(x.den S ρ B).cells.toList=Av S ρ B x.segs:=by
  cases x with
  | one l=>simp only[SV.den,SV.segs,(jb7 (S:=S) (ρ:=ρ) (B:=B) h).2];simp[Au,Cj,Cp.den]
  | agg g=>simp[SV.den,SV.segs,Value.cells]
theorem jld{x:SV}(h:x.wf S ρ):Cm S ρ x.segs:=by
  cases x with
  | one l=>intro g hg;simp[SV.segs] at hg;subst hg;trivial
  | agg g=>exact h
theorem qbq(hh:Cv S ρ w0 h w){t:TypeId}{x:SV}(hx:x.wf S ρ)(hp:x.plain=true):
    (Instr.box t (x.den S ρ w0.heap.size)).run P w=.ok (Aw.den S ρ w0.heap.size (.ptr (.new h.na) 0 (.lit 0))) (w.alloc (.cells (Av S ρ w0.heap.size x.segs).toArray t))∧
    Cv S ρ w0 (Ze h ⟨t,x.segs⟩) (w.alloc (.cells (Av S ρ w0.heap.size x.segs).toArray t)):=by
  refine ⟨?_,hh.push t (jld hx)⟩
  simp[Instr.box,newVar,newRow,Aw.den,Uo hh,←Va hp]
theorem jhv(off:Nat): ∀(l:List Value) (k:Nat) (arr:List Value),off+k+l.length≤arr.length→
    (l.zipIdx k).foldl (fun (cs:Array Value) (p:Value×Nat)=>cs.setIfInBounds (off+p.2) p.1) arr.toArray=(arr.take (off+k)++(l++arr.drop (off+k+l.length))).toArray
  | [],k,arr,_=>by simp
  | v::l,k,arr,hl=>by
    simp only[List.length_cons] at hl
    simp only[List.zipIdx_cons,List.foldl_cons,List.setIfInBounds_toArray]
    rw[jhv off l (k+1) (arr.set (off+k) v) (by simp;omega)]
    congr 1
    rw[List.set_eq_take_append_cons_drop,if_pos (by omega)]
    have e1:(List.take (off+k) arr).length=off+k:=by simp;omega
    rw[List.take_append,List.drop_append,e1,List.take_of_length_le (by omega),List.drop_eq_nil_of_le (by omega:(List.take (off+k) arr).length≤off+(k+1)+l.length)]
    rw[show off+(k+1)-(off+k)=1 from by omega,show off+(k+1)+l.length-(off+k)=l.length+1 from by omega]
    simp only[List.take_succ_cons,List.take_zero,List.drop_succ_cons,List.drop_drop,List.nil_append,List.length_cons,List.append_assoc,List.cons_append]
    congr 4
    omega
theorem jda(place:Nat→Option (Nat×Nat)): ∀{ps:List (Nat×SR)} {g:List Cp} {c:List T} {g':List Cp},Cm S ρ g→(∀p∈ps,p.2.wf S ρ)→jeo place g ps=some (c,g')→
    Instr.fill place (Av S ρ B g).toArray (ps.map fun p=>(p.1,p.2.den S ρ B))=some (Av S ρ B g').toArray∧Cm S ρ g'
  | [],g,c,g',hg,_,h=>by
    simp only[jeo,Option.some.injEq,Prod.mk.injEq] at h
    obtain ⟨_,rfl⟩:=h
    exact ⟨rfl,hg⟩
  | (i,r)::ps,g,c,g',hg,hw,h=>by
    unfold jeo at h
    split at h
    · rename_i he
      cases he
    · rename_i i' x r' he
      injection he with he1 he2
      injection he1 with he1 he3
      subst he1 he2 he3
      split at h
      · rename_i off size n hp hn
        split at h
        · rename_i hc
          obtain ⟨rfl,hpl⟩:=hc
          split at h
          · rename_i c' g1 hs
            have hx:x.wf S ρ:=hw (i,.v x) (by simp)
            have hlen:=Sw (B:=B) (jld hx) hn
            obtain ⟨h1,h2,h3⟩:=Oy (B:=B) hg (jld hx) hlen hs (by
              unfold Nb at hs
              rw[if_pos (Qr.2 rfl)] at hs
              split at hs
              · rename_i p y hp'
                cases hq:Fd y n with
                | none=>simp[hq] at hs
                | some xy=>simp[hq] at hs;rw[hs.1];exact Dx.nil
              · cases hs)
            obtain ⟨h4,h5⟩:=jda place h2 (fun p hp=>hw p (by simp[hp])) h
            refine ⟨?_,h5⟩
            simp only[List.map_cons,Instr.fill,hp,SR.den]
            have hcells:=Va (S:=S) (ρ:=ρ) (B:=B) hpl
            have hsz:(x.den S ρ B).cells.size=n:=by rw[←hlen,←hcells];simp
            simp only[T.I,Int.toNat_zero,Nat.add_zero] at h1 h3
            rw[if_neg (by simp[hsz];omega)]
            rw[←h4]
            congr 1
            rw[←Array.foldl_toList,Array.toList_zipIdx,hcells,jhv off _ 0 _ (by omega),h1,hlen]
            simp
          · cases h
        · cases h
      · cases h
    · cases h
theorem Vk(k:IntKind): ∀{l:List Aw} {ns:List Int},Si k l=some ns→l.map (Aw.den S ρ B)=ns.map (Value.int k)
  | [],ns,h=>by simp[Si] at h;subst h;rfl
  | x::l,ns,h=>by
    unfold Si at h
    split at h
    · cases ‹_=[]›
    · rename_i k' n r he
      injection he with he1 he2
      subst he1 he2
      split at h
      · rename_i hk
        subst hk
        cases hr:Si k l with
        | none=>simp[hr] at h
        | some m=>simp[hr] at h;subst h;simp[Vk k hr,Aw.den,T.I]
      · cases h
    · cases h
theorem ja0(g:List Cp)(hw:Cm S ρ g):Av S ρ B (Uh g)=Av S ρ B g∧Cm S ρ (Uh g):=by
  unfold Uh
  split
  · rename_i l
    split
    · rename_i k t r
      split
      · rename_i ns hns
        have:=Vk (S:=S) (ρ:=ρ) (B:=B) k hns
        refine ⟨?_,fun g hg=> ?_⟩
        · simp only[Au,Cj,List.append_nil,Cp.den,T.A];exact this.symm
        · simp at hg;subst hg;simp[Cp.wf,T.A]
      · exact ⟨rfl,hw⟩
    · exact ⟨rfl,hw⟩
  · exact ⟨rfl,hw⟩
theorem ju1{t:TypeId}{g:List Cp}{off:Nat}{x:SV}(hu: ∃d,P.underlying t=some d)(hw:Cm S ρ g)(hb:jh9 P t g off=some x):
    (part t (Av S ρ B g).toArray off).run P w=.ok (x.den S ρ B) w∧x.wf S ρ:=by
  obtain ⟨d,hu⟩:=hu
  unfold jh9 at hb
  split at hb
  · rename_i hagg
    split at hb
    · rename_i n hn
      split at hb
      · rename_i y hl
        injection hb with hb
        subst hb
        obtain ⟨h1,h2,h3⟩:=Qw (B:=B) hw hl Dx.nil
        refine ⟨?_,h3⟩
        simp only[T.I,Int.toNat_zero,Nat.add_zero] at h1
        simp only[part,Sem.run_bind,Mt hu,Result.andThen_ok,hagg,if_true,Ha hn,Sem.run_pure,SV.den]
        rw[h1]
        simp
      · cases hb
    · cases hb
  · rename_i hagg
    split at hb
    · rename_i y hl
      injection hb with hb
      subst hb
      have h1:=Xa (B:=B) hw hl Dx.nil
      simp only[T.I,Int.toNat_zero,Nat.add_zero] at h1
      refine ⟨?_,trivial⟩
      simp only[part,Sem.run_bind,Mt hu,Result.andThen_ok,hagg,Bool.false_eq_true,if_false,List.getElem?_toArray,h1,Sem.run_pure,SV.den]
    · cases hb
theorem Ux(z:Array Value)(n m:Nat)(hz:z.size=n)(hn:0<n):((Array.range (m*n)).map (z[· % z.size]!)).toList=(List.replicate m z.toList).flatten:=by
  subst hz
  induction m with
  | zero=>simp
  | succ m ih=>
    simp only[Array.toList_map,Array.toList_range] at ih⊢
    rw[Nat.succ_mul,List.range_add,List.map_append,ih,List.replicate_succ',List.flatten_append]
    congr 1
    simp only[List.map_map,List.flatten_cons,List.flatten_nil,List.append_nil]
    apply List.ext_getElem
    · simp
    · intro i h1 h2
      simp at h1
      simp[Nat.mod_eq_of_lt h1,h1]
theorem jt9(a b:T):(Xf a b).A S ρ=a.A S ρ++b.A S ρ:=by
  unfold Xf
  split
  · rename_i h1 h2;rw[Pd h1,Pd h2];rfl
  · rw[Pd (t:=a) (by assumption)];rfl
  · rw[Pd (t:=b) (by assumption)];simp[T.A]
  · simp[T.A,T.I,Cb]
theorem jiw(k:IntKind): ∀{l:List Aw} {a:T} {j:Nat} {t:T},j+l.length≤(a.A S ρ).length→jhb k a j l=some t→
    (t.A S ρ).map (Value.int k)=((a.A S ρ).take j).map (Value.int k)++l.map (Aw.den S ρ B)++((a.A S ρ).drop (j+l.length)).map (Value.int k)
  | [],a,j,t,_,h=>by
    simp only[jhb,Option.some.injEq] at h
    subst h
    simp
  | x::l,a,j,t,hj,h=>by
    cases x with
    | int k' v=>
      simp only[jhb] at h
      split at h
      · rename_i hk
        subst hk
        simp only[List.length_cons] at hj
        have:=jiw k (l:=l) (a:=.set a (.lit j) v) (j:=j+1) (t:=t) (by simp[T.A];omega) h
        rw[this]
        simp only[T.A,T.I,Int.toNat_natCast,List.map_cons,Aw.den,List.length_cons]
        rw[List.take_add_one,List.take_set_of_le (Nat.le_refl j),List.getElem?_set_self (by omega),List.drop_set_of_lt (by omega)]
        simp
        rw[show j+1+l.length=j+(l.length+1) from by omega]
      · cases h
    | _=>simp[jhb] at h
theorem j1n{k:IntKind}{g:Cp}{t:T}(h:qbf k g=some t):(t.A S ρ).map (Value.int k)=g.den S ρ B:=by
  unfold qbf at h
  split at h
  · rename_i l
    split at h
    · rename_i ns hn
      cases h
      exact (Vk (S:=S) (ρ:=ρ) (B:=B) k hn).symm
    · have:=jiw (S:=S) (ρ:=ρ) (B:=B) k (l:=l) (j:=0) (by simp[T.A]) h
      rw[this]
      simp[T.A,Cp.den]
  · split at h
    · rename_i hk;cases h;subst hk;rfl
    · cases h
  · split at h
    · rename_i hk;cases h;subst hk;rfl
    · cases h
  · cases h
theorem Wc{k:IntKind}: ∀{g:List Cp} {t:T},jb5 k g=some t→(t.A S ρ).map (Value.int k)=Av S ρ B g
  | [],t,h=>by simp only[jb5,Option.some.injEq] at h;subst h;rfl
  | x::g,t,h=>by
    unfold jb5 at h
    split at h
    · rename_i a b ha hb
      cases h
      rw[jt9,List.map_append,j1n (B:=B) ha,Wc hb,Au]
    · cases h
theorem jp3(hh:Cv S ρ w0 h w){k:IntKind}{l:Aw}{n t:T}{c:List T}(hb:jt5 k h l n=some (c,t))(hm:Dx S ρ c):
    ∃r s d ln cp,l=.sl r s d ln cp∧(t.A S ρ).length=(n.I S ρ).toNat∧
      ∀j v,((t.A S ρ).map (Value.int k))[j]? =some v→w.cell? ((Cw S ρ w0.heap.size r s d).add j)=some v:=by
  unfold jt5 at hb
  split at hb
  · rename_i r s d ln cp
    refine ⟨r,s,d,ln,cp,rfl,?_⟩
    have fin: ∀(a:T) (i:T) (u:T) (jj:Nat),i.I S ρ=jj+d.I S ρ→u.I S ρ≤(a.A S ρ).length→Dx S ρ (needs [Ek (.lit 0) d,Ek (.lit 0) n,Ek (Ej i n) u])→
        (∀q v,(a.A S ρ)[q]? =some v→jj≤q→w.cell? ⟨r.blk ρ w0.heap.size,r.off ρ+s+(q-jj),none⟩=some (.int k v))→
        ((T.cut a i n).A S ρ).length=(n.I S ρ).toNat∧ ∀j v,(((T.cut a i n).A S ρ).map (Value.int k))[j]? =some v→w.cell? ((Cw S ρ w0.heap.size r s d).add j)=some v:=by
      intro a i u jj hi hu hm hc
      obtain ⟨b1,b2,b3⟩:=jy6 hm
      have b1:=Fg b1;have b2:=Fg b2;have b3:=Fg b3
      simp only[T.I,Dg] at b1 b2 b3
      refine ⟨by simp[T.A];omega,fun j v hj=> ?_⟩
      simp only[T.A,List.getElem?_map,Option.map_eq_some_iff] at hj
      obtain ⟨x,hx,rfl⟩:=hj
      rw[List.getElem?_take] at hx
      split at hx
      · rename_i hjn
        rw[List.getElem?_drop] at hx
        have:=hc _ _ hx (by omega)
        simp only[Cw,Ho]
        rw[show r.off ρ+s+(d.I S ρ).toNat+j=r.off ρ+s+((i.I S ρ).toNat+j-jj) from by omega]
        exact this
      · cases hx
    split at hb
    · rename_i b hf
      have hmem:=Gw hf
      have hrw:=hh.rw_ _ hmem
      have hoff:=hh.off _ hmem
      have hwf:=hh.wf _ hmem
      simp only at hrw hoff hwf
      have hcell: ∀{p:List Cp} {x:Cp} {q:List Cp} {jj:Nat} {a:T},b.segs=p++x::q→(Av S ρ w0.heap.size p).length+jj=s→x.den S ρ w0.heap.size=(a.A S ρ).map (Value.int k)→
          ∀q v,(a.A S ρ)[q]? =some v→jj≤q→w.cell? ⟨r.blk ρ w0.heap.size,r.off ρ+s+(q-jj),none⟩=some (.int k v):=by
        intro p x q jj a e1 e2 e3 q v hv hq
        rw[cell_of_row w _ _ _ _ _ hrw,List.getElem?_toArray,e1,Bp,Au,e3,hoff]
        have hlt:=(List.getElem?_eq_some_iff.1 hv).1
        rw[List.getElem?_append_right (by omega),List.getElem?_append_left (by simp;omega)]
        rw[show 0+s+(q-jj)-(Av S ρ w0.heap.size p).length=q from by omega]
        simp[hv]
      split at hb
      · rename_i p k' a m jj q hs
        split at hb
        · rename_i hk
          subst hk
          simp only[Option.some.injEq,Prod.mk.injEq] at hb
          obtain ⟨rfl,rfl⟩:=hb
          obtain ⟨h1,h2,h3⟩:=Fj (B:=w0.heap.size) hwf hs
          have hwf2:=hwf
          rw[h1] at hwf2
          have hl:(a.A S ρ).length=m:=(Ax.1 (Ch.1 hwf2).2).1
          exact fin a _ _ jj (by simp[Dg,T.I]) (by simp[T.I];omega) hm (hcell h1 h2 rfl)
        · cases hb
      · rename_i p k' a jj q hs
        split at hb
        · rename_i hk
          subst hk
          simp only[Option.some.injEq,Prod.mk.injEq] at hb
          obtain ⟨rfl,rfl⟩:=hb
          obtain ⟨h1,h2,h3⟩:=Fj (B:=w0.heap.size) hwf hs
          exact fin a _ _ jj (by simp[Dg,T.I]) (by simp[T.I]) hm (hcell h1 h2 rfl)
        · cases hb
      · cases hb
    · split at hb
      · rename_i k' a hf
        split at hb
        · rename_i hk
          subst hk
          simp only[Option.some.injEq,Prod.mk.injEq] at hb
          obtain ⟨rfl,rfl⟩:=hb
          refine fin a _ _ s (by simp[Dg,T.I]) (by simp[T.I]) hm fun q v hv hq=> ?_
          have:=hh.ro _ (Jo hf) q v hv
          simp only at this
          rw[show r.off ρ+s+(q-s)=r.off ρ+q from by omega]
          exact this
        · cases hb
      · cases hb
  · cases hb
theorem jgr(hh:Cv S ρ w0 h w){k:IntKind}{l:Aw}{n t:T}{c:List T}(hb:jew k h l n=some (c,t))(hm:Dx S ρ c):
    ∃r s d ln cp,l=.sl r s d ln cp∧(t.A S ρ).length=(n.I S ρ).toNat∧
      ∀j v,((t.A S ρ).map (Value.int k))[j]? =some v→w.cell? ((Cw S ρ w0.heap.size r s d).add j)=some v:=by
  unfold jew at hb
  split at hb
  · rename_i m hv
    split at hb
    · rename_i c' g hrd
      split at hb
      · rename_i t' hp
        simp only[Option.some.injEq,Prod.mk.injEq] at hb
        obtain ⟨rfl,rfl⟩:=hb
        obtain ⟨r,s,d,ln,cp,e,g1,g2,g3⟩:=jf3 hh hrd hm
        have e2:=Wc (S:=S) (ρ:=ρ) (B:=w0.heap.size) hp
        refine ⟨r,s,d,ln,cp,e,?_,?_⟩
        · rw[Cy hv]
          have:=congrArg List.length e2
          rw[List.length_map,g1] at this
          simp[T.I,this]
        · rw[e2];exact g3
      · cases hb
    · exact jp3 hh hb hm
  · exact jp3 hh hb hm
theorem jfp(k:IntKind)(l:List Int): ∀v∈l.map (Value.int k),v.oneCell'=true:=by
  intro v hv
  obtain ⟨x,_,rfl⟩:=List.mem_map.1 hv
  rfl
theorem jqs{a b:T}(ha:0≤a.I S ρ)(hb:0≤b.I S ρ):((jko a b).I S ρ).toNat=Nat.min (a.I S ρ).toNat (b.I S ρ).toNat:=by
  rw[jqy]
  show _=Min.min _ _
  split<;>omega
theorem jws(hh:Cv S ρ w0 h w){t u ty:TypeId}{x y:Aw}{r:Sb}(hb:jxu P t x y h=some r)(hm:Dx S ρ r.need):
    r.val.wf S ρ∧ ∃w',(Builtin.copy_ #[t,u] ty #[x.den S ρ w0.heap.size,y.den S ρ w0.heap.size]).run P w=.ok (r.val.den S ρ w0.heap.size) w'∧Cv S ρ w0 r.heap w':=by
  unfold jxu at hb
  split at hb
  · rename_i e q s d ln cp r2 s2 d2 ln2 cp2 hu
    split at hb
    · rename_i b hf
      split at hb
      · rename_i hz
        have hmem:=Gw hf
        have hrw:=hh.rw_ _ hmem
        have hoff:=hh.off _ hmem
        have hwf:=hh.wf _ hmem
        simp only at hrw hoff hwf
        have ha:Cw S ρ w0.heap.size q s d=⟨q.blk ρ w0.heap.size,s+(d.I S ρ).toNat,none⟩:=by simp[Cw,hoff]
        have key: ∀{p:List Cp} {X:Cp} {qs:List Cp} {k:IntKind} {a g:T} {jj:Nat} {c:List T} {Y:Cp} {u':T},b.segs=p++X::qs→(Av S ρ w0.heap.size p).length+jj=s→X.den S ρ w0.heap.size=(a.A S ρ).map (Value.int k)→
            jew k h (.sl r2 s2 d2 ln2 cp2) (jko ln ln2)=some (c,g)→u'.I S ρ≤(a.A S ρ).length→Dx S ρ (c++needs [Ek (.lit 0) ln,Ek (.lit 0) ln2,Ek (.lit 0) d,Ek (Ej (Ej (.lit jj) d) (jko ln ln2)) u'])→
            Y.den S ρ w0.heap.size=((T.splice a (Ej (.lit jj) d) g).A S ρ).map (Value.int k)→(((T.splice a (Ej (.lit jj) d) g).A S ρ).length=(a.A S ρ).length→Cm S ρ (p++Y::qs))→
            ∃w',(Builtin.copy_ #[t,u] ty #[(Aw.sl q s d ln cp).den S ρ w0.heap.size,(Aw.sl r2 s2 d2 ln2 cp2).den S ρ w0.heap.size]).run P w=.ok (Value.int .i64 ((jko ln ln2).I S ρ)) w'∧
              Cv S ρ w0 {h with rw:=Tp h.rw q {b with segs:=p++Y::qs}} w':=by
          intro p X qs k a g jj c Y u' e1 e2 e3 hrd hu' hm e4 e5
          obtain ⟨m1,m2⟩:=Co.1 hm
          have m2:=Fu m2
          have b1:=Fg (Ag.1 m2).1
          have b2:=Fg (Ag.1 (Ag.1 m2).2).1
          have b3:=Fg (Ag.1 (Ag.1 (Ag.1 m2).2).2).1
          have b4:=Fg (Ag.1 (Ag.1 (Ag.1 (Ag.1 m2).2).2).2).1
          simp only[T.I,Dg] at b1 b2 b3 b4
          obtain ⟨r',s',d',ln',cp',heq,g1,g3⟩:=jgr hh hrd m1
          injection heq with h1 h2 h3 h4 h5
          subst h1 h2 h3 h4 h5
          have hmn:=jqs (S:=S) (ρ:=ρ) (a:=ln) (b:=ln2) b1 b2
          have hmi:(0:Int)≤(jko ln ln2).I S ρ:=by rw[jqy];split<;>omega
          have hlen:(Av S ρ w0.heap.size b.segs).length=(Av S ρ w0.heap.size p).length+((a.A S ρ).length+(Av S ρ w0.heap.size qs).length):=by
            rw[e1,Bp,Au,e3];simp
          have hcp:=run_copy_row (P:=P) w t u ty e (q.blk ρ w0.heap.size) (s+(d.I S ρ).toNat) (ln.I S ρ).toNat (cp.I S ρ).toNat (Cw S ρ w0.heap.size r2 s2 d2) (ln2.I S ρ).toNat (cp2.I S ρ).toNat _ b.ty ((g.A S ρ).map (Value.int k)) hu hz hrw
            (by rw[List.length_map,g1,hmn];exact Nat.min_comm _ _) g3 (by rw[List.length_map,g1,List.size_toArray,hlen];omega) (jfp _ _)
          have hsp:Av S ρ w0.heap.size (p++Y::qs)=(Av S ρ w0.heap.size b.segs).take (s+(d.I S ρ).toNat)++((g.A S ρ).map (Value.int k)++(Av S ρ w0.heap.size b.segs).drop (s+(d.I S ρ).toNat+(g.A S ρ).length)):=by
            have:=Xy (Av S ρ w0.heap.size p) ((a.A S ρ).map (Value.int k)) (Av S ρ w0.heap.size qs) (jj+(d.I S ρ).toNat) ((g.A S ρ).map (Value.int k)) (by simp only[List.length_map,g1];omega)
            simp only[List.length_map] at this
            rw[e1,Bp,Au,Bp,Au,e3,e4,←e2,Nat.add_assoc (Av S ρ w0.heap.size p).length,this]
            simp only[T.A,Cb,Dg,T.I,List.map_append,List.map_take,List.map_drop]
            rw[show ((jj:Int)+d.I S ρ).toNat=jj+(d.I S ρ).toNat from by omega]
          refine ⟨w.setRow (q.blk ρ w0.heap.size) (Av S ρ w0.heap.size (p++Y::qs)).toArray,?_,hh.upd hf (segs:=p++Y::qs) (e5 ?_) (setRow_heap w _ _ _ _ _ hrw) (fun i hi=>setRow_other w _ _ _ hi) (by simp) rfl rfl rfl⟩
          · simp only[Aw.den]
            rw[ha,hcp,hsp]
            simp only[List.length_map,g1,goInt]
            rw[Int.toNat_of_nonneg hmi]
            simp
          · simp only[T.A,Cb,Dg,T.I,List.length_append,List.length_take,List.length_drop,g1]
            omega
        split at hb
        · rename_i p k a m jj qs hs
          obtain ⟨h1,h2,h3⟩:=Fj (B:=w0.heap.size) hwf hs
          have hwf2:=hwf
          rw[h1] at hwf2
          have hl:(a.A S ρ).length=m:=(Ax.1 (Ch.1 hwf2).2).1
          simp only at hb
          split at hb
          · rename_i c g hrd
            simp only[Option.some.injEq] at hb
            subst hb
            refine ⟨trivial,key h1 h2 rfl hrd (by simp[T.I];omega) hm rfl fun hle=> ?_⟩
            have:=Ch.1 hwf2
            exact Ch.2 ⟨this.1,Ax.2 ⟨by show _=m;rw[hle];exact hl,(Ax.1 this.2).2⟩⟩
          · cases hb
        · rename_i p k a jj qs hs
          obtain ⟨h1,h2,h3⟩:=Fj (B:=w0.heap.size) hwf hs
          simp only at hb
          split at hb
          · rename_i c g hrd
            simp only[Option.some.injEq] at hb
            subst hb
            refine ⟨trivial,key h1 h2 rfl hrd (by simp[T.I]) hm rfl fun hle=> ?_⟩
            have hwf2:=hwf
            rw[h1] at hwf2
            have:=Ch.1 hwf2
            exact Ch.2 ⟨this.1,Ax.2 ⟨trivial,(Ax.1 this.2).2⟩⟩
          · cases hb
        · cases hb
      · cases hb
    · cases hb
  · cases hb
theorem j2p(hh:Cv S ρ w0 h w){t u ty:TypeId}{x y:Aw}{r:Sb}(hb:jtj P t x y h=some r)(hm:Dx S ρ r.need):
    r.val.wf S ρ∧ ∃w',(Builtin.copy_ #[t,u] ty #[x.den S ρ w0.heap.size,y.den S ρ w0.heap.size]).run P w=.ok (r.val.den S ρ w0.heap.size) w'∧Cv S ρ w0 r.heap w':=by
  unfold jtj at hb
  split at hb
  · rename_i e q s d ln cp r2 s2 d2 ln2 cp2 hu
    split at hb
    · rename_i p1 p2 b hz hv1 hv2 hf
      split at hb
      · rename_i c g hrd
        split at hb
        · rename_i hpl
          split at hb
          · rename_i c' g' hst
            simp only[Option.some.injEq] at hb
            subst hb
            obtain ⟨m1,m2⟩:=Co.1 hm
            obtain ⟨r',s',d',ln',cp',heq,g1,g2,g3⟩:=jf3 hh hrd m1
            injection heq with e1 e2 e3 e4 e5
            subst e1 e2 e3 e4 e5
            have hmem:=Gw hf
            have hrw:=hh.rw_ _ hmem
            have hoff:=hh.off _ hmem
            have hwf:=hh.wf _ hmem
            simp only at hrw hoff hwf
            obtain ⟨h1,h2,h3⟩:=Oy (B:=w0.heap.size) hwf g2 g1 hst m2
            have hsz:(P.info? e).map (·.size)=some 1:=hz
            have hl1:(ln.I S ρ).toNat=p1:=by rw[Cy hv1];simp[T.I]
            have hl2:(ln2.I S ρ).toNat=p2:=by rw[Cy hv2];simp[T.I]
            have hcp:=run_copy_row (P:=P) w t u ty e (q.blk ρ w0.heap.size) (s+(d.I S ρ).toNat) p1 (cp.I S ρ).toNat (Cw S ρ w0.heap.size r2 s2 d2) p2 (cp2.I S ρ).toNat _ b.ty (Av S ρ w0.heap.size g) hu hsz hrw g1 g3
              (by rw[g1];simpa using h3) (Yd hpl)
            refine ⟨trivial,_,?_,hh.upd hf (segs:=Dn g') ((Ew (S:=S) (ρ:=ρ) (B:=w0.heap.size) g').2 h2) (w':=w.setRow (q.blk ρ w0.heap.size) (Av S ρ w0.heap.size (Dn g')).toArray) (setRow_heap w _ _ _ _ _ hrw) (fun i hi=>setRow_other w _ _ _ hi) (by simp) rfl rfl rfl⟩
            simp only[Aw.den,hl1,hl2]
            have ha:Cw S ρ w0.heap.size q s d=⟨q.blk ρ w0.heap.size,s+(d.I S ρ).toNat,none⟩:=by simp[Cw,hoff]
            rw[ha,hcp,g1,(Ew (S:=S) (ρ:=ρ) (B:=w0.heap.size) g').1,h1]
            simp[goInt,SR.den,SV.den,Aw.den,T.I]
          · cases hb
        · cases hb
      · cases hb
    · cases hb
  · cases hb
end
end
end Go.Proofs.YtljjbikbfeigdaaGreatDoor
namespace Go.Proofs.YtljjbikbfeigdaaGreatDoor
noncomputable section
open Go
def Ei(P:Program)(S:Hw)(f:FuncId)(s:Ec):Prop:=
  ∀(ρ:Et) (w0 w:World) (h:Hp) (args:List SR) (r:Sb),s args h=some r→Dx S ρ r.need→(∀x∈args,x.wf S ρ)→Cv S ρ w0 h w→
    r.val.wf S ρ∧Calls P f (args.map (SR.den S ρ w0.heap.size)).toArray w (fun e w'=>e=.returned (r.val.den S ρ w0.heap.size)∧Cv S ρ w0 r.heap w')
section
variable {S:Hw} {ρ:Et} {w0 w:World} {h:Hp} {P:Program} {B:Nat}
theorem jki{fr:Nat→SR}{a:Act}{xs:Array Operand}(hf: ∀t,(fr t).wf S ρ)(ha:Pq S ρ B fr a xs): ∀{l:List Operand} {r:List SR},(∀x∈l,x∈xs)→l.mapM (Ua fr)=some r→
    l.map a.eval=r.map (SR.den S ρ B)∧ ∀x∈r,x.wf S ρ
  | [],r,_,h=>by simp at h;subst h;exact ⟨rfl,fun _ h=>nomatch h⟩
  | x::l,r,hl,h=>by
    simp only[List.mapM_cons,Option.bind_eq_bind,Option.pure_def] at h
    cases hx:Ua fr x with
    | none=>simp[hx] at h
    | some y=>
      cases hr:l.mapM (Ua fr) with
      | none=>simp[hx,hr] at h
      | some r'=>
        simp[hx,hr] at h
        subst h
        obtain ⟨h1,h2⟩:=jki hf ha (fun x hx=>hl x (by simp[hx])) hr
        refine ⟨by simp[Hx ha (hl x (by simp)) hx,h1],fun z hz=> ?_⟩
        rcases List.mem_cons.1 hz with rfl|hz
        · exact Nu hf hx
        · exact h2 z hz
theorem Oq{fr:Nat→SR}{a:Act}{xs:Array Operand}(hf: ∀t,(fr t).wf S ρ)(ha:Pq S ρ B fr a xs): ∀{l:List (Nat×Operand)} {r:List (Nat×SR)},(∀x∈l,x.2∈xs)→l.mapM (fun (i,x)=>(Ua fr x).map fun v=>(i,v))=some r→
    l.map (fun p=>(p.1,a.eval p.2))=r.map (fun p=>(p.1,p.2.den S ρ B))∧ ∀x∈r,x.2.wf S ρ
  | [],r,_,h=>by simp at h;subst h;exact ⟨rfl,fun _ h=>nomatch h⟩
  | (i,x)::l,r,hl,h=>by
    simp only[List.mapM_cons,Option.bind_eq_bind,Option.pure_def] at h
    cases hx:Ua fr x with
    | none=>simp[hx] at h
    | some y=>
      cases hr:l.mapM (fun (i,x)=>(Ua fr x).map fun v=>(i,v)) with
      | none=>simp[hx,hr] at h
      | some r'=>
        simp[hx,hr] at h
        subst h
        obtain ⟨h1,h2⟩:=Oq hf ha (fun x hx=>hl x (by simp[hx])) hr
        refine ⟨by simp[Hx ha (hl (i,x) (by simp)) hx,h1],fun z hz=> ?_⟩
        rcases List.mem_cons.1 hz with rfl|hz
        · exact Nu hf hx
        · exact h2 z hz
theorem jcf{f:FuncId}{args:Array Value}(h:jdb P f=true):(callFunc f args).run P w=.ok (.enter f args) w:=by
  unfold jdb at h
  cases hf:P.funcs[f]? with
  | none=>simp[hf] at h
  | some fn=>
    simp only[hf,Bool.and_eq_true,Bool.not_eq_true'] at h
    obtain ⟨h1,h2⟩:=h
    have h3:fn.body.isNone=false:=by cases hb:fn.body<;>simp[hb] at h1⊢
    unfold callFunc
    simp only[program,Sem.run_bind,Sem.run,Result.andThen_ok,hf,h2,h3,Bool.false_eq_true,if_false,Sem.run_pure]
theorem jr8{t:TypeId}{name:String}{f:FuncId}{v:Value}(h:jjd P t name=some f)(k:Nat):(method (k+1) t v name).run P w=.ok (f,v) w:=by
  unfold jjd at h
  split at h
  · rename_i i hi
    split at h
    · rename_i m hm
      split at h
      · rename_i hp
        split at h
        · rename_i g e hg hu
          injection h with h
          subst h
          have hp':m.path= #[]:=by simpa using hp
          simp[method,typeInfo,hi,hm,hp',follow,hg,receiverAt,run_underlying hu,Place.get]
        · cases h
      · cases h
    · cases h
  · cases h
theorem jgj{fr:Nat→SR}{a:Act}{c:Call}{t:TypeId}{f:FuncId}{args:List SR}(hf: ∀t,(fr t).wf S ρ)(ha:Pq S ρ B fr a c.operands)(h:jm4 P fr c=some (f,args)):
    (do let d ←resolve a.eval c t;invoke d.target d.args:Sem Next).run P w=.ok (.enter f (args.map (SR.den S ρ B)).toArray) w∧ ∀x∈args,x.wf S ρ:=by
  unfold jm4 at h
  simp only at h
  split at h
  · rename_i g hc
    split at h
    · rename_i hb
      cases hm:c.args.toList.mapM (Ua fr) with
      | none=>simp[hm] at h
      | some r=>
        simp[hm] at h
        obtain ⟨rfl,rfl⟩:=h
        obtain ⟨h1,h2⟩:=jki hf ha (fun x hx=>by simp[Call.operands,hc];exact .inr (by simpa using hx)) hm
        refine ⟨?_,h2⟩
        have h3:(c.args.map a.eval)=(r.map (SR.den S ρ B)).toArray:=by rw[←h1,←Array.toList_map]
        simp[resolve,hc,Act.eval,Deferred.ofValue,invoke,jcf hb,h3]
    · cases h
  · rename_i x name hc
    split at h
    · rename_i ti l hx
      split at h
      · rename_i g hg
        split at h
        · rename_i hb
          cases hm:c.args.toList.mapM (Ua fr) with
          | none=>simp[hm] at h
          | some r=>
            simp[hm] at h
            obtain ⟨rfl,rfl⟩:=h
            obtain ⟨h1,h2⟩:=jki hf ha (fun x hx=>by simp[Call.operands,hc];exact .inr (by simpa using hx)) hm
            refine ⟨?_,fun z hz=> ?_⟩
            · have h3:(c.args.map a.eval)=(r.map (SR.den S ρ B)).toArray:=by rw[←h1,←Array.toList_map]
              have h4:=Dp ha (x:=x) (by simp[Call.operands,hc]) hx
              obtain ⟨k,hk⟩: ∃k,P.types.size+Made.depth=k+1:=⟨P.types.size+(Made.depth-1),by unfold Made.depth;omega⟩
              have h5:=jr8 (w:=w) (v:=l.den S ρ B) hg k
              simp[resolve,hc,h4,Aw.den,invoke,callMethod,program,Sem.run,hk,h5,jcf hb,h3,Aw.sr,SR.den,SV.den]
              rw[List.take_of_length_le (by simp)]
            · rcases List.mem_cons.1 hz with rfl|hz
              · trivial
              · exact h2 z hz
        · cases h
      · cases h
    · cases h
  · cases h
end
end
end Go.Proofs.YtljjbikbfeigdaaGreatDoor
namespace Go.Proofs.YtljjbikbfeigdaaGreatDoor
noncomputable section
open Go
section
variable {P:Program}
theorem jal{e:TypeId}{q:IntKind}(he:P.underlying e=some (.int q)):P.plainKey e=true:=by
  unfold Program.plainKey;rw[he]
theorem Rt(d:Nat){e:TypeId}{q k:IntKind}(he:P.underlying e=some (.int q))(w:World)(X Y:List Int)(hl:X.length=Y.length): ∀(m s:Nat),s+m=X.length→
    (Op.eqItems (d+1) e 1 (X.map (Value.int k)).toArray (Y.map (Value.int k)).toArray (List.range' s m)).run P w=.ok (decide (X.drop s=Y.drop s)) w
  | 0,s,h=>by
    rw[List.drop_of_length_le (by omega),List.drop_of_length_le (by omega)]
    simp[Op.eqItems]
  | m+1,s,h=>by
    have ih:=Rt (k:=k) d he w X Y hl m (s+1) (by omega)
    have hx:s<X.length:=by omega
    have hy:s<Y.length:=by omega
    have p1:=run_part_plain w (jal he) (xs:=(X.map (Value.int k)).toArray) (off:=s*1) (v:=.int k X[s]) (by simp[hx])
    have p2:=run_part_plain w (jal he) (xs:=(Y.map (Value.int k)).toArray) (off:=s*1) (v:=.int k Y[s]) (by simp[hy])
    have p3:=run_equalIn_int w d e k q X[s] Y[s] he
    rw[List.range'_succ]
    simp only[Op.eqItems,Sem.run_bind,p1,p2,p3,Result.andThen_ok]
    rw[List.drop_eq_getElem_cons hx,List.drop_eq_getElem_cons hy]
    by_cases hxy:X[s]=Y[s]
    · simp only[hxy,BEq.rfl,Bool.not_true,Bool.false_eq_true,if_false,ih,List.cons.injEq,true_and]
    · have:(X[s]==Y[s])=false:=by simpa using hxy
      have hne: ¬(X[s]::X.drop (s+1)=Y[s]::Y.drop (s+1)):=fun h=>hxy (List.cons.inj h).1
      simp only[this,Bool.not_false,if_true,Sem.run_pure,decide_eq_false hne]
theorem Vb{t e:TypeId}{n:Nat}{q k:IntKind}(hu:P.underlying t=some (.array n e))(he:P.underlying e=some (.int q))(hs:Kf P e=some 1)(w:World)(X Y:List Int)(hx:X.length=n)(hy:Y.length=n):
    (Op.equal t (.agg (X.map (Value.int k)).toArray) (.agg (Y.map (Value.int k)).toArray)).run P w=.ok (decide (X=Y)) w:=by
  obtain ⟨i,hi⟩:=info_of_underlying he
  have hc:P.cellsOf e=1:=by
    unfold Kf at hs
    unfold Program.cellsOf
    rw[hi] at hs⊢
    simpa using hs
  unfold Op.equal Op.maxDepth
  rw[run_equalIn_array w 9999 _ _ hu hi,hc,List.range_eq_range']
  have:=Rt (k:=k) 9998 he w X Y (by omega) n 0 (by omega)
  simpa using this
theorem Zt{op:BinOp}{t e:TypeId}{n:Nat}{q:IntKind}(hu:P.underlying t=some (.array n e))(he:P.underlying e=some (.int q))(w:World)(x y:Operand)(a b:Array Value):
    (eqGuard op t x y (.agg a) (.agg b)).run P w=.ok () w:=by
  have hd:P.eqGuardType P.depth t=false:=by
    have:P.depth=(2*(P.types.size+Made.depth))+1+1:=rfl
    rw[this]
    simp only[Program.eqGuardType,hu,he]
  unfold eqGuard
  cases op<;>simp[program,Sem.run,hd]<;>rfl
end
end
end Go.Proofs.YtljjbikbfeigdaaGreatDoor
namespace Go.Proofs.YtljjbikbfeigdaaGreatDoor
noncomputable section
open Go
section
variable {S:Hw} {ρ:Et} {w0 w:World} {h:Hp} {P:Program} {B:Nat}
def j68(P:Program)(S:Hw)(ρ:Et)(w0:World)(a:Act)(w:World)(o:Oper)(r:Sb):Prop:=
  r.val.wf S ρ∧ ∀(K:Act→World→Prop) (Q:Exit→Act→World→Prop),(∀w',Cv S ρ w0 r.heap w'→K (a.put o.dst (r.val.den S ρ w0.heap.size)) w')→o.wp P a w K Q
theorem j68.of_yields{a:Act}{o:Oper}{r:Sb}{w':World}(hw:r.val.wf S ρ)(hy:jrg P a w o (r.val.den S ρ w0.heap.size) w')(hh:Cv S ρ w0 r.heap w'):j68 P S ρ w0 a w o r:=
  ⟨hw,fun _ _ hK=>hy.wp (hK w' hh)⟩
theorem Cz{a:Act}{o:Oper}{x:SR}{c:List T}(hh:Cv S ρ w0 h w)(hw:x.wf S ρ)(hy:(execOp a.eval o).run P w=.ok (.value (x.den S ρ w0.heap.size)) w):j68 P S ρ w0 a w o ⟨c,x,h⟩:=
  .of_yields hw (.inl hy) hh
theorem jtk(g:List Cp):(SV.agg g).den S ρ B=.agg (Av S ρ B g).toArray:=rfl
theorem jt7(l:List UInt8):(ByteArray.mk l.toArray).size=l.length:=by simp[ByteArray.size]
theorem qbl(l:List UInt8)(i:Nat)(h:i<l.length):(ByteArray.mk l.toArray)[i]? =some (l[i]):=by
  rw[getElem?_pos _ _ (by rw[jt7];exact h)];rfl
theorem jf4{l:List String}(h:Instr.least l=none):l=[]:=by
  cases l with
  | nil=>rfl
  | cons a l=>simp[Instr.least] at h
theorem jqr{want:Array (String×TypeId)}{got:Array Method}(h:jm7 want got=none):Instr.missingMethod want got=none:=by
  unfold jm7 at h
  split at h
  · rename_i he
    unfold Instr.missingMethod
    simp only[he]
    rfl
  · cases h
theorem jq2{want:Array (String×TypeId)}{got:Array Method}{u:Unit}(h:jm7 want got=some u): ∃s,Instr.missingMethod want got=some s:=by
  unfold jm7 at h
  split at h
  · cases h
  · rename_i x l he
    unfold Instr.missingMethod
    simp only[he,List.map_cons,List.partition_eq_filter_filter]
    cases h1:Instr.least ((x.1::l.map (·.1)).filter (not∘(·.contains (Char.ofNat 46)))) with
    | some s=>exact ⟨s,by simp[h1]⟩
    | none=>
      have n1:=jf4 h1
      cases h2:Instr.least (((x.1::l.map (·.1)).filter (·.contains (Char.ofNat 46))).map fun id=>(id.splitOn ".").getLastD id) with
      | some s=>exact ⟨s,by simp[h1,h2]⟩
      | none=>
        have n2:=jf4 h2
        rw[List.map_eq_nil_iff] at n2
        by_cases hc:(x.1.contains (Char.ofNat 46))=true
        · rw[List.filter_cons_of_pos (p:=fun (s:String)=>s.contains (Char.ofNat 46)) hc] at n2;cases n2
        · rw[List.filter_cons_of_pos (p:=not∘fun (s:String)=>s.contains (Char.ofNat 46)) (by show (!x.1.contains (Char.ofNat 46))=true;rw[Bool.eq_false_iff.2 hc];rfl)] at n1;cases n1
set_option maxHeartbeats 4000000 in
theorem Sl{specs:Nat→Option Ec}(hsp: ∀f s,specs f=some s→Ei P S f s){fr:Nat→SR}{o:Oper}{r:Sb}{a:Act}(hs:Gx P specs fr h o=some r)(hm:Dx S ρ r.need)
    (hf: ∀t,(fr t).wf S ρ)(ha:Pq S ρ w0.heap.size fr a o.op.operands)(hh:Cv S ρ w0 h w):j68 P S ρ w0 a w o r:=by
  obtain ⟨dst,op,type,pos,after,guard⟩:=o
  cases op with
  | move x=>
    simp only[Gx,jfo] at hs
    cases hx:Ua fr x with
    | none=>simp[hx] at hs
    | some v=>
      simp[hx] at hs;subst hs
      exact Cz hh (Nu hf hx) (by simp[execOp,Hx ha (by simp[Op.operands]) hx])
  | assign x=>
    simp only[Gx,jfo] at hs
    cases hx:Ua fr x with
    | none=>simp[hx] at hs
    | some v=>
      simp[hx] at hs;subst hs
      exact Cz hh (Nu hf hx) (by simp[execOp,Hx ha (by simp[Op.operands]) hx])
  | pick c x y=>
    simp only[Gx,jrd] at hs
    split at hs
    · rename_i t tx ty hc hx hy
      simp only[Dt,Option.some.injEq] at hs;subst hs
      refine Cz hh trivial ?_
      have e1:=Dp ha (x:=c) (by simp[Op.operands]) hc
      have e2:=Dp ha (x:=x) (by simp[Op.operands]) hx
      have e3:=Dp ha (x:=y) (by simp[Op.operands]) hy
      simp only[execOp,e1,e2,e3,Aw.den,asBool,Sem.run_bind,Sem.run_pure,Result.andThen_ok,jgb,SR.den,SV.den,jof]
      cases t.B S ρ<;>simp
    · rename_i l _ hc hx _
      simp only[Dt,Option.some.injEq] at hs;subst hs
      refine Cz hh trivial ?_
      have e1:=Dp ha (x:=c) (by simp[Op.operands]) hc
      have e2:=Dp ha (x:=x) (by simp[Op.operands]) hx
      simp only[execOp,e1,e2,Aw.den,asBool,Sem.run_bind,Sem.run_pure,Result.andThen_ok,Aw.sr,SR.den,SV.den,T.B,if_true]
    · rename_i _ l hc hy _
      simp only[Dt,Option.some.injEq] at hs;subst hs
      refine Cz hh trivial ?_
      have e1:=Dp ha (x:=c) (by simp[Op.operands]) hc
      have e2:=Dp ha (x:=y) (by simp[Op.operands]) hy
      simp only[execOp,e1,e2,Aw.den,asBool,Sem.run_bind,Sem.run_pure,Result.andThen_ok,Aw.sr,SR.den,SV.den,T.B,Bool.false_eq_true,if_false]
    · cases hs
    · cases hs
    · cases hs
  | alloc t=>
    simp only[Gx,jl1] at hs
    split at hs
    · rename_i g hz
      simp only[Dt,Option.some.injEq] at hs;subst hs
      obtain ⟨h1,h2⟩:=jxr (P:=P) hh hz
      exact .of_yields trivial (.inl (by simp only[execOp,Sem.run_bind,h1,Result.andThen_ok,Sem.run_pure,SR.den,SV.den])) h2
    · cases hs
  | box t x=>
    simp only[Gx,j09] at hs
    split at hs
    · rename_i v hx
      split at hs
      · rename_i hp
        simp only[Dt,Option.some.injEq] at hs;subst hs
        have hw:v.wf S ρ:=Nu hf hx
        obtain ⟨h1,h2⟩:=qbq (P:=P) hh (t:=t) hw hp
        have e1:=Hx ha (x:=x) (by simp[Op.operands]) hx
        simp only[SR.den] at e1
        exact .of_yields trivial (.inl (by simp only[execOp,e1,Sem.run_bind,h1,Result.andThen_ok,Sem.run_pure];rfl)) h2
      · cases hs
    · cases hs
  | build t parts=>
    simp only[Gx,jjq] at hs
    have hmem: ∀x∈parts.toList,x.2∈(Op.build t parts).operands:=fun x hx=>by
      simp only[Op.operands,List.mem_toArray,List.mem_map];exact ⟨x,hx,rfl⟩
    have hrun: ∀{ps:List (Nat×SR)} {cells:Array Value},parts.toList.mapM (fun (i,x)=>(Ua fr x).map fun v=>(i,v))=some ps→P.built t (ps.map fun p=>(p.1,p.2.den S ρ w0.heap.size))=some cells→
        (Instr.build t (parts.map fun (i,x)=>(i,a.eval x))).run P w=.ok (.agg cells) w:=by
      intro ps cells hp hb
      apply run_build
      rw[Array.toList_map,(Oq hf ha hmem hp).1];exact hb
    split at hs
    · rename_i ps fs z hp hu hz
      split at hs
      · rename_i places hpl
        split at hs
        · rename_i c g hfill
          simp only[Dt,Option.some.injEq] at hs;subst hs
          obtain ⟨i,zv,hi,hzz,hd,hzw⟩:=Kj (S:=S) (ρ:=ρ) (B:=w0.heap.size) hz
          obtain ⟨h1,h2⟩:=jda (S:=S) (ρ:=ρ) (B:=w0.heap.size) _ hzw (Oq hf ha hmem hp).2 hfill
          obtain ⟨h3,h4⟩:=Ew (S:=S) (ρ:=ρ) (B:=w0.heap.size) g
          refine Cz hh (h4 h2) ?_
          have:=hrun hp (cells:=(Av S ρ w0.heap.size g).toArray) (by
            unfold Program.built
            simp only[hi,hu,hzz,hpl]
            rw[←h1,hd])
          simp only[execOp,Sem.run_bind,this,Result.andThen_ok,Sem.run_pure,SR.den,SV.den,h3]
        · cases hs
      · cases hs
    · rename_i ps n e z hp hu hz
      split at hs
      · rename_i m cs hm' hcs
        split at hs
        · rename_i c g hfill
          simp only[Dt,Option.some.injEq] at hs;subst hs
          obtain ⟨i,zv,hi,hzz,hd,hzw⟩:=Kj (S:=S) (ρ:=ρ) (B:=w0.heap.size) hz
          have hcd:Av S ρ w0.heap.size [.cells cs]=zv.cells.toList:=by
            rw[←hd,(Ml (S:=S) (ρ:=ρ) (B:=w0.heap.size) hcs).1];simp[Au,Cj,Cp.den]
          obtain ⟨h1,h2⟩:=jda (S:=S) (ρ:=ρ) (B:=w0.heap.size) _ (g:=[.cells cs]) (fun g hg=>by simp at hg;subst hg;trivial) (Oq hf ha hmem hp).2 hfill
          obtain ⟨h3,h4⟩:=Ew (S:=S) (ρ:=ρ) (B:=w0.heap.size) g
          obtain ⟨h5,h6⟩:=ja0 (S:=S) (ρ:=ρ) (B:=w0.heap.size) (Dn g) (h4 h2)
          refine Cz hh h6 ?_
          unfold Kf at hm'
          cases hie:P.info? e with
          | none=>simp[hie] at hm'
          | some ie=>
            simp[hie] at hm'
            have:=hrun hp (cells:=(Av S ρ w0.heap.size g).toArray) (by
              unfold Program.built
              simp only[hi,hu,hzz,hie,hm']
              rw[←h1,hcd])
            simp only[execOp,Sem.run_bind,this,Result.andThen_ok,Sem.run_pure,SR.den,SV.den,h5,h3]
        · cases hs
      · cases hs
    · cases hs
  | buildSlice t len parts=>
    simp only[Gx,So] at hs
    have hmem: ∀x∈parts.toList,x.2∈(Op.buildSlice t len parts).operands:=fun x hx=>by
      simp only[Op.operands,List.mem_toArray,List.mem_map];exact ⟨x,hx,rfl⟩
    split at hs
    · rename_i ps e hp hu
      split at hs
      · rename_i n z hn hz
        split at hs
        · rename_i cs hcs
          split at hs
          · rename_i hlen
            split at hs
            · rename_i c g hfill
              simp only[Dt,Option.some.injEq] at hs;subst hs
              obtain ⟨i,zv,hi,hzz,hd,hzw⟩:=Kj (S:=S) (ρ:=ρ) (B:=w0.heap.size) hz
              obtain ⟨h1,h2⟩:=jda (S:=S) (ρ:=ρ) (B:=w0.heap.size) _ (g:=[.cells (List.replicate len cs).flatten]) (fun g hg=>by simp at hg;subst hg;trivial) (Oq hf ha hmem hp).2 hfill
              obtain ⟨h3,h4⟩:=Ew (S:=S) (ρ:=ρ) (B:=w0.heap.size) g
              obtain ⟨h5,h6⟩:=ja0 (S:=S) (ρ:=ρ) (B:=w0.heap.size) (Dn g) (h4 h2)
              have hcd:Av S ρ w0.heap.size [.cells (List.replicate len cs).flatten]=((Array.range (len*n)).map (zv.cells[· % zv.cells.size]!)).toList:=by
                have hz2:zv.cells.toList=cs.map (Aw.den S ρ w0.heap.size):=by rw[←hd];exact (Ml (S:=S) (ρ:=ρ) (B:=w0.heap.size) hcs).1
                rw[Ux zv.cells n len (by rw[←Array.length_toList,hz2];simp[hlen.2.2]) (Nat.pos_of_mul_pos_left hlen.2.1),hz2]
                simp[Au,Cj,Cp.den,List.map_flatten]
              rw[hcd] at h1
              refine .of_yields trivial (.inl ?_) (hh.push e h6)
              have h7:(parts.map fun (i,x)=>(i,a.eval x)).toList=ps.map fun p=>(p.1,p.2.den S ρ w0.heap.size):=by
                rw[Array.toList_map];exact (Oq hf ha hmem hp).1
              have hsz:=Ha (w:=w) hn
              have hl0: ¬(16777216<len*n):=by omega
              have hl1: ¬(len*n=0):=by omega
              have h8:Instr.fill (fun i=>some (i*n,n)) ((Array.range (len*n)).map (zv.cells[· % zv.cells.size]!)) (parts.map fun (i,x)=>(i,a.eval x)).toList=some (Av S ρ w0.heap.size g).toArray:=by
                rw[h7,←h1]
              simp only[execOp,Instr.buildSlice,Sem.run_bind,run_underlying hu,Result.andThen_ok,hsz,Sem.run_ite,gt_iff_lt,Nat.reducePow,hl0,hl1,if_false,zeroValue,typeInfo,program,Sem.run,hi,hzz,Sem.run_pure,h8]
              simp[newRow,newObj,Sem.run,SR.den,SV.den,Aw.den,Uo hh,T.I,h5,h3]
            · cases hs
          · cases hs
        · cases hs
      · cases hs
    · cases hs
  | load t x=>
    simp only[Gx,jpz] at hs
    split at hs
    · rename_i p hx
      split at hs
      · rename_i hu
        cases hl:jnv P t p h with
        | none=>simp[hl] at hs
        | some cv=>
          simp[hl] at hs;subst hs
          obtain ⟨h1,h2⟩:=jlb hh (Option.isSome_iff_exists.1 hu) hl hm
          refine Cz hh h2 ?_
          simp only[execOp,Dp ha (x:=x) (by simp[Op.operands]) hx,Sem.run_bind,h1,Result.andThen_ok,Sem.run_pure,SR.den]
      · cases hs
    · cases hs
  | store t x y=>
    simp only[Gx,jkq] at hs
    split at hs
    · rename_i p v hx hy
      cases hl:jk0 P t p v h with
      | none=>simp[hl] at hs
      | some cv=>
        simp[hl] at hs;subst hs
        have hw:v.wf S ρ:=Nu hf hy
        obtain ⟨w',h1,h2⟩:=jyo (P:=P) hh hl hw hm
        have e2:=Hx ha (x:=y) (by simp[Op.operands]) hy
        simp only[SR.den] at e2
        refine .of_yields trivial (.inr ⟨?_,rfl⟩) h2
        simp only[execOp,Dp ha (x:=x) (by simp[Op.operands]) hx,e2,Sem.run_bind,h1,Result.andThen_ok,Sem.run_pure]
    · cases hs
  | nilCheck x=>
    simp only[Gx,Yv] at hs
    split at hs
    · rename_i r' s d hx
      simp only[Dt,Option.some.injEq] at hs;subst hs
      refine Cz hh trivial ?_
      have e1:=Hx ha (x:=x) (by simp[Op.operands]) hx
      simp only[execOp,e1,SR.den,SV.den,Aw.den,Sem.run_pure]
    · rename_i ti l hx
      simp only[Dt,Option.some.injEq] at hs;subst hs
      refine Cz hh trivial ?_
      have e1:=Hx ha (x:=x) (by simp[Op.operands]) hx
      simp only[execOp,e1,SR.den,SV.den,Aw.den,Sem.run_pure]
    · cases hs
  | binOp op t x y yt=>
    simp only[Gx,jk9] at hs
    split at hs
    · rename_i p q hx hy
      split at hs
      · rename_i ht
        cases hl:j4s op p q (Kx x) (Kx y) with
        | none=>simp[hl] at hs
        | some cv=>
          simp[hl] at hs;subst hs
          refine Cz hh trivial ?_
          have h1:=qdv (w:=w) (B:=w0.heap.size) ht hl hm
          simp only[Sem.run_bind] at h1
          simp only[execOp,Dp ha (x:=x) (by simp[Op.operands]) hx,Dp ha (x:=y) (by simp[Op.operands]) hy,Sem.run_bind,h1,Result.andThen_ok,Sem.run_pure,Aw.sr,SR.den,SV.den]
      · cases hs
    · split at hs
      · rename_i b hb
        simp only[Dt,Option.some.injEq] at hs;subst hs
        refine Cz hh trivial ?_
        unfold jyh at hb
        split at hb
        · rename_i k a m k' b' m' n e hx hy hu
          have wx:Cm S ρ [.arr k a m]:=Nu hf hx
          have wy:Cm S ρ [.arr k' b' m']:=Nu hf hy
          have lx:(a.A S ρ).length=m:=wx (.arr k a m) (by simp)
          have ly:(b'.A S ρ).length=m':=wy (.arr k' b' m') (by simp)
          have ex:=Hx ha (x:=x) (by simp[Op.operands]) hx
          have ey:=Hx ha (x:=y) (by simp[Op.operands]) hy
          simp only[SR.den,SV.den,Au,Cj,List.append_nil,Cp.den] at ex ey
          split at hb
          · rename_i q he
            split at hb
            · rename_i hc
              obtain ⟨rfl,rfl,rfl,hsz⟩:=hc
              cases hb
              have h1:=Vb (k:=k) hu he hsz w (a.A S ρ) (b'.A S ρ) lx ly
              simp only[execOp,ex,ey,Sem.run_bind,Zt hu he,binOp,h1,Result.andThen_ok,Sem.run_pure,jgb,SR.den,SV.den,Aw.den,T.B,leq]
            · cases hb
          · rename_i q he
            split at hb
            · rename_i hc
              obtain ⟨rfl,rfl,rfl,hsz⟩:=hc
              cases hb
              have h1:=Vb (k:=k) hu he hsz w (a.A S ρ) (b'.A S ρ) lx ly
              simp only[execOp,ex,ey,Sem.run_bind,Zt hu he,binOp,h1,Result.andThen_ok,Sem.run_pure,jgb,SR.den,SV.den,Aw.den,T.B,leq]
            · cases hb
          · cases hb
        · cases hb
      · cases hs
    · cases hs
  | unOp op t x=>
    simp only[Gx,jqh] at hs
    split at hs
    · rename_i k b hx
      rw[Option.map_eq_some_iff] at hs
      obtain ⟨⟨c,l⟩,hs,rfl⟩:=hs
      obtain ⟨_,u,rfl,hu⟩:=jj9 hs hm
      refine Cz hh trivial ?_
      simp only[execOp,Dp ha (x:=x) (by simp[Op.operands]) hx,Aw.den,Op.unary,Op.intArith,Sem.run_bind,Sem.run_pure,Result.andThen_ok,Aw.sr,SR.den,SV.den,hu,jdy,T.I]
    · rename_i k b hx
      simp only[Dt,Option.some.injEq] at hs;subst hs
      refine Cz hh trivial ?_
      simp only[execOp,Dp ha (x:=x) (by simp[Op.operands]) hx,Aw.den,Op.unary,Op.intBits,Sem.run_bind,Sem.run_pure,Result.andThen_ok,Tq,SR.den,SV.den,Tz,T.I,Dj]
    · rename_i b hx
      simp only[Dt,Option.some.injEq] at hs;subst hs
      refine Cz hh trivial ?_
      simp only[execOp,Dp ha (x:=x) (by simp[Op.operands]) hx,Aw.den,Op.unary,Sem.run_bind,Sem.run_pure,Result.andThen_ok,jgb,SR.den,SV.den,Qe]
    · cases hs
  | convert src dst x=>
    simp only[Gx,jbg] at hs
    split at hs
    · rename_i d k k' b hsr hd hx
      rw[Option.map_eq_some_iff] at hs
      obtain ⟨⟨c,l⟩,hs,rfl⟩:=hs
      obtain ⟨_,u,rfl,hu⟩:=jj9 hs hm
      refine Cz hh trivial ?_
      simp[execOp,Dp ha (x:=x) (by simp[Op.operands]) hx,Aw.den,convert,run_underlying hsr,run_underlying hd,Conv.intToInt,Aw.sr,SR.den,SV.den,hu]
    · cases hs
  | makeInterface t x=>
    simp only[Gx,Ob] at hs
    split at hs
    · cases hs
    · rename_i d l hne hd hx
      simp only[Dt,Option.some.injEq] at hs;subst hs
      refine Cz hh trivial ?_
      simp only[execOp,Dp ha (x:=x) (by simp[Op.operands]) hx,Instr.makeInterface,Sem.run_bind,run_underlying hd,Result.andThen_ok]
      cases d<;>first|(exfalso;exact hne _ _ rfl)|simp[SR.den,SV.den,Aw.den]
    · cases hs
  | makeSlice t l c=>
    simp only[Gx,Vp] at hs
    split at hs
    · rename_i e kl n kc m hu hl hc
      have el:=Dp ha (x:=l) (by simp[Op.operands]) hl
      have ec:=Dp ha (x:=c) (by simp[Op.operands]) hc
      split at hs
      · rename_i i k hi hz
        split at hs
        · rename_i hnm
          obtain ⟨rfl,hsz⟩:=hnm
          simp only[Dt,Option.some.injEq] at hs;subst hs
          obtain ⟨b1,b2,b3⟩:=jy6 hm
          have b1:=Fg b1;have b2:=Fg b2;have b3:=Fg b3
          simp only[T.I,Qu] at b1 b2 b3
          obtain ⟨i',zv,hi',hzz,hd,hzw⟩:=Kj (S:=S) (ρ:=ρ) (B:=w0.heap.size) hz
          rw[hi] at hi';injection hi' with hi';subst hi'
          have hr:=run_make (P:=P) w t e i zv hu hi hzz kl kc (n.I S ρ) (n.I S ρ) b1 (Int.le_refl _) (by rw[Int.mul_comm];omega) b3
          have hcells:(madeCells zv.cells ((n.I S ρ).toNat*i.size)).toList=Av S ρ w0.heap.size [.arrD k (.rep n (.lit 0))]:=by
            have:zv.cells= #[Value.int k 0]:=by
              apply Array.ext'
              rw[←hd];simp[Au,Cj,Cp.den,Aw.den,T.I]
            rw[this,hsz,Nat.mul_one,toList_madeCells_one]
            simp[Au,Cj,Cp.den,T.A,T.I]
          refine .of_yields trivial (.inl ?_) (hh.push e (segs:=jr6 [.arrD k (.rep n (.lit 0))]) ((Zr (S:=S) (ρ:=ρ) (B:=w0.heap.size) _).2 (fun g hg=>by simp at hg;subst hg;trivial)))
          simp only[execOp,el,ec,Aw.den,Sem.run_bind,hr,Result.andThen_ok,Sem.run_pure,SR.den,SV.den,Uo hh,(Zr (S:=S) (ρ:=ρ) (B:=w0.heap.size) _).1,←hcells]
        · cases hs
      · rename_i i k q q' hi hz
        split at hs
        · rename_i hnm
          obtain ⟨rfl,hsz,hqq,hq0⟩:=hnm
          simp only[Dt,Option.some.injEq] at hs;subst hs
          obtain ⟨b1,b2,b3⟩:=jy6 hm
          have b1:=Fg b1;have b2:=Fg b2;have b3:=Fg b3
          simp only[T.I,Qu] at b1 b2 b3
          obtain ⟨i',zv,hi',hzz,hd,hzw⟩:=Kj (S:=S) (ρ:=ρ) (B:=w0.heap.size) hz
          rw[hi] at hi';injection hi' with hi';subst hi'
          have hr:=run_make (P:=P) w t e i zv hu hi hzz kl kc (n.I S ρ) (n.I S ρ) b1 (Int.le_refl _) (by rw[Int.mul_comm];omega) b3
          have hcells:(madeCells zv.cells ((n.I S ρ).toNat*i.size)).toList=Av S ρ w0.heap.size [.arrD k (.rep (Tj n (.lit q)) (.lit 0))]:=by
            have hzl:zv.cells.toList=List.replicate q' (Value.int k 0):=by
              rw[←hd];simp[Au,Cj,Cp.den,T.A,T.I,hqq]
            have:=Ux zv.cells q' (n.I S ρ).toNat (by rw[←Array.length_toList,hzl];simp) hq0
            rw[hsz]
            unfold madeCells
            rw[this,hzl]
            simp only[Au,Cj,List.append_nil,Cp.den,T.A,T.I,Qu,List.map_replicate]
            rw[List.flatten_replicate_replicate]
            congr 1
            rw[hqq]
            obtain ⟨b,hb⟩:=Int.eq_ofNat_of_zero_le b1
            rw[hb,←Int.natCast_mul,Int.toNat_natCast,Int.toNat_natCast]
          refine .of_yields trivial (.inl ?_) (hh.push e (segs:=jr6 [.arrD k (.rep (Tj n (.lit q)) (.lit 0))]) ((Zr (S:=S) (ρ:=ρ) (B:=w0.heap.size) _).2 (fun g hg=>by simp at hg;subst hg;trivial)))
          simp only[execOp,el,ec,Aw.den,Sem.run_bind,hr,Result.andThen_ok,Sem.run_pure,SR.den,SV.den,Uo hh,(Zr (S:=S) (ρ:=ρ) (B:=w0.heap.size) _).1,←hcells]
        · cases hs
      · cases hs
    · cases hs
  | slice t x lo hi mx=>
    simp only[Gx,jkv] at hs
    split at hs
    · rename_i p hx
      cases hl:jju P t p fr lo hi mx with
      | none=>simp[hl] at hs
      | some cv=>
        simp[hl] at hs;subst hs
        refine Cz hh trivial ?_
        have h1:=jzt (w:=w) (B:=w0.heap.size) ha (fun x hx=>by simp[Op.operands,hx]) (fun x hx=>by simp[Op.operands,hx]) (fun x hx=>by simp[Op.operands,hx]) hl hm
        simp only[execOp,Dp ha (x:=x) (by simp[Op.operands]) hx,Sem.run_bind,h1,Result.andThen_ok,Sem.run_pure,Aw.sr,SR.den,SV.den,jug]
    · cases hs
  | fieldAddr t x f=>
    simp only[Gx,Uy] at hs
    split at hs
    · rename_i r' s d q hx hq
      split at hs
      · rename_i n hn
        simp only[Dt,Option.some.injEq] at hs;subst hs
        refine Cz hh trivial ?_
        have hd:=Fg (Qd hm)
        unfold jky at hq
        split at hq
        · rename_i fs hu
          have e:=Ha (w:=w) hn
          simp[execOp,Dp ha (x:=x) (by simp[Op.operands]) hx,Aw.den,Instr.fieldAt,run_underlying hu,hq,Instr.sureAddr,fieldPlace,e,SR.den,SV.den,Cw,Ho]
        · cases hq
      · cases hs
    · cases hs
  | field t x f=>
    simp only[Gx,jlr] at hs
    split at hs
    · rename_i g q hx hq
      split at hs
      · rename_i hqu
        cases hl:jh9 P q.type g q.offset with
        | none=>simp[hl] at hs
        | some v=>
          simp[hl] at hs;subst hs
          have hw:Cm S ρ g:=Nu hf hx
          obtain ⟨h1,h2⟩:=ju1 (w:=w) (B:=w0.heap.size) (Option.isSome_iff_exists.1 hqu) hw hl
          refine Cz hh h2 ?_
          unfold jky at hq
          split at hq
          · rename_i fs hu
            simp only[execOp,Hx ha (x:=x) (by simp[Op.operands]) hx,SR.den,Sem.run_bind,Sem.run_pure,Result.andThen_ok,jtk,Instr.field,run_underlying hu,hq,asAgg,h1]
          · cases hq
      · cases hs
    · cases hs
  | indexAddr t x i=>
    simp only[Gx,Uq] at hs
    split at hs
    · rename_i p q hx hi
      cases hl:jkz P t p q with
      | none=>simp[hl] at hs
      | some cv=>
        simp[hl] at hs;subst hs
        refine Cz hh trivial ?_
        have h1:=j1p (w:=w) (B:=w0.heap.size) hl hm
        simp only[execOp,Dp ha (x:=x) (by simp[Op.operands]) hx,Dp ha (x:=i) (by simp[Op.operands]) hi,Sem.run_bind,h1,Result.andThen_ok,Sem.run_pure,Aw.sr,SR.den,SV.den]
    · cases hs
  | index t x i=>
    simp only[Gx,jji] at hs
    split at hs
    · rename_i g k q n e hx hi hu
      split at hs
      · rename_i z hz
        split at hs
        · rename_i hq
          obtain ⟨q0,q1,hqu⟩:=hq
          cases hl:jh9 P e g (q.toNat*z) with
          | none=>simp[hl] at hs
          | some v=>
            simp[hl] at hs;subst hs
            have hw:Cm S ρ g:=Nu hf hx
            obtain ⟨h1,h2⟩:=ju1 (w:=w) (B:=w0.heap.size) (Option.isSome_iff_exists.1 hqu) hw hl
            refine Cz hh h2 ?_
            simp only[execOp,Hx ha (x:=x) (by simp[Op.operands]) hx,Dp ha (x:=i) (by simp[Op.operands]) hi,Aw.den,T.I,SR.den,jtk,Instr.index,asIntOf,Sem.run_bind,Sem.run_pure,Result.andThen_ok,run_underlying hu]
            rw[if_pos ⟨q0,q1⟩]
            simp only[Sem.run_bind,Ha hz,Result.andThen_ok,h1]
        · cases hs
      · cases hs
    · rename_i k a' m k' ti n e hne hx hi hu
      split at hs
      · rename_i hc
        obtain ⟨hsz,hag,hqu,hnm⟩:=hc
        simp only[Dt,Option.some.injEq] at hs;subst hs
        have hn:=Fu hm
        simp only[Ag] at hn
        have b1:=Fg hn.1;have b2:=jmz hn.2.1
        simp only[T.I] at b1 b2
        have hw:Cm S ρ [.arr k a' m]:=Nu hf hx
        have hlen:(a'.A S ρ).length=m:=hw (.arr k a' m) (by simp)
        obtain ⟨ud,hud⟩:=Option.isSome_iff_exists.1 hqu
        refine Cz hh trivial ?_
        simp only[execOp,Hx ha (x:=x) (by simp[Op.operands]) hx,Dp ha (x:=i) (by simp[Op.operands]) hi,Aw.den,SR.den,SV.den,Instr.index,asIntOf,Sem.run_bind,Sem.run_pure,Result.andThen_ok,run_underlying hu]
        rw[if_pos ⟨b1,b2⟩]
        simp only[Sem.run_bind,Ha hsz,Result.andThen_ok,part,Mt hud,hag,Bool.false_eq_true,if_false,Nat.mul_one,Au,Cj,List.append_nil,Cp.den,List.getElem?_toArray]
        rw[jfy _ _ _ (by omega)]
        simp only[Sem.run_pure,Result.andThen_ok,Tq,SR.den,SV.den,Aw.den,Sv]
      · cases hs
    · rename_i l k ti hx hi hu
      simp only[Dt,Option.some.injEq] at hs;subst hs
      have hn:=Fu hm
      simp only[Ag] at hn
      have b1:=Fg hn.1;have b2:=jmz hn.2.1
      simp only[T.I] at b1 b2
      refine Cz hh trivial ?_
      simp only[execOp,Hx ha (x:=x) (by simp[Op.operands]) hx,Dp ha (x:=i) (by simp[Op.operands]) hi,Aw.den,SR.den,SV.den,Instr.index,asIntOf,Sem.run_bind,Sem.run_pure,Result.andThen_ok,run_underlying hu]
      have hlt:(ti.I S ρ).toNat<l.length:=by omega
      rw[if_pos b1,qbl l _ hlt]
      simp only[Sem.run_pure,Result.andThen_ok,Tq,SR.den,SV.den,Aw.den,Sv,T.A,List.getD_eq_getElem?_getD,List.getElem?_map,List.getElem?_eq_getElem hlt,Option.map_some,Option.getD_some]
    · cases hs
  | extract x i=>
    simp only[Gx,jb9] at hs
    split at hs
    · rename_i xs hx
      split at hs
      · rename_i v hv
        simp only[Dt,Option.some.injEq] at hs;subst hs
        have hw:(SR.tup xs).wf S ρ:=Nu hf hx
        refine Cz hh (hw v (List.mem_of_getElem? hv)) ?_
        have e1:=Hx ha (x:=x) (by simp[Op.operands]) hx
        simp[execOp,e1,SR.den,Instr.extract,hv]
      · cases hs
    · cases hs
  | typeAssert x xt asserted ok=>
    simp only[Gx,Tb] at hs
    split at hs
    · rename_i ti l want hx hu
      have e1:=Dp ha (x:=x) (by simp[Op.operands]) hx
      split at hs
      · rename_i i hi
        split at hs
        · rename_i hmiss
          replace hmiss:=jqr hmiss
          simp only[Dt,Option.some.injEq] at hs;subst hs
          refine Cz hh (by cases ok<;>simp[SR.wf,SV.wf]) ?_
          simp only[execOp,e1,Aw.den,Instr.typeAssert,Sem.run_bind,run_underlying hu,Result.andThen_ok,typeInfo,program,Sem.run,hi,Sem.run_pure,hmiss]
          cases ok<;>simp[SR.den,SV.den,Aw.den,T.B]
        · rename_i mm hmiss
          obtain ⟨mm,hmiss⟩:=jq2 hmiss
          split at hs
          · rename_i z hz
            simp only[Dt,Option.some.injEq] at hs;subst hs
            refine Cz hh (by simp[SR.wf,SV.wf]) ?_
            cases hia:P.info? asserted with
            | none=>simp[hia,Rb] at hz
            | some ia=>
              cases hza:ia.zero with
              | none=>simp[hia,hza,Rb] at hz
              | some za=>
                simp[hia,hza] at hz
                have:=Sn (S:=S) (ρ:=ρ) (B:=w0.heap.size) hz
                simp[execOp,e1,Aw.den,Instr.typeAssert,run_underlying hu,typeInfo,hi,hmiss,zeroValue,hia,hza,SR.den,SV.den,this,T.B]
          · cases hs
      · cases hs
    · rename_i ti l d hne hx hu
      have e1:=Dp ha (x:=x) (by simp[Op.operands]) hx
      split at hs
      · cases hs
      · rename_i hni
        have hni': ∀ms,d≠ .interface ms:=fun ms he=>hne ms he
        simp only[Bool.false_eq_true,if_false] at hs
        split at hs
        · rename_i hta
          subst hta
          simp only[Dt,Option.some.injEq] at hs;subst hs
          refine Cz hh (by cases ok<;>simp[SR.wf,SV.wf]) ?_
          simp only[execOp,e1,Aw.den,Instr.typeAssert,Sem.run_bind,run_underlying hu,Result.andThen_ok]
          cases d<;>first|(exact absurd rfl (hni' _))|(cases ok<;>simp[SR.den,SV.den,Aw.den,T.B])
        · rename_i hta
          split at hs
          · rename_i z hz
            simp only[Dt,Option.some.injEq] at hs;subst hs
            refine Cz hh (by simp[SR.wf,SV.wf]) ?_
            cases hia:P.info? asserted with
            | none=>simp[hia,Rb] at hz
            | some ia=>
              cases hza:ia.zero with
              | none=>simp[hia,hza,Rb] at hz
              | some za=>
                simp[hia,hza] at hz
                have:=Sn (S:=S) (ρ:=ρ) (B:=w0.heap.size) hz
                cases d<;>first|(exact absurd rfl (hni' _))|simp[execOp,e1,Aw.den,Instr.typeAssert,run_underlying hu,typeInfo,zeroValue,hia,hza,hta,SR.den,SV.den,this,T.B]
          · cases hs
    · cases hs
  | call c=>
    simp only[Gx,jpd] at hs
    split at hs
    · rename_i hc
      split at hs
      · rename_i x t hargs htys
        have hax:c.args= #[x]:=Array.ext' hargs
        have hat:c.argTypes= #[t]:=Array.ext' htys
        have hmem:x∈(Op.call c).operands:=by simp[Op.operands,Call.operands,hc,hax]
        split at hs
        · rename_i e r' s d n cp hu hx
          simp only[Dt,Option.some.injEq] at hs;subst hs
          have b1:=Fg (Qd hm)
          simp only[T.I] at b1
          refine Cz hh trivial ?_
          have e1:=Dp ha hmem hx
          simp[execOp,resolve,hc,hax,hat,e1,Aw.den,invoke,builtin,Builtin.len_,run_underlying hu,goInt,Tq,SR.den,SV.den]
          omega
        · rename_i e hu hx
          simp only[Dt,Option.some.injEq] at hs;subst hs
          refine Cz hh trivial ?_
          have e1:=Dp ha hmem hx
          simp[execOp,resolve,hc,hax,hat,e1,Aw.den,invoke,builtin,Builtin.len_,run_underlying hu,goInt,Tq,SR.den,SV.den,T.I]
        · rename_i n e l hu hx
          simp only[Dt,Option.some.injEq] at hs;subst hs
          refine Cz hh trivial ?_
          simp[execOp,resolve,hc,hax,hat,invoke,builtin,Builtin.len_,run_underlying hu,goInt,Tq,SR.den,SV.den,Aw.den,T.I]
        · rename_i l hu hx
          simp only[Dt,Option.some.injEq] at hs;subst hs
          refine Cz hh trivial ?_
          have e1:=Dp ha hmem hx
          simp[execOp,resolve,hc,hax,hat,e1,Aw.den,invoke,builtin,Builtin.len_,run_underlying hu,goInt,Tq,SR.den,SV.den,T.I,jt7]
        · cases hs
      · cases hs
    · rename_i hc
      split at hs
      · rename_i x y hargs
        have hax:c.args= #[x,y]:=Array.ext' hargs
        have hmx:x∈(Op.call c).operands:=by simp[Op.operands,Call.operands,hc,hax]
        have hmy:y∈(Op.call c).operands:=by simp[Op.operands,Call.operands,hc,hax]
        split at hs
        · rename_i k tx k' ty hx hy
          simp only[Dt,Option.some.injEq] at hs;subst hs
          refine Cz hh trivial ?_
          simp[execOp,resolve,hc,hax,Dp ha hmx hx,Dp ha hmy hy,Aw.den,invoke,builtin,run_max_int2,Tq,SR.den,SV.den,j8y]
        · cases hs
      · cases hs
    · rename_i hc
      split at hs
      · rename_i x y hargs
        have hax:c.args= #[x,y]:=Array.ext' hargs
        have hmx:x∈(Op.call c).operands:=by simp[Op.operands,Call.operands,hc,hax]
        have hmy:y∈(Op.call c).operands:=by simp[Op.operands,Call.operands,hc,hax]
        split at hs
        · rename_i k tx k' ty hx hy
          simp only[Dt,Option.some.injEq] at hs;subst hs
          refine Cz hh trivial ?_
          simp[execOp,resolve,hc,hax,Dp ha hmx hx,Dp ha hmy hy,Aw.den,invoke,builtin,run_min_int2,Tq,SR.den,SV.den,jqy]
        · cases hs
      · cases hs
    · rename_i hc
      split at hs
      · rename_i x y t u hargs htys
        have hax:c.args= #[x,y]:=Array.ext' hargs
        have hat:c.argTypes= #[t,u]:=Array.ext' htys
        have hmx:x∈(Op.call c).operands:=by simp[Op.operands,Call.operands,hc,hax]
        have hmy:y∈(Op.call c).operands:=by simp[Op.operands,Call.operands,hc,hax]
        split at hs
        · rename_i p q hx hy
          have hcp:r.val.wf S ρ∧ ∃w',(Builtin.copy_ #[t,u] type #[p.den S ρ w0.heap.size,q.den S ρ w0.heap.size]).run P w=.ok (r.val.den S ρ w0.heap.size) w'∧Cv S ρ w0 r.heap w':=by
            cases hcs:jtj P t p q h with
            | some r'=>simp only[hcs,Option.some.injEq] at hs;subst hs;exact j2p hh hcs hm
            | none=>simp only[hcs] at hs;exact jws hh hs hm
          obtain ⟨h1,w',h2,h3⟩:=hcp
          refine .of_yields h1 (.inl ?_) h3
          simp[execOp,resolve,hc,hax,hat,Dp ha hmx hx,Dp ha hmy hy,invoke,builtin,h2]
        · cases hs
      · cases hs
    · split at hs
      · rename_i f args hcall
        split at hs
        · rename_i s hspec
          obtain ⟨h1,h2⟩:=jgj (w:=w) (t:=type) hf ha hcall
          obtain ⟨h3,h4⟩:=hsp f s hspec ρ w0 w h args r hs hm h2 hh
          refine ⟨h3,fun K Q hK=> ?_⟩
          unfold Oper.wp
          simp only[execOp]
          rw[h1,Oper.upon_enter]
          exact h4.mono fun e w' ⟨he,hw'⟩=>by subst he;exact hK w' hw'
        · cases hs
      · cases hs
  | _=>simp[Gx] at hs
end
end
end Go.Proofs.YtljjbikbfeigdaaGreatDoor
namespace Go.Proofs.YtljjbikbfeigdaaGreatDoor
noncomputable section
open Go
def Oh(l:List Value)(d:Option Tmp)(v:Value):List Value:=
  match d with
  | some d=>l.set d v
  | none=>l
section frames
def Cd(D:Nat→Bool):Nat→List (Option Tmp×Value)→List Value→List Value
  | _,[],cur=>cur
  | k,e::es,cur=>Cd D (k+1) es (if D k then Oh cur e.1 e.2 else cur)
theorem Lf(D:Nat→Bool): ∀(es:List (Option Tmp×Value)) (k:Nat) (cur:List Value),(Cd D k es cur).length=cur.length
  | [],_,_=>rfl
  | e::es,k,cur=>by
    unfold Cd
    rw[Lf D es]
    split
    · unfold Oh;split<;>simp
    · rfl
theorem Ki{D D':Nat→Bool}{s:Nat}: ∀(es:List (Option Tmp×Value)) (k:Nat) (cur cur':List Value),cur[s]? =cur'[s]? →cur.length=cur'.length→
    (∀i e,es[i]? =some e→e.1=some s→D (k+i)=D' (k+i))→(Cd D k es cur)[s]? =(Cd D' k es cur')[s]?
  | [],_,_,_,h,_,_=>h
  | e::es,k,cur,cur',h,hl,hd=>by
    unfold Cd
    refine Ki es (k+1) _ _ ?_ ?_ (fun i e' h1 h2=>by have:=hd (i+1) e' (by simpa using h1) h2;rwa[show k+1+i=k+(i+1) from by omega])
    · by_cases hs:e.1=some s
      · have:=hd 0 e rfl hs
        simp only[Nat.add_zero] at this
        rw[this]
        split
        · rw[hs]
          simp[Oh,List.getElem?_set,hl]
        · exact h
      · have hput: ∀c:List Value,(Oh c e.1 e.2)[s]? =c[s]? :=by
          intro c
          unfold Oh
          split
          · rename_i d hd2
            rw[List.getElem?_set_ne (by intro e';subst e';exact hs hd2)]
          · rfl
        have e1: ∀b:Bool,∀c:List Value,(if b=true then Oh c e.1 e.2 else c)[s]? =c[s]? :=by
          intro b c;split
          · exact hput c
          · rfl
        rw[e1,e1];exact h
    · have hp: ∀c:List Value,(Oh c e.1 e.2).length=c.length:=by intro c;unfold Oh;split<;>simp
      split<;>split<;>simp[hp,hl]
theorem jcj{D:Nat→Bool}{d:Option Tmp}{v:Value}: ∀(es:List (Option Tmp×Value)) (k:Nat) (cur:List Value),
    (∀i e s,es[i]? =some e→d=some s→e.1=some s→D (k+i)=false)→Cd D k es (Oh cur d v)=Oh (Cd D k es cur) d v
  | [],_,_,_=>rfl
  | e::es,k,cur,h=>by
    unfold Cd
    have ih:=jcj (D:=D) (d:=d) (v:=v) es (k+1) (if D k then Oh cur e.1 e.2 else cur) (fun i e' s h1 h2 h3=>by have:=h (i+1) e' s (by simpa using h1) h2 h3;rwa[show k+1+i=k+(i+1) from by omega])
    rw[←ih]
    congr 1
    split
    · rename_i hk
      have h0:=h 0 e
      simp only[Nat.add_zero,hk] at h0
      unfold Oh
      cases d with
      | none=>rfl
      | some s=>
        cases he:e.1 with
        | none=>rfl
        | some t=>
          have hne:t≠s:=by
            intro e';subst e'
            have:=h0 t rfl rfl he
            cases this
          simp only
          rw[List.set_comm _ _ hne]
    · rfl
theorem Sk{D D':Nat→Bool}{j:Nat}: ∀(es:List (Option Tmp×Value)) (k:Nat) (cur:List Value) (e:Option Tmp×Value),k≤j→es[j-k]? =some e→D j=false→D' j=true→(∀i,i≠j→D' i=D i)→
    (∀i e' s,es[i]? =some e'→j<k+i→e.1=some s→e'.1=some s→D (k+i)=false)→Cd D' k es cur=Oh (Cd D k es cur) e.1 e.2
  | [],k,cur,e,_,he,_,_,_,_=>by simp at he
  | x::es,k,cur,e,hk,he,hD,hD',hne,hl=>by
    unfold Cd
    by_cases hkj:k=j
    · subst hkj
      simp only[Nat.sub_self,List.getElem?_cons_zero,Option.some.injEq] at he
      subst he
      rw[hD,hD']
      simp only[if_true,Bool.false_eq_true,if_false]
      have hcong: ∀(es:List (Option Tmp×Value)) (m:Nat) (c:List Value),k<m→Cd D' m es c=Cd D m es c:=by
        intro es
        induction es with
        | nil=>intros;rfl
        | cons y es ih=>intro m c hm;unfold Cd;rw[hne m (by omega),ih (m+1) _ (by omega)]
      rw[hcong _ _ _ (by omega)]
      apply jcj
      intro i e' s h1 h2 h3
      have:=hl (i+1) e' s (by simpa using h1) (by omega) h2 h3
      rwa[show k+1+i=k+(i+1) from by omega]
    · rw[hne k hkj]
      refine Sk es (k+1) _ e (by omega) ?_ hD hD' hne (fun i e' s h1 h2 h3 h4=> ?_)
      · rw[show j-k=(j-(k+1))+1 from by omega,List.getElem?_cons_succ] at he
        exact he
      · have:=hl (i+1) e' s (by simpa using h1) (by omega) h3 h4
        rwa[show k+1+i=k+(i+1) from by omega]
end frames
section Ex
theorem jgm(ms:List Nat): ∀(l:List Edge) (s:Nat) (j:Nat),(l.foldl (fun s e=>if Mo e then s|||2^e.on|||ms.getD e.on 0 else s) s).testBit j=true→
    s.testBit j=true∨ ∃e∈l,Mo e=true∧(e.on=j∨(ms.getD e.on 0).testBit j=true)
  | [],s,j,h=>.inl h
  | e::l,s,j,h=>by
    simp only[List.foldl_cons] at h
    rcases jgm ms l _ j h with h|⟨e',h1,h2,h3⟩
    · split at h
      · rename_i hb
        simp only[Nat.testBit_or,Bool.or_eq_true,Nat.testBit_two_pow,decide_eq_true_eq] at h
        rcases h with (h|h)|h
        · exact .inl h
        · exact .inr ⟨e,by simp,hb,.inl h⟩
        · exact .inr ⟨e,by simp,hb,.inr h⟩
      · exact .inl h
    · exact .inr ⟨e',by simp[h1],h2,h3⟩
theorem jcd: ∀(ops:List Oper) (pre:List Nat),(ops.foldl (fun ms o=>ms++ [Pp ms o]) pre).take pre.length=pre∧
    ∀i o,ops[i]? =some o→(ops.foldl (fun ms o=>ms++ [Pp ms o]) pre)[pre.length+i]? =some (Pp ((ops.foldl (fun ms o=>ms++ [Pp ms o]) pre).take (pre.length+i)) o)
  | [],pre=>⟨by simp,fun i o h=>by simp at h⟩
  | o::ops,pre=>by
    simp only[List.foldl_cons]
    obtain ⟨h1,h2⟩:=jcd ops (pre++ [Pp pre o])
    generalize ops.foldl (fun ms o=>ms++ [Pp ms o]) (pre++ [Pp pre o])=R at*
    simp only[List.length_append,List.length_cons,List.length_nil,Nat.zero_add] at h1 h2
    have h3:R.take pre.length=pre:=by
      have:=congrArg (List.take pre.length) h1
      rw[List.take_take,Nat.min_eq_left (by omega)] at this
      rw[this];simp
    refine ⟨h3,fun i x hi=> ?_⟩
    cases i with
    | zero=>
      simp only[List.getElem?_cons_zero,Option.some.injEq] at hi
      subst hi
      simp only[Nat.add_zero,h3]
      have:=congrArg (fun l=>l[pre.length]?) h1
      simp only[List.getElem?_take] at this
      rw[if_pos (by omega)] at this
      rw[this];simp
    | succ i=>
      have:=h2 i x (by simpa using hi)
      rwa[show pre.length+1+i=pre.length+(i+1) from by omega] at this
theorem juc{ops:List Oper}{i:Nat}{o:Oper}(h:ops[i]? =some o):(Ex ops).getD i 0=Pp ((Ex ops).take i) o:=by
  have:=(jcd ops []).2 i o h
  simp only[List.length_nil,Nat.zero_add] at this
  rw[List.getD_eq_getElem?_getD]
  unfold Ex
  rw[this];rfl
def jbl(ops:List Oper)(D:Nat→Bool):Prop:= ∀i o,ops[i]? =some o→D i=true→ ∀e∈o.after.toList,Mo e=true→D e.on=true
theorem Ds{ops:List Oper}{D:Nat→Bool}(hb:Jc ops=true)(hD:jbl ops D): ∀(i:Nat) (o:Oper),ops[i]? =some o→(∀e∈o.after.toList,Mo e=true→D e.on=true)→ ∀j,((Ex ops).getD i 0).testBit j=true→D j=true:=by
  intro i
  induction i using Nat.strongRecOn with
  | _ i ih=>
    intro o ho hi j hj
    rw[juc ho] at hj
    unfold Pp at hj
    rcases jgm _ _ _ _ hj with h|⟨e,he,heb,h⟩
    · simp at h
    · have hDe:=hi e he heb
      rcases h with h|h
      · rw[←h];exact hDe
      · have hlt:e.on<i:=by
          unfold Jc at hb
          rw[List.all_eq_true] at hb
          have:=hb (o,i) (List.mem_zipIdx_iff_getElem?.2 ho)
          rw[List.all_eq_true] at this
          have:=this e he
          simp only[heb,Bool.not_true,Bool.false_or,decide_eq_true_eq] at this
          exact this
        have hlo:e.on<ops.length:=by
          have:=(List.getElem?_eq_some_iff.1 ho).1
          omega
        have ho':ops[e.on]? =some ops[e.on]:=List.getElem?_eq_getElem hlo
        have h':((Ex ops).getD e.on 0).testBit j=true:=by
          rw[List.getD_eq_getElem?_getD] at h⊢
          rw[List.getElem?_take,if_pos hlt] at h
          exact h
        exact ih e.on hlt _ ho' (fun e' h1 h2=>hD e.on _ ho' hDe e' h1 h2) j h'
end Ex
end
end Go.Proofs.YtljjbikbfeigdaaGreatDoor
namespace Go.Proofs.YtljjbikbfeigdaaGreatDoor
noncomputable section
open Go
def Bh(m:Nat)(es:List Fs):List Nat:=(es.zipIdx m).filterMap fun (e,i)=>if Eb e then some i else none
def Je:Hp→List Fs→Hp→Prop
  | h,[],hl=>h=hl
  | h,e::es,hl=>e.heap=h∧(Eb e=false→e.r.heap=h)∧Je e.r.heap es hl
theorem Gc: ∀{es:List Fs} {h hl:Hp} (m:Nat),Je h es hl→
    (∀k j,(Bh m es)[k]? =some j→ ∃e,es[j-m]? =some e∧m≤j∧Eb e=true∧(Eo h es)[k]? =some e.heap∧(Eo h es)[k+1]? =some e.r.heap)∧
    (Eo h es)[(Bh m es).length]? =some hl∧(Eo h es).length=(Bh m es).length+1
  | [],h,hl,m,hc=>by
    simp only[Je] at hc
    subst hc
    exact ⟨fun k j hk=>by simp[Bh] at hk,rfl,rfl⟩
  | e::es,h,hl,m,hc=>by
    obtain ⟨h1,h2,h3⟩:=hc
    obtain ⟨i1,i2,i3⟩:=Gc (m+1) h3
    by_cases he:Eb e=true
    · have e1:Bh m (e::es)=m::Bh (m+1) es:=by simp[Bh,he]
      have e2:Eo h (e::es)=h::Eo e.r.heap es:=by simp[Eo,he]
      rw[e1,e2]
      refine ⟨fun k j hk=> ?_,by simpa using i2,by simp[i3]⟩
      cases k with
      | zero=>
        simp only[List.getElem?_cons_zero,Option.some.injEq] at hk
        subst hk
        exact ⟨e,by simp,Nat.le_refl _,he,by simp[h1],by simp[Eo]⟩
      | succ k=>
        obtain ⟨e',q1,q2,q3,q4,q5⟩:=i1 k j (by simpa using hk)
        refine ⟨e',?_,by omega,q3,by simpa using q4,by simpa using q5⟩
        rw[show j-m=(j-(m+1))+1 from by omega,List.getElem?_cons_succ];exact q1
    · have he:Eb e=false:=by simpa using he
      have e1:Bh m (e::es)=Bh (m+1) es:=by simp[Bh,he]
      have e2:Eo h (e::es)=Eo e.r.heap es:=by rw[h2 he];simp[Eo,he]
      rw[e1,e2]
      refine ⟨fun k j hk=> ?_,i2,i3⟩
      obtain ⟨e',q1,q2,q3,q4,q5⟩:=i1 k j hk
      refine ⟨e',?_,by omega,q3,q4,q5⟩
      rw[show j-m=(j-(m+1))+1 from by omega,List.getElem?_cons_succ];exact q1
theorem ja6{α:Type}(p:α→Bool)(l:List α)(t:Nat)(h: ∀k x,l[k]? =some x→p x=true→k<t):(l.filter p).length≤t:=by
  have:(l.drop t).filter p=[]:=by
    rw[List.filter_eq_nil_iff]
    intro x hx hp
    obtain ⟨k,hk⟩:=List.getElem?_of_mem hx
    rw[List.getElem?_drop] at hk
    have:=h _ x hk hp
    omega
  have e:l.filter p=(l.take t).filter p:=by
    conv=>lhs;rw[←List.take_append_drop t l]
    rw[List.filter_append,this,List.append_nil]
  rw[e]
  exact Nat.le_trans (List.length_filter_le _ _) (List.length_take_le _ _)
theorem jat{α:Type}(p:α→Bool)(l:List α)(t:Nat)(ht:t≤l.length)(h: ∀k x,l[k]? =some x→k<t→p x=true):t≤(l.filter p).length:=by
  have e:(l.take t).filter p=l.take t:=by
    rw[List.filter_eq_self]
    intro x hx
    obtain ⟨k,hk⟩:=List.getElem?_of_mem hx
    rw[List.getElem?_take] at hk
    split at hk
    · rename_i hlt;exact h k x hk hlt
    · cases hk
  conv=>rhs;rw[←List.take_append_drop t l]
  rw[List.filter_append,List.length_append,e,List.length_take]
  omega
section
variable {S:Hw} {ρ:Et} {w0:World} {P:Program} {specs:Nat→Option Ec}
def Bj(S:Hw)(ρ:Et)(B:Nat)(es:List Fs):List (Option Tmp×Value):=es.map fun e=>(e.o.dst,e.r.val.den S ρ B)
theorem Kq{B:Nat}{es:List Fs}{i:Nat}{e:Fs}(h:es[i]? =some e):(Bj S ρ B es)[i]? =some (e.o.dst,e.r.val.den S ρ B):=by simp[Bj,h]
theorem Jm{B:Nat}{es:List Fs}{i:Nat}{p:Option Tmp×Value}(h:(Bj S ρ B es)[i]? =some p): ∃e,es[i]? =some e∧p=(e.o.dst,e.r.val.den S ρ B):=by
  simp only[Bj,List.getElem?_map,Option.map_eq_some_iff] at h
  obtain ⟨e,h1,h2⟩:=h
  exact ⟨e,h1,h2.symm⟩
structure Td(P:Program)(specs:Nat→Option Ec)(S:Hw)(ρ:Et)(B:Nat)(h0:Hp)(es:List Fs)(init:List Value)(hl:Hp):Prop where
  fr: ∀(j:Nat) (e:Fs),es[j]? =some e→e.fr.map (SR.den S ρ B)=Cd (fun i=>decide (i<j)) 0 (Bj S ρ B es) init
  want: ∀(j:Nat) (e:Fs),es[j]? =some e→Region.wanted e.o (yielded (es.map (·.o)).toArray (Cd (fun i=>decide (i<j)) 0 (Bj S ρ B es) init).toArray)=e.want
  st: ∀(j:Nat) (e:Fs),es[j]? =some e→e.want=true→Gx P specs (Do e.fr) e.heap e.o=some e.r∧Dx S ρ e.r.need∧ ∀x∈e.fr,x.wf S ρ
  no: ∀(j:Nat) (e:Fs),es[j]? =some e→e.want=false→e.r.val=.v (.one .undef)∧e.r.need=[]
  chain:Je h0 es hl
theorem Vs{ops:Array Oper}{o:Oper}{l m:Array Value}(h: ∀g b,o.guard=some (g,b)→ ∀d,(ops[g]?).bind (·.dst)=some d→l[d]? =m[d]?):Region.wanted o (yielded ops l)=Region.wanted o (yielded ops m):=by
  unfold Region.wanted
  cases hg:o.guard with
  | none=>rfl
  | some gb=>
    obtain ⟨g,b⟩:=gb
    simp only
    congr 1
    unfold yielded
    cases hd:(ops[g]?).bind (·.dst) with
    | none=>rfl
    | some d=>simp only[Option.bind_some];rw[h g b hg d hd]
structure Mid(S:Hw)(ρ:Et)(w0:World)(h0:Hp)(es:List Fs)(init:List Value)(listed:Array Bool)(a:Act)(w:World):Prop where
  size:listed.size=es.length
  closed:jbl (es.map (·.o)) (fun i=>listed.getD i false)
  fr:a.tmps.toList=Cd (fun i=>listed.getD i false) 0 (Bj S ρ w0.heap.size es) init
  defers:a.defers=[]
  heap: ∃t h,t≤(Bh 0 es).length∧(∀k i,(Bh 0 es)[k]? =some i→(listed.getD i false=true↔k<t))∧(Eo h0 es)[t]? =some h∧Cv S ρ w0 h w
theorem Da(l:Array Bool)(i j:Nat)(hi:i<l.size):(l.setIfInBounds i true).getD j false=if j=i then true else l.getD j false:=by
  simp only[Array.getD_eq_getD_getElem?,Array.getElem?_setIfInBounds]
  by_cases h:i=j
  · subst h;simp[hi]
  · rw[if_neg h,if_neg (fun e=>h e.symm)]
theorem Jy(l:Array Bool)(i:Nat)(hi:i<l.size):l.getD i true=l.getD i false:=by
  simp[Array.getD_eq_getD_getElem?,hi]
theorem Fr{ops:Array Oper}{listed:Array Bool}{i:Nat}(h:i∈Region.ready .any ops listed):i<ops.size∧listed.getD i true=false∧ ∀o,ops[i]? =some o→ ∀e∈o.after.toList,Mo e=true→listed.getD e.on false=true:=by
  unfold Region.ready at h
  rw[List.mem_filter] at h
  obtain ⟨h1,h2⟩:=h
  simp only[Bool.and_eq_true,Bool.not_eq_true'] at h2
  obtain ⟨h2,h3⟩:=h2
  refine ⟨List.mem_range.1 h1,h2,fun o ho e he hb=> ?_⟩
  simp only[ho,Option.map_some,Option.getD_some] at h3
  rw[Array.all_eq_true_iff_forall_mem] at h3
  have:=h3 e (by simpa using he)
  unfold Mo at hb
  simpa [hb] using this
theorem jz5{ops:Array Oper}{listed:Array Bool}{i:Nat}{o:Oper}(hi:ops[i]? =some o)(h2:listed.getD i true=false)(h3: ∀e∈o.after.toList,Mo e=true→listed.getD e.on false=true):i∈Region.ready .any ops listed:=by
  unfold Region.ready
  rw[List.mem_filter]
  refine ⟨List.mem_range.2 (Array.getElem?_eq_some_iff.1 hi).1,?_⟩
  simp only[h2,Bool.not_false,Bool.true_and,hi,Option.map_some,Option.getD_some]
  rw[Array.all_eq_true_iff_forall_mem]
  intro e he
  cases hb:Region.binds .any e with
  | false=>simp
  | true=>simp[h3 e (by simpa using he) hb]
theorem Yt{ops:List Oper}{listed:Array Bool}(hs:listed.size=ops.length)(hb:Jc ops=true)(hr:Region.ready .any ops.toArray listed=[]): ∀i,i<ops.length→listed.getD i false=true:=by
  intro i
  induction i using Nat.strongRecOn with
  | _ i ih=>
    intro hi
    cases hl:listed.getD i false with
    | true=>rfl
    | false=>
      exfalso
      have ho:ops[i]? =some ops[i]:=List.getElem?_eq_getElem hi
      have:i∈Region.ready .any ops.toArray listed:=by
        refine jz5 (o:=ops[i]) (by simp[ho]) (by rw[Jy _ _ (by omega)];exact hl) (fun e he hbe=> ?_)
        have hlt:e.on<i:=by
          unfold Jc at hb
          rw[List.all_eq_true] at hb
          have:=hb (ops[i],i) (List.mem_zipIdx_iff_getElem?.2 ho)
          rw[List.all_eq_true] at this
          have:=this e he
          simp only[hbe,Bool.not_true,Bool.false_or,decide_eq_true_eq] at this
          exact this
        exact ih e.on hlt (by omega)
      rw[hr] at this
      cases this
end
end
end Go.Proofs.YtljjbikbfeigdaaGreatDoor
namespace Go.Proofs.YtljjbikbfeigdaaGreatDoor
noncomputable section
open Go
section
variable {S:Hw} {ρ:Et} {w0:World} {P:Program} {specs:Nat→Option Ec}
theorem Me(es:List Fs):(es.zipIdx.filterMap fun (e,i)=>if Eb e then some i else none)=Bh 0 es:=rfl
theorem Kr{ops:List Oper}{ms:List Nat}(h:Vc ops ms=true){i j:Nat}{w o:Oper}{d:Tmp}(hi:ops[i]? =some w)(hj:ops[j]? =some o)(hd:w.dst=some d)(hne:i≠j)
    (hl:d∈Qi ops o∨o.dst=some d):if i<j then (ms.getD j 0).testBit i=true else (ms.getD i 0).testBit j=true:=by
  unfold Vc at h
  rw[List.all_eq_true] at h
  have h1:=h (w,i) (List.mem_zipIdx_iff_getElem?.2 hi)
  simp only[hd] at h1
  rw[List.all_eq_true] at h1
  have h2:=h1 (o,j) (List.mem_zipIdx_iff_getElem?.2 hj)
  have hc:((Qi ops o).contains d||o.dst==some d)=true:=by
    rcases hl with hl|hl
    · simp[hl]
    · simp[hl]
  have hij:(i==j)=false:=by simpa using hne
  simp only[hij,hc,Bool.not_true,Bool.or_false,Bool.false_or] at h2
  split at h2<;>rename_i hlt
  · rw[if_pos hlt];exact h2
  · rw[if_neg hlt];exact h2
theorem Xp: ∀{es:List Fs} {h hl:Hp} (m:Nat),Je h es hl→Bh m es=[]→hl=h∧ ∀(i:Nat) (e:Fs),es[i]? =some e→e.heap=h∧e.r.heap=h
  | [],h,hl,m,hc,_=>⟨hc.symm,fun i e hi=>by simp at hi⟩
  | e::es,h,hl,m,hc,he=>by
    obtain ⟨h1,h2,h3⟩:=hc
    have hne:Eb e=false:=by
      cases hb:Eb e with
      | false=>rfl
      | true=>simp[Bh,hb] at he
    have he':Bh (m+1) es=[]:=by simpa [Bh,hne] using he
    rw[h2 hne] at h3
    obtain ⟨i1,i2⟩:=Xp (m+1) h3 he'
    refine ⟨i1,fun i e' hi=> ?_⟩
    cases i with
    | zero=>simp at hi;subst hi;exact ⟨h1,h2 hne⟩
    | succ i=>exact i2 i e' (by simpa using hi)
theorem Td.met{B:Nat}{h0:Hp}{es:List Fs}{init:List Value}{hl:Hp}(sh:Td P specs S ρ B h0 es init hl):Dx S ρ (es.flatMap (·.r.need)):=by
  intro x hx
  rw[List.mem_flatMap] at hx
  obtain ⟨e',he',hxe⟩:=hx
  obtain ⟨j,hj⟩:=List.getElem?_of_mem he'
  cases hwj:e'.want with
  | true=>exact (sh.st j e' hj hwj).2.1 x hxe
  | false=>rw[(sh.no j e' hj hwj).2] at hxe;cases hxe
theorem Nc(hsp: ∀f s,specs f=some s→Ei P S f s){h0:Hp}{es:List Fs}{init:List Value}{hl:Hp}(hst:Dr (es.map (·.o))=true)(hok:Bh 0 es=[]∨Lp P specs h0 es=true)(hchain:Je h0 es hl)
    (hneed:Dx S ρ (es.flatMap (·.r.need))){i:Nat}{e:Fs}(hei:es[i]? =some e)
    (ffr:e.fr.map (SR.den S ρ w0.heap.size)=Cd (fun j=>decide (j<i)) 0 (Bj S ρ w0.heap.size es) init)
    (fwant:Region.wanted e.o (yielded (es.map (·.o)).toArray (Cd (fun j=>decide (j<i)) 0 (Bj S ρ w0.heap.size es) init).toArray)=e.want)
    (fst:e.want=true→Gx P specs (Do e.fr) e.heap e.o=some e.r∧Dx S ρ e.r.need∧ ∀x∈e.fr,x.wf S ρ)(fno:e.want=false→e.r.val=.v (.one .undef)∧e.r.need=[])
    {listed:Array Bool}{a:Act}{w:World}(he:Eb e=true→ ∀j∈Bh 0 es,j<i→((Ex (es.map (·.o))).getD i 0).testBit j=true∨listed.getD j false=true)
    (hm:Mid S ρ w0 h0 es init listed a w)(hi:i∈Region.ready .any (es.map (·.o)).toArray listed){K:Act→World→Prop}{Q:Exit→Act→World→Prop}
    (hK: ∀a' w',Mid S ρ w0 h0 es init (listed.setIfInBounds i true) a' w'→K a' w'):wpOp P (es.map (·.o)).toArray Q i K a w:=by
  unfold Dr at hst
  simp only[Bool.and_eq_true] at hst
  obtain ⟨hb,ht⟩:=hst
  unfold Lp at hok
  simp only[Bool.or_eq_true,Bool.and_eq_true] at hok
  obtain ⟨r1,r2,r3⟩:=Fr hi
  have r1':i<es.length:=by simpa using r1
  have hil:i<listed.size:=by rw[hm.size];exact r1'
  rw[Jy _ _ hil] at r2
  have hoi:(es.map (·.o))[i]? =some e.o:=by simp[hei]
  have hoa:(es.map (·.o)).toArray[i]? =some e.o:=by simpa using hoi
  have hpre:=r3 e.o hoa
  have hmask:=Ds hb hm.closed i e.o hoi hpre
  have hlook: ∀d,d∈Qi (es.map (·.o)) e.o→(Cd (fun i=>listed.getD i false) 0 (Bj S ρ w0.heap.size es) init)[d]? =(Cd (fun j=>decide (j<i)) 0 (Bj S ρ w0.heap.size es) init)[d]? :=by
    intro d hd
    apply Ki _ _ _ _ rfl rfl
    intro j p hj hpd
    obtain ⟨e',hj',rfl⟩:=Jm hj
    simp only[Nat.zero_add] at hpd⊢
    have hoj:(es.map (·.o))[j]? =some e'.o:=by simp[hj']
    by_cases hij:j=i
    · subst hij
      simp[r2]
    · have hord:=Kr ht hoj hoi hpd hij (.inl hd)
      split at hord
      · rename_i hlt
        rw[hmask j hord];simp[hlt]
      · rename_i hlt
        have hnl:listed.getD j false=false:=by
          cases hl:listed.getD j false with
          | false=>rfl
          | true=>
            exfalso
            have:=Ds hb hm.closed j e'.o hoj (fun x h1 h2=>hm.closed j e'.o hoj hl x h1 h2) i hord
            rw[r2] at this;cases this
        rw[hnl];simp;omega
  have hsizes:(Cd (fun i=>listed.getD i false) 0 (Bj S ρ w0.heap.size es) init).length=(Cd (fun j=>decide (j<i)) 0 (Bj S ρ w0.heap.size es) init).length:=by
    rw[Lf,Lf]
  have hat: ∀d:Nat,a.tmps[d]? =(Cd (fun i=>listed.getD i false) 0 (Bj S ρ w0.heap.size es) init)[d]? :=fun d=>by rw[←hm.fr];simp
  have hwant:Region.wanted e.o (yielded (es.map (·.o)).toArray a.tmps)=e.want:=by
    rw[←fwant]
    apply Vs
    intro g b hg d hd
    rw[hat d,hlook d (by unfold Qi;rw[hg];simp only[List.mem_append];right;simp at hd⊢;exact hd)]
    simp
  have hnext: ∀(w':World) (t:Nat) (h:Hp),t≤(Bh 0 es).length→(∀k j,(Bh 0 es)[k]? =some j→((listed.setIfInBounds i true).getD j false=true↔k<t))→(Eo h0 es)[t]? =some h→Cv S ρ w0 h w'→
      K (a.put e.o.dst (e.r.val.den S ρ w0.heap.size)) w':=by
    intro w' t h g1 g2 g3 g4
    apply hK
    · refine ⟨by simpa using hm.size,?_,?_,?_,t,h,g1,g2,g3,g4⟩
      · intro j o hj hD x hx1 hx2
        simp only at hD⊢
        rw[Da _ _ _ hil] at hD⊢
        split at hD
        · rename_i hji
          subst hji
          rw[hoi] at hj;injection hj with hj;subst hj
          split
          · rfl
          · exact hpre x hx1 hx2
        · split
          · rfl
          · exact hm.closed j o hj hD x hx1 hx2
      · have hput:(a.put e.o.dst (e.r.val.den S ρ w0.heap.size)).tmps.toList=Oh a.tmps.toList e.o.dst (e.r.val.den S ρ w0.heap.size):=by
          unfold Act.put Oh
          cases e.o.dst<;>simp
        rw[hput,hm.fr]
        symm
        refine Sk (j:=i) _ 0 init (e.o.dst,e.r.val.den S ρ w0.heap.size) (Nat.zero_le _) (by simpa using Kq hei) r2 (by rw[Da _ _ _ hil];simp) (fun j hj=>by rw[Da _ _ _ hil,if_neg hj]) ?_
        intro j p s hj hlt hs1 hs2
        obtain ⟨e',hj',rfl⟩:=Jm hj
        simp only[Nat.zero_add] at hlt hs1 hs2⊢
        have hoj:(es.map (·.o))[j]? =some e'.o:=by simp[hj']
        have hord:=Kr ht hoj hoi hs2 (by omega) (.inr hs1)
        rw[if_neg (by omega)] at hord
        cases hl:listed.getD j false with
        | false=>rfl
        | true=>
          exfalso
          have:=Ds hb hm.closed j e'.o hoj (fun x h1 h2=>hm.closed j e'.o hoj hl x h1 h2) i hord
          rw[r2] at this;cases this
      · unfold Act.put
        cases e.o.dst<;>exact hm.defers
  obtain ⟨t,h,h1,h2,h3,h4⟩:=hm.heap
  have hch:=Gc 0 hchain
  unfold wpOp
  rw[hoa]
  simp only[hwant]
  have hquiet:Eb e=false→ ∀w',Cv S ρ w0 h w'→K (a.put e.o.dst (e.r.val.den S ρ w0.heap.size)) w':=by
    intro hne w' hw'
    refine hnext w' t h h1 (fun k j hk=> ?_) h3 hw'
    rw[Da _ _ _ hil]
    split
    · rename_i hji
      subst hji
      obtain ⟨e',q1,q2,q3,_⟩:=hch.1 k j hk
      simp only[Nat.sub_zero] at q1
      rw[hei] at q1;injection q1 with q1;subst q1
      rw[hne] at q3;cases q3
    · exact h2 k j hk
  cases hw:e.want with
  | false=>
    simp only[Bool.false_eq_true,if_false]
    have hv:e.r.val.den S ρ w0.heap.size=undef:=by rw[(fno hw).1];rfl
    rw[←hv]
    exact hquiet (by simp[Eb,hw]) w h4
  | true=>
    simp only[if_true]
    left
    obtain ⟨s1,s2,s3'⟩:=fst hw
    have s3:=Gs s3'
    have hagree:Pq S ρ w0.heap.size (Do e.fr) a e.o.op.operands:=by
      intro x hxo
      have hd:x∈Qi (es.map (·.o)) e.o:=by
        unfold Qi
        rw[List.mem_append];left
        rw[List.mem_filterMap]
        exact ⟨.tmp x,by simpa using hxo,rfl⟩
      have:=hlook x hd
      rw[←hat x,←ffr] at this
      rw[Array.getD_eq_getD_getElem?,this]
      unfold Do
      rw[List.getElem?_map,List.getD_eq_getElem?_getD]
      cases e.fr[x]? <;>rfl
    by_cases hne:Eb e=true
    ·
      obtain ⟨k,hk⟩: ∃k,(Bh 0 es)[k]? =some i:=by
        apply List.getElem?_of_mem
        rw[←Me,List.mem_filterMap]
        exact ⟨(e,i),List.mem_zipIdx_iff_getElem?.2 hei,by simp[hne]⟩
      obtain ⟨e',q1,q2,q3,q4,q5⟩:=hch.1 k i hk
      simp only[Nat.sub_zero] at q1
      rw[hei] at q1;injection q1 with q1;subst q1
      have hkt:k=t:=by
        have hnk: ¬k<t:=fun hlt=>by have:=(h2 k i hk).2 hlt;rw[r2] at this;cases this
        rcases Nat.lt_or_ge t k with hlt|hge
        · exfalso
          have hkl:k<(Bh 0 es).length:=(List.getElem?_eq_some_iff.1 hk).1
          have htl:t<(Bh 0 es).length:=by omega
          obtain ⟨j,hj⟩: ∃j,(Bh 0 es)[t]? =some j:=⟨_,List.getElem?_eq_getElem htl⟩
          have hji:j<i:=by
            have:List.Pairwise (· < ·) (Bh 0 es):=by
              unfold Bh
              apply List.Pairwise.filterMap (R:=fun a b=>a.2<b.2)
              · intro a b hab x hx y hy
                split at hx<;>simp at hx
                split at hy<;>simp at hy
                omega
              · rw[List.pairwise_iff_getElem]
                intro p q hp hq hpq
                simp;exact hpq
            rw[List.pairwise_iff_getElem] at this
            have:=this t k htl hkl hlt
            rw[List.getElem?_eq_getElem htl] at hj
            rw[List.getElem?_eq_getElem hkl] at hk
            injection hj with hj;injection hk with hk
            omega
          have:=he hne j (List.mem_of_getElem? hj) hji
          have:=this.elim (hmask j) id
          have:=(h2 t j hj).1 this
          omega
        · omega
      subst hkt
      rw[h3] at q4;injection q4 with q4
      subst q4
      obtain ⟨_,d2⟩:=Sl hsp (o:=e.o) (a:=a) (w:=w) (w0:=w0) s1 s2 s3 hagree h4
      refine d2 _ _ fun w' hw'=> ?_
      refine hnext w' (k+1) e.r.heap (by have:=(List.getElem?_eq_some_iff.1 hk).1;omega) (fun k' j hk'=> ?_) q5 hw'
      rw[Da _ _ _ hil]
      have hnd:(Bh 0 es)[k']? =some j→j=i→k'=k:=by
        intro hk' hji
        subst hji
        have hnk:k'<k∨k'=k∨k<k':=by omega
        rcases hnk with hlt|rfl|hlt
        · exfalso
          have:=(h2 k' j hk').2 hlt
          rw[r2] at this;cases this
        · rfl
        · exfalso
          have:List.Pairwise (· < ·) (Bh 0 es):=by
            unfold Bh
            apply List.Pairwise.filterMap (R:=fun a b=>a.2<b.2)
            · intro a b hab x hx y hy
              split at hx<;>simp at hx
              split at hy<;>simp at hy
              omega
            · rw[List.pairwise_iff_getElem]
              intro p q hp hq hpq
              simp;exact hpq
          rw[List.pairwise_iff_getElem] at this
          have k1:=(List.getElem?_eq_some_iff.1 hk)
          have k2:=(List.getElem?_eq_some_iff.1 hk')
          have:=this k k' k1.1 k2.1 hlt
          omega
      split
      · rename_i hji
        have:=hnd hk' hji
        simp;omega
      · rename_i hji
        rw[h2 k' j hk']
        constructor
        · intro h;omega
        · intro h
          rcases Nat.lt_or_ge k' k with hlt|hge
          · exact hlt
          · exfalso
            have:k'=k:=by omega
            subst this
            rw[hk] at hk';injection hk' with hk';exact hji hk'.symm
    ·
      have hne:Eb e=false:=by simpa using hne
      have hex: ∃r',Gx P specs (Do e.fr) h e.o=some r'∧r'.val=e.r.val∧r'.heap=h∧Dx S ρ r'.need:=by
        rcases hok with hok|hok
        · obtain ⟨c1,c2⟩:=Xp 0 hchain hok
          have hh0:h=h0:=by
            have ht0:t=0:=by rw[hok] at h1;simpa using h1
            rw[ht0] at h3
            unfold Eo at h3
            simpa using h3.symm
          obtain ⟨q1,q2,_⟩:=fst hw
          obtain ⟨q3,q4⟩:=c2 i e hei
          rw[hh0,←q3]
          exact ⟨e.r,q1,rfl,by rw[q4,q3],q2⟩
        · have hx:=hok
          rw[List.all_eq_true] at hx
          have hx1:=hx (e,i) (List.mem_zipIdx_iff_getElem?.2 hei)
          simp only[hw,hne,Bool.not_true,Bool.or_false,Bool.false_or] at hx1
          rw[List.all_eq_true] at hx1
          have hx2:=hx1 (h,t) (List.mem_zipIdx_iff_getElem?.2 h3)
          simp only[Bool.or_eq_true,decide_eq_true_eq,Me] at hx2
          have hsame:Xw P specs e (es.flatMap (·.r.need)) h=true:=by
            rcases hx2 with (hlo|hhi)|hs
            · exfalso
              have hlo2:t<((Bh 0 es).filter (fun j=>((Ex (es.map (·.o))).getD i 0).testBit j)).length:=of_decide_eq_true hlo
              have:=ja6 (fun j=>((Ex (es.map (·.o))).getD i 0).testBit j) (Bh 0 es) t (fun k j hk hj=>(h2 k j hk).1 (hmask j hj))
              omega
            · exfalso
              have hhi2:((Bh 0 es).filter (fun j=> !((Ex (es.map (·.o))).getD j 0).testBit i)).length<t:=of_decide_eq_true hhi
              have:=jat (fun j=> !((Ex (es.map (·.o))).getD j 0).testBit i) (Bh 0 es) t h1 (fun k j hk hkt=>by
                have hjl:=(h2 k j hk).2 hkt
                cases hbit:((Ex (es.map (·.o))).getD j 0).testBit i with
                | false=>rfl
                | true=>
                  exfalso
                  obtain ⟨e',q1,_⟩:=hch.1 k j hk
                  simp only[Nat.sub_zero] at q1
                  have hoj:(es.map (·.o))[j]? =some e'.o:=by simp[q1]
                  have:=Ds hb hm.closed j e'.o hoj (fun x h1 h2=>hm.closed j e'.o hoj hjl x h1 h2) i hbit
                  rw[r2] at this;cases this)
              omega
            · exact hs
          unfold Xw at hsame
          split at hsame
          · rename_i r' hr'
            simp only[Bool.and_eq_true,beq_iff_eq] at hsame
            obtain ⟨⟨v1,v2⟩,v3⟩:=hsame
            have hmet:Dx S ρ r'.need:=by
              intro x hx
              rw[List.all_eq_true] at v3
              exact hneed x (List.contains_iff_mem.1 (v3 x hx))
            exact ⟨r',hr',v1,v2,hmet⟩
          · cases hsame
      obtain ⟨r',hr',v1,v2,hmet⟩:=hex
      obtain ⟨_,d2⟩:=Sl hsp (o:=e.o) (a:=a) (w:=w) (w0:=w0) hr' hmet s3 hagree h4
      refine d2 _ _ fun w' hw'=> ?_
      rw[v1]
      rw[v2] at hw'
      exact hquiet hne w' hw'
theorem jeg(hsp: ∀f s,specs f=some s→Ei P S f s){h0:Hp}{es:List Fs}{init:List Value}{hl:Hp}(hst:Dr (es.map (·.o))=true)(hok:Rh P specs h0 es=true)(hchain:Je h0 es hl)
    (hneed:Dx S ρ (es.flatMap (·.r.need))){i:Nat}{e:Fs}(hei:es[i]? =some e)
    (ffr:e.fr.map (SR.den S ρ w0.heap.size)=Cd (fun j=>decide (j<i)) 0 (Bj S ρ w0.heap.size es) init)
    (fwant:Region.wanted e.o (yielded (es.map (·.o)).toArray (Cd (fun j=>decide (j<i)) 0 (Bj S ρ w0.heap.size es) init).toArray)=e.want)
    (fst:e.want=true→Gx P specs (Do e.fr) e.heap e.o=some e.r∧Dx S ρ e.r.need∧ ∀x∈e.fr,x.wf S ρ)(fno:e.want=false→e.r.val=.v (.one .undef)∧e.r.need=[])
    {listed:Array Bool}{a:Act}{w:World}(hm:Mid S ρ w0 h0 es init listed a w)(hi:i∈Region.ready .any (es.map (·.o)).toArray listed){K:Act→World→Prop}{Q:Exit→Act→World→Prop}
    (hK: ∀a' w',Mid S ρ w0 h0 es init (listed.setIfInBounds i true) a' w'→K a' w'):wpOp P (es.map (·.o)).toArray Q i K a w:=by
  unfold Rh at hok
  simp only[Bool.or_eq_true,Bool.and_eq_true,List.isEmpty_iff] at hok
  rw[Me] at hok
  refine Nc hsp hst (hok.imp id fun h=>h.2) hchain hneed hei ffr fwant fst fno (fun hne j hj hji=>.inl ?_) hm hi hK
  have hmem:i∈Bh 0 es:=by
    rw[←Me,List.mem_filterMap]
    exact ⟨(e,i),List.mem_zipIdx_iff_getElem?.2 hei,by simp[hne]⟩
  rcases hok with h|h
  · rw[h] at hj;cases hj
  · have he:=List.all_eq_true.1 (List.all_eq_true.1 h.1 j hj) i hmem
    simpa [hji] using he
set_option maxHeartbeats 1000000 in
theorem qae(hsp: ∀f s,specs f=some s→Ei P S f s){h0:Hp}{es:List Fs}{init:List Value}{hl:Hp}(sh:Td P specs S ρ w0.heap.size h0 es init hl)(hst:Dr (es.map (·.o))=true)(hok:Rh P specs h0 es=true)
    {Q:Exit→Act→World→Prop}(hQ: ∀a w,a.tmps.toList=Cd (fun _=>true) 0 (Bj S ρ w0.heap.size es) init→a.defers=[]→Cv S ρ w0 hl w→Q .normal a w):
    ∀(fuel:Nat) (listed:Array Bool) (a:Act) (w:World),Mid S ρ w0 h0 es init listed a w→((List.range es.length).filter fun i=> !listed.getD i false).length≤fuel→
      wpAny P .any (es.map (·.o)).toArray Q fuel listed a w:=by
  have hst0:=hst
  have hok0:=hok
  unfold Dr at hst
  simp only[Bool.and_eq_true] at hst
  obtain ⟨hb,ht⟩:=hst
  unfold Rh at hok
  simp only[Bool.or_eq_true,Bool.and_eq_true,List.isEmpty_iff] at hok
  rw[Me] at hok
  have he:((Bh 0 es).all fun i=>(Bh 0 es).all fun j=> !(i<j)||((Ex (es.map (·.o))).getD j 0).testBit i)=true:=by
    rcases hok with h|h
    · rw[h];rfl
    · exact h.1
  have hstop: ∀(listed:Array Bool) (a:Act) (w:World),Mid S ρ w0 h0 es init listed a w→Region.ready .any (es.map (·.o)).toArray listed=[]→Q .normal a w:=by
    intro listed a w hm hr
    have hall:=Yt (ops:=es.map (·.o)) (by simpa using hm.size) hb hr
    obtain ⟨t,h,h1,h2,h3,h4⟩:=hm.heap
    refine hQ a w ?_ hm.defers ?_
    · rw[hm.fr]
      apply List.ext_getElem?
      intro s
      apply Ki _ _ _ _ rfl rfl
      intro i e hi _
      obtain ⟨e',hi',_⟩:=Jm hi
      simp only[Nat.zero_add]
      exact hall i (by simpa using (List.getElem?_eq_some_iff.1 hi').1)
    · have htl:t=(Bh 0 es).length:=by
        rcases Nat.lt_or_ge t (Bh 0 es).length with hlt|hge
        · have hi:=h2 t _ (List.getElem?_eq_getElem hlt)
          obtain ⟨e',q1,_⟩:=(Gc 0 sh.chain).1 t _ (List.getElem?_eq_getElem hlt)
          have:=hi.1 (hall _ (by simpa using (List.getElem?_eq_some_iff.1 q1).1))
          omega
        · omega
      have:=(Gc 0 sh.chain).2.1
      rw[←htl,h3] at this
      injection this with this
      rw[←this];exact h4
  intro fuel
  induction fuel with
  | zero=>
    intro listed a w hm hf
    have hr:Region.ready .any (es.map (·.o)).toArray listed=[]:=by
      rw[List.eq_nil_iff_forall_not_mem]
      intro i hi
      obtain ⟨r1,r2,_⟩:=Fr hi
      have r1:i<es.length:=by simpa using r1
      rw[Jy _ _ (by rw[hm.size];exact r1)] at r2
      have:i∈(List.range es.length).filter fun i=> !listed.getD i false:=by
        rw[List.mem_filter];exact ⟨List.mem_range.2 r1,by rw[r2];rfl⟩
      have:=List.length_pos_of_mem this
      omega
    exact ⟨hr,hstop listed a w hm hr⟩
  | succ fuel ih=>
    intro listed a w hm hf
    refine ⟨hstop listed a w hm,fun i hi=> ?_⟩
    obtain ⟨r1,r2,r3⟩:=Fr hi
    have r1':i<es.length:=by simpa using r1
    have hil:i<listed.size:=by rw[hm.size];exact r1'
    rw[Jy _ _ hil] at r2
    obtain ⟨e,hei⟩: ∃e,es[i]? =some e:=⟨_,List.getElem?_eq_getElem r1'⟩
    refine jeg hsp hst0 hok0 sh.chain sh.met hei (sh.fr i e hei) (sh.want i e hei) (sh.st i e hei) (sh.no i e hei) hm hi fun a' w' hm'=>ih _ _ _ hm' ?_
    have:((List.range es.length).filter fun j=> !(listed.setIfInBounds i true).getD j false).length<((List.range es.length).filter fun j=> !listed.getD j false).length:=by
          have e1:((List.range es.length).filter fun j=> !(listed.setIfInBounds i true).getD j false)=((List.range es.length).filter fun j=> !listed.getD j false).filter fun j=>j !=i:=by
            rw[List.filter_filter]
            apply List.filter_congr
            intro j _
            rw[Da _ _ _ hil]
            by_cases hji:j=i
            · subst hji;simp
            · simp[hji]
          rw[e1]
          have hmem:i∈(List.range es.length).filter fun j=> !listed.getD j false:=by
            rw[List.mem_filter];exact ⟨List.mem_range.2 r1',by rw[r2];rfl⟩
          exact List.length_filter_lt_length_iff_exists.2 ⟨i,hmem,by simp⟩
    omega
end
end
end Go.Proofs.YtljjbikbfeigdaaGreatDoor
namespace Go.Proofs.YtljjbikbfeigdaaGreatDoor
noncomputable section
open Go
structure Cg(ns:Nat)(na:Nat)(ρ ρ':Et):Prop where
  i: ∀k,k<ns→ρ'.i k=ρ.i k
  b: ∀k,k<ns→ρ'.b k=ρ.b k
  a: ∀k,k<ns→ρ'.a k=ρ.a k
  v: ∀k,k<ns→ρ'.v k=ρ.v k
  j: ∀k,k<ns→ρ'.j k=ρ.j k
  blk: ∀k,k<ns→ρ'.blk k=ρ.blk k
  off: ∀k,k<ns→ρ'.off k=ρ.off k
  vs: ∀k,k<ns→ρ'.vs k=ρ.vs k
  nb: ∀k,k<na→ρ'.nb k=ρ.nb k
  loose:ρ'.loose=ρ.loose
theorem Cg.rfl'(ns na:Nat)(ρ:Et):Cg ns na ρ ρ:=⟨fun _ _=>rfl,fun _ _=>rfl,fun _ _=>rfl,fun _ _=>rfl,fun _ _=>rfl,fun _ _=>rfl,fun _ _=>rfl,fun _ _=>rfl,fun _ _=>rfl,rfl⟩
theorem Cg.trans{ns ms:Nat}{na nc:Nat}{ρ ρ1 ρ2:Et}(h:Cg ns na ρ ρ1)(g:Cg ms nc ρ1 ρ2)(hm:ns≤ms)(hn:na≤nc):Cg ns na ρ ρ2:=
  ⟨fun k hk=>(g.i k (by omega)).trans (h.i k hk),fun k hk=>(g.b k (by omega)).trans (h.b k hk),fun k hk=>(g.a k (by omega)).trans (h.a k hk),fun k hk=>(g.v k (by omega)).trans (h.v k hk),
   fun k hk=>(g.j k (by omega)).trans (h.j k hk),fun k hk=>(g.blk k (by omega)).trans (h.blk k hk),fun k hk=>(g.off k (by omega)).trans (h.off k hk),fun k hk=>(g.vs k (by omega)).trans (h.vs k hk),
   fun k hk=>(g.nb k (by omega)).trans (h.nb k hk),g.loose.trans h.loose⟩
theorem Cg.weaken{ns ms:Nat}{na nc:Nat}{ρ ρ1:Et}(h:Cg ns na ρ ρ1)(hm:ms≤ns)(hn:nc≤na):Cg ms nc ρ ρ1:=
  ⟨fun k hk=>h.i k (by omega),fun k hk=>h.b k (by omega),fun k hk=>h.a k (by omega),fun k hk=>h.v k (by omega),fun k hk=>h.j k (by omega),fun k hk=>h.blk k (by omega),fun k hk=>h.off k (by omega),fun k hk=>h.vs k (by omega),fun k hk=>h.nb k (by omega),h.loose⟩
section
variable {S:Hw} {ρ ρ':Et} {ns:Nat} {na:Nat} {B:Nat}
theorem T.clear_den(hA:Cg ns na ρ ρ'){t:T}(hc:t.clear ns=true):t.I S ρ'=t.I S ρ∧t.B S ρ'=t.B S ρ∧t.A S ρ'=t.A S ρ:=by
  rw[T.clear_eq] at hc
  induction t with
  | lit q0=>exact ⟨rfl,rfl,rfl⟩
  | tt=>exact ⟨rfl,rfl,rfl⟩
  | ff=>exact ⟨rfl,rfl,rfl⟩
  | iv q0=>
    have hq:q0<ns:=Nat.le_of_ble_eq_true hc
    exact ⟨by simp only[T.I,hA.i q0 hq],by simp only[T.B],by simp only[T.A]⟩
  | bv q0=>
    have hq:q0<ns:=Nat.le_of_ble_eq_true hc
    exact ⟨by simp only[T.I],by simp only[T.B,hA.b q0 hq],by simp only[T.A]⟩
  | av q0=>
    have hq:q0<ns:=Nat.le_of_ble_eq_true hc
    exact ⟨by simp only[T.I],by simp only[T.B],by simp only[T.A,hA.a q0 hq]⟩
  | add a0 a1 h0 h1=>
    simp only[T.clearI,Bool.and_eq_true] at hc
    obtain ⟨c0,c1⟩:=hc
    obtain ⟨i0,b0,l0⟩:=h0 c0
    obtain ⟨i1,b1,l1⟩:=h1 c1
    refine ⟨?_,?_,?_⟩<;>simp only[T.I,T.B,T.A,i0,b0,l0,i1,b1,l1]
  | sub a0 a1 h0 h1=>
    simp only[T.clearI,Bool.and_eq_true] at hc
    obtain ⟨c0,c1⟩:=hc
    obtain ⟨i0,b0,l0⟩:=h0 c0
    obtain ⟨i1,b1,l1⟩:=h1 c1
    refine ⟨?_,?_,?_⟩<;>simp only[T.I,T.B,T.A,i0,b0,l0,i1,b1,l1]
  | mul a0 a1 h0 h1=>
    simp only[T.clearI,Bool.and_eq_true] at hc
    obtain ⟨c0,c1⟩:=hc
    obtain ⟨i0,b0,l0⟩:=h0 c0
    obtain ⟨i1,b1,l1⟩:=h1 c1
    refine ⟨?_,?_,?_⟩<;>simp only[T.I,T.B,T.A,i0,b0,l0,i1,b1,l1]
  | wrap q0 a0 h0=>
    simp only[T.clearI,Bool.and_eq_true] at hc
    have c0:=hc
    obtain ⟨i0,b0,l0⟩:=h0 c0
    refine ⟨?_,?_,?_⟩<;>simp only[T.I,T.B,T.A,i0,b0,l0]
  | tdiv a0 a1 h0 h1=>
    simp only[T.clearI,Bool.and_eq_true] at hc
    obtain ⟨c0,c1⟩:=hc
    obtain ⟨i0,b0,l0⟩:=h0 c0
    obtain ⟨i1,b1,l1⟩:=h1 c1
    refine ⟨?_,?_,?_⟩<;>simp only[T.I,T.B,T.A,i0,b0,l0,i1,b1,l1]
  | tmod a0 a1 h0 h1=>
    simp only[T.clearI,Bool.and_eq_true] at hc
    obtain ⟨c0,c1⟩:=hc
    obtain ⟨i0,b0,l0⟩:=h0 c0
    obtain ⟨i1,b1,l1⟩:=h1 c1
    refine ⟨?_,?_,?_⟩<;>simp only[T.I,T.B,T.A,i0,b0,l0,i1,b1,l1]
  | shl q0 a0 a1 h0 h1=>
    simp only[T.clearI,Bool.and_eq_true] at hc
    obtain ⟨c0,c1⟩:=hc
    obtain ⟨i0,b0,l0⟩:=h0 c0
    obtain ⟨i1,b1,l1⟩:=h1 c1
    refine ⟨?_,?_,?_⟩<;>simp only[T.I,T.B,T.A,i0,b0,l0,i1,b1,l1]
  | shr q0 a0 a1 h0 h1=>
    simp only[T.clearI,Bool.and_eq_true] at hc
    obtain ⟨c0,c1⟩:=hc
    obtain ⟨i0,b0,l0⟩:=h0 c0
    obtain ⟨i1,b1,l1⟩:=h1 c1
    refine ⟨?_,?_,?_⟩<;>simp only[T.I,T.B,T.A,i0,b0,l0,i1,b1,l1]
  | bits q0 q1 a0 a1 h0 h1=>
    simp only[T.clearI,Bool.and_eq_true] at hc
    obtain ⟨c0,c1⟩:=hc
    obtain ⟨i0,b0,l0⟩:=h0 c0
    obtain ⟨i1,b1,l1⟩:=h1 c1
    refine ⟨?_,?_,?_⟩<;>simp only[T.I,T.B,T.A,i0,b0,l0,i1,b1,l1]
  | mx a0 a1 h0 h1=>
    simp only[T.clearI,Bool.and_eq_true] at hc
    obtain ⟨c0,c1⟩:=hc
    obtain ⟨i0,b0,l0⟩:=h0 c0
    obtain ⟨i1,b1,l1⟩:=h1 c1
    refine ⟨?_,?_,?_⟩<;>simp only[T.I,T.B,T.A,i0,b0,l0,i1,b1,l1]
  | mn a0 a1 h0 h1=>
    simp only[T.clearI,Bool.and_eq_true] at hc
    obtain ⟨c0,c1⟩:=hc
    obtain ⟨i0,b0,l0⟩:=h0 c0
    obtain ⟨i1,b1,l1⟩:=h1 c1
    refine ⟨?_,?_,?_⟩<;>simp only[T.I,T.B,T.A,i0,b0,l0,i1,b1,l1]
  | eq a0 a1 h0 h1=>
    simp only[T.clearI,Bool.and_eq_true] at hc
    obtain ⟨c0,c1⟩:=hc
    obtain ⟨i0,b0,l0⟩:=h0 c0
    obtain ⟨i1,b1,l1⟩:=h1 c1
    refine ⟨?_,?_,?_⟩<;>simp only[T.I,T.B,T.A,i0,b0,l0,i1,b1,l1]
  | lt a0 a1 h0 h1=>
    simp only[T.clearI,Bool.and_eq_true] at hc
    obtain ⟨c0,c1⟩:=hc
    obtain ⟨i0,b0,l0⟩:=h0 c0
    obtain ⟨i1,b1,l1⟩:=h1 c1
    refine ⟨?_,?_,?_⟩<;>simp only[T.I,T.B,T.A,i0,b0,l0,i1,b1,l1]
  | le a0 a1 h0 h1=>
    simp only[T.clearI,Bool.and_eq_true] at hc
    obtain ⟨c0,c1⟩:=hc
    obtain ⟨i0,b0,l0⟩:=h0 c0
    obtain ⟨i1,b1,l1⟩:=h1 c1
    refine ⟨?_,?_,?_⟩<;>simp only[T.I,T.B,T.A,i0,b0,l0,i1,b1,l1]
  | beq a0 a1 h0 h1=>
    simp only[T.clearI,Bool.and_eq_true] at hc
    obtain ⟨c0,c1⟩:=hc
    obtain ⟨i0,b0,l0⟩:=h0 c0
    obtain ⟨i1,b1,l1⟩:=h1 c1
    refine ⟨?_,?_,?_⟩<;>simp only[T.I,T.B,T.A,i0,b0,l0,i1,b1,l1]
  | not a0 h0=>
    simp only[T.clearI,Bool.and_eq_true] at hc
    have c0:=hc
    obtain ⟨i0,b0,l0⟩:=h0 c0
    refine ⟨?_,?_,?_⟩<;>simp only[T.I,T.B,T.A,i0,b0,l0]
  | and a0 a1 h0 h1=>
    simp only[T.clearI,Bool.and_eq_true] at hc
    obtain ⟨c0,c1⟩:=hc
    obtain ⟨i0,b0,l0⟩:=h0 c0
    obtain ⟨i1,b1,l1⟩:=h1 c1
    refine ⟨?_,?_,?_⟩<;>simp only[T.I,T.B,T.A,i0,b0,l0,i1,b1,l1]
  | or a0 a1 h0 h1=>
    simp only[T.clearI,Bool.and_eq_true] at hc
    obtain ⟨c0,c1⟩:=hc
    obtain ⟨i0,b0,l0⟩:=h0 c0
    obtain ⟨i1,b1,l1⟩:=h1 c1
    refine ⟨?_,?_,?_⟩<;>simp only[T.I,T.B,T.A,i0,b0,l0,i1,b1,l1]
  | ite a0 a1 a2 h0 h1 h2=>
    simp only[T.clearI,Bool.and_eq_true] at hc
    obtain ⟨c0,c1,c2⟩:=hc
    obtain ⟨i0,b0,l0⟩:=h0 c0
    obtain ⟨i1,b1,l1⟩:=h1 c1
    obtain ⟨i2,b2,l2⟩:=h2 c2
    refine ⟨?_,?_,?_⟩<;>simp only[T.I,T.B,T.A,i0,b0,l0,i1,b1,l1,i2,b2,l2]
  | bite a0 a1 a2 h0 h1 h2=>
    simp only[T.clearI,Bool.and_eq_true] at hc
    obtain ⟨c0,c1,c2⟩:=hc
    obtain ⟨i0,b0,l0⟩:=h0 c0
    obtain ⟨i1,b1,l1⟩:=h1 c1
    obtain ⟨i2,b2,l2⟩:=h2 c2
    refine ⟨?_,?_,?_⟩<;>simp only[T.I,T.B,T.A,i0,b0,l0,i1,b1,l1,i2,b2,l2]
  | len a0 h0=>
    simp only[T.clearI,Bool.and_eq_true] at hc
    have c0:=hc
    obtain ⟨i0,b0,l0⟩:=h0 c0
    refine ⟨?_,?_,?_⟩<;>simp only[T.I,T.B,T.A,i0,b0,l0]
  | get a0 a1 h0 h1=>
    simp only[T.clearI,Bool.and_eq_true] at hc
    obtain ⟨c0,c1⟩:=hc
    obtain ⟨i0,b0,l0⟩:=h0 c0
    obtain ⟨i1,b1,l1⟩:=h1 c1
    refine ⟨?_,?_,?_⟩<;>simp only[T.I,T.B,T.A,i0,b0,l0,i1,b1,l1]
  | set a0 a1 a2 h0 h1 h2=>
    simp only[T.clearI,Bool.and_eq_true] at hc
    obtain ⟨c0,c1,c2⟩:=hc
    obtain ⟨i0,b0,l0⟩:=h0 c0
    obtain ⟨i1,b1,l1⟩:=h1 c1
    obtain ⟨i2,b2,l2⟩:=h2 c2
    refine ⟨?_,?_,?_⟩<;>simp only[T.I,T.B,T.A,i0,b0,l0,i1,b1,l1,i2,b2,l2]
  | rep a0 a1 h0 h1=>
    simp only[T.clearI,Bool.and_eq_true] at hc
    obtain ⟨c0,c1⟩:=hc
    obtain ⟨i0,b0,l0⟩:=h0 c0
    obtain ⟨i1,b1,l1⟩:=h1 c1
    refine ⟨?_,?_,?_⟩<;>simp only[T.I,T.B,T.A,i0,b0,l0,i1,b1,l1]
  | cut a0 a1 a2 h0 h1 h2=>
    simp only[T.clearI,Bool.and_eq_true] at hc
    obtain ⟨c0,c1,c2⟩:=hc
    obtain ⟨i0,b0,l0⟩:=h0 c0
    obtain ⟨i1,b1,l1⟩:=h1 c1
    obtain ⟨i2,b2,l2⟩:=h2 c2
    refine ⟨?_,?_,?_⟩<;>simp only[T.I,T.B,T.A,i0,b0,l0,i1,b1,l1,i2,b2,l2]
  | alit q0=>exact ⟨rfl,rfl,rfl⟩
  | splice a0 a1 a2 h0 h1 h2=>
    simp only[T.clearI,Bool.and_eq_true] at hc
    obtain ⟨c0,c1,c2⟩:=hc
    obtain ⟨i0,b0,l0⟩:=h0 c0
    obtain ⟨i1,b1,l1⟩:=h1 c1
    obtain ⟨i2,b2,l2⟩:=h2 c2
    refine ⟨?_,?_,?_⟩<;>simp only[T.I,T.B,T.A,i0,b0,l0,i1,b1,l1,i2,b2,l2]
  | aeq a0 a1 h0 h1=>
    simp only[T.clearI,Bool.and_eq_true] at hc
    obtain ⟨c0,c1⟩:=hc
    obtain ⟨i0,b0,l0⟩:=h0 c0
    obtain ⟨i1,b1,l1⟩:=h1 c1
    refine ⟨?_,?_,?_⟩<;>simp only[T.I,T.B,T.A,i0,b0,l0,i1,b1,l1]
  | fi q0 a0 a1 a2 a3 a4 a5 a6 a7 h0 h1 h2 h3 h4 h5 h6 h7=>
    simp only[T.clearI,Bool.and_eq_true] at hc
    obtain ⟨c0,c1,c2,c3,c4,c5,c6,c7⟩:=hc
    obtain ⟨i0,b0,l0⟩:=h0 c0
    obtain ⟨i1,b1,l1⟩:=h1 c1
    obtain ⟨i2,b2,l2⟩:=h2 c2
    obtain ⟨i3,b3,l3⟩:=h3 c3
    obtain ⟨i4,b4,l4⟩:=h4 c4
    obtain ⟨i5,b5,l5⟩:=h5 c5
    obtain ⟨i6,b6,l6⟩:=h6 c6
    obtain ⟨i7,b7,l7⟩:=h7 c7
    refine ⟨?_,?_,?_⟩<;>simp only[T.I,T.B,T.A,i0,b0,l0,i1,b1,l1,i2,b2,l2,i3,b3,l3,i4,b4,l4,i5,b5,l5,i6,b6,l6,i7,b7,l7]
  | fb q0 a0 a1 a2 a3 a4 a5 a6 a7 h0 h1 h2 h3 h4 h5 h6 h7=>
    simp only[T.clearI,Bool.and_eq_true] at hc
    obtain ⟨c0,c1,c2,c3,c4,c5,c6,c7⟩:=hc
    obtain ⟨i0,b0,l0⟩:=h0 c0
    obtain ⟨i1,b1,l1⟩:=h1 c1
    obtain ⟨i2,b2,l2⟩:=h2 c2
    obtain ⟨i3,b3,l3⟩:=h3 c3
    obtain ⟨i4,b4,l4⟩:=h4 c4
    obtain ⟨i5,b5,l5⟩:=h5 c5
    obtain ⟨i6,b6,l6⟩:=h6 c6
    obtain ⟨i7,b7,l7⟩:=h7 c7
    refine ⟨?_,?_,?_⟩<;>simp only[T.I,T.B,T.A,i0,b0,l0,i1,b1,l1,i2,b2,l2,i3,b3,l3,i4,b4,l4,i5,b5,l5,i6,b6,l6,i7,b7,l7]
  | fa q0 a0 a1 a2 a3 a4 a5 a6 a7 h0 h1 h2 h3 h4 h5 h6 h7=>
    simp only[T.clearI,Bool.and_eq_true] at hc
    obtain ⟨c0,c1,c2,c3,c4,c5,c6,c7⟩:=hc
    obtain ⟨i0,b0,l0⟩:=h0 c0
    obtain ⟨i1,b1,l1⟩:=h1 c1
    obtain ⟨i2,b2,l2⟩:=h2 c2
    obtain ⟨i3,b3,l3⟩:=h3 c3
    obtain ⟨i4,b4,l4⟩:=h4 c4
    obtain ⟨i5,b5,l5⟩:=h5 c5
    obtain ⟨i6,b6,l6⟩:=h6 c6
    obtain ⟨i7,b7,l7⟩:=h7 c7
    refine ⟨?_,?_,?_⟩<;>simp only[T.I,T.B,T.A,i0,b0,l0,i1,b1,l1,i2,b2,l2,i3,b3,l3,i4,b4,l4,i5,b5,l5,i6,b6,l6,i7,b7,l7]
theorem Cl.clear_den(hA:Cg ns na ρ ρ'){r:Cl}(hc:r.clear ns na=true):r.blk ρ' B=r.blk ρ B∧r.off ρ'=r.off ρ:=by
  cases r with
  | old n=>
    simp only[Cl.clear] at hc
    exact ⟨hA.blk n (Nat.le_of_ble_eq_true hc),rfl⟩
  | new k=>
    simp only[Cl.clear] at hc
    have:=Nat.le_of_ble_eq_true hc
    exact ⟨by simp only[Cl.blk,hA.nb k this],rfl⟩
  | glob g=>exact ⟨rfl,rfl⟩
  | ro n=>
    simp only[Cl.clear] at hc
    exact ⟨hA.blk n (Nat.le_of_ble_eq_true hc),hA.off n (Nat.le_of_ble_eq_true hc)⟩
  | own n=>
    simp only[Cl.clear] at hc
    exact ⟨by simp only[Cl.blk,hA.blk n (Nat.le_of_ble_eq_true hc)],rfl⟩
theorem Aw.clear_den(hA:Cg ns na ρ ρ'): ∀{l:Aw},l.clear ns na=true→l.den S ρ' B=l.den S ρ B
  | .int k t,hc=>by simp only[Aw.den,(T.clear_den (S:=S) hA (t:=t) hc).1]
  | .bool t,hc=>by simp only[Aw.den,(T.clear_den (S:=S) hA (t:=t) hc).2.1]
  | .ptr r s d,hc=>by
    simp only[Aw.clear,Bool.and_eq_true] at hc
    simp only[Aw.den,Cw,(Cl.clear_den hA hc.1).1,(Cl.clear_den hA (B:=B) hc.1).2,(T.clear_den (S:=S) hA hc.2).1]
  | .sl r s d n c,hc=>by
    simp only[Aw.clear,Bool.and_eq_true] at hc
    simp only[Aw.den,Cw,(Cl.clear_den hA hc.1).1,(Cl.clear_den hA (B:=B) hc.1).2,(T.clear_den (S:=S) hA hc.2.1).1,(T.clear_den (S:=S) hA hc.2.2.1).1,(T.clear_den (S:=S) hA hc.2.2.2).1]
  | .nilp,_=>rfl
  | .nils,_=>rfl
  | .nilI,_=>rfl
  | .str _,_=>rfl
  | .fn _,_=>rfl
  | .iface t x,hc=>by simp only[Aw.den];rw[Aw.clear_den hA (l:=x) hc]
  | .undef,_=>rfl
  | .junk n,hc=>by
    simp only[Aw.clear] at hc
    exact hA.j n (Nat.le_of_ble_eq_true hc)
  | .val n,hc=>by
    simp only[Aw.clear] at hc
    exact hA.v n (Nat.le_of_ble_eq_true hc)
theorem Cp.clear_den(hA:Cg ns na ρ ρ'){g:Cp}(hc:g.clear ns na=true):g.den S ρ' B=g.den S ρ B∧(g.wf S ρ'↔g.wf S ρ):=by
  cases g with
  | cells l=>
    simp only[Cp.clear,List.all_eq_true] at hc
    exact ⟨List.map_congr_left fun x hx=>Aw.clear_den hA (hc x hx),Iff.rfl⟩
  | arr k a n=>
    have:=(T.clear_den (S:=S) hA (t:=a) hc).2.2
    exact ⟨by simp only[Cp.den,this],by simp only[Cp.wf,this]⟩
  | arrD k a=>
    have:=(T.clear_den (S:=S) hA (t:=a) hc).2.2
    exact ⟨by simp only[Cp.den,this],Iff.rfl⟩
  | bar a n=>
    have:=(T.clear_den (S:=S) hA (t:=a) hc).2.2
    exact ⟨by simp only[Cp.den,this],by simp only[Cp.wf,this]⟩
  | junk n=>
    simp only[Cp.clear] at hc
    exact ⟨hA.vs n (Nat.le_of_ble_eq_true hc),Iff.rfl⟩
  | tail z n=>
    simp only[Cp.clear,Bool.and_eq_true,List.all_eq_true] at hc
    refine ⟨?_,Iff.rfl⟩
    simp only[Cp.den,(T.clear_den (S:=S) hA hc.2).1]
    rw[List.map_congr_left fun x hx=>Aw.clear_den (S:=S) (B:=B) hA (hc.1 x hx)]
theorem Dv(hA:Cg ns na ρ ρ'){l:List Cp}(hc:l.all (Cp.clear ns na)=true):Av S ρ' B l=Av S ρ B l∧(Cm S ρ l→Cm S ρ' l):=by
  rw[List.all_eq_true] at hc
  constructor
  · unfold Av
    induction l with
    | nil=>rfl
    | cons g l ih=>
      simp only[List.flatMap_cons]
      rw[(Cp.clear_den hA (hc g (by simp))).1,ih fun x hx=>hc x (by simp[hx])]
  · intro h g hg
    exact (Cp.clear_den (B:=B) hA (hc g hg)).2.2 (h g hg)
theorem SV.clear_den(hA:Cg ns na ρ ρ'){x:SV}(hc:x.clear ns na=true):x.den S ρ' B=x.den S ρ B∧(x.wf S ρ→x.wf S ρ'):=by
  cases x with
  | one l=>exact ⟨Aw.clear_den hA hc,fun h=>h⟩
  | agg g=>exact ⟨by simp only[SV.den,(Dv (S:=S) (B:=B) hA hc).1],(Dv (S:=S) (B:=B) hA hc).2⟩
theorem SR.clear_den(hA:Cg ns na ρ ρ'): ∀{x:SR},x.clear ns na=true→x.den S ρ' B=x.den S ρ B∧(x.wf S ρ→x.wf S ρ')
  | .v x,hc=>SV.clear_den hA hc
  | .tup l,hc=>by
    simp only[SR.clear,List.all_eq_true] at hc
    refine ⟨?_,fun h y hy=>(SV.clear_den (B:=B) hA (hc y hy)).2 (h y hy)⟩
    simp only[SR.den]
    rw[List.map_congr_left fun y hy=>(SV.clear_den (S:=S) (B:=B) hA (hc y hy)).1]
  | .ite c x y,hc=>by
    simp only[SR.clear,Bool.and_eq_true] at hc
    obtain ⟨c1,c2,c3⟩:=hc
    have h1:=(T.clear_den (S:=S) hA c1).2.1
    have h2:=SR.clear_den hA (x:=x) c2
    have h3:=SR.clear_den hA (x:=y) c3
    refine ⟨by simp only[SR.den,h1,h2.1,h3.1],fun h=>⟨fun hb=>h2.2 (h.1 (h1▸hb)),fun hb=>h3.2 (h.2 (h1▸hb))⟩⟩
theorem Ot(hA:Cg ns na ρ ρ'){l:List T}(hc:l.all (T.clear ns)=true)(h:Dx S ρ l):Dx S ρ' l:=by
  rw[List.all_eq_true] at hc
  intro t ht
  rw[(T.clear_den (S:=S) hA (hc t ht)).2.1];exact h t ht
end
end
end Go.Proofs.YtljjbikbfeigdaaGreatDoor
