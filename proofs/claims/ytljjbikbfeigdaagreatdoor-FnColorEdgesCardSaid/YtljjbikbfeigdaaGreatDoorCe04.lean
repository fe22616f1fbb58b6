/- Part of the proof of FnColorEdgesCardSaid: One operation of a walk, carried out on symbolic values, is that operation of the program: all operations. -/
import Derived.Test.YtljjbikbfeigdaaGreatDoorCe03
import Derived.Orders
import Derived.Laws.AppendOwn
set_option linter.all false
namespace Go.Proofs.YtljjbikbfeigdaaGreatDoor
noncomputable section
open Go
section
variable {S:Hw} {ρ:Et} {w0 w:World} {h:Hp} {P:Program} {B:Nat}
def j68(P:Program)(S:Hw)(ρ:Et)(w0:World)(a:Act)(w:World)(o:Oper)(r:Sb):Prop:=
  r.val.wf S ρ∧ ∀(K:Act→World→Prop) (Q:Exit→Act→World→Prop),(∀w',Cv S ρ w0 r.heap w'→K (a.put o.dst (r.val.den S ρ w0.heap.size)) w')→o.wp P a w K Q
theorem j68.of_yields{a:Act}{o:Oper}{r:Sb}{w':World}(hw:r.val.wf S ρ)(hy:jrg P a w o (r.val.den S ρ w0.heap.size) w')(hh:Cv S ρ w0 r.heap w'):j68 P S ρ w0 a w o r:=
  ⟨hw,fun _ _ hK=>hy.wp (hK w' hh)⟩
theorem Cz{a:Act}{o:Oper}{x:SR}{c:List T}(hh:Cv S ρ w0 h w)(hw:x.wf S ρ)(hy:(execOp a.eval o).run P w=.ok (.value (x.den S ρ w0.heap.size)) w):j68 P S ρ w0 a w o ⟨c,x,h⟩:=
  .of_yields hw (.inl hy) hh
theorem jtk(g:List Cp):(SV.agg g).den S ρ B=.agg (Av S ρ B g).toArray:=rfl
theorem jt7(l:List UInt8):(ByteArray.mk l.toArray).size=l.length:=by simp[ByteArray.size]
theorem qbl(l:List UInt8)(i:Nat)(h:i<l.length):(ByteArray.mk l.toArray)[i]? =some (l[i]):=by
  rw[getElem?_pos _ _ (by rw[jt7];exact h)];rfl
theorem jf4{l:List String}(h:Instr.least l=none):l=[]:=by
  cases l with
  | nil=>rfl
  | cons a l=>simp[Instr.least] at h
theorem jqr{want:Array (String×TypeId)}{got:Array Method}(h:jm7 want got=none):Instr.missingMethod want got=none:=by
  unfold jm7 at h
  split at h
  · rename_i he
    unfold Instr.missingMethod
    simp only[he]
    rfl
  · cases h
theorem jq2{want:Array (String×TypeId)}{got:Array Method}{u:Unit}(h:jm7 want got=some u): ∃s,Instr.missingMethod want got=some s:=by
  unfold jm7 at h
  split at h
  · cases h
  · rename_i x l he
    unfold Instr.missingMethod
    simp only[he,List.map_cons,List.partition_eq_filter_filter]
    cases h1:Instr.least ((x.1::l.map (·.1)).filter (not∘(·.contains (Char.ofNat 46)))) with
    | some s=>exact ⟨s,by simp[h1]⟩
    | none=>
      have n1:=jf4 h1
      cases h2:Instr.least (((x.1::l.map (·.1)).filter (·.contains (Char.ofNat 46))).map fun id=>(id.splitOn ".").getLastD id) with
      | some s=>exact ⟨s,by simp[h1,h2]⟩
      | none=>
        have n2:=jf4 h2
        rw[List.map_eq_nil_iff] at n2
        by_cases hc:(x.1.contains (Char.ofNat 46))=true
        · rw[List.filter_cons_of_pos (p:=fun (s:String)=>s.contains (Char.ofNat 46)) hc] at n2;cases n2
        · rw[List.filter_cons_of_pos (p:=not∘fun (s:String)=>s.contains (Char.ofNat 46)) (by show (!x.1.contains (Char.ofNat 46))=true;rw[Bool.eq_false_iff.2 hc];rfl)] at n1;cases n1
set_option maxHeartbeats 4000000 in
theorem Sl{specs:Nat→Option Ec}(hsp: ∀f s,specs f=some s→Ei P S f s){fr:Nat→SR}{o:Oper}{r:Sb}{a:Act}(hs:Gx P specs fr h o=some r)(hm:Dx S ρ r.need)
    (hf: ∀t,(fr t).wf S ρ)(ha:Pq S ρ w0.heap.size fr a o.op.operands)(hh:Cv S ρ w0 h w):j68 P S ρ w0 a w o r:=by
  obtain ⟨dst,op,type,pos,after,guard⟩:=o
  cases op with
  | move x=>
    simp only[Gx,jfo] at hs
    cases hx:Ua fr x with
    | none=>simp[hx] at hs
    | some v=>
      simp[hx] at hs;subst hs
      exact Cz hh (Nu hf hx) (by simp[execOp,Hx ha (by simp[Op.operands]) hx])
  | assign x=>
    simp only[Gx,jfo] at hs
    cases hx:Ua fr x with
    | none=>simp[hx] at hs
    | some v=>
      simp[hx] at hs;subst hs
      exact Cz hh (Nu hf hx) (by simp[execOp,Hx ha (by simp[Op.operands]) hx])
  | pick c x y=>
    simp only[Gx,jrd] at hs
    split at hs
    · rename_i t tx ty hc hx hy
      simp only[Dt,Option.some.injEq] at hs;subst hs
      refine Cz hh trivial ?_
      have e1:=Dp ha (x:=c) (by simp[Op.operands]) hc
      have e2:=Dp ha (x:=x) (by simp[Op.operands]) hx
      have e3:=Dp ha (x:=y) (by simp[Op.operands]) hy
      simp only[execOp,e1,e2,e3,Aw.den,asBool,Sem.run_bind,Sem.run_pure,Result.andThen_ok,jgb,SR.den,SV.den,jof]
      cases t.B S ρ<;>simp
    · rename_i l _ hc hx _
      simp only[Dt,Option.some.injEq] at hs;subst hs
      refine Cz hh trivial ?_
      have e1:=Dp ha (x:=c) (by simp[Op.operands]) hc
      have e2:=Dp ha (x:=x) (by simp[Op.operands]) hx
      simp only[execOp,e1,e2,Aw.den,asBool,Sem.run_bind,Sem.run_pure,Result.andThen_ok,Aw.sr,SR.den,SV.den,T.B,if_true]
    · rename_i _ l hc hy _
      simp only[Dt,Option.some.injEq] at hs;subst hs
      refine Cz hh trivial ?_
      have e1:=Dp ha (x:=c) (by simp[Op.operands]) hc
      have e2:=Dp ha (x:=y) (by simp[Op.operands]) hy
      simp only[execOp,e1,e2,Aw.den,asBool,Sem.run_bind,Sem.run_pure,Result.andThen_ok,Aw.sr,SR.den,SV.den,T.B,Bool.false_eq_true,if_false]
    · cases hs
    · cases hs
    · cases hs
  | alloc t=>
    simp only[Gx,jl1] at hs
    split at hs
    · rename_i g hz
      simp only[Dt,Option.some.injEq] at hs;subst hs
      obtain ⟨h1,h2⟩:=jxr (P:=P) hh hz
      exact .of_yields trivial (.inl (by simp only[execOp,Sem.run_bind,h1,Result.andThen_ok,Sem.run_pure,SR.den,SV.den])) h2
    · cases hs
  | box t x=>
    simp only[Gx,j09] at hs
    split at hs
    · rename_i v hx
      split at hs
      · rename_i hp
        simp only[Dt,Option.some.injEq] at hs;subst hs
        have hw:v.wf S ρ:=Nu hf hx
        obtain ⟨h1,h2⟩:=qbq (P:=P) hh (t:=t) hw hp
        have e1:=Hx ha (x:=x) (by simp[Op.operands]) hx
        simp only[SR.den] at e1
        exact .of_yields trivial (.inl (by simp only[execOp,e1,Sem.run_bind,h1,Result.andThen_ok,Sem.run_pure];rfl)) h2
      · cases hs
    · cases hs
  | build t parts=>
    simp only[Gx,jjq] at hs
    have hmem: ∀x∈parts.toList,x.2∈(Op.build t parts).operands:=fun x hx=>by
      simp only[Op.operands,List.mem_toArray,List.mem_map];exact ⟨x,hx,rfl⟩
    have hrun: ∀{ps:List (Nat×SR)} {cells:Array Value},parts.toList.mapM (fun (i,x)=>(Ua fr x).map fun v=>(i,v))=some ps→P.built t (ps.map fun p=>(p.1,p.2.den S ρ w0.heap.size))=some cells→
        (Instr.build t (parts.map fun (i,x)=>(i,a.eval x))).run P w=.ok (.agg cells) w:=by
      intro ps cells hp hb
      apply run_build
      rw[Array.toList_map,(Oq hf ha hmem hp).1];exact hb
    split at hs
    · rename_i ps fs z hp hu hz
      split at hs
      · rename_i places hpl
        split at hs
        · rename_i c g hfill
          simp only[Dt,Option.some.injEq] at hs;subst hs
          obtain ⟨i,zv,hi,hzz,hd,hzw⟩:=Kj (S:=S) (ρ:=ρ) (B:=w0.heap.size) hz
          obtain ⟨h1,h2⟩:=jda (S:=S) (ρ:=ρ) (B:=w0.heap.size) _ hzw (Oq hf ha hmem hp).2 hfill
          obtain ⟨h3,h4⟩:=Ew (S:=S) (ρ:=ρ) (B:=w0.heap.size) g
          refine Cz hh (h4 h2) ?_
          have:=hrun hp (cells:=(Av S ρ w0.heap.size g).toArray) (by
            unfold Program.built
            simp only[hi,hu,hzz,hpl]
            rw[←h1,hd])
          simp only[execOp,Sem.run_bind,this,Result.andThen_ok,Sem.run_pure,SR.den,SV.den,h3]
        · cases hs
      · cases hs
    · rename_i ps n e z hp hu hz
      split at hs
      · rename_i m cs hm' hcs
        split at hs
        · rename_i c g hfill
          simp only[Dt,Option.some.injEq] at hs;subst hs
          obtain ⟨i,zv,hi,hzz,hd,hzw⟩:=Kj (S:=S) (ρ:=ρ) (B:=w0.heap.size) hz
          have hcd:Av S ρ w0.heap.size [.cells cs]=zv.cells.toList:=by
            rw[←hd,(Ml (S:=S) (ρ:=ρ) (B:=w0.heap.size) hcs).1];simp[Au,Cj,Cp.den]
          obtain ⟨h1,h2⟩:=jda (S:=S) (ρ:=ρ) (B:=w0.heap.size) _ (g:=[.cells cs]) (fun g hg=>by simp at hg;subst hg;trivial) (Oq hf ha hmem hp).2 hfill
          obtain ⟨h3,h4⟩:=Ew (S:=S) (ρ:=ρ) (B:=w0.heap.size) g
          obtain ⟨h5,h6⟩:=ja0 (S:=S) (ρ:=ρ) (B:=w0.heap.size) (Dn g) (h4 h2)
          refine Cz hh h6 ?_
          unfold Kf at hm'
          cases hie:P.info? e with
          | none=>simp[hie] at hm'
          | some ie=>
            simp[hie] at hm'
            have:=hrun hp (cells:=(Av S ρ w0.heap.size g).toArray) (by
              unfold Program.built
              simp only[hi,hu,hzz,hie,hm']
              rw[←h1,hcd])
            simp only[execOp,Sem.run_bind,this,Result.andThen_ok,Sem.run_pure,SR.den,SV.den,h5,h3]
        · cases hs
      · cases hs
    · cases hs
  | buildSlice t len parts=>
    simp only[Gx,So] at hs
    have hmem: ∀x∈parts.toList,x.2∈(Op.buildSlice t len parts).operands:=fun x hx=>by
      simp only[Op.operands,List.mem_toArray,List.mem_map];exact ⟨x,hx,rfl⟩
    split at hs
    · rename_i ps e hp hu
      split at hs
      · rename_i n z hn hz
        split at hs
        · rename_i cs hcs
          split at hs
          · rename_i hlen
            split at hs
            · rename_i c g hfill
              simp only[Dt,Option.some.injEq] at hs;subst hs
              obtain ⟨i,zv,hi,hzz,hd,hzw⟩:=Kj (S:=S) (ρ:=ρ) (B:=w0.heap.size) hz
              obtain ⟨h1,h2⟩:=jda (S:=S) (ρ:=ρ) (B:=w0.heap.size) _ (g:=[.cells (List.replicate len cs).flatten]) (fun g hg=>by simp at hg;subst hg;trivial) (Oq hf ha hmem hp).2 hfill
              obtain ⟨h3,h4⟩:=Ew (S:=S) (ρ:=ρ) (B:=w0.heap.size) g
              obtain ⟨h5,h6⟩:=ja0 (S:=S) (ρ:=ρ) (B:=w0.heap.size) (Dn g) (h4 h2)
              have hcd:Av S ρ w0.heap.size [.cells (List.replicate len cs).flatten]=((Array.range (len*n)).map (zv.cells[· % zv.cells.size]!)).toList:=by
                have hz2:zv.cells.toList=cs.map (Aw.den S ρ w0.heap.size):=by rw[←hd];exact (Ml (S:=S) (ρ:=ρ) (B:=w0.heap.size) hcs).1
                rw[Ux zv.cells n len (by rw[←Array.length_toList,hz2];simp[hlen.2.2]) (Nat.pos_of_mul_pos_left hlen.2.1),hz2]
                simp[Au,Cj,Cp.den,List.map_flatten]
              rw[hcd] at h1
              refine .of_yields trivial (.inl ?_) (hh.push e h6)
              have h7:(parts.map fun (i,x)=>(i,a.eval x)).toList=ps.map fun p=>(p.1,p.2.den S ρ w0.heap.size):=by
                rw[Array.toList_map];exact (Oq hf ha hmem hp).1
              have hsz:=Ha (w:=w) hn
              have hl0: ¬(16777216<len*n):=by omega
              have hl1: ¬(len*n=0):=by omega
              have h8:Instr.fill (fun i=>some (i*n,n)) ((Array.range (len*n)).map (zv.cells[· % zv.cells.size]!)) (parts.map fun (i,x)=>(i,a.eval x)).toList=some (Av S ρ w0.heap.size g).toArray:=by
                rw[h7,←h1]
              simp only[execOp,Instr.buildSlice,Sem.run_bind,run_underlying hu,Result.andThen_ok,hsz,Sem.run_ite,gt_iff_lt,Nat.reducePow,hl0,hl1,if_false,zeroValue,typeInfo,program,Sem.run,hi,hzz,Sem.run_pure,h8]
              simp[newRow,newObj,Sem.run,SR.den,SV.den,Aw.den,Uo hh,T.I,h5,h3]
            · cases hs
          · cases hs
        · cases hs
      · cases hs
    · cases hs
  | load t x=>
    simp only[Gx,jpz] at hs
    split at hs
    · rename_i p hx
      split at hs
      · rename_i hu
        cases hl:jnv P t p h with
        | none=>simp[hl] at hs
        | some cv=>
          simp[hl] at hs;subst hs
          obtain ⟨h1,h2⟩:=jlb hh (Option.isSome_iff_exists.1 hu) hl hm
          refine Cz hh h2 ?_
          simp only[execOp,Dp ha (x:=x) (by simp[Op.operands]) hx,Sem.run_bind,h1,Result.andThen_ok,Sem.run_pure,SR.den]
      · cases hs
    · cases hs
  | store t x y=>
    simp only[Gx,jkq] at hs
    split at hs
    · rename_i p v hx hy
      cases hl:jk0 P t p v h with
      | none=>simp[hl] at hs
      | some cv=>
        simp[hl] at hs;subst hs
        have hw:v.wf S ρ:=Nu hf hy
        obtain ⟨w',h1,h2⟩:=jyo (P:=P) hh hl hw hm
        have e2:=Hx ha (x:=y) (by simp[Op.operands]) hy
        simp only[SR.den] at e2
        refine .of_yields trivial (.inr ⟨?_,rfl⟩) h2
        simp only[execOp,Dp ha (x:=x) (by simp[Op.operands]) hx,e2,Sem.run_bind,h1,Result.andThen_ok,Sem.run_pure]
    · cases hs
  | nilCheck x=>
    simp only[Gx,Yv] at hs
    split at hs
    · rename_i r' s d hx
      simp only[Dt,Option.some.injEq] at hs;subst hs
      refine Cz hh trivial ?_
      have e1:=Hx ha (x:=x) (by simp[Op.operands]) hx
      simp only[execOp,e1,SR.den,SV.den,Aw.den,Sem.run_pure]
    · rename_i ti l hx
      simp only[Dt,Option.some.injEq] at hs;subst hs
      refine Cz hh trivial ?_
      have e1:=Hx ha (x:=x) (by simp[Op.operands]) hx
      simp only[execOp,e1,SR.den,SV.den,Aw.den,Sem.run_pure]
    · cases hs
  | binOp op t x y yt=>
    simp only[Gx,jk9] at hs
    split at hs
    · rename_i p q hx hy
      split at hs
      · rename_i ht
        cases hl:j4s op p q (Kx x) (Kx y) with
        | none=>simp[hl] at hs
        | some cv=>
          simp[hl] at hs;subst hs
          refine Cz hh trivial ?_
          have h1:=qdv (w:=w) (B:=w0.heap.size) ht hl hm
          simp only[Sem.run_bind] at h1
          simp only[execOp,Dp ha (x:=x) (by simp[Op.operands]) hx,Dp ha (x:=y) (by simp[Op.operands]) hy,Sem.run_bind,h1,Result.andThen_ok,Sem.run_pure,Aw.sr,SR.den,SV.den]
      · cases hs
    · split at hs
      · rename_i b hb
        simp only[Dt,Option.some.injEq] at hs;subst hs
        refine Cz hh trivial ?_
        unfold jyh at hb
        split at hb
        · rename_i k a m k' b' m' n e hx hy hu
          have wx:Cm S ρ [.arr k a m]:=Nu hf hx
          have wy:Cm S ρ [.arr k' b' m']:=Nu hf hy
          have lx:(a.A S ρ).length=m:=wx (.arr k a m) (by simp)
          have ly:(b'.A S ρ).length=m':=wy (.arr k' b' m') (by simp)
          have ex:=Hx ha (x:=x) (by simp[Op.operands]) hx
          have ey:=Hx ha (x:=y) (by simp[Op.operands]) hy
          simp only[SR.den,SV.den,Au,Cj,List.append_nil,Cp.den] at ex ey
          split at hb
          · rename_i q he
            split at hb
            · rename_i hc
              obtain ⟨rfl,rfl,rfl,hsz⟩:=hc
              cases hb
              have h1:=Vb (k:=k) hu he hsz w (a.A S ρ) (b'.A S ρ) lx ly
              simp only[execOp,ex,ey,Sem.run_bind,Zt hu he,binOp,h1,Result.andThen_ok,Sem.run_pure,jgb,SR.den,SV.den,Aw.den,T.B,leq]
            · cases hb
          · rename_i q he
            split at hb
            · rename_i hc
              obtain ⟨rfl,rfl,rfl,hsz⟩:=hc
              cases hb
              have h1:=Vb (k:=k) hu he hsz w (a.A S ρ) (b'.A S ρ) lx ly
              simp only[execOp,ex,ey,Sem.run_bind,Zt hu he,binOp,h1,Result.andThen_ok,Sem.run_pure,jgb,SR.den,SV.den,Aw.den,T.B,leq]
            · cases hb
          · cases hb
        · cases hb
      · cases hs
    · cases hs
  | unOp op t x=>
    simp only[Gx,jqh] at hs
    split at hs
    · rename_i k b hx
      rw[Option.map_eq_some_iff] at hs
      obtain ⟨⟨c,l⟩,hs,rfl⟩:=hs
      obtain ⟨_,u,rfl,hu⟩:=jj9 hs hm
      refine Cz hh trivial ?_
      simp only[execOp,Dp ha (x:=x) (by simp[Op.operands]) hx,Aw.den,Op.unary,Op.intArith,Sem.run_bind,Sem.run_pure,Result.andThen_ok,Aw.sr,SR.den,SV.den,hu,jdy,T.I]
    · rename_i k b hx
      simp only[Dt,Option.some.injEq] at hs;subst hs
      refine Cz hh trivial ?_
      simp only[execOp,Dp ha (x:=x) (by simp[Op.operands]) hx,Aw.den,Op.unary,Op.intBits,Sem.run_bind,Sem.run_pure,Result.andThen_ok,Tq,SR.den,SV.den,Tz,T.I,Dj]
    · rename_i b hx
      simp only[Dt,Option.some.injEq] at hs;subst hs
      refine Cz hh trivial ?_
      simp only[execOp,Dp ha (x:=x) (by simp[Op.operands]) hx,Aw.den,Op.unary,Sem.run_bind,Sem.run_pure,Result.andThen_ok,jgb,SR.den,SV.den,Qe]
    · cases hs
  | convert src dst x=>
    simp only[Gx,jbg] at hs
    split at hs
    · rename_i d k k' b hsr hd hx
      rw[Option.map_eq_some_iff] at hs
      obtain ⟨⟨c,l⟩,hs,rfl⟩:=hs
      obtain ⟨_,u,rfl,hu⟩:=jj9 hs hm
      refine Cz hh trivial ?_
      simp[execOp,Dp ha (x:=x) (by simp[Op.operands]) hx,Aw.den,convert,run_underlying hsr,run_underlying hd,Conv.intToInt,Aw.sr,SR.den,SV.den,hu]
    · cases hs
  | makeInterface t x=>
    simp only[Gx,Ob] at hs
    split at hs
    · cases hs
    · rename_i d l hne hd hx
      simp only[Dt,Option.some.injEq] at hs;subst hs
      refine Cz hh trivial ?_
      simp only[execOp,Dp ha (x:=x) (by simp[Op.operands]) hx,Instr.makeInterface,Sem.run_bind,run_underlying hd,Result.andThen_ok]
      cases d<;>first|(exfalso;exact hne _ _ rfl)|simp[SR.den,SV.den,Aw.den]
    · cases hs
  | makeSlice t l c=>
    simp only[Gx,Vp] at hs
    split at hs
    · rename_i e kl n kc m hu hl hc
      have el:=Dp ha (x:=l) (by simp[Op.operands]) hl
      have ec:=Dp ha (x:=c) (by simp[Op.operands]) hc
      split at hs
      · rename_i i k hi hz
        split at hs
        · rename_i hnm
          obtain ⟨rfl,hsz⟩:=hnm
          simp only[Dt,Option.some.injEq] at hs;subst hs
          obtain ⟨b1,b2,b3⟩:=jy6 hm
          have b1:=Fg b1;have b2:=Fg b2;have b3:=Fg b3
          simp only[T.I,Qu] at b1 b2 b3
          obtain ⟨i',zv,hi',hzz,hd,hzw⟩:=Kj (S:=S) (ρ:=ρ) (B:=w0.heap.size) hz
          rw[hi] at hi';injection hi' with hi';subst hi'
          have hr:=run_make (P:=P) w t e i zv hu hi hzz kl kc (n.I S ρ) (n.I S ρ) b1 (Int.le_refl _) (by rw[Int.mul_comm];omega) b3
          have hcells:(madeCells zv.cells ((n.I S ρ).toNat*i.size)).toList=Av S ρ w0.heap.size [.arrD k (.rep n (.lit 0))]:=by
            have:zv.cells= #[Value.int k 0]:=by
              apply Array.ext'
              rw[←hd];simp[Au,Cj,Cp.den,Aw.den,T.I]
            rw[this,hsz,Nat.mul_one,toList_madeCells_one]
            simp[Au,Cj,Cp.den,T.A,T.I]
          refine .of_yields trivial (.inl ?_) (hh.push e (segs:=jr6 [.arrD k (.rep n (.lit 0))]) ((Zr (S:=S) (ρ:=ρ) (B:=w0.heap.size) _).2 (fun g hg=>by simp at hg;subst hg;trivial)))
          simp only[execOp,el,ec,Aw.den,Sem.run_bind,hr,Result.andThen_ok,Sem.run_pure,SR.den,SV.den,Uo hh,(Zr (S:=S) (ρ:=ρ) (B:=w0.heap.size) _).1,←hcells]
        · cases hs
      · rename_i i k q q' hi hz
        split at hs
        · rename_i hnm
          obtain ⟨rfl,hsz,hqq,hq0⟩:=hnm
          simp only[Dt,Option.some.injEq] at hs;subst hs
          obtain ⟨b1,b2,b3⟩:=jy6 hm
          have b1:=Fg b1;have b2:=Fg b2;have b3:=Fg b3
          simp only[T.I,Qu] at b1 b2 b3
          obtain ⟨i',zv,hi',hzz,hd,hzw⟩:=Kj (S:=S) (ρ:=ρ) (B:=w0.heap.size) hz
          rw[hi] at hi';injection hi' with hi';subst hi'
          have hr:=run_make (P:=P) w t e i zv hu hi hzz kl kc (n.I S ρ) (n.I S ρ) b1 (Int.le_refl _) (by rw[Int.mul_comm];omega) b3
          have hcells:(madeCells zv.cells ((n.I S ρ).toNat*i.size)).toList=Av S ρ w0.heap.size [.arrD k (.rep (Tj n (.lit q)) (.lit 0))]:=by
            have hzl:zv.cells.toList=List.replicate q' (Value.int k 0):=by
              rw[←hd];simp[Au,Cj,Cp.den,T.A,T.I,hqq]
            have:=Ux zv.cells q' (n.I S ρ).toNat (by rw[←Array.length_toList,hzl];simp) hq0
            rw[hsz]
            unfold madeCells
            rw[this,hzl]
            simp only[Au,Cj,List.append_nil,Cp.den,T.A,T.I,Qu,List.map_replicate]
            rw[List.flatten_replicate_replicate]
            congr 1
            rw[hqq]
            obtain ⟨b,hb⟩:=Int.eq_ofNat_of_zero_le b1
            rw[hb,←Int.natCast_mul,Int.toNat_natCast,Int.toNat_natCast]
          refine .of_yields trivial (.inl ?_) (hh.push e (segs:=jr6 [.arrD k (.rep (Tj n (.lit q)) (.lit 0))]) ((Zr (S:=S) (ρ:=ρ) (B:=w0.heap.size) _).2 (fun g hg=>by simp at hg;subst hg;trivial)))
          simp only[execOp,el,ec,Aw.den,Sem.run_bind,hr,Result.andThen_ok,Sem.run_pure,SR.den,SV.den,Uo hh,(Zr (S:=S) (ρ:=ρ) (B:=w0.heap.size) _).1,←hcells]
        · cases hs
      · cases hs
    · cases hs
  | slice t x lo hi mx=>
    simp only[Gx,jkv] at hs
    split at hs
    · rename_i p hx
      cases hl:jju P t p fr lo hi mx with
      | none=>simp[hl] at hs
      | some cv=>
        simp[hl] at hs;subst hs
        refine Cz hh trivial ?_
        have h1:=jzt (w:=w) (B:=w0.heap.size) ha (fun x hx=>by simp[Op.operands,hx]) (fun x hx=>by simp[Op.operands,hx]) (fun x hx=>by simp[Op.operands,hx]) hl hm
        simp only[execOp,Dp ha (x:=x) (by simp[Op.operands]) hx,Sem.run_bind,h1,Result.andThen_ok,Sem.run_pure,Aw.sr,SR.den,SV.den,jug]
    · cases hs
  | fieldAddr t x f=>
    simp only[Gx,Uy] at hs
    split at hs
    · rename_i r' s d q hx hq
      split at hs
      · rename_i n hn
        simp only[Dt,Option.some.injEq] at hs;subst hs
        refine Cz hh trivial ?_
        have hd:=Fg (Qd hm)
        unfold jky at hq
        split at hq
        · rename_i fs hu
          have e:=Ha (w:=w) hn
          simp[execOp,Dp ha (x:=x) (by simp[Op.operands]) hx,Aw.den,Instr.fieldAt,run_underlying hu,hq,Instr.sureAddr,fieldPlace,e,SR.den,SV.den,Cw,Ho]
        · cases hq
      · cases hs
    · cases hs
  | field t x f=>
    simp only[Gx,jlr] at hs
    split at hs
    · rename_i g q hx hq
      split at hs
      · rename_i hqu
        cases hl:jh9 P q.type g q.offset with
        | none=>simp[hl] at hs
        | some v=>
          simp[hl] at hs;subst hs
          have hw:Cm S ρ g:=Nu hf hx
          obtain ⟨h1,h2⟩:=ju1 (w:=w) (B:=w0.heap.size) (Option.isSome_iff_exists.1 hqu) hw hl
          refine Cz hh h2 ?_
          unfold jky at hq
          split at hq
          · rename_i fs hu
            simp only[execOp,Hx ha (x:=x) (by simp[Op.operands]) hx,SR.den,Sem.run_bind,Sem.run_pure,Result.andThen_ok,jtk,Instr.field,run_underlying hu,hq,asAgg,h1]
          · cases hq
      · cases hs
    · cases hs
  | indexAddr t x i=>
    simp only[Gx,Uq] at hs
    split at hs
    · rename_i p q hx hi
      cases hl:jkz P t p q with
      | none=>simp[hl] at hs
      | some cv=>
        simp[hl] at hs;subst hs
        refine Cz hh trivial ?_
        have h1:=j1p (w:=w) (B:=w0.heap.size) hl hm
        simp only[execOp,Dp ha (x:=x) (by simp[Op.operands]) hx,Dp ha (x:=i) (by simp[Op.operands]) hi,Sem.run_bind,h1,Result.andThen_ok,Sem.run_pure,Aw.sr,SR.den,SV.den]
    · cases hs
  | index t x i=>
    simp only[Gx,jji] at hs
    split at hs
    · rename_i g k q n e hx hi hu
      split at hs
      · rename_i z hz
        split at hs
        · rename_i hq
          obtain ⟨q0,q1,hqu⟩:=hq
          cases hl:jh9 P e g (q.toNat*z) with
          | none=>simp[hl] at hs
          | some v=>
            simp[hl] at hs;subst hs
            have hw:Cm S ρ g:=Nu hf hx
            obtain ⟨h1,h2⟩:=ju1 (w:=w) (B:=w0.heap.size) (Option.isSome_iff_exists.1 hqu) hw hl
            refine Cz hh h2 ?_
            simp only[execOp,Hx ha (x:=x) (by simp[Op.operands]) hx,Dp ha (x:=i) (by simp[Op.operands]) hi,Aw.den,T.I,SR.den,jtk,Instr.index,asIntOf,Sem.run_bind,Sem.run_pure,Result.andThen_ok,run_underlying hu]
            rw[if_pos ⟨q0,q1⟩]
            simp only[Sem.run_bind,Ha hz,Result.andThen_ok,h1]
        · cases hs
      · cases hs
    · rename_i k a' m k' ti n e hne hx hi hu
      split at hs
      · rename_i hc
        obtain ⟨hsz,hag,hqu,hnm⟩:=hc
        simp only[Dt,Option.some.injEq] at hs;subst hs
        have hn:=Fu hm
        simp only[Ag] at hn
        have b1:=Fg hn.1;have b2:=jmz hn.2.1
        simp only[T.I] at b1 b2
        have hw:Cm S ρ [.arr k a' m]:=Nu hf hx
        have hlen:(a'.A S ρ).length=m:=hw (.arr k a' m) (by simp)
        obtain ⟨ud,hud⟩:=Option.isSome_iff_exists.1 hqu
        refine Cz hh trivial ?_
        simp only[execOp,Hx ha (x:=x) (by simp[Op.operands]) hx,Dp ha (x:=i) (by simp[Op.operands]) hi,Aw.den,SR.den,SV.den,Instr.index,asIntOf,Sem.run_bind,Sem.run_pure,Result.andThen_ok,run_underlying hu]
        rw[if_pos ⟨b1,b2⟩]
        simp only[Sem.run_bind,Ha hsz,Result.andThen_ok,part,Mt hud,hag,Bool.false_eq_true,if_false,Nat.mul_one,Au,Cj,List.append_nil,Cp.den,List.getElem?_toArray]
        rw[jfy _ _ _ (by omega)]
        simp only[Sem.run_pure,Result.andThen_ok,Tq,SR.den,SV.den,Aw.den,Sv]
      · cases hs
    · rename_i l k ti hx hi hu
      simp only[Dt,Option.some.injEq] at hs;subst hs
      have hn:=Fu hm
      simp only[Ag] at hn
      have b1:=Fg hn.1;have b2:=jmz hn.2.1
      simp only[T.I] at b1 b2
      refine Cz hh trivial ?_
      simp only[execOp,Hx ha (x:=x) (by simp[Op.operands]) hx,Dp ha (x:=i) (by simp[Op.operands]) hi,Aw.den,SR.den,SV.den,Instr.index,asIntOf,Sem.run_bind,Sem.run_pure,Result.andThen_ok,run_underlying hu]
      have hlt:(ti.I S ρ).toNat<l.length:=by omega
      rw[if_pos b1,qbl l _ hlt]
      simp only[Sem.run_pure,Result.andThen_ok,Tq,SR.den,SV.den,Aw.den,Sv,T.A,List.getD_eq_getElem?_getD,List.getElem?_map,List.getElem?_eq_getElem hlt,Option.map_some,Option.getD_some]
    · cases hs
  | extract x i=>
    simp only[Gx,jb9] at hs
    split at hs
    · rename_i xs hx
      split at hs
      · rename_i v hv
        simp only[Dt,Option.some.injEq] at hs;subst hs
        have hw:(SR.tup xs).wf S ρ:=Nu hf hx
        refine Cz hh (hw v (List.mem_of_getElem? hv)) ?_
        have e1:=Hx ha (x:=x) (by simp[Op.operands]) hx
        simp[execOp,e1,SR.den,Instr.extract,hv]
      · cases hs
    · cases hs
  | typeAssert x xt asserted ok=>
    simp only[Gx,Tb] at hs
    split at hs
    · rename_i ti l want hx hu
      have e1:=Dp ha (x:=x) (by simp[Op.operands]) hx
      split at hs
      · rename_i i hi
        split at hs
        · rename_i hmiss
          replace hmiss:=jqr hmiss
          simp only[Dt,Option.some.injEq] at hs;subst hs
          refine Cz hh (by cases ok<;>simp[SR.wf,SV.wf]) ?_
          simp only[execOp,e1,Aw.den,Instr.typeAssert,Sem.run_bind,run_underlying hu,Result.andThen_ok,typeInfo,program,Sem.run,hi,Sem.run_pure,hmiss]
          cases ok<;>simp[SR.den,SV.den,Aw.den,T.B]
        · rename_i mm hmiss
          obtain ⟨mm,hmiss⟩:=jq2 hmiss
          split at hs
          · rename_i z hz
            simp only[Dt,Option.some.injEq] at hs;subst hs
            refine Cz hh (by simp[SR.wf,SV.wf]) ?_
            cases hia:P.info? asserted with
            | none=>simp[hia,Rb] at hz
            | some ia=>
              cases hza:ia.zero with
              | none=>simp[hia,hza,Rb] at hz
              | some za=>
                simp[hia,hza] at hz
                have:=Sn (S:=S) (ρ:=ρ) (B:=w0.heap.size) hz
                simp[execOp,e1,Aw.den,Instr.typeAssert,run_underlying hu,typeInfo,hi,hmiss,zeroValue,hia,hza,SR.den,SV.den,this,T.B]
          · cases hs
      · cases hs
    · rename_i ti l d hne hx hu
      have e1:=Dp ha (x:=x) (by simp[Op.operands]) hx
      split at hs
      · cases hs
      · rename_i hni
        have hni': ∀ms,d≠ .interface ms:=fun ms he=>hne ms he
        simp only[Bool.false_eq_true,if_false] at hs
        split at hs
        · rename_i hta
          subst hta
          simp only[Dt,Option.some.injEq] at hs;subst hs
          refine Cz hh (by cases ok<;>simp[SR.wf,SV.wf]) ?_
          simp only[execOp,e1,Aw.den,Instr.typeAssert,Sem.run_bind,run_underlying hu,Result.andThen_ok]
          cases d<;>first|(exact absurd rfl (hni' _))|(cases ok<;>simp[SR.den,SV.den,Aw.den,T.B])
        · rename_i hta
          split at hs
          · rename_i z hz
            simp only[Dt,Option.some.injEq] at hs;subst hs
            refine Cz hh (by simp[SR.wf,SV.wf]) ?_
            cases hia:P.info? asserted with
            | none=>simp[hia,Rb] at hz
            | some ia=>
              cases hza:ia.zero with
              | none=>simp[hia,hza,Rb] at hz
              | some za=>
                simp[hia,hza] at hz
                have:=Sn (S:=S) (ρ:=ρ) (B:=w0.heap.size) hz
                cases d<;>first|(exact absurd rfl (hni' _))|simp[execOp,e1,Aw.den,Instr.typeAssert,run_underlying hu,typeInfo,zeroValue,hia,hza,hta,SR.den,SV.den,this,T.B]
          · cases hs
    · cases hs
  | call c=>
    simp only[Gx,jpd] at hs
    split at hs
    · rename_i hc
      split at hs
      · rename_i x t hargs htys
        have hax:c.args= #[x]:=Array.ext' hargs
        have hat:c.argTypes= #[t]:=Array.ext' htys
        have hmem:x∈(Op.call c).operands:=by simp[Op.operands,Call.operands,hc,hax]
        split at hs
        · rename_i e r' s d n cp hu hx
          simp only[Dt,Option.some.injEq] at hs;subst hs
          have b1:=Fg (Qd hm)
          simp only[T.I] at b1
          refine Cz hh trivial ?_
          have e1:=Dp ha hmem hx
          simp[execOp,resolve,hc,hax,hat,e1,Aw.den,invoke,builtin,Builtin.len_,run_underlying hu,goInt,Tq,SR.den,SV.den]
          omega
        · rename_i e hu hx
          simp only[Dt,Option.some.injEq] at hs;subst hs
          refine Cz hh trivial ?_
          have e1:=Dp ha hmem hx
          simp[execOp,resolve,hc,hax,hat,e1,Aw.den,invoke,builtin,Builtin.len_,run_underlying hu,goInt,Tq,SR.den,SV.den,T.I]
        · rename_i n e l hu hx
          simp only[Dt,Option.some.injEq] at hs;subst hs
          refine Cz hh trivial ?_
          simp[execOp,resolve,hc,hax,hat,invoke,builtin,Builtin.len_,run_underlying hu,goInt,Tq,SR.den,SV.den,Aw.den,T.I]
        · rename_i l hu hx
          simp only[Dt,Option.some.injEq] at hs;subst hs
          refine Cz hh trivial ?_
          have e1:=Dp ha hmem hx
          simp[execOp,resolve,hc,hax,hat,e1,Aw.den,invoke,builtin,Builtin.len_,run_underlying hu,goInt,Tq,SR.den,SV.den,T.I,jt7]
        · cases hs
      · cases hs
    · rename_i hc
      split at hs
      · rename_i x y hargs
        have hax:c.args= #[x,y]:=Array.ext' hargs
        have hmx:x∈(Op.call c).operands:=by simp[Op.operands,Call.operands,hc,hax]
        have hmy:y∈(Op.call c).operands:=by simp[Op.operands,Call.operands,hc,hax]
        split at hs
        · rename_i k tx k' ty hx hy
          simp only[Dt,Option.some.injEq] at hs;subst hs
          refine Cz hh trivial ?_
          simp[execOp,resolve,hc,hax,Dp ha hmx hx,Dp ha hmy hy,Aw.den,invoke,builtin,run_max_int2,Tq,SR.den,SV.den,j8y]
        · cases hs
      · cases hs
    · rename_i hc
      split at hs
      · rename_i x y hargs
        have hax:c.args= #[x,y]:=Array.ext' hargs
        have hmx:x∈(Op.call c).operands:=by simp[Op.operands,Call.operands,hc,hax]
        have hmy:y∈(Op.call c).operands:=by simp[Op.operands,Call.operands,hc,hax]
        split at hs
        · rename_i k tx k' ty hx hy
          simp only[Dt,Option.some.injEq] at hs;subst hs
          refine Cz hh trivial ?_
          simp[execOp,resolve,hc,hax,Dp ha hmx hx,Dp ha hmy hy,Aw.den,invoke,builtin,run_min_int2,Tq,SR.den,SV.den,jqy]
        · cases hs
      · cases hs
    · rename_i hc
      split at hs
      · rename_i x y t u hargs htys
        have hax:c.args= #[x,y]:=Array.ext' hargs
        have hat:c.argTypes= #[t,u]:=Array.ext' htys
        have hmx:x∈(Op.call c).operands:=by simp[Op.operands,Call.operands,hc,hax]
        have hmy:y∈(Op.call c).operands:=by simp[Op.operands,Call.operands,hc,hax]
        split at hs
        · rename_i p q hx hy
          have hcp:r.val.wf S ρ∧ ∃w',(Builtin.copy_ #[t,u] type #[p.den S ρ w0.heap.size,q.den S ρ w0.heap.size]).run P w=.ok (r.val.den S ρ w0.heap.size) w'∧Cv S ρ w0 r.heap w':=by
            cases hcs:jtj P t p q h with
            | some r'=>simp only[hcs,Option.some.injEq] at hs;subst hs;exact j2p hh hcs hm
            | none=>simp only[hcs] at hs;exact jws hh hs hm
          obtain ⟨h1,w',h2,h3⟩:=hcp
          refine .of_yields h1 (.inl ?_) h3
          simp[execOp,resolve,hc,hax,hat,Dp ha hmx hx,Dp ha hmy hy,invoke,builtin,h2]
        · cases hs
      · cases hs
    · split at hs
      · rename_i f args hcall
        split at hs
        · rename_i s hspec
          obtain ⟨h1,h2⟩:=jgj (w:=w) (t:=type) hf ha hcall
          obtain ⟨h3,h4⟩:=hsp f s hspec ρ w0 w h args r hs hm h2 hh
          refine ⟨h3,fun K Q hK=> ?_⟩
          unfold Oper.wp
          simp only[execOp]
          rw[h1,Oper.upon_enter]
          exact h4.mono fun e w' ⟨he,hw'⟩=>by subst he;exact hK w' hw'
        · cases hs
      · cases hs
  | _=>simp[Gx] at hs
end
def Oh(l:List Value)(d:Option Tmp)(v:Value):List Value:=
  match d with
  | some d=>l.set d v
  | none=>l
section frames
def Cd(D:Nat→Bool):Nat→List (Option Tmp×Value)→List Value→List Value
  | _,[],cur=>cur
  | k,e::es,cur=>Cd D (k+1) es (if D k then Oh cur e.1 e.2 else cur)
theorem Lf(D:Nat→Bool): ∀(es:List (Option Tmp×Value)) (k:Nat) (cur:List Value),(Cd D k es cur).length=cur.length
  | [],_,_=>rfl
  | e::es,k,cur=>by
    unfold Cd
    rw[Lf D es]
    split
    · unfold Oh;split<;>simp
    · rfl
theorem Ki{D D':Nat→Bool}{s:Nat}: ∀(es:List (Option Tmp×Value)) (k:Nat) (cur cur':List Value),cur[s]? =cur'[s]? →cur.length=cur'.length→
    (∀i e,es[i]? =some e→e.1=some s→D (k+i)=D' (k+i))→(Cd D k es cur)[s]? =(Cd D' k es cur')[s]?
  | [],_,_,_,h,_,_=>h
  | e::es,k,cur,cur',h,hl,hd=>by
    unfold Cd
    refine Ki es (k+1) _ _ ?_ ?_ (fun i e' h1 h2=>by have:=hd (i+1) e' (by simpa using h1) h2;rwa[show k+1+i=k+(i+1) from by omega])
    · by_cases hs:e.1=some s
      · have:=hd 0 e rfl hs
        simp only[Nat.add_zero] at this
        rw[this]
        split
        · rw[hs]
          simp[Oh,List.getElem?_set,hl]
        · exact h
      · have hput: ∀c:List Value,(Oh c e.1 e.2)[s]? =c[s]? :=by
          intro c
          unfold Oh
          split
          · rename_i d hd2
            rw[List.getElem?_set_ne (by intro e';subst e';exact hs hd2)]
          · rfl
        have e1: ∀b:Bool,∀c:List Value,(if b=true then Oh c e.1 e.2 else c)[s]? =c[s]? :=by
          intro b c;split
          · exact hput c
          · rfl
        rw[e1,e1];exact h
    · have hp: ∀c:List Value,(Oh c e.1 e.2).length=c.length:=by intro c;unfold Oh;split<;>simp
      split<;>split<;>simp[hp,hl]
theorem jcj{D:Nat→Bool}{d:Option Tmp}{v:Value}: ∀(es:List (Option Tmp×Value)) (k:Nat) (cur:List Value),
    (∀i e s,es[i]? =some e→d=some s→e.1=some s→D (k+i)=false)→Cd D k es (Oh cur d v)=Oh (Cd D k es cur) d v
  | [],_,_,_=>rfl
  | e::es,k,cur,h=>by
    unfold Cd
    have ih:=jcj (D:=D) (d:=d) (v:=v) es (k+1) (if D k then Oh cur e.1 e.2 else cur) (fun i e' s h1 h2 h3=>by have:=h (i+1) e' s (by simpa using h1) h2 h3;rwa[show k+1+i=k+(i+1) from by omega])
    rw[←ih]
    congr 1
    split
    · rename_i hk
      have h0:=h 0 e
      simp only[Nat.add_zero,hk] at h0
      unfold Oh
      cases d with
      | none=>rfl
      | some s=>
        cases he:e.1 with
        | none=>rfl
        | some t=>
          have hne:t≠s:=by
            intro e';subst e'
            have:=h0 t rfl rfl he
            cases this
          simp only
          rw[List.set_comm _ _ hne]
    · rfl
theorem Sk{D D':Nat→Bool}{j:Nat}: ∀(es:List (Option Tmp×Value)) (k:Nat) (cur:List Value) (e:Option Tmp×Value),k≤j→es[j-k]? =some e→D j=false→D' j=true→(∀i,i≠j→D' i=D i)→
    (∀i e' s,es[i]? =some e'→j<k+i→e.1=some s→e'.1=some s→D (k+i)=false)→Cd D' k es cur=Oh (Cd D k es cur) e.1 e.2
  | [],k,cur,e,_,he,_,_,_,_=>by simp at he
  | x::es,k,cur,e,hk,he,hD,hD',hne,hl=>by
    unfold Cd
    by_cases hkj:k=j
    · subst hkj
      simp only[Nat.sub_self,List.getElem?_cons_zero,Option.some.injEq] at he
      subst he
      rw[hD,hD']
      simp only[if_true,Bool.false_eq_true,if_false]
      have hcong: ∀(es:List (Option Tmp×Value)) (m:Nat) (c:List Value),k<m→Cd D' m es c=Cd D m es c:=by
        intro es
        induction es with
        | nil=>intros;rfl
        | cons y es ih=>intro m c hm;unfold Cd;rw[hne m (by omega),ih (m+1) _ (by omega)]
      rw[hcong _ _ _ (by omega)]
      apply jcj
      intro i e' s h1 h2 h3
      have:=hl (i+1) e' s (by simpa using h1) (by omega) h2 h3
      rwa[show k+1+i=k+(i+1) from by omega]
    · rw[hne k hkj]
      refine Sk es (k+1) _ e (by omega) ?_ hD hD' hne (fun i e' s h1 h2 h3 h4=> ?_)
      · rw[show j-k=(j-(k+1))+1 from by omega,List.getElem?_cons_succ] at he
        exact he
      · have:=hl (i+1) e' s (by simpa using h1) (by omega) h3 h4
        rwa[show k+1+i=k+(i+1) from by omega]
end frames
section Ex
theorem jgm(ms:List Nat): ∀(l:List Edge) (s:Nat) (j:Nat),(l.foldl (fun s e=>if Mo e then s|||2^e.on|||ms.getD e.on 0 else s) s).testBit j=true→
    s.testBit j=true∨ ∃e∈l,Mo e=true∧(e.on=j∨(ms.getD e.on 0).testBit j=true)
  | [],s,j,h=>.inl h
  | e::l,s,j,h=>by
    simp only[List.foldl_cons] at h
    rcases jgm ms l _ j h with h|⟨e',h1,h2,h3⟩
    · split at h
      · rename_i hb
        simp only[Nat.testBit_or,Bool.or_eq_true,Nat.testBit_two_pow,decide_eq_true_eq] at h
        rcases h with (h|h)|h
        · exact .inl h
        · exact .inr ⟨e,by simp,hb,.inl h⟩
        · exact .inr ⟨e,by simp,hb,.inr h⟩
      · exact .inl h
    · exact .inr ⟨e',by simp[h1],h2,h3⟩
theorem jcd: ∀(ops:List Oper) (pre:List Nat),(ops.foldl (fun ms o=>ms++ [Pp ms o]) pre).take pre.length=pre∧
    ∀i o,ops[i]? =some o→(ops.foldl (fun ms o=>ms++ [Pp ms o]) pre)[pre.length+i]? =some (Pp ((ops.foldl (fun ms o=>ms++ [Pp ms o]) pre).take (pre.length+i)) o)
  | [],pre=>⟨by simp,fun i o h=>by simp at h⟩
  | o::ops,pre=>by
    simp only[List.foldl_cons]
    obtain ⟨h1,h2⟩:=jcd ops (pre++ [Pp pre o])
    generalize ops.foldl (fun ms o=>ms++ [Pp ms o]) (pre++ [Pp pre o])=R at*
    simp only[List.length_append,List.length_cons,List.length_nil,Nat.zero_add] at h1 h2
    have h3:R.take pre.length=pre:=by
      have:=congrArg (List.take pre.length) h1
      rw[List.take_take,Nat.min_eq_left (by omega)] at this
      rw[this];simp
    refine ⟨h3,fun i x hi=> ?_⟩
    cases i with
    | zero=>
      simp only[List.getElem?_cons_zero,Option.some.injEq] at hi
      subst hi
      simp only[Nat.add_zero,h3]
      have:=congrArg (fun l=>l[pre.length]?) h1
      simp only[List.getElem?_take] at this
      rw[if_pos (by omega)] at this
      rw[this];simp
    | succ i=>
      have:=h2 i x (by simpa using hi)
      rwa[show pre.length+1+i=pre.length+(i+1) from by omega] at this
theorem juc{ops:List Oper}{i:Nat}{o:Oper}(h:ops[i]? =some o):(Ex ops).getD i 0=Pp ((Ex ops).take i) o:=by
  have:=(jcd ops []).2 i o h
  simp only[List.length_nil,Nat.zero_add] at this
  rw[List.getD_eq_getElem?_getD]
  unfold Ex
  rw[this];rfl
def jbl(ops:List Oper)(D:Nat→Bool):Prop:= ∀i o,ops[i]? =some o→D i=true→ ∀e∈o.after.toList,Mo e=true→D e.on=true
theorem Ds{ops:List Oper}{D:Nat→Bool}(hb:Jc ops=true)(hD:jbl ops D): ∀(i:Nat) (o:Oper),ops[i]? =some o→(∀e∈o.after.toList,Mo e=true→D e.on=true)→ ∀j,((Ex ops).getD i 0).testBit j=true→D j=true:=by
  intro i
  induction i using Nat.strongRecOn with
  | _ i ih=>
    intro o ho hi j hj
    rw[juc ho] at hj
    unfold Pp at hj
    rcases jgm _ _ _ _ hj with h|⟨e,he,heb,h⟩
    · simp at h
    · have hDe:=hi e he heb
      rcases h with h|h
      · rw[←h];exact hDe
      · have hlt:e.on<i:=by
          unfold Jc at hb
          rw[List.all_eq_true] at hb
          have:=hb (o,i) (List.mem_zipIdx_iff_getElem?.2 ho)
          rw[List.all_eq_true] at this
          have:=this e he
          simp only[heb,Bool.not_true,Bool.false_or,decide_eq_true_eq] at this
          exact this
        have hlo:e.on<ops.length:=by
          have:=(List.getElem?_eq_some_iff.1 ho).1
          omega
        have ho':ops[e.on]? =some ops[e.on]:=List.getElem?_eq_getElem hlo
        have h':((Ex ops).getD e.on 0).testBit j=true:=by
          rw[List.getD_eq_getElem?_getD] at h⊢
          rw[List.getElem?_take,if_pos hlt] at h
          exact h
        exact ih e.on hlt _ ho' (fun e' h1 h2=>hD e.on _ ho' hDe e' h1 h2) j h'
end Ex
def Bh(m:Nat)(es:List Fs):List Nat:=(es.zipIdx m).filterMap fun (e,i)=>if Eb e then some i else none
def Je:Hp→List Fs→Hp→Prop
  | h,[],hl=>h=hl
  | h,e::es,hl=>e.heap=h∧(Eb e=false→e.r.heap=h)∧Je e.r.heap es hl
theorem Gc: ∀{es:List Fs} {h hl:Hp} (m:Nat),Je h es hl→
    (∀k j,(Bh m es)[k]? =some j→ ∃e,es[j-m]? =some e∧m≤j∧Eb e=true∧(Eo h es)[k]? =some e.heap∧(Eo h es)[k+1]? =some e.r.heap)∧
    (Eo h es)[(Bh m es).length]? =some hl∧(Eo h es).length=(Bh m es).length+1
  | [],h,hl,m,hc=>by
    simp only[Je] at hc
    subst hc
    exact ⟨fun k j hk=>by simp[Bh] at hk,rfl,rfl⟩
  | e::es,h,hl,m,hc=>by
    obtain ⟨h1,h2,h3⟩:=hc
    obtain ⟨i1,i2,i3⟩:=Gc (m+1) h3
    by_cases he:Eb e=true
    · have e1:Bh m (e::es)=m::Bh (m+1) es:=by simp[Bh,he]
      have e2:Eo h (e::es)=h::Eo e.r.heap es:=by simp[Eo,he]
      rw[e1,e2]
      refine ⟨fun k j hk=> ?_,by simpa using i2,by simp[i3]⟩
      cases k with
      | zero=>
        simp only[List.getElem?_cons_zero,Option.some.injEq] at hk
        subst hk
        exact ⟨e,by simp,Nat.le_refl _,he,by simp[h1],by simp[Eo]⟩
      | succ k=>
        obtain ⟨e',q1,q2,q3,q4,q5⟩:=i1 k j (by simpa using hk)
        refine ⟨e',?_,by omega,q3,by simpa using q4,by simpa using q5⟩
        rw[show j-m=(j-(m+1))+1 from by omega,List.getElem?_cons_succ];exact q1
    · have he:Eb e=false:=by simpa using he
      have e1:Bh m (e::es)=Bh (m+1) es:=by simp[Bh,he]
      have e2:Eo h (e::es)=Eo e.r.heap es:=by rw[h2 he];simp[Eo,he]
      rw[e1,e2]
      refine ⟨fun k j hk=> ?_,i2,i3⟩
      obtain ⟨e',q1,q2,q3,q4,q5⟩:=i1 k j hk
      refine ⟨e',?_,by omega,q3,q4,q5⟩
      rw[show j-m=(j-(m+1))+1 from by omega,List.getElem?_cons_succ];exact q1
theorem ja6{α:Type}(p:α→Bool)(l:List α)(t:Nat)(h: ∀k x,l[k]? =some x→p x=true→k<t):(l.filter p).length≤t:=by
  have:(l.drop t).filter p=[]:=by
    rw[List.filter_eq_nil_iff]
    intro x hx hp
    obtain ⟨k,hk⟩:=List.getElem?_of_mem hx
    rw[List.getElem?_drop] at hk
    have:=h _ x hk hp
    omega
  have e:l.filter p=(l.take t).filter p:=by
    conv=>lhs;rw[←List.take_append_drop t l]
    rw[List.filter_append,this,List.append_nil]
  rw[e]
  exact Nat.le_trans (List.length_filter_le _ _) (List.length_take_le _ _)
theorem jat{α:Type}(p:α→Bool)(l:List α)(t:Nat)(ht:t≤l.length)(h: ∀k x,l[k]? =some x→k<t→p x=true):t≤(l.filter p).length:=by
  have e:(l.take t).filter p=l.take t:=by
    rw[List.filter_eq_self]
    intro x hx
    obtain ⟨k,hk⟩:=List.getElem?_of_mem hx
    rw[List.getElem?_take] at hk
    split at hk
    · rename_i hlt;exact h k x hk hlt
    · cases hk
  conv=>rhs;rw[←List.take_append_drop t l]
  rw[List.filter_append,List.length_append,e,List.length_take]
  omega
section
variable {S:Hw} {ρ:Et} {w0:World} {P:Program} {specs:Nat→Option Ec}
def Bj(S:Hw)(ρ:Et)(B:Nat)(es:List Fs):List (Option Tmp×Value):=es.map fun e=>(e.o.dst,e.r.val.den S ρ B)
theorem Kq{B:Nat}{es:List Fs}{i:Nat}{e:Fs}(h:es[i]? =some e):(Bj S ρ B es)[i]? =some (e.o.dst,e.r.val.den S ρ B):=by simp[Bj,h]
theorem Jm{B:Nat}{es:List Fs}{i:Nat}{p:Option Tmp×Value}(h:(Bj S ρ B es)[i]? =some p): ∃e,es[i]? =some e∧p=(e.o.dst,e.r.val.den S ρ B):=by
  simp only[Bj,List.getElem?_map,Option.map_eq_some_iff] at h
  obtain ⟨e,h1,h2⟩:=h
  exact ⟨e,h1,h2.symm⟩
structure Td(P:Program)(specs:Nat→Option Ec)(S:Hw)(ρ:Et)(B:Nat)(h0:Hp)(es:List Fs)(init:List Value)(hl:Hp):Prop where
  fr: ∀(j:Nat) (e:Fs),es[j]? =some e→e.fr.map (SR.den S ρ B)=Cd (fun i=>decide (i<j)) 0 (Bj S ρ B es) init
  want: ∀(j:Nat) (e:Fs),es[j]? =some e→Region.wanted e.o (yielded (es.map (·.o)).toArray (Cd (fun i=>decide (i<j)) 0 (Bj S ρ B es) init).toArray)=e.want
  st: ∀(j:Nat) (e:Fs),es[j]? =some e→e.want=true→Gx P specs (Do e.fr) e.heap e.o=some e.r∧Dx S ρ e.r.need∧ ∀x∈e.fr,x.wf S ρ
  no: ∀(j:Nat) (e:Fs),es[j]? =some e→e.want=false→e.r.val=.v (.one .undef)∧e.r.need=[]
  chain:Je h0 es hl
theorem Vs{ops:Array Oper}{o:Oper}{l m:Array Value}(h: ∀g b,o.guard=some (g,b)→ ∀d,(ops[g]?).bind (·.dst)=some d→l[d]? =m[d]?):Region.wanted o (yielded ops l)=Region.wanted o (yielded ops m):=by
  unfold Region.wanted
  cases hg:o.guard with
  | none=>rfl
  | some gb=>
    obtain ⟨g,b⟩:=gb
    simp only
    congr 1
    unfold yielded
    cases hd:(ops[g]?).bind (·.dst) with
    | none=>rfl
    | some d=>simp only[Option.bind_some];rw[h g b hg d hd]
structure Mid(S:Hw)(ρ:Et)(w0:World)(h0:Hp)(es:List Fs)(init:List Value)(listed:Array Bool)(a:Act)(w:World):Prop where
  size:listed.size=es.length
  closed:jbl (es.map (·.o)) (fun i=>listed.getD i false)
  fr:a.tmps.toList=Cd (fun i=>listed.getD i false) 0 (Bj S ρ w0.heap.size es) init
  defers:a.defers=[]
  heap: ∃t h,t≤(Bh 0 es).length∧(∀k i,(Bh 0 es)[k]? =some i→(listed.getD i false=true↔k<t))∧(Eo h0 es)[t]? =some h∧Cv S ρ w0 h w
theorem Da(l:Array Bool)(i j:Nat)(hi:i<l.size):(l.setIfInBounds i true).getD j false=if j=i then true else l.getD j false:=by
  simp only[Array.getD_eq_getD_getElem?,Array.getElem?_setIfInBounds]
  by_cases h:i=j
  · subst h;simp[hi]
  · rw[if_neg h,if_neg (fun e=>h e.symm)]
theorem Jy(l:Array Bool)(i:Nat)(hi:i<l.size):l.getD i true=l.getD i false:=by
  simp[Array.getD_eq_getD_getElem?,hi]
theorem Fr{ops:Array Oper}{listed:Array Bool}{i:Nat}(h:i∈Region.ready .any ops listed):i<ops.size∧listed.getD i true=false∧ ∀o,ops[i]? =some o→ ∀e∈o.after.toList,Mo e=true→listed.getD e.on false=true:=by
  unfold Region.ready at h
  rw[List.mem_filter] at h
  obtain ⟨h1,h2⟩:=h
  simp only[Bool.and_eq_true,Bool.not_eq_true'] at h2
  obtain ⟨h2,h3⟩:=h2
  refine ⟨List.mem_range.1 h1,h2,fun o ho e he hb=> ?_⟩
  simp only[ho,Option.map_some,Option.getD_some] at h3
  rw[Array.all_eq_true_iff_forall_mem] at h3
  have:=h3 e (by simpa using he)
  unfold Mo at hb
  simpa [hb] using this
theorem jz5{ops:Array Oper}{listed:Array Bool}{i:Nat}{o:Oper}(hi:ops[i]? =some o)(h2:listed.getD i true=false)(h3: ∀e∈o.after.toList,Mo e=true→listed.getD e.on false=true):i∈Region.ready .any ops listed:=by
  unfold Region.ready
  rw[List.mem_filter]
  refine ⟨List.mem_range.2 (Array.getElem?_eq_some_iff.1 hi).1,?_⟩
  simp only[h2,Bool.not_false,Bool.true_and,hi,Option.map_some,Option.getD_some]
  rw[Array.all_eq_true_iff_forall_mem]
  intro e he
  cases hb:Region.binds .any e with
  | false=>simp
  | true=>simp[h3 e (by simpa using he) hb]
theorem Yt{ops:List Oper}{listed:Array Bool}(hs:listed.size=ops.length)(hb:Jc ops=true)(hr:Region.ready .any ops.toArray listed=[]): ∀i,i<ops.length→listed.getD i false=true:=by
  intro i
  induction i using Nat.strongRecOn with
  | _ i ih=>
    intro hi
    cases hl:listed.getD i false with
    | true=>rfl
    | false=>
      exfalso
      have ho:ops[i]? =some ops[i]:=List.getElem?_eq_getElem hi
      have:i∈Region.ready .any ops.toArray listed:=by
        refine jz5 (o:=ops[i]) (by simp[ho]) (by rw[Jy _ _ (by omega)];exact hl) (fun e he hbe=> ?_)
        have hlt:e.on<i:=by
          unfold Jc at hb
          rw[List.all_eq_true] at hb
          have:=hb (ops[i],i) (List.mem_zipIdx_iff_getElem?.2 ho)
          rw[List.all_eq_true] at this
          have:=this e he
          simp only[hbe,Bool.not_true,Bool.false_or,decide_eq_true_eq] at this
          exact this
        exact ih e.on hlt (by omega)
      rw[hr] at this
      cases this
end
section
variable {S:Hw} {ρ:Et} {w0:World} {P:Program} {specs:Nat→Option Ec}
theorem Me(es:List Fs):(es.zipIdx.filterMap fun (e,i)=>if Eb e then some i else none)=Bh 0 es:=rfl
theorem Kr{ops:List Oper}{ms:List Nat}(h:Vc ops ms=true){i j:Nat}{w o:Oper}{d:Tmp}(hi:ops[i]? =some w)(hj:ops[j]? =some o)(hd:w.dst=some d)(hne:i≠j)
    (hl:d∈Qi ops o∨o.dst=some d):if i<j then (ms.getD j 0).testBit i=true else (ms.getD i 0).testBit j=true:=by
  unfold Vc at h
  rw[List.all_eq_true] at h
  have h1:=h (w,i) (List.mem_zipIdx_iff_getElem?.2 hi)
  simp only[hd] at h1
  rw[List.all_eq_true] at h1
  have h2:=h1 (o,j) (List.mem_zipIdx_iff_getElem?.2 hj)
  have hc:((Qi ops o).contains d||o.dst==some d)=true:=by
    rcases hl with hl|hl
    · simp[hl]
    · simp[hl]
  have hij:(i==j)=false:=by simpa using hne
  simp only[hij,hc,Bool.not_true,Bool.or_false,Bool.false_or] at h2
  split at h2<;>rename_i hlt
  · rw[if_pos hlt];exact h2
  · rw[if_neg hlt];exact h2
theorem Xp: ∀{es:List Fs} {h hl:Hp} (m:Nat),Je h es hl→Bh m es=[]→hl=h∧ ∀(i:Nat) (e:Fs),es[i]? =some e→e.heap=h∧e.r.heap=h
  | [],h,hl,m,hc,_=>⟨hc.symm,fun i e hi=>by simp at hi⟩
  | e::es,h,hl,m,hc,he=>by
    obtain ⟨h1,h2,h3⟩:=hc
    have hne:Eb e=false:=by
      cases hb:Eb e with
      | false=>rfl
      | true=>simp[Bh,hb] at he
    have he':Bh (m+1) es=[]:=by simpa [Bh,hne] using he
    rw[h2 hne] at h3
    obtain ⟨i1,i2⟩:=Xp (m+1) h3 he'
    refine ⟨i1,fun i e' hi=> ?_⟩
    cases i with
    | zero=>simp at hi;subst hi;exact ⟨h1,h2 hne⟩
    | succ i=>exact i2 i e' (by simpa using hi)
theorem Td.met{B:Nat}{h0:Hp}{es:List Fs}{init:List Value}{hl:Hp}(sh:Td P specs S ρ B h0 es init hl):Dx S ρ (es.flatMap (·.r.need)):=by
  intro x hx
  rw[List.mem_flatMap] at hx
  obtain ⟨e',he',hxe⟩:=hx
  obtain ⟨j,hj⟩:=List.getElem?_of_mem he'
  cases hwj:e'.want with
  | true=>exact (sh.st j e' hj hwj).2.1 x hxe
  | false=>rw[(sh.no j e' hj hwj).2] at hxe;cases hxe
theorem Nc(hsp: ∀f s,specs f=some s→Ei P S f s){h0:Hp}{es:List Fs}{init:List Value}{hl:Hp}(hst:Dr (es.map (·.o))=true)(hok:Bh 0 es=[]∨Lp P specs h0 es=true)(hchain:Je h0 es hl)
    (hneed:Dx S ρ (es.flatMap (·.r.need))){i:Nat}{e:Fs}(hei:es[i]? =some e)
    (ffr:e.fr.map (SR.den S ρ w0.heap.size)=Cd (fun j=>decide (j<i)) 0 (Bj S ρ w0.heap.size es) init)
    (fwant:Region.wanted e.o (yielded (es.map (·.o)).toArray (Cd (fun j=>decide (j<i)) 0 (Bj S ρ w0.heap.size es) init).toArray)=e.want)
    (fst:e.want=true→Gx P specs (Do e.fr) e.heap e.o=some e.r∧Dx S ρ e.r.need∧ ∀x∈e.fr,x.wf S ρ)(fno:e.want=false→e.r.val=.v (.one .undef)∧e.r.need=[])
    {listed:Array Bool}{a:Act}{w:World}(he:Eb e=true→ ∀j∈Bh 0 es,j<i→((Ex (es.map (·.o))).getD i 0).testBit j=true∨listed.getD j false=true)
    (hm:Mid S ρ w0 h0 es init listed a w)(hi:i∈Region.ready .any (es.map (·.o)).toArray listed){K:Act→World→Prop}{Q:Exit→Act→World→Prop}
    (hK: ∀a' w',Mid S ρ w0 h0 es init (listed.setIfInBounds i true) a' w'→K a' w'):wpOp P (es.map (·.o)).toArray Q i K a w:=by
  unfold Dr at hst
  simp only[Bool.and_eq_true] at hst
  obtain ⟨hb,ht⟩:=hst
  unfold Lp at hok
  simp only[Bool.or_eq_true,Bool.and_eq_true] at hok
  obtain ⟨r1,r2,r3⟩:=Fr hi
  have r1':i<es.length:=by simpa using r1
  have hil:i<listed.size:=by rw[hm.size];exact r1'
  rw[Jy _ _ hil] at r2
  have hoi:(es.map (·.o))[i]? =some e.o:=by simp[hei]
  have hoa:(es.map (·.o)).toArray[i]? =some e.o:=by simpa using hoi
  have hpre:=r3 e.o hoa
  have hmask:=Ds hb hm.closed i e.o hoi hpre
  have hlook: ∀d,d∈Qi (es.map (·.o)) e.o→(Cd (fun i=>listed.getD i false) 0 (Bj S ρ w0.heap.size es) init)[d]? =(Cd (fun j=>decide (j<i)) 0 (Bj S ρ w0.heap.size es) init)[d]? :=by
    intro d hd
    apply Ki _ _ _ _ rfl rfl
    intro j p hj hpd
    obtain ⟨e',hj',rfl⟩:=Jm hj
    simp only[Nat.zero_add] at hpd⊢
    have hoj:(es.map (·.o))[j]? =some e'.o:=by simp[hj']
    by_cases hij:j=i
    · subst hij
      simp[r2]
    · have hord:=Kr ht hoj hoi hpd hij (.inl hd)
      split at hord
      · rename_i hlt
        rw[hmask j hord];simp[hlt]
      · rename_i hlt
        have hnl:listed.getD j false=false:=by
          cases hl:listed.getD j false with
          | false=>rfl
          | true=>
            exfalso
            have:=Ds hb hm.closed j e'.o hoj (fun x h1 h2=>hm.closed j e'.o hoj hl x h1 h2) i hord
            rw[r2] at this;cases this
        rw[hnl];simp;omega
  have hsizes:(Cd (fun i=>listed.getD i false) 0 (Bj S ρ w0.heap.size es) init).length=(Cd (fun j=>decide (j<i)) 0 (Bj S ρ w0.heap.size es) init).length:=by
    rw[Lf,Lf]
  have hat: ∀d:Nat,a.tmps[d]? =(Cd (fun i=>listed.getD i false) 0 (Bj S ρ w0.heap.size es) init)[d]? :=fun d=>by rw[←hm.fr];simp
  have hwant:Region.wanted e.o (yielded (es.map (·.o)).toArray a.tmps)=e.want:=by
    rw[←fwant]
    apply Vs
    intro g b hg d hd
    rw[hat d,hlook d (by unfold Qi;rw[hg];simp only[List.mem_append];right;simp at hd⊢;exact hd)]
    simp
  have hnext: ∀(w':World) (t:Nat) (h:Hp),t≤(Bh 0 es).length→(∀k j,(Bh 0 es)[k]? =some j→((listed.setIfInBounds i true).getD j false=true↔k<t))→(Eo h0 es)[t]? =some h→Cv S ρ w0 h w'→
      K (a.put e.o.dst (e.r.val.den S ρ w0.heap.size)) w':=by
    intro w' t h g1 g2 g3 g4
    apply hK
    · refine ⟨by simpa using hm.size,?_,?_,?_,t,h,g1,g2,g3,g4⟩
      · intro j o hj hD x hx1 hx2
        simp only at hD⊢
        rw[Da _ _ _ hil] at hD⊢
        split at hD
        · rename_i hji
          subst hji
          rw[hoi] at hj;injection hj with hj;subst hj
          split
          · rfl
          · exact hpre x hx1 hx2
        · split
          · rfl
          · exact hm.closed j o hj hD x hx1 hx2
      · have hput:(a.put e.o.dst (e.r.val.den S ρ w0.heap.size)).tmps.toList=Oh a.tmps.toList e.o.dst (e.r.val.den S ρ w0.heap.size):=by
          unfold Act.put Oh
          cases e.o.dst<;>simp
        rw[hput,hm.fr]
        symm
        refine Sk (j:=i) _ 0 init (e.o.dst,e.r.val.den S ρ w0.heap.size) (Nat.zero_le _) (by simpa using Kq hei) r2 (by rw[Da _ _ _ hil];simp) (fun j hj=>by rw[Da _ _ _ hil,if_neg hj]) ?_
        intro j p s hj hlt hs1 hs2
        obtain ⟨e',hj',rfl⟩:=Jm hj
        simp only[Nat.zero_add] at hlt hs1 hs2⊢
        have hoj:(es.map (·.o))[j]? =some e'.o:=by simp[hj']
        have hord:=Kr ht hoj hoi hs2 (by omega) (.inr hs1)
        rw[if_neg (by omega)] at hord
        cases hl:listed.getD j false with
        | false=>rfl
        | true=>
          exfalso
          have:=Ds hb hm.closed j e'.o hoj (fun x h1 h2=>hm.closed j e'.o hoj hl x h1 h2) i hord
          rw[r2] at this;cases this
      · unfold Act.put
        cases e.o.dst<;>exact hm.defers
  obtain ⟨t,h,h1,h2,h3,h4⟩:=hm.heap
  have hch:=Gc 0 hchain
  unfold wpOp
  rw[hoa]
  simp only[hwant]
  have hquiet:Eb e=false→ ∀w',Cv S ρ w0 h w'→K (a.put e.o.dst (e.r.val.den S ρ w0.heap.size)) w':=by
    intro hne w' hw'
    refine hnext w' t h h1 (fun k j hk=> ?_) h3 hw'
    rw[Da _ _ _ hil]
    split
    · rename_i hji
      subst hji
      obtain ⟨e',q1,q2,q3,_⟩:=hch.1 k j hk
      simp only[Nat.sub_zero] at q1
      rw[hei] at q1;injection q1 with q1;subst q1
      rw[hne] at q3;cases q3
    · exact h2 k j hk
  cases hw:e.want with
  | false=>
    simp only[Bool.false_eq_true,if_false]
    have hv:e.r.val.den S ρ w0.heap.size=undef:=by rw[(fno hw).1];rfl
    rw[←hv]
    exact hquiet (by simp[Eb,hw]) w h4
  | true=>
    simp only[if_true]
    left
    obtain ⟨s1,s2,s3'⟩:=fst hw
    have s3:=Gs s3'
    have hagree:Pq S ρ w0.heap.size (Do e.fr) a e.o.op.operands:=by
      intro x hxo
      have hd:x∈Qi (es.map (·.o)) e.o:=by
        unfold Qi
        rw[List.mem_append];left
        rw[List.mem_filterMap]
        exact ⟨.tmp x,by simpa using hxo,rfl⟩
      have:=hlook x hd
      rw[←hat x,←ffr] at this
      rw[Array.getD_eq_getD_getElem?,this]
      unfold Do
      rw[List.getElem?_map,List.getD_eq_getElem?_getD]
      cases e.fr[x]? <;>rfl
    by_cases hne:Eb e=true
    ·
      obtain ⟨k,hk⟩: ∃k,(Bh 0 es)[k]? =some i:=by
        apply List.getElem?_of_mem
        rw[←Me,List.mem_filterMap]
        exact ⟨(e,i),List.mem_zipIdx_iff_getElem?.2 hei,by simp[hne]⟩
      obtain ⟨e',q1,q2,q3,q4,q5⟩:=hch.1 k i hk
      simp only[Nat.sub_zero] at q1
      rw[hei] at q1;injection q1 with q1;subst q1
      have hkt:k=t:=by
        have hnk: ¬k<t:=fun hlt=>by have:=(h2 k i hk).2 hlt;rw[r2] at this;cases this
        rcases Nat.lt_or_ge t k with hlt|hge
        · exfalso
          have hkl:k<(Bh 0 es).length:=(List.getElem?_eq_some_iff.1 hk).1
          have htl:t<(Bh 0 es).length:=by omega
          obtain ⟨j,hj⟩: ∃j,(Bh 0 es)[t]? =some j:=⟨_,List.getElem?_eq_getElem htl⟩
          have hji:j<i:=by
            have:List.Pairwise (· < ·) (Bh 0 es):=by
              unfold Bh
              apply List.Pairwise.filterMap (R:=fun a b=>a.2<b.2)
              · intro a b hab x hx y hy
                split at hx<;>simp at hx
                split at hy<;>simp at hy
                omega
              · rw[List.pairwise_iff_getElem]
                intro p q hp hq hpq
                simp;exact hpq
            rw[List.pairwise_iff_getElem] at this
            have:=this t k htl hkl hlt
            rw[List.getElem?_eq_getElem htl] at hj
            rw[List.getElem?_eq_getElem hkl] at hk
            injection hj with hj;injection hk with hk
            omega
          have:=he hne j (List.mem_of_getElem? hj) hji
          have:=this.elim (hmask j) id
          have:=(h2 t j hj).1 this
          omega
        · omega
      subst hkt
      rw[h3] at q4;injection q4 with q4
      subst q4
      obtain ⟨_,d2⟩:=Sl hsp (o:=e.o) (a:=a) (w:=w) (w0:=w0) s1 s2 s3 hagree h4
      refine d2 _ _ fun w' hw'=> ?_
      refine hnext w' (k+1) e.r.heap (by have:=(List.getElem?_eq_some_iff.1 hk).1;omega) (fun k' j hk'=> ?_) q5 hw'
      rw[Da _ _ _ hil]
      have hnd:(Bh 0 es)[k']? =some j→j=i→k'=k:=by
        intro hk' hji
        subst hji
        have hnk:k'<k∨k'=k∨k<k':=by omega
        rcases hnk with hlt|rfl|hlt
        · exfalso
          have:=(h2 k' j hk').2 hlt
          rw[r2] at this;cases this
        · rfl
        · exfalso
          have:List.Pairwise (· < ·) (Bh 0 es):=by
            unfold Bh
            apply List.Pairwise.filterMap (R:=fun a b=>a.2<b.2)
            · intro a b hab x hx y hy
              split at hx<;>simp at hx
              split at hy<;>simp at hy
              omega
            · rw[List.pairwise_iff_getElem]
              intro p q hp hq hpq
              simp;exact hpq
          rw[List.pairwise_iff_getElem] at this
          have k1:=(List.getElem?_eq_some_iff.1 hk)
          have k2:=(List.getElem?_eq_some_iff.1 hk')
          have:=this k k' k1.1 k2.1 hlt
          omega
      split
      · rename_i hji
        have:=hnd hk' hji
        simp;omega
      · rename_i hji
        rw[h2 k' j hk']
        constructor
        · intro h;omega
        · intro h
          rcases Nat.lt_or_ge k' k with hlt|hge
          · exact hlt
          · exfalso
            have:k'=k:=by omega
            subst this
            rw[hk] at hk';injection hk' with hk';exact hji hk'.symm
    ·
      have hne:Eb e=false:=by simpa using hne
      have hex: ∃r',Gx P specs (Do e.fr) h e.o=some r'∧r'.val=e.r.val∧r'.heap=h∧Dx S ρ r'.need:=by
        rcases hok with hok|hok
        · obtain ⟨c1,c2⟩:=Xp 0 hchain hok
          have hh0:h=h0:=by
            have ht0:t=0:=by rw[hok] at h1;simpa using h1
            rw[ht0] at h3
            unfold Eo at h3
            simpa using h3.symm
          obtain ⟨q1,q2,_⟩:=fst hw
          obtain ⟨q3,q4⟩:=c2 i e hei
          rw[hh0,←q3]
          exact ⟨e.r,q1,rfl,by rw[q4,q3],q2⟩
        · have hx:=hok
          rw[List.all_eq_true] at hx
          have hx1:=hx (e,i) (List.mem_zipIdx_iff_getElem?.2 hei)
          simp only[hw,hne,Bool.not_true,Bool.or_false,Bool.false_or] at hx1
          rw[List.all_eq_true] at hx1
          have hx2:=hx1 (h,t) (List.mem_zipIdx_iff_getElem?.2 h3)
          simp only[Bool.or_eq_true,decide_eq_true_eq,Me] at hx2
          have hsame:Xw P specs e (es.flatMap (·.r.need)) h=true:=by
            rcases hx2 with (hlo|hhi)|hs
            · exfalso
              have hlo2:t<((Bh 0 es).filter (fun j=>((Ex (es.map (·.o))).getD i 0).testBit j)).length:=of_decide_eq_true hlo
              have:=ja6 (fun j=>((Ex (es.map (·.o))).getD i 0).testBit j) (Bh 0 es) t (fun k j hk hj=>(h2 k j hk).1 (hmask j hj))
              omega
            · exfalso
              have hhi2:((Bh 0 es).filter (fun j=> !((Ex (es.map (·.o))).getD j 0).testBit i)).length<t:=of_decide_eq_true hhi
              have:=jat (fun j=> !((Ex (es.map (·.o))).getD j 0).testBit i) (Bh 0 es) t h1 (fun k j hk hkt=>by
                have hjl:=(h2 k j hk).2 hkt
                cases hbit:((Ex (es.map (·.o))).getD j 0).testBit i with
                | false=>rfl
                | true=>
                  exfalso
                  obtain ⟨e',q1,_⟩:=hch.1 k j hk
                  simp only[Nat.sub_zero] at q1
                  have hoj:(es.map (·.o))[j]? =some e'.o:=by simp[q1]
                  have:=Ds hb hm.closed j e'.o hoj (fun x h1 h2=>hm.closed j e'.o hoj hjl x h1 h2) i hbit
                  rw[r2] at this;cases this)
              omega
            · exact hs
          unfold Xw at hsame
          split at hsame
          · rename_i r' hr'
            simp only[Bool.and_eq_true,beq_iff_eq] at hsame
            obtain ⟨⟨v1,v2⟩,v3⟩:=hsame
            have hmet:Dx S ρ r'.need:=by
              intro x hx
              rw[List.all_eq_true] at v3
              exact hneed x (List.contains_iff_mem.1 (v3 x hx))
            exact ⟨r',hr',v1,v2,hmet⟩
          · cases hsame
      obtain ⟨r',hr',v1,v2,hmet⟩:=hex
      obtain ⟨_,d2⟩:=Sl hsp (o:=e.o) (a:=a) (w:=w) (w0:=w0) hr' hmet s3 hagree h4
      refine d2 _ _ fun w' hw'=> ?_
      rw[v1]
      rw[v2] at hw'
      exact hquiet hne w' hw'
theorem jeg(hsp: ∀f s,specs f=some s→Ei P S f s){h0:Hp}{es:List Fs}{init:List Value}{hl:Hp}(hst:Dr (es.map (·.o))=true)(hok:Rh P specs h0 es=true)(hchain:Je h0 es hl)
    (hneed:Dx S ρ (es.flatMap (·.r.need))){i:Nat}{e:Fs}(hei:es[i]? =some e)
    (ffr:e.fr.map (SR.den S ρ w0.heap.size)=Cd (fun j=>decide (j<i)) 0 (Bj S ρ w0.heap.size es) init)
    (fwant:Region.wanted e.o (yielded (es.map (·.o)).toArray (Cd (fun j=>decide (j<i)) 0 (Bj S ρ w0.heap.size es) init).toArray)=e.want)
    (fst:e.want=true→Gx P specs (Do e.fr) e.heap e.o=some e.r∧Dx S ρ e.r.need∧ ∀x∈e.fr,x.wf S ρ)(fno:e.want=false→e.r.val=.v (.one .undef)∧e.r.need=[])
    {listed:Array Bool}{a:Act}{w:World}(hm:Mid S ρ w0 h0 es init listed a w)(hi:i∈Region.ready .any (es.map (·.o)).toArray listed){K:Act→World→Prop}{Q:Exit→Act→World→Prop}
    (hK: ∀a' w',Mid S ρ w0 h0 es init (listed.setIfInBounds i true) a' w'→K a' w'):wpOp P (es.map (·.o)).toArray Q i K a w:=by
  unfold Rh at hok
  simp only[Bool.or_eq_true,Bool.and_eq_true,List.isEmpty_iff] at hok
  rw[Me] at hok
  refine Nc hsp hst (hok.imp id fun h=>h.2) hchain hneed hei ffr fwant fst fno (fun hne j hj hji=>.inl ?_) hm hi hK
  have hmem:i∈Bh 0 es:=by
    rw[←Me,List.mem_filterMap]
    exact ⟨(e,i),List.mem_zipIdx_iff_getElem?.2 hei,by simp[hne]⟩
  rcases hok with h|h
  · rw[h] at hj;cases hj
  · have he:=List.all_eq_true.1 (List.all_eq_true.1 h.1 j hj) i hmem
    simpa [hji] using he
set_option maxHeartbeats 1000000 in
theorem qae(hsp: ∀f s,specs f=some s→Ei P S f s){h0:Hp}{es:List Fs}{init:List Value}{hl:Hp}(sh:Td P specs S ρ w0.heap.size h0 es init hl)(hst:Dr (es.map (·.o))=true)(hok:Rh P specs h0 es=true)
    {Q:Exit→Act→World→Prop}(hQ: ∀a w,a.tmps.toList=Cd (fun _=>true) 0 (Bj S ρ w0.heap.size es) init→a.defers=[]→Cv S ρ w0 hl w→Q .normal a w):
    ∀(fuel:Nat) (listed:Array Bool) (a:Act) (w:World),Mid S ρ w0 h0 es init listed a w→((List.range es.length).filter fun i=> !listed.getD i false).length≤fuel→
      wpAny P .any (es.map (·.o)).toArray Q fuel listed a w:=by
  have hst0:=hst
  have hok0:=hok
  unfold Dr at hst
  simp only[Bool.and_eq_true] at hst
  obtain ⟨hb,ht⟩:=hst
  unfold Rh at hok
  simp only[Bool.or_eq_true,Bool.and_eq_true,List.isEmpty_iff] at hok
  rw[Me] at hok
  have he:((Bh 0 es).all fun i=>(Bh 0 es).all fun j=> !(i<j)||((Ex (es.map (·.o))).getD j 0).testBit i)=true:=by
    rcases hok with h|h
    · rw[h];rfl
    · exact h.1
  have hstop: ∀(listed:Array Bool) (a:Act) (w:World),Mid S ρ w0 h0 es init listed a w→Region.ready .any (es.map (·.o)).toArray listed=[]→Q .normal a w:=by
    intro listed a w hm hr
    have hall:=Yt (ops:=es.map (·.o)) (by simpa using hm.size) hb hr
    obtain ⟨t,h,h1,h2,h3,h4⟩:=hm.heap
    refine hQ a w ?_ hm.defers ?_
    · rw[hm.fr]
      apply List.ext_getElem?
      intro s
      apply Ki _ _ _ _ rfl rfl
      intro i e hi _
      obtain ⟨e',hi',_⟩:=Jm hi
      simp only[Nat.zero_add]
      exact hall i (by simpa using (List.getElem?_eq_some_iff.1 hi').1)
    · have htl:t=(Bh 0 es).length:=by
        rcases Nat.lt_or_ge t (Bh 0 es).length with hlt|hge
        · have hi:=h2 t _ (List.getElem?_eq_getElem hlt)
          obtain ⟨e',q1,_⟩:=(Gc 0 sh.chain).1 t _ (List.getElem?_eq_getElem hlt)
          have:=hi.1 (hall _ (by simpa using (List.getElem?_eq_some_iff.1 q1).1))
          omega
        · omega
      have:=(Gc 0 sh.chain).2.1
      rw[←htl,h3] at this
      injection this with this
      rw[←this];exact h4
  intro fuel
  induction fuel with
  | zero=>
    intro listed a w hm hf
    have hr:Region.ready .any (es.map (·.o)).toArray listed=[]:=by
      rw[List.eq_nil_iff_forall_not_mem]
      intro i hi
      obtain ⟨r1,r2,_⟩:=Fr hi
      have r1:i<es.length:=by simpa using r1
      rw[Jy _ _ (by rw[hm.size];exact r1)] at r2
      have:i∈(List.range es.length).filter fun i=> !listed.getD i false:=by
        rw[List.mem_filter];exact ⟨List.mem_range.2 r1,by rw[r2];rfl⟩
      have:=List.length_pos_of_mem this
      omega
    exact ⟨hr,hstop listed a w hm hr⟩
  | succ fuel ih=>
    intro listed a w hm hf
    refine ⟨hstop listed a w hm,fun i hi=> ?_⟩
    obtain ⟨r1,r2,r3⟩:=Fr hi
    have r1':i<es.length:=by simpa using r1
    have hil:i<listed.size:=by rw[hm.size];exact r1'
    rw[Jy _ _ hil] at r2
    obtain ⟨e,hei⟩: ∃e,es[i]? =some e:=⟨_,List.getElem?_eq_getElem r1'⟩
    refine jeg hsp hst0 hok0 sh.chain sh.met hei (sh.fr i e hei) (sh.want i e hei) (sh.st i e hei) (sh.no i e hei) hm hi fun a' w' hm'=>ih _ _ _ hm' ?_
    have:((List.range es.length).filter fun j=> !(listed.setIfInBounds i true).getD j false).length<((List.range es.length).filter fun j=> !listed.getD j false).length:=by
          have e1:((List.range es.length).filter fun j=> !(listed.setIfInBounds i true).getD j false)=((List.range es.length).filter fun j=> !listed.getD j false).filter fun j=>j !=i:=by
            rw[List.filter_filter]
            apply List.filter_congr
            intro j _
            rw[Da _ _ _ hil]
            by_cases hji:j=i
            · subst hji;simp
            · simp[hji]
          rw[e1]
          have hmem:i∈(List.range es.length).filter fun j=> !listed.getD j false:=by
            rw[List.mem_filter];exact ⟨List.mem_range.2 r1',by rw[r2];rfl⟩
          exact List.length_filter_lt_length_iff_exists.2 ⟨i,hmem,by simp⟩
    omega
end
structure Cg(ns:Nat)(na:Nat)(ρ ρ':Et):Prop where
  i: ∀k,k<ns→ρ'.i k=ρ.i k
  b: ∀k,k<ns→ρ'.b k=ρ.b k
  a: ∀k,k<ns→ρ'.a k=ρ.a k
  v: ∀k,k<ns→ρ'.v k=ρ.v k
  j: ∀k,k<ns→ρ'.j k=ρ.j k
  blk: ∀k,k<ns→ρ'.blk k=ρ.blk k
  off: ∀k,k<ns→ρ'.off k=ρ.off k
  vs: ∀k,k<ns→ρ'.vs k=ρ.vs k
  nb: ∀k,k<na→ρ'.nb k=ρ.nb k
  loose:ρ'.loose=ρ.loose
theorem Cg.rfl'(ns na:Nat)(ρ:Et):Cg ns na ρ ρ:=⟨fun _ _=>rfl,fun _ _=>rfl,fun _ _=>rfl,fun _ _=>rfl,fun _ _=>rfl,fun _ _=>rfl,fun _ _=>rfl,fun _ _=>rfl,fun _ _=>rfl,rfl⟩
theorem Cg.trans{ns ms:Nat}{na nc:Nat}{ρ ρ1 ρ2:Et}(h:Cg ns na ρ ρ1)(g:Cg ms nc ρ1 ρ2)(hm:ns≤ms)(hn:na≤nc):Cg ns na ρ ρ2:=
  ⟨fun k hk=>(g.i k (by omega)).trans (h.i k hk),fun k hk=>(g.b k (by omega)).trans (h.b k hk),fun k hk=>(g.a k (by omega)).trans (h.a k hk),fun k hk=>(g.v k (by omega)).trans (h.v k hk),
   fun k hk=>(g.j k (by omega)).trans (h.j k hk),fun k hk=>(g.blk k (by omega)).trans (h.blk k hk),fun k hk=>(g.off k (by omega)).trans (h.off k hk),fun k hk=>(g.vs k (by omega)).trans (h.vs k hk),
   fun k hk=>(g.nb k (by omega)).trans (h.nb k hk),g.loose.trans h.loose⟩
theorem Cg.weaken{ns ms:Nat}{na nc:Nat}{ρ ρ1:Et}(h:Cg ns na ρ ρ1)(hm:ms≤ns)(hn:nc≤na):Cg ms nc ρ ρ1:=
  ⟨fun k hk=>h.i k (by omega),fun k hk=>h.b k (by omega),fun k hk=>h.a k (by omega),fun k hk=>h.v k (by omega),fun k hk=>h.j k (by omega),fun k hk=>h.blk k (by omega),fun k hk=>h.off k (by omega),fun k hk=>h.vs k (by omega),fun k hk=>h.nb k (by omega),h.loose⟩
section
variable {S:Hw} {ρ ρ':Et} {ns:Nat} {na:Nat} {B:Nat}
theorem T.clear_den(hA:Cg ns na ρ ρ'){t:T}(hc:t.clear ns=true):t.I S ρ'=t.I S ρ∧t.B S ρ'=t.B S ρ∧t.A S ρ'=t.A S ρ:=by
  rw[T.clear_eq] at hc
  induction t with
  | lit q0=>exact ⟨rfl,rfl,rfl⟩
  | tt=>exact ⟨rfl,rfl,rfl⟩
  | ff=>exact ⟨rfl,rfl,rfl⟩
  | iv q0=>
    have hq:q0<ns:=Nat.le_of_ble_eq_true hc
    exact ⟨by simp only[T.I,hA.i q0 hq],by simp only[T.B],by simp only[T.A]⟩
  | bv q0=>
    have hq:q0<ns:=Nat.le_of_ble_eq_true hc
    exact ⟨by simp only[T.I],by simp only[T.B,hA.b q0 hq],by simp only[T.A]⟩
  | av q0=>
    have hq:q0<ns:=Nat.le_of_ble_eq_true hc
    exact ⟨by simp only[T.I],by simp only[T.B],by simp only[T.A,hA.a q0 hq]⟩
  | add a0 a1 h0 h1=>
    simp only[T.clearI,Bool.and_eq_true] at hc
    obtain ⟨c0,c1⟩:=hc
    obtain ⟨i0,b0,l0⟩:=h0 c0
    obtain ⟨i1,b1,l1⟩:=h1 c1
    refine ⟨?_,?_,?_⟩<;>simp only[T.I,T.B,T.A,i0,b0,l0,i1,b1,l1]
  | sub a0 a1 h0 h1=>
    simp only[T.clearI,Bool.and_eq_true] at hc
    obtain ⟨c0,c1⟩:=hc
    obtain ⟨i0,b0,l0⟩:=h0 c0
    obtain ⟨i1,b1,l1⟩:=h1 c1
    refine ⟨?_,?_,?_⟩<;>simp only[T.I,T.B,T.A,i0,b0,l0,i1,b1,l1]
  | mul a0 a1 h0 h1=>
    simp only[T.clearI,Bool.and_eq_true] at hc
    obtain ⟨c0,c1⟩:=hc
    obtain ⟨i0,b0,l0⟩:=h0 c0
    obtain ⟨i1,b1,l1⟩:=h1 c1
    refine ⟨?_,?_,?_⟩<;>simp only[T.I,T.B,T.A,i0,b0,l0,i1,b1,l1]
  | wrap q0 a0 h0=>
    simp only[T.clearI,Bool.and_eq_true] at hc
    have c0:=hc
    obtain ⟨i0,b0,l0⟩:=h0 c0
    refine ⟨?_,?_,?_⟩<;>simp only[T.I,T.B,T.A,i0,b0,l0]
  | tdiv a0 a1 h0 h1=>
    simp only[T.clearI,Bool.and_eq_true] at hc
    obtain ⟨c0,c1⟩:=hc
    obtain ⟨i0,b0,l0⟩:=h0 c0
    obtain ⟨i1,b1,l1⟩:=h1 c1
    refine ⟨?_,?_,?_⟩<;>simp only[T.I,T.B,T.A,i0,b0,l0,i1,b1,l1]
  | tmod a0 a1 h0 h1=>
    simp only[T.clearI,Bool.and_eq_true] at hc
    obtain ⟨c0,c1⟩:=hc
    obtain ⟨i0,b0,l0⟩:=h0 c0
    obtain ⟨i1,b1,l1⟩:=h1 c1
    refine ⟨?_,?_,?_⟩<;>simp only[T.I,T.B,T.A,i0,b0,l0,i1,b1,l1]
  | shl q0 a0 a1 h0 h1=>
    simp only[T.clearI,Bool.and_eq_true] at hc
    obtain ⟨c0,c1⟩:=hc
    obtain ⟨i0,b0,l0⟩:=h0 c0
    obtain ⟨i1,b1,l1⟩:=h1 c1
    refine ⟨?_,?_,?_⟩<;>simp only[T.I,T.B,T.A,i0,b0,l0,i1,b1,l1]
  | shr q0 a0 a1 h0 h1=>
    simp only[T.clearI,Bool.and_eq_true] at hc
    obtain ⟨c0,c1⟩:=hc
    obtain ⟨i0,b0,l0⟩:=h0 c0
    obtain ⟨i1,b1,l1⟩:=h1 c1
    refine ⟨?_,?_,?_⟩<;>simp only[T.I,T.B,T.A,i0,b0,l0,i1,b1,l1]
  | bits q0 q1 a0 a1 h0 h1=>
    simp only[T.clearI,Bool.and_eq_true] at hc
    obtain ⟨c0,c1⟩:=hc
    obtain ⟨i0,b0,l0⟩:=h0 c0
    obtain ⟨i1,b1,l1⟩:=h1 c1
    refine ⟨?_,?_,?_⟩<;>simp only[T.I,T.B,T.A,i0,b0,l0,i1,b1,l1]
  | mx a0 a1 h0 h1=>
    simp only[T.clearI,Bool.and_eq_true] at hc
    obtain ⟨c0,c1⟩:=hc
    obtain ⟨i0,b0,l0⟩:=h0 c0
    obtain ⟨i1,b1,l1⟩:=h1 c1
    refine ⟨?_,?_,?_⟩<;>simp only[T.I,T.B,T.A,i0,b0,l0,i1,b1,l1]
  | mn a0 a1 h0 h1=>
    simp only[T.clearI,Bool.and_eq_true] at hc
    obtain ⟨c0,c1⟩:=hc
    obtain ⟨i0,b0,l0⟩:=h0 c0
    obtain ⟨i1,b1,l1⟩:=h1 c1
    refine ⟨?_,?_,?_⟩<;>simp only[T.I,T.B,T.A,i0,b0,l0,i1,b1,l1]
  | eq a0 a1 h0 h1=>
    simp only[T.clearI,Bool.and_eq_true] at hc
    obtain ⟨c0,c1⟩:=hc
    obtain ⟨i0,b0,l0⟩:=h0 c0
    obtain ⟨i1,b1,l1⟩:=h1 c1
    refine ⟨?_,?_,?_⟩<;>simp only[T.I,T.B,T.A,i0,b0,l0,i1,b1,l1]
  | lt a0 a1 h0 h1=>
    simp only[T.clearI,Bool.and_eq_true] at hc
    obtain ⟨c0,c1⟩:=hc
    obtain ⟨i0,b0,l0⟩:=h0 c0
    obtain ⟨i1,b1,l1⟩:=h1 c1
    refine ⟨?_,?_,?_⟩<;>simp only[T.I,T.B,T.A,i0,b0,l0,i1,b1,l1]
  | le a0 a1 h0 h1=>
    simp only[T.clearI,Bool.and_eq_true] at hc
    obtain ⟨c0,c1⟩:=hc
    obtain ⟨i0,b0,l0⟩:=h0 c0
    obtain ⟨i1,b1,l1⟩:=h1 c1
    refine ⟨?_,?_,?_⟩<;>simp only[T.I,T.B,T.A,i0,b0,l0,i1,b1,l1]
  | beq a0 a1 h0 h1=>
    simp only[T.clearI,Bool.and_eq_true] at hc
    obtain ⟨c0,c1⟩:=hc
    obtain ⟨i0,b0,l0⟩:=h0 c0
    obtain ⟨i1,b1,l1⟩:=h1 c1
    refine ⟨?_,?_,?_⟩<;>simp only[T.I,T.B,T.A,i0,b0,l0,i1,b1,l1]
  | not a0 h0=>
    simp only[T.clearI,Bool.and_eq_true] at hc
    have c0:=hc
    obtain ⟨i0,b0,l0⟩:=h0 c0
    refine ⟨?_,?_,?_⟩<;>simp only[T.I,T.B,T.A,i0,b0,l0]
  | and a0 a1 h0 h1=>
    simp only[T.clearI,Bool.and_eq_true] at hc
    obtain ⟨c0,c1⟩:=hc
    obtain ⟨i0,b0,l0⟩:=h0 c0
    obtain ⟨i1,b1,l1⟩:=h1 c1
    refine ⟨?_,?_,?_⟩<;>simp only[T.I,T.B,T.A,i0,b0,l0,i1,b1,l1]
  | or a0 a1 h0 h1=>
    simp only[T.clearI,Bool.and_eq_true] at hc
    obtain ⟨c0,c1⟩:=hc
    obtain ⟨i0,b0,l0⟩:=h0 c0
    obtain ⟨i1,b1,l1⟩:=h1 c1
    refine ⟨?_,?_,?_⟩<;>simp only[T.I,T.B,T.A,i0,b0,l0,i1,b1,l1]
  | ite a0 a1 a2 h0 h1 h2=>
    simp only[T.clearI,Bool.and_eq_true] at hc
    obtain ⟨c0,c1,c2⟩:=hc
    obtain ⟨i0,b0,l0⟩:=h0 c0
    obtain ⟨i1,b1,l1⟩:=h1 c1
    obtain ⟨i2,b2,l2⟩:=h2 c2
    refine ⟨?_,?_,?_⟩<;>simp only[T.I,T.B,T.A,i0,b0,l0,i1,b1,l1,i2,b2,l2]
  | bite a0 a1 a2 h0 h1 h2=>
    simp only[T.clearI,Bool.and_eq_true] at hc
    obtain ⟨c0,c1,c2⟩:=hc
    obtain ⟨i0,b0,l0⟩:=h0 c0
    obtain ⟨i1,b1,l1⟩:=h1 c1
    obtain ⟨i2,b2,l2⟩:=h2 c2
    refine ⟨?_,?_,?_⟩<;>simp only[T.I,T.B,T.A,i0,b0,l0,i1,b1,l1,i2,b2,l2]
  | len a0 h0=>
    simp only[T.clearI,Bool.and_eq_true] at hc
    have c0:=hc
    obtain ⟨i0,b0,l0⟩:=h0 c0
    refine ⟨?_,?_,?_⟩<;>simp only[T.I,T.B,T.A,i0,b0,l0]
  | get a0 a1 h0 h1=>
    simp only[T.clearI,Bool.and_eq_true] at hc
    obtain ⟨c0,c1⟩:=hc
    obtain ⟨i0,b0,l0⟩:=h0 c0
    obtain ⟨i1,b1,l1⟩:=h1 c1
    refine ⟨?_,?_,?_⟩<;>simp only[T.I,T.B,T.A,i0,b0,l0,i1,b1,l1]
  | set a0 a1 a2 h0 h1 h2=>
    simp only[T.clearI,Bool.and_eq_true] at hc
    obtain ⟨c0,c1,c2⟩:=hc
    obtain ⟨i0,b0,l0⟩:=h0 c0
    obtain ⟨i1,b1,l1⟩:=h1 c1
    obtain ⟨i2,b2,l2⟩:=h2 c2
    refine ⟨?_,?_,?_⟩<;>simp only[T.I,T.B,T.A,i0,b0,l0,i1,b1,l1,i2,b2,l2]
  | rep a0 a1 h0 h1=>
    simp only[T.clearI,Bool.and_eq_true] at hc
    obtain ⟨c0,c1⟩:=hc
    obtain ⟨i0,b0,l0⟩:=h0 c0
    obtain ⟨i1,b1,l1⟩:=h1 c1
    refine ⟨?_,?_,?_⟩<;>simp only[T.I,T.B,T.A,i0,b0,l0,i1,b1,l1]
  | cut a0 a1 a2 h0 h1 h2=>
    simp only[T.clearI,Bool.and_eq_true] at hc
    obtain ⟨c0,c1,c2⟩:=hc
    obtain ⟨i0,b0,l0⟩:=h0 c0
    obtain ⟨i1,b1,l1⟩:=h1 c1
    obtain ⟨i2,b2,l2⟩:=h2 c2
    refine ⟨?_,?_,?_⟩<;>simp only[T.I,T.B,T.A,i0,b0,l0,i1,b1,l1,i2,b2,l2]
  | alit q0=>exact ⟨rfl,rfl,rfl⟩
  | splice a0 a1 a2 h0 h1 h2=>
    simp only[T.clearI,Bool.and_eq_true] at hc
    obtain ⟨c0,c1,c2⟩:=hc
    obtain ⟨i0,b0,l0⟩:=h0 c0
    obtain ⟨i1,b1,l1⟩:=h1 c1
    obtain ⟨i2,b2,l2⟩:=h2 c2
    refine ⟨?_,?_,?_⟩<;>simp only[T.I,T.B,T.A,i0,b0,l0,i1,b1,l1,i2,b2,l2]
  | aeq a0 a1 h0 h1=>
    simp only[T.clearI,Bool.and_eq_true] at hc
    obtain ⟨c0,c1⟩:=hc
    obtain ⟨i0,b0,l0⟩:=h0 c0
    obtain ⟨i1,b1,l1⟩:=h1 c1
    refine ⟨?_,?_,?_⟩<;>simp only[T.I,T.B,T.A,i0,b0,l0,i1,b1,l1]
  | fi q0 a0 a1 a2 a3 a4 a5 a6 a7 h0 h1 h2 h3 h4 h5 h6 h7=>
    simp only[T.clearI,Bool.and_eq_true] at hc
    obtain ⟨c0,c1,c2,c3,c4,c5,c6,c7⟩:=hc
    obtain ⟨i0,b0,l0⟩:=h0 c0
    obtain ⟨i1,b1,l1⟩:=h1 c1
    obtain ⟨i2,b2,l2⟩:=h2 c2
    obtain ⟨i3,b3,l3⟩:=h3 c3
    obtain ⟨i4,b4,l4⟩:=h4 c4
    obtain ⟨i5,b5,l5⟩:=h5 c5
    obtain ⟨i6,b6,l6⟩:=h6 c6
    obtain ⟨i7,b7,l7⟩:=h7 c7
    refine ⟨?_,?_,?_⟩<;>simp only[T.I,T.B,T.A,i0,b0,l0,i1,b1,l1,i2,b2,l2,i3,b3,l3,i4,b4,l4,i5,b5,l5,i6,b6,l6,i7,b7,l7]
  | fb q0 a0 a1 a2 a3 a4 a5 a6 a7 h0 h1 h2 h3 h4 h5 h6 h7=>
    simp only[T.clearI,Bool.and_eq_true] at hc
    obtain ⟨c0,c1,c2,c3,c4,c5,c6,c7⟩:=hc
    obtain ⟨i0,b0,l0⟩:=h0 c0
    obtain ⟨i1,b1,l1⟩:=h1 c1
    obtain ⟨i2,b2,l2⟩:=h2 c2
    obtain ⟨i3,b3,l3⟩:=h3 c3
    obtain ⟨i4,b4,l4⟩:=h4 c4
    obtain ⟨i5,b5,l5⟩:=h5 c5
    obtain ⟨i6,b6,l6⟩:=h6 c6
    obtain ⟨i7,b7,l7⟩:=h7 c7
    refine ⟨?_,?_,?_⟩<;>simp only[T.I,T.B,T.A,i0,b0,l0,i1,b1,l1,i2,b2,l2,i3,b3,l3,i4,b4,l4,i5,b5,l5,i6,b6,l6,i7,b7,l7]
  | fa q0 a0 a1 a2 a3 a4 a5 a6 a7 h0 h1 h2 h3 h4 h5 h6 h7=>
    simp only[T.clearI,Bool.and_eq_true] at hc
    obtain ⟨c0,c1,c2,c3,c4,c5,c6,c7⟩:=hc
    obtain ⟨i0,b0,l0⟩:=h0 c0
    obtain ⟨i1,b1,l1⟩:=h1 c1
    obtain ⟨i2,b2,l2⟩:=h2 c2
    obtain ⟨i3,b3,l3⟩:=h3 c3
    obtain ⟨i4,b4,l4⟩:=h4 c4
    obtain ⟨i5,b5,l5⟩:=h5 c5
    obtain ⟨i6,b6,l6⟩:=h6 c6
    obtain ⟨i7,b7,l7⟩:=h7 c7
    refine ⟨?_,?_,?_⟩<;>simp only[T.I,T.B,T.A,i0,b0,l0,i1,b1,l1,i2,b2,l2,i3,b3,l3,i4,b4,l4,i5,b5,l5,i6,b6,l6,i7,b7,l7]
theorem Cl.clear_den(hA:Cg ns na ρ ρ'){r:Cl}(hc:r.clear ns na=true):r.blk ρ' B=r.blk ρ B∧r.off ρ'=r.off ρ:=by
  cases r with
  | old n=>
    simp only[Cl.clear] at hc
    exact ⟨hA.blk n (Nat.le_of_ble_eq_true hc),rfl⟩
  | new k=>
    simp only[Cl.clear] at hc
    have:=Nat.le_of_ble_eq_true hc
    exact ⟨by simp only[Cl.blk,hA.nb k this],rfl⟩
  | glob g=>exact ⟨rfl,rfl⟩
  | ro n=>
    simp only[Cl.clear] at hc
    exact ⟨hA.blk n (Nat.le_of_ble_eq_true hc),hA.off n (Nat.le_of_ble_eq_true hc)⟩
  | own n=>
    simp only[Cl.clear] at hc
    exact ⟨by simp only[Cl.blk,hA.blk n (Nat.le_of_ble_eq_true hc)],rfl⟩
theorem Aw.clear_den(hA:Cg ns na ρ ρ'): ∀{l:Aw},l.clear ns na=true→l.den S ρ' B=l.den S ρ B
  | .int k t,hc=>by simp only[Aw.den,(T.clear_den (S:=S) hA (t:=t) hc).1]
  | .bool t,hc=>by simp only[Aw.den,(T.clear_den (S:=S) hA (t:=t) hc).2.1]
  | .ptr r s d,hc=>by
    simp only[Aw.clear,Bool.and_eq_true] at hc
    simp only[Aw.den,Cw,(Cl.clear_den hA hc.1).1,(Cl.clear_den hA (B:=B) hc.1).2,(T.clear_den (S:=S) hA hc.2).1]
  | .sl r s d n c,hc=>by
    simp only[Aw.clear,Bool.and_eq_true] at hc
    simp only[Aw.den,Cw,(Cl.clear_den hA hc.1).1,(Cl.clear_den hA (B:=B) hc.1).2,(T.clear_den (S:=S) hA hc.2.1).1,(T.clear_den (S:=S) hA hc.2.2.1).1,(T.clear_den (S:=S) hA hc.2.2.2).1]
  | .nilp,_=>rfl
  | .nils,_=>rfl
  | .nilI,_=>rfl
  | .str _,_=>rfl
  | .fn _,_=>rfl
  | .iface t x,hc=>by simp only[Aw.den];rw[Aw.clear_den hA (l:=x) hc]
  | .undef,_=>rfl
  | .junk n,hc=>by
    simp only[Aw.clear] at hc
    exact hA.j n (Nat.le_of_ble_eq_true hc)
  | .val n,hc=>by
    simp only[Aw.clear] at hc
    exact hA.v n (Nat.le_of_ble_eq_true hc)
theorem Cp.clear_den(hA:Cg ns na ρ ρ'){g:Cp}(hc:g.clear ns na=true):g.den S ρ' B=g.den S ρ B∧(g.wf S ρ'↔g.wf S ρ):=by
  cases g with
  | cells l=>
    simp only[Cp.clear,List.all_eq_true] at hc
    exact ⟨List.map_congr_left fun x hx=>Aw.clear_den hA (hc x hx),Iff.rfl⟩
  | arr k a n=>
    have:=(T.clear_den (S:=S) hA (t:=a) hc).2.2
    exact ⟨by simp only[Cp.den,this],by simp only[Cp.wf,this]⟩
  | arrD k a=>
    have:=(T.clear_den (S:=S) hA (t:=a) hc).2.2
    exact ⟨by simp only[Cp.den,this],Iff.rfl⟩
  | bar a n=>
    have:=(T.clear_den (S:=S) hA (t:=a) hc).2.2
    exact ⟨by simp only[Cp.den,this],by simp only[Cp.wf,this]⟩
  | junk n=>
    simp only[Cp.clear] at hc
    exact ⟨hA.vs n (Nat.le_of_ble_eq_true hc),Iff.rfl⟩
  | tail z n=>
    simp only[Cp.clear,Bool.and_eq_true,List.all_eq_true] at hc
    refine ⟨?_,Iff.rfl⟩
    simp only[Cp.den,(T.clear_den (S:=S) hA hc.2).1]
    rw[List.map_congr_left fun x hx=>Aw.clear_den (S:=S) (B:=B) hA (hc.1 x hx)]
theorem Dv(hA:Cg ns na ρ ρ'){l:List Cp}(hc:l.all (Cp.clear ns na)=true):Av S ρ' B l=Av S ρ B l∧(Cm S ρ l→Cm S ρ' l):=by
  rw[List.all_eq_true] at hc
  constructor
  · unfold Av
    induction l with
    | nil=>rfl
    | cons g l ih=>
      simp only[List.flatMap_cons]
      rw[(Cp.clear_den hA (hc g (by simp))).1,ih fun x hx=>hc x (by simp[hx])]
  · intro h g hg
    exact (Cp.clear_den (B:=B) hA (hc g hg)).2.2 (h g hg)
theorem SV.clear_den(hA:Cg ns na ρ ρ'){x:SV}(hc:x.clear ns na=true):x.den S ρ' B=x.den S ρ B∧(x.wf S ρ→x.wf S ρ'):=by
  cases x with
  | one l=>exact ⟨Aw.clear_den hA hc,fun h=>h⟩
  | agg g=>exact ⟨by simp only[SV.den,(Dv (S:=S) (B:=B) hA hc).1],(Dv (S:=S) (B:=B) hA hc).2⟩
theorem SR.clear_den(hA:Cg ns na ρ ρ'): ∀{x:SR},x.clear ns na=true→x.den S ρ' B=x.den S ρ B∧(x.wf S ρ→x.wf S ρ')
  | .v x,hc=>SV.clear_den hA hc
  | .tup l,hc=>by
    simp only[SR.clear,List.all_eq_true] at hc
    refine ⟨?_,fun h y hy=>(SV.clear_den (B:=B) hA (hc y hy)).2 (h y hy)⟩
    simp only[SR.den]
    rw[List.map_congr_left fun y hy=>(SV.clear_den (S:=S) (B:=B) hA (hc y hy)).1]
  | .ite c x y,hc=>by
    simp only[SR.clear,Bool.and_eq_true] at hc
    obtain ⟨c1,c2,c3⟩:=hc
    have h1:=(T.clear_den (S:=S) hA c1).2.1
    have h2:=SR.clear_den hA (x:=x) c2
    have h3:=SR.clear_den hA (x:=y) c3
    refine ⟨by simp only[SR.den,h1,h2.1,h3.1],fun h=>⟨fun hb=>h2.2 (h.1 (h1▸hb)),fun hb=>h3.2 (h.2 (h1▸hb))⟩⟩
theorem Ot(hA:Cg ns na ρ ρ'){l:List T}(hc:l.all (T.clear ns)=true)(h:Dx S ρ l):Dx S ρ' l:=by
  rw[List.all_eq_true] at hc
  intro t ht
  rw[(T.clear_den (S:=S) hA (hc t ht)).2.1];exact h t ht
end
def Xs(P:Program)(c:Code)(Q:Exit→Act→World→Prop)(a:Act)(w:World):Prop:=
  ∀b k cs,∃e a' w',Q e a' w'∧Arrives P (lone (b.at a (.code c:: .inLoop c::k)) cs w) b k cs e a' w'
theorem jc4{P:Program}{c:Code}{Q:Exit→Act→World→Prop}{a:Act}{w:World}(h:c.wp P (Exit.then (Xs P c Q) Q) a w):Xs P c Q a w:=by
  intro b k cs
  obtain ⟨e,a₁,w₁,hq,harr⟩:=h b (.inLoop c::k) cs
  cases e with
  | normal=>
    obtain ⟨e₂,a₂,w₂,hq₂,harr₂⟩:=hq b k cs
    exact ⟨e₂,a₂,w₂,hq₂,.of_steps (Steps.trans harr (.one step_inLoop)) harr₂⟩
  | exit id=>exact ⟨_,a₁,w₁,hq,.pass (x:=.inLoop c) rfl (fun _ _=>.inl (by simp)) harr⟩
  | goto l=>exact ⟨_,a₁,w₁,hq,.pass (x:=.inLoop c) rfl (fun _ _=>.inl (by simp)) harr⟩
  | ret=>exact ⟨_,a₁,w₁,hq,.pass (x:=.inLoop c) rfl (fun _ _=>.inl (by simp)) harr⟩
  | panic ch=>exact ⟨_,a₁,w₁,hq,.pass (x:=.inLoop c) rfl (fun _ _=>.inl (by simp)) harr⟩
  | outgrown=>exact ⟨_,a₁,w₁,hq,.pass (x:=.inLoop c) rfl (fun _ _=>.inl (by simp)) harr⟩
theorem jj1{P:Program}{c:Code}{Q:Exit→Act→World→Prop}{a:Act}{w:World}(h:Xs P c Q a w):(Code.loop c).wp P Q a w:=by
  intro b k cs
  obtain ⟨e,a',w',hq,harr⟩:=h b k cs
  exact ⟨e,a',w',hq,.of_steps (.one step_loop) harr⟩
def Wz(P:Program)(Q:Exit→Act→World→Prop):List KF→Exit→Act→World→Prop
  | []=>Q
  | .again c::ks=>Exit.then (Xs P c (Wz P Q ks)) (Wz P Q ks)
  | .inv _ _ c::ks=>Exit.then (Xs P c (Wz P Q ks)) (Wz P Q ks)
  | .code c::ks=>Exit.then (c.wp P (Wz P Q ks)) (Wz P Q ks)
  | .blk id::ks=>Exit.inBlock id (Wz P Q ks)
structure Hk(S:Hw)(ρ:Et)(B:Nat)(fr:List SR)(a:Act):Prop where
  tmps:a.tmps.toList=fr.map (SR.den S ρ B)
  defers:a.defers=[]
  wf: ∀x∈fr,x.wf S ρ
def jez(tmps:Array Value):ResultVar→Sem Value
  | .tmp t=>pure (tmps.getD t undef)
  | .cell a t=>do loadVar t (←asAddr (tmps.getD a undef))
def Sz(rs:List ResultVar)(tmps:Array Value):Sem Value:=results {(default:Func) with results:=rs.toArray} tmps
theorem Oz(fn:Func)(tmps:Array Value):results fn tmps=Sz fn.results.toList tmps:=by
  simp[Sz,results]
def Jg.okA(P:Program)(S:Hw)(w0:World)(rs:List ResultVar)(Q:Exit→Act→World→Prop):Jg→Et→Prop
  | .need c k,ρ=>Dx S ρ c∧k.okA P S w0 rs Q ρ
  | .cond c x y,ρ=>(c.B S ρ=true→x.okA P S w0 rs Q ρ)∧(c.B S ρ=false→y.okA P S w0 rs Q ρ)
  | .any ns na facts k,ρ=> ∀ρ':Et,Cg ns na ρ ρ'→Dx S ρ' facts→k.okA P S w0 rs Q ρ'
  | .fail _,_=>False
  | .done,_=>True
  | .tight k,ρ=>ρ.loose=[]∧k.okA P S w0 rs Q ρ
  | .ret v h,ρ=> ∀(a:Act) (w:World),v.wf S ρ→a.defers=[]→(Sz rs a.tmps).run P w=.ok (v.den S ρ w0.heap.size) w→Cv S ρ w0 h w→Q .ret a w
  | .fall fr h,ρ=> ∀(a:Act) (w:World),Hk S ρ w0.heap.size fr a→Cv S ρ w0 h w→Q .normal a w
  | .out id fr h,ρ=> ∀(a:Act) (w:World),Hk S ρ w0.heap.size fr a→Cv S ρ w0 h w→Q (.exit id) a w
  | .stop rest all ks fr h,ρ=> ∀(a:Act) (w:World),Hk S ρ w0.heap.size fr a→Cv S ρ w0 h w→wpList P all.toArray (Wz P Q ks) rest a w
def Jg.ok(P:Program)(S:Hw)(ρ:Et)(w0:World)(rs:List ResultVar)(Q:Exit→Act→World→Prop)(o:Jg):Prop:=o.okA P S w0 rs Q ρ
section
variable {S:Hw} {ρ:Et} {w0:World} {P:Program} {specs:Nat→Option Ec} {rs:List ResultVar} {Q:Exit→Act→World→Prop} {B:Nat}
theorem Hk.get{fr:List SR}{a:Act}(hf:Hk S ρ B fr a)(t:Nat):a.tmps.getD t undef=(Do fr t).den S ρ B:=by
  have h1:a.tmps[t]? =(fr.map (SR.den S ρ B))[t]? :=by rw[←hf.tmps];simp
  rw[Array.getD_eq_getD_getElem?,h1]
  unfold Do
  rw[List.getElem?_map,List.getD_eq_getElem?_getD]
  cases fr[t]? <;>rfl
theorem Hk.agree{fr:List SR}{a:Act}(hf:Hk S ρ B fr a)(xs:Array Operand):Pq S ρ B (Do fr) a xs:=fun t _=>hf.get t
theorem Hk.put{fr:List SR}{a:Act}(hf:Hk S ρ B fr a)(d:Option Tmp){x:SR}(hx:x.wf S ρ):Hk S ρ B (Er fr d x) (a.put d (x.den S ρ B)):=by
  cases d with
  | none=>exact hf
  | some d=>
    refine ⟨?_,hf.defers,?_⟩
    · simp only[Act.put,Er,Array.toList_setIfInBounds,List.map_set,hf.tmps]
    · intro y hy
      rcases List.mem_or_eq_of_mem_set hy with hy|rfl
      · exact hf.wf y hy
      · exact hx
theorem Hk.truth{fr:List SR}{a:Act}(hf:Hk S ρ B fr a){s:Nat}{t:T}(hs:Do fr s=.v (.one (.bool t))){b:Bool}(hb:t.B S ρ=b):Hk S ρ B (Fi fr s b) a:=by
  refine ⟨?_,hf.defers,?_⟩
  · rw[hf.tmps]
    unfold Fi
    rw[List.map_set]
    apply List.ext_getElem?
    intro i
    rw[List.getElem?_set]
    split
    · rename_i his
      subst his
      split
      · rename_i hlt
        have hlt:s<fr.length:=by simpa using hlt
        unfold Do at hs
        rw[List.getD_eq_getElem?_getD,List.getElem?_eq_getElem hlt] at hs
        simp only[Option.getD_some] at hs
        rw[List.getElem?_map,List.getElem?_eq_getElem hlt,hs]
        simp[SR.den,SV.den,Aw.den,Vo,hb]
      · rename_i hge
        rw[List.getElem?_eq_none (by simpa using hge)]
    · rfl
  · intro y hy
    unfold Fi at hy
    rcases List.mem_or_eq_of_mem_set hy with hy|rfl
    · exact hf.wf y hy
    · trivial
theorem j43(ks:List KF)(a:Act)(w:World)(h:Q .ret a w):Wz P Q ks .ret a w:=by
  induction ks with
  | nil=>exact h
  | cons k ks ih=>cases k<;>exact ih
theorem Pk{id:Nat}: ∀{ks:List KF} (a:Act) (w:World),
    (∀ks',Hy id ks=some ks'→Wz P Q ks' .normal a w→Wz P Q ks (.exit id) a w)∧(Hy id ks=none→Q (.exit id) a w→Wz P Q ks (.exit id) a w)
  | [],a,w=>⟨fun ks' h=>by simp[Hy] at h,fun _ h=>h⟩
  | .code c::ks,a,w=>Pk (ks:=ks) a w
  | .again c::ks,a,w=>Pk (ks:=ks) a w
  | .inv _ _ c::ks,a,w=>Pk (ks:=ks) a w
  | .blk j::ks,a,w=>by
    constructor
    · intro ks' h hq
      unfold Hy at h
      split at h
      · rename_i hij
        injection h with h
        subst h hij
        simp only[Wz,Exit.inBlock,if_true];exact hq
      · rename_i hij
        simp only[Wz,Exit.inBlock,if_neg hij]
        exact (Pk (ks:=ks) a w).1 ks' h hq
    · intro h hq
      unfold Hy at h
      split at h
      · cases h
      · rename_i hij
        simp only[Wz,Exit.inBlock,if_neg hij]
        exact (Pk (ks:=ks) a w).2 h hq
theorem jlk{hp:Hp}{w:World}(hh:Cv S ρ w0 hp w){fr:List SR}{a:Act}(hf:Hk S ρ w0.heap.size fr a): ∀{rs:List ResultVar} {xs:List SV},Vt P (Do fr) hp rs=some xs→
    (rs.mapM (jez a.tmps)).run P w=.ok (xs.map (SV.den S ρ w0.heap.size)) w
  | [],xs,h=>by simp[Vt] at h;subst h;simp
  | r::rs,xs,h=>by
    unfold Vt at h
    simp only[List.mapM_cons,Option.bind_eq_bind,Option.pure_def] at h
    cases r with
    | tmp t=>
      simp only at h
      split at h
      · rename_i x hx
        cases hr:Vt P (Do fr) hp rs with
        | none=>unfold Vt at hr;simp[hr] at h
        | some ys=>
          have hr':=hr
          unfold Vt at hr
          simp[hr] at h
          subst h
          have ih:=jlk hh hf hr'
          have e1:=hf.get t
          rw[hx] at e1
          simp only[List.mapM_cons,jez,Sem.run_bind,Sem.run_pure,Result.andThen_ok,e1,ih]
          simp[SR.den]
      · simp at h
    | cell b t=>
      simp only at h
      split at h
      · rename_i r s d hx
        split at h
        · rename_i hu
          split at h
          · rename_i x hl
            cases hr:Vt P (Do fr) hp rs with
            | none=>unfold Vt at hr;simp[hr] at h
            | some ys=>
              have hr':=hr
              unfold Vt at hr
              simp[hr] at h
              subst h
              have ih:=jlk hh hf hr'
              have e1:=hf.get b
              rw[hx] at e1
              have h1:=(jlb (P:=P) hh (Option.isSome_iff_exists.1 hu) hl Dx.nil).1
              simp only[Instr.loadAt,Aw.den,Instr.sureAddr,Sem.run_bind,Sem.run_pure,Result.andThen_ok] at h1
              have h2:(jez a.tmps (.cell b t)).run P w=.ok (x.den S ρ w0.heap.size) w:=by
                simp only[jez,e1,SR.den,SV.den,Aw.den,asAddr,Sem.run_bind,Sem.run_pure,Result.andThen_ok]
                exact h1
              simp only[List.mapM_cons,Sem.run_bind,Sem.run_pure,Result.andThen_ok,h2,ih]
              simp
          · simp at h
        · simp at h
      · simp at h
theorem jkb{hp:Hp}{w:World}(hh:Cv S ρ w0 hp w){g:Nat→SR}(hg: ∀t,(g t).wf S ρ): ∀{rs:List ResultVar} {xs:List SV},Vt P g hp rs=some xs→ ∀x∈xs,x.wf S ρ
  | [],xs,h=>by simp[Vt] at h;subst h;simp
  | r::rs,xs,h=>by
    unfold Vt at h
    simp only[List.mapM_cons,Option.bind_eq_bind,Option.pure_def] at h
    cases hr:Vt P g hp rs with
    | none=>unfold Vt at hr;rw[hr] at h;cases r<;>simp at h
    | some ys=>
      have hr':=hr
      unfold Vt at hr
      rw[hr] at h
      have ih:=jkb hh hg hr'
      have key: ∃y,xs=y::ys∧y.wf S ρ:=by
        cases r with
        | tmp t=>
          simp only at h
          split at h
          · rename_i x hx
            simp at h
            have:=hg t
            rw[hx] at this
            exact ⟨x,h.symm,this⟩
          · simp at h
        | cell b t=>
          simp only at h
          split at h
          · split at h
            · rename_i hu
              split at h
              · rename_i x hl
                simp at h
                exact ⟨x,h.symm,(jlb (P:=P) hh (Option.isSome_iff_exists.1 hu) hl Dx.nil).2⟩
              · simp at h
            · simp at h
          · simp at h
      obtain ⟨y,rfl,hy⟩:=key
      intro z hz
      rcases List.mem_cons.1 hz with rfl|hz
      · exact hy
      · exact ih z hz
theorem jdk{h:Hp}{w:World}(hh:Cv S ρ w0 h w){g:Nat→SR}(hg: ∀t,(g t).wf S ρ){v:SR}(hr:jog P g h rs=some v):v.wf S ρ:=by
  unfold jog at hr
  split at hr
  · rename_i x hx
    cases hr
    exact jkb hh hg hx x (by simp)
  · rename_i xs _ hx
    cases hr
    exact fun x hx'=>jkb hh hg hx x hx'
  · cases hr
theorem jdi{h:Hp}{w:World}(hh:Cv S ρ w0 h w){fr:List SR}{a:Act}(hf:Hk S ρ w0.heap.size fr a){v:SR}(hr:jog P (Do fr) h rs=some v):(Sz rs a.tmps).run P w=.ok (v.den S ρ w0.heap.size) w:=by
  unfold jog at hr
  have key: ∀xs,Vt P (Do fr) h rs=some xs→(Sz rs a.tmps).run P w=.ok (if hx:(xs.map (SV.den S ρ w0.heap.size)).toArray.size=1 then (xs.map (SV.den S ρ w0.heap.size)).toArray[0] else .tuple (xs.map (SV.den S ρ w0.heap.size)).toArray) w:=by
    intro xs hx
    have:=jlk (P:=P) hh hf hx
    have e:Sz rs a.tmps=(do let vs ←rs.toArray.mapM (jez a.tmps);pure (if h:vs.size=1 then vs[0] else .tuple vs)):=rfl
    rw[e]
    simp only[Array.mapM_eq_mapM_toList,Sem.run_bind,Sem.run_map,this,Result.andThen_ok,Sem.run_pure]
  split at hr
  · rename_i x hx
    injection hr with hr
    subst hr
    rw[key _ hx];simp[SR.den]
  · rename_i xs hne hx
    injection hr with hr
    subst hr
    rw[key _ hx]
    rw[dif_neg]
    · rfl
    · intro h1
      simp at h1
      obtain ⟨x,rfl⟩:=List.length_eq_one_iff.1 h1
      exact hne x rfl
  · cases hr
end
section
variable {S:Hw} {ρ:Et} {w0:World} {P:Program} {specs:Nat→Option Ec} {B:Nat}
theorem Ks{D D':Nat→Bool}: ∀(l:List (Option Tmp×Value)) (k:Nat) (cur:List Value),(∀i,i<l.length→D (k+i)=D' (k+i))→Cd D k l cur=Cd D' k l cur
  | [],_,_,_=>rfl
  | e::l,k,cur,h=>by
    unfold Cd
    have h0:D k=D' k:=by simpa using h 0 (by simp)
    rw[h0]
    apply Ks
    intro i hi
    have:=h (i+1) (by simpa using hi)
    rw[show k+1+i=k+(i+1) from by omega];exact this
theorem Lj{D:Nat→Bool}: ∀(l:List (Option Tmp×Value)) (k:Nat) (p:Option Tmp×Value) (cur:List Value),Cd D k (l++ [p]) cur=if D (k+l.length) then Oh (Cd D k l cur) p.1 p.2 else Cd D k l cur
  | [],k,p,cur=>by simp[Cd]
  | e::l,k,p,cur=>by
    simp only[List.cons_append,Cd]
    rw[Lj l]
    simp only[List.length_cons]
    rw[show k+1+l.length=k+(l.length+1) from by omega]
theorem Fo: ∀{es:List Fs} {h0 h:Hp} {e:Fs},Je h0 es h→e.heap=h→(Eb e=false→e.r.heap=h)→Je h0 (es++ [e]) e.r.heap
  | [],h0,h,e,hc,h1,h2=>by
    simp only[Je] at hc
    subst hc
    exact ⟨h1,h2,rfl⟩
  | x::es,h0,h,e,hc,h1,h2=>by
    obtain ⟨c1,c2,c3⟩:=hc
    exact ⟨c1,c2,Fo c3 h1 h2⟩
theorem jhj{fr:Nat→SR}{h:Hp}{o:Oper}{r:Sb}(hs:Gx P specs fr h o=some r)(he:jik o.op=false):r.heap=h:=by
  obtain ⟨dst,op,type,pos,after,guard⟩:=o
  cases op<;>simp only[jik,Bool.true_eq_false] at he<;>simp only[Gx,Dt,jfo,jrd,jl1,j09,jjq,So,jpz,jkq,Yv,jk9,jqh,jbg,Ob,Vp,jkv,Uy,jlr,Uq,jji,jb9,Tb,jpd] at hs<;>
    first
    | cases hs
    | (repeat' (split at hs))<;>first
      | cases hs;rfl
      | cases hs
      | (rw[Option.map_eq_some_iff] at hs;obtain ⟨_,_,rfl⟩:=hs;rfl)
      | skip
theorem jgp{all:List Oper}{fr:List SR}{o:Oper}{tmps:Array Value}(ht:tmps.toList=fr.map (SR.den S ρ B)):
    (match jiu all fr o with
     | .yes=>Region.wanted o (yielded all.toArray tmps)=true
     | .no=>Region.wanted o (yielded all.toArray tmps)=false
     | .ask d t=>Do fr d=.v (.one (.bool t))
     | .lost=>True):=by
  unfold jiu
  have hget: ∀d,d<fr.length→tmps[d]? =some ((Do fr d).den S ρ B):=by
    intro d hd
    have h1:tmps[d]? =(fr.map (SR.den S ρ B))[d]? :=by rw[←ht];simp
    rw[h1,List.getElem?_map,List.getElem?_eq_getElem hd]
    unfold Do
    rw[List.getD_eq_getElem?_getD,List.getElem?_eq_getElem hd];rfl
  cases hg:o.guard with
  | none=>simp[Region.wanted,hg]
  | some jw=>
    obtain ⟨j,want⟩:=jw
    simp only
    cases hd:(all[j]?).bind (·.dst) with
    | none=>simp
    | some d=>
      simp only
      by_cases hlt:d<fr.length
      · rw[if_pos hlt]
        have hy: ∀v,(Do fr d).den S ρ B=v→yielded all.toArray tmps j=(match v with|.bool b=>some b|_=>none):=by
          intro v hv
          unfold yielded
          have e1:(all.toArray[j]?).bind (·.dst)=some d:=by simpa using hd
          rw[e1]
          simp only[Option.bind_some]
          rw[hget d hlt,hv]
          cases v<;>rfl
        split
        all_goals rename_i heq
        all_goals (revert heq;split<;>intro heq)
        all_goals first
          | (rename_i hx;cases want<;>simp at heq<;>(have:=hy _ rfl;rw[hx] at this;simp[Region.wanted,hg,this,SR.den,SV.den,Aw.den,T.B,undef]))
          | (rename_i hx;simp at heq;obtain ⟨rfl,rfl⟩:=heq;exact hx)
          | (cases heq;done)
          | (cases heq;trivial)
          | trivial
      · rw[if_neg hlt];simp
theorem jcg{c:T}{x y:SR}:(jae c x y).den S ρ B=if c.B S ρ then x.den S ρ B else y.den S ρ B:=by
  unfold jae
  split
  · rename_i h;subst h;split<;>rfl
  · split
    · rename_i a b
      split
      · rename_i l hl
        unfold jj2 at hl
        split at hl
        · split at hl
          · rename_i hk
            cases hl;subst hk
            simp only[SR.den,SV.den,Aw.den,jk6]
            split<;>rfl
          · cases hl
        · cases hl
          simp only[SR.den,SV.den,Aw.den,jof]
          split<;>rfl
        · cases hl
      · rfl
    · rfl
theorem jpy{c:T}{x y:SR}(h1:c.B S ρ=true→x.wf S ρ)(h2:c.B S ρ=false→y.wf S ρ):(jae c x y).wf S ρ:=by
  unfold jae
  split
  · rename_i h;subst h
    cases hc:c.B S ρ with
    | true=>exact h1 hc
    | false=>exact h2 hc
  · split
    · split
      · trivial
      · exact ⟨h1,h2⟩
    · exact ⟨h1,h2⟩
theorem jao{c:T}(hc:c.B S ρ=true): ∀{l m:List SR},l.length=m.length→(Lo c l m).map (SR.den S ρ B)=l.map (SR.den S ρ B)
  | [],[],_=>rfl
  | x::l,y::m,h=>by
    simp only[Lo,List.map_cons,jcg,hc,if_true]
    rw[jao hc (by simpa using h)]
  | [],_::_,h=>by simp at h
  | _::_,[],h=>by simp at h
theorem Xg{c:T}(hc:c.B S ρ=false): ∀{l m:List SR},l.length=m.length→(Lo c l m).map (SR.den S ρ B)=m.map (SR.den S ρ B)
  | [],[],_=>rfl
  | x::l,y::m,h=>by
    simp only[Lo,List.map_cons,jcg,hc]
    rw[Xg hc (by simpa using h)]
    rfl
  | [],_::_,h=>by simp at h
  | _::_,[],h=>by simp at h
theorem Yj{c:T}: ∀{l m:List SR},(c.B S ρ=true→ ∀x∈l,x.wf S ρ)→(c.B S ρ=false→ ∀x∈m,x.wf S ρ)→ ∀x∈Lo c l m,x.wf S ρ
  | [],_,_,_,z,hz=>by simp[Lo] at hz
  | _::_,[],_,_,z,hz=>by simp[Lo] at hz
  | x::l,y::m,h1,h2,z,hz=>by
    simp only[Lo,List.mem_cons] at hz
    rcases hz with rfl|hz
    · exact jpy (fun h=>h1 h x (by simp)) (fun h=>h2 h y (by simp))
    · exact Yj (fun h q hq=>h1 h q (by simp[hq])) (fun h q hq=>h2 h q (by simp[hq])) z hz
theorem Hk.merge_true{c:T}(hc:c.B S ρ=true){l m:List SR}(hl:l.length=m.length){a:Act}(hf:Hk S ρ B l a):Hk S ρ B (Lo c l m) a:=
  ⟨by rw[jao hc hl];exact hf.tmps,hf.defers,Yj (fun _=>hf.wf) (fun h=>by rw[hc] at h;cases h)⟩
theorem Hk.merge_false{c:T}(hc:c.B S ρ=false){l m:List SR}(hl:l.length=m.length){a:Act}(hf:Hk S ρ B m a):Hk S ρ B (Lo c l m) a:=
  ⟨by rw[Xg hc hl];exact hf.tmps,hf.defers,Yj (fun h=>by rw[hc] at h;cases h) (fun _=>hf.wf)⟩
end
def Dw(P:Program)(S:Hw)(f:FuncId)(s:Ff):Prop:=
  ∀(ρ:Et) (w0 w:World) (h:Hp) (args:List SR) (r:Wv),s args h=some r→Dx S ρ r.need→(∀x∈args,x.wf S ρ)→Cv S ρ w0 h w→
    Calls P f (args.map (SR.den S ρ w0.heap.size)).toArray w (fun e w'=> ∃ρ',Cg r.ns r.na ρ ρ'∧Dx S ρ' r.facts∧r.val.wf S ρ'∧e=.returned (r.val.den S ρ' w0.heap.size)∧Cv S ρ' w0 r.heap w')
def qgq(P:Program)(S:Hw)(ρ:Et)(w0:World)(a:Act)(w:World)(o:Oper)(r:Wv):Prop:=
  ∀(K:Act→World→Prop) (Q:Exit→Act→World→Prop),(∀ρ' w',Cg r.ns r.na ρ ρ'→Dx S ρ' r.facts→r.val.wf S ρ'→Cv S ρ' w0 r.heap w'→K (a.put o.dst (r.val.den S ρ' w0.heap.size)) w')→o.wp P a w K Q
section
variable {S:Hw} {ρ:Et} {w0 w:World} {h:Hp} {P:Program} {B:Nat}
def upd{α:Type}(f:Nat→α)(n:Nat)(x:α):Nat→α:=fun k=>if k=n then x else f k
theorem Ru: ∀{l:List (Cl×Gn)} {r:Cl} {x:Cl×Gn},x∈Ox l r→x∈l
  | [],_,_,h=>by simp[Ox] at h
  | (q,b)::l,r,x,h=>by
    unfold Ox at h
    split at h
    · exact List.mem_cons_of_mem _ h
    · rcases List.mem_cons.1 h with h|h
      · rw[h];simp
      · exact List.mem_cons_of_mem _ (Ru h)
theorem jet(f:Cl→Nat): ∀(l:List (Cl×Gn)) (r:Cl),((Ox l r).map fun x=>f x.1).Sublist (l.map fun x=>f x.1)
  | [],_=>List.Sublist.slnil
  | (q,b)::l,r=>by
    unfold Ox
    split
    · exact List.Sublist.cons _ (List.Sublist.refl _)
    · exact List.Sublist.cons_cons _ (jet f l r)
theorem jty(f:Cl→Nat): ∀{l:List (Cl×Gn)} {r:Cl} {b:Gn} {x:Cl×Gn},(l.map fun x=>f x.1).Nodup→Jr l r=some b→x∈Ox l r→f x.1≠f r
  | [],_,_,_,_,_,h=>by simp[Ox] at h
  | (q,c)::l,r,b,x,hn,hf,h=>by
    simp only[List.map_cons,List.nodup_cons] at hn
    unfold Jr at hf
    unfold Ox at h
    split at h
    · rename_i hq
      have:=Cl.code_inj hq
      subst this
      intro e
      apply hn.1
      rw[←e];exact List.mem_map.2 ⟨x,h,rfl⟩
    · rename_i hq
      rw[hq] at hf
      simp only[Bool.false_eq_true,if_false] at hf
      rcases List.mem_cons.1 h with h|h
      · subst h
        intro e
        apply hn.1
        rw[e];exact List.mem_map.2 ⟨(r,b),Gw hf,rfl⟩
      · exact jty f hn.2 hf h
theorem jjb: ∀{l:List (Cl×Gn)} {r:Cl} {x:Cl×Gn},x∈l→x∈Ox l r∨x.1=r
  | [],_,_,h=>by simp at h
  | (q,c)::l,r,x,h=>by
    unfold Ox
    split
    · rename_i hq
      have:=Cl.code_inj hq
      rcases List.mem_cons.1 h with h|h
      · right;rw[h];exact this
      · left;exact h
    · rcases List.mem_cons.1 h with h|h
      · left;rw[h];simp
      · rcases jjb (r:=r) h with h|h
        · left;simp[h]
        · right;exact h
theorem Py{S:Hw}{ρ ρ':Et}{ns:Nat}{na:Nat}{ow:Option OW}(hA:Cg ns na ρ ρ')(hc:Se ns ow=true){o:OW}(ho:ow=some o):ρ'.v o.v=ρ.v o.v∧o.a.A S ρ'=o.a.A S ρ:=by
  subst ho
  simp only[Se,Bool.and_eq_true] at hc
  exact ⟨hA.v _ (Nat.le_of_ble_eq_true hc.1),(T.clear_den (S:=S) hA hc.2).2.2⟩
theorem je3(hh:Cv S ρ w0 h w){rw:List (Cl×Gn)}(hsub: ∀x∈rw,x∈h.rw)(hnd:(rw.map fun x=>x.1.blk ρ w0.heap.size).Nodup)
    (hdrop: ∀x∈h.rw,x∈rw∨w0.heap.size≤x.1.blk ρ w0.heap.size)(c1:Gm h.nv h.na rw=true)(c2:Gh h.nv h.na h.ro=true)(c4:Se h.nv h.ow=true)
    {pg:List Cp}(hpg:Cm S ρ pg)(c3:pg.all (Cp.clear h.nv h.na)=true){e:Nat}{z:List Aw}(hz: ∀ρ',z.map (Aw.den S ρ' w0.heap.size)=z.map (Aw.den S ρ w0.heap.size)){len cap:Nat}(hcap:len≤cap):
    ∃ρ',Cg h.nv h.na ρ ρ'∧ρ'.i h.nv=cap∧(Cl.own h.nv).blk ρ' w0.heap.size=w.heap.size∧
      Cv S ρ' w0 {h with rw:=rw++ [(.own h.nv,⟨e,Dn pg++ [.tail z (.sub (.iv h.nv) (.lit (len:Nat)))]⟩)],nv:=h.nv+1}
        (w.drew.alloc (.cells (Av S ρ w0.heap.size pg++(List.replicate (cap-len) (z.map (Aw.den S ρ w0.heap.size))).flatten).toArray e)):=by
  have hA:Cg h.nv h.na ρ {ρ with i:=upd ρ.i h.nv cap,blk:=upd ρ.blk h.nv (ρ.nb h.na),nb:=fun k=>if k<h.na then ρ.nb k else ρ.nb k+1}:=by
    refine ⟨?_,fun _ _=>rfl,fun _ _=>rfl,fun _ _=>rfl,fun _ _=>rfl,?_,fun _ _=>rfl,fun _ _=>rfl,?_,rfl⟩
    · intro k hk;simp only[upd];rw[if_neg (by omega)]
    · intro k hk;simp only[upd];rw[if_neg (by omega)]
    · intro k hk;simp only;rw[if_pos hk]
  have hown:(Cl.own h.nv).blk {ρ with i:=upd ρ.i h.nv cap,blk:=upd ρ.blk h.nv (ρ.nb h.na),nb:=fun k=>if k<h.na then ρ.nb k else ρ.nb k+1} w0.heap.size=w.heap.size:=by
    simp only[Cl.blk,upd,if_true];exact hh.size.symm
  refine ⟨{ρ with i:=upd ρ.i h.nv cap,blk:=upd ρ.blk h.nv (ρ.nb h.na),nb:=fun k=>if k<h.na then ρ.nb k else ρ.nb k+1},hA,by simp[upd],hown,?_⟩
  generalize hρ:({ρ with i:=upd ρ.i h.nv cap,blk:=upd ρ.blk h.nv (ρ.nb h.na),nb:=fun k=>if k<h.na then ρ.nb k else ρ.nb k+1}:Et)=ρ' at hA hown
  have hi:ρ'.i h.nv=cap:=by subst hρ;simp[upd]
  have hnb: ∀k,h.na≤k→ρ'.nb k=ρ.nb k+1:=by subst hρ;intro k hk;simp only;rw[if_neg (by omega)]
  unfold Gm at c1
  unfold Gh at c2
  rw[List.all_eq_true] at c1 c2
  have k1: ∀x∈rw,x.1.blk ρ' w0.heap.size=x.1.blk ρ w0.heap.size∧x.1.off ρ'=x.1.off ρ∧Av S ρ' w0.heap.size x.2.segs=Av S ρ w0.heap.size x.2.segs∧(Cm S ρ x.2.segs→Cm S ρ' x.2.segs):=by
    intro x hx
    have:=c1 x hx
    simp only[Bool.and_eq_true] at this
    exact ⟨(Cl.clear_den hA this.1).1,(Cl.clear_den hA (B:=w0.heap.size) this.1).2,(Dv hA this.2).1,(Dv (B:=w0.heap.size) hA this.2).2⟩
  have k2: ∀x∈h.ro,x.1.blk ρ' w0.heap.size=x.1.blk ρ w0.heap.size∧x.1.off ρ'=x.1.off ρ∧x.2.2.A S ρ'=x.2.2.A S ρ:=by
    intro x hx
    have:=c2 x hx
    simp only[Bool.and_eq_true] at this
    exact ⟨(Cl.clear_den hA this.1).1,(Cl.clear_den hA (B:=w0.heap.size) this.1).2,(T.clear_den hA this.2).2.2⟩
  have hd:=hh.drew
  have hlt: ∀x∈h.rw,x.1.blk ρ w0.heap.size<w.heap.size:=fun x hx=>(Array.getElem?_eq_some_iff.1 (hh.rw_ x hx)).1
  have hold: ∀(o:Obj) (i:Nat),i<w.heap.size→(w.drew.alloc o).heap[i]? =w.heap[i]? :=fun o i hi=>heap_alloc_old w.drew o hi
  have hsegs:Av S ρ' w0.heap.size (Dn pg++ [.tail z (.sub (.iv h.nv) (.lit (len:Nat)))])=Av S ρ w0.heap.size pg++(List.replicate (cap-len) (z.map (Aw.den S ρ w0.heap.size))).flatten:=by
    rw[Bp,(Ew (S:=S) (ρ:=ρ') (B:=w0.heap.size) pg).1,(Dv hA c3).1,Au,Cj,List.append_nil]
    simp only[Cp.den,T.I,hi,hz ρ']
    congr 3
    omega
  have hnew: ∀x∈rw++ [(Cl.own h.nv,(⟨e,Dn pg++ [.tail z (.sub (.iv h.nv) (.lit (len:Nat)))]⟩:Gn))],x∈rw∨x=(Cl.own h.nv,(⟨e,Dn pg++ [.tail z (.sub (.iv h.nv) (.lit (len:Nat)))]⟩:Gn)):=fun x hx=>by
    simpa using hx
  refine ⟨?_,?_,?_,?_,?_,?_,?_,?_,?_,?_,?_,hd.os,hd.tape,hd.output⟩
  · intro x hx
    rcases hnew x hx with hx|rfl
    · rw[(k1 x hx).1,(k1 x hx).2.2.1,hold _ _ (hlt x (hsub x hx))];exact hh.rw_ x (hsub x hx)
    · simp only[hown,hsegs]
      exact heap_alloc_new w.drew _
  · intro x hx
    rcases hnew x hx with hx|rfl
    · exact (k1 x hx).2.2.2 (hh.wf x (hsub x hx))
    · refine Ch.2 ⟨(Ew (S:=S) (ρ:=ρ') (B:=w0.heap.size) pg).2 ((Dv (B:=w0.heap.size) hA c3).2 hpg),fun g hg=> ?_⟩
      simp only[List.mem_singleton] at hg
      subst hg;trivial
  · intro x hx
    rcases hnew x hx with hx|rfl
    · rw[(k1 x hx).2.1];exact hh.off x (hsub x hx)
    · rfl
  · rw[List.map_append,List.nodup_append]
    refine ⟨?_,by simp,?_⟩
    · rw[List.map_congr_left fun x hx=>(k1 x hx).1];exact hnd
    · intro p hp q hq e'
      obtain ⟨x,hx,rfl⟩:=List.mem_map.1 hp
      simp only[List.map_cons,List.map_nil,List.mem_singleton] at hq
      rw[(k1 x hx).1] at e'
      have:=hlt x (hsub x hx)
      rw[hown] at hq
      omega
  · intro x hx j v hv
    rw[(k2 x hx).1,(k2 x hx).2.1]
    rw[(k2 x hx).2.2] at hv
    have hc:=hh.ro x hx j v hv
    rw[World.cell?_alloc_lt w.drew _ _ (World.block_lt_of_cell? w _ hc)]
    exact hc
  · intro x hx y hy
    rw[(k2 x hx).1]
    rcases hnew y hy with hy|rfl
    · rw[(k1 y hy).1];exact hh.apart x hx y (hsub y hy)
    · simp only[hown]
      have:=hh.rolt x hx
      have:=hh.size
      omega
  · intro x hx
    rw[(k2 x hx).1];exact hh.rolt x hx
  · simp only[World.size_alloc]
    rw[hnb h.na (Nat.le_refl _)]
    have:=hh.size
    show w.heap.size+1=_
    omega
  · intro k hk
    rw[hnb k hk,hnb (k+1) (Nat.le_succ_of_le hk),hh.nbs k hk]
  · intro i hi' hlo hne
    have:=hh.size
    rw[hold _ i (by omega)]
    refine hh.frame i hi' (by rw[hA.loose] at hlo;exact hlo) fun x hx e'=> ?_
    rcases hdrop x hx with hx'|hge
    · exact hne x (List.mem_append.2 (.inl hx')) (by rw[(k1 x hx').1];exact e')
    · omega
  · intro o ho
    have hcl:=Py (S:=S) hA c4 ho
    rcases hh.own o ho with h'|⟨p,cp,q1,q2,q3,q4,q5,q6⟩
    · exact .inl ⟨by rw[hcl.1];exact h'.1,by rw[hcl.2];exact h'.2⟩
    · have hp:p<w.heap.size:=(Array.getElem?_eq_some_iff.1 q3).1
      refine .inr ⟨p,cp,by rw[hcl.1,hcl.2];exact q1,by rw[hcl.2];exact q2,by rw[hcl.2,hold _ p hp];exact q3,by rw[hA.loose];exact q4,fun x hx=> ?_,fun x hx=>by rw[(k2 x hx).1];exact q6 x hx⟩
      rcases hnew x hx with hx|rfl
      · rw[(k1 x hx).1];exact q5 x (hsub x hx)
      · simp only[hown];omega
theorem jns(hh:Cv S ρ w0 h w){q:Nat}{b:Gn}(hb:Jr h.rw (.own q)=some b)(c1:Gm h.nv h.na (Ox h.rw (.own q))=true)(c2:Gh h.nv h.na h.ro=true)(c4:Se h.nv h.ow=true)
    {pg:List Cp}(hpg:Cm S ρ pg)(c3:pg.all (Cp.clear h.nv h.na)=true){z:List Aw}(hz: ∀ρ',z.map (Aw.den S ρ' w0.heap.size)=z.map (Aw.den S ρ w0.heap.size)){len cap:Nat}:
    ∃ρ',Cg h.nv h.na ρ ρ'∧ρ'.i h.nv=cap∧(Cl.own h.nv).blk ρ' w0.heap.size=(Cl.own q).blk ρ w0.heap.size∧
      Cv S ρ' w0 {h with rw:=Ox h.rw (.own q)++ [(.own h.nv,⟨b.ty,Dn pg++ [.tail z (.sub (.iv h.nv) (.lit (len:Nat)))]⟩)],nv:=h.nv+1}
        (w.setRow ((Cl.own q).blk ρ w0.heap.size) (Av S ρ w0.heap.size pg++(List.replicate (cap-len) (z.map (Aw.den S ρ w0.heap.size))).flatten).toArray):=by
  have hA:Cg h.nv h.na ρ {ρ with i:=upd ρ.i h.nv cap,blk:=upd ρ.blk h.nv (ρ.blk q)}:=by
    refine ⟨?_,fun _ _=>rfl,fun _ _=>rfl,fun _ _=>rfl,fun _ _=>rfl,?_,fun _ _=>rfl,fun _ _=>rfl,fun _ _=>rfl,rfl⟩
    · intro k hk;simp only[upd];rw[if_neg (by omega)]
    · intro k hk;simp only[upd];rw[if_neg (by omega)]
  refine ⟨{ρ with i:=upd ρ.i h.nv cap,blk:=upd ρ.blk h.nv (ρ.blk q)},hA,by simp[upd],by simp[Cl.blk,upd],?_⟩
  have hown:(Cl.own h.nv).blk {ρ with i:=upd ρ.i h.nv cap,blk:=upd ρ.blk h.nv (ρ.blk q)} w0.heap.size=(Cl.own q).blk ρ w0.heap.size:=by simp[Cl.blk,upd]
  generalize hρ:({ρ with i:=upd ρ.i h.nv cap,blk:=upd ρ.blk h.nv (ρ.blk q)}:Et)=ρ' at hA hown
  have hi:ρ'.i h.nv=cap:=by subst hρ;simp[upd]
  have hnb:ρ'.nb=ρ.nb:=by subst hρ;rfl
  unfold Gm at c1
  unfold Gh at c2
  rw[List.all_eq_true] at c1 c2
  have hsub: ∀x∈Ox h.rw (.own q),x∈h.rw:=fun x hx=>Ru hx
  have hne: ∀x∈Ox h.rw (.own q),x.1.blk ρ w0.heap.size≠(Cl.own q).blk ρ w0.heap.size:=fun x hx=>jty (fun r=>r.blk ρ w0.heap.size) hh.nd hb hx
  have hmem:=Gw hb
  have hrow:=hh.rw_ _ hmem
  simp only at hrow
  have k1: ∀x∈Ox h.rw (.own q),x.1.blk ρ' w0.heap.size=x.1.blk ρ w0.heap.size∧x.1.off ρ'=x.1.off ρ∧Av S ρ' w0.heap.size x.2.segs=Av S ρ w0.heap.size x.2.segs∧(Cm S ρ x.2.segs→Cm S ρ' x.2.segs):=by
    intro x hx
    have:=c1 x hx
    simp only[Bool.and_eq_true] at this
    exact ⟨(Cl.clear_den hA this.1).1,(Cl.clear_den hA (B:=w0.heap.size) this.1).2,(Dv hA this.2).1,(Dv (B:=w0.heap.size) hA this.2).2⟩
  have k2: ∀x∈h.ro,x.1.blk ρ' w0.heap.size=x.1.blk ρ w0.heap.size∧x.1.off ρ'=x.1.off ρ∧x.2.2.A S ρ'=x.2.2.A S ρ:=by
    intro x hx
    have:=c2 x hx
    simp only[Bool.and_eq_true] at this
    exact ⟨(Cl.clear_den hA this.1).1,(Cl.clear_den hA (B:=w0.heap.size) this.1).2,(T.clear_den hA this.2).2.2⟩
  have hsegs:Av S ρ' w0.heap.size (Dn pg++ [.tail z (.sub (.iv h.nv) (.lit (len:Nat)))])=Av S ρ w0.heap.size pg++(List.replicate (cap-len) (z.map (Aw.den S ρ w0.heap.size))).flatten:=by
    rw[Bp,(Ew (S:=S) (ρ:=ρ') (B:=w0.heap.size) pg).1,(Dv hA c3).1,Au,Cj,List.append_nil]
    simp only[Cp.den,T.I,hi,hz ρ']
    congr 3
    omega
  have hnew: ∀x∈Ox h.rw (.own q)++ [(Cl.own h.nv,(⟨b.ty,Dn pg++ [.tail z (.sub (.iv h.nv) (.lit (len:Nat)))]⟩:Gn))],x∈Ox h.rw (.own q)∨x=(Cl.own h.nv,(⟨b.ty,Dn pg++ [.tail z (.sub (.iv h.nv) (.lit (len:Nat)))]⟩:Gn)):=fun x hx=>by
    simpa using hx
  have hge:w0.heap.size≤(Cl.own q).blk ρ w0.heap.size:=by simp only[Cl.blk];omega
  refine ⟨?_,?_,?_,?_,?_,?_,?_,?_,?_,?_,?_,hh.os,hh.tape,hh.output⟩
  · intro x hx
    rcases hnew x hx with hx|rfl
    · rw[(k1 x hx).1,(k1 x hx).2.2.1,setRow_other w _ _ _ (hne x hx)];exact hh.rw_ x (hsub x hx)
    · simp only[hown,hsegs]
      exact setRow_heap w _ _ _ _ _ hrow
  · intro x hx
    rcases hnew x hx with hx|rfl
    · exact (k1 x hx).2.2.2 (hh.wf x (hsub x hx))
    · refine Ch.2 ⟨(Ew (S:=S) (ρ:=ρ') (B:=w0.heap.size) pg).2 ((Dv (B:=w0.heap.size) hA c3).2 hpg),fun g hg=> ?_⟩
      simp only[List.mem_singleton] at hg
      subst hg;trivial
  · intro x hx
    rcases hnew x hx with hx|rfl
    · rw[(k1 x hx).2.1];exact hh.off x (hsub x hx)
    · rfl
  · rw[List.map_append,List.nodup_append]
    refine ⟨?_,by simp,?_⟩
    · rw[List.map_congr_left fun x hx=>(k1 x hx).1]
      exact List.Nodup.sublist (jet (fun r=>r.blk ρ w0.heap.size) h.rw (.own q)) hh.nd
    · intro p hp y hq e'
      obtain ⟨x,hx,rfl⟩:=List.mem_map.1 hp
      simp only[List.map_cons,List.map_nil,List.mem_singleton] at hq
      rw[(k1 x hx).1] at e'
      rw[hown] at hq
      exact hne x hx (e'.trans hq)
  · intro x hx j v hv
    rw[(k2 x hx).1,(k2 x hx).2.1]
    rw[(k2 x hx).2.2] at hv
    have hc:=hh.ro x hx j v hv
    rw[World.cell?_of_block (w:=w) (setRow_other w _ _ _ (hh.apart x hx _ hmem))]
    exact hc
  · intro x hx y hy
    rw[(k2 x hx).1]
    rcases hnew y hy with hy|rfl
    · rw[(k1 y hy).1];exact hh.apart x hx y (hsub y hy)
    · simp only[hown];exact hh.apart x hx _ hmem
  · intro x hx
    rw[(k2 x hx).1];exact hh.rolt x hx
  · rw[hnb]
    have:=hh.size
    simpa using this
  · rw[hnb];exact hh.nbs
  · intro i hi' hlo hne'
    rw[setRow_other w _ _ _ (by omega)]
    refine hh.frame i hi' (by rw[hA.loose] at hlo;exact hlo) fun x hx e'=> ?_
    rcases jjb (r:=.own q) hx with hx'|hx'
    · exact hne' x (List.mem_append.2 (.inl hx')) (by rw[(k1 x hx').1];exact e')
    · rw[hx'] at e';omega
  · intro o ho
    have hcl:=Py (S:=S) hA c4 ho
    rcases hh.own o ho with h'|⟨p,cp,q1,q2,q3,q4,q5,q6⟩
    · exact .inl ⟨by rw[hcl.1];exact h'.1,by rw[hcl.2];exact h'.2⟩
    · refine .inr ⟨p,cp,by rw[hcl.1,hcl.2];exact q1,by rw[hcl.2];exact q2,by rw[hcl.2,setRow_other w _ _ _ (fun e=>q5 _ hmem e.symm)];exact q3,by rw[hA.loose];exact q4,fun x hx=> ?_,fun x hx=>by rw[(k2 x hx).1];exact q6 x hx⟩
      rcases hnew x hx with hx|rfl
      · rw[(k1 x hx).1];exact q5 x (hsub x hx)
      · simp only[hown];exact q5 _ hmem
end
end
end Go.Proofs.YtljjbikbfeigdaaGreatDoor
