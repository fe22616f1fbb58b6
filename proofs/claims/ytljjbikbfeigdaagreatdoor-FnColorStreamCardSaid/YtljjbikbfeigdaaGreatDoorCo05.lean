/- Part of the proof of FnColorStreamCardSaid: The symbolic walk of a piece of code is sound: what its answer asks for is enough. -/
import Derived.Test.YtljjbikbfeigdaaGreatDoorCo04
import Derived.Laws.AppendOwn
set_option linter.all false
namespace Go.Proofs.YtljjbikbfeigdaaGreatDoor
noncomputable section
open Go
def Xs(P:Program)(c:Code)(Q:Exit→Act→World→Prop)(a:Act)(w:World):Prop:=
  ∀b k cs,∃e a' w',Q e a' w'∧Arrives P (lone (b.at a (.code c:: .inLoop c::k)) cs w) b k cs e a' w'
theorem jc4{P:Program}{c:Code}{Q:Exit→Act→World→Prop}{a:Act}{w:World}(h:c.wp P (Exit.then (Xs P c Q) Q) a w):Xs P c Q a w:=by
  intro b k cs
  obtain ⟨e,a₁,w₁,hq,harr⟩:=h b (.inLoop c::k) cs
  cases e with
  | normal=>
    obtain ⟨e₂,a₂,w₂,hq₂,harr₂⟩:=hq b k cs
    exact ⟨e₂,a₂,w₂,hq₂,.of_steps (Steps.trans harr (.one step_inLoop)) harr₂⟩
  | exit id=>exact ⟨_,a₁,w₁,hq,.pass (x:=.inLoop c) rfl (fun _ _=>.inl (by simp)) harr⟩
  | goto l=>exact ⟨_,a₁,w₁,hq,.pass (x:=.inLoop c) rfl (fun _ _=>.inl (by simp)) harr⟩
  | ret=>exact ⟨_,a₁,w₁,hq,.pass (x:=.inLoop c) rfl (fun _ _=>.inl (by simp)) harr⟩
  | panic ch=>exact ⟨_,a₁,w₁,hq,.pass (x:=.inLoop c) rfl (fun _ _=>.inl (by simp)) harr⟩
  | outgrown=>exact ⟨_,a₁,w₁,hq,.pass (x:=.inLoop c) rfl (fun _ _=>.inl (by simp)) harr⟩
theorem jj1{P:Program}{c:Code}{Q:Exit→Act→World→Prop}{a:Act}{w:World}(h:Xs P c Q a w):(Code.loop c).wp P Q a w:=by
  intro b k cs
  obtain ⟨e,a',w',hq,harr⟩:=h b k cs
  exact ⟨e,a',w',hq,.of_steps (.one step_loop) harr⟩
def Wz(P:Program)(Q:Exit→Act→World→Prop):List KF→Exit→Act→World→Prop
  | []=>Q
  | .again c::ks=>Exit.then (Xs P c (Wz P Q ks)) (Wz P Q ks)
  | .inv _ _ c::ks=>Exit.then (Xs P c (Wz P Q ks)) (Wz P Q ks)
  | .code c::ks=>Exit.then (c.wp P (Wz P Q ks)) (Wz P Q ks)
  | .blk id::ks=>Exit.inBlock id (Wz P Q ks)
structure Hk(S:Hw)(ρ:Et)(B:Nat)(fr:List SR)(a:Act):Prop where
  tmps:a.tmps.toList=fr.map (SR.den S ρ B)
  defers:a.defers=[]
  wf: ∀x∈fr,x.wf S ρ
def jez(tmps:Array Value):ResultVar→Sem Value
  | .tmp t=>pure (tmps.getD t undef)
  | .cell a t=>do loadVar t (←asAddr (tmps.getD a undef))
def Sz(rs:List ResultVar)(tmps:Array Value):Sem Value:=results {(default:Func) with results:=rs.toArray} tmps
theorem Oz(fn:Func)(tmps:Array Value):results fn tmps=Sz fn.results.toList tmps:=by
  simp[Sz,results]
def Jg.okA(P:Program)(S:Hw)(w0:World)(rs:List ResultVar)(Q:Exit→Act→World→Prop):Jg→Et→Prop
  | .need c k,ρ=>Dx S ρ c∧k.okA P S w0 rs Q ρ
  | .cond c x y,ρ=>(c.B S ρ=true→x.okA P S w0 rs Q ρ)∧(c.B S ρ=false→y.okA P S w0 rs Q ρ)
  | .any ns na facts k,ρ=> ∀ρ':Et,Cg ns na ρ ρ'→Dx S ρ' facts→k.okA P S w0 rs Q ρ'
  | .fail _,_=>False
  | .done,_=>True
  | .tight k,ρ=>ρ.loose=[]∧k.okA P S w0 rs Q ρ
  | .ret v h,ρ=> ∀(a:Act) (w:World),v.wf S ρ→a.defers=[]→(Sz rs a.tmps).run P w=.ok (v.den S ρ w0.heap.size) w→Cv S ρ w0 h w→Q .ret a w
  | .fall fr h,ρ=> ∀(a:Act) (w:World),Hk S ρ w0.heap.size fr a→Cv S ρ w0 h w→Q .normal a w
  | .out id fr h,ρ=> ∀(a:Act) (w:World),Hk S ρ w0.heap.size fr a→Cv S ρ w0 h w→Q (.exit id) a w
  | .stop rest all ks fr h,ρ=> ∀(a:Act) (w:World),Hk S ρ w0.heap.size fr a→Cv S ρ w0 h w→wpList P all.toArray (Wz P Q ks) rest a w
def Jg.ok(P:Program)(S:Hw)(ρ:Et)(w0:World)(rs:List ResultVar)(Q:Exit→Act→World→Prop)(o:Jg):Prop:=o.okA P S w0 rs Q ρ
section
variable {S:Hw} {ρ:Et} {w0:World} {P:Program} {specs:Nat→Option Ec} {rs:List ResultVar} {Q:Exit→Act→World→Prop} {B:Nat}
theorem Hk.get{fr:List SR}{a:Act}(hf:Hk S ρ B fr a)(t:Nat):a.tmps.getD t undef=(Do fr t).den S ρ B:=by
  have h1:a.tmps[t]? =(fr.map (SR.den S ρ B))[t]? :=by rw[←hf.tmps];simp
  rw[Array.getD_eq_getD_getElem?,h1]
  unfold Do
  rw[List.getElem?_map,List.getD_eq_getElem?_getD]
  cases fr[t]? <;>rfl
theorem Hk.agree{fr:List SR}{a:Act}(hf:Hk S ρ B fr a)(xs:Array Operand):Pq S ρ B (Do fr) a xs:=fun t _=>hf.get t
theorem Hk.put{fr:List SR}{a:Act}(hf:Hk S ρ B fr a)(d:Option Tmp){x:SR}(hx:x.wf S ρ):Hk S ρ B (Er fr d x) (a.put d (x.den S ρ B)):=by
  cases d with
  | none=>exact hf
  | some d=>
    refine ⟨?_,hf.defers,?_⟩
    · simp only[Act.put,Er,Array.toList_setIfInBounds,List.map_set,hf.tmps]
    · intro y hy
      rcases List.mem_or_eq_of_mem_set hy with hy|rfl
      · exact hf.wf y hy
      · exact hx
theorem Hk.truth{fr:List SR}{a:Act}(hf:Hk S ρ B fr a){s:Nat}{t:T}(hs:Do fr s=.v (.one (.bool t))){b:Bool}(hb:t.B S ρ=b):Hk S ρ B (Fi fr s b) a:=by
  refine ⟨?_,hf.defers,?_⟩
  · rw[hf.tmps]
    unfold Fi
    rw[List.map_set]
    apply List.ext_getElem?
    intro i
    rw[List.getElem?_set]
    split
    · rename_i his
      subst his
      split
      · rename_i hlt
        have hlt:s<fr.length:=by simpa using hlt
        unfold Do at hs
        rw[List.getD_eq_getElem?_getD,List.getElem?_eq_getElem hlt] at hs
        simp only[Option.getD_some] at hs
        rw[List.getElem?_map,List.getElem?_eq_getElem hlt,hs]
        simp[SR.den,SV.den,Aw.den,Vo,hb]
      · rename_i hge
        rw[List.getElem?_eq_none (by simpa using hge)]
    · rfl
  · intro y hy
    unfold Fi at hy
    rcases List.mem_or_eq_of_mem_set hy with hy|rfl
    · exact hf.wf y hy
    · trivial
theorem j43(ks:List KF)(a:Act)(w:World)(h:Q .ret a w):Wz P Q ks .ret a w:=by
  induction ks with
  | nil=>exact h
  | cons k ks ih=>cases k<;>exact ih
theorem Pk{id:Nat}: ∀{ks:List KF} (a:Act) (w:World),
    (∀ks',Hy id ks=some ks'→Wz P Q ks' .normal a w→Wz P Q ks (.exit id) a w)∧(Hy id ks=none→Q (.exit id) a w→Wz P Q ks (.exit id) a w)
  | [],a,w=>⟨fun ks' h=>by simp[Hy] at h,fun _ h=>h⟩
  | .code c::ks,a,w=>Pk (ks:=ks) a w
  | .again c::ks,a,w=>Pk (ks:=ks) a w
  | .inv _ _ c::ks,a,w=>Pk (ks:=ks) a w
  | .blk j::ks,a,w=>by
    constructor
    · intro ks' h hq
      unfold Hy at h
      split at h
      · rename_i hij
        injection h with h
        subst h hij
        simp only[Wz,Exit.inBlock,if_true];exact hq
      · rename_i hij
        simp only[Wz,Exit.inBlock,if_neg hij]
        exact (Pk (ks:=ks) a w).1 ks' h hq
    · intro h hq
      unfold Hy at h
      split at h
      · cases h
      · rename_i hij
        simp only[Wz,Exit.inBlock,if_neg hij]
        exact (Pk (ks:=ks) a w).2 h hq
theorem jlk{hp:Hp}{w:World}(hh:Cv S ρ w0 hp w){fr:List SR}{a:Act}(hf:Hk S ρ w0.heap.size fr a): ∀{rs:List ResultVar} {xs:List SV},Vt P (Do fr) hp rs=some xs→
    (rs.mapM (jez a.tmps)).run P w=.ok (xs.map (SV.den S ρ w0.heap.size)) w
  | [],xs,h=>by simp[Vt] at h;subst h;simp
  | r::rs,xs,h=>by
    unfold Vt at h
    simp only[List.mapM_cons,Option.bind_eq_bind,Option.pure_def] at h
    cases r with
    | tmp t=>
      simp only at h
      split at h
      · rename_i x hx
        cases hr:Vt P (Do fr) hp rs with
        | none=>unfold Vt at hr;simp[hr] at h
        | some ys=>
          have hr':=hr
          unfold Vt at hr
          simp[hr] at h
          subst h
          have ih:=jlk hh hf hr'
          have e1:=hf.get t
          rw[hx] at e1
          simp only[List.mapM_cons,jez,Sem.run_bind,Sem.run_pure,Result.andThen_ok,e1,ih]
          simp[SR.den]
      · simp at h
    | cell b t=>
      simp only at h
      split at h
      · rename_i r s d hx
        split at h
        · rename_i hu
          split at h
          · rename_i x hl
            cases hr:Vt P (Do fr) hp rs with
            | none=>unfold Vt at hr;simp[hr] at h
            | some ys=>
              have hr':=hr
              unfold Vt at hr
              simp[hr] at h
              subst h
              have ih:=jlk hh hf hr'
              have e1:=hf.get b
              rw[hx] at e1
              have h1:=(jlb (P:=P) hh (Option.isSome_iff_exists.1 hu) hl Dx.nil).1
              simp only[Instr.loadAt,Aw.den,Instr.sureAddr,Sem.run_bind,Sem.run_pure,Result.andThen_ok] at h1
              have h2:(jez a.tmps (.cell b t)).run P w=.ok (x.den S ρ w0.heap.size) w:=by
                simp only[jez,e1,SR.den,SV.den,Aw.den,asAddr,Sem.run_bind,Sem.run_pure,Result.andThen_ok]
                exact h1
              simp only[List.mapM_cons,Sem.run_bind,Sem.run_pure,Result.andThen_ok,h2,ih]
              simp
          · simp at h
        · simp at h
      · simp at h
theorem jkb{hp:Hp}{w:World}(hh:Cv S ρ w0 hp w){g:Nat→SR}(hg: ∀t,(g t).wf S ρ): ∀{rs:List ResultVar} {xs:List SV},Vt P g hp rs=some xs→ ∀x∈xs,x.wf S ρ
  | [],xs,h=>by simp[Vt] at h;subst h;simp
  | r::rs,xs,h=>by
    unfold Vt at h
    simp only[List.mapM_cons,Option.bind_eq_bind,Option.pure_def] at h
    cases hr:Vt P g hp rs with
    | none=>unfold Vt at hr;rw[hr] at h;cases r<;>simp at h
    | some ys=>
      have hr':=hr
      unfold Vt at hr
      rw[hr] at h
      have ih:=jkb hh hg hr'
      have key: ∃y,xs=y::ys∧y.wf S ρ:=by
        cases r with
        | tmp t=>
          simp only at h
          split at h
          · rename_i x hx
            simp at h
            have:=hg t
            rw[hx] at this
            exact ⟨x,h.symm,this⟩
          · simp at h
        | cell b t=>
          simp only at h
          split at h
          · split at h
            · rename_i hu
              split at h
              · rename_i x hl
                simp at h
                exact ⟨x,h.symm,(jlb (P:=P) hh (Option.isSome_iff_exists.1 hu) hl Dx.nil).2⟩
              · simp at h
            · simp at h
          · simp at h
      obtain ⟨y,rfl,hy⟩:=key
      intro z hz
      rcases List.mem_cons.1 hz with rfl|hz
      · exact hy
      · exact ih z hz
theorem jdk{h:Hp}{w:World}(hh:Cv S ρ w0 h w){g:Nat→SR}(hg: ∀t,(g t).wf S ρ){v:SR}(hr:jog P g h rs=some v):v.wf S ρ:=by
  unfold jog at hr
  split at hr
  · rename_i x hx
    cases hr
    exact jkb hh hg hx x (by simp)
  · rename_i xs _ hx
    cases hr
    exact fun x hx'=>jkb hh hg hx x hx'
  · cases hr
theorem jdi{h:Hp}{w:World}(hh:Cv S ρ w0 h w){fr:List SR}{a:Act}(hf:Hk S ρ w0.heap.size fr a){v:SR}(hr:jog P (Do fr) h rs=some v):(Sz rs a.tmps).run P w=.ok (v.den S ρ w0.heap.size) w:=by
  unfold jog at hr
  have key: ∀xs,Vt P (Do fr) h rs=some xs→(Sz rs a.tmps).run P w=.ok (if hx:(xs.map (SV.den S ρ w0.heap.size)).toArray.size=1 then (xs.map (SV.den S ρ w0.heap.size)).toArray[0] else .tuple (xs.map (SV.den S ρ w0.heap.size)).toArray) w:=by
    intro xs hx
    have:=jlk (P:=P) hh hf hx
    have e:Sz rs a.tmps=(do let vs ←rs.toArray.mapM (jez a.tmps);pure (if h:vs.size=1 then vs[0] else .tuple vs)):=rfl
    rw[e]
    simp only[Array.mapM_eq_mapM_toList,Sem.run_bind,Sem.run_map,this,Result.andThen_ok,Sem.run_pure]
  split at hr
  · rename_i x hx
    injection hr with hr
    subst hr
    rw[key _ hx];simp[SR.den]
  · rename_i xs hne hx
    injection hr with hr
    subst hr
    rw[key _ hx]
    rw[dif_neg]
    · rfl
    · intro h1
      simp at h1
      obtain ⟨x,rfl⟩:=List.length_eq_one_iff.1 h1
      exact hne x rfl
  · cases hr
end
end
end Go.Proofs.YtljjbikbfeigdaaGreatDoor
namespace Go.Proofs.YtljjbikbfeigdaaGreatDoor
noncomputable section
open Go
section
variable {S:Hw} {ρ:Et} {w0:World} {P:Program} {specs:Nat→Option Ec} {B:Nat}
theorem Ks{D D':Nat→Bool}: ∀(l:List (Option Tmp×Value)) (k:Nat) (cur:List Value),(∀i,i<l.length→D (k+i)=D' (k+i))→Cd D k l cur=Cd D' k l cur
  | [],_,_,_=>rfl
  | e::l,k,cur,h=>by
    unfold Cd
    have h0:D k=D' k:=by simpa using h 0 (by simp)
    rw[h0]
    apply Ks
    intro i hi
    have:=h (i+1) (by simpa using hi)
    rw[show k+1+i=k+(i+1) from by omega];exact this
theorem Lj{D:Nat→Bool}: ∀(l:List (Option Tmp×Value)) (k:Nat) (p:Option Tmp×Value) (cur:List Value),Cd D k (l++ [p]) cur=if D (k+l.length) then Oh (Cd D k l cur) p.1 p.2 else Cd D k l cur
  | [],k,p,cur=>by simp[Cd]
  | e::l,k,p,cur=>by
    simp only[List.cons_append,Cd]
    rw[Lj l]
    simp only[List.length_cons]
    rw[show k+1+l.length=k+(l.length+1) from by omega]
theorem Fo: ∀{es:List Fs} {h0 h:Hp} {e:Fs},Je h0 es h→e.heap=h→(Eb e=false→e.r.heap=h)→Je h0 (es++ [e]) e.r.heap
  | [],h0,h,e,hc,h1,h2=>by
    simp only[Je] at hc
    subst hc
    exact ⟨h1,h2,rfl⟩
  | x::es,h0,h,e,hc,h1,h2=>by
    obtain ⟨c1,c2,c3⟩:=hc
    exact ⟨c1,c2,Fo c3 h1 h2⟩
theorem jhj{fr:Nat→SR}{h:Hp}{o:Oper}{r:Sb}(hs:Gx P specs fr h o=some r)(he:jik o.op=false):r.heap=h:=by
  obtain ⟨dst,op,type,pos,after,guard⟩:=o
  cases op<;>simp only[jik,Bool.true_eq_false] at he<;>simp only[Gx,Dt,jfo,jrd,jl1,j09,jjq,So,jpz,jkq,Yv,jk9,jqh,jbg,Ob,Vp,jkv,Uy,jlr,Uq,jji,jb9,Tb,jpd] at hs<;>
    first
    | cases hs
    | (repeat' (split at hs))<;>first
      | cases hs;rfl
      | cases hs
      | (rw[Option.map_eq_some_iff] at hs;obtain ⟨_,_,rfl⟩:=hs;rfl)
      | skip
theorem jgp{all:List Oper}{fr:List SR}{o:Oper}{tmps:Array Value}(ht:tmps.toList=fr.map (SR.den S ρ B)):
    (match jiu all fr o with
     | .yes=>Region.wanted o (yielded all.toArray tmps)=true
     | .no=>Region.wanted o (yielded all.toArray tmps)=false
     | .ask d t=>Do fr d=.v (.one (.bool t))
     | .lost=>True):=by
  unfold jiu
  have hget: ∀d,d<fr.length→tmps[d]? =some ((Do fr d).den S ρ B):=by
    intro d hd
    have h1:tmps[d]? =(fr.map (SR.den S ρ B))[d]? :=by rw[←ht];simp
    rw[h1,List.getElem?_map,List.getElem?_eq_getElem hd]
    unfold Do
    rw[List.getD_eq_getElem?_getD,List.getElem?_eq_getElem hd];rfl
  cases hg:o.guard with
  | none=>simp[Region.wanted,hg]
  | some jw=>
    obtain ⟨j,want⟩:=jw
    simp only
    cases hd:(all[j]?).bind (·.dst) with
    | none=>simp
    | some d=>
      simp only
      by_cases hlt:d<fr.length
      · rw[if_pos hlt]
        have hy: ∀v,(Do fr d).den S ρ B=v→yielded all.toArray tmps j=(match v with|.bool b=>some b|_=>none):=by
          intro v hv
          unfold yielded
          have e1:(all.toArray[j]?).bind (·.dst)=some d:=by simpa using hd
          rw[e1]
          simp only[Option.bind_some]
          rw[hget d hlt,hv]
          cases v<;>rfl
        split
        all_goals rename_i heq
        all_goals (revert heq;split<;>intro heq)
        all_goals first
          | (rename_i hx;cases want<;>simp at heq<;>(have:=hy _ rfl;rw[hx] at this;simp[Region.wanted,hg,this,SR.den,SV.den,Aw.den,T.B,undef]))
          | (rename_i hx;simp at heq;obtain ⟨rfl,rfl⟩:=heq;exact hx)
          | (cases heq;done)
          | (cases heq;trivial)
          | trivial
      · rw[if_neg hlt];simp
theorem jcg{c:T}{x y:SR}:(jae c x y).den S ρ B=if c.B S ρ then x.den S ρ B else y.den S ρ B:=by
  unfold jae
  split
  · rename_i h;subst h;split<;>rfl
  · split
    · rename_i a b
      split
      · rename_i l hl
        unfold jj2 at hl
        split at hl
        · split at hl
          · rename_i hk
            cases hl;subst hk
            simp only[SR.den,SV.den,Aw.den,jk6]
            split<;>rfl
          · cases hl
        · cases hl
          simp only[SR.den,SV.den,Aw.den,jof]
          split<;>rfl
        · cases hl
      · rfl
    · rfl
theorem jpy{c:T}{x y:SR}(h1:c.B S ρ=true→x.wf S ρ)(h2:c.B S ρ=false→y.wf S ρ):(jae c x y).wf S ρ:=by
  unfold jae
  split
  · rename_i h;subst h
    cases hc:c.B S ρ with
    | true=>exact h1 hc
    | false=>exact h2 hc
  · split
    · split
      · trivial
      · exact ⟨h1,h2⟩
    · exact ⟨h1,h2⟩
theorem jao{c:T}(hc:c.B S ρ=true): ∀{l m:List SR},l.length=m.length→(Lo c l m).map (SR.den S ρ B)=l.map (SR.den S ρ B)
  | [],[],_=>rfl
  | x::l,y::m,h=>by
    simp only[Lo,List.map_cons,jcg,hc,if_true]
    rw[jao hc (by simpa using h)]
  | [],_::_,h=>by simp at h
  | _::_,[],h=>by simp at h
theorem Xg{c:T}(hc:c.B S ρ=false): ∀{l m:List SR},l.length=m.length→(Lo c l m).map (SR.den S ρ B)=m.map (SR.den S ρ B)
  | [],[],_=>rfl
  | x::l,y::m,h=>by
    simp only[Lo,List.map_cons,jcg,hc]
    rw[Xg hc (by simpa using h)]
    rfl
  | [],_::_,h=>by simp at h
  | _::_,[],h=>by simp at h
theorem Yj{c:T}: ∀{l m:List SR},(c.B S ρ=true→ ∀x∈l,x.wf S ρ)→(c.B S ρ=false→ ∀x∈m,x.wf S ρ)→ ∀x∈Lo c l m,x.wf S ρ
  | [],_,_,_,z,hz=>by simp[Lo] at hz
  | _::_,[],_,_,z,hz=>by simp[Lo] at hz
  | x::l,y::m,h1,h2,z,hz=>by
    simp only[Lo,List.mem_cons] at hz
    rcases hz with rfl|hz
    · exact jpy (fun h=>h1 h x (by simp)) (fun h=>h2 h y (by simp))
    · exact Yj (fun h q hq=>h1 h q (by simp[hq])) (fun h q hq=>h2 h q (by simp[hq])) z hz
theorem Hk.merge_true{c:T}(hc:c.B S ρ=true){l m:List SR}(hl:l.length=m.length){a:Act}(hf:Hk S ρ B l a):Hk S ρ B (Lo c l m) a:=
  ⟨by rw[jao hc hl];exact hf.tmps,hf.defers,Yj (fun _=>hf.wf) (fun h=>by rw[hc] at h;cases h)⟩
theorem Hk.merge_false{c:T}(hc:c.B S ρ=false){l m:List SR}(hl:l.length=m.length){a:Act}(hf:Hk S ρ B m a):Hk S ρ B (Lo c l m) a:=
  ⟨by rw[Xg hc hl];exact hf.tmps,hf.defers,Yj (fun h=>by rw[hc] at h;cases h) (fun _=>hf.wf)⟩
end
end
end Go.Proofs.YtljjbikbfeigdaaGreatDoor
namespace Go.Proofs.YtljjbikbfeigdaaGreatDoor
noncomputable section
open Go
def Dw(P:Program)(S:Hw)(f:FuncId)(s:Ff):Prop:=
  ∀(ρ:Et) (w0 w:World) (h:Hp) (args:List SR) (r:Wv),s args h=some r→Dx S ρ r.need→(∀x∈args,x.wf S ρ)→Cv S ρ w0 h w→
    Calls P f (args.map (SR.den S ρ w0.heap.size)).toArray w (fun e w'=> ∃ρ',Cg r.ns r.na ρ ρ'∧Dx S ρ' r.facts∧r.val.wf S ρ'∧e=.returned (r.val.den S ρ' w0.heap.size)∧Cv S ρ' w0 r.heap w')
def qgq(P:Program)(S:Hw)(ρ:Et)(w0:World)(a:Act)(w:World)(o:Oper)(r:Wv):Prop:=
  ∀(K:Act→World→Prop) (Q:Exit→Act→World→Prop),(∀ρ' w',Cg r.ns r.na ρ ρ'→Dx S ρ' r.facts→r.val.wf S ρ'→Cv S ρ' w0 r.heap w'→K (a.put o.dst (r.val.den S ρ' w0.heap.size)) w')→o.wp P a w K Q
section
variable {S:Hw} {ρ:Et} {w0 w:World} {h:Hp} {P:Program} {B:Nat}
def upd{α:Type}(f:Nat→α)(n:Nat)(x:α):Nat→α:=fun k=>if k=n then x else f k
theorem Ru: ∀{l:List (Cl×Gn)} {r:Cl} {x:Cl×Gn},x∈Ox l r→x∈l
  | [],_,_,h=>by simp[Ox] at h
  | (q,b)::l,r,x,h=>by
    unfold Ox at h
    split at h
    · exact List.mem_cons_of_mem _ h
    · rcases List.mem_cons.1 h with h|h
      · rw[h];simp
      · exact List.mem_cons_of_mem _ (Ru h)
theorem jet(f:Cl→Nat): ∀(l:List (Cl×Gn)) (r:Cl),((Ox l r).map fun x=>f x.1).Sublist (l.map fun x=>f x.1)
  | [],_=>List.Sublist.slnil
  | (q,b)::l,r=>by
    unfold Ox
    split
    · exact List.Sublist.cons _ (List.Sublist.refl _)
    · exact List.Sublist.cons_cons _ (jet f l r)
theorem jty(f:Cl→Nat): ∀{l:List (Cl×Gn)} {r:Cl} {b:Gn} {x:Cl×Gn},(l.map fun x=>f x.1).Nodup→Jr l r=some b→x∈Ox l r→f x.1≠f r
  | [],_,_,_,_,_,h=>by simp[Ox] at h
  | (q,c)::l,r,b,x,hn,hf,h=>by
    simp only[List.map_cons,List.nodup_cons] at hn
    unfold Jr at hf
    unfold Ox at h
    split at h
    · rename_i hq
      have:=Cl.code_inj hq
      subst this
      intro e
      apply hn.1
      rw[←e];exact List.mem_map.2 ⟨x,h,rfl⟩
    · rename_i hq
      rw[hq] at hf
      simp only[Bool.false_eq_true,if_false] at hf
      rcases List.mem_cons.1 h with h|h
      · subst h
        intro e
        apply hn.1
        rw[e];exact List.mem_map.2 ⟨(r,b),Gw hf,rfl⟩
      · exact jty f hn.2 hf h
theorem jjb: ∀{l:List (Cl×Gn)} {r:Cl} {x:Cl×Gn},x∈l→x∈Ox l r∨x.1=r
  | [],_,_,h=>by simp at h
  | (q,c)::l,r,x,h=>by
    unfold Ox
    split
    · rename_i hq
      have:=Cl.code_inj hq
      rcases List.mem_cons.1 h with h|h
      · right;rw[h];exact this
      · left;exact h
    · rcases List.mem_cons.1 h with h|h
      · left;rw[h];simp
      · rcases jjb (r:=r) h with h|h
        · left;simp[h]
        · right;exact h
theorem Py{S:Hw}{ρ ρ':Et}{ns:Nat}{na:Nat}{ow:Option OW}(hA:Cg ns na ρ ρ')(hc:Se ns ow=true){o:OW}(ho:ow=some o):ρ'.v o.v=ρ.v o.v∧o.a.A S ρ'=o.a.A S ρ:=by
  subst ho
  simp only[Se,Bool.and_eq_true] at hc
  exact ⟨hA.v _ (Nat.le_of_ble_eq_true hc.1),(T.clear_den (S:=S) hA hc.2).2.2⟩
theorem je3(hh:Cv S ρ w0 h w){rw:List (Cl×Gn)}(hsub: ∀x∈rw,x∈h.rw)(hnd:(rw.map fun x=>x.1.blk ρ w0.heap.size).Nodup)
    (hdrop: ∀x∈h.rw,x∈rw∨w0.heap.size≤x.1.blk ρ w0.heap.size)(c1:Gm h.nv h.na rw=true)(c2:Gh h.nv h.na h.ro=true)(c4:Se h.nv h.ow=true)
    {pg:List Cp}(hpg:Cm S ρ pg)(c3:pg.all (Cp.clear h.nv h.na)=true){e:Nat}{z:List Aw}(hz: ∀ρ',z.map (Aw.den S ρ' w0.heap.size)=z.map (Aw.den S ρ w0.heap.size)){len cap:Nat}(hcap:len≤cap):
    ∃ρ',Cg h.nv h.na ρ ρ'∧ρ'.i h.nv=cap∧(Cl.own h.nv).blk ρ' w0.heap.size=w.heap.size∧
      Cv S ρ' w0 {h with rw:=rw++ [(.own h.nv,⟨e,Dn pg++ [.tail z (.sub (.iv h.nv) (.lit (len:Nat)))]⟩)],nv:=h.nv+1}
        (w.drew.alloc (.cells (Av S ρ w0.heap.size pg++(List.replicate (cap-len) (z.map (Aw.den S ρ w0.heap.size))).flatten).toArray e)):=by
  have hA:Cg h.nv h.na ρ {ρ with i:=upd ρ.i h.nv cap,blk:=upd ρ.blk h.nv (ρ.nb h.na),nb:=fun k=>if k<h.na then ρ.nb k else ρ.nb k+1}:=by
    refine ⟨?_,fun _ _=>rfl,fun _ _=>rfl,fun _ _=>rfl,fun _ _=>rfl,?_,fun _ _=>rfl,fun _ _=>rfl,?_,rfl⟩
    · intro k hk;simp only[upd];rw[if_neg (by omega)]
    · intro k hk;simp only[upd];rw[if_neg (by omega)]
    · intro k hk;simp only;rw[if_pos hk]
  have hown:(Cl.own h.nv).blk {ρ with i:=upd ρ.i h.nv cap,blk:=upd ρ.blk h.nv (ρ.nb h.na),nb:=fun k=>if k<h.na then ρ.nb k else ρ.nb k+1} w0.heap.size=w.heap.size:=by
    simp only[Cl.blk,upd,if_true];exact hh.size.symm
  refine ⟨{ρ with i:=upd ρ.i h.nv cap,blk:=upd ρ.blk h.nv (ρ.nb h.na),nb:=fun k=>if k<h.na then ρ.nb k else ρ.nb k+1},hA,by simp[upd],hown,?_⟩
  generalize hρ:({ρ with i:=upd ρ.i h.nv cap,blk:=upd ρ.blk h.nv (ρ.nb h.na),nb:=fun k=>if k<h.na then ρ.nb k else ρ.nb k+1}:Et)=ρ' at hA hown
  have hi:ρ'.i h.nv=cap:=by subst hρ;simp[upd]
  have hnb: ∀k,h.na≤k→ρ'.nb k=ρ.nb k+1:=by subst hρ;intro k hk;simp only;rw[if_neg (by omega)]
  unfold Gm at c1
  unfold Gh at c2
  rw[List.all_eq_true] at c1 c2
  have k1: ∀x∈rw,x.1.blk ρ' w0.heap.size=x.1.blk ρ w0.heap.size∧x.1.off ρ'=x.1.off ρ∧Av S ρ' w0.heap.size x.2.segs=Av S ρ w0.heap.size x.2.segs∧(Cm S ρ x.2.segs→Cm S ρ' x.2.segs):=by
    intro x hx
    have:=c1 x hx
    simp only[Bool.and_eq_true] at this
    exact ⟨(Cl.clear_den hA this.1).1,(Cl.clear_den hA (B:=w0.heap.size) this.1).2,(Dv hA this.2).1,(Dv (B:=w0.heap.size) hA this.2).2⟩
  have k2: ∀x∈h.ro,x.1.blk ρ' w0.heap.size=x.1.blk ρ w0.heap.size∧x.1.off ρ'=x.1.off ρ∧x.2.2.A S ρ'=x.2.2.A S ρ:=by
    intro x hx
    have:=c2 x hx
    simp only[Bool.and_eq_true] at this
    exact ⟨(Cl.clear_den hA this.1).1,(Cl.clear_den hA (B:=w0.heap.size) this.1).2,(T.clear_den hA this.2).2.2⟩
  have hd:=hh.drew
  have hlt: ∀x∈h.rw,x.1.blk ρ w0.heap.size<w.heap.size:=fun x hx=>(Array.getElem?_eq_some_iff.1 (hh.rw_ x hx)).1
  have hold: ∀(o:Obj) (i:Nat),i<w.heap.size→(w.drew.alloc o).heap[i]? =w.heap[i]? :=fun o i hi=>heap_alloc_old w.drew o hi
  have hsegs:Av S ρ' w0.heap.size (Dn pg++ [.tail z (.sub (.iv h.nv) (.lit (len:Nat)))])=Av S ρ w0.heap.size pg++(List.replicate (cap-len) (z.map (Aw.den S ρ w0.heap.size))).flatten:=by
    rw[Bp,(Ew (S:=S) (ρ:=ρ') (B:=w0.heap.size) pg).1,(Dv hA c3).1,Au,Cj,List.append_nil]
    simp only[Cp.den,T.I,hi,hz ρ']
    congr 3
    omega
  have hnew: ∀x∈rw++ [(Cl.own h.nv,(⟨e,Dn pg++ [.tail z (.sub (.iv h.nv) (.lit (len:Nat)))]⟩:Gn))],x∈rw∨x=(Cl.own h.nv,(⟨e,Dn pg++ [.tail z (.sub (.iv h.nv) (.lit (len:Nat)))]⟩:Gn)):=fun x hx=>by
    simpa using hx
  refine ⟨?_,?_,?_,?_,?_,?_,?_,?_,?_,?_,?_,hd.os,hd.tape,hd.output⟩
  · intro x hx
    rcases hnew x hx with hx|rfl
    · rw[(k1 x hx).1,(k1 x hx).2.2.1,hold _ _ (hlt x (hsub x hx))];exact hh.rw_ x (hsub x hx)
    · simp only[hown,hsegs]
      exact heap_alloc_new w.drew _
  · intro x hx
    rcases hnew x hx with hx|rfl
    · exact (k1 x hx).2.2.2 (hh.wf x (hsub x hx))
    · refine Ch.2 ⟨(Ew (S:=S) (ρ:=ρ') (B:=w0.heap.size) pg).2 ((Dv (B:=w0.heap.size) hA c3).2 hpg),fun g hg=> ?_⟩
      simp only[List.mem_singleton] at hg
      subst hg;trivial
  · intro x hx
    rcases hnew x hx with hx|rfl
    · rw[(k1 x hx).2.1];exact hh.off x (hsub x hx)
    · rfl
  · rw[List.map_append,List.nodup_append]
    refine ⟨?_,by simp,?_⟩
    · rw[List.map_congr_left fun x hx=>(k1 x hx).1];exact hnd
    · intro p hp q hq e'
      obtain ⟨x,hx,rfl⟩:=List.mem_map.1 hp
      simp only[List.map_cons,List.map_nil,List.mem_singleton] at hq
      rw[(k1 x hx).1] at e'
      have:=hlt x (hsub x hx)
      rw[hown] at hq
      omega
  · intro x hx j v hv
    rw[(k2 x hx).1,(k2 x hx).2.1]
    rw[(k2 x hx).2.2] at hv
    have hc:=hh.ro x hx j v hv
    rw[World.cell?_alloc_lt w.drew _ _ (World.block_lt_of_cell? w _ hc)]
    exact hc
  · intro x hx y hy
    rw[(k2 x hx).1]
    rcases hnew y hy with hy|rfl
    · rw[(k1 y hy).1];exact hh.apart x hx y (hsub y hy)
    · simp only[hown]
      have:=hh.rolt x hx
      have:=hh.size
      omega
  · intro x hx
    rw[(k2 x hx).1];exact hh.rolt x hx
  · simp only[World.size_alloc]
    rw[hnb h.na (Nat.le_refl _)]
    have:=hh.size
    show w.heap.size+1=_
    omega
  · intro k hk
    rw[hnb k hk,hnb (k+1) (Nat.le_succ_of_le hk),hh.nbs k hk]
  · intro i hi' hlo hne
    have:=hh.size
    rw[hold _ i (by omega)]
    refine hh.frame i hi' (by rw[hA.loose] at hlo;exact hlo) fun x hx e'=> ?_
    rcases hdrop x hx with hx'|hge
    · exact hne x (List.mem_append.2 (.inl hx')) (by rw[(k1 x hx').1];exact e')
    · omega
  · intro o ho
    have hcl:=Py (S:=S) hA c4 ho
    rcases hh.own o ho with h'|⟨p,cp,q1,q2,q3,q4,q5,q6⟩
    · exact .inl ⟨by rw[hcl.1];exact h'.1,by rw[hcl.2];exact h'.2⟩
    · have hp:p<w.heap.size:=(Array.getElem?_eq_some_iff.1 q3).1
      refine .inr ⟨p,cp,by rw[hcl.1,hcl.2];exact q1,by rw[hcl.2];exact q2,by rw[hcl.2,hold _ p hp];exact q3,by rw[hA.loose];exact q4,fun x hx=> ?_,fun x hx=>by rw[(k2 x hx).1];exact q6 x hx⟩
      rcases hnew x hx with hx|rfl
      · rw[(k1 x hx).1];exact q5 x (hsub x hx)
      · simp only[hown];omega
theorem jns(hh:Cv S ρ w0 h w){q:Nat}{b:Gn}(hb:Jr h.rw (.own q)=some b)(c1:Gm h.nv h.na (Ox h.rw (.own q))=true)(c2:Gh h.nv h.na h.ro=true)(c4:Se h.nv h.ow=true)
    {pg:List Cp}(hpg:Cm S ρ pg)(c3:pg.all (Cp.clear h.nv h.na)=true){z:List Aw}(hz: ∀ρ',z.map (Aw.den S ρ' w0.heap.size)=z.map (Aw.den S ρ w0.heap.size)){len cap:Nat}:
    ∃ρ',Cg h.nv h.na ρ ρ'∧ρ'.i h.nv=cap∧(Cl.own h.nv).blk ρ' w0.heap.size=(Cl.own q).blk ρ w0.heap.size∧
      Cv S ρ' w0 {h with rw:=Ox h.rw (.own q)++ [(.own h.nv,⟨b.ty,Dn pg++ [.tail z (.sub (.iv h.nv) (.lit (len:Nat)))]⟩)],nv:=h.nv+1}
        (w.setRow ((Cl.own q).blk ρ w0.heap.size) (Av S ρ w0.heap.size pg++(List.replicate (cap-len) (z.map (Aw.den S ρ w0.heap.size))).flatten).toArray):=by
  have hA:Cg h.nv h.na ρ {ρ with i:=upd ρ.i h.nv cap,blk:=upd ρ.blk h.nv (ρ.blk q)}:=by
    refine ⟨?_,fun _ _=>rfl,fun _ _=>rfl,fun _ _=>rfl,fun _ _=>rfl,?_,fun _ _=>rfl,fun _ _=>rfl,fun _ _=>rfl,rfl⟩
    · intro k hk;simp only[upd];rw[if_neg (by omega)]
    · intro k hk;simp only[upd];rw[if_neg (by omega)]
  refine ⟨{ρ with i:=upd ρ.i h.nv cap,blk:=upd ρ.blk h.nv (ρ.blk q)},hA,by simp[upd],by simp[Cl.blk,upd],?_⟩
  have hown:(Cl.own h.nv).blk {ρ with i:=upd ρ.i h.nv cap,blk:=upd ρ.blk h.nv (ρ.blk q)} w0.heap.size=(Cl.own q).blk ρ w0.heap.size:=by simp[Cl.blk,upd]
  generalize hρ:({ρ with i:=upd ρ.i h.nv cap,blk:=upd ρ.blk h.nv (ρ.blk q)}:Et)=ρ' at hA hown
  have hi:ρ'.i h.nv=cap:=by subst hρ;simp[upd]
  have hnb:ρ'.nb=ρ.nb:=by subst hρ;rfl
  unfold Gm at c1
  unfold Gh at c2
  rw[List.all_eq_true] at c1 c2
  have hsub: ∀x∈Ox h.rw (.own q),x∈h.rw:=fun x hx=>Ru hx
  have hne: ∀x∈Ox h.rw (.own q),x.1.blk ρ w0.heap.size≠(Cl.own q).blk ρ w0.heap.size:=fun x hx=>jty (fun r=>r.blk ρ w0.heap.size) hh.nd hb hx
  have hmem:=Gw hb
  have hrow:=hh.rw_ _ hmem
  simp only at hrow
  have k1: ∀x∈Ox h.rw (.own q),x.1.blk ρ' w0.heap.size=x.1.blk ρ w0.heap.size∧x.1.off ρ'=x.1.off ρ∧Av S ρ' w0.heap.size x.2.segs=Av S ρ w0.heap.size x.2.segs∧(Cm S ρ x.2.segs→Cm S ρ' x.2.segs):=by
    intro x hx
    have:=c1 x hx
    simp only[Bool.and_eq_true] at this
    exact ⟨(Cl.clear_den hA this.1).1,(Cl.clear_den hA (B:=w0.heap.size) this.1).2,(Dv hA this.2).1,(Dv (B:=w0.heap.size) hA this.2).2⟩
  have k2: ∀x∈h.ro,x.1.blk ρ' w0.heap.size=x.1.blk ρ w0.heap.size∧x.1.off ρ'=x.1.off ρ∧x.2.2.A S ρ'=x.2.2.A S ρ:=by
    intro x hx
    have:=c2 x hx
    simp only[Bool.and_eq_true] at this
    exact ⟨(Cl.clear_den hA this.1).1,(Cl.clear_den hA (B:=w0.heap.size) this.1).2,(T.clear_den hA this.2).2.2⟩
  have hsegs:Av S ρ' w0.heap.size (Dn pg++ [.tail z (.sub (.iv h.nv) (.lit (len:Nat)))])=Av S ρ w0.heap.size pg++(List.replicate (cap-len) (z.map (Aw.den S ρ w0.heap.size))).flatten:=by
    rw[Bp,(Ew (S:=S) (ρ:=ρ') (B:=w0.heap.size) pg).1,(Dv hA c3).1,Au,Cj,List.append_nil]
    simp only[Cp.den,T.I,hi,hz ρ']
    congr 3
    omega
  have hnew: ∀x∈Ox h.rw (.own q)++ [(Cl.own h.nv,(⟨b.ty,Dn pg++ [.tail z (.sub (.iv h.nv) (.lit (len:Nat)))]⟩:Gn))],x∈Ox h.rw (.own q)∨x=(Cl.own h.nv,(⟨b.ty,Dn pg++ [.tail z (.sub (.iv h.nv) (.lit (len:Nat)))]⟩:Gn)):=fun x hx=>by
    simpa using hx
  have hge:w0.heap.size≤(Cl.own q).blk ρ w0.heap.size:=by simp only[Cl.blk];omega
  refine ⟨?_,?_,?_,?_,?_,?_,?_,?_,?_,?_,?_,hh.os,hh.tape,hh.output⟩
  · intro x hx
    rcases hnew x hx with hx|rfl
    · rw[(k1 x hx).1,(k1 x hx).2.2.1,setRow_other w _ _ _ (hne x hx)];exact hh.rw_ x (hsub x hx)
    · simp only[hown,hsegs]
      exact setRow_heap w _ _ _ _ _ hrow
  · intro x hx
    rcases hnew x hx with hx|rfl
    · exact (k1 x hx).2.2.2 (hh.wf x (hsub x hx))
    · refine Ch.2 ⟨(Ew (S:=S) (ρ:=ρ') (B:=w0.heap.size) pg).2 ((Dv (B:=w0.heap.size) hA c3).2 hpg),fun g hg=> ?_⟩
      simp only[List.mem_singleton] at hg
      subst hg;trivial
  · intro x hx
    rcases hnew x hx with hx|rfl
    · rw[(k1 x hx).2.1];exact hh.off x (hsub x hx)
    · rfl
  · rw[List.map_append,List.nodup_append]
    refine ⟨?_,by simp,?_⟩
    · rw[List.map_congr_left fun x hx=>(k1 x hx).1]
      exact List.Nodup.sublist (jet (fun r=>r.blk ρ w0.heap.size) h.rw (.own q)) hh.nd
    · intro p hp y hq e'
      obtain ⟨x,hx,rfl⟩:=List.mem_map.1 hp
      simp only[List.map_cons,List.map_nil,List.mem_singleton] at hq
      rw[(k1 x hx).1] at e'
      rw[hown] at hq
      exact hne x hx (e'.trans hq)
  · intro x hx j v hv
    rw[(k2 x hx).1,(k2 x hx).2.1]
    rw[(k2 x hx).2.2] at hv
    have hc:=hh.ro x hx j v hv
    rw[World.cell?_of_block (w:=w) (setRow_other w _ _ _ (hh.apart x hx _ hmem))]
    exact hc
  · intro x hx y hy
    rw[(k2 x hx).1]
    rcases hnew y hy with hy|rfl
    · rw[(k1 y hy).1];exact hh.apart x hx y (hsub y hy)
    · simp only[hown];exact hh.apart x hx _ hmem
  · intro x hx
    rw[(k2 x hx).1];exact hh.rolt x hx
  · rw[hnb]
    have:=hh.size
    simpa using this
  · rw[hnb];exact hh.nbs
  · intro i hi' hlo hne'
    rw[setRow_other w _ _ _ (by omega)]
    refine hh.frame i hi' (by rw[hA.loose] at hlo;exact hlo) fun x hx e'=> ?_
    rcases jjb (r:=.own q) hx with hx'|hx'
    · exact hne' x (List.mem_append.2 (.inl hx')) (by rw[(k1 x hx').1];exact e')
    · rw[hx'] at e';omega
  · intro o ho
    have hcl:=Py (S:=S) hA c4 ho
    rcases hh.own o ho with h'|⟨p,cp,q1,q2,q3,q4,q5,q6⟩
    · exact .inl ⟨by rw[hcl.1];exact h'.1,by rw[hcl.2];exact h'.2⟩
    · refine .inr ⟨p,cp,by rw[hcl.1,hcl.2];exact q1,by rw[hcl.2];exact q2,by rw[hcl.2,setRow_other w _ _ _ (fun e=>q5 _ hmem e.symm)];exact q3,by rw[hA.loose];exact q4,fun x hx=> ?_,fun x hx=>by rw[(k2 x hx).1];exact q6 x hx⟩
      rcases hnew x hx with hx|rfl
      · rw[(k1 x hx).1];exact q5 x (hsub x hx)
      · simp only[hown];exact q5 _ hmem
end
end
end Go.Proofs.YtljjbikbfeigdaaGreatDoor
namespace Go.Proofs.YtljjbikbfeigdaaGreatDoor
noncomputable section
open Go
theorem Vr(z:Array Value)(hz:0<z.size): ∀k,(Builtin.zeroCells z k).toList=(List.replicate k z.toList).flatten:=by
  intro k
  unfold Builtin.zeroCells
  rw[Array.toList_map,Array.toList_range]
  induction k with
  | zero=>simp
  | succ k ih=>
    rw[Nat.add_mul,Nat.one_mul,List.range_add,List.map_append,ih,List.replicate_succ',List.flatten_append]
    congr 1
    simp only[List.flatten_cons,List.flatten_nil,List.append_nil,List.map_map]
    apply List.ext_getElem?
    intro j
    simp only[List.getElem?_map]
    by_cases hj:j<z.size
    · rw[List.getElem?_range hj]
      simp only[Option.map_some,Function.comp_apply]
      rw[Nat.add_comm,Nat.add_mul_mod_self_right,Nat.mod_eq_of_lt hj]
      simp[hj]
    · rw[List.getElem?_eq_none (by simp;omega),List.getElem?_eq_none (by simp;omega)];rfl
theorem Lg{α:Type}(l:List α): ∀k,(List.replicate k l).flatten.length=k*l.length
  | 0=>by simp
  | k+1=>by rw[List.replicate_succ,List.flatten_cons,List.length_append,Lg l k,Nat.add_mul];omega
theorem drop_replicate{α:Type}(l:List α): ∀(m k:Nat),m≤k→(List.replicate k l).flatten.drop (m*l.length)=(List.replicate (k-m) l).flatten
  | 0,k,_=>by simp
  | m+1,0,h=>by omega
  | m+1,k+1,h=>by
    rw[List.replicate_succ,List.flatten_cons,Nat.add_mul,Nat.one_mul,Nat.add_comm,List.drop_append]
    rw[List.drop_eq_nil_of_le (by omega)]
    rw[show l.length+m*l.length-l.length=m*l.length from by omega]
    rw[List.nil_append,drop_replicate l m k (by omega)]
    rw[show k+1-(m+1)=k-m from by omega]
section
variable {S:Hw} {ρ:Et} {w0 w:World} {h:Hp} {P:Program} {B:Nat}
set_option maxHeartbeats 1000000 in
theorem jux(hh:Cv S ρ w0 h w){t u ty:TypeId}{x y:Aw}{r:Wv}(hb:jdn P t u x y h=some r)(hm:Dx S ρ r.need):
    ∃ρ' w',Cg r.ns r.na ρ ρ'∧Dx S ρ' r.facts∧r.val.wf S ρ'∧(Builtin.append_ #[t,u] ty #[x.den S ρ w0.heap.size,y.den S ρ w0.heap.size]).run P w=.ok (r.val.den S ρ' w0.heap.size) w'∧Cv S ρ' w0 r.heap w':=by
  unfold jdn at hb
  split at hb
  · rename_i e hu
    split at hb
    · rename_i htu
      subst htu
      split at hb
      · rename_i i zs r2 s2 d2 ln2 c2 hi hzs
        split at hb
        · rename_i z m c0 n p rw oz hz hv hbase
          split at hb
          · rename_i c g hrd
            split at hb
            · rename_i hc
              obtain ⟨hoz,hzl,hm0,hsz,hby,hpl,c1,cro,cow,c3⟩:=hc
              simp only[Option.some.injEq] at hb
              subst hb
              obtain ⟨m1,m2⟩:=Co.1 hm
              obtain ⟨r',s',d',ln',cp',heq,g1,g2,g3⟩:=jf3 hh hrd m2
              injection heq with e1 e2 e3 e4 e5
              subst e1 e2 e3 e4 e5
              have hln:(ln2.I S ρ).toNat=m:=by rw[Cy hv];simp[T.I]
              have hzden: ∀ρ':Et,∃i' z',P.info? e=some i'∧i'.zero=some z'∧z.map (Aw.den S ρ' w0.heap.size)=z'.cells.toList:=by
                intro ρ'
                obtain ⟨i',z',q1,q2,q3,_⟩:=Kj (S:=S) (ρ:=ρ') (B:=w0.heap.size) hzs
                exact ⟨i',z',q1,q2,by rw[←(Ml hz).1];exact q3⟩
              obtain ⟨i',zv,q1,q2,q3⟩:=hzden ρ
              rw[hi] at q1
              cases q1
              have hzc: ∀ρ':Et,z.map (Aw.den S ρ' w0.heap.size)=z.map (Aw.den S ρ w0.heap.size):=by
                intro ρ'
                obtain ⟨i',z',p1,p2,p3⟩:=hzden ρ'
                rw[hi] at p1;cases p1
                rw[q2] at p2;cases p2
                rw[p3,q3]
              have hzsize:zv.cells.size=i.size:=by
                rw[←Array.length_toList,←q3,List.length_map];exact hzl
              have hzero: ∀k,(Builtin.zeroCells zv.cells k)=(List.replicate k (z.map (Aw.den S ρ w0.heap.size))).flatten.toArray:=by
                intro k
                apply Array.ext'
                rw[Vr zv.cells (by omega),q3]
              have hnm:n+m≤1073741824:=by
                have:=Nat.le_mul_of_pos_right (n+m) (show 0<i.bytes+1 by omega)
                omega
              have hnb:(n+m)*i.bytes≤1073741824:=by
                have:(n+m)*i.bytes≤(n+m)*(i.bytes+1):=Nat.mul_le_mul_left _ (by omega)
                omega
              have hwpg: ∀{p:List Cp},Cm S ρ p→Cm S ρ (p++g):=fun hp=>Ch.2 ⟨hp,g2⟩
              unfold j6r at hbase
              split at hbase
              ·
                simp only[Option.some.injEq,Prod.mk.injEq] at hbase
                obtain ⟨rfl,rfl,rfl,rfl,rfl⟩:=hbase
                have hr:=run_append_nil (P:=P) w t ty e i zv hu hi q2 (Cw S ρ w0.heap.size r2 s2 d2) m (c2.I S ρ).toNat (Av S ρ w0.heap.size g) g1 g3 hm0 (by omega) (by simp only[Nat.zero_add] at hnb;omega)
                obtain ⟨ρ',a1,a2,a3,a4⟩:=je3 hh (rw:=h.rw) (fun _ h=>h) hh.nd (fun x hx=>.inl hx) c1 cro cow (pg:=[]++g) (hwpg (fun _ h=>nomatch h)) c3 (e:=e) hzc (len:=0+m) (cap:=grownCap w m 0 e) (by have:=grownCap_ge w m 0 e;omega)
                refine ⟨ρ',_,a1,?_,trivial,?_,a4⟩
                · intro q hq
                  simp only[List.mem_singleton] at hq
                  subst hq
                  have:=grownCap_ge w m 0 e
                  rw[Bo];simp[T.I,a2];omega
                · simp only[Aw.den,hln]
                  rw[hr]
                  simp only[SR.den,SV.den,Aw.den,Cw,Cl.off,T.I,a2,a3,Nat.zero_add]
                  simp[hzero]
              ·
                rename_i q nn cc
                split at hbase
                · rename_i b hf
                  split at hbase
                  · rename_i hbt
                    split at hbase
                    · rename_i p' z' c' n' hsp
                      split at hbase
                      · rename_i hcn
                        obtain ⟨rfl,rfl⟩:=hcn
                        simp only[Option.some.injEq,Prod.mk.injEq] at hbase
                        obtain ⟨rfl,rfl,rfl,rfl,rfl⟩:=hbase
                        have hzz:z'=z:=by
                          rcases hoz with h|h
                          · cases h
                          · injection h
                        subst hzz
                        have hmem:=Gw hf
                        have hrw:=hh.rw_ _ hmem
                        have hwf:=hh.wf _ hmem
                        simp only at hrw hwf
                        obtain ⟨s1,s2',s3,s4⟩:=Fn (S:=S) (ρ:=ρ) (B:=w0.heap.size) hwf hsp
                        have hcap:(n':Int)≤ρ.i c':=by
                          have:=m1 _ (List.mem_singleton.2 rfl)
                          simp only[T.B,T.I] at this
                          exact of_decide_eq_true this
                        have htail:Av S ρ w0.heap.size [.tail z' (.sub (.iv c') (.lit (Int.ofNat n')))]=(List.replicate ((ρ.i c').toNat-n') (z'.map (Aw.den S ρ w0.heap.size))).flatten:=by
                          simp only[Au,Cj,List.append_nil,Cp.den,T.I]
                          congr 2
                          have:(Int.ofNat n':Int)=(n':Int):=rfl
                          omega
                        have hcells:Av S ρ w0.heap.size b.segs=Av S ρ w0.heap.size p'++(List.replicate ((ρ.i c').toNat-n') (z'.map (Aw.den S ρ w0.heap.size))).flatten:=by
                          rw[←s1,htail]
                        have hZ:(z'.map (Aw.den S ρ w0.heap.size)).length=i.size:=by rw[List.length_map];exact hzl
                        have hlen:(Av S ρ w0.heap.size b.segs).length=(ρ.i c').toNat*i.size:=by
                          rw[hcells,List.length_append,s2',Lg,hZ,←Nat.add_mul]
                          congr 1;omega
                        have hx:(Aw.sl (.own q) 0 (.lit (.ofNat 0)) (.lit (.ofNat n')) (.iv c')).den S ρ w0.heap.size=.slice (some ⟨(Cl.own q).blk ρ w0.heap.size,0,none⟩) n' (ρ.i c').toNat:=by
                          simp[Aw.den,Cw,Cl.off,T.I]
                        rw[hbt] at hrw
                        by_cases hroom:n'+m≤(ρ.i c').toNat
                        · have hfit:n'*i.size+(Av S ρ w0.heap.size g).length≤(Av S ρ w0.heap.size b.segs).toArray.size:=by
                            rw[List.size_toArray (as:=Av S ρ w0.heap.size b.segs),hlen,g1,←Nat.add_mul];exact Nat.mul_le_mul_right _ hroom
                          have hr:=run_append_room (P:=P) w t ty e i hu hi ((Cl.own q).blk ρ w0.heap.size) n' (ρ.i c').toNat _ hrw (Cw S ρ w0.heap.size r2 s2 d2) m (c2.I S ρ).toNat (Av S ρ w0.heap.size g) g1 g3 (Yd hpl) hroom hfit
                          obtain ⟨ρ',a1,a2,a3,a4⟩:=jns hh hf c1 cro cow (pg:=p'++g) (hwpg s3) c3 hzc (len:=n'+m) (cap:=(ρ.i c').toNat)
                          rw[hbt] at a4
                          refine ⟨ρ',_,a1,?_,trivial,?_,a4⟩
                          · intro x hx
                            simp only[List.mem_singleton] at hx
                            subst hx
                            rw[Bo];simp[T.I,a2];omega
                          · have ey:(Aw.sl r2 s2 d2 ln2 c2).den S ρ w0.heap.size=.slice (some (Cw S ρ w0.heap.size r2 s2 d2)) m (c2.I S ρ).toNat:=by simp only[Aw.den,hln]
                            rw[hx,ey,hr]
                            have ec:(Av S ρ w0.heap.size b.segs).toArray.toList.take (n'*i.size)++Av S ρ w0.heap.size g++(Av S ρ w0.heap.size b.segs).toArray.toList.drop (n'*i.size+(Av S ρ w0.heap.size g).length)
                                =Av S ρ w0.heap.size (p'++g)++(List.replicate ((ρ.i c').toNat-(n'+m)) (z'.map (Aw.den S ρ w0.heap.size))).flatten:=by
                              simp only[hcells,Bp]
                              rw[←s2',List.take_left,List.drop_append,List.drop_eq_nil_of_le (by omega),List.nil_append]
                              rw[show (Av S ρ w0.heap.size p').length+(Av S ρ w0.heap.size g).length-(Av S ρ w0.heap.size p').length=m*(z'.map (Aw.den S ρ w0.heap.size)).length from by rw[g1,hZ];omega]
                              rw[drop_replicate _ m _ (by omega)]
                              rw[show (ρ.i c').toNat-n'-m=(ρ.i c').toNat-(n'+m) from by omega]
                            rw[ec]
                            simp only[SR.den,SV.den,Aw.den,Cw,Cl.off,T.I,a2,a3]
                            simp
                            omega
                        · have holds: ∀j v,(Av S ρ w0.heap.size p')[j]? =some v→w.cell? ((⟨(Cl.own q).blk ρ w0.heap.size,0,none⟩:Addr).add j)=some v:=by
                            intro j v hj
                            rw[Ho,cell_of_row w _ _ _ _ _ hrw,List.getElem?_toArray,hcells,Nat.zero_add]
                            rw[List.getElem?_append_left (List.getElem?_eq_some_iff.1 hj).1];exact hj
                          have hr:=run_append_grow (P:=P) w t ty e i zv hu hi q2 ⟨(Cl.own q).blk ρ w0.heap.size,0,none⟩ n' (ρ.i c').toNat (Av S ρ w0.heap.size p') s2' holds (Cw S ρ w0.heap.size r2 s2 d2) m (c2.I S ρ).toNat (Av S ρ w0.heap.size g) g1 g3 (by omega) (by omega)
                            (growslice_fits (by omega) (by omega))
                          obtain ⟨ρ',a1,a2,a3,a4⟩:=je3 hh (rw:=Ox h.rw (.own q)) (fun _ h=>Ru h) (List.Nodup.sublist (jet (fun r=>r.blk ρ w0.heap.size) h.rw (.own q)) hh.nd)
                            (fun x hx=>by
                              rcases jjb (r:=.own q) hx with h|h
                              · exact .inl h
                              · right;rw[h];simp only[Cl.blk];omega) c1 cro cow (pg:=p'++g) (hwpg s3) c3 (e:=e) hzc (len:=n'+m) (cap:=grownCap w (n'+m) (ρ.i c').toNat e) (grownCap_ge w _ _ e)
                          refine ⟨ρ',_,a1,?_,trivial,?_,a4⟩
                          · intro x hx
                            simp only[List.mem_singleton] at hx
                            subst hx
                            have:=grownCap_ge w (n'+m) (ρ.i c').toNat e
                            rw[Bo];simp[T.I,a2];omega
                          · have ey:(Aw.sl r2 s2 d2 ln2 c2).den S ρ w0.heap.size=.slice (some (Cw S ρ w0.heap.size r2 s2 d2)) m (c2.I S ρ).toNat:=by simp only[Aw.den,hln]
                            rw[hx,ey,hr]
                            simp only[SR.den,SV.den,Aw.den,Cw,Cl.off,T.I,a2,a3]
                            simp[hzero,Bp]
                            omega
                      · cases hbase
                    · cases hbase
                  · cases hbase
                · cases hbase
              · cases hbase
            · cases hb
          · cases hb
        · cases hb
      · cases hb
    · cases hb
  · cases hb
theorem jmx(hh:Cv S ρ w0 h w)(c1:Gm h.nv h.na h.rw=true)(c2:Gh h.nv h.na h.ro=true){k:IntKind}{e:Nat}{a:T}(ca:a.clear h.nv=true){cap:Nat}(hcap:(a.A S ρ).length≤cap):
    ∃ρ',Cg h.nv h.na ρ ρ'∧ρ'.v h.nv=.slice (some ⟨w.heap.size,0,none⟩) (a.A S ρ).length cap∧
      Cv S ρ' w0 {h with ow:=some ⟨h.nv,e,k,a⟩,nv:=h.nv+1} (w.drew.alloc (.cells ((a.A S ρ).map (Value.int k)++List.replicate (cap-(a.A S ρ).length) (Value.int k 0)).toArray e)):=by
  have hA:Cg h.nv h.na ρ {ρ with v:=upd ρ.v h.nv (.slice (some ⟨w.heap.size,0,none⟩) (a.A S ρ).length cap),nb:=fun k=>if k<h.na then ρ.nb k else ρ.nb k+1}:=by
    refine ⟨fun _ _=>rfl,fun _ _=>rfl,fun _ _=>rfl,?_,fun _ _=>rfl,fun _ _=>rfl,fun _ _=>rfl,fun _ _=>rfl,?_,rfl⟩
    · intro k hk;simp only[upd];rw[if_neg (by omega)]
    · intro k hk;simp only;rw[if_pos hk]
  refine ⟨_,hA,by simp[upd],?_⟩
  generalize hρ:({ρ with v:=upd ρ.v h.nv (.slice (some ⟨w.heap.size,0,none⟩) (a.A S ρ).length cap),nb:=fun k=>if k<h.na then ρ.nb k else ρ.nb k+1}:Et)=ρ' at hA
  have hv:ρ'.v h.nv=.slice (some ⟨w.heap.size,0,none⟩) (a.A S ρ).length cap:=by subst hρ;simp[upd]
  have hnb: ∀k,h.na≤k→ρ'.nb k=ρ.nb k+1:=by subst hρ;intro k hk;simp only;rw[if_neg (by omega)]
  have ha:=(T.clear_den (S:=S) hA ca).2.2
  unfold Gm at c1
  unfold Gh at c2
  rw[List.all_eq_true] at c1 c2
  have k1: ∀x∈h.rw,x.1.blk ρ' w0.heap.size=x.1.blk ρ w0.heap.size∧x.1.off ρ'=x.1.off ρ∧Av S ρ' w0.heap.size x.2.segs=Av S ρ w0.heap.size x.2.segs∧(Cm S ρ x.2.segs→Cm S ρ' x.2.segs):=by
    intro x hx
    have:=c1 x hx
    simp only[Bool.and_eq_true] at this
    exact ⟨(Cl.clear_den hA this.1).1,(Cl.clear_den hA (B:=w0.heap.size) this.1).2,(Dv hA this.2).1,(Dv (B:=w0.heap.size) hA this.2).2⟩
  have k2: ∀x∈h.ro,x.1.blk ρ' w0.heap.size=x.1.blk ρ w0.heap.size∧x.1.off ρ'=x.1.off ρ∧x.2.2.A S ρ'=x.2.2.A S ρ:=by
    intro x hx
    have:=c2 x hx
    simp only[Bool.and_eq_true] at this
    exact ⟨(Cl.clear_den hA this.1).1,(Cl.clear_den hA (B:=w0.heap.size) this.1).2,(T.clear_den hA this.2).2.2⟩
  have hd:=hh.drew
  have hlt: ∀x∈h.rw,x.1.blk ρ w0.heap.size<w.heap.size:=fun x hx=>(Array.getElem?_eq_some_iff.1 (hh.rw_ x hx)).1
  have hold: ∀(o:Obj) (i:Nat),i<w.heap.size→(w.drew.alloc o).heap[i]? =w.heap[i]? :=fun o i hi=>heap_alloc_old w.drew o hi
  refine ⟨?_,?_,?_,?_,?_,?_,?_,?_,?_,?_,?_,hd.os,hd.tape,hd.output⟩
  · intro x hx
    rw[(k1 x hx).1,(k1 x hx).2.2.1,hold _ _ (hlt x hx)];exact hh.rw_ x hx
  · intro x hx;exact (k1 x hx).2.2.2 (hh.wf x hx)
  · intro x hx;rw[(k1 x hx).2.1];exact hh.off x hx
  · show (h.rw.map _).Nodup
    rw[List.map_congr_left fun x hx=>(k1 x hx).1];exact hh.nd
  · intro x hx j v hv
    rw[(k2 x hx).1,(k2 x hx).2.1]
    rw[(k2 x hx).2.2] at hv
    have hc:=hh.ro x hx j v hv
    rw[World.cell?_alloc_lt w.drew _ _ (World.block_lt_of_cell? w _ hc)]
    exact hc
  · intro x hx y hy
    rw[(k2 x hx).1,(k1 y hy).1];exact hh.apart x hx y hy
  · intro x hx
    rw[(k2 x hx).1];exact hh.rolt x hx
  · simp only[World.size_alloc]
    rw[hnb h.na (Nat.le_refl _)]
    have:=hh.size
    show w.heap.size+1=_
    omega
  · intro k hk
    rw[hnb k hk,hnb (k+1) (Nat.le_succ_of_le hk),hh.nbs k hk]
  · intro i hi' hlo hne
    have:=hh.size
    rw[hold _ i (by omega)]
    refine hh.frame i hi' (by rw[hA.loose] at hlo;exact hlo) fun x hx e'=> ?_
    exact hne x hx (by rw[(k1 x hx).1];exact e')
  · intro o ho
    simp only[Option.some.injEq] at ho
    subst ho
    refine .inr ⟨w.heap.size,cap,by simp only[ha];exact hv,by simp only[ha];exact hcap,by simp only[ha];exact heap_alloc_new w.drew _,.inl (by have:=hh.size;omega),fun x hx=> ?_,fun x hx=> ?_⟩
    · have:=hlt x hx
      rw[(k1 x hx).1];omega
    · have:=hh.rolt x hx
      have:=hh.size
      rw[(k2 x hx).1];omega
theorem juf(hh:Cv S ρ w0 h w)(c1:Gm h.nv h.na h.rw=true)(c2:Gh h.nv h.na h.ro=true){k:IntKind}{e:Nat}{a:T}(ca:a.clear h.nv=true){cap b:Nat}(hcap:(a.A S ρ).length≤cap)
    {c0:Array Value}(hrow:w.heap[b]? =some (.cells c0 e (0,0)))(hb:w0.heap.size≤b∨b∈ρ.loose)(hne: ∀x∈h.rw,x.1.blk ρ w0.heap.size≠b)(hnr: ∀x∈h.ro,x.1.blk ρ w0.heap.size≠b):
    ∃ρ',Cg h.nv h.na ρ ρ'∧ρ'.v h.nv=.slice (some ⟨b,0,none⟩) (a.A S ρ).length cap∧
      Cv S ρ' w0 {h with ow:=some ⟨h.nv,e,k,a⟩,nv:=h.nv+1} (w.setRow b ((a.A S ρ).map (Value.int k)++List.replicate (cap-(a.A S ρ).length) (Value.int k 0)).toArray):=by
  have hA:Cg h.nv h.na ρ {ρ with v:=upd ρ.v h.nv (.slice (some ⟨b,0,none⟩) (a.A S ρ).length cap)}:=by
    refine ⟨fun _ _=>rfl,fun _ _=>rfl,fun _ _=>rfl,?_,fun _ _=>rfl,fun _ _=>rfl,fun _ _=>rfl,fun _ _=>rfl,fun _ _=>rfl,rfl⟩
    intro k hk;simp only[upd];rw[if_neg (by omega)]
  refine ⟨_,hA,by simp[upd],?_⟩
  generalize hρ:({ρ with v:=upd ρ.v h.nv (.slice (some ⟨b,0,none⟩) (a.A S ρ).length cap)}:Et)=ρ' at hA
  have hv:ρ'.v h.nv=.slice (some ⟨b,0,none⟩) (a.A S ρ).length cap:=by subst hρ;simp[upd]
  have hnb:ρ'.nb=ρ.nb:=by subst hρ;rfl
  have ha:=(T.clear_den (S:=S) hA ca).2.2
  unfold Gm at c1
  unfold Gh at c2
  rw[List.all_eq_true] at c1 c2
  have k1: ∀x∈h.rw,x.1.blk ρ' w0.heap.size=x.1.blk ρ w0.heap.size∧x.1.off ρ'=x.1.off ρ∧Av S ρ' w0.heap.size x.2.segs=Av S ρ w0.heap.size x.2.segs∧(Cm S ρ x.2.segs→Cm S ρ' x.2.segs):=by
    intro x hx
    have:=c1 x hx
    simp only[Bool.and_eq_true] at this
    exact ⟨(Cl.clear_den hA this.1).1,(Cl.clear_den hA (B:=w0.heap.size) this.1).2,(Dv hA this.2).1,(Dv (B:=w0.heap.size) hA this.2).2⟩
  have k2: ∀x∈h.ro,x.1.blk ρ' w0.heap.size=x.1.blk ρ w0.heap.size∧x.1.off ρ'=x.1.off ρ∧x.2.2.A S ρ'=x.2.2.A S ρ:=by
    intro x hx
    have:=c2 x hx
    simp only[Bool.and_eq_true] at this
    exact ⟨(Cl.clear_den hA this.1).1,(Cl.clear_den hA (B:=w0.heap.size) this.1).2,(T.clear_den hA this.2).2.2⟩
  refine ⟨?_,?_,?_,?_,?_,?_,?_,?_,?_,?_,?_,hh.os,hh.tape,hh.output⟩
  · intro x hx
    rw[(k1 x hx).1,(k1 x hx).2.2.1,setRow_other w _ _ _ (hne x hx)];exact hh.rw_ x hx
  · intro x hx;exact (k1 x hx).2.2.2 (hh.wf x hx)
  · intro x hx;rw[(k1 x hx).2.1];exact hh.off x hx
  · show (h.rw.map _).Nodup
    rw[List.map_congr_left fun x hx=>(k1 x hx).1];exact hh.nd
  · intro x hx j v hv
    rw[(k2 x hx).1,(k2 x hx).2.1]
    rw[(k2 x hx).2.2] at hv
    have hc:=hh.ro x hx j v hv
    rw[World.cell?_of_block (w:=w) (setRow_other w _ _ _ (hnr x hx))]
    exact hc
  · intro x hx y hy
    rw[(k2 x hx).1,(k1 y hy).1];exact hh.apart x hx y hy
  · intro x hx
    rw[(k2 x hx).1];exact hh.rolt x hx
  · rw[hnb]
    have:=hh.size
    simpa using this
  · rw[hnb];exact hh.nbs
  · intro i hi' hlo hne'
    have hib:i≠b:=by
      rintro rfl
      rcases hb with hb|hb
      · omega
      · exact hlo (by rw[hA.loose];exact hb)
    rw[setRow_other w _ _ _ hib]
    refine hh.frame i hi' (by rw[hA.loose] at hlo;exact hlo) fun x hx e'=> ?_
    exact hne' x hx (by rw[(k1 x hx).1];exact e')
  · intro o ho
    simp only[Option.some.injEq] at ho
    subst ho
    refine .inr ⟨b,cap,by simp only[ha];exact hv,by simp only[ha];exact hcap,by simp only[ha];exact setRow_heap w _ _ _ _ _ hrow,by rw[hA.loose];exact hb,fun x hx=> ?_,fun x hx=> ?_⟩
    · rw[(k1 x hx).1];exact hne x hx
    · rw[(k2 x hx).1];exact hnr x hx
theorem joc{a b:T}{ns:Nat}(ha:a.clear ns=true)(hb:b.clear ns=true):(Xf a b).clear ns=true:=by
  rw[T.clear_eq] at ha hb⊢
  unfold Xf
  split
  · rfl
  · exact hb
  · exact ha
  · simp[T.clearI,ha,hb]
set_option maxHeartbeats 1000000 in
theorem jpm(hh:Cv S ρ w0 h w){t u ty:TypeId}{x y:Aw}{r:Wv}(hb:jl4 P t u x y h=some r)(hm:Dx S ρ r.need):
    ∃ρ' w',Cg r.ns r.na ρ ρ'∧Dx S ρ' r.facts∧r.val.wf S ρ'∧(Builtin.append_ #[t,u] ty #[x.den S ρ w0.heap.size,y.den S ρ w0.heap.size]).run P w=.ok (r.val.den S ρ' w0.heap.size) w'∧Cv S ρ' w0 r.heap w':=by
  unfold jl4 at hb
  split at hb
  · rename_i e o q r2 s2 d2 ln2 c2 hu how
    split at hb
    · rename_i htu
      obtain ⟨rfl,hoq,hoe⟩:=htu
      split at hb
      · rename_i i k c g hi hzs hrd
        split at hb
        · rename_i hc
          obtain ⟨hk,hsz,hby,c1,c2',ca,cg⟩:=hc
          simp only[Option.some.injEq] at hb
          subst hb
          obtain ⟨m1,m2⟩:=Co.1 hm
          have b1:=(Ag.1 m2).1
          have b2:=(Ag.1 (Ag.1 m2).2).1
          simp only[T.B,T.I] at b1 b2
          have b1:=of_decide_eq_true b1
          have b2:=of_decide_eq_true b2
          obtain ⟨r',s',d',ln',cp',heq,g1,g3⟩:=jgr hh hrd m1
          injection heq with e1 e2 e3 e4 e5
          subst e1 e2 e3 e4 e5
          obtain ⟨i',zv,q1,q2,q3,_⟩:=Kj (S:=S) (ρ:=ρ) (B:=w0.heap.size) hzs
          rw[hi] at q1
          cases q1
          have hz:zv.cells.toList=[Value.int o.k 0]:=by
            rw[←q3,←hk];simp[Au,Cj,Cp.den,Aw.den,T.I]
          have hzsize:zv.cells.size=1:=by rw[←Array.length_toList,hz];rfl
          have hzero: ∀n,(Builtin.zeroCells zv.cells n)=(List.replicate n (Value.int o.k 0)).toArray:=by
            intro n
            apply Array.ext'
            rw[Vr zv.cells (by omega),hz]
            clear g3 b2 hm m1 m2
            induction n with
            | zero=>rfl
            | succ n ih=>rw[List.replicate_succ,List.flatten_cons,ih];rfl
          have hA:=jt9 (S:=S) (ρ:=ρ) o.a g
          have hlen:((Xf o.a g).A S ρ).length=(o.a.A S ρ).length+(ln2.I S ρ).toNat:=by rw[hA,List.length_append,g1]
          have hclr:=joc ca cg
          have hbb: ∀n:Nat,n≤1099511627776→n*i.bytes≤8796093022208:=fun n hn=>by
            have:=Nat.mul_le_mul hn hby
            omega
          rcases hh.own o how with ⟨v1,v2⟩|⟨p,cap,v1,v2,v3,v4,v5,v6⟩
          · have hr:=run_append_nil (P:=P) w t ty e i zv hu hi q2 (Cw S ρ w0.heap.size r2 s2 d2) (ln2.I S ρ).toNat (c2.I S ρ).toNat ((g.A S ρ).map (Value.int o.k)) (by rw[List.length_map,g1,hsz];omega) g3 (by omega) (by omega) (by have:=hbb (ln2.I S ρ).toNat (by omega);omega)
            have hL:((Xf o.a g).A S ρ).length=(ln2.I S ρ).toNat:=by rw[hlen,v2];simp
            obtain ⟨ρ',a1,a2,a3⟩:=jmx hh c1 c2' (k:=o.k) (e:=e) hclr (cap:=grownCap w (ln2.I S ρ).toNat 0 e) (by rw[hL];exact grownCap_ge _ _ _ _)
            refine ⟨ρ',_,a1,Dx.nil,trivial,?_,a3⟩
            simp only[Aw.den]
            rw[←hoq,v1,hr]
            simp only[SR.den,SV.den,Aw.den,a2,hL,hzero,hA,v2,List.nil_append]
            simp[g1]
            congr 2
            apply Array.ext'
            simp
          · by_cases hroom:(o.a.A S ρ).length+(ln2.I S ρ).toNat≤cap
            · rw[hoe] at v3
              have hr:=run_append_room (P:=P) w t ty e i hu hi p (o.a.A S ρ).length cap _ v3 (Cw S ρ w0.heap.size r2 s2 d2) (ln2.I S ρ).toNat (c2.I S ρ).toNat ((g.A S ρ).map (Value.int o.k)) (by rw[List.length_map,g1,hsz];omega) g3 (jfp _ _) hroom
                (by rw[hsz];simp[g1];omega)
              obtain ⟨ρ',a1,a2,a3⟩:=juf hh c1 c2' (k:=o.k) (e:=e) hclr (cap:=cap) (b:=p) (by rw[hlen];exact hroom) v3 v4 v5 v6
              refine ⟨ρ',_,a1,Dx.nil,trivial,?_,a3⟩
              simp only[Aw.den]
              rw[←hoq,v1,hr]
              have ec:(List.take ((o.a.A S ρ).length*i.size) ((o.a.A S ρ).map (Value.int o.k)++List.replicate (cap-(o.a.A S ρ).length) (Value.int o.k 0)).toArray.toList++(g.A S ρ).map (Value.int o.k)++
                    List.drop ((o.a.A S ρ).length*i.size+((g.A S ρ).map (Value.int o.k)).length) ((o.a.A S ρ).map (Value.int o.k)++List.replicate (cap-(o.a.A S ρ).length) (Value.int o.k 0)).toArray.toList)
                  =(((Xf o.a g).A S ρ).map (Value.int o.k)++List.replicate (cap-((Xf o.a g).A S ρ).length) (Value.int o.k 0)):=by
                rw[hsz,Nat.mul_one,hlen,hA,List.map_append]
                simp only[List.length_map,g1]
                rw[List.take_append_of_le_length (by simp),List.take_of_length_le (by simp),List.drop_append,List.drop_eq_nil_of_le (by simp),List.nil_append,List.drop_replicate,List.length_map]
                congr 2
                omega
              rw[ec]
              simp only[SR.den,SV.den,Aw.den,a2,hlen]
            · have holds: ∀j v,((o.a.A S ρ).map (Value.int o.k))[j]? =some v→w.cell? ((⟨p,0,none⟩:Addr).add j)=some v:=by
                intro j v hj
                rw[Ho,cell_of_row w _ _ _ _ _ v3,List.getElem?_toArray,Nat.zero_add]
                rw[List.getElem?_append_left (List.getElem?_eq_some_iff.1 hj).1];exact hj
              have hr:=run_append_grow (P:=P) w t ty e i zv hu hi q2 ⟨p,0,none⟩ (o.a.A S ρ).length cap ((o.a.A S ρ).map (Value.int o.k)) (by rw[List.length_map,hsz];omega) holds (Cw S ρ w0.heap.size r2 s2 d2) (ln2.I S ρ).toNat (c2.I S ρ).toNat ((g.A S ρ).map (Value.int o.k)) (by rw[List.length_map,g1,hsz];omega) g3 (by omega) (by omega)
                (growslice_fits (by omega) (by have:=hbb ((o.a.A S ρ).length+(ln2.I S ρ).toNat) (by omega);omega))
              obtain ⟨ρ',a1,a2,a3⟩:=jmx hh c1 c2' (k:=o.k) (e:=e) hclr (cap:=grownCap w ((o.a.A S ρ).length+(ln2.I S ρ).toNat) cap e) (by rw[hlen];exact grownCap_ge _ _ _ _)
              refine ⟨ρ',_,a1,Dx.nil,trivial,?_,a3⟩
              simp only[Aw.den]
              rw[←hoq,v1,hr]
              simp only[SR.den,SV.den,Aw.den,a2,hlen,hzero,hA,List.map_append]
              simp[g1]
              congr 2
              apply Array.ext'
              simp
        · cases hb
      · cases hb
    · cases hb
  · cases hb
theorem Vi{rsp:Nat→Option Ff}(hr: ∀f s,rsp f=some s→Dw P S f s){fr:Nat→SR}{o:Oper}{r:Wv}{a:Act}(hs:Ti P rsp fr h o=some r)(hm:Dx S ρ r.need)
    (hf: ∀t,(fr t).wf S ρ)(ha:Pq S ρ w0.heap.size fr a o.op.operands)(hh:Cv S ρ w0 h w):qgq P S ρ w0 a w o r:=by
  obtain ⟨dst,op,type,pos,after,guard⟩:=o
  unfold Ti at hs
  split at hs
  · rename_i c hop
    simp only at hop
    subst hop
    split at hs
    · rename_i hc
      split at hs
      · rename_i x y t u hargs htys
        have hax:c.args= #[x,y]:=Array.ext' hargs
        have hat:c.argTypes= #[t,u]:=Array.ext' htys
        have hmx:x∈(Op.call c).operands:=by simp[Op.operands,Call.operands,hc,hax]
        have hmy:y∈(Op.call c).operands:=by simp[Op.operands,Call.operands,hc,hax]
        split at hs
        · rename_i p q hx hy
          have hap: ∃ρ' w',Cg r.ns r.na ρ ρ'∧Dx S ρ' r.facts∧r.val.wf S ρ'∧(Builtin.append_ #[t,u] type #[p.den S ρ w0.heap.size,q.den S ρ w0.heap.size]).run P w=.ok (r.val.den S ρ' w0.heap.size) w'∧Cv S ρ' w0 r.heap w':=by
            cases hcs:jdn P t u p q h with
            | some r'=>simp only[hcs,Option.some.injEq] at hs;subst hs;exact jux hh hcs hm
            | none=>simp only[hcs] at hs;exact jpm hh hs hm
          obtain ⟨ρ',w',a1,a2,a3,a4,a5⟩:=hap
          intro K Q hK
          have hrun:(execOp a.eval {dst:=dst,op:=.call c,type:=type,pos:=pos,after:=after,guard:=guard}).run P w=.ok (.value (r.val.den S ρ' w0.heap.size)) w':=by
            simp[execOp,resolve,hc,hax,hat,Dp ha hmx hx,Dp ha hmy hy,invoke,builtin,a4]
          unfold Oper.wp
          rw[hrun]
          exact hK ρ' w' a1 a2 a3 a5
        · cases hs
      · cases hs
    · split at hs
      · rename_i f args hcall
        split at hs
        · rename_i s hspec
          obtain ⟨h1,h2⟩:=jgj (w:=w) (t:=type) hf ha hcall
          have h3:=hr f s hspec ρ w0 w h args r hs hm h2 hh
          intro K Q hK
          unfold Oper.wp
          simp only[execOp]
          rw[h1,Oper.upon_enter]
          refine h3.mono fun e w' ⟨ρ',b1,b2,b3,b4,b5⟩=> ?_
          subst b4
          exact hK ρ' w' b1 b2 b3 b5
        · cases hs
      · cases hs
  · cases hs
end
end
end Go.Proofs.YtljjbikbfeigdaaGreatDoor
namespace Go.Proofs.YtljjbikbfeigdaaGreatDoor
noncomputable section
open Go
theorem Ql{D:Nat→Bool}: ∀(l:List (Option Tmp×Value)) (k:Nat) (m:List (Option Tmp×Value)) (cur cur':List Value),l.length=m.length→(∀j,D (k+j)=true→l[j]? =m[j]?)→cur=cur'→Cd D k l cur=Cd D k m cur'
  | [],_,[],_,_,_,_,h=>h
  | x::l,k,y::m,cur,cur',hl,h,hc=>by
    unfold Cd
    apply Ql l (k+1) m _ _ (by simpa using hl)
    · intro j hj
      have:=h (j+1) (by rw[show k+(j+1)=k+1+j from by omega];exact hj)
      simpa using this
    · cases hD:D k with
      | true=>
        have:=h 0 (by simpa using hD)
        simp at this
        subst this hc;rfl
      | false=>simp[hc]
  | [],_,_::_,_,_,h,_,_=>by simp at h
  | _::_,_,[],_,_,h,_,_=>by simp at h
section
variable {S:Hw} {ρ:Et} {w0:World} {P:Program} {specs:Nat→Option Ec}
theorem Xm{G:Et→Prop}{h0:Hp}{es:List Fs}{init:List Value}{hl:Hp}(hst:Dr (es.map (·.o))=true)(hchain:Je h0 es hl)
    {i:Nat}{e:Fs}(hei:es[i]? =some e)
    (ffr:e.fr.map (SR.den S ρ w0.heap.size)=Cd (fun j=>decide (j<i)) 0 (Bj S ρ w0.heap.size es) init)
    (fwant:Region.wanted e.o (yielded (es.map (·.o)).toArray (Cd (fun j=>decide (j<i)) 0 (Bj S ρ w0.heap.size es) init).toArray)=true)(hne:Eb e=true)
    {listed:Array Bool}{a:Act}{w:World}(he: ∀j∈Bh 0 es,j<i→((Ex (es.map (·.o))).getD i 0).testBit j=true∨listed.getD j false=true)(hm:Mid S ρ w0 h0 es init listed a w)(hi:i∈Region.ready .any (es.map (·.o)).toArray listed){K:Act→World→Prop}{Q:Exit→Act→World→Prop}
    (hsame: ∀ρ',G ρ'→ ∀j,listed.getD j false=true→(Bj S ρ' w0.heap.size es)[j]? =(Bj S ρ w0.heap.size es)[j]?)
    (hX: ∀(K:Act→World→Prop) (Q:Exit→Act→World→Prop),Pq S ρ w0.heap.size (Do e.fr) a e.o.op.operands→Cv S ρ w0 e.heap w→(∀ρ' w',G ρ'→Cv S ρ' w0 e.r.heap w'→K (a.put e.o.dst (e.r.val.den S ρ' w0.heap.size)) w')→e.o.wp P a w K Q)
    (hK: ∀ρ' a' w',G ρ'→Mid S ρ' w0 h0 es init (listed.setIfInBounds i true) a' w'→K a' w'):wpOp P (es.map (·.o)).toArray Q i K a w:=by
  unfold Dr at hst
  simp only[Bool.and_eq_true] at hst
  obtain ⟨hb,ht⟩:=hst
  obtain ⟨r1,r2,r3⟩:=Fr hi
  have r1':i<es.length:=by simpa using r1
  have hil:i<listed.size:=by rw[hm.size];exact r1'
  rw[Jy _ _ hil] at r2
  have hoi:(es.map (·.o))[i]? =some e.o:=by simp[hei]
  have hoa:(es.map (·.o)).toArray[i]? =some e.o:=by simpa using hoi
  have hpre:=r3 e.o hoa
  have hmask:=Ds hb hm.closed i e.o hoi hpre
  have hlook: ∀d,d∈Qi (es.map (·.o)) e.o→(Cd (fun i=>listed.getD i false) 0 (Bj S ρ w0.heap.size es) init)[d]? =(Cd (fun j=>decide (j<i)) 0 (Bj S ρ w0.heap.size es) init)[d]? :=by
    intro d hd
    apply Ki _ _ _ _ rfl rfl
    intro j p hj hpd
    obtain ⟨e',hj',rfl⟩:=Jm hj
    simp only[Nat.zero_add] at hpd⊢
    have hoj:(es.map (·.o))[j]? =some e'.o:=by simp[hj']
    by_cases hij:j=i
    · subst hij
      simp[r2]
    · have hord:=Kr ht hoj hoi hpd hij (.inl hd)
      split at hord
      · rename_i hlt
        rw[hmask j hord];simp[hlt]
      · rename_i hlt
        have hnl:listed.getD j false=false:=by
          cases hl:listed.getD j false with
          | false=>rfl
          | true=>
            exfalso
            have:=Ds hb hm.closed j e'.o hoj (fun x h1 h2=>hm.closed j e'.o hoj hl x h1 h2) i hord
            rw[r2] at this;cases this
        rw[hnl];simp;omega
  have hsizes:(Cd (fun i=>listed.getD i false) 0 (Bj S ρ w0.heap.size es) init).length=(Cd (fun j=>decide (j<i)) 0 (Bj S ρ w0.heap.size es) init).length:=by
    rw[Lf,Lf]
  have hat: ∀d:Nat,a.tmps[d]? =(Cd (fun i=>listed.getD i false) 0 (Bj S ρ w0.heap.size es) init)[d]? :=fun d=>by rw[←hm.fr];simp
  have hwant:Region.wanted e.o (yielded (es.map (·.o)).toArray a.tmps)=true:=by
    rw[←fwant]
    apply Vs
    intro g b hg d hd
    rw[hat d,hlook d (by unfold Qi;rw[hg];simp only[List.mem_append];right;simp at hd⊢;exact hd)]
    simp
  have hnext: ∀(ρ':Et) (w':World) (t:Nat) (h:Hp),G ρ'→t≤(Bh 0 es).length→(∀k j,(Bh 0 es)[k]? =some j→((listed.setIfInBounds i true).getD j false=true↔k<t))→(Eo h0 es)[t]? =some h→Cv S ρ' w0 h w'→
      K (a.put e.o.dst (e.r.val.den S ρ' w0.heap.size)) w':=by
    intro ρ' w' t h hG g1 g2 g3 g4
    apply hK ρ' _ _ hG
    · refine ⟨by simpa using hm.size,?_,?_,?_,t,h,g1,g2,g3,g4⟩
      · intro j o hj hD x hx1 hx2
        simp only at hD⊢
        rw[Da _ _ _ hil] at hD⊢
        split at hD
        · rename_i hji
          subst hji
          rw[hoi] at hj;injection hj with hj;subst hj
          split
          · rfl
          · exact hpre x hx1 hx2
        · split
          · rfl
          · exact hm.closed j o hj hD x hx1 hx2
      · have hput:(a.put e.o.dst (e.r.val.den S ρ' w0.heap.size)).tmps.toList=Oh a.tmps.toList e.o.dst (e.r.val.den S ρ' w0.heap.size):=by
          unfold Act.put Oh
          cases e.o.dst<;>simp
        have hfr':a.tmps.toList=Cd (fun i=>listed.getD i false) 0 (Bj S ρ' w0.heap.size es) init:=by
          rw[hm.fr]
          refine Ql _ 0 _ _ _ (by simp[Bj]) (fun j hj=> ?_) rfl
          exact (hsame ρ' hG j (by simpa using hj)).symm
        rw[hput,hfr']
        symm
        refine Sk (j:=i) _ 0 init (e.o.dst,e.r.val.den S ρ' w0.heap.size) (Nat.zero_le _) (by simpa using Kq hei) r2 (by rw[Da _ _ _ hil];simp) (fun j hj=>by rw[Da _ _ _ hil,if_neg hj]) ?_
        intro j p s hj hlt hs1 hs2
        obtain ⟨e',hj',rfl⟩:=Jm hj
        simp only[Nat.zero_add] at hlt hs1 hs2⊢
        have hoj:(es.map (·.o))[j]? =some e'.o:=by simp[hj']
        have hord:=Kr ht hoj hoi hs2 (by omega) (.inr hs1)
        rw[if_neg (by omega)] at hord
        cases hl:listed.getD j false with
        | false=>rfl
        | true=>
          exfalso
          have:=Ds hb hm.closed j e'.o hoj (fun x h1 h2=>hm.closed j e'.o hoj hl x h1 h2) i hord
          rw[r2] at this;cases this
      · unfold Act.put
        cases e.o.dst<;>exact hm.defers
  obtain ⟨t,h,h1,h2,h3,h4⟩:=hm.heap
  have hch:=Gc 0 hchain
  unfold wpOp
  rw[hoa]
  simp only[hwant,if_true]
  left
  have hagree:Pq S ρ w0.heap.size (Do e.fr) a e.o.op.operands:=by
    intro x hxo
    have hd:x∈Qi (es.map (·.o)) e.o:=by
      unfold Qi
      rw[List.mem_append];left
      rw[List.mem_filterMap]
      exact ⟨.tmp x,by simpa using hxo,rfl⟩
    have:=hlook x hd
    rw[←hat x,←ffr] at this
    rw[Array.getD_eq_getD_getElem?,this]
    unfold Do
    rw[List.getElem?_map,List.getD_eq_getElem?_getD]
    cases e.fr[x]? <;>rfl
  obtain ⟨k,hk⟩: ∃k,(Bh 0 es)[k]? =some i:=by
    apply List.getElem?_of_mem
    rw[←Me,List.mem_filterMap]
    exact ⟨(e,i),List.mem_zipIdx_iff_getElem?.2 hei,by simp[hne]⟩
  obtain ⟨e',q1,q2,q3,q4,q5⟩:=hch.1 k i hk
  simp only[Nat.sub_zero] at q1
  rw[hei] at q1;injection q1 with q1;subst q1
  have hkt:k=t:=by
    have hnk: ¬k<t:=fun hlt=>by have:=(h2 k i hk).2 hlt;rw[r2] at this;cases this
    rcases Nat.lt_or_ge t k with hlt|hge
    · exfalso
      have hkl:k<(Bh 0 es).length:=(List.getElem?_eq_some_iff.1 hk).1
      have htl:t<(Bh 0 es).length:=by omega
      obtain ⟨j,hj⟩: ∃j,(Bh 0 es)[t]? =some j:=⟨_,List.getElem?_eq_getElem htl⟩
      have hji:j<i:=by
        have:List.Pairwise (· < ·) (Bh 0 es):=by
          unfold Bh
          apply List.Pairwise.filterMap (R:=fun a b=>a.2<b.2)
          · intro a b hab x hx y hy
            split at hx<;>simp at hx
            split at hy<;>simp at hy
            omega
          · rw[List.pairwise_iff_getElem]
            intro p q hp hq hpq
            simp;exact hpq
        rw[List.pairwise_iff_getElem] at this
        have:=this t k htl hkl hlt
        rw[List.getElem?_eq_getElem htl] at hj
        rw[List.getElem?_eq_getElem hkl] at hk
        injection hj with hj;injection hk with hk
        omega
      have:=(he j (List.mem_of_getElem? hj) hji).elim (hmask j) id
      have:=(h2 t j hj).1 this
      omega
    · omega
  subst hkt
  rw[h3] at q4;injection q4 with q4
  subst q4
  refine hX _ _ hagree h4 fun ρ' w' hG hw'=> ?_
  refine hnext ρ' w' (k+1) e.r.heap hG (by have:=(List.getElem?_eq_some_iff.1 hk).1;omega) (fun k' j hk'=> ?_) q5 hw'
  rw[Da _ _ _ hil]
  have hnd:(Bh 0 es)[k']? =some j→j=i→k'=k:=by
    intro hk' hji
    subst hji
    have hnk:k'<k∨k'=k∨k<k':=by omega
    rcases hnk with hlt|rfl|hlt
    · exfalso
      have:=(h2 k' j hk').2 hlt
      rw[r2] at this;cases this
    · rfl
    · exfalso
      have:List.Pairwise (· < ·) (Bh 0 es):=by
        unfold Bh
        apply List.Pairwise.filterMap (R:=fun a b=>a.2<b.2)
        · intro a b hab x hx y hy
          split at hx<;>simp at hx
          split at hy<;>simp at hy
          omega
        · rw[List.pairwise_iff_getElem]
          intro p q hp hq hpq
          simp;exact hpq
      rw[List.pairwise_iff_getElem] at this
      have k1:=(List.getElem?_eq_some_iff.1 hk)
      have k2:=(List.getElem?_eq_some_iff.1 hk')
      have:=this k k' k1.1 k2.1 hlt
      omega
  split
  · rename_i hji
    have:=hnd hk' hji
    simp;omega
  · rename_i hji
    rw[h2 k' j hk']
    constructor
    · intro h;omega
    · intro h
      rcases Nat.lt_or_ge k' k with hlt|hge
      · exact hlt
      · exfalso
        have:k'=k:=by omega
        subst this
        rw[hk] at hk';injection hk' with hk';exact hji hk'.symm
theorem jus{G:Et→Prop}{h0:Hp}{es:List Fs}{init:List Value}{hl:Hp}(hst:Dr (es.map (·.o))=true)(hok:Rh P specs h0 es=true)(hchain:Je h0 es hl)
    {i:Nat}{e:Fs}(hei:es[i]? =some e)
    (ffr:e.fr.map (SR.den S ρ w0.heap.size)=Cd (fun j=>decide (j<i)) 0 (Bj S ρ w0.heap.size es) init)
    (fwant:Region.wanted e.o (yielded (es.map (·.o)).toArray (Cd (fun j=>decide (j<i)) 0 (Bj S ρ w0.heap.size es) init).toArray)=true)(hne:Eb e=true)
    {listed:Array Bool}{a:Act}{w:World}(hm:Mid S ρ w0 h0 es init listed a w)(hi:i∈Region.ready .any (es.map (·.o)).toArray listed){K:Act→World→Prop}{Q:Exit→Act→World→Prop}
    (hsame: ∀ρ',G ρ'→ ∀j,listed.getD j false=true→(Bj S ρ' w0.heap.size es)[j]? =(Bj S ρ w0.heap.size es)[j]?)
    (hX: ∀(K:Act→World→Prop) (Q:Exit→Act→World→Prop),Pq S ρ w0.heap.size (Do e.fr) a e.o.op.operands→Cv S ρ w0 e.heap w→(∀ρ' w',G ρ'→Cv S ρ' w0 e.r.heap w'→K (a.put e.o.dst (e.r.val.den S ρ' w0.heap.size)) w')→e.o.wp P a w K Q)
    (hK: ∀ρ' a' w',G ρ'→Mid S ρ' w0 h0 es init (listed.setIfInBounds i true) a' w'→K a' w'):wpOp P (es.map (·.o)).toArray Q i K a w:=by
  unfold Rh at hok
  simp only[Bool.or_eq_true,Bool.and_eq_true,List.isEmpty_iff] at hok
  rw[Me] at hok
  refine Xm hst hchain hei ffr fwant hne (fun j hj hji=>.inl ?_) hm hi hsame hX hK
  have hmem:i∈Bh 0 es:=by
    rw[←Me,List.mem_filterMap]
    exact ⟨(e,i),List.mem_zipIdx_iff_getElem?.2 hei,by simp[hne]⟩
  rcases hok with h|h
  · rw[h] at hj;cases hj
  · have he:=List.all_eq_true.1 (List.all_eq_true.1 h.1 j hj) i hmem
    simpa [hji] using he
end
end
end Go.Proofs.YtljjbikbfeigdaaGreatDoor
namespace Go.Proofs.YtljjbikbfeigdaaGreatDoor
noncomputable section
open Go
section
variable {S:Hw} {ρ:Et} {w0:World} {P:Program} {specs:Nat→Option Ec}
theorem Ld{h0:Hp}{es:List Fs}{init:List Value}{hl:Hp}(hb:Jc (es.map (·.o))=true)(hchain:Je h0 es hl){listed:Array Bool}{a:Act}{w:World}(hm:Mid S ρ w0 h0 es init listed a w)
    (hr:Region.ready .any (es.map (·.o)).toArray listed=[]):a.tmps.toList=Cd (fun _=>true) 0 (Bj S ρ w0.heap.size es) init∧Cv S ρ w0 hl w∧ ∀i,i<es.length→listed.getD i false=true:=by
  have hall:=Yt (ops:=es.map (·.o)) (by simpa using hm.size) hb hr
  obtain ⟨t,h,h1,h2,h3,h4⟩:=hm.heap
  refine ⟨?_,?_,by simpa using hall⟩
  · rw[hm.fr]
    apply List.ext_getElem?
    intro s
    apply Ki _ _ _ _ rfl rfl
    intro i e hi _
    obtain ⟨e',hi',_⟩:=Jm hi
    simp only[Nat.zero_add]
    exact hall i (by simpa using (List.getElem?_eq_some_iff.1 hi').1)
  · have htl:t=(Bh 0 es).length:=by
      rcases Nat.lt_or_ge t (Bh 0 es).length with hlt|hge
      · have hi:=h2 t _ (List.getElem?_eq_getElem hlt)
        obtain ⟨e',q1,_⟩:=(Gc 0 hchain).1 t _ (List.getElem?_eq_getElem hlt)
        have:=hi.1 (hall _ (by simpa using (List.getElem?_eq_some_iff.1 q1).1))
        omega
      · omega
    have:=(Gc 0 hchain).2.1
    rw[←htl,h3] at this
    injection this with this
    rw[←this];exact h4
theorem Kn{n i:Nat}{listed:Array Bool}(hil:i<listed.size)(hin:i<n)(r2:listed.getD i false=false):
    ((List.range n).filter fun j=> !(listed.setIfInBounds i true).getD j false).length<((List.range n).filter fun j=> !listed.getD j false).length:=by
  have e1:((List.range n).filter fun j=> !(listed.setIfInBounds i true).getD j false)=((List.range n).filter fun j=> !listed.getD j false).filter fun j=>j !=i:=by
    rw[List.filter_filter]
    apply List.filter_congr
    intro j _
    rw[Da _ _ _ hil]
    by_cases hji:j=i
    · subst hji;simp
    · simp[hji]
  rw[e1]
  have hmem:i∈(List.range n).filter fun j=> !listed.getD j false:=by
    rw[List.mem_filter];exact ⟨List.mem_range.2 hin,by rw[r2];rfl⟩
  exact List.length_filter_lt_length_iff_exists.2 ⟨i,hmem,by simp⟩
theorem Pi{es:List Fs}{listed:Array Bool}(hs:listed.size=es.length)(hf:((List.range es.length).filter fun i=> !listed.getD i false).length≤0):Region.ready .any (es.map (·.o)).toArray listed=[]:=by
  rw[List.eq_nil_iff_forall_not_mem]
  intro i hi
  obtain ⟨r1,r2,_⟩:=Fr hi
  have r1:i<es.length:=by simpa using r1
  rw[Jy _ _ (by rw[hs];exact r1)] at r2
  have:i∈(List.range es.length).filter fun i=> !listed.getD i false:=by
    rw[List.mem_filter];exact ⟨List.mem_range.2 r1,by rw[r2];rfl⟩
  have:=List.length_pos_of_mem this
  omega
structure jb0(P:Program)(specs:Nat→Option Ec)(S:Hw)(ρ:Et)(B:Nat)(es:List Fs)(init:List Value)(j:Nat)(e:Fs):Prop where
  fr:e.fr.map (SR.den S ρ B)=Cd (fun i=>decide (i<j)) 0 (Bj S ρ B es) init
  want:Region.wanted e.o (yielded (es.map (·.o)).toArray (Cd (fun i=>decide (i<j)) 0 (Bj S ρ B es) init).toArray)=e.want
  st:e.want=true→Gx P specs (Do e.fr) e.heap e.o=some e.r∧Dx S ρ e.r.need∧ ∀x∈e.fr,x.wf S ρ
  no:e.want=false→e.r.val=.v (.one .undef)∧e.r.need=[]
theorem j2c(hsp: ∀f s,specs f=some s→Ei P S f s){h0:Hp}{es:List Fs}{init:List Value}{hl:Hp}{k:Nat}(hst:Dr (es.map (·.o))=true)(hok:Rh P specs h0 es=true)(hchain:Je h0 es hl)
    (hneed:Dx S ρ (es.flatMap (·.r.need)))(htold: ∀j e,es[j]? =some e→j≠k→jb0 P specs S ρ w0.heap.size es init j e)
    {Q:Exit→Act→World→Prop}(hQ: ∀a w,a.tmps.toList=Cd (fun _=>true) 0 (Bj S ρ w0.heap.size es) init→a.defers=[]→Cv S ρ w0 hl w→Q .normal a w):
    ∀(fuel:Nat) (listed:Array Bool) (a:Act) (w:World),Mid S ρ w0 h0 es init listed a w→listed.getD k false=true→((List.range es.length).filter fun i=> !listed.getD i false).length≤fuel→
      wpAny P .any (es.map (·.o)).toArray Q fuel listed a w:=by
  have hb:Jc (es.map (·.o))=true:=by
    unfold Dr at hst;simp only[Bool.and_eq_true] at hst;exact hst.1
  intro fuel
  induction fuel with
  | zero=>
    intro listed a w hm hk hf
    have hr:=Pi hm.size hf
    obtain ⟨q1,q2,_⟩:=Ld hb hchain hm hr
    exact ⟨hr,hQ a w q1 hm.defers q2⟩
  | succ fuel ih=>
    intro listed a w hm hk hf
    refine ⟨fun hr=> ?_,fun i hi=> ?_⟩
    · obtain ⟨q1,q2,_⟩:=Ld hb hchain hm hr
      exact hQ a w q1 hm.defers q2
    obtain ⟨r1,r2,_⟩:=Fr hi
    have r1':i<es.length:=by simpa using r1
    have hil:i<listed.size:=by rw[hm.size];exact r1'
    rw[Jy _ _ hil] at r2
    obtain ⟨e,hei⟩: ∃e,es[i]? =some e:=⟨_,List.getElem?_eq_getElem r1'⟩
    have hik:i≠k:=fun h=>by subst h;rw[r2] at hk;cases hk
    have ht:=htold i e hei hik
    refine jeg hsp hst hok hchain hneed hei ht.fr ht.want ht.st ht.no hm hi fun a' w' hm'=>ih _ _ _ hm' ?_ ?_
    · rw[Da _ _ _ hil];split
      · rfl
      · exact hk
    · have:=Kn hil r1' r2
      omega
theorem j3o(hsp: ∀f s,specs f=some s→Ei P S f s){rsp:Nat→Option Ff}(hrsp: ∀f s,rsp f=some s→Dw P S f s){h0:Hp}{es:List Fs}{init:List Value}{hl:Hp}{k:Nat}{x:Fs}{rr:Wv}
    (hst:Dr (es.map (·.o))=true)(hok:Rh P specs h0 es=true)(hchain:Je h0 es hl)(hneed:Dx S ρ (es.flatMap (·.r.need)))(hk:es[k]? =some x)
    (hx:Ti P rsp (Do x.fr) x.heap x.o=some rr)(hxr:x.r=⟨rr.need,rr.val,rr.heap⟩)(hxe:Eb x=true)(hxn:Dx S ρ rr.need)
    (hxf:x.fr.map (SR.den S ρ w0.heap.size)=Cd (fun i=>decide (i<k)) 0 (Bj S ρ w0.heap.size es) init)(hxwf: ∀y∈x.fr,y.wf S ρ)
    (hxw:Region.wanted x.o (yielded (es.map (·.o)).toArray (Cd (fun i=>decide (i<k)) 0 (Bj S ρ w0.heap.size es) init).toArray)=true)
    (htold: ∀j e,es[j]? =some e→j<k→jb0 P specs S ρ w0.heap.size es init j e)
    (hwait: ∀j,k<j→j<es.length→((Ex (es.map (·.o))).getD j 0).testBit k=true)
    (hclr: ∀j e,es[j]? =some e→j<k→e.r.val.clear rr.ns rr.na=true)
    (hB: ∀ρ',Cg rr.ns rr.na ρ ρ'→Dx S ρ' rr.facts→rr.val.wf S ρ'→(∃w',Cv S ρ' w0 rr.heap w')→Dx S ρ' (es.flatMap (·.r.need))∧ ∀j e,es[j]? =some e→j≠k→jb0 P specs S ρ' w0.heap.size es init j e)
    {Q:Exit→Act→World→Prop}(hQ: ∀ρ' a w,Cg rr.ns rr.na ρ ρ'→Dx S ρ' rr.facts→rr.val.wf S ρ'→(∃w',Cv S ρ' w0 rr.heap w')→a.tmps.toList=Cd (fun _=>true) 0 (Bj S ρ' w0.heap.size es) init→a.defers=[]→Cv S ρ' w0 hl w→Q .normal a w):
    ∀(fuel:Nat) (listed:Array Bool) (a:Act) (w:World),Mid S ρ w0 h0 es init listed a w→listed.getD k false=false→((List.range es.length).filter fun i=> !listed.getD i false).length≤fuel→
      wpAny P .any (es.map (·.o)).toArray Q fuel listed a w:=by
  have hb:Jc (es.map (·.o))=true:=by
    unfold Dr at hst;simp only[Bool.and_eq_true] at hst;exact hst.1
  have hkl:k<es.length:=(List.getElem?_eq_some_iff.1 hk).1
  intro fuel
  induction fuel with
  | zero=>
    intro listed a w hm hkn hf
    have hr:=Pi hm.size hf
    obtain ⟨_,_,q3⟩:=Ld hb hchain hm hr
    rw[q3 k hkl] at hkn;cases hkn
  | succ fuel ih=>
    intro listed a w hm hkn hf
    refine ⟨fun hr=> ?_,fun i hi=> ?_⟩
    · obtain ⟨_,_,q3⟩:=Ld hb hchain hm hr
      rw[q3 k hkl] at hkn;cases hkn
    obtain ⟨r1,r2,r3⟩:=Fr hi
    have r1':i<es.length:=by simpa using r1
    have hil:i<listed.size:=by rw[hm.size];exact r1'
    rw[Jy _ _ hil] at r2
    obtain ⟨e,hei⟩: ∃e,es[i]? =some e:=⟨_,List.getElem?_eq_getElem r1'⟩
    have hoi:(es.map (·.o))[i]? =some e.o:=by simp[hei]
    have hoa:(es.map (·.o)).toArray[i]? =some e.o:=by simpa using hoi
    have hmask:=Ds hb hm.closed i e.o hoi (r3 e.o hoa)
    have hlisted: ∀j,listed.getD j false=true→j<k:=by
      intro j hj
      have hjl:j<es.length:=by
        rcases Nat.lt_or_ge j listed.size with h|h
        · rw[hm.size] at h;exact h
        · rw[Array.getD_eq_getD_getElem?,Array.getElem?_eq_none h] at hj;cases hj
      rcases Nat.lt_trichotomy j k with h|h|h
      · exact h
      · rw[h,hkn] at hj;cases hj
      · exfalso
        have hoj:(es.map (·.o))[j]? =some es[j].o:=by simp[hjl]
        have:=Ds hb hm.closed j es[j].o hoj (fun x h1 h2=>hm.closed j es[j].o hoj hj x h1 h2) k (hwait j h hjl)
        rw[hkn] at this;cases this
    by_cases hik:i=k
    · subst hik
      rw[hk] at hei
      injection hei with hei
      subst hei
      refine jus (G:=fun ρ'=>Cg rr.ns rr.na ρ ρ'∧Dx S ρ' rr.facts∧rr.val.wf S ρ'∧ ∃w',Cv S ρ' w0 rr.heap w') hst hok hchain hk hxf hxw hxe hm hi ?_ ?_ ?_
      · intro ρ' hG j hj
        have hjk:=hlisted j hj
        have hjl:j<es.length:=by omega
        have hej:es[j]? =some es[j]:=List.getElem?_eq_getElem hjl
        rw[Kq hej,Kq hej,(SR.clear_den hG.1 (hclr j _ hej hjk)).1]
      · intro K Q' hag hh hK
        have:=Vi hrsp hx hxn (Gs hxwf) hag hh
        refine this K Q' fun ρ' w' b1 b2 b3 b4=> ?_
        have h5:=hK ρ' w' ⟨b1,b2,b3,w',b4⟩ (by rw[hxr];exact b4)
        rw[hxr] at h5;exact h5
      · intro ρ' a' w' hG hm'
        obtain ⟨hn',ht'⟩:=hB ρ' hG.1 hG.2.1 hG.2.2.1 hG.2.2.2
        refine j2c hsp hst hok hchain hn' ht' (fun a w=>hQ ρ' a w hG.1 hG.2.1 hG.2.2.1 hG.2.2.2) fuel _ a' w' hm' ?_ ?_
        · rw[Da _ _ _ hil];simp
        · have:=Kn hil r1' r2
          omega
    · have hlt:i<k:=by
        rcases Nat.lt_or_ge i k with h|h
        · exact h
        · exfalso
          have:=hmask k (hwait i (by omega) r1')
          rw[hkn] at this;cases this
      have ht:=htold i e hei hlt
      refine jeg hsp hst hok hchain hneed hei ht.fr ht.want ht.st ht.no hm hi fun a' w' hm'=>ih _ _ _ hm' ?_ ?_
      · rw[Da _ _ _ hil,if_neg (fun h=>hik h.symm)];exact hkn
      · have:=Kn hil r1' r2
        omega
end
end
end Go.Proofs.YtljjbikbfeigdaaGreatDoor
namespace Go.Proofs.YtljjbikbfeigdaaGreatDoor
noncomputable section
open Go
def Et.nbs(ρ:Et)(f:Nat→Nat):Et:={ρ with nb:=f}
section
variable {S:Hw} {ρ:Et} {f g:Nat→Nat} {B:Nat}
theorem T.nbs(t:T):t.I S (ρ.nbs f)=t.I S ρ∧t.B S (ρ.nbs f)=t.B S ρ∧t.A S (ρ.nbs f)=t.A S ρ:=by
  induction t<;>simp_all only[T.I,T.B,T.A,Et.nbs,and_self]
theorem j3x{l:List T}(h:Dx S ρ l):Dx S (ρ.nbs f) l:=fun t ht=>by rw[(T.nbs t).2.1];exact h t ht
theorem Cp.wf_nbs{x:Cp}(h:x.wf S ρ):x.wf S (ρ.nbs f):=by
  cases x<;>simp only[Cp.wf] at h⊢ <;>(try rw[(T.nbs _).2.2])<;>exact h
theorem jnc{l:List Cp}(h:Cm S ρ l):Cm S (ρ.nbs f) l:=fun g hg=>Cp.wf_nbs (h g hg)
theorem SV.wf_nbs{x:SV}(h:x.wf S ρ):x.wf S (ρ.nbs f):=by
  cases x with
  | one _=>trivial
  | agg l=>exact jnc h
theorem SR.wf_nbs: ∀{x:SR},x.wf S ρ→x.wf S (ρ.nbs f)
  | .v x,h=>SV.wf_nbs (x:=x) h
  | .tup xs,h=>fun x hx=>SV.wf_nbs (h x hx)
  | .ite c x y,h=>⟨fun hc=>SR.wf_nbs (h.1 (by rw[(T.nbs c).2.1] at hc;exact hc)),fun hc=>SR.wf_nbs (h.2 (by rw[(T.nbs c).2.1] at hc;exact hc))⟩
theorem Rs{ns na:Nat}(h: ∀k,k<na→f k=ρ.nb k):Cg ns na ρ (ρ.nbs f):=
  ⟨fun _ _=>rfl,fun _ _=>rfl,fun _ _=>rfl,fun _ _=>rfl,fun _ _=>rfl,fun _ _=>rfl,fun _ _=>rfl,fun _ _=>rfl,h,rfl⟩
theorem Cv.turn{ρ':Et}{ns na:Nat}{w0 w:World}{h h':Hp}(hh:Cv S ρ w0 h w)(hA:Cg ns na ρ ρ')(hb: ∀x∈h.rw,x.2.segs.all (Cp.clear ns na)=true)
    (hp:(h'.rw.map fun x=>(x.1.blk ρ' w0.heap.size,x.2)).Perm (h.rw.map fun x=>(x.1.blk ρ w0.heap.size,x.2)))(ho: ∀x∈h'.rw,x.1.off ρ'=0)
    (hro:h'.ro=h.ro)(hrc:Gh ns na h.ro=true)(how:h'.ow=none)(hs:ρ'.nb h'.na=ρ.nb h.na)(hn: ∀k,h'.na≤k→ρ'.nb (k+1)=ρ'.nb k+1):Cv S ρ' w0 h' w:=by
  have back: ∀x∈h'.rw,∃y∈h.rw,y.1.blk ρ w0.heap.size=x.1.blk ρ' w0.heap.size∧y.2=x.2:=by
    intro x hx
    have:=hp.subset (List.mem_map.2 ⟨x,hx,rfl⟩)
    obtain ⟨y,hy,he⟩:=List.mem_map.1 this
    injection he with h1 h2
    exact ⟨y,hy,h1,h2⟩
  have forth: ∀y∈h.rw,∃x∈h'.rw,x.1.blk ρ' w0.heap.size=y.1.blk ρ w0.heap.size:=by
    intro y hy
    have:=hp.symm.subset (List.mem_map.2 ⟨y,hy,rfl⟩)
    obtain ⟨x,hx,he⟩:=List.mem_map.1 this
    injection he with h1 h2
    exact ⟨x,hx,h1⟩
  have hrc': ∀x∈h.ro,x.1.clear ns na=true∧x.2.2.clear ns=true:=by
    intro x hx
    unfold Gh at hrc
    have:=List.all_eq_true.1 hrc x hx
    simpa using this
  refine ⟨?_,?_,ho,?_,?_,?_,?_,?_,hn,?_,?_,hh.os,hh.tape,hh.output⟩
  · intro x hx
    obtain ⟨y,hy,e1,e2⟩:=back x hx
    rw[←e1,←e2,(Dv hA (hb y hy)).1]
    exact hh.rw_ y hy
  · intro x hx
    obtain ⟨y,hy,e1,e2⟩:=back x hx
    rw[←e2]
    exact (Dv (B:=w0.heap.size) hA (hb y hy)).2 (hh.wf y hy)
  · have e1:(h'.rw.map fun x=>x.1.blk ρ' w0.heap.size)=(h'.rw.map fun x=>(x.1.blk ρ' w0.heap.size,x.2)).map (·.1):=by simp[List.map_map,Function.comp_def]
    have e2:(h.rw.map fun x=>x.1.blk ρ w0.heap.size)=(h.rw.map fun x=>(x.1.blk ρ w0.heap.size,x.2)).map (·.1):=by simp[List.map_map,Function.comp_def]
    rw[e1,(hp.map _).nodup_iff,←e2]
    exact hh.nd
  · intro x hx j v hv
    rw[hro] at hx
    obtain ⟨c1,c2⟩:=hrc' x hx
    rw[(Cl.clear_den hA c1).1,(Cl.clear_den (B:=w0.heap.size) hA c1).2]
    rw[(T.clear_den hA c2).2.2] at hv
    exact hh.ro x hx j v hv
  · intro x hx y hy
    rw[hro] at hx
    obtain ⟨z,hz,e1,_⟩:=back y hy
    rw[(Cl.clear_den hA (hrc' x hx).1).1,←e1]
    exact hh.apart x hx z hz
  · intro x hx
    rw[hro] at hx
    rw[(Cl.clear_den hA (hrc' x hx).1).1]
    exact hh.rolt x hx
  · rw[hs];exact hh.size
  · intro i hi hl hx
    rw[hA.loose] at hl
    refine hh.frame i hi hl fun y hy=> ?_
    obtain ⟨x,hx1,e1⟩:=forth y hy
    rw[←e1]
    exact hx x hx1
  · intro o hoo
    rw[how] at hoo;cases hoo
end
end
end Go.Proofs.YtljjbikbfeigdaaGreatDoor
namespace Go.Proofs.YtljjbikbfeigdaaGreatDoor
noncomputable section
open Go
section
variable {S:Hw} {ρ:Et} {w0:World} {P:Program} {specs:Nat→Option Ec} {B:Nat} {f g:Nat→Nat}
theorem Um{D:Nat→Bool}: ∀(l:List (Option Tmp×Value)) (k:Nat) (cur:List Value),(∀i,k≤i→D i=false)→Cd D k l cur=cur
  | [],_,_,_=>rfl
  | e::l,k,cur,h=>by
    unfold Cd
    rw[if_neg (by rw[h k (Nat.le_refl _)];simp)]
    exact Um l (k+1) cur fun i hi=>h i (by omega)
theorem jb8: ∀{es:List Fs} {cur fin:List SR} (k:Nat),Pn cur fin es=true→
    (∀(j:Nat) (e:Fs),es[j]? =some e→e.fr.map (SR.den S ρ B)=Cd (fun i=>decide (i<k+j)) k (Bj S ρ B es) (cur.map (SR.den S ρ B)))∧
    fin.map (SR.den S ρ B)=Cd (fun _=>true) k (Bj S ρ B es) (cur.map (SR.den S ρ B))
  | [],cur,fin,k,h=>by
    simp only[Pn,beq_iff_eq] at h
    subst h
    exact ⟨fun j e hj=>by simp at hj,rfl⟩
  | e::es,cur,fin,k,h=>by
    simp only[Pn,Bool.and_eq_true,beq_iff_eq] at h
    obtain ⟨h1,h2⟩:=h
    obtain ⟨i1,i2⟩:=jb8 (k+1) h2
    have hp:(Er cur e.o.dst e.r.val).map (SR.den S ρ B)=Oh (cur.map (SR.den S ρ B)) e.o.dst (e.r.val.den S ρ B):=by
      unfold Er Oh
      cases e.o.dst<;>simp[List.map_set]
    have hpe:Bj S ρ B (e::es)=(e.o.dst,e.r.val.den S ρ B)::Bj S ρ B es:=rfl
    refine ⟨fun j x hj=> ?_,?_⟩
    · cases j with
      | zero=>
        simp only[List.getElem?_cons_zero,Option.some.injEq] at hj
        subst hj
        rw[h1,Um _ _ _ (fun i hi=>by simp;omega)]
      | succ j=>
        rw[i1 j x (by simpa using hj),hp,hpe]
        conv=>rhs;unfold Cd
        rw[if_pos (by simp),show k+1+j=k+(j+1) from by omega]
    · rw[i2,hp,hpe]
      conv=>rhs;unfold Cd
      rw[if_pos rfl]
theorem Td.nbs{h0 hl:Hp}{es:List Fs}{fr0 fin:List SR}{init:List Value}(sh:Td P specs S ρ B h0 es init hl)(hf:Pn fr0 fin es=true)(hi:fr0.map (SR.den S (ρ.nbs f) B)=init)
    (hg: ∀e∈es,e.o.guard=none):Td P specs S (ρ.nbs f) B h0 es init hl:=by
  refine ⟨fun j e hj=> ?_,fun j e hj=> ?_,fun j e hj hw=> ?_,sh.no,sh.chain⟩
  · have:=(jb8 (S:=S) (ρ:=ρ.nbs f) (B:=B) 0 hf).1 j e hj
    rw[this,hi]
    simp only[Nat.zero_add]
  · rw[←sh.want j e hj]
    exact Vs fun g b h=>by rw[hg e (List.mem_of_getElem? hj)] at h;cases h
  · obtain ⟨s1,s2,s3⟩:=sh.st j e hj hw
    exact ⟨s1,j3x s2,fun x hx=>SR.wf_nbs (s3 x hx)⟩
theorem jap{D:Nat→Bool}: ∀(l m:List (Option Tmp×Value)) (k:Nat) (cur:List Value),l.length=m.length→(∀i,D (k+i)=true→l[i]? =m[i]?)→Cd D k l cur=Cd D k m cur
  | [],[],_,_,_,_=>rfl
  | [],_::_,_,_,h,_=>by simp at h
  | _::_,[],_,_,h,_=>by simp at h
  | x::l,y::m,k,cur,h,hd=>by
    have ih:=fun cur=>jap (D:=D) l m (k+1) cur (by simpa using h) fun i hi=>by
      have:=hd (i+1) (by rwa[show k+(i+1)=k+1+i from by omega])
      simpa using this
    unfold Cd
    rw[ih]
    cases hk:D k with
    | false=>rfl
    | true=>
      have:=hd 0 (by simpa using hk)
      simp only[List.getElem?_cons_zero,Option.some.injEq] at this
      rw[this]
theorem jj6{es:List Fs}{init:List Value}(hst:Dr (es.map (·.o))=true){i:Nat}{e:Fs}(hei:es[i]? =some e)
    (ffr:e.fr.map (SR.den S ρ B)=Cd (fun j=>decide (j<i)) 0 (Bj S ρ B es) init)
    {listed:Array Bool}{a:Act}(hsz:listed.size=es.length)(hcl:jbl (es.map (·.o)) (fun i=>listed.getD i false))(hfr:a.tmps.toList=Cd (fun i=>listed.getD i false) 0 (Bj S ρ B es) init)
    (hi:i∈Region.ready .any (es.map (·.o)).toArray listed):
    i<listed.size∧listed.getD i false=false∧(∀j,((Ex (es.map (·.o))).getD i 0).testBit j=true→listed.getD j false=true)∧Pq S ρ B (Do e.fr) a e.o.op.operands∧
    jbl (es.map (·.o)) (fun j=>(listed.setIfInBounds i true).getD j false)∧
    (a.put e.o.dst (e.r.val.den S ρ B)).tmps.toList=Cd (fun j=>(listed.setIfInBounds i true).getD j false) 0 (Bj S ρ B es) init:=by
  unfold Dr at hst
  simp only[Bool.and_eq_true] at hst
  obtain ⟨hb,ht⟩:=hst
  obtain ⟨r1,r2,r3⟩:=Fr hi
  have r1':i<es.length:=by simpa using r1
  have hil:i<listed.size:=by rw[hsz];exact r1'
  rw[Jy _ _ hil] at r2
  have hoi:(es.map (·.o))[i]? =some e.o:=by simp[hei]
  have hoa:(es.map (·.o)).toArray[i]? =some e.o:=by simpa using hoi
  have hpre:=r3 e.o hoa
  have hmask:=Ds hb hcl i e.o hoi hpre
  have hlook: ∀d,d∈Qi (es.map (·.o)) e.o→(Cd (fun i=>listed.getD i false) 0 (Bj S ρ B es) init)[d]? =(Cd (fun j=>decide (j<i)) 0 (Bj S ρ B es) init)[d]? :=by
    intro d hd
    apply Ki _ _ _ _ rfl rfl
    intro j p hj hpd
    obtain ⟨e',hj',rfl⟩:=Jm hj
    simp only[Nat.zero_add] at hpd⊢
    have hoj:(es.map (·.o))[j]? =some e'.o:=by simp[hj']
    by_cases hij:j=i
    · subst hij
      simp[r2]
    · have hord:=Kr ht hoj hoi hpd hij (.inl hd)
      split at hord
      · rename_i hlt
        rw[hmask j hord];simp[hlt]
      · rename_i hlt
        have hnl:listed.getD j false=false:=by
          cases hl:listed.getD j false with
          | false=>rfl
          | true=>
            exfalso
            have:=Ds hb hcl j e'.o hoj (fun x h1 h2=>hcl j e'.o hoj hl x h1 h2) i hord
            rw[r2] at this;cases this
        rw[hnl];simp;omega
  have hat: ∀d:Nat,a.tmps[d]? =(Cd (fun i=>listed.getD i false) 0 (Bj S ρ B es) init)[d]? :=fun d=>by rw[←hfr];simp
  refine ⟨hil,r2,hmask,?_,?_,?_⟩
  · intro x hxo
    have hd:x∈Qi (es.map (·.o)) e.o:=by
      unfold Qi
      rw[List.mem_append];left
      rw[List.mem_filterMap]
      exact ⟨.tmp x,by simpa using hxo,rfl⟩
    have:=hlook x hd
    rw[←hat x,←ffr] at this
    rw[Array.getD_eq_getD_getElem?,this]
    unfold Do
    rw[List.getElem?_map,List.getD_eq_getElem?_getD]
    cases e.fr[x]? <;>rfl
  · intro j o hj hD x hx1 hx2
    simp only at hD⊢
    rw[Da _ _ _ hil] at hD⊢
    split at hD
    · rename_i hji
      subst hji
      rw[hoi] at hj;injection hj with hj;subst hj
      split
      · rfl
      · exact hpre x hx1 hx2
    · split
      · rfl
      · exact hcl j o hj hD x hx1 hx2
  · have hput:(a.put e.o.dst (e.r.val.den S ρ B)).tmps.toList=Oh a.tmps.toList e.o.dst (e.r.val.den S ρ B):=by
      unfold Act.put Oh
      cases e.o.dst<;>simp
    rw[hput,hfr]
    symm
    refine Sk (j:=i) _ 0 init (e.o.dst,e.r.val.den S ρ B) (Nat.zero_le _) (by simpa using Kq hei) r2 (by rw[Da _ _ _ hil];simp) (fun j hj=>by rw[Da _ _ _ hil,if_neg hj]) ?_
    intro j p s hj hlt hs1 hs2
    obtain ⟨e',hj',rfl⟩:=Jm hj
    simp only[Nat.zero_add] at hlt hs1 hs2⊢
    have hoj:(es.map (·.o))[j]? =some e'.o:=by simp[hj']
    have hord:=Kr ht hoj hoi hs2 (by omega) (.inr hs1)
    rw[if_neg (by omega)] at hord
    cases hl:listed.getD j false with
    | false=>rfl
    | true=>
      exfalso
      have:=Ds hb hcl j e'.o hoj (fun x h1 h2=>hcl j e'.o hoj hl x h1 h2) i hord
      rw[r2] at this;cases this
theorem Qm{α:Type}(p:α→Bool): ∀l:List α,l.filter p∈jl2 l
  | []=>by simp[jl2]
  | x::l=>by
    simp only[jl2,List.mem_append,List.mem_map]
    rw[List.filter_cons]
    split
    · exact .inr ⟨_,Qm p l,rfl⟩
    · exact .inl (Qm p l)
theorem jp6{α:Type}{l:List (Nat×α)}{D D':Nat→Bool}{x:Nat×α}(hx:x∈l)(hn:(l.map (·.1)).Nodup)(h0:D x.1=false)(h1:D' x.1=true)(hd: ∀j,j≠x.1→D' j=D j):
    (l.filter fun y=>D' y.1).Perm (x::l.filter fun y=>D y.1):=by
  induction l with
  | nil=>cases hx
  | cons y l ih=>
    simp only[List.map_cons,List.nodup_cons] at hn
    by_cases hy:y.1=x.1
    · have hyx:y=x:=by
        rcases List.mem_cons.1 hx with h|h
        · exact h.symm
        · exact absurd (List.mem_map.2 ⟨x,h,hy.symm⟩) hn.1
      subst hyx
      have e:(l.filter fun z=>D' z.1)=l.filter fun z=>D z.1:=by
        apply List.filter_congr
        intro z hz
        exact hd _ fun he=>hn.1 (List.mem_map.2 ⟨z,hz,he⟩)
      rw[List.filter_cons_of_pos (by rw[h1]),List.filter_cons_of_neg (by rw[h0];simp),e]
    · have hxl:x∈l:=(List.mem_cons.1 hx).resolve_left fun h=>hy (by rw[h])
      have:=ih hxl hn.2
      rw[List.filter_cons,List.filter_cons,hd _ hy]
      split
      · exact (this.cons y).trans (List.Perm.swap x y _)
      · exact this
end
end
end Go.Proofs.YtljjbikbfeigdaaGreatDoor
namespace Go.Proofs.YtljjbikbfeigdaaGreatDoor
noncomputable section
open Go
abbrev Als:=List (Nat×Nat×Gn)
structure Yc(P:Program)(specs:Nat→Option Ec)(ns:Nat)(h0:Hp)(es:List Fs)(fr0 fin:List SR)(A:List Nat)(p:Nat)(als:Als)(H:Hp):Prop where
  frames:Pn fr0 fin es=true
  guard: ∀e∈es,e.o.guard=none
  fr0c:fr0.all (SR.clear ns H.na)=true
  ndi:(als.map (·.1)).Nodup
  ndk:(als.map (·.2.1)).Nodup
  rng: ∀x∈als,H.na≤x.2.1∧x.2.1<H.na+als.length∧x.2.2.segs.all (Cp.clear ns H.na)=true∧x.1∈A
  Aals: ∀a∈A,∃x∈als,x.1=a
  rwc:Gm ns H.na H.rw=true
  roc:Gh ns H.na H.ro=true
  ow:H.ow=none
  pos: ∀k i,(Bh 0 es)[k]? =some i→(k<p→ ∀a∈A,Uf (Ex (es.map (·.o))) a i=true)∧(p≤k→k<p+als.length→i∈A)∧(p+als.length≤k→ ∀a∈A,Uf (Ex (es.map (·.o))) i a=true)
  hH:(Eo h0 es)[p]? =some H
  hE:(Eo h0 es)[p+als.length]? =some (hLs H (H.na+als.length) als)
  ord: ∀i∈Bh 0 es,∀j∈Bh 0 es,i<j→Uf (Ex (es.map (·.o))) j i=true∨(i∈A∧j∈A)
  still:Lp P specs h0 es=true
  val: ∀i e,es[i]? =some e→e.r.val.clear ns H.na=true∨(∃x∈als,x.1=i∧jce ns x.2.1 e.r.val=true)∨ ∀a∈A,Uf (Ex (es.map (·.o))) i a=true
  pure: ∀i e,es[i]? =some e→Eb e=false→ ∀L∈jl2 als,jhk (Ex (es.map (·.o))) A i L=false→Xw P specs e (es.flatMap (·.r.need)) (hLs H (H.na+als.length) L)=true
  al: ∀x∈als,∃e,es[x.1]? =some e∧(jce ns x.2.1 e.r.val=true∨e.r.val.clear ns H.na=true)∧Eb e=true∧
    ∀L∈jl2 als,(∀y∈L,y.1≠x.1)→jhk (Ex (es.map (·.o))) A x.1 L=false→jjy P specs ns H (H.na+als.length) (es.flatMap (·.r.need)) e x L=true
theorem Ni{a b:Nat}:Nat.beq a b=true↔a=b:=⟨Nat.eq_of_beq_eq_true,fun h=>h▸Nat.beq_refl a⟩
theorem jl3{P:Program}{specs:Nat→Option Ec}{ns:Nat}{h0:Hp}{es:List Fs}{fr0 fin:List SR}{A:List Nat}{p:Nat}{als:Als}{H:Hp}
    (h:jjo P specs ns h0 es fr0 fin A p als H=true):Yc P specs ns h0 es fr0 fin A p als H:=by
  unfold jjo at h
  simp only[Bool.and_eq_true] at h
  obtain ⟨a1,a2,a3,a4,a5,a6,a7,a8,a9,a10,a11,a12,a13,a14,a15,a16,a17,a18,a19⟩:=h
  have heff:jlq es=Bh 0 es:=rfl
  rw[heff] at a11 a12 a15
  refine ⟨a1,?_,a3,of_decide_eq_true a4,of_decide_eq_true a5,?_,?_,a8,a9,by simpa using a10,?_,by simpa using a13,by simpa using a14,?_,a16,?_,?_,?_⟩
  · intro e he
    have:=List.all_eq_true.1 a2 e he
    simpa using this
  · intro x hx
    have:=List.all_eq_true.1 a6 x hx
    simp only[Bool.and_eq_true,Nat.ble_eq,List.contains_iff_mem] at this
    obtain ⟨b1,b2,b3,b4⟩:=this
    exact ⟨b1,b2,b3,b4⟩
  · intro a ha
    have:=List.all_eq_true.1 a7 a ha
    obtain ⟨x,hx,he⟩:=List.any_eq_true.1 this
    exact ⟨x,hx,Ni.1 he⟩
  · intro k i hk
    have:=List.all_eq_true.1 a11 (i,k) (List.mem_zipIdx_iff_getElem?.2 hk)
    simp only at this
    refine ⟨fun h1 a ha=> ?_,fun h1 h2=> ?_,fun h1 a ha=> ?_⟩
    · rw[if_pos h1] at this;exact List.all_eq_true.1 this a ha
    · rw[if_neg (by omega),if_pos h2] at this;exact List.contains_iff_mem.1 this
    · rw[if_neg (by omega),if_neg (by omega)] at this;exact List.all_eq_true.1 this a ha
  · intro i hi j hj hij
    have:=List.all_eq_true.1 (List.all_eq_true.1 a15 i hi) j hj
    simp only[hij,decide_true,Bool.not_true,Bool.false_or,Bool.or_eq_true,Bool.and_eq_true,List.contains_iff_mem] at this
    exact this
  · intro i e hi
    have:=List.all_eq_true.1 a17 (e,i) (List.mem_zipIdx_iff_getElem?.2 hi)
    simp only[Bool.or_eq_true] at this
    rcases this with h|h|h
    · exact .inl h
    · obtain ⟨x,hx,he⟩:=List.any_eq_true.1 h
      simp only[Bool.and_eq_true] at he
      exact .inr (.inl ⟨x,hx,Ni.1 he.1,he.2⟩)
    · exact .inr (.inr fun a ha=>List.all_eq_true.1 h a ha)
  · intro i e hi hne L hL hs
    have:=List.all_eq_true.1 a18 (e,i) (List.mem_zipIdx_iff_getElem?.2 hi)
    simp only[hne,Bool.false_or] at this
    have:=List.all_eq_true.1 this L hL
    simpa [hs] using this
  · intro x hx
    have:=List.all_eq_true.1 a19 x hx
    split at this
    · rename_i e he
      simp only[Bool.and_eq_true,Bool.or_eq_true] at this
      obtain ⟨c1,c2,c3⟩:=this
      refine ⟨e,he,c1,c2,fun L hL hn hs=> ?_⟩
      have:=List.all_eq_true.1 c3 L hL
      simp only[Bool.or_eq_true] at this
      rcases this with (h|h)|h
      · obtain ⟨y,hy,he⟩:=List.any_eq_true.1 h
        exact absurd (Ni.1 he) (hn y hy)
      · rw[hs] at h;cases h
      · exact h
    · cases this
end
end Go.Proofs.YtljjbikbfeigdaaGreatDoor
namespace Go.Proofs.YtljjbikbfeigdaaGreatDoor
noncomputable section
open Go
section
variable {S:Hw} {ρ:Et} {w0:World} {P:Program} {specs:Nat→Option Ec} {ns:Nat} {h0 hl:Hp} {es:List Fs} {fr0 fin:List SR} {A:List Nat} {p:Nat} {als:Als} {H:Hp} {init:List Value}
structure jyb(S:Hw)(ρ:Et)(w0:World)(es:List Fs)(init:List Value)(H:Hp)(als:Als)(p:Nat)(f:Nat→Nat)(listed:Array Bool)(a:Act)(w:World):Prop where
  size:listed.size=es.length
  closed:jbl (es.map (·.o)) (fun i=>listed.getD i false)
  fr:a.tmps.toList=Cd (fun i=>listed.getD i false) 0 (Bj S (ρ.nbs f) w0.heap.size es) init
  defers:a.defers=[]
  agree: ∀k,k<H.na→f k=ρ.nb k
  heap:Cv S (ρ.nbs f) w0 (hLs H (H.na+als.length) (als.filter fun x=>listed.getD x.1 false)) w
  eff: ∀k i,(Bh 0 es)[k]? =some i→(k<p→listed.getD i false=true)∧(p+als.length≤k→listed.getD i false=false)
theorem jwc{i:Nat}(h:i∈Bh 0 es): ∃e,es[i]? =some e∧Eb e=true:=by
  unfold Bh at h
  rw[List.mem_filterMap] at h
  obtain ⟨⟨e,j⟩,h1,h2⟩:=h
  simp only at h2
  split at h2
  · rename_i he
    simp only[Option.some.injEq] at h2
    subst h2
    exact ⟨e,List.mem_zipIdx_iff_getElem?.1 h1,he⟩
  · cases h2
theorem ji2(es:List Fs){B:Nat}:(Bj S ρ B es).length=es.length:=by simp[Bj]
theorem jrx(lp:Yc P specs ns h0 es fr0 fin A p als H){B:Nat}{f g:Nat→Nat}{D:Nat→Bool}(hfg: ∀k,k<H.na→g k=f k)(hk: ∀x∈als,D x.1=true→g x.2.1=f x.2.1)
    (hw: ∀i,D i=true→ ¬ ∀a∈A,Uf (Ex (es.map (·.o))) i a=true):Cd D 0 (Bj S (ρ.nbs f) B es) init=Cd D 0 (Bj S (ρ.nbs g) B es) init:=by
  refine jap _ _ 0 init (by rw[ji2,ji2]) fun i hi=> ?_
  rw[Nat.zero_add] at hi
  unfold Bj
  rw[List.getElem?_map,List.getElem?_map]
  cases he:es[i]? with
  | none=>rfl
  | some e=>
    simp only[Option.map_some,Option.some.injEq,Prod.mk.injEq,true_and]
    have hA:Cg ns H.na (ρ.nbs f) ((ρ.nbs f).nbs g):=Rs hfg
    rcases lp.val i e he with h|⟨x,hx,hxi,h⟩|h
    · exact ((SR.clear_den (S:=S) (B:=B) hA h).1).symm
    · have hkx:=hk x hx (by rw[hxi];exact hi)
      unfold jce at h
      split at h
      · rename_i j s d hv
        simp only[Bool.and_eq_true] at h
        have hj:=Ni.1 h.1
        subst hj
        rw[hv]
        simp only[SR.den,SV.den,Aw.den,Cw,Cl.blk,Cl.off,(T.nbs d).1]
        simp only[Et.nbs,hkx]
      · rename_i j s x1 x2 x3 hv
        simp only[Bool.and_eq_true] at h
        have hj:=Ni.1 h.1
        subst hj
        rw[hv]
        simp only[SR.den,SV.den,Aw.den,Cw,Cl.blk,Cl.off,(T.nbs x1).1,(T.nbs x2).1,(T.nbs x3).1]
        simp only[Et.nbs,hkx]
      · cases h
    · exact absurd h (hw i hi)
theorem jv5{k m:Nat}{v:SR}{f g:Nat→Nat}{B:Nat}(h:jce ns k v=true)(hm:f m=g k):(ju0 m v).den S (ρ.nbs f) B=v.den S (ρ.nbs g) B:=by
  unfold jce at h
  split at h
  · rename_i j s d
    simp only[Bool.and_eq_true] at h
    have hj:=Ni.1 h.1
    subst hj
    simp only[ju0,SR.den,SV.den,Aw.den,Cw,Cl.blk,Cl.off,(T.nbs d).1]
    simp only[Et.nbs,hm]
  · rename_i j s x1 x2 x3
    simp only[Bool.and_eq_true] at h
    have hj:=Ni.1 h.1
    subst hj
    simp only[ju0,SR.den,SV.den,Aw.den,Cw,Cl.blk,Cl.off,(T.nbs x1).1,(T.nbs x2).1,(T.nbs x3).1]
    simp only[Et.nbs,hm]
  · cases h
theorem jqt(lp:Yc P specs ns h0 es fr0 fin A p als H)(hst:Dr (es.map (·.o))=true){listed:Array Bool}(hcl:jbl (es.map (·.o)) (fun i=>listed.getD i false)){i:Nat}(hil:listed.getD i false=false)
    (hmask: ∀j,((Ex (es.map (·.o))).getD i 0).testBit j=true→listed.getD j false=true)(hlen:listed.size=es.length):jhk (Ex (es.map (·.o))) A i (als.filter fun x=>listed.getD x.1 false)=false:=by
  unfold Dr at hst
  simp only[Bool.and_eq_true] at hst
  unfold jhk
  rw[Bool.or_eq_false_iff]
  constructor
  · rw[←Bool.not_eq_true,List.any_eq_true]
    rintro ⟨a,ha,h⟩
    simp only[Bool.and_eq_true,Bool.not_eq_true',←Bool.not_eq_true,List.any_eq_true,not_exists,not_and] at h
    obtain ⟨h1,h2⟩:=h
    obtain ⟨x,hx,hxa⟩:=lp.Aals a ha
    have:=hmask a h1
    exact h2 x (List.mem_filter.2 ⟨hx,by rw[hxa];exact this⟩) (Ni.2 hxa)
  · rw[←Bool.not_eq_true,List.any_eq_true]
    rintro ⟨x,hx,h⟩
    obtain ⟨hx1,hx2⟩:=List.mem_filter.1 hx
    obtain ⟨e,he,_⟩:=lp.al x hx1
    have hoj:(es.map (·.o))[x.1]? =some e.o:=by simp[he]
    have:=Ds hst.1 hcl x.1 e.o hoj (fun y h1 h2=>hcl x.1 e.o hoj hx2 y h1 h2) i h
    rw[hil] at this;cases this
theorem jrz{l m:List T}(h:l.all (m.contains ·)=true)(hm:Dx S ρ m):Dx S ρ l:=fun x hx=>hm x (List.contains_iff_mem.1 (List.all_eq_true.1 h x hx))
set_option maxHeartbeats 1000000 in
theorem ji7(hsp: ∀f s,specs f=some s→Ei P S f s)(lp:Yc P specs ns h0 es fr0 fin A p als H)(hst:Dr (es.map (·.o))=true)(sh:Td P specs S ρ w0.heap.size h0 es init hl)
    (hi0: ∀f:Nat→Nat,(∀k,k<H.na→f k=ρ.nb k)→fr0.map (SR.den S (ρ.nbs f) w0.heap.size)=init)
    {f:Nat→Nat}{listed:Array Bool}{a:Act}{w:World}(hm:jyb S ρ w0 es init H als p f listed a w)(hun: ∃x∈als,listed.getD x.1 false=false){i:Nat}
    (hi:i∈Region.ready .any (es.map (·.o)).toArray listed){K:Act→World→Prop}{Q:Exit→Act→World→Prop}
    (hK: ∀g a' w',jyb S ρ w0 es init H als p g (listed.setIfInBounds i true) a' w'→K a' w'):wpOp P (es.map (·.o)).toArray Q i K a w:=by
  have r1':i<es.length:=by simpa using (Fr hi).1
  obtain ⟨e,hei⟩: ∃e,es[i]? =some e:=⟨_,List.getElem?_eq_getElem r1'⟩
  have hoa:(es.map (·.o)).toArray[i]? =some e.o:=by simp[hei]
  have shf: ∀f:Nat→Nat,(∀k,k<H.na→f k=ρ.nb k)→Td P specs S (ρ.nbs f) w0.heap.size h0 es init hl:=fun f hf=>sh.nbs lp.frames (hi0 f hf) lp.guard
  have mf:=jj6 hst hei ((shf f hm.agree).fr i e hei) hm.size hm.closed hm.fr hi
  obtain ⟨hil,r2,hmask,hagree,hcl',hput⟩:=mf
  have hwant:Region.wanted e.o (yielded (es.map (·.o)).toArray a.tmps)=true:=by
    unfold Region.wanted;rw[lp.guard e (List.mem_of_getElem? hei)]
  have hwt:e.want=true:=by
    rw[←sh.want i e hei];unfold Region.wanted;rw[lp.guard e (List.mem_of_getElem? hei)]
  obtain ⟨s1,s2,s3⟩:=(shf f hm.agree).st i e hei hwt
  have hneed:Dx S (ρ.nbs f) (es.flatMap (·.r.need)):=(shf f hm.agree).met
  have hskip:=jqt lp hst hm.closed r2 hmask hm.size
  obtain ⟨x0,hx0,hx0l⟩:=hun
  have nowait: ∀j,listed.getD j false=true→ ¬ ∀a∈A,Uf (Ex (es.map (·.o))) j a=true:=by
    intro j hj hall
    have hb:=hall x0.1 (lp.rng x0 hx0).2.2.2
    have hst':=hst
    unfold Dr at hst'
    simp only[Bool.and_eq_true] at hst'
    have hjl:j<es.length:=by
      rcases Nat.lt_or_ge j es.length with h|h
      · exact h
      · rw[Array.getD_eq_getD_getElem?,Array.getElem?_eq_none (by rw[hm.size];exact h)] at hj;cases hj
    have hoj:(es.map (·.o))[j]? =some (es[j]).o:=by simp[hjl]
    have:=Ds hst'.1 hm.closed j _ hoj (fun y h1 h2=>hm.closed j _ hoj hj y h1 h2) x0.1 hb
    rw[hx0l] at this;cases this
  unfold wpOp
  rw[hoa]
  simp only[hwant,if_true]
  left
  cases hne:Eb e with
  | false=>
    have hs:=lp.pure i e hei hne _ (Qm _ als) hskip
    unfold Xw at hs
    split at hs
    · rename_i r' hr'
      simp only[Bool.and_eq_true,beq_iff_eq] at hs
      obtain ⟨⟨v1,v2⟩,v3⟩:=hs
      obtain ⟨_,d2⟩:=Sl hsp (o:=e.o) (a:=a) (w:=w) (w0:=w0) hr' (jrz v3 hneed) (Gs s3) hagree hm.heap
      refine d2 _ _ fun w' hw'=> ?_
      rw[v1]
      rw[v2] at hw'
      have hnA:i∉A:=by
        intro hA
        obtain ⟨x,hx,hxi⟩:=lp.Aals i hA
        obtain ⟨e',he',_,he2,_⟩:=lp.al x hx
        rw[hxi,hei] at he';injection he' with he';subst he'
        rw[hne] at he2;cases he2
      have hfl:(als.filter fun x=>(listed.setIfInBounds i true).getD x.1 false)=als.filter fun x=>listed.getD x.1 false:=by
        apply List.filter_congr
        intro x hx
        rw[Da _ _ _ hil,if_neg (by intro h;exact hnA (by rw[←h];exact (lp.rng x hx).2.2.2))]
      refine hK f _ _ ⟨by simpa using hm.size,hcl',hput,?_,hm.agree,by rw[hfl];exact hw',?_⟩
      · unfold Act.put
        cases e.o.dst<;>exact hm.defers
      · intro k j hk
        obtain ⟨q1,q2⟩:=hm.eff k j hk
        have hji:j≠i:=by
          intro h;subst h
          have:j∈Bh 0 es:=List.mem_of_getElem? hk
          obtain ⟨e',h1,h2⟩:=jwc this
          rw[hei] at h1;injection h1 with h1;subst h1
          rw[hne] at h2;cases h2
        rw[Da _ _ _ hil,if_neg hji]
        exact ⟨q1,q2⟩
    · cases hs
  | true=>
    have hiE:i∈Bh 0 es:=by
      rw[←Me,List.mem_filterMap]
      exact ⟨(e,i),List.mem_zipIdx_iff_getElem?.2 hei,by simp[hne]⟩
    obtain ⟨k0,hk0⟩:=List.getElem?_of_mem hiE
    obtain ⟨p1,p2,p3⟩:=lp.pos k0 i hk0
    have hk1:p≤k0:=by
      rcases Nat.lt_or_ge k0 p with h|h
      · have:=(hm.eff k0 i hk0).1 h
        rw[r2] at this;cases this
      · exact h
    have hk2:k0<p+als.length:=by
      rcases Nat.lt_or_ge k0 (p+als.length) with h|h
      · exact h
      · have:=hmask x0.1 (p3 h x0.1 (lp.rng x0 hx0).2.2.2)
        rw[hx0l] at this;cases this
    have hiA:=p2 hk1 hk2
    obtain ⟨x,hx,hxi⟩:=lp.Aals i hiA
    obtain ⟨e',he',hkc,_,hat⟩:=lp.al x hx
    rw[hxi,hei] at he';injection he' with he';subst he'
    have hxl:listed.getD x.1 false=false:=by rw[hxi];exact r2
    have hat:=hat _ (Qm (fun y=>listed.getD y.1 false) als) (fun y hy h=>by
      have:=(List.mem_filter.1 hy).2
      rw[h,hxl] at this;cases this) (by rw[hxi];exact hskip)
    unfold jjy at hat
    split at hat
    · rename_i r' hr'
      simp only[Bool.and_eq_true,beq_iff_eq] at hat
      obtain ⟨v1,v2,v3⟩:=hat
      obtain ⟨_,d2⟩:=Sl hsp (o:=e.o) (a:=a) (w:=w) (w0:=w0) hr' (jrz v3 hneed) (Gs s3) hagree hm.heap
      refine d2 _ _ fun w' hw'=> ?_
      rw[v2] at hw'
      obtain ⟨g1,g2,g3,_⟩:=lp.rng x hx
      let na1:=H.na+als.length
      let g:Nat→Nat:=fun k=>if k=x.2.1 then f na1 else if na1≤k then f (k+1) else f k
      have gk:g x.2.1=f na1:=if_pos rfl
      have glow: ∀k,k<H.na→g k=f k:=fun k hk=>by
        show (if k=x.2.1 then f na1 else if na1≤k then f (k+1) else f k)=f k
        rw[if_neg (by omega),if_neg (by show ¬H.na+als.length≤k;omega)]
      have ghigh: ∀k,na1≤k→g k=f (k+1):=fun k hk=>by
        show (if k=x.2.1 then f na1 else if na1≤k then f (k+1) else f k)=f (k+1)
        rw[if_neg (by have:H.na+als.length≤k:=hk;omega),if_pos hk]
      have gother: ∀y∈als,listed.getD y.1 false=true→g y.2.1=f y.2.1:=by
        intro y hy hyl
        have hne:y.2.1≠x.2.1:=by
          intro he
          have:y=x:=by
            have hnd:=lp.ndk
            obtain ⟨m,hm1⟩:=List.getElem?_of_mem hy
            obtain ⟨m',hm2⟩:=List.getElem?_of_mem hx
            have e1:(als.map (·.2.1))[m]? =some y.2.1:=by simp[hm1]
            have e2:(als.map (·.2.1))[m']? =some y.2.1:=by simp[hm2,he]
            have hl1:=(List.getElem?_eq_some_iff.1 e1).1
            have:=(List.getElem?_inj hl1 hnd).1 (e1.trans e2.symm)
            subst this
            rw[hm1] at hm2;injection hm2
          rw[this,hxl] at hyl;cases hyl
        show (if y.2.1=x.2.1 then f na1 else if na1≤y.2.1 then f (y.2.1+1) else f y.2.1)=f y.2.1
        rw[if_neg hne,if_neg (by show ¬H.na+als.length≤y.2.1;have:=(lp.rng y hy).2.1;omega)]
      have hagr: ∀k,k<H.na→g k=ρ.nb k:=fun k hk=>(glow k hk).trans (hm.agree k hk)
      have hA2:Cg ns H.na (ρ.nbs f) ((ρ.nbs f).nbs g):=Rs glow
      have hrc: ∀z∈H.rw,z.1.clear ns H.na=true∧z.2.segs.all (Cp.clear ns H.na)=true:=by
        intro z hz
        have:=lp.rwc
        unfold Gm at this
        have:=List.all_eq_true.1 this z hz
        simpa using this
      have hval:r'.val.den S (ρ.nbs f) w0.heap.size=e.r.val.den S (ρ.nbs g) w0.heap.size:=by
        rw[v1]
        split
        · rename_i hkey
          exact jv5 hkey gk.symm
        · rename_i hkey
          rcases hkc with h|h
          · exact absurd h hkey
          · exact ((SR.clear_den (S:=S) (B:=w0.heap.size) hA2 h).1).symm
      have hfr':a.tmps.toList=Cd (fun i=>listed.getD i false) 0 (Bj S (ρ.nbs g) w0.heap.size es) init:=by
        rw[hm.fr]
        exact jrx lp (fun k hk=>glow k hk) (fun y hy hyl=>gother y hy hyl) nowait
      have mg:=jj6 hst hei ((shf g hagr).fr i e hei) hm.size hm.closed hfr' hi
      have hput':=mg.2.2.2.2.2
      rw[hval]
      refine hK g _ _ ⟨by simpa using hm.size,hcl',hput',?_,hagr,?_,?_⟩
      · unfold Act.put
        cases e.o.dst<;>exact hm.defers
      · refine Cv.turn (ρ:=ρ.nbs f) (ns:=ns) (na:=H.na) hw' hA2 ?_ ?_ ?_ rfl lp.roc lp.ow ?_ ?_
        · intro z hz
          rcases List.mem_append.1 hz with h|h
          · rcases List.mem_append.1 h with h|h
            · exact (hrc z h).2
            · obtain ⟨y,hy,hyz⟩:=List.mem_map.1 h
              rw[←hyz]
              exact (lp.rng y (List.mem_filter.1 hy).1).2.2.1
          · rw[List.mem_singleton.1 h];exact g3
        · have hp:=jp6 (D:=fun j=>listed.getD j false) (D':=fun j=>(listed.setIfInBounds i true).getD j false) hx lp.ndi hxl (by rw[Da _ _ _ hil,if_pos hxi]) (fun j hj=>by rw[Da _ _ _ hil,if_neg (by rw[←hxi];exact hj)])
          have e1:(H.rw.map fun z=>(z.1.blk (ρ.nbs g) w0.heap.size,z.2))=H.rw.map fun z=>(z.1.blk (ρ.nbs f) w0.heap.size,z.2):=by
            apply List.map_congr_left
            intro z hz
            exact congrArg (fun b=>(b,z.2)) (Cl.clear_den (B:=w0.heap.size) hA2 (hrc z hz).1).1
          have e2:((als.filter fun y=>listed.getD y.1 false).map fun y=>((jh2 y).1.blk (ρ.nbs g) w0.heap.size,(jh2 y).2))=(als.filter fun y=>listed.getD y.1 false).map fun y=>((jh2 y).1.blk (ρ.nbs f) w0.heap.size,(jh2 y).2):=by
            apply List.map_congr_left
            intro y hy
            obtain ⟨y1,y2⟩:=List.mem_filter.1 hy
            have:=gother y y1 y2
            simp only[jh2,Cl.blk,Et.nbs,this]
          simp only[hLs,List.map_append,List.map_map,List.map_cons,List.map_nil,Function.comp_def]
          rw[e1]
          have h3:=hp.map fun y=>((jh2 y).1.blk (ρ.nbs g) w0.heap.size,(jh2 y).2)
          rw[List.map_cons,e2] at h3
          have h5:(jh2 x).1.blk (ρ.nbs g) w0.heap.size=(Cl.new (H.na+als.length)).blk (ρ.nbs f) w0.heap.size:=by
            simp only[jh2,Cl.blk,Et.nbs]
            exact congrArg _ gk
          rw[h5] at h3
          have h4:=(h3.trans (List.perm_append_singleton _ _).symm).append_left (H.rw.map fun z=>(z.1.blk (ρ.nbs f) w0.heap.size,z.2))
          rw[←List.append_assoc] at h4
          exact h4
        · intro z hz
          rcases (List.mem_append.1 hz).symm with h|h
          · obtain ⟨y,_,hyz⟩:=List.mem_map.1 h
            rw[←hyz];rfl
          · have:=hw'.off z (List.mem_append_left _ (List.mem_append_left _ h))
            have h2:=(Cl.clear_den (B:=w0.heap.size) hA2 (hrc z h).1).2
            exact h2.trans this
        · exact ghigh na1 (Nat.le_refl _)
        · intro k hk
          have hk:na1≤k:=hk
          have:=hw'.nbs (k+1) (by show H.na+als.length+1≤k+1;have:H.na+als.length≤k:=hk;omega)
          show g (k+1)=g k+1
          rw[ghigh k hk,ghigh (k+1) (by omega)]
          exact this
      · intro k j hk
        obtain ⟨q1,q2⟩:=hm.eff k j hk
        refine ⟨fun h=> ?_,fun h=> ?_⟩
        · rw[Da _ _ _ hil]
          split
          · rfl
          · exact q1 h
        · rw[Da _ _ _ hil]
          split
          · rename_i hji
            subst hji
            have:=(lp.pos k j hk).2.2 h
            exfalso
            have:=hmask x0.1 (this x0.1 (lp.rng x0 hx0).2.2.2)
            rw[hx0l] at this;cases this
          · exact q2 h
    · cases hat
end
end
end Go.Proofs.YtljjbikbfeigdaaGreatDoor
