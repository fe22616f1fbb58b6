/- Part of the proof of FnColorEdgesCardSaid: The symbolic walk of a piece of code is sound: what its answer asks for is enough. -/
import Derived.Test.YtljjbikbfeigdaaGreatDoorCe06
set_option linter.all false
namespace Go.Proofs.YtljjbikbfeigdaaGreatDoor
noncomputable section
open Go
theorem Hk.clear{S:Hw}{ρ ρ':Et}{B:Nat}{ns:Nat}{na:Nat}{fr:List SR}{a:Act}(hf:Hk S ρ B fr a)(hA:Cg ns na ρ ρ')(hc:fr.all (SR.clear ns na)=true):Hk S ρ' B fr a:=by
  rw[List.all_eq_true] at hc
  refine ⟨?_,hf.defers,fun x hx=>(SR.clear_den (B:=B) hA (hc x hx)).2 (hf.wf x hx)⟩
  rw[hf.tmps]
  exact List.map_congr_left fun x hx=>(SR.clear_den hA (hc x hx)).1.symm
structure Mq(P:Program)(specs:Nat→Option Ec)(S:Hw)(ρ:Et)(B:Nat)(h0:Hp)(all:List Oper)(es:List Fs)(init:List Value)(fr:List SR)(h:Hp)(ex:Nat):Prop where
  frs: ∀(j:Nat) (e:Fs),es[j]? =some e→e.fr.map (SR.den S ρ B)=Cd (fun i=>decide (i<j)) 0 (Bj S ρ B es) init
  want: ∀(j:Nat) (e:Fs),es[j]? =some e→Region.wanted e.o (yielded all.toArray (Cd (fun i=>decide (i<j)) 0 (Bj S ρ B es) init).toArray)=e.want
  st: ∀(j:Nat) (e:Fs),es[j]? =some e→j≠ex→e.want=true→Gx P specs (Do e.fr) e.heap e.o=some e.r∧Dx S ρ e.r.need∧ ∀x∈e.fr,x.wf S ρ
  no: ∀(j:Nat) (e:Fs),es[j]? =some e→e.want=false→e.r.val=.v (.one .undef)∧e.r.need=[]
  chain:Je h0 es h
  now:fr.map (SR.den S ρ B)=Cd (fun i=>decide (i<es.length)) 0 (Bj S ρ B es) init
  wf: ∀x∈fr,x.wf S ρ
section
variable {S:Hw} {ρ:Et} {w0:World} {P:Program} {specs:Nat→Option Ec} {rs:List ResultVar} {B:Nat}
theorem Mg(es:List Fs)(e:Fs):Bj S ρ B (es++ [e])=Bj S ρ B es++ [(e.o.dst,e.r.val.den S ρ B)]:=by simp[Bj]
theorem Fq(es:List Fs):(Bj S ρ B es).length=es.length:=by simp[Bj]
theorem Mq.more{h0 h:Hp}{all:List Oper}{es:List Fs}{init:List Value}{fr:List SR}{ex:Nat}(sf:Mq P specs S ρ B h0 all es init fr h ex){e:Fs}(hfr:e.fr=fr)(hheap:e.heap=h)
    (hw:Region.wanted e.o (yielded all.toArray (fr.map (SR.den S ρ B)).toArray)=e.want)
    (hst:es.length≠ex→e.want=true→Gx P specs (Do fr) h e.o=some e.r∧Dx S ρ e.r.need)(hch:e.want=true→Eb e=false→e.r.heap=h)(hno:e.want=false→e.r.val=.v (.one .undef)∧e.r.need=[]∧e.r.heap=h)(hwf:e.r.val.wf S ρ):
    Mq P specs S ρ B h0 all (es++ [e]) init (Er fr e.o.dst e.r.val) e.r.heap ex:=by
  have early: ∀j,j≤es.length→Cd (fun i=>decide (i<j)) 0 (Bj S ρ B (es++ [e])) init=Cd (fun i=>decide (i<j)) 0 (Bj S ρ B es) init:=by
    intro j hj
    rw[Mg,Lj,Fq]
    rw[if_neg (by simp;omega)]
  have get: ∀j x,(es++ [e])[j]? =some x→(es[j]? =some x∧j<es.length)∨(j=es.length∧x=e):=by
    intro j x hx
    rcases Nat.lt_trichotomy j es.length with hlt|heq|hgt
    · left;rw[List.getElem?_append_left hlt] at hx;exact ⟨hx,hlt⟩
    · right;subst heq;simp at hx;exact ⟨rfl,hx.symm⟩
    · rw[List.getElem?_eq_none (by simp;omega)] at hx;cases hx
  refine ⟨?_,?_,?_,?_,?_,?_,?_⟩
  · intro j x hx
    rcases get j x hx with ⟨h1,h2⟩|⟨rfl,rfl⟩
    · rw[early j (by omega)];exact sf.frs j x h1
    · rw[early _ (Nat.le_refl _),hfr];exact sf.now
  · intro j x hx
    rcases get j x hx with ⟨h1,h2⟩|⟨rfl,rfl⟩
    · rw[early j (by omega)];exact sf.want j x h1
    · rw[early _ (Nat.le_refl _),←sf.now];exact hw
  · intro j x hx hex hwt
    rcases get j x hx with ⟨h1,h2⟩|⟨rfl,rfl⟩
    · exact sf.st j x h1 hex hwt
    · rw[hfr,hheap];exact ⟨(hst hex hwt).1,(hst hex hwt).2,sf.wf⟩
  · intro j x hx hwt
    rcases get j x hx with ⟨h1,h2⟩|⟨rfl,rfl⟩
    · exact sf.no j x h1 hwt
    · exact ⟨(hno hwt).1,(hno hwt).2.1⟩
  · refine Fo sf.chain hheap fun he=> ?_
    cases hwt:e.want with
    | false=>exact (hno hwt).2.2
    | true=>exact hch hwt he
  · rw[Mg,Lj,Fq]
    rw[if_pos (by simp)]
    have e1:Cd (fun i=>decide (i<(es++ [e]).length)) 0 (Bj S ρ B es) init=Cd (fun i=>decide (i<es.length)) 0 (Bj S ρ B es) init:=by
      apply Ks
      intro i hi
      rw[Fq] at hi
      simp;omega
    rw[e1,←sf.now]
    unfold Er Oh
    cases e.o.dst with
    | none=>rfl
    | some d=>simp[List.map_set]
  · intro x hx
    unfold Er at hx
    split at hx
    · rcases List.mem_or_eq_of_mem_set hx with hx|rfl
      · exact sf.wf x hx
      · exact hwf
    · exact sf.wf x hx
theorem jmm{fr:List SR}{h:Hp}{e:Fs}(hfr:e.heap=h)(hst:Gx P specs (Do fr) h e.o=some e.r)(hwt:e.want=true)(he:Eb e=false):e.r.heap=h:=by
  unfold Eb at he
  rw[hwt] at he
  simp only[Bool.true_and,Bool.and_eq_false_iff] at he
  rcases he with he|he
  · exact jhj hst he
  · rw[←hfr];simpa using he
theorem Mq.start{h:Hp}{all:List Oper}{fr:List SR}{ex:Nat}(hw: ∀x∈fr,x.wf S ρ):Mq P specs S ρ B h all [] (fr.map (SR.den S ρ B)) fr h ex:=
  ⟨fun _ _ h=>by simp at h,fun _ _ h=>by simp at h,fun _ _ h=>by simp at h,fun _ _ h=>by simp at h,rfl,rfl,hw⟩
theorem Mq.truth{h0 h:Hp}{all:List Oper}{es:List Fs}{init:List Value}{fr:List SR}{ex:Nat}(sf:Mq P specs S ρ B h0 all es init fr h ex){s:Nat}{t:T}(hs:Do fr s=.v (.one (.bool t))){b:Bool}(hb:t.B S ρ=b):
    Mq P specs S ρ B h0 all es init (Fi fr s b) h ex:=by
  have ht:=Hk.truth (B:=B) (a:={tmps:=(fr.map (SR.den S ρ B)).toArray,defers:=[]}) ⟨by simp,rfl,sf.wf⟩ hs hb
  refine ⟨sf.frs,sf.want,sf.st,sf.no,sf.chain,?_,ht.wf⟩
  rw[←ht.tmps];exact sf.now
def Wx.good:Wx→Bool
  | .code c=>Ji c
  | .pop=>true
  | .ops _ _=>true
  | .draw _ all _ _=>Dr all
def Jx:List KF→Bool
  | []=>true
  | .code c::ks=>Ji c&&Jx ks
  | .again c::ks=>Ji c&&Jx ks
  | .inv _ _ c::ks=>Ji c&&Jx ks
  | .blk _::ks=>Jx ks
theorem Lm{id:Nat}: ∀{ks ks':List KF},Jx ks=true→Hy id ks=some ks'→Jx ks'=true
  | [],_,_,h=>by simp[Hy] at h
  | .code c::ks,ks',hg,h=>by
    simp only[Jx,Bool.and_eq_true] at hg
    exact Lm hg.2 h
  | .again c::ks,ks',hg,h=>by
    simp only[Jx,Bool.and_eq_true] at hg
    exact Lm hg.2 h
  | .inv _ _ c::ks,ks',hg,h=>by
    simp only[Jx,Bool.and_eq_true] at hg
    exact Lm hg.2 h
  | .blk j::ks,ks',hg,h=>by
    unfold Hy at h
    split at h
    · cases h;exact hg
    · exact Lm (by simpa [Jx] using hg) h
def Wx.goal(P:Program)(specs:Nat→Option Ec)(S:Hw)(ρ:Et)(w0:World)(Q:Exit→Act→World→Prop):Wx→List KF→List SR→Hp→Prop
  | .code c,ks,fr,h=> ∀(a:Act) (w:World),Hk S ρ w0.heap.size fr a→Cv S ρ w0 h w→c.wp P (Wz P Q ks) a w
  | .pop,ks,fr,h=> ∀(a:Act) (w:World),Hk S ρ w0.heap.size fr a→Cv S ρ w0 h w→Wz P Q ks .normal a w
  | .ops rest all,ks,fr,h=> ∀(a:Act) (w:World),Hk S ρ w0.heap.size fr a→Cv S ρ w0 h w→wpList P all.toArray (Wz P Q ks) rest a w
  | .draw rest all es h0,ks,fr,h=> ∀(init:List Value) (w:World),Cv S ρ w0 h w→es.map (·.o)++rest=all→Mq P specs S ρ w0.heap.size h0 all es init fr h all.length→
      ∀(a:Act) (w:World),a.tmps.toList=init→a.defers=[]→Cv S ρ w0 h0 w→wpAny P .any all.toArray (Wz P Q ks) all.length (Array.replicate all.length false) a w
def Ta(P:Program)(S:Hw)(w0:World)(Q:Exit→Act→World→Prop)(ρ:Et):List KF→Prop
  | []=>True
  | .inv lo an c::ks=>(∀(ρ2:Et) (a:Act) (w:World),Cg lo an.na ρ ρ2→Hk S ρ2 w0.heap.size an.fr a→Cv S ρ2 w0 an.h w→Dx S ρ2 an.facts→an.meas.I S ρ2<an.meas.I S ρ→0<an.meas.I S ρ→Xs P c (Wz P Q ks) a w)∧Ta P S w0 Q ρ ks
  | _::ks=>Ta P S w0 Q ρ ks
theorem Ta.unwind{Q:Exit→Act→World→Prop}{id:Nat}: ∀{ks ks':List KF},Ta P S w0 Q ρ ks→Hy id ks=some ks'→Ta P S w0 Q ρ ks'
  | [],_,_,h=>by simp[Hy] at h
  | .code c::ks,ks',hg,h=>Ta.unwind (ks:=ks) hg h
  | .again c::ks,ks',hg,h=>Ta.unwind (ks:=ks) hg h
  | .inv _ _ c::ks,ks',hg,h=>Ta.unwind (ks:=ks) hg.2 h
  | .blk j::ks,ks',hg,h=>by
    unfold Hy at h
    split at h
    · cases h;exact hg
    · exact Ta.unwind (ks:=ks) hg h
theorem Ta.clear{Q:Exit→Act→World→Prop}{ρ':Et}{ns na:Nat}(hA:Cg ns na ρ ρ'): ∀{ks:List KF},Mh ns na ks=true→Ta P S w0 Q ρ ks→Ta P S w0 Q ρ' ks
  | [],_,_=>trivial
  | .code c::ks,hc,h=>Ta.clear (ks:=ks) hA hc h
  | .again c::ks,hc,h=>Ta.clear (ks:=ks) hA hc h
  | .blk c::ks,hc,h=>Ta.clear (ks:=ks) hA hc h
  | .inv lo an c::ks,hc,h=>by
    simp only[Mh,Bool.and_eq_true] at hc
    obtain ⟨⟨c1,c2,c3⟩,c4⟩:=hc
    rw[El] at c1 c2
    have hm:=(T.clear_den (S:=S) hA c3).1
    refine ⟨fun ρ2 a w g1 g2 g3 g4 g5 g6=> ?_,Ta.clear hA c4 h.2⟩
    rw[hm] at g5 g6
    exact h.1 ρ2 a w ((hA.weaken c1 c2).trans g1 (Nat.le_refl _) (Nat.le_refl _)) g2 g3 g4 g5 g6
theorem Jj{Q:Exit→Act→World→Prop}{c:List T}{k:Jg}(h:(Jp c k).ok P S ρ w0 rs Q):Dx S ρ c∧k.ok P S ρ w0 rs Q:=by
  unfold Jp at h
  split at h
  · exact ⟨Dx.nil,h⟩
  · exact h
def Wx.pureT:Wx→Bool
  | .code c=>Kh c
  | .pop=>true
  | .ops rest _=>rest.all fun o=>(jik o.op).not
  | .draw .. =>false
def jlu:List KF→Bool
  | []=>true
  | .code c::ks=>(Kh c).and (jlu ks)
  | _=>false
theorem Rg{c:List T}{k:Jg}{d:List T}{f:List SR}(h:(Jp c k).split=some (d,f)): ∃d',k.split=some (d',f)∧d=c++d':=by
  unfold Jp at h
  split at h
  · exact ⟨d,h,rfl⟩
  · simp only[Jg.split] at h
    split at h
    · rename_i d' f' hk
      simp only[Option.some.injEq,Prod.mk.injEq] at h
      obtain ⟨rfl,rfl⟩:=h
      exact ⟨d',hk,rfl⟩
    · cases h
theorem Ve{Q:Exit→Act→World→Prop}{c:List T}{k:Jg}(h1:Dx S ρ c)(h2:k.okA P S w0 rs Q ρ):(Jp c k).okA P S w0 rs Q ρ:=by
  unfold Jp
  split
  · exact h2
  · exact ⟨h1,h2⟩
theorem jtx{rsp:Nat→Option Ff}{tab:Tab}{fc:FC}{Q:Exit→Act→World→Prop}{h:Hp}: ∀(n:Nat) (task:Wx) (ks:List KF) (fr:List SR) {c:List T} {f:List SR},task.pureT=true→jlu ks=true→
    (Fc P specs rsp tab n fc task ks fr h).split=some (c,f)→Dx S ρ c→(∀(a:Act) (w:World),Hk S ρ w0.heap.size f a→Cv S ρ w0 h w→Q .normal a w)→(Fc P specs rsp tab n fc task ks fr h).okA P S w0 rs Q ρ:=by
  intro n
  induction n with
  | zero=>intro task ks fr c f _ _ hs;simp[Fc,Jg.split] at hs
  | succ n ih=>
    intro task ks fr c f hp hk hs hm hq
    cases task with
    | pop=>
      cases ks with
      | nil=>
        simp only[Fc,Jg.split,Option.some.injEq,Prod.mk.injEq] at hs
        obtain ⟨rfl,rfl⟩:=hs
        exact hq
      | cons k ks=>
        cases k with
        | code x=>
          simp only[jlu,Bool.and_eq_true] at hk
          exact ih (.code x) ks fr hk.1 hk.2 hs hm hq
        | again x=>cases hk
        | blk x=>cases hk
        | inv _ _ x=>cases hk
    | code x=>
      cases x with
      | skip=>exact ih .pop ks fr rfl hk hs hm hq
      | seq a b=>
        simp only[Wx.pureT,Kh,Bool.and_eq_true] at hp
        exact ih (.code a) (.code b::ks) fr hp.1 (by simp only[jlu,Bool.and_eq_true];exact ⟨hp.2,hk⟩) hs hm hq
      | region id ops draw=>
        simp only[Wx.pureT,Kh,Bool.and_eq_true] at hp
        cases draw with
        | true=>simp at hp
        | false=>
          simp only[Fc] at hs⊢
          cases hu:jed fc id fr h with
          | some u=>
            simp only[hu] at hs
            split at hs<;>cases hs
          | none=>
            simp only[hu,Bool.false_eq_true,if_false] at hs⊢
            cases hc:jfj fc id fr h with
            | none=>
              simp only[hc] at hs⊢
              exact ih (.ops ops.toList ops.toList) ks fr hp.2 hk hs hm hq
            | some u=>
              simp only[hc] at hs⊢
              obtain ⟨d',e1,rfl⟩:=Rg hs
              exact Ve (Co.1 hm).1 (ih (.ops ops.toList ops.toList) ks u.2 hp.2 hk e1 (Co.1 hm).2 hq)
      | cond x a b=>
        simp only[Wx.pureT,Kh,Bool.and_eq_true] at hp
        simp only[Fc] at hs⊢
        split at hs
        · exact ih (.code a) ks fr hp.1 hk hs hm hq
        · exact ih (.code b) ks fr hp.2 hk hs hm hq
        · split at hs
          · rename_i hpp
            split at hs
            · split at hs
              · obtain ⟨d',hs',rfl⟩:=Rg hs
                obtain ⟨m1,m2⟩:=Co.1 hm
                rename_i s t _ _ _ _ _ _ _ _ e1 e2 hc
                simp only[hpp,e1,e2,if_pos hc,if_true]
                exact Ve m1 (ih .pop ks _ rfl hk hs' m2 hq)
              · simp[Jg.split] at hs
            · simp[Jg.split] at hs
          · simp[Jg.split] at hs
        · simp[Jg.split] at hs
      | _=>cases hp
    | ops rest all=>
      cases rest with
      | nil=>exact ih .pop ks fr rfl hk hs hm hq
      | cons o rest=>
        simp only[Wx.pureT,List.all_cons,Bool.and_eq_true] at hp
        simp only[Fc] at hs⊢
        cases hw:jiu all fr o with
        | yes=>
          simp only[hw] at hs⊢
          cases hst:Gx P specs (Do fr) h o with
          | some r=>
            simp only[hst] at hs⊢
            obtain ⟨d',hs',rfl⟩:=Rg hs
            obtain ⟨m1,m2⟩:=Co.1 hm
            have hh:=jhj hst (by simpa using hp.1)
            rw[hh] at hs'⊢
            exact Ve m1 (ih (.ops rest all) ks _ hp.2 hk hs' m2 hq)
          | none=>
            simp only[hst] at hs
            have hnc: ∀c,o.op≠ .call c:=by
              intro c hc
              rw[hc] at hp
              simp[jik] at hp
            have hr:Ti P rsp (Do fr) h o=none:=by
              unfold Ti
              split
              · rename_i c hc;exact absurd hc (hnc c)
              · rfl
            simp only[hr] at hs
            simp[Jg.split] at hs
        | no=>
          simp only[hw] at hs⊢
          exact ih (.ops rest all) ks _ hp.2 hk hs hm hq
        | ask s t=>simp only[hw] at hs;simp[Jg.split] at hs
        | lost=>simp only[hw] at hs;simp[Jg.split] at hs
    | draw rest all es h0=>cases hp
theorem Wl{h0:Hp}{es:List Fs}{init:List Value}{a:Act}{w:World}{n:Nat}(hn:n=es.length)(ha:a.tmps.toList=init)(hd:a.defers=[])(hh:Cv S ρ w0 h0 w):Mid S ρ w0 h0 es init (Array.replicate n false) a w:=by
  have hg: ∀i:Nat,(Array.replicate n false).getD i false=false:=by
    intro i
    rw[Array.getD_eq_getD_getElem?,Array.getElem?_replicate]
    split<;>rfl
  refine ⟨by simp[hn],?_,?_,hd,0,h0,Nat.zero_le _,?_,by simp[Eo],hh⟩
  · intro i o _ hD
    simp only[hg,Bool.false_eq_true] at hD
  · rw[ha]
    have: ∀(l:List (Option Tmp×Value)) (k:Nat) (cur:List Value),Cd (fun i=>(Array.replicate n false).getD i false) k l cur=cur:=by
      intro l
      induction l with
      | nil=>intro k cur;rfl
      | cons e l ih=>intro k cur;unfold Cd;rw[if_neg (by simp[hg])];exact ih _ _
    exact (this _ _ _).symm
  · intro k i hk
    simp[hg]
theorem Sr{o:Oper}{a:Act}{w:World}{K:Act→World→Prop}(h:o.wp P a w K (fun _ _ _=>False)): ∃a' w',K a' w':=by
  unfold Oper.wp at h
  generalize (execOp a.eval o).run P w=r at h
  unfold Oper.upon at h
  split at h
  · exact ⟨_,_,h⟩
  · exact ⟨_,_,h⟩
  · exact ⟨_,_,h⟩
  · obtain ⟨e,w',fr,hr,_⟩:=h []
    cases e with
    | returned v=>exact ⟨_,_,hr⟩
    | panicked c=>exact hr.elim
    | outgrown=>obtain ⟨_,_,hf⟩:=hr;exact hf.elim
  · obtain ⟨v,w',hr,_⟩:=h default []
    exact ⟨_,_,hr⟩
  · exact h.elim
  · exact h.elim
theorem jj8(ops:List Oper):(Ex ops).length=ops.length:=by
  have: ∀(l:List Oper) (pre:List Nat),(l.foldl (fun ms o=>ms++ [Pp ms o]) pre).length=pre.length+l.length:=by
    intro l
    induction l with
    | nil=>intro pre;rfl
    | cons o l ih=>intro pre;simp only[List.foldl_cons,ih,List.length_append,List.length_cons,List.length_nil];omega
  unfold Ex
  rw[this];simp
theorem jjz(hsp: ∀f s,specs f=some s→Ei P S f s){h0:Hp}{all:List Oper}{init:List Value}{ex:Nat}: ∀{rest:List Oper} {es es':List Fs} {fr fr':List SR} {h h':Hp} {w:World},Cv S ρ w0 h w→es.map (·.o)++rest=all→
    ex<es.length→Mq P specs S ρ w0.heap.size h0 all es init fr h ex→Wp P specs all rest es fr h=some (es',fr',h')→
    es'.map (·.o)=all∧Mq P specs S ρ w0.heap.size h0 all es' init fr' h' ex∧(∀(j:Nat) (e:Fs),es'[j]? =some e→es[j]? =some e∨(es.length≤j∧e.r.need=[]))∧(∀(j:Nat) (e:Fs),es[j]? =some e→es'[j]? =some e)
  | [],es,es',fr,fr',h,h',w,hh,hall,hex,sf,ht=>by
    simp only[Wp,Option.some.injEq,Prod.mk.injEq] at ht
    obtain ⟨rfl,rfl,rfl⟩:=ht
    exact ⟨by simpa using hall,sf,fun j e h=>.inl h,fun j e h=>h⟩
  | o::rest,es,es',fr,fr',h,h',w,hh,hall,hex,sf,ht=>by
    have hw:=jgp (all:=all) (o:=o) (fr:=fr) (S:=S) (ρ:=ρ) (B:=w0.heap.size) (tmps:=(fr.map (SR.den S ρ w0.heap.size)).toArray) (by simp)
    have fin: ∀{x:Fs} {es':List Fs},x.r.need=[]→(∀(j:Nat) (e:Fs),es'[j]? =some e→(es++ [x])[j]? =some e∨((es++ [x]).length≤j∧e.r.need=[]))→(∀(j:Nat) (e:Fs),(es++ [x])[j]? =some e→es'[j]? =some e)→
        (∀(j:Nat) (e:Fs),es'[j]? =some e→es[j]? =some e∨(es.length≤j∧e.r.need=[]))∧ ∀(j:Nat) (e:Fs),es[j]? =some e→es'[j]? =some e:=by
      intro x es' hx h1 h2
      refine ⟨fun j e he=> ?_,fun j e he=>h2 j e (by rw[List.getElem?_append_left (List.getElem?_eq_some_iff.1 he).1];exact he)⟩
      rcases h1 j e he with h|⟨h3,h4⟩
      · by_cases hj:j<es.length
        · rw[List.getElem?_append_left hj] at h;exact .inl h
        · rw[List.getElem?_append_right (by omega)] at h
          right
          refine ⟨by omega,?_⟩
          have:j-es.length=0:=by
            have:=(List.getElem?_eq_some_iff.1 h).1
            simp at this;omega
          rw[this] at h
          simp only[List.getElem?_cons_zero,Option.some.injEq] at h
          rw[←h];exact hx
      · right
        simp only[List.length_append,List.length_cons,List.length_nil] at h3
        exact ⟨by omega,h4⟩
    simp only[Wp] at ht
    split at ht
    · rename_i hwt
      rw[hwt] at hw
      split at ht
      · rename_i r hr
        split at ht
        · rename_i hn
          have o1:Dx S ρ r.need:=by rw[hn];exact Dx.nil
          have hfr:Hk S ρ w0.heap.size fr {tmps:=(fr.map (SR.den S ρ w0.heap.size)).toArray,defers:=[]}:=⟨by simp,rfl,sf.wf⟩
          obtain ⟨hwf,d2⟩:=Sl hsp hr o1 (Gs sf.wf) (hfr.agree _) hh
          obtain ⟨_,w',hw'⟩:=Sr (d2 (fun _ w'=>Cv S ρ w0 r.heap w') (fun _ _ _=>False) fun w' hw'=>hw')
          obtain ⟨q1,q2,q3,q4⟩:=jjz hsp (rest:=rest) hw' (by simpa using hall) (by simp;omega) (sf.more (e:=⟨o,true,fr,h,r⟩) rfl rfl hw (fun _ _=>⟨hr,o1⟩) (fun hw he=>jmm rfl hr hw he) (fun h=>by cases h) hwf) ht
          obtain ⟨q5,q6⟩:=fin hn q3 q4
          exact ⟨q1,q2,q5,q6⟩
        · cases ht
      · cases ht
    · rename_i hwt
      rw[hwt] at hw
      obtain ⟨q1,q2,q3,q4⟩:=jjz hsp (rest:=rest) hh (by simpa using hall) (by simp;omega) (sf.more (e:=⟨o,false,fr,h,⟨[],.v (.one .undef),h⟩⟩) rfl rfl hw (fun _ h=>by cases h) (fun h=>by cases h) (fun _=>⟨rfl,rfl,rfl⟩) trivial) ht
      obtain ⟨q5,q6⟩:=fin (x:=⟨o,false,fr,h,⟨[],.v (.one .undef),h⟩⟩) rfl q3 q4
      exact ⟨q1,q2,q5,q6⟩
    · cases ht
theorem Tx{init:List Value}{j:Nat}: ∀(l es:List Fs),j≤es.length→Cd (fun i=>decide (i<j)) 0 (Bj S ρ B (es++l)) init=Cd (fun i=>decide (i<j)) 0 (Bj S ρ B es) init
  | [],es,_=>by rw[List.append_nil]
  | e::l,es,hj=>by
    rw[show es++e::l=(es++ [e])++l from by simp,Tx l (es++ [e]) (by simp;omega),Mg,Lj,Fq,if_neg (by simp;omega)]
theorem jy1{es:List Fs}{fr:List SR}{init:List Value}(now:fr.map (SR.den S ρ B)=Cd (fun i=>decide (i<es.length)) 0 (Bj S ρ B es) init)(e:Fs):
    (Er fr e.o.dst e.r.val).map (SR.den S ρ B)=Cd (fun i=>decide (i<es.length+1)) 0 (Bj S ρ B (es++ [e])) init:=by
  rw[Mg,Lj,Fq]
  rw[if_pos (by simp)]
  have e1:Cd (fun i=>decide (i<es.length+1)) 0 (Bj S ρ B es) init=Cd (fun i=>decide (i<es.length)) 0 (Bj S ρ B es) init:=by
    apply Ks
    intro i hi
    rw[Fq] at hi
    simp;omega
  rw[e1,←now]
  unfold Er Oh
  cases e.o.dst with
  | none=>rfl
  | some d=>simp[List.map_set]
theorem Qq: ∀(l m:List Fs) (k:Nat),Bh k (l++m)=Bh k l++Bh (k+l.length) m
  | [],m,k=>by simp[Bh]
  | e::l,m,k=>by
    have:=Qq l m (k+1)
    unfold Bh at this⊢
    simp only[List.cons_append,List.zipIdx_cons,List.filterMap_cons,List.length_cons]
    rw[show k+(l.length+1)=k+1+l.length from by omega]
    split
    · exact this
    · rw[this];rfl
theorem Rq: ∀{l:List Fs} {k:Nat},(l.all fun e=>(Eb e).not)=true→Bh k l=[]
  | [],_,_=>rfl
  | e::l,k,h=>by
    simp only[List.all_cons,Bool.and_eq_true,Bool.not_eq_true'] at h
    have:=Rq (k:=k+1) h.2
    unfold Bh at this⊢
    simp only[List.zipIdx_cons,List.filterMap_cons,h.1]
    exact this
theorem jau{hA:Hp}{all:List T}: ∀{es l:List Fs},Zi P specs hA all es=some l→
    l.length=es.length∧l.map (·.o)=es.map (·.o)∧(∀ρ':Et,Bj S ρ' B l=Bj S ρ' B es)∧Je hA l hA∧
    ∀(j:Nat) (e:Fs),l[j]? =some e→ ∃e0,es[j]? =some e0∧e.o=e0.o∧e.want=e0.want∧e.fr=e0.fr∧e.heap=hA∧(e.want=true→Gx P specs (Do e.fr) hA e.o=some e.r∧ ∀x∈e.r.need,x∈all)∧(e.want=false→e.r.val=.v (.one .undef)∧e.r.need=[])
  | [],l,h=>by
    simp only[Zi,Option.some.injEq] at h
    subst h
    exact ⟨rfl,rfl,fun _=>rfl,rfl,fun j e h=>by simp at h⟩
  | e::es,l,h=>by
    simp only[Zi] at h
    split at h
    · rename_i x l' hx hl
      cases h
      obtain ⟨q1,q2,q3,q4,q5⟩:=jau hl
      have hx':x.o=e.o∧x.want=e.want∧x.fr=e.fr∧x.r.val=e.r.val∧x.heap=hA∧x.r.heap=hA∧(x.want=true→Gx P specs (Do x.fr) hA x.o=some x.r∧ ∀y∈x.r.need,y∈all)∧(x.want=false→x.r.val=.v (.one .undef)∧x.r.need=[]):=by
        unfold jyi at hx
        split at hx
        · rename_i hw
          split at hx
          · rename_i r hr
            split at hx
            · rename_i hc
              obtain ⟨c1,c2,c3⟩:=hc
              cases hx
              refine ⟨rfl,rfl,rfl,c1,rfl,c2,fun _=>⟨hr,fun y hy=> ?_⟩,fun h=>absurd (hw.symm.trans h) (by simp)⟩
              rw[List.all_eq_true] at c3
              exact List.contains_iff_mem.1 (c3 y hy)
            · cases hx
          · cases hx
        · rename_i hw
          split at hx
          · rename_i hc
            cases hx
            refine ⟨rfl,rfl,rfl,rfl,rfl,rfl,?_,fun _=>hc⟩
            intro h
            have h:e.want=true:=h
            rw[hw] at h;cases h
          · cases hx
      obtain ⟨x1,x2,x3,x4,x5,x6,x7,x8⟩:=hx'
      refine ⟨by simp[q1],by simp[q2,x1],fun ρ'=> ?_,⟨x5,fun _=>x6,by rw[x6];exact q4⟩,fun j y hy=> ?_⟩
      · have:=q3 ρ'
        unfold Bj at this⊢
        rw[List.map_cons,List.map_cons,this,x1,x4]
      · cases j with
        | zero=>
          simp only[List.getElem?_cons_zero,Option.some.injEq] at hy
          subst hy
          exact ⟨e,by simp,x1,x2,x3,x5,x7,x8⟩
        | succ j=>exact q5 j y (by simpa using hy)
    · cases h
theorem jwg{α:Type}{l:List α}{a b c:α}{j:Nat}{e:α}(h:(l++ [a,b,c])[j]? =some e):(j<l.length∧l[j]? =some e)∨(j=l.length∧e=a)∨(j=l.length+1∧e=b)∨(j=l.length+2∧e=c):=by
  by_cases hj:j<l.length
  · rw[List.getElem?_append_left hj] at h;exact .inl ⟨hj,h⟩
  · right
    rw[List.getElem?_append_right (by omega)] at h
    have hlt:j-l.length<3:=by
      have:=(List.getElem?_eq_some_iff.1 h).1
      simpa using this
    have e0:j-l.length=0∨j-l.length=1∨j-l.length=2:=by omega
    rcases e0 with e0|e0|e0<;>rw[e0] at h<;>simp at h
    · exact .inl ⟨by omega,h.symm⟩
    · exact .inr (.inl ⟨by omega,h.symm⟩)
    · exact .inr (.inr ⟨by omega,h.symm⟩)
theorem Uv{o:Oper}(h:o.guard=none)(ys:Nat→Option Bool):Region.wanted o ys=true:=by
  unfold Region.wanted;rw[h]
set_option maxHeartbeats 1000000 in
theorem j2w(hsp: ∀f s,specs f=some s→Ei P S f s){rsp:Nat→Option Ff}(hrsp: ∀f s,rsp f=some s→Dw P S f s){h0 h:Hp}{all:List Oper}{es:List Fs}{init:List Value}{fr:List SR}{o oa oz:Oper}{rr:Wv}{s:Ee}
    (hall:es.map (·.o)++ [o,oa,oz]=all)(hst:Dr all=true){ex:Nat}(hex:es.length≤ex)(sf:Mq P specs S ρ w0.heap.size h0 all es init fr h ex)
    (hw:Region.wanted o (yielded all.toArray (fr.map (SR.den S ρ w0.heap.size)).toArray)=true)(hr:Ti P rsp (Do fr) h o=some rr)(hs:jzu P specs rsp oa oz es o fr h rr=some s)(hok:s.ok oa oz o es fr h rr P specs=true)(o1:Dx S ρ (rr.need++s.r2.need))
    {Q:Exit→Act→World→Prop}(hQ: ∀ρ' a w,Cg rr.ns rr.na ρ ρ'→Dx S ρ' rr.facts→rr.val.wf S ρ'→Hk S ρ' w0.heap.size (Er (Er fr o.dst rr.val) oa.dst s.ra.val) a→Cv S ρ' w0 s.rz.heap w→Q .normal a w):
    ∀a w,a.tmps.toList=init→a.defers=[]→Cv S ρ w0 h0 w→wpAny P .any all.toArray Q all.length (Array.replicate all.length false) a w:=by
  unfold jzu at hs
  split at hs
  case h_2=>cases hs
  rename_i ra ra1 hra hra1
  split at hs
  case h_2=>cases hs
  rename_i r2 rz esA hr2 hrz hesA
  cases hs
  unfold Ee.ok at hok
  simp only[Bool.and_eq_true,decide_eq_true_eq,Option.isNone_iff_eq_none,List.isEmpty_iff] at hok
  obtain ⟨c1,c2,c3,c4,c5,c6,c7,c8,c8',c9,c10,c11,c12,c13,c14,c15,c16,c17,c18,c19,c20,c21,c22,c23,c24,c25,c26,c27,c28,c29,c30,Wy,c32⟩:=hok
  have c10:=Nat.eq_of_beq_eq_true c10
  have c11:=Nat.le_of_ble_eq_true c11
  obtain ⟨rn1,rn2⟩:=Co.1 o1
  obtain ⟨hh0,hhe⟩:=Xp 0 sf.chain (Rq c15)
  subst hh0
  obtain ⟨l1,l2,l3,l4,l5⟩:=jau (S:=S) (B:=w0.heap.size) hesA
  let s:Ee:=⟨ra,ra1,r2,rz,esA⟩
  have m1:(s.es1 oa oz o es fr h rr).map (·.o)=all:=by rw[←hall];simp[Ee.es1,Ee.x1,Ee.a1,Ee.z1]
  have m2:(s.es2 oa oz o fr rr).map (·.o)=all:=by rw[←hall,←l2];simp[Ee.es2,Ee.x2,Ee.a2,Ee.z1,s]
  have m3:(s.es3 oa oz o es fr h).map (·.o)=all:=by rw[←hall];simp[Ee.es3,Ee.x3,Ee.a3,Ee.z3]
  have len1:(s.es1 oa oz o es fr h rr).length=es.length+3:=by simp[Ee.es1]
  have pp: ∀ρ',Bj S ρ' w0.heap.size (s.es2 oa oz o fr rr)=Bj S ρ' w0.heap.size (s.es1 oa oz o es fr h rr):=by
    intro ρ'
    have:=l3 ρ'
    unfold Bj at this⊢
    simp only[Ee.es1,Ee.es2,List.map_append,s,this,List.map_cons,List.map_nil,Ee.x1,Ee.x2,Ee.a1,Ee.a2,c13,c8]
  have ch1:Je h (s.es1 oa oz o es fr h rr) rz.heap:=by
    have a1:=Fo sf.chain (e:=Ee.x1 o fr h rr) rfl (fun he=>by rw[c17] at he;cases he)
    have a2:=Fo a1 (e:=s.a1 oa o fr rr) rfl (fun he=>by rw[c18] at he;cases he)
    have a3:=Fo a2 (e:=s.z1 oa oz o fr rr) rfl (fun he=>by rw[c19] at he;cases he)
    rw[List.append_assoc,List.append_assoc] at a3
    exact a3
  have ch2:Je ra.heap (s.es2 oa oz o fr rr) rz.heap:=by
    have a1:=Fo l4 (e:=s.x2 o fr) rfl (fun he=>by rw[c20] at he;cases he)
    have a2:=Fo a1 (e:=s.a2 oa o fr rr) c14.symm (fun _=>c14.symm)
    have a3:=Fo a2 (e:=s.z1 oa oz o fr rr) rfl (fun he=>by rw[c19] at he;cases he)
    rw[List.append_assoc,List.append_assoc] at a3
    exact a3
  have ch3:Je h (s.es3 oa oz o es fr h) ra.heap:=by
    have a1:=Fo sf.chain (e:=Ee.x3 o fr h) rfl (fun _=>rfl)
    have a2:=Fo a1 (e:=s.a3 oa o fr h) rfl (fun he=>by rw[c21] at he;cases he)
    have a3:=Fo a2 (e:=s.z3 oz fr) rfl (fun _=>rfl)
    rw[List.append_assoc,List.append_assoc] at a3
    exact a3
  have f1:Bh 0 (s.es1 oa oz o es fr h rr)=[es.length,es.length+1,es.length+2]:=by
    unfold Ee.es1
    rw[Qq,Rq c15]
    simp[Bh,c17,c18,c19,s]
  have f2:Bh 0 (s.es2 oa oz o fr rr)=[es.length,es.length+2]:=by
    unfold Ee.es2
    rw[Qq,Rq c16]
    have:Eb (s.a2 oa o fr rr)=false:=by simp[Eb,Ee.a2]
    simp[Bh,c20,this,c19,s,l1]
  have f3:Bh 0 (s.es3 oa oz o es fr h)=[es.length+1]:=by
    unfold Ee.es3
    rw[Qq,Rq c15]
    have g1:Eb (Ee.x3 o fr h)=false:=by simp[Eb,Ee.x3]
    have g2:Eb (s.z3 oz fr)=false:=by simp[Eb,Ee.z3]
    simp[Bh,g1,g2,c21,s]
  have g3:(Eo h (s.es3 oa oz o es fr h))[1]? =some ra.heap:=by
    have g0:es.filter Eb=[]:=by
      rw[List.filter_eq_nil_iff]
      intro e he
      have:=List.all_eq_true.1 c15 e he
      simpa using this
    have g1:Eb (Ee.x3 o fr h)=false:=by simp[Eb,Ee.x3]
    have g2:Eb (s.z3 oz fr)=false:=by simp[Eb,Ee.z3]
    unfold Eo Ee.es3
    rw[List.filter_append,g0,List.nil_append,List.filter_cons,g1,List.filter_cons,c21,List.filter_cons,g2]
    rfl
  have hentc: ∀e∈es,e.fr.all (SR.clear rr.ns rr.na)=true∧e.r.val.clear rr.ns rr.na=true∧e.r.need.all (T.clear rr.ns)=true:=by
    intro e he
    unfold Wf at c27
    rw[List.all_eq_true] at c27
    have:=c27 e he
    simp only[Bool.and_eq_true] at this
    exact this
  have hpairs: ∀ρ',Cg rr.ns rr.na ρ ρ'→Bj S ρ' w0.heap.size es=Bj S ρ w0.heap.size es:=by
    intro ρ' hA
    unfold Bj
    apply List.map_congr_left
    intro e he
    rw[(SR.clear_den hA (hentc e he).2.1).1]
  have hden: ∀ρ' (l:List SR),Cg rr.ns rr.na ρ ρ'→l.all (SR.clear rr.ns rr.na)=true→l.map (SR.den S ρ' w0.heap.size)=l.map (SR.den S ρ w0.heap.size):=by
    intro ρ' l hA hl
    rw[List.all_eq_true] at hl
    exact List.map_congr_left fun x hx=>(SR.clear_den hA (hl x hx)).1
  have hwfs: ∀ρ' (l:List SR),Cg rr.ns rr.na ρ ρ'→l.all (SR.clear rr.ns rr.na)=true→(∀x∈l,x.wf S ρ)→ ∀x∈l,x.wf S ρ':=by
    intro ρ' l hA hl hw x hx
    rw[List.all_eq_true] at hl
    exact (SR.clear_den (B:=w0.heap.size) hA (hl x hx)).2 (hw x hx)
  have sf': ∀ρ',Cg rr.ns rr.na ρ ρ'→Mq P specs S ρ' w0.heap.size h all es init fr h es.length:=by
    intro ρ' hA
    refine ⟨?_,?_,?_,sf.no,sf.chain,?_,hwfs ρ' fr hA c28 sf.wf⟩
    · intro j e hj
      have he:=List.mem_of_getElem? hj
      rw[hpairs ρ' hA,hden ρ' _ hA (hentc e he).1];exact sf.frs j e hj
    · intro j e hj
      rw[hpairs ρ' hA];exact sf.want j e hj
    · intro j e hj _ hwj
      have he:=List.mem_of_getElem? hj
      obtain ⟨s1,s2,s3⟩:=sf.st j e hj (by have:=(List.getElem?_eq_some_iff.1 hj).1;omega) hwj
      exact ⟨s1,Ot hA (hentc e he).2.2 s2,hwfs ρ' _ hA (hentc e he).1 s3⟩
    · rw[hpairs ρ' hA,hden ρ' _ hA c28];exact sf.now
  have needE: ∀ρ',Cg rr.ns rr.na ρ ρ'→Dx S ρ' (es.flatMap (·.r.need)):=by
    intro ρ' hA x hx
    rw[List.mem_flatMap] at hx
    obtain ⟨e,he,hxe⟩:=hx
    obtain ⟨j,hj⟩:=List.getElem?_of_mem he
    cases hwj:e.want with
    | true=>exact ((sf' ρ' hA).st j e hj (by have:=(List.getElem?_eq_some_iff.1 hj).1;omega) hwj).2.1 x hxe
    | false=>rw[(sf.no j e hj hwj).2] at hxe;cases hxe
  have need1: ∀ρ',Cg rr.ns rr.na ρ ρ'→Dx S ρ' ((s.es1 oa oz o es fr h rr).flatMap (·.r.need)):=by
    intro ρ' hA x hx
    simp only[Ee.es1,List.flatMap_append,List.flatMap_cons,List.flatMap_nil,List.append_nil,Ee.x1,Ee.a1,Ee.z1,s,c6,c7,List.mem_append] at hx
    rcases hx with hx|hx
    · exact needE ρ' hA x hx
    · exact Ot hA c29 rn1 x hx
  have need2: ∀ρ',Cg rr.ns rr.na ρ ρ'→Dx S ρ' ((s.es2 oa oz o fr rr).flatMap (·.r.need)):=by
    intro ρ' hA x hx
    simp only[Ee.es2,List.flatMap_append,List.flatMap_cons,List.flatMap_nil,List.append_nil,List.nil_append,Ee.x2,Ee.a2,Ee.z1,s,c7,List.mem_append] at hx
    rcases hx with hx|hx
    · rw[List.mem_flatMap] at hx
      obtain ⟨e,he,hxe⟩:=hx
      obtain ⟨j,hj⟩:=List.getElem?_of_mem he
      obtain ⟨e0,b1,b2,b3,b4,b5,b6,b7⟩:=l5 j e hj
      cases hwj:e.want with
      | true=>exact needE ρ' hA x ((b6 hwj).2 x hxe)
      | false=>rw[(b7 hwj).2] at hxe;cases hxe
    · exact Ot hA c30 rn2 x hx
  have need3:Dx S ρ ((s.es3 oa oz o es fr h).flatMap (·.r.need)):=by
    intro x hx
    simp only[Ee.es3,List.flatMap_append,List.flatMap_cons,List.flatMap_nil,List.append_nil,Ee.x3,Ee.a3,Ee.z3,s,c5] at hx
    exact needE ρ (Cg.rfl' _ _ _) x hx
  have raw: ∀ρ',ra.val.wf S ρ':=fun ρ'=>by rw[c9];trivial
  have more: ∀ρ',Cg rr.ns rr.na ρ ρ'→rr.val.wf S ρ'→Mq P specs S ρ' w0.heap.size h all (s.es1 oa oz o es fr h rr) init (Er (Er fr o.dst rr.val) oa.dst ra.val) rz.heap es.length:=by
    intro ρ' hA hv
    have a1:=(sf' ρ' hA).more (e:=Ee.x1 o fr h rr) rfl rfl (by show Region.wanted o _=true;rw[hden ρ' _ hA c28];exact hw) (fun h=>absurd rfl h) (fun _ he=>by rw[c17] at he;cases he) (fun h=>by cases h) hv
    have a2:=a1.more (e:=s.a1 oa o fr rr) rfl rfl (Uv c1 _) (fun _ _=>⟨hra1,by show Dx S ρ' ra1.need;rw[c6];exact Dx.nil⟩) (fun _ he=>by rw[c18] at he;cases he) (fun h=>by cases h) (by show ra1.val.wf S ρ';rw[c8];exact raw ρ')
    have a3:=a2.more (e:=s.z1 oa oz o fr rr) (by show _=Er (Er fr o.dst rr.val) oa.dst ra1.val;rw[c8];rfl) rfl (Uv c2 _) (fun _ _=>⟨by show Gx P specs (Do (Er (Er fr o.dst rr.val) oa.dst ra1.val)) ra1.heap oz=some rz;rw[c8];exact hrz,by show Dx S ρ' rz.need;rw[c7];exact Dx.nil⟩) (fun _ he=>by rw[c19] at he;cases he) (fun h=>by cases h) (by show rz.val.wf S ρ';rw[c8'];trivial)
    rw[List.append_assoc,List.append_assoc] at a3
    have e1:Er (Er (Er fr o.dst rr.val) oa.dst ra1.val) oz.dst rz.val=Er (Er fr o.dst rr.val) oa.dst ra.val:=by rw[c3,c8];rfl
    have a4:Mq P specs S ρ' w0.heap.size h all (es++([Ee.x1 o fr h rr]++([s.a1 oa o fr rr]++ [s.z1 oa oz o fr rr]))) init (Er (Er (Er fr o.dst rr.val) oa.dst ra1.val) oz.dst rz.val) rz.heap es.length:=a3
    rw[e1] at a4
    exact a4
  have early1: ∀ρ' j,j≤es.length→Cd (fun i=>decide (i<j)) 0 (Bj S ρ' w0.heap.size (s.es1 oa oz o es fr h rr)) init=Cd (fun i=>decide (i<j)) 0 (Bj S ρ' w0.heap.size es) init:=fun ρ' j hj=>Tx _ _ hj
  have at1: ∀j,j<es.length→(s.es1 oa oz o es fr h rr)[j]? =es[j]? :=fun j hj=>by unfold Ee.es1;rw[List.getElem?_append_left hj]
  have told1: ∀ρ',Cg rr.ns rr.na ρ ρ'→ ∀j e,es[j]? =some e→jb0 P specs S ρ' w0.heap.size (s.es1 oa oz o es fr h rr) init j e:=by
    intro ρ' hA j e he
    have hj:=(List.getElem?_eq_some_iff.1 he).1
    have q:=sf' ρ' hA
    refine ⟨?_,?_,fun hwj=>q.st j e he (by omega) hwj,q.no j e he⟩
    · rw[early1 ρ' j (by omega)];exact q.frs j e he
    · rw[early1 ρ' j (by omega),m1];exact q.want j e he
  have told2: ∀ρ',Cg rr.ns rr.na ρ ρ'→ ∀j e,esA[j]? =some e→jb0 P specs S ρ' w0.heap.size (s.es2 oa oz o fr rr) init j e:=by
    intro ρ' hA j e he
    obtain ⟨e0,b1,b2,b3,b4,b5,b6,b7⟩:=l5 j e he
    have q:=told1 ρ' hA j e0 b1
    refine ⟨?_,?_,fun hwj=>⟨?_,?_,?_⟩,fun hwj=>b7 hwj⟩
    · rw[pp,b4];exact q.fr
    · rw[pp,m2,←m1,b2,b3];exact q.want
    · rw[b5];exact (b6 hwj).1
    · exact fun x hx=>needE ρ' hA x ((b6 hwj).2 x hx)
    · rw[b4];exact (q.st (by rw[←b3];exact hwj)).2.2
  have agr:=Cg.rfl' rr.ns rr.na ρ
  intro a w ha hdf hh0
  have hlen:all.length=es.length+3:=by rw[←hall];simp
  have key:=j3s (es:=s.es1 oa oz o es fr h rr) (es2:=s.es2 oa oz o fr rr) (es3:=s.es3 oa oz o es fr h) (k:=es.length) (a:=es.length+1) (x:=Ee.x1 o fr h rr) (x2:=s.x2 o fr) (a3:=s.a3 oa o fr h) (rr:=rr) (r2:=r2) (init:=init) (hl:=rz.heap) (h3:=ra.heap) (hA:=ra.heap) (h0:=h)
    hsp hrsp (by rw[m2,m1]) (by rw[m3,m1]) (pp ρ) ?_ (by rw[m1];exact hst) c22 c23 c24 ch1 ch2 ch3 ?_ ?_ ?_ ?_ f3 g3 (need1 ρ agr) (need2 ρ agr) need3 (by omega) ?_ ?_ ?_ hr rfl c17 rn1 hr2 rfl c20 rn2 rfl rfl c10 c13 c12 c11 ?_ sf.wf ?_ ?_ ?_ ?_ ?_ ?_ ?_ ?_ (Q:=Q) ?_ all.length (Array.replicate all.length false) a w ?_ ?_ ?_ ?_
  · rw[m1] at key;exact key
  ·
    intro j hj
    unfold Bj Ee.es3 Ee.es1
    rcases hj with hj|rfl
    · rw[List.getElem?_map,List.getElem?_map,List.getElem?_append_left hj,List.getElem?_append_left hj]
    · rw[List.getElem?_map,List.getElem?_map,List.getElem?_append_right (by omega),List.getElem?_append_right (by omega)]
      simp[Ee.a1,Ee.a3,s,c8]
  ·
    intro i hi j hj hji
    rw[f1] at hi hj
    simp only[List.mem_cons,List.not_mem_nil,or_false] at hi hj
    by_cases hjk:j=es.length
    · exact .inr hjk
    · left
      have e1:j=es.length+1:=by omega
      have e2:i=es.length+2:=by omega
      rw[e1,e2];exact c26
  · intro j hj
    rw[f1] at hj
    simp only[List.mem_cons,List.not_mem_nil,or_false] at hj
    omega
  · intro i hi j hj hji
    rw[f2] at hi hj
    simp only[List.mem_cons,List.not_mem_nil,or_false] at hi hj
    right;omega
  · intro j hj
    rw[f2] at hj
    simp only[List.mem_cons,List.not_mem_nil,or_false] at hj
    omega
  · unfold Ee.es1;rw[List.getElem?_append_right (Nat.le_refl _),Nat.sub_self];rfl
  · unfold Ee.es2;rw[←l1,List.getElem?_append_right (Nat.le_refl _),Nat.sub_self];rfl
  · unfold Ee.es3;rw[List.getElem?_append_right (by omega),Nat.add_sub_cancel_left];rfl
  ·
    rw[early1 ρ _ (Nat.le_refl _)];exact sf.now
  · rw[early1 ρ _ (Nat.le_refl _),←sf.now,m1];exact hw
  · intro j e he hj
    rw[at1 j hj] at he
    exact told1 ρ agr j e he
  · intro j e he hj
    unfold Ee.es2 at he
    rw[List.getElem?_append_left (by rw[l1];exact hj)] at he
    exact told2 ρ agr j e he
  ·
    have e3:s.es3 oa oz o es fr h=(es++ [Ee.x3 o fr h])++ [s.a3 oa o fr h,s.z3 oz fr]:=by simp[Ee.es3]
    have nm:=jy1 sf.now (Ee.x3 o fr h)
    refine ⟨?_,Uv c1 _,fun _=>⟨hra,by show Dx S ρ ra.need;rw[c5];exact Dx.nil,?_⟩,fun h=>by cases h⟩
    · rw[e3,Tx _ _ (by simp)]
      exact nm
    · intro x hx
      have hx:x∈Er fr o.dst Wm:=hx
      unfold Er at hx
      split at hx
      · rcases List.mem_or_eq_of_mem_set hx with hx|rfl
        · exact sf.wf x hx
        · trivial
      · exact sf.wf x hx
  ·
    intro j h1 h2 h3
    rw[len1] at h3
    have:j=es.length+2:=by omega
    rw[this];exact c25
  · intro j e he hj
    rw[at1 j hj] at he
    exact (hentc e (List.mem_of_getElem? he)).2.1
  · intro j e he hj
    rcases hj with hj|rfl
    · unfold Ee.es2 at he
      rw[List.getElem?_append_left (by rw[l1];exact hj)] at he
      exact List.all_eq_true.1 c32 e (List.mem_of_getElem? he)
    · unfold Ee.es2 at he
      rw[show es.length+1=s.esA.length+1 from congrArg (· +1) l1.symm,List.getElem?_append_right (by omega),Nat.add_sub_cancel_left] at he
      simp only[List.getElem?_cons_succ,List.getElem?_cons_zero,Option.some.injEq] at he
      subst he
      exact Wy
  ·
    intro ρ' g1 g2 g3'
    have mo:=more ρ' g1 g3'
    have t1: ∀j e,(s.es1 oa oz o es fr h rr)[j]? =some e→j≠es.length→jb0 P specs S ρ' w0.heap.size (s.es1 oa oz o es fr h rr) init j e:=
      fun j e he hj=>⟨mo.frs j e he,by rw[m1];exact mo.want j e he,mo.st j e he hj,mo.no j e he⟩
    refine ⟨⟨need1 ρ' g1,t1⟩,⟨need2 ρ' g1,fun j e he hj hja=> ?_⟩,pp ρ'⟩
    unfold Ee.es2 at he
    rcases jwg he with ⟨q1,q2⟩|⟨q1,_⟩|⟨q1,_⟩|⟨q1,q2⟩
    · exact told2 ρ' g1 j e q2
    · rw[l1] at q1;exact absurd q1 hj
    · rw[l1] at q1;exact absurd q1 hja
    · rw[l1] at q1
      subst q1
      subst q2
      have q:=t1 (es.length+2) (s.z1 oa oz o fr rr) (by unfold Ee.es1;rw[List.getElem?_append_right (by omega),Nat.add_sub_cancel_left];rfl) (by omega)
      exact ⟨by rw[pp];exact q.fr,by rw[pp,m2,←m1];exact q.want,q.st,q.no⟩
  ·
    intro ρ' b w' g1 g2 g3' g4 g5 g6
    have mo:=more ρ' g1 g3'
    refine hQ ρ' b w' g1 g2 g3' ⟨?_,g5,mo.wf⟩ g6
    rw[g4,mo.now]
    apply Ks
    intro i hi
    rw[Fq] at hi
    simp[hi]
  · exact Wl (by rw[len1,hlen]) ha hdf hh0
  · rw[Array.getD_eq_getD_getElem?,Array.getElem?_replicate];split<;>rfl
  · rw[Array.getD_eq_getD_getElem?,Array.getElem?_replicate];split<;>rfl
  · refine Nat.le_trans (List.length_filter_le _ _) ?_
    rw[List.length_range,len1,hlen];omega
theorem jgc{args:List SR}(hw: ∀x∈args,x.wf S ρ)(n:Nat):
    Hk S ρ B (args++List.replicate (n-args.length) (.v (.one .undef))) {tmps:=(args.map (SR.den S ρ B)).toArray++Array.replicate (n-(args.map (SR.den S ρ B)).toArray.size) undef,defers:=[]}:=by
  refine ⟨?_,rfl,?_⟩
  · simp[SR.den,SV.den,Aw.den]
  · intro x hx
    rcases List.mem_append.1 hx with hx|hx
    · exact hw x hx
    · rw[List.mem_replicate] at hx
      rw[hx.2];trivial
theorem Aw.unv_den{B:Nat}{q:Nat}{l:Aw}(hl:l.den S ρ B=ρ.v q)(x:Aw):(Aw.unv q l x).den S ρ B=x.den S ρ B:=by
  unfold Aw.unv
  split
  · rename_i n
    split
    · rename_i hb;rw[Nat.eq_of_beq_eq_true hb];exact hl
    · rfl
  · rfl
theorem Cp.unv_den{B:Nat}{q:Nat}{l:Aw}(hl:l.den S ρ B=ρ.v q)(x:Cp):(x.unv q l).den S ρ B=x.den S ρ B∧(x.wf S ρ→(x.unv q l).wf S ρ):=by
  unfold Cp.unv
  split
  · simp only[Cp.den,List.map_map]
    exact ⟨List.map_congr_left fun y _=>Aw.unv_den hl y,fun _=>trivial⟩
  · exact ⟨rfl,id⟩
theorem jay{B:Nat}{q:Nat}{l:Aw}(hl:l.den S ρ B=ρ.v q)(g:List Cp):Av S ρ B (g.map (Cp.unv q l))=Av S ρ B g∧(Cm S ρ g→Cm S ρ (g.map (Cp.unv q l))):=by
  induction g with
  | nil=>exact ⟨rfl,id⟩
  | cons x g ih=>
    rw[List.map_cons,Au,Au,(Cp.unv_den hl x).1,ih.1]
    exact ⟨rfl,fun h=>Ax.2 ⟨(Cp.unv_den hl x).2 (Ax.1 h).1,ih.2 (Ax.1 h).2⟩⟩
theorem SV.unv_den{B:Nat}{q:Nat}{l:Aw}(hl:l.den S ρ B=ρ.v q)(x:SV):(x.unv q l).den S ρ B=x.den S ρ B∧(x.wf S ρ→(x.unv q l).wf S ρ):=by
  cases x with
  | one x=>exact ⟨Aw.unv_den hl x,fun _=>trivial⟩
  | agg g=>exact ⟨by simp only[SV.unv,SV.den,(jay hl g).1],(jay (B:=B) hl g).2⟩
theorem SR.unv_den{B:Nat}{q:Nat}{l:Aw}(hl:l.den S ρ B=ρ.v q)(x:SR):(x.unv q l).den S ρ B=x.den S ρ B∧(x.wf S ρ→(x.unv q l).wf S ρ):=by
  cases x with
  | v x=>exact SV.unv_den hl x
  | tup xs=>
    constructor
    · simp only[SR.unv,SR.den,List.map_map]
      congr 2
      exact List.map_congr_left fun y _=>(SV.unv_den hl y).1
    · intro hw y hy
      simp only[SR.unv,List.mem_map] at hy
      obtain ⟨z,hz,rfl⟩:=hy
      exact (SV.unv_den (B:=B) hl z).2 (hw z hz)
  | ite c x y=>exact ⟨rfl,id⟩
theorem j3e{fr fr':List SR}{h h':Hp}{t f:T}{a:Act}{w:World}(hu:jyn fr h=some (t,f,fr',h'))(hlo:ρ.loose=[])(hm:t.B S ρ=true)(hf:Hk S ρ w0.heap.size fr a)(hh:Cv S ρ w0 h w):
    ∃ρ',Cg h.nv h.na ρ ρ'∧f.B S ρ'=true∧Hk S ρ' w0.heap.size fr' a∧Cv S ρ' w0 h' w:=by
  unfold jyn at hu
  split at hu
  · rename_i o ho
    split at hu
    · rename_i hc
      simp only[Bool.and_eq_true] at hc
      obtain ⟨c1,c2,ca,cf⟩:=hc
      simp only[Option.some.injEq,Prod.mk.injEq] at hu
      obtain ⟨rfl,rfl,rfl,rfl⟩:=hu
      have hm:(0:Int)<((o.a.A S ρ).length:Int):=by
        have:=of_decide_eq_true (p:=(0:Int)<((o.a.A S ρ).length:Int)) hm
        exact this
      rcases hh.own o ho with ⟨_,v2⟩|⟨b,cap,v1,v2,v3,v4,v5,v6⟩
      · rw[v2] at hm;simp at hm
      · rw[hlo] at v4
        have v4:w0.heap.size≤b:=by rcases v4 with v4|v4;exact v4;simp at v4
        have hA:Cg h.nv h.na ρ {ρ with i:=upd ρ.i h.nv (cap:Int),blk:=upd ρ.blk h.nv (b-w0.heap.size)}:=by
          refine ⟨?_,fun _ _=>rfl,fun _ _=>rfl,fun _ _=>rfl,fun _ _=>rfl,?_,fun _ _=>rfl,fun _ _=>rfl,fun _ _=>rfl,rfl⟩
          · intro k hk;simp only[upd];rw[if_neg (by omega)]
          · intro k hk;simp only[upd];rw[if_neg (by omega)]
        generalize hρ:({ρ with i:=upd ρ.i h.nv (cap:Int),blk:=upd ρ.blk h.nv (b-w0.heap.size)}:Et)=ρ' at hA
        have hi:ρ'.i h.nv=(cap:Int):=by subst hρ;simp[upd]
        have hbk:ρ'.blk h.nv=b-w0.heap.size:=by subst hρ;simp[upd]
        have hvv:ρ'.v=ρ.v:=by subst hρ;rfl
        have hnb:ρ'.nb=ρ.nb:=by subst hρ;rfl
        have ha:=(T.clear_den (S:=S) hA ca).2.2
        have hl:(Aw.sl (.own h.nv) 0 (.lit 0) (.len o.a) (.iv h.nv)).den S ρ' w0.heap.size=ρ'.v o.v:=by
          rw[hvv,v1]
          simp only[Aw.den,Cw,Cl.blk,Cl.off,T.I,hi,hbk,ha]
          rw[show w0.heap.size+(b-w0.heap.size)=b from by omega]
          simp
        unfold Gm at c1
        unfold Gh at c2
        rw[List.all_eq_true] at c1 c2
        have k1: ∀x∈h.rw,x.1.blk ρ' w0.heap.size=x.1.blk ρ w0.heap.size∧x.1.off ρ'=x.1.off ρ∧Av S ρ' w0.heap.size x.2.segs=Av S ρ w0.heap.size x.2.segs∧(Cm S ρ x.2.segs→Cm S ρ' x.2.segs):=by
          intro x hx
          have:=c1 x hx
          simp only[Bool.and_eq_true] at this
          exact ⟨(Cl.clear_den hA this.1).1,(Cl.clear_den hA (B:=w0.heap.size) this.1).2,(Dv hA this.2).1,(Dv (B:=w0.heap.size) hA this.2).2⟩
        have k2: ∀x∈h.ro,x.1.blk ρ' w0.heap.size=x.1.blk ρ w0.heap.size∧x.1.off ρ'=x.1.off ρ∧x.2.2.A S ρ'=x.2.2.A S ρ:=by
          intro x hx
          have:=c2 x hx
          simp only[Bool.and_eq_true] at this
          exact ⟨(Cl.clear_den hA this.1).1,(Cl.clear_den hA (B:=w0.heap.size) this.1).2,(T.clear_den hA this.2).2.2⟩
        have hnew:(Cl.own h.nv).blk ρ' w0.heap.size=b:=by simp only[Cl.blk,hbk];omega
        refine ⟨ρ',hA,?_,?_,?_,?_,?_,?_,?_,?_,?_,?_,?_,?_,?_,hh.os,hh.tape,hh.output⟩
        · show decide (((o.a.A S ρ').length:Int)≤ρ'.i h.nv)=true
          rw[ha,hi];exact decide_eq_true (by omega)
        · have hf':=hf.clear hA cf
          refine ⟨?_,hf'.defers,?_⟩
          · rw[hf'.tmps,List.map_map]
            exact List.map_congr_left fun x _=>((SR.unv_den hl x).1).symm
          · intro y hy
            obtain ⟨z,hz,rfl⟩:=List.mem_map.1 hy
            exact (SR.unv_den (B:=w0.heap.size) hl z).2 (hf'.wf z hz)
        · intro x hx
          rcases List.mem_cons.1 hx with rfl|hx
          · rw[hnew,v3]
            simp only[Au,Cj,List.append_nil,Cp.den,T.I,ha,hi,List.map_cons,List.map_nil,Aw.den]
            congr 3
            rw[show ((cap:Int)-((o.a.A S ρ).length:Int)).toNat=cap-(o.a.A S ρ).length from by omega]
            congr 1
            generalize cap-(o.a.A S ρ).length=n
            induction n with
            | zero=>rfl
            | succ n ih=>rw[List.replicate_succ,List.replicate_succ,List.flatten_cons,←ih];rfl
          · obtain ⟨y,hy,rfl⟩:=List.mem_map.1 hx
            show w.heap[y.1.blk ρ' w0.heap.size]? =some (.cells (Av S ρ' w0.heap.size (y.2.segs.map _)).toArray y.2.ty (0,0))
            rw[(jay hl _).1,(k1 y hy).1,(k1 y hy).2.2.1];exact hh.rw_ y hy
        · intro x hx
          rcases List.mem_cons.1 hx with rfl|hx
          · exact Ax.2 ⟨trivial,Ax.2 ⟨trivial,fun _ h=>nomatch h⟩⟩
          · obtain ⟨y,hy,rfl⟩:=List.mem_map.1 hx
            exact (jay (B:=w0.heap.size) hl _).2 ((k1 y hy).2.2.2 (hh.wf y hy))
        · intro x hx
          rcases List.mem_cons.1 hx with rfl|hx
          · rfl
          · obtain ⟨y,hy,rfl⟩:=List.mem_map.1 hx
            show y.1.off ρ'=0
            rw[(k1 y hy).2.1];exact hh.off y hy
        · show (List.map (fun x:Cl×Gn=>x.1.blk ρ' w0.heap.size) (_::h.rw.map _)).Nodup
          rw[List.map_cons,List.map_map,List.nodup_cons]
          constructor
          · intro hmem
            obtain ⟨y,hy,e⟩:=List.mem_map.1 hmem
            have e:y.1.blk ρ' w0.heap.size=b:=by rw[←hnew];exact e
            rw[(k1 y hy).1] at e
            exact v5 y hy e
          · have:(List.map ((fun x:Cl×Gn=>x.1.blk ρ' w0.heap.size)∘fun x=>(x.1,⟨x.2.ty,x.2.segs.map (Cp.unv o.v (.sl (.own h.nv) 0 (.lit 0) (.len o.a) (.iv h.nv)))⟩)) h.rw)=h.rw.map fun x=>x.1.blk ρ w0.heap.size:=List.map_congr_left fun y hy=>(k1 y hy).1
            rw[this];exact hh.nd
        · intro x hx j v hv
          rw[(k2 x hx).1,(k2 x hx).2.1]
          rw[(k2 x hx).2.2] at hv
          exact hh.ro x hx j v hv
        · intro x hx y hy
          rcases List.mem_cons.1 hy with rfl|hy
          · rw[hnew,(k2 x hx).1];exact v6 x hx
          · obtain ⟨z,hz,rfl⟩:=List.mem_map.1 hy
            show x.1.blk ρ' w0.heap.size≠z.1.blk ρ' w0.heap.size
            rw[(k2 x hx).1,(k1 z hz).1];exact hh.apart x hx z hz
        · intro x hx
          rw[(k2 x hx).1];exact hh.rolt x hx
        · rw[hnb];exact hh.size
        · rw[hnb];exact hh.nbs
        · intro i hi' hlo' hne'
          refine hh.frame i hi' (by rw[hA.loose] at hlo';exact hlo') fun x hx e'=> ?_
          refine hne' (x.1,⟨x.2.ty,x.2.segs.map (Cp.unv o.v (.sl (.own h.nv) 0 (.lit 0) (.len o.a) (.iv h.nv)))⟩) (List.mem_cons_of_mem _ (List.mem_map.2 ⟨x,hx,rfl⟩)) ?_
          show x.1.blk ρ' w0.heap.size=i
          rw[(k1 x hx).1];exact e'
        · intro o' ho';cases ho'
    · cases hu
  · cases hu
theorem jv0{fc:FC}{id:Nat}{fr fr':List SR}{h h':Hp}{t f:T}{a:Act}{w:World}(hu:jed fc id fr h=some (t,f,fr',h'))(hlo:ρ.loose=[])(hm:Dx S ρ [t])(hf:Hk S ρ w0.heap.size fr a)(hh:Cv S ρ w0 h w):
    ∃ρ',Cg h.nv h.na ρ ρ'∧f.B S ρ'=true∧Hk S ρ' w0.heap.size fr' a∧Cv S ρ' w0 h' w:=by
  unfold jed at hu
  split at hu
  · exact j3e hu hlo (Ag.1 hm).1 hf hh
  · cases hu
theorem jvj{fc:FC}{id:Nat}{fr fr':List SR}{h:Hp}{nd:List T}{B:Nat}{a:Act}(hc:jfj fc id fr h=some (nd,fr'))(hm:Dx S ρ nd)(hf:Hk S ρ B fr a):Hk S ρ B fr' a:=by
  unfold jfj at hc
  split at hc
  · split at hc
    · rename_i an _
      split at hc
      · rename_i k t hs
        simp only[Option.some.injEq,Prod.mk.injEq] at hc
        obtain ⟨rfl,rfl⟩:=hc
        have he:=(Ag.1 (Fu hm)).1
        have he:t.I S ρ=an.meas.I S ρ:=j12 he
        refine ⟨?_,hf.defers,?_⟩
        · rw[hf.tmps,List.map_set]
          apply List.ext_getElem?
          intro i
          rw[List.getElem?_set]
          split
          · rename_i his
            subst his
            split
            · rename_i hlt
              have hlt:an.h.nv<fr.length:=by simpa using hlt
              unfold Do at hs
              rw[List.getD_eq_getElem?_getD,List.getElem?_eq_getElem hlt] at hs
              simp only[Option.getD_some] at hs
              rw[List.getElem?_map,List.getElem?_eq_getElem hlt,hs]
              simp[SR.den,SV.den,Aw.den,he]
            · rename_i hge
              rw[List.getElem?_eq_none (by simpa using hge)]
          · rfl
        · intro y hy
          rcases List.mem_or_eq_of_mem_set hy with hy|rfl
          · exact hf.wf y hy
          · trivial
      · cases hc
    · cases hc
  · cases hc
def jdl(P:Program):Prop:= ∀(f:Nat) (fn:Func) (c:Code),P.funcs[f]? =some fn→fn.body=some c→Ji c=true
theorem Ms{Q Qc:Exit→Act→World→Prop}{rs':List ResultVar}{nv na:Nat}{ks:List KF}{k:SR→Hp→Jg}: ∀{o:Jg} {ρ:Et},(o.bindRet P rs nv na ks k).okA P S w0 rs' Q ρ→Ta P S w0 Q ρ ks→
    (∀(ρ':Et) (v:SR) (h:Hp),Cg nv na ρ ρ'→Ta P S w0 Q ρ' ks→(k v h).okA P S w0 rs' Q ρ'→ ∀(a:Act) (w:World),v.wf S ρ'→a.defers=[]→(Sz rs a.tmps).run P w=.ok (v.den S ρ' w0.heap.size) w→Cv S ρ' w0 h w→Qc .ret a w∧Qc .normal a w)→
    o.okA P S w0 rs Qc ρ
  | .need c o,ρ,h,hk,hq=>⟨h.1,Ms h.2 hk hq⟩
  | .cond c x y,ρ,h,hk,hq=>⟨fun hc=>Ms (h.1 hc) hk hq,fun hc=>Ms (h.2 hc) hk hq⟩
  | .any ns na' facts o,ρ,h,hk,hq=>by
    simp only[Jg.bindRet] at h
    split at h
    · rename_i hc
      simp only[Bool.and_eq_true] at hc
      obtain ⟨c1,c2,c3⟩:=hc
      rw[El] at c1 c2
      intro ρ1 hA hf
      exact Ms (h ρ1 hA hf) (hk.clear hA c3) fun ρ' v h' g1=>hq ρ' v h' ((hA.weaken c1 c2).trans g1 (Nat.le_refl _) (Nat.le_refl _))
    · exact h.elim
  | .ret v h',ρ,h,hk,hq=>fun a w g1 g2 g3 g4=>(hq ρ v h' (Cg.rfl' _ _ _) hk h a w g1 g2 g3 g4).1
  | .fall fr h',ρ,h,hk,hq=>by
    simp only[Jg.bindRet] at h
    split at h
    · rename_i v hv
      exact fun a w hf hh=>(hq ρ v h' (Cg.rfl' _ _ _) hk h a w (jdk hh (Gs hf.wf) hv) hf.defers (jdi hh hf hv) hh).2
    · exact h.elim
  | .done,ρ,h,hk,hq=>trivial
  | .tight o,ρ,h,hk,hq=>⟨h.1,Ms h.2 hk hq⟩
  | .fail _,ρ,h,hk,hq=>h.elim
  | .out ..,ρ,h,hk,hq=>h.elim
  | .stop ..,ρ,h,hk,hq=>h.elim
theorem jfa{lo:Nat}{l:List (Cl×IntKind×T)}(h:j1q lo l=true): ∀t∈l,(∃n,t.1=.ro n∧n<lo)∨ ∃g,t.1=.glob g:=by
  unfold j1q at h
  rw[List.all_eq_true] at h
  intro t ht
  have:=h t ht
  split at this
  · rename_i n hn;exact .inl ⟨n,hn,Nat.le_of_ble_eq_true this⟩
  · rename_i g hg;exact .inr ⟨g,hg⟩
  · cases this
theorem jt1{lo:Nat}{an:Jh}{fr:List SR}{h:Hp}{m:Bd}{rest:List (Cl×Gn)}{a:Act}{w:World}(hf:jn9 lo an.fr an.h fr h=some (m,rest))(ht:jvv lo an.fr an.h h rest an.quiet=true)(hm:Dx S ρ (m.needs lo))(hfr:Hk S ρ w0.heap.size fr a)(hh:Cv S ρ w0 h w):
    ∃ρ',Cg lo an.na ρ ρ'∧(m.ts lo).Ok S ρ ρ'∧Hk S ρ' w0.heap.size an.fr a∧Cv S ρ' w0 an.h w:=by
  unfold jvv at ht
  simp only[Bool.and_eq_true] at ht
  obtain ⟨t1,t2,t3,t4,t5,t6⟩:=ht
  rw[El] at t5
  obtain ⟨ρ',h1,h2,h3,h4,h5⟩:=jha hf hm hh hfr.wf t1 t2 (jfa t3) t5 t4 an.quiet (fun hq=>by rw[hq] at t6;exact Nat.eq_of_beq_eq_true (by simpa using t6))
  exact ⟨ρ',h1,h2,⟨by rw[hfr.tmps,h3],hfr.defers,h4⟩,h5⟩
theorem je1{s:TS}{ρ':Et}(hs:s.Ok S ρ ρ'){l:List T}(h:Dx S ρ (l.map (T.put s))):Dx S ρ' l:=by
  intro t ht
  rw[←(T.put_den hs t).2.1]
  exact h _ (List.mem_map.2 ⟨t,ht,rfl⟩)
set_option maxHeartbeats 2000000 in
theorem jtb(hm:P.follows .mixedOrders=true)(hD:jdl P){rsp:Nat→Option Ff}{tab:Tab}(hsp: ∀f s,specs f=some s→Ei P S f s)(hrsp: ∀f s,rsp f=some s→Dw P S f s): ∀(n:Nat) (fc:FC) (ρ:Et) (Q:Exit→Act→World→Prop) (task:Wx) (ks:List KF) (fr:List SR) (h:Hp),
    task.good=true→Jx ks=true→Ta P S w0 Q ρ ks→(Fc P specs rsp tab n fc task ks fr h).ok P S ρ w0 fc.rs Q→task.goal P specs S ρ w0 Q ks fr h:=by
  intro n
  induction n with
  | zero=>intro fc ρ Q task ks fr h _ _ _ hok;simp only[Fc,Jg.ok,Jg.okA] at hok
  | succ n ih=>
    intro fc ρ Q task ks fr h hg hk hK hok
    cases task with
    | pop=>
      intro a w hf hh
      cases ks with
      | nil=>exact hok a w hf hh
      | cons k ks=>
        cases k with
        | code c=>
          simp only[Jx,Bool.and_eq_true] at hk
          exact ih fc ρ Q (.code c) ks fr h hk.1 hk.2 hK hok a w hf hh
        | again c=>
          have hk':=hk
          simp only[Jx,Bool.and_eq_true] at hk
          exact jc4 (ih fc ρ Q (.code c) (.again c::ks) fr h hk.1 hk' hK hok a w hf hh)
        | blk id=>exact ih fc ρ Q .pop ks fr h rfl (by simpa [Jx] using hk) hK hok a w hf hh
        | inv lo an c=>
          simp only[Fc] at hok
          split at hok
          · rename_i m rest hfit
            split at hok
            · rename_i ht
              obtain ⟨o1,_⟩:=Jj hok
              obtain ⟨n1,n2⟩:=Co.1 o1
              obtain ⟨n2,n3⟩:=Co.1 n2
              obtain ⟨ρ',g1,g2,g3,g4⟩:=jt1 hfit ht n1 hf hh
              have b1:=(Ag.1 n3).1
              have b2:=(Ag.1 (Ag.1 n3).2).1
              simp only[T.B,T.I] at b1 b2
              have b1:=of_decide_eq_true b1
              have b2:=of_decide_eq_true b2
              rw[(T.put_den g2 an.meas).1] at b2
              exact hK.1 ρ' a w g1 g3 g4 (je1 g2 n2) b2 b1
            · simp only[Jg.ok,Jg.okA] at hok
          · simp only[Jg.ok,Jg.okA] at hok
    | code c=>
      intro a w hf hh
      cases c with
      | skip=>exact wp_skip (ih fc ρ Q .pop ks fr h rfl hk hK hok a w hf hh)
      | seq x y=>
        simp only[Wx.good,Ji,Bool.and_eq_true] at hg
        exact wp_seq (ih fc ρ Q (.code x) (.code y::ks) fr h hg.1 (by simp[Jx,hg.2,hk]) hK hok a w hf hh)
      | block id b=>exact wp_block (ih fc ρ Q (.code b) (.blk id::ks) fr h hg (by simpa [Jx] using hk) hK hok a w hf hh)
      | loop b=>
        simp only[Fc] at hok
        split at hok
        · exact jj1 (jc4 (ih fc ρ Q (.code b) (.again b::ks) fr h hg (by simp only[Jx,Bool.and_eq_true];exact ⟨hg,hk⟩) hK hok a w hf hh))
        · split at hok
          · simp only[Jg.ok,Jg.okA] at hok
          · rename_i an _
            split at hok
            · rename_i m rest hfit
              split at hok
              · rename_i ht
                simp only[Bool.and_eq_true] at ht
                obtain ⟨ht,hkc⟩:=ht
                obtain ⟨o1,o2⟩:=Jj hok
                obtain ⟨n1,n2⟩:=Co.1 o1
                obtain ⟨ρ',g1,g2,g3,g4⟩:=jt1 hfit ht n1 hf hh
                have key: ∀(N:Nat) (ρ1:Et) (a:Act) (w:World),Cg h.nv an.na ρ ρ1→Hk S ρ1 w0.heap.size an.fr a→Cv S ρ1 w0 an.h w→Dx S ρ1 an.facts→(an.meas.I S ρ1).toNat=N→Xs P b (Wz P Q ks) a w:=by
                  intro N
                  induction N using Nat.strongRecOn with
                  | _ N ihN=>
                    intro ρ1 a w k1 k2 k3 k4 k5
                    refine jc4 (ih fc ρ1 Q (.code b) (.inv h.nv an b::ks) an.fr an.h hg (by simp only[Jx,Bool.and_eq_true];exact ⟨hg,hk⟩) ⟨?_,hK.clear k1 hkc⟩ (o2 ρ1 k1 k4) a w k2 k3)
                    intro ρ2 a w l1 l2 l3 l4 l5 l6
                    exact ihN (an.meas.I S ρ2).toNat (by omega) ρ2 a w (k1.trans l1 (Nat.le_refl _) (Nat.le_refl _)) l2 l3 l4 rfl
                exact jj1 (key _ ρ' a w g1 g3 g4 (je1 g2 n2) rfl)
              · simp only[Jg.ok,Jg.okA] at hok
            · simp only[Jg.ok,Jg.okA] at hok
      | exit id=>
        refine wp_exit ?_
        simp only[Fc] at hok
        split at hok
        · rename_i ks' hu
          exact (Pk a w).1 ks' hu (ih fc ρ Q .pop ks' fr h rfl (Lm hk hu) (hK.unwind hu) hok a w hf hh)
        · rename_i hu
          exact (Pk a w).2 hu (hok a w hf hh)
      | ret=>
        refine wp_ret (j43 ks a w ?_)
        simp only[Fc] at hok
        split at hok
        · rename_i v hv
          exact hok a w (jdk hh (Gs hf.wf) hv) hf.defers (jdi hh hf hv) hh
        · simp only[Jg.ok,Jg.okA] at hok
      | cond x y z=>
        simp only[Wx.good,Ji,Bool.and_eq_true] at hg
        simp only[Fc] at hok
        have hev: ∀{l:Aw},Vy (Do fr) x=some l→a.eval x=l.den S ρ w0.heap.size:=fun hl=>Dp (xs:= #[x]) (hf.agree _) (by simp) hl
        split at hok
        · rename_i hl
          refine wp_cond_true ?_ (ih fc ρ Q (.code y) ks fr h hg.1 hk hK hok a w hf hh)
          rw[hev hl];simp[Aw.den,T.B]
        · rename_i hl
          refine wp_cond_false ?_ (ih fc ρ Q (.code z) ks fr h hg.2 hk hK hok a w hf hh)
          rw[hev hl];simp[Aw.den,T.B]
        · rename_i s t _ _ hl
          have hs:Do fr s=.v (.one (.bool t)):=by
            unfold Vy at hl
            split at hl
            · rename_i l hr
              cases hl
              simpa [Ua] using hr
            · cases hl
          have hfork:(Jg.cond t (Fc P specs rsp tab n fc (.code y) ks (Fi fr s true) h) (Fc P specs rsp tab n fc (.code z) ks (Fi fr s false) h)).ok P S ρ w0 fc.rs Q→(Code.cond (.tmp s) y z).wp P (Wz P Q ks) a w:=by
            intro hok
            obtain ⟨o1,o2⟩:=hok
            cases hb:t.B S ρ with
            | true=>exact wp_cond_true (by rw[hev hl];simp[Aw.den,hb]) (ih fc ρ Q (.code y) ks _ h hg.1 hk hK (o1 hb) a w (hf.truth hs hb) hh)
            | false=>exact wp_cond_false (by rw[hev hl];simp[Aw.den,hb]) (ih fc ρ Q (.code z) ks _ h hg.2 hk hK (o2 hb) a w (hf.truth hs hb) hh)
          split at hok
          · rename_i hpp
            simp only[Bool.and_eq_true] at hpp
            split at hok
            · rename_i c1 f1 c2 f2 e1 e2
              split at hok
              · rename_i hc
                obtain ⟨hc2,_⟩:=hc
                obtain ⟨o1,o2⟩:=Jj hok
                have hp:=ih fc ρ Q .pop ks _ _ rfl hk hK o2
                obtain ⟨m1,m2⟩:=Co.1 o1
                cases hb:t.B S ρ with
                | true=>
                  refine wp_cond_true (by rw[hev hl];simp[Aw.den,hb]) ?_
                  have hm1:Dx S ρ c1:=fun q hq=>by
                    have:=m1 (.or (.not t) q) (List.mem_map.2 ⟨q,hq,rfl⟩)
                    simpa [T.B,hb] using this
                  have:=ih fc ρ (Wz P Q ks) (.code y) [] (Fi fr s true) h hg.1 rfl trivial (jtx n (.code y) [] _ hpp.1 rfl e1 hm1 fun a w hf hh=>hp a w (hf.merge_true hb hc2) hh)
                  exact this a w (hf.truth hs hb) hh
                | false=>
                  refine wp_cond_false (by rw[hev hl];simp[Aw.den,hb]) ?_
                  have hm2:Dx S ρ c2:=fun q hq=>by
                    have:=m2 (.or t q) (List.mem_map.2 ⟨q,hq,rfl⟩)
                    simpa [T.B,hb] using this
                  have:=ih fc ρ (Wz P Q ks) (.code z) [] (Fi fr s false) h hg.2 rfl trivial (jtx n (.code z) [] _ hpp.2 rfl e2 hm2 fun a w hf hh=>hp a w (hf.merge_false hb hc2) hh)
                  exact this a w (hf.truth hs hb) hh
              · exact hfork hok
            · exact hfork hok
          · exact hfork hok
        · simp only[Jg.ok,Jg.okA] at hok
      | region id ops draw=>
        simp only[Fc] at hok
        cases hu:jed fc id fr h with
        | some u=>
          obtain ⟨t,f,fr',h'⟩:=u
          simp only[hu] at hok
          split at hok
          · rename_i hkc
            obtain ⟨hlo,hneed,hany⟩:=hok
            obtain ⟨ρ',u1,u2,u3,u4⟩:=jv0 hu hlo hneed hf hh
            exact ih fc ρ' Q (.code (.region id ops draw)) ks fr' h' hg hk (hK.clear u1 hkc) (hany ρ' u1 (Ag.2 ⟨u2,Dx.nil⟩)) a w u3 u4
          · exact hok.elim
        | none=>
        simp only[hu] at hok
        have hmain: ∀(fr:List SR),Hk S ρ w0.heap.size fr a→(if draw=true then Fc P specs rsp tab n fc (.draw ops.toList ops.toList [] h) ks fr h else Fc P specs rsp tab n fc (.ops ops.toList ops.toList) ks fr h).ok P S ρ w0 fc.rs Q→Code.wp P (.region id ops draw) (Wz P Q ks) a w:=by
          intro fr hf hok
          cases draw with
          | false=>
            simp only[Bool.false_eq_true,if_false] at hok
            exact wp_region_list (ih fc ρ Q (.ops ops.toList ops.toList) ks fr h rfl hk hK hok a w hf hh)
          | true=>
            simp only[if_true] at hok
            simp only[Wx.good,Ji,Bool.not_true,Bool.false_or] at hg
            have:=ih fc ρ Q (.draw ops.toList ops.toList [] h) ks fr h hg hk hK hok (fr.map (SR.den S ρ w0.heap.size)) w hh rfl (Mq.start hf.wf) a {w with drawn:=w.drawn+1} hf.tmps hf.defers hh.drew
            exact wp_region_any hm (by simpa using this)
        cases hc:jfj fc id fr h with
        | none=>
          simp only[hc] at hok
          exact hmain fr hf hok
        | some u=>
          simp only[hc] at hok
          obtain ⟨o1,o2⟩:=Jj hok
          exact hmain u.2 (jvj hc o1 hf) o2
      | _=>simp only[Fc,Jg.ok,Jg.okA] at hok
    | ops rest all=>
      intro a w hf hh
      cases rest with
      | nil=>exact ih fc ρ Q .pop ks fr h rfl hk hK hok a w hf hh
      | cons o rest=>
        simp only[Fc] at hok
        have hw:=jgp (all:=all) (o:=o) hf.tmps
        split at hok
        · rename_i hwt
          rw[hwt] at hw
          split at hok
          · rename_i r hr
            obtain ⟨o1,o2⟩:=Jj hok
            obtain ⟨d1,d2⟩:=Sl hsp hr o1 (Gs hf.wf) (hf.agree _) hh
            unfold wpList
            rw[if_pos hw]
            exact .inl (d2 _ _ fun w' hw'=>ih fc ρ Q (.ops rest all) ks _ _ rfl hk hK o2 _ _ (hf.put o.dst d1) hw')
          · split at hok
            · rename_i rr hr
              split at hok
              · rename_i hcl
                simp only[Bool.and_eq_true] at hcl
                obtain ⟨hcl,hkc⟩:=hcl
                obtain ⟨o1,o2⟩:=Jj hok
                have d2:=Vi hrsp hr o1 (Gs hf.wf) (hf.agree _) hh
                unfold wpList
                rw[if_pos hw]
                refine .inl (d2 _ _ fun ρ' w' b1 b2 b3 b4=> ?_)
                exact ih fc ρ' Q (.ops rest all) ks _ _ rfl hk (hK.clear b1 hkc) (o2 ρ' b1 b2) _ _ ((hf.clear b1 hcl).put o.dst b3) b4
              · exact hok a w hf hh
            · split at hok
              · rename_i c hop
                split at hok
                · rename_i f args hcall
                  split at hok
                  · rename_i fn hin hfn
                    simp only[Bool.and_eq_true] at hin
                    split at hok
                    · rename_i b hbody
                      have hops:o.op.operands=c.operands:=by rw[hop];rfl
                      obtain ⟨h1,h2⟩:=jgj (w:=w) (t:=o.type) (Gs hf.wf) (hf.agree c.operands) hcall
                      unfold wpList
                      rw[if_pos hw]
                      left
                      unfold Oper.wp
                      obtain ⟨dst,op,type,pos,after,guard⟩:=o
                      simp only at hop
                      subst hop
                      simp only[execOp]
                      rw[h1,Oper.upon_enter]
                      refine (calls_of_wp hfn hbody (R:=fun e w'=> ∃v,e=.returned v∧wpList P all.toArray (Wz P Q ks) rest (a.put dst v) w') ?_).mono ?_
                      · refine ih ⟨fn.results.toList,tab.lt f⟩ ρ (bodyPost P fn fun e w'=> ∃v,e=.returned v∧wpList P all.toArray (Wz P Q ks) rest (a.put dst v) w') (.code b) [] _ h (hD f fn b hfn hbody) rfl trivial ?_ _ w (jgc h2 fn.ntmps) hh
                        refine Ms hok hK fun ρ' v h' g1 g2 g3 a' w' v1 v2 v3 v4=> ?_
                        have hp:bodyPost P fn (fun e w'=> ∃v,e=.returned v∧wpList P all.toArray (Wz P Q ks) rest (a.put dst v) w') .ret a' w':=by
                          refine ⟨v2,_,by rw[Oz];exact v3,_,rfl,?_⟩
                          exact ih fc ρ' Q (.ops rest all) ks _ _ rfl hk g2 g3 _ _ ((hf.clear g1 hin.2).put dst v1) v4
                        exact ⟨hp,hp⟩
                      · rintro e w' ⟨v,rfl,hv⟩
                        exact hv
                    · exact hok a w hf hh
                  · exact hok a w hf hh
                · exact hok a w hf hh
              · exact hok a w hf hh
        · rename_i hwt
          rw[hwt] at hw
          unfold wpList
          rw[if_neg (by rw[hw];simp)]
          have:=ih fc ρ Q (.ops rest all) ks _ _ rfl hk hK hok (a.put o.dst undef) w
          exact this (by simpa [SR.den,SV.den,Aw.den] using hf.put o.dst (x:=.v (.one .undef)) trivial) hh
        · rename_i s t hwt
          rw[hwt] at hw
          obtain ⟨o1,o2⟩:=hok
          cases hb:t.B S ρ with
          | true=>exact ih fc ρ Q (.ops (o::rest) all) ks _ h rfl hk hK (o1 hb) a w (hf.truth hw hb) hh
          | false=>exact ih fc ρ Q (.ops (o::rest) all) ks _ h rfl hk hK (o2 hb) a w (hf.truth hw hb) hh
        · simp only[Jg.ok,Jg.okA] at hok
    | draw rest all es h0=>
      intro init w hh hall sf
      cases rest with
      | nil=>
        simp only[Fc] at hok
        split at hok
        · rename_i hd
          have hp:=ih fc ρ Q .pop ks fr h rfl hk hK hok
          have hall':es.map (·.o)=all:=by simpa using hall
          have hlen:es.length=all.length:=by rw[←hall'];simp
          intro a w1 ha hdf hh0
          have hsh:Td P specs S ρ w0.heap.size h0 es init h:=⟨sf.frs,fun j e hj=>by rw[hall'];exact sf.want j e hj,fun j e hj=>sf.st j e hj (by have:=(List.getElem?_eq_some_iff.1 hj).1;omega),sf.no,sf.chain⟩
          have:=qae hsp hsh (by rw[hall'];exact hg) hd (Q:=Wz P Q ks) (fun a w ht hdf hh=>hp a w ⟨by
            rw[ht,sf.now]
            apply Ks
            intro i hi
            rw[Fq] at hi
            simp[hi],hdf,sf.wf⟩ hh) all.length (Array.replicate all.length false) a w1 (Wl hlen.symm ha hdf hh0) (by
            refine Nat.le_trans (List.length_filter_le _ _) ?_
            simp[hlen])
          rw[hall'] at this
          exact this
        · split at hok
          · rename_i _ hd
            rw[Bool.and_eq_true] at hd
            obtain ⟨hd1,hd2⟩:=hd
            have hall':es.map (·.o)=all:=by simpa using hall
            have hlen:es.length=all.length:=by rw[←hall'];simp
            have hsh:Td P specs S ρ w0.heap.size h0 es init h:=⟨sf.frs,fun j e hj=>by rw[hall'];exact sf.want j e hj,fun j e hj=>sf.st j e hj (by have:=(List.getElem?_eq_some_iff.1 hj).1;omega),sf.no,sf.chain⟩
            unfold js1 at hd1
            split at hd1
            · cases hd1
            · rename_i e0 es0 _
              simp only at hd1
              split at hd1
              · rename_i H hH
                simp only[Bool.and_eq_true,Nat.ble_eq] at hd1
                obtain ⟨n1,n2,n3⟩:=hd1
                have lp:=jl3 n3
                have hne:jfn (e0::es0) (jrt (e0::es0))≠ []:=by
                  intro he;rw[he] at n1;cases n1
                have h0fr:e0.fr.map (SR.den S ρ w0.heap.size)=init:=by
                  have:=sf.frs 0 e0 rfl
                  rw[this,Um _ _ _ (fun i _=>by simp)]
                have hi0: ∀f:Nat→Nat,(∀k,k<H.na→f k=ρ.nb k)→e0.fr.map (SR.den S (ρ.nbs f) w0.heap.size)=init:=by
                  intro f hf
                  rw[←h0fr]
                  exact List.map_congr_left fun x hx=>(SR.clear_den (Rs (ns:=h0.nv) hf) (List.all_eq_true.1 lp.fr0c x hx)).1
                intro a w1 ha hdf hh0
                have:=j4l hsp lp hne (by rw[hall'];exact hg) hsh hi0 (Q:=Wz P Q ks) (fun f a w hf ht hdf hh=>by
                  have hA:Cg h0.nv h0.na ρ (ρ.nbs f):=Rs fun k hk=>hf k (by omega)
                  refine ih fc (ρ.nbs f) Q .pop ks fr h rfl hk (hK.clear hA hd2) (hok _ hA Dx.nil) a w ⟨?_,hdf,fun x hx=>SR.wf_nbs (sf.wf x hx)⟩ hh
                  rw[ht,(jb8 (S:=S) (ρ:=ρ.nbs f) (B:=w0.heap.size) 0 lp.frames).2,hi0 f hf]) all.length (Array.replicate all.length false) a w1 (.inl ⟨Wl hlen.symm ha hdf hh0,fun x _=>by
                    rw[Array.getD_eq_getD_getElem?,Array.getElem?_replicate];split<;>rfl⟩) (by
                  refine Nat.le_trans (List.length_filter_le _ _) ?_
                  simp[hlen])
                rw[hall'] at this
                exact this
              · cases hd1
          · simp only[Jg.ok,Jg.okA] at hok
      | cons o rest=>
        simp only[Fc] at hok
        have hw:=jgp (all:=all) (o:=o) (fr:=fr) (S:=S) (ρ:=ρ) (B:=w0.heap.size) (tmps:=(fr.map (SR.den S ρ w0.heap.size)).toArray) (by simp)
        split at hok
        · rename_i hwt
          rw[hwt] at hw
          split at hok
          · rename_i r hr
            obtain ⟨o1,o2⟩:=Jj hok
            have hfr:Hk S ρ w0.heap.size fr {tmps:=(fr.map (SR.den S ρ w0.heap.size)).toArray,defers:=[]}:=⟨by simp,rfl,sf.wf⟩
            obtain ⟨hwf,d2⟩:=Sl hsp hr o1 (Gs sf.wf) (hfr.agree _) hh
            obtain ⟨_,w',hw'⟩:=Sr (d2 (fun _ w'=>Cv S ρ w0 r.heap w') (fun _ _ _=>False) fun w' hw'=>hw')
            exact ih fc ρ Q (.draw rest all (es++ [⟨o,true,fr,h,r⟩]) h0) ks _ _ hg hk hK o2 init w' hw' (by simpa using hall) (sf.more (e:=⟨o,true,fr,h,r⟩) rfl rfl hw (fun _ _=>⟨hr,o1⟩) (fun hw he=>jmm rfl hr hw he) (fun h=>by cases h) hwf)
          · split at hok
            · rename_i rr hr
              split at hok
              · rename_i es' fr' h' htail
                split at hok
                · rename_i hc
                  simp only[Bool.and_eq_true] at hc
                  obtain ⟨c1,c2,c3,c4,c5,c6,c7⟩:=hc
                  obtain ⟨o1,o2⟩:=Jj hok
                  have hlen:es.length<all.length:=by rw[←hall];simp
                  have hfr:Hk S ρ w0.heap.size fr {tmps:=(fr.map (SR.den S ρ w0.heap.size)).toArray,defers:=[]}:=⟨by simp,rfl,sf.wf⟩
                  have hentc: ∀e∈es,e.fr.all (SR.clear rr.ns rr.na)=true∧e.r.val.clear rr.ns rr.na=true∧e.r.need.all (T.clear rr.ns)=true:=by
                    intro e he
                    unfold Wf at c4
                    rw[List.all_eq_true] at c4
                    have:=c4 e he
                    simp only[Bool.and_eq_true] at this
                    exact this
                  have hpairs: ∀ρ',Cg rr.ns rr.na ρ ρ'→Bj S ρ' w0.heap.size es=Bj S ρ w0.heap.size es:=by
                    intro ρ' hA
                    unfold Bj
                    apply List.map_congr_left
                    intro e he
                    rw[(SR.clear_den hA (hentc e he).2.1).1]
                  have hden: ∀ρ' (l:List SR),Cg rr.ns rr.na ρ ρ'→l.all (SR.clear rr.ns rr.na)=true→l.map (SR.den S ρ' w0.heap.size)=l.map (SR.den S ρ w0.heap.size):=by
                    intro ρ' l hA hl
                    rw[List.all_eq_true] at hl
                    exact List.map_congr_left fun x hx=>(SR.clear_den hA (hl x hx)).1
                  have hwfs: ∀ρ' (l:List SR),Cg rr.ns rr.na ρ ρ'→l.all (SR.clear rr.ns rr.na)=true→(∀x∈l,x.wf S ρ)→ ∀x∈l,x.wf S ρ':=by
                    intro ρ' l hA hl hw x hx
                    rw[List.all_eq_true] at hl
                    exact (SR.clear_den (B:=w0.heap.size) hA (hl x hx)).2 (hw x hx)
                  have sf': ∀ρ',Cg rr.ns rr.na ρ ρ'→Mq P specs S ρ' w0.heap.size h0 all es init fr h es.length:=by
                    intro ρ' hA
                    refine ⟨?_,?_,?_,sf.no,sf.chain,?_,hwfs ρ' fr hA c5 sf.wf⟩
                    · intro j e hj
                      have he:=List.mem_of_getElem? hj
                      rw[hpairs ρ' hA,hden ρ' _ hA (hentc e he).1];exact sf.frs j e hj
                    · intro j e hj
                      rw[hpairs ρ' hA];exact sf.want j e hj
                    · intro j e hj _ hwj
                      have he:=List.mem_of_getElem? hj
                      obtain ⟨s1,s2,s3⟩:=sf.st j e hj (by have:=(List.getElem?_eq_some_iff.1 hj).1;omega) hwj
                      exact ⟨s1,Ot hA (hentc e he).2.2 s2,hwfs ρ' _ hA (hentc e he).1 s3⟩
                    · rw[hpairs ρ' hA,hden ρ' _ hA c5];exact sf.now
                  have hX: ∃ρ1 w1,Cg rr.ns rr.na ρ ρ1∧Dx S ρ1 rr.facts∧rr.val.wf S ρ1∧Cv S ρ1 w0 rr.heap w1:=by
                    have d2:=Vi hrsp hr o1 (Gs sf.wf) (hfr.agree _) hh
                    obtain ⟨_,w',ρ1,q1,q2,q3,q4⟩:=Sr (d2 (fun _ w'=> ∃ρ1,Cg rr.ns rr.na ρ ρ1∧Dx S ρ1 rr.facts∧rr.val.wf S ρ1∧Cv S ρ1 w0 rr.heap w') (fun _ _ _=>False) fun ρ' w' b1 b2 b3 b4=>⟨ρ',b1,b2,b3,b4⟩)
                    exact ⟨ρ1,w',q1,q2,q3,q4⟩
                  have more: ∀ρ',Cg rr.ns rr.na ρ ρ'→rr.val.wf S ρ'→Mq P specs S ρ' w0.heap.size h0 all (es++ [⟨o,true,fr,h,⟨rr.need,rr.val,rr.heap⟩⟩]) init (Er fr o.dst rr.val) rr.heap es.length:=by
                    intro ρ' hA hv
                    exact (sf' ρ' hA).more (e:=⟨o,true,fr,h,⟨rr.need,rr.val,rr.heap⟩⟩) rfl rfl (by rw[hden ρ' _ hA c5];exact hw) (fun h=>absurd rfl h) (fun _ he=>by rw[c2] at he;cases he) (fun h=>by cases h) hv
                  have tl: ∀ρ' w',Cg rr.ns rr.na ρ ρ'→rr.val.wf S ρ'→Cv S ρ' w0 rr.heap w'→_:=fun ρ' w' hA hv hh'=>jjz hsp hh' (by simpa using hall) (by simp) (more ρ' hA hv) htail
                  obtain ⟨ρ1,w1,x1,x2,x3,x4⟩:=hX
                  obtain ⟨t1,_,t3,t4⟩:=tl ρ1 w1 x1 x3 x4
                  have hlen':es'.length=all.length:=by rw[←t1];simp
                  have hk1:es'[es.length]? =some ⟨o,true,fr,h,⟨rr.need,rr.val,rr.heap⟩⟩:=t4 _ _ (by simp)
                  have hpre: ∀j e,es'[j]? =some e→j<es.length→es[j]? =some e:=by
                    intro j e he hj
                    rcases t3 j e he with h|⟨h1,_⟩
                    · rw[List.getElem?_append_left hj] at h;exact h
                    · simp at h1;omega
                  have hneeds: ∀ρ',Cg rr.ns rr.na ρ ρ'→Dx S ρ' (es'.flatMap (·.r.need)):=by
                    intro ρ' hA x hx
                    rw[List.mem_flatMap] at hx
                    obtain ⟨e,he,hxe⟩:=hx
                    obtain ⟨j,hj⟩:=List.getElem?_of_mem he
                    rcases t3 j e hj with h|⟨_,h2⟩
                    · by_cases hjl:j<es.length
                      · rw[List.getElem?_append_left hjl] at h
                        cases hwj:e.want with
                        | true=>exact ((sf' ρ' hA).st j e h (by omega) hwj).2.1 x hxe
                        | false=>rw[(sf.no j e h hwj).2] at hxe;cases hxe
                      · rw[List.getElem?_append_right (by omega)] at h
                        have hj0:j-es.length=0:=by
                          have:=(List.getElem?_eq_some_iff.1 h).1
                          simp at this;omega
                        rw[hj0] at h
                        simp only[List.getElem?_cons_zero,Option.some.injEq] at h
                        subst h
                        exact Ot hA c6 o1 x hxe
                    · rw[h2] at hxe;cases hxe
                  have pre: ∀(ρ':Et) (es'':List Fs),(∀j e,es''[j]? =some e→j<es.length→es[j]? =some e)→es.length≤es''.length→ ∀j,j≤es.length→Cd (fun i=>decide (i<j)) 0 (Bj S ρ' w0.heap.size es'') init=Cd (fun i=>decide (i<j)) 0 (Bj S ρ' w0.heap.size es) init:=by
                    intro ρ' es'' h1 h2 j hj
                    have e1:es''=es++es''.drop es.length:=by
                      apply List.ext_getElem?
                      intro i
                      by_cases hi:i<es.length
                      · rw[List.getElem?_append_left hi,h1 i (es''[i]'(by omega)) (List.getElem?_eq_getElem _) hi,List.getElem?_eq_getElem (by omega)]
                      · rw[List.getElem?_append_right (by omega),List.getElem?_drop]
                        congr 1;omega
                    have e2: ∀(l:List (Option Tmp×Value)) (k:Nat) (cur:List Value),j≤k→Cd (fun i=>decide (i<j)) k l cur=cur:=by
                      intro l
                      induction l with
                      | nil=>intro k cur _;rfl
                      | cons e l ih=>intro k cur hk;unfold Cd;rw[if_neg (by simp;omega)];exact ih _ _ (by omega)
                    have e3: ∀(l m:List (Option Tmp×Value)) (k:Nat) (cur:List Value),Cd (fun i=>decide (i<j)) k (l++m) cur=Cd (fun i=>decide (i<j)) (k+l.length) m (Cd (fun i=>decide (i<j)) k l cur):=by
                      intro l
                      induction l with
                      | nil=>intro m k cur;rfl
                      | cons e l ih=>intro m k cur;simp only[List.cons_append,Cd,List.length_cons];rw[ih];congr 1;omega
                    rw[e1]
                    unfold Bj
                    rw[List.map_append,e3,e2 _ _ _ (by simp;omega)]
                  intro a w2 ha hdf hh0
                  have:=j3o hsp hrsp (by rw[t1];exact hg) c1 (hl:=h') (init:=init) (by exact (tl ρ1 w1 x1 x3 x4).2.1.chain) (hneeds ρ (Cg.rfl' _ _ _)) hk1 hr rfl c2 o1
                    (by rw[pre ρ es' hpre (by omega) _ (Nat.le_refl _)];rw[sf.now]) sf.wf
                    (by rw[pre ρ es' hpre (by omega) _ (Nat.le_refl _),t1];rw[←sf.now];exact hw)
                    (fun j e he hj=>by
                      have he':=hpre j e he hj
                      refine ⟨?_,?_,fun hwj=>sf.st j e he' (by omega) hwj,sf.no j e he'⟩
                      · rw[pre ρ es' hpre (by omega) _ (by omega)];exact sf.frs j e he'
                      · rw[pre ρ es' hpre (by omega) _ (by omega),t1];exact sf.want j e he')
                    (fun j hj hjl=>by
                      unfold jho at c3
                      rw[List.all_eq_true] at c3
                      have hml:(Ex (es'.map (·.o))).length=es'.length:=by
                        rw[jj8];simp
                      have:=c3 ((Ex (es'.map (·.o))).getD j 0,j) (List.mem_zipIdx_iff_getElem?.2 (by
                        rw[List.getD_eq_getElem?_getD,List.getElem?_eq_getElem (by omega)];rfl))
                      simp only[Bool.or_eq_true] at this
                      rcases this with h|h
                      · rw[El] at h;omega
                      · exact h)
                    (fun j e he hj=>(hentc e (List.mem_of_getElem? (hpre j e he hj))).2.1)
                    (fun ρ' g1 g2 g3 ⟨w',g4⟩=>⟨hneeds ρ' g1,fun j e he hj=>by
                      obtain ⟨_,s2,_,_⟩:=tl ρ' w' g1 g3 g4
                      exact ⟨s2.frs j e he,by rw[t1];exact s2.want j e he,s2.st j e he hj,s2.no j e he⟩⟩)
                    (Q:=Wz P Q ks) (fun ρ' a w g1 g2 g3 ⟨w',g4⟩ g5 g6 g7=>by
                      obtain ⟨_,s2,_,_⟩:=tl ρ' w' g1 g3 g4
                      refine ih fc ρ' Q .pop ks _ _ rfl hk (hK.clear g1 c7) (o2 ρ' g1 g2) a w ⟨?_,g6,s2.wf⟩ g7
                      rw[g5,s2.now]
                      apply Ks
                      intro i hi
                      rw[Fq] at hi
                      simp[hi]) all.length (Array.replicate all.length false) a w2 (Wl hlen'.symm ha hdf hh0) (by
                      rw[Array.getD_eq_getD_getElem?,Array.getElem?_replicate];split<;>rfl) (by
                      refine Nat.le_trans (List.length_filter_le _ _) ?_
                      simp[hlen'])
                  rw[t1] at this
                  exact this
                · split at hok
                  · rename_i oa oz hnc htail2
                    split at hok
                    · rename_i s hsw
                      split at hok
                      · rename_i hc
                        rw[Bool.and_eq_true] at hc
                        obtain ⟨o1,o2⟩:=Jj hok
                        exact j2w hsp hrsp (by simpa using hall) hg (by rw[←hall];simp) sf hw hr hsw hc.1 o1 (Q:=Wz P Q ks) fun ρ' a w g1 g2 g3 g4 g5=>ih fc ρ' Q .pop ks _ _ rfl hk (hK.clear g1 hc.2) (o2 ρ' g1 g2) a w g4 g5
                      · simp only[Jg.ok,Jg.okA] at hok
                    · simp only[Jg.ok,Jg.okA] at hok
                  · simp only[Jg.ok,Jg.okA] at hok
              · simp only[Jg.ok,Jg.okA] at hok
            · simp only[Jg.ok,Jg.okA] at hok
        · rename_i hwt
          rw[hwt] at hw
          exact ih fc ρ Q (.draw rest all (es++ [⟨o,false,fr,h,⟨[],.v (.one .undef),h⟩⟩]) h0) ks _ _ hg hk hK hok init w hh (by simpa using hall) (sf.more (e:=⟨o,false,fr,h,⟨[],.v (.one .undef),h⟩⟩) rfl rfl hw (fun _ h=>by cases h) (fun h=>by cases h) (fun _=>⟨rfl,rfl,rfl⟩) trivial)
        · rename_i s t hwt
          rw[hwt] at hw
          obtain ⟨o1,o2⟩:=hok
          cases hb:t.B S ρ with
          | true=>exact ih fc ρ Q (.draw (o::rest) all es h0) ks _ h hg hk hK (o1 hb) init w hh hall (sf.truth hw hb)
          | false=>exact ih fc ρ Q (.draw (o::rest) all es h0) ks _ h hg hk hK (o2 hb) init w hh hall (sf.truth hw hb)
        · simp only[Jg.ok,Jg.okA] at hok
end
structure Hg where
  args:List SR
  hp:Hp
  pre:List T
  val:SR
  hp':Hp
  post:List T
  quiet:Bool
def Hg.na(c:Hg):Nat:=if c.quiet then 1000000000 else 0
def Cf(P:Program)(S:Hw)(f:FuncId)(c:Hg):Prop:=
  ∀(ρ:Et) (w0 w:World),Cv S ρ w0 c.hp w→Dx S ρ c.pre→(∀x∈c.args,x.wf S ρ)→(c.hp.ow=none→ρ.loose=[])→
    Calls P f (c.args.map (SR.den S ρ w0.heap.size)).toArray w (fun e w'=> ∃ρ',Cg 100 c.na ρ ρ'∧Dx S ρ' c.post∧c.val.wf S ρ'∧e=.returned (c.val.den S ρ' w0.heap.size)∧Cv S ρ' w0 c.hp' w')
structure OS where
  t:TS
  v:Nat→Aw
  o:Nat→Cl
  w:Nat→Cl
  j:Nat→Nat
  s:Nat→List Cp
def Cl.put(s:OS):Cl→Cl
  | .old n=>s.o n
  | .own n=>s.w n
  | r=>r
def Aw.put(s:OS):Aw→Aw
  | .int k t=>.int k (t.put s.t)
  | .bool t=>.bool (t.put s.t)
  | .ptr r i d=>.ptr (r.put s) i (d.put s.t)
  | .sl r i d l c=>.sl (r.put s) i (d.put s.t) (l.put s.t) (c.put s.t)
  | .iface t x=>.iface t (x.put s)
  | .val n=>s.v n
  | .junk n=>.junk (s.j n)
  | l=>l
def Cp.put(s:OS):Cp→List Cp
  | .cells l=>[.cells (l.map (Aw.put s))]
  | .arr k a n=>[.arr k (a.put s.t) n]
  | .arrD k a=>[.arrD k (a.put s.t)]
  | .bar a n=>[.bar (a.put s.t) n]
  | .junk n=>s.s n
  | .tail z n=>[.tail z (n.put s.t)]
def SV.put(s:OS):SV→SV
  | .one l=>.one (l.put s)
  | .agg g=>.agg (g.flatMap (Cp.put s))
def SR.put(s:OS):SR→SR
  | .v x=>.v (x.put s)
  | .tup l=>.tup (l.map (SV.put s))
  | .ite c x y=>.ite (c.put s.t) (x.put s) (y.put s)
def Cl.outOk:Cl→Bool
  | .new _=>false
  | .ro _=>false
  | _=>true
def Aw.outOk:Aw→Bool
  | .ptr r _ _=>r.outOk
  | .sl r _ _ _ _=>r.outOk
  | .iface _ x=>x.outOk
  | .junk n=>Nat.ble 100 n
  | _=>true
def Cp.outOk:Cp→Bool
  | .cells l=>l.all Aw.outOk
  | .tail z _=>z.all Aw.fixed
  | _=>true
def SV.outOk:SV→Bool
  | .one l=>l.outOk
  | .agg g=>g.all Cp.outOk
def SR.outOk:SR→Bool
  | .v x=>x.outOk
  | .tup l=>l.all SV.outOk
  | .ite _ _ _=>false
def Bd.os(m:Bd)(nv:Nat):OS where
  t:={i:=fun n=>if Nat.ble 100 n then .iv (nv+n) else jgo ((Ga m.i n).getD (.lit 0)),b:=fun n=>if Nat.ble 100 n then .bv (nv+n) else jfk ((Ga m.b n).getD .ff),a:=fun n=>if Nat.ble 100 n then .av (nv+n) else jea ((Ga m.a n).getD (.alit []))}
  v n:=if Nat.ble 100 n then .val (nv+n) else (Ga m.v n).getD .undef
  o n:=if Nat.ble 100 n then .old (nv+(2*n+1)) else match Ga m.r n with
    | some (.o r)=>r
    | _=>.old (nv+(2*n+1))
  w n:=.own (nv+2*n)
  j n:=nv+n
  s n:=[.junk (nv+n)]
def RB.clear(ns na:Nat):RB→Bool
  | .o r=>(r.clear ns na).and (match r with|.ro _=>false|_=>true)
  | .p _=>true
  | _=>false
def Bd.clear(ns na:Nat)(m:Bd):Bool:=
  (m.i.all fun x=>x.2.clear ns).and ((m.b.all fun x=>x.2.clear ns).and ((m.a.all fun x=>x.2.clear ns).and ((m.v.all fun x=>x.2.clear ns na).and (m.r.all fun x=>x.2.clear ns na))))
def j4x(l:List (Cl×Gn))(r:Cl):Bool:=l.any fun x=>Nat.beq x.1.code r.code
def Cl.isOwn100:Cl→Bool
  | .own n=>Nat.ble 100 n
  | _=>false
def Cl.isIn:Cl→Bool
  | .old n=>Nat.ble (n+1) 100
  | .glob _=>true
  | _=>false
def Hg.good(c:Hg):Bool:=
  (Nat.beq c.hp.na 0).and ((Nat.beq c.hp'.na 0).and ((c.args.all (SR.okIn 0)).and ((jvr 0 c.hp.rw).and ((c.val.outOk).and ((c.hp'.rw.all fun x=>((x.1.isOwn100).or ((x.1.isIn).and (j4x c.hp.rw x.1))).and (x.2.segs.all Cp.outOk)).and
    ((c.hp.rw.all fun x=>(x.1.isIn).and (j4x c.hp'.rw x.1)).and (match c.hp.ow,c.hp'.ow with|none,none=>true|some _,none=>true|some _,some o=>Nat.ble 100 o.v|none,some _=>false)))))))
def js9(c:Hg)(m:Bd)(h:Hp)(rest:List (Cl×Gn)):Bool:=
  (c.good).and ((m.clear h.nv h.na).and ((m.noNew).and ((Gm h.nv h.na rest).and ((Gh h.nv h.na h.ro).and (match c.hp.ow with|none=>Se h.nv h.ow|some _=>true)))))
def Cx(c:Hg):Ff:=fun args h=>
  match jn9 0 c.args c.hp args h with
  | some (m,rest)=>
    if js9 c m h rest then
      let s:=m.os h.nv
      some {need:=m.needs 0++c.pre.map (T.put (m.ts 0)),ns:=h.nv,na:=if c.quiet then h.na+1000000000 else h.na,facts:=c.post.map (T.put s.t),val:=c.val.put s,
             heap:={rw:=rest++c.hp'.rw.map (fun x=>(x.1.put s,⟨x.2.ty,x.2.segs.flatMap (Cp.put s)⟩)),ro:=h.ro,na:=h.na,nv:=h.nv+400,ow:=match c.hp.ow with|none=>h.ow|some _=>c.hp'.ow.map fun o=>⟨h.nv+o.v,o.e,o.k,o.a.put s.t⟩}}
    else none
  | none=>none
section
variable {S:Hw} {ρ ρt:Et} {B B':Nat} {s:OS}
structure OS.Ok(S:Hw)(s:OS)(ρ ρt:Et)(B B':Nat):Prop where
  t:s.t.Ok S ρ ρt
  v: ∀n,(s.v n).den S ρ B=ρt.v n
  o: ∀n,(s.o n).blk ρ B=ρt.blk n∧(s.o n).off ρ=0
  w: ∀n,(s.w n).blk ρ B=B'+ρt.blk n∧(s.w n).off ρ=0
  j: ∀n,100≤n→ρ.j (s.j n)=ρt.j n
  s: ∀n,Av S ρ B (s.s n)=ρt.vs n∧Cm S ρ (s.s n)
theorem Cl.put_den(hs:s.Ok S ρ ρt B B'){r:Cl}(h:r.outOk=true):(r.put s).blk ρ B=r.blk ρt B'∧(r.put s).off ρ=r.off ρt:=by
  cases r with
  | old n=>exact hs.o n
  | own n=>exact hs.w n
  | new k=>cases h
  | ro n=>cases h
  | glob g=>exact ⟨rfl,rfl⟩
theorem jmn(hs:s.Ok S ρ ρt B B'){r:Cl}(h:r.outOk=true)(i:Nat)(d:T):Cw S ρ B (r.put s) i (d.put s.t)=Cw S ρt B' r i d:=by
  simp only[Cw,(Cl.put_den hs h).1,(Cl.put_den hs h).2,(T.put_den hs.t d).1]
theorem Aw.put_den(hs:s.Ok S ρ ρt B B'): ∀{l:Aw},l.outOk=true→(l.put s).den S ρ B=l.den S ρt B'
  | .int k t,_=>by simp only[Aw.put,Aw.den,(T.put_den hs.t t).1]
  | .bool t,_=>by simp only[Aw.put,Aw.den,(T.put_den hs.t t).2.1]
  | .ptr r i d,h=>by simp only[Aw.put,Aw.den,jmn hs (r:=r) h]
  | .sl r i d l c,h=>by simp only[Aw.put,Aw.den,jmn hs (r:=r) h,(T.put_den hs.t l).1,(T.put_den hs.t c).1]
  | .iface t x,h=>by simp only[Aw.put,Aw.den,Aw.put_den hs (l:=x) h]
  | .val n,_=>hs.v n
  | .junk n,h=>hs.j n (Nat.le_of_ble_eq_true h)
  | .nilp,_=>rfl
  | .nils,_=>rfl
  | .nilI,_=>rfl
  | .str _,_=>rfl
  | .fn _,_=>rfl
  | .undef,_=>rfl
theorem Cp.put_den(hs:s.Ok S ρ ρt B B'){g:Cp}(h:g.outOk=true):Av S ρ B (g.put s)=g.den S ρt B'∧(g.wf S ρt→Cm S ρ (g.put s)):=by
  have one: ∀{x:Cp},Av S ρ B [x]=x.den S ρ B:=by intro x;rw[Au,Cj,List.append_nil]
  have wf1: ∀{x:Cp},x.wf S ρ→Cm S ρ [x]:=fun hx=>Ax.2 ⟨hx,fun _ h=>nomatch h⟩
  cases g with
  | cells l=>
    refine ⟨?_,fun _=>wf1 trivial⟩
    simp only[Cp.put,one,Cp.den,List.map_map]
    simp only[Cp.outOk,List.all_eq_true] at h
    exact List.map_congr_left fun x hx=>Aw.put_den hs (h x hx)
  | arr k a n=>exact ⟨by simp only[Cp.put,one,Cp.den,(T.put_den hs.t a).2.2],fun hw=>wf1 (by show _=n;rw[(T.put_den hs.t a).2.2];exact hw)⟩
  | arrD k a=>exact ⟨by simp only[Cp.put,one,Cp.den,(T.put_den hs.t a).2.2],fun _=>wf1 trivial⟩
  | bar a n=>exact ⟨by simp only[Cp.put,one,Cp.den,(T.put_den hs.t a).2.2],fun hw=>wf1 (by show _=n;rw[(T.put_den hs.t a).2.2];exact hw)⟩
  | junk n=>exact ⟨(hs.s n).1,fun _=>(hs.s n).2⟩
  | tail z n=>
    refine ⟨?_,fun _=>wf1 trivial⟩
    simp only[Cp.put,one,Cp.den,(T.put_den hs.t n).1]
    rw[jbd (S:=S) (ρ:=ρt) (ρ':=ρ) (B:=B') (B':=B) h]
theorem jei(hs:s.Ok S ρ ρt B B'): ∀{g:List Cp},g.all Cp.outOk=true→Av S ρ B (g.flatMap (Cp.put s))=Av S ρt B' g∧(Cm S ρt g→Cm S ρ (g.flatMap (Cp.put s)))
  | [],_=>⟨rfl,fun _ _ h=>nomatch h⟩
  | x::g,h=>by
    simp only[List.all_cons,Bool.and_eq_true] at h
    obtain ⟨h1,h2⟩:=Cp.put_den hs h.1
    obtain ⟨h3,h4⟩:=jei hs h.2
    rw[List.flatMap_cons]
    exact ⟨by rw[Bp,h1,h3,Au],fun hw=>Ch.2 ⟨h2 (Ax.1 hw).1,h4 (Ax.1 hw).2⟩⟩
theorem SV.put_den(hs:s.Ok S ρ ρt B B'){x:SV}(h:x.outOk=true):(x.put s).den S ρ B=x.den S ρt B'∧(x.wf S ρt→(x.put s).wf S ρ):=by
  cases x with
  | one l=>exact ⟨Aw.put_den hs h,fun _=>trivial⟩
  | agg g=>
    obtain ⟨h1,h2⟩:=jei hs h
    exact ⟨by simp only[SV.put,SV.den,h1],h2⟩
theorem SR.put_den(hs:s.Ok S ρ ρt B B'){x:SR}(h:x.outOk=true):(x.put s).den S ρ B=x.den S ρt B'∧(x.wf S ρt→(x.put s).wf S ρ):=by
  cases x with
  | v x=>exact SV.put_den hs h
  | tup l=>
    simp only[SR.outOk,List.all_eq_true] at h
    constructor
    · simp only[SR.put,SR.den,List.map_map]
      congr 2
      exact List.map_congr_left fun y hy=>(SV.put_den hs (h y hy)).1
    · intro hw y hy
      simp only[List.mem_map] at hy
      obtain ⟨z,hz,rfl⟩:=hy
      exact (SV.put_den hs (h z hz)).2 (hw z hz)
  | ite c x y=>cases h
end
theorem jg9{α:Type}{l:List (Nat×α)}{n:Nat}{x:α}(h:Ga l n=some x): ∃k,(k,x)∈l:=by
  induction l with
  | nil=>simp[Ga] at h
  | cons y l ih=>
    unfold Ga at h
    split at h
    · cases h;exact ⟨_,List.mem_cons_self ..⟩
    · obtain ⟨k,hk⟩:=ih h;exact ⟨k,List.mem_cons_of_mem _ hk⟩
def Pj(ρ ρt:Et)(nv na d:Nat)(nbf:Nat→Nat):Et where
  i k:=if k<nv then ρ.i k else ρt.i (k-nv)
  b k:=if k<nv then ρ.b k else ρt.b (k-nv)
  a k:=if k<nv then ρ.a k else ρt.a (k-nv)
  v k:=if k<nv then ρ.v k else ρt.v (k-nv)
  j k:=if k<nv then ρ.j k else ρt.j (k-nv)
  vs k:=if k<nv then ρ.vs k else ρt.vs (k-nv)
  off k:=ρ.off k
  blk k:=if k<nv then ρ.blk k else if (k-nv) % 2=0 then d+ρt.blk ((k-nv)/2) else ρt.blk ((k-nv)/2)
  nb:=nbf
  loose:=ρ.loose
section
variable {S:Hw} {ρ:Et} {P:Program}
theorem jgv{ρt:Et}{nv na d:Nat}{nbf:Nat→Nat}(h: ∀k,k<na→nbf k=ρ.nb k):Cg nv na ρ (Pj ρ ρt nv na d nbf):=by
  refine ⟨?_,?_,?_,?_,?_,?_,fun _ _=>rfl,?_,h,rfl⟩<;>intro k hk<;>simp only[Pj]<;>rw[if_pos hk]
theorem Yo{ns:Nat}{l:List (Nat×T)}(h:l.all (fun x=>x.2.clear ns)=true)(n:Nat){z:T}(hz:z.clear ns=true):((Ga l n).getD z).clear ns=true:=by
  cases hl:Ga l n with
  | none=>exact hz
  | some x=>
    obtain ⟨k,hk⟩:=jg9 hl
    rw[List.all_eq_true] at h
    exact h _ hk
theorem jot{ns:Nat}{x:T}(h:x.clear ns=true):(jgo x).clear ns=true:=by
  unfold jgo;split
  · exact h
  · rfl
theorem jmu{ns:Nat}{x:T}(h:x.clear ns=true):(jfk x).clear ns=true:=by
  unfold jfk;split
  · exact h
  · rfl
theorem jn2{ns:Nat}{x:T}(h:x.clear ns=true):(jea x).clear ns=true:=by
  unfold jea;split
  · exact h
  · rfl
theorem qfq{m:Bd}{nv na B B':Nat}{ρt ρt':Et}{nbf nbt:Nat→Nat}{lo:List Nat}(hc:m.clear nv na=true)(hρt:ρt=Hh S 0 m ρ B nbt lo)(hA:Cg 100 0 ρt ρt')(hB:B≤B')(hnb: ∀k,k<na→nbf k=ρ.nb k):
    (m.os nv).Ok S (Pj ρ ρt' nv na (B'-B) nbf) ρt' B B':=by
  have hback:=jgv (ρ:=ρ) (ρt:=ρt') (nv:=nv) (na:=na) (d:=B'-B) (nbf:=nbf) hnb
  unfold Bd.clear at hc
  simp only[Bool.and_eq_true] at hc
  obtain ⟨c1,c2,c3,c4,c6⟩:=hc
  have lt100: ∀{n:Nat},¬Nat.ble 100 n=true→n<100:=fun h=>Kw h
  have hlow: ∀n,Nat.ble 0 n=true:=fun n=>by rw[El];omega
  refine ⟨⟨fun n=> ?_,fun n=> ?_,fun n=> ?_⟩,fun n=> ?_,fun n=> ?_,fun n=> ?_,fun n hn=> ?_,fun n=> ?_⟩
  · simp only[Bd.os]
    split
    · refine ⟨?_,rfl⟩
      simp only[T.I,Pj]
      rw[if_neg (by omega),Nat.add_sub_cancel_left]
    · rename_i hn
      refine ⟨?_,(jln (S:=S) (ρ:=ρ) _).2⟩
      rw[hA.i n (lt100 hn),hρt]
      simp only[Hh,Bd.ts,hlow,if_true]
      exact (T.clear_den hback (jot (Yo c1 n rfl))).1
  · simp only[Bd.os]
    split
    · refine ⟨?_,rfl⟩
      simp only[T.B,Pj]
      rw[if_neg (by omega),Nat.add_sub_cancel_left]
    · rename_i hn
      refine ⟨?_,(jl0 (S:=S) (ρ:=ρ) _).2⟩
      rw[hA.b n (lt100 hn),hρt]
      simp only[Hh,Bd.ts,hlow,if_true]
      exact (T.clear_den hback (jmu (Yo c2 n rfl))).2.1
  · simp only[Bd.os]
    split
    · refine ⟨?_,rfl⟩
      simp only[T.A,Pj]
      rw[if_neg (by omega),Nat.add_sub_cancel_left]
    · rename_i hn
      refine ⟨?_,(jjc (S:=S) (ρ:=ρ) _).2⟩
      rw[hA.a n (lt100 hn),hρt]
      simp only[Hh,Bd.ts,hlow,if_true]
      exact (T.clear_den hback (jn2 (Yo c3 n rfl))).2.2
  · simp only[Bd.os]
    split
    · simp only[Aw.den,Pj]
      rw[if_neg (by omega),Nat.add_sub_cancel_left]
    · rename_i hn
      rw[hA.v n (lt100 hn),hρt]
      simp only[Hh,Nat.zero_le,if_true]
      cases hl:Ga m.v n with
      | none=>rfl
      | some x=>
        obtain ⟨k,hk⟩:=jg9 hl
        rw[List.all_eq_true] at c4
        exact Aw.clear_den hback (c4 _ hk)
  · have odd: ∀n,(Cl.old (nv+(2*n+1))).blk (Pj ρ ρt' nv na (B'-B) nbf) B=ρt'.blk n∧(Cl.old (nv+(2*n+1))).off (Pj ρ ρt' nv na (B'-B) nbf)=0:=by
      intro n
      refine ⟨?_,rfl⟩
      simp only[Cl.blk,Pj]
      rw[if_neg (by omega),Nat.add_sub_cancel_left,if_neg (by omega)]
      congr 1;omega
    simp only[Bd.os]
    split
    · exact odd n
    · rename_i hn
      split
      · rename_i r hr
        obtain ⟨k,hk⟩:=jg9 hr
        rw[List.all_eq_true] at c6
        have:=c6 _ hk
        simp only[RB.clear,Bool.and_eq_true] at this
        rw[hA.blk n (lt100 hn),hρt]
        simp only[Hh,Nat.zero_le,if_true,hr]
        have h2:=Cl.clear_den (B:=B) hback this.1
        refine ⟨h2.1,?_⟩
        rw[h2.2]
        cases r<;>first|rfl|(exact absurd this.2 (by simp))
      · exact odd n
  · refine ⟨?_,rfl⟩
    simp only[Bd.os,Cl.blk,Pj]
    rw[if_neg (by omega),Nat.add_sub_cancel_left,if_pos (by omega)]
    rw[show 2*n/2=n from by omega];omega
  · simp only[Bd.os,Pj]
    rw[if_neg (by omega),Nat.add_sub_cancel_left]
  · refine ⟨?_,Ax.2 ⟨trivial,fun _ h=>nomatch h⟩⟩
    simp only[Bd.os,Au,Cj,List.append_nil,Cp.den,Pj]
    rw[if_neg (by omega),Nat.add_sub_cancel_left]
theorem jia{l:List (Cl×Gn)}{r:Cl}(h:j4x l r=true): ∃x∈l,x.1=r:=by
  unfold j4x at h
  rw[List.any_eq_true] at h
  obtain ⟨x,hx,h⟩:=h
  exact ⟨x,hx,Cl.code_inj h⟩
set_option maxHeartbeats 1000000 in
theorem Ce{f:FuncId}{c:Hg}(hc:Cf P S f c):Dw P S f (Cx c):=by
  intro ρ w0 w h args r hs hmet hw hh
  unfold Cx at hs
  split at hs
  · rename_i m rest hfit
    split at hs
    · rename_i hck
      unfold js9 at hck
      simp only[Bool.and_eq_true] at hck
      obtain ⟨hgood,k1,k2,k3,k4,k5⟩:=hck
      unfold Hg.good at hgood
      simp only[Bool.and_eq_true] at hgood
      obtain ⟨g1,g2,g3,g4,g5,g6,g7,g8⟩:=hgood
      have g1:=Nat.eq_of_beq_eq_true g1
      have g2:=Nat.eq_of_beq_eq_true g2
      simp only[Option.some.injEq] at hs
      subst hs
      obtain ⟨m1,m2⟩:=Co.1 hmet
      have hge:w0.heap.size≤w.heap.size:=by have:=hh.size;omega
      obtain ⟨lb,hlb⟩: ∃lb:List Nat,(∀o,c.hp.ow=some o→ ∀p,h.ow=some p→(ρ.v p.v=.slice none 0 0∧p.a.A S ρ=[])∨ ∃b cap,lb=[b]∧ρ.v p.v=.slice (some ⟨b,0,none⟩) (p.a.A S ρ).length cap∧(p.a.A S ρ).length≤cap∧
            w.heap[b]? =some (.cells ((p.a.A S ρ).map (Value.int p.k)++List.replicate (cap-(p.a.A S ρ).length) (Value.int p.k 0)).toArray p.e (0,0))∧(w0.heap.size≤b∨b∈ρ.loose)∧(∀x∈h.rw,x.1.blk ρ w0.heap.size≠b)∧ ∀x∈h.ro,x.1.blk ρ w0.heap.size≠b)∧
          (∀b∈lb,(w0.heap.size≤b∨b∈ρ.loose)∧(∀x∈h.rw,x.1.blk ρ w0.heap.size≠b)∧ ∀x∈h.ro,x.1.blk ρ w0.heap.size≠b)∧(c.hp.ow=none→lb=[]):=by
        cases hco:c.hp.ow with
        | none=>exact ⟨[],(fun _ h=>nomatch h),(fun _ h=>nomatch h),fun _=>rfl⟩
        | some o=>
          cases hho:h.ow with
          | none=>exact ⟨[],(fun _ _ _ h=>nomatch h),(fun _ h=>nomatch h),(fun h=>nomatch h)⟩
          | some p=>
            rcases hh.own p hho with u|⟨b,cap,u1,u2,u3,u4,u5,u6⟩
            · exact ⟨[],fun _ _ p' hp'=>by cases hp';exact .inl u,(fun _ h=>nomatch h),(fun h=>nomatch h)⟩
            · refine ⟨[b],fun _ _ p' hp'=>by cases hp';exact .inr ⟨b,cap,rfl,u1,u2,u3,u4,u5,u6⟩,fun b' hb'=> ?_,(fun h=>nomatch h)⟩
              simp only[List.mem_singleton] at hb'
              subst hb'
              exact ⟨u4,u5,u6⟩
      obtain ⟨hlb1,hlb2,hlb3⟩:=hlb
      generalize hρt:Hh S 0 m ρ w0.heap.size (fun k=>k) lb=ρt
      have hr:Hf S 0 0 ρ ρt w0.heap.size w.heap.size m:=by
        rw[←hρt]
        exact jiv m1 (fun k hk=>absurd hk (by omega)) (fun h=>absurd h (by omega)) (.inr k2)
      have hts:(m.ts 0).Ok S ρ ρt:=by rw[←hρt];exact jzq _ _ _ _ _ _
      have htl:ρt.loose=lb:=by rw[←hρt];rfl
      have htn: ∀k,ρt.nb k=k:=by rw[←hρt];intro k;rfl
      obtain ⟨q0,q1,⟨p1,p2,p3⟩,q3,q4⟩:=jec (na:=0) hfit rfl hr hh hw g3 g4
      obtain ⟨a1,a2⟩:=je6 p1 hh.nd
      have hex: ∀x∈h.rw,x.1.blk ρ w0.heap.size<w.heap.size:=fun x hx=>(Array.getElem?_eq_some_iff.1 (hh.rw_ x hx)).1
      have hcal:Cv S ρt w c.hp w:=by
        refine ⟨?_,?_,?_,a1,fun t ht=>(q3 t ht).1,?_,?_,?_,?_,fun i _ _ _=>rfl,?_,rfl,rfl,rfl⟩
        · intro t ht
          obtain ⟨y,hy,e1,_,e3,e4,_⟩:=p3 t ht
          rw[e1,hh.rw_ y hy,e3,e4]
        · intro t ht
          obtain ⟨y,hy,_,_,_,_,e5⟩:=p3 t ht
          exact e5
        · intro t ht
          obtain ⟨y,hy,_,e2,_⟩:=p3 t ht
          rcases e2 with e2|e2
          · exact e2
          · rw[e2];exact hh.off y hy
        · intro t ht y hy
          rcases (q3 t ht).2 with ⟨_,x,hx,e⟩|⟨x,hx,e⟩
          · rw[e];exact fun e'=>a2 _ (List.mem_map.2 ⟨y,hy,rfl⟩) _ (List.mem_map.2 ⟨x,hx,rfl⟩) e'.symm
          · obtain ⟨x2,hx2,e2,_⟩:=p3 y hy
            rw[e,e2];exact hh.apart x hx x2 hx2
        · intro t ht
          rcases (q3 t ht).2 with ⟨_,x,hx,e⟩|⟨x,hx,e⟩
          · rw[e];exact hex x (p2 x hx)
          · rw[e];have:=hh.rolt x hx;omega
        · rw[g1,htn];omega
        · intro k _;rw[htn,htn]
        · intro o ho
          rcases q4 o ho with ⟨p,hp,v1,v2,v3,v4⟩|⟨v1,v2⟩
          · rcases hlb1 o ho p hp with ⟨u1,u2⟩|⟨b,cap,u0,u1,u2,u3,u4,u5,u6⟩
            · exact .inl ⟨by rw[v1,u1],by rw[v4,u2]⟩
            · refine .inr ⟨b,cap,by rw[v1,v4];exact u1,by rw[v4];exact u2,by rw[v4,v2,v3];exact u3,.inr (by rw[htl,u0];simp),fun y hy=> ?_,fun t ht=> ?_⟩
              · obtain ⟨x2,hx2,e2,_⟩:=p3 y hy
                rw[e2];exact u5 x2 hx2
              · rcases (q3 t ht).2 with ⟨_,x,hx,e⟩|⟨x,hx,e⟩
                · rw[e];exact u5 x (p2 x hx)
                · rw[e];exact u6 x hx
          · exact .inl ⟨v1,v2⟩
      have hcall:=hc ρt w w hcal (je1 hts m2) q1 (fun hn=>by rw[htl];exact hlb3 hn)
      rw[q0] at hcall
      refine hcall.mono ?_
      rintro e w' ⟨ρt',hA,hpost,hvw,rfl,hh'⟩
      have hA0:Cg 100 0 ρt ρt':=hA.weaken (Nat.le_refl _) (Nat.zero_le _)
      have hnb: ∀k,k<(if c.quiet then h.na+1000000000 else h.na)→(if c.quiet then ρ.nb k else if k<h.na then ρ.nb k else ρ.nb h.na+ρt'.nb 0+(k-h.na))=ρ.nb k:=by
        intro k hk
        cases hq:c.quiet with
        | true=>rfl
        | false=>simp only[hq,Bool.false_eq_true,if_false] at hk⊢;rw[if_pos hk]
      have hqz:c.quiet=true→ρt'.nb 0=0:=by
        intro hq
        rw[hA.nb 0 (by simp[Hg.na,hq]),htn]
      generalize hρ':Pj ρ ρt' h.nv (if c.quiet then h.na+1000000000 else h.na) (w.heap.size-w0.heap.size) (fun k=>if c.quiet then ρ.nb k else if k<h.na then ρ.nb k else ρ.nb h.na+ρt'.nb 0+(k-h.na))=ρ'
      have hB:Cg h.nv (if c.quiet then h.na+1000000000 else h.na) ρ ρ':=by rw[←hρ'];exact jgv hnb
      have hB0:Cg h.nv h.na ρ ρ':=hB.weaken (Nat.le_refl _) (by split<;>omega)
      have hos:(m.os h.nv).Ok S ρ' ρt' w0.heap.size w.heap.size:=by
        rw[←hρ']
        have k1':m.clear h.nv (if c.quiet then h.na+1000000000 else h.na)=true:=by
          have hr: ∀{na na':Nat},na≤na'→ ∀{r:Cl},r.clear h.nv na=true→r.clear h.nv na'=true:=by
            intro na na' hle r hr
            cases r<;>simp only[Cl.clear] at hr⊢ <;>try exact hr
            rw[El] at hr⊢;omega
          have hl: ∀{na na':Nat},na≤na'→ ∀{l:Aw},l.clear h.nv na=true→l.clear h.nv na'=true:=by
            intro na na' hle l
            induction l with
            | ptr r s d=>intro hl;simp only[Aw.clear,Bool.and_eq_true] at hl⊢;exact ⟨hr hle hl.1,hl.2⟩
            | sl r s d n k=>intro hl;simp only[Aw.clear,Bool.and_eq_true] at hl⊢;exact ⟨hr hle hl.1,hl.2⟩
            | iface t x ih=>intro hl;exact ih hl
            | _=>exact fun h=>h
          have hle:h.na≤(if c.quiet then h.na+1000000000 else h.na):=by split<;>omega
          unfold Bd.clear at k1⊢
          simp only[Bool.and_eq_true,List.all_eq_true] at k1⊢
          obtain ⟨c1,c2,c3,c4,c6⟩:=k1
          refine ⟨c1,c2,c3,fun x hx=>hl hle (c4 x hx),fun x hx=> ?_⟩
          have:=c6 x hx
          revert this
          cases x.2 with
          | o r=>intro h;simp only[RB.clear,Bool.and_eq_true] at h⊢;exact ⟨hr hle h.1,h.2⟩
          | _=>exact fun h=>h
        exact qfq k1' hρt.symm hA0 hge hnb
      have hlo:ρ'.loose=ρ.loose:=hB.loose
      have hnb': ∀k,ρ'.nb k=if c.quiet then ρ.nb k else if k<h.na then ρ.nb k else ρ.nb h.na+ρt'.nb 0+(k-h.na):=by rw[←hρ'];intro k;rfl
      have hsz:w'.heap.size=w.heap.size+ρt'.nb 0:=by have:=hh'.size;rw[g2] at this;exact this
      rw[List.all_eq_true] at g6 g7
      have href: ∀x∈c.hp'.rw,(x.1.outOk=true∧w.heap.size≤x.1.blk ρt' w.heap.size)∨(x.1.outOk=true∧ ∃y∈c.hp.rw,y.1=x.1∧x.1.blk ρt' w.heap.size=y.1.blk ρt w.heap.size):=by
        intro x hx
        have:=g6 x hx
        simp only[Bool.and_eq_true,Bool.or_eq_true] at this
        rcases this.1 with h1|⟨h1,h2⟩
        · left
          cases hxr:x.1<;>rw[hxr] at h1<;>first|(cases h1;done)|skip
          exact ⟨rfl,by simp only[Cl.blk];omega⟩
        · right
          obtain ⟨y,hy,e⟩:=jia h2
          cases hxr:x.1<;>rw[hxr] at h1<;>first|(cases h1;done)|skip
          · rename_i n
            have:=Nat.le_of_ble_eq_true h1
            refine ⟨rfl,y,hy,by rw[e,hxr],?_⟩
            rw[e,hxr]
            exact hA.blk n (by omega)
          · exact ⟨rfl,y,hy,by rw[e,hxr],by rw[e,hxr];rfl⟩
      have hold: ∀i,i<w.heap.size→i∉lb→(∀x∈c.hp.rw,x.1.blk ρt w.heap.size≠i)→w'.heap[i]? =w.heap[i]? :=by
        intro i hi hil hne
        refine hh'.frame i hi (by rw[hA.loose,htl];exact hil) fun x hx e=> ?_
        rcases href x hx with ⟨_,h1⟩|⟨_,y,hy,_,h2⟩
        · omega
        · exact hne y hy (by rw[←h2];exact e)
      have hnotin: ∀x∈rest,∀y∈c.hp.rw,y.1.blk ρt w.heap.size≠x.1.blk ρ w0.heap.size:=fun x hx y hy=>a2 _ (List.mem_map.2 ⟨y,hy,rfl⟩) _ (List.mem_map.2 ⟨x,hx,rfl⟩)
      have hrold: ∀x∈rest,w'.heap[x.1.blk ρ w0.heap.size]? =w.heap[x.1.blk ρ w0.heap.size]? :=fun x hx=>
        hold _ (hex x (p2 x hx)) (fun hb=>((hlb2 _ hb).2.1 x (p2 x hx)) rfl) (hnotin x hx)
      unfold Gm at k3
      unfold Gh at k4
      rw[List.all_eq_true] at k3 k4
      have kr: ∀x∈rest,x.1.blk ρ' w0.heap.size=x.1.blk ρ w0.heap.size∧x.1.off ρ'=x.1.off ρ∧Av S ρ' w0.heap.size x.2.segs=Av S ρ w0.heap.size x.2.segs∧(Cm S ρ x.2.segs→Cm S ρ' x.2.segs):=by
        intro x hx
        have:=k3 x hx
        simp only[Bool.and_eq_true] at this
        exact ⟨(Cl.clear_den hB0 this.1).1,(Cl.clear_den hB0 (B:=w0.heap.size) this.1).2,(Dv hB0 this.2).1,(Dv (B:=w0.heap.size) hB0 this.2).2⟩
      have ko: ∀x∈h.ro,x.1.blk ρ' w0.heap.size=x.1.blk ρ w0.heap.size∧x.1.off ρ'=x.1.off ρ∧x.2.2.A S ρ'=x.2.2.A S ρ:=by
        intro x hx
        have:=k4 x hx
        simp only[Bool.and_eq_true] at this
        exact ⟨(Cl.clear_den hB0 this.1).1,(Cl.clear_den hB0 (B:=w0.heap.size) this.1).2,(T.clear_den hB0 this.2).2.2⟩
      have hout: ∀x∈c.hp'.rw,(x.1.put (m.os h.nv)).blk ρ' w0.heap.size=x.1.blk ρt' w.heap.size∧(x.1.put (m.os h.nv)).off ρ'=x.1.off ρt'∧Av S ρ' w0.heap.size (x.2.segs.flatMap (Cp.put (m.os h.nv)))=Av S ρt' w.heap.size x.2.segs∧Cm S ρ' (x.2.segs.flatMap (Cp.put (m.os h.nv))):=by
        intro x hx
        have h1:=g6 x hx
        simp only[Bool.and_eq_true] at h1
        have ho:x.1.outOk=true:=by rcases href x hx with h|h<;>exact h.1
        obtain ⟨s1,s2⟩:=jei hos h1.2
        exact ⟨(Cl.put_den hos ho).1,(Cl.put_den hos ho).2,s1,s2 (hh'.wf x hx)⟩
      have hroOld: ∀x∈h.ro,w'.heap[x.1.blk ρ w0.heap.size]? =w.heap[x.1.blk ρ w0.heap.size]? :=by
        intro x hx
        refine hold _ (by have:=hh.rolt x hx;omega) (fun hb=>((hlb2 _ hb).2.2 x hx) rfl) fun y hy=> ?_
        obtain ⟨x2,hx2,e2,_⟩:=p3 y hy
        rw[e2];exact fun e=>hh.apart x hx x2 hx2 e.symm
      have hmem: ∀x∈rest++c.hp'.rw.map (fun x=>(x.1.put (m.os h.nv),(⟨x.2.ty,x.2.segs.flatMap (Cp.put (m.os h.nv))⟩:Gn))),x∈rest∨ ∃y∈c.hp'.rw,x=(y.1.put (m.os h.nv),(⟨y.2.ty,y.2.segs.flatMap (Cp.put (m.os h.nv))⟩:Gn)):=by
        intro x hx
        rcases List.mem_append.1 hx with hx|hx
        · exact .inl hx
        · obtain ⟨y,hy,e⟩:=List.mem_map.1 hx
          exact .inr ⟨y,hy,e.symm⟩
      have houtne: ∀y∈c.hp'.rw,∀x∈rest,y.1.blk ρt' w.heap.size≠x.1.blk ρ w0.heap.size:=by
        intro y hy x hx
        rcases href y hy with ⟨_,h1⟩|⟨_,z,hz,_,h2⟩
        · have:=hex x (p2 x hx);omega
        · rw[h2];exact hnotin x hx z hz
      refine ⟨ρ',hB,?_,(SR.put_den hos g5).2 hvw,by rw[(SR.put_den hos g5).1],?_,?_,?_,?_,?_,?_,?_,?_,?_,?_,?_,hh'.os.trans hh.os,hh'.tape.trans hh.tape,hh'.output.trans hh.output⟩
      · intro t ht
        obtain ⟨u,hu,rfl⟩:=List.mem_map.1 ht
        rw[(T.put_den hos.t u).2.1];exact hpost u hu
      · intro x hx
        rcases hmem x hx with hx|⟨y,hy,rfl⟩
        · rw[(kr x hx).1,(kr x hx).2.2.1,hrold x hx];exact hh.rw_ x (p2 x hx)
        · obtain ⟨o1,o2,o3,o4⟩:=hout y hy
          simp only[o1,o3]
          exact hh'.rw_ y hy
      · intro x hx
        rcases hmem x hx with hx|⟨y,hy,rfl⟩
        · exact (kr x hx).2.2.2 (hh.wf x (p2 x hx))
        · exact (hout y hy).2.2.2
      · intro x hx
        rcases hmem x hx with hx|⟨y,hy,rfl⟩
        · rw[(kr x hx).2.1];exact hh.off x (p2 x hx)
        · obtain ⟨o1,o2,o3,o4⟩:=hout y hy
          simp only[o2]
          exact hh'.off y hy
      · rw[List.map_append,List.map_map,List.nodup_append]
        refine ⟨?_,?_,?_⟩
        · rw[List.map_congr_left fun x hx=>(kr x hx).1]
          have:=p1.nodup_iff.2 hh.nd
          rw[List.nodup_append] at this
          exact this.2.1
        · have e:c.hp'.rw.map ((fun x:Cl×Gn=>x.1.blk ρ' w0.heap.size)∘fun x:Cl×Gn=>(x.1.put (m.os h.nv),(⟨x.2.ty,x.2.segs.flatMap (Cp.put (m.os h.nv))⟩:Gn)))=c.hp'.rw.map fun x=>x.1.blk ρt' w.heap.size:=
            List.map_congr_left fun x hx=>(hout x hx).1
          rw[e];exact hh'.nd
        · intro p hp q hq e
          obtain ⟨x,hx,rfl⟩:=List.mem_map.1 hp
          obtain ⟨y,hy,rfl⟩:=List.mem_map.1 hq
          simp only[Function.comp] at e
          rw[(kr x hx).1,(hout y hy).1] at e
          exact houtne y hy x hx e.symm
      · intro x hx j v hv
        rw[(ko x hx).1,(ko x hx).2.1]
        rw[(ko x hx).2.2] at hv
        rw[World.cell?_of_block (w:=w) (hroOld x hx)]
        exact hh.ro x hx j v hv
      · intro x hx y hy
        rw[(ko x hx).1]
        rcases hmem y hy with hy|⟨z,hz,rfl⟩
        · rw[(kr y hy).1];exact hh.apart x hx y (p2 y hy)
        · simp only[(hout z hz).1]
          rcases href z hz with ⟨_,h1⟩|⟨_,u,hu,_,h2⟩
          · have:=hh.rolt x hx;omega
          · obtain ⟨x2,hx2,e2,_⟩:=p3 u hu
            rw[h2,e2];exact hh.apart x hx x2 hx2
      · intro x hx
        rw[(ko x hx).1];exact hh.rolt x hx
      · have:=hh.size
        show w'.heap.size=w0.heap.size+ρ'.nb h.na
        rw[hnb',hsz]
        cases hq:c.quiet with
        | true=>simp only[if_true,hqz hq];omega
        | false=>simp only[Bool.false_eq_true,if_false,Nat.lt_irrefl];omega
      · intro k hk
        show ρ'.nb (k+1)=ρ'.nb k+1
        rw[hnb',hnb']
        cases hq:c.quiet with
        | true=>simp only[if_true];exact hh.nbs k hk
        | false=>
          simp only[Bool.false_eq_true,if_false]
          have hk:h.na≤k:=hk
          rw[if_neg (by omega),if_neg (by omega)];omega
      · intro i hi hil hne
        rw[hlo] at hil
        have hne1: ∀x∈h.rw,x.1.blk ρ w0.heap.size≠i:=by
          intro x hx e
          rcases jfd p1 (List.mem_map.2 ⟨x,hx,rfl⟩) with hc|hc
          · obtain ⟨t,ht,e'⟩:=List.mem_map.1 hc
            have h7:=g7 t ht
            simp only[Bool.and_eq_true] at h7
            obtain ⟨y,hy,e2⟩:=jia h7.2
            have hyb:y.1.blk ρt' w.heap.size=t.1.blk ρt w.heap.size:=by
              rw[e2]
              cases htr:t.1<;>rw[htr] at h7<;>first|(cases h7.1;done)|skip
              · rename_i n
                have:=Nat.le_of_ble_eq_true h7.1
                exact hA.blk n (by omega)
              · rfl
            refine hne _ (List.mem_append.2 (.inr (List.mem_map.2 ⟨y,hy,rfl⟩))) ?_
            simp only[(hout y hy).1]
            rw[hyb,e',e]
          · obtain ⟨z,hz,e'⟩:=List.mem_map.1 hc
            exact hne z (List.mem_append.2 (.inl hz)) (by rw[(kr z hz).1,e',e])
        rw[hold i (by omega) (fun hb=>by
          rcases (hlb2 i hb).1 with h1|h1
          · omega
          · exact hil h1) fun y hy=>by
          obtain ⟨x2,hx2,e2,_⟩:=p3 y hy
          rw[e2];exact hne1 x2 hx2]
        exact hh.frame i hi hil hne1
      · intro o ho
        cases hco:c.hp.ow with
        | none=>
          simp only[hco] at ho k5
          have hcl:=Py (S:=S) hB0 k5 ho
          rcases hh.own o ho with h'|⟨b,cp,u1,u2,u3,u4,u5,u6⟩
          · exact .inl ⟨by rw[hcl.1];exact h'.1,by rw[hcl.2];exact h'.2⟩
          · have hb:b<w.heap.size:=(Array.getElem?_eq_some_iff.1 u3).1
            have hbo:w'.heap[b]? =w.heap[b]? :=hold b hb (by rw[hlb3 hco];simp) fun y hy=>by
              obtain ⟨x2,hx2,e2,_⟩:=p3 y hy
              rw[e2];exact u5 x2 hx2
            refine .inr ⟨b,cp,by rw[hcl.1,hcl.2];exact u1,by rw[hcl.2];exact u2,by rw[hcl.2,hbo];exact u3,by rw[hlo];exact u4,fun x hx=> ?_,fun x hx=>by rw[(ko x hx).1];exact u6 x hx⟩
            rcases hmem x hx with hx|⟨y,hy,rfl⟩
            · rw[(kr x hx).1];exact u5 x (p2 x hx)
            · simp only[(hout y hy).1]
              rcases href y hy with ⟨_,h1⟩|⟨_,z,hz,_,h2⟩
              · omega
              · obtain ⟨x2,hx2,e2,_⟩:=p3 z hz
                rw[h2,e2];exact u5 x2 hx2
        | some oc=>
          simp only[hco,Option.map_eq_some_iff] at ho g8
          obtain ⟨o',ho',rfl⟩:=ho
          rw[ho'] at g8
          have h100:=Nat.le_of_ble_eq_true g8
          have ev:ρ'.v (h.nv+o'.v)=ρt'.v o'.v:=by
            rw[←hρ'];simp only[Pj];rw[if_neg (by omega),Nat.add_sub_cancel_left]
          have ea:(o'.a.put (m.os h.nv).t).A S ρ'=o'.a.A S ρt':=(T.put_den hos.t o'.a).2.2
          rcases hh'.own o' ho' with h'|⟨b,cp,u1,u2,u3,u4,u5,u6⟩
          · exact .inl ⟨by simp only[ev];exact h'.1,by simp only[ea];exact h'.2⟩
          · have hbb:w.heap.size≤b∨b∈lb:=by rw[hA.loose,htl] at u4;exact u4
            refine .inr ⟨b,cp,by simp only[ev,ea];exact u1,by simp only[ea];exact u2,by simp only[ea];exact u3,?_,fun x hx=> ?_,fun x hx=> ?_⟩
            · rcases hbb with h1|h1
              · exact .inl (by omega)
              · rw[hlo];exact (hlb2 b h1).1
            · rcases hmem x hx with hx|⟨y,hy,rfl⟩
              · rw[(kr x hx).1]
                rcases hbb with h1|h1
                · have:=hex x (p2 x hx);omega
                · exact (hlb2 b h1).2.1 x (p2 x hx)
              · simp only[(hout y hy).1];exact u5 y hy
            · rw[(ko x hx).1]
              rcases hbb with h1|h1
              · have:=hh.rolt x hx;omega
              · exact (hlb2 b h1).2.2 x hx
    · cases hs
  · cases hs
end
end
end Go.Proofs.YtljjbikbfeigdaaGreatDoor
