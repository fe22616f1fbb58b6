/- Part of the proof of FnColorEdgesCardSaid: A contract is shown by a walk: what is asked on the way, and in the end. -/
import Derived.Test.YtljjbikbfeigdaaGreatDoorCe07
import Derived.Test.YtljjbikbfeigdaaGreatDoorProg
set_option linter.all false
namespace Go.Proofs.YtljjbikbfeigdaaGreatDoor
noncomputable section
open Go
def Gp(c:Hg):Ec:=fun args h=>
  match Cx c args h with
  | some r=>if c.quiet&&r.facts.isEmpty&&r.val.clear h.nv h.na&&Gm h.nv h.na r.heap.rw&&Gh h.nv h.na r.heap.ro&&Se h.nv r.heap.ow then some ⟨r.need,r.val,{r.heap with nv:=h.nv}⟩ else none
  | none=>none
inductive VC where
  | need (c:List T) (k:VC)
  | cond (c:T) (a b:VC)
  | any (ns na:Nat) (facts:List T) (k:VC)
  | done
  | fail (s:String)
  deriving Inhabited
def jlf(c:Hg)(v:SR)(h:Hp):VC:=
  match jn9 100 [c.val] c.hp' [v] h with
  | some (m,rest)=>if jvv 100 [c.val] c.hp' h rest c.quiet then .need (m.needs 100++c.post.map (T.put (m.ts 100))) .done else .fail "leaf template"
  | none=>.fail "leaf fit"
def Jg.vc(P:Program)(rs:List ResultVar)(c:Hg):Jg→VC
  | .need l k=>.need l (k.vc P rs c)
  | .cond t x y=>.cond t (x.vc P rs c) (y.vc P rs c)
  | .any ns na facts k=>if (Nat.ble 100 ns).and (Nat.ble c.na na) then .any ns na facts (k.vc P rs c) else .fail "names"
  | .ret v h=>jlf c v h
  | .fall fr h=>match jog P (Do fr) h rs with
    | some v=>jlf c v h
    | none=>.fail "result"
  | .done=>.done
  | .tight k=>match c.hp.ow with
    | none=>k.vc P rs c
    | some _=>.fail "tight"
  | .fail s=>.fail s
  | .out _ _ _=>.fail "out"
  | .stop (o::_) _ _ _ _=>.fail ("stop " ++o.pos)
  | .stop [] _ _ _ _=>.fail "stop"
section
variable (S:Hw)
def VC.ok:VC→Et→Prop
  | .need c k,ρ=>Dx S ρ c∧k.ok ρ
  | .cond c a b,ρ=>(c.B S ρ=true→a.ok ρ)∧(c.B S ρ=false→b.ok ρ)
  | .any ns na facts k,ρ=> ∀ρ',Cg ns na ρ ρ'→Dx S ρ' facts→k.ok ρ'
  | .done,_=>True
  | .fail _,_=>False
def hyp(ρ:Et):List T→Prop→Prop
  | [],p=>p
  | t::l,p=>t.B S ρ=true→hyp ρ l p
def VC.sem(ρ:Et):VC→Prop
  | .need c k=>Dx S ρ c∧hyp S ρ c (k.sem ρ)
  | .cond c a b=>(c.B S ρ=true→a.sem ρ)∧(c.B S ρ=false→b.sem ρ)
  | .any _ _ facts k=>hyp S ρ facts (k.sem ρ)
  | .done=>True
  | .fail _=>False
end
def jkd(l:List T)(t:T):Bool:=match l with
  | []=>false
  | x::l=>match x.same t with
    | true=>true
    | false=>jkd l t
def j6i(t:T):T:=match t with
  | .not u=>u
  | t=>.not t
def Ro(hs:List T):List T→List T
  | []=>[]
  | t::l=>match jkd hs t with
    | true=>Ro hs l
    | false=>t::Ro hs l
def qka(c:List T)(k:VC):VC:=match c with| []=>k|c=>.need c k
def VC.prep(hs:List T):VC→Option VC
  | .need c k=>match Ro hs c with
    | []=>k.prep hs
    | c'=>match k.prep (hs++c') with
      | some k'=>some (.need c' k')
      | none=>none
  | .cond c a b=>
    match jkd hs c with
    | true=>a.prep hs
    | false=>match jkd hs (j6i c) with
      | true=>b.prep hs
      | false=>match a.prep (hs++ [c]),b.prep (hs++ [j6i c]) with
        | some a',some b'=>some (.cond c a' b')
        | _,_=>none
  | .any ns na facts k=>match hs.all (T.clear ns) with
    | true=>match k.prep (hs++facts) with
      | some k'=>some (.any ns na facts k')
      | none=>none
    | false=>none
  | .done=>some .done
  | .fail s=>some (.fail s)
section
variable {S:Hw} {ρ:Et} {w0:World} {P:Program}
theorem Dq{f:FuncId}{c:Hg}(hc:Cf P S f c):Ei P S f (Gp c):=by
  intro ρ w0 w h args r hs hmet hw hh
  unfold Gp at hs
  split at hs
  · rename_i rr hr
    split at hs
    · rename_i hck
      simp only[Bool.and_eq_true,List.isEmpty_iff] at hck
      obtain ⟨⟨⟨⟨⟨hq,hf⟩,k1⟩,k2⟩,k3⟩,k4⟩:=hck
      cases hs
      have hcall:=Ce hc ρ w0 w h args rr hr hmet hw hh
      have hx:rr.ns=h.nv∧rr.na=h.na+1000000000∧rr.heap.na=h.na:=by
        unfold Cx at hr
        split at hr
        · split at hr
          · cases hr;simp[hq]
          · cases hr
        · cases hr
      have key: ∀(ρ':Et) (w':World),Cg rr.ns rr.na ρ ρ'→rr.val.wf S ρ'→Cv S ρ' w0 rr.heap w'→rr.val.wf S ρ∧rr.val.den S ρ' w0.heap.size=rr.val.den S ρ w0.heap.size∧Cv S ρ w0 {rr.heap with nv:=h.nv} w':=by
        intro ρ' w' hA hv hh'
        have hA1:Cg h.nv h.na ρ ρ':=hA.weaken (by omega) (by omega)
        have hA2:Cg h.nv h.na ρ' ρ:=⟨fun k hk=>(hA1.i k hk).symm,fun k hk=>(hA1.b k hk).symm,fun k hk=>(hA1.a k hk).symm,fun k hk=>(hA1.v k hk).symm,fun k hk=>(hA1.j k hk).symm,fun k hk=>(hA1.blk k hk).symm,fun k hk=>(hA1.off k hk).symm,fun k hk=>(hA1.vs k hk).symm,fun k hk=>(hA1.nb k hk).symm,hA1.loose.symm⟩
        obtain ⟨v1,v2⟩:=SR.clear_den (S:=S) (B:=w0.heap.size) hA2 k1
        unfold Gm at k2
        unfold Gh at k3
        rw[List.all_eq_true] at k2 k3
        have kr: ∀x∈rr.heap.rw,x.1.blk ρ w0.heap.size=x.1.blk ρ' w0.heap.size∧x.1.off ρ=x.1.off ρ'∧Av S ρ w0.heap.size x.2.segs=Av S ρ' w0.heap.size x.2.segs∧(Cm S ρ' x.2.segs→Cm S ρ x.2.segs):=by
          intro x hx
          have:=k2 x hx
          simp only[Bool.and_eq_true] at this
          exact ⟨(Cl.clear_den hA2 this.1).1,(Cl.clear_den hA2 (B:=w0.heap.size) this.1).2,(Dv hA2 this.2).1,(Dv (B:=w0.heap.size) hA2 this.2).2⟩
        have ko: ∀x∈rr.heap.ro,x.1.blk ρ w0.heap.size=x.1.blk ρ' w0.heap.size∧x.1.off ρ=x.1.off ρ'∧x.2.2.A S ρ=x.2.2.A S ρ':=by
          intro x hx
          have:=k3 x hx
          simp only[Bool.and_eq_true] at this
          exact ⟨(Cl.clear_den hA2 this.1).1,(Cl.clear_den hA2 (B:=w0.heap.size) this.1).2,(T.clear_den hA2 this.2).2.2⟩
        refine ⟨v2 hv,v1.symm,?_,?_,?_,?_,?_,?_,?_,?_,?_,?_,?_,hh'.os,hh'.tape,hh'.output⟩
        · intro x hx;rw[(kr x hx).1,(kr x hx).2.2.1];exact hh'.rw_ x hx
        · intro x hx;exact (kr x hx).2.2.2 (hh'.wf x hx)
        · intro x hx;rw[(kr x hx).2.1];exact hh'.off x hx
        · show (rr.heap.rw.map _).Nodup
          rw[List.map_congr_left fun x hx=>(kr x hx).1];exact hh'.nd
        · intro x hx j v hv
          rw[(ko x hx).1,(ko x hx).2.1]
          rw[(ko x hx).2.2] at hv
          exact hh'.ro x hx j v hv
        · intro x hx y hy;rw[(ko x hx).1,(kr y hy).1];exact hh'.apart x hx y hy
        · intro x hx;rw[(ko x hx).1];exact hh'.rolt x hx
        · have:=hh'.size
          show _=w0.heap.size+ρ.nb rr.heap.na
          rw[hx.2.2] at this⊢
          rw[this,hA.nb h.na (by omega)]
        · intro k hk
          have hk:rr.heap.na≤k:=hk
          rw[hx.2.2] at hk
          exact hh.nbs k hk
        · intro i hi hil hne
          exact hh'.frame i hi (by rw[hA1.loose];exact hil) fun x hx=>by rw[←(kr x hx).1];exact hne x hx
        · intro o ho
          have hcl:=Py (S:=S) hA2 k4 ho
          rcases hh'.own o ho with u|⟨b,cap,u1,u2,u3,u4,u5,u6⟩
          · exact .inl ⟨by rw[hcl.1];exact u.1,by rw[hcl.2];exact u.2⟩
          · exact .inr ⟨b,cap,by rw[hcl.1,hcl.2];exact u1,by rw[hcl.2];exact u2,by rw[hcl.2];exact u3,by rw[hA2.loose];exact u4,fun x hx=>by rw[(kr x hx).1];exact u5 x hx,fun x hx=>by rw[(ko x hx).1];exact u6 x hx⟩
      obtain ⟨e,w',fr,⟨ρ',b1,b2,b3,b4,b5⟩,_⟩:=hcall []
      refine ⟨(key ρ' w' b1 b3 b5).1,hcall.mono ?_⟩
      rintro e w' ⟨ρ',b1,b2,b3,rfl,b5⟩
      obtain ⟨c1,c2,c3⟩:=key ρ' w' b1 b3 b5
      exact ⟨by rw[c2],c3⟩
    · cases hs
  · cases hs
theorem jk3: ∀{l:List T} {p:Prop},hyp S ρ l p→Dx S ρ l→p
  | [],_,h,_=>h
  | t::l,p,h,hm=>jk3 (l:=l) (h (Ag.1 hm).1) (Ag.1 hm).2
theorem Mu: ∀{l:List T} {t:T},jkd l t=true→t∈l
  | [],_,h=>by cases h
  | x::l,t,h=>by
    unfold jkd at h
    split at h
    · rename_i hs;rw[T.same_spec hs];exact List.mem_cons_self ..
    · exact List.mem_cons_of_mem _ (Mu h)
theorem jqe{t:T}:(j6i t).B S ρ=true↔t.B S ρ=false:=by
  unfold j6i
  split
  · simp only[T.B];simp
  · simp only[T.B];simp
theorem Nf{hs:List T}(h:Dx S ρ hs): ∀{l:List T},Dx S ρ (Ro hs l)→Dx S ρ l
  | [],_=>Dx.nil
  | t::l,hm=>by
    unfold Ro at hm
    split at hm
    · rename_i hmem
      exact Ag.2 ⟨h t (Mu hmem),Nf h hm⟩
    · exact Ag.2 ⟨(Ag.1 hm).1,Nf h (Ag.1 hm).2⟩
theorem Qn: ∀{vc vc':VC} {hs:List T},vc.prep hs=some vc'→(∀ρ,Dx S ρ hs→vc'.sem S ρ)→ ∀ρ,Dx S ρ hs→vc.ok S ρ
  | .need c k,vc',hs,h,hq,ρ,hm=>by
    simp only[VC.prep] at h
    split at h
    · rename_i he
      exact ⟨Nf hm (by rw[he];exact Dx.nil),Qn h hq ρ hm⟩
    · rename_i c' _
      split at h
      · rename_i k' hk
        cases h
        have h1:=(hq ρ hm).1
        exact ⟨Nf hm h1,Qn hk (fun ρ h=>jk3 (hq ρ (Co.1 h).1).2 (Co.1 h).2) ρ (Co.2 ⟨hm,h1⟩)⟩
      · cases h
  | .cond c a b,vc',hs,h,hq,ρ,hm=>by
    simp only[VC.prep] at h
    split at h
    · rename_i he
      have hc:=hm c (Mu he)
      exact ⟨fun _=>Qn h hq ρ hm,fun hf=>by rw[hc] at hf;cases hf⟩
    · split at h
      · rename_i he
        have hc:=jqe.1 (hm _ (Mu he))
        exact ⟨fun hf=>(by rw[hc] at hf;cases hf),fun _=>Qn h hq ρ hm⟩
      · split at h
        · rename_i a' b' ha hb
          cases h
          constructor
          · intro hc
            exact Qn ha (fun ρ h=>(hq ρ (Co.1 h).1).1 ((Co.1 h).2 _ (by simp))) ρ (Co.2 ⟨hm,Ag.2 ⟨hc,Dx.nil⟩⟩)
          · intro hc
            exact Qn hb (fun ρ h=>(hq ρ (Co.1 h).1).2 (jqe.1 ((Co.1 h).2 _ (by simp)))) ρ (Co.2 ⟨hm,Ag.2 ⟨jqe.2 hc,Dx.nil⟩⟩)
        · cases h
  | .any ns na facts k,vc',hs,h,hq,ρ,hm=>by
    simp only[VC.prep] at h
    split at h
    · rename_i hcl
      split at h
      · rename_i k' hk
        cases h
        intro ρ' hA hf
        exact Qn hk (fun ρ h=>jk3 (S:=S) (ρ:=ρ) (l:=facts) (hq ρ (Co.1 h).1) (Co.1 h).2) ρ' (Co.2 ⟨Ot hA hcl hm,hf⟩)
      · cases h
    · cases h
  | .done,_,_,_,_,_,_=>trivial
  | .fail s,vc',hs,h,hq,ρ,hm=>by
    simp only[VC.prep,Option.some.injEq] at h
    subst h
    exact hq ρ hm
theorem qiv{c:Hg}{rs:List ResultVar}{Q:Exit→Act→World→Prop}{ρ0:Et}(hna:c.hp'.na=0)(hlo:c.hp.ow=none→ρ0.loose=[]): ∀{o:Jg} {ρ:Et},(o.vc P rs c).ok S ρ→Cg 100 c.na ρ0 ρ→
    (∀(a:Act) (w:World) (v:Value),a.defers=[]→(Sz rs a.tmps).run P w=.ok v w→(∃ρ',Cg 100 c.na ρ0 ρ'∧Dx S ρ' c.post∧c.val.wf S ρ'∧v=c.val.den S ρ' w0.heap.size∧Cv S ρ' w0 c.hp' w)→Q .ret a w∧Q .normal a w)→o.okA P S w0 rs Q ρ:=by
  have leaf: ∀{ρ:Et} {v:SR} {h:Hp},(jlf c v h).ok S ρ→Cg 100 c.na ρ0 ρ→ ∀w,v.wf S ρ→Cv S ρ w0 h w→ ∃ρ',Cg 100 c.na ρ0 ρ'∧Dx S ρ' c.post∧c.val.wf S ρ'∧v.den S ρ w0.heap.size=c.val.den S ρ' w0.heap.size∧Cv S ρ' w0 c.hp' w:=by
    intro ρ v h hv hA w hw hh
    unfold jlf at hv
    split at hv
    · rename_i m rest hfit
      split at hv
      · rename_i ht
        unfold jvv at ht
        simp only[Bool.and_eq_true] at ht
        obtain ⟨t1,t2,t3,t4,t5,t6⟩:=ht
        rw[El] at t5
        obtain ⟨n1,n2⟩:=Co.1 hv.1
        obtain ⟨ρ',h1,h2,h3,h4,h5⟩:=jha hfit n1 hh (fun y hy=>by simp only[List.mem_singleton] at hy;subst hy;exact hw) t1 t2 (jfa t3) t5 t4 c.quiet (fun hq=>by rw[hq] at t6;exact Nat.eq_of_beq_eq_true (by simpa using t6))
        refine ⟨ρ',?_,je1 h2 n2,h4 _ (by simp),?_,h5⟩
        · refine hA.trans h1 (Nat.le_refl _) ?_
          rw[hna];unfold Hg.na;split<;>omega
        · simpa using h3.symm
      · exact hv.elim
    · exact hv.elim
  intro o
  induction o with
  | need l k ih=>intro ρ h hA hq;exact ⟨h.1,ih h.2 hA hq⟩
  | cond t x y ih1 ih2=>intro ρ h hA hq;exact ⟨fun hc=>ih1 (h.1 hc) hA hq,fun hc=>ih2 (h.2 hc) hA hq⟩
  | any ns na facts k ih=>
    intro ρ h hA hq
    simp only[Jg.vc] at h
    split at h
    · rename_i hc
      simp only[Bool.and_eq_true] at hc
      rw[El,El] at hc
      intro ρ' hA' hf
      exact ih (h ρ' hA' hf) (hA.trans hA' hc.1 hc.2|>.weaken (Nat.le_refl _) (Nat.le_refl _)) hq
    · exact h.elim
  | ret v h'=>
    intro ρ h hA hq a w g1 g2 g3 g4
    exact (hq a w _ g2 g3 (leaf h hA w g1 g4)).1
  | fall fr h'=>
    intro ρ h hA hq
    simp only[Jg.vc] at h
    split at h
    · rename_i v hv
      exact fun a w hf hh=>(hq a w _ hf.defers (jdi hh hf hv) (leaf h hA w (jdk hh (Gs hf.wf) hv) hh)).2
    · exact h.elim
  | done=>intro ρ h hA hq;trivial
  | tight k ih=>
    intro ρ h hA hq
    simp only[Jg.vc] at h
    split at h
    · rename_i hn;exact ⟨by rw[hA.loose];exact hlo hn,ih h hA hq⟩
    · exact h.elim
  | fail s=>intro ρ h hA hq;exact h.elim
  | out id fr h'=>intro ρ h hA hq;exact h.elim
  | stop rest all ks fr h'=>intro ρ h hA hq;cases rest<;>exact h.elim
end
def Bi(l:List (Cl×Gn)):List T:=l.flatMap fun x=>x.2.segs.flatMap fun g=>match g with|.arr _ a n=>[.eq (.len a) (.lit n)]|_=>[]
theorem jjx{S:Hw}{ρ:Et}{l:List (Cl×Gn)}(h: ∀x∈l,Cm S ρ x.2.segs):Dx S ρ (Bi l):=by
  intro t ht
  unfold Bi at ht
  rw[List.mem_flatMap] at ht
  obtain ⟨x,hx,ht⟩:=ht
  rw[List.mem_flatMap] at ht
  obtain ⟨g,hg,ht⟩:=ht
  have:=h x hx g hg
  split at ht
  · simp only[List.mem_singleton] at ht
    subst ht
    rename_i k a n
    have this:(a.A S ρ).length=n:=this
    show decide (((a.A S ρ).length:Int)=(n:Int))=true
    exact decide_eq_true (by omega)
  · cases ht
def Db(P:Program)(specs:Nat→Option Ec)(rsp:Nat→Option Ff)(tab:Tab)(fuel:Nat)(f:Nat)(c:Hg):Option VC:=
  match P.funcs[f]? with
  | some fn=>match fn.body with
    | some b=>if (Nat.beq c.hp.na 0).and (Nat.beq c.hp'.na 0) then
        ((Fc P specs rsp tab fuel ⟨fn.results.toList,tab.lt f⟩ (.code b) [] (c.args++List.replicate (fn.ntmps-c.args.length) (.v (.one .undef))) c.hp).vc P fn.results.toList c).prep (c.pre++Bi c.hp.rw)
      else none
    | none=>none
  | none=>none
theorem qcj{P:Program}{S:Hw}(hm:P.follows .mixedOrders=true)(hD:jdl P){specs:Nat→Option Ec}{rsp:Nat→Option Ff}{tab:Tab}(hsp: ∀f s,specs f=some s→Ei P S f s)(hrsp: ∀f s,rsp f=some s→Dw P S f s)
    {fuel f:Nat}{c:Hg}{vc:VC}(h:Db P specs rsp tab fuel f c=some vc)(hv: ∀ρ,Dx S ρ (c.pre++Bi c.hp.rw)→vc.sem S ρ):Cf P S f c:=by
  unfold Db at h
  split at h
  · rename_i fn hfn
    split at h
    · rename_i b hb
      split at h
      · rename_i hna
        simp only[Bool.and_eq_true] at hna
        intro ρ w0 w hh hpre hw hlo
        refine calls_of_wp hfn hb ?_
        have hok:=Qn h hv ρ (Co.2 ⟨hpre,jjx hh.wf⟩)
        refine jtb (tab:=tab) hm hD hsp hrsp fuel ⟨fn.results.toList,tab.lt f⟩ ρ _ (.code b) [] _ c.hp (hD f fn b hfn hb) rfl trivial ?_ _ w (jgc hw fn.ntmps) hh
        refine qiv (Nat.eq_of_beq_eq_true hna.2) hlo hok (Cg.rfl' _ _ ρ) ?_
        intro a w' v g1 g2 ⟨ρ',q1,q2,q3,q4,q5⟩
        have hp:bodyPost P fn (fun e w'=> ∃ρ',Cg 100 c.na ρ ρ'∧Dx S ρ' c.post∧c.val.wf S ρ'∧e=.returned (c.val.den S ρ' w0.heap.size)∧Cv S ρ' w0 c.hp' w') .ret a w':=by
          refine ⟨g1,_,by rw[Oz];exact g2,ρ',q1,q2,q3,by rw[q4],q5⟩
        exact ⟨hp,hp⟩
      · cases h
    · cases h
  · cases h
section
variable {S:Hw} {ρ:Et} {w0:World} {P:Program} {specs:Nat→Option Ec} {rs:List ResultVar}
theorem jds{Q:Exit→Act→World→Prop}: ∀{o:Jg} {r:Sb},o.flat P rs=some r→Dx S ρ r.need→
    (∀(a:Act) (w:World),r.val.wf S ρ→a.defers=[]→(Sz rs a.tmps).run P w=.ok (r.val.den S ρ w0.heap.size) w→Cv S ρ w0 r.heap w→Q .ret a w∧Q .normal a w)→o.ok P S ρ w0 rs Q
  | .need c k,r,h,hm,hq=>by
    simp only[Jg.flat] at h
    split at h
    · rename_i r' hr'
      cases h
      exact ⟨(Co.1 hm).1,jds hr' (Co.1 hm).2 hq⟩
    · cases h
  | .ret v h',r,h,hm,hq=>by
    simp only[Jg.flat,Option.some.injEq] at h
    subst h
    exact fun a w h1 h2 h3 h4=>(hq a w h1 h2 h3 h4).1
  | .fall fr h',r,h,hm,hq=>by
    simp only[Jg.flat,Option.map_eq_some_iff] at h
    obtain ⟨v,hv,rfl⟩:=h
    exact fun a w hf hh=>(hq a w (jdk hh (Gs hf.wf) hv) hf.defers (jdi hh hf hv) hh).2
  | .cond c x y,r,h,hm,hq=>by
    simp only[Jg.flat] at h
    split at h
    · rename_i r' _ hr'
      cases h
      have hc:=hm (.not c) (List.mem_cons_self)
      simp only[T.B,Bool.not_eq_true'] at hc
      exact ⟨fun h=>absurd (h.symm.trans hc) (by simp),fun _=>jds hr' (fun t ht=>hm t (List.mem_cons_of_mem _ ht)) hq⟩
    · rename_i r' hr' _
      cases h
      have hc:=hm c (List.mem_cons_self)
      exact ⟨fun _=>jds hr' (fun t ht=>hm t (List.mem_cons_of_mem _ ht)) hq,fun h=>absurd (h.symm.trans hc) (by simp)⟩
    · cases h
  | .any ..,_,h,_,_=>by cases h
  | .fail _,_,h,_,_=>by cases h
  | .out ..,_,h,_,_=>by cases h
  | .stop ..,_,h,_,_=>by cases h
  | .done,_,h,_,_=>by cases h
  | .tight _,_,h,_,_=>by cases h
theorem Sj(hm:P.follows .mixedOrders=true)(hD:jdl P){base:Nat→Option Ec}{ok:Nat→Bool}(hbase: ∀f s,base f=some s→Ei P S f s)(fuel:Nat): ∀(n f:Nat) (s:Ec),jeh P ok base fuel n f=some s→Ei P S f s:=by
  intro n
  induction n with
  | zero=>exact hbase
  | succ n ih=>
    intro f s hs
    simp only[jeh] at hs
    split at hs
    · rename_i s' hb
      cases hs
      exact hbase f s hb
    · split at hs
      · unfold jse at hs
        split at hs
        · rename_i fn hfn
          split at hs
          · rename_i c hc
            cases hs
            intro ρ w0 w h args r hs hmet hw hh
            have hgoal:Calls P f (args.map (SR.den S ρ w0.heap.size)).toArray w (fun e w'=>(e=.returned (r.val.den S ρ w0.heap.size)∧Cv S ρ w0 r.heap w')∧r.val.wf S ρ):=by
              refine calls_of_wp hfn hc ?_
              have hok:=jds (w0:=w0) (Q:=bodyPost P fn (fun e w'=>(e=.returned (r.val.den S ρ w0.heap.size)∧Cv S ρ w0 r.heap w')∧r.val.wf S ρ)) hs hmet (by
                intro a w' q1 q2 q3 q4
                have:bodyPost P fn (fun e w'=>(e=.returned (r.val.den S ρ w0.heap.size)∧Cv S ρ w0 r.heap w')∧r.val.wf S ρ) .ret a w':=by
                  refine ⟨q2,_,?_,⟨rfl,q4⟩,q1⟩
                  rw[Oz];exact q3
                exact ⟨this,this⟩)
              exact jtb hm hD ih (rsp:=fun _=>none) (fun _ _ h=>by cases h) _ ⟨fn.results.toList,fun _=>none⟩ _ _ (.code c) [] _ h (hD f fn c hfn hc) rfl trivial hok _ w (jgc hw fn.ntmps) hh
            obtain ⟨e,w',fr,hr,_⟩:=hgoal []
            exact ⟨hr.2,Calls.mono hgoal fun e w' h=>h.1⟩
          · cases hs
        · cases hs
      · cases hs
end
def Za(P:Program)(f:Nat):Bool:=
  match P.funcs[f]? with
  | some fn=>match fn.body with
    | some c=>Ji c
    | none=>true
  | none=>true
theorem jcn:Tryz.prog.follows .mixedOrders=true:=by kernel_rfl
theorem qaq:(List.range 40).all (Za Tryz.prog)=true:=by kernel_rfl
theorem qdn:(List.range' 40 40).all (Za Tryz.prog)=true:=by kernel_rfl
theorem j90:(List.range' 80 40).all (Za Tryz.prog)=true:=by kernel_rfl
theorem qc7:(List.range' 120 40).all (Za Tryz.prog)=true:=by kernel_rfl
theorem qcs:(List.range' 160 40).all (Za Tryz.prog)=true:=by kernel_rfl
theorem qdz:Tryz.prog.funcs.size=200:=by kernel_rfl
theorem Hq:jdl Tryz.prog:=by
  intro f fn c hf hc
  have hlt:f<200:=by
    have:=(Array.getElem?_eq_some_iff.1 hf).1
    rw[qdz] at this;exact this
  have key:Za Tryz.prog f=true:=by
    rcases Nat.lt_or_ge f 40 with h|h
    · exact List.all_eq_true.1 qaq f (List.mem_range.2 h)
    · rcases Nat.lt_or_ge f 80 with h1|h1
      · exact List.all_eq_true.1 qdn f (List.mem_range'_1.2 ⟨h,by omega⟩)
      · rcases Nat.lt_or_ge f 120 with h2|h2
        · exact List.all_eq_true.1 j90 f (List.mem_range'_1.2 ⟨h1,by omega⟩)
        · rcases Nat.lt_or_ge f 160 with h3|h3
          · exact List.all_eq_true.1 qc7 f (List.mem_range'_1.2 ⟨h2,by omega⟩)
          · exact List.all_eq_true.1 qcs f (List.mem_range'_1.2 ⟨h3,by omega⟩)
  unfold Za at key
  rw[hf] at key
  simp only[hc] at key
  exact key
def app(a b:T):T:=.splice a (.len a) b
def one(t:T):T:=.set (.alit [0]) (.lit 0) t
def p0(r:Cl):SR:=.v (.one (.ptr r 0 (.lit 0)))
def pL0(r:Cl):Aw:=.ptr r 0 (.lit 0)
def slR(r:Cl)(d l c:T):SR:=.v (.one (.sl r 0 d l c))
def Jt:Nat→Option Ec:=fun _=>none
def Jq:Nat→Option Ff:=fun _=>none
def jt4:Tab:=⟨fun _ _=>none,fun _=>false⟩
def Di(a t b:T):List T:=[.le a t,.le t b]
def jzg(b lo hi:Nat)(tr:List (Nat×SR)):Nat→List SR→List SR
  | _,[]=>[]
  | n,x::l=>(match Ga tr n with
    | some y=>y
    | none=>if Nat.ble lo n&&Nat.ble (n+1) hi then .v (.one (.junk (b+100+n))) else x)::jzg b lo hi tr (n+1) l
def jxh(l:List (Cl×List Cp)):List (Cl×Gn)→List (Cl×Gn)
  | []=>[]
  | (r,b)::m=>(r,match l.find? (fun x=>Nat.beq x.1.code r.code) with
    | some (_,g)=>{b with segs:=g}
    | none=>b)::jxh l m
structure ql6 where
  lo:Nat
  hi:Nat
  tr:List (Nat×SR)
  rw:List (Cl×List Cp):=[]
  ow:Option T:=none
  facts:List T
  meas:T
  quiet:Bool
def En(f:Nat→List SR→Hp→ql6)(fr:List SR)(h:Hp):Option Jh:=
  let d:=f h.nv fr h
  some {fr:=jzg h.nv d.lo d.hi d.tr 0 fr,h:={h with rw:=jxh d.rw h.rw,ow:=match d.ow,h.ow with|some a,some o=>some ⟨h.nv,o.e,o.k,a⟩|_,o=>o,nv:=h.nv+400},facts:=d.facts,meas:=d.meas,quiet:=d.quiet}
def jp5:List T→List T→Bool
  | [],[]=>true
  | a::l,b::m=>(a.same b).and (jp5 l m)
  | _,_=>false
theorem Xx: ∀{l m:List T},jp5 l m=true→l=m
  | [],[],_=>rfl
  | a::l,b::m,h=>by
    simp only[jp5,Bool.and_eq_true] at h
    rw[T.same_spec h.1,Xx h.2]
  | [],_::_,h=>by cases h
  | _::_,[],h=>by cases h
def VC.same:VC→VC→Bool
  | .need c k,.need d l=>(jp5 c d).and (k.same l)
  | .cond c a b,.cond d x y=>(c.same d).and ((a.same x).and (b.same y))
  | .any n m f k,.any n' m' f' l=>(Nat.beq n n').and ((Nat.beq m m').and ((jp5 f f').and (k.same l)))
  | .done,.done=>true
  | .fail _,.fail _=>true
  | _,_=>false
def VC.le:VC→VC
  | .need c k=>.need c k.le
  | .cond c a b=>.cond c a.le b.le
  | .any n m f k=>.any n m f k.le
  | .done=>.done
  | .fail _=>.fail ""
theorem VC.same_spec: ∀{a b:VC},a.same b=true→a.le=b.le
  | .need c k,.need d l,h=>by
    simp only[VC.same,Bool.and_eq_true] at h
    simp only[VC.le,Xx h.1,VC.same_spec h.2]
  | .cond c a b,.cond d x y,h=>by
    simp only[VC.same,Bool.and_eq_true] at h
    simp only[VC.le,T.same_spec h.1,VC.same_spec h.2.1,VC.same_spec h.2.2]
  | .any n m f k,.any n' m' f' l,h=>by
    simp only[VC.same,Bool.and_eq_true] at h
    simp only[VC.le,Nat.eq_of_beq_eq_true h.1,Nat.eq_of_beq_eq_true h.2.1,Xx h.2.2.1,VC.same_spec h.2.2.2]
  | .done,.done,_=>rfl
  | .fail _,.fail _,_=>rfl
  | .need ..,.cond ..,h=>by cases h
  | .need ..,.any ..,h=>by cases h
  | .need ..,.done,h=>by cases h
  | .need ..,.fail _,h=>by cases h
  | .cond ..,.need ..,h=>by cases h
  | .cond ..,.any ..,h=>by cases h
  | .cond ..,.done,h=>by cases h
  | .cond ..,.fail _,h=>by cases h
  | .any ..,.need ..,h=>by cases h
  | .any ..,.cond ..,h=>by cases h
  | .any ..,.done,h=>by cases h
  | .any ..,.fail _,h=>by cases h
  | .done,.need ..,h=>by cases h
  | .done,.cond ..,h=>by cases h
  | .done,.any ..,h=>by cases h
  | .done,.fail _,h=>by cases h
  | .fail _,.need ..,h=>by cases h
  | .fail _,.cond ..,h=>by cases h
  | .fail _,.any ..,h=>by cases h
  | .fail _,.done,h=>by cases h
theorem VC.le_sem{S:Hw}{ρ:Et}: ∀{a:VC},a.le.sem S ρ↔a.sem S ρ
  | .need c k=>by simp only[VC.le,VC.sem,VC.le_sem (a:=k)]
  | .cond c a b=>by simp only[VC.le,VC.sem,VC.le_sem (a:=a),VC.le_sem (a:=b)]
  | .any n m f k=>by simp only[VC.le,VC.sem,VC.le_sem (a:=k)]
  | .done=>Iff.rfl
  | .fail _=>Iff.rfl
def Dd(o:Option VC)(v:VC):Bool:=match o with
  | some u=>u.same v
  | none=>false
theorem Bf{S:Hw}{specs:Nat→Option Ec}{rsp:Nat→Option Ff}{tab:Tab}{fuel f:Nat}{c:Hg}{vc:VC}(hsp: ∀f s,specs f=some s→Ei Tryz.prog S f s)(hrsp: ∀f s,rsp f=some s→Dw Tryz.prog S f s)
    (h:Dd (Db Tryz.prog specs rsp tab fuel f c) vc=true)(hv: ∀ρ,Dx S ρ (c.pre++Bi c.hp.rw)→vc.sem S ρ):Cf Tryz.prog S f c:=by
  unfold Dd at h
  split at h
  · rename_i u hu
    exact qcj jcn Hq hsp hrsp hu fun ρ hm=>VC.le_sem.1 (VC.same_spec h▸VC.le_sem.2 (hv ρ hm))
  · cases h
theorem Cq{S:Hw}: ∀f s,Jt f=some s→Ei Tryz.prog S f s:=fun _ _ h=>by cases h
theorem Cn{S:Hw}: ∀f s,Jq f=some s→Dw Tryz.prog S f s:=fun _ _ h=>by cases h
theorem Ar{S:Hw}{ρ:Et}{p:Prop}:hyp S ρ [] p↔p:=Iff.rfl
theorem Ap{S:Hw}{ρ:Et}{p:Prop}{t:T}{l:List T}:hyp S ρ (t::l) p↔(t.B S ρ=true→hyp S ρ l p):=Iff.rfl
theorem As{S:Hw}{ρ:Et}:Dx S ρ []↔True:=⟨fun _=>trivial,fun _=>Dx.nil⟩
theorem Af(x:Int):x.fdiv (2^Min.min (Int.toNat 24) IntKind.u32.bits)=x/16777216:=Int.fdiv_eq_ediv_of_nonneg _ (by decide)
theorem Ak(x:Int):x.fdiv (2^Min.min (Int.toNat 8) IntKind.u32.bits)=x/256:=Int.fdiv_eq_ediv_of_nonneg _ (by decide)
theorem Ai(x:Int):x.fdiv (2^Min.min (Int.toNat 8) IntKind.i32.bits)=x/256:=Int.fdiv_eq_ediv_of_nonneg _ (by decide)
theorem Ae(x:Int):x.fdiv (2^Min.min (Int.toNat 14) IntKind.i32.bits)=x/16384:=Int.fdiv_eq_ediv_of_nonneg _ (by decide)
theorem Ac(x:Int):x.fdiv (2^Min.min (Int.toNat 12) IntKind.i32.bits)=x/4096:=Int.fdiv_eq_ediv_of_nonneg _ (by decide)
theorem Ad(x:Int):x.fdiv (2^Min.min (Int.toNat 18) IntKind.i32.bits)=x/262144:=Int.fdiv_eq_ediv_of_nonneg _ (by decide)
theorem Am(x:Int):x.fdiv (2^Min.min (Int.toNat 2) IntKind.i32.bits)=x/4:=Int.fdiv_eq_ediv_of_nonneg _ (by decide)
theorem Al(x:Int):x.fdiv (2^Min.min (Int.toNat 1) IntKind.i32.bits)=x/2:=Int.fdiv_eq_ediv_of_nonneg _ (by decide)
theorem Ah(x:Int):x.fdiv (2^Min.min (Int.toNat 1) IntKind.i64.bits)=x/2:=Int.fdiv_eq_ediv_of_nonneg _ (by decide)
theorem An(x:Int):x.fdiv (2^Min.min (Int.toNat 8) IntKind.i64.bits)=x/256:=Int.fdiv_eq_ediv_of_nonneg _ (by decide)
theorem Aj(x:Int):x.fdiv (2^Min.min (Int.toNat 4) IntKind.i64.bits)=x/16:=Int.fdiv_eq_ediv_of_nonneg _ (by decide)
theorem Ab(x:Int):x.fdiv (2^Min.min (Int.toNat 16) IntKind.u32.bits)=x/65536:=Int.fdiv_eq_ediv_of_nonneg _ (by decide)
theorem Aq(x:Int):x.fdiv (2^Min.min (Int.toNat 4) IntKind.u8.bits)=x/16:=Int.fdiv_eq_ediv_of_nonneg _ (by decide)
theorem Ao(x:Int):x.fdiv (2^Min.min (Int.toNat 1) IntKind.u8.bits)=x/2:=Int.fdiv_eq_ediv_of_nonneg _ (by decide)
theorem Aa(a b:List Int):Cb a ((a.length:Int)).toNat b=a++b:=by simp[Cb]
theorem Ev(l c:List Int)(s:Nat)(h:s+c.length≤l.length):(Cb l s c).length=l.length:=by simp[Cb];omega
theorem Hr(l c:List Int)(s k:Nat)(h:s+c.length≤l.length)(hk:k=s+c.length):(Cb l s c).take k=l.take s++c:=by
  subst hk
  unfold Cb
  rw[←List.append_assoc,List.take_append_of_le_length (by simp;omega),List.take_of_length_le (by simp;omega)]
theorem Pl(l:List Int)(s:Nat):Cb l s []=l:=by simp[Cb]
theorem Fb(x y:Int): [x].set 0 y=[y]:=rfl
theorem jer(l:List Int)(d a b:Nat):(l.drop d).take (a+b)=(l.drop d).take a++(l.drop (d+a)).take b:=by rw[List.take_add,List.drop_drop]
theorem Dk(x y a b:Int):cond (ieq x y) a b=if x=y then a else b:=by
  unfold ieq
  by_cases h:x=y<;>simp[h]
theorem j31(buf p:List Int)(n d len cap:Int)(h1:0≤n)(h2:n≤4096)(hb:(buf.length:Int)=4096)(hd:0≤d)(hl:0≤len)(hp:d+len≤p.length)(hc:len≤cap):
    ((Cb buf (cond (ieq 4096 n) 0 n).toNat (List.take (Tu (4096-n) len).toNat (List.drop d.toNat p))).length:Int)=4096∧
    List.take (n+Tu (4096-n) len).toNat (Cb buf (cond (ieq 4096 n) 0 n).toNat (List.take (Tu (4096-n) len).toNat (List.drop d.toNat p)))=buf.take n.toNat++List.take (Tu (4096-n) len).toNat (List.drop d.toNat p)∧
    List.take len.toNat (List.drop d.toNat p)=List.take (Tu (4096-n) len).toNat (List.drop d.toNat p)++List.take (len-Tu (4096-n) len).toNat (List.drop (cond (ieq cap (Tu (4096-n) len)) d (d+Tu (4096-n) len)).toNat p):=by
  have hk0:0≤Tu (4096-n) len:=by unfold Tu;split<;>omega
  have hkl:Tu (4096-n) len≤len:=by unfold Tu;split<;>omega
  have hkn:n+Tu (4096-n) len≤4096:=by unfold Tu;split<;>omega
  generalize Tu (4096-n) len=k at*
  have hlen:(List.take k.toNat (List.drop d.toNat p)).length=k.toNat:=by simp;omega
  rw[Dk,Dk]
  by_cases hn:4096=n
  · have:k=0:=by omega
    subst this
    simp only[Int.toNat_zero,List.take_zero,Pl,hb,List.append_nil,List.nil_append,Int.add_zero,Int.sub_zero,ite_self]
    refine ⟨trivial,?_⟩
    simp
  · rw[if_neg hn]
    refine ⟨?_,?_,?_⟩
    · rw[Ev _ _ _ (by omega)];exact hb
    · exact Hr _ _ _ _ (by omega) (by omega)
    · rw[show len.toNat=k.toNat+(len-k).toNat from by omega,jer]
      congr 1
      split
      · rw[show (len-k).toNat=0 from by omega];rfl
      · congr 2;omega
theorem Qy(l:List Int)(n:Nat)(x:Int)(h:n<l.length):(l.set n x).take (n+1)=l.take n++ [x]:=by
  rw[List.take_add_one,List.take_set_of_le (Nat.le_refl n),List.getElem?_set_self h];rfl
def qA:=And.intro @Bo<|And.intro @Bq<|And.intro @Bs<|And.intro @Az<|And.intro @Ca<|And.intro @Bz<|And.intro @Bu<|And.intro @Bc<|And.intro @Bb<|And.intro @Be<|And.intro @Ba<|And.intro @Bv<|And.intro @Ay<|And.intro @Bt<|And.intro @Br<|And.intro @Bw<|And.intro @Bx<| @By
def qB:=And.intro @Ag<|And.intro @As<|And.intro @Ap<|And.intro @Ar<|And.intro @Int.toNat_zero<|And.intro @List.drop_zero.{0}<|And.intro @Aa<|And.intro @Af<|And.intro @Ak<|And.intro @Ai<|And.intro @Ae<|And.intro @Ac<|And.intro @Ad<|And.intro @Am<|And.intro @Al<|And.intro @Ah<|And.intro @An<|And.intro @Aj<|And.intro @Ab<|And.intro @Aq<| @Ao
def bW(v:Nat):Cl×Gn:=(.old 3,⟨98,[.cells [.val v,.int .i64 (.lit (-1)),.bool .ff]]⟩)
def owW(v:Nat)(a:T):Option OW:=some ⟨v,5,.u8,a⟩
def jyw:Hg where
  args:=[p0 (.old 3),slR (.ro 0) (.lit 0) (.iv 1) (.iv 2)]
  hp:={rw:=[bW 0],ro:=[(.ro 0,.u8,.av 1)],nv:=1000,ow:=owW 0 (.av 0)}
  pre:=[.le (.lit 1) (.iv 1),.le (.iv 1) (.iv 2),.eq (.len (.av 1)) (.iv 1),.le (.add (.len (.av 0)) (.iv 1)) (.lit 1099511627776)]
  val:=.tup [.one (.int .i64 (.iv 1)),.one .nilI]
  hp':={rw:=[bW 100],ro:=[(.ro 0,.u8,.av 1)],ow:=owW 100 (.av 100)}
  post:=[.aeq (.av 100) (app (.av 0) (.av 1))]
  quiet:=false
def hB(v:Nat)(n:T)(buf:T):List (Cl×Gn):=
  [(.old 1,⟨221,[.cells [.nilI,.sl (.old 2) 0 (.lit 0) (.lit 4096) (.lit 4096),.int .i64 n,.iface 96 (.ptr (.old 3) 0 (.lit 0))]]⟩),(.old 2,⟨5,[.arr .u8 buf 4096]⟩),bW v]
def tot(r buf n:T):T:=app r (.cut buf (.lit 0) n)
def Gl:T:=.lit 1000000000000
def jq5:Hg where
  args:=[p0 (.old 1)]
  hp:={rw:=hB 0 (.iv 0) (.av 1),nv:=1000,ow:=owW 0 (.av 0)}
  pre:=Di (.lit 0) (.iv 0) (.lit 4096)++ [.le (.add (.len (.av 0)) (.iv 0)) Gl]
  val:=.v (.one .nilI)
  hp':={rw:=hB 100 (.lit 0) (.av 1),ow:=owW 100 (.av 100)}
  post:=[.eq (.len (.av 100)) (.add (.len (.av 0)) (.iv 0)),.aeq (.av 100) (tot (.av 0) (.av 1) (.iv 0))]
  quiet:=false
def j79(x m:T):List T:=.eq (.add (.len (.av 100)) (.iv 100)) (.add (.add (.len (.av 0)) (.iv 0)) m)::Di (.lit 0) (.iv 100) (.lit 4096)++ [.eq (.len (.av 101)) (.lit 4096),.aeq (tot (.av 100) (.av 101) (.iv 100)) (app (tot (.av 0) (.av 1) (.iv 0)) x)]
def j3m(x:T):List T:=Di (.lit 0) (.iv 0) (.lit 4096)++ [.le (.add (.add (.len (.av 0)) (.iv 0)) x) Gl]
def jvm:Hg where
  args:=[p0 (.old 1),.v (.one (.int .u8 (.iv 9)))]
  hp:={rw:=hB 0 (.iv 0) (.av 1),nv:=1000,ow:=owW 0 (.av 0)}
  pre:=j3m (.lit 1)
  val:=.v (.one .nilI)
  hp':={rw:=hB 100 (.iv 100) (.av 101),ow:=owW 100 (.av 100)}
  post:=j79 (one (.iv 9)) (.lit 1)
  quiet:=false
def jnl:Hg where
  args:=[p0 (.old 1),slR (.ro 0) (.lit 0) (.iv 1) (.iv 2)]
  hp:={rw:=hB 0 (.iv 0) (.av 1),ro:=[(.ro 0,.u8,.av 2)],nv:=1000,ow:=owW 0 (.av 0)}
  pre:=j3m (.iv 1)++Di (.lit 0) (.iv 1) (.lit 4096)++ [.le (.iv 1) (.iv 2),.eq (.len (.av 2)) (.iv 1)]
  val:=.tup [.one (.int .i64 (.iv 1)),.one .nilI]
  hp':={rw:=hB 100 (.iv 100) (.av 101),ro:=[(.ro 0,.u8,.av 2)],ow:=owW 100 (.av 100)}
  post:=j79 (.av 2) (.iv 1)
  quiet:=false
def qc9:List SR→Hp→Option Jh:=En fun b _ _=>{
  lo:=6,hi:=95
  tr:=[(1,slR (.ro 0) (.iv b) (.iv (b+1)) (.iv (b+2))),(4,.v (.one (.int .i64 (.iv (b+3)))))]
  rw:=[(.old 1,[.cells [.nilI,.sl (.old 2) 0 (.lit 0) (.lit 4096) (.lit 4096),.int .i64 (.iv (b+4)),.iface 96 (.ptr (.old 3) 0 (.lit 0))]]),(.old 2,[.arr .u8 (.av (b+1)) 4096]),(.old 3,[.cells [.val b,.int .i64 (.lit (-1)),.bool .ff]])]
  ow:=some (.av b)
  facts:=[.le (.lit 0) (.iv b),.le (.lit 0) (.iv (b+1)),.le (.add (.iv b) (.iv (b+1))) (.iv 1),.le (.iv (b+1)) (.iv (b+2)),.eq (.add (.iv (b+3)) (.iv (b+1))) (.iv 1),.le (.lit 0) (.iv (b+3)),.eq (.len (.av (b+1))) (.lit 4096)]++
    Di (.lit 0) (.iv (b+4)) (.lit 4096)++ [.eq (.add (.add (.len (.av b)) (.iv (b+4))) (.iv (b+1))) (.add (.add (.len (.av 0)) (.iv 0)) (.iv 1)),.aeq (app (tot (.av b) (.av (b+1)) (.iv (b+4))) (.cut (.av 2) (.iv b) (.iv (b+1)))) (app (tot (.av 0) (.av 1) (.iv 0)) (.av 2))]
  meas:=.add (.mul (.lit 2) (.iv (b+1))) (.mn (.iv (b+4)) (.lit 1))
  quiet:=false}
def j4t:Nat→Nat→Option (List SR→Hp→Option Jh):=fun f k=>match f,k with
  | 154,1=>some qc9
  | _,_=>none
def js6:Nat→Bool:=fun f=>f==152||f==156
def qdo:Nat→Option Ff:=fun f=>match f with
  | 151=>some (Cx jyw)
  | _=>none
def j5s:Nat→Option Ff:=fun f=>match f with
  | 151=>some (Cx jyw)
  | 153=>some (Cx jq5)
  | _=>none
section
variable {S:Hw}
def j7h:VC:=
 (.need [(.le (.lit 0) (.iv 1))] (.need [(.le (.lit 0) (.iv 2)),(.le (.iv 2) (.iv 2)),(.le (.lit 0) (.iv 2))] (.need [(.le (.iv 1) (.len (.av 1)))] (.any 1000 0 [] (.cond (.lt (.iv 1) (.iv 1)) (.fail "stop impl.go:60") (.need [(.aeq (.splice (.av 0) (.len (.av 0)) (.cut (.av 1) (.lit 0) (.iv 1))) (.splice (.av 0) (.len (.av 0)) (.av 1)))] .done))))))
theorem qke:Dd (Db Tryz.prog Jt Jq ⟨j4t,js6⟩ 100000 151 jyw) j7h=true:=by kernel_rfl
theorem jtu:Cf Tryz.prog S 151 jyw:=by
  refine Bf Cq Cn qke fun ρ h=> ?_
  simp only[jyw,bW,Bi,Di,List.flatMap_cons,List.flatMap_nil,List.append_nil,List.append_assoc,List.cons_append,List.nil_append,and_true,↓qA,qB,and_true,implies_true,T.I,T.A,T.B,VC.sem] at h
  obtain ⟨h1,h2,h3,h4⟩:=h
  simp only[j7h,↓qA,qB,and_true,implies_true,T.I,T.A,T.B,VC.sem]
  (repeat' (first|refine And.intro ?_ ?_|intro _))<;>(try trivial)<;>(try omega)<;>(try (simp only[Tu,imx,Dk,IntKind.wrap_u32,IntKind.wrap_i32,IntKind.wrap_u8] at*;omega))
  rw[List.take_of_length_le (by omega)]
theorem j2z: ∀f s,qdo f=some s→Dw Tryz.prog S f s:=by
  intro f s h
  unfold qdo at h
  split at h
  · cases h;exact Ce jtu
  · cases h
def j7r:VC:=
 let t0:T:=.splice (.av 0) (.len (.av 0)) (.cut (.av 1) (.lit 0) (.iv 0))
 (.cond (.eq (.iv 0) (.lit 0)) (.need [(.eq (.lit 0) (.iv 0)),(.eq (.len (.av 0)) (.add (.len (.av 0)) (.iv 0))),(.aeq (.av 0) t0)] .done) (.need [(.le (.lit 1) (.iv 0)),(.eq (.len (.cut (.av 1) (.lit 0) (.iv 0))) (.iv 0)),(.le (.add (.len (.av 0)) (.iv 0)) (.lit 1099511627776))] (.any 1000 0 [(.aeq (.av 1100) t0)] (.cond (.lt (.iv 0) (.iv 0)) (.fail "stop bufio.go:644") (.need [(.eq (.len (.av 1100)) (.add (.len (.av 0)) (.iv 0)))] .done)))))
theorem qln:Dd (Db Tryz.prog Jt qdo ⟨j4t,js6⟩ 100000 153 jq5) j7r=true:=by kernel_rfl
theorem jkm:Cf Tryz.prog S 153 jq5:=by
  refine Bf Cq j2z qln fun ρ h=> ?_
  simp only[jq5,hB,bW,Gl,Bi,Di,List.flatMap_cons,List.flatMap_nil,List.append_nil,List.append_assoc,List.cons_append,List.nil_append,and_true,↓qA,qB,and_true,implies_true,T.I,T.A,T.B,VC.sem] at h
  obtain ⟨h1,h2,h3,h4⟩:=h
  simp only[j7r,↓qA,qB,and_true,implies_true,T.I,T.A,T.B,VC.sem]
  (repeat' (first|refine And.intro ?_ ?_|intro _))<;>(try trivial)<;>(try omega)<;>(try (simp only[Tu,imx,Dk,IntKind.wrap_u32,IntKind.wrap_i32,IntKind.wrap_u8] at*;omega))
  · rename_i h;rw[h];simp
  · rw[List.length_take];omega
  · have:=congrArg List.length ‹ρ.a 1100=_›
    simp only[List.length_append,List.length_take] at this
    omega
theorem jsl: ∀f s,j5s f=some s→Dw Tryz.prog S f s:=by
  intro f s h
  unfold j5s at h
  split at h
  · cases h;exact Ce jtu
  · cases h;exact Ce jkm
  · cases h
def j6u:VC:=
 let t0:T:=.splice (.av 0) (.len (.av 0)) (.cut (.av 1) (.lit 0) (.iv 0))
 let t1:T:=.splice t0 (.len t0) (.set (.alit [0]) (.lit 0) (.iv 9))
 let t2:T:=.add (.iv 0) (.lit 1)
 (.need [(.le (.lit (-9223372036854775808)) (.sub (.lit 4096) (.iv 0))),(.le (.sub (.lit 4096) (.iv 0)) (.lit 9223372036854775807))] (.cond (.le (.sub (.lit 4096) (.iv 0)) (.lit 0)) (.need [(.le (.add (.len (.av 0)) (.iv 0)) (.lit 1000000000000))] (.any 1000 0 [(.eq (.len (.av 1100)) (.add (.len (.av 0)) (.iv 0))),(.aeq (.av 1100) t0)] (.need [(.eq (.add (.len (.av 1100)) (.lit 1)) (.add (.add (.len (.av 0)) (.iv 0)) (.lit 1))),(.le (.lit 0) (.lit 1)),(.le (.lit 1) (.lit 4096)),(.eq (.len (.set (.av 1) (.lit 0) (.iv 9))) (.lit 4096)),(.aeq (.splice (.av 1100) (.len (.av 1100)) (.cut (.set (.av 1) (.lit 0) (.iv 9)) (.lit 0) (.lit 1))) t1)] .done))) (.need [(.lt (.iv 0) (.lit 4096))] (.need [(.le (.lit (-9223372036854775808)) t2),(.le t2 (.lit 9223372036854775807))] (.need [(.eq (.add (.len (.av 0)) t2) (.add (.add (.len (.av 0)) (.iv 0)) (.lit 1))),(.le (.lit 0) t2),(.le t2 (.lit 4096)),(.eq (.len (.set (.av 1) (.iv 0) (.iv 9))) (.lit 4096)),(.aeq (.splice (.av 0) (.len (.av 0)) (.cut (.set (.av 1) (.iv 0) (.iv 9)) (.lit 0) t2)) t1)] .done)))))
theorem qk5:Dd (Db Tryz.prog Jt j5s ⟨j4t,js6⟩ 100000 155 jvm) j6u=true:=by kernel_rfl
theorem jsg:Cf Tryz.prog S 155 jvm:=by
  refine Bf Cq jsl qk5 fun ρ h=> ?_
  simp only[jvm,hB,bW,Gl,j3m,Bi,Di,List.flatMap_cons,List.flatMap_nil,List.append_nil,List.append_assoc,List.cons_append,List.nil_append,and_true,↓qA,qB,and_true,implies_true,T.I,T.A,T.B,VC.sem] at h
  obtain ⟨h1,h2,h3,h4⟩:=h
  simp only[j6u,Fb,↓qA,qB,and_true,implies_true,T.I,T.A,T.B,VC.sem]
  (repeat' (first|refine And.intro ?_ ?_|intro _))<;>(try trivial)<;>(try omega)<;>(try (simp only[Tu,imx,Dk,IntKind.wrap_u32,IntKind.wrap_i32,IntKind.wrap_u8] at*;omega))
  · simp;omega
  · rename_i h _ _ h'
    rw[h',show (1:Int).toNat=0+1 from rfl,Qy _ _ _ (by omega)]
    simp
  · simp;omega
  · rw[show (ρ.i 0+1).toNat=(ρ.i 0).toNat+1 from by omega,Qy _ _ _ (by omega)]
    simp
def j87:VC:=
 let t0:T:=.lit 0
 let t1:T:=.add (.add (.len (.av 0)) (.iv 0)) (.iv 1)
 let t2:T:=.splice (.av 0) (.len (.av 0)) (.cut (.av 1) t0 (.iv 0))
 let t4:T:=.splice t2 (.len t2) (.av 2)
 let t5:T:=.iv 1001
 let t6:T:=.add (.iv 1003) t5
 let t7:T:=.len (.av 1000)
 let t8:T:=.splice (.av 1000) t7 (.cut (.av 1001) t0 (.iv 1004))
 let t9:T:=.cut (.av 2) (.iv 1000) t5
 let t10:T:=.lit (-9223372036854775808)
 let t11:T:=.sub (.lit 4096) (.iv 1004)
 let t12:T:=.lit 9223372036854775807
 let t13:T:=.le t0 (.iv 1002)
 let t14:T:=.ite (.eq (.iv 1002) t5) (.iv 1000) (.add (.iv 1000) t5)
 let t15:T:=.sub t5 t5
 let t16:T:=.splice (.av 1500) (.len (.av 1500)) (.cut (.av 1001) t0 (.iv 1004))
 let t17:T:=.add (.mul (.lit 2) t5) (.mn (.iv 1004) (.lit 1))
 let t19:T:=.mn t11 t5
 let t21:T:=.add (.iv 1000) t19
 let t22:T:=.le t21 (.len (.av 2))
 let t23:T:=.ite (.eq (.lit 4096) (.iv 1004)) t0 (.iv 1004)
 let t25:T:=.le (.add t23 t19) (.lit 4096)
 let t26:T:=.add (.iv 1004) t19
 let t30:T:=.le t26 (.lit 4096)
 let t31:T:=.add t7 t26
 let t32:T:=.splice (.av 1001) t23 (.cut (.av 2) (.iv 1000) t19)
 let t33:T:=.splice (.av 1000) t7 (.cut t32 t0 t26)
 let t34:T:=.add (.iv 1003) t19
 let t37:T:=.ite (.eq (.iv 1002) t19) (.iv 1000) t21
 let t38:T:=.sub t5 t19
 let t39:T:=.eq (.len t32) (.lit 4096)
 let t40:T:=.splice (.av 1500) (.len (.av 1500)) (.cut t32 t0 t0)
 (.need [(.le t0 t0),(.le (.add t0 (.iv 1)) (.iv 1)),(.eq (.add t0 (.iv 1)) (.iv 1)),(.le t0 t0),(.eq t1 t1),(.aeq (.splice t2 (.len t2) (.cut (.av 2) t0 (.iv 1))) t4)] (.any 1000 0 [(.le t0 (.iv 1000)),(.le t0 t5),(.le (.add (.iv 1000) t5) (.iv 1)),(.le t5 (.iv 1002)),(.eq t6 (.iv 1)),(.le t0 (.iv 1003)),(.eq (.len (.av 1001)) (.lit 4096)),(.le t0 (.iv 1004)),(.le (.iv 1004) (.lit 4096)),(.eq (.add (.add t7 (.iv 1004)) t5) t1),(.aeq (.splice t8 (.len t8) t9) t4)] (.need [(.le t10 t11),(.le t11 t12)] (.cond (.lt t11 t5) (.cond (.eq (.iv 1004) t0) (.need [(.le (.add (.iv 1000) t5) (.len (.av 2))),(.le (.lit 1) t5),(.eq (.len t9) t5),(.le (.add t7 t5) (.lit 1099511627776))] (.any 1400 0 [(.aeq (.av 1500) (.splice (.av 1000) t7 t9))] (.need [(.le t10 t6),(.le t6 t12)] (.need [t13,(.le (.iv 1002) (.iv 1002)),(.le t5 t5),(.le t5 t5),t13] (.need [(.le t0 t14),(.le t0 t15),(.le (.add t14 t15) (.iv 1)),(.le t15 (.sub (.iv 1002) t5)),(.eq (.add t6 t15) (.iv 1)),(.le t0 t6),(.eq (.add (.add (.len (.av 1500)) (.iv 1004)) t15) t1),(.aeq (.splice t16 (.len t16) (.cut (.av 2) t14 t15)) t4),(.lt t0 t17),(.lt (.add (.mul (.lit 2) t15) (.mn (.iv 1004) (.lit 1))) t17)] .done))))) (.need [(.le t0 t19),t22,(.le t0 t11),(.le t0 t23),t25] (.need [(.le t10 t26),(.le t26 t12)] (.need [(.le t0 t26),t30,(.le t31 (.lit 1000000000000))] (.any 1400 0 [(.eq (.len (.av 1500)) t31),(.aeq (.av 1500) t33)] (.need [(.le t10 t34),(.le t34 t12)] (.need [t13,(.le (.iv 1002) (.iv 1002)),(.le t5 t5),(.le t19 t5),t13] (.need [(.le t0 t37),(.le t0 t38),(.le (.add t37 t38) (.iv 1)),(.le t38 (.sub (.iv 1002) t19)),(.eq (.add t34 t38) (.iv 1)),(.le t0 t34),t39,(.le t0 (.lit 4096)),(.eq (.add (.add (.len (.av 1500)) t0) t38) t1),(.aeq (.splice t40 (.len t40) (.cut (.av 2) t37 t38)) t4),(.lt t0 t17),(.lt (.add (.mul (.lit 2) t38) (.mn t0 (.lit 1))) t17)] .done)))))))) (.need [(.le t0 t19),t22,(.le t0 t11),(.le t0 t23),t25] (.need [(.le t10 t26),(.le t26 t12)] (.need [(.le t10 t34),(.le t34 t12)] (.need [(.eq (.iv 1) t34),(.eq t31 t1),(.le t0 t26),t30,t39,(.aeq t33 t4)] .done))))))))
theorem qkv:Dd (Db Tryz.prog Jt j5s ⟨j4t,js6⟩ 100000 154 jnl) j87=true:=by kernel_rfl
theorem jdu:Cf Tryz.prog S 154 jnl:=by
  refine Bf Cq jsl qkv fun ρ h=> ?_
  simp only[jnl,hB,bW,Gl,j3m,Bi,Di,List.flatMap_cons,List.flatMap_nil,List.append_nil,List.append_assoc,List.cons_append,List.nil_append,and_true,↓qA,qB,and_true,implies_true,T.I,T.A,T.B,VC.sem] at h
  obtain ⟨h1,h2,h3,h4⟩:=h
  obtain ⟨h4,h5,h6,h7,h8⟩:=h4
  have hT:(ρ.a 2).take (ρ.i 1).toNat=ρ.a 2:=List.take_of_length_le (by omega)
  simp only[j87,hT,↓qA,qB,and_true,implies_true,T.I,T.A,T.B,VC.sem]
  (repeat' (first|refine And.intro ?_ ?_|intro _))<;>(try trivial)<;>(try omega)<;>(try (simp only[Tu,imx,Dk,IntKind.wrap_u32,IntKind.wrap_i32,IntKind.wrap_u8] at*;omega))
  all_goals
    obtain ⟨q1,q2,q3⟩:=j31 (ρ.a 1001) (ρ.a 2) (ρ.i 1004) (ρ.i 1000) (ρ.i 1001) (ρ.i 1002) (by assumption) (by assumption) (by assumption) (by assumption) (by assumption) (by omega) (by assumption)
    try exact q1
    try (have hk:Tu (4096-ρ.i 1004) (ρ.i 1001)=ρ.i 1001:=by unfold Tu;omega
         rw[q2,hk,←List.append_assoc];assumption)
  rw[‹ρ.a 1500=_›,q2]
  rw[← ‹ρ.a 1000++List.take (ρ.i 1004).toNat (ρ.a 1001)++List.take (ρ.i 1001).toNat (List.drop (ρ.i 1000).toNat (ρ.a 2))=ρ.a 0++List.take (ρ.i 0).toNat (ρ.a 1)++ρ.a 2›,q3]
  simp
end
structure St where
  t:List Int
  b:Int
  n:Int
def pk(s:St):List Int:=s.b::s.n::s.t
def up(l:List Int):St:=⟨l.drop 2,l.getD 0 0,l.getD 1 0⟩
theorem Lc(s:St):up (pk s)=s:=rfl
def Oi(c:Int):List Int:=if c=255 then [255,0] else [c]
def emF(t:List Int)(b n:Int):St:=
  if n<8 then ⟨t,b,n⟩ else emF (t++Oi (IntKind.u8.wrap (b/16777216))) (IntKind.u32.wrap (b*256)) (n-8)
termination_by n.toNat
decreasing_by omega
theorem js2{t:List Int}{b n:Int}(h:n<8):emF t b n=⟨t,b,n⟩:=by rw[emF,if_pos h]
theorem jgu{t:List Int}{b n:Int}(h:8≤n):emF t b n=emF (t++Oi (IntKind.u8.wrap (b/16777216))) (IntKind.u32.wrap (b*256)) (n-8):=by rw[emF,if_neg (by omega)]
def jbk(s:St)(bits nb:Int):St:=
  emF s.t (Dj .or .u32 (IntKind.u32.wrap (bits*2^(Min.min (32-(nb+s.n)).toNat 32))) s.b) (nb+s.n)
def Kv:List (List Int):=[
  [33554432,50331650,50331651,50331652,50331653,50331654,67108878,83886110,100663358,117440638,134217982,150995454],
  [67108874,33554432,33554433,50331652,67108875,83886106,117440632,134217976,167773174,268500866,268500867,0,0,0,0,0,0,67108876,83886107,117440633,150995446,184551414,268500868,268500869,268500870,268500871,268500872,0,0,0,0,0,0,83886108,134217977,167773175,201330676,268500873,268500874,268500875,268500876,268500877,268500878,0,0,0,0,0,0,100663354,150995447,201330677,268500879,268500880,268500881,268500882,268500883,268500884,268500885,0,0,0,0,0,0,100663355,167773176,268500886,268500887,268500888,268500889,268500890,268500891,268500892,268500893,0,0,0,0,0,0,117440634,184551415,268500894,268500895,268500896,268500897,268500898,268500899,268500900,268500901,0,0,0,0,0,0,117440635,201330678,268500902,268500903,268500904,268500905,268500906,268500907,268500908,268500909,0,0,0,0,0,0,134217978,201330679,268500910,268500911,268500912,268500913,268500914,268500915,268500916,268500917,0,0,0,0,0,0,150995448,251690944,268500918,268500919,268500920,268500921,268500922,268500923,268500924,268500925,0,0,0,0,0,0,150995449,268500926,268500927,268500928,268500929,268500930,268500931,268500932,268500933,268500934,0,0,0,0,0,0,150995450,268500935,268500936,268500937,268500938,268500939,268500940,268500941,268500942,268500943,0,0,0,0,0,0,167773177,268500944,268500945,268500946,268500947,268500948,268500949,268500950,268500951,268500952,0,0,0,0,0,0,167773178,268500953,268500954,268500955,268500956,268500957,268500958,268500959,268500960,268500961,0,0,0,0,0,0,184551416,268500962,268500963,268500964,268500965,268500966,268500967,268500968,268500969,268500970,0,0,0,0,0,0,268500971,268500972,268500973,268500974,268500975,268500976,268500977,268500978,268500979,268500980,0,0,0,0,0,184551417,268500981,268500982,268500983,268500984,268500985,268500986,268500987,268500988,268500989,268500990],
  [33554432,33554433,33554434,50331654,67108878,83886110,100663358,117440638,134217982,150995454,167773182,184551422],
  [33554432,33554433,50331652,67108874,83886104,83886105,100663352,117440632,150995444,167773174,201330676,0,0,0,0,0,0,67108875,100663353,134217974,150995445,184551414,201330677,268500872,268500873,268500874,268500875,0,0,0,0,0,0,83886106,134217975,167773175,201330678,251690946,268500876,268500877,268500878,268500879,268500880,0,0,0,0,0,0,83886107,134217976,167773176,201330679,268500881,268500882,268500883,268500884,268500885,268500886,0,0,0,0,0,0,100663354,150995446,268500887,268500888,268500889,268500890,268500891,268500892,268500893,268500894,0,0,0,0,0,0,100663355,167773177,268500895,268500896,268500897,268500898,268500899,268500900,268500901,268500902,0,0,0,0,0,0,117440633,184551415,268500903,268500904,268500905,268500906,268500907,268500908,268500909,268500910,0,0,0,0,0,0,117440634,184551416,268500911,268500912,268500913,268500914,268500915,268500916,268500917,268500918,0,0,0,0,0,0,134217977,268500919,268500920,268500921,268500922,268500923,268500924,268500925,268500926,268500927,0,0,0,0,0,0,150995447,268500928,268500929,268500930,268500931,268500932,268500933,268500934,268500935,268500936,0,0,0,0,0,0,150995448,268500937,268500938,268500939,268500940,268500941,268500942,268500943,268500944,268500945,0,0,0,0,0,0,150995449,268500946,268500947,268500948,268500949,268500950,268500951,268500952,268500953,268500954,0,0,0,0,0,0,150995450,268500955,268500956,268500957,268500958,268500959,268500960,268500961,268500962,268500963,0,0,0,0,0,0,184551417,268500964,268500965,268500966,268500967,268500968,268500969,268500970,268500971,268500972,0,0,0,0,0,0,234897376,268500973,268500974,268500975,268500976,268500977,268500978,268500979,268500980,268500981,0,0,0,0,0,167773178,251690947,268500982,268500983,268500984,268500985,268500986,268500987,268500988,268500989,268500990]]
def Gj:List Int:=[0,1,2,2,3,3,3,3,4,4,4,4,4,4,4,4,5,5,5,5,5,5,5,5,5,5,5,5,5,5,5,5,6,6,6,6,6,6,6,6,6,6,6,6,6,6,6,6,6,6,6,6,6,6,6,6,6,6,6,6,6,6,6,6,7,7,7,7,7,7,7,7,7,7,7,7,7,7,7,7,7,7,7,7,7,7,7,7,7,7,7,7,7,7,7,7,7,7,7,7,7,7,7,7,7,7,7,7,7,7,7,7,7,7,7,7,7,7,7,7,7,7,7,7,7,7,7,7,8,8,8,8,8,8,8,8,8,8,8,8,8,8,8,8,8,8,8,8,8,8,8,8,8,8,8,8,8,8,8,8,8,8,8,8,8,8,8,8,8,8,8,8,8,8,8,8,8,8,8,8,8,8,8,8,8,8,8,8,8,8,8,8,8,8,8,8,8,8,8,8,8,8,8,8,8,8,8,8,8,8,8,8,8,8,8,8,8,8,8,8,8,8,8,8,8,8,8,8,8,8,8,8,8,8,8,8,8,8,8,8,8,8,8,8,8,8,8,8,8,8,8,8,8,8,8,8]
def Fe(v:Int):Int:=if v<0 then-v else v
def Gb(v:Int):Int:=if Fe v<256 then Gj.getD (Fe v).toNat 0 else 8+Gj.getD (Fe v/256).toNat 0
def Pu(h:Nat)(s:St)(run v:Int):St:=
  let x:=(Kv.getD h []).getD (run*16+Gb v).toNat 0
  let s1:=jbk s (x % 16777216) (x/16777216)
  if 0<Gb v then jbk s1 ((if v<0 then v-1 else v) % 2^(Gb v).toNat) (Gb v) else s1
def Zh(h:Nat)(s:St)(v:Int):St:=
  let x:=(Kv.getD h []).getD v.toNat 0
  jbk s (x % 16777216) (x/16777216)
theorem j51{r n:Int}(h1:0≤r)(h2:r≤15)(h3:0≤n)(h4:n≤15):Dj .or .i32 (r*16) n=r*16+n:=by
  have key: ∀a:Fin 16,∀b:Fin 16,Dj .or .i32 (((a.val:Nat):Int)*16) ((b.val:Nat):Int)=((a.val:Nat):Int)*16+((b.val:Nat):Int):=by decide
  obtain ⟨a,rfl⟩:=Int.eq_ofNat_of_zero_le h1
  obtain ⟨b,rfl⟩:=Int.eq_ofNat_of_zero_le h3
  exact key ⟨a,by omega⟩ ⟨b,by omega⟩
theorem jn5{x:Int}{n:Nat}(h1:0≤x)(h2:x<4294967296)(hn:n≤32):Dj .and .u32 x (2^n-1)=x % 2^n:=by
  obtain ⟨a,rfl⟩:=Int.eq_ofNat_of_zero_le h1
  have ha:a<2^32:=by omega
  have h2n:(2:Nat)^n≤2^32:=Nat.pow_le_pow_right (by omega) hn
  have hp:0<(2:Nat)^n:=Nat.pow_pos (by omega)
  have e1:((2:Int)^n-1)=((2^n-1:Nat):Int):=by rw[Int.natCast_sub hp];simp
  rw[e1]
  have key:((BitVec.ofInt 32 (a:Int)&&&BitVec.ofInt 32 ((2^n-1:Nat):Int):BitVec 32)).toNat=a % 2^n:=by
    rw[BitVec.ofInt_natCast,BitVec.ofInt_natCast,BitVec.toNat_and,BitVec.toNat_ofNat,BitVec.toNat_ofNat,Nat.mod_eq_of_lt ha,Nat.mod_eq_of_lt (by omega:2^n-1<2^32),Nat.and_two_pow_sub_one_eq_mod]
  show IntKind.u32.wrap ((((BitVec.ofInt 32 (a:Int)&&&BitVec.ofInt 32 ((2^n-1:Nat):Int):BitVec 32)).toNat:Nat):Int)=_
  rw[key,IntKind.wrap_u32]
  have:a % 2^n<2^32:=Nat.lt_of_le_of_lt (Nat.mod_le _ _) ha
  have e2:((a % 2^n:Nat):Int)=(a:Int) % 2^n:=by simp
  rw[e2]
  omega
theorem jhl{x:Int}(h1:0≤x)(h2:x<4294967296):Dj .and .u32 x 16777215=x % 16777216:=jn5 (n:=24) h1 h2 (by omega)
theorem j3a:(List.range 2048).all (fun n=>let b:=Gb (n:Int);decide (0≤b)&&decide (b≤11)&&(decide (1023<n)||decide (b≤10))&&decide ((n:Int)<2^b.toNat)&&(decide (n=0)||decide ((2:Int)^b.toNat≤2*n)))=true:=by decide+kernel
theorem j55(v:Int):Gb (-v)=Gb v:=by
  have:Fe (-v)=Fe v:=by unfold Fe;split<;>split<;>omega
  unfold Gb;rw[this]
theorem j3k(v:Int):Gb (Fe v)=Gb v:=by
  unfold Fe;split
  · exact j55 v
  · rfl
theorem Mf{v:Int}(h:Fe v≤2047):0≤Gb v∧Gb v≤11∧(Fe v≤1023→Gb v≤10)∧Fe v<2^(Gb v).toNat∧(v≠0→2^(Gb v).toNat≤2*Fe v):=by
  have h0:0≤Fe v:=by unfold Fe;split<;>omega
  have hz:Fe v=0→v=0:=by unfold Fe;split<;>omega
  rw[←j3k v]
  generalize Fe v=a at*
  obtain ⟨n,rfl⟩:=Int.eq_ofNat_of_zero_le h0
  have:=List.all_eq_true.1 j3a n (List.mem_range.2 (by omega))
  simp only[Bool.and_eq_true,Bool.or_eq_true,decide_eq_true_eq] at this
  obtain ⟨⟨⟨⟨k1,k2⟩,k3⟩,k4⟩,k5⟩:=this
  refine ⟨k1,k2,fun _=>by omega,k4,fun hv=> ?_⟩
  rcases k5 with k5|k5
  · exact absurd (hz (by omega)) hv
  · exact k5
theorem j2n:(List.range 4).all (fun h=>(Kv.getD h []).all fun x=>decide (0≤x)&&decide (x<285212672)&&decide (x % 16777216≤65535))=true:=by decide+kernel
theorem Rp(h:Nat)(hh:h<4)(i:Nat):0≤(Kv.getD h []).getD i 0∧(Kv.getD h []).getD i 0<285212672∧(Kv.getD h []).getD i 0 % 16777216≤65535:=by
  have h1:=List.all_eq_true.1 j2n h (List.mem_range.2 hh)
  rw[List.getD_eq_getElem?_getD (l:=Kv.getD h [])]
  cases hi:(Kv.getD h [])[i]? with
  | none=>simp
  | some x=>
    have:=List.all_eq_true.1 h1 x (List.mem_of_getElem? hi)
    simp only[Bool.and_eq_true,decide_eq_true_eq] at this
    exact ⟨this.1.1,this.1.2,this.2⟩
def fI(f:Nat)(x y z u a:T):T:=.fi f x y z u a (.alit []) (.alit []) (.alit [])
def fA(f:Nat)(x y z u a:T):T:=.fa f x y z u a (.alit []) (.alit []) (.alit [])
def z0:T:=.lit 0
def cA(f:Nat):T:=fA f z0 z0 z0 z0 (.alit [])
def qjc:List Aw:=[.sl (.old 10) 0 (.lit 0) (.lit 12) (.lit 12),.sl (.old 11) 0 (.lit 0) (.lit 251) (.lit 251),.sl (.old 12) 0 (.lit 0) (.lit 12) (.lit 12),.sl (.old 13) 0 (.lit 0) (.lit 251) (.lit 251)]
def jd7:List (Cl×Gn):=[(.old 10,⟨131,[.arr .u32 (cA 40) 12]⟩),(.old 11,⟨131,[.arr .u32 (cA 41) 251]⟩),(.old 12,⟨131,[.arr .u32 (cA 42) 12]⟩),(.old 13,⟨131,[.arr .u32 (cA 43) 251]⟩)]
def bE(eb en ebuf quant:T):Cl×Gn:=(.old 0,⟨138,[.cells [.iface 141 (.ptr (.old 1) 0 (.lit 0)),.nilI],.arr .u8 ebuf 16,.cells [.int .u32 eb,.int .u32 en],.arr .u8 quant 128,.cells qjc]⟩)
def hE(v:Nat)(n buf eb en ebuf quant:T):List (Cl×Gn):=bE eb en ebuf quant::hB v n buf++jd7
def eIn:Hp:={rw:=hE 0 (.iv 0) (.av 1) (.iv 1) (.iv 2) (.av 2) (.av 3),nv:=1000,ow:=owW 0 (.av 0)}
def j01:Hp:={rw:=hE 100 (.iv 100) (.av 101) (.iv 101) (.iv 102) (.av 2) (.av 3),ow:=owW 100 (.av 100)}
def sT(t eb en:T):T:=app (one eb) (app (one en) t)
def s0:T:=sT (tot (.av 0) (.av 1) (.iv 0)) (.iv 1) (.iv 2)
def s1:T:=sT (tot (.av 100) (.av 101) (.iv 100)) (.iv 101) (.iv 102)
def ja2(n buf eb en:T):List T:=Di (.lit 0) n (.lit 4096)++ [.eq (.len buf) (.lit 4096)]++Di (.lit 0) eb (.lit 4294967295)++Di (.lit 0) en (.lit 7)
def Tt(room:Int):List T:=ja2 (.iv 0) (.av 1) (.iv 1) (.iv 2)++ [.le (.add (.add (.len (.av 0)) (.iv 0)) (.lit room)) Gl]
def jg8(grow:Int)(fs:T):List T:=ja2 (.iv 100) (.av 101) (.iv 101) (.iv 102)++ [.le (.add (.len (.av 100)) (.iv 100)) (.add (.add (.len (.av 0)) (.iv 0)) (.lit grow)),.aeq s1 fs]
def c94:Hg where
  args:=[p0 (.old 0),.v (.one (.int .u32 (.iv 10))),.v (.one (.int .u32 (.iv 11)))]
  hp:=eIn
  pre:=Tt 6++Di (.lit 0) (.iv 10) (.lit 65535)++Di (.lit 0) (.iv 11) (.lit 16)
  val:=.tup []
  hp':=j01
  post:=jg8 6 (fA 3 (.iv 10) (.iv 11) z0 z0 s0)
  quiet:=false
def wrS(b:Nat)(n buf:T):List (Cl×List Cp):=
  [(.old 1,[.cells [.nilI,.sl (.old 2) 0 (.lit 0) (.lit 4096) (.lit 4096),.int .i64 n,.iface 96 (.ptr (.old 3) 0 (.lit 0))]]),(.old 2,[.arr .u8 buf 4096]),(.old 3,[.cells [.val b,.int .i64 (.lit (-1)),.bool .ff]])]
def qdd:T:=.bits .or .u32 (.wrap .u32 (.shl .u32 (.iv 10) (.wrap .u32 (.sub (.lit 32) (.wrap .u32 (.add (.iv 11) (.iv 2))))))) (.iv 1)
def n94:T:=.wrap .u32 (.add (.iv 11) (.iv 2))
def qgs:List SR→Hp→Option Jh:=En fun b _ _=>{
  lo:=23,hi:=47
  tr:=[(1,.v (.one (.int .u32 (.iv b)))),(2,.v (.one (.int .u32 (.iv (b+1))))),(6,.v (.one (.junk (b+106))))]
  rw:=wrS b (.iv (b+2)) (.av (b+1))
  ow:=some (.av b)
  facts:=Di (.lit 0) (.iv b) (.lit 4294967295)++Di (.lit 0) (.iv (b+1)) (.lit 23)++Di (.lit 0) (.iv (b+2)) (.lit 4096)++ [.eq (.len (.av (b+1))) (.lit 4096),
    .le (.add (.mul (.lit 4) (.add (.len (.av b)) (.iv (b+2)))) (.iv (b+1))) (.add (.mul (.lit 4) (.add (.len (.av 0)) (.iv 0))) (.lit 24)),
    .aeq (fA 1 z0 z0 z0 z0 (sT (tot (.av b) (.av (b+1)) (.iv (b+2))) (.iv b) (.iv (b+1)))) (fA 1 z0 z0 z0 z0 (sT (tot (.av 0) (.av 1) (.iv 0)) qdd n94))]
  meas:=.iv (b+1)
  quiet:=false}
def qc1:Nat→Option Ff:=fun f=>match f with
  | 154=>some (Cx jnl)
  | 155=>some (Cx jvm)
  | 153=>some (Cx jq5)
  | _=>none
def jr1:Nat→Nat→Option (List SR→Hp→Option Jh):=fun f k=>match f,k with
  | 94,3=>some qgs
  | _,_=>none
def jnn:Nat→Bool:=fun f=>f==62||f==84||f==110
def Wt(h:Nat)(run top:Int):Hg where
  args:=[p0 (.old 0),.v (.one (.int .i64 (.lit h))),.v (.one (.int .i32 (.iv 10))),.v (.one (.int .i32 (.iv 11)))]
  hp:={eIn with ro:=[(.glob 5,.u8,cA 44)]}
  pre:=Tt 12++Di (.lit 0) (.iv 10) (.lit run)++Di (.lit (-top)) (.iv 11) (.lit top)
  val:=.tup []
  hp':={j01 with ro:=[(.glob 5,.u8,cA 44)]}
  post:=jg8 12 (fA (10+h) (.iv 10) (.iv 11) z0 z0 s0)
  quiet:=false
def jn3:Nat→Option Ff:=fun f=>match f with
  | 94=>some (Cx c94)
  | _=>none
inductive Xl where
  | bf (a b:Nat)
  | box (a b:Nat) (k:Nat) (c s:Int)
  | sm (a k:Nat) (c:Int)
  | rnd (a:Nat)
  | dc (a:Nat)
  | sl (a:Nat)
def jd6(f:Nat→Int)(n:Nat)(v:Int):Nat→Int:=fun m=>cond (Nat.beq m n) v (f m)
def Qk(x:Int):Int:=IntKind.i32.wrap x
def sh(x:Int):Nat→Int
  | 0=>x
  | k+1=>x/2^(k+1)
def qcz(x y c s:Int):Int:=Qk (Qk (c*Qk (x+y))+Qk (Qk (s-c)*y))
def qd2(x y c s:Int):Int:=Qk (Qk (c*Qk (x+y))-Qk (Qk (c+s)*x))
def Xl.run(f:Nat→Int):Xl→Nat→Int
  | .bf a b=>jd6 (jd6 f a (Qk (f a+f b))) b (Qk (f a-f b))
  | .box a b k c s=>jd6 (jd6 f a (qcz (sh (f a) k) (sh (f b) k) c s)) b (qd2 (sh (f a) k) (sh (f b) k) c s)
  | .sm a k c=>jd6 f a (Qk (sh (f a) k*c))
  | .rnd a=>jd6 f a (Qk (f a+131072)/262144)
  | .dc a=>jd6 f a (Qk (Qk (f a-1024)*262144))
  | .sl a=>jd6 f a (Qk (f a*262144))
def jbf:List Xl→(Nat→Int)→Nat→Int
  | [],f=>f
  | i::l,f=>jbf l (i.run f)
def jgf:List Xl:=[.bf 0 7,.bf 1 6,.bf 2 5,.bf 3 4,.box 4 7 0 217965 145639,.box 5 6 0 257107 51142,.bf 0 3,.bf 1 2,.box 2 3 0 141871 342508,.bf 0 1,.dc 0,.sl 1,.bf 4 6,.bf 7 5,.sm 5 12 5793,.sm 6 12 5793,.bf 7 4]
def Qg:List Xl:=[.bf 0 7,.bf 1 6,.bf 2 5,.bf 3 4,.box 4 7 14 13623 9102,.box 5 6 14 16069 3196,.bf 0 3,.bf 1 2,.box 2 3 14 8867 21407,.bf 0 1,.bf 4 6,.bf 7 5,.sm 5 14 23170,.sm 6 14 23170,.bf 7 4,.rnd 0,.rnd 1,.rnd 2,.rnd 3,.rnd 4,.rnd 5,.rnd 6,.rnd 7]
def Uz(a b c d e f g h:Int):Nat→Int
  | 0=>a|1=>b|2=>c|3=>d|4=>e|5=>f|6=>g|7=>h|_=>0
def Bg(a:List Int)(n:Int):Int:=a.getD n.toNat 0
def Df(i:Int)(a:List Int):Nat→Int:=jbf jgf (Uz (Bg a i) (Bg a (8+i)) (Bg a (16+i)) (Bg a (24+i)) (Bg a (32+i)) (Bg a (40+i)) (Bg a (48+i)) (Bg a (56+i)))
def Pa(i:Int)(a:List Int):Nat→Int:=jbf Qg (Uz (Bg a (8*i)) (Bg a (1+8*i)) (Bg a (2+8*i)) (Bg a (3+8*i)) (Bg a (4+8*i)) (Bg a (5+8*i)) (Bg a (6+8*i)) (Bg a (7+8*i)))
def Wr(i:Int)(a:List Int):List Int:=
  (((((((a.set i.toNat (Df i a 0)).set (32+i).toNat (Df i a 1)).set (16+i).toNat (Df i a 2)).set (48+i).toNat (Df i a 3)).set (8+i).toNat (Df i a 7)).set (24+i).toNat (Df i a 5)).set (40+i).toNat (Df i a 6)).set (56+i).toNat (Df i a 4)
def Wi(i:Int)(a:List Int):List Int:=
  (((((((a.set (8*i).toNat (Pa i a 0)).set (1+8*i).toNat (Pa i a 7)).set (2+8*i).toNat (Pa i a 2)).set (3+8*i).toNat (Pa i a 5)).set (4+8*i).toNat (Pa i a 1)).set (5+8*i).toNat (Pa i a 6)).set (6+8*i).toNat (Pa i a 3)).set (7+8*i).toNat (Pa i a 4)
def Tf(i:Int)(a:List Int):List Int:=if i<8 then Tf (i+1) (Wr i a) else a
termination_by (8-i).toNat
decreasing_by omega
def Ul(i:Int)(a:List Int):List Int:=if i<8 then Ul (i+1) (Wi i a) else a
termination_by (8-i).toNat
decreasing_by omega
theorem Yx{i:Int}{a:List Int}(h:i<8):Tf i a=Tf (i+1) (Wr i a):=by rw[Tf,if_pos h]
theorem jc0{i:Int}{a:List Int}(h: ¬i<8):Tf i a=a:=by rw[Tf,if_neg h]
theorem Xn{i:Int}{a:List Int}(h:i<8):Ul i a=Ul (i+1) (Wi i a):=by rw[Ul,if_pos h]
theorem jbj{i:Int}{a:List Int}(h: ¬i<8):Ul i a=a:=by rw[Ul,if_neg h]
def Dc(a:List Int):List Int:=Ul 0 (Tf 0 a)
def Oc(a b:Int):Int:=if 0≤a then (a+b/2)/b else-((-a+b/2)/b)
def Hl:List Int:=[0,1,8,16,9,2,3,10,17,24,32,25,18,11,4,5,12,19,26,33,40,48,41,34,27,20,13,6,7,14,21,28,35,42,49,56,57,50,43,36,29,22,15,23,30,37,44,51,58,59,52,45,38,31,39,46,53,60,61,54,47,55,62,63]
def coef(q:Nat)(quant d:List Int)(k:Int):Int:=Oc (Bg d (Bg Hl k)) (8*Bg quant (64*q+k))
def jbp(q:Nat)(s:St)(run:Int):St:=if 15<run then jbp q (Zh (2*q+1) s 240) (run-16) else s
termination_by run.toNat
decreasing_by omega
def acF(q:Nat)(quant d:List Int)(s:St)(zig run:Int):St:=
  if zig<64 then
    if coef q quant d zig=0 then acF q quant d s (zig+1) (run+1)
    else acF q quant d (Pu (2*q+1) (jbp q s run) (run % 16) (coef q quant d zig)) (zig+1) 0
  else if 0<run then Zh (2*q+1) s 0 else s
termination_by (64-zig).toNat
decreasing_by all_goals omega
def Ub(q:Nat)(quant blk:List Int)(s:St)(prev:Int):St:=
  acF q quant (Dc blk) (Pu (2*q) s 0 (coef q quant (Dc blk) 0-prev)) 1 0
theorem jbh{q:Nat}{s:St}{run:Int}(h:15<run):jbp q s run=jbp q (Zh (2*q+1) s 240) (run-16):=by rw[jbp,if_pos h]
theorem jaz{q:Nat}{s:St}{run:Int}(h: ¬15<run):jbp q s run=s:=by rw[jbp,if_neg h]
theorem jg3{q:Nat}{quant d:List Int}{s:St}{zig run:Int}(h:zig<64)(h0:coef q quant d zig=0):acF q quant d s zig run=acF q quant d s (zig+1) (run+1):=by rw[acF,if_pos h,if_pos h0]
theorem jft{q:Nat}{quant d:List Int}{s:St}{zig run:Int}(h:zig<64)(h0: ¬coef q quant d zig=0):acF q quant d s zig run=acF q quant d (Pu (2*q+1) (jbp q s run) (run % 16) (coef q quant d zig)) (zig+1) 0:=by rw[acF,if_pos h,if_neg h0]
theorem jlj{q:Nat}{quant d:List Int}{s:St}{zig run:Int}(h: ¬zig<64)(h0:0<run):acF q quant d s zig run=Zh (2*q+1) s 0:=by rw[acF,if_neg h,if_pos h0]
theorem jks{q:Nat}{quant d:List Int}{s:St}{zig run:Int}(h: ¬zig<64)(h0: ¬0<run):acF q quant d s zig run=s:=by rw[acF,if_neg h,if_neg h0]
def Bn(lo hi:Int)(l:List Int):Bool:=l.all fun x=>decide (lo≤x)&&decide (x≤hi)
def Fy(px py wide high:Int)(pix:List Int):List Int:=
  (List.range 64).map fun i=>Bg pix (min (py+(i/8:Nat)) (high-1)*wide+min (px+(i % 8:Nat)) (wide-1))
def rOk(D:List Int)(at_ us:Int):Bool:=decide (at_<D.length)&&(decide (Bg D at_≠255)||(decide (at_+1<D.length)&&decide (Bg D (at_+1)=0)))
def rV(D:List Int)(at_ us:Int):Int:=Bg D at_/2^(7-us).toNat % 2
def rAt(D:List Int)(at_ us:Int):Int:=if us+1=8 then (if Bg D at_=255 then at_+2 else at_+1) else at_
def Rj(us:Int):Int:=if us+1=8 then 0 else us+1
def Ez(D:List Int):Nat→Int→Int→Int→List Int
  | 0,v,at_,us=>[v,at_,us]
  | n+1,v,at_,us=>Ez D n (2*v+rV D at_ us) (rAt D at_ us) (Rj us)
def Ng(D:List Int):Nat→Int→Int→Bool
  | 0,_,_=>true
  | n+1,at_,us=>rOk D at_ us&&Ng D n (rAt D at_ us) (Rj us)
def sgn(n v:Int):Int:=if 0<n∧v<2^(n-1).toNat then v-(2^n.toNat-1) else v
def Fm(cs sy D:List Int):Nat→Int→Int→Int→Int→Int→List Int
  | 0,_,_,_,at_,us=>[0,at_,us]
  | f+1,code,first,index,at_,us=>
    let c:=2*code+rV D at_ us
    let n:=Bg cs (16-f)
    if c-first<n then [Bg sy (index+c-first),rAt D at_ us,Rj us]
    else Fm cs sy D f c (2*(first+n)) (index+n) (rAt D at_ us) (Rj us)
def Eh(cs sy D:List Int):Nat→Int→Int→Int→Int→Int→Bool
  | 0,_,_,_,_,_=>false
  | f+1,code,first,index,at_,us=>
    let c:=2*code+rV D at_ us
    let n:=Bg cs (16-f)
    rOk D at_ us&&(if c-first<n then decide (0≤index+c-first)&&decide (index+c-first<sy.length)
    else Eh cs sy D f c (2*(first+n)) (index+n) (rAt D at_ us) (Rj us))
def Bm(cs sy D:List Int)(at_ us:Int):List Int:=Fm cs sy D 16 0 0 0 at_ us
def Gz(cs sy D:List Int)(at_ us:Int):Bool:=Eh cs sy D 16 0 0 0 at_ us
def e0(l:List Int):Int:=l.getD 0 0
def e1(l:List Int):Int:=l.getD 1 0
def e2(l:List Int):Int:=l.getD 2 0
def Kk(cs sy D:List Int)(at_ us:Int):Int:=e0 (Bm cs sy D at_ us)/16
def Hi(cs sy D:List Int)(at_ us:Int):Int:=e0 (Bm cs sy D at_ us) % 16
def sAt(cs sy D:List Int)(at_ us:Int):Int:=e1 (Bm cs sy D at_ us)
def sUs(cs sy D:List Int)(at_ us:Int):Int:=e2 (Bm cs sy D at_ us)
def jqj(cs sy D:List Int)(at_ us:Int):List Int:=Ez D (Hi cs sy D at_ us).toNat 0 (sAt cs sy D at_ us) (sUs cs sy D at_ us)
def Ef(cs sy D:List Int)(d k at_ us:Int)(bl:List Int):List Int:=
  if k≤63 then
    if Hi cs sy D at_ us=0 then
      if Kk cs sy D at_ us=0 then sAt cs sy D at_ us::sUs cs sy D at_ us::bl else Ef cs sy D d (k+16) (sAt cs sy D at_ us) (sUs cs sy D at_ us) bl
    else if 0≤Kk cs sy D at_ us then Ef cs sy D d (k+Kk cs sy D at_ us+1) (e1 (jqj cs sy D at_ us)) (e2 (jqj cs sy D at_ us)) (bl.set (d+(k+Kk cs sy D at_ us)).toNat (sgn (Hi cs sy D at_ us) (e0 (jqj cs sy D at_ us))))
    else []
  else at_::us::bl
termination_by (64-k).toNat
decreasing_by all_goals omega
def Ge(cs sy D:List Int)(k at_ us:Int):Bool:=
  if k≤63 then
    Gz cs sy D at_ us&&(if Hi cs sy D at_ us=0 then
      (if Kk cs sy D at_ us=0 then true else decide (Kk cs sy D at_ us=15)&&(decide (k+15<63)&&Ge cs sy D (k+16) (sAt cs sy D at_ us) (sUs cs sy D at_ us)))
    else if 0≤Kk cs sy D at_ us then decide (k+Kk cs sy D at_ us≤63)&&(Ng D (Hi cs sy D at_ us).toNat (sAt cs sy D at_ us) (sUs cs sy D at_ us)&&Ge cs sy D (k+Kk cs sy D at_ us+1) (e1 (jqj cs sy D at_ us)) (e2 (jqj cs sy D at_ us))) else false)
  else true
termination_by (64-k).toNat
decreasing_by all_goals omega
def Mr(us:Int):Nat:=if us=0 then 0 else (8-us).toNat
def Mp(D:List Int):Nat→Int→Int→Int
  | 0,at_,_=>at_
  | n+1,at_,us=>Mp D n (rAt D at_ us) (Rj us)
def Uw(D:List Int):Nat→Int→Int→Bool
  | 0,_,_=>true
  | n+1,at_,us=>rOk D at_ us&&(decide (rV D at_ us=1)&&Uw D n (rAt D at_ us) (Rj us))
def qm5:List (List Int):=[
  [0,0,1,5,1,1,1,1,1,1,0,0,0,0,0,0,0],
  [0,0,2,1,3,3,2,4,3,5,5,4,4,0,0,1,125],
  [0,0,3,1,1,1,1,1,1,1,1,1,0,0,0,0,0],
  [0,0,2,1,2,4,4,3,4,7,5,4,4,0,1,2,119]]
def qib:List (List Int):=[
  [0,1,2,3,4,5,6,7,8,9,10,11],
  [0x01,0x02,0x03,0x00,0x04,0x11,0x05,0x12,0x21,0x31,0x41,0x06,0x13,0x51,0x61,0x07,0x22,0x71,0x14,0x32,0x81,0x91,0xa1,0x08,0x23,0x42,0xb1,0xc1,0x15,0x52,0xd1,0xf0,0x24,0x33,0x62,0x72,0x82,0x09,0x0a,0x16,0x17,0x18,0x19,0x1a,0x25,0x26,0x27,0x28,0x29,0x2a,0x34,0x35,0x36,0x37,0x38,0x39,0x3a,0x43,0x44,0x45,0x46,0x47,0x48,0x49,0x4a,0x53,0x54,0x55,0x56,0x57,0x58,0x59,0x5a,0x63,0x64,0x65,0x66,0x67,0x68,0x69,0x6a,0x73,0x74,0x75,0x76,0x77,0x78,0x79,0x7a,0x83,0x84,0x85,0x86,0x87,0x88,0x89,0x8a,0x92,0x93,0x94,0x95,0x96,0x97,0x98,0x99,0x9a,0xa2,0xa3,0xa4,0xa5,0xa6,0xa7,0xa8,0xa9,0xaa,0xb2,0xb3,0xb4,0xb5,0xb6,0xb7,0xb8,0xb9,0xba,0xc2,0xc3,0xc4,0xc5,0xc6,0xc7,0xc8,0xc9,0xca,0xd2,0xd3,0xd4,0xd5,0xd6,0xd7,0xd8,0xd9,0xda,0xe1,0xe2,0xe3,0xe4,0xe5,0xe6,0xe7,0xe8,0xe9,0xea,0xf1,0xf2,0xf3,0xf4,0xf5,0xf6,0xf7,0xf8,0xf9,0xfa],
  [0,1,2,3,4,5,6,7,8,9,10,11],
  [0x00,0x01,0x02,0x03,0x11,0x04,0x05,0x21,0x31,0x06,0x12,0x41,0x51,0x07,0x61,0x71,0x13,0x22,0x32,0x81,0x08,0x14,0x42,0x91,0xa1,0xb1,0xc1,0x09,0x23,0x33,0x52,0xf0,0x15,0x62,0x72,0xd1,0x0a,0x16,0x24,0x34,0xe1,0x25,0xf1,0x17,0x18,0x19,0x1a,0x26,0x27,0x28,0x29,0x2a,0x35,0x36,0x37,0x38,0x39,0x3a,0x43,0x44,0x45,0x46,0x47,0x48,0x49,0x4a,0x53,0x54,0x55,0x56,0x57,0x58,0x59,0x5a,0x63,0x64,0x65,0x66,0x67,0x68,0x69,0x6a,0x73,0x74,0x75,0x76,0x77,0x78,0x79,0x7a,0x82,0x83,0x84,0x85,0x86,0x87,0x88,0x89,0x8a,0x92,0x93,0x94,0x95,0x96,0x97,0x98,0x99,0x9a,0xa2,0xa3,0xa4,0xa5,0xa6,0xa7,0xa8,0xa9,0xaa,0xb2,0xb3,0xb4,0xb5,0xb6,0xb7,0xb8,0xb9,0xba,0xc2,0xc3,0xc4,0xc5,0xc6,0xc7,0xc8,0xc9,0xca,0xd2,0xd3,0xd4,0xd5,0xd6,0xd7,0xd8,0xd9,0xda,0xe2,0xe3,0xe4,0xe5,0xe6,0xe7,0xe8,0xe9,0xea,0xf2,0xf3,0xf4,0xf5,0xf6,0xf7,0xf8,0xf9,0xfa]]
def Bl(h:Nat):List Int:=qm5.getD h []
def At(h:Nat):List Int:=qib.getD h []
def dcS(q:Nat)(D:List Int)(at_ us:Int):List Int:=Bm (Bl (2*q)) (At (2*q)) D at_ us
def Xv(q:Nat)(D:List Int)(at_ us:Int):List Int:=Ez D (e0 (dcS q D at_ us)).toNat 0 (e1 (dcS q D at_ us)) (e2 (dcS q D at_ us))
def Tg(q:Nat)(D:List Int)(at_ us:Int):Int:=sgn (e0 (dcS q D at_ us)) (e0 (Xv q D at_ us))
def Yu(q:Nat)(D:List Int)(at_ us:Int):Bool:=Gz (Bl (2*q)) (At (2*q)) D at_ us&&Ng D (e0 (dcS q D at_ us)).toNat (e1 (dcS q D at_ us)) (e2 (dcS q D at_ us))
def acS(q:Nat)(D:List Int)(d at_ us:Int)(bl:List Int):List Int:=Ef (Bl (2*q+1)) (At (2*q+1)) D d 1 at_ us bl
def Gg(q:Nat)(D:List Int)(d at_ us p:Int)(bl:List Int):List Int:=
  acS q D d (e1 (Xv q D at_ us)) (e2 (Xv q D at_ us)) (bl.set d.toNat (p+Tg q D at_ us))
def Li(q:Nat)(D:List Int)(at_ us p:Int):Bool:=
  Yu q D at_ us&&(decide (-1024≤p+Tg q D at_ us)&&(decide (p+Tg q D at_ us≤1023)&&Ge (Bl (2*q+1)) (At (2*q+1)) D 1 (e1 (Xv q D at_ us)) (e2 (Xv q D at_ us))))
def scL(D:List Int):Nat→Int→Int→Int→Int→List Int→List Int
  | 0,_,at_,us,_,bl=>at_::us::bl
  | n+1,m,at_,us,p,bl=>scL D n (m+1) (e0 (Gg 0 D (64*m) at_ us p bl)) (e1 (Gg 0 D (64*m) at_ us p bl)) (p+Tg 0 D at_ us) ((Gg 0 D (64*m) at_ us p bl).drop 2)
def Rz(D:List Int):Nat→Int→Int→Int→Int→List Int→Bool
  | 0,_,at_,us,_,_=>Uw D (Mr us) at_ us
  | n+1,m,at_,us,p,bl=>Li 0 D at_ us p&&Rz D n (m+1) (e0 (Gg 0 D (64*m) at_ us p bl)) (e1 (Gg 0 D (64*m) at_ us p bl)) (p+Tg 0 D at_ us) ((Gg 0 D (64*m) at_ us p bl).drop 2)
def jv3(D:List Int)(n:Nat)(at_:Int)(bl:List Int):Int:=Mp D (Mr (e1 (scL D n 0 at_ 0 0 bl))) (e0 (scL D n 0 at_ 0 0 bl)) (e1 (scL D n 0 at_ 0 0 bl))
def j0g(D:List Int)(n:Nat)(at_:Int)(bl:List Int):List Int:=(scL D n 0 at_ 0 0 bl).drop 2
def Cs(l:List Int)(s n:Nat):List Int:=(l.drop s).take n
def Ss:List Int:=[0]++(Bl 0).drop 1++At 0++ [16]++(Bl 1).drop 1++At 1
def j9s:List Int:=[1,1,0,0,63,0]
def Lw(j:Nat)(b:List Int):Nat→List Int→List Int
  | 0,q=>q
  | k+1,q=>(Lw j b k q).set (64*j+k) (Bg b ((65*j+1+k:Nat):Int))
def wdD(D:List Int):Int:=Bg D 143*256+Bg D 144
def hgD(D:List Int):Int:=Bg D 141*256+Bg D 142
def Nl(w h:Int):Int:=(w+7)/8*((h+7)/8)
def nbD(D:List Int):Int:=Nl (wdD D) (hgD D)
def Cr(n:Int):List Int:=List.replicate (64*n).toNat 0
def blD(D:List Int):List Int:=j0g D (nbD D).toNat 371 (Cr (nbD D))
def jml(D:List Int):Int:=jv3 D (nbD D).toNat 371 (Cr (nbD D))
def Ws(l:List Int):Bool:=decide (-1024≤Bg l 0)&&(decide (Bg l 0≤1023)&&l.tail.all fun x=>decide (-1023≤x)&&decide (x≤1023))
def Xh(n:Nat)(bl:List Int):Bool:=(List.range n).all fun m=>Ws (Cs bl (64*m) 64)
def gOk(D:List Int):Bool:=
  decide (Cs D 0 7=[255,216,255,219,0,132,0])&&(((Cs D 7 64).all fun x=>decide (1≤x))&&(decide (Bg D 71=1)&&(((Cs D 72 64).all fun x=>decide (1≤x))&&
  (decide (Cs D 136 5=[255,192,0,11,8])&&(decide (1≤wdD D)&&(decide (1≤hgD D)&&(decide (wdD D*hgD D≤65536)&&(decide (Cs D 145 4=[1,1,17,0])&&
  (decide (Cs D 149 4=[255,196,0,210])&&(decide (Cs D 153 208=Ss)&&(decide (Cs D 361 4=[255,218,0,8])&&(decide (Cs D 365 6=j9s)&&
  (Rz D (nbD D).toNat 0 371 0 0 (Cr (nbD D))&&(decide (Bg D (jml D)=255)&&(decide (Bg D (jml D+1)=217)&&(decide (jml D+2=D.length)&&Xh (nbD D).toNat (blD D)))))))))))))))))
def Nj(k:Int):List Int:=(List.range 192).map fun (j:Nat)=>if j<64∧k≤(j:Int) then-1 else 0
def Te(k:Int):List Int:=(List.range 192).map fun (j:Nat)=>if j<64∧(j:Int)<k then-1 else 0
def Hj(h k:Nat):List Int:=((At h).take k).foldl (fun l s=>l.set s.toNat 1) (List.replicate 256 0)
def Tl(w h:Int)(pix quant:List Int)(s:St)(prev x y:Int):St:=
  if y<h then
    if x<w then Tl w h pix quant (Ub 0 quant (Fy x y w h pix) s prev) (coef 0 quant (Dc (Fy x y w h pix)) 0) (x+8) y
    else Tl w h pix quant s prev 0 (y+8)
  else jbk s 127 7
termination_by ((h-y).toNat,(w-x).toNat)
decreasing_by
  · apply Prod.Lex.right;omega
  · apply Prod.Lex.left;omega
def Yi:List Int:=[255,218,0,8,1,1,0,0,63,0]
def jq1(w h:Int)(pix quant:List Int)(s:St):St:=Tl w h pix quant ⟨s.t++Yi,s.b,s.n⟩ 0 0 0
theorem jm5{w h:Int}{pix quant:List Int}{s:St}{prev x y:Int}(hy:y<h)(hx:x<w):Tl w h pix quant s prev x y=Tl w h pix quant (Ub 0 quant (Fy x y w h pix) s prev) (coef 0 quant (Dc (Fy x y w h pix)) 0) (x+8) y:=by rw[Tl,if_pos hy,if_pos hx]
theorem jfs{w h:Int}{pix quant:List Int}{s:St}{prev x y:Int}(hy:y<h)(hx: ¬x<w):Tl w h pix quant s prev x y=Tl w h pix quant s prev 0 (y+8):=by rw[Tl,if_pos hy,if_neg hx]
theorem Zy{w h:Int}{pix quant:List Int}{s:St}{prev x y:Int}(hy: ¬y<h):Tl w h pix quant s prev x y=jbk s 127 7:=by rw[Tl,if_neg hy]
def uqL:List Int:=[16,11,12,14,12,10,16,14,13,14,18,17,16,19,24,40,26,24,22,22,24,49,35,37,29,40,58,51,61,60,57,51,56,55,64,72,92,78,64,68,87,69,55,56,80,109,81,87,95,98,103,104,103,62,77,113,121,112,100,120,92,101,103,99,17,18,18,24,21,24,47,26,26,47,99,66,56,66,99,99,99,99,99,99,99,99,99,99,99,99,99,99,99,99,99,99,99,99,99,99,99,99,99,99,99,99,99,99,99,99,99,99,99,99,99,99,99,99,99,99,99,99,99,99,99,99,99,99]
def Kd(q:Int):Int:=if q<50 then 5000/q else 200-q*2
def qel(q:Int)(k:Nat):Int:=
  if (Bg uqL (k:Int)*Kd q+50)/100<1 then 1 else if 255<(Bg uqL (k:Int)*Kd q+50)/100 then 255 else (Bg uqL (k:Int)*Kd q+50)/100
def Ci(q:Int):List Int:=(List.range 128).map (qel q)
def jmd(q w h:Int):List Int:=
  [255,216]++([255,219,0,132]++([0]++(Cs (Ci q) 0 64++([1]++(Cs (Ci q) 64 64++([255,192,0,11]++([8,h/256,h % 256,w/256,w % 256,1,1,17,0]++
    ([255,196,0,210]++([0]++((Bl 0).drop 1++(At 0++([16]++((Bl 1).drop 1++At 1)))))))))))))
def Gf(q w h:Int)(pix:List Int):List Int:=(jq1 w h pix (Ci q) ⟨jmd q w h,0,0⟩).t++ [255,217]
def KI(h:Nat):Nat→Int
  | 0=>0
  | i+1=>KI h i+Bg (Bl h) (i+1:Nat)
def CI(h:Nat):Nat→Int
  | 0=>0
  | i+1=>(CI h i+Bg (Bl h) (i+1:Nat))*2
def Mv(h k:Nat):Int:=((At h).take k).foldl (fun m s=>if m<s then s else m) 0
def Nv(h k:Nat):List Int:=((At h).take k).foldl (fun l s=>l.set s.toNat ((Kv.getD h []).getD s.toNat 0)) (List.replicate (if h % 2=0 then 12 else 251) 0)
def Fx:List Int:=[370728,514214,484379,435930,370728,291279,200636,102284,370728,435930,200636,-102284,-370728,-514214,-484379,-291279,370728,291279,-200636,-514214,-370728,102284,484379,435930,370728,102284,-484379,-291279,370728,435930,-200636,-514214,370728,-102284,-484379,291279,370728,-435930,-200636,514214,370728,-291279,-200636,514214,-370728,-102284,484379,-435930,370728,-435930,200636,102284,-370728,514214,-484379,291279,370728,-514214,484379,-435930,370728,-291279,200636,-102284]
def Pb(f:Int→Nat→Int)(n x:Int):List Int:=(List.range 64).map fun i:Nat=>if (i:Int)<n then f i 8 else if (i:Int)=n then f i x.toNat else 0
def Us(s:List Int)(i:Int):Nat→Int
  | 0=>0
  | n+1=>Us s i n+Bg Fx (8*n+i % 8)*(Bg s (8*(i/8)+n)-128)
def Pg(s:List Int):List Int:=Pb (Us s) 64 0
def Ww(h:List Int)(i:Int):Nat→Int
  | 0=>0
  | n+1=>Ww h i n+Bg Fx (8*n+i/8)*Bg h (8*n+i % 8)
def jd0(s:List Int):List Int:=Pb (Ww (Pg s)) 64 0
def exP(k:Int)(s:List Int):List Int:=(List.range 64).map fun i:Nat=>if (i:Int)<k then Bg (jd0 s) (Bg Hl i) else 0
def My(s:List Int):List Int:=exP 64 s
theorem jgh{f:Int→Nat→Int}{n x:Int}:(Pb f n x).length=64:=by simp[Pb]
theorem Ku{f:Int→Nat→Int}{n x j:Int}(h0:0≤j)(h1:j<64):Bg (Pb f n x) j=if j<n then f j 8 else if j=n then f j x.toNat else 0:=by
  obtain ⟨m,rfl⟩:=Int.eq_ofNat_of_zero_le h0
  unfold Pb Bg
  rw[List.getD_eq_getElem?_getD,List.getElem?_map,Int.toNat_natCast,List.getElem?_range (by omega)]
  rfl
theorem jfw{l:List Int}{f:Int→Nat→Int}{n x:Int}(hl:l.length=64)(h: ∀j:Int,0≤j→j<64→Bg l j=Bg (Pb f n x) j):l=Pb f n x:=by
  apply List.ext_getElem (by rw[hl,jgh])
  intro i h1 h2
  have:=h (i:Int) (by omega) (by omega)
  unfold Bg at this
  rw[Int.toNat_natCast,List.getD_eq_getElem?_getD,List.getD_eq_getElem?_getD,List.getElem?_eq_getElem h1,List.getElem?_eq_getElem h2] at this
  exact this
theorem jgk{f:Int→Nat→Int}(hf: ∀i,f i 0=0):Pb f 0 0=List.replicate 64 0:=by
  symm
  refine jfw (by simp) fun j h0 h1=> ?_
  rw[Ku h0 h1,if_neg (by omega)]
  unfold Bg
  rw[List.getD_eq_getElem?_getD,List.getElem?_replicate,if_pos (by omega),Int.toNat_zero,hf,ite_self]
  rfl
theorem jhq{f:Int→Nat→Int}(hf: ∀i,f i 0=0){n x m:Int}(hx:x=8)(hm:m=n+1):Pb f m 0=Pb f n x:=by
  subst hx hm
  refine jfw jgh fun j h0 h1=> ?_
  rw[Ku h0 h1,Ku h0 h1]
  by_cases h:j<n
  · rw[if_pos h,if_pos (by omega)]
  · rw[if_neg h]
    by_cases h2:j=n
    · rw[if_pos h2,if_pos (by omega)];rfl
    · rw[if_neg h2,if_neg (by omega),Int.toNat_zero,hf,ite_self]
theorem j1g{l:List Int}{n j v:Int}(h0:0≤n)(h1:n<l.length)(hj:0≤j):Bg (l.set n.toNat v) j=if j=n then v else Bg l j:=by
  unfold Bg
  rw[List.getD_eq_getElem?_getD,List.getD_eq_getElem?_getD,List.getElem?_set]
  by_cases h:j=n
  · subst h;rw[if_pos rfl,if_pos rfl,if_pos (by omega)];rfl
  · rw[if_neg (by omega),if_neg h]
theorem jie{f:Int→Nat→Int}{n x v:Int}(h0:0≤n)(h1:n<64)(hx:0≤x)(hv:v=f n (x.toNat+1)):Pb f n (x+1)=(Pb f n x).set n.toNat v:=by
  symm
  refine jfw (by simp[Pb]) fun j g0 g1=> ?_
  rw[j1g h0 (by rw[jgh];omega) g0,Ku g0 g1,Ku g0 g1]
  by_cases h:j=n
  · subst h
    rw[if_pos rfl,if_neg (by omega),if_pos rfl,hv]
    congr 1;omega
  · rw[if_neg h,if_neg h,if_neg h]
theorem He{b c B C:Int}(h1: -B≤b)(h2:b≤B)(h3: -C≤c)(h4:c≤C): -(B*C)≤b*c∧b*c≤B*C:=by
  have hb:b.natAbs≤B.natAbs:=by omega
  have hc:c.natAbs≤C.natAbs:=by omega
  have h:(b*c).natAbs≤(B*C).natAbs:=by rw[Int.natAbs_mul,Int.natAbs_mul];exact Nat.mul_le_mul hb hc
  have hp:0≤B*C:=Int.mul_nonneg (by omega) (by omega)
  omega
theorem jub:Fx.all (fun x=>decide (-514214≤x)&&decide (x≤514214))=true:=by decide+kernel
theorem Dy{lo hi:Int}{l:List Int}(h: ∀x∈l,lo≤x∧x≤hi)(h0:lo≤0)(h1:0≤hi)(j:Int):lo≤Bg l j∧Bg l j≤hi:=by
  unfold Bg
  rw[List.getD_eq_getElem?_getD]
  cases e:l[j.toNat]? with
  | none=>exact ⟨h0,h1⟩
  | some x=>exact h x (List.mem_of_getElem? e)
theorem Jw(j:Int): -514214≤Bg Fx j∧Bg Fx j≤514214:=
  Dy (fun x hx=>by have:=List.all_eq_true.1 jub x hx;simpa only[Bool.and_eq_true,decide_eq_true_eq] using this) (by decide) (by decide) j
theorem Zl{s:List Int}(hs: ∀x∈s,0≤x∧x≤255)(i:Int): ∀n:Nat,-((n:Int)*65819392)≤Us s i n∧Us s i n≤(n:Int)*65819392
  | 0=>by simp[Us]
  | n+1=>by
    have ih:=Zl hs i n
    have h1:=Jw (8*(n:Int)+i % 8)
    have h2:=Dy hs (by decide) (by decide) (8*(i/8)+(n:Int))
    have h3:=He (c:=Bg s (8*(i/8)+(n:Int))-128) (C:=128) h1.1 h1.2 (by omega) (by omega)
    rw[Us]
    omega
theorem jn8{s:List Int}(hs: ∀x∈s,0≤x∧x≤255): ∀x∈Pg s,-526555136≤x∧x≤526555136:=by
  intro x hx
  unfold Pg Pb at hx
  obtain ⟨i,hi,rfl⟩:=List.mem_map.1 hx
  have:=Zl hs (i:Int) 8
  rw[if_pos (by rw[List.mem_range] at hi;omega)]
  omega
theorem jan{h:List Int}(hh: ∀x∈h,-526555136≤x∧x≤526555136)(i:Int): ∀n:Nat,-((n:Int)*270762022703104)≤Ww h i n∧Ww h i n≤(n:Int)*270762022703104
  | 0=>by simp[Ww]
  | n+1=>by
    have ih:=jan hh i n
    have h1:=Jw (8*(n:Int)+i/8)
    have h2:=Dy hh (by decide) (by decide) (8*(n:Int)+i % 8)
    have h3:=He h1.1 h1.2 h2.1 h2.2
    rw[Ww]
    omega
theorem juq{s:List Int}:exP 0 s=List.replicate 64 0:=by
  unfold exP
  apply List.ext_getElem (by simp)
  intro i h1 h2
  simp only[List.getElem_map,List.getElem_range,List.getElem_replicate]
  rw[if_neg (by omega)]
theorem j0h{k v:Int}{s:List Int}(h0:0≤k)(h1:k<64)(hv:v=Bg (jd0 s) (Bg Hl k)):exP (k+1) s=(exP k s).set k.toNat v:=by
  unfold exP
  apply List.ext_getElem (by simp)
  intro i g1 g2
  rw[List.getElem_set]
  simp only[List.getElem_map,List.getElem_range]
  by_cases h:k.toNat=i
  · rw[if_pos h,if_pos (by omega),hv,show k=(i:Int) from by omega]
  · rw[if_neg h]
    by_cases h2:(i:Int)<k
    · rw[if_pos h2,if_pos (by omega)]
    · rw[if_neg h2,if_neg (by omega)]
def jsb(c q e:Int):Bool:=decide (imx (c*q*1099511627776-e) (0-(c*q*1099511627776-e))≤(q+1)*549755813888)
def jl8(cols rows:Int)(pl bl q:List Int)(X across m:Nat):Bool:=
  (List.range 64).all fun k=>jsb (Bg bl (64*((m/X*across+m % X:Nat):Int)+k)) (Bg q k) (Bg (My (Fy (8*((m % X:Nat):Int)) (8*((m/X:Nat):Int)) cols rows pl)) k)
def Fp(cols rows:Int)(X Y:Int)(pl bl q:List Int)(across:Int):Bool:=
  (List.range (X.toNat*Y.toNat)).all fun m=>jl8 cols rows pl bl q X.toNat across.toNat m
def Ls(w h:Int)(vs:List Int):List Int:=
  (List.range (64*w.toNat*h.toNat)).map fun i=>Bg vs ((i/(64*w.toNat)*w.toNat+i % (8*w.toNat)/8:Nat):Int)
theorem jwq{cols rows X Y across:Int}{pl bl q:List Int}(h:Fp cols rows X Y pl bl q across=true){m:Nat}(hm:m<X.toNat*Y.toNat){k:Nat}(hk:k<64):
    jsb (Bg bl (64*((m/X.toNat*across.toNat+m % X.toNat:Nat):Int)+k)) (Bg q k) (Bg (My (Fy (8*((m % X.toNat:Nat):Int)) (8*((m/X.toNat:Nat):Int)) cols rows pl)) k)=true:=by
  have h1:=List.all_eq_true.1 h m (List.mem_range.2 hm)
  exact List.all_eq_true.1 h1 k (List.mem_range.2 hk)
def Mw(off px py w h:Int)(P:List Int):List Int:=
  (List.range 64).map fun i=>Bg P (off+(min (py+(i/8:Nat)) (h-1)/2*((w+1)/2)+min (px+(i % 8:Nat)) (w-1)/2))
def Ov(w h:Int):Int:=w*h
def Po(w h:Int):Int:=w*h+(w+1)/2*((h+1)/2)
def Nw(off x y w h:Int)(P:List Int):List Int:=
  Mw off x y w h P++(Mw off (x+8) y w h P++(Mw off x (y+8) w h P++Mw off (x+8) (y+8) w h P))
def scV(s:List Int)(p:Nat):Int:=
  let j:Int:=(64*(2*(p/32)+p % 8/4)+16*(p/8 % 4)+2*(p % 4):Nat)
  (Bg s j+Bg s (j+1)+Bg s (j+8)+Bg s (j+9)+2)/4
def Nx(s:List Int):List Int:=(List.range 64).map (scV s)
def scO(n:Nat):Nat:=8*(n/4 % 4)+n % 4+n/32*32+n/16 % 2*4
def jgt(s old:List Int):Nat→List Int
  | 0=>old
  | n+1=>(jgt s old n).set (scO n) (scV s (scO n))
def jyt(w h:Int)(P q:List Int)(s:St)(a b c x y:Int):St:=
  Ub 1 q (Nx (Nw (Po w h) x y w h P)) (Ub 1 q (Nx (Nw (Ov w h) x y w h P)) (Ub 0 q (Fy (x+8) (y+8) w h P) (Ub 0 q (Fy x (y+8) w h P) (Ub 0 q (Fy (x+8) y w h P) (Ub 0 q (Fy x y w h P) s a) (coef 0 q (Dc (Fy x y w h P)) 0)) (coef 0 q (Dc (Fy (x+8) y w h P)) 0)) (coef 0 q (Dc (Fy x (y+8) w h P)) 0)) b) c
def Tr(w h:Int)(P q:List Int)(s:St)(a b c x y:Int):St:=
  if y<h then
    if x<w then Tr w h P q (jyt w h P q s a b c x y) (coef 0 q (Dc (Fy (x+8) (y+8) w h P)) 0) (coef 1 q (Dc (Nx (Nw (Ov w h) x y w h P))) 0) (coef 1 q (Dc (Nx (Nw (Po w h) x y w h P))) 0) (x+16) y
    else Tr w h P q s a b c 0 (y+16)
  else jbk s 127 7
termination_by ((h-y).toNat,(w-x).toNat)
decreasing_by
  · apply Prod.Lex.right;omega
  · apply Prod.Lex.left;omega
def jbn:List Int:=[255,218,0,12,3,1,0,2,17,3,17,0,63,0]
def Sf(w h:Int)(P q:List Int)(s:St):St:=Tr w h P q ⟨s.t++jbn,s.b,s.n⟩ 0 0 0 0 0
theorem jhp{w h:Int}{P q:List Int}{s:St}{a b c x y:Int}(hy:y<h)(hx:x<w):Tr w h P q s a b c x y=Tr w h P q (jyt w h P q s a b c x y) (coef 0 q (Dc (Fy (x+8) (y+8) w h P)) 0) (coef 1 q (Dc (Nx (Nw (Ov w h) x y w h P))) 0) (coef 1 q (Dc (Nx (Nw (Po w h) x y w h P))) 0) (x+16) y:=by rw[Tr,if_pos hy,if_pos hx]
theorem jeb{w h:Int}{P q:List Int}{s:St}{a b c x y:Int}(hy:y<h)(hx: ¬x<w):Tr w h P q s a b c x y=Tr w h P q s a b c 0 (y+16):=by rw[Tr,if_pos hy,if_neg hx]
theorem jam{w h:Int}{P q:List Int}{s:St}{a b c x y:Int}(hy: ¬y<h):Tr w h P q s a b c x y=jbk s 127 7:=by rw[Tr,if_neg hy]
def jrj(q w h:Int):List Int:=
  [255,216]++([255,219,0,132]++([0]++(Cs (Ci q) 0 64++([1]++(Cs (Ci q) 64 64++([255,192,0,17]++([8,h/256,h % 256,w/256,w % 256,3,1,34,0,2,17,1,3,17,1]++
    ([255,196,1,162]++([0]++((Bl 0).drop 1++(At 0++([16]++((Bl 1).drop 1++(At 1++([1]++((Bl 2).drop 1++(At 2++([17]++((Bl 3).drop 1++At 3)))))))))))))))))))
def Ts(q w h:Int)(P:List Int):List Int:=(Sf w h P (Ci q) ⟨jrj q w h,0,0⟩).t++ [255,217]
structure CS where
  at_:Int
  us:Int
  p0:Int
  p1:Int
  p2:Int
  b0:List Int
  b1:List Int
  b2:List Int
def pkC(s:CS):List Int:=s.at_::s.us::s.p0::s.p1::s.p2::(s.b0.length:Int)::(s.b1.length:Int)::(s.b0++(s.b1++s.b2))
def rd0(D:List Int)(d:Int)(s:CS):CS:={s with at_:=e0 (Gg 0 D d s.at_ s.us s.p0 s.b0),us:=e1 (Gg 0 D d s.at_ s.us s.p0 s.b0),p0:=s.p0+Tg 0 D s.at_ s.us,b0:=(Gg 0 D d s.at_ s.us s.p0 s.b0).drop 2}
def rd1(D:List Int)(d:Int)(s:CS):CS:={s with at_:=e0 (Gg 1 D d s.at_ s.us s.p1 s.b1),us:=e1 (Gg 1 D d s.at_ s.us s.p1 s.b1),p1:=s.p1+Tg 1 D s.at_ s.us,b1:=(Gg 1 D d s.at_ s.us s.p1 s.b1).drop 2}
def rd2(D:List Int)(d:Int)(s:CS):CS:={s with at_:=e0 (Gg 1 D d s.at_ s.us s.p2 s.b2),us:=e1 (Gg 1 D d s.at_ s.us s.p2 s.b2),p2:=s.p2+Tg 1 D s.at_ s.us,b2:=(Gg 1 D d s.at_ s.us s.p2 s.b2).drop 2}
def ok0(D:List Int)(s:CS):Bool:=Li 0 D s.at_ s.us s.p0
def ok1(D:List Int)(s:CS):Bool:=Li 1 D s.at_ s.us s.p1
def ok2(D:List Int)(s:CS):Bool:=Li 1 D s.at_ s.us s.p2
def dY(X m k:Int):Int:=64*((m/X*2+k/2)*(X*2)+(m % X*2+k % 2))
def dC(X m:Int):Int:=64*(m/X*X+m % X)
def un1(D:List Int)(X m:Int)(s:CS):CS:=rd0 D (dY X m 0) s
def un2(D:List Int)(X m:Int)(s:CS):CS:=rd0 D (dY X m 1) (un1 D X m s)
def un3(D:List Int)(X m:Int)(s:CS):CS:=rd0 D (dY X m 2) (un2 D X m s)
def un4(D:List Int)(X m:Int)(s:CS):CS:=rd0 D (dY X m 3) (un3 D X m s)
def un5(D:List Int)(X m:Int)(s:CS):CS:=rd1 D (dC X m) (un4 D X m s)
def un6(D:List Int)(X m:Int)(s:CS):CS:=rd2 D (dC X m) (un5 D X m s)
def jah(D:List Int)(X m:Int)(s:CS):Bool:=
  ok0 D s&&(ok0 D (un1 D X m s)&&(ok0 D (un2 D X m s)&&(ok0 D (un3 D X m s)&&(ok1 D (un4 D X m s)&&ok2 D (un5 D X m s)))))
def scC(D:List Int)(X:Int):Nat→Int→CS→CS
  | 0,_,s=>s
  | n+1,m,s=>scC D X n (m+1) (un6 D X m s)
def Lz(D:List Int)(X:Int):Nat→Int→CS→Bool
  | 0,_,s=>Uw D (Mr s.us) s.at_ s.us
  | n+1,m,s=>jah D X m s&&Lz D X n (m+1) (un6 D X m s)
def upC(a b c d:List Int):CS:=⟨a.getD 0 0,a.getD 1 0,a.getD 2 0,a.getD 3 0,a.getD 4 0,b,c,d⟩
def st0(at_:Int)(b c d:List Int):CS:=⟨at_,0,0,0,0,b,c,d⟩
def jza(D:List Int)(X:Int)(n:Nat)(at_:Int)(b c d:List Int):Int:=Mp D (Mr (scC D X n 0 (st0 at_ b c d)).us) (scC D X n 0 (st0 at_ b c d)).at_ (scC D X n 0 (st0 at_ b c d)).us
def Ns:List Int:=[0]++(Bl 0).drop 1++At 0++ [16]++(Bl 1).drop 1++At 1++ [1]++(Bl 2).drop 1++At 2++ [17]++(Bl 3).drop 1++At 3
def jzv:List Int:=[3,1,0,2,17,3,17,0,63,0]
def xN(w:Int):Int:=(w+15)/16
def nmC(w h:Int):Int:=xN w*xN h
def Gt(D:List Int):Int:=nmC (wdD D) (hgD D)
def Kl(D:List Int):CS:=scC D (xN (wdD D)) (Gt D).toNat 0 (st0 589 (Cr (4*Gt D)) (Cr (Gt D)) (Cr (Gt D)))
def eoC(D:List Int):Int:=jza D (xN (wdD D)) (Gt D).toNat 589 (Cr (4*Gt D)) (Cr (Gt D)) (Cr (Gt D))
def cOk(D:List Int):Bool:=
  decide (Cs D 0 7=[255,216,255,219,0,132,0])&&(((Cs D 7 64).all fun x=>decide (1≤x))&&(decide (Bg D 71=1)&&(((Cs D 72 64).all fun x=>decide (1≤x))&&
  (decide (Cs D 136 5=[255,192,0,17,8])&&(decide (1≤wdD D)&&(decide (1≤hgD D)&&(decide (wdD D*hgD D≤65536)&&(decide (Cs D 145 10=[3,1,34,0,2,17,1,3,17,1])&&
  (decide (Cs D 155 4=[255,196,1,162])&&(decide (Cs D 159 416=Ns)&&(decide (Cs D 575 4=[255,218,0,12])&&(decide (Cs D 579 10=jzv)&&
  (Lz D (xN (wdD D)) (Gt D).toNat 0 (st0 589 (Cr (4*Gt D)) (Cr (Gt D)) (Cr (Gt D)))&&(decide (Bg D (eoC D)=255)&&(decide (Bg D (eoC D+1)=217)&&(decide (eoC D+2=D.length)&&
  (Xh (4*Gt D).toNat (Kl D).b0&&(Xh (Gt D).toNat (Kl D).b1&&Xh (Gt D).toNat (Kl D).b2))))))))))))))))))
def Od(k:Int):List Int:=(List.range 192).map fun (j:Nat)=>if (j:Int)<k then-1 else 0
def Jz(k:Int):List Int:=(List.range 192).map fun (j:Nat)=>if (j:Int)<k then 0 else-1
def Z:Hw where
  fi f x y z u a b c d:=match f with
    | 60=>Oc x y
    | 61=>coef 0 a (Dc b) 0
    | 62=>coef 1 a (Dc b) 0
    | 200=>rV a x y
    | 201=>rAt a x y
    | 202=>Rj y
    | 204=>e0 (Ez a x.toNat 0 y z)
    | 205=>e1 (Ez a x.toNat 0 y z)
    | 206=>e2 (Ez a x.toNat 0 y z)
    | 208=>sgn x (e0 (Ez a x.toNat 0 y z))
    | 209=>2^x.toNat-1
    | 220=>e0 (Bm (Bl 0) (At 0) a x y)
    | 230=>e1 (Bm (Bl 0) (At 0) a x y)
    | 240=>e2 (Bm (Bl 0) (At 0) a x y)
    | 260=>e0 (Ef (Bl 0) (At 0) a x 1 y z b)
    | 264=>e1 (Ef (Bl 0) (At 0) a x 1 y z b)
    | 221=>e0 (Bm (Bl 1) (At 1) a x y)
    | 231=>e1 (Bm (Bl 1) (At 1) a x y)
    | 241=>e2 (Bm (Bl 1) (At 1) a x y)
    | 261=>e0 (Ef (Bl 1) (At 1) a x 1 y z b)
    | 265=>e1 (Ef (Bl 1) (At 1) a x 1 y z b)
    | 222=>e0 (Bm (Bl 2) (At 2) a x y)
    | 232=>e1 (Bm (Bl 2) (At 2) a x y)
    | 242=>e2 (Bm (Bl 2) (At 2) a x y)
    | 262=>e0 (Ef (Bl 2) (At 2) a x 1 y z b)
    | 266=>e1 (Ef (Bl 2) (At 2) a x 1 y z b)
    | 223=>e0 (Bm (Bl 3) (At 3) a x y)
    | 233=>e1 (Bm (Bl 3) (At 3) a x y)
    | 243=>e2 (Bm (Bl 3) (At 3) a x y)
    | 263=>e0 (Ef (Bl 3) (At 3) a x 1 y z b)
    | 267=>e1 (Ef (Bl 3) (At 3) a x 1 y z b)
    | 270=>Tg 0 a x y
    | 272=>e1 (Xv 0 a x y)
    | 274=>e2 (Xv 0 a x y)
    | 271=>Tg 1 a x y
    | 273=>e1 (Xv 1 a x y)
    | 275=>e2 (Xv 1 a x y)
    | 290=>Mp a (Mr y) x y
    | 403=>jv3 a x.toNat y b
    | 420=>e0 (Gg 0 a x y z u b)
    | 422=>e1 (Gg 0 a x y z u b)
    | 421=>e0 (Gg 1 a x y z u b)
    | 423=>e1 (Gg 1 a x y z u b)
    | 431=>wdD a
    | 432=>hgD a
    | 433=>nbD a
    | 436=>Nl x y
    | 438=>nmC x y
    | 439=>Gt a
    | 530=>jza a z x.toNat y b c d
    | 521=>KI x.toNat y.toNat
    | 522=>CI x.toNat y.toNat
    | 523=>Mv x.toNat y.toNat
    | _=>0
  fb f x y z u a b c d:=match f with
    | 2=>Bn x y a
    | 200=>rOk a x y
    | 203=>Ng a x.toNat y z
    | 210=>Eh (Bl 0) (At 0) a (17-x).toNat y z u (e0 b) (e1 b)
    | 220=>Gz (Bl 0) (At 0) a x y
    | 250=>Ge (Bl 0) (At 0) a x y z
    | 211=>Eh (Bl 1) (At 1) a (17-x).toNat y z u (e0 b) (e1 b)
    | 221=>Gz (Bl 1) (At 1) a x y
    | 251=>Ge (Bl 1) (At 1) a x y z
    | 212=>Eh (Bl 2) (At 2) a (17-x).toNat y z u (e0 b) (e1 b)
    | 222=>Gz (Bl 2) (At 2) a x y
    | 252=>Ge (Bl 2) (At 2) a x y z
    | 213=>Eh (Bl 3) (At 3) a (17-x).toNat y z u (e0 b) (e1 b)
    | 223=>Gz (Bl 3) (At 3) a x y
    | 253=>Ge (Bl 3) (At 3) a x y z
    | 270=>Yu 0 a x y
    | 271=>Yu 1 a x y
    | 290=>Uw a (Mr y) x y
    | 400=>Rz a x.toNat y z u (e0 c) b
    | 420=>Li 0 a x y z
    | 421=>Li 1 a x y z
    | 440=>gOk a
    | 530=>Lz (a.drop 5) z x.toNat y (upC a b c d)
    | 540=>cOk a
    | 441=>Ws a
    | 610=>Fp x y z u a b c (e0 d)
    | _=>false
  fa f x y z u a b c d:=match f with
    | 1=>pk (emF (up a).t (up a).b (up a).n)
    | 3=>pk (jbk (up a) x y)
    | 10=>pk (Pu 0 (up a) x y)
    | 11=>pk (Pu 1 (up a) x y)
    | 12=>pk (Pu 2 (up a) x y)
    | 13=>pk (Pu 3 (up a) x y)
    | 20=>pk (Zh 0 (up a) x)
    | 21=>pk (Zh 1 (up a) x)
    | 22=>pk (Zh 2 (up a) x)
    | 23=>pk (Zh 3 (up a) x)
    | 40=>Kv.getD 0 []
    | 41=>Kv.getD 1 []
    | 42=>Kv.getD 2 []
    | 43=>Kv.getD 3 []
    | 44=>Gj
    | 45=>Hl
    | 47=>Fx
    | 600=>Pb (Us a) x y
    | 601=>Pb (Ww (Pg a)) x y
    | 602=>exP x a
    | 603=>My a
    | 620=>Ls x y a
    | 50=>Tf x a
    | 51=>Ul x a
    | 52=>Dc a
    | 70=>pk (Ub 0 b c (up a) x)
    | 71=>pk (Ub 1 b c (up a) x)
    | 80=>pk (acF 0 b c (up a) x y)
    | 81=>pk (acF 1 b c (up a) x y)
    | 82=>pk (jbp 0 (up a) x)
    | 83=>pk (jbp 1 (up a) x)
    | 90=>Fy x y z u a
    | 91=>Mw (Ov z u) x y z u a
    | 92=>Mw (Po z u) x y z u a
    | 93=>Nx a
    | 94=>jgt a b x.toNat
    | 203=>Ez a x.toNat y z u
    | 210=>Fm (Bl 0) (At 0) a (17-x).toNat y z u (e0 b) (e1 b)
    | 250=>Ef (Bl 0) (At 0) a x y z u b
    | 268=>(Ef (Bl 0) (At 0) a x 1 y z b).drop 2
    | 300=>Bl 0
    | 310=>At 0
    | 211=>Fm (Bl 1) (At 1) a (17-x).toNat y z u (e0 b) (e1 b)
    | 251=>Ef (Bl 1) (At 1) a x y z u b
    | 269=>(Ef (Bl 1) (At 1) a x 1 y z b).drop 2
    | 301=>Bl 1
    | 311=>At 1
    | 212=>Fm (Bl 2) (At 2) a (17-x).toNat y z u (e0 b) (e1 b)
    | 252=>Ef (Bl 2) (At 2) a x y z u b
    | 270=>(Ef (Bl 2) (At 2) a x 1 y z b).drop 2
    | 302=>Bl 2
    | 312=>At 2
    | 213=>Fm (Bl 3) (At 3) a (17-x).toNat y z u (e0 b) (e1 b)
    | 253=>Ef (Bl 3) (At 3) a x y z u b
    | 271=>(Ef (Bl 3) (At 3) a x 1 y z b).drop 2
    | 303=>Bl 3
    | 313=>At 3
    | 400=>scL a x.toNat y z u (e0 c) b
    | 403=>j0g a x.toNat y b
    | 410=>Nj x
    | 411=>Lw x.toNat b y.toNat a
    | 412=>Te x
    | 413=>Hj x.toNat y.toNat
    | 414=>Od x
    | 415=>Jz x
    | 438=>Cs a 72 64
    | 530=>pkC (scC (a.drop 5) z x.toNat y (upC a b c d))
    | 531=>(scC a z x.toNat 0 (st0 y b c d)).b0
    | 532=>(scC a z x.toNat 0 (st0 y b c d)).b1
    | 533=>(scC a z x.toNat 0 (st0 y b c d)).b2
    | 541=>(Kl a).b0
    | 542=>(Kl a).b1
    | 543=>(Kl a).b2
    | 434=>Cs a 7 64
    | 435=>blD a
    | 437=>Cr x
    | 424=>(Gg 0 a x y z u b).drop 2
    | 425=>(Gg 1 a x y z u b).drop 2
    | 46=>uqL
    | 500=>pk (jq1 (e0 d) (e1 d) c b (up a))
    | 501=>pk (Tl (e0 d) (e1 d) c b (up a) z x y)
    | 502=>pk (Tr (e0 d) (e1 d) c b (up a) (e2 d) (d.getD 3 0) (d.getD 4 0) x y)
    | 503=>pk (Sf (e0 d) (e1 d) c b (up a))
    | 512=>Ts x y z a
    | 510=>Gf x y z a
    | 511=>Ci x
    | 520=>Nv x.toNat y.toNat
    | _=>[]
end
end Go.Proofs.YtljjbikbfeigdaaGreatDoor
