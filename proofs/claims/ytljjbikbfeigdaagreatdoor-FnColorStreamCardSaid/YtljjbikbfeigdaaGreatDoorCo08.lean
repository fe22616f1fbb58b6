/- Part of the proof of FnColorStreamCardSaid: A contract is shown by a walk: what is asked on the way, and in the end. -/
import Derived.Test.YtljjbikbfeigdaaGreatDoorCo07
set_option linter.all false
namespace Go.Proofs.YtljjbikbfeigdaaGreatDoor
noncomputable section
open Go
def Gp(c:Hg):Ec:=fun args h=>
  match Cx c args h with
  | some r=>if c.quiet&&r.facts.isEmpty&&r.val.clear h.nv h.na&&Gm h.nv h.na r.heap.rw&&Gh h.nv h.na r.heap.ro&&Se h.nv r.heap.ow then some ⟨r.need,r.val,{r.heap with nv:=h.nv}⟩ else none
  | none=>none
inductive VC where
  | need (c:List T) (k:VC)
  | cond (c:T) (a b:VC)
  | any (ns na:Nat) (facts:List T) (k:VC)
  | done
  | fail (s:String)
  deriving Inhabited
def jlf(c:Hg)(v:SR)(h:Hp):VC:=
  match jn9 100 [c.val] c.hp' [v] h with
  | some (m,rest)=>if jvv 100 [c.val] c.hp' h rest c.quiet then .need (m.needs 100++c.post.map (T.put (m.ts 100))) .done else .fail "leaf template"
  | none=>.fail "leaf fit"
def Jg.vc(P:Program)(rs:List ResultVar)(c:Hg):Jg→VC
  | .need l k=>.need l (k.vc P rs c)
  | .cond t x y=>.cond t (x.vc P rs c) (y.vc P rs c)
  | .any ns na facts k=>if (Nat.ble 100 ns).and (Nat.ble c.na na) then .any ns na facts (k.vc P rs c) else .fail "names"
  | .ret v h=>jlf c v h
  | .fall fr h=>match jog P (Do fr) h rs with
    | some v=>jlf c v h
    | none=>.fail "result"
  | .done=>.done
  | .tight k=>match c.hp.ow with
    | none=>k.vc P rs c
    | some _=>.fail "tight"
  | .fail s=>.fail s
  | .out _ _ _=>.fail "out"
  | .stop (o::_) _ _ _ _=>.fail ("stop " ++o.pos)
  | .stop [] _ _ _ _=>.fail "stop"
section
variable (S:Hw)
def VC.ok:VC→Et→Prop
  | .need c k,ρ=>Dx S ρ c∧k.ok ρ
  | .cond c a b,ρ=>(c.B S ρ=true→a.ok ρ)∧(c.B S ρ=false→b.ok ρ)
  | .any ns na facts k,ρ=> ∀ρ',Cg ns na ρ ρ'→Dx S ρ' facts→k.ok ρ'
  | .done,_=>True
  | .fail _,_=>False
def hyp(ρ:Et):List T→Prop→Prop
  | [],p=>p
  | t::l,p=>t.B S ρ=true→hyp ρ l p
def VC.sem(ρ:Et):VC→Prop
  | .need c k=>Dx S ρ c∧hyp S ρ c (k.sem ρ)
  | .cond c a b=>(c.B S ρ=true→a.sem ρ)∧(c.B S ρ=false→b.sem ρ)
  | .any _ _ facts k=>hyp S ρ facts (k.sem ρ)
  | .done=>True
  | .fail _=>False
end
def jkd(l:List T)(t:T):Bool:=match l with
  | []=>false
  | x::l=>match x.same t with
    | true=>true
    | false=>jkd l t
def j6i(t:T):T:=match t with
  | .not u=>u
  | t=>.not t
def Ro(hs:List T):List T→List T
  | []=>[]
  | t::l=>match jkd hs t with
    | true=>Ro hs l
    | false=>t::Ro hs l
def qka(c:List T)(k:VC):VC:=match c with| []=>k|c=>.need c k
def VC.prep(hs:List T):VC→Option VC
  | .need c k=>match Ro hs c with
    | []=>k.prep hs
    | c'=>match k.prep (hs++c') with
      | some k'=>some (.need c' k')
      | none=>none
  | .cond c a b=>
    match jkd hs c with
    | true=>a.prep hs
    | false=>match jkd hs (j6i c) with
      | true=>b.prep hs
      | false=>match a.prep (hs++ [c]),b.prep (hs++ [j6i c]) with
        | some a',some b'=>some (.cond c a' b')
        | _,_=>none
  | .any ns na facts k=>match hs.all (T.clear ns) with
    | true=>match k.prep (hs++facts) with
      | some k'=>some (.any ns na facts k')
      | none=>none
    | false=>none
  | .done=>some .done
  | .fail s=>some (.fail s)
section
variable {S:Hw} {ρ:Et} {w0:World} {P:Program}
theorem Dq{f:FuncId}{c:Hg}(hc:Cf P S f c):Ei P S f (Gp c):=by
  intro ρ w0 w h args r hs hmet hw hh
  unfold Gp at hs
  split at hs
  · rename_i rr hr
    split at hs
    · rename_i hck
      simp only[Bool.and_eq_true,List.isEmpty_iff] at hck
      obtain ⟨⟨⟨⟨⟨hq,hf⟩,k1⟩,k2⟩,k3⟩,k4⟩:=hck
      cases hs
      have hcall:=Ce hc ρ w0 w h args rr hr hmet hw hh
      have hx:rr.ns=h.nv∧rr.na=h.na+1000000000∧rr.heap.na=h.na:=by
        unfold Cx at hr
        split at hr
        · split at hr
          · cases hr;simp[hq]
          · cases hr
        · cases hr
      have key: ∀(ρ':Et) (w':World),Cg rr.ns rr.na ρ ρ'→rr.val.wf S ρ'→Cv S ρ' w0 rr.heap w'→rr.val.wf S ρ∧rr.val.den S ρ' w0.heap.size=rr.val.den S ρ w0.heap.size∧Cv S ρ w0 {rr.heap with nv:=h.nv} w':=by
        intro ρ' w' hA hv hh'
        have hA1:Cg h.nv h.na ρ ρ':=hA.weaken (by omega) (by omega)
        have hA2:Cg h.nv h.na ρ' ρ:=⟨fun k hk=>(hA1.i k hk).symm,fun k hk=>(hA1.b k hk).symm,fun k hk=>(hA1.a k hk).symm,fun k hk=>(hA1.v k hk).symm,fun k hk=>(hA1.j k hk).symm,fun k hk=>(hA1.blk k hk).symm,fun k hk=>(hA1.off k hk).symm,fun k hk=>(hA1.vs k hk).symm,fun k hk=>(hA1.nb k hk).symm,hA1.loose.symm⟩
        obtain ⟨v1,v2⟩:=SR.clear_den (S:=S) (B:=w0.heap.size) hA2 k1
        unfold Gm at k2
        unfold Gh at k3
        rw[List.all_eq_true] at k2 k3
        have kr: ∀x∈rr.heap.rw,x.1.blk ρ w0.heap.size=x.1.blk ρ' w0.heap.size∧x.1.off ρ=x.1.off ρ'∧Av S ρ w0.heap.size x.2.segs=Av S ρ' w0.heap.size x.2.segs∧(Cm S ρ' x.2.segs→Cm S ρ x.2.segs):=by
          intro x hx
          have:=k2 x hx
          simp only[Bool.and_eq_true] at this
          exact ⟨(Cl.clear_den hA2 this.1).1,(Cl.clear_den hA2 (B:=w0.heap.size) this.1).2,(Dv hA2 this.2).1,(Dv (B:=w0.heap.size) hA2 this.2).2⟩
        have ko: ∀x∈rr.heap.ro,x.1.blk ρ w0.heap.size=x.1.blk ρ' w0.heap.size∧x.1.off ρ=x.1.off ρ'∧x.2.2.A S ρ=x.2.2.A S ρ':=by
          intro x hx
          have:=k3 x hx
          simp only[Bool.and_eq_true] at this
          exact ⟨(Cl.clear_den hA2 this.1).1,(Cl.clear_den hA2 (B:=w0.heap.size) this.1).2,(T.clear_den hA2 this.2).2.2⟩
        refine ⟨v2 hv,v1.symm,?_,?_,?_,?_,?_,?_,?_,?_,?_,?_,?_,hh'.os,hh'.tape,hh'.output⟩
        · intro x hx;rw[(kr x hx).1,(kr x hx).2.2.1];exact hh'.rw_ x hx
        · intro x hx;exact (kr x hx).2.2.2 (hh'.wf x hx)
        · intro x hx;rw[(kr x hx).2.1];exact hh'.off x hx
        · show (rr.heap.rw.map _).Nodup
          rw[List.map_congr_left fun x hx=>(kr x hx).1];exact hh'.nd
        · intro x hx j v hv
          rw[(ko x hx).1,(ko x hx).2.1]
          rw[(ko x hx).2.2] at hv
          exact hh'.ro x hx j v hv
        · intro x hx y hy;rw[(ko x hx).1,(kr y hy).1];exact hh'.apart x hx y hy
        · intro x hx;rw[(ko x hx).1];exact hh'.rolt x hx
        · have:=hh'.size
          show _=w0.heap.size+ρ.nb rr.heap.na
          rw[hx.2.2] at this⊢
          rw[this,hA.nb h.na (by omega)]
        · intro k hk
          have hk:rr.heap.na≤k:=hk
          rw[hx.2.2] at hk
          exact hh.nbs k hk
        · intro i hi hil hne
          exact hh'.frame i hi (by rw[hA1.loose];exact hil) fun x hx=>by rw[←(kr x hx).1];exact hne x hx
        · intro o ho
          have hcl:=Py (S:=S) hA2 k4 ho
          rcases hh'.own o ho with u|⟨b,cap,u1,u2,u3,u4,u5,u6⟩
          · exact .inl ⟨by rw[hcl.1];exact u.1,by rw[hcl.2];exact u.2⟩
          · exact .inr ⟨b,cap,by rw[hcl.1,hcl.2];exact u1,by rw[hcl.2];exact u2,by rw[hcl.2];exact u3,by rw[hA2.loose];exact u4,fun x hx=>by rw[(kr x hx).1];exact u5 x hx,fun x hx=>by rw[(ko x hx).1];exact u6 x hx⟩
      obtain ⟨e,w',fr,⟨ρ',b1,b2,b3,b4,b5⟩,_⟩:=hcall []
      refine ⟨(key ρ' w' b1 b3 b5).1,hcall.mono ?_⟩
      rintro e w' ⟨ρ',b1,b2,b3,rfl,b5⟩
      obtain ⟨c1,c2,c3⟩:=key ρ' w' b1 b3 b5
      exact ⟨by rw[c2],c3⟩
    · cases hs
  · cases hs
theorem jk3: ∀{l:List T} {p:Prop},hyp S ρ l p→Dx S ρ l→p
  | [],_,h,_=>h
  | t::l,p,h,hm=>jk3 (l:=l) (h (Ag.1 hm).1) (Ag.1 hm).2
theorem Mu: ∀{l:List T} {t:T},jkd l t=true→t∈l
  | [],_,h=>by cases h
  | x::l,t,h=>by
    unfold jkd at h
    split at h
    · rename_i hs;rw[T.same_spec hs];exact List.mem_cons_self ..
    · exact List.mem_cons_of_mem _ (Mu h)
theorem jqe{t:T}:(j6i t).B S ρ=true↔t.B S ρ=false:=by
  unfold j6i
  split
  · simp only[T.B];simp
  · simp only[T.B];simp
theorem Nf{hs:List T}(h:Dx S ρ hs): ∀{l:List T},Dx S ρ (Ro hs l)→Dx S ρ l
  | [],_=>Dx.nil
  | t::l,hm=>by
    unfold Ro at hm
    split at hm
    · rename_i hmem
      exact Ag.2 ⟨h t (Mu hmem),Nf h hm⟩
    · exact Ag.2 ⟨(Ag.1 hm).1,Nf h (Ag.1 hm).2⟩
theorem Qn: ∀{vc vc':VC} {hs:List T},vc.prep hs=some vc'→(∀ρ,Dx S ρ hs→vc'.sem S ρ)→ ∀ρ,Dx S ρ hs→vc.ok S ρ
  | .need c k,vc',hs,h,hq,ρ,hm=>by
    simp only[VC.prep] at h
    split at h
    · rename_i he
      exact ⟨Nf hm (by rw[he];exact Dx.nil),Qn h hq ρ hm⟩
    · rename_i c' _
      split at h
      · rename_i k' hk
        cases h
        have h1:=(hq ρ hm).1
        exact ⟨Nf hm h1,Qn hk (fun ρ h=>jk3 (hq ρ (Co.1 h).1).2 (Co.1 h).2) ρ (Co.2 ⟨hm,h1⟩)⟩
      · cases h
  | .cond c a b,vc',hs,h,hq,ρ,hm=>by
    simp only[VC.prep] at h
    split at h
    · rename_i he
      have hc:=hm c (Mu he)
      exact ⟨fun _=>Qn h hq ρ hm,fun hf=>by rw[hc] at hf;cases hf⟩
    · split at h
      · rename_i he
        have hc:=jqe.1 (hm _ (Mu he))
        exact ⟨fun hf=>(by rw[hc] at hf;cases hf),fun _=>Qn h hq ρ hm⟩
      · split at h
        · rename_i a' b' ha hb
          cases h
          constructor
          · intro hc
            exact Qn ha (fun ρ h=>(hq ρ (Co.1 h).1).1 ((Co.1 h).2 _ (by simp))) ρ (Co.2 ⟨hm,Ag.2 ⟨hc,Dx.nil⟩⟩)
          · intro hc
            exact Qn hb (fun ρ h=>(hq ρ (Co.1 h).1).2 (jqe.1 ((Co.1 h).2 _ (by simp)))) ρ (Co.2 ⟨hm,Ag.2 ⟨jqe.2 hc,Dx.nil⟩⟩)
        · cases h
  | .any ns na facts k,vc',hs,h,hq,ρ,hm=>by
    simp only[VC.prep] at h
    split at h
    · rename_i hcl
      split at h
      · rename_i k' hk
        cases h
        intro ρ' hA hf
        exact Qn hk (fun ρ h=>jk3 (S:=S) (ρ:=ρ) (l:=facts) (hq ρ (Co.1 h).1) (Co.1 h).2) ρ' (Co.2 ⟨Ot hA hcl hm,hf⟩)
      · cases h
    · cases h
  | .done,_,_,_,_,_,_=>trivial
  | .fail s,vc',hs,h,hq,ρ,hm=>by
    simp only[VC.prep,Option.some.injEq] at h
    subst h
    exact hq ρ hm
theorem qiv{c:Hg}{rs:List ResultVar}{Q:Exit→Act→World→Prop}{ρ0:Et}(hna:c.hp'.na=0)(hlo:c.hp.ow=none→ρ0.loose=[]): ∀{o:Jg} {ρ:Et},(o.vc P rs c).ok S ρ→Cg 100 c.na ρ0 ρ→
    (∀(a:Act) (w:World) (v:Value),a.defers=[]→(Sz rs a.tmps).run P w=.ok v w→(∃ρ',Cg 100 c.na ρ0 ρ'∧Dx S ρ' c.post∧c.val.wf S ρ'∧v=c.val.den S ρ' w0.heap.size∧Cv S ρ' w0 c.hp' w)→Q .ret a w∧Q .normal a w)→o.okA P S w0 rs Q ρ:=by
  have leaf: ∀{ρ:Et} {v:SR} {h:Hp},(jlf c v h).ok S ρ→Cg 100 c.na ρ0 ρ→ ∀w,v.wf S ρ→Cv S ρ w0 h w→ ∃ρ',Cg 100 c.na ρ0 ρ'∧Dx S ρ' c.post∧c.val.wf S ρ'∧v.den S ρ w0.heap.size=c.val.den S ρ' w0.heap.size∧Cv S ρ' w0 c.hp' w:=by
    intro ρ v h hv hA w hw hh
    unfold jlf at hv
    split at hv
    · rename_i m rest hfit
      split at hv
      · rename_i ht
        unfold jvv at ht
        simp only[Bool.and_eq_true] at ht
        obtain ⟨t1,t2,t3,t4,t5,t6⟩:=ht
        rw[El] at t5
        obtain ⟨n1,n2⟩:=Co.1 hv.1
        obtain ⟨ρ',h1,h2,h3,h4,h5⟩:=jha hfit n1 hh (fun y hy=>by simp only[List.mem_singleton] at hy;subst hy;exact hw) t1 t2 (jfa t3) t5 t4 c.quiet (fun hq=>by rw[hq] at t6;exact Nat.eq_of_beq_eq_true (by simpa using t6))
        refine ⟨ρ',?_,je1 h2 n2,h4 _ (by simp),?_,h5⟩
        · refine hA.trans h1 (Nat.le_refl _) ?_
          rw[hna];unfold Hg.na;split<;>omega
        · simpa using h3.symm
      · exact hv.elim
    · exact hv.elim
  intro o
  induction o with
  | need l k ih=>intro ρ h hA hq;exact ⟨h.1,ih h.2 hA hq⟩
  | cond t x y ih1 ih2=>intro ρ h hA hq;exact ⟨fun hc=>ih1 (h.1 hc) hA hq,fun hc=>ih2 (h.2 hc) hA hq⟩
  | any ns na facts k ih=>
    intro ρ h hA hq
    simp only[Jg.vc] at h
    split at h
    · rename_i hc
      simp only[Bool.and_eq_true] at hc
      rw[El,El] at hc
      intro ρ' hA' hf
      exact ih (h ρ' hA' hf) (hA.trans hA' hc.1 hc.2|>.weaken (Nat.le_refl _) (Nat.le_refl _)) hq
    · exact h.elim
  | ret v h'=>
    intro ρ h hA hq a w g1 g2 g3 g4
    exact (hq a w _ g2 g3 (leaf h hA w g1 g4)).1
  | fall fr h'=>
    intro ρ h hA hq
    simp only[Jg.vc] at h
    split at h
    · rename_i v hv
      exact fun a w hf hh=>(hq a w _ hf.defers (jdi hh hf hv) (leaf h hA w (jdk hh (Gs hf.wf) hv) hh)).2
    · exact h.elim
  | done=>intro ρ h hA hq;trivial
  | tight k ih=>
    intro ρ h hA hq
    simp only[Jg.vc] at h
    split at h
    · rename_i hn;exact ⟨by rw[hA.loose];exact hlo hn,ih h hA hq⟩
    · exact h.elim
  | fail s=>intro ρ h hA hq;exact h.elim
  | out id fr h'=>intro ρ h hA hq;exact h.elim
  | stop rest all ks fr h'=>intro ρ h hA hq;cases rest<;>exact h.elim
end
def Bi(l:List (Cl×Gn)):List T:=l.flatMap fun x=>x.2.segs.flatMap fun g=>match g with|.arr _ a n=>[.eq (.len a) (.lit n)]|_=>[]
theorem jjx{S:Hw}{ρ:Et}{l:List (Cl×Gn)}(h: ∀x∈l,Cm S ρ x.2.segs):Dx S ρ (Bi l):=by
  intro t ht
  unfold Bi at ht
  rw[List.mem_flatMap] at ht
  obtain ⟨x,hx,ht⟩:=ht
  rw[List.mem_flatMap] at ht
  obtain ⟨g,hg,ht⟩:=ht
  have:=h x hx g hg
  split at ht
  · simp only[List.mem_singleton] at ht
    subst ht
    rename_i k a n
    have this:(a.A S ρ).length=n:=this
    show decide (((a.A S ρ).length:Int)=(n:Int))=true
    exact decide_eq_true (by omega)
  · cases ht
def Db(P:Program)(specs:Nat→Option Ec)(rsp:Nat→Option Ff)(tab:Tab)(fuel:Nat)(f:Nat)(c:Hg):Option VC:=
  match P.funcs[f]? with
  | some fn=>match fn.body with
    | some b=>if (Nat.beq c.hp.na 0).and (Nat.beq c.hp'.na 0) then
        ((Fc P specs rsp tab fuel ⟨fn.results.toList,tab.lt f⟩ (.code b) [] (c.args++List.replicate (fn.ntmps-c.args.length) (.v (.one .undef))) c.hp).vc P fn.results.toList c).prep (c.pre++Bi c.hp.rw)
      else none
    | none=>none
  | none=>none
theorem qcj{P:Program}{S:Hw}(hm:P.follows .mixedOrders=true)(hD:jdl P){specs:Nat→Option Ec}{rsp:Nat→Option Ff}{tab:Tab}(hsp: ∀f s,specs f=some s→Ei P S f s)(hrsp: ∀f s,rsp f=some s→Dw P S f s)
    {fuel f:Nat}{c:Hg}{vc:VC}(h:Db P specs rsp tab fuel f c=some vc)(hv: ∀ρ,Dx S ρ (c.pre++Bi c.hp.rw)→vc.sem S ρ):Cf P S f c:=by
  unfold Db at h
  split at h
  · rename_i fn hfn
    split at h
    · rename_i b hb
      split at h
      · rename_i hna
        simp only[Bool.and_eq_true] at hna
        intro ρ w0 w hh hpre hw hlo
        refine calls_of_wp hfn hb ?_
        have hok:=Qn h hv ρ (Co.2 ⟨hpre,jjx hh.wf⟩)
        refine jtb (tab:=tab) hm hD hsp hrsp fuel ⟨fn.results.toList,tab.lt f⟩ ρ _ (.code b) [] _ c.hp (hD f fn b hfn hb) rfl trivial ?_ _ w (jgc hw fn.ntmps) hh
        refine qiv (Nat.eq_of_beq_eq_true hna.2) hlo hok (Cg.rfl' _ _ ρ) ?_
        intro a w' v g1 g2 ⟨ρ',q1,q2,q3,q4,q5⟩
        have hp:bodyPost P fn (fun e w'=> ∃ρ',Cg 100 c.na ρ ρ'∧Dx S ρ' c.post∧c.val.wf S ρ'∧e=.returned (c.val.den S ρ' w0.heap.size)∧Cv S ρ' w0 c.hp' w') .ret a w':=by
          refine ⟨g1,_,by rw[Oz];exact g2,ρ',q1,q2,q3,by rw[q4],q5⟩
        exact ⟨hp,hp⟩
      · cases h
    · cases h
  · cases h
end
end Go.Proofs.YtljjbikbfeigdaaGreatDoor
namespace Go.Proofs.YtljjbikbfeigdaaGreatDoor
noncomputable section
open Go
section
variable {S:Hw} {ρ:Et} {w0:World} {P:Program} {specs:Nat→Option Ec} {rs:List ResultVar}
theorem jds{Q:Exit→Act→World→Prop}: ∀{o:Jg} {r:Sb},o.flat P rs=some r→Dx S ρ r.need→
    (∀(a:Act) (w:World),r.val.wf S ρ→a.defers=[]→(Sz rs a.tmps).run P w=.ok (r.val.den S ρ w0.heap.size) w→Cv S ρ w0 r.heap w→Q .ret a w∧Q .normal a w)→o.ok P S ρ w0 rs Q
  | .need c k,r,h,hm,hq=>by
    simp only[Jg.flat] at h
    split at h
    · rename_i r' hr'
      cases h
      exact ⟨(Co.1 hm).1,jds hr' (Co.1 hm).2 hq⟩
    · cases h
  | .ret v h',r,h,hm,hq=>by
    simp only[Jg.flat,Option.some.injEq] at h
    subst h
    exact fun a w h1 h2 h3 h4=>(hq a w h1 h2 h3 h4).1
  | .fall fr h',r,h,hm,hq=>by
    simp only[Jg.flat,Option.map_eq_some_iff] at h
    obtain ⟨v,hv,rfl⟩:=h
    exact fun a w hf hh=>(hq a w (jdk hh (Gs hf.wf) hv) hf.defers (jdi hh hf hv) hh).2
  | .cond c x y,r,h,hm,hq=>by
    simp only[Jg.flat] at h
    split at h
    · rename_i r' _ hr'
      cases h
      have hc:=hm (.not c) (List.mem_cons_self)
      simp only[T.B,Bool.not_eq_true'] at hc
      exact ⟨fun h=>absurd (h.symm.trans hc) (by simp),fun _=>jds hr' (fun t ht=>hm t (List.mem_cons_of_mem _ ht)) hq⟩
    · rename_i r' hr' _
      cases h
      have hc:=hm c (List.mem_cons_self)
      exact ⟨fun _=>jds hr' (fun t ht=>hm t (List.mem_cons_of_mem _ ht)) hq,fun h=>absurd (h.symm.trans hc) (by simp)⟩
    · cases h
  | .any ..,_,h,_,_=>by cases h
  | .fail _,_,h,_,_=>by cases h
  | .out ..,_,h,_,_=>by cases h
  | .stop ..,_,h,_,_=>by cases h
  | .done,_,h,_,_=>by cases h
  | .tight _,_,h,_,_=>by cases h
theorem Sj(hm:P.follows .mixedOrders=true)(hD:jdl P){base:Nat→Option Ec}{ok:Nat→Bool}(hbase: ∀f s,base f=some s→Ei P S f s)(fuel:Nat): ∀(n f:Nat) (s:Ec),jeh P ok base fuel n f=some s→Ei P S f s:=by
  intro n
  induction n with
  | zero=>exact hbase
  | succ n ih=>
    intro f s hs
    simp only[jeh] at hs
    split at hs
    · rename_i s' hb
      cases hs
      exact hbase f s hb
    · split at hs
      · unfold jse at hs
        split at hs
        · rename_i fn hfn
          split at hs
          · rename_i c hc
            cases hs
            intro ρ w0 w h args r hs hmet hw hh
            have hgoal:Calls P f (args.map (SR.den S ρ w0.heap.size)).toArray w (fun e w'=>(e=.returned (r.val.den S ρ w0.heap.size)∧Cv S ρ w0 r.heap w')∧r.val.wf S ρ):=by
              refine calls_of_wp hfn hc ?_
              have hok:=jds (w0:=w0) (Q:=bodyPost P fn (fun e w'=>(e=.returned (r.val.den S ρ w0.heap.size)∧Cv S ρ w0 r.heap w')∧r.val.wf S ρ)) hs hmet (by
                intro a w' q1 q2 q3 q4
                have:bodyPost P fn (fun e w'=>(e=.returned (r.val.den S ρ w0.heap.size)∧Cv S ρ w0 r.heap w')∧r.val.wf S ρ) .ret a w':=by
                  refine ⟨q2,_,?_,⟨rfl,q4⟩,q1⟩
                  rw[Oz];exact q3
                exact ⟨this,this⟩)
              exact jtb hm hD ih (rsp:=fun _=>none) (fun _ _ h=>by cases h) _ ⟨fn.results.toList,fun _=>none⟩ _ _ (.code c) [] _ h (hD f fn c hfn hc) rfl trivial hok _ w (jgc hw fn.ntmps) hh
            obtain ⟨e,w',fr,hr,_⟩:=hgoal []
            exact ⟨hr.2,Calls.mono hgoal fun e w' h=>h.1⟩
          · cases hs
        · cases hs
      · cases hs
end
end
end Go.Proofs.YtljjbikbfeigdaaGreatDoor
