/- Part of the proof of FnColorEdgesCardSaid: A state that fits a template is what the template says, under letters chosen to suit. -/
import Derived.Test.YtljjbikbfeigdaaGreatDoorCe05
set_option linter.all false
namespace Go.Proofs.YtljjbikbfeigdaaGreatDoor
noncomputable section
open Go
structure Hf(S:Hw)(lo na:Nat)(ρ ρ':Et)(B B':Nat)(m:Bd):Prop where
  i: ∀n x,lo≤n→Ga m.i n=some x→ρ'.i n=x.I S ρ
  b: ∀n x,lo≤n→Ga m.b n=some x→ρ'.b n=x.B S ρ
  a: ∀n x,lo≤n→Ga m.a n=some x→ρ'.a n=x.A S ρ
  v: ∀n x,lo≤n→Ga m.v n=some x→ρ'.v n=x.den S ρ B
  j: ∀n x,lo≤n→Ga m.j n=some x→ρ'.j n=x.den S ρ B
  s: ∀n x,lo≤n→Ga m.s n=some x→ρ'.vs n=Av S ρ B x
  o: ∀n r,lo≤n→Ga m.r n=some (.o r)→ρ'.blk n=r.blk ρ B
  n: ∀n k,lo≤n→Ga m.r n=some (.n k)→B'+ρ'.blk n=B+ρ.nb k
  q: ∀n k,lo≤n→Ga m.r n=some (.q k)→B'+ρ'.blk n=B+ρ.blk k
  p: ∀n r s d l c,lo≤n→Ga m.r n=some (.p (.sl r s d l c))→ρ'.blk n=r.blk ρ B∧ρ'.off n=r.off ρ+s+(d.I S ρ).toNat
  vL: ∀n,n<lo→ρ'.v n=ρ.v n
  jL: ∀n,n<lo→ρ'.j n=ρ.j n
  sL: ∀n,n<lo→ρ'.vs n=ρ.vs n
  blkL: ∀n,n<lo→ρ'.blk n=ρ.blk n
  offL: ∀n,n<lo→ρ'.off n=ρ.off n
  nb: ∀k,k<na→B'+ρ'.nb k=B+ρ.nb k
  hB:0<lo→B'=B
  eqI: ∀p∈m.eqI,p.1.I S ρ'=p.2.I S ρ
  eqB: ∀p∈m.eqB,p.1.B S ρ'=p.2.B S ρ
  eqA: ∀p∈m.eqA,p.1.A S ρ'=p.2.A S ρ
  need:Dx S ρ m.need
section
variable {S:Hw} {lo na:Nat} {ρ ρ':Et} {B B':Nat} {m m':Bd}
theorem Ed{α:Type}{l:List (Nat×α)}{n k:Nat}{x y:α}(h:Ga l k=none)(hn:Ga l n=some y):Ga ((k,x)::l) n=some y:=by
  unfold Ga
  cases hb:Nat.beq k n with
  | true=>
    have:=Nat.eq_of_beq_eq_true hb
    subst this
    rw[h] at hn;cases hn
  | false=>exact hn
theorem Ja{α:Type}{l:List (Nat×α)}{n:Nat}{x:α}:Ga ((n,x)::l) n=some x:=by
  unfold Ga;rw[Nat.beq_refl]
theorem El{a b:Nat}:Nat.ble a b=true↔a≤b:=⟨Nat.le_of_ble_eq_true,Nat.ble_eq_true_of_le⟩
theorem Mk{t x:T}(hr:Hf S lo na ρ ρ' B B' (Og lo t x m)):t.I S ρ'=x.I S ρ∧Hf S lo na ρ ρ' B B' m:=by
  have heq:Hf S lo na ρ ρ' B B' {m with eqI:=(t,x)::m.eqI}→t.I S ρ'=x.I S ρ∧Hf S lo na ρ ρ' B B' m:=fun hr=>
    ⟨hr.eqI (t,x) (by simp),{hr with eqI:=fun p hp=>hr.eqI p (List.mem_cons_of_mem _ hp)}⟩
  unfold Og at hr
  split at hr
  · rename_i n
    split at hr
    · rename_i hl
      rw[El] at hl
      split at hr
      · rename_i hn
        exact ⟨hr.i n x hl Ja,{hr with i:=fun k y hk hy=>hr.i k y hk (Ed hn hy)}⟩
      · exact heq hr
    · exact heq hr
  · exact heq hr
theorem jyc{t x:T}(hr:Hf S lo na ρ ρ' B B' (jwr lo t x m)):t.B S ρ'=x.B S ρ∧Hf S lo na ρ ρ' B B' m:=by
  have heq:Hf S lo na ρ ρ' B B' {m with eqB:=(t,x)::m.eqB}→t.B S ρ'=x.B S ρ∧Hf S lo na ρ ρ' B B' m:=fun hr=>
    ⟨hr.eqB (t,x) (by simp),{hr with eqB:=fun p hp=>hr.eqB p (List.mem_cons_of_mem _ hp)}⟩
  unfold jwr at hr
  split at hr
  · rename_i n
    split at hr
    · rename_i hl
      rw[El] at hl
      split at hr
      · rename_i hn
        exact ⟨hr.b n x hl Ja,{hr with b:=fun k y hk hy=>hr.b k y hk (Ed hn hy)}⟩
      · exact heq hr
    · exact heq hr
  · exact heq hr
theorem Lh{t x:T}(hr:Hf S lo na ρ ρ' B B' (Pm lo t x m)):t.A S ρ'=x.A S ρ∧Hf S lo na ρ ρ' B B' m:=by
  have heq:Hf S lo na ρ ρ' B B' {m with eqA:=(t,x)::m.eqA}→t.A S ρ'=x.A S ρ∧Hf S lo na ρ ρ' B B' m:=fun hr=>
    ⟨hr.eqA (t,x) (by simp),{hr with eqA:=fun p hp=>hr.eqA p (List.mem_cons_of_mem _ hp)}⟩
  unfold Pm at hr
  split at hr
  · rename_i n
    split at hr
    · rename_i hl
      rw[El] at hl
      split at hr
      · rename_i hn
        exact ⟨hr.a n x hl Ja,{hr with a:=fun k y hk hy=>hr.a k y hk (Ed hn hy)}⟩
      · exact heq hr
    · exact heq hr
  · exact heq hr
theorem jaj{t x:Cl}(h:Nat.beq t.code x.code=true)(ho:t.okIn na=true)(hr:Hf S lo na ρ ρ' B B' m)(h1: ∀n,t=.old n→n<lo)(h2: ∀n,t=.own n→n<lo)(h3: ∀n,t=.ro n→n<lo):
    t.blk ρ' B'=x.blk ρ B∧t.off ρ'=x.off ρ:=by
  have:=Cl.code_inj h
  subst this
  cases t with
  | old n=>exact ⟨hr.blkL n (h1 n rfl),rfl⟩
  | new k=>exact ⟨hr.nb k (Nat.le_of_ble_eq_true ho),rfl⟩
  | glob g=>exact ⟨rfl,rfl⟩
  | ro n=>exact ⟨hr.blkL n (h3 n rfl),hr.offL n (h3 n rfl)⟩
  | own n=>
    have hl:=h2 n rfl
    have:=hr.hB (by omega)
    exact ⟨by simp only[Cl.blk];rw[this,hr.blkL n hl],rfl⟩
theorem Kw{a b:Nat}(h: ¬Nat.ble a b=true):b<a:=by
  rw[El] at h;omega
theorem jmo{t x:Cl}(ho:t.okIn na=true)(h:ji6 lo t x m=some m')(hr:Hf S lo na ρ ρ' B B' m'):t.blk ρ' B'=x.blk ρ B∧t.off ρ'=x.off ρ∧Hf S lo na ρ ρ' B B' m:=by
  unfold ji6 at h
  split at h
  · rename_i n
    split at h
    · rename_i hl
      rw[El] at hl
      split at h
      · cases h
      · rename_i hne
        have hoff:x.off ρ=0:=by cases x<;>first|rfl|exact absurd rfl (hne _)
        split at h
        · rename_i hn
          cases h
          exact ⟨hr.o n x hl Ja,hoff.symm,{hr with o:=fun k y hk hy=>hr.o k y hk (Ed hn hy),n:=fun k y hk hy=>hr.n k y hk (Ed hn hy),q:=fun k y hk hy=>hr.q k y hk (Ed hn hy),p:=fun k r s d l c hk hy=>hr.p k r s d l c hk (Ed hn hy)}⟩
        · rename_i y hy
          split at h
          · rename_i hc
            cases h
            have:=Cl.code_inj hc
            subst this
            exact ⟨hr.o n x hl hy,hoff.symm,hr⟩
          · cases h
        · cases h
    · rename_i hl
      split at h
      · rename_i hc
        cases h
        obtain ⟨h1,h2⟩:=jaj hc ho hr (fun k e=>by cases e;exact Kw hl) (fun k e=>by cases e) (fun k e=>by cases e)
        exact ⟨h1,h2,hr⟩
      · cases h
  · rename_i n
    split at h
    · rename_i hl
      rw[El] at hl
      split at h
      · rename_i hn
        split at h
        · rename_i k
          cases h
          exact ⟨hr.n n k hl Ja,rfl,{hr with o:=fun k y hk hy=>hr.o k y hk (Ed hn hy),n:=fun k y hk hy=>hr.n k y hk (Ed hn hy),q:=fun k y hk hy=>hr.q k y hk (Ed hn hy),p:=fun k r s d l c hk hy=>hr.p k r s d l c hk (Ed hn hy)}⟩
        · rename_i k
          cases h
          exact ⟨hr.q n k hl Ja,rfl,{hr with o:=fun k y hk hy=>hr.o k y hk (Ed hn hy),n:=fun k y hk hy=>hr.n k y hk (Ed hn hy),q:=fun k y hk hy=>hr.q k y hk (Ed hn hy),p:=fun k r s d l c hk hy=>hr.p k r s d l c hk (Ed hn hy)}⟩
        · cases h
      · rename_i k hy
        split at h
        · rename_i hc
          cases h
          have:=Cl.code_inj hc
          subst this
          exact ⟨hr.n n k hl hy,rfl,hr⟩
        · cases h
      · rename_i k hy
        split at h
        · rename_i hc
          cases h
          have:=Cl.code_inj hc
          subst this
          exact ⟨hr.q n k hl hy,rfl,hr⟩
        · cases h
      · cases h
    · rename_i hl
      split at h
      · rename_i hc
        cases h
        obtain ⟨h1,h2⟩:=jaj hc ho hr (fun k e=>by cases e) (fun k e=>by cases e;exact Kw hl) (fun k e=>by cases e)
        exact ⟨h1,h2,hr⟩
      · cases h
  · rename_i n
    split at h
    · cases h
    · rename_i hl
      split at h
      · rename_i hc
        cases h
        obtain ⟨h1,h2⟩:=jaj hc ho hr (fun k e=>by cases e) (fun k e=>by cases e) (fun k e=>by cases e;exact Kw hl)
        exact ⟨h1,h2,hr⟩
      · cases h
  · rename_i n1 n2 n3
    split at h
    · rename_i hc
      cases h
      obtain ⟨h1,h2⟩:=jaj hc ho hr (fun k e=>absurd e (n1 k)) (fun k e=>absurd e (n2 k)) (fun k e=>absurd e (n3 k))
      exact ⟨h1,h2,hr⟩
    · cases h
theorem jos{s s':Nat}{d d':T}(h:jj4 lo s d s' d' m=some m')(hr:Hf S lo na ρ ρ' B B' m'):s+(d.I S ρ').toNat=s'+(d'.I S ρ).toNat∧Hf S lo na ρ ρ' B B' m:=by
  unfold jj4 at h
  split at h
  · rename_i hs
    have:=Nat.eq_of_beq_eq_true hs
    subst this
    cases h
    obtain ⟨h1,h2⟩:=Mk hr
    exact ⟨by rw[h1],h2⟩
  · split at h
    · rename_i hs
      have:=Nat.eq_of_beq_eq_true hs
      subst this
      cases h
      obtain ⟨n1,n2⟩:=Co.1 hr.need
      obtain ⟨h1,h2⟩:=Mk (S:=S) (lo:=lo) (na:=na) (ρ:=ρ) (ρ':=ρ') (B:=B) (B':=B') (m:=m) (t:=d) (x:=Ej (.lit s') d') {hr with need:=n2}
      refine ⟨?_,h2⟩
      have:=Fg (Qd n1)
      rw[h1,Dg]
      simp only[T.I] at this⊢
      omega
    · cases h
theorem jtg{r r':Cl}{s s':Nat}{d d':T}(h1:r.blk ρ' B'=r'.blk ρ B)(h2:r.off ρ'=r'.off ρ)(h3:s+(d.I S ρ').toNat=s'+(d'.I S ρ).toNat):Cw S ρ' B' r s d=Cw S ρ B r' s' d':=by
  simp only[Cw,h1,h2]
  congr 1
  omega
theorem Zb: ∀{t x:Aw} {m m':Bd},t.okIn na=true→Ka lo t x m=some m'→Hf S lo na ρ ρ' B B' m'→t.den S ρ' B'=x.den S ρ B∧Hf S lo na ρ ρ' B B' m:=by
  intro t
  induction t with
  | iface k t ih=>
    intro x m m' ho h hr
    cases x<;>simp only[Ka] at h<;>try (cases h;done)
    split at h
    · rename_i hk
      subst hk
      obtain ⟨h1,h2⟩:=ih (by simpa [Aw.okIn] using ho) h hr
      exact ⟨by simp only[Aw.den,h1],h2⟩
    · cases h
  | val n=>
    intro x m m' ho h hr
    simp only[Ka] at h
    split at h
    · rename_i hl
      rw[El] at hl
      split at h
      · rename_i hn
        cases h
        exact ⟨hr.v n x hl Ja,{hr with v:=fun k y hk hy=>hr.v k y hk (Ed hn hy)}⟩
      · rename_i y hy
        split at h
        · rename_i hxy
          cases h
          subst hxy
          exact ⟨hr.v n x hl hy,hr⟩
        · cases h
    · rename_i hl
      split at h
      · rename_i hx
        cases h
        subst hx
        exact ⟨hr.vL n (Kw hl),hr⟩
      · cases h
  | junk n=>
    intro x m m' ho h hr
    simp only[Ka] at h
    split at h
    · rename_i hl
      rw[El] at hl
      split at h
      · rename_i hn
        cases h
        exact ⟨hr.j n _ hl Ja,{hr with j:=fun k y hk hy=>hr.j k y hk (Ed hn hy)}⟩
      · cases h
    · rename_i hl
      split at h
      · rename_i hx
        cases h
        subst hx
        exact ⟨hr.jL n (Kw hl),hr⟩
      · cases h
  | int k t=>
    intro x m m' ho h hr
    cases x<;>simp only[Ka] at h<;>try (cases h;done)
    split at h
    · rename_i hk
      subst hk
      cases h
      obtain ⟨h1,h2⟩:=Mk hr
      exact ⟨by simp only[Aw.den,h1],h2⟩
    · cases h
  | bool t=>
    intro x m m' ho h hr
    cases x<;>simp only[Ka] at h<;>try (cases h;done)
    cases h
    obtain ⟨h1,h2⟩:=jyc hr
    exact ⟨by simp only[Aw.den,h1],h2⟩
  | ptr r s d=>
    intro x m m' ho h hr
    cases x<;>simp only[Ka] at h<;>try (cases h;done)
    rename_i r' s' d'
    rw[Option.bind_eq_some_iff] at h
    obtain ⟨m1,h1,h2⟩:=h
    obtain ⟨e3,hr1⟩:=jos h2 hr
    obtain ⟨e1,e2,hr2⟩:=jmo ho h1 hr1
    exact ⟨by simp only[Aw.den,jtg e1 e2 e3],hr2⟩
  | sl r s d l c=>
    intro x m m' ho h hr
    cases x with
    | sl r' s' d' l' c'=>
      have gen:((ji6 lo r r' m).bind (jj4 lo s d s' d')).map (fun m=>Og lo c c' (Og lo l l' m))=some m'→(Aw.sl r s d l c).den S ρ' B'=(Aw.sl r' s' d' l' c').den S ρ B∧Hf S lo na ρ ρ' B B' m:=by
        intro hg
        rw[Option.map_eq_some_iff] at hg
        obtain ⟨m2,hg,rfl⟩:=hg
        rw[Option.bind_eq_some_iff] at hg
        obtain ⟨m1,h1,h2⟩:=hg
        obtain ⟨e5,hr⟩:=Mk hr
        obtain ⟨e4,hr⟩:=Mk hr
        obtain ⟨e3,hr1⟩:=jos h2 hr
        obtain ⟨e1,e2,hr2⟩:=jmo ho h1 hr1
        exact ⟨by simp only[Aw.den,jtg e1 e2 e3,e4,e5],hr2⟩
      cases r with
      | ro n=>
        simp only[Ka] at h
        split at h
        · rename_i hl
          rw[El] at hl
          split at h
          · rename_i hn
            split at h
            · rename_i hz
              simp only[Bool.and_eq_true] at hz
              have hs:=Nat.eq_of_beq_eq_true hz.1
              have hd:=Qr.1 hz.2
              subst hs hd
              cases h
              obtain ⟨e5,hr⟩:=Mk hr
              obtain ⟨e4,hr⟩:=Mk hr
              obtain ⟨p1,p2⟩:=hr.p n r' s' d' l' c' hl Ja
              refine ⟨?_,{hr with o:=fun k y hk hy=>hr.o k y hk (Ed hn hy),n:=fun k y hk hy=>hr.n k y hk (Ed hn hy),q:=fun k y hk hy=>hr.q k y hk (Ed hn hy),p:=fun k r s d l c hk hy=>hr.p k r s d l c hk (Ed hn hy)}⟩
              simp only[Aw.den,Cw,Cl.blk,Cl.off,p1,p2,e4,e5,T.I]
              congr 2
            · cases h
          · cases h
        · exact gen h
      | _=>exact gen h
    | _=>cases r<;>simp[Ka] at h
  | _=>
    intro x m m' ho h hr
    cases x<;>simp only[Ka] at h<;>first
      | (cases h;done)
      | (cases h;exact ⟨rfl,hr⟩)
      | (split at h
         · rename_i e
           cases h
           subst e
           exact ⟨rfl,hr⟩
         · cases h)
end
section
variable {S:Hw} {lo na:Nat} {ρ ρ':Et} {B B':Nat}
theorem ja9: ∀{ts xs:List Aw} {m m':Bd},ts.all (Aw.okIn na)=true→Ne lo ts xs m=some m'→Hf S lo na ρ ρ' B B' m'→ts.map (Aw.den S ρ' B')=xs.map (Aw.den S ρ B)∧Hf S lo na ρ ρ' B B' m
  | [],[],m,m',_,h,hr=>by
    simp only[Ne,Option.some.injEq] at h
    subst h
    exact ⟨rfl,hr⟩
  | t::ts,x::xs,m,m',ho,h,hr=>by
    simp only[Ne] at h
    rw[Option.bind_eq_some_iff] at h
    obtain ⟨m1,h1,h2⟩:=h
    simp only[List.all_cons,Bool.and_eq_true] at ho
    obtain ⟨e2,hr⟩:=ja9 ho.2 h2 hr
    obtain ⟨e1,hr⟩:=Zb ho.1 h1 hr
    exact ⟨by rw[List.map_cons,List.map_cons,e1,e2],hr⟩
  | [],_::_,_,_,_,h,_=>by simp[Ne] at h
  | _::_,[],_,_,_,h,_=>by simp[Ne] at h
theorem Vf: ∀{g:List Cp} {l:List Aw},Cm S ρ g→cellsOf g=some l→l.map (Aw.den S ρ B)=Av S ρ B g
  | [],l,_,h=>by simp only[cellsOf,Option.some.injEq] at h;subst h;rfl
  | .cells c::g,l,hw,h=>by
    simp only[cellsOf,Option.map_eq_some_iff] at h
    obtain ⟨l',h,rfl⟩:=h
    rw[List.map_append,Vf (Ax.1 hw).2 h,Au];rfl
  | .arr k a n::g,l,hw,h=>by
    simp only[cellsOf,Option.map_eq_some_iff] at h
    obtain ⟨l',h,rfl⟩:=h
    have hl:(a.A S ρ).length=n:=(Ax.1 hw).1
    rw[List.map_append,Vf (Ax.1 hw).2 h,Au]
    congr 1
    apply List.ext_getElem?
    intro j
    simp only[List.map_map,List.getElem?_map,Cp.den]
    by_cases hj:j<n
    · rw[List.getElem?_range hj,List.getElem?_eq_getElem (by omega)]
      simp[Aw.den,Sv,T.I,List.getD_eq_getElem?_getD,List.getElem?_eq_getElem (show j<(a.A S ρ).length by omega)]
    · rw[List.getElem?_eq_none (by simpa using hj),List.getElem?_eq_none (by omega)];rfl
  | .arrD _ _::_,_,_,h=>by simp[cellsOf] at h
  | .bar _ _::_,_,_,h=>by simp[cellsOf] at h
  | .junk _::_,_,_,h=>by simp[cellsOf] at h
  | .tail _ _::_,_,_,h=>by simp[cellsOf] at h
theorem Xj: ∀{g p:List Cp} {z:List Aw} {t:T},Km g=some (p,z,t)→g=p++ [.tail z t]
  | [],_,_,_,h=>by simp[Km] at h
  | [.tail z t],p,z',t',h=>by
    simp only[Km,Option.some.injEq,Prod.mk.injEq] at h
    obtain ⟨rfl,rfl,rfl⟩:=h
    rfl
  | [.cells _],_,_,_,h=>by simp[Km] at h
  | [.arr _ _ _],_,_,_,h=>by simp[Km] at h
  | [.arrD _ _],_,_,_,h=>by simp[Km] at h
  | [.bar _ _],_,_,_,h=>by simp[Km] at h
  | [.junk _],_,_,_,h=>by simp[Km] at h
  | x::y::g,p,z,t,h=>by
    rw[Km] at h
    · simp only[Option.map_eq_some_iff,Prod.exists] at h
      obtain ⟨p',z',t',h,h'⟩:=h
      simp only[Prod.mk.injEq] at h'
      obtain ⟨rfl,rfl,rfl⟩:=h'
      rw[Xj h];rfl
    · intro _ _ _ h;cases h
theorem jbd{z:List Aw}(h:z.all Aw.fixed=true):z.map (Aw.den S ρ' B')=z.map (Aw.den S ρ B):=by
  rw[List.all_eq_true] at h
  apply List.map_congr_left
  intro x hx
  have:=h x hx
  unfold Aw.fixed at this
  split at this<;>first|rfl|cases this
theorem jge: ∀{ts g:List Cp} {m m':Bd},ts.all (Cp.okIn na)=true→Cm S ρ g→Fk lo ts g m=some m'→Hf S lo na ρ ρ' B B' m'→
    Av S ρ' B' ts=Av S ρ B g∧Cm S ρ' ts∧Hf S lo na ρ ρ' B B' m:=by
  intro ts
  induction ts with
  | nil=>
    intro g m m' _ hw h hr
    cases g with
    | nil=>
      simp only[Fk,Option.some.injEq] at h
      subst h
      exact ⟨rfl,(fun _ h=>nomatch h),hr⟩
    | cons x g=>simp[Fk] at h
  | cons t ts ih=>
    intro g m m' ho hw h hr
    simp only[List.all_cons,Bool.and_eq_true] at ho
    have arrD: ∀{k:IntKind} {u:T} {g:List Cp} {a:T} {m m':Bd},jb5 k g=some a→Hf S lo na ρ ρ' B B' (Pm lo u a m)→(Cp.arrD k u).den S ρ' B'=Av S ρ B g∧Hf S lo na ρ ρ' B B' m:=by
      intro k u g a m m' hp hr
      obtain ⟨e,hr⟩:=Lh hr
      exact ⟨by rw[←Wc hp,Cp.den,e],hr⟩
    cases t with
    | cells l=>
      simp only[Fk] at h
      split at h
      · rename_i x rest hs
        split at h
        · rename_i c hc
          rw[Option.bind_eq_some_iff] at h
          obtain ⟨m1,h1,h2⟩:=h
          obtain ⟨s1,s2,s3,s4⟩:=Fn (B:=B) hw hs
          obtain ⟨e2,w2,hr⟩:=ih ho.2 s4 h2 hr
          obtain ⟨e1,hr⟩:=ja9 ho.1 h1 hr
          refine ⟨?_,Ax.2 ⟨trivial,w2⟩,hr⟩
          rw[Au,e2,←s1,←Vf s3 hc,←e1];rfl
        · cases h
      · cases h
    | arr k u n=>
      simp only[Fk] at h
      split at h
      · rename_i x rest hs
        split at h
        · rename_i a hp
          obtain ⟨s1,s2,s3,s4⟩:=Fn (B:=B) hw hs
          obtain ⟨e2,w2,hr⟩:=ih ho.2 s4 h hr
          obtain ⟨e1,hr⟩:=Lh hr
          have hp':=Wc (S:=S) (ρ:=ρ) (B:=B) hp
          refine ⟨?_,Ax.2 ⟨?_,w2⟩,hr⟩
          · rw[Au,e2,←s1,←hp',←e1];rfl
          · show (u.A S ρ').length=n
            rw[e1,←s2,←hp',List.length_map]
        · cases h
      · cases h
    | arrD k u=>
      cases ts with
      | nil=>
        simp only[Fk] at h
        split at h
        · rename_i a hp
          cases h
          obtain ⟨e,hr⟩:=arrD (m':=m) hp hr
          refine ⟨by rw[Au,Cj,List.append_nil,e],Ax.2 ⟨trivial,fun _ h=>nomatch h⟩,hr⟩
        · cases h
      | cons t2 ts=>
        cases t2 with
        | tail z v=>
          cases ts with
          | nil=>
            simp only[Fk] at h
            split at h
            · rename_i x z' u' hd
              split at h
              · rename_i hz
                obtain ⟨rfl,hzf⟩:=hz
                split at h
                · rename_i a hp
                  cases h
                  obtain ⟨e2,hr⟩:=Mk hr
                  obtain ⟨e,hr⟩:=arrD (m':=m) hp hr
                  refine ⟨?_,Ax.2 ⟨trivial,Ax.2 ⟨trivial,fun _ h=>nomatch h⟩⟩,hr⟩
                  rw[Xj hd,Bp,Au,Au,Au,e]
                  simp only[Cj,List.append_nil,Cp.den,e2,jbd (S:=S) (ρ:=ρ) (ρ':=ρ') (B:=B) (B':=B') hzf]
                · cases h
              · cases h
            · cases h
          | cons _ _=>simp[Fk] at h
        | _=>simp[Fk] at h
    | bar u n=>
      cases g with
      | nil=>simp[Fk] at h
      | cons y g=>
        cases y with
        | bar a n'=>
          simp only[Fk] at h
          split at h
          · rename_i hn
            subst hn
            obtain ⟨e2,w2,hr⟩:=ih ho.2 (Ax.1 hw).2 h hr
            obtain ⟨e1,hr⟩:=Lh hr
            refine ⟨?_,Ax.2 ⟨?_,w2⟩,hr⟩
            · rw[Au,Au,e2];simp only[Cp.den,e1]
            · show (u.A S ρ').length=n
              rw[e1];exact (Ax.1 hw).1
          · cases h
        | _=>simp[Fk] at h
    | tail z u=>
      cases ts with
      | nil=>
        cases g with
        | nil=>simp[Fk] at h
        | cons y g=>
          cases g with
          | cons _ _=>cases y<;>simp[Fk] at h
          | nil=>
            cases y with
            | tail z' u'=>
              simp only[Fk] at h
              split at h
              · rename_i hz
                obtain ⟨rfl,hzf⟩:=hz
                cases h
                obtain ⟨e2,hr⟩:=Mk hr
                refine ⟨?_,Ax.2 ⟨trivial,fun _ h=>nomatch h⟩,hr⟩
                simp only[Au,Cj,List.append_nil,Cp.den,e2,jbd (S:=S) (ρ:=ρ) (ρ':=ρ') (B:=B) (B':=B') hzf]
              · cases h
            | _=>simp[Fk] at h
      | cons _ _=>cases g<;>simp[Fk] at h
    | junk n=>
      cases ts with
      | nil=>
        simp only[Fk] at h
        split at h
        · rename_i hl
          rw[El] at hl
          split at h
          · rename_i hn
            cases h
            refine ⟨?_,Ax.2 ⟨trivial,fun _ h=>nomatch h⟩,{hr with s:=fun k y hk hy=>hr.s k y hk (Ed hn hy)}⟩
            rw[Au,Cj,List.append_nil]
            exact hr.s n g hl Ja
          · cases h
        · rename_i hl
          split at h
          · rename_i hg
            cases h
            subst hg
            refine ⟨?_,Ax.2 ⟨trivial,fun _ h=>nomatch h⟩,hr⟩
            rw[Au,Cj,List.append_nil,Au,Cj,List.append_nil]
            exact hr.sL n (Kw hl)
          · cases h
      | cons _ _=>simp[Fk] at h
end
section
variable {S:Hw} {lo na:Nat} {ρ ρ':Et} {B B':Nat}
theorem jo9{t x:SV}{m m':Bd}(ho:t.okIn na=true)(hw:x.wf S ρ)(h:ji9 lo t x m=some m')(hr:Hf S lo na ρ ρ' B B' m'):t.den S ρ' B'=x.den S ρ B∧t.wf S ρ'∧Hf S lo na ρ ρ' B B' m:=by
  cases t with
  | one t=>
    cases x with
    | one x=>
      obtain ⟨h1,h2⟩:=Zb ho h hr
      exact ⟨h1,trivial,h2⟩
    | agg g=>simp[ji9] at h
  | agg t=>
    cases x with
    | one x=>simp[ji9] at h
    | agg g=>
      obtain ⟨h1,h2,h3⟩:=jge ho hw h hr
      exact ⟨by simp only[SV.den,h1],h2,h3⟩
theorem jin: ∀{ts xs:List SV} {m m':Bd},ts.all (SV.okIn na)=true→(∀x∈xs,x.wf S ρ)→Ys lo ts xs m=some m'→Hf S lo na ρ ρ' B B' m'→
    ts.map (SV.den S ρ' B')=xs.map (SV.den S ρ B)∧(∀t∈ts,t.wf S ρ')∧Hf S lo na ρ ρ' B B' m
  | [],[],m,m',_,_,h,hr=>by
    simp only[Ys,Option.some.injEq] at h
    subst h
    exact ⟨rfl,(fun _ h=>nomatch h),hr⟩
  | t::ts,x::xs,m,m',ho,hw,h,hr=>by
    simp only[Ys] at h
    rw[Option.bind_eq_some_iff] at h
    obtain ⟨m1,h1,h2⟩:=h
    simp only[List.all_cons,Bool.and_eq_true] at ho
    obtain ⟨e2,w2,hr⟩:=jin ho.2 (fun x hx=>hw x (by simp[hx])) h2 hr
    obtain ⟨e1,w1,hr⟩:=jo9 ho.1 (hw x (by simp)) h1 hr
    refine ⟨by rw[List.map_cons,List.map_cons,e1,e2],fun u hu=> ?_,hr⟩
    rcases List.mem_cons.1 hu with rfl|hu
    · exact w1
    · exact w2 u hu
  | [],_::_,_,_,_,_,h,_=>by simp[Ys] at h
  | _::_,[],_,_,_,_,h,_=>by simp[Ys] at h
theorem j0v{t x:SR}{m m':Bd}(ho:t.okIn na=true)(hw:x.wf S ρ)(h:jgz lo t x m=some m')(hr:Hf S lo na ρ ρ' B B' m'):t.den S ρ' B'=x.den S ρ B∧t.wf S ρ'∧Hf S lo na ρ ρ' B B' m:=by
  have gen: ∀{t x:SV},t.okIn na=true→x.wf S ρ→ji9 lo t x m=some m'→t.den S ρ' B'=x.den S ρ B∧t.wf S ρ'∧Hf S lo na ρ ρ' B B' m:=fun ho hw h=>jo9 ho hw h hr
  cases t with
  | v t=>
    cases t with
    | agg g=>
      cases x with
      | v x=>exact gen ho hw h
      | _=>simp[jgz] at h
    | one t=>
      cases t with
      | junk n=>
        simp only[jgz] at h
        split at h
        · rename_i hl
          rw[El] at hl
          split at h
          · rename_i hn
            cases h
            exact ⟨hr.j n x hl Ja,trivial,{hr with j:=fun k y hk hy=>hr.j k y hk (Ed hn hy)}⟩
          · cases h
        · split at h
          · obtain ⟨h1,h2⟩:=Zb (t:=.junk n) rfl h hr
            exact ⟨h1,trivial,h2⟩
          · cases h
      | _=>
        cases x with
        | v x=>exact gen ho hw h
        | _=>simp[jgz] at h
  | tup ts=>
    cases x with
    | tup xs=>
      obtain ⟨h1,h2,h3⟩:=jin ho hw h hr
      exact ⟨by simp only[SR.den,h1],h2,h3⟩
    | _=>simp[jgz] at h
  | ite _ _ _=>simp[jgz] at h
theorem ji3: ∀{ts xs:List SR} {m m':Bd},ts.all (SR.okIn na)=true→(∀x∈xs,x.wf S ρ)→Yz lo ts xs m=some m'→Hf S lo na ρ ρ' B B' m'→
    ts.map (SR.den S ρ' B')=xs.map (SR.den S ρ B)∧(∀t∈ts,t.wf S ρ')∧Hf S lo na ρ ρ' B B' m
  | [],[],m,m',_,_,h,hr=>by
    simp only[Yz,Option.some.injEq] at h
    subst h
    exact ⟨rfl,(fun _ h=>nomatch h),hr⟩
  | t::ts,x::xs,m,m',ho,hw,h,hr=>by
    simp only[Yz] at h
    rw[Option.bind_eq_some_iff] at h
    obtain ⟨m1,h1,h2⟩:=h
    simp only[List.all_cons,Bool.and_eq_true] at ho
    obtain ⟨e2,w2,hr⟩:=ji3 ho.2 (fun x hx=>hw x (by simp[hx])) h2 hr
    obtain ⟨e1,w1,hr⟩:=j0v ho.1 (hw x (by simp)) h1 hr
    refine ⟨by rw[List.map_cons,List.map_cons,e1,e2],fun u hu=> ?_,hr⟩
    rcases List.mem_cons.1 hu with rfl|hu
    · exact w1
    · exact w2 u hu
  | [],_::_,_,_,_,_,h,_=>by simp[Yz] at h
  | _::_,[],_,_,_,_,h,_=>by simp[Yz] at h
theorem jio: ∀{l:List (Cl×Gn)} {r:Cl} {c:Gn},Jr l r=some c→((r,c)::Ox l r).Perm l
  | [],_,_,h=>by simp[Jr] at h
  | (q,b)::l,r,c,h=>by
    unfold Jr at h
    unfold Ox
    split at h
    · rename_i hq
      have:=Cl.code_inj hq
      subst this
      cases h
      rw[hq]
    · rename_i hq
      have hq:Nat.beq q.code r.code=false:=by cases hb:Nat.beq q.code r.code with|true=>exact absurd hb hq|false=>rfl
      rw[hq]
      exact (List.Perm.swap _ _ _).trans ((jio h).cons _)
theorem j16{t r:Cl}{m:Bd}(ho:t.okIn na=true)(h:jxf lo m t=some r)(hr:Hf S lo na ρ ρ' B B' m):t.blk ρ' B'=r.blk ρ B∧(t.off ρ'=0∨t.off ρ'=r.off ρ):=by
  unfold jxf at h
  split at h
  · rename_i n
    split at h
    · rename_i hl
      rw[El] at hl
      split at h
      · rename_i r' hn
        cases h
        exact ⟨hr.o n r hl hn,.inl rfl⟩
      · cases h
    · rename_i hl
      cases h
      exact ⟨hr.blkL n (Kw hl),.inl rfl⟩
  · rename_i n
    split at h
    · rename_i hl
      rw[El] at hl
      split at h
      · rename_i k hn
        cases h
        exact ⟨hr.n n k hl hn,.inl rfl⟩
      · rename_i k hn
        cases h
        exact ⟨hr.q n k hl hn,.inl rfl⟩
      · cases h
    · rename_i hl
      cases h
      have hl:=Kw hl
      have:=hr.hB (by omega)
      exact ⟨by simp only[Cl.blk];rw[this,hr.blkL n hl],.inl rfl⟩
  · rename_i n
    split at h
    · cases h
    · rename_i hl
      cases h
      exact ⟨hr.blkL n (Kw hl),.inr (hr.offL n (Kw hl))⟩
  · rename_i n1 n2 n3
    cases h
    cases t with
    | old n=>exact absurd rfl (n1 n)
    | own n=>exact absurd rfl (n2 n)
    | ro n=>exact absurd rfl (n3 n)
    | new k=>exact ⟨hr.nb k (Nat.le_of_ble_eq_true ho),.inl rfl⟩
    | glob g=>exact ⟨rfl,.inl rfl⟩
theorem jmi: ∀{ts l rest:List (Cl×Gn)} {m m':Bd},jvr na ts=true→(∀x∈l,Cm S ρ x.2.segs)→jm8 lo ts l m=some (m',rest)→Hf S lo na ρ ρ' B B' m'→
    Hf S lo na ρ ρ' B B' m∧((ts.map fun x=>x.1.blk ρ' B')++rest.map fun x=>x.1.blk ρ B).Perm (l.map fun x=>x.1.blk ρ B)∧(∀x∈rest,x∈l)∧
      ∀t∈ts,∃x∈l,t.1.blk ρ' B'=x.1.blk ρ B∧(t.1.off ρ'=0∨t.1.off ρ'=x.1.off ρ)∧t.2.ty=x.2.ty∧Av S ρ' B' t.2.segs=Av S ρ B x.2.segs∧Cm S ρ' t.2.segs
  | [],l,rest,m,m',_,_,h,hr=>by
    simp only[jm8,Option.some.injEq,Prod.mk.injEq] at h
    obtain ⟨rfl,rfl⟩:=h
    exact ⟨hr,List.Perm.refl _,fun _ h=>h,fun _ h=>nomatch h⟩
  | (t,b)::ts,l,rest,m,m',ho,hw,h,hr=>by
    simp only[jvr,List.all_cons,Bool.and_eq_true] at ho
    obtain ⟨⟨o1,o2⟩,o3⟩:=ho
    simp only[jm8] at h
    split at h
    · rename_i r hrf
      split at h
      · rename_i c hf
        split at h
        · rename_i hty
          have hty:=Nat.eq_of_beq_eq_true hty
          split at h
          · rename_i m1 hs
            have hmem:=Gw hf
            obtain ⟨hr1,p1,s1,q1⟩:=jmi o3 (fun x hx=>hw x (Ru hx)) h hr
            obtain ⟨e1,e2,hr0⟩:=jge o2 (hw _ hmem) hs hr1
            obtain ⟨e3,e4⟩:=j16 o1 hrf hr0
            refine ⟨hr0,?_,fun x hx=>Ru (s1 x hx),fun u hu=> ?_⟩
            · have:=(jio hf).map fun x=>x.1.blk ρ B
              simp only[List.map_cons] at this
              simp only[List.map_cons,List.cons_append,e3]
              exact (p1.cons _).trans this
            · rcases List.mem_cons.1 hu with rfl|hu
              · exact ⟨(r,c),hmem,e3,e4,hty,e1,e2⟩
              · obtain ⟨x,hx,q⟩:=q1 u hu
                exact ⟨x,Ru hx,q⟩
          · cases h
        · cases h
      · cases h
    · cases h
theorem jh3{l:List (Cl×IntKind×T)}{r:Cl}(h:(Na l r).isSome=true): ∃x∈l,x.1=r:=by
  cases hf:Na l r with
  | none=>rw[hf] at h;cases h
  | some b=>exact ⟨(r,b),Jo hf,rfl⟩
theorem jjm{l:List (Cl×Gn)}{r:Cl}(h:(Jr l r).isSome=true): ∃x∈l,x.1=r:=by
  cases hf:Jr l r with
  | none=>rw[hf] at h;cases h
  | some b=>exact ⟨(r,b),Gw hf,rfl⟩
theorem Vl{w0 w:World}{h:Hp}{rest:List (Cl×Gn)}(hB:B=w0.heap.size)(hh:Cv S ρ w0 h w): ∀{l:List (Cl×IntKind×T)} {m m':Bd},Xd lo h rest l m=some m'→Hf S lo na ρ ρ' B B' m'→
    Hf S lo na ρ ρ' B B' m∧ ∀t∈l,(∀j v,(t.2.2.A S ρ')[j]? =some v→w.cell? ⟨t.1.blk ρ' B',t.1.off ρ'+j,none⟩=some (.int t.2.1 v))∧
      (((∃n,t.1=.ro n∧lo≤n)∧ ∃x∈rest,t.1.blk ρ' B'=x.1.blk ρ B)∨ ∃x∈h.ro,t.1.blk ρ' B'=x.1.blk ρ B)
  | [],m,m',hf,hr=>by
    simp only[Xd,Option.some.injEq] at hf
    subst hf
    exact ⟨hr,fun _ h=>nomatch h⟩
  | (r,k,t)::l,m,m',hf,hr=>by
    cases r with
    | ro n=>
      simp only[Xd] at hf
      split at hf
      · rename_i hl
        rw[El] at hl
        split at hf
        · rename_i q l1 c1 hlk
          split at hf
          · rename_i k'' a hro
            split at hf
            · rename_i hk
              subst hk
              obtain ⟨hr1,q1⟩:=Vl hB hh hf hr
              obtain ⟨e1,hr0⟩:=Lh hr1
              obtain ⟨p1,p2⟩:=hr0.p n _ _ _ _ _ hl hlk
              refine ⟨hr0,fun u hu=> ?_⟩
              rcases List.mem_cons.1 hu with rfl|hu
              · have hmem:=Jo hro
                refine ⟨fun j v hv=> ?_,.inr ⟨_,hmem,p1⟩⟩
                have:=hh.ro _ hmem j v (by rw[←e1];exact hv)
                simp only[Cl.blk,Cl.off,p1,p2] at this⊢
                simpa [T.I] using this
              · exact q1 u hu
            · cases hf
          · cases hf
        · rename_i r' s' d' ln c' hne hlk
          split at hf
          · rename_i c a hrd hso
            obtain ⟨hr1,q1⟩:=Vl hB hh hf hr
            obtain ⟨n1,n2⟩:=Co.1 hr1.need
            obtain ⟨e1,hr0⟩:=Lh (S:=S) (lo:=lo) (na:=na) (ρ:=ρ) (ρ':=ρ') (B:=B) (B':=B') (m:=m) (t:=t) (x:=a) {hr1 with need:=n2}
            obtain ⟨p1,p2⟩:=hr0.p n _ _ _ _ _ hl hlk
            refine ⟨hr0,fun u hu=> ?_⟩
            rcases List.mem_cons.1 hu with rfl|hu
            · refine ⟨fun j v hv=> ?_,?_⟩
              · obtain ⟨r2,s2,d2,l2,c2,heq2,g1,g3⟩:=jgr hh hrd n1
                cases heq2
                have:=g3 j (.int k v) (by rw[←e1,List.getElem?_map,hv];rfl)
                simp only[Cw,Ho] at this
                simp only[Cl.blk,Cl.off,p1,p2]
                rw[hB]
                exact this
              · simp only[Bool.or_eq_true] at hso
                rcases hso with hso|hso
                · obtain ⟨x,hx,e⟩:=jjm hso
                  exact .inl ⟨⟨n,rfl,hl⟩,x,hx,by rw[e];exact p1⟩
                · obtain ⟨x,hx,e⟩:=jh3 hso
                  exact .inr ⟨x,hx,by rw[e];exact p1⟩
            · exact q1 u hu
          · cases hf
        · cases hf
      · rename_i hl
        have hl:=Kw hl
        split at hf
        · rename_i k'' a hro
          split at hf
          · rename_i hk
            subst hk
            obtain ⟨hr1,q1⟩:=Vl hB hh hf hr
            obtain ⟨e1,hr0⟩:=Lh hr1
            refine ⟨hr0,fun u hu=> ?_⟩
            rcases List.mem_cons.1 hu with rfl|hu
            · have hmem:=Jo hro
              have eb:(Cl.ro n).blk ρ' B'=(Cl.ro n).blk ρ B:=hr0.blkL n hl
              have eo:(Cl.ro n).off ρ'=(Cl.ro n).off ρ:=hr0.offL n hl
              refine ⟨fun j v hv=> ?_,.inr ⟨_,hmem,eb⟩⟩
              have:=hh.ro _ hmem j v (by rw[←e1];exact hv)
              rw[eb,eo,hB]
              exact this
            · exact q1 u hu
          · cases hf
        · cases hf
    | glob g=>
      simp only[Xd] at hf
      split at hf
      · rename_i k'' a hro
        split at hf
        · rename_i hk
          subst hk
          obtain ⟨hr1,q1⟩:=Vl hB hh hf hr
          obtain ⟨e1,hr0⟩:=Lh hr1
          refine ⟨hr0,fun u hu=> ?_⟩
          rcases List.mem_cons.1 hu with rfl|hu
          · have hmem:=Jo hro
            refine ⟨fun j v hv=> ?_,.inr ⟨_,hmem,rfl⟩⟩
            exact hh.ro _ hmem j v (by rw[←e1];exact hv)
          · exact q1 u hu
        · cases hf
      · cases hf
    | _=>simp[Xd] at hf
theorem jys{o ow:Option OW}{m m':Bd}(h:jxi lo o ow m=some m')(hr:Hf S lo na ρ ρ' B B' m'):Hf S lo na ρ ρ' B B' m∧
    ∀t,o=some t→(∃p,ow=some p∧ρ'.v t.v=ρ.v p.v∧t.e=p.e∧t.k=p.k∧t.a.A S ρ'=p.a.A S ρ)∨(ρ'.v t.v=.slice none 0 0∧t.a.A S ρ'=[]):=by
  unfold jxi at h
  split at h
  · cases h
    exact ⟨hr,fun _ h=>nomatch h⟩
  · rename_i o'
    split at h
    · rename_i hl
      rw[El] at hl
      split at h
      · rename_i q p hq
        split at h
        · rename_i hc
          simp only[Bool.and_eq_true,decide_eq_true_eq] at hc
          obtain ⟨c1,c2,c3⟩:=hc
          have c1:=Nat.eq_of_beq_eq_true c1
          have c2:=Nat.eq_of_beq_eq_true c2
          cases h
          obtain ⟨e1,hr⟩:=Lh hr
          refine ⟨hr,fun t ht=>.inl ⟨p,rfl,?_,?_⟩⟩
          · cases ht;rw[hr.v _ _ hl hq,c1];rfl
          · cases ht;exact ⟨c2,c3,e1⟩
        · cases h
      · rename_i hq
        cases h
        obtain ⟨e1,hr⟩:=Lh hr
        refine ⟨hr,fun t ht=>.inr ?_⟩
        cases ht
        exact ⟨by rw[hr.v _ _ hl hq];rfl,by rw[e1];rfl⟩
      · cases h
    · rename_i hl
      split at h
      · rename_i p
        split at h
        · rename_i hc
          simp only[Bool.and_eq_true,decide_eq_true_eq] at hc
          obtain ⟨c1,c2,c3⟩:=hc
          have c1:=Nat.eq_of_beq_eq_true c1
          have c2:=Nat.eq_of_beq_eq_true c2
          cases h
          obtain ⟨e1,hr⟩:=Lh hr
          refine ⟨hr,fun t ht=>.inl ⟨p,rfl,?_,?_⟩⟩
          · cases ht;rw[hr.vL _ (Kw hl),c1]
          · cases ht;exact ⟨c2,c3,e1⟩
        · cases h
      · cases h
end
def Hh(S:Hw)(lo:Nat)(m:Bd)(ρ:Et)(B:Nat)(nbf:Nat→Nat)(loose:List Nat):Et where
  i n:=((m.ts lo).i n).I S ρ
  b n:=((m.ts lo).b n).B S ρ
  a n:=((m.ts lo).a n).A S ρ
  v n:=if lo≤n then ((Ga m.v n).getD .undef).den S ρ B else ρ.v n
  j n:=if lo≤n then ((Ga m.j n).getD (.v (.one .undef))).den S ρ B else ρ.j n
  vs n:=if lo≤n then Av S ρ B ((Ga m.s n).getD []) else ρ.vs n
  blk n:=if lo≤n then (match Ga m.r n with
    | some (.o r)=>r.blk ρ B
    | some (.n k)=>ρ.nb k
    | some (.q k)=>ρ.blk k
    | some (.p (.sl r _ _ _ _))=>r.blk ρ B
    | _=>0) else ρ.blk n
  off n:=if lo≤n then (match Ga m.r n with
    | some (.p (.sl r s d _ _))=>r.off ρ+s+(d.I S ρ).toNat
    | _=>0) else ρ.off n
  nb:=nbf
  loose:=loose
def Bd.noNew(m:Bd):Bool:=m.r.all fun x=>match x.2 with|.n _=>false|.q _=>false|_=>true
section
variable {S:Hw} {lo na:Nat} {ρ:Et} {B B':Nat} {m:Bd}
theorem jln(x:T):(jgo x).I S ρ=x.I S ρ∧(jgo x).sort=0:=by
  unfold jgo
  split
  · rename_i h;exact ⟨rfl,Nat.eq_of_beq_eq_true h⟩
  · rename_i h
    refine ⟨?_,rfl⟩
    have:=(T.sort_den (t:=x) (S:=S) (ρ:=ρ)).1 fun e=>h (by rw[e];rfl)
    rw[this];rfl
theorem jl0(x:T):(jfk x).B S ρ=x.B S ρ∧(jfk x).sort=1:=by
  unfold jfk
  split
  · rename_i h;exact ⟨rfl,Nat.eq_of_beq_eq_true h⟩
  · rename_i h
    refine ⟨?_,rfl⟩
    have:=(T.sort_den (t:=x) (S:=S) (ρ:=ρ)).2.1 fun e=>h (by rw[e];rfl)
    rw[this];rfl
theorem jjc(x:T):(jea x).A S ρ=x.A S ρ∧(jea x).sort=2:=by
  unfold jea
  split
  · rename_i h;exact ⟨rfl,Nat.eq_of_beq_eq_true h⟩
  · rename_i h
    refine ⟨?_,rfl⟩
    have:=(T.sort_den (t:=x) (S:=S) (ρ:=ρ)).2.2 fun e=>h (by rw[e];rfl)
    rw[this];rfl
theorem jzq(lo:Nat)(m:Bd)(ρ:Et)(B:Nat)(nbf:Nat→Nat)(loose:List Nat):(m.ts lo).Ok S ρ (Hh S lo m ρ B nbf loose):=by
  refine ⟨fun n=>⟨rfl,?_⟩,fun n=>⟨rfl,?_⟩,fun n=>⟨rfl,?_⟩⟩<;>simp only[Bd.ts]
  · split
    · exact (jln (S:=S) (ρ:=ρ) _).2
    · rfl
  · split
    · exact (jl0 (S:=S) (ρ:=ρ) _).2
    · rfl
  · split
    · exact (jjc (S:=S) (ρ:=ρ) _).2
    · rfl
theorem j12{t x:T}(h:(eqT t x).B S ρ=true):t.I S ρ=x.I S ρ:=by
  unfold eqT at h
  split at h
  · rename_i hs;rw[T.same_spec hs]
  · rw[Zc] at h;exact of_decide_eq_true h
theorem j5m{t x:T}(h:(qbo t x).B S ρ=true):t.B S ρ=x.B S ρ:=by
  unfold qbo at h
  split at h
  · rename_i hs;rw[T.same_spec hs]
  · rw[jl9] at h;simpa using h
theorem j2g{t x:T}(h:(qda t x).B S ρ=true):t.A S ρ=x.A S ρ:=by
  unfold qda at h
  split at h
  · rename_i hs;rw[T.same_spec hs]
  · simp only[T.B] at h;exact of_decide_eq_true h
theorem jiv{nbf:Nat→Nat}{loose:List Nat}(hm:Dx S ρ (m.needs lo))(hnb: ∀k,k<na→B'+nbf k=B+ρ.nb k)(hB:0<lo→B'=B)(hn:B'=B∨m.noNew=true):
    Hf S lo na ρ (Hh S lo m ρ B nbf loose) B B' m:=by
  have hts:=jzq (S:=S) lo m ρ B nbf loose
  unfold Bd.needs at hm
  obtain ⟨m1,m2⟩:=Co.1 hm
  obtain ⟨m2,m3⟩:=Co.1 m2
  obtain ⟨m3,m4⟩:=Co.1 m3
  have m2:=Fu m2
  have m3:=Fu m3
  have m4:=Fu m4
  have hno: ∀n x,Ga m.r n=some x→((∃k,x=.n k)∨ ∃k,x=.q k)→B'=B:=by
    intro n x hx hk
    rcases hn with hn|hn
    · exact hn
    · exfalso
      unfold Bd.noNew at hn
      rw[List.all_eq_true] at hn
      have: ∀{l:List (Nat×RB)},Ga l n=some x→ ∃k,(k,x)∈l:=by
        intro l
        induction l with
        | nil=>intro h;simp[Ga] at h
        | cons y l ih=>
          intro h
          unfold Ga at h
          split at h
          · cases h;exact ⟨_,List.mem_cons_self ..⟩
          · obtain ⟨k,hk⟩:=ih h;exact ⟨k,List.mem_cons_of_mem _ hk⟩
      obtain ⟨k,hk'⟩:=this hx
      have:=hn _ hk'
      rcases hk with ⟨k,rfl⟩|⟨k,rfl⟩<;>simp at this
  refine ⟨?_,?_,?_,?_,?_,?_,?_,?_,?_,?_,?_,?_,?_,?_,?_,hnb,hB,?_,?_,?_,m1⟩
  · intro n x hl hx
    simp only[Hh,Bd.ts,El.2 hl,if_true,hx,Option.getD_some,(jln (S:=S) (ρ:=ρ) x).1]
  · intro n x hl hx
    simp only[Hh,Bd.ts,El.2 hl,if_true,hx,Option.getD_some,(jl0 (S:=S) (ρ:=ρ) x).1]
  · intro n x hl hx
    simp only[Hh,Bd.ts,El.2 hl,if_true,hx,Option.getD_some,(jjc (S:=S) (ρ:=ρ) x).1]
  · intro n x hl hx
    simp only[Hh,if_pos hl,hx,Option.getD_some]
  · intro n x hl hx
    simp only[Hh,if_pos hl,hx,Option.getD_some]
  · intro n x hl hx
    simp only[Hh,if_pos hl,hx,Option.getD_some]
  · intro n x hl hx
    simp only[Hh,if_pos hl,hx]
  · intro n x hl hx
    simp only[Hh,if_pos hl,hx]
    rw[hno n _ hx (.inl ⟨_,rfl⟩)]
  · intro n x hl hx
    simp only[Hh,if_pos hl,hx]
    rw[hno n _ hx (.inr ⟨_,rfl⟩)]
  · intro n r s d l c hl hx
    simp only[Hh,if_pos hl,hx,and_self]
  · intro n hl;simp only[Hh];rw[if_neg (by omega)]
  · intro n hl;simp only[Hh];rw[if_neg (by omega)]
  · intro n hl;simp only[Hh];rw[if_neg (by omega)]
  · intro n hl;simp only[Hh];rw[if_neg (by omega)]
  · intro n hl;simp only[Hh];rw[if_neg (by omega)]
  · intro p hp
    have:=j12 (m2 _ (List.mem_map.2 ⟨p,hp,rfl⟩))
    rw[←this,(T.put_den hts p.1).1]
  · intro p hp
    have:=j5m (m3 _ (List.mem_map.2 ⟨p,hp,rfl⟩))
    rw[←this,(T.put_den hts p.1).2.1]
  · intro p hp
    have:=j2g (m4 _ (List.mem_map.2 ⟨p,hp,rfl⟩))
    rw[←this,(T.put_den hts p.1).2.2]
theorem jpj{nbf:Nat→Nat}{loose:List Nat}(hnb: ∀k,k<na→nbf k=ρ.nb k)(hlo:loose=ρ.loose):Cg lo na ρ (Hh S lo m ρ B nbf loose):=by
  refine ⟨?_,?_,?_,?_,?_,?_,?_,?_,hnb,hlo⟩<;>intro k hk
  · simp only[Hh,Bd.ts];rw[if_neg (by rw[El];omega)];simp only[T.I]
  · simp only[Hh,Bd.ts];rw[if_neg (by rw[El];omega)];simp only[T.B]
  · simp only[Hh,Bd.ts];rw[if_neg (by rw[El];omega)];simp only[T.A]
  all_goals (simp only[Hh];rw[if_neg (by omega)])
theorem jec{t:List SR}{th:Hp}{x:List SR}{h:Hp}{rest:List (Cl×Gn)}{ρ':Et}{w0 w:World}(hf:jn9 lo t th x h=some (m,rest))(hB:B=w0.heap.size)(hr:Hf S lo na ρ ρ' B B' m)(hh:Cv S ρ w0 h w)(hw: ∀y∈x,y.wf S ρ)
    (ht:t.all (SR.okIn na)=true)(hrw:jvr na th.rw=true):
    t.map (SR.den S ρ' B')=x.map (SR.den S ρ B)∧(∀y∈t,y.wf S ρ')∧
    (((th.rw.map fun x=>x.1.blk ρ' B')++rest.map fun x=>x.1.blk ρ B).Perm (h.rw.map fun x=>x.1.blk ρ B)∧(∀x∈rest,x∈h.rw)∧
      ∀t∈th.rw,∃x∈h.rw,t.1.blk ρ' B'=x.1.blk ρ B∧(t.1.off ρ'=0∨t.1.off ρ'=x.1.off ρ)∧t.2.ty=x.2.ty∧Av S ρ' B' t.2.segs=Av S ρ B x.2.segs∧Cm S ρ' t.2.segs)∧
    (∀t∈th.ro,(∀j v,(t.2.2.A S ρ')[j]? =some v→w.cell? ⟨t.1.blk ρ' B',t.1.off ρ'+j,none⟩=some (.int t.2.1 v))∧
      (((∃n,t.1=.ro n∧lo≤n)∧ ∃x∈rest,t.1.blk ρ' B'=x.1.blk ρ B)∨ ∃x∈h.ro,t.1.blk ρ' B'=x.1.blk ρ B))∧
    ∀o,th.ow=some o→(∃p,h.ow=some p∧ρ'.v o.v=ρ.v p.v∧o.e=p.e∧o.k=p.k∧o.a.A S ρ'=p.a.A S ρ)∨(ρ'.v o.v=.slice none 0 0∧o.a.A S ρ'=[]):=by
  unfold jn9 at hf
  split at hf
  · rename_i m1 h1
    split at hf
    · rename_i m2 rest' h2
      split at hf
      · rename_i m3 h3
        split at hf
        · rename_i m4 h4
          cases hf
          obtain ⟨hr,q4⟩:=jys h4 hr
          obtain ⟨hr,q3⟩:=Vl hB hh h3 hr
          obtain ⟨hr,q2⟩:=jmi hrw (fun x hx=>hh.wf x hx) h2 hr
          obtain ⟨q0,q1,_⟩:=ji3 ht hw h1 hr
          exact ⟨q0,q1,q2,q3,q4⟩
        · cases hf
      · cases hf
    · cases hf
  · cases hf
theorem jxs{r:Cl}(h:r.isNew=true):B≤r.blk ρ B:=by
  cases r<;>first|(cases h;done)|(simp only[Cl.blk];omega)
theorem jfd{a b c:List Nat}(h:(a++b).Perm c){i:Nat}(hi:i∈c):i∈a∨i∈b:=List.mem_append.1 (h.mem_iff.2 hi)
theorem je6{a b c:List Nat}(h:(a++b).Perm c)(hn:c.Nodup):a.Nodup∧ ∀x∈a,∀y∈b,x≠y:=by
  have:=h.nodup_iff.2 hn
  rw[List.nodup_append] at this
  exact ⟨this.1,fun x hx y hy=>this.2.2 x hx y hy⟩
theorem jha{t:List SR}{th:Hp}{x:List SR}{h:Hp}{rest:List (Cl×Gn)}{w0 w:World}(hf:jn9 lo t th x h=some (m,rest))(hm:Dx S ρ (m.needs lo))(hh:Cv S ρ w0 h w)(hw: ∀y∈x,y.wf S ρ)
    (ht:t.all (SR.okIn th.na)=true)(hrw:jvr th.na th.rw=true)(hro: ∀t∈th.ro,(∃n,t.1=.ro n∧n<lo)∨ ∃g,t.1=.glob g)(hna:th.na≤h.na)(hrest:rest.all (fun x=>x.1.isNew)=true)(quiet:Bool)(hq:quiet=true→th.na=h.na):
    ∃ρ',Cg lo (if quiet then th.na+1000000000 else th.na) ρ ρ'∧(m.ts lo).Ok S ρ ρ'∧t.map (SR.den S ρ' w0.heap.size)=x.map (SR.den S ρ w0.heap.size)∧(∀y∈t,y.wf S ρ')∧Cv S ρ' w0 th w:=by
  have hnb: ∀k,k<(if quiet then th.na+1000000000 else th.na)→(if quiet then ρ.nb k else if k<th.na then ρ.nb k else (w.heap.size-w0.heap.size)+(k-th.na))=ρ.nb k:=by
    intro k hk
    cases quiet with
    | true=>rfl
    | false=>simp only[Bool.false_eq_true,if_false] at hk⊢;rw[if_pos hk]
  have hge:w0.heap.size≤w.heap.size:=by have:=hh.size;omega
  generalize hρ':Hh S lo m ρ w0.heap.size (fun k=>if quiet then ρ.nb k else if k<th.na then ρ.nb k else (w.heap.size-w0.heap.size)+(k-th.na)) ρ.loose=ρ'
  have hA:Cg lo (if quiet then th.na+1000000000 else th.na) ρ ρ':=by subst hρ';exact jpj hnb rfl
  have hts:(m.ts lo).Ok S ρ ρ':=by subst hρ';exact jzq _ _ _ _ _ _
  have hnb': ∀k,ρ'.nb k=if quiet then ρ.nb k else if k<th.na then ρ.nb k else (w.heap.size-w0.heap.size)+(k-th.na):=by subst hρ';intro k;rfl
  have hlo:ρ'.loose=ρ.loose:=by subst hρ';rfl
  have hr:Hf S lo th.na ρ ρ' w0.heap.size w0.heap.size m:=by
    subst hρ'
    refine jiv hm (fun k hk=> ?_) (fun _=>rfl) (.inl rfl)
    show _+(if quiet then ρ.nb k else if k<th.na then ρ.nb k else (w.heap.size-w0.heap.size)+(k-th.na))=_
    rw[hnb k (by split<;>omega)]
  obtain ⟨q0,q1,⟨p1,p2,p3⟩,q3,q4⟩:=jec (na:=th.na) hf rfl hr hh hw ht hrw
  obtain ⟨a1,a2⟩:=je6 p1 hh.nd
  rw[List.all_eq_true] at hrest
  have hroh: ∀t∈th.ro,∃x∈h.ro,t.1.blk ρ' w0.heap.size=x.1.blk ρ w0.heap.size:=by
    intro t ht
    rcases (q3 t ht).2 with ⟨⟨n,hn,hl⟩,_⟩|hx
    · rcases hro t ht with ⟨n',hn',hl'⟩|⟨g,hg⟩
      · rw[hn] at hn'
        cases hn'
        omega
      · rw[hn] at hg;cases hg
    · exact hx
  refine ⟨ρ',hA,hts,q0,q1,?_,?_,?_,a1,fun t ht=>(q3 t ht).1,?_,?_,?_,?_,?_,?_,hh.os,hh.tape,hh.output⟩
  · intro t ht
    obtain ⟨y,hy,e1,_,e3,e4,_⟩:=p3 t ht
    rw[e1,hh.rw_ y hy,e3,e4]
  · intro t ht
    obtain ⟨y,hy,_,_,_,_,e5⟩:=p3 t ht
    exact e5
  · intro t ht
    obtain ⟨y,hy,_,e2,_⟩:=p3 t ht
    rcases e2 with e2|e2
    · exact e2
    · rw[e2];exact hh.off y hy
  · intro t ht y hy
    obtain ⟨x1,hx1,e1⟩:=hroh t ht
    obtain ⟨x2,hx2,e2,_⟩:=p3 y hy
    rw[e1,e2];exact hh.apart x1 hx1 x2 hx2
  · intro t ht
    obtain ⟨x1,hx1,e1⟩:=hroh t ht
    rw[e1];exact hh.rolt x1 hx1
  · rw[hnb']
    cases quiet with
    | true=>rw[if_pos rfl,hq rfl];exact hh.size
    | false=>simp only[Bool.false_eq_true,if_false,Nat.lt_irrefl];omega
  · intro k hk
    rw[hnb',hnb']
    cases quiet with
    | true=>simp only[if_true];exact hh.nbs k (by rw[←hq rfl];exact hk)
    | false=>
      simp only[Bool.false_eq_true,if_false]
      rw[if_neg (by omega),if_neg (by omega)];omega
  · intro i hi hil hne
    refine hh.frame i hi (by rw[hlo] at hil;exact hil) fun y hy e=> ?_
    rcases jfd p1 (List.mem_map.2 ⟨y,hy,rfl⟩) with hc|hc
    · obtain ⟨t,ht,e'⟩:=List.mem_map.1 hc
      exact hne t ht (e'.trans e)
    · obtain ⟨z,hz,e'⟩:=List.mem_map.1 hc
      have:=jxs (ρ:=ρ) (B:=w0.heap.size) (hrest z hz)
      omega
  · intro o ho
    rcases q4 o ho with ⟨p,hp,v1,v2,v3,v4⟩|⟨v1,v2⟩
    · rcases hh.own p hp with ⟨u1,u2⟩|⟨b,cap,u1,u2,u3,u4,u5,u6⟩
      · exact .inl ⟨by rw[v1,u1],by rw[v4,u2]⟩
      · refine .inr ⟨b,cap,by rw[v1,v4];exact u1,by rw[v4];exact u2,by rw[v4,v2,v3];exact u3,by rw[hlo];exact u4,fun y hy=> ?_,fun t ht=> ?_⟩
        · obtain ⟨x2,hx2,e2,_⟩:=p3 y hy
          rw[e2];exact u5 x2 hx2
        · obtain ⟨x1,hx1,e1⟩:=hroh t ht
          rw[e1];exact u6 x1 hx1
    · exact .inl ⟨v1,v2⟩
end
end
end Go.Proofs.YtljjbikbfeigdaaGreatDoor
