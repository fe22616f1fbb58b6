/- Part of the proof of FnColorEdgesCardSaid: An append to a slice that the call itself made, and calls of which not all is known. -/
import Derived.Test.YtljjbikbfeigdaaGreatDoorCe04
set_option linter.all false
namespace Go.Proofs.YtljjbikbfeigdaaGreatDoor
noncomputable section
open Go
theorem Vr(z:Array Value)(hz:0<z.size): ∀k,(Builtin.zeroCells z k).toList=(List.replicate k z.toList).flatten:=by
  intro k
  unfold Builtin.zeroCells
  rw[Array.toList_map,Array.toList_range]
  induction k with
  | zero=>simp
  | succ k ih=>
    rw[Nat.add_mul,Nat.one_mul,List.range_add,List.map_append,ih,List.replicate_succ',List.flatten_append]
    congr 1
    simp only[List.flatten_cons,List.flatten_nil,List.append_nil,List.map_map]
    apply List.ext_getElem?
    intro j
    simp only[List.getElem?_map]
    by_cases hj:j<z.size
    · rw[List.getElem?_range hj]
      simp only[Option.map_some,Function.comp_apply]
      rw[Nat.add_comm,Nat.add_mul_mod_self_right,Nat.mod_eq_of_lt hj]
      simp[hj]
    · rw[List.getElem?_eq_none (by simp;omega),List.getElem?_eq_none (by simp;omega)];rfl
theorem Lg{α:Type}(l:List α): ∀k,(List.replicate k l).flatten.length=k*l.length
  | 0=>by simp
  | k+1=>by rw[List.replicate_succ,List.flatten_cons,List.length_append,Lg l k,Nat.add_mul];omega
theorem drop_replicate{α:Type}(l:List α): ∀(m k:Nat),m≤k→(List.replicate k l).flatten.drop (m*l.length)=(List.replicate (k-m) l).flatten
  | 0,k,_=>by simp
  | m+1,0,h=>by omega
  | m+1,k+1,h=>by
    rw[List.replicate_succ,List.flatten_cons,Nat.add_mul,Nat.one_mul,Nat.add_comm,List.drop_append]
    rw[List.drop_eq_nil_of_le (by omega)]
    rw[show l.length+m*l.length-l.length=m*l.length from by omega]
    rw[List.nil_append,drop_replicate l m k (by omega)]
    rw[show k+1-(m+1)=k-m from by omega]
section
variable {S:Hw} {ρ:Et} {w0 w:World} {h:Hp} {P:Program} {B:Nat}
set_option maxHeartbeats 1000000 in
theorem jux(hh:Cv S ρ w0 h w){t u ty:TypeId}{x y:Aw}{r:Wv}(hb:jdn P t u x y h=some r)(hm:Dx S ρ r.need):
    ∃ρ' w',Cg r.ns r.na ρ ρ'∧Dx S ρ' r.facts∧r.val.wf S ρ'∧(Builtin.append_ #[t,u] ty #[x.den S ρ w0.heap.size,y.den S ρ w0.heap.size]).run P w=.ok (r.val.den S ρ' w0.heap.size) w'∧Cv S ρ' w0 r.heap w':=by
  unfold jdn at hb
  split at hb
  · rename_i e hu
    split at hb
    · rename_i htu
      subst htu
      split at hb
      · rename_i i zs r2 s2 d2 ln2 c2 hi hzs
        split at hb
        · rename_i z m c0 n p rw oz hz hv hbase
          split at hb
          · rename_i c g hrd
            split at hb
            · rename_i hc
              obtain ⟨hoz,hzl,hm0,hsz,hby,hpl,c1,cro,cow,c3⟩:=hc
              simp only[Option.some.injEq] at hb
              subst hb
              obtain ⟨m1,m2⟩:=Co.1 hm
              obtain ⟨r',s',d',ln',cp',heq,g1,g2,g3⟩:=jf3 hh hrd m2
              injection heq with e1 e2 e3 e4 e5
              subst e1 e2 e3 e4 e5
              have hln:(ln2.I S ρ).toNat=m:=by rw[Cy hv];simp[T.I]
              have hzden: ∀ρ':Et,∃i' z',P.info? e=some i'∧i'.zero=some z'∧z.map (Aw.den S ρ' w0.heap.size)=z'.cells.toList:=by
                intro ρ'
                obtain ⟨i',z',q1,q2,q3,_⟩:=Kj (S:=S) (ρ:=ρ') (B:=w0.heap.size) hzs
                exact ⟨i',z',q1,q2,by rw[←(Ml hz).1];exact q3⟩
              obtain ⟨i',zv,q1,q2,q3⟩:=hzden ρ
              rw[hi] at q1
              cases q1
              have hzc: ∀ρ':Et,z.map (Aw.den S ρ' w0.heap.size)=z.map (Aw.den S ρ w0.heap.size):=by
                intro ρ'
                obtain ⟨i',z',p1,p2,p3⟩:=hzden ρ'
                rw[hi] at p1;cases p1
                rw[q2] at p2;cases p2
                rw[p3,q3]
              have hzsize:zv.cells.size=i.size:=by
                rw[←Array.length_toList,←q3,List.length_map];exact hzl
              have hzero: ∀k,(Builtin.zeroCells zv.cells k)=(List.replicate k (z.map (Aw.den S ρ w0.heap.size))).flatten.toArray:=by
                intro k
                apply Array.ext'
                rw[Vr zv.cells (by omega),q3]
              have hnm:n+m≤1073741824:=by
                have:=Nat.le_mul_of_pos_right (n+m) (show 0<i.bytes+1 by omega)
                omega
              have hnb:(n+m)*i.bytes≤1073741824:=by
                have:(n+m)*i.bytes≤(n+m)*(i.bytes+1):=Nat.mul_le_mul_left _ (by omega)
                omega
              have hwpg: ∀{p:List Cp},Cm S ρ p→Cm S ρ (p++g):=fun hp=>Ch.2 ⟨hp,g2⟩
              unfold j6r at hbase
              split at hbase
              ·
                simp only[Option.some.injEq,Prod.mk.injEq] at hbase
                obtain ⟨rfl,rfl,rfl,rfl,rfl⟩:=hbase
                have hr:=run_append_nil (P:=P) w t ty e i zv hu hi q2 (Cw S ρ w0.heap.size r2 s2 d2) m (c2.I S ρ).toNat (Av S ρ w0.heap.size g) g1 g3 hm0 (by omega) (by simp only[Nat.zero_add] at hnb;omega)
                obtain ⟨ρ',a1,a2,a3,a4⟩:=je3 hh (rw:=h.rw) (fun _ h=>h) hh.nd (fun x hx=>.inl hx) c1 cro cow (pg:=[]++g) (hwpg (fun _ h=>nomatch h)) c3 (e:=e) hzc (len:=0+m) (cap:=grownCap w m 0 e) (by have:=grownCap_ge w m 0 e;omega)
                refine ⟨ρ',_,a1,?_,trivial,?_,a4⟩
                · intro q hq
                  simp only[List.mem_singleton] at hq
                  subst hq
                  have:=grownCap_ge w m 0 e
                  rw[Bo];simp[T.I,a2];omega
                · simp only[Aw.den,hln]
                  rw[hr]
                  simp only[SR.den,SV.den,Aw.den,Cw,Cl.off,T.I,a2,a3,Nat.zero_add]
                  simp[hzero]
              ·
                rename_i q nn cc
                split at hbase
                · rename_i b hf
                  split at hbase
                  · rename_i hbt
                    split at hbase
                    · rename_i p' z' c' n' hsp
                      split at hbase
                      · rename_i hcn
                        obtain ⟨rfl,rfl⟩:=hcn
                        simp only[Option.some.injEq,Prod.mk.injEq] at hbase
                        obtain ⟨rfl,rfl,rfl,rfl,rfl⟩:=hbase
                        have hzz:z'=z:=by
                          rcases hoz with h|h
                          · cases h
                          · injection h
                        subst hzz
                        have hmem:=Gw hf
                        have hrw:=hh.rw_ _ hmem
                        have hwf:=hh.wf _ hmem
                        simp only at hrw hwf
                        obtain ⟨s1,s2',s3,s4⟩:=Fn (S:=S) (ρ:=ρ) (B:=w0.heap.size) hwf hsp
                        have hcap:(n':Int)≤ρ.i c':=by
                          have:=m1 _ (List.mem_singleton.2 rfl)
                          simp only[T.B,T.I] at this
                          exact of_decide_eq_true this
                        have htail:Av S ρ w0.heap.size [.tail z' (.sub (.iv c') (.lit (Int.ofNat n')))]=(List.replicate ((ρ.i c').toNat-n') (z'.map (Aw.den S ρ w0.heap.size))).flatten:=by
                          simp only[Au,Cj,List.append_nil,Cp.den,T.I]
                          congr 2
                          have:(Int.ofNat n':Int)=(n':Int):=rfl
                          omega
                        have hcells:Av S ρ w0.heap.size b.segs=Av S ρ w0.heap.size p'++(List.replicate ((ρ.i c').toNat-n') (z'.map (Aw.den S ρ w0.heap.size))).flatten:=by
                          rw[←s1,htail]
                        have hZ:(z'.map (Aw.den S ρ w0.heap.size)).length=i.size:=by rw[List.length_map];exact hzl
                        have hlen:(Av S ρ w0.heap.size b.segs).length=(ρ.i c').toNat*i.size:=by
                          rw[hcells,List.length_append,s2',Lg,hZ,←Nat.add_mul]
                          congr 1;omega
                        have hx:(Aw.sl (.own q) 0 (.lit (.ofNat 0)) (.lit (.ofNat n')) (.iv c')).den S ρ w0.heap.size=.slice (some ⟨(Cl.own q).blk ρ w0.heap.size,0,none⟩) n' (ρ.i c').toNat:=by
                          simp[Aw.den,Cw,Cl.off,T.I]
                        rw[hbt] at hrw
                        by_cases hroom:n'+m≤(ρ.i c').toNat
                        · have hfit:n'*i.size+(Av S ρ w0.heap.size g).length≤(Av S ρ w0.heap.size b.segs).toArray.size:=by
                            rw[List.size_toArray (as:=Av S ρ w0.heap.size b.segs),hlen,g1,←Nat.add_mul];exact Nat.mul_le_mul_right _ hroom
                          have hr:=run_append_room (P:=P) w t ty e i hu hi ((Cl.own q).blk ρ w0.heap.size) n' (ρ.i c').toNat _ hrw (Cw S ρ w0.heap.size r2 s2 d2) m (c2.I S ρ).toNat (Av S ρ w0.heap.size g) g1 g3 (Yd hpl) hroom hfit
                          obtain ⟨ρ',a1,a2,a3,a4⟩:=jns hh hf c1 cro cow (pg:=p'++g) (hwpg s3) c3 hzc (len:=n'+m) (cap:=(ρ.i c').toNat)
                          rw[hbt] at a4
                          refine ⟨ρ',_,a1,?_,trivial,?_,a4⟩
                          · intro x hx
                            simp only[List.mem_singleton] at hx
                            subst hx
                            rw[Bo];simp[T.I,a2];omega
                          · have ey:(Aw.sl r2 s2 d2 ln2 c2).den S ρ w0.heap.size=.slice (some (Cw S ρ w0.heap.size r2 s2 d2)) m (c2.I S ρ).toNat:=by simp only[Aw.den,hln]
                            rw[hx,ey,hr]
                            have ec:(Av S ρ w0.heap.size b.segs).toArray.toList.take (n'*i.size)++Av S ρ w0.heap.size g++(Av S ρ w0.heap.size b.segs).toArray.toList.drop (n'*i.size+(Av S ρ w0.heap.size g).length)
                                =Av S ρ w0.heap.size (p'++g)++(List.replicate ((ρ.i c').toNat-(n'+m)) (z'.map (Aw.den S ρ w0.heap.size))).flatten:=by
                              simp only[hcells,Bp]
                              rw[←s2',List.take_left,List.drop_append,List.drop_eq_nil_of_le (by omega),List.nil_append]
                              rw[show (Av S ρ w0.heap.size p').length+(Av S ρ w0.heap.size g).length-(Av S ρ w0.heap.size p').length=m*(z'.map (Aw.den S ρ w0.heap.size)).length from by rw[g1,hZ];omega]
                              rw[drop_replicate _ m _ (by omega)]
                              rw[show (ρ.i c').toNat-n'-m=(ρ.i c').toNat-(n'+m) from by omega]
                            rw[ec]
                            simp only[SR.den,SV.den,Aw.den,Cw,Cl.off,T.I,a2,a3]
                            simp
                            omega
                        · have holds: ∀j v,(Av S ρ w0.heap.size p')[j]? =some v→w.cell? ((⟨(Cl.own q).blk ρ w0.heap.size,0,none⟩:Addr).add j)=some v:=by
                            intro j v hj
                            rw[Ho,cell_of_row w _ _ _ _ _ hrw,List.getElem?_toArray,hcells,Nat.zero_add]
                            rw[List.getElem?_append_left (List.getElem?_eq_some_iff.1 hj).1];exact hj
                          have hr:=run_append_grow (P:=P) w t ty e i zv hu hi q2 ⟨(Cl.own q).blk ρ w0.heap.size,0,none⟩ n' (ρ.i c').toNat (Av S ρ w0.heap.size p') s2' holds (Cw S ρ w0.heap.size r2 s2 d2) m (c2.I S ρ).toNat (Av S ρ w0.heap.size g) g1 g3 (by omega) (by omega)
                            (growslice_fits (by omega) (by omega))
                          obtain ⟨ρ',a1,a2,a3,a4⟩:=je3 hh (rw:=Ox h.rw (.own q)) (fun _ h=>Ru h) (List.Nodup.sublist (jet (fun r=>r.blk ρ w0.heap.size) h.rw (.own q)) hh.nd)
                            (fun x hx=>by
                              rcases jjb (r:=.own q) hx with h|h
                              · exact .inl h
                              · right;rw[h];simp only[Cl.blk];omega) c1 cro cow (pg:=p'++g) (hwpg s3) c3 (e:=e) hzc (len:=n'+m) (cap:=grownCap w (n'+m) (ρ.i c').toNat e) (grownCap_ge w _ _ e)
                          refine ⟨ρ',_,a1,?_,trivial,?_,a4⟩
                          · intro x hx
                            simp only[List.mem_singleton] at hx
                            subst hx
                            have:=grownCap_ge w (n'+m) (ρ.i c').toNat e
                            rw[Bo];simp[T.I,a2];omega
                          · have ey:(Aw.sl r2 s2 d2 ln2 c2).den S ρ w0.heap.size=.slice (some (Cw S ρ w0.heap.size r2 s2 d2)) m (c2.I S ρ).toNat:=by simp only[Aw.den,hln]
                            rw[hx,ey,hr]
                            simp only[SR.den,SV.den,Aw.den,Cw,Cl.off,T.I,a2,a3]
                            simp[hzero,Bp]
                            omega
                      · cases hbase
                    · cases hbase
                  · cases hbase
                · cases hbase
              · cases hbase
            · cases hb
          · cases hb
        · cases hb
      · cases hb
    · cases hb
  · cases hb
theorem jmx(hh:Cv S ρ w0 h w)(c1:Gm h.nv h.na h.rw=true)(c2:Gh h.nv h.na h.ro=true){k:IntKind}{e:Nat}{a:T}(ca:a.clear h.nv=true){cap:Nat}(hcap:(a.A S ρ).length≤cap):
    ∃ρ',Cg h.nv h.na ρ ρ'∧ρ'.v h.nv=.slice (some ⟨w.heap.size,0,none⟩) (a.A S ρ).length cap∧
      Cv S ρ' w0 {h with ow:=some ⟨h.nv,e,k,a⟩,nv:=h.nv+1} (w.drew.alloc (.cells ((a.A S ρ).map (Value.int k)++List.replicate (cap-(a.A S ρ).length) (Value.int k 0)).toArray e)):=by
  have hA:Cg h.nv h.na ρ {ρ with v:=upd ρ.v h.nv (.slice (some ⟨w.heap.size,0,none⟩) (a.A S ρ).length cap),nb:=fun k=>if k<h.na then ρ.nb k else ρ.nb k+1}:=by
    refine ⟨fun _ _=>rfl,fun _ _=>rfl,fun _ _=>rfl,?_,fun _ _=>rfl,fun _ _=>rfl,fun _ _=>rfl,fun _ _=>rfl,?_,rfl⟩
    · intro k hk;simp only[upd];rw[if_neg (by omega)]
    · intro k hk;simp only;rw[if_pos hk]
  refine ⟨_,hA,by simp[upd],?_⟩
  generalize hρ:({ρ with v:=upd ρ.v h.nv (.slice (some ⟨w.heap.size,0,none⟩) (a.A S ρ).length cap),nb:=fun k=>if k<h.na then ρ.nb k else ρ.nb k+1}:Et)=ρ' at hA
  have hv:ρ'.v h.nv=.slice (some ⟨w.heap.size,0,none⟩) (a.A S ρ).length cap:=by subst hρ;simp[upd]
  have hnb: ∀k,h.na≤k→ρ'.nb k=ρ.nb k+1:=by subst hρ;intro k hk;simp only;rw[if_neg (by omega)]
  have ha:=(T.clear_den (S:=S) hA ca).2.2
  unfold Gm at c1
  unfold Gh at c2
  rw[List.all_eq_true] at c1 c2
  have k1: ∀x∈h.rw,x.1.blk ρ' w0.heap.size=x.1.blk ρ w0.heap.size∧x.1.off ρ'=x.1.off ρ∧Av S ρ' w0.heap.size x.2.segs=Av S ρ w0.heap.size x.2.segs∧(Cm S ρ x.2.segs→Cm S ρ' x.2.segs):=by
    intro x hx
    have:=c1 x hx
    simp only[Bool.and_eq_true] at this
    exact ⟨(Cl.clear_den hA this.1).1,(Cl.clear_den hA (B:=w0.heap.size) this.1).2,(Dv hA this.2).1,(Dv (B:=w0.heap.size) hA this.2).2⟩
  have k2: ∀x∈h.ro,x.1.blk ρ' w0.heap.size=x.1.blk ρ w0.heap.size∧x.1.off ρ'=x.1.off ρ∧x.2.2.A S ρ'=x.2.2.A S ρ:=by
    intro x hx
    have:=c2 x hx
    simp only[Bool.and_eq_true] at this
    exact ⟨(Cl.clear_den hA this.1).1,(Cl.clear_den hA (B:=w0.heap.size) this.1).2,(T.clear_den hA this.2).2.2⟩
  have hd:=hh.drew
  have hlt: ∀x∈h.rw,x.1.blk ρ w0.heap.size<w.heap.size:=fun x hx=>(Array.getElem?_eq_some_iff.1 (hh.rw_ x hx)).1
  have hold: ∀(o:Obj) (i:Nat),i<w.heap.size→(w.drew.alloc o).heap[i]? =w.heap[i]? :=fun o i hi=>heap_alloc_old w.drew o hi
  refine ⟨?_,?_,?_,?_,?_,?_,?_,?_,?_,?_,?_,hd.os,hd.tape,hd.output⟩
  · intro x hx
    rw[(k1 x hx).1,(k1 x hx).2.2.1,hold _ _ (hlt x hx)];exact hh.rw_ x hx
  · intro x hx;exact (k1 x hx).2.2.2 (hh.wf x hx)
  · intro x hx;rw[(k1 x hx).2.1];exact hh.off x hx
  · show (h.rw.map _).Nodup
    rw[List.map_congr_left fun x hx=>(k1 x hx).1];exact hh.nd
  · intro x hx j v hv
    rw[(k2 x hx).1,(k2 x hx).2.1]
    rw[(k2 x hx).2.2] at hv
    have hc:=hh.ro x hx j v hv
    rw[World.cell?_alloc_lt w.drew _ _ (World.block_lt_of_cell? w _ hc)]
    exact hc
  · intro x hx y hy
    rw[(k2 x hx).1,(k1 y hy).1];exact hh.apart x hx y hy
  · intro x hx
    rw[(k2 x hx).1];exact hh.rolt x hx
  · simp only[World.size_alloc]
    rw[hnb h.na (Nat.le_refl _)]
    have:=hh.size
    show w.heap.size+1=_
    omega
  · intro k hk
    rw[hnb k hk,hnb (k+1) (Nat.le_succ_of_le hk),hh.nbs k hk]
  · intro i hi' hlo hne
    have:=hh.size
    rw[hold _ i (by omega)]
    refine hh.frame i hi' (by rw[hA.loose] at hlo;exact hlo) fun x hx e'=> ?_
    exact hne x hx (by rw[(k1 x hx).1];exact e')
  · intro o ho
    simp only[Option.some.injEq] at ho
    subst ho
    refine .inr ⟨w.heap.size,cap,by simp only[ha];exact hv,by simp only[ha];exact hcap,by simp only[ha];exact heap_alloc_new w.drew _,.inl (by have:=hh.size;omega),fun x hx=> ?_,fun x hx=> ?_⟩
    · have:=hlt x hx
      rw[(k1 x hx).1];omega
    · have:=hh.rolt x hx
      have:=hh.size
      rw[(k2 x hx).1];omega
theorem juf(hh:Cv S ρ w0 h w)(c1:Gm h.nv h.na h.rw=true)(c2:Gh h.nv h.na h.ro=true){k:IntKind}{e:Nat}{a:T}(ca:a.clear h.nv=true){cap b:Nat}(hcap:(a.A S ρ).length≤cap)
    {c0:Array Value}(hrow:w.heap[b]? =some (.cells c0 e (0,0)))(hb:w0.heap.size≤b∨b∈ρ.loose)(hne: ∀x∈h.rw,x.1.blk ρ w0.heap.size≠b)(hnr: ∀x∈h.ro,x.1.blk ρ w0.heap.size≠b):
    ∃ρ',Cg h.nv h.na ρ ρ'∧ρ'.v h.nv=.slice (some ⟨b,0,none⟩) (a.A S ρ).length cap∧
      Cv S ρ' w0 {h with ow:=some ⟨h.nv,e,k,a⟩,nv:=h.nv+1} (w.setRow b ((a.A S ρ).map (Value.int k)++List.replicate (cap-(a.A S ρ).length) (Value.int k 0)).toArray):=by
  have hA:Cg h.nv h.na ρ {ρ with v:=upd ρ.v h.nv (.slice (some ⟨b,0,none⟩) (a.A S ρ).length cap)}:=by
    refine ⟨fun _ _=>rfl,fun _ _=>rfl,fun _ _=>rfl,?_,fun _ _=>rfl,fun _ _=>rfl,fun _ _=>rfl,fun _ _=>rfl,fun _ _=>rfl,rfl⟩
    intro k hk;simp only[upd];rw[if_neg (by omega)]
  refine ⟨_,hA,by simp[upd],?_⟩
  generalize hρ:({ρ with v:=upd ρ.v h.nv (.slice (some ⟨b,0,none⟩) (a.A S ρ).length cap)}:Et)=ρ' at hA
  have hv:ρ'.v h.nv=.slice (some ⟨b,0,none⟩) (a.A S ρ).length cap:=by subst hρ;simp[upd]
  have hnb:ρ'.nb=ρ.nb:=by subst hρ;rfl
  have ha:=(T.clear_den (S:=S) hA ca).2.2
  unfold Gm at c1
  unfold Gh at c2
  rw[List.all_eq_true] at c1 c2
  have k1: ∀x∈h.rw,x.1.blk ρ' w0.heap.size=x.1.blk ρ w0.heap.size∧x.1.off ρ'=x.1.off ρ∧Av S ρ' w0.heap.size x.2.segs=Av S ρ w0.heap.size x.2.segs∧(Cm S ρ x.2.segs→Cm S ρ' x.2.segs):=by
    intro x hx
    have:=c1 x hx
    simp only[Bool.and_eq_true] at this
    exact ⟨(Cl.clear_den hA this.1).1,(Cl.clear_den hA (B:=w0.heap.size) this.1).2,(Dv hA this.2).1,(Dv (B:=w0.heap.size) hA this.2).2⟩
  have k2: ∀x∈h.ro,x.1.blk ρ' w0.heap.size=x.1.blk ρ w0.heap.size∧x.1.off ρ'=x.1.off ρ∧x.2.2.A S ρ'=x.2.2.A S ρ:=by
    intro x hx
    have:=c2 x hx
    simp only[Bool.and_eq_true] at this
    exact ⟨(Cl.clear_den hA this.1).1,(Cl.clear_den hA (B:=w0.heap.size) this.1).2,(T.clear_den hA this.2).2.2⟩
  refine ⟨?_,?_,?_,?_,?_,?_,?_,?_,?_,?_,?_,hh.os,hh.tape,hh.output⟩
  · intro x hx
    rw[(k1 x hx).1,(k1 x hx).2.2.1,setRow_other w _ _ _ (hne x hx)];exact hh.rw_ x hx
  · intro x hx;exact (k1 x hx).2.2.2 (hh.wf x hx)
  · intro x hx;rw[(k1 x hx).2.1];exact hh.off x hx
  · show (h.rw.map _).Nodup
    rw[List.map_congr_left fun x hx=>(k1 x hx).1];exact hh.nd
  · intro x hx j v hv
    rw[(k2 x hx).1,(k2 x hx).2.1]
    rw[(k2 x hx).2.2] at hv
    have hc:=hh.ro x hx j v hv
    rw[World.cell?_of_block (w:=w) (setRow_other w _ _ _ (hnr x hx))]
    exact hc
  · intro x hx y hy
    rw[(k2 x hx).1,(k1 y hy).1];exact hh.apart x hx y hy
  · intro x hx
    rw[(k2 x hx).1];exact hh.rolt x hx
  · rw[hnb]
    have:=hh.size
    simpa using this
  · rw[hnb];exact hh.nbs
  · intro i hi' hlo hne'
    have hib:i≠b:=by
      rintro rfl
      rcases hb with hb|hb
      · omega
      · exact hlo (by rw[hA.loose];exact hb)
    rw[setRow_other w _ _ _ hib]
    refine hh.frame i hi' (by rw[hA.loose] at hlo;exact hlo) fun x hx e'=> ?_
    exact hne' x hx (by rw[(k1 x hx).1];exact e')
  · intro o ho
    simp only[Option.some.injEq] at ho
    subst ho
    refine .inr ⟨b,cap,by simp only[ha];exact hv,by simp only[ha];exact hcap,by simp only[ha];exact setRow_heap w _ _ _ _ _ hrow,by rw[hA.loose];exact hb,fun x hx=> ?_,fun x hx=> ?_⟩
    · rw[(k1 x hx).1];exact hne x hx
    · rw[(k2 x hx).1];exact hnr x hx
theorem joc{a b:T}{ns:Nat}(ha:a.clear ns=true)(hb:b.clear ns=true):(Xf a b).clear ns=true:=by
  rw[T.clear_eq] at ha hb⊢
  unfold Xf
  split
  · rfl
  · exact hb
  · exact ha
  · simp[T.clearI,ha,hb]
set_option maxHeartbeats 1000000 in
theorem jpm(hh:Cv S ρ w0 h w){t u ty:TypeId}{x y:Aw}{r:Wv}(hb:jl4 P t u x y h=some r)(hm:Dx S ρ r.need):
    ∃ρ' w',Cg r.ns r.na ρ ρ'∧Dx S ρ' r.facts∧r.val.wf S ρ'∧(Builtin.append_ #[t,u] ty #[x.den S ρ w0.heap.size,y.den S ρ w0.heap.size]).run P w=.ok (r.val.den S ρ' w0.heap.size) w'∧Cv S ρ' w0 r.heap w':=by
  unfold jl4 at hb
  split at hb
  · rename_i e o q r2 s2 d2 ln2 c2 hu how
    split at hb
    · rename_i htu
      obtain ⟨rfl,hoq,hoe⟩:=htu
      split at hb
      · rename_i i k c g hi hzs hrd
        split at hb
        · rename_i hc
          obtain ⟨hk,hsz,hby,c1,c2',ca,cg⟩:=hc
          simp only[Option.some.injEq] at hb
          subst hb
          obtain ⟨m1,m2⟩:=Co.1 hm
          have b1:=(Ag.1 m2).1
          have b2:=(Ag.1 (Ag.1 m2).2).1
          simp only[T.B,T.I] at b1 b2
          have b1:=of_decide_eq_true b1
          have b2:=of_decide_eq_true b2
          obtain ⟨r',s',d',ln',cp',heq,g1,g3⟩:=jgr hh hrd m1
          injection heq with e1 e2 e3 e4 e5
          subst e1 e2 e3 e4 e5
          obtain ⟨i',zv,q1,q2,q3,_⟩:=Kj (S:=S) (ρ:=ρ) (B:=w0.heap.size) hzs
          rw[hi] at q1
          cases q1
          have hz:zv.cells.toList=[Value.int o.k 0]:=by
            rw[←q3,←hk];simp[Au,Cj,Cp.den,Aw.den,T.I]
          have hzsize:zv.cells.size=1:=by rw[←Array.length_toList,hz];rfl
          have hzero: ∀n,(Builtin.zeroCells zv.cells n)=(List.replicate n (Value.int o.k 0)).toArray:=by
            intro n
            apply Array.ext'
            rw[Vr zv.cells (by omega),hz]
            clear g3 b2 hm m1 m2
            induction n with
            | zero=>rfl
            | succ n ih=>rw[List.replicate_succ,List.flatten_cons,ih];rfl
          have hA:=jt9 (S:=S) (ρ:=ρ) o.a g
          have hlen:((Xf o.a g).A S ρ).length=(o.a.A S ρ).length+(ln2.I S ρ).toNat:=by rw[hA,List.length_append,g1]
          have hclr:=joc ca cg
          have hbb: ∀n:Nat,n≤1099511627776→n*i.bytes≤8796093022208:=fun n hn=>by
            have:=Nat.mul_le_mul hn hby
            omega
          rcases hh.own o how with ⟨v1,v2⟩|⟨p,cap,v1,v2,v3,v4,v5,v6⟩
          · have hr:=run_append_nil (P:=P) w t ty e i zv hu hi q2 (Cw S ρ w0.heap.size r2 s2 d2) (ln2.I S ρ).toNat (c2.I S ρ).toNat ((g.A S ρ).map (Value.int o.k)) (by rw[List.length_map,g1,hsz];omega) g3 (by omega) (by omega) (by have:=hbb (ln2.I S ρ).toNat (by omega);omega)
            have hL:((Xf o.a g).A S ρ).length=(ln2.I S ρ).toNat:=by rw[hlen,v2];simp
            obtain ⟨ρ',a1,a2,a3⟩:=jmx hh c1 c2' (k:=o.k) (e:=e) hclr (cap:=grownCap w (ln2.I S ρ).toNat 0 e) (by rw[hL];exact grownCap_ge _ _ _ _)
            refine ⟨ρ',_,a1,Dx.nil,trivial,?_,a3⟩
            simp only[Aw.den]
            rw[←hoq,v1,hr]
            simp only[SR.den,SV.den,Aw.den,a2,hL,hzero,hA,v2,List.nil_append]
            simp[g1]
            congr 2
            apply Array.ext'
            simp
          · by_cases hroom:(o.a.A S ρ).length+(ln2.I S ρ).toNat≤cap
            · rw[hoe] at v3
              have hr:=run_append_room (P:=P) w t ty e i hu hi p (o.a.A S ρ).length cap _ v3 (Cw S ρ w0.heap.size r2 s2 d2) (ln2.I S ρ).toNat (c2.I S ρ).toNat ((g.A S ρ).map (Value.int o.k)) (by rw[List.length_map,g1,hsz];omega) g3 (jfp _ _) hroom
                (by rw[hsz];simp[g1];omega)
              obtain ⟨ρ',a1,a2,a3⟩:=juf hh c1 c2' (k:=o.k) (e:=e) hclr (cap:=cap) (b:=p) (by rw[hlen];exact hroom) v3 v4 v5 v6
              refine ⟨ρ',_,a1,Dx.nil,trivial,?_,a3⟩
              simp only[Aw.den]
              rw[←hoq,v1,hr]
              have ec:(List.take ((o.a.A S ρ).length*i.size) ((o.a.A S ρ).map (Value.int o.k)++List.replicate (cap-(o.a.A S ρ).length) (Value.int o.k 0)).toArray.toList++(g.A S ρ).map (Value.int o.k)++
                    List.drop ((o.a.A S ρ).length*i.size+((g.A S ρ).map (Value.int o.k)).length) ((o.a.A S ρ).map (Value.int o.k)++List.replicate (cap-(o.a.A S ρ).length) (Value.int o.k 0)).toArray.toList)
                  =(((Xf o.a g).A S ρ).map (Value.int o.k)++List.replicate (cap-((Xf o.a g).A S ρ).length) (Value.int o.k 0)):=by
                rw[hsz,Nat.mul_one,hlen,hA,List.map_append]
                simp only[List.length_map,g1]
                rw[List.take_append_of_le_length (by simp),List.take_of_length_le (by simp),List.drop_append,List.drop_eq_nil_of_le (by simp),List.nil_append,List.drop_replicate,List.length_map]
                congr 2
                omega
              rw[ec]
              simp only[SR.den,SV.den,Aw.den,a2,hlen]
            · have holds: ∀j v,((o.a.A S ρ).map (Value.int o.k))[j]? =some v→w.cell? ((⟨p,0,none⟩:Addr).add j)=some v:=by
                intro j v hj
                rw[Ho,cell_of_row w _ _ _ _ _ v3,List.getElem?_toArray,Nat.zero_add]
                rw[List.getElem?_append_left (List.getElem?_eq_some_iff.1 hj).1];exact hj
              have hr:=run_append_grow (P:=P) w t ty e i zv hu hi q2 ⟨p,0,none⟩ (o.a.A S ρ).length cap ((o.a.A S ρ).map (Value.int o.k)) (by rw[List.length_map,hsz];omega) holds (Cw S ρ w0.heap.size r2 s2 d2) (ln2.I S ρ).toNat (c2.I S ρ).toNat ((g.A S ρ).map (Value.int o.k)) (by rw[List.length_map,g1,hsz];omega) g3 (by omega) (by omega)
                (growslice_fits (by omega) (by have:=hbb ((o.a.A S ρ).length+(ln2.I S ρ).toNat) (by omega);omega))
              obtain ⟨ρ',a1,a2,a3⟩:=jmx hh c1 c2' (k:=o.k) (e:=e) hclr (cap:=grownCap w ((o.a.A S ρ).length+(ln2.I S ρ).toNat) cap e) (by rw[hlen];exact grownCap_ge _ _ _ _)
              refine ⟨ρ',_,a1,Dx.nil,trivial,?_,a3⟩
              simp only[Aw.den]
              rw[←hoq,v1,hr]
              simp only[SR.den,SV.den,Aw.den,a2,hlen,hzero,hA,List.map_append]
              simp[g1]
              congr 2
              apply Array.ext'
              simp
        · cases hb
      · cases hb
    · cases hb
  · cases hb
theorem Vi{rsp:Nat→Option Ff}(hr: ∀f s,rsp f=some s→Dw P S f s){fr:Nat→SR}{o:Oper}{r:Wv}{a:Act}(hs:Ti P rsp fr h o=some r)(hm:Dx S ρ r.need)
    (hf: ∀t,(fr t).wf S ρ)(ha:Pq S ρ w0.heap.size fr a o.op.operands)(hh:Cv S ρ w0 h w):qgq P S ρ w0 a w o r:=by
  obtain ⟨dst,op,type,pos,after,guard⟩:=o
  unfold Ti at hs
  split at hs
  · rename_i c hop
    simp only at hop
    subst hop
    split at hs
    · rename_i hc
      split at hs
      · rename_i x y t u hargs htys
        have hax:c.args= #[x,y]:=Array.ext' hargs
        have hat:c.argTypes= #[t,u]:=Array.ext' htys
        have hmx:x∈(Op.call c).operands:=by simp[Op.operands,Call.operands,hc,hax]
        have hmy:y∈(Op.call c).operands:=by simp[Op.operands,Call.operands,hc,hax]
        split at hs
        · rename_i p q hx hy
          have hap: ∃ρ' w',Cg r.ns r.na ρ ρ'∧Dx S ρ' r.facts∧r.val.wf S ρ'∧(Builtin.append_ #[t,u] type #[p.den S ρ w0.heap.size,q.den S ρ w0.heap.size]).run P w=.ok (r.val.den S ρ' w0.heap.size) w'∧Cv S ρ' w0 r.heap w':=by
            cases hcs:jdn P t u p q h with
            | some r'=>simp only[hcs,Option.some.injEq] at hs;subst hs;exact jux hh hcs hm
            | none=>simp only[hcs] at hs;exact jpm hh hs hm
          obtain ⟨ρ',w',a1,a2,a3,a4,a5⟩:=hap
          intro K Q hK
          have hrun:(execOp a.eval {dst:=dst,op:=.call c,type:=type,pos:=pos,after:=after,guard:=guard}).run P w=.ok (.value (r.val.den S ρ' w0.heap.size)) w':=by
            simp[execOp,resolve,hc,hax,hat,Dp ha hmx hx,Dp ha hmy hy,invoke,builtin,a4]
          unfold Oper.wp
          rw[hrun]
          exact hK ρ' w' a1 a2 a3 a5
        · cases hs
      · cases hs
    · split at hs
      · rename_i f args hcall
        split at hs
        · rename_i s hspec
          obtain ⟨h1,h2⟩:=jgj (w:=w) (t:=type) hf ha hcall
          have h3:=hr f s hspec ρ w0 w h args r hs hm h2 hh
          intro K Q hK
          unfold Oper.wp
          simp only[execOp]
          rw[h1,Oper.upon_enter]
          refine h3.mono fun e w' ⟨ρ',b1,b2,b3,b4,b5⟩=> ?_
          subst b4
          exact hK ρ' w' b1 b2 b3 b5
        · cases hs
      · cases hs
  · cases hs
end
theorem Ql{D:Nat→Bool}: ∀(l:List (Option Tmp×Value)) (k:Nat) (m:List (Option Tmp×Value)) (cur cur':List Value),l.length=m.length→(∀j,D (k+j)=true→l[j]? =m[j]?)→cur=cur'→Cd D k l cur=Cd D k m cur'
  | [],_,[],_,_,_,_,h=>h
  | x::l,k,y::m,cur,cur',hl,h,hc=>by
    unfold Cd
    apply Ql l (k+1) m _ _ (by simpa using hl)
    · intro j hj
      have:=h (j+1) (by rw[show k+(j+1)=k+1+j from by omega];exact hj)
      simpa using this
    · cases hD:D k with
      | true=>
        have:=h 0 (by simpa using hD)
        simp at this
        subst this hc;rfl
      | false=>simp[hc]
  | [],_,_::_,_,_,h,_,_=>by simp at h
  | _::_,_,[],_,_,h,_,_=>by simp at h
section
variable {S:Hw} {ρ:Et} {w0:World} {P:Program} {specs:Nat→Option Ec}
theorem Xm{G:Et→Prop}{h0:Hp}{es:List Fs}{init:List Value}{hl:Hp}(hst:Dr (es.map (·.o))=true)(hchain:Je h0 es hl)
    {i:Nat}{e:Fs}(hei:es[i]? =some e)
    (ffr:e.fr.map (SR.den S ρ w0.heap.size)=Cd (fun j=>decide (j<i)) 0 (Bj S ρ w0.heap.size es) init)
    (fwant:Region.wanted e.o (yielded (es.map (·.o)).toArray (Cd (fun j=>decide (j<i)) 0 (Bj S ρ w0.heap.size es) init).toArray)=true)(hne:Eb e=true)
    {listed:Array Bool}{a:Act}{w:World}(he: ∀j∈Bh 0 es,j<i→((Ex (es.map (·.o))).getD i 0).testBit j=true∨listed.getD j false=true)(hm:Mid S ρ w0 h0 es init listed a w)(hi:i∈Region.ready .any (es.map (·.o)).toArray listed){K:Act→World→Prop}{Q:Exit→Act→World→Prop}
    (hsame: ∀ρ',G ρ'→ ∀j,listed.getD j false=true→(Bj S ρ' w0.heap.size es)[j]? =(Bj S ρ w0.heap.size es)[j]?)
    (hX: ∀(K:Act→World→Prop) (Q:Exit→Act→World→Prop),Pq S ρ w0.heap.size (Do e.fr) a e.o.op.operands→Cv S ρ w0 e.heap w→(∀ρ' w',G ρ'→Cv S ρ' w0 e.r.heap w'→K (a.put e.o.dst (e.r.val.den S ρ' w0.heap.size)) w')→e.o.wp P a w K Q)
    (hK: ∀ρ' a' w',G ρ'→Mid S ρ' w0 h0 es init (listed.setIfInBounds i true) a' w'→K a' w'):wpOp P (es.map (·.o)).toArray Q i K a w:=by
  unfold Dr at hst
  simp only[Bool.and_eq_true] at hst
  obtain ⟨hb,ht⟩:=hst
  obtain ⟨r1,r2,r3⟩:=Fr hi
  have r1':i<es.length:=by simpa using r1
  have hil:i<listed.size:=by rw[hm.size];exact r1'
  rw[Jy _ _ hil] at r2
  have hoi:(es.map (·.o))[i]? =some e.o:=by simp[hei]
  have hoa:(es.map (·.o)).toArray[i]? =some e.o:=by simpa using hoi
  have hpre:=r3 e.o hoa
  have hmask:=Ds hb hm.closed i e.o hoi hpre
  have hlook: ∀d,d∈Qi (es.map (·.o)) e.o→(Cd (fun i=>listed.getD i false) 0 (Bj S ρ w0.heap.size es) init)[d]? =(Cd (fun j=>decide (j<i)) 0 (Bj S ρ w0.heap.size es) init)[d]? :=by
    intro d hd
    apply Ki _ _ _ _ rfl rfl
    intro j p hj hpd
    obtain ⟨e',hj',rfl⟩:=Jm hj
    simp only[Nat.zero_add] at hpd⊢
    have hoj:(es.map (·.o))[j]? =some e'.o:=by simp[hj']
    by_cases hij:j=i
    · subst hij
      simp[r2]
    · have hord:=Kr ht hoj hoi hpd hij (.inl hd)
      split at hord
      · rename_i hlt
        rw[hmask j hord];simp[hlt]
      · rename_i hlt
        have hnl:listed.getD j false=false:=by
          cases hl:listed.getD j false with
          | false=>rfl
          | true=>
            exfalso
            have:=Ds hb hm.closed j e'.o hoj (fun x h1 h2=>hm.closed j e'.o hoj hl x h1 h2) i hord
            rw[r2] at this;cases this
        rw[hnl];simp;omega
  have hsizes:(Cd (fun i=>listed.getD i false) 0 (Bj S ρ w0.heap.size es) init).length=(Cd (fun j=>decide (j<i)) 0 (Bj S ρ w0.heap.size es) init).length:=by
    rw[Lf,Lf]
  have hat: ∀d:Nat,a.tmps[d]? =(Cd (fun i=>listed.getD i false) 0 (Bj S ρ w0.heap.size es) init)[d]? :=fun d=>by rw[←hm.fr];simp
  have hwant:Region.wanted e.o (yielded (es.map (·.o)).toArray a.tmps)=true:=by
    rw[←fwant]
    apply Vs
    intro g b hg d hd
    rw[hat d,hlook d (by unfold Qi;rw[hg];simp only[List.mem_append];right;simp at hd⊢;exact hd)]
    simp
  have hnext: ∀(ρ':Et) (w':World) (t:Nat) (h:Hp),G ρ'→t≤(Bh 0 es).length→(∀k j,(Bh 0 es)[k]? =some j→((listed.setIfInBounds i true).getD j false=true↔k<t))→(Eo h0 es)[t]? =some h→Cv S ρ' w0 h w'→
      K (a.put e.o.dst (e.r.val.den S ρ' w0.heap.size)) w':=by
    intro ρ' w' t h hG g1 g2 g3 g4
    apply hK ρ' _ _ hG
    · refine ⟨by simpa using hm.size,?_,?_,?_,t,h,g1,g2,g3,g4⟩
      · intro j o hj hD x hx1 hx2
        simp only at hD⊢
        rw[Da _ _ _ hil] at hD⊢
        split at hD
        · rename_i hji
          subst hji
          rw[hoi] at hj;injection hj with hj;subst hj
          split
          · rfl
          · exact hpre x hx1 hx2
        · split
          · rfl
          · exact hm.closed j o hj hD x hx1 hx2
      · have hput:(a.put e.o.dst (e.r.val.den S ρ' w0.heap.size)).tmps.toList=Oh a.tmps.toList e.o.dst (e.r.val.den S ρ' w0.heap.size):=by
          unfold Act.put Oh
          cases e.o.dst<;>simp
        have hfr':a.tmps.toList=Cd (fun i=>listed.getD i false) 0 (Bj S ρ' w0.heap.size es) init:=by
          rw[hm.fr]
          refine Ql _ 0 _ _ _ (by simp[Bj]) (fun j hj=> ?_) rfl
          exact (hsame ρ' hG j (by simpa using hj)).symm
        rw[hput,hfr']
        symm
        refine Sk (j:=i) _ 0 init (e.o.dst,e.r.val.den S ρ' w0.heap.size) (Nat.zero_le _) (by simpa using Kq hei) r2 (by rw[Da _ _ _ hil];simp) (fun j hj=>by rw[Da _ _ _ hil,if_neg hj]) ?_
        intro j p s hj hlt hs1 hs2
        obtain ⟨e',hj',rfl⟩:=Jm hj
        simp only[Nat.zero_add] at hlt hs1 hs2⊢
        have hoj:(es.map (·.o))[j]? =some e'.o:=by simp[hj']
        have hord:=Kr ht hoj hoi hs2 (by omega) (.inr hs1)
        rw[if_neg (by omega)] at hord
        cases hl:listed.getD j false with
        | false=>rfl
        | true=>
          exfalso
          have:=Ds hb hm.closed j e'.o hoj (fun x h1 h2=>hm.closed j e'.o hoj hl x h1 h2) i hord
          rw[r2] at this;cases this
      · unfold Act.put
        cases e.o.dst<;>exact hm.defers
  obtain ⟨t,h,h1,h2,h3,h4⟩:=hm.heap
  have hch:=Gc 0 hchain
  unfold wpOp
  rw[hoa]
  simp only[hwant,if_true]
  left
  have hagree:Pq S ρ w0.heap.size (Do e.fr) a e.o.op.operands:=by
    intro x hxo
    have hd:x∈Qi (es.map (·.o)) e.o:=by
      unfold Qi
      rw[List.mem_append];left
      rw[List.mem_filterMap]
      exact ⟨.tmp x,by simpa using hxo,rfl⟩
    have:=hlook x hd
    rw[←hat x,←ffr] at this
    rw[Array.getD_eq_getD_getElem?,this]
    unfold Do
    rw[List.getElem?_map,List.getD_eq_getElem?_getD]
    cases e.fr[x]? <;>rfl
  obtain ⟨k,hk⟩: ∃k,(Bh 0 es)[k]? =some i:=by
    apply List.getElem?_of_mem
    rw[←Me,List.mem_filterMap]
    exact ⟨(e,i),List.mem_zipIdx_iff_getElem?.2 hei,by simp[hne]⟩
  obtain ⟨e',q1,q2,q3,q4,q5⟩:=hch.1 k i hk
  simp only[Nat.sub_zero] at q1
  rw[hei] at q1;injection q1 with q1;subst q1
  have hkt:k=t:=by
    have hnk: ¬k<t:=fun hlt=>by have:=(h2 k i hk).2 hlt;rw[r2] at this;cases this
    rcases Nat.lt_or_ge t k with hlt|hge
    · exfalso
      have hkl:k<(Bh 0 es).length:=(List.getElem?_eq_some_iff.1 hk).1
      have htl:t<(Bh 0 es).length:=by omega
      obtain ⟨j,hj⟩: ∃j,(Bh 0 es)[t]? =some j:=⟨_,List.getElem?_eq_getElem htl⟩
      have hji:j<i:=by
        have:List.Pairwise (· < ·) (Bh 0 es):=by
          unfold Bh
          apply List.Pairwise.filterMap (R:=fun a b=>a.2<b.2)
          · intro a b hab x hx y hy
            split at hx<;>simp at hx
            split at hy<;>simp at hy
            omega
          · rw[List.pairwise_iff_getElem]
            intro p q hp hq hpq
            simp;exact hpq
        rw[List.pairwise_iff_getElem] at this
        have:=this t k htl hkl hlt
        rw[List.getElem?_eq_getElem htl] at hj
        rw[List.getElem?_eq_getElem hkl] at hk
        injection hj with hj;injection hk with hk
        omega
      have:=(he j (List.mem_of_getElem? hj) hji).elim (hmask j) id
      have:=(h2 t j hj).1 this
      omega
    · omega
  subst hkt
  rw[h3] at q4;injection q4 with q4
  subst q4
  refine hX _ _ hagree h4 fun ρ' w' hG hw'=> ?_
  refine hnext ρ' w' (k+1) e.r.heap hG (by have:=(List.getElem?_eq_some_iff.1 hk).1;omega) (fun k' j hk'=> ?_) q5 hw'
  rw[Da _ _ _ hil]
  have hnd:(Bh 0 es)[k']? =some j→j=i→k'=k:=by
    intro hk' hji
    subst hji
    have hnk:k'<k∨k'=k∨k<k':=by omega
    rcases hnk with hlt|rfl|hlt
    · exfalso
      have:=(h2 k' j hk').2 hlt
      rw[r2] at this;cases this
    · rfl
    · exfalso
      have:List.Pairwise (· < ·) (Bh 0 es):=by
        unfold Bh
        apply List.Pairwise.filterMap (R:=fun a b=>a.2<b.2)
        · intro a b hab x hx y hy
          split at hx<;>simp at hx
          split at hy<;>simp at hy
          omega
        · rw[List.pairwise_iff_getElem]
          intro p q hp hq hpq
          simp;exact hpq
      rw[List.pairwise_iff_getElem] at this
      have k1:=(List.getElem?_eq_some_iff.1 hk)
      have k2:=(List.getElem?_eq_some_iff.1 hk')
      have:=this k k' k1.1 k2.1 hlt
      omega
  split
  · rename_i hji
    have:=hnd hk' hji
    simp;omega
  · rename_i hji
    rw[h2 k' j hk']
    constructor
    · intro h;omega
    · intro h
      rcases Nat.lt_or_ge k' k with hlt|hge
      · exact hlt
      · exfalso
        have:k'=k:=by omega
        subst this
        rw[hk] at hk';injection hk' with hk';exact hji hk'.symm
theorem jus{G:Et→Prop}{h0:Hp}{es:List Fs}{init:List Value}{hl:Hp}(hst:Dr (es.map (·.o))=true)(hok:Rh P specs h0 es=true)(hchain:Je h0 es hl)
    {i:Nat}{e:Fs}(hei:es[i]? =some e)
    (ffr:e.fr.map (SR.den S ρ w0.heap.size)=Cd (fun j=>decide (j<i)) 0 (Bj S ρ w0.heap.size es) init)
    (fwant:Region.wanted e.o (yielded (es.map (·.o)).toArray (Cd (fun j=>decide (j<i)) 0 (Bj S ρ w0.heap.size es) init).toArray)=true)(hne:Eb e=true)
    {listed:Array Bool}{a:Act}{w:World}(hm:Mid S ρ w0 h0 es init listed a w)(hi:i∈Region.ready .any (es.map (·.o)).toArray listed){K:Act→World→Prop}{Q:Exit→Act→World→Prop}
    (hsame: ∀ρ',G ρ'→ ∀j,listed.getD j false=true→(Bj S ρ' w0.heap.size es)[j]? =(Bj S ρ w0.heap.size es)[j]?)
    (hX: ∀(K:Act→World→Prop) (Q:Exit→Act→World→Prop),Pq S ρ w0.heap.size (Do e.fr) a e.o.op.operands→Cv S ρ w0 e.heap w→(∀ρ' w',G ρ'→Cv S ρ' w0 e.r.heap w'→K (a.put e.o.dst (e.r.val.den S ρ' w0.heap.size)) w')→e.o.wp P a w K Q)
    (hK: ∀ρ' a' w',G ρ'→Mid S ρ' w0 h0 es init (listed.setIfInBounds i true) a' w'→K a' w'):wpOp P (es.map (·.o)).toArray Q i K a w:=by
  unfold Rh at hok
  simp only[Bool.or_eq_true,Bool.and_eq_true,List.isEmpty_iff] at hok
  rw[Me] at hok
  refine Xm hst hchain hei ffr fwant hne (fun j hj hji=>.inl ?_) hm hi hsame hX hK
  have hmem:i∈Bh 0 es:=by
    rw[←Me,List.mem_filterMap]
    exact ⟨(e,i),List.mem_zipIdx_iff_getElem?.2 hei,by simp[hne]⟩
  rcases hok with h|h
  · rw[h] at hj;cases hj
  · have he:=List.all_eq_true.1 (List.all_eq_true.1 h.1 j hj) i hmem
    simpa [hji] using he
end
section
variable {S:Hw} {ρ:Et} {w0:World} {P:Program} {specs:Nat→Option Ec}
theorem Ld{h0:Hp}{es:List Fs}{init:List Value}{hl:Hp}(hb:Jc (es.map (·.o))=true)(hchain:Je h0 es hl){listed:Array Bool}{a:Act}{w:World}(hm:Mid S ρ w0 h0 es init listed a w)
    (hr:Region.ready .any (es.map (·.o)).toArray listed=[]):a.tmps.toList=Cd (fun _=>true) 0 (Bj S ρ w0.heap.size es) init∧Cv S ρ w0 hl w∧ ∀i,i<es.length→listed.getD i false=true:=by
  have hall:=Yt (ops:=es.map (·.o)) (by simpa using hm.size) hb hr
  obtain ⟨t,h,h1,h2,h3,h4⟩:=hm.heap
  refine ⟨?_,?_,by simpa using hall⟩
  · rw[hm.fr]
    apply List.ext_getElem?
    intro s
    apply Ki _ _ _ _ rfl rfl
    intro i e hi _
    obtain ⟨e',hi',_⟩:=Jm hi
    simp only[Nat.zero_add]
    exact hall i (by simpa using (List.getElem?_eq_some_iff.1 hi').1)
  · have htl:t=(Bh 0 es).length:=by
      rcases Nat.lt_or_ge t (Bh 0 es).length with hlt|hge
      · have hi:=h2 t _ (List.getElem?_eq_getElem hlt)
        obtain ⟨e',q1,_⟩:=(Gc 0 hchain).1 t _ (List.getElem?_eq_getElem hlt)
        have:=hi.1 (hall _ (by simpa using (List.getElem?_eq_some_iff.1 q1).1))
        omega
      · omega
    have:=(Gc 0 hchain).2.1
    rw[←htl,h3] at this
    injection this with this
    rw[←this];exact h4
theorem Kn{n i:Nat}{listed:Array Bool}(hil:i<listed.size)(hin:i<n)(r2:listed.getD i false=false):
    ((List.range n).filter fun j=> !(listed.setIfInBounds i true).getD j false).length<((List.range n).filter fun j=> !listed.getD j false).length:=by
  have e1:((List.range n).filter fun j=> !(listed.setIfInBounds i true).getD j false)=((List.range n).filter fun j=> !listed.getD j false).filter fun j=>j !=i:=by
    rw[List.filter_filter]
    apply List.filter_congr
    intro j _
    rw[Da _ _ _ hil]
    by_cases hji:j=i
    · subst hji;simp
    · simp[hji]
  rw[e1]
  have hmem:i∈(List.range n).filter fun j=> !listed.getD j false:=by
    rw[List.mem_filter];exact ⟨List.mem_range.2 hin,by rw[r2];rfl⟩
  exact List.length_filter_lt_length_iff_exists.2 ⟨i,hmem,by simp⟩
theorem Pi{es:List Fs}{listed:Array Bool}(hs:listed.size=es.length)(hf:((List.range es.length).filter fun i=> !listed.getD i false).length≤0):Region.ready .any (es.map (·.o)).toArray listed=[]:=by
  rw[List.eq_nil_iff_forall_not_mem]
  intro i hi
  obtain ⟨r1,r2,_⟩:=Fr hi
  have r1:i<es.length:=by simpa using r1
  rw[Jy _ _ (by rw[hs];exact r1)] at r2
  have:i∈(List.range es.length).filter fun i=> !listed.getD i false:=by
    rw[List.mem_filter];exact ⟨List.mem_range.2 r1,by rw[r2];rfl⟩
  have:=List.length_pos_of_mem this
  omega
structure jb0(P:Program)(specs:Nat→Option Ec)(S:Hw)(ρ:Et)(B:Nat)(es:List Fs)(init:List Value)(j:Nat)(e:Fs):Prop where
  fr:e.fr.map (SR.den S ρ B)=Cd (fun i=>decide (i<j)) 0 (Bj S ρ B es) init
  want:Region.wanted e.o (yielded (es.map (·.o)).toArray (Cd (fun i=>decide (i<j)) 0 (Bj S ρ B es) init).toArray)=e.want
  st:e.want=true→Gx P specs (Do e.fr) e.heap e.o=some e.r∧Dx S ρ e.r.need∧ ∀x∈e.fr,x.wf S ρ
  no:e.want=false→e.r.val=.v (.one .undef)∧e.r.need=[]
theorem j2c(hsp: ∀f s,specs f=some s→Ei P S f s){h0:Hp}{es:List Fs}{init:List Value}{hl:Hp}{k:Nat}(hst:Dr (es.map (·.o))=true)(hok:Rh P specs h0 es=true)(hchain:Je h0 es hl)
    (hneed:Dx S ρ (es.flatMap (·.r.need)))(htold: ∀j e,es[j]? =some e→j≠k→jb0 P specs S ρ w0.heap.size es init j e)
    {Q:Exit→Act→World→Prop}(hQ: ∀a w,a.tmps.toList=Cd (fun _=>true) 0 (Bj S ρ w0.heap.size es) init→a.defers=[]→Cv S ρ w0 hl w→Q .normal a w):
    ∀(fuel:Nat) (listed:Array Bool) (a:Act) (w:World),Mid S ρ w0 h0 es init listed a w→listed.getD k false=true→((List.range es.length).filter fun i=> !listed.getD i false).length≤fuel→
      wpAny P .any (es.map (·.o)).toArray Q fuel listed a w:=by
  have hb:Jc (es.map (·.o))=true:=by
    unfold Dr at hst;simp only[Bool.and_eq_true] at hst;exact hst.1
  intro fuel
  induction fuel with
  | zero=>
    intro listed a w hm hk hf
    have hr:=Pi hm.size hf
    obtain ⟨q1,q2,_⟩:=Ld hb hchain hm hr
    exact ⟨hr,hQ a w q1 hm.defers q2⟩
  | succ fuel ih=>
    intro listed a w hm hk hf
    refine ⟨fun hr=> ?_,fun i hi=> ?_⟩
    · obtain ⟨q1,q2,_⟩:=Ld hb hchain hm hr
      exact hQ a w q1 hm.defers q2
    obtain ⟨r1,r2,_⟩:=Fr hi
    have r1':i<es.length:=by simpa using r1
    have hil:i<listed.size:=by rw[hm.size];exact r1'
    rw[Jy _ _ hil] at r2
    obtain ⟨e,hei⟩: ∃e,es[i]? =some e:=⟨_,List.getElem?_eq_getElem r1'⟩
    have hik:i≠k:=fun h=>by subst h;rw[r2] at hk;cases hk
    have ht:=htold i e hei hik
    refine jeg hsp hst hok hchain hneed hei ht.fr ht.want ht.st ht.no hm hi fun a' w' hm'=>ih _ _ _ hm' ?_ ?_
    · rw[Da _ _ _ hil];split
      · rfl
      · exact hk
    · have:=Kn hil r1' r2
      omega
theorem j3o(hsp: ∀f s,specs f=some s→Ei P S f s){rsp:Nat→Option Ff}(hrsp: ∀f s,rsp f=some s→Dw P S f s){h0:Hp}{es:List Fs}{init:List Value}{hl:Hp}{k:Nat}{x:Fs}{rr:Wv}
    (hst:Dr (es.map (·.o))=true)(hok:Rh P specs h0 es=true)(hchain:Je h0 es hl)(hneed:Dx S ρ (es.flatMap (·.r.need)))(hk:es[k]? =some x)
    (hx:Ti P rsp (Do x.fr) x.heap x.o=some rr)(hxr:x.r=⟨rr.need,rr.val,rr.heap⟩)(hxe:Eb x=true)(hxn:Dx S ρ rr.need)
    (hxf:x.fr.map (SR.den S ρ w0.heap.size)=Cd (fun i=>decide (i<k)) 0 (Bj S ρ w0.heap.size es) init)(hxwf: ∀y∈x.fr,y.wf S ρ)
    (hxw:Region.wanted x.o (yielded (es.map (·.o)).toArray (Cd (fun i=>decide (i<k)) 0 (Bj S ρ w0.heap.size es) init).toArray)=true)
    (htold: ∀j e,es[j]? =some e→j<k→jb0 P specs S ρ w0.heap.size es init j e)
    (hwait: ∀j,k<j→j<es.length→((Ex (es.map (·.o))).getD j 0).testBit k=true)
    (hclr: ∀j e,es[j]? =some e→j<k→e.r.val.clear rr.ns rr.na=true)
    (hB: ∀ρ',Cg rr.ns rr.na ρ ρ'→Dx S ρ' rr.facts→rr.val.wf S ρ'→(∃w',Cv S ρ' w0 rr.heap w')→Dx S ρ' (es.flatMap (·.r.need))∧ ∀j e,es[j]? =some e→j≠k→jb0 P specs S ρ' w0.heap.size es init j e)
    {Q:Exit→Act→World→Prop}(hQ: ∀ρ' a w,Cg rr.ns rr.na ρ ρ'→Dx S ρ' rr.facts→rr.val.wf S ρ'→(∃w',Cv S ρ' w0 rr.heap w')→a.tmps.toList=Cd (fun _=>true) 0 (Bj S ρ' w0.heap.size es) init→a.defers=[]→Cv S ρ' w0 hl w→Q .normal a w):
    ∀(fuel:Nat) (listed:Array Bool) (a:Act) (w:World),Mid S ρ w0 h0 es init listed a w→listed.getD k false=false→((List.range es.length).filter fun i=> !listed.getD i false).length≤fuel→
      wpAny P .any (es.map (·.o)).toArray Q fuel listed a w:=by
  have hb:Jc (es.map (·.o))=true:=by
    unfold Dr at hst;simp only[Bool.and_eq_true] at hst;exact hst.1
  have hkl:k<es.length:=(List.getElem?_eq_some_iff.1 hk).1
  intro fuel
  induction fuel with
  | zero=>
    intro listed a w hm hkn hf
    have hr:=Pi hm.size hf
    obtain ⟨_,_,q3⟩:=Ld hb hchain hm hr
    rw[q3 k hkl] at hkn;cases hkn
  | succ fuel ih=>
    intro listed a w hm hkn hf
    refine ⟨fun hr=> ?_,fun i hi=> ?_⟩
    · obtain ⟨_,_,q3⟩:=Ld hb hchain hm hr
      rw[q3 k hkl] at hkn;cases hkn
    obtain ⟨r1,r2,r3⟩:=Fr hi
    have r1':i<es.length:=by simpa using r1
    have hil:i<listed.size:=by rw[hm.size];exact r1'
    rw[Jy _ _ hil] at r2
    obtain ⟨e,hei⟩: ∃e,es[i]? =some e:=⟨_,List.getElem?_eq_getElem r1'⟩
    have hoi:(es.map (·.o))[i]? =some e.o:=by simp[hei]
    have hoa:(es.map (·.o)).toArray[i]? =some e.o:=by simpa using hoi
    have hmask:=Ds hb hm.closed i e.o hoi (r3 e.o hoa)
    have hlisted: ∀j,listed.getD j false=true→j<k:=by
      intro j hj
      have hjl:j<es.length:=by
        rcases Nat.lt_or_ge j listed.size with h|h
        · rw[hm.size] at h;exact h
        · rw[Array.getD_eq_getD_getElem?,Array.getElem?_eq_none h] at hj;cases hj
      rcases Nat.lt_trichotomy j k with h|h|h
      · exact h
      · rw[h,hkn] at hj;cases hj
      · exfalso
        have hoj:(es.map (·.o))[j]? =some es[j].o:=by simp[hjl]
        have:=Ds hb hm.closed j es[j].o hoj (fun x h1 h2=>hm.closed j es[j].o hoj hj x h1 h2) k (hwait j h hjl)
        rw[hkn] at this;cases this
    by_cases hik:i=k
    · subst hik
      rw[hk] at hei
      injection hei with hei
      subst hei
      refine jus (G:=fun ρ'=>Cg rr.ns rr.na ρ ρ'∧Dx S ρ' rr.facts∧rr.val.wf S ρ'∧ ∃w',Cv S ρ' w0 rr.heap w') hst hok hchain hk hxf hxw hxe hm hi ?_ ?_ ?_
      · intro ρ' hG j hj
        have hjk:=hlisted j hj
        have hjl:j<es.length:=by omega
        have hej:es[j]? =some es[j]:=List.getElem?_eq_getElem hjl
        rw[Kq hej,Kq hej,(SR.clear_den hG.1 (hclr j _ hej hjk)).1]
      · intro K Q' hag hh hK
        have:=Vi hrsp hx hxn (Gs hxwf) hag hh
        refine this K Q' fun ρ' w' b1 b2 b3 b4=> ?_
        have h5:=hK ρ' w' ⟨b1,b2,b3,w',b4⟩ (by rw[hxr];exact b4)
        rw[hxr] at h5;exact h5
      · intro ρ' a' w' hG hm'
        obtain ⟨hn',ht'⟩:=hB ρ' hG.1 hG.2.1 hG.2.2.1 hG.2.2.2
        refine j2c hsp hst hok hchain hn' ht' (fun a w=>hQ ρ' a w hG.1 hG.2.1 hG.2.2.1 hG.2.2.2) fuel _ a' w' hm' ?_ ?_
        · rw[Da _ _ _ hil];simp
        · have:=Kn hil r1' r2
          omega
    · have hlt:i<k:=by
        rcases Nat.lt_or_ge i k with h|h
        · exact h
        · exfalso
          have:=hmask k (hwait i (by omega) r1')
          rw[hkn] at this;cases this
      have ht:=htold i e hei hlt
      refine jeg hsp hst hok hchain hneed hei ht.fr ht.want ht.st ht.no hm hi fun a' w' hm'=>ih _ _ _ hm' ?_ ?_
      · rw[Da _ _ _ hil,if_neg (fun h=>hik h.symm)];exact hkn
      · have:=Kn hil r1' r2
        omega
end
def Et.nbs(ρ:Et)(f:Nat→Nat):Et:={ρ with nb:=f}
section
variable {S:Hw} {ρ:Et} {f g:Nat→Nat} {B:Nat}
theorem T.nbs(t:T):t.I S (ρ.nbs f)=t.I S ρ∧t.B S (ρ.nbs f)=t.B S ρ∧t.A S (ρ.nbs f)=t.A S ρ:=by
  induction t<;>simp_all only[T.I,T.B,T.A,Et.nbs,and_self]
theorem j3x{l:List T}(h:Dx S ρ l):Dx S (ρ.nbs f) l:=fun t ht=>by rw[(T.nbs t).2.1];exact h t ht
theorem Cp.wf_nbs{x:Cp}(h:x.wf S ρ):x.wf S (ρ.nbs f):=by
  cases x<;>simp only[Cp.wf] at h⊢ <;>(try rw[(T.nbs _).2.2])<;>exact h
theorem jnc{l:List Cp}(h:Cm S ρ l):Cm S (ρ.nbs f) l:=fun g hg=>Cp.wf_nbs (h g hg)
theorem SV.wf_nbs{x:SV}(h:x.wf S ρ):x.wf S (ρ.nbs f):=by
  cases x with
  | one _=>trivial
  | agg l=>exact jnc h
theorem SR.wf_nbs: ∀{x:SR},x.wf S ρ→x.wf S (ρ.nbs f)
  | .v x,h=>SV.wf_nbs (x:=x) h
  | .tup xs,h=>fun x hx=>SV.wf_nbs (h x hx)
  | .ite c x y,h=>⟨fun hc=>SR.wf_nbs (h.1 (by rw[(T.nbs c).2.1] at hc;exact hc)),fun hc=>SR.wf_nbs (h.2 (by rw[(T.nbs c).2.1] at hc;exact hc))⟩
theorem Rs{ns na:Nat}(h: ∀k,k<na→f k=ρ.nb k):Cg ns na ρ (ρ.nbs f):=
  ⟨fun _ _=>rfl,fun _ _=>rfl,fun _ _=>rfl,fun _ _=>rfl,fun _ _=>rfl,fun _ _=>rfl,fun _ _=>rfl,fun _ _=>rfl,h,rfl⟩
theorem Cv.turn{ρ':Et}{ns na:Nat}{w0 w:World}{h h':Hp}(hh:Cv S ρ w0 h w)(hA:Cg ns na ρ ρ')(hb: ∀x∈h.rw,x.2.segs.all (Cp.clear ns na)=true)
    (hp:(h'.rw.map fun x=>(x.1.blk ρ' w0.heap.size,x.2)).Perm (h.rw.map fun x=>(x.1.blk ρ w0.heap.size,x.2)))(ho: ∀x∈h'.rw,x.1.off ρ'=0)
    (hro:h'.ro=h.ro)(hrc:Gh ns na h.ro=true)(how:h'.ow=none)(hs:ρ'.nb h'.na=ρ.nb h.na)(hn: ∀k,h'.na≤k→ρ'.nb (k+1)=ρ'.nb k+1):Cv S ρ' w0 h' w:=by
  have back: ∀x∈h'.rw,∃y∈h.rw,y.1.blk ρ w0.heap.size=x.1.blk ρ' w0.heap.size∧y.2=x.2:=by
    intro x hx
    have:=hp.subset (List.mem_map.2 ⟨x,hx,rfl⟩)
    obtain ⟨y,hy,he⟩:=List.mem_map.1 this
    injection he with h1 h2
    exact ⟨y,hy,h1,h2⟩
  have forth: ∀y∈h.rw,∃x∈h'.rw,x.1.blk ρ' w0.heap.size=y.1.blk ρ w0.heap.size:=by
    intro y hy
    have:=hp.symm.subset (List.mem_map.2 ⟨y,hy,rfl⟩)
    obtain ⟨x,hx,he⟩:=List.mem_map.1 this
    injection he with h1 h2
    exact ⟨x,hx,h1⟩
  have hrc': ∀x∈h.ro,x.1.clear ns na=true∧x.2.2.clear ns=true:=by
    intro x hx
    unfold Gh at hrc
    have:=List.all_eq_true.1 hrc x hx
    simpa using this
  refine ⟨?_,?_,ho,?_,?_,?_,?_,?_,hn,?_,?_,hh.os,hh.tape,hh.output⟩
  · intro x hx
    obtain ⟨y,hy,e1,e2⟩:=back x hx
    rw[←e1,←e2,(Dv hA (hb y hy)).1]
    exact hh.rw_ y hy
  · intro x hx
    obtain ⟨y,hy,e1,e2⟩:=back x hx
    rw[←e2]
    exact (Dv (B:=w0.heap.size) hA (hb y hy)).2 (hh.wf y hy)
  · have e1:(h'.rw.map fun x=>x.1.blk ρ' w0.heap.size)=(h'.rw.map fun x=>(x.1.blk ρ' w0.heap.size,x.2)).map (·.1):=by simp[List.map_map,Function.comp_def]
    have e2:(h.rw.map fun x=>x.1.blk ρ w0.heap.size)=(h.rw.map fun x=>(x.1.blk ρ w0.heap.size,x.2)).map (·.1):=by simp[List.map_map,Function.comp_def]
    rw[e1,(hp.map _).nodup_iff,←e2]
    exact hh.nd
  · intro x hx j v hv
    rw[hro] at hx
    obtain ⟨c1,c2⟩:=hrc' x hx
    rw[(Cl.clear_den hA c1).1,(Cl.clear_den (B:=w0.heap.size) hA c1).2]
    rw[(T.clear_den hA c2).2.2] at hv
    exact hh.ro x hx j v hv
  · intro x hx y hy
    rw[hro] at hx
    obtain ⟨z,hz,e1,_⟩:=back y hy
    rw[(Cl.clear_den hA (hrc' x hx).1).1,←e1]
    exact hh.apart x hx z hz
  · intro x hx
    rw[hro] at hx
    rw[(Cl.clear_den hA (hrc' x hx).1).1]
    exact hh.rolt x hx
  · rw[hs];exact hh.size
  · intro i hi hl hx
    rw[hA.loose] at hl
    refine hh.frame i hi hl fun y hy=> ?_
    obtain ⟨x,hx1,e1⟩:=forth y hy
    rw[←e1]
    exact hx x hx1
  · intro o hoo
    rw[how] at hoo;cases hoo
end
section
variable {S:Hw} {ρ:Et} {w0:World} {P:Program} {specs:Nat→Option Ec} {B:Nat} {f g:Nat→Nat}
theorem Um{D:Nat→Bool}: ∀(l:List (Option Tmp×Value)) (k:Nat) (cur:List Value),(∀i,k≤i→D i=false)→Cd D k l cur=cur
  | [],_,_,_=>rfl
  | e::l,k,cur,h=>by
    unfold Cd
    rw[if_neg (by rw[h k (Nat.le_refl _)];simp)]
    exact Um l (k+1) cur fun i hi=>h i (by omega)
theorem jb8: ∀{es:List Fs} {cur fin:List SR} (k:Nat),Pn cur fin es=true→
    (∀(j:Nat) (e:Fs),es[j]? =some e→e.fr.map (SR.den S ρ B)=Cd (fun i=>decide (i<k+j)) k (Bj S ρ B es) (cur.map (SR.den S ρ B)))∧
    fin.map (SR.den S ρ B)=Cd (fun _=>true) k (Bj S ρ B es) (cur.map (SR.den S ρ B))
  | [],cur,fin,k,h=>by
    simp only[Pn,beq_iff_eq] at h
    subst h
    exact ⟨fun j e hj=>by simp at hj,rfl⟩
  | e::es,cur,fin,k,h=>by
    simp only[Pn,Bool.and_eq_true,beq_iff_eq] at h
    obtain ⟨h1,h2⟩:=h
    obtain ⟨i1,i2⟩:=jb8 (k+1) h2
    have hp:(Er cur e.o.dst e.r.val).map (SR.den S ρ B)=Oh (cur.map (SR.den S ρ B)) e.o.dst (e.r.val.den S ρ B):=by
      unfold Er Oh
      cases e.o.dst<;>simp[List.map_set]
    have hpe:Bj S ρ B (e::es)=(e.o.dst,e.r.val.den S ρ B)::Bj S ρ B es:=rfl
    refine ⟨fun j x hj=> ?_,?_⟩
    · cases j with
      | zero=>
        simp only[List.getElem?_cons_zero,Option.some.injEq] at hj
        subst hj
        rw[h1,Um _ _ _ (fun i hi=>by simp;omega)]
      | succ j=>
        rw[i1 j x (by simpa using hj),hp,hpe]
        conv=>rhs;unfold Cd
        rw[if_pos (by simp),show k+1+j=k+(j+1) from by omega]
    · rw[i2,hp,hpe]
      conv=>rhs;unfold Cd
      rw[if_pos rfl]
theorem Td.nbs{h0 hl:Hp}{es:List Fs}{fr0 fin:List SR}{init:List Value}(sh:Td P specs S ρ B h0 es init hl)(hf:Pn fr0 fin es=true)(hi:fr0.map (SR.den S (ρ.nbs f) B)=init)
    (hg: ∀e∈es,e.o.guard=none):Td P specs S (ρ.nbs f) B h0 es init hl:=by
  refine ⟨fun j e hj=> ?_,fun j e hj=> ?_,fun j e hj hw=> ?_,sh.no,sh.chain⟩
  · have:=(jb8 (S:=S) (ρ:=ρ.nbs f) (B:=B) 0 hf).1 j e hj
    rw[this,hi]
    simp only[Nat.zero_add]
  · rw[←sh.want j e hj]
    exact Vs fun g b h=>by rw[hg e (List.mem_of_getElem? hj)] at h;cases h
  · obtain ⟨s1,s2,s3⟩:=sh.st j e hj hw
    exact ⟨s1,j3x s2,fun x hx=>SR.wf_nbs (s3 x hx)⟩
theorem jap{D:Nat→Bool}: ∀(l m:List (Option Tmp×Value)) (k:Nat) (cur:List Value),l.length=m.length→(∀i,D (k+i)=true→l[i]? =m[i]?)→Cd D k l cur=Cd D k m cur
  | [],[],_,_,_,_=>rfl
  | [],_::_,_,_,h,_=>by simp at h
  | _::_,[],_,_,h,_=>by simp at h
  | x::l,y::m,k,cur,h,hd=>by
    have ih:=fun cur=>jap (D:=D) l m (k+1) cur (by simpa using h) fun i hi=>by
      have:=hd (i+1) (by rwa[show k+(i+1)=k+1+i from by omega])
      simpa using this
    unfold Cd
    rw[ih]
    cases hk:D k with
    | false=>rfl
    | true=>
      have:=hd 0 (by simpa using hk)
      simp only[List.getElem?_cons_zero,Option.some.injEq] at this
      rw[this]
theorem jj6{es:List Fs}{init:List Value}(hst:Dr (es.map (·.o))=true){i:Nat}{e:Fs}(hei:es[i]? =some e)
    (ffr:e.fr.map (SR.den S ρ B)=Cd (fun j=>decide (j<i)) 0 (Bj S ρ B es) init)
    {listed:Array Bool}{a:Act}(hsz:listed.size=es.length)(hcl:jbl (es.map (·.o)) (fun i=>listed.getD i false))(hfr:a.tmps.toList=Cd (fun i=>listed.getD i false) 0 (Bj S ρ B es) init)
    (hi:i∈Region.ready .any (es.map (·.o)).toArray listed):
    i<listed.size∧listed.getD i false=false∧(∀j,((Ex (es.map (·.o))).getD i 0).testBit j=true→listed.getD j false=true)∧Pq S ρ B (Do e.fr) a e.o.op.operands∧
    jbl (es.map (·.o)) (fun j=>(listed.setIfInBounds i true).getD j false)∧
    (a.put e.o.dst (e.r.val.den S ρ B)).tmps.toList=Cd (fun j=>(listed.setIfInBounds i true).getD j false) 0 (Bj S ρ B es) init:=by
  unfold Dr at hst
  simp only[Bool.and_eq_true] at hst
  obtain ⟨hb,ht⟩:=hst
  obtain ⟨r1,r2,r3⟩:=Fr hi
  have r1':i<es.length:=by simpa using r1
  have hil:i<listed.size:=by rw[hsz];exact r1'
  rw[Jy _ _ hil] at r2
  have hoi:(es.map (·.o))[i]? =some e.o:=by simp[hei]
  have hoa:(es.map (·.o)).toArray[i]? =some e.o:=by simpa using hoi
  have hpre:=r3 e.o hoa
  have hmask:=Ds hb hcl i e.o hoi hpre
  have hlook: ∀d,d∈Qi (es.map (·.o)) e.o→(Cd (fun i=>listed.getD i false) 0 (Bj S ρ B es) init)[d]? =(Cd (fun j=>decide (j<i)) 0 (Bj S ρ B es) init)[d]? :=by
    intro d hd
    apply Ki _ _ _ _ rfl rfl
    intro j p hj hpd
    obtain ⟨e',hj',rfl⟩:=Jm hj
    simp only[Nat.zero_add] at hpd⊢
    have hoj:(es.map (·.o))[j]? =some e'.o:=by simp[hj']
    by_cases hij:j=i
    · subst hij
      simp[r2]
    · have hord:=Kr ht hoj hoi hpd hij (.inl hd)
      split at hord
      · rename_i hlt
        rw[hmask j hord];simp[hlt]
      · rename_i hlt
        have hnl:listed.getD j false=false:=by
          cases hl:listed.getD j false with
          | false=>rfl
          | true=>
            exfalso
            have:=Ds hb hcl j e'.o hoj (fun x h1 h2=>hcl j e'.o hoj hl x h1 h2) i hord
            rw[r2] at this;cases this
        rw[hnl];simp;omega
  have hat: ∀d:Nat,a.tmps[d]? =(Cd (fun i=>listed.getD i false) 0 (Bj S ρ B es) init)[d]? :=fun d=>by rw[←hfr];simp
  refine ⟨hil,r2,hmask,?_,?_,?_⟩
  · intro x hxo
    have hd:x∈Qi (es.map (·.o)) e.o:=by
      unfold Qi
      rw[List.mem_append];left
      rw[List.mem_filterMap]
      exact ⟨.tmp x,by simpa using hxo,rfl⟩
    have:=hlook x hd
    rw[←hat x,←ffr] at this
    rw[Array.getD_eq_getD_getElem?,this]
    unfold Do
    rw[List.getElem?_map,List.getD_eq_getElem?_getD]
    cases e.fr[x]? <;>rfl
  · intro j o hj hD x hx1 hx2
    simp only at hD⊢
    rw[Da _ _ _ hil] at hD⊢
    split at hD
    · rename_i hji
      subst hji
      rw[hoi] at hj;injection hj with hj;subst hj
      split
      · rfl
      · exact hpre x hx1 hx2
    · split
      · rfl
      · exact hcl j o hj hD x hx1 hx2
  · have hput:(a.put e.o.dst (e.r.val.den S ρ B)).tmps.toList=Oh a.tmps.toList e.o.dst (e.r.val.den S ρ B):=by
      unfold Act.put Oh
      cases e.o.dst<;>simp
    rw[hput,hfr]
    symm
    refine Sk (j:=i) _ 0 init (e.o.dst,e.r.val.den S ρ B) (Nat.zero_le _) (by simpa using Kq hei) r2 (by rw[Da _ _ _ hil];simp) (fun j hj=>by rw[Da _ _ _ hil,if_neg hj]) ?_
    intro j p s hj hlt hs1 hs2
    obtain ⟨e',hj',rfl⟩:=Jm hj
    simp only[Nat.zero_add] at hlt hs1 hs2⊢
    have hoj:(es.map (·.o))[j]? =some e'.o:=by simp[hj']
    have hord:=Kr ht hoj hoi hs2 (by omega) (.inr hs1)
    rw[if_neg (by omega)] at hord
    cases hl:listed.getD j false with
    | false=>rfl
    | true=>
      exfalso
      have:=Ds hb hcl j e'.o hoj (fun x h1 h2=>hcl j e'.o hoj hl x h1 h2) i hord
      rw[r2] at this;cases this
theorem Qm{α:Type}(p:α→Bool): ∀l:List α,l.filter p∈jl2 l
  | []=>by simp[jl2]
  | x::l=>by
    simp only[jl2,List.mem_append,List.mem_map]
    rw[List.filter_cons]
    split
    · exact .inr ⟨_,Qm p l,rfl⟩
    · exact .inl (Qm p l)
theorem jp6{α:Type}{l:List (Nat×α)}{D D':Nat→Bool}{x:Nat×α}(hx:x∈l)(hn:(l.map (·.1)).Nodup)(h0:D x.1=false)(h1:D' x.1=true)(hd: ∀j,j≠x.1→D' j=D j):
    (l.filter fun y=>D' y.1).Perm (x::l.filter fun y=>D y.1):=by
  induction l with
  | nil=>cases hx
  | cons y l ih=>
    simp only[List.map_cons,List.nodup_cons] at hn
    by_cases hy:y.1=x.1
    · have hyx:y=x:=by
        rcases List.mem_cons.1 hx with h|h
        · exact h.symm
        · exact absurd (List.mem_map.2 ⟨x,h,hy.symm⟩) hn.1
      subst hyx
      have e:(l.filter fun z=>D' z.1)=l.filter fun z=>D z.1:=by
        apply List.filter_congr
        intro z hz
        exact hd _ fun he=>hn.1 (List.mem_map.2 ⟨z,hz,he⟩)
      rw[List.filter_cons_of_pos (by rw[h1]),List.filter_cons_of_neg (by rw[h0];simp),e]
    · have hxl:x∈l:=(List.mem_cons.1 hx).resolve_left fun h=>hy (by rw[h])
      have:=ih hxl hn.2
      rw[List.filter_cons,List.filter_cons,hd _ hy]
      split
      · exact (this.cons y).trans (List.Perm.swap x y _)
      · exact this
end
abbrev Als:=List (Nat×Nat×Gn)
structure Yc(P:Program)(specs:Nat→Option Ec)(ns:Nat)(h0:Hp)(es:List Fs)(fr0 fin:List SR)(A:List Nat)(p:Nat)(als:Als)(H:Hp):Prop where
  frames:Pn fr0 fin es=true
  guard: ∀e∈es,e.o.guard=none
  fr0c:fr0.all (SR.clear ns H.na)=true
  ndi:(als.map (·.1)).Nodup
  ndk:(als.map (·.2.1)).Nodup
  rng: ∀x∈als,H.na≤x.2.1∧x.2.1<H.na+als.length∧x.2.2.segs.all (Cp.clear ns H.na)=true∧x.1∈A
  Aals: ∀a∈A,∃x∈als,x.1=a
  rwc:Gm ns H.na H.rw=true
  roc:Gh ns H.na H.ro=true
  ow:H.ow=none
  pos: ∀k i,(Bh 0 es)[k]? =some i→(k<p→ ∀a∈A,Uf (Ex (es.map (·.o))) a i=true)∧(p≤k→k<p+als.length→i∈A)∧(p+als.length≤k→ ∀a∈A,Uf (Ex (es.map (·.o))) i a=true)
  hH:(Eo h0 es)[p]? =some H
  hE:(Eo h0 es)[p+als.length]? =some (hLs H (H.na+als.length) als)
  ord: ∀i∈Bh 0 es,∀j∈Bh 0 es,i<j→Uf (Ex (es.map (·.o))) j i=true∨(i∈A∧j∈A)
  still:Lp P specs h0 es=true
  val: ∀i e,es[i]? =some e→e.r.val.clear ns H.na=true∨(∃x∈als,x.1=i∧jce ns x.2.1 e.r.val=true)∨ ∀a∈A,Uf (Ex (es.map (·.o))) i a=true
  pure: ∀i e,es[i]? =some e→Eb e=false→ ∀L∈jl2 als,jhk (Ex (es.map (·.o))) A i L=false→Xw P specs e (es.flatMap (·.r.need)) (hLs H (H.na+als.length) L)=true
  al: ∀x∈als,∃e,es[x.1]? =some e∧(jce ns x.2.1 e.r.val=true∨e.r.val.clear ns H.na=true)∧Eb e=true∧
    ∀L∈jl2 als,(∀y∈L,y.1≠x.1)→jhk (Ex (es.map (·.o))) A x.1 L=false→jjy P specs ns H (H.na+als.length) (es.flatMap (·.r.need)) e x L=true
theorem Ni{a b:Nat}:Nat.beq a b=true↔a=b:=⟨Nat.eq_of_beq_eq_true,fun h=>h▸Nat.beq_refl a⟩
theorem jl3{P:Program}{specs:Nat→Option Ec}{ns:Nat}{h0:Hp}{es:List Fs}{fr0 fin:List SR}{A:List Nat}{p:Nat}{als:Als}{H:Hp}
    (h:jjo P specs ns h0 es fr0 fin A p als H=true):Yc P specs ns h0 es fr0 fin A p als H:=by
  unfold jjo at h
  simp only[Bool.and_eq_true] at h
  obtain ⟨a1,a2,a3,a4,a5,a6,a7,a8,a9,a10,a11,a12,a13,a14,a15,a16,a17,a18,a19⟩:=h
  have heff:jlq es=Bh 0 es:=rfl
  rw[heff] at a11 a12 a15
  refine ⟨a1,?_,a3,of_decide_eq_true a4,of_decide_eq_true a5,?_,?_,a8,a9,by simpa using a10,?_,by simpa using a13,by simpa using a14,?_,a16,?_,?_,?_⟩
  · intro e he
    have:=List.all_eq_true.1 a2 e he
    simpa using this
  · intro x hx
    have:=List.all_eq_true.1 a6 x hx
    simp only[Bool.and_eq_true,Nat.ble_eq,List.contains_iff_mem] at this
    obtain ⟨b1,b2,b3,b4⟩:=this
    exact ⟨b1,b2,b3,b4⟩
  · intro a ha
    have:=List.all_eq_true.1 a7 a ha
    obtain ⟨x,hx,he⟩:=List.any_eq_true.1 this
    exact ⟨x,hx,Ni.1 he⟩
  · intro k i hk
    have:=List.all_eq_true.1 a11 (i,k) (List.mem_zipIdx_iff_getElem?.2 hk)
    simp only at this
    refine ⟨fun h1 a ha=> ?_,fun h1 h2=> ?_,fun h1 a ha=> ?_⟩
    · rw[if_pos h1] at this;exact List.all_eq_true.1 this a ha
    · rw[if_neg (by omega),if_pos h2] at this;exact List.contains_iff_mem.1 this
    · rw[if_neg (by omega),if_neg (by omega)] at this;exact List.all_eq_true.1 this a ha
  · intro i hi j hj hij
    have:=List.all_eq_true.1 (List.all_eq_true.1 a15 i hi) j hj
    simp only[hij,decide_true,Bool.not_true,Bool.false_or,Bool.or_eq_true,Bool.and_eq_true,List.contains_iff_mem] at this
    exact this
  · intro i e hi
    have:=List.all_eq_true.1 a17 (e,i) (List.mem_zipIdx_iff_getElem?.2 hi)
    simp only[Bool.or_eq_true] at this
    rcases this with h|h|h
    · exact .inl h
    · obtain ⟨x,hx,he⟩:=List.any_eq_true.1 h
      simp only[Bool.and_eq_true] at he
      exact .inr (.inl ⟨x,hx,Ni.1 he.1,he.2⟩)
    · exact .inr (.inr fun a ha=>List.all_eq_true.1 h a ha)
  · intro i e hi hne L hL hs
    have:=List.all_eq_true.1 a18 (e,i) (List.mem_zipIdx_iff_getElem?.2 hi)
    simp only[hne,Bool.false_or] at this
    have:=List.all_eq_true.1 this L hL
    simpa [hs] using this
  · intro x hx
    have:=List.all_eq_true.1 a19 x hx
    split at this
    · rename_i e he
      simp only[Bool.and_eq_true,Bool.or_eq_true] at this
      obtain ⟨c1,c2,c3⟩:=this
      refine ⟨e,he,c1,c2,fun L hL hn hs=> ?_⟩
      have:=List.all_eq_true.1 c3 L hL
      simp only[Bool.or_eq_true] at this
      rcases this with (h|h)|h
      · obtain ⟨y,hy,he⟩:=List.any_eq_true.1 h
        exact absurd (Ni.1 he) (hn y hy)
      · rw[hs] at h;cases h
      · exact h
    · cases this
section
variable {S:Hw} {ρ:Et} {w0:World} {P:Program} {specs:Nat→Option Ec} {ns:Nat} {h0 hl:Hp} {es:List Fs} {fr0 fin:List SR} {A:List Nat} {p:Nat} {als:Als} {H:Hp} {init:List Value}
structure jyb(S:Hw)(ρ:Et)(w0:World)(es:List Fs)(init:List Value)(H:Hp)(als:Als)(p:Nat)(f:Nat→Nat)(listed:Array Bool)(a:Act)(w:World):Prop where
  size:listed.size=es.length
  closed:jbl (es.map (·.o)) (fun i=>listed.getD i false)
  fr:a.tmps.toList=Cd (fun i=>listed.getD i false) 0 (Bj S (ρ.nbs f) w0.heap.size es) init
  defers:a.defers=[]
  agree: ∀k,k<H.na→f k=ρ.nb k
  heap:Cv S (ρ.nbs f) w0 (hLs H (H.na+als.length) (als.filter fun x=>listed.getD x.1 false)) w
  eff: ∀k i,(Bh 0 es)[k]? =some i→(k<p→listed.getD i false=true)∧(p+als.length≤k→listed.getD i false=false)
theorem jwc{i:Nat}(h:i∈Bh 0 es): ∃e,es[i]? =some e∧Eb e=true:=by
  unfold Bh at h
  rw[List.mem_filterMap] at h
  obtain ⟨⟨e,j⟩,h1,h2⟩:=h
  simp only at h2
  split at h2
  · rename_i he
    simp only[Option.some.injEq] at h2
    subst h2
    exact ⟨e,List.mem_zipIdx_iff_getElem?.1 h1,he⟩
  · cases h2
theorem ji2(es:List Fs){B:Nat}:(Bj S ρ B es).length=es.length:=by simp[Bj]
theorem jrx(lp:Yc P specs ns h0 es fr0 fin A p als H){B:Nat}{f g:Nat→Nat}{D:Nat→Bool}(hfg: ∀k,k<H.na→g k=f k)(hk: ∀x∈als,D x.1=true→g x.2.1=f x.2.1)
    (hw: ∀i,D i=true→ ¬ ∀a∈A,Uf (Ex (es.map (·.o))) i a=true):Cd D 0 (Bj S (ρ.nbs f) B es) init=Cd D 0 (Bj S (ρ.nbs g) B es) init:=by
  refine jap _ _ 0 init (by rw[ji2,ji2]) fun i hi=> ?_
  rw[Nat.zero_add] at hi
  unfold Bj
  rw[List.getElem?_map,List.getElem?_map]
  cases he:es[i]? with
  | none=>rfl
  | some e=>
    simp only[Option.map_some,Option.some.injEq,Prod.mk.injEq,true_and]
    have hA:Cg ns H.na (ρ.nbs f) ((ρ.nbs f).nbs g):=Rs hfg
    rcases lp.val i e he with h|⟨x,hx,hxi,h⟩|h
    · exact ((SR.clear_den (S:=S) (B:=B) hA h).1).symm
    · have hkx:=hk x hx (by rw[hxi];exact hi)
      unfold jce at h
      split at h
      · rename_i j s d hv
        simp only[Bool.and_eq_true] at h
        have hj:=Ni.1 h.1
        subst hj
        rw[hv]
        simp only[SR.den,SV.den,Aw.den,Cw,Cl.blk,Cl.off,(T.nbs d).1]
        simp only[Et.nbs,hkx]
      · rename_i j s x1 x2 x3 hv
        simp only[Bool.and_eq_true] at h
        have hj:=Ni.1 h.1
        subst hj
        rw[hv]
        simp only[SR.den,SV.den,Aw.den,Cw,Cl.blk,Cl.off,(T.nbs x1).1,(T.nbs x2).1,(T.nbs x3).1]
        simp only[Et.nbs,hkx]
      · cases h
    · exact absurd h (hw i hi)
theorem jv5{k m:Nat}{v:SR}{f g:Nat→Nat}{B:Nat}(h:jce ns k v=true)(hm:f m=g k):(ju0 m v).den S (ρ.nbs f) B=v.den S (ρ.nbs g) B:=by
  unfold jce at h
  split at h
  · rename_i j s d
    simp only[Bool.and_eq_true] at h
    have hj:=Ni.1 h.1
    subst hj
    simp only[ju0,SR.den,SV.den,Aw.den,Cw,Cl.blk,Cl.off,(T.nbs d).1]
    simp only[Et.nbs,hm]
  · rename_i j s x1 x2 x3
    simp only[Bool.and_eq_true] at h
    have hj:=Ni.1 h.1
    subst hj
    simp only[ju0,SR.den,SV.den,Aw.den,Cw,Cl.blk,Cl.off,(T.nbs x1).1,(T.nbs x2).1,(T.nbs x3).1]
    simp only[Et.nbs,hm]
  · cases h
theorem jqt(lp:Yc P specs ns h0 es fr0 fin A p als H)(hst:Dr (es.map (·.o))=true){listed:Array Bool}(hcl:jbl (es.map (·.o)) (fun i=>listed.getD i false)){i:Nat}(hil:listed.getD i false=false)
    (hmask: ∀j,((Ex (es.map (·.o))).getD i 0).testBit j=true→listed.getD j false=true)(hlen:listed.size=es.length):jhk (Ex (es.map (·.o))) A i (als.filter fun x=>listed.getD x.1 false)=false:=by
  unfold Dr at hst
  simp only[Bool.and_eq_true] at hst
  unfold jhk
  rw[Bool.or_eq_false_iff]
  constructor
  · rw[←Bool.not_eq_true,List.any_eq_true]
    rintro ⟨a,ha,h⟩
    simp only[Bool.and_eq_true,Bool.not_eq_true',←Bool.not_eq_true,List.any_eq_true,not_exists,not_and] at h
    obtain ⟨h1,h2⟩:=h
    obtain ⟨x,hx,hxa⟩:=lp.Aals a ha
    have:=hmask a h1
    exact h2 x (List.mem_filter.2 ⟨hx,by rw[hxa];exact this⟩) (Ni.2 hxa)
  · rw[←Bool.not_eq_true,List.any_eq_true]
    rintro ⟨x,hx,h⟩
    obtain ⟨hx1,hx2⟩:=List.mem_filter.1 hx
    obtain ⟨e,he,_⟩:=lp.al x hx1
    have hoj:(es.map (·.o))[x.1]? =some e.o:=by simp[he]
    have:=Ds hst.1 hcl x.1 e.o hoj (fun y h1 h2=>hcl x.1 e.o hoj hx2 y h1 h2) i h
    rw[hil] at this;cases this
theorem jrz{l m:List T}(h:l.all (m.contains ·)=true)(hm:Dx S ρ m):Dx S ρ l:=fun x hx=>hm x (List.contains_iff_mem.1 (List.all_eq_true.1 h x hx))
set_option maxHeartbeats 1000000 in
theorem ji7(hsp: ∀f s,specs f=some s→Ei P S f s)(lp:Yc P specs ns h0 es fr0 fin A p als H)(hst:Dr (es.map (·.o))=true)(sh:Td P specs S ρ w0.heap.size h0 es init hl)
    (hi0: ∀f:Nat→Nat,(∀k,k<H.na→f k=ρ.nb k)→fr0.map (SR.den S (ρ.nbs f) w0.heap.size)=init)
    {f:Nat→Nat}{listed:Array Bool}{a:Act}{w:World}(hm:jyb S ρ w0 es init H als p f listed a w)(hun: ∃x∈als,listed.getD x.1 false=false){i:Nat}
    (hi:i∈Region.ready .any (es.map (·.o)).toArray listed){K:Act→World→Prop}{Q:Exit→Act→World→Prop}
    (hK: ∀g a' w',jyb S ρ w0 es init H als p g (listed.setIfInBounds i true) a' w'→K a' w'):wpOp P (es.map (·.o)).toArray Q i K a w:=by
  have r1':i<es.length:=by simpa using (Fr hi).1
  obtain ⟨e,hei⟩: ∃e,es[i]? =some e:=⟨_,List.getElem?_eq_getElem r1'⟩
  have hoa:(es.map (·.o)).toArray[i]? =some e.o:=by simp[hei]
  have shf: ∀f:Nat→Nat,(∀k,k<H.na→f k=ρ.nb k)→Td P specs S (ρ.nbs f) w0.heap.size h0 es init hl:=fun f hf=>sh.nbs lp.frames (hi0 f hf) lp.guard
  have mf:=jj6 hst hei ((shf f hm.agree).fr i e hei) hm.size hm.closed hm.fr hi
  obtain ⟨hil,r2,hmask,hagree,hcl',hput⟩:=mf
  have hwant:Region.wanted e.o (yielded (es.map (·.o)).toArray a.tmps)=true:=by
    unfold Region.wanted;rw[lp.guard e (List.mem_of_getElem? hei)]
  have hwt:e.want=true:=by
    rw[←sh.want i e hei];unfold Region.wanted;rw[lp.guard e (List.mem_of_getElem? hei)]
  obtain ⟨s1,s2,s3⟩:=(shf f hm.agree).st i e hei hwt
  have hneed:Dx S (ρ.nbs f) (es.flatMap (·.r.need)):=(shf f hm.agree).met
  have hskip:=jqt lp hst hm.closed r2 hmask hm.size
  obtain ⟨x0,hx0,hx0l⟩:=hun
  have nowait: ∀j,listed.getD j false=true→ ¬ ∀a∈A,Uf (Ex (es.map (·.o))) j a=true:=by
    intro j hj hall
    have hb:=hall x0.1 (lp.rng x0 hx0).2.2.2
    have hst':=hst
    unfold Dr at hst'
    simp only[Bool.and_eq_true] at hst'
    have hjl:j<es.length:=by
      rcases Nat.lt_or_ge j es.length with h|h
      · exact h
      · rw[Array.getD_eq_getD_getElem?,Array.getElem?_eq_none (by rw[hm.size];exact h)] at hj;cases hj
    have hoj:(es.map (·.o))[j]? =some (es[j]).o:=by simp[hjl]
    have:=Ds hst'.1 hm.closed j _ hoj (fun y h1 h2=>hm.closed j _ hoj hj y h1 h2) x0.1 hb
    rw[hx0l] at this;cases this
  unfold wpOp
  rw[hoa]
  simp only[hwant,if_true]
  left
  cases hne:Eb e with
  | false=>
    have hs:=lp.pure i e hei hne _ (Qm _ als) hskip
    unfold Xw at hs
    split at hs
    · rename_i r' hr'
      simp only[Bool.and_eq_true,beq_iff_eq] at hs
      obtain ⟨⟨v1,v2⟩,v3⟩:=hs
      obtain ⟨_,d2⟩:=Sl hsp (o:=e.o) (a:=a) (w:=w) (w0:=w0) hr' (jrz v3 hneed) (Gs s3) hagree hm.heap
      refine d2 _ _ fun w' hw'=> ?_
      rw[v1]
      rw[v2] at hw'
      have hnA:i∉A:=by
        intro hA
        obtain ⟨x,hx,hxi⟩:=lp.Aals i hA
        obtain ⟨e',he',_,he2,_⟩:=lp.al x hx
        rw[hxi,hei] at he';injection he' with he';subst he'
        rw[hne] at he2;cases he2
      have hfl:(als.filter fun x=>(listed.setIfInBounds i true).getD x.1 false)=als.filter fun x=>listed.getD x.1 false:=by
        apply List.filter_congr
        intro x hx
        rw[Da _ _ _ hil,if_neg (by intro h;exact hnA (by rw[←h];exact (lp.rng x hx).2.2.2))]
      refine hK f _ _ ⟨by simpa using hm.size,hcl',hput,?_,hm.agree,by rw[hfl];exact hw',?_⟩
      · unfold Act.put
        cases e.o.dst<;>exact hm.defers
      · intro k j hk
        obtain ⟨q1,q2⟩:=hm.eff k j hk
        have hji:j≠i:=by
          intro h;subst h
          have:j∈Bh 0 es:=List.mem_of_getElem? hk
          obtain ⟨e',h1,h2⟩:=jwc this
          rw[hei] at h1;injection h1 with h1;subst h1
          rw[hne] at h2;cases h2
        rw[Da _ _ _ hil,if_neg hji]
        exact ⟨q1,q2⟩
    · cases hs
  | true=>
    have hiE:i∈Bh 0 es:=by
      rw[←Me,List.mem_filterMap]
      exact ⟨(e,i),List.mem_zipIdx_iff_getElem?.2 hei,by simp[hne]⟩
    obtain ⟨k0,hk0⟩:=List.getElem?_of_mem hiE
    obtain ⟨p1,p2,p3⟩:=lp.pos k0 i hk0
    have hk1:p≤k0:=by
      rcases Nat.lt_or_ge k0 p with h|h
      · have:=(hm.eff k0 i hk0).1 h
        rw[r2] at this;cases this
      · exact h
    have hk2:k0<p+als.length:=by
      rcases Nat.lt_or_ge k0 (p+als.length) with h|h
      · exact h
      · have:=hmask x0.1 (p3 h x0.1 (lp.rng x0 hx0).2.2.2)
        rw[hx0l] at this;cases this
    have hiA:=p2 hk1 hk2
    obtain ⟨x,hx,hxi⟩:=lp.Aals i hiA
    obtain ⟨e',he',hkc,_,hat⟩:=lp.al x hx
    rw[hxi,hei] at he';injection he' with he';subst he'
    have hxl:listed.getD x.1 false=false:=by rw[hxi];exact r2
    have hat:=hat _ (Qm (fun y=>listed.getD y.1 false) als) (fun y hy h=>by
      have:=(List.mem_filter.1 hy).2
      rw[h,hxl] at this;cases this) (by rw[hxi];exact hskip)
    unfold jjy at hat
    split at hat
    · rename_i r' hr'
      simp only[Bool.and_eq_true,beq_iff_eq] at hat
      obtain ⟨v1,v2,v3⟩:=hat
      obtain ⟨_,d2⟩:=Sl hsp (o:=e.o) (a:=a) (w:=w) (w0:=w0) hr' (jrz v3 hneed) (Gs s3) hagree hm.heap
      refine d2 _ _ fun w' hw'=> ?_
      rw[v2] at hw'
      obtain ⟨g1,g2,g3,_⟩:=lp.rng x hx
      let na1:=H.na+als.length
      let g:Nat→Nat:=fun k=>if k=x.2.1 then f na1 else if na1≤k then f (k+1) else f k
      have gk:g x.2.1=f na1:=if_pos rfl
      have glow: ∀k,k<H.na→g k=f k:=fun k hk=>by
        show (if k=x.2.1 then f na1 else if na1≤k then f (k+1) else f k)=f k
        rw[if_neg (by omega),if_neg (by show ¬H.na+als.length≤k;omega)]
      have ghigh: ∀k,na1≤k→g k=f (k+1):=fun k hk=>by
        show (if k=x.2.1 then f na1 else if na1≤k then f (k+1) else f k)=f (k+1)
        rw[if_neg (by have:H.na+als.length≤k:=hk;omega),if_pos hk]
      have gother: ∀y∈als,listed.getD y.1 false=true→g y.2.1=f y.2.1:=by
        intro y hy hyl
        have hne:y.2.1≠x.2.1:=by
          intro he
          have:y=x:=by
            have hnd:=lp.ndk
            obtain ⟨m,hm1⟩:=List.getElem?_of_mem hy
            obtain ⟨m',hm2⟩:=List.getElem?_of_mem hx
            have e1:(als.map (·.2.1))[m]? =some y.2.1:=by simp[hm1]
            have e2:(als.map (·.2.1))[m']? =some y.2.1:=by simp[hm2,he]
            have hl1:=(List.getElem?_eq_some_iff.1 e1).1
            have:=(List.getElem?_inj hl1 hnd).1 (e1.trans e2.symm)
            subst this
            rw[hm1] at hm2;injection hm2
          rw[this,hxl] at hyl;cases hyl
        show (if y.2.1=x.2.1 then f na1 else if na1≤y.2.1 then f (y.2.1+1) else f y.2.1)=f y.2.1
        rw[if_neg hne,if_neg (by show ¬H.na+als.length≤y.2.1;have:=(lp.rng y hy).2.1;omega)]
      have hagr: ∀k,k<H.na→g k=ρ.nb k:=fun k hk=>(glow k hk).trans (hm.agree k hk)
      have hA2:Cg ns H.na (ρ.nbs f) ((ρ.nbs f).nbs g):=Rs glow
      have hrc: ∀z∈H.rw,z.1.clear ns H.na=true∧z.2.segs.all (Cp.clear ns H.na)=true:=by
        intro z hz
        have:=lp.rwc
        unfold Gm at this
        have:=List.all_eq_true.1 this z hz
        simpa using this
      have hval:r'.val.den S (ρ.nbs f) w0.heap.size=e.r.val.den S (ρ.nbs g) w0.heap.size:=by
        rw[v1]
        split
        · rename_i hkey
          exact jv5 hkey gk.symm
        · rename_i hkey
          rcases hkc with h|h
          · exact absurd h hkey
          · exact ((SR.clear_den (S:=S) (B:=w0.heap.size) hA2 h).1).symm
      have hfr':a.tmps.toList=Cd (fun i=>listed.getD i false) 0 (Bj S (ρ.nbs g) w0.heap.size es) init:=by
        rw[hm.fr]
        exact jrx lp (fun k hk=>glow k hk) (fun y hy hyl=>gother y hy hyl) nowait
      have mg:=jj6 hst hei ((shf g hagr).fr i e hei) hm.size hm.closed hfr' hi
      have hput':=mg.2.2.2.2.2
      rw[hval]
      refine hK g _ _ ⟨by simpa using hm.size,hcl',hput',?_,hagr,?_,?_⟩
      · unfold Act.put
        cases e.o.dst<;>exact hm.defers
      · refine Cv.turn (ρ:=ρ.nbs f) (ns:=ns) (na:=H.na) hw' hA2 ?_ ?_ ?_ rfl lp.roc lp.ow ?_ ?_
        · intro z hz
          rcases List.mem_append.1 hz with h|h
          · rcases List.mem_append.1 h with h|h
            · exact (hrc z h).2
            · obtain ⟨y,hy,hyz⟩:=List.mem_map.1 h
              rw[←hyz]
              exact (lp.rng y (List.mem_filter.1 hy).1).2.2.1
          · rw[List.mem_singleton.1 h];exact g3
        · have hp:=jp6 (D:=fun j=>listed.getD j false) (D':=fun j=>(listed.setIfInBounds i true).getD j false) hx lp.ndi hxl (by rw[Da _ _ _ hil,if_pos hxi]) (fun j hj=>by rw[Da _ _ _ hil,if_neg (by rw[←hxi];exact hj)])
          have e1:(H.rw.map fun z=>(z.1.blk (ρ.nbs g) w0.heap.size,z.2))=H.rw.map fun z=>(z.1.blk (ρ.nbs f) w0.heap.size,z.2):=by
            apply List.map_congr_left
            intro z hz
            exact congrArg (fun b=>(b,z.2)) (Cl.clear_den (B:=w0.heap.size) hA2 (hrc z hz).1).1
          have e2:((als.filter fun y=>listed.getD y.1 false).map fun y=>((jh2 y).1.blk (ρ.nbs g) w0.heap.size,(jh2 y).2))=(als.filter fun y=>listed.getD y.1 false).map fun y=>((jh2 y).1.blk (ρ.nbs f) w0.heap.size,(jh2 y).2):=by
            apply List.map_congr_left
            intro y hy
            obtain ⟨y1,y2⟩:=List.mem_filter.1 hy
            have:=gother y y1 y2
            simp only[jh2,Cl.blk,Et.nbs,this]
          simp only[hLs,List.map_append,List.map_map,List.map_cons,List.map_nil,Function.comp_def]
          rw[e1]
          have h3:=hp.map fun y=>((jh2 y).1.blk (ρ.nbs g) w0.heap.size,(jh2 y).2)
          rw[List.map_cons,e2] at h3
          have h5:(jh2 x).1.blk (ρ.nbs g) w0.heap.size=(Cl.new (H.na+als.length)).blk (ρ.nbs f) w0.heap.size:=by
            simp only[jh2,Cl.blk,Et.nbs]
            exact congrArg _ gk
          rw[h5] at h3
          have h4:=(h3.trans (List.perm_append_singleton _ _).symm).append_left (H.rw.map fun z=>(z.1.blk (ρ.nbs f) w0.heap.size,z.2))
          rw[←List.append_assoc] at h4
          exact h4
        · intro z hz
          rcases (List.mem_append.1 hz).symm with h|h
          · obtain ⟨y,_,hyz⟩:=List.mem_map.1 h
            rw[←hyz];rfl
          · have:=hw'.off z (List.mem_append_left _ (List.mem_append_left _ h))
            have h2:=(Cl.clear_den (B:=w0.heap.size) hA2 (hrc z h).1).2
            exact h2.trans this
        · exact ghigh na1 (Nat.le_refl _)
        · intro k hk
          have hk:na1≤k:=hk
          have:=hw'.nbs (k+1) (by show H.na+als.length+1≤k+1;have:H.na+als.length≤k:=hk;omega)
          show g (k+1)=g k+1
          rw[ghigh k hk,ghigh (k+1) (by omega)]
          exact this
      · intro k j hk
        obtain ⟨q1,q2⟩:=hm.eff k j hk
        refine ⟨fun h=> ?_,fun h=> ?_⟩
        · rw[Da _ _ _ hil]
          split
          · rfl
          · exact q1 h
        · rw[Da _ _ _ hil]
          split
          · rename_i hji
            subst hji
            have:=(lp.pos k j hk).2.2 h
            exfalso
            have:=hmask x0.1 (this x0.1 (lp.rng x0 hx0).2.2.2)
            rw[hx0l] at this;cases this
          · exact q2 h
    · cases hat
end
section
variable {S:Hw} {ρ:Et} {w0:World} {P:Program} {specs:Nat→Option Ec} {ns:Nat} {h0 hl:Hp} {es:List Fs} {fr0 fin:List SR} {A:List Nat} {p:Nat} {als:Als} {H:Hp} {init:List Value}
def j2o(S:Hw)(ρ:Et)(w0:World)(h0:Hp)(es:List Fs)(init:List Value)(H:Hp)(als:Als)(p:Nat)(listed:Array Bool)(a:Act)(w:World):Prop:=
  (Mid S ρ w0 h0 es init listed a w∧ ∀x∈als,listed.getD x.1 false=false)∨
  (∃f,jyb S ρ w0 es init H als p f listed a w∧ ∃x∈als,listed.getD x.1 false=false)∨
  (∃f:Nat→Nat,(∀k,k<H.na→f k=ρ.nb k)∧Mid S (ρ.nbs f) w0 h0 es init listed a w∧ ∀x∈als,listed.getD x.1 false=true)
theorem jii(lp:Yc P specs ns h0 es fr0 fin A p als H)(hc:Je h0 es hl){f:Nat→Nat}{listed:Array Bool}{a:Act}{w:World}(hm:jyb S ρ w0 es init H als p f listed a w):j2o S ρ w0 h0 es init H als p listed a w:=by
  by_cases hall: ∃x∈als,listed.getD x.1 false=false
  · exact .inr (.inl ⟨f,hm,hall⟩)
  · have hall: ∀x∈als,listed.getD x.1 false=true:=by
      intro x hx
      cases hb:listed.getD x.1 false with
      | true=>rfl
      | false=>exact absurd ⟨x,hx,hb⟩ hall
    refine .inr (.inr ⟨f,hm.agree,⟨hm.size,hm.closed,hm.fr,hm.defers,p+als.length,hLs H (H.na+als.length) als,?_,fun k i hk=> ?_,lp.hE,?_⟩,hall⟩)
    · have:=(List.getElem?_eq_some_iff.1 lp.hE).1
      rw[(Gc 0 hc).2.2] at this
      omega
    · obtain ⟨q1,q2⟩:=hm.eff k i hk
      constructor
      · intro h
        rcases Nat.lt_or_ge k (p+als.length) with h'|h'
        · exact h'
        · rw[q2 h'] at h;cases h
      · intro h
        rcases Nat.lt_or_ge k p with h'|h'
        · exact q1 h'
        · obtain ⟨x,hx,hxi⟩:=lp.Aals i ((lp.pos k i hk).2.1 h' h)
          rw[←hxi];exact hall x hx
    · have:=hm.heap
      rw[List.filter_eq_self.2 hall] at this
      exact this
theorem jqp(lp:Yc P specs ns h0 es fr0 fin A p als H)(hst:Dr (es.map (·.o))=true)(hc:Je h0 es hl){listed:Array Bool}{a:Act}{w:World}(hm:Mid S ρ w0 h0 es init listed a w)
    (hun: ∀x∈als,listed.getD x.1 false=false){i:Nat}(hiA:i∈A)(hmask: ∀j,((Ex (es.map (·.o))).getD i 0).testBit j=true→listed.getD j false=true): ∃f,jyb S ρ w0 es init H als p f listed a w:=by
  have hst':=hst
  unfold Dr at hst'
  simp only[Bool.and_eq_true] at hst'
  obtain ⟨x,hx,hxi⟩:=lp.Aals i hiA
  have hpos:0<als.length:=List.length_pos_of_mem hx
  obtain ⟨t,h,h1,h2,h3,h4⟩:=hm.heap
  have hlen:p+als.length<(Bh 0 es).length+1:=by
    have:=(List.getElem?_eq_some_iff.1 lp.hE).1
    rwa[(Gc 0 hc).2.2] at this
  have nowait: ∀j,listed.getD j false=true→ ¬ ∀a∈A,Uf (Ex (es.map (·.o))) j a=true:=by
    intro j hj hall
    have hb:=hall x.1 (lp.rng x hx).2.2.2
    have hjl:j<es.length:=by
      rcases Nat.lt_or_ge j es.length with h|h
      · exact h
      · rw[Array.getD_eq_getD_getElem?,Array.getElem?_eq_none (by rw[hm.size];exact h)] at hj;cases hj
    have hoj:(es.map (·.o))[j]? =some (es[j]).o:=by simp[hjl]
    have:=Ds hst'.1 hm.closed j _ hoj (fun y h1 h2=>hm.closed j _ hoj hj y h1 h2) x.1 hb
    rw[hun x hx] at this;cases this
  have htp:t=p:=by
    have hA: ¬p<t:=by
      intro hlt
      have hk:(Bh 0 es)[p]? =some ((Bh 0 es)[p]'(by omega)):=List.getElem?_eq_getElem _
      obtain ⟨y,hy,hye⟩:=lp.Aals _ ((lp.pos p _ hk).2.1 (Nat.le_refl _) (by omega))
      have:=(h2 p _ hk).2 hlt
      rw[←hye,hun y hy] at this;cases this
    rcases Nat.lt_or_ge t p with hlt|hge
    · exfalso
      have hk:(Bh 0 es)[t]? =some ((Bh 0 es)[t]'(by omega)):=List.getElem?_eq_getElem _
      have:=hmask _ ((lp.pos t _ hk).1 hlt i hiA)
      have:=(h2 t _ hk).1 this
      omega
    · omega
  subst htp
  rw[lp.hH] at h3
  injection h3 with h3
  subst h3
  let f:Nat→Nat:=fun k=>if k<H.na then ρ.nb k else if k<H.na+als.length then 0 else ρ.nb H.na+(k-(H.na+als.length))
  have flow: ∀k,k<H.na→f k=ρ.nb k:=fun k hk=>if_pos hk
  have fhigh: ∀k,H.na+als.length≤k→f k=ρ.nb H.na+(k-(H.na+als.length)):=fun k hk=>by
    show (if k<H.na then ρ.nb k else if k<H.na+als.length then 0 else ρ.nb H.na+(k-(H.na+als.length)))=_
    rw[if_neg (by omega),if_neg (by omega)]
  have hnone:(als.filter fun x=>listed.getD x.1 false)=[]:=by
    rw[List.filter_eq_nil_iff]
    intro y hy
    rw[hun y hy];simp
  have hA2:Cg ns H.na ρ (ρ.nbs f):=Rs flow
  have hrc: ∀z∈H.rw,z.1.clear ns H.na=true∧z.2.segs.all (Cp.clear ns H.na)=true:=by
    intro z hz
    have:=lp.rwc
    unfold Gm at this
    have:=List.all_eq_true.1 this z hz
    simpa using this
  refine ⟨f,hm.size,hm.closed,?_,hm.defers,flow,?_,fun k j hk=>⟨fun h=> ?_,fun h=> ?_⟩⟩
  · rw[hm.fr]
    exact jrx (f:=ρ.nb) (g:=f) lp flow (fun y hy hyl=>by rw[hun y hy] at hyl;cases hyl) nowait
  · rw[hnone]
    refine Cv.turn (ρ:=ρ) (ns:=ns) (na:=H.na) h4 hA2 (fun z hz=>(hrc z hz).2) ?_ ?_ rfl lp.roc lp.ow ?_ ?_
    · have e1:(H.rw.map fun z=>(z.1.blk (ρ.nbs f) w0.heap.size,z.2))=H.rw.map fun z=>(z.1.blk ρ w0.heap.size,z.2):=by
        apply List.map_congr_left
        intro z hz
        exact congrArg (fun b=>(b,z.2)) (Cl.clear_den (B:=w0.heap.size) hA2 (hrc z hz).1).1
      simp only[hLs,List.map_nil,List.append_nil]
      rw[e1]
    · intro z hz
      simp only[hLs,List.map_nil,List.append_nil] at hz
      exact (Cl.clear_den (B:=w0.heap.size) hA2 (hrc z hz).1).2.trans (h4.off z hz)
    · show f (H.na+als.length)=ρ.nb H.na
      rw[fhigh _ (Nat.le_refl _)];omega
    · intro k hk
      have hk:H.na+als.length≤k:=hk
      show f (k+1)=f k+1
      rw[fhigh k hk,fhigh (k+1) (by omega)];omega
  · exact (h2 k j hk).2 h
  · cases hb:listed.getD j false with
    | false=>rfl
    | true=>have:=(h2 k j hk).1 hb;omega
set_option maxHeartbeats 1000000 in
theorem j4l(hsp: ∀f s,specs f=some s→Ei P S f s)(lp:Yc P specs ns h0 es fr0 fin A p als H)(hne:als≠ [])(hst:Dr (es.map (·.o))=true)(sh:Td P specs S ρ w0.heap.size h0 es init hl)
    (hi0: ∀f:Nat→Nat,(∀k,k<H.na→f k=ρ.nb k)→fr0.map (SR.den S (ρ.nbs f) w0.heap.size)=init)
    {Q:Exit→Act→World→Prop}(hQ: ∀(f:Nat→Nat) a w,(∀k,k<H.na→f k=ρ.nb k)→a.tmps.toList=Cd (fun _=>true) 0 (Bj S (ρ.nbs f) w0.heap.size es) init→a.defers=[]→Cv S (ρ.nbs f) w0 hl w→Q .normal a w):
    ∀(fuel:Nat) (listed:Array Bool) (a:Act) (w:World),j2o S ρ w0 h0 es init H als p listed a w→((List.range es.length).filter fun i=> !listed.getD i false).length≤fuel→
      wpAny P .any (es.map (·.o)).toArray Q fuel listed a w:=by
  have hst':=hst
  unfold Dr at hst'
  simp only[Bool.and_eq_true] at hst'
  obtain ⟨hb,ht⟩:=hst'
  obtain ⟨x0,hx0⟩: ∃x,x∈als:=by
    cases als with
    | nil=>exact absurd rfl hne
    | cons x l=>exact ⟨x,List.mem_cons_self⟩
  have hx0i:x0.1<es.length:=by
    obtain ⟨e,he,_⟩:=lp.al x0 hx0
    exact (List.getElem?_eq_some_iff.1 he).1
  have hsize: ∀{listed:Array Bool} {a:Act} {w:World},j2o S ρ w0 h0 es init H als p listed a w→listed.size=es.length:=by
    intro listed a w h
    rcases h with ⟨h,_⟩|⟨f,h,_⟩|⟨f,_,h,_⟩
    · exact h.size
    · exact h.size
    · exact h.size
  have hstop: ∀(listed:Array Bool) (a:Act) (w:World),j2o S ρ w0 h0 es init H als p listed a w→Region.ready .any (es.map (·.o)).toArray listed=[]→Q .normal a w:=by
    intro listed a w h hr
    have hall:=Yt (ops:=es.map (·.o)) (by simpa using hsize h) hb hr
    have hx0l:=hall x0.1 (by simpa using hx0i)
    rcases h with ⟨_,h⟩|⟨f,_,x,hx,h⟩|⟨f,hf,hm,_⟩
    · rw[h x0 hx0] at hx0l;cases hx0l
    · obtain ⟨e,he,_⟩:=lp.al x hx
      rw[hall x.1 (by simpa using (List.getElem?_eq_some_iff.1 he).1)] at h;cases h
    · obtain ⟨t,h,h1,h2,h3,h4⟩:=hm.heap
      refine hQ f a w hf ?_ hm.defers ?_
      · rw[hm.fr]
        apply List.ext_getElem?
        intro s
        apply Ki _ _ _ _ rfl rfl
        intro i e hi _
        obtain ⟨e',hi',_⟩:=Jm hi
        simp only[Nat.zero_add]
        exact hall i (by simpa using (List.getElem?_eq_some_iff.1 hi').1)
      · have htl:t=(Bh 0 es).length:=by
          rcases Nat.lt_or_ge t (Bh 0 es).length with hlt|hge
          · have hi:=h2 t _ (List.getElem?_eq_getElem hlt)
            obtain ⟨e',q1,_⟩:=(Gc 0 sh.chain).1 t _ (List.getElem?_eq_getElem hlt)
            have:=hi.1 (hall _ (by simpa using (List.getElem?_eq_some_iff.1 q1).1))
            omega
          · omega
        have:=(Gc 0 sh.chain).2.1
        rw[←htl,h3] at this
        injection this with this
        rw[←this];exact h4
  intro fuel
  induction fuel with
  | zero=>
    intro listed a w hm hf
    have hr:Region.ready .any (es.map (·.o)).toArray listed=[]:=by
      rw[List.eq_nil_iff_forall_not_mem]
      intro i hi
      obtain ⟨r1,r2,_⟩:=Fr hi
      have r1:i<es.length:=by simpa using r1
      rw[Jy _ _ (by rw[hsize hm];exact r1)] at r2
      have:i∈(List.range es.length).filter fun i=> !listed.getD i false:=by
        rw[List.mem_filter];exact ⟨List.mem_range.2 r1,by rw[r2];rfl⟩
      have:=List.length_pos_of_mem this
      omega
    exact ⟨hr,hstop listed a w hm hr⟩
  | succ fuel ih=>
    intro listed a w hm hf
    refine ⟨hstop listed a w hm,fun i hi=> ?_⟩
    obtain ⟨r1,r2,r3⟩:=Fr hi
    have r1':i<es.length:=by simpa using r1
    have hil:i<listed.size:=by rw[hsize hm];exact r1'
    rw[Jy _ _ hil] at r2
    obtain ⟨e,hei⟩: ∃e,es[i]? =some e:=⟨_,List.getElem?_eq_getElem r1'⟩
    have hoi:(es.map (·.o))[i]? =some e.o:=by simp[hei]
    have hoa:(es.map (·.o)).toArray[i]? =some e.o:=by simpa using hoi
    have hpre:=r3 e.o hoa
    have hless:((List.range es.length).filter fun j=> !(listed.setIfInBounds i true).getD j false).length≤fuel:=by
      have:((List.range es.length).filter fun j=> !(listed.setIfInBounds i true).getD j false).length<((List.range es.length).filter fun j=> !listed.getD j false).length:=by
          have e1:((List.range es.length).filter fun j=> !(listed.setIfInBounds i true).getD j false)=((List.range es.length).filter fun j=> !listed.getD j false).filter fun j=>j !=i:=by
            rw[List.filter_filter]
            apply List.filter_congr
            intro j _
            rw[Da _ _ _ hil]
            by_cases hji:j=i
            · subst hji;simp
            · simp[hji]
          rw[e1]
          have hmem:i∈(List.range es.length).filter fun j=> !listed.getD j false:=by
            rw[List.mem_filter];exact ⟨List.mem_range.2 r1',by rw[r2];rfl⟩
          exact List.length_filter_lt_length_iff_exists.2 ⟨i,hmem,by simp⟩
      omega
    have effmem:Eb e=true→i∈Bh 0 es:=by
      intro h
      rw[←Me,List.mem_filterMap]
      exact ⟨(e,i),List.mem_zipIdx_iff_getElem?.2 hei,by simp[h]⟩
    rcases hm with ⟨hm,hun⟩|⟨f,hm,hun⟩|⟨f,hf',hm,hall⟩
    · have hmask:=Ds hb hm.closed i e.o hoi hpre
      by_cases hiA:i∈A
      · obtain ⟨f,hm2⟩:=jqp lp hst sh.chain hm hun hiA hmask
        exact ji7 hsp lp hst sh hi0 hm2 ⟨x0,hx0,hun x0 hx0⟩ hi fun g a' w' hm'=>ih _ _ _ (jii lp sh.chain hm') hless
      · refine Nc hsp hst (.inr lp.still) sh.chain sh.met hei (sh.fr i e hei) (sh.want i e hei) (sh.st i e hei) (sh.no i e hei) (fun he j hj hji=> ?_) hm hi fun a' w' hm'=>ih _ _ _ (.inl ⟨hm',fun x hx=> ?_⟩) hless
        · rcases lp.ord j hj i (effmem he) hji with h|h
          · exact .inl h
          · exact absurd h.2 hiA
        · rw[Da _ _ _ hil,if_neg (by intro h;exact hiA (by rw[←h];exact (lp.rng x hx).2.2.2))]
          exact hun x hx
    · exact ji7 hsp lp hst sh hi0 hm hun hi fun g a' w' hm'=>ih _ _ _ (jii lp sh.chain hm') hless
    · have shf:Td P specs S (ρ.nbs f) w0.heap.size h0 es init hl:=sh.nbs lp.frames (hi0 f hf') lp.guard
      have hiA:i∉A:=by
        intro h
        obtain ⟨x,hx,hxi⟩:=lp.Aals i h
        have:=hall x hx
        rw[hxi,r2] at this;cases this
      refine Nc hsp hst (.inr lp.still) shf.chain shf.met hei (shf.fr i e hei) (shf.want i e hei) (shf.st i e hei) (shf.no i e hei) (fun he j hj hji=> ?_) hm hi fun a' w' hm'=>ih _ _ _ (.inr (.inr ⟨f,hf',hm',fun x hx=> ?_⟩)) hless
      · rcases lp.ord j hj i (effmem he) hji with h|h
        · exact .inl h
        · exact absurd h.2 hiA
      · rw[Da _ _ _ hil]
        split
        · rfl
        · exact hall x hx
end
section
variable {S:Hw} {ρ:Et} {w0:World} {P:Program} {specs:Nat→Option Ec}
theorem Cg.mono{lo na na':Nat}{ρ ρ':Et}(h:Cg lo na' ρ ρ')(hn:na≤na'):Cg lo na ρ ρ':=
  ⟨h.1,h.2,h.3,h.4,h.5,h.6,h.7,h.8,fun k hk=>h.9 k (by omega),h.10⟩
theorem jnm(hsp: ∀f s,specs f=some s→Ei P S f s){h0:Hp}{es:List Fs}{init:List Value}{hl:Hp}{k a:Nat}(hst:Dr (es.map (·.o))=true)(hok:Lp P specs h0 es=true)(hchain:Je h0 es hl)
    (hord: ∀i∈Bh 0 es,∀j∈Bh 0 es,j<i→((Ex (es.map (·.o))).getD i 0).testBit j=true∨j=k)
    (hneed:Dx S ρ (es.flatMap (·.r.need)))(htold: ∀j e,es[j]? =some e→j≠k→j≠a→jb0 P specs S ρ w0.heap.size es init j e)
    {Q:Exit→Act→World→Prop}(hQ: ∀a w,a.tmps.toList=Cd (fun _=>true) 0 (Bj S ρ w0.heap.size es) init→a.defers=[]→Cv S ρ w0 hl w→Q .normal a w):
    ∀(fuel:Nat) (listed:Array Bool) (b:Act) (w:World),Mid S ρ w0 h0 es init listed b w→listed.getD k false=true→listed.getD a false=true→((List.range es.length).filter fun i=> !listed.getD i false).length≤fuel→
      wpAny P .any (es.map (·.o)).toArray Q fuel listed b w:=by
  have hb:Jc (es.map (·.o))=true:=by
    unfold Dr at hst;simp only[Bool.and_eq_true] at hst;exact hst.1
  intro fuel
  induction fuel with
  | zero=>
    intro listed b w hm hk ha hf
    have hr:=Pi hm.size hf
    obtain ⟨q1,q2,_⟩:=Ld hb hchain hm hr
    exact ⟨hr,hQ b w q1 hm.defers q2⟩
  | succ fuel ih=>
    intro listed b w hm hk ha hf
    refine ⟨fun hr=> ?_,fun i hi=> ?_⟩
    · obtain ⟨q1,q2,_⟩:=Ld hb hchain hm hr
      exact hQ b w q1 hm.defers q2
    obtain ⟨r1,r2,_⟩:=Fr hi
    have r1':i<es.length:=by simpa using r1
    have hil:i<listed.size:=by rw[hm.size];exact r1'
    rw[Jy _ _ hil] at r2
    obtain ⟨e,hei⟩: ∃e,es[i]? =some e:=⟨_,List.getElem?_eq_getElem r1'⟩
    have hik:i≠k:=fun h=>by subst h;rw[r2] at hk;cases hk
    have hia:i≠a:=fun h=>by subst h;rw[r2] at ha;cases ha
    have ht:=htold i e hei hik hia
    refine Nc hsp hst (.inr hok) hchain hneed hei ht.fr ht.want ht.st ht.no (fun hne j hj hji=> ?_) hm hi fun a' w' hm'=>ih _ _ _ hm' ?_ ?_ ?_
    · have hmem:i∈Bh 0 es:=by
        rw[←Me,List.mem_filterMap]
        exact ⟨(e,i),List.mem_zipIdx_iff_getElem?.2 hei,by simp[hne]⟩
      rcases hord i hmem j hj hji with h|h
      · exact .inl h
      · subst h;exact .inr hk
    · rw[Da _ _ _ hil];split
      · rfl
      · exact hk
    · rw[Da _ _ _ hil];split
      · rfl
      · exact ha
    · have:=Kn hil r1' r2
      omega
theorem j2m(hsp: ∀f s,specs f=some s→Ei P S f s){rsp:Nat→Option Ff}(hrsp: ∀f s,rsp f=some s→Dw P S f s){h0:Hp}{es:List Fs}{init:List Value}{hl:Hp}{k a:Nat}{x:Fs}{rr:Wv}
    (hst:Dr (es.map (·.o))=true)(hok:Lp P specs h0 es=true)(hchain:Je h0 es hl)
    (hord: ∀i∈Bh 0 es,∀j∈Bh 0 es,j<i→((Ex (es.map (·.o))).getD i 0).testBit j=true∨j=k)(heff: ∀j∈Bh 0 es,k≤j)
    (hneed:Dx S ρ (es.flatMap (·.r.need)))(hk:es[k]? =some x)
    (hx:Ti P rsp (Do x.fr) x.heap x.o=some rr)(hxr:x.r=⟨rr.need,rr.val,rr.heap⟩)(hxe:Eb x=true)(hxn:Dx S ρ rr.need)
    (hxf:x.fr.map (SR.den S ρ w0.heap.size)=Cd (fun i=>decide (i<k)) 0 (Bj S ρ w0.heap.size es) init)(hxwf: ∀y∈x.fr,y.wf S ρ)
    (hxw:Region.wanted x.o (yielded (es.map (·.o)).toArray (Cd (fun i=>decide (i<k)) 0 (Bj S ρ w0.heap.size es) init).toArray)=true)
    (htold: ∀j e,es[j]? =some e→j<k→jb0 P specs S ρ w0.heap.size es init j e)
    (hwait: ∀j,k<j→j≠a→j<es.length→((Ex (es.map (·.o))).getD j 0).testBit k=true)
    (hclr: ∀j e,es[j]? =some e→j<k∨j=a→e.r.val.clear rr.ns rr.na=true)
    (hB: ∀ρ',Cg rr.ns rr.na ρ ρ'→Dx S ρ' rr.facts→rr.val.wf S ρ'→Dx S ρ' (es.flatMap (·.r.need))∧ ∀j e,es[j]? =some e→j≠k→j≠a→jb0 P specs S ρ' w0.heap.size es init j e)
    {Q:Exit→Act→World→Prop}(hQ: ∀ρ' b w,Cg rr.ns rr.na ρ ρ'→Dx S ρ' rr.facts→rr.val.wf S ρ'→b.tmps.toList=Cd (fun _=>true) 0 (Bj S ρ' w0.heap.size es) init→b.defers=[]→Cv S ρ' w0 hl w→Q .normal b w):
    ∀(fuel:Nat) (listed:Array Bool) (b:Act) (w:World),Mid S ρ w0 h0 es init listed b w→listed.getD k false=false→listed.getD a false=true→((List.range es.length).filter fun i=> !listed.getD i false).length≤fuel→
      wpAny P .any (es.map (·.o)).toArray Q fuel listed b w:=by
  have hb:Jc (es.map (·.o))=true:=by
    unfold Dr at hst;simp only[Bool.and_eq_true] at hst;exact hst.1
  have hkl:k<es.length:=(List.getElem?_eq_some_iff.1 hk).1
  intro fuel
  induction fuel with
  | zero=>
    intro listed b w hm hkn ha hf
    have hr:=Pi hm.size hf
    obtain ⟨_,_,q3⟩:=Ld hb hchain hm hr
    rw[q3 k hkl] at hkn;cases hkn
  | succ fuel ih=>
    intro listed b w hm hkn ha hf
    refine ⟨fun hr=> ?_,fun i hi=> ?_⟩
    · obtain ⟨_,_,q3⟩:=Ld hb hchain hm hr
      rw[q3 k hkl] at hkn;cases hkn
    obtain ⟨r1,r2,r3⟩:=Fr hi
    have r1':i<es.length:=by simpa using r1
    have hil:i<listed.size:=by rw[hm.size];exact r1'
    rw[Jy _ _ hil] at r2
    obtain ⟨e,hei⟩: ∃e,es[i]? =some e:=⟨_,List.getElem?_eq_getElem r1'⟩
    have hia:i≠a:=fun h=>by subst h;rw[r2] at ha;cases ha
    have hoi:(es.map (·.o))[i]? =some e.o:=by simp[hei]
    have hoa:(es.map (·.o)).toArray[i]? =some e.o:=by simpa using hoi
    have hmask:=Ds hb hm.closed i e.o hoi (r3 e.o hoa)
    have hlisted: ∀j,listed.getD j false=true→j<k∨j=a:=by
      intro j hj
      have hjl:j<es.length:=by
        rcases Nat.lt_or_ge j listed.size with h|h
        · rw[hm.size] at h;exact h
        · rw[Array.getD_eq_getD_getElem?,Array.getElem?_eq_none h] at hj;cases hj
      by_cases hja:j=a
      · exact .inr hja
      rcases Nat.lt_trichotomy j k with h|h|h
      · exact .inl h
      · rw[h,hkn] at hj;cases hj
      · exfalso
        have hoj:(es.map (·.o))[j]? =some es[j].o:=by simp[hjl]
        have:=Ds hb hm.closed j es[j].o hoj (fun x h1 h2=>hm.closed j es[j].o hoj hj x h1 h2) k (hwait j h hja hjl)
        rw[hkn] at this;cases this
    by_cases hik:i=k
    · subst hik
      rw[hk] at hei
      injection hei with hei
      subst hei
      refine Xm (G:=fun ρ'=>Cg rr.ns rr.na ρ ρ'∧Dx S ρ' rr.facts∧rr.val.wf S ρ') hst hchain hk hxf hxw hxe (fun j hj hji=>by have:=heff j hj;omega) hm hi ?_ ?_ ?_
      · intro ρ' hG j hj
        have hjk:=hlisted j hj
        obtain ⟨e',hej⟩: ∃e',es[j]? =some e':=by
          have hjl:j<es.length:=by
            rcases Nat.lt_or_ge j listed.size with h|h
            · rw[hm.size] at h;exact h
            · rw[Array.getD_eq_getD_getElem?,Array.getElem?_eq_none h] at hj;cases hj
          exact ⟨_,List.getElem?_eq_getElem hjl⟩
        rw[Kq hej,Kq hej,(SR.clear_den hG.1 (hclr j _ hej hjk)).1]
      · intro K Q' hag hh hK
        have:=Vi hrsp hx hxn (Gs hxwf) hag hh
        refine this K Q' fun ρ' w' b1 b2 b3 b4=> ?_
        have h5:=hK ρ' w' ⟨b1,b2,b3⟩ (by rw[hxr];exact b4)
        rw[hxr] at h5;exact h5
      · intro ρ' a' w' hG hm'
        obtain ⟨hn',ht'⟩:=hB ρ' hG.1 hG.2.1 hG.2.2
        refine jnm hsp hst hok hchain hord hn' ht' (fun b w=>hQ ρ' b w hG.1 hG.2.1 hG.2.2) fuel _ a' w' hm' ?_ ?_ ?_
        · rw[Da _ _ _ hil];simp
        · rw[Da _ _ _ hil,if_neg (fun h=>hia h.symm)];exact ha
        · have:=Kn hil r1' r2
          omega
    · have hlt:i<k:=by
        rcases Nat.lt_or_ge i k with h|h
        · exact h
        · exfalso
          have:=hmask k (hwait i (by omega) hia r1')
          rw[hkn] at this;cases this
      have ht:=htold i e hei hlt
      refine Nc hsp hst (.inr hok) hchain hneed hei ht.fr ht.want ht.st ht.no (fun hne j hj hji=>by have:=heff j hj;omega) hm hi fun a' w' hm'=>ih _ _ _ hm' ?_ ?_ ?_
      · rw[Da _ _ _ hil,if_neg (fun h=>hik h.symm)];exact hkn
      · rw[Da _ _ _ hil,if_neg (fun h=>hia h.symm)];exact ha
      · have:=Kn hil r1' r2
        omega
theorem j3s(hsp: ∀f s,specs f=some s→Ei P S f s){rsp:Nat→Option Ff}(hrsp: ∀f s,rsp f=some s→Dw P S f s){h0 hA:Hp}{es es2 es3:List Fs}{init:List Value}{hl h3:Hp}{k a:Nat}{x x2 a3:Fs}{rr r2:Wv}
    (m2:es2.map (·.o)=es.map (·.o))(m3:es3.map (·.o)=es.map (·.o))(p2:Bj S ρ w0.heap.size es2=Bj S ρ w0.heap.size es)(p3: ∀j,j<k∨j=a→(Bj S ρ w0.heap.size es3)[j]? =(Bj S ρ w0.heap.size es)[j]?)
    (hst:Dr (es.map (·.o))=true)(hok:Lp P specs h0 es=true)(hok2:Lp P specs hA es2=true)(hok3:Lp P specs h0 es3=true)
    (hchain:Je h0 es hl)(hchain2:Je hA es2 hl)(hchain3:Je h0 es3 h3)
    (hord: ∀i∈Bh 0 es,∀j∈Bh 0 es,j<i→((Ex (es.map (·.o))).getD i 0).testBit j=true∨j=k)(heff: ∀j∈Bh 0 es,k≤j)
    (hord2: ∀i∈Bh 0 es2,∀j∈Bh 0 es2,j<i→((Ex (es2.map (·.o))).getD i 0).testBit j=true∨j=k)(heff2: ∀j∈Bh 0 es2,k≤j∧j≠a)
    (heff3:Bh 0 es3=[a])(hheap3:(Eo h0 es3)[1]? =some hA)
    (hneed:Dx S ρ (es.flatMap (·.r.need)))(hneed2:Dx S ρ (es2.flatMap (·.r.need)))(hneed3:Dx S ρ (es3.flatMap (·.r.need)))(hka:k<a)(hk:es[k]? =some x)(hk2:es2[k]? =some x2)(ha3:es3[a]? =some a3)
    (hx:Ti P rsp (Do x.fr) x.heap x.o=some rr)(hxr:x.r=⟨rr.need,rr.val,rr.heap⟩)(hxe:Eb x=true)(hxn:Dx S ρ rr.need)
    (hx2:Ti P rsp (Do x2.fr) x2.heap x2.o=some r2)(hxr2:x2.r=⟨r2.need,r2.val,r2.heap⟩)(hxe2:Eb x2=true)(hxn2:Dx S ρ r2.need)(hxo:x2.o=x.o)(hxfr:x2.fr=x.fr)
    (hsn:r2.ns=rr.ns)(hsv:r2.val=rr.val)(hsf:r2.facts=rr.facts)(hsa:rr.na≤r2.na)
    (hxf:x.fr.map (SR.den S ρ w0.heap.size)=Cd (fun i=>decide (i<k)) 0 (Bj S ρ w0.heap.size es) init)(hxwf: ∀y∈x.fr,y.wf S ρ)
    (hxw:Region.wanted x.o (yielded (es.map (·.o)).toArray (Cd (fun i=>decide (i<k)) 0 (Bj S ρ w0.heap.size es) init).toArray)=true)
    (htold: ∀j e,es[j]? =some e→j<k→jb0 P specs S ρ w0.heap.size es init j e)(htold2: ∀j e,es2[j]? =some e→j<k→jb0 P specs S ρ w0.heap.size es2 init j e)(htold3:jb0 P specs S ρ w0.heap.size es3 init a a3)
    (hwait: ∀j,k<j→j≠a→j<es.length→((Ex (es.map (·.o))).getD j 0).testBit k=true)
    (hclr: ∀j e,es[j]? =some e→j<k→e.r.val.clear rr.ns rr.na=true)(hclr2: ∀j e,es2[j]? =some e→j<k∨j=a→e.r.val.clear r2.ns r2.na=true)
    (hB: ∀ρ',Cg rr.ns rr.na ρ ρ'→Dx S ρ' rr.facts→rr.val.wf S ρ'→(Dx S ρ' (es.flatMap (·.r.need))∧ ∀j e,es[j]? =some e→j≠k→jb0 P specs S ρ' w0.heap.size es init j e)∧
      (Dx S ρ' (es2.flatMap (·.r.need))∧ ∀j e,es2[j]? =some e→j≠k→j≠a→jb0 P specs S ρ' w0.heap.size es2 init j e)∧Bj S ρ' w0.heap.size es2=Bj S ρ' w0.heap.size es)
    {Q:Exit→Act→World→Prop}(hQ: ∀ρ' b w,Cg rr.ns rr.na ρ ρ'→Dx S ρ' rr.facts→rr.val.wf S ρ'→b.tmps.toList=Cd (fun _=>true) 0 (Bj S ρ' w0.heap.size es) init→b.defers=[]→Cv S ρ' w0 hl w→Q .normal b w):
    ∀(fuel:Nat) (listed:Array Bool) (b:Act) (w:World),Mid S ρ w0 h0 es init listed b w→listed.getD k false=false→listed.getD a false=false→((List.range es.length).filter fun i=> !listed.getD i false).length≤fuel→
      wpAny P .any (es.map (·.o)).toArray Q fuel listed b w:=by
  have hb:Jc (es.map (·.o))=true:=by
    unfold Dr at hst;simp only[Bool.and_eq_true] at hst;exact hst.1
  have hkl:k<es.length:=(List.getElem?_eq_some_iff.1 hk).1
  have hl2:es2.length=es.length:=by have:=congrArg List.length m2;simpa using this
  have hl3:es3.length=es.length:=by have:=congrArg List.length m3;simpa using this
  intro fuel
  induction fuel with
  | zero=>
    intro listed b w hm hkn han hf
    have hr:=Pi hm.size hf
    obtain ⟨_,_,q3⟩:=Ld hb hchain hm hr
    rw[q3 k hkl] at hkn;cases hkn
  | succ fuel ih=>
    intro listed b w hm hkn han hf
    refine ⟨fun hr=> ?_,fun i hi=> ?_⟩
    · obtain ⟨_,_,q3⟩:=Ld hb hchain hm hr
      rw[q3 k hkl] at hkn;cases hkn
    obtain ⟨r1,r2',r3⟩:=Fr hi
    have r1':i<es.length:=by simpa using r1
    have hil:i<listed.size:=by rw[hm.size];exact r1'
    rw[Jy _ _ hil] at r2'
    obtain ⟨e,hei⟩: ∃e,es[i]? =some e:=⟨_,List.getElem?_eq_getElem r1'⟩
    have hoi:(es.map (·.o))[i]? =some e.o:=by simp[hei]
    have hoa:(es.map (·.o)).toArray[i]? =some e.o:=by simpa using hoi
    have hmask:=Ds hb hm.closed i e.o hoi (r3 e.o hoa)
    have hbnd: ∀j,listed.getD j false=true→j<es.length:=by
      intro j hj
      rcases Nat.lt_or_ge j listed.size with h|h
      · rw[hm.size] at h;exact h
      · rw[Array.getD_eq_getD_getElem?,Array.getElem?_eq_none h] at hj;cases hj
    have hlisted: ∀j,listed.getD j false=true→j<k:=by
      intro j hj
      have hjl:=hbnd j hj
      have hja:j≠a:=fun h=>by rw[h,han] at hj;cases hj
      rcases Nat.lt_trichotomy j k with h|h|h
      · exact h
      · rw[h,hkn] at hj;cases hj
      · exfalso
        have hoj:(es.map (·.o))[j]? =some es[j].o:=by simp[hjl]
        have:=Ds hb hm.closed j es[j].o hoj (fun x h1 h2=>hm.closed j es[j].o hoj hj x h1 h2) k (hwait j h hja hjl)
        rw[hkn] at this;cases this
    by_cases hik:i=k
    · subst hik
      rw[hk] at hei
      injection hei with hei
      subst hei
      refine Xm (G:=fun ρ'=>Cg rr.ns rr.na ρ ρ'∧Dx S ρ' rr.facts∧rr.val.wf S ρ') hst hchain hk hxf hxw hxe (fun j hj hji=>by have:=heff j hj;omega) hm hi ?_ ?_ ?_
      · intro ρ' hG j hj
        have hjk:=hlisted j hj
        have hej:es[j]? =some (es[j]'(hbnd j hj)):=List.getElem?_eq_getElem _
        rw[Kq hej,Kq hej,(SR.clear_den hG.1 (hclr j _ hej hjk)).1]
      · intro K Q' hag hh hK
        have:=Vi hrsp hx hxn (Gs hxwf) hag hh
        refine this K Q' fun ρ' w' b1 b2 b3 b4=> ?_
        have h5:=hK ρ' w' ⟨b1,b2,b3⟩ (by rw[hxr];exact b4)
        rw[hxr] at h5;exact h5
      · intro ρ' a' w' hG hm'
        obtain ⟨⟨hn',ht'⟩,_⟩:=hB ρ' hG.1 hG.2.1 hG.2.2
        refine jnm (a:=i) hsp hst hok hchain hord hn' (fun j e h1 h2 _=>ht' j e h1 h2) (fun b w=>hQ ρ' b w hG.1 hG.2.1 hG.2.2) fuel _ a' w' hm' ?_ ?_ ?_
        · rw[Da _ _ _ hil];simp
        · rw[Da _ _ _ hil];simp
        · have:=Kn hil r1' r2'
          omega
    by_cases hia:i=a
    · subst hia
      have hm3:Mid S ρ w0 h0 es3 init listed b w:=by
        obtain ⟨t,h,g1,g2,g3,g4⟩:=hm.heap
        have ht0:t=0:=by
          rcases Nat.eq_zero_or_pos t with h|h
          · exact h
          · exfalso
            have h0l:0<(Bh 0 es).length:=by omega
            have:=(g2 0 _ (List.getElem?_eq_getElem h0l)).2 h
            have:=hlisted _ this
            have:=heff _ (List.getElem_mem h0l)
            omega
        refine ⟨by rw[hm.size,hl3],by rw[m3];exact hm.closed,?_,hm.defers,0,h0,Nat.zero_le _,?_,by simp[Eo],?_⟩
        · rw[hm.fr]
          refine Ql _ 0 _ _ _ (by simp[Bj,hl3]) (fun j hj=> ?_) rfl
          exact (p3 j (.inl (hlisted j (by simpa using hj)))).symm
        · intro q j hj
          rw[heff3] at hj
          have:j=i:=by
            rcases q with _|q
            · simpa using hj.symm
            · simp at hj
          subst this
          rw[han];simp
        · have:h=h0:=by
            rw[ht0] at g3
            unfold Eo at g3
            simpa using g3.symm
          rw[←this];exact g4
      have hi3:i∈Region.ready .any (es3.map (·.o)).toArray listed:=by rw[m3];exact hi
      rw[←m3]
      refine Nc hsp (by rw[m3];exact hst) (.inr hok3) hchain3 hneed3 ha3 htold3.fr htold3.want htold3.st htold3.no (fun _ j hj hji=>by rw[heff3,List.mem_singleton] at hj;omega) hm3 hi3 fun b' w' hm'=> ?_
      have hfuel:((List.range es2.length).filter fun j=> !(listed.setIfInBounds i true).getD j false).length≤fuel:=by
        rw[hl2]
        have:=Kn hil r1' r2'
        omega
      have hmid:Mid S ρ w0 hA es2 init (listed.setIfInBounds i true) b' w':=by
        obtain ⟨t,h,g1,g2,g3,g4⟩:=hm'.heap
        have ht1:t=1:=by
          rw[heff3] at g1 g2
          have:=(g2 0 i rfl).1 (by rw[Da _ _ _ hil];simp)
          simp at g1;omega
        have hhA:h=hA:=by
          rw[ht1,hheap3] at g3
          exact (Option.some.inj g3).symm
        have hls: ∀j,(listed.setIfInBounds i true).getD j false=true→j<k∨j=i:=by
          intro j hj
          rw[Da _ _ _ hil] at hj
          split at hj
          · exact .inr ‹_›
          · exact .inl (hlisted j hj)
        refine ⟨by rw[hm'.size,hl3,hl2],by rw[m2,←m3];exact hm'.closed,?_,hm'.defers,0,hA,Nat.zero_le _,?_,by simp[Eo],?_⟩
        · rw[hm'.fr,p2]
          refine Ql _ 0 _ _ _ (by simp[Bj,hl3]) (fun j hj=> ?_) rfl
          exact p3 j (hls j (by simpa using hj))
        · intro q j hj
          have hje:=heff2 j (List.mem_of_getElem? hj)
          constructor
          · intro h
            rcases hls j h with h|h
            · omega
            · exact absurd h hje.2
          · intro h;omega
        · rw[←hhA];exact g4
      have:=j2m (a:=i) hsp hrsp (by rw[m2];exact hst) hok2 hchain2 hord2 (fun j hj=>(heff2 j hj).1) hneed2 hk2 hx2 hxr2 hxe2 hxn2 (by rw[hxfr,p2];exact hxf) (by rw[hxfr];exact hxwf) (by rw[hxo,m2,p2];exact hxw) htold2
        (fun j h1 h2 h3=>by rw[m2];exact hwait j h1 h2 (by omega)) hclr2
        (fun ρ' g1 g2 g3=>by
          rw[hsn] at g1
          rw[hsf] at g2
          rw[hsv] at g3
          exact (hB ρ' (g1.mono hsa) g2 g3).2.1)
        (Q:=Q) (fun ρ' b w g1 g2 g3 g4 g5 g6=>by
          rw[hsn] at g1
          rw[hsf] at g2
          rw[hsv] at g3
          rw[(hB ρ' (g1.mono hsa) g2 g3).2.2] at g4
          exact hQ ρ' b w (g1.mono hsa) g2 g3 g4 g5 g6)
        fuel _ b' w' hmid (by rw[Da _ _ _ hil,if_neg (by omega)];exact hkn) (by rw[Da _ _ _ hil];simp) hfuel
      rw[m2,←m3] at this
      exact this
    · have hlt:i<k:=by
        rcases Nat.lt_or_ge i k with h|h
        · exact h
        · exfalso
          have:=hmask k (hwait i (by omega) hia r1')
          rw[hkn] at this;cases this
      have ht:=htold i e hei hlt
      refine Nc hsp hst (.inr hok) hchain hneed hei ht.fr ht.want ht.st ht.no (fun hne j hj hji=>by have:=heff j hj;omega) hm hi fun a' w' hm'=>ih _ _ _ hm' ?_ ?_ ?_
      · rw[Da _ _ _ hil,if_neg (fun h=>hik h.symm)];exact hkn
      · rw[Da _ _ _ hil,if_neg (fun h=>hia h.symm)];exact han
      · have:=Kn hil r1' r2'
        omega
end
end
end Go.Proofs.YtljjbikbfeigdaaGreatDoor
