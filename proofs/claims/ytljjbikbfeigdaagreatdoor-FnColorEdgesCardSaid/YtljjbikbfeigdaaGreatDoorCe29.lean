/- Part of the proof of FnColorEdgesCardSaid: What the package variables hold, by the rows' cell; from contracts to walks: the laws on a gray image's coefficients. -/
import Derived.Test.YtljjbikbfeigdaaGreatDoorCe28
import Derived.ProofKit
import Derived.LaidMore
import Derived.Stop.Joined
set_option linter.all false
namespace Go.Proofs.YtljjbikbfeigdaaGreatDoor
noncomputable section
open Go
section
open Go Go.ChangeShapes Go.WideShapes Go.RowKit
theorem j4y:Tryz.prog.globalNamed "jpegcodec/spec.basis" =some 0:=by kernel_rfl
theorem qfv:Tryz.prog.globalNamed "jpegcodec/spec.zigzag" =some 1:=by kernel_rfl
theorem qcl:(Tryz.prog.globals[0]?).map (·.type)=some 83:=by kernel_rfl
theorem qkc:(Tryz.prog.globals[1]?).map (·.type)=some 27:=by kernel_rfl
theorem qgp:Tryz.prog.underlying 83=some (.array 8 82):=by kernel_rfl
theorem qii:Tryz.prog.underlying 82=some (.array 8 3):=by kernel_rfl
theorem qid:Tryz.prog.cellsOf 82=8:=by kernel_rfl
theorem qku:Tryz.prog.cellsOf 83=64:=by kernel_rfl
def jxg:List (List Int):=(List.range 8).map fun i=>(Fx.drop (i*8)).take 8
theorem joz:jxg.flatten=Fx:=by kernel_rfl
theorem j9n:(Rows.laid_jpegcodec_spec_basis:DataW Unit)=.agg (jxg.map (Lib.tabData .i64)):=by kernel_rfl
theorem qm6:(Rows.laid_jpegcodec_spec_zigzag:DataW Unit)=Lib.tabData .i64 (Z.fa 45 0 0 0 0 [] [] [] []):=by kernel_rfl
theorem jz7{α:Type}(m:Nat): ∀(rows:List (List α)) (cs:List α),cs.length=rows.length*m→(∀i r,rows[i]? =some r→(cs.drop (i*m)).take m=r)→cs=rows.flatten
  | [],cs,h,_=>by
    simp at h
    simp[h]
  | r::rows,cs,h,hr=>by
    have h0:=hr 0 r rfl
    rw[Nat.zero_mul,List.drop_zero] at h0
    have ih:=jz7 m rows (cs.drop m) (by rw[List.length_drop,h,List.length_cons,Nat.add_mul,Nat.one_mul];omega) (fun i r' hi=>by
      have:=hr (i+1) r' (by simpa using hi)
      rw[List.drop_drop]
      rw[Nat.add_mul,Nat.one_mul,Nat.add_comm] at this
      exact this)
    rw[List.flatten_cons,←h0,←ih,List.take_append_drop]
theorem jgx{w:World}{fuel:Nat}{cs:List Value}{rows:List (List Int)}{p:List MemPlace}(hl8:rows.length=8)(h:DataW.trod (fun _=>()) Tryz.prog w 0 (fun _=>true) false fuel 83 cs=some (.agg (rows.map (Lib.tabData .i64)),p)):
    cs=rows.flatten.map fun z=>Value.int .i64 z:=by
  cases fuel with
  | zero=>simp[DataW.trod] at h
  | succ fuel=>
    simp only[DataW.trod,qgp,qid,qku] at h
    split at h
    · rename_i hl
      obtain ⟨xs,hm,hx⟩:=Option.map_eq_some_iff.1 h
      have hxs:xs.map (·.1)=rows.map (Lib.tabData .i64):=by
        have:=congrArg Prod.fst hx
        simpa using this
      rw[List.map_flatten]
      refine jz7 8 _ _ (by rw[List.length_map,hl8,hl]) fun i r hi=> ?_
      rw[List.getElem?_map,Option.map_eq_some_iff] at hi
      obtain ⟨z,hz,rfl⟩:=hi
      have hi8:i<8:=by rw[←hl8];exact (List.getElem?_eq_some_iff.1 hz).1
      obtain ⟨b,hb,hf⟩:=Lib.mapM_at hm i i (by simp[hi8])
      have e0:b.1=Lib.tabData .i64 z:=by
        have:(xs.map (·.1))[i]? =some b.1:=by simp[hb]
        rw[hxs,List.getElem?_map,hz] at this
        simpa using this.symm
      obtain ⟨b0,b1⟩:=b
      simp only at e0
      subst e0
      exact Lib.cells_of_tab qii j3u co3 qid hf
    · cases h
def We:List (String×DataW Unit):=[("jpegcodec/spec.basis",Rows.laid_jpegcodec_spec_basis),("jpegcodec/spec.zigzag",Rows.laid_jpegcodec_spec_zigzag),("jpegcodec/pub/jpeg.unzig",Rows.laid_jpegcodec_pub_jpeg_unzig),("jpegcodec/pub/jpeg.bitCount",Rows.laid_jpegcodec_pub_jpeg_bitCount),("jpegcodec/pub/jpeg.unscaledQuant",Rows.laid_jpegcodec_pub_jpeg_unscaledQuant)]
def Ln(w:World):Prop:=Sy w∧(∀j v,Fx[j]? =some v→w.cell? ⟨0,j,none⟩=some (.int .i64 v))∧(∀j v,(Z.fa 45 0 0 0 0 [] [] [] [])[j]? =some v→w.cell? ⟨1,j,none⟩=some (.int .i64 v))
theorem Qh{W:World}(h:laidMet Tryz.prog We W):Ln W:=by
  unfold We at h
  obtain ⟨ps,⟨g3,t3,cs3,f3,p3,q3,hg3,ht3,hv3,hd3,⟨g4,t4,cs4,f4,p4,q4,hg4,ht4,hv4,hd4,⟨g0,t0,cs0,f0,p0,q0,hg0,ht0,hv0,hd0,⟨g1,t1,cs1,f1,p1,q1,hg1,ht1,hv1,hd1,⟨g2,t2,cs2,f2,p2,q2,hg2,ht2,hv2,hd2,_,_⟩,_⟩,_⟩,_⟩,_⟩,_,_⟩:=h
  obtain rfl:=Option.some.inj (jtv.symm.trans hg0)
  obtain rfl:=Option.some.inj (j8q.symm.trans hg1)
  obtain rfl:=Option.some.inj (jsh.symm.trans hg2)
  obtain rfl:=Option.some.inj (j4y.symm.trans hg3)
  obtain rfl:=Option.some.inj (qfv.symm.trans hg4)
  obtain rfl:=Option.some.inj (jwu.symm.trans ht0)
  obtain rfl:=Option.some.inj (qfo.symm.trans ht1)
  obtain rfl:=Option.some.inj (jzl.symm.trans ht2)
  obtain rfl:=Option.some.inj (qcl.symm.trans ht3)
  obtain rfl:=Option.some.inj (qkc.symm.trans ht4)
  rw[jwl] at hd0
  rw[qim] at hd1
  rw[j0p] at hd2
  rw[j9n] at hd3
  rw[qm6] at hd4
  have c0:=Lib.cells_of_tab jym j3u co3 j9q hd0
  have c1:=Lib.cells_of_tab jye j2e co5 j7z hd1
  have c2:=jb3 hd2
  rw[List.take_append_drop] at c2
  have c3:=jgx rfl hd3
  rw[joz] at c3
  have c4:=Lib.cells_of_tab jym j3u co3 j9q hd4
  refine ⟨⟨fun j v hj=> ?_,fun j v hj=> ?_,fun j v hj=> ?_⟩,fun j v hj=> ?_,fun j v hj=> ?_⟩
  · have:=World.var?_cell hg0 hv0 j
    rw[this,←Array.getElem?_toList,c0,List.getElem?_map,hj];rfl
  · have:=World.var?_cell hg1 hv1 j
    rw[this,←Array.getElem?_toList,c1,List.getElem?_map,hj];rfl
  · have:=World.var?_cell hg2 hv2 j
    rw[this,←Array.getElem?_toList,c2,List.getElem?_map,hj];rfl
  · have:=World.var?_cell hg3 hv3 j
    rw[this,←Array.getElem?_toList,c3,List.getElem?_map,hj];rfl
  · have:=World.var?_cell hg4 hv4 j
    rw[this,←Array.getElem?_toList,c4,List.getElem?_map,hj];rfl
noncomputable def Eg (os:Os):World:=
  let w0:=Fh os
  let put (k:Nat) (c:Array Value) (h:Array Obj):Array Obj:=h.modify k fun
    | .cells _ t frozen=>.cells c t frozen
    | o=>o
  { w0 with heap:=put 0 (Fx.map (Value.int .i64)).toArray (put 1 ((Z.fa 45 0 0 0 0 [] [] [] []).map (Value.int .i64)).toArray w0.heap)}
theorem lv1(os:Os)(args:Array Value):(DataW.laidRun Tryz.prog ((Eg os).forCall (fun _ _=>0) ⟨#[],args,[]⟩).memory 8 ((Rows.fnGrayCoefficientsRow.laid.filter fun x=>x.2.handleName?.isNone).map (·.1))).map (·.1)=some (Rows.fnGrayCoefficientsRow.laid.filter fun x=>x.2.handleName?.isNone):=by kernel_rfl
theorem lv2(os:Os)(args:Array Value):(DataW.laidRun Tryz.prog ((Eg os).forCall (fun _ _=>0) ⟨#[],args,[]⟩).memory 8 ((Rows.fnGrayCoefficientsRow.laid.filter fun x=>x.2.handleName?.isNone).map (·.1))).map (fun x=>decide x.2.Nodup&&laidRowsB Tryz.prog ((Eg os).forCall (fun _ _=>0) ⟨#[],args,[]⟩).memory x.2)=some true:=by kernel_rfl
theorem jjh(os:Os)(args:Array Value):laidMetH Tryz.prog Rows.fnGrayCoefficientsRow.laid ((Eg os).forCall (fun _ _=>0) ⟨#[],args,[]⟩).memory:=
  laidMetH_of_parts3 (fuel:=8) (laidMet_of_run' 8 (lv1 os args) (lv2 os args)) (by kernel_rfl) (by kernel_rfl)
end
end
end Go.Proofs.YtljjbikbfeigdaaGreatDoor
