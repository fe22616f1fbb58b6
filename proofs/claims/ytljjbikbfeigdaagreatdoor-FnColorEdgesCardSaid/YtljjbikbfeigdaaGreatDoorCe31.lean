/- Part of the proof of FnColorEdgesCardSaid: Contracts of the specification's reader shown: the headers of a 4:2:0 image. -/
import Derived.Test.YtljjbikbfeigdaaGreatDoorCe30
set_option linter.all false
namespace Go.Proofs.YtljjbikbfeigdaaGreatDoor
noncomputable section
open Go
theorem jwt(x:Int):Z.fa 414 x 0 0 0 [] [] [] []=Od x:=id rfl
theorem jzk(x:Int):Z.fa 415 x 0 0 0 [] [] [] []=Jz x:=id rfl
theorem Yh{k:Int}(h0:0≤k):(Od k).set k.toNat (-1)=Od (k+1):=by
  apply List.ext_getElem (by simp[Od])
  intro i hi1 hi2
  simp only[List.getElem_set,Od,List.getElem_map,List.getElem_range]
  by_cases hi:k.toNat=i
  · rw[if_pos hi,if_pos (by omega)]
  · rw[if_neg hi]
    by_cases hj:(i:Int)<k
    · rw[if_pos hj,if_pos (by omega)]
    · rw[if_neg hj,if_neg (by omega)]
theorem Yf{k:Int}(h0:0≤k):(Jz k).set k.toNat 0=Jz (k+1):=by
  apply List.ext_getElem (by simp[Jz])
  intro i hi1 hi2
  simp only[List.getElem_set,Jz,List.getElem_map,List.getElem_range]
  by_cases hi:k.toNat=i
  · rw[if_pos hi,if_pos (by omega)]
  · rw[if_neg hi]
    by_cases hj:(i:Int)<k
    · rw[if_pos hj,if_pos (by omega)]
    · rw[if_neg hj,if_neg (by omega)]
theorem Zw{k j:Int}(h0:0≤j)(h1:j<192):Bg (Jz k) j=if j<k then 0 else-1:=by
  unfold Bg Jz
  rw[List.getD_eq_getElem?_getD,List.getElem?_map,List.getElem?_range (by omega)]
  simp only[Option.map_some,Option.getD_some,Int.toNat_of_nonneg h0]
theorem jvb:Od 192=Jz 0:=by decide+kernel
theorem j6f:Od 0=List.replicate 192 0:=by decide+kernel
def j7c:VC:=
 let t0:T:=.lit 0
 let t1:T:=.len (.alit [3,1,0,2,17,3,17,0,63,0])
 let t2:T:=.lit 64
 let t3:T:=.alit []
 let t4:T:=.lit 192
 let t5:T:=.add (.iv 1003) (.lit 1)
 let t6:T:=.add t2 (.iv 1403)
 let t7:T:=.add (.iv 1403) (.lit 1)
 let t8:T:=.add (.lit 128) (.iv 1803)
 let t9:T:=.add (.iv 1803) (.lit 1)
 let t10:T:=.aeq (.cut (.av 30) t2 t2) (.cut (.cut (.av 30) t2 t4) t0 t2)
 (.need [(.lt t0 t1)] (.need [(.lt (.lit 1) t1)] (.need [(.lt (.lit 2) t1)] (.cond (.eq (.get (.av 30) t0) t0) (.fail "leaf fit") (.any 1000 2 [(.le (.lit 1) (.iv 1000))] (.need [(.lt (.lit 3) t1)] (.need [(.lt (.lit 4) t1)] (.cond (.eq (.get (.av 30) t2) t0) (.fail "leaf fit") (.any 1001 3 [(.le (.lit 2) (.iv 1001))] (.need [(.lt (.lit 5) t1)] (.need [(.lt (.lit 6) t1)] (.any 1002 4 [(.le (.lit 3) (.iv 1002))] (.need [(.le t0 (.iv 10)),(.le (.iv 10) (.iv 10)),(.le t0 (.iv 10)),(.lt (.lit 7) (.iv 10))] (.need [(.lt (.lit 7) t1)] (.need [(.lt (.lit 8) t1)] (.need [(.lt (.lit 9) t1)] (.need [(.le t0 t0),(.le t0 t2),(.aeq (.fa 415 t0 t0 t0 t0 t3 t3 t3 t3) (.fa 415 (.add t0 t0) t0 t0 t0 t3 t3 t3 t3))] (.any 1003 1000000004 [(.le t0 (.iv 1003)),(.le (.iv 1003) t2),(.eq (.len (.av 1003)) t4),(.aeq (.av 1003) (.fa 415 (.add t0 (.iv 1003)) t0 t0 t0 t3 t3 t3 t3))] (.cond (.le (.iv 1003) (.lit 63)) (.need [(.lt (.iv 1003) t2)] (.need [(.lt (.iv 1003) t4)] (.cond (.not (.eq (.get (.av 1003) (.iv 1003)) (.lit (-1)))) (.fail "leaf fit") (.need [(.le (.lit (-9223372036854775808)) t5),(.le t5 (.lit 9223372036854775807))] (.need [(.le t0 t5),(.le t5 t2),(.eq (.len (.set (.av 1003) (.iv 1003) t0)) t4),(.aeq (.set (.av 1003) (.iv 1003) t0) (.fa 415 (.add t0 t5) t0 t0 t0 t3 t3 t3 t3)),(.lt t0 (.sub t2 (.iv 1003))),(.lt (.sub t2 t5) (.sub t2 (.iv 1003)))] .done))))) (.need [(.aeq (.av 1003) (.fa 415 (.add t2 t0) t0 t0 t0 t3 t3 t3 t3))] (.any 1403 1000000004 [(.le t0 (.iv 1403)),(.le (.iv 1403) t2),(.eq (.len (.av 1403)) t4),(.aeq (.av 1403) (.fa 415 t6 t0 t0 t0 t3 t3 t3 t3))] (.cond (.le (.iv 1403) (.lit 63)) (.need [(.lt (.iv 1403) t2)] (.need [(.lt t6 t4)] (.cond (.not (.eq (.get (.av 1403) t6) (.lit (-1)))) (.fail "leaf fit") (.need [(.le (.lit (-9223372036854775808)) t7),(.le t7 (.lit 9223372036854775807))] (.need [(.le t0 t7),(.le t7 t2),(.eq (.len (.set (.av 1403) t6 t0)) t4),(.aeq (.set (.av 1403) t6 t0) (.fa 415 (.add t2 t7) t0 t0 t0 t3 t3 t3 t3)),(.lt t0 (.sub t2 (.iv 1403))),(.lt (.sub t2 t7) (.sub t2 (.iv 1403)))] .done))))) (.need [(.aeq (.av 1403) (.fa 415 (.add (.lit 128) t0) t0 t0 t0 t3 t3 t3 t3))] (.any 1803 1000000004 [(.le t0 (.iv 1803)),(.le (.iv 1803) t2),(.eq (.len (.av 1803)) t4),(.aeq (.av 1803) (.fa 415 t8 t0 t0 t0 t3 t3 t3 t3))] (.cond (.le (.iv 1803) (.lit 63)) (.need [(.lt (.iv 1803) t2)] (.need [(.lt t8 t4)] (.cond (.not (.eq (.get (.av 1803) t8) (.lit (-1)))) (.fail "leaf fit") (.need [(.le (.lit (-9223372036854775808)) t9),(.le t9 (.lit 9223372036854775807))] (.need [(.le t0 t9),(.le t9 t2),(.eq (.len (.set (.av 1803) t8 t0)) t4),(.aeq (.set (.av 1803) t8 t0) (.fa 415 (.add (.lit 128) t9) t0 t0 t0 t3 t3 t3 t3)),(.lt t0 (.sub t2 (.iv 1803))),(.lt (.sub t2 t9) (.sub t2 (.iv 1803)))] .done))))) (.need [t10,t10,(.aeq (.fa 415 t4 t0 t0 t0 t3 t3 t3 t3) (.av 1803))] .done))))))))))))))))))))))))))
theorem jip(h2:Cf Tryz.prog Z 54 c54): ∀f s,jq3 Tryz.prog f=some s→Ei Tryz.prog Z f s:=Sj jcn Hq (fun f s h=>by
  unfold j84 at h
  split at h
  · cases h;exact Dq h2
  · cases h) 1000 2
theorem qkl:Dd (Db Tryz.prog (jq3 Tryz.prog) Jq ⟨jme,Jd⟩ 100000 51 j9u) j7c=true:=by kernel_rfl
theorem j4z:Cf Tryz.prog Z 51 j9u:=by
  refine Bf (jip jje) Cn qkl fun ρ h=> ?_
  have f1:=Cc h (.le (.lit 10) (.iv 10)) (by kernel_rfl)
  have f2:=Cc h (.le (.lit 1) (.get (.av 30) z0)) (by kernel_rfl)
  have f3:=Cc h (.le (.lit 1) (.get (.av 30) (.lit 64))) (by kernel_rfl)
  clear h
  simp only[z0,Ck,Gy,↓qA,qB,and_true,implies_true,T.I,T.A,T.B,VC.sem] at f1 f2 f3
  simp only[j7c,↓qA,qB,and_true,implies_true,T.I,T.A,T.B,VC.sem,Ck,Gy,jzk,List.length_set,List.length_cons,List.length_nil]
  (repeat' (first|with_reducible exact True.intro|with_reducible refine And.intro ?_ ?_|intro _))<;>(try omega)
  · rw[Int.add_zero]
  · have hn:= ‹¬Bg (ρ.a 1003) _= -1›
    rw[‹ρ.a 1003=Jz _›,Zw (by omega) (by omega),if_neg (by omega)] at hn
    exact hn rfl
  · rw[‹ρ.a 1003=Jz _›,show (ρ.i 1003).toNat=(0+ρ.i 1003).toNat from by omega,Yf (by omega),show 0+(ρ.i 1003+1)=0+ρ.i 1003+1 from by omega]
  · rw[‹ρ.a 1003=Jz _›,show 0+ρ.i 1003=64+0 from by omega]
  · have hn:= ‹¬Bg (ρ.a 1403) _= -1›
    rw[‹ρ.a 1403=Jz _›,Zw (by omega) (by omega),if_neg (by omega)] at hn
    exact hn rfl
  · rw[‹ρ.a 1403=Jz _›,show (64+ρ.i 1403).toNat=(64+ρ.i 1403).toNat from by omega,Yf (by omega),show 64+(ρ.i 1403+1)=64+ρ.i 1403+1 from by omega]
  · rw[‹ρ.a 1403=Jz _›,show 64+ρ.i 1403=128+0 from by omega]
  · have hn:= ‹¬Bg (ρ.a 1803) _= -1›
    rw[‹ρ.a 1803=Jz _›,Zw (by omega) (by omega),if_neg (by omega)] at hn
    exact hn rfl
  · rw[‹ρ.a 1803=Jz _›,show (128+ρ.i 1803).toNat=(128+ρ.i 1803).toNat from by omega,Yf (by omega),show 128+(ρ.i 1803+1)=128+ρ.i 1803+1 from by omega]
  · rw[List.take_take];rfl
  · rw[List.take_take];rfl
  · rw[‹ρ.a 1803=Jz _›,show 128+ρ.i 1803=192 from by omega]
def qgx:VC:=
 (.cond (.eq (.iv 41) (.lit 3)) (.need [.ff] .done) (.cond (.lt (.lit 2) (.iv 42)) (.need [.ff] .done) (.any 1000 0 [] (.cond (.or (.not (.eq (.iv 44) (.iv 47))) (.not (.eq (.iv 45) (.iv 48)))) (.need [.ff] .done) (.cond (.not (.eq (.iv 40) (.lit 82))) .done (.cond (.not (.eq (.iv 43) (.lit 71))) .done (.need [(.not (.eq (.iv 46) (.lit 66)))] .done)))))))
theorem w71:Dd (Db Tryz.prog Jt Jq ⟨jme,Lb⟩ 100000 71 c71) qgx=true:=by kernel_rfl
theorem qat:Cf Tryz.prog Z 71 c71:=by
  refine Bf Cq Cn w71 fun ρ h=> ?_
  simp only[c71,z0,Bi,Di,List.flatMap_cons,List.flatMap_nil,List.append_nil,List.append_assoc,List.cons_append,List.nil_append,and_true,↓qA,qB,and_true,implies_true,T.I,T.A,T.B,VC.sem] at h
  obtain ⟨h1,h2,h3,h4,h5,h6,h7,h8,h9,h10⟩:=h
  simp only[qgx,↓qA,qB,and_true,implies_true,T.I,T.A,T.B,VC.sem]
  (repeat' (first|with_reducible exact True.intro|with_reducible refine And.intro ?_ ?_|intro _))<;>(try omega)
theorem j0w{D bl:List Int}{d a u p:Int}(h1:0≤a)(h2:0≤u)(h3:u≤7)(ho:Li 0 D a u p=true):
    0≤e0 (Gg 0 D d a u p bl)∧0≤e1 (Gg 0 D d a u p bl)∧e1 (Gg 0 D d a u p bl)≤7∧((Gg 0 D d a u p bl).drop 2).length=bl.length∧ -1024≤p+Tg 0 D a u∧p+Tg 0 D a u≤1023:=by
  rw[jas] at ho
  simp only[Bool.and_eq_true,decide_eq_true_eq] at ho
  obtain ⟨o1,o2,o3,o4⟩:=ho
  obtain ⟨n1,n2,n3⟩:=jfl h1 h2 h3 o1
  have:=jfm (h:=1) (by omega) (d:=d) _ (bl:=bl.set d.toNat (p+Tg 0 D a u)) (Nat.le_refl _) n1 n2 n3 o4
  rw[jc8]
  rw[List.length_set] at this
  exact ⟨this.1,this.2.1,this.2.2.1,this.2.2.2,o2,o3⟩
theorem jjv{D bl:List Int}{d a u p:Int}(h1:0≤a)(h2:0≤u)(h3:u≤7)(ho:Li 1 D a u p=true):
    0≤e0 (Gg 1 D d a u p bl)∧0≤e1 (Gg 1 D d a u p bl)∧e1 (Gg 1 D d a u p bl)≤7∧((Gg 1 D d a u p bl).drop 2).length=bl.length∧ -1024≤p+Tg 1 D a u∧p+Tg 1 D a u≤1023:=by
  rw[Zm] at ho
  simp only[Bool.and_eq_true,decide_eq_true_eq] at ho
  obtain ⟨o1,o2,o3,o4⟩:=ho
  obtain ⟨n1,n2,n3⟩:=jg6 h1 h2 h3 o1
  have:=jfm (h:=3) (by omega) (d:=d) _ (bl:=bl.set d.toNat (p+Tg 1 D a u)) (Nat.le_refl _) n1 n2 n3 o4
  rw[Yq]
  rw[List.length_set] at this
  exact ⟨this.1,this.2.1,this.2.2.1,this.2.2.2,o2,o3⟩
def jmk:VC:=
 let t0:T:=.lit 0
 let t1:T:=.alit []
 let t2:T:=.add (.iv 3) (.fi 270 (.iv 0) (.iv 1) t0 t0 (.av 1) t1 t1 t1)
 let t3:T:=.fi 272 (.iv 0) (.iv 1) t0 t0 (.av 1) t1 t1 t1
 let t4:T:=.fi 274 (.iv 0) (.iv 1) t0 t0 (.av 1) t1 t1 t1
 let t5:T:=.set (.av 7) (.iv 5) t2
 let t7:T:=.fi 261 (.iv 5) t3 t4 t0 (.av 1) t5 t1 t1
 let t8:T:=.fi 265 (.iv 5) t3 t4 t0 (.av 1) t5 t1 t1
 let t9:T:=.fa 269 (.iv 5) t3 t4 t0 (.av 1) t5 t1 t1
 (.need [(.fb 270 (.iv 0) (.iv 1) t0 t0 (.av 1) t1 t1 t1),(.le (.lit (-1024)) t2),(.le t2 (.lit 1023))] (.need [(.le t0 t3),(.le t0 t4),(.le t4 (.lit 7)),(.le (.add (.iv 5) (.lit 64)) (.len t5)),(.le (.len t5) (.lit 1000000000000)),(.fb 251 (.lit 1) t3 t4 t0 (.av 1) t1 t1 t1)] (.need [(.le t0 t7),(.le t0 t8),(.le t8 (.lit 7)),(.eq t7 (.fi 420 (.iv 5) (.iv 0) (.iv 1) (.iv 3) (.av 1) (.av 7) t1 t1)),(.eq t8 (.fi 422 (.iv 5) (.iv 0) (.iv 1) (.iv 3) (.av 1) (.av 7) t1 t1)),(.eq t2 t2),(.aeq t9 (.fa 424 (.iv 5) (.iv 0) (.iv 1) (.iv 3) (.av 1) (.av 7) t1 t1)),(.eq (.len t9) (.len (.av 7)))] .done)))
theorem j61:Dd (Db Tryz.prog (spB 0 0) Jq ⟨fun _ _=>none,Ke⟩ 100000 53 (jjp 0 0)) jmk=true:=by kernel_rfl
theorem jpk:Cf Tryz.prog Z 53 (jjp 0 0):=by
  refine Bf (Xu jhz jak) Cn j61 fun ρ h=> ?_
  have g1:=Cc h (.eq (.len (.av 1)) (.iv 6)) (by kernel_rfl)
  have g4:=Cc h (.le (.lit 0) (.iv 0)) (by kernel_rfl)
  have g5:=Cc h (.le (.lit 0) (.iv 1)) (by kernel_rfl)
  have g6:=Cc h (.le (.iv 1) (.lit 7)) (by kernel_rfl)
  have g7:=Cc h (.le (.lit 0) (.iv 5)) (by kernel_rfl)
  have g8:=Cc h (.le (.add (.iv 5) (.lit 64)) (.len (.av 7))) (by kernel_rfl)
  have g9:=Cc h (.le (.len (.av 7)) Gl) (by kernel_rfl)
  have g10:=Cc h (Mc 420 (.iv 0) (.iv 1) (.iv 3) z0) (by kernel_rfl)
  clear h
  simp only[Mc,z0,Gl,↓qA,qB,and_true,implies_true,T.I,T.A,T.B,VC.sem,jab] at g1 g4 g5 g6 g7 g8 g9 g10
  have R:=j0w (d:=ρ.i 5) (bl:=ρ.a 7) g4 g5 g6 g10
  rw[jc8] at R
  obtain ⟨r1,r2,r3,r4,r5,r6⟩:=R
  simp only[jas,Bool.and_eq_true,decide_eq_true_eq] at g10
  obtain ⟨o1,o2,o3,o4⟩:=g10
  obtain ⟨n1,n2,n3⟩:=jfl g4 g5 g6 o1
  simp only[jmk,↓qA,qB,and_true,implies_true,T.I,T.A,T.B,VC.sem,jf2,jr2,jpp,jlv,jfh,jee,jfz,jc8,jma,jch,Vu,Un,List.length_set]
  (repeat' (first|exact True.intro|refine And.intro ?_ ?_|intro _))<;>(try assumption)<;>(try omega)
def jmc:VC:=
 let t0:T:=.lit 0
 let t1:T:=.alit []
 let t2:T:=.add (.iv 3) (.fi 271 (.iv 0) (.iv 1) t0 t0 (.av 1) t1 t1 t1)
 let t3:T:=.fi 273 (.iv 0) (.iv 1) t0 t0 (.av 1) t1 t1 t1
 let t4:T:=.fi 275 (.iv 0) (.iv 1) t0 t0 (.av 1) t1 t1 t1
 let t5:T:=.set (.av 7) (.iv 5) t2
 let t7:T:=.fi 263 (.iv 5) t3 t4 t0 (.av 1) t5 t1 t1
 let t8:T:=.fi 267 (.iv 5) t3 t4 t0 (.av 1) t5 t1 t1
 let t9:T:=.fa 271 (.iv 5) t3 t4 t0 (.av 1) t5 t1 t1
 (.need [(.fb 271 (.iv 0) (.iv 1) t0 t0 (.av 1) t1 t1 t1),(.le (.lit (-1024)) t2),(.le t2 (.lit 1023))] (.need [(.le t0 t3),(.le t0 t4),(.le t4 (.lit 7)),(.le (.add (.iv 5) (.lit 64)) (.len t5)),(.le (.len t5) (.lit 1000000000000)),(.fb 253 (.lit 1) t3 t4 t0 (.av 1) t1 t1 t1)] (.need [(.le t0 t7),(.le t0 t8),(.le t8 (.lit 7)),(.eq t7 (.fi 421 (.iv 5) (.iv 0) (.iv 1) (.iv 3) (.av 1) (.av 7) t1 t1)),(.eq t8 (.fi 423 (.iv 5) (.iv 0) (.iv 1) (.iv 3) (.av 1) (.av 7) t1 t1)),(.eq t2 t2),(.aeq t9 (.fa 425 (.iv 5) (.iv 0) (.iv 1) (.iv 3) (.av 1) (.av 7) t1 t1)),(.eq (.len t9) (.len (.av 7)))] .done)))
theorem j3r:Dd (Db Tryz.prog (spB 1 1) Jq ⟨fun _ _=>none,Ke⟩ 100000 53 (jjp 1 1)) jmc=true:=by kernel_rfl
theorem jqg:Cf Tryz.prog Z 53 (jjp 1 1):=by
  refine Bf (Xu jhi jaq) Cn j3r fun ρ h=> ?_
  have g1:=Cc h (.eq (.len (.av 1)) (.iv 6)) (by kernel_rfl)
  have g4:=Cc h (.le (.lit 0) (.iv 0)) (by kernel_rfl)
  have g5:=Cc h (.le (.lit 0) (.iv 1)) (by kernel_rfl)
  have g6:=Cc h (.le (.iv 1) (.lit 7)) (by kernel_rfl)
  have g7:=Cc h (.le (.lit 0) (.iv 5)) (by kernel_rfl)
  have g8:=Cc h (.le (.add (.iv 5) (.lit 64)) (.len (.av 7))) (by kernel_rfl)
  have g9:=Cc h (.le (.len (.av 7)) Gl) (by kernel_rfl)
  have g10:=Cc h (Mc 421 (.iv 0) (.iv 1) (.iv 3) z0) (by kernel_rfl)
  clear h
  simp only[Mc,z0,Gl,↓qA,qB,and_true,implies_true,T.I,T.A,T.B,VC.sem,Zj] at g1 g4 g5 g6 g7 g8 g9 g10
  have R:=jjv (d:=ρ.i 5) (bl:=ρ.a 7) g4 g5 g6 g10
  rw[Yq] at R
  obtain ⟨r1,r2,r3,r4,r5,r6⟩:=R
  simp only[Zm,Bool.and_eq_true,decide_eq_true_eq] at g10
  obtain ⟨o1,o2,o3,o4⟩:=g10
  obtain ⟨n1,n2,n3⟩:=jg6 g4 g5 g6 o1
  simp only[jmc,↓qA,qB,and_true,implies_true,T.I,T.A,T.B,VC.sem,jey,jk5,jjg,jde,jej,jf6,jff,Yq,jxk,jox,je2,ji1,List.length_set]
  (repeat' (first|exact True.intro|refine And.intro ?_ ?_|intro _))<;>(try assumption)<;>(try omega)
def jn0:VC:=
 let t0:T:=.lit 0
 let t1:T:=.alit []
 let t2:T:=.add (.iv 3) (.fi 271 (.iv 0) (.iv 1) t0 t0 (.av 1) t1 t1 t1)
 let t3:T:=.fi 273 (.iv 0) (.iv 1) t0 t0 (.av 1) t1 t1 t1
 let t4:T:=.fi 275 (.iv 0) (.iv 1) t0 t0 (.av 1) t1 t1 t1
 let t5:T:=.set (.av 7) (.iv 5) t2
 let t7:T:=.fi 263 (.iv 5) t3 t4 t0 (.av 1) t5 t1 t1
 let t8:T:=.fi 267 (.iv 5) t3 t4 t0 (.av 1) t5 t1 t1
 let t9:T:=.fa 271 (.iv 5) t3 t4 t0 (.av 1) t5 t1 t1
 (.need [(.fb 271 (.iv 0) (.iv 1) t0 t0 (.av 1) t1 t1 t1),(.le (.lit (-1024)) t2),(.le t2 (.lit 1023))] (.need [(.le t0 t3),(.le t0 t4),(.le t4 (.lit 7)),(.le (.add (.iv 5) (.lit 64)) (.len t5)),(.le (.len t5) (.lit 1000000000000)),(.fb 253 (.lit 1) t3 t4 t0 (.av 1) t1 t1 t1)] (.need [(.le t0 t7),(.le t0 t8),(.le t8 (.lit 7)),(.eq t7 (.fi 421 (.iv 5) (.iv 0) (.iv 1) (.iv 3) (.av 1) (.av 7) t1 t1)),(.eq t8 (.fi 423 (.iv 5) (.iv 0) (.iv 1) (.iv 3) (.av 1) (.av 7) t1 t1)),(.eq t2 t2),(.aeq t9 (.fa 425 (.iv 5) (.iv 0) (.iv 1) (.iv 3) (.av 1) (.av 7) t1 t1)),(.eq (.len t9) (.len (.av 7)))] .done)))
theorem j32:Dd (Db Tryz.prog (spB 1 2) Jq ⟨fun _ _=>none,Ke⟩ 100000 53 (jjp 1 2)) jn0=true:=by kernel_rfl
theorem jra:Cf Tryz.prog Z 53 (jjp 1 2):=by
  refine Bf (Xu jit jaq) Cn j32 fun ρ h=> ?_
  have g1:=Cc h (.eq (.len (.av 1)) (.iv 6)) (by kernel_rfl)
  have g4:=Cc h (.le (.lit 0) (.iv 0)) (by kernel_rfl)
  have g5:=Cc h (.le (.lit 0) (.iv 1)) (by kernel_rfl)
  have g6:=Cc h (.le (.iv 1) (.lit 7)) (by kernel_rfl)
  have g7:=Cc h (.le (.lit 0) (.iv 5)) (by kernel_rfl)
  have g8:=Cc h (.le (.add (.iv 5) (.lit 64)) (.len (.av 7))) (by kernel_rfl)
  have g9:=Cc h (.le (.len (.av 7)) Gl) (by kernel_rfl)
  have g10:=Cc h (Mc 421 (.iv 0) (.iv 1) (.iv 3) z0) (by kernel_rfl)
  clear h
  simp only[Mc,z0,Gl,↓qA,qB,and_true,implies_true,T.I,T.A,T.B,VC.sem,Zj] at g1 g4 g5 g6 g7 g8 g9 g10
  have R:=jjv (d:=ρ.i 5) (bl:=ρ.a 7) g4 g5 g6 g10
  rw[Yq] at R
  obtain ⟨r1,r2,r3,r4,r5,r6⟩:=R
  simp only[Zm,Bool.and_eq_true,decide_eq_true_eq] at g10
  obtain ⟨o1,o2,o3,o4⟩:=g10
  obtain ⟨n1,n2,n3⟩:=jg6 g4 g5 g6 o1
  simp only[jn0,↓qA,qB,and_true,implies_true,T.I,T.A,T.B,VC.sem,jey,jk5,jjg,jde,jej,jf6,jff,Yq,jxk,jox,je2,ji1,List.length_set]
  (repeat' (first|exact True.intro|refine And.intro ?_ ?_|intro _))<;>(try assumption)<;>(try omega)
theorem j0m(n m X a u p q r:Int)(D b c d:List Int):Z.fb 530 n m X 0 ([a]++([u]++([p]++([q]++([r]++D))))) b c d=Lz D X n.toNat m ⟨a,u,p,q,r,b,c,d⟩:=id rfl
theorem qha(n m X a u p q r:Int)(D b c d:List Int):Z.fa 530 n m X 0 ([a]++([u]++([p]++([q]++([r]++D))))) b c d=pkC (scC D X n.toNat m ⟨a,u,p,q,r,b,c,d⟩):=id rfl
theorem qic(n a X:Int)(D b c d:List Int):Z.fi 530 n a X 0 D b c d=jza D X n.toNat a b c d:=id rfl
theorem j6q(n a X:Int)(D b c d:List Int):Z.fa 531 n a X 0 D b c d=(scC D X n.toNat 0 (st0 a b c d)).b0:=id rfl
theorem j6y(n a X:Int)(D b c d:List Int):Z.fa 532 n a X 0 D b c d=(scC D X n.toNat 0 (st0 a b c d)).b1:=id rfl
theorem j7b(n a X:Int)(D b c d:List Int):Z.fa 533 n a X 0 D b c d=(scC D X n.toNat 0 (st0 a b c d)).b2:=id rfl
theorem Lr{D:List Int}{X n m:Int}{s:CS}(h:m<n):Lz D X (n-m).toNat m s=(jah D X m s&&Lz D X (n-(m+1)).toNat (m+1) (un6 D X m s)):=by
  rw[show (n-m).toNat=(n-(m+1)).toNat+1 from by omega];rfl
theorem jz3{D:List Int}{X n m:Int}{s:CS}(h:m<n):scC D X (n-m).toNat m s=scC D X (n-(m+1)).toNat (m+1) (un6 D X m s):=by
  rw[show (n-m).toNat=(n-(m+1)).toNat+1 from by omega];rfl
theorem jdg{s t:CS}(h:pkC s=pkC t):s=t:=by
  obtain ⟨a,u,p,q,r,b,c,d⟩:=s
  obtain ⟨a',u',p',q',r',b',c',d'⟩:=t
  simp only[pkC,List.cons.injEq] at h
  obtain ⟨rfl,rfl,rfl,rfl,rfl,h6,h7,h8⟩:=h
  obtain ⟨e1,e2⟩:=List.append_inj h8 (by omega)
  obtain ⟨e3,e4⟩:=List.append_inj e2 (by omega)
  rw[e1,e3,e4]
theorem j7s(d X:Int):d*2*(X*2)=4*(d*X):=by rw[Int.mul_comm d 2,Int.mul_comm X 2,Int.mul_assoc,Int.mul_left_comm d 2 X];omega
theorem qgo{X m d r:Int}(hd:m/X=d)(hr:m % X=r):dY X m 0=64*(4*(d*X)+2*r)∧dY X m 1=64*(4*(d*X)+2*r+1)∧dY X m 2=64*(4*(d*X)+2*X+2*r)∧dY X m 3=64*(4*(d*X)+2*X+2*r+1)∧dC X m=64*(d*X+r):=by
  have h1:d*2*(X*2)=4*(d*X):=j7s d X
  have h2:(d*2+1)*(X*2)=4*(d*X)+2*X:=by rw[Int.add_mul,h1];omega
  unfold dY dC
  rw[hd,hr]
  simp only[show (0:Int)/2=0 from rfl,show (1:Int)/2=0 from rfl,show (2:Int)/2=1 from rfl,show (3:Int)/2=1 from rfl,show (0:Int) % 2=0 from rfl,show (1:Int) % 2=1 from rfl,show (2:Int) % 2=0 from rfl,show (3:Int) % 2=1 from rfl,Int.add_zero,h1,h2]
  refine ⟨?_,?_,?_,?_,?_⟩<;>first|trivial|omega
theorem jz4{x:Int}(h:0≤x):(x+16-1).tdiv 16=(x+15)/16:=by rw[Int.tdiv_eq_ediv_of_nonneg (by omega)];omega
theorem jw4: ∀f s,jr4 f=some s→Dw Tryz.prog Z f s:=by
  intro f s h
  unfold jr4 at h
  split at h
  · cases h;exact Ce j4z
  · cases h
    intro ρ w0 w h args r he hn hw hh
    dsimp only at he
    split at he
    · exact Ce jpk ρ w0 w h args r he hn hw hh
    · split at he
      · exact Ce jqg ρ w0 w h args r he hn hw hh
      · exact Ce jra ρ w0 w h args r he hn hw hh
  · cases h
def j7l:VC:=
 let t0:T:=.av 1
 let t1:T:=.lit (-9223372036854775808)
 let t2:T:=.lit 9223372036854775807
 let t3:T:=.sub (.add (.iv 21) (.lit 16)) (.lit 1)
 let t4:T:=.tdiv t3 (.lit 16)
 let t5:T:=.sub (.add (.iv 22) (.lit 16)) (.lit 1)
 let t6:T:=.tdiv t5 (.lit 16)
 let t7:T:=.mul t4 t6
 let t8:T:=.lit 0
 let t9:T:=.lit (-1024)
 let t10:T:=.lit 1023
 let t11:T:=.tdiv (.add (.iv 21) (.lit 15)) (.lit 16)
 let t12:T:=.alit [0]
 let t13:T:=.set t12 t8 t8
 let t14:T:=.len t13
 let t15:T:=.splice (.set t12 t8 (.iv 0)) (.len (.set t12 t8 (.iv 0))) (.splice t13 t14 (.splice t13 t14 (.splice t13 t14 (.splice t13 t14 t0))))
 let t16:T:=.fa 530 (.iv 23) t8 t11 t8 t15 (.av 7) (.av 8) (.av 9)
 let t17:T:=.lit 64
 let t18:T:=.mul t17 (.iv 23)
 let t19:T:=.sub (.iv 23) (.iv 1400)
 let t20:T:=.splice (.set t12 t8 (.iv 1401)) (.len (.set t12 t8 (.iv 1401))) (.splice (.set t12 t8 (.iv 1402)) (.len (.set t12 t8 (.iv 1402))) (.splice (.set t12 t8 (.iv 1403)) (.len (.set t12 t8 (.iv 1403))) (.splice (.set t12 t8 (.iv 1404)) (.len (.set t12 t8 (.iv 1404))) (.splice (.set t12 t8 (.iv 1405)) (.len (.set t12 t8 (.iv 1405))) t0))))
 let t21:T:=.mul t4 (.lit 2)
 let t23:T:=.tdiv (.iv 1400) t4
 let t24:T:=.mul t23 (.lit 2)
 let t25:T:=.mul t24 t21
 let t26:T:=.tmod (.iv 1400) t4
 let t27:T:=.mul t26 (.lit 2)
 let t28:T:=.add t25 t27
 let t29:T:=.mul t28 t17
 let t30:T:=.lit 1000000000000
 let t31:T:=.alit []
 let t32:T:=.add t28 (.lit 1)
 let t33:T:=.mul t32 t17
 let t34:T:=.add t24 (.lit 1)
 let t35:T:=.mul t34 t21
 let t36:T:=.add t35 t27
 let t37:T:=.mul t36 t17
 let t38:T:=.add t36 (.lit 1)
 let t39:T:=.mul t38 t17
 let t40:T:=.mul t23 t4
 let t41:T:=.add t40 t26
 let t42:T:=.mul t41 t17
 let t44:T:=.add (.iv 1400) (.lit 1)
 let t45:T:=.sub (.iv 23) t44
 let t46:T:=.splice (.set t12 t8 (.iv 3900)) (.len (.set t12 t8 (.iv 3900))) (.splice (.set t12 t8 (.iv 3901)) (.len (.set t12 t8 (.iv 3901))) (.splice (.set t12 t8 (.iv 3102)) (.len (.set t12 t8 (.iv 3102))) (.splice (.set t12 t8 (.iv 3502)) (.len (.set t12 t8 (.iv 3502))) (.splice (.set t12 t8 (.iv 3902)) (.len (.set t12 t8 (.iv 3902))) t0))))
 (.need [(.le (.lit 589) (.len t0)),(.aeq (.alit [3,1,0,2,17,3,17,0,63,0]) (.cut t0 (.lit 579) (.lit 10)))] (.any 1000 0 [] (.need [(.le t1 (.add (.iv 21) (.lit 16))),(.le (.add (.iv 21) (.lit 16)) t2),(.le t1 t3),(.le t3 t2),(.le t1 t4),(.le t4 t2)] (.need [(.le t1 (.add (.iv 22) (.lit 16))),(.le (.add (.iv 22) (.lit 16)) t2),(.le t1 t5),(.le t5 t2),(.le t1 t6),(.le t6 t2)] (.need [(.le t1 t7),(.le t7 t2)] (.need [(.le t8 t8),(.le t8 (.iv 23)),(.le t8 t8),(.le t8 (.lit 7)),(.le t9 t8),(.le t8 t10),(.le t9 t8),(.le t8 t10),(.le t9 t8),(.le t8 t10),(.fb 530 (.sub (.iv 23) t8) t8 t11 t8 t15 (.av 7) (.av 8) (.av 9)),(.aeq (.fa 530 (.sub (.iv 23) t8) t8 t11 t8 t15 (.av 7) (.av 8) (.av 9)) t16)] (.any 1400 3 [(.le t8 (.iv 1400)),(.le (.iv 1400) (.iv 23)),(.le t8 (.iv 1401)),(.le t8 (.iv 1402)),(.le (.iv 1402) (.lit 7)),(.le t9 (.iv 1403)),(.le (.iv 1403) t10),(.le t9 (.iv 1404)),(.le (.iv 1404) t10),(.le t9 (.iv 1405)),(.le (.iv 1405) t10),(.eq (.len (.av 1400)) (.mul t17 (.iv 20))),(.eq (.len (.av 1401)) t18),(.eq (.len (.av 1402)) t18),(.fb 530 t19 (.iv 1400) t11 t8 t20 (.av 1400) (.av 1401) (.av 1402)),(.aeq (.fa 530 t19 (.iv 1400) t11 t8 t20 (.av 1400) (.av 1401) (.av 1402)) t16)] (.cond (.lt (.iv 1400) t7) (.need [(.le t1 t21),(.le t21 t2)] (.need [(.le t1 (.mul t6 (.lit 2))),(.le (.mul t6 (.lit 2)) t2)] (.need [(.not (.eq t4 t8)),(.le t1 t23),(.le t23 t2)] (.need [(.le t1 t24),(.le t24 t2)] (.need [(.le t1 t25),(.le t25 t2)] (.need [(.le t1 t27),(.le t27 t2)] (.need [(.le t1 t28),(.le t28 t2)] (.need [(.le t8 t28),(.lt t28 (.iv 20))] (.need [(.le t8 t29),(.le (.add t29 t17) (.len (.av 1400))),(.le (.len (.av 1400)) t30),(.fb 420 (.iv 1401) (.iv 1402) (.iv 1403) t8 t0 t31 t31 t31)] (.any 1800 7 [(.le t8 (.iv 1900)),(.le t8 (.iv 1901)),(.le (.iv 1901) (.lit 7)),(.eq (.iv 1900) (.fi 420 t29 (.iv 1401) (.iv 1402) (.iv 1403) t0 (.av 1400) t31 t31)),(.eq (.iv 1901) (.fi 422 t29 (.iv 1401) (.iv 1402) (.iv 1403) t0 (.av 1400) t31 t31)),(.eq (.iv 1902) (.add (.iv 1403) (.fi 270 (.iv 1401) (.iv 1402) t8 t8 t0 t31 t31 t31))),(.aeq (.av 1907) (.fa 424 t29 (.iv 1401) (.iv 1402) (.iv 1403) t0 (.av 1400) t31 t31)),(.eq (.len (.av 1907)) (.len (.av 1400))),(.le t9 (.iv 1902)),(.le (.iv 1902) t10)] (.need [(.le t1 t32),(.le t32 t2)] (.need [(.le t8 t32),(.lt t32 (.iv 20))] (.need [(.le t8 t33),(.le (.add t33 t17) (.len (.av 1907))),(.le (.len (.av 1907)) t30),(.fb 420 (.iv 1900) (.iv 1901) (.iv 1902) t8 t0 t31 t31 t31)] (.any 2200 7 [(.le t8 (.iv 2300)),(.le t8 (.iv 2301)),(.le (.iv 2301) (.lit 7)),(.eq (.iv 2300) (.fi 420 t33 (.iv 1900) (.iv 1901) (.iv 1902) t0 (.av 1907) t31 t31)),(.eq (.iv 2301) (.fi 422 t33 (.iv 1900) (.iv 1901) (.iv 1902) t0 (.av 1907) t31 t31)),(.eq (.iv 2302) (.add (.iv 1902) (.fi 270 (.iv 1900) (.iv 1901) t8 t8 t0 t31 t31 t31))),(.aeq (.av 2307) (.fa 424 t33 (.iv 1900) (.iv 1901) (.iv 1902) t0 (.av 1907) t31 t31)),(.eq (.len (.av 2307)) (.len (.av 1907))),(.le t9 (.iv 2302)),(.le (.iv 2302) t10)] (.need [(.le t1 t34),(.le t34 t2)] (.need [(.le t1 t35),(.le t35 t2)] (.need [(.le t1 t36),(.le t36 t2)] (.need [(.le t8 t36),(.lt t36 (.iv 20))] (.need [(.le t8 t37),(.le (.add t37 t17) (.len (.av 2307))),(.le (.len (.av 2307)) t30),(.fb 420 (.iv 2300) (.iv 2301) (.iv 2302) t8 t0 t31 t31 t31)] (.any 2600 7 [(.le t8 (.iv 2700)),(.le t8 (.iv 2701)),(.le (.iv 2701) (.lit 7)),(.eq (.iv 2700) (.fi 420 t37 (.iv 2300) (.iv 2301) (.iv 2302) t0 (.av 2307) t31 t31)),(.eq (.iv 2701) (.fi 422 t37 (.iv 2300) (.iv 2301) (.iv 2302) t0 (.av 2307) t31 t31)),(.eq (.iv 2702) (.add (.iv 2302) (.fi 270 (.iv 2300) (.iv 2301) t8 t8 t0 t31 t31 t31))),(.aeq (.av 2707) (.fa 424 t37 (.iv 2300) (.iv 2301) (.iv 2302) t0 (.av 2307) t31 t31)),(.eq (.len (.av 2707)) (.len (.av 2307))),(.le t9 (.iv 2702)),(.le (.iv 2702) t10)] (.need [(.le t1 t38),(.le t38 t2)] (.need [(.le t8 t38),(.lt t38 (.iv 20))] (.need [(.le t8 t39),(.le (.add t39 t17) (.len (.av 2707))),(.le (.len (.av 2707)) t30),(.fb 420 (.iv 2700) (.iv 2701) (.iv 2702) t8 t0 t31 t31 t31)] (.any 3000 7 [(.le t8 (.iv 3100)),(.le t8 (.iv 3101)),(.le (.iv 3101) (.lit 7)),(.eq (.iv 3100) (.fi 420 t39 (.iv 2700) (.iv 2701) (.iv 2702) t0 (.av 2707) t31 t31)),(.eq (.iv 3101) (.fi 422 t39 (.iv 2700) (.iv 2701) (.iv 2702) t0 (.av 2707) t31 t31)),(.eq (.iv 3102) (.add (.iv 2702) (.fi 270 (.iv 2700) (.iv 2701) t8 t8 t0 t31 t31 t31))),(.aeq (.av 3107) (.fa 424 t39 (.iv 2700) (.iv 2701) (.iv 2702) t0 (.av 2707) t31 t31)),(.eq (.len (.av 3107)) (.len (.av 2707))),(.le t9 (.iv 3102)),(.le (.iv 3102) t10)] (.need [(.le t1 t40),(.le t40 t2)] (.need [(.le t1 t26),(.le t26 t2)] (.need [(.le t1 t41),(.le t41 t2)] (.need [(.le t8 t41),(.lt t41 (.iv 23))] (.need [(.le t8 t42),(.le (.add t42 t17) (.len (.av 1401))),(.le (.len (.av 1401)) t30),(.fb 421 (.iv 3100) (.iv 3101) (.iv 1404) t8 t0 t31 t31 t31)] (.any 3400 11 [(.le t8 (.iv 3500)),(.le t8 (.iv 3501)),(.le (.iv 3501) (.lit 7)),(.eq (.iv 3500) (.fi 421 t42 (.iv 3100) (.iv 3101) (.iv 1404) t0 (.av 1401) t31 t31)),(.eq (.iv 3501) (.fi 423 t42 (.iv 3100) (.iv 3101) (.iv 1404) t0 (.av 1401) t31 t31)),(.eq (.iv 3502) (.add (.iv 1404) (.fi 271 (.iv 3100) (.iv 3101) t8 t8 t0 t31 t31 t31))),(.aeq (.av 3507) (.fa 425 t42 (.iv 3100) (.iv 3101) (.iv 1404) t0 (.av 1401) t31 t31)),(.eq (.len (.av 3507)) (.len (.av 1401))),(.le t9 (.iv 3502)),(.le (.iv 3502) t10)] (.need [(.le (.add t42 t17) (.len (.av 1402))),(.le (.len (.av 1402)) t30),(.fb 421 (.iv 3500) (.iv 3501) (.iv 1405) t8 t0 t31 t31 t31)] (.any 3800 15 [(.le t8 (.iv 3900)),(.le t8 (.iv 3901)),(.le (.iv 3901) (.lit 7)),(.eq (.iv 3900) (.fi 421 t42 (.iv 3500) (.iv 3501) (.iv 1405) t0 (.av 1402) t31 t31)),(.eq (.iv 3901) (.fi 423 t42 (.iv 3500) (.iv 3501) (.iv 1405) t0 (.av 1402) t31 t31)),(.eq (.iv 3902) (.add (.iv 1405) (.fi 271 (.iv 3500) (.iv 3501) t8 t8 t0 t31 t31 t31))),(.aeq (.av 3907) (.fa 425 t42 (.iv 3500) (.iv 3501) (.iv 1405) t0 (.av 1402) t31 t31)),(.eq (.len (.av 3907)) (.len (.av 1402))),(.le t9 (.iv 3902)),(.le (.iv 3902) t10)] (.need [(.le t1 t44),(.le t44 t2)] (.need [(.le t8 t44),(.le t44 (.iv 23)),(.eq (.len (.av 3107)) (.mul t17 (.iv 20))),(.eq (.len (.av 3507)) t18),(.eq (.len (.av 3907)) t18),(.fb 530 t45 t44 t11 t8 t46 (.av 3107) (.av 3507) (.av 3907)),(.aeq (.fa 530 t45 t44 t11 t8 t46 (.av 3107) (.av 3507) (.av 3907)) t16),(.lt t8 t19),(.lt t45 t19)] .done)))))))))))))))))))))))))))))))))) (.need [(.fb 290 (.iv 1401) (.iv 1402) t8 t8 t0 t31 t31 t31)] (.need [(.eq (.fi 530 (.iv 23) (.iv 0) t11 t8 t0 (.av 7) (.av 8) (.av 9)) (.fi 290 (.iv 1401) (.iv 1402) t8 t8 t0 t31 t31 t31)),(.aeq (.fa 533 (.iv 23) (.iv 0) t11 t8 t0 (.av 7) (.av 8) (.av 9)) (.av 1402)),(.aeq (.fa 532 (.iv 23) (.iv 0) t11 t8 t0 (.av 7) (.av 8) (.av 9)) (.av 1401)),(.aeq (.fa 531 (.iv 23) (.iv 0) t11 t8 t0 (.av 7) (.av 8) (.av 9)) (.av 1400))] .done))))))))))
theorem qlw:Dd (Db Tryz.prog (jq3 Tryz.prog) jr4 ⟨jme,Lb⟩ 100000 35 qa6) j7l=true:=by kernel_rfl
set_option maxHeartbeats 4000000 in
theorem j6k:Cf Tryz.prog Z 35 qa6:=by
  refine Bf (jip jje) jw4 qlw fun ρ h=> ?_
  have g1:=Cc h (.eq (.len (.av 1)) (.iv 6)) (by kernel_rfl)
  have g2:=Cc h (.le (.iv 6) Gl) (by kernel_rfl)
  have g3:=Cc h (.le (.lit 0) (.iv 0)) (by kernel_rfl)
  have g4:=Cc h (.le (.lit 589) (.iv 6)) (by kernel_rfl)
  have g5:=Cc h (.aeq (.cut (.av 1) (.lit 579) (.lit 10)) jnb) (by kernel_rfl)
  have g6:=Cc h (.le (.lit 1) (.iv 21)) (by kernel_rfl)
  have g7:=Cc h (.le (.iv 21) (.lit 65535)) (by kernel_rfl)
  have g8:=Cc h (.le (.lit 1) (.iv 22)) (by kernel_rfl)
  have g9:=Cc h (.le (.iv 22) (.lit 65535)) (by kernel_rfl)
  have g11:=Cc h (.eq (.iv 23) (.mul xT (.tdiv (.add (.iv 22) (.lit 15)) (.lit 16)))) (by kernel_rfl)
  have g12:=Cc h (.eq (.iv 20) (.mul (.lit 4) (.iv 23))) (by kernel_rfl)
  have g13:=Cc h (jh4 7 (.iv 20)) (by kernel_rfl)
  have g14:=Cc h (jh4 8 (.iv 23)) (by kernel_rfl)
  have g15:=Cc h (jh4 9 (.iv 23)) (by kernel_rfl)
  have g16:=Cc h (.le (.lit 1) (.get (.av 30) z0)) (by kernel_rfl)
  have g17:=Cc h (.le (.lit 1) (.get (.av 30) (.lit 64))) (by kernel_rfl)
  have g18:=Cc h (.fb 530 (.iv 23) z0 xT z0 (stT (.iv 0) z0 z0 z0 z0) (.av 7) (.av 8) (.av 9)) (by kernel_rfl)
  have g19:=Cc h (.le (.lit 10) (.iv 10)) (by kernel_rfl)
  clear h
  simp only[Gl,stT,app,one,xT,jh4,jnb,z0,Fb,j0m,↓qA,qB,and_true,implies_true,T.I,T.A,T.B,VC.sem] at g1 g2 g3 g4 g5 g6 g7 g8 g9 g11 g12 g13 g14 g15 g16 g17 g18 g19
  have tx:(ρ.i 21+15).tdiv 16=(ρ.i 21+15)/16:=Int.tdiv_eq_ediv_of_nonneg (by omega)
  have ty:(ρ.i 22+15).tdiv 16=(ρ.i 22+15)/16:=Int.tdiv_eq_ediv_of_nonneg (by omega)
  rw[tx,ty] at g11
  rw[tx] at g18
  have t1:=jz4 (x:=ρ.i 21) (by omega)
  have t2:=jz4 (x:=ρ.i 22) (by omega)
  have hX1:1≤(ρ.i 21+15)/16:=by omega
  have hX2:(ρ.i 21+15)/16≤4096:=by omega
  have hY1:1≤(ρ.i 22+15)/16:=by omega
  have hY2:(ρ.i 22+15)/16≤4096:=by omega
  have hN2:(ρ.i 21+15)/16*((ρ.i 22+15)/16)≤4096*4096:=Int.mul_le_mul hX2 hY2 (by omega) (by omega)
  simp only[j7l,↓qA,qB,and_true,implies_true,T.I,T.A,T.B,VC.sem,Ck,tx,t1,t2,←g11,Fb,jzk,j0m,qha,qic,j6q,j6y,j7b,jic,j10,jab,Zj,jfh,jee,jfz,jf2,jej,jf6,jff,jey,Int.sub_zero]
  generalize (ρ.i 21+15)/16=X at*
  have I:0≤ρ.i 1400→ρ.i 1400<ρ.i 23→(ρ.i 1400).tdiv (X)=ρ.i 1400/X∧(ρ.i 1400).tmod (X)=ρ.i 1400 % X∧0≤ρ.i 1400/X∧ρ.i 1400/X≤ρ.i 1400∧0≤ρ.i 1400 % X∧ρ.i 1400 % X<X∧ρ.i 1400/X*X+ρ.i 1400 % X=ρ.i 1400∧ρ.i 1400/X*X+X≤ρ.i 23∧0≤ρ.i 1400/X*X:=by
    intro a b
    obtain ⟨i1,i2,i3,i4,i5,i6⟩:=jzh (m:=ρ.i 1400) (X:=X) a hX1
    rw[Int.tdiv_eq_ediv_of_nonneg a,Int.tmod_eq_emod_of_nonneg a] at*
    have hd:ρ.i 1400/X<(ρ.i 22+15)/16:=by
      apply Int.ediv_lt_of_lt_mul (by omega)
      rw[Int.mul_comm];omega
    have he:(ρ.i 1400/X+1)*X≤(ρ.i 22+15)/16*X:=Int.mul_le_mul_of_nonneg_right (by omega) (by omega)
    rw[Int.add_mul,Int.one_mul,Int.mul_comm _ (X),Int.mul_comm _ (X),←g11,Int.mul_comm (X) (ρ.i 1400/X)] at he
    exact ⟨rfl,rfl,i2,i3,i5,i6,i1,he,i4⟩
  have hN0:0≤X*((ρ.i 22+15)/16):=Int.mul_nonneg (by omega) (by omega)
  have J:0≤ρ.i 1400→ρ.i 1400<ρ.i 23→(ρ.i 1400).tdiv (X)*2*(X*2)=4*(ρ.i 1400/X*X)∧((ρ.i 1400).tdiv (X)*2+1)*(X*2)=4*(ρ.i 1400/X*X)+2*X∧(ρ.i 1400).tdiv (X)*X=ρ.i 1400/X*X∧
      ((ρ.i 1400).tdiv (X)*2*(X*2)+(ρ.i 1400).tmod (X)*2)*64=dY (X) (ρ.i 1400) 0∧((ρ.i 1400).tdiv (X)*2*(X*2)+(ρ.i 1400).tmod (X)*2+1)*64=dY (X) (ρ.i 1400) 1∧(((ρ.i 1400).tdiv (X)*2+1)*(X*2)+(ρ.i 1400).tmod (X)*2)*64=dY (X) (ρ.i 1400) 2∧(((ρ.i 1400).tdiv (X)*2+1)*(X*2)+(ρ.i 1400).tmod (X)*2+1)*64=dY (X) (ρ.i 1400) 3∧((ρ.i 1400).tdiv (X)*X+(ρ.i 1400).tmod (X))*64=dC (X) (ρ.i 1400):=by
    intro a b
    obtain ⟨i1,i2,i3,i4,i5,i6,i7,i8,i9⟩:=I a b
    obtain ⟨d0,d1,d2,d3,d4⟩:=qgo (X:=X) (m:=ρ.i 1400) rfl rfl
    rw[i1,i2,d0,d1,d2,d3,d4,Int.add_mul,j7s,Int.one_mul]
    refine ⟨rfl,?_,rfl,?_,?_,?_,?_,?_⟩<;>omega
  (repeat' (first|with_reducible exact True.intro|with_reducible refine And.intro ?_ ?_|intro _))<;>(try omega)
  all_goals (try (have i:=I (by omega) (by omega);have j:=J (by omega) (by omega);omega))
  · exact g5.symm
  · skip
    have ho:= ‹Lz _ _ (ρ.i 23-ρ.i 1400).toNat _ _=true›
    rw[Lr (by omega),jah] at ho
    simp only[Bool.and_eq_true] at ho
    obtain ⟨⟨k0,k1,k2,k3,k4,k5⟩,k6⟩:=ho
    exact k0
  · skip
    have ho:= ‹Lz _ _ (ρ.i 23-ρ.i 1400).toNat _ _=true›
    rw[Lr (by omega),jah] at ho
    simp only[Bool.and_eq_true] at ho
    obtain ⟨⟨k0,k1,k2,k3,k4,k5⟩,k6⟩:=ho
    obtain ⟨j1,j2,j3,y1,y2,y3,y4,y5⟩:=J (by omega) (by omega)
    have u1:un1 (ρ.a 1) (X) (ρ.i 1400) ⟨ρ.i 1401,ρ.i 1402,ρ.i 1403,ρ.i 1404,ρ.i 1405,ρ.a 1400,ρ.a 1401,ρ.a 1402⟩=⟨ρ.i 1900,ρ.i 1901,ρ.i 1902,ρ.i 1404,ρ.i 1405,ρ.a 1907,ρ.a 1401,ρ.a 1402⟩:=by
      rw[un1,‹ρ.i 1900=_›,‹ρ.i 1901=_›,‹ρ.i 1902=_›,‹ρ.a 1907=_›,y1];rfl
    rw[u1] at k1
    exact k1
  · skip
    have ho:= ‹Lz _ _ (ρ.i 23-ρ.i 1400).toNat _ _=true›
    rw[Lr (by omega),jah] at ho
    simp only[Bool.and_eq_true] at ho
    obtain ⟨⟨k0,k1,k2,k3,k4,k5⟩,k6⟩:=ho
    obtain ⟨j1,j2,j3,y1,y2,y3,y4,y5⟩:=J (by omega) (by omega)
    have u1:un1 (ρ.a 1) (X) (ρ.i 1400) ⟨ρ.i 1401,ρ.i 1402,ρ.i 1403,ρ.i 1404,ρ.i 1405,ρ.a 1400,ρ.a 1401,ρ.a 1402⟩=⟨ρ.i 1900,ρ.i 1901,ρ.i 1902,ρ.i 1404,ρ.i 1405,ρ.a 1907,ρ.a 1401,ρ.a 1402⟩:=by
      rw[un1,‹ρ.i 1900=_›,‹ρ.i 1901=_›,‹ρ.i 1902=_›,‹ρ.a 1907=_›,y1];rfl
    have u2:un2 (ρ.a 1) (X) (ρ.i 1400) ⟨ρ.i 1401,ρ.i 1402,ρ.i 1403,ρ.i 1404,ρ.i 1405,ρ.a 1400,ρ.a 1401,ρ.a 1402⟩=⟨ρ.i 2300,ρ.i 2301,ρ.i 2302,ρ.i 1404,ρ.i 1405,ρ.a 2307,ρ.a 1401,ρ.a 1402⟩:=by
      rw[un2,u1,‹ρ.i 2300=_›,‹ρ.i 2301=_›,‹ρ.i 2302=_›,‹ρ.a 2307=_›,y2];rfl
    rw[u2] at k2
    exact k2
  · skip
    have ho:= ‹Lz _ _ (ρ.i 23-ρ.i 1400).toNat _ _=true›
    rw[Lr (by omega),jah] at ho
    simp only[Bool.and_eq_true] at ho
    obtain ⟨⟨k0,k1,k2,k3,k4,k5⟩,k6⟩:=ho
    obtain ⟨j1,j2,j3,y1,y2,y3,y4,y5⟩:=J (by omega) (by omega)
    have u1:un1 (ρ.a 1) (X) (ρ.i 1400) ⟨ρ.i 1401,ρ.i 1402,ρ.i 1403,ρ.i 1404,ρ.i 1405,ρ.a 1400,ρ.a 1401,ρ.a 1402⟩=⟨ρ.i 1900,ρ.i 1901,ρ.i 1902,ρ.i 1404,ρ.i 1405,ρ.a 1907,ρ.a 1401,ρ.a 1402⟩:=by
      rw[un1,‹ρ.i 1900=_›,‹ρ.i 1901=_›,‹ρ.i 1902=_›,‹ρ.a 1907=_›,y1];rfl
    have u2:un2 (ρ.a 1) (X) (ρ.i 1400) ⟨ρ.i 1401,ρ.i 1402,ρ.i 1403,ρ.i 1404,ρ.i 1405,ρ.a 1400,ρ.a 1401,ρ.a 1402⟩=⟨ρ.i 2300,ρ.i 2301,ρ.i 2302,ρ.i 1404,ρ.i 1405,ρ.a 2307,ρ.a 1401,ρ.a 1402⟩:=by
      rw[un2,u1,‹ρ.i 2300=_›,‹ρ.i 2301=_›,‹ρ.i 2302=_›,‹ρ.a 2307=_›,y2];rfl
    have u3:un3 (ρ.a 1) (X) (ρ.i 1400) ⟨ρ.i 1401,ρ.i 1402,ρ.i 1403,ρ.i 1404,ρ.i 1405,ρ.a 1400,ρ.a 1401,ρ.a 1402⟩=⟨ρ.i 2700,ρ.i 2701,ρ.i 2702,ρ.i 1404,ρ.i 1405,ρ.a 2707,ρ.a 1401,ρ.a 1402⟩:=by
      rw[un3,u2,‹ρ.i 2700=_›,‹ρ.i 2701=_›,‹ρ.i 2702=_›,‹ρ.a 2707=_›,y3];rfl
    rw[u3] at k3
    exact k3
  · skip
    have ho:= ‹Lz _ _ (ρ.i 23-ρ.i 1400).toNat _ _=true›
    rw[Lr (by omega),jah] at ho
    simp only[Bool.and_eq_true] at ho
    obtain ⟨⟨k0,k1,k2,k3,k4,k5⟩,k6⟩:=ho
    obtain ⟨j1,j2,j3,y1,y2,y3,y4,y5⟩:=J (by omega) (by omega)
    have u1:un1 (ρ.a 1) (X) (ρ.i 1400) ⟨ρ.i 1401,ρ.i 1402,ρ.i 1403,ρ.i 1404,ρ.i 1405,ρ.a 1400,ρ.a 1401,ρ.a 1402⟩=⟨ρ.i 1900,ρ.i 1901,ρ.i 1902,ρ.i 1404,ρ.i 1405,ρ.a 1907,ρ.a 1401,ρ.a 1402⟩:=by
      rw[un1,‹ρ.i 1900=_›,‹ρ.i 1901=_›,‹ρ.i 1902=_›,‹ρ.a 1907=_›,y1];rfl
    have u2:un2 (ρ.a 1) (X) (ρ.i 1400) ⟨ρ.i 1401,ρ.i 1402,ρ.i 1403,ρ.i 1404,ρ.i 1405,ρ.a 1400,ρ.a 1401,ρ.a 1402⟩=⟨ρ.i 2300,ρ.i 2301,ρ.i 2302,ρ.i 1404,ρ.i 1405,ρ.a 2307,ρ.a 1401,ρ.a 1402⟩:=by
      rw[un2,u1,‹ρ.i 2300=_›,‹ρ.i 2301=_›,‹ρ.i 2302=_›,‹ρ.a 2307=_›,y2];rfl
    have u3:un3 (ρ.a 1) (X) (ρ.i 1400) ⟨ρ.i 1401,ρ.i 1402,ρ.i 1403,ρ.i 1404,ρ.i 1405,ρ.a 1400,ρ.a 1401,ρ.a 1402⟩=⟨ρ.i 2700,ρ.i 2701,ρ.i 2702,ρ.i 1404,ρ.i 1405,ρ.a 2707,ρ.a 1401,ρ.a 1402⟩:=by
      rw[un3,u2,‹ρ.i 2700=_›,‹ρ.i 2701=_›,‹ρ.i 2702=_›,‹ρ.a 2707=_›,y3];rfl
    have u4:un4 (ρ.a 1) (X) (ρ.i 1400) ⟨ρ.i 1401,ρ.i 1402,ρ.i 1403,ρ.i 1404,ρ.i 1405,ρ.a 1400,ρ.a 1401,ρ.a 1402⟩=⟨ρ.i 3100,ρ.i 3101,ρ.i 3102,ρ.i 1404,ρ.i 1405,ρ.a 3107,ρ.a 1401,ρ.a 1402⟩:=by
      rw[un4,u3,‹ρ.i 3100=_›,‹ρ.i 3101=_›,‹ρ.i 3102=_›,‹ρ.a 3107=_›,y4];rfl
    rw[u4] at k4
    exact k4
  · skip
    have ho:= ‹Lz _ _ (ρ.i 23-ρ.i 1400).toNat _ _=true›
    rw[Lr (by omega),jah] at ho
    simp only[Bool.and_eq_true] at ho
    obtain ⟨⟨k0,k1,k2,k3,k4,k5⟩,k6⟩:=ho
    obtain ⟨j1,j2,j3,y1,y2,y3,y4,y5⟩:=J (by omega) (by omega)
    have u1:un1 (ρ.a 1) (X) (ρ.i 1400) ⟨ρ.i 1401,ρ.i 1402,ρ.i 1403,ρ.i 1404,ρ.i 1405,ρ.a 1400,ρ.a 1401,ρ.a 1402⟩=⟨ρ.i 1900,ρ.i 1901,ρ.i 1902,ρ.i 1404,ρ.i 1405,ρ.a 1907,ρ.a 1401,ρ.a 1402⟩:=by
      rw[un1,‹ρ.i 1900=_›,‹ρ.i 1901=_›,‹ρ.i 1902=_›,‹ρ.a 1907=_›,y1];rfl
    have u2:un2 (ρ.a 1) (X) (ρ.i 1400) ⟨ρ.i 1401,ρ.i 1402,ρ.i 1403,ρ.i 1404,ρ.i 1405,ρ.a 1400,ρ.a 1401,ρ.a 1402⟩=⟨ρ.i 2300,ρ.i 2301,ρ.i 2302,ρ.i 1404,ρ.i 1405,ρ.a 2307,ρ.a 1401,ρ.a 1402⟩:=by
      rw[un2,u1,‹ρ.i 2300=_›,‹ρ.i 2301=_›,‹ρ.i 2302=_›,‹ρ.a 2307=_›,y2];rfl
    have u3:un3 (ρ.a 1) (X) (ρ.i 1400) ⟨ρ.i 1401,ρ.i 1402,ρ.i 1403,ρ.i 1404,ρ.i 1405,ρ.a 1400,ρ.a 1401,ρ.a 1402⟩=⟨ρ.i 2700,ρ.i 2701,ρ.i 2702,ρ.i 1404,ρ.i 1405,ρ.a 2707,ρ.a 1401,ρ.a 1402⟩:=by
      rw[un3,u2,‹ρ.i 2700=_›,‹ρ.i 2701=_›,‹ρ.i 2702=_›,‹ρ.a 2707=_›,y3];rfl
    have u4:un4 (ρ.a 1) (X) (ρ.i 1400) ⟨ρ.i 1401,ρ.i 1402,ρ.i 1403,ρ.i 1404,ρ.i 1405,ρ.a 1400,ρ.a 1401,ρ.a 1402⟩=⟨ρ.i 3100,ρ.i 3101,ρ.i 3102,ρ.i 1404,ρ.i 1405,ρ.a 3107,ρ.a 1401,ρ.a 1402⟩:=by
      rw[un4,u3,‹ρ.i 3100=_›,‹ρ.i 3101=_›,‹ρ.i 3102=_›,‹ρ.a 3107=_›,y4];rfl
    have u5:un5 (ρ.a 1) (X) (ρ.i 1400) ⟨ρ.i 1401,ρ.i 1402,ρ.i 1403,ρ.i 1404,ρ.i 1405,ρ.a 1400,ρ.a 1401,ρ.a 1402⟩=⟨ρ.i 3500,ρ.i 3501,ρ.i 3102,ρ.i 3502,ρ.i 1405,ρ.a 3107,ρ.a 3507,ρ.a 1402⟩:=by
      rw[un5,u4,‹ρ.i 3500=_›,‹ρ.i 3501=_›,‹ρ.i 3502=_›,‹ρ.a 3507=_›,y5];rfl
    rw[u5] at k5
    exact k5
  · skip
    have ho:= ‹Lz _ _ (ρ.i 23-ρ.i 1400).toNat _ _=true›
    rw[Lr (by omega),jah] at ho
    simp only[Bool.and_eq_true] at ho
    obtain ⟨⟨k0,k1,k2,k3,k4,k5⟩,k6⟩:=ho
    obtain ⟨j1,j2,j3,y1,y2,y3,y4,y5⟩:=J (by omega) (by omega)
    have u1:un1 (ρ.a 1) (X) (ρ.i 1400) ⟨ρ.i 1401,ρ.i 1402,ρ.i 1403,ρ.i 1404,ρ.i 1405,ρ.a 1400,ρ.a 1401,ρ.a 1402⟩=⟨ρ.i 1900,ρ.i 1901,ρ.i 1902,ρ.i 1404,ρ.i 1405,ρ.a 1907,ρ.a 1401,ρ.a 1402⟩:=by
      rw[un1,‹ρ.i 1900=_›,‹ρ.i 1901=_›,‹ρ.i 1902=_›,‹ρ.a 1907=_›,y1];rfl
    have u2:un2 (ρ.a 1) (X) (ρ.i 1400) ⟨ρ.i 1401,ρ.i 1402,ρ.i 1403,ρ.i 1404,ρ.i 1405,ρ.a 1400,ρ.a 1401,ρ.a 1402⟩=⟨ρ.i 2300,ρ.i 2301,ρ.i 2302,ρ.i 1404,ρ.i 1405,ρ.a 2307,ρ.a 1401,ρ.a 1402⟩:=by
      rw[un2,u1,‹ρ.i 2300=_›,‹ρ.i 2301=_›,‹ρ.i 2302=_›,‹ρ.a 2307=_›,y2];rfl
    have u3:un3 (ρ.a 1) (X) (ρ.i 1400) ⟨ρ.i 1401,ρ.i 1402,ρ.i 1403,ρ.i 1404,ρ.i 1405,ρ.a 1400,ρ.a 1401,ρ.a 1402⟩=⟨ρ.i 2700,ρ.i 2701,ρ.i 2702,ρ.i 1404,ρ.i 1405,ρ.a 2707,ρ.a 1401,ρ.a 1402⟩:=by
      rw[un3,u2,‹ρ.i 2700=_›,‹ρ.i 2701=_›,‹ρ.i 2702=_›,‹ρ.a 2707=_›,y3];rfl
    have u4:un4 (ρ.a 1) (X) (ρ.i 1400) ⟨ρ.i 1401,ρ.i 1402,ρ.i 1403,ρ.i 1404,ρ.i 1405,ρ.a 1400,ρ.a 1401,ρ.a 1402⟩=⟨ρ.i 3100,ρ.i 3101,ρ.i 3102,ρ.i 1404,ρ.i 1405,ρ.a 3107,ρ.a 1401,ρ.a 1402⟩:=by
      rw[un4,u3,‹ρ.i 3100=_›,‹ρ.i 3101=_›,‹ρ.i 3102=_›,‹ρ.a 3107=_›,y4];rfl
    have u5:un5 (ρ.a 1) (X) (ρ.i 1400) ⟨ρ.i 1401,ρ.i 1402,ρ.i 1403,ρ.i 1404,ρ.i 1405,ρ.a 1400,ρ.a 1401,ρ.a 1402⟩=⟨ρ.i 3500,ρ.i 3501,ρ.i 3102,ρ.i 3502,ρ.i 1405,ρ.a 3107,ρ.a 3507,ρ.a 1402⟩:=by
      rw[un5,u4,‹ρ.i 3500=_›,‹ρ.i 3501=_›,‹ρ.i 3502=_›,‹ρ.a 3507=_›,y5];rfl
    have u6:un6 (ρ.a 1) (X) (ρ.i 1400) ⟨ρ.i 1401,ρ.i 1402,ρ.i 1403,ρ.i 1404,ρ.i 1405,ρ.a 1400,ρ.a 1401,ρ.a 1402⟩=⟨ρ.i 3900,ρ.i 3901,ρ.i 3102,ρ.i 3502,ρ.i 3902,ρ.a 3107,ρ.a 3507,ρ.a 3907⟩:=by
      rw[un6,u5,‹ρ.i 3900=_›,‹ρ.i 3901=_›,‹ρ.i 3902=_›,‹ρ.a 3907=_›,y5];rfl
    rw[u6] at k6
    exact k6
  · skip
    obtain ⟨j1,j2,j3,y1,y2,y3,y4,y5⟩:=J (by omega) (by omega)
    have u1:un1 (ρ.a 1) (X) (ρ.i 1400) ⟨ρ.i 1401,ρ.i 1402,ρ.i 1403,ρ.i 1404,ρ.i 1405,ρ.a 1400,ρ.a 1401,ρ.a 1402⟩=⟨ρ.i 1900,ρ.i 1901,ρ.i 1902,ρ.i 1404,ρ.i 1405,ρ.a 1907,ρ.a 1401,ρ.a 1402⟩:=by
      rw[un1,‹ρ.i 1900=_›,‹ρ.i 1901=_›,‹ρ.i 1902=_›,‹ρ.a 1907=_›,y1];rfl
    have u2:un2 (ρ.a 1) (X) (ρ.i 1400) ⟨ρ.i 1401,ρ.i 1402,ρ.i 1403,ρ.i 1404,ρ.i 1405,ρ.a 1400,ρ.a 1401,ρ.a 1402⟩=⟨ρ.i 2300,ρ.i 2301,ρ.i 2302,ρ.i 1404,ρ.i 1405,ρ.a 2307,ρ.a 1401,ρ.a 1402⟩:=by
      rw[un2,u1,‹ρ.i 2300=_›,‹ρ.i 2301=_›,‹ρ.i 2302=_›,‹ρ.a 2307=_›,y2];rfl
    have u3:un3 (ρ.a 1) (X) (ρ.i 1400) ⟨ρ.i 1401,ρ.i 1402,ρ.i 1403,ρ.i 1404,ρ.i 1405,ρ.a 1400,ρ.a 1401,ρ.a 1402⟩=⟨ρ.i 2700,ρ.i 2701,ρ.i 2702,ρ.i 1404,ρ.i 1405,ρ.a 2707,ρ.a 1401,ρ.a 1402⟩:=by
      rw[un3,u2,‹ρ.i 2700=_›,‹ρ.i 2701=_›,‹ρ.i 2702=_›,‹ρ.a 2707=_›,y3];rfl
    have u4:un4 (ρ.a 1) (X) (ρ.i 1400) ⟨ρ.i 1401,ρ.i 1402,ρ.i 1403,ρ.i 1404,ρ.i 1405,ρ.a 1400,ρ.a 1401,ρ.a 1402⟩=⟨ρ.i 3100,ρ.i 3101,ρ.i 3102,ρ.i 1404,ρ.i 1405,ρ.a 3107,ρ.a 1401,ρ.a 1402⟩:=by
      rw[un4,u3,‹ρ.i 3100=_›,‹ρ.i 3101=_›,‹ρ.i 3102=_›,‹ρ.a 3107=_›,y4];rfl
    have u5:un5 (ρ.a 1) (X) (ρ.i 1400) ⟨ρ.i 1401,ρ.i 1402,ρ.i 1403,ρ.i 1404,ρ.i 1405,ρ.a 1400,ρ.a 1401,ρ.a 1402⟩=⟨ρ.i 3500,ρ.i 3501,ρ.i 3102,ρ.i 3502,ρ.i 1405,ρ.a 3107,ρ.a 3507,ρ.a 1402⟩:=by
      rw[un5,u4,‹ρ.i 3500=_›,‹ρ.i 3501=_›,‹ρ.i 3502=_›,‹ρ.a 3507=_›,y5];rfl
    have u6:un6 (ρ.a 1) (X) (ρ.i 1400) ⟨ρ.i 1401,ρ.i 1402,ρ.i 1403,ρ.i 1404,ρ.i 1405,ρ.a 1400,ρ.a 1401,ρ.a 1402⟩=⟨ρ.i 3900,ρ.i 3901,ρ.i 3102,ρ.i 3502,ρ.i 3902,ρ.a 3107,ρ.a 3507,ρ.a 3907⟩:=by
      rw[un6,u5,‹ρ.i 3900=_›,‹ρ.i 3901=_›,‹ρ.i 3902=_›,‹ρ.a 3907=_›,y5];rfl
    rw[←u6,←jz3 (by omega)]
    assumption
  · have ho:= ‹Lz _ _ (ρ.i 23-ρ.i 1400).toNat _ _=true›
    rw[show (ρ.i 23-ρ.i 1400).toNat=0 from by omega] at ho
    exact ho
  · skip
    have he:= ‹pkC (scC _ _ (ρ.i 23-ρ.i 1400).toNat _ _)=_›
    rw[show (ρ.i 23-ρ.i 1400).toNat=0 from by omega] at he
    have he:=jdg he
    unfold jza st0
    rw[←he];rfl
  · skip
    have he:= ‹pkC (scC _ _ (ρ.i 23-ρ.i 1400).toNat _ _)=_›
    rw[show (ρ.i 23-ρ.i 1400).toNat=0 from by omega] at he
    have he:=jdg he
    unfold st0
    rw[←he];rfl
  · skip
    have he:= ‹pkC (scC _ _ (ρ.i 23-ρ.i 1400).toNat _ _)=_›
    rw[show (ρ.i 23-ρ.i 1400).toNat=0 from by omega] at he
    have he:=jdg he
    unfold st0
    rw[←he];rfl
  · skip
    have he:= ‹pkC (scC _ _ (ρ.i 23-ρ.i 1400).toNat _ _)=_›
    rw[show (ρ.i 23-ρ.i 1400).toNat=0 from by omega] at he
    have he:=jdg he
    unfold st0
    rw[←he];rfl
def jhc:VC:=
 let t0:T:=.lit 155
 let t1:T:=.get (.av 1) (.iv 1000)
 let t2:T:=.add (.iv 1000) (.lit 1)
 let t3:T:=.le (.lit (-9223372036854775808)) t2
 let t4:T:=.le t2 (.lit 9223372036854775807)
 (.need [(.le (.lit 0) (.iv 6))] (.cond (.le (.iv 6) t0) (.need [.ff,.ff] .done) (.need [(.lt t0 (.iv 6))] (.need [(.lt t0 (.len (.av 1)))] (.need [(.le t0 t0),(.le t0 (.add t0 (.lit 1)))] (.any 1000 1000000000 [(.le t0 (.iv 1000)),(.le (.iv 1000) (.add t0 (.lit 1)))] (.cond (.lt (.iv 1000) (.iv 6)) (.need [(.le (.lit 0) (.iv 1000))] (.need [(.lt (.iv 1000) (.len (.av 1)))] (.cond (.eq t1 (.lit 255)) (.need [t3,t4] (.need [(.le t0 t2),(.le t2 (.add t0 (.lit 1))),(.lt (.lit 0) (.sub (.add t0 (.lit 2)) (.iv 1000))),(.lt (.sub (.add t0 (.lit 2)) t2) (.sub (.add t0 (.lit 2)) (.iv 1000)))] .done)) (.cond (.eq (.iv 1000) (.iv 6)) (.need [(.eq (.lit 157) (.iv 1000)),.ff] .done) (.need [(.le (.lit (-9223372036854775808)) t1),(.le t1 (.lit 9223372036854775807))] (.need [t3,t4] (.need [(.eq (.lit 157) t2),(.eq (.lit 196) t1)] .done))))))) (.cond (.eq (.iv 1000) (.iv 6)) (.need [(.eq (.lit 157) (.iv 1000)),.ff] .done) (.need [(.le (.lit 0) (.iv 1000)),(.lt (.iv 1000) (.iv 6))] (.need [(.lt (.iv 1000) (.len (.av 1)))] (.need [(.le (.lit (-9223372036854775808)) t1),(.le t1 (.lit 9223372036854775807))] (.need [t3,t4] (.need [(.eq (.lit 157) t2),(.eq (.lit 196) t1)] .done)))))))))))))
theorem j1r:Dd (Db Tryz.prog Jt Jq ⟨Tv (.lit 155),Lb⟩ 100000 31 (Wy (.lit 155) 196)) jhc=true:=by kernel_rfl
theorem jne:Cf Tryz.prog Z 31 (Wy (.lit 155) 196):=by
  refine Bf Cq Cn j1r fun ρ h=> ?_
  simp only[Wy,bD,Ny,gD,Du,z0,Gl,Tm,Ck,Bi,Di,List.flatMap_cons,List.flatMap_nil,List.append_nil,List.append_assoc,List.cons_append,List.nil_append,and_true,↓qA,qB,and_true,implies_true,T.I,T.A,T.B,VC.sem,Int.reduceAdd] at h
  obtain ⟨h1,h2,h3,h4,h5,h5',h6,h7⟩:=h
  have hb:=Ct h4 (n:=ρ.i 1000)
  have k0:ρ.i 1000=155→Bg (ρ.a 1) (ρ.i 1000)=255:=fun e=>by rw[e];exact h6
  have k1:ρ.i 1000=156→Bg (ρ.a 1) (ρ.i 1000)=196:=fun e=>by rw[e];exact h7
  simp only[jhc,↓qA,qB,and_true,implies_true,T.I,T.A,T.B,VC.sem,Ck,Int.reduceAdd]
  (repeat' (first|exact True.intro|refine And.intro ?_ ?_|intro _))<;>(try assumption)<;>(try omega)
def jiz:VC:=
 let t0:T:=.lit 575
 let t1:T:=.get (.av 1) (.iv 1000)
 let t2:T:=.add (.iv 1000) (.lit 1)
 let t3:T:=.le (.lit (-9223372036854775808)) t2
 let t4:T:=.le t2 (.lit 9223372036854775807)
 (.need [(.le (.lit 0) (.iv 6))] (.cond (.le (.iv 6) t0) (.need [.ff,.ff] .done) (.need [(.lt t0 (.iv 6))] (.need [(.lt t0 (.len (.av 1)))] (.need [(.le t0 t0),(.le t0 (.add t0 (.lit 1)))] (.any 1000 1000000000 [(.le t0 (.iv 1000)),(.le (.iv 1000) (.add t0 (.lit 1)))] (.cond (.lt (.iv 1000) (.iv 6)) (.need [(.le (.lit 0) (.iv 1000))] (.need [(.lt (.iv 1000) (.len (.av 1)))] (.cond (.eq t1 (.lit 255)) (.need [t3,t4] (.need [(.le t0 t2),(.le t2 (.add t0 (.lit 1))),(.lt (.lit 0) (.sub (.add t0 (.lit 2)) (.iv 1000))),(.lt (.sub (.add t0 (.lit 2)) t2) (.sub (.add t0 (.lit 2)) (.iv 1000)))] .done)) (.cond (.eq (.iv 1000) (.iv 6)) (.need [(.eq (.lit 577) (.iv 1000)),.ff] .done) (.need [(.le (.lit (-9223372036854775808)) t1),(.le t1 (.lit 9223372036854775807))] (.need [t3,t4] (.need [(.eq (.lit 577) t2),(.eq (.lit 218) t1)] .done))))))) (.cond (.eq (.iv 1000) (.iv 6)) (.need [(.eq (.lit 577) (.iv 1000)),.ff] .done) (.need [(.le (.lit 0) (.iv 1000)),(.lt (.iv 1000) (.iv 6))] (.need [(.lt (.iv 1000) (.len (.av 1)))] (.need [(.le (.lit (-9223372036854775808)) t1),(.le t1 (.lit 9223372036854775807))] (.need [t3,t4] (.need [(.eq (.lit 577) t2),(.eq (.lit 218) t1)] .done)))))))))))))
theorem jzd:Dd (Db Tryz.prog Jt Jq ⟨Tv (.lit 575),Lb⟩ 100000 31 (Wy (.lit 575) 218)) jiz=true:=by kernel_rfl
theorem joj:Cf Tryz.prog Z 31 (Wy (.lit 575) 218):=by
  refine Bf Cq Cn jzd fun ρ h=> ?_
  simp only[Wy,bD,Ny,gD,Du,z0,Gl,Tm,Ck,Bi,Di,List.flatMap_cons,List.flatMap_nil,List.append_nil,List.append_assoc,List.cons_append,List.nil_append,and_true,↓qA,qB,and_true,implies_true,T.I,T.A,T.B,VC.sem,Int.reduceAdd] at h
  obtain ⟨h1,h2,h3,h4,h5,h5',h6,h7⟩:=h
  have hb:=Ct h4 (n:=ρ.i 1000)
  have k0:ρ.i 1000=575→Bg (ρ.a 1) (ρ.i 1000)=255:=fun e=>by rw[e];exact h6
  have k1:ρ.i 1000=576→Bg (ρ.a 1) (ρ.i 1000)=218:=fun e=>by rw[e];exact h7
  simp only[jiz,↓qA,qB,and_true,implies_true,T.I,T.A,T.B,VC.sem,Ck,Int.reduceAdd]
  (repeat' (first|exact True.intro|refine And.intro ?_ ?_|intro _))<;>(try assumption)<;>(try omega)
def jhu:VC:=
 let t0:T:=.lit (-9223372036854775808)
 let t1:T:=.lit 9223372036854775807
 let t2:T:=.mul (.get (.av 1) (.lit 138)) (.lit 256)
 let t3:T:=.bits .or .i64 t2 (.get (.av 1) (.lit 139))
 let t4:T:=.add (.lit 138) t3
 (.need [(.le (.lit 0) (.iv 6))] (.cond (.lt (.iv 6) (.lit 140)) (.fail "leaf fit") (.need [(.lt (.lit 138) (.iv 6))] (.need [(.lt (.lit 138) (.len (.av 1)))] (.need [(.le t0 (.get (.av 1) (.lit 138))),(.le (.get (.av 1) (.lit 138)) t1)] (.need [(.le t0 t2),(.le t2 t1)] (.need [(.lt (.lit 139) (.iv 6))] (.need [(.lt (.lit 139) (.len (.av 1)))] (.need [(.le t0 (.get (.av 1) (.lit 139))),(.le (.get (.av 1) (.lit 139)) t1)] (.cond (.lt t3 (.lit 2)) (.fail "leaf fit") (.need [(.le t0 t4),(.le t4 t1)] (.cond (.lt (.iv 6) t4) (.fail "leaf fit") (.need [(.le (.lit 0) (.iv 7)),(.le (.iv 7) (.iv 7)),(.le (.lit 0) t4),(.le t4 (.iv 7)),(.le (.lit 140) t4),(.le (.lit 0) (.iv 7))] (.need [(.eq (.lit 155) t4),(.eq (.lit 15) (.sub t4 (.lit 140))),(.eq (.lit 140) (.ite (.eq (.iv 7) (.lit 140)) (.lit 0) (.lit 140)))] .done))))))))))))))
theorem jzn:Dd (Db Tryz.prog Jt Jq ⟨Tv z0,Lb⟩ 100000 33 (Xr 138 17)) jhu=true:=by kernel_rfl
theorem joi:Cf Tryz.prog Z 33 (Xr 138 17):=by
  refine Bf Cq Cn jzn fun ρ h=> ?_
  simp only[Xr,bD,Ny,gD,Du,z0,Gl,Tm,Ck,Bi,Di,List.flatMap_cons,List.flatMap_nil,List.append_nil,List.append_assoc,List.cons_append,List.nil_append,and_true,↓qA,qB,and_true,implies_true,T.I,T.A,T.B,VC.sem,Nat.reduceAdd,Nat.reduceDiv,Nat.reduceMod,Int.cast_ofNat_Int] at h
  obtain ⟨h1,h2,h3,h4,h5,h6,h7⟩:=h
  have e1:Dj .or .i64 (Bg (ρ.a 1) 138*256) (Bg (ρ.a 1) 139)=17:=by
    rw[h6,h7,Ty (by omega) (by omega) (by omega) (by omega)];rfl
  simp only[jhu,↓qA,qB,and_true,implies_true,T.I,T.A,T.B,VC.sem,Ck,e1,Int.reduceAdd,Dk]
  (repeat' (first|exact True.intro|refine And.intro ?_ ?_|intro _))<;>(try assumption)<;>(try omega)
def ji4:VC:=
 let t0:T:=.lit (-9223372036854775808)
 let t1:T:=.lit 9223372036854775807
 let t2:T:=.mul (.get (.av 1) (.lit 157)) (.lit 256)
 let t3:T:=.bits .or .i64 t2 (.get (.av 1) (.lit 158))
 let t4:T:=.add (.lit 157) t3
 (.need [(.le (.lit 0) (.iv 6))] (.cond (.lt (.iv 6) (.lit 159)) (.fail "leaf fit") (.need [(.lt (.lit 157) (.iv 6))] (.need [(.lt (.lit 157) (.len (.av 1)))] (.need [(.le t0 (.get (.av 1) (.lit 157))),(.le (.get (.av 1) (.lit 157)) t1)] (.need [(.le t0 t2),(.le t2 t1)] (.need [(.lt (.lit 158) (.iv 6))] (.need [(.lt (.lit 158) (.len (.av 1)))] (.need [(.le t0 (.get (.av 1) (.lit 158))),(.le (.get (.av 1) (.lit 158)) t1)] (.cond (.lt t3 (.lit 2)) (.fail "leaf fit") (.need [(.le t0 t4),(.le t4 t1)] (.cond (.lt (.iv 6) t4) (.fail "leaf fit") (.need [(.le (.lit 0) (.iv 7)),(.le (.iv 7) (.iv 7)),(.le (.lit 0) t4),(.le t4 (.iv 7)),(.le (.lit 159) t4),(.le (.lit 0) (.iv 7))] (.need [(.eq (.lit 575) t4),(.eq (.lit 416) (.sub t4 (.lit 159))),(.eq (.lit 159) (.ite (.eq (.iv 7) (.lit 159)) (.lit 0) (.lit 159)))] .done))))))))))))))
theorem jww:Dd (Db Tryz.prog Jt Jq ⟨Tv z0,Lb⟩ 100000 33 (Xr 157 418)) ji4=true:=by kernel_rfl
theorem jnp:Cf Tryz.prog Z 33 (Xr 157 418):=by
  refine Bf Cq Cn jww fun ρ h=> ?_
  simp only[Xr,bD,Ny,gD,Du,z0,Gl,Tm,Ck,Bi,Di,List.flatMap_cons,List.flatMap_nil,List.append_nil,List.append_assoc,List.cons_append,List.nil_append,and_true,↓qA,qB,and_true,implies_true,T.I,T.A,T.B,VC.sem,Nat.reduceAdd,Nat.reduceDiv,Nat.reduceMod,Int.cast_ofNat_Int] at h
  obtain ⟨h1,h2,h3,h4,h5,h6,h7⟩:=h
  have e1:Dj .or .i64 (Bg (ρ.a 1) 157*256) (Bg (ρ.a 1) 158)=418:=by
    rw[h6,h7,Ty (by omega) (by omega) (by omega) (by omega)];rfl
  simp only[ji4,↓qA,qB,and_true,implies_true,T.I,T.A,T.B,VC.sem,Ck,e1,Int.reduceAdd,Dk]
  (repeat' (first|exact True.intro|refine And.intro ?_ ?_|intro _))<;>(try assumption)<;>(try omega)
def jhn:VC:=
 let t0:T:=.lit (-9223372036854775808)
 let t1:T:=.lit 9223372036854775807
 let t2:T:=.mul (.get (.av 1) (.lit 577)) (.lit 256)
 let t3:T:=.bits .or .i64 t2 (.get (.av 1) (.lit 578))
 let t4:T:=.add (.lit 577) t3
 (.need [(.le (.lit 0) (.iv 6))] (.cond (.lt (.iv 6) (.lit 579)) (.fail "leaf fit") (.need [(.lt (.lit 577) (.iv 6))] (.need [(.lt (.lit 577) (.len (.av 1)))] (.need [(.le t0 (.get (.av 1) (.lit 577))),(.le (.get (.av 1) (.lit 577)) t1)] (.need [(.le t0 t2),(.le t2 t1)] (.need [(.lt (.lit 578) (.iv 6))] (.need [(.lt (.lit 578) (.len (.av 1)))] (.need [(.le t0 (.get (.av 1) (.lit 578))),(.le (.get (.av 1) (.lit 578)) t1)] (.cond (.lt t3 (.lit 2)) (.fail "leaf fit") (.need [(.le t0 t4),(.le t4 t1)] (.cond (.lt (.iv 6) t4) (.fail "leaf fit") (.need [(.le (.lit 0) (.iv 7)),(.le (.iv 7) (.iv 7)),(.le (.lit 0) t4),(.le t4 (.iv 7)),(.le (.lit 579) t4),(.le (.lit 0) (.iv 7))] (.need [(.eq (.lit 589) t4),(.eq (.lit 10) (.sub t4 (.lit 579))),(.eq (.lit 579) (.ite (.eq (.iv 7) (.lit 579)) (.lit 0) (.lit 579)))] .done))))))))))))))
theorem jz1:Dd (Db Tryz.prog Jt Jq ⟨Tv z0,Lb⟩ 100000 33 (Xr 577 12)) jhn=true:=by kernel_rfl
theorem jn1:Cf Tryz.prog Z 33 (Xr 577 12):=by
  refine Bf Cq Cn jz1 fun ρ h=> ?_
  simp only[Xr,bD,Ny,gD,Du,z0,Gl,Tm,Ck,Bi,Di,List.flatMap_cons,List.flatMap_nil,List.append_nil,List.append_assoc,List.cons_append,List.nil_append,and_true,↓qA,qB,and_true,implies_true,T.I,T.A,T.B,VC.sem,Nat.reduceAdd,Nat.reduceDiv,Nat.reduceMod,Int.cast_ofNat_Int] at h
  obtain ⟨h1,h2,h3,h4,h5,h6,h7⟩:=h
  have e1:Dj .or .i64 (Bg (ρ.a 1) 577*256) (Bg (ρ.a 1) 578)=12:=by
    rw[h6,h7,Ty (by omega) (by omega) (by omega) (by omega)];rfl
  simp only[jhn,↓qA,qB,and_true,implies_true,T.I,T.A,T.B,VC.sem,Ck,e1,Int.reduceAdd,Dk]
  (repeat' (first|exact True.intro|refine And.intro ?_ ?_|intro _))<;>(try assumption)<;>(try omega)
theorem qg8(x y:Int):Z.fi 438 x y 0 0 [] [] [] []=nmC x y:=id rfl
theorem jwn: ∀f s,jxe f=some s→Dw Tryz.prog Z f s:=by
  intro f s h
  unfold jxe at h
  split at h
  · cases h;exact Ce qat
  · cases h
theorem jxz{w h:Int}(hw:1≤w)(hh:1≤h)(hm:w*h≤65536):1≤nmC w h∧nmC w h≤65536∧nmC w h=(w+15)/16*((h+15)/16):=by
  have h1:(1:Int)*1≤(w+15)/16*((h+15)/16):=Int.mul_le_mul (by omega) (by omega) (by omega) (by omega)
  have h2:(w+15)/16*((h+15)/16)≤w*h:=Int.mul_le_mul (by omega) (by omega) (by omega) (by omega)
  unfold nmC xN
  omega
theorem ju6{x:Int}(h:0≤x):(x+8*2-1).tdiv (8*2)=(x+15)/16:=by rw[Int.tdiv_eq_ediv_of_nonneg (by omega)];omega
theorem qbk(d X:Int):d*2*(X*2)=4*(d*X):=by rw[Int.mul_comm d 2,Int.mul_comm X 2,Int.mul_assoc,Int.mul_left_comm d 2 X];omega
def j72:VC:=
 let t0:T:=.lit 0
 let t1:T:=.len (.av 2)
 let t2:T:=.lit (-9223372036854775808)
 let t3:T:=.lit 9223372036854775807
 let t4:T:=.lit 1
 let t5:T:=.mul (.get (.av 2) t4) (.lit 256)
 let t6:T:=.get (.av 2) (.lit 2)
 let t7:T:=.mul (.get (.av 2) (.lit 3)) (.lit 256)
 let t8:T:=.get (.av 2) (.lit 4)
 let t9:T:=.bits .or .i64 t5 t6
 let t10:T:=.bits .or .i64 t7 t8
 let t11:T:=.mul t9 t10
 let t12:T:=.get (.av 2) (.lit 6)
 let t13:T:=.shr .u8 (.get (.av 2) (.lit 7)) (.lit 4)
 let t14:T:=.bits .and .u8 (.get (.av 2) (.lit 7)) (.lit 15)
 let t15:T:=.get (.av 2) (.lit 8)
 let t16:T:=.get (.av 2) (.lit 9)
 let t17:T:=.shr .u8 (.get (.av 2) (.lit 10)) (.lit 4)
 let t18:T:=.bits .and .u8 (.get (.av 2) (.lit 10)) (.lit 15)
 let t19:T:=.get (.av 2) (.lit 11)
 let t20:T:=.get (.av 2) (.lit 12)
 let t21:T:=.shr .u8 (.get (.av 2) (.lit 13)) (.lit 4)
 let t22:T:=.bits .and .u8 (.get (.av 2) (.lit 13)) (.lit 15)
 let t23:T:=.get (.av 2) (.lit 14)
 let t24:T:=.mul (.lit 8) (.mx (.mx (.mx t0 t13) t17) t21)
 let t25:T:=.add t10 t24
 let t26:T:=.sub t25 t4
 let t27:T:=.tdiv t26 t24
 let t28:T:=.mul (.lit 8) (.mx (.mx (.mx t0 t14) t18) t22)
 let t29:T:=.add t9 t28
 let t30:T:=.sub t29 t4
 let t31:T:=.tdiv t30 t28
 let t32:T:=.mul t27 t13
 let t33:T:=.mul t31 t14
 let t34:T:=.mul t32 t33
 let t35:T:=.lit 64
 let t36:T:=.alit []
 let t37:T:=.lit 192
 let t38:T:=.add (.iv 1406) t4
 let t39:T:=.mul t27 t17
 let t40:T:=.mul t31 t18
 let t41:T:=.mul t39 t40
 let t42:T:=.add (.iv 1806) t4
 let t43:T:=.mul t27 t21
 let t44:T:=.mul t31 t22
 let t45:T:=.mul t43 t44
 let t46:T:=.add (.iv 2206) t4
 let t49:T:=.fi 438 (.add t7 t8) (.add t5 t6) t0 t0 t36 t36 t36 t36
 (.need [(.lt t0 t1)] (.need [(.lt (.lit 5) t1)] (.need [(.le t2 (.get (.av 2) (.lit 5))),(.le (.get (.av 2) (.lit 5)) t3)] (.need [(.lt t4 t1)] (.need [(.le t2 (.get (.av 2) t4)),(.le (.get (.av 2) t4) t3)] (.need [(.le t2 t5),(.le t5 t3)] (.need [(.lt (.lit 2) t1)] (.need [(.le t2 t6),(.le t6 t3)] (.need [(.lt (.lit 3) t1)] (.need [(.le t2 (.get (.av 2) (.lit 3))),(.le (.get (.av 2) (.lit 3)) t3)] (.need [(.le t2 t7),(.le t7 t3)] (.need [(.lt (.lit 4) t1)] (.need [(.le t2 t8),(.le t8 t3)] (.cond (.eq t9 t0) (.fail "leaf fit") (.cond (.eq t10 t0) (.fail "leaf fit") (.need [(.le t2 t11),(.le t11 t3)] (.cond (.lt (.lit 65536) t11) (.fail "leaf fit") (.need [(.le t0 (.iv 10)),(.le (.iv 10) (.iv 10)),(.le t0 (.iv 10)),(.lt (.lit 6) (.iv 10))] (.need [(.lt (.lit 6) t1)] (.need [(.le t2 t12),(.le t12 t3)] (.need [(.lt (.lit 7) t1)] (.need [(.le t2 t13),(.le t13 t3)] (.need [(.le t2 t14),(.le t14 t3)] (.cond (.lt t13 t4) (.fail "leaf fit") (.cond (.lt (.lit 4) t13) (.fail "leaf fit") (.cond (.lt t14 t4) (.fail "leaf fit") (.cond (.lt (.lit 4) t14) (.fail "leaf fit") (.need [(.lt (.lit 8) t1)] (.cond (.lt (.lit 3) t15) (.fail "leaf fit") (.any 1000 2 [(.le t4 (.iv 1000))] (.need [(.le t2 t15),(.le t15 t3)] (.any 1001 3 [(.le t4 (.iv 1001))] (.need [(.lt (.lit 9) (.iv 10))] (.need [(.lt (.lit 9) t1)] (.need [(.le t2 t16),(.le t16 t3)] (.need [(.lt (.lit 10) t1)] (.need [(.le t2 t17),(.le t17 t3)] (.need [(.le t2 t18),(.le t18 t3)] (.cond (.lt t17 t4) (.fail "leaf fit") (.cond (.lt (.lit 4) t17) (.fail "leaf fit") (.cond (.lt t18 t4) (.fail "leaf fit") (.cond (.lt (.lit 4) t18) (.fail "leaf fit") (.need [(.lt (.lit 11) t1)] (.cond (.lt (.lit 3) t19) (.fail "leaf fit") (.cond (.eq t12 t16) (.fail "leaf fit") (.any 1002 6 [(.le (.lit 2) (.iv 1002))] (.need [(.le t2 t19),(.le t19 t3)] (.any 1003 7 [(.le (.lit 2) (.iv 1003))] (.need [(.lt (.lit 12) (.iv 10))] (.need [(.lt (.lit 12) t1)] (.need [(.le t2 t20),(.le t20 t3)] (.need [(.lt (.lit 13) t1)] (.need [(.le t2 t21),(.le t21 t3)] (.need [(.le t2 t22),(.le t22 t3)] (.cond (.lt t21 t4) (.fail "leaf fit") (.cond (.lt (.lit 4) t21) (.fail "leaf fit") (.cond (.lt t22 t4) (.fail "leaf fit") (.cond (.lt (.lit 4) t22) (.fail "leaf fit") (.need [(.lt (.lit 14) t1)] (.cond (.lt (.lit 3) t23) (.fail "leaf fit") (.cond (.eq t12 t20) (.fail "leaf fit") (.cond (.eq t16 t20) (.fail "leaf fit") (.any 1004 11 [(.le (.lit 3) (.iv 1004))] (.need [(.le t2 t23),(.le t23 t3)] (.any 1005 12 [(.le (.lit 3) (.iv 1005))] (.need [(.eq t13 (.lit 2)),(.eq t14 (.lit 2)),(.eq t17 t4),(.eq t18 t4),(.eq t21 t4),(.eq t22 t4)] (.any 1006 12 [] (.need [(.le t2 t24),(.le t24 t3)] (.need [(.le t2 t25),(.le t25 t3),(.le t2 t26),(.le t26 t3),(.not (.eq t24 t0)),(.le t2 t27),(.le t27 t3)] (.need [(.le t2 t28),(.le t28 t3)] (.need [(.le t2 t29),(.le t29 t3),(.le t2 t30),(.le t30 t3),(.not (.eq t28 t0)),(.le t2 t31),(.le t31 t3)] (.need [(.le t2 t32),(.le t32 t3)] (.need [(.le t2 t33),(.le t33 t3)] (.need [(.le t2 t34),(.le t34 t3)] (.need [(.le t0 t34),(.le (.mul t34 (.lit 512)) (.lit 140737488355328))] (.need [(.le t0 t0),(.le t0 t35),(.aeq (.fa 414 t0 t0 t0 t0 t36 t36 t36 t36) (.fa 414 (.add t0 t0) t0 t0 t0 t36 t36 t36 t36))] (.any 1406 1000000016 [(.le t0 (.iv 1406)),(.le (.iv 1406) t35),(.eq (.len (.av 1406)) t37),(.aeq (.av 1406) (.fa 414 (.add t0 (.iv 1406)) t0 t0 t0 t36 t36 t36 t36))] (.cond (.lt (.iv 1406) t35) (.need [(.lt (.iv 1406) t37)] (.need [(.le t2 t38),(.le t38 t3)] (.need [(.le t0 t38),(.le t38 t35),(.eq (.len (.set (.av 1406) (.iv 1406) (.lit (-1)))) t37),(.aeq (.set (.av 1406) (.iv 1406) (.lit (-1))) (.fa 414 (.add t0 t38) t0 t0 t0 t36 t36 t36 t36)),(.lt t0 (.sub t35 (.iv 1406))),(.lt (.sub t35 t38) (.sub t35 (.iv 1406)))] .done))) (.need [(.le t2 t39),(.le t39 t3)] (.need [(.le t2 t40),(.le t40 t3)] (.need [(.le t2 t41),(.le t41 t3)] (.need [(.le t0 t41),(.le (.mul t41 (.lit 512)) (.lit 140737488355328))] (.need [(.aeq (.av 1406) (.fa 414 (.add t35 t0) t0 t0 t0 t36 t36 t36 t36))] (.any 1806 1000000020 [(.le t0 (.iv 1806)),(.le (.iv 1806) t35),(.eq (.len (.av 1806)) t37),(.aeq (.av 1806) (.fa 414 (.add t35 (.iv 1806)) t0 t0 t0 t36 t36 t36 t36))] (.cond (.lt (.iv 1806) t35) (.need [(.lt (.add t35 (.iv 1806)) t37)] (.need [(.le t2 t42),(.le t42 t3)] (.need [(.le t0 t42),(.le t42 t35),(.eq (.len (.set (.av 1806) (.add t35 (.iv 1806)) (.lit (-1)))) t37),(.aeq (.set (.av 1806) (.add t35 (.iv 1806)) (.lit (-1))) (.fa 414 (.add t35 t42) t0 t0 t0 t36 t36 t36 t36)),(.lt t0 (.sub t35 (.iv 1806))),(.lt (.sub t35 t42) (.sub t35 (.iv 1806)))] .done))) (.need [(.le t2 t43),(.le t43 t3)] (.need [(.le t2 t44),(.le t44 t3)] (.need [(.le t2 t45),(.le t45 t3)] (.need [(.le t0 t45),(.le (.mul t45 (.lit 512)) (.lit 140737488355328))] (.need [(.aeq (.av 1806) (.fa 414 (.add (.lit 128) t0) t0 t0 t0 t36 t36 t36 t36))] (.any 2206 1000000024 [(.le t0 (.iv 2206)),(.le (.iv 2206) t35),(.eq (.len (.av 2206)) t37),(.aeq (.av 2206) (.fa 414 (.add (.lit 128) (.iv 2206)) t0 t0 t0 t36 t36 t36 t36))] (.cond (.lt (.iv 2206) t35) (.need [(.lt (.add (.lit 128) (.iv 2206)) t37)] (.need [(.le t2 t46),(.le t46 t3)] (.need [(.le t0 t46),(.le t46 t35),(.eq (.len (.set (.av 2206) (.add (.lit 128) (.iv 2206)) (.lit (-1)))) t37),(.aeq (.set (.av 2206) (.add (.lit 128) (.iv 2206)) (.lit (-1))) (.fa 414 (.add (.lit 128) t46) t0 t0 t0 t36 t36 t36 t36)),(.lt t0 (.sub t35 (.iv 2206))),(.lt (.sub t35 t46) (.sub t35 (.iv 2206)))] .done))) (.need [(.eq t4 t23),(.eq t4 t19),(.eq t0 t15),(.eq t4 t22),(.eq t4 t21),(.eq (.lit 3) t20),(.eq t4 t18),(.eq t4 t17),(.eq (.lit 2) t16),(.eq (.lit 2) t14),(.eq (.lit 2) t13),(.eq t4 t12),(.eq (.add t5 t6) t9),(.eq (.add t7 t8) t10),(.aeq (.fa 414 t37 t0 t0 t0 t36 t36 t36 t36) (.av 2206)),(.eq t34 (.mul (.lit 4) t49)),(.eq t41 t49),(.eq t45 t49),(.aeq (.rep (.mul t34 t35) t0) (.fa 437 t34 t0 t0 t0 t36 t36 t36 t36)),(.aeq (.rep (.mul t41 t35) t0) (.fa 437 t41 t0 t0 t0 t36 t36 t36 t36)),(.aeq (.rep (.mul t45 t35) t0) (.fa 437 t45 t0 t0 t0 t36 t36 t36 t36))] .done)))))))))))))))))))))))))))))))))))))))))))))))))))))))))))))))))))))))))))))))))))))))))))))
theorem jwi: ∀f s,j7g Tryz.prog f=some s→Ei Tryz.prog Z f s:=Sj jcn Hq Cq 1000 2
theorem qle:Dd (Db Tryz.prog (j7g Tryz.prog) jxe ⟨jme,qfx⟩ 100000 50 j6m) j72=true:=by kernel_rfl
set_option maxRecDepth 20000 in
set_option maxHeartbeats 4000000 in
theorem j2k:Cf Tryz.prog Z 50 j6m:=by
  refine Bf jwi jwn qle fun ρ h=> ?_
  simp only[j6m,jc7,cs0,Du,z0,hdW,hdH,g2,Tm,Ck,Gy,jwt,Bi,Di,List.flatMap_cons,List.flatMap_nil,List.append_nil,List.append_assoc,List.cons_append,List.nil_append,and_true,↓qA,qB,and_true,implies_true,T.I,T.A,T.B,VC.sem] at h
  have f1:15≤ρ.i 10:=h.1
  have f2:=h.2.1
  have f3:=h.2.2.1
  obtain ⟨-,-,-,f4,f5,f6,f7,f8,q9,q10,q11,q12,q13,q14,f9,f10,f11,-⟩:=h
  have b1:=Ct f3 (n:=1) (by omega) (by omega)
  have b2:=Ct f3 (n:=2) (by omega) (by omega)
  have b3:=Ct f3 (n:=3) (by omega) (by omega)
  have b4:=Ct f3 (n:=4) (by omega) (by omega)
  have o1:=Ty b1.1 b1.2 b2.1 b2.2
  have o2:=Ty b3.1 b3.2 b4.1 b4.2
  have s3:(17:Int).fdiv (2^min (Int.toNat 4) IntKind.u8.bits)=1:=rfl
  have s4:Dj .and .u8 17 15=1:=by decide+kernel
  have s5:(34:Int).fdiv (2^min (Int.toNat 4) IntKind.u8.bits)=2:=rfl
  have s6:Dj .and .u8 34 15=2:=by decide+kernel
  simp only[j72,↓qA,qB,and_true,implies_true,T.I,T.A,T.B,VC.sem,Ck,Gy,jwt,ju8,qg8,o1,o2,f4,f5,f6,f7,f8,q9,q10,q11,q12,q13,q14,s3,s4,s5,s6,List.length_set]
  generalize hW:Bg (ρ.a 2) 3*256+Bg (ρ.a 2) 4=W at*
  generalize hH:Bg (ρ.a 2) 1*256+Bg (ρ.a 2) 2=H at*
  have hmul:H*W≤65536:=by rw[Int.mul_comm];exact f11
  have hm0:0≤H*W:=Int.mul_nonneg (by omega) (by omega)
  have t1:=ju6 (x:=W) (by omega)
  have t2:=ju6 (x:=H) (by omega)
  obtain ⟨n1,n2,n3⟩:=jxz f9 f10 f11
  have hmx:imx (imx (imx 0 2) 1) 1=2:=by decide
  have E4:(W+15)/16*2*((H+15)/16*2)=4*nmC W H:=by rw[qbk,←n3]
  have E1:(W+15)/16*1*((H+15)/16*1)=nmC W H:=by rw[Int.mul_one,Int.mul_one,←n3]
  have Z4:4*nmC W H*64=64*(4*nmC W H):=Int.mul_comm _ _
  have Z1:nmC W H*64=64*nmC W H:=Int.mul_comm _ _
  simp only[hmx,t1,t2,E4,E1]
  (repeat' (first|with_reducible exact True.intro|with_reducible refine And.intro ?_ ?_|intro _))<;>(try omega)
  · rw[Int.add_zero,j6f]
  · rw[‹ρ.a 1406=Od _›,show (ρ.i 1406).toNat=(0+ρ.i 1406).toNat from by omega,Yh (by omega),show 0+(ρ.i 1406+1)=0+ρ.i 1406+1 from by omega]
  · rw[‹ρ.a 1406=Od _›,show 0+ρ.i 1406=64+0 from by omega]
  · rw[‹ρ.a 1806=Od _›,Yh (by omega),show 64+(ρ.i 1806+1)=64+ρ.i 1806+1 from by omega]
  · rw[‹ρ.a 1806=Od _›,show 64+ρ.i 1806=128+0 from by omega]
  · rw[‹ρ.a 2206=Od _›,Yh (by omega),show 128+(ρ.i 2206+1)=128+ρ.i 2206+1 from by omega]
  · rw[‹ρ.a 2206=Od _›,show 128+ρ.i 2206=192 from by omega]
  · rw[Z4];rfl
  · rw[Z1];rfl
  · rw[Z1];rfl
theorem j3i: ∀f s,qb0 f=some s→Ei Tryz.prog Z f s:=by
  intro f s h
  unfold qb0 at h
  split at h
  · cases h
    refine ja4 (fun x hx=> ?_) jmh
    simp only[List.mem_cons,List.not_mem_nil,or_false] at hx
    rcases hx with rfl|rfl|rfl|rfl
    · exact jon
    · exact jgw
    · exact jne
    · exact joj
  · cases h
    refine ja4 (fun x hx=> ?_) jav
    simp only[List.mem_cons,List.not_mem_nil,or_false] at hx
    rcases hx with rfl|rfl|rfl|rfl
    · exact jav
    · exact joi
    · exact jnp
    · exact jn1
  · cases h;exact Dq jya
  · cases h;exact Dq j1j
  · cases h
theorem j1a: ∀f s,jxb f=some s→Dw Tryz.prog Z f s:=by
  intro f s h
  unfold jxb at h
  split at h
  · cases h;exact Ce j4w
  · cases h;exact Ce j2k
  · cases h;exact Ce j6k
  · cases h
theorem ja5{D:List Int}{q:List Int}(hq:q.length=256)(hD:136≤D.length):((Lw 1 ((D.drop 6).take 130) 64 (Lw 0 ((D.drop 6).take 130) 64 q)).drop 64).take 64=Cs D 72 64:=by
  apply jss
  · simp[Kt,Cs];omega
  · intro i hi
    have hi64:i<64:=by simp at hi;omega
    rw[Dl (by omega) (by omega),Mn 64 (by omega) (by rw[Kt];omega),if_pos (by omega),Dl (by omega) (by omega)]
    unfold Cs
    rw[Dl (by omega) (by omega)]
    congr 1;omega
structure CR(s:CS)(l0 l1 l2:Nat):Prop where
  h1:0≤s.at_
  h2:0≤s.us
  h3:s.us≤7
  e0:s.b0.length=l0
  e1:s.b1.length=l1
  e2:s.b2.length=l2
theorem jdj{D:List Int}{d:Int}{s:CS}{a b c:Nat}(h:CR s a b c)(ho:ok0 D s=true):CR (rd0 D d s) a b c:=by
  have B:=j0w (bl:=s.b0) (d:=d) h.h1 h.h2 h.h3 ho
  exact ⟨B.1,B.2.1,B.2.2.1,B.2.2.2.1.trans h.e0,h.e1,h.e2⟩
theorem j5w{D:List Int}{d:Int}{s:CS}{a b c:Nat}(h:CR s a b c)(ho:ok1 D s=true):CR (rd1 D d s) a b c:=by
  have B:=jjv (bl:=s.b1) (d:=d) h.h1 h.h2 h.h3 ho
  exact ⟨B.1,B.2.1,B.2.2.1,h.e0,B.2.2.2.1.trans h.e1,h.e2⟩
theorem j5a{D:List Int}{d:Int}{s:CS}{a b c:Nat}(h:CR s a b c)(ho:ok2 D s=true):CR (rd2 D d s) a b c:=by
  have B:=jjv (bl:=s.b2) (d:=d) h.h1 h.h2 h.h3 ho
  exact ⟨B.1,B.2.1,B.2.2.1,h.e0,h.e1,B.2.2.2.1.trans h.e2⟩
theorem j58{D:List Int}{X m:Int}{s:CS}{a b c:Nat}(h:CR s a b c)(ho:jah D X m s=true):CR (un6 D X m s) a b c:=by
  simp only[jah,Bool.and_eq_true] at ho
  obtain ⟨k0,k1,k2,k3,k4,k5⟩:=ho
  exact j5a (j5w (jdj (jdj (jdj (jdj h k0) k1) k2) k3) k4) k5
theorem jry{D:List Int}{X:Int}: ∀(n:Nat) {m:Int} {s:CS} {a b c:Nat},CR s a b c→Lz D X n m s=true→CR (scC D X n m s) a b c
  | 0,_,_,_,_,_,h,_=>h
  | n+1,m,s,a,b,c,h,ho=>by
    simp only[Lz,Bool.and_eq_true] at ho
    exact jry n (j58 h ho.1) ho.2
theorem jx5(D:List Int):Z.fb 540 0 0 0 0 D [] [] []=cOk D:=id rfl
theorem qd4(D:List Int):Z.fi 439 0 0 0 0 D [] [] []=Gt D:=id rfl
theorem j75(D:List Int):Z.fa 438 0 0 0 0 D [] [] []=Cs D 72 64:=id rfl
theorem qi4(D:List Int):Z.fa 541 0 0 0 0 D [] [] []=(Kl D).b0:=id rfl
theorem qf8(D:List Int):Z.fa 542 0 0 0 0 D [] [] []=(Kl D).b1:=id rfl
theorem qj8(D:List Int):Z.fa 543 0 0 0 0 D [] [] []=(Kl D).b2:=id rfl
theorem Ol{k:Int}(h0:0≤k)(h1:k<192):Bg (Jz 192) k=0:=by rw[Zw h0 h1,if_pos h1]
theorem j7v{D:List Int}{s:Nat}(hD:s<D.length)(h:((Cs D s 64).all fun x=>decide (1≤x))=true):1≤Bg D s:=by
  have:=List.all_eq_true.1 h (Bg D s) (by
    have hl:0<(Cs D s 64).length:=by simp[Cs];omega
    have e:Bg (Cs D s 64) 0=Bg D (s+0):=Dl (i:=0) (by omega) (by omega)
    rw[Int.add_zero] at e
    rw[←e]
    unfold Bg
    rw[List.getD_eq_getElem?_getD,Int.toNat_zero,List.getElem?_eq_getElem hl]
    exact List.getElem_mem hl)
  exact of_decide_eq_true this
def j8p:VC:=
 let t0:T:=.lit 0
 let t1:T:=.av 1
 let t2:T:=.lit 255
 let t3:T:=.lit 1
 let t4:T:=.cut t1 (.lit 6) (.lit 130)
 let t5:T:=.lit 64
 let t6:T:=.rep t5 t0
 let t8:T:=.splice t6 (.len t6) (.splice t6 (.len t6) t6)
 let t9:T:=.splice t6 (.len t6) t8
 let t10:T:=.alit []
 let t11:T:=.cut t1 (.lit 140) (.lit 15)
 let t12:T:=.add (.mul (.get t11 (.lit 3)) (.lit 256)) (.get t11 (.lit 4))
 let t13:T:=.add (.mul (.get t11 t3) (.lit 256)) (.get t11 (.lit 2))
 let t14:T:=.fi 438 t12 t13 t0 t0 t10 t10 t10 t10
 let t15:T:=.iv 1121
 let t16:T:=.tdiv (.add t12 (.lit 15)) (.lit 16)
 let t17:T:=.fa 411 t3 t5 t0 t0 (.fa 411 t0 t5 t0 t0 t9 t4 t10 t10) t4 t10 t10
 let t18:T:=.set (.alit [0]) t0 t0
 let t19:T:=.len t18
 let t20:T:=.fi 530 t15 (.lit 589) t16 t0 t1 (.av 1107) (.av 1108) (.av 1109)
 let t22:T:=.fa 415 (.lit 192) t0 t0 t0 t10 t10 t10 t10
 let t23:T:=.lit (-9223372036854775808)
 let t24:T:=.add (.iv 2200) t3
 let t25:T:=.lit 9223372036854775807
 let t26:T:=.fa 531 t15 (.lit 589) t16 t0 t1 (.av 1107) (.av 1108) (.av 1109)
 let t27:T:=.add (.iv 2600) t3
 let t28:T:=.add (.iv 3000) t3
 let t29:T:=.fa 532 t15 (.lit 589) t16 t0 t1 (.av 1107) (.av 1108) (.av 1109)
 let t30:T:=.add (.iv 3400) t3
 let t31:T:=.add (.iv 3800) t3
 let t32:T:=.fa 533 t15 (.lit 589) t16 t0 t1 (.av 1107) (.av 1108) (.av 1109)
 let t33:T:=.add (.iv 4200) t3
 let t34:T:=.aeq (.fa 438 t0 t0 t0 t0 t1 t10 t10 t10) (.cut t17 t5 t5)
 let t35:T:=.fi 439 t0 t0 t0 t0 t1 t10 t10 t10
 (.need [(.le t0 (.iv 6))] (.cond (.lt (.iv 6) (.lit 2)) (.fail "leaf fit") (.need [(.lt t0 (.iv 6))] (.need [(.lt t0 (.len t1))] (.cond (.not (.eq (.get t1 t0) t2)) (.fail "leaf fit") (.need [(.lt t3 (.iv 6))] (.need [(.lt t3 (.len t1))] (.cond (.not (.eq (.get t1 t3) (.lit 216))) (.fail "leaf fit") (.need [(.le t0 (.lit 2)),(.lt (.add (.lit 2) t3) (.iv 6)),(.eq (.get t1 (.lit 2)) t2),(.eq (.get t1 (.add (.lit 2) t3)) (.lit 219))] (.need [(.le (.lit 136) (.iv 6)),(.eq (.get t1 (.lit 4)) t0),(.eq (.get t1 (.lit 5)) (.lit 132))] (.need [(.le (.lit 136) (.len t1)),(.le (.lit 130) (.sub (.iv 7) (.lit 6))),(.eq (.len t4) (.lit 130)),(.eq (.len t9) (.lit 256)),(.fb 2 t0 t2 t0 t0 t4 t10 t10 t10),(.eq (.get t4 t0) t0),(.eq (.get t4 (.lit 65)) t3),(.fb 2 t3 t2 t0 t0 (.cut t4 t3 t5) t10 t10 t10),(.fb 2 t3 t2 t0 t0 (.cut t4 (.lit 66) t5) t10 t10 t10)] (.need [(.le t0 (.lit 136)),(.lt (.add (.lit 136) t3) (.iv 6)),(.eq (.get t1 (.lit 136)) t2),(.eq (.get t1 (.add (.lit 136) t3)) (.lit 192))] (.need [(.le (.lit 155) (.iv 6)),(.eq (.get t1 (.lit 138)) t0),(.eq (.get t1 (.lit 139)) (.lit 17))] (.need [(.le (.lit 155) (.len t1)),(.aeq (.fa 414 t0 t0 t0 t0 t10 t10 t10 t10) t8),(.le (.lit 15) (.sub (.iv 7) (.lit 140))),(.eq (.len t11) (.lit 15)),(.fb 2 t0 t2 t0 t0 t11 t10 t10 t10),(.eq (.get t11 t0) (.lit 8)),(.eq (.get t11 (.lit 5)) (.lit 3)),(.eq (.get t11 (.lit 6)) t3),(.eq (.get t11 (.lit 7)) (.lit 34)),(.eq (.get t11 (.lit 8)) t0),(.eq (.get t11 (.lit 9)) (.lit 2)),(.eq (.get t11 (.lit 10)) (.lit 17)),(.eq (.get t11 (.lit 11)) t3),(.eq (.get t11 (.lit 12)) (.lit 3)),(.eq (.get t11 (.lit 13)) (.lit 17)),(.eq (.get t11 (.lit 14)) t3),(.le t3 t12),(.le t3 t13),(.le (.mul t12 t13) (.lit 65536))] (.any 1000 1 [(.eq (.iv 1120) (.mul (.lit 4) t14)),(.eq t15 t14),(.eq (.iv 1122) t14),(.aeq (.av 1107) (.fa 437 (.iv 1120) t0 t0 t0 t10 t10 t10 t10)),(.aeq (.av 1108) (.fa 437 t15 t0 t0 t0 t10 t10 t10 t10)),(.aeq (.av 1109) (.fa 437 (.iv 1122) t0 t0 t0 t10 t10 t10 t10))] (.need [(.le t0 (.lit 155)),(.lt (.add (.lit 155) t3) (.iv 6)),(.eq (.get t1 (.lit 155)) t2),(.eq (.get t1 (.add (.lit 155) t3)) (.lit 196))] (.need [(.le (.lit 575) (.iv 6)),(.eq (.get t1 (.lit 157)) t3),(.eq (.get t1 (.lit 158)) (.lit 162))] (.need [(.le (.lit 575) (.len t1)),(.aeq (.alit Ns) (.cut t1 (.lit 159) (.lit 416))),(.le (.lit 416) (.sub (.iv 7) (.lit 159)))] (.any 1400 1 [] (.need [(.le t0 (.lit 575)),(.lt (.add (.lit 575) t3) (.iv 6)),(.eq (.get t1 (.lit 575)) t2),(.eq (.get t1 (.add (.lit 575) t3)) (.lit 218))] (.need [(.le (.lit 589) (.iv 6)),(.eq (.get t1 (.lit 577)) t0),(.eq (.get t1 (.lit 578)) (.lit 12))] (.need [(.eq t15 (.iv 1122)),(.eq t15 (.iv 1122)),(.aeq (.fa 415 t0 t0 t0 t0 t10 t10 t10 t10) (.fa 414 (.lit 192) t0 t0 t0 t10 t10 t10 t10)),(.le t0 (.lit 589)),(.le (.lit 10) (.sub (.iv 7) (.lit 579))),(.aeq (.cut t1 (.lit 579) (.lit 10)) (.alit [3,1,0,2,17,3,17,0,63,0])),(.le t12 (.lit 65535)),(.le t13 (.lit 65535)),(.eq t15 (.mul t16 (.tdiv (.add t13 (.lit 15)) (.lit 16)))),(.eq (.iv 1120) (.mul (.lit 4) t15)),(.eq (.len (.av 1107)) (.mul t5 (.iv 1120))),(.eq (.len (.av 1108)) (.mul t5 t15)),(.eq (.len (.av 1109)) (.mul t5 t15)),(.le t3 (.get t17 t0)),(.le t3 (.get t17 t5)),(.fb 530 t15 t0 t16 t0 (.splice (.set (.alit [0]) t0 (.lit 589)) (.len (.set (.alit [0]) t0 (.lit 589))) (.splice t18 t19 (.splice t18 t19 (.splice t18 t19 (.splice t18 t19 t1))))) (.av 1107) (.av 1108) (.av 1109))] (.any 1800 1 [] (.need [(.le t0 t20),(.lt (.add t20 t3) (.iv 6)),(.eq (.get t1 t20) t2),(.eq (.get t1 (.add t20 t3)) (.lit 217))] (.cond (.not (.eq (.add t20 (.lit 2)) (.iv 6))) (.fail "leaf fit") (.cond (.lt (.get t22 t0) t0) (.fail "leaf fit") (.need [(.le t0 t0),(.le t0 t5)] (.any 2200 1000000002 [(.le t0 (.iv 2200)),(.le (.iv 2200) t5)] (.cond (.lt (.iv 2200) t5) (.need [(.lt (.iv 2200) (.lit 192))] (.need [(.le t23 t24),(.le t24 t25)] (.need [(.eq (.get t22 (.iv 2200)) t0),(.le t0 t24),(.le t24 t5),(.lt t0 (.sub t5 (.iv 2200))),(.lt (.sub t5 t24) (.sub t5 (.iv 2200)))] .done))) (.need [(.le t0 (.iv 1120))] (.any 2600 2 [(.le t0 (.iv 2600)),(.le (.iv 2600) (.iv 1120))] (.cond (.lt (.iv 2600) (.iv 1120)) (.need [(.le t0 (.mul (.iv 2600) t5)),(.le (.add (.mul (.iv 2600) t5) t5) (.len t26))] (.need [(.fb 441 t0 t0 t0 t0 (.cut t26 (.mul (.iv 2600) t5) t5) t10 t10 t10)] (.need [(.le t23 t27),(.le t27 t25)] (.need [(.le t0 t27),(.le t27 (.iv 1120)),(.lt t0 (.sub (.iv 1120) (.iv 2600))),(.lt (.sub (.iv 1120) t27) (.sub (.iv 1120) (.iv 2600)))] .done)))) (.cond (.lt (.get t22 t5) t0) (.fail "leaf fit") (.any 3000 1000000003 [(.le t0 (.iv 3000)),(.le (.iv 3000) t5)] (.cond (.lt (.iv 3000) t5) (.need [(.lt (.add t5 (.iv 3000)) (.lit 192))] (.need [(.le t23 t28),(.le t28 t25)] (.need [(.eq (.get t22 (.add t5 (.iv 3000))) t0),(.le t0 t28),(.le t28 t5),(.lt t0 (.sub t5 (.iv 3000))),(.lt (.sub t5 t28) (.sub t5 (.iv 3000)))] .done))) (.need [(.le t0 t15)] (.any 3400 3 [(.le t0 (.iv 3400)),(.le (.iv 3400) t15)] (.cond (.lt (.iv 3400) t15) (.need [(.le t0 (.mul (.iv 3400) t5)),(.le (.add (.mul (.iv 3400) t5) t5) (.len t29))] (.need [(.fb 441 t0 t0 t0 t0 (.cut t29 (.mul (.iv 3400) t5) t5) t10 t10 t10)] (.need [(.le t23 t30),(.le t30 t25)] (.need [(.le t0 t30),(.le t30 t15),(.lt t0 (.sub t15 (.iv 3400))),(.lt (.sub t15 t30) (.sub t15 (.iv 3400)))] .done)))) (.cond (.lt (.get t22 (.lit 128)) t0) (.fail "leaf fit") (.any 3800 1000000004 [(.le t0 (.iv 3800)),(.le (.iv 3800) t5)] (.cond (.lt (.iv 3800) t5) (.need [(.lt (.add (.lit 128) (.iv 3800)) (.lit 192))] (.need [(.le t23 t31),(.le t31 t25)] (.need [(.eq (.get t22 (.add (.lit 128) (.iv 3800))) t0),(.le t0 t31),(.le t31 t5),(.lt t0 (.sub t5 (.iv 3800))),(.lt (.sub t5 t31) (.sub t5 (.iv 3800)))] .done))) (.any 4200 4 [(.le t0 (.iv 4200)),(.le (.iv 4200) t15)] (.cond (.lt (.iv 4200) t15) (.need [(.le t0 (.mul (.iv 4200) t5)),(.le (.add (.mul (.iv 4200) t5) t5) (.len t32))] (.need [(.fb 441 t0 t0 t0 t0 (.cut t32 (.mul (.iv 4200) t5) t5) t10 t10 t10)] (.need [(.le t23 t33),(.le t33 t25)] (.need [(.le t0 t33),(.le t33 t15),(.lt t0 (.sub t15 (.iv 4200))),(.lt (.sub t15 t33) (.sub t15 (.iv 4200)))] .done)))) (.need [(.eq (.fi 432 t0 t0 t0 t0 t1 t10 t10 t10) t13),(.eq (.fi 431 t0 t0 t0 t0 t1 t10 t10 t10) t12),(.aeq (.fa 543 t0 t0 t0 t0 t1 t10 t10 t10) t32),(.aeq (.fa 542 t0 t0 t0 t0 t1 t10 t10 t10) t29),(.aeq (.fa 541 t0 t0 t0 t0 t1 t10 t10 t10) t26),t34,t34,(.aeq (.fa 434 t0 t0 t0 t0 t1 t10 t10 t10) (.cut t17 t0 t5)),(.eq (.iv 1120) (.mul (.lit 4) t35)),(.eq t15 t35),(.eq t15 t35)] .done))))))))))))))))))))))))))))))))))))))))))))
theorem qly:Dd (Db Tryz.prog qb0 jxb ⟨jwo,jr5⟩ 100000 17 j6j) j8p=true:=by kernel_rfl
set_option maxRecDepth 20000 in
set_option maxHeartbeats 4000000 in
theorem j39:Cf Tryz.prog Z 17 j6j:=by
  refine Bf j3i j1a qly fun ρ h=> ?_
  have g1:=Cc h (.eq (.len (.av 1)) (.iv 6)) (by kernel_rfl)
  have g2:=Cc h (.le (.iv 6) Gl) (by kernel_rfl)
  have g3:=Cc h (.le (.iv 6) (.iv 7)) (by kernel_rfl)
  have g4:=Cc h (Du 0 255 (.av 1)) (by kernel_rfl)
  have g5:=Cc h (Mc 540 z0 z0 z0 z0) (by kernel_rfl)
  clear h
  simp only[Gl,Du,Mc,z0,Tm,jx5,↓qA,qB,and_true,implies_true,T.I,T.A,T.B,VC.sem] at g1 g2 g3 g4 g5
  simp only[cOk,Bool.and_eq_true,decide_eq_true_eq] at g5
  obtain ⟨a1,a2,a3,a4,a5,a6,a7,a8,a9,a10,a11,a12,a13,a14,a15,a16,a17,a18,a19,a20⟩:=g5
  have hlen:589≤(ρ.a 1).length:=by
    have:=congrArg List.length a13
    simp only[Cs,jzv,List.length_take,List.length_drop,List.length_cons,List.length_nil] at this
    omega
  have q0:Bg (ρ.a 1) 0=255:=Dm a1 (i:=0) (by omega) (by omega)
  have q1:Bg (ρ.a 1) 1=216:=Dm a1 (i:=1) (by omega) (by omega)
  have q2:Bg (ρ.a 1) 2=255:=Dm a1 (i:=2) (by omega) (by omega)
  have q3:Bg (ρ.a 1) 3=219:=Dm a1 (i:=3) (by omega) (by omega)
  have q4:Bg (ρ.a 1) 4=0:=Dm a1 (i:=4) (by omega) (by omega)
  have q5:Bg (ρ.a 1) 5=132:=Dm a1 (i:=5) (by omega) (by omega)
  have q6:Bg (ρ.a 1) 6=0:=Dm a1 (i:=6) (by omega) (by omega)
  have q136:Bg (ρ.a 1) 136=255:=Dm a5 (i:=0) (by omega) (by omega)
  have q137:Bg (ρ.a 1) 137=192:=Dm a5 (i:=1) (by omega) (by omega)
  have q138:Bg (ρ.a 1) 138=0:=Dm a5 (i:=2) (by omega) (by omega)
  have q139:Bg (ρ.a 1) 139=17:=Dm a5 (i:=3) (by omega) (by omega)
  have q140:Bg (ρ.a 1) 140=8:=Dm a5 (i:=4) (by omega) (by omega)
  have q145:Bg (ρ.a 1) 145=3:=Dm a9 (i:=0) (by omega) (by omega)
  have q146:Bg (ρ.a 1) 146=1:=Dm a9 (i:=1) (by omega) (by omega)
  have q147:Bg (ρ.a 1) 147=34:=Dm a9 (i:=2) (by omega) (by omega)
  have q148:Bg (ρ.a 1) 148=0:=Dm a9 (i:=3) (by omega) (by omega)
  have q149:Bg (ρ.a 1) 149=2:=Dm a9 (i:=4) (by omega) (by omega)
  have q150:Bg (ρ.a 1) 150=17:=Dm a9 (i:=5) (by omega) (by omega)
  have q151:Bg (ρ.a 1) 151=1:=Dm a9 (i:=6) (by omega) (by omega)
  have q152:Bg (ρ.a 1) 152=3:=Dm a9 (i:=7) (by omega) (by omega)
  have q153:Bg (ρ.a 1) 153=17:=Dm a9 (i:=8) (by omega) (by omega)
  have q154:Bg (ρ.a 1) 154=1:=Dm a9 (i:=9) (by omega) (by omega)
  have q155:Bg (ρ.a 1) 155=255:=Dm a10 (i:=0) (by omega) (by omega)
  have q156:Bg (ρ.a 1) 156=196:=Dm a10 (i:=1) (by omega) (by omega)
  have q157:Bg (ρ.a 1) 157=1:=Dm a10 (i:=2) (by omega) (by omega)
  have q158:Bg (ρ.a 1) 158=162:=Dm a10 (i:=3) (by omega) (by omega)
  have q575:Bg (ρ.a 1) 575=255:=Dm a12 (i:=0) (by omega) (by omega)
  have q576:Bg (ρ.a 1) 576=218:=Dm a12 (i:=1) (by omega) (by omega)
  have q577:Bg (ρ.a 1) 577=0:=Dm a12 (i:=2) (by omega) (by omega)
  have q578:Bg (ρ.a 1) 578=12:=Dm a12 (i:=3) (by omega) (by omega)
  have e140:Bg (List.take 15 (List.drop 140 (ρ.a 1))) 0=Bg (ρ.a 1) 140:=Dl (i:=0) (by omega) (by omega)
  have e141:Bg (List.take 15 (List.drop 140 (ρ.a 1))) 1=Bg (ρ.a 1) 141:=Dl (i:=1) (by omega) (by omega)
  have e142:Bg (List.take 15 (List.drop 140 (ρ.a 1))) 2=Bg (ρ.a 1) 142:=Dl (i:=2) (by omega) (by omega)
  have e143:Bg (List.take 15 (List.drop 140 (ρ.a 1))) 3=Bg (ρ.a 1) 143:=Dl (i:=3) (by omega) (by omega)
  have e144:Bg (List.take 15 (List.drop 140 (ρ.a 1))) 4=Bg (ρ.a 1) 144:=Dl (i:=4) (by omega) (by omega)
  have e145:Bg (List.take 15 (List.drop 140 (ρ.a 1))) 5=Bg (ρ.a 1) 145:=Dl (i:=5) (by omega) (by omega)
  have e146:Bg (List.take 15 (List.drop 140 (ρ.a 1))) 6=Bg (ρ.a 1) 146:=Dl (i:=6) (by omega) (by omega)
  have e147:Bg (List.take 15 (List.drop 140 (ρ.a 1))) 7=Bg (ρ.a 1) 147:=Dl (i:=7) (by omega) (by omega)
  have e148:Bg (List.take 15 (List.drop 140 (ρ.a 1))) 8=Bg (ρ.a 1) 148:=Dl (i:=8) (by omega) (by omega)
  have e149:Bg (List.take 15 (List.drop 140 (ρ.a 1))) 9=Bg (ρ.a 1) 149:=Dl (i:=9) (by omega) (by omega)
  have e150:Bg (List.take 15 (List.drop 140 (ρ.a 1))) 10=Bg (ρ.a 1) 150:=Dl (i:=10) (by omega) (by omega)
  have e151:Bg (List.take 15 (List.drop 140 (ρ.a 1))) 11=Bg (ρ.a 1) 151:=Dl (i:=11) (by omega) (by omega)
  have e152:Bg (List.take 15 (List.drop 140 (ρ.a 1))) 12=Bg (ρ.a 1) 152:=Dl (i:=12) (by omega) (by omega)
  have e153:Bg (List.take 15 (List.drop 140 (ρ.a 1))) 13=Bg (ρ.a 1) 153:=Dl (i:=13) (by omega) (by omega)
  have e154:Bg (List.take 15 (List.drop 140 (ρ.a 1))) 14=Bg (ρ.a 1) 154:=Dl (i:=14) (by omega) (by omega)
  have f0:Bg (List.take 130 (List.drop 6 (ρ.a 1))) 0=Bg (ρ.a 1) 6:=Dl (i:=0) (by omega) (by omega)
  have f1:Bg (List.take 130 (List.drop 6 (ρ.a 1))) 1=Bg (ρ.a 1) 7:=Dl (i:=1) (by omega) (by omega)
  have f65:Bg (List.take 130 (List.drop 6 (ρ.a 1))) 65=Bg (ρ.a 1) 71:=Dl (i:=65) (by omega) (by omega)
  have f66:Bg (List.take 130 (List.drop 6 (ρ.a 1))) 66=Bg (ρ.a 1) 72:=Dl (i:=66) (by omega) (by omega)
  have b141:=Ct g4 (n:=141) (by omega) (by omega)
  have b142:=Ct g4 (n:=142) (by omega) (by omega)
  have b143:=Ct g4 (n:=143) (by omega) (by omega)
  have b144:=Ct g4 (n:=144) (by omega) (by omega)
  have hw:Bg (ρ.a 1) 143*256+Bg (ρ.a 1) 144=wdD (ρ.a 1):=rfl
  have hh:Bg (ρ.a 1) 141*256+Bg (ρ.a 1) 142=hgD (ρ.a 1):=rfl
  have hw2:wdD (ρ.a 1)≤65535:=by rw[←hw];omega
  have nb:=jxz a6 a7 a8
  have hnm:Gt (ρ.a 1)=nmC (wdD (ρ.a 1)) (hgD (ρ.a 1)):=rfl
  have hz4:=Vw (n:=4*Gt (ρ.a 1)) (by rw[hnm];omega)
  have hz1:=Vw (n:=Gt (ρ.a 1)) (by rw[hnm];omega)
  have hs:=jry _ (s:=st0 589 (Cr (4*Gt (ρ.a 1))) (Cr (Gt (ρ.a 1))) (Cr (Gt (ρ.a 1)))) ⟨by show (0:Int)≤589;omega,by show (0:Int)≤0;omega,by show (0:Int)≤7;omega,rfl,rfl,rfl⟩ a14
  have hend:0≤eoC (ρ.a 1):=jkr _ hs.h1
  have hb0:((Kl (ρ.a 1)).b0.length:Int)=64*(4*Gt (ρ.a 1)):=by rw[←hz4];exact congrArg _ hs.e0
  have hb1:((Kl (ρ.a 1)).b1.length:Int)=64*Gt (ρ.a 1):=by rw[←hz1];exact congrArg _ hs.e1
  have hb2:((Kl (ρ.a 1)).b2.length:Int)=64*Gt (ρ.a 1):=by rw[←hz1];exact congrArg _ hs.e2
  have hq1:1≤Bg (ρ.a 1) 7:=j7v (s:=7) (by omega) a2
  have hq2:1≤Bg (ρ.a 1) 72:=j7v (s:=72) (by omega) a4
  have hh2:hgD (ρ.a 1)≤65535:=by rw[←hh];omega
  simp only[j8p,↓qA,qB,and_true,implies_true,T.I,T.A,T.B,VC.sem,Ck,Gy,Tm,jy5,jwh,jtm,jwt,jzk,ju8,jhe,j75,jnh,jmj,qg8,qd4,qi4,qf8,qj8,qic,j6q,j6y,j7b,j0m,Fb,Int.reduceAdd]
  simp only[Int.reduceToNat,List.length_append,List.length_replicate,hS4,hS3,e140,e141,e142,e143,e144,e145,e146,e147,e148,e149,e150,e151,e152,e153,e154,f0,f1,f65,hw,hh,q2,q3,q4,q5,q136,q137,q138,q139,q155,q156,q157,q158,q575,q576,q577,q578]
  have tX:(wdD (ρ.a 1)+15).tdiv 16=xN (wdD (ρ.a 1)):=Int.tdiv_eq_ediv_of_nonneg (by omega)
  have tY:(hgD (ρ.a 1)+15).tdiv 16=xN (hgD (ρ.a 1)):=Int.tdiv_eq_ediv_of_nonneg (by omega)
  (repeat' (first|with_reducible exact True.intro|with_reducible refine And.intro ?_ ?_|intro _))<;>(try omega)
  · rw[List.length_take,List.length_drop];omega
  · exact Lv g4 6 130
  · rw[jdd (by omega)];exact Zv (Lv g4 7 64) a2
  · rw[jdd (by omega)];exact Zv (Lv g4 72 64) a4
  · decide+kernel
  · rw[List.length_take,List.length_drop];omega
  · exact Lv g4 140 15
  · exact a11.symm
  · exact jvb.symm
  · exact a13
  · skip
    have i0:ρ.i 1120=4*Gt (ρ.a 1):= ‹_›;have i1:ρ.i 1121=Gt (ρ.a 1):= ‹_›;have i2:ρ.i 1122=Gt (ρ.a 1):= ‹_›
    have z0:= ‹ρ.a 1107=Cr _›;have z1:= ‹ρ.a 1108=Cr _›;have z2:= ‹ρ.a 1109=Cr _›
    rw[i0] at z0;rw[i1] at z1;rw[i2] at z2
    rw[tX,tY,i1];rfl
  · skip
    have i0:ρ.i 1120=4*Gt (ρ.a 1):= ‹_›;have i1:ρ.i 1121=Gt (ρ.a 1):= ‹_›;have i2:ρ.i 1122=Gt (ρ.a 1):= ‹_›
    have z0:= ‹ρ.a 1107=Cr _›;have z1:= ‹ρ.a 1108=Cr _›;have z2:= ‹ρ.a 1109=Cr _›
    rw[i0] at z0;rw[i1] at z1;rw[i2] at z2
    rw[z0,hz4,i0]
  · skip
    have i0:ρ.i 1120=4*Gt (ρ.a 1):= ‹_›;have i1:ρ.i 1121=Gt (ρ.a 1):= ‹_›;have i2:ρ.i 1122=Gt (ρ.a 1):= ‹_›
    have z0:= ‹ρ.a 1107=Cr _›;have z1:= ‹ρ.a 1108=Cr _›;have z2:= ‹ρ.a 1109=Cr _›
    rw[i0] at z0;rw[i1] at z1;rw[i2] at z2
    rw[z1,hz1,i1]
  · skip
    have i0:ρ.i 1120=4*Gt (ρ.a 1):= ‹_›;have i1:ρ.i 1121=Gt (ρ.a 1):= ‹_›;have i2:ρ.i 1122=Gt (ρ.a 1):= ‹_›
    have z0:= ‹ρ.a 1107=Cr _›;have z1:= ‹ρ.a 1108=Cr _›;have z2:= ‹ρ.a 1109=Cr _›
    rw[i0] at z0;rw[i1] at z1;rw[i2] at z2
    rw[z2,hz1,i1]
  · rw[Mn 64 (by omega) (by rw[Kt,hql];omega),if_neg (by omega),Mn 64 (by omega) (by rw[hql];omega),if_pos (by omega)]
    show 1≤Bg (List.take 130 (List.drop 6 (ρ.a 1))) 1
    rw[f1];exact hq1
  · rw[Mn 64 (by omega) (by rw[Kt,hql];omega),if_pos (by omega)]
    show 1≤Bg (List.take 130 (List.drop 6 (ρ.a 1))) 66
    rw[f66];exact hq2
  · skip
    have i0:ρ.i 1120=4*Gt (ρ.a 1):= ‹_›;have i1:ρ.i 1121=Gt (ρ.a 1):= ‹_›;have i2:ρ.i 1122=Gt (ρ.a 1):= ‹_›
    have z0:= ‹ρ.a 1107=Cr _›;have z1:= ‹ρ.a 1108=Cr _›;have z2:= ‹ρ.a 1109=Cr _›
    rw[i0] at z0;rw[i1] at z1;rw[i2] at z2
    rw[z0,z1,z2,i1,tX]
    exact a14
  · skip
    have i0:ρ.i 1120=4*Gt (ρ.a 1):= ‹_›;have i1:ρ.i 1121=Gt (ρ.a 1):= ‹_›;have i2:ρ.i 1122=Gt (ρ.a 1):= ‹_›
    have z0:= ‹ρ.a 1107=Cr _›;have z1:= ‹ρ.a 1108=Cr _›;have z2:= ‹ρ.a 1109=Cr _›
    rw[i0] at z0;rw[i1] at z1;rw[i2] at z2
    rw[z0,z1,z2,i1,tX]
    exact hend
  · skip
    have i0:ρ.i 1120=4*Gt (ρ.a 1):= ‹_›;have i1:ρ.i 1121=Gt (ρ.a 1):= ‹_›;have i2:ρ.i 1122=Gt (ρ.a 1):= ‹_›
    have z0:= ‹ρ.a 1107=Cr _›;have z1:= ‹ρ.a 1108=Cr _›;have z2:= ‹ρ.a 1109=Cr _›
    rw[i0] at z0;rw[i1] at z1;rw[i2] at z2
    rw[z0,z1,z2,i1,tX]
    show eoC (ρ.a 1)+1<_;omega
  · skip
    have i0:ρ.i 1120=4*Gt (ρ.a 1):= ‹_›;have i1:ρ.i 1121=Gt (ρ.a 1):= ‹_›;have i2:ρ.i 1122=Gt (ρ.a 1):= ‹_›
    have z0:= ‹ρ.a 1107=Cr _›;have z1:= ‹ρ.a 1108=Cr _›;have z2:= ‹ρ.a 1109=Cr _›
    rw[i0] at z0;rw[i1] at z1;rw[i2] at z2
    rw[z0,z1,z2,i1,tX]
    exact a15
  · skip
    have i0:ρ.i 1120=4*Gt (ρ.a 1):= ‹_›;have i1:ρ.i 1121=Gt (ρ.a 1):= ‹_›;have i2:ρ.i 1122=Gt (ρ.a 1):= ‹_›
    have z0:= ‹ρ.a 1107=Cr _›;have z1:= ‹ρ.a 1108=Cr _›;have z2:= ‹ρ.a 1109=Cr _›
    rw[i0] at z0;rw[i1] at z1;rw[i2] at z2
    rw[z0,z1,z2,i1,tX]
    exact a16
  · skip
    have i0:ρ.i 1120=4*Gt (ρ.a 1):= ‹_›;have i1:ρ.i 1121=Gt (ρ.a 1):= ‹_›;have i2:ρ.i 1122=Gt (ρ.a 1):= ‹_›
    have z0:= ‹ρ.a 1107=Cr _›;have z1:= ‹ρ.a 1108=Cr _›;have z2:= ‹ρ.a 1109=Cr _›
    rw[i0] at z0;rw[i1] at z1;rw[i2] at z2
    have hn:= ‹¬jza _ _ _ _ _ _ _+2=_›
    rw[z0,z1,z2,i1,tX] at hn
    exact hn (by show eoC (ρ.a 1)+2=_;omega)
  · have hn:= ‹Bg (Jz 192) 0<0›
    rw[Ol (by omega) (by omega)] at hn
    omega
  · exact Ol (by omega) (by omega)
  · skip
    have i0:ρ.i 1120=4*Gt (ρ.a 1):= ‹_›;have i1:ρ.i 1121=Gt (ρ.a 1):= ‹_›;have i2:ρ.i 1122=Gt (ρ.a 1):= ‹_›
    have z0:= ‹ρ.a 1107=Cr _›;have z1:= ‹ρ.a 1108=Cr _›;have z2:= ‹ρ.a 1109=Cr _›
    rw[i0] at z0;rw[i1] at z1;rw[i2] at z2
    rw[z0,z1,z2,i1,tX]
    show _≤((Kl (ρ.a 1)).b0.length:Int)
    omega
  · skip
    have i0:ρ.i 1120=4*Gt (ρ.a 1):= ‹_›;have i1:ρ.i 1121=Gt (ρ.a 1):= ‹_›;have i2:ρ.i 1122=Gt (ρ.a 1):= ‹_›
    have z0:= ‹ρ.a 1107=Cr _›;have z1:= ‹ρ.a 1108=Cr _›;have z2:= ‹ρ.a 1109=Cr _›
    rw[i0] at z0;rw[i1] at z1;rw[i2] at z2
    rw[z0,z1,z2,i1,tX]
    have:=List.all_eq_true.1 a18 (ρ.i 2600).toNat (List.mem_range.2 (by omega))
    rw[show (ρ.i 2600*64).toNat=64*(ρ.i 2600).toNat from by omega]
    exact this
  · have hn:= ‹Bg (Jz 192) 64<0›
    rw[Ol (by omega) (by omega)] at hn
    omega
  · exact Ol (by omega) (by omega)
  · skip
    have i0:ρ.i 1120=4*Gt (ρ.a 1):= ‹_›;have i1:ρ.i 1121=Gt (ρ.a 1):= ‹_›;have i2:ρ.i 1122=Gt (ρ.a 1):= ‹_›
    have z0:= ‹ρ.a 1107=Cr _›;have z1:= ‹ρ.a 1108=Cr _›;have z2:= ‹ρ.a 1109=Cr _›
    rw[i0] at z0;rw[i1] at z1;rw[i2] at z2
    rw[z0,z1,z2,i1,tX]
    show _≤((Kl (ρ.a 1)).b1.length:Int)
    omega
  · skip
    have i0:ρ.i 1120=4*Gt (ρ.a 1):= ‹_›;have i1:ρ.i 1121=Gt (ρ.a 1):= ‹_›;have i2:ρ.i 1122=Gt (ρ.a 1):= ‹_›
    have z0:= ‹ρ.a 1107=Cr _›;have z1:= ‹ρ.a 1108=Cr _›;have z2:= ‹ρ.a 1109=Cr _›
    rw[i0] at z0;rw[i1] at z1;rw[i2] at z2
    rw[z0,z1,z2,i1,tX]
    have:=List.all_eq_true.1 a19 (ρ.i 3400).toNat (List.mem_range.2 (by omega))
    rw[show (ρ.i 3400*64).toNat=64*(ρ.i 3400).toNat from by omega]
    exact this
  · have hn:= ‹Bg (Jz 192) 128<0›
    rw[Ol (by omega) (by omega)] at hn
    omega
  · exact Ol (by omega) (by omega)
  · skip
    have i0:ρ.i 1120=4*Gt (ρ.a 1):= ‹_›;have i1:ρ.i 1121=Gt (ρ.a 1):= ‹_›;have i2:ρ.i 1122=Gt (ρ.a 1):= ‹_›
    have z0:= ‹ρ.a 1107=Cr _›;have z1:= ‹ρ.a 1108=Cr _›;have z2:= ‹ρ.a 1109=Cr _›
    rw[i0] at z0;rw[i1] at z1;rw[i2] at z2
    rw[z0,z1,z2,i1,tX]
    show _≤((Kl (ρ.a 1)).b2.length:Int)
    omega
  · skip
    have i0:ρ.i 1120=4*Gt (ρ.a 1):= ‹_›;have i1:ρ.i 1121=Gt (ρ.a 1):= ‹_›;have i2:ρ.i 1122=Gt (ρ.a 1):= ‹_›
    have z0:= ‹ρ.a 1107=Cr _›;have z1:= ‹ρ.a 1108=Cr _›;have z2:= ‹ρ.a 1109=Cr _›
    rw[i0] at z0;rw[i1] at z1;rw[i2] at z2
    rw[z0,z1,z2,i1,tX]
    have:=List.all_eq_true.1 a20 (ρ.i 4200).toNat (List.mem_range.2 (by omega))
    rw[show (ρ.i 4200*64).toNat=64*(ρ.i 4200).toNat from by omega]
    exact this
  · skip
    have i0:ρ.i 1120=4*Gt (ρ.a 1):= ‹_›;have i1:ρ.i 1121=Gt (ρ.a 1):= ‹_›;have i2:ρ.i 1122=Gt (ρ.a 1):= ‹_›
    have z0:= ‹ρ.a 1107=Cr _›;have z1:= ‹ρ.a 1108=Cr _›;have z2:= ‹ρ.a 1109=Cr _›
    rw[i0] at z0;rw[i1] at z1;rw[i2] at z2
    rw[z0,z1,z2,i1,tX]
    rfl
  · skip
    have i0:ρ.i 1120=4*Gt (ρ.a 1):= ‹_›;have i1:ρ.i 1121=Gt (ρ.a 1):= ‹_›;have i2:ρ.i 1122=Gt (ρ.a 1):= ‹_›
    have z0:= ‹ρ.a 1107=Cr _›;have z1:= ‹ρ.a 1108=Cr _›;have z2:= ‹ρ.a 1109=Cr _›
    rw[i0] at z0;rw[i1] at z1;rw[i2] at z2
    rw[z0,z1,z2,i1,tX]
    rfl
  · skip
    have i0:ρ.i 1120=4*Gt (ρ.a 1):= ‹_›;have i1:ρ.i 1121=Gt (ρ.a 1):= ‹_›;have i2:ρ.i 1122=Gt (ρ.a 1):= ‹_›
    have z0:= ‹ρ.a 1107=Cr _›;have z1:= ‹ρ.a 1108=Cr _›;have z2:= ‹ρ.a 1109=Cr _›
    rw[i0] at z0;rw[i1] at z1;rw[i2] at z2
    rw[z0,z1,z2,i1,tX]
    rfl
  · exact (ja5 hql (by omega)).symm
  · exact (ja5 hql (by omega)).symm
  · exact (jc9 hql (by omega)).symm
structure Qs(quant:List Int):Prop where
  ql:quant.length=128
  q:Bn 1 255 quant=true
structure Bk(b:List Int):Prop where
  len:b.length=64
  rng:Bn 0 255 b=true
theorem Kp{quant b:List Int}(Q:Qs quant)(hb:Bk b){q:Nat}(hq:q<2){k:Int}(h0:0≤k)(h1:k<64):
    -1024≤coef q quant (Dc b) k∧coef q quant (Dc b) k≤1023∧(k≠0→ -1023≤coef q quant (Dc b) k):=jeu hq hb.len hb.rng Q.ql Q.q h0 h1
theorem j7q{quant b:List Int}(Q:Qs quant)(hb:Bk b){q:Nat}(hq:q<2): ∀k:Nat,k<64→k≠0→Fe (coef q quant (Dc b) (k:Int))≤1023:=by
  intro k hk hz
  have:=Kp Q hb hq (k:=(k:Int)) (by omega) (by omega)
  exact Wh (this.2.2 (by omega)) this.2.1
theorem jba{quant b:List Int}(Q:Qs quant)(hb:Bk b){q:Nat}(hq:q<2){H:List Int}{s:St}{L:List Int}{p:Int}(h0: -1024≤p)(h1:p≤1023)(hr:Rep H s L):Rep H (Ub q quant b s p) (L++To q quant (Dc b) p):=by
  have hc:=Kp Q hb hq (k:=0) (by omega) (by omega)
  exact jtr hq (j7q Q hb hq) (Wh (by omega) (by omega)) hr
theorem qj1{quant b:List Int}(Q:Qs quant)(hb:Bk b){q:Nat}(hq:q<2){D T:List Int}{p a u:Int}{R:List Int}(hp1: -1024≤p)(hp2:p≤1023)(hr:Rd D T a u (To q quant (Dc b) p++R)):
    Li q D a u p=true∧p+Tg q D a u=coef q quant (Dc b) 0∧ ∃a1 u1,Rd D T a1 u1 R∧ ∀(A G:List Int),Gg q D (A.length:Int) a u p (A++(List.replicate 64 0++G))=a1::u1::(A++(Eu q quant (Dc b) 0 64++G)):=by
  have hc:=Kp Q hb hq (k:=0) (by omega) (by omega)
  unfold To at hr
  rw[List.append_assoc] at hr
  have hab:Fe (coef q quant (Dc b) 0-p)≤2047:=Wh (by omega) (by omega)
  obtain ⟨p1,p2,p3,p4,p5⟩:=Yn hab
  have hz:(0:Int)*16+Gb (coef q quant (Dc b) 0-p)=Gb (coef q quant (Dc b) 0-p):=by omega
  obtain ⟨s1,a1,u1,s2,s3,v,a2,u2,s4,s5,s6⟩:=jz2 (h:=2*q) (by rw[hz];exact jku hq (by omega) (by omega)) hab hr
  rw[hz] at s2
  have hS:dcS q D a u=[Gb (coef q quant (Dc b) 0-p),a1,u1]:=s2
  have hN:Xv q D a u=[v,a2,u2]:=by unfold Xv;rw[hS];exact s4
  have hV:Tg q D a u=coef q quant (Dc b) 0-p:=by unfold Tg;rw[hS,hN];exact s5
  have hO:Yu q D a u=true:=by
    unfold Yu
    rw[Bool.and_eq_true]
    exact ⟨s1,by rw[hS];exact s3⟩
  have hcs: ∀c∈Eu q quant (Dc b) 1 63,Fe c≤1023:=by
    intro c hc
    unfold Eu at hc
    obtain ⟨k,hk,rfl⟩:=List.mem_map.1 hc
    rw[List.mem_range'_1] at hk
    exact j7q Q hb hq k (by omega) (by omega)
  obtain ⟨g1,a3,u3,g2,g3⟩:=jsa (q:=q) hq hcs (run:=0) (k:=1) (by omega) (by omega) (by rw[Jf];rfl) s6
  refine ⟨?_,by omega,a3,u3,g3,fun A G=> ?_⟩
  · unfold Li
    simp only[Bool.and_eq_true,decide_eq_true_eq]
    refine ⟨hO,by omega,by omega,?_⟩
    rw[hN];exact g1
  · unfold Gg acS
    rw[hN]
    show Ef _ _ D _ 1 a2 u2 _=_
    rw[g2]
    congr 2
    have e:(A++(List.replicate 64 0++G)).set (A.length:Int).toNat (p+Tg q D a u)=(A++ [coef q quant (Dc b) 0])++(List.replicate 63 0++G):=by
      rw[hV,show p+(coef q quant (Dc b) 0-p)=coef q quant (Dc b) 0 from by omega,List.replicate_succ]
      simp[List.set_append]
    rw[e]
    have hl:(Eu q quant (Dc b) 1 63).length=63:=Jf ..
    have:=jf9 (cs:=Eu q quant (Dc b) 1 63) (A:=A++ [coef q quant (Dc b) 0]) (G:=G)
    rw[hl] at this
    rw[show (A.length:Int)+(1+0)=((A++ [coef q quant (Dc b) 0]).length:Int) from by simp,this,Ph q _ 0 63]
    simp
structure Tc(w h:Int)(P quant:List Int):Prop where
  w1:1≤w
  h1:1≤h
  len:(P.length:Int)=w*h+2*((w+1)/2*((h+1)/2))
  pix:Bn 0 255 P=true
  q:Qs quant
section
variable {w h:Int} {P quant:List Int}
theorem Tc.prod(I:Tc w h P quant):0≤w*h∧0≤(w+1)/2*((h+1)/2):=by
  have:=I.w1
  have:=I.h1
  exact ⟨Int.mul_nonneg (by omega) (by omega),Int.mul_nonneg (by omega) (by omega)⟩
theorem Tc.y(I:Tc w h P quant){x y:Int}(hx:0≤x)(hy:0≤y):Bk (Fy x y w h P):=by
  have:=I.prod
  have:=I.len
  exact ⟨Fw,jom hx hy I.w1 I.h1 (by omega) I.pix⟩
theorem Tc.cb(I:Tc w h P quant){x y:Int}(hx:0≤x)(hy:0≤y):Bk (Nx (Nw (Ov w h) x y w h P)):=by
  have:=I.prod
  have:=I.len
  exact ⟨Zk,jdz (jdc hx hy I.w1 I.h1 (by unfold Ov;omega) (by unfold Ov;omega) I.pix)⟩
theorem Tc.cr(I:Tc w h P quant){x y:Int}(hx:0≤x)(hy:0≤y):Bk (Nx (Nw (Po w h) x y w h P)):=by
  have:=I.prod
  have:=I.len
  exact ⟨Zk,jdz (jdc hx hy I.w1 I.h1 (by unfold Po;omega) (by unfold Po;omega) I.pix)⟩
end
section
variable (w h:Int) (P quant:List Int)
def unB(a b c x y:Int):List Int:=
  To 0 quant (Dc (Fy x y w h P)) a++(To 0 quant (Dc (Fy (x+8) y w h P)) (coef 0 quant (Dc (Fy x y w h P)) 0)++(To 0 quant (Dc (Fy x (y+8) w h P)) (coef 0 quant (Dc (Fy (x+8) y w h P)) 0)++
    (To 0 quant (Dc (Fy (x+8) (y+8) w h P)) (coef 0 quant (Dc (Fy x (y+8) w h P)) 0)++(To 1 quant (Dc (Nx (Nw (Ov w h) x y w h P))) b++To 1 quant (Dc (Nx (Nw (Po w h) x y w h P))) c))))
def Hd(a b c x y:Int):List Int:=
  if y<h then
    if x<w then unB w h P quant a b c x y++Hd (coef 0 quant (Dc (Fy (x+8) (y+8) w h P)) 0) (coef 1 quant (Dc (Nx (Nw (Ov w h) x y w h P))) 0) (coef 1 quant (Dc (Nx (Nw (Po w h) x y w h P))) 0) (x+16) y
    else Hd a b c 0 (y+16)
  else []
termination_by ((h-y).toNat,(w-x).toNat)
decreasing_by
  · apply Prod.Lex.right;omega
  · apply Prod.Lex.left;omega
end
section
variable {w h:Int} {P quant:List Int}
theorem qca(I:Tc w h P quant){H L:List Int}{s:St}{a b c x y:Int}(hx:0≤x)(hy:0≤y)(ha: -1024≤a)(ha2:a≤1023)(hb: -1024≤b)(hb2:b≤1023)(hc: -1024≤c)(hc2:c≤1023)(hr:Rep H s L):
    Rep H (jyt w h P quant s a b c x y) (L++unB w h P quant a b c x y):=by
  have Y:=fun {x y:Int} (hx:0≤x) (hy:0≤y)=>Kp I.q (I.y hx hy) (q:=0) (by omega) (k:=0) (by omega) (by omega)
  unfold jyt unB
  simp only[←List.append_assoc]
  exact jba I.q (I.cr hx hy) (by omega) hc hc2 (jba I.q (I.cb hx hy) (by omega) hb hb2 (jba I.q (I.y (by omega) (by omega)) (by omega) (Y hx (by omega)).1 (Y hx (by omega)).2.1
    (jba I.q (I.y hx (by omega)) (by omega) (Y (by omega) hy).1 (Y (by omega) hy).2.1 (jba I.q (I.y (by omega) hy) (by omega) (Y hx hy).1 (Y hx hy).2.1 (jba I.q (I.y hx hy) (by omega) ha ha2 hr)))))
theorem j2b(I:Tc w h P quant){H:List Int}(n:Nat): ∀(m:Nat) {s:St} {L:List Int} {a b c x y:Int},(h-y).toNat≤n→(w-x).toNat≤m→0≤x→0≤y→ -1024≤a→a≤1023→ -1024≤b→b≤1023→ -1024≤c→c≤1023→Rep H s L→
    Rep H (Tr w h P quant s a b c x y) (L++(Hd w h P quant a b c x y++List.replicate 7 1)):=by
  have hend: ∀{s:St} {L:List Int},Rep H s L→Rep H (jbk s 127 7) (L++([]++List.replicate 7 1)):=by
    intro s L hr
    rw[List.nil_append,←js0]
    exact Rk hr (x:=127) (k:=7) (by omega) (by decide) (by omega)
  induction n with
  | zero=>
    intro m s L a b c x y hn hm hx hy a1 a2 b1 b2 c1 c2 hr
    rw[jam (by omega),Hd,if_neg (by omega)]
    exact hend hr
  | succ n ihn=>
    intro m
    induction m with
    | zero=>
      intro s L a b c x y hn hm hx hy a1 a2 b1 b2 c1 c2 hr
      by_cases hyh:y<h
      · rw[jeb hyh (by omega),Hd,if_pos hyh,if_neg (by omega)]
        exact ihn _ (by omega) (Nat.le_refl _) (by omega) (by omega) a1 a2 b1 b2 c1 c2 hr
      · rw[jam hyh,Hd,if_neg hyh]
        exact hend hr
    | succ m ihm=>
      intro s L a b c x y hn hm hx hy a1 a2 b1 b2 c1 c2 hr
      by_cases hyh:y<h
      · by_cases hxw:x<w
        · have k0:=Kp I.q (I.y (x:=x+8) (y:=y+8) (by omega) (by omega)) (q:=0) (by omega) (k:=0) (by omega) (by omega)
          have k1:=Kp I.q (I.cb hx hy) (q:=1) (by omega) (k:=0) (by omega) (by omega)
          have k2:=Kp I.q (I.cr hx hy) (q:=1) (by omega) (k:=0) (by omega) (by omega)
          rw[jhp hyh hxw,Hd,if_pos hyh,if_pos hxw,List.append_assoc,←List.append_assoc]
          exact ihm hn (by omega) (by omega) hy k0.1 k0.2.1 k1.1 k1.2.1 k2.1 k2.2.1 (qca I hx hy a1 a2 b1 b2 c1 c2 hr)
        · rw[jeb hyh hxw,Hd,if_pos hyh,if_neg hxw]
          exact ihn _ (by omega) (Nat.le_refl _) (by omega) (by omega) a1 a2 b1 b2 c1 c2 hr
      · rw[jam hyh,Hd,if_neg hyh]
        exact hend hr
end
def Dh(f:Nat→List Int):Nat→List Int
  | 0=>[]
  | n+1=>Dh f n++f n
def Ko(f:Nat→List Int)(i:Nat)(c:List Int):Nat→List Int:=fun j=>if j=i then c else f j
theorem Wa{f:Nat→List Int}(hf: ∀j,(f j).length=64)(n:Nat):(Dh f n).length=64*n:=by
  induction n with
  | zero=>rfl
  | succ n ih=>rw[Dh,List.length_append,ih,hf];omega
theorem jcq{f g:Nat→List Int}: ∀(n:Nat),(∀j,j<n→f j=g j)→Dh f n=Dh g n
  | 0,_=>rfl
  | n+1,h=>by rw[Dh,Dh,jcq n (fun j hj=>h j (by omega)),h n (by omega)]
theorem jfi{f:Nat→List Int}(hf: ∀j,(f j).length=64){i:Nat}: ∀{n:Nat},i<n→ ∃A G,A.length=64*i∧ ∀c:List Int,Dh (Ko f i c) n=A++(c++G)
  | n+1,hi=>by
    by_cases h:i=n
    · subst h
      refine ⟨Dh f i,[],Wa hf i,fun c=> ?_⟩
      rw[Dh,jcq i (g:=f) (fun j hj=>by unfold Ko;rw[if_neg (by omega)]),List.append_nil]
      unfold Ko
      rw[if_pos rfl]
    · obtain ⟨A,G,h1,h2⟩:=jfi hf (i:=i) (n:=n) (by omega)
      refine ⟨A,G++f n,h1,fun c=> ?_⟩
      rw[Dh,h2]
      unfold Ko
      rw[if_neg (by omega)]
      simp only[List.append_assoc]
theorem ji0{f:Nat→List Int}{i:Nat}:Ko f i (f i)=f:=by
  funext j
  unfold Ko
  by_cases h:j=i
  · rw[if_pos h,h]
  · rw[if_neg h]
theorem Rl{f:Nat→List Int}(hf: ∀j,(f j).length=64){i:Nat}{c:List Int}(hc:c.length=64)(j:Nat):(Ko f i c j).length=64:=by
  unfold Ko;split
  · exact hc
  · exact hf j
section
variable {quant b D T R:List Int}
theorem j11(Q:Qs quant)(hb:Bk b){q:Nat}(hq:q<2){f:Nat→List Int}(hf: ∀j,(f j).length=64){i n:Nat}(hi:i<n)(hz:f i=List.replicate 64 0){p a u:Int}(hp1: -1024≤p)(hp2:p≤1023)
    (hr:Rd D T a u (To q quant (Dc b) p++R)):
    Li q D a u p=true∧p+Tg q D a u=coef q quant (Dc b) 0∧ ∃a1 u1,Rd D T a1 u1 R∧Gg q D (64*i:Nat) a u p (Dh f n)=a1::u1::Dh (Ko f i (Eu q quant (Dc b) 0 64)) n:=by
  obtain ⟨o1,o2,a1,u1,o3,o4⟩:=qj1 Q hb hq hp1 hp2 hr
  obtain ⟨A,G,h1,h2⟩:=jfi hf hi
  refine ⟨o1,o2,a1,u1,o3,?_⟩
  have:=o4 A G
  rw[←h2,←h2,←hz,ji0,h1] at this
  exact this
theorem jk2(Q:Qs quant)(hb:Bk b){f:Nat→List Int}(hf: ∀j,(f j).length=64){i n:Nat}(hi:i<n)(hz:f i=List.replicate 64 0){s:CS}(hs:s.b0=Dh f n)(hp1: -1024≤s.p0)(hp2:s.p0≤1023){d:Int}(hd:d=(64*i:Nat))
    (hr:Rd D T s.at_ s.us (To 0 quant (Dc b) s.p0++R)):
    ok0 D s=true∧ ∃a1 u1,Rd D T a1 u1 R∧rd0 D d s=⟨a1,u1,coef 0 quant (Dc b) 0,s.p1,s.p2,Dh (Ko f i (Eu 0 quant (Dc b) 0 64)) n,s.b1,s.b2⟩:=by
  obtain ⟨o1,o2,a1,u1,o3,o4⟩:=j11 Q hb (q:=0) (by omega) hf hi hz hp1 hp2 hr
  refine ⟨o1,a1,u1,o3,?_⟩
  unfold rd0
  rw[hs,hd,o4,o2];rfl
theorem j9b(Q:Qs quant)(hb:Bk b){f:Nat→List Int}(hf: ∀j,(f j).length=64){i n:Nat}(hi:i<n)(hz:f i=List.replicate 64 0){s:CS}(hs:s.b1=Dh f n)(hp1: -1024≤s.p1)(hp2:s.p1≤1023){d:Int}(hd:d=(64*i:Nat))
    (hr:Rd D T s.at_ s.us (To 1 quant (Dc b) s.p1++R)):
    ok1 D s=true∧ ∃a1 u1,Rd D T a1 u1 R∧rd1 D d s=⟨a1,u1,s.p0,coef 1 quant (Dc b) 0,s.p2,s.b0,Dh (Ko f i (Eu 1 quant (Dc b) 0 64)) n,s.b2⟩:=by
  obtain ⟨o1,o2,a1,u1,o3,o4⟩:=j11 Q hb (q:=1) (by omega) hf hi hz hp1 hp2 hr
  refine ⟨o1,a1,u1,o3,?_⟩
  unfold rd1
  rw[hs,hd,o4,o2];rfl
theorem qan(Q:Qs quant)(hb:Bk b){f:Nat→List Int}(hf: ∀j,(f j).length=64){i n:Nat}(hi:i<n)(hz:f i=List.replicate 64 0){s:CS}(hs:s.b2=Dh f n)(hp1: -1024≤s.p2)(hp2:s.p2≤1023){d:Int}(hd:d=(64*i:Nat))
    (hr:Rd D T s.at_ s.us (To 1 quant (Dc b) s.p2++R)):
    ok2 D s=true∧ ∃a1 u1,Rd D T a1 u1 R∧rd2 D d s=⟨a1,u1,s.p0,s.p1,coef 1 quant (Dc b) 0,s.b0,s.b1,Dh (Ko f i (Eu 1 quant (Dc b) 0 64)) n⟩:=by
  obtain ⟨o1,o2,a1,u1,o3,o4⟩:=j11 Q hb (q:=1) (by omega) hf hi hz hp1 hp2 hr
  refine ⟨o1,a1,u1,o3,?_⟩
  unfold rd2
  rw[hs,hd,o4,o2];rfl
end
section
variable {w h:Int} {P quant D T R:List Int}
def cfY(w h:Int)(P quant:List Int)(x y:Int):List Int:=Eu 0 quant (Dc (Fy x y w h P)) 0 64
def cfC(off w h:Int)(P quant:List Int)(x y:Int):List Int:=Eu 1 quant (Dc (Nx (Nw off x y w h P))) 0 64
theorem qfh(I:Tc w h P quant){x y X m:Int}(hx:0≤x)(hy:0≤y){f0 f1 f2:Nat→List Int}(hf0: ∀j,(f0 j).length=64)(hf1: ∀j,(f1 j).length=64)(hf2: ∀j,(f2 j).length=64){i0 i1 i2 i3 iC n0 n1:Nat}
    (l0:i0<n0)(l1:i1<n0)(l2:i2<n0)(l3:i3<n0)(lC:iC<n1)(d01:i0≠i1)(d02:i0≠i2)(d03:i0≠i3)(d12:i1≠i2)(d13:i1≠i3)(d23:i2≠i3)
    (z0:f0 i0=List.replicate 64 0)(z1:f0 i1=List.replicate 64 0)(z2:f0 i2=List.replicate 64 0)(z3:f0 i3=List.replicate 64 0)(zb:f1 iC=List.replicate 64 0)(zr:f2 iC=List.replicate 64 0)
    (e0:dY X m 0=(64*i0:Nat))(e1:dY X m 1=(64*i1:Nat))(e2:dY X m 2=(64*i2:Nat))(e3:dY X m 3=(64*i3:Nat))(eC:dC X m=(64*iC:Nat))
    {a u p q r:Int}(hp1: -1024≤p)(hp2:p≤1023)(hq1: -1024≤q)(hq2:q≤1023)(hr1: -1024≤r)(hr2:r≤1023)
    (hr:Rd D T a u (unB w h P quant p q r x y++R)):
    jah D X m ⟨a,u,p,q,r,Dh f0 n0,Dh f1 n1,Dh f2 n1⟩=true∧ ∃a1 u1,Rd D T a1 u1 R∧un6 D X m ⟨a,u,p,q,r,Dh f0 n0,Dh f1 n1,Dh f2 n1⟩=
      ⟨a1,u1,coef 0 quant (Dc (Fy (x+8) (y+8) w h P)) 0,coef 1 quant (Dc (Nx (Nw (Ov w h) x y w h P))) 0,coef 1 quant (Dc (Nx (Nw (Po w h) x y w h P))) 0,
        Dh (Ko (Ko (Ko (Ko f0 i0 (cfY w h P quant x y)) i1 (cfY w h P quant (x+8) y)) i2 (cfY w h P quant x (y+8))) i3 (cfY w h P quant (x+8) (y+8))) n0,
        Dh (Ko f1 iC (cfC (Ov w h) w h P quant x y)) n1,Dh (Ko f2 iC (cfC (Po w h) w h P quant x y)) n1⟩:=by
  have Y:=fun {x y:Int} (hx:0≤x) (hy:0≤y)=>Kp I.q (I.y hx hy) (q:=0) (by omega) (k:=0) (by omega) (by omega)
  unfold unB at hr
  simp only[List.append_assoc] at hr
  have LY: ∀{x y:Int},(cfY w h P quant x y).length=64:=Jf ..
  obtain ⟨o0,a0,u0,r0,s0⟩:=jk2 I.q (I.y hx hy) hf0 l0 z0 (s:=⟨a,u,p,q,r,Dh f0 n0,Dh f1 n1,Dh f2 n1⟩) rfl hp1 hp2 e0 hr
  obtain ⟨o1,a1,u1,r1,s1⟩:=jk2 I.q (I.y (x:=x+8) (by omega) hy) (f:=(Ko f0 i0 (cfY w h P quant x y))) (Rl hf0 LY) l1 (by unfold Ko;rw[if_neg (by omega)];exact z1) (s:=un1 D X m ⟨a,u,p,q,r,Dh f0 n0,Dh f1 n1,Dh f2 n1⟩) (by rw[un1,s0];rfl) (by rw[un1,s0];exact (Y hx hy).1) (by rw[un1,s0];exact (Y hx hy).2.1) e1 (by rw[un1,s0];exact r0)
  obtain ⟨o2,a2,u2,r2,s2⟩:=jk2 I.q (I.y (y:=y+8) hx (by omega)) (f:=(Ko (Ko f0 i0 (cfY w h P quant x y)) i1 (cfY w h P quant (x+8) y))) (Rl (Rl hf0 LY) LY) l2 (by unfold Ko;rw[if_neg (by omega),if_neg (by omega)];exact z2) (s:=un2 D X m ⟨a,u,p,q,r,Dh f0 n0,Dh f1 n1,Dh f2 n1⟩) (by rw[un2,s1];rfl) (by rw[un2,s1];exact (Y (by omega) hy).1) (by rw[un2,s1];exact (Y (by omega) hy).2.1) e2 (by rw[un2,s1];exact r1)
  obtain ⟨o3,a3,u3,r3,s3⟩:=jk2 I.q (I.y (x:=x+8) (y:=y+8) (by omega) (by omega)) (f:=(Ko (Ko (Ko f0 i0 (cfY w h P quant x y)) i1 (cfY w h P quant (x+8) y)) i2 (cfY w h P quant x (y+8)))) (Rl (Rl (Rl hf0 LY) LY) LY) l3 (by unfold Ko;rw[if_neg (by omega),if_neg (by omega),if_neg (by omega)];exact z3) (s:=un3 D X m ⟨a,u,p,q,r,Dh f0 n0,Dh f1 n1,Dh f2 n1⟩) (by rw[un3,s2];rfl) (by rw[un3,s2];exact (Y hx (by omega)).1) (by rw[un3,s2];exact (Y hx (by omega)).2.1) e3 (by rw[un3,s2];exact r2)
  have t3:un4 D X m ⟨a,u,p,q,r,Dh f0 n0,Dh f1 n1,Dh f2 n1⟩=_:=s3
  have q1:(un1 D X m ⟨a,u,p,q,r,Dh f0 n0,Dh f1 n1,Dh f2 n1⟩).p1=q∧(un1 D X m ⟨a,u,p,q,r,Dh f0 n0,Dh f1 n1,Dh f2 n1⟩).p2=r:=⟨rfl,rfl⟩
  obtain ⟨o4,a4,u4,r4,s4⟩:=j9b I.q (I.cb hx hy) hf1 lC zb (s:=un4 D X m ⟨a,u,p,q,r,Dh f0 n0,Dh f1 n1,Dh f2 n1⟩) rfl hq1 hq2 eC (by rw[t3];exact r3)
  have t4:un5 D X m ⟨a,u,p,q,r,Dh f0 n0,Dh f1 n1,Dh f2 n1⟩=_:=s4
  obtain ⟨o5,a5,u5,r5,s5⟩:=qan I.q (I.cr hx hy) hf2 lC zr (s:=un5 D X m ⟨a,u,p,q,r,Dh f0 n0,Dh f1 n1,Dh f2 n1⟩) rfl hr1 hr2 eC (by rw[t4];exact r4)
  refine ⟨?_,a5,u5,r5,?_⟩
  · unfold jah
    rw[o0,o1,o2,o3,o4,o5];rfl
  · show rd2 D (dC X m) _=_
    rw[s5,t4,t3];rfl
end
def jg5(X j:Nat):Nat:=j/(2*X)/2*X+j % (2*X)/2
theorem jo3{X R K:Nat}(hK:K<X):(R*X+K)/X=R∧(R*X+K) % X=K:=by
  have hX:0<X:=by omega
  constructor
  · rw[Nat.mul_comm,Nat.mul_add_div hX,Nat.div_eq_of_lt hK,Nat.add_zero]
  · rw[Nat.mul_comm,Nat.mul_add_mod,Nat.mod_eq_of_lt hK]
theorem jfb{X R K:Nat}(hK:K<2*X):jg5 X (R*(2*X)+K)=R/2*X+K/2:=by
  unfold jg5
  obtain ⟨a,b⟩:=jo3 (R:=R) hK
  rw[a,b]
theorem j06{X r c j:Nat}(hX:0<X)(hc:c<X)(h:jg5 X j=r*X+c):j/(2*X)/2=r∧j % (2*X)/2=c:=by
  unfold jg5 at h
  have hK:j % (2*X)/2<X:=by have:=Nat.mod_lt j (show 0<2*X by omega);omega
  obtain ⟨a,b⟩:=jo3 (R:=j/(2*X)/2) hK
  obtain ⟨a',b'⟩:=jo3 (R:=r) hc
  rw[h,a'] at a
  rw[h,b'] at b
  exact ⟨a.symm,b.symm⟩
section
variable (w h:Int) (P quant:List Int) (X:Nat)
def F0(m j:Nat):List Int:=if jg5 X j<m then cfY w h P quant (8*(j % (2*X):Nat)) (8*(j/(2*X):Nat)) else List.replicate 64 0
def F1(off:Int)(m j:Nat):List Int:=if j<m then cfC off w h P quant (16*(j % X:Nat)) (16*(j/X:Nat)) else List.replicate 64 0
end
section
variable {w h:Int} {P quant:List Int} {X:Nat}
theorem jjr(m j:Nat):(F0 w h P quant X m j).length=64:=by
  unfold F0;split
  · exact Jf ..
  · simp
theorem Yy(off:Int)(m j:Nat):(F1 w h P quant X off m j).length=64:=by
  unfold F1;split
  · exact Jf ..
  · simp
theorem jdw{r c K R:Nat}(hK:K<2*X)(hr:R/2=r)(hk:K/2=c):F0 w h P quant X (r*X+c) (R*(2*X)+K)=List.replicate 64 0:=by
  unfold F0
  rw[jfb hK,hr,hk,if_neg (by omega)]
theorem jk1{r c K R:Nat}(hK:K<2*X)(hr:R/2=r)(hk:K/2=c):F0 w h P quant X (r*X+c+1) (R*(2*X)+K)=cfY w h P quant (8*(K:Nat)) (8*(R:Nat)):=by
  unfold F0
  obtain ⟨a,b⟩:=jo3 (R:=R) hK
  rw[jfb hK,hr,hk,if_pos (by omega),a,b]
theorem j3h{r c:Nat}(hc:c<X):F0 w h P quant X (r*X+c+1)=Ko (Ko (Ko (Ko (F0 w h P quant X (r*X+c)) (2*r*(2*X)+2*c) (cfY w h P quant (16*c:Nat) (16*r:Nat))) (2*r*(2*X)+(2*c+1)) (cfY w h P quant ((16*c:Nat)+8) (16*r:Nat))) ((2*r+1)*(2*X)+2*c) (cfY w h P quant (16*c:Nat) ((16*r:Nat)+8))) ((2*r+1)*(2*X)+(2*c+1)) (cfY w h P quant ((16*c:Nat)+8) ((16*r:Nat)+8)):=by
  funext j
  unfold Ko
  by_cases h3:j=(2*r+1)*(2*X)+(2*c+1)
  · rw[if_pos h3,h3,jk1 (by omega) (by omega) (by omega)]
    congr 1<;>omega
  rw[if_neg h3]
  by_cases h2:j=(2*r+1)*(2*X)+2*c
  · rw[if_pos h2,h2,jk1 (by omega) (by omega) (by omega)]
    congr 1<;>omega
  rw[if_neg h2]
  by_cases h1:j=2*r*(2*X)+(2*c+1)
  · rw[if_pos h1,h1,jk1 (by omega) (by omega) (by omega)]
    congr 1<;>omega
  rw[if_neg h1]
  by_cases h0:j=2*r*(2*X)+2*c
  · rw[if_pos h0,h0,jk1 (by omega) (by omega) (by omega)]
    congr 1<;>omega
  rw[if_neg h0]
  have hn:jg5 X j≠r*X+c:=by
    intro e
    obtain ⟨a,b⟩:=j06 (by omega) hc e
    have hj:=Nat.div_add_mod j (2*X)
    rw[Nat.mul_comm] at hj
    rcases (show j/(2*X)=2*r∨j/(2*X)=2*r+1 by omega) with hR|hR
    · rw[hR] at hj
      rcases (show j % (2*X)=2*c∨j % (2*X)=2*c+1 by omega) with hK|hK
      · exact h0 (by rw[←hj,hK])
      · exact h1 (by rw[←hj,hK])
    · rw[hR] at hj
      rcases (show j % (2*X)=2*c∨j % (2*X)=2*c+1 by omega) with hK|hK
      · exact h2 (by rw[←hj,hK])
      · exact h3 (by rw[←hj,hK])
  unfold F0
  by_cases hl:jg5 X j<r*X+c
  · rw[if_pos hl,if_pos (by omega)]
  · rw[if_neg hl,if_neg (by omega)]
theorem jsn{off:Int}{r c:Nat}(hc:c<X):F1 w h P quant X off (r*X+c+1)=Ko (F1 w h P quant X off (r*X+c)) (r*X+c) (cfC off w h P quant (16*c:Nat) (16*r:Nat)):=by
  funext j
  unfold Ko F1
  obtain ⟨a,b⟩:=jo3 (R:=r) hc
  by_cases h0:j=r*X+c
  · rw[if_pos h0,h0,if_pos (by omega),a,b]
    congr 1<;>omega
  · rw[if_neg h0]
    by_cases hl:j<r*X+c
    · rw[if_pos hl,if_pos (by omega)]
    · rw[if_neg hl,if_neg (by omega)]
theorem dYN{r c:Nat}(hc:c<X):dY X (r*X+c:Nat) 0=(64*(2*r*(2*X)+2*c):Nat)∧dY X (r*X+c:Nat) 1=(64*(2*r*(2*X)+(2*c+1)):Nat)∧dY X (r*X+c:Nat) 2=(64*((2*r+1)*(2*X)+2*c):Nat)∧dY X (r*X+c:Nat) 3=(64*((2*r+1)*(2*X)+(2*c+1)):Nat)∧dC X (r*X+c:Nat)=(64*(r*X+c):Nat):=by
  obtain ⟨a,b⟩:=jo3 (R:=r) hc
  have ea:((r*X+c:Nat):Int)/(X:Int)=(r:Int):=by rw[←Int.natCast_ediv,a]
  have eb:((r*X+c:Nat):Int) % (X:Int)=(c:Int):=by rw[←Int.natCast_emod,b]
  unfold dY dC
  rw[ea,eb]
  simp only[show (0:Int)/2=0 from rfl,show (1:Int)/2=0 from rfl,show (2:Int)/2=1 from rfl,show (3:Int)/2=1 from rfl,show (0:Int) % 2=0 from rfl,show (1:Int) % 2=1 from rfl,show (2:Int) % 2=0 from rfl,show (3:Int) % 2=1 from rfl,Int.add_zero,Int.natCast_mul,Int.natCast_add,Int.mul_comm (r:Int) 2,Int.mul_comm (c:Int) 2,Int.mul_comm (X:Int) 2]
  exact ⟨rfl,rfl,rfl,rfl,rfl⟩
end
end
end Go.Proofs.YtljjbikbfeigdaaGreatDoor
