/- Part of the proof of FnColorStreamCardSaid: Contracts of the specification's reader shown: a whole stream. -/
import Derived.Test.YtljjbikbfeigdaaGreatDoorCo31
set_option linter.all false
namespace Go.Proofs.YtljjbikbfeigdaaGreatDoor
noncomputable section
open Go
theorem ja4{f:FuncId}{l:List (Int×Hg)}{d:Hg}(hl: ∀x∈l,Cf Tryz.prog Z f x.2)(hd:Cf Tryz.prog Z f d):Ei Tryz.prog Z f (jim l d):=by
  intro ρ w0 w h args r hs
  unfold jim at hs
  split at hs
  · split at hs
    · split at hs
      · rename_i x hx
        exact Dq (hl x (List.mem_of_find?_eq_some hx)) ρ w0 w h args r hs
      · exact Dq hd ρ w0 w h args r hs
    · exact Dq hd ρ w0 w h args r hs
  · exact Dq hd ρ w0 w h args r hs
theorem Dl{D:List Int}{s n:Nat}{i:Int}(h0:0≤i)(h1:i<n):Bg ((D.drop s).take n) i=Bg D (s+i):=by
  unfold Bg
  rw[List.getD_eq_getElem?_getD,List.getElem?_take,if_pos (by omega),List.getElem?_drop,List.getD_eq_getElem?_getD]
  congr 2;omega
theorem Dm{D l:List Int}{s n:Nat}(h:Cs D s n=l){i:Int}(h0:0≤i)(h1:i<n):Bg D (s+i)=Bg l i:=by
  rw[←h];exact (Dl h0 h1).symm
theorem jss{l m:List Int}(hl:l.length=m.length)(h: ∀i:Nat,i<l.length→Bg l i=Bg m i):l=m:=by
  apply List.ext_getElem hl
  intro i h1 h2
  have:=h i h1
  unfold Bg at this
  rw[List.getD_eq_getElem?_getD,List.getD_eq_getElem?_getD,Int.toNat_natCast,List.getElem?_eq_getElem h1,List.getElem?_eq_getElem h2] at this
  exact this
theorem j0l{l:List Int}{m:Nat}{x n:Int}(hm:m<l.length)(h0:0≤n):Bg (l.set m x) n=if n=m then x else Bg l n:=by
  unfold Bg
  rw[List.getD_eq_getElem?_getD,List.getElem?_set,List.getD_eq_getElem?_getD]
  by_cases h:n=m
  · rw[if_pos h,if_pos (by omega),if_pos (by omega)];rfl
  · rw[if_neg h,if_neg (by omega)]
theorem Mn{j:Nat}{b:List Int}: ∀(k:Nat) {q:List Int} {i:Int},0≤i→64*j+k≤q.length→Bg (Lw j b k q) i=if 64*j≤i∧i<64*j+k then Bg b (65*j+1+(i-64*j)) else Bg q i
  | 0,q,i,h0,_=>by rw[if_neg (by omega)];rfl
  | k+1,q,i,h0,hl=>by
    rw[Lw,j0l (by rw[Kt];omega) h0,Mn k h0 (by omega)]
    by_cases hi:i=(64*j+k:Nat)
    · rw[if_pos hi,if_pos (by omega)];congr 1;omega
    · rw[if_neg hi]
      by_cases h2:64*j≤i∧i<64*j+k
      · rw[if_pos h2,if_pos (by omega)]
      · rw[if_neg h2,if_neg (by omega)]
theorem jc9{D:List Int}{q:List Int}(hq:q.length=256)(hD:136≤D.length):(Lw 1 ((D.drop 6).take 130) 64 (Lw 0 ((D.drop 6).take 130) 64 q)).take 64=Cs D 7 64:=by
  apply jss
  · simp[Kt,Cs];omega
  · intro i hi
    have hi64:i<64:=by simp at hi;omega
    have e1: ∀l:List Int,Bg (l.take 64) (i:Int)=Bg l (i:Int):=by
      intro l
      have:=Dl (D:=l) (s:=0) (n:=64) (i:=(i:Int)) (by omega) (by omega)
      rw[List.drop_zero] at this
      rw[this];congr 1;omega
    rw[e1,Mn 64 (by omega) (by rw[Kt];omega),if_neg (by omega),Mn 64 (by omega) (by omega),if_pos (by omega),Dl (by omega) (by omega)]
    unfold Cs
    rw[Dl (by omega) (by omega)]
    congr 1;omega
theorem Lv{lo hi:Int}{l:List Int}(h:Bn lo hi l=true)(s n:Nat):Bn lo hi ((l.drop s).take n)=true:=by
  unfold Bn at*
  rw[List.all_eq_true] at*
  exact fun x hx=>h x (List.mem_of_mem_drop (List.mem_of_mem_take hx))
theorem Zv{lo hi lo2:Int}{l:List Int}(h:Bn lo hi l=true)(h2:(l.all fun x=>decide (lo2≤x))=true):Bn lo2 hi l=true:=by
  unfold Bn at*
  rw[List.all_eq_true] at*
  intro x hx
  have a:=h x hx
  have b:=h2 x hx
  simp only[Bool.and_eq_true,decide_eq_true_eq] at*
  exact ⟨b,a.2⟩
theorem jnh(D:List Int):Z.fi 431 0 0 0 0 D [] [] []=wdD D:=id rfl
theorem jmj(D:List Int):Z.fi 432 0 0 0 0 D [] [] []=hgD D:=id rfl
theorem jhe(D:List Int):Z.fa 434 0 0 0 0 D [] [] []=Cs D 7 64:=id rfl
theorem jkr{D:List Int}: ∀(n:Nat) {a u:Int},0≤a→0≤Mp D n a u
  | 0,_,_,h=>h
  | n+1,_,_,h=>jkr n (Kz h)
theorem jdd{D:List Int}{r s m n:Nat}(h:s+n≤m):List.take n (List.drop s (List.take m (List.drop r D)))=Cs D (r+s) n:=by
  unfold Cs
  rw[List.drop_take,List.take_take,List.drop_drop,Nat.min_eq_left (by omega)]
theorem Vw{n:Int}(h:0≤n):((Cr n).length:Int)=64*n:=by simp[Cr];omega
theorem hS4:Cb (List.replicate 64 (0:Int)) ((64:Nat):Int).toNat (Cb (List.replicate 64 0) ((64:Nat):Int).toNat (Cb (List.replicate 64 0) ((64:Nat):Int).toNat (List.replicate 64 0)))=List.replicate 256 0:=by decide+kernel
theorem hS3:Cb (List.replicate 64 (0:Int)) ((64:Nat):Int).toNat (Cb (List.replicate 64 0) ((64:Nat):Int).toNat (List.replicate 64 0))=List.replicate 192 0:=by decide+kernel
theorem hql:(List.replicate 64 (0:Int)++(List.replicate 64 0++(List.replicate 64 0++List.replicate 64 0))).length=256:=by rw[List.length_append,List.length_append,List.length_append,List.length_replicate]
end
end Go.Proofs.YtljjbikbfeigdaaGreatDoor
