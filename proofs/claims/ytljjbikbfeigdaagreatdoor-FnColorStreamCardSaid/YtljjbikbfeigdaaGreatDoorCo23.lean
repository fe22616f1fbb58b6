/- Part of the proof of FnColorStreamCardSaid: Contracts of the specification's reader shown: the segments with the Huffman tables. -/
import Derived.Test.YtljjbikbfeigdaaGreatDoorCo22
set_option linter.all false
namespace Go.Proofs.YtljjbikbfeigdaaGreatDoor
noncomputable section
open Go
theorem Mx(h:Nat){k:Int}(h0:0≤k)(h1:k<(At h).length):Hj h (k+1).toNat=(Hj h k.toNat).set (Bg (At h) k).toNat 1:=by
  unfold Hj
  have hk:k.toNat<(At h).length:=by omega
  rw[show (k+1).toNat=k.toNat+1 from by omega,List.take_add_one,List.getElem?_eq_getElem hk,List.foldl_append]
  simp only[Option.toList_some,List.foldl_cons,List.foldl_nil]
  congr 2
  unfold Bg
  rw[List.getD_eq_getElem?_getD,List.getElem?_eq_getElem hk];rfl
theorem Hu(l:List Int){k:Int}(h0:0≤k)(h1:k<l.length):l.take (k+1).toNat=l.take k.toNat++ [Bg l k]:=by
  have hk:k.toNat<l.length:=by omega
  rw[show (k+1).toNat=k.toNat+1 from by omega,List.take_add_one,List.getElem?_eq_getElem hk]
  unfold Bg
  rw[List.getD_eq_getElem?_getD,List.getElem?_eq_getElem hk];rfl
theorem jjf{x:Int}(h0:0≤x)(h1:x≤255):Dj .and .u8 x 15=x % 16:=by
  have key: ∀a:Fin 256,Dj .and .u8 ((a.val:Nat):Int) 15=((a.val:Nat):Int) % 16:=by decide+kernel
  obtain ⟨a,rfl⟩:=Int.eq_ofNat_of_zero_le h0
  exact key ⟨a,by omega⟩
theorem j7e(x y:Int):Z.fa 413 x y 0 0 [] [] [] []=Hj x.toNat y.toNat:=id rfl
theorem Om:((At 0).length:Int)=12:=rfl
theorem Oo:((At 1).length:Int)=162:=by rw[show (At 1).length=162 by kernel_rfl];rfl
end
end Go.Proofs.YtljjbikbfeigdaaGreatDoor
