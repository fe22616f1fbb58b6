/- Part of the proof of FnColorEdgesCardSaid: Terms over integers, truth values and lists of integers, and what they denote: the language in which the walks of this claim are reckoned. No program stands here. -/
import Derived.WalkKit
import Derived.KernelRfl
import Derived.Deep.Draws
set_option linter.all false
namespace Go.Proofs.YtljjbikbfeigdaaGreatDoor
noncomputable section
open Go
inductive T where
  | lit (n:Int)|tt|ff
  | iv (n:Nat)|bv (n:Nat)|av (n:Nat)
  | add (a b:T)|sub (a b:T)|mul (a b:T)
  | wrap (k:IntKind) (a:T)
  | tdiv (a b:T)|tmod (a b:T)
  | shl (k:IntKind) (a n:T)|shr (k:IntKind) (a n:T)
  | bits (o:BinOp) (k:IntKind) (a b:T)
  | mx (a b:T)|mn (a b:T)
  | eq (a b:T)|lt (a b:T)|le (a b:T)
  | beq (a b:T)|not (a:T)|and (a b:T)|or (a b:T)
  | ite (c a b:T)|bite (c a b:T)
  | len (a:T)|get (a i:T)
  | set (a i v:T)|rep (n v:T)|cut (a s n:T)|alit (l:List Int)
  | splice (a s b:T)
  | aeq (a b:T)
  | fi (f:Nat) (x y z u a b c d:T)|fb (f:Nat) (x y z u a b c d:T)|fa (f:Nat) (x y z u a b c d:T)
  deriving DecidableEq,Inhabited,Repr
structure Hw where
  fi:Nat→Int→Int→Int→Int→List Int→List Int→List Int→List Int→Int
  fb:Nat→Int→Int→Int→Int→List Int→List Int→List Int→List Int→Bool
  fa:Nat→Int→Int→Int→Int→List Int→List Int→List Int→List Int→List Int
structure Et where
  i:Nat→Int:=fun _=>0
  b:Nat→Bool:=fun _=>false
  a:Nat→List Int:=fun _=>[]
  v:Nat→Value:=fun _=>undef
  j:Nat→Value:=fun _=>undef
  blk:Nat→Nat:=fun _=>0
  off:Nat→Nat:=fun _=>0
  vs:Nat→List Value:=fun _=>[]
  nb:Nat→Nat:=fun k=>k
  loose:List Nat:=[]
def Dj(o:BinOp)(k:IntKind)(x y:Int):Int:=
  let a:=BitVec.ofInt k.bits x
  let b:=BitVec.ofInt k.bits y
  match o with
  | .and=>k.wrap (a&&&b).toNat
  | .or=>k.wrap (a|||b).toNat
  | .xor=>k.wrap (a^^^b).toNat
  | .andNot=>k.wrap (a&&& ~~~b).toNat
  | _=>0
def imx(x y:Int):Int:=if y>x then y else x
def Tu(x y:Int):Int:=if y<x then y else x
def ieq(x y:Int):Bool:=decide (x=y)
def ilt(x y:Int):Bool:=decide (x<y)
def ile(x y:Int):Bool:=decide (x≤y)
def leq(x y:List Int):Bool:=decide (x=y)
def Cb(l:List Int)(s:Nat)(m:List Int):List Int:=l.take s++(m++l.drop (s+m.length))
section
variable (S:Hw) (ρ:Et)
mutual
def T.I:T→Int
  | .lit n=>n
  | .iv n=>ρ.i n
  | .add a b=>a.I+b.I
  | .sub a b=>a.I-b.I
  | .mul a b=>a.I*b.I
  | .wrap k a=>k.wrap a.I
  | .tdiv a b=>a.I.tdiv b.I
  | .tmod a b=>a.I.tmod b.I
  | .shl k a n=>a.I*2^(Min.min n.I.toNat k.bits)
  | .shr k a n=>a.I.fdiv (2^(Min.min n.I.toNat k.bits))
  | .bits o k a b=>Dj o k a.I b.I
  | .mx a b=>imx a.I b.I
  | .mn a b=>Tu a.I b.I
  | .ite c a b=>cond c.B a.I b.I
  | .len a=>(a.A.length:Int)
  | .get a i=>a.A.getD i.I.toNat 0
  | .fi f x y z u a b c d=>S.fi f x.I y.I z.I u.I a.A b.A c.A d.A
  | _=>0
def T.B:T→Bool
  | .tt=>true
  | .bv n=>ρ.b n
  | .eq a b=>ieq a.I b.I
  | .lt a b=>ilt a.I b.I
  | .le a b=>ile a.I b.I
  | .beq a b=>a.B==b.B
  | .not a=> !a.B
  | .and a b=>a.B&&b.B
  | .or a b=>a.B||b.B
  | .bite c a b=>cond c.B a.B b.B
  | .aeq a b=>leq a.A b.A
  | .fb f x y z u a b c d=>S.fb f x.I y.I z.I u.I a.A b.A c.A d.A
  | _=>false
def T.A:T→List Int
  | .av n=>ρ.a n
  | .set a i v=>a.A.set i.I.toNat v.I
  | .rep n v=>List.replicate n.I.toNat v.I
  | .cut a s n=>(a.A.drop s.I.toNat).take n.I.toNat
  | .alit l=>l
  | .splice a s b=>Cb a.A s.I.toNat b.A
  | .fa f x y z u a b c d=>S.fa f x.I y.I z.I u.I a.A b.A c.A d.A
  | _=>[]
end
end
inductive V where
  | lit (n:Int)|tt|ff|other
inductive VA where
  | alit (l:List Int)|rep (n v:T)|other
noncomputable def T.view (t:T):V:=T.rec (motive:=fun _=>V) (fun n=>.lit n) .tt .ff (fun _=>.other) (fun _=>.other) (fun _=>.other) (fun _ _ _ _=>.other) (fun _ _ _ _=>.other) (fun _ _ _ _=>.other) (fun _ _ _=>.other) (fun _ _ _ _=>.other) (fun _ _ _ _=>.other) (fun _ _ _ _ _=>.other) (fun _ _ _ _ _=>.other) (fun _ _ _ _ _ _=>.other) (fun _ _ _ _=>.other) (fun _ _ _ _=>.other) (fun _ _ _ _=>.other) (fun _ _ _ _=>.other) (fun _ _ _ _=>.other) (fun _ _ _ _=>.other) (fun _ _=>.other) (fun _ _ _ _=>.other) (fun _ _ _ _=>.other) (fun _ _ _ _ _ _=>.other) (fun _ _ _ _ _ _=>.other) (fun _ _=>.other) (fun _ _ _ _=>.other) (fun _ _ _ _ _ _=>.other) (fun _ _ _ _=>.other) (fun _ _ _ _ _ _=>.other) (fun _=>.other) (fun _ _ _ _ _ _=>.other) (fun _ _ _ _=>.other) (fun _ _ _ _ _ _ _ _ _ _ _ _ _ _ _ _ _=>.other) (fun _ _ _ _ _ _ _ _ _ _ _ _ _ _ _ _ _=>.other) (fun _ _ _ _ _ _ _ _ _ _ _ _ _ _ _ _ _=>.other) t
noncomputable def T.viewA (t:T):VA:=T.rec (motive:=fun _=>VA) (fun _=>.other) .other .other (fun _=>.other) (fun _=>.other) (fun _=>.other) (fun _ _ _ _=>.other) (fun _ _ _ _=>.other) (fun _ _ _ _=>.other) (fun _ _ _=>.other) (fun _ _ _ _=>.other) (fun _ _ _ _=>.other) (fun _ _ _ _ _=>.other) (fun _ _ _ _ _=>.other) (fun _ _ _ _ _ _=>.other) (fun _ _ _ _=>.other) (fun _ _ _ _=>.other) (fun _ _ _ _=>.other) (fun _ _ _ _=>.other) (fun _ _ _ _=>.other) (fun _ _ _ _=>.other) (fun _ _=>.other) (fun _ _ _ _=>.other) (fun _ _ _ _=>.other) (fun _ _ _ _ _ _=>.other) (fun _ _ _ _ _ _=>.other) (fun _ _=>.other) (fun _ _ _ _=>.other) (fun _ _ _ _ _ _=>.other) (fun n v _ _=>.rep n v) (fun _ _ _ _ _ _=>.other) (fun l=>.alit l) (fun _ _ _ _ _ _=>.other) (fun _ _ _ _=>.other) (fun _ _ _ _ _ _ _ _ _ _ _ _ _ _ _ _ _=>.other) (fun _ _ _ _ _ _ _ _ _ _ _ _ _ _ _ _ _=>.other) (fun _ _ _ _ _ _ _ _ _ _ _ _ _ _ _ _ _=>.other) t
theorem Cy{t:T}{n:Int}(h:t.view=.lit n):t=.lit n:=by
  cases t<;>first|(injection h with h;subst h;rfl)|cases h
theorem Pz{t:T}(h:t.view=.tt):t=.tt:=by
  cases t<;>first|rfl|cases h
theorem Sc{t:T}(h:t.view=.ff):t=.ff:=by
  cases t<;>first|rfl|cases h
theorem Pd{t:T}{l:List Int}(h:t.viewA=.alit l):t=.alit l:=by
  cases t<;>first|(injection h with h;subst h;rfl)|cases h
theorem jv6{t n v:T}(h:t.viewA=.rep n v):t=.rep n v:=by
  cases t<;>first|(injection h with h1 h2;subst h1 h2;rfl)|cases h
def T.isZ(t:T):Bool:=match t.view with|.lit (.ofNat 0)=>true|_=>false
def T.isTT(t:T):Bool:=match t.view with|.tt=>true|_=>false
theorem Qr{t:T}:t.isZ=true↔t=.lit 0:=by
  unfold T.isZ
  constructor
  · intro h
    split at h
    · rename_i hv;exact Cy hv
    · cases h
  · intro h;subst h;rfl
theorem j3w{t:T}(h:t.isTT=true):t=.tt:=by
  unfold T.isTT at h
  split at h
  · rename_i hv;exact Pz hv
  · cases h
def Ej(a b:T):T:=match a.view,b.view with
  | .lit x,.lit y=>.lit (x+y)
  | .lit (.ofNat 0),_=>b
  | _,.lit (.ofNat 0)=>a
  | _,_=>.add a b
def Tk(a b:T):T:=match a.view,b.view with
  | .lit x,.lit y=>.lit (x-y)
  | _,.lit (.ofNat 0)=>a
  | _,_=>.sub a b
def Tj(a b:T):T:=match a.view,b.view with
  | .lit x,.lit y=>.lit (x*y)
  | _,.lit (.ofNat 1)=>a
  | _,_=>.mul a b
def jpe(k:IntKind)(a:T):T:=match a.view with
  | .lit x=>.lit (k.wrap x)
  | _=>.wrap k a
def jq6(a b:T):T:=match a.view,b.view with
  | .lit x,.lit y=>.lit (x.tdiv y)
  | _,_=>.tdiv a b
def jqz(a b:T):T:=match a.view,b.view with
  | .lit x,.lit y=>.lit (x.tmod y)
  | _,_=>.tmod a b
def jx1(k:IntKind)(a b:T):T:=match a.view,b.view with
  | .lit x,.lit y=>.lit (x*2^(Min.min y.toNat k.bits))
  | _,.lit y=>.mul a (.lit (2^(Min.min y.toNat k.bits)))
  | _,_=>.shl k a b
def jyl(k:IntKind)(a b:T):T:=match a.view,b.view with
  | .lit x,.lit y=>.lit (x.fdiv (2^(Min.min y.toNat k.bits)))
  | _,_=>.shr k a b
def jli(o:BinOp)(k:IntKind)(a b:T):T:=match a.view,b.view with
  | .lit x,.lit y=>.lit (Dj o k x y)
  | _,_=>.bits o k a b
def Xt(b:Bool):T:=if b then .tt else .ff
def jkp(a b:T):T:=match a.view,b.view with
  | .lit x,.lit y=>Xt (decide (x=y))
  | _,_=>.eq a b
def jd5(a b:T):T:=match a.view,b.view with
  | .lit x,.lit y=>Xt (decide (x<y))
  | _,_=>.lt a b
def Ek(a b:T):T:=match a.view,b.view with
  | .lit x,.lit y=>Xt (decide (x≤y))
  | _,_=>.le a b
def Xi(a:T):T:=match a.view with
  | .tt=>.ff
  | .ff=>.tt
  | _=>.not a
def jmr(a b:T):T:=match a.view,b.view with
  | .tt,_=>b
  | _,.tt=>a
  | .ff,_=>Xi b
  | _,.ff=>Xi a
  | _,_=>.beq a b
def jop(c a b:T):T:=match c.view with
  | .tt=>a
  | .ff=>b
  | _=>.ite c a b
def jjn(c a b:T):T:=match c.view,a.view,b.view with
  | .tt,_,_=>a
  | .ff,_,_=>b
  | _,.tt,.ff=>c
  | _,_,.ff=>.and c a
  | _,.tt,_=>.or c b
  | _,_,_=>.bite c a b
def qay(a b:T):T:=match a.view,b.view with
  | .lit x,.lit y=>.lit (if y>x then y else x)
  | _,_=>.mx a b
def jko(a b:T):T:=match a.view,b.view with
  | .lit x,.lit y=>.lit (if y<x then y else x)
  | _,_=>.mn a b
def Zf(a i:T):T:=match a.viewA,i.view with
  | .alit l,.lit x=>.lit (l.getD x.toNat 0)
  | .rep _ v,_=>match v.view with
    | .lit (.ofNat 0)=>.lit 0
    | _=>.get a i
  | _,_=>.get a i
section
variable {S:Hw} {ρ:Et}
theorem Dg(a b:T):(Ej a b).I S ρ=a.I S ρ+b.I S ρ:=by
  unfold Ej;split
  · rename_i h1 h2;rw[Cy h1,Cy h2];simp[T.I]
  · rw[Cy (t:=a) (by assumption)];simp[T.I]
  · rw[Cy (t:=b) (by assumption)];simp[T.I]
  · simp[T.I]
theorem jdy(a b:T):(Tk a b).I S ρ=a.I S ρ-b.I S ρ:=by
  unfold Tk;split
  · rename_i h1 h2;rw[Cy h1,Cy h2];simp[T.I]
  · rw[Cy (t:=b) (by assumption)];simp[T.I]
  · simp[T.I]
theorem Qu(a b:T):(Tj a b).I S ρ=a.I S ρ*b.I S ρ:=by
  unfold Tj;split
  · rename_i h1 h2;rw[Cy h1,Cy h2];simp[T.I]
  · rw[Cy (t:=b) (by assumption)];simp[T.I]
  · simp[T.I]
theorem j15(k:IntKind)(a:T):(jpe k a).I S ρ=k.wrap (a.I S ρ):=by
  unfold jpe;split
  · rename_i h1;rw[Cy h1];simp[T.I]
  · simp[T.I]
theorem jwm(a b:T):(jq6 a b).I S ρ=(a.I S ρ).tdiv (b.I S ρ):=by
  unfold jq6;split
  · rename_i h1 h2;rw[Cy h1,Cy h2];simp[T.I]
  · simp[T.I]
theorem jyv(a b:T):(jqz a b).I S ρ=(a.I S ρ).tmod (b.I S ρ):=by
  unfold jqz;split
  · rename_i h1 h2;rw[Cy h1,Cy h2];simp[T.I]
  · simp[T.I]
theorem j6g(k:IntKind)(a b:T):(jx1 k a b).I S ρ=a.I S ρ*2^(Min.min (b.I S ρ).toNat k.bits):=by
  unfold jx1;split
  · rename_i h1 h2;rw[Cy h1,Cy h2];simp[T.I]
  · rw[Cy (t:=b) (by assumption)];simp[T.I]
  · simp[T.I]
theorem j63(k:IntKind)(a b:T):(jyl k a b).I S ρ=(a.I S ρ).fdiv (2^(Min.min (b.I S ρ).toNat k.bits)):=by
  unfold jyl;split
  · rename_i h1 h2;rw[Cy h1,Cy h2];simp[T.I]
  · simp[T.I]
theorem Tz(o:BinOp)(k:IntKind)(a b:T):(jli o k a b).I S ρ=Dj o k (a.I S ρ) (b.I S ρ):=by
  unfold jli;split
  · rename_i h1 h2;rw[Cy h1,Cy h2];simp[T.I]
  · simp[T.I]
theorem Vo(b:Bool):(Xt b).B S ρ=b:=by cases b<;>simp[Xt,T.B]
theorem Zc(a b:T):(jkp a b).B S ρ=decide (a.I S ρ=b.I S ρ):=by
  unfold jkp;split
  · rename_i h1 h2;rw[Cy h1,Cy h2];simp only[T.I,Vo];exact decide_eq_decide.2 Iff.rfl
  · simp only[T.B];rfl
theorem jgq(a b:T):(jd5 a b).B S ρ=decide (a.I S ρ<b.I S ρ):=by
  unfold jd5;split
  · rename_i h1 h2;rw[Cy h1,Cy h2];simp only[T.I,Vo];exact decide_eq_decide.2 Iff.rfl
  · simp only[T.B];rfl
theorem Sh(a b:T):(Ek a b).B S ρ=decide (a.I S ρ≤b.I S ρ):=by
  unfold Ek;split
  · rename_i h1 h2;rw[Cy h1,Cy h2];simp only[T.I,Vo];exact decide_eq_decide.2 Iff.rfl
  · simp only[T.B];rfl
theorem Qe(a:T):(Xi a).B S ρ= !(a.B S ρ):=by
  unfold Xi;split
  · rename_i h1;rw[Pz h1];simp[T.B]
  · rename_i h1;rw[Sc h1];simp[T.B]
  · simp[T.B]
theorem jl9(a b:T):(jmr a b).B S ρ=(a.B S ρ==b.B S ρ):=by
  unfold jmr;split
  · rw[Pz (t:=a) (by assumption)];simp[T.B]
  · rw[Pz (t:=b) (by assumption)];simp[T.B]
  · rw[Sc (t:=a) (by assumption)];simp[T.B,Qe]
  · rw[Sc (t:=b) (by assumption)];simp[T.B,Qe]
  · simp[T.B]
theorem jk6(c a b:T):(jop c a b).I S ρ=if c.B S ρ then a.I S ρ else b.I S ρ:=by
  unfold jop;split
  · rename_i h1;rw[Pz h1];simp[T.B]
  · rename_i h1;rw[Sc h1];simp[T.B]
  · simp[T.I]
theorem jof(c a b:T):(jjn c a b).B S ρ=if c.B S ρ then a.B S ρ else b.B S ρ:=by
  unfold jjn;split
  · rw[Pz (t:=c) (by assumption)];simp[T.B]
  · rw[Sc (t:=c) (by assumption)];simp[T.B]
  · rw[Pz (t:=a) (by assumption),Sc (t:=b) (by assumption)];simp[T.B]
  · rw[Sc (t:=b) (by assumption)];simp only[T.B];cases c.B S ρ<;>simp
  · rw[Pz (t:=a) (by assumption)];simp only[T.B];cases c.B S ρ<;>simp
  · simp[T.B]
theorem j8y(a b:T):(qay a b).I S ρ=if b.I S ρ>a.I S ρ then b.I S ρ else a.I S ρ:=by
  unfold qay;split
  · rename_i x y h1 h2;rw[Cy h1,Cy h2];simp only[T.I];first|rfl|(rcases Int.lt_trichotomy x y with hq|hq|hq<;>(repeat' split)<;>omega)
  · simp only[T.I];rfl
theorem jqy(a b:T):(jko a b).I S ρ=if b.I S ρ<a.I S ρ then b.I S ρ else a.I S ρ:=by
  unfold jko;split
  · rename_i x y h1 h2;rw[Cy h1,Cy h2];simp only[T.I];first|rfl|(rcases Int.lt_trichotomy x y with hq|hq|hq<;>(repeat' split)<;>omega)
  · simp only[T.I];rfl
theorem jvd(n i:Nat):(List.replicate n (0:Int)).getD i 0=0:=by
  simp only[List.getD_eq_getElem?_getD,List.getElem?_replicate];split<;>rfl
theorem Sv(a i:T):(Zf a i).I S ρ=(a.A S ρ).getD (i.I S ρ).toNat 0:=by
  unfold Zf;split
  · rename_i h1 h2;rw[Pd h1,Cy h2];simp[T.I,T.A]
  · rename_i h1
    split
    · rename_i h2
      rw[jv6 h1,Cy h2]
      simp only[T.I,T.A]
      exact (jvd _ _).symm
    · simp[T.I]
  · simp[T.I]
end
section
variable {S:Hw} {ρ:Et} {a b c:T}
theorem Bo:(T.B S ρ (.le a b)=true)↔a.I S ρ≤b.I S ρ:=by simp only[T.B];exact decide_eq_true_iff
theorem Bq:(T.B S ρ (.lt a b)=true)↔a.I S ρ<b.I S ρ:=by simp only[T.B];exact decide_eq_true_iff
theorem Bs:(T.B S ρ (.eq a b)=true)↔a.I S ρ=b.I S ρ:=by simp only[T.B];exact decide_eq_true_iff
theorem Az:(T.B S ρ (.aeq a b)=true)↔a.A S ρ=b.A S ρ:=by simp only[T.B];exact decide_eq_true_iff
theorem Ca:(T.B S ρ (.le a b)=false)↔b.I S ρ<a.I S ρ:=by simp only[T.B];exact decide_eq_false_iff_not.trans Int.not_le
theorem Bz:(T.B S ρ (.lt a b)=false)↔b.I S ρ≤a.I S ρ:=by simp only[T.B];exact decide_eq_false_iff_not.trans Int.not_lt
theorem Bu:(T.B S ρ (.eq a b)=false)↔ ¬a.I S ρ=b.I S ρ:=by simp only[T.B];exact decide_eq_false_iff_not
theorem Bc:(T.B S ρ (.aeq a b)=false)↔ ¬a.A S ρ=b.A S ρ:=by simp only[T.B];exact decide_eq_false_iff_not
theorem Bb:(T.B S ρ (.not a)=true)↔T.B S ρ a=false:=by simp only[T.B];simp
theorem Be:(T.B S ρ (.not a)=false)↔T.B S ρ a=true:=by simp only[T.B];simp
theorem Ba:(T.B S ρ (.and a b)=true)↔T.B S ρ a=true∧T.B S ρ b=true:=by simp only[T.B];simp
theorem Bv:(T.B S ρ (.or a b)=true)↔T.B S ρ a=true∨T.B S ρ b=true:=by simp only[T.B];simp
theorem Ay:(T.B S ρ (.and a b)=false)↔T.B S ρ a=false∨T.B S ρ b=false:=by simp only[T.B];cases T.B S ρ a<;>simp
theorem Bt:(T.B S ρ (.or a b)=false)↔T.B S ρ a=false∧T.B S ρ b=false:=by simp only[T.B];simp
theorem Br:(T.B S ρ .tt=true)↔True:=by simp[T.B]
theorem Bw:(T.B S ρ .ff=true)↔False:=by simp[T.B]
theorem Bx:(T.B S ρ .tt=false)↔False:=by simp[T.B]
theorem By:(T.B S ρ .ff=false)↔True:=by simp[T.B]
end
inductive Cl where
  | old (n:Nat)|new (k:Nat)|glob (g:Nat)|ro (n:Nat)|own (n:Nat)
  deriving DecidableEq,Inhabited,Repr
inductive Aw where
  | int (k:IntKind) (t:T)|bool (t:T)
  | ptr (r:Cl) (s:Nat) (d:T)
  | sl (r:Cl) (s:Nat) (d len cap:T)
  | nilp|nils|nilI
  | str (l:List UInt8)
  | fn (f:Nat)
  | iface (t:Nat) (x:Aw)
  | undef|junk (n:Nat)|val (n:Nat)
  deriving DecidableEq,Inhabited,Repr
inductive Cp where
  | cells (l:List Aw)
  | arr (k:IntKind) (a:T) (n:Nat)
  | arrD (k:IntKind) (a:T)
  | bar (a:T) (n:Nat)
  | junk (n:Nat)
  | tail (z:List Aw) (n:T)
  deriving DecidableEq,Inhabited,Repr
inductive SV where
  | one (l:Aw)|agg (s:List Cp)
  deriving DecidableEq,Inhabited,Repr
inductive SR where
  | v (x:SV)|tup (xs:List SV)|ite (c:T) (x y:SR)
  deriving DecidableEq,Inhabited,Repr
structure Gn where
  ty:Nat
  segs:List Cp
  deriving DecidableEq,Inhabited,Repr
structure OW where
  v:Nat
  e:Nat
  k:IntKind
  a:T
  deriving DecidableEq,Inhabited,Repr
structure Hp where
  rw:List (Cl×Gn)
  ro:List (Cl×IntKind×T):=[]
  na:Nat:=0
  nv:Nat:=0
  ow:Option OW:=none
  deriving DecidableEq,Inhabited,Repr
structure Sb where
  need:List T
  val:SR
  heap:Hp
  deriving DecidableEq,Inhabited,Repr
abbrev Ec:=List SR→Hp→Option Sb
def Cl.code:Cl→Nat
  | .old n=>5*n
  | .new n=>5*n+1
  | .glob n=>5*n+2
  | .ro n=>5*n+3
  | .own n=>5*n+4
theorem Cl.code_inj{q r:Cl}(h:Nat.beq q.code r.code=true):q=r:=by
  have h:=Nat.eq_of_beq_eq_true h
  cases q<;>cases r<;>simp only[Cl.code] at h<;>first|(congr 1;omega)|(exfalso;omega)
theorem Cl.code_ne{q r:Cl}(h: ¬Nat.beq q.code r.code=true):q≠r:=by
  intro e;subst e;exact h (Nat.beq_refl _)
def jlh(x:Int):Bool:= !(decide (x=0))
section
variable (S:Hw) (ρ:Et) (B:Nat)
def Cl.blk:Cl→Nat
  | .old n=>ρ.blk n
  | .new k=>B+ρ.nb k
  | .own n=>B+ρ.blk n
  | .glob g=>g
  | .ro n=>ρ.blk n
def Cl.off:Cl→Nat
  | .ro n=>ρ.off n
  | _=>0
def Cw(r:Cl)(s:Nat)(d:T):Addr:=⟨r.blk ρ B,r.off ρ+s+(d.I S ρ).toNat,none⟩
def Aw.den:Aw→Value
  | .int k t=>.int k (t.I S ρ)
  | .bool t=>.bool (t.B S ρ)
  | .ptr r s d=>.pointer (some (Cw S ρ B r s d))
  | .sl r s d l c=>.slice (some (Cw S ρ B r s d)) (l.I S ρ).toNat (c.I S ρ).toNat
  | .nilp=>.pointer none
  | .nils=>.slice none 0 0
  | .nilI=>.nilIface
  | .str l=>.string ⟨l.toArray⟩
  | .fn f=>.func (.func f) #[] #[]
  | .iface t x=>.iface t x.den
  | .undef=>Go.undef
  | .junk n=>ρ.j n
  | .val n=>ρ.v n
def Cp.den:Cp→List Value
  | .cells l=>l.map (Aw.den S ρ B)
  | .arr k a _=>(a.A S ρ).map (Value.int k)
  | .arrD k a=>(a.A S ρ).map (Value.int k)
  | .bar a _=>(a.A S ρ).map fun x=>Value.bool (jlh x)
  | .junk n=>ρ.vs n
  | .tail z n=>(List.replicate (n.I S ρ).toNat (z.map (Aw.den S ρ B))).flatten
def Av(l:List Cp):List Value:=l.flatMap (Cp.den S ρ B)
def SV.den:SV→Value
  | .one l=>l.den S ρ B
  | .agg s=>.agg (Av S ρ B s).toArray
def SR.den:SR→Value
  | .v x=>x.den S ρ B
  | .tup xs=>.tuple (xs.map (SV.den S ρ B)).toArray
  | .ite c x y=>if c.B S ρ then x.den else y.den
end
def Aw.plain:Aw→Bool
  | .undef|.junk _|.val _=>false
  | _=>true
def Cp.plain:Cp→Bool
  | .cells l=>l.all Aw.plain
  | .junk _=>false
  | .tail _ _=>false
  | _=>true
def SV.plain:SV→Bool
  | .one l=>l.plain
  | .agg s=>s.all Cp.plain
def Aw.sr(l:Aw):SR:=.v (.one l)
def Tq(k:IntKind)(t:T):SR:=.v (.one (.int k t))
def jgb(t:T):SR:=.v (.one (.bool t))
def Rb:Value→Option Aw
  | .int k n=>some (.int k (.lit n))
  | .bool b=>some (.bool (Xt b))
  | .string s=>some (.str s.data.toList)
  | .pointer none=>some .nilp
  | .slice none 0 0=>some .nils
  | .nilIface=>some .nilI
  | .func (.func f) a b=>if a.size=0∧b.size=0 then some (.fn f) else none
  | .tuple vs=>if vs.size=0 then some .undef else none
  | _=>none
def Do(fr:List SR)(t:Nat):SR:=fr.getD t (.v (.one .undef))
def Ua(fr:Nat→SR):Operand→Option SR
  | .tmp t=>some (fr t)
  | .const v=>(Rb v).map Aw.sr
  | .global g=>some (.v (.one (.ptr (.glob g) 0 (.lit 0))))
  | .func f=>some (.v (.one (.fn f)))
def Vy(fr:Nat→SR)(x:Operand):Option Aw:=
  match Ua fr x with
  | some (.v (.one l))=>some l
  | _=>none
def Er(fr:List SR)(dst:Option Tmp)(x:SR):List SR:=
  match dst with
  | some d=>fr.set d x
  | none=>fr
def needs(l:List T):List T:=l.filter (fun t=> !t.isTT)
section memory
def Jr:List (Cl×Gn)→Cl→Option Gn
  | [],_=>none
  | (q,b)::l,r=>if Nat.beq q.code r.code then some b else Jr l r
def Tp:List (Cl×Gn)→Cl→Gn→List (Cl×Gn)
  | [],_,_=>[]
  | (q,b)::l,r,c=>if Nat.beq q.code r.code then (q,c)::l else (q,b)::Tp l r c
def Na:List (Cl×IntKind×T)→Cl→Option (IntKind×T)
  | [],_=>none
  | (q,x)::l,r=>if Nat.beq q.code r.code then some x else Na l r
def Cp.size:Cp→Option Nat
  | .cells l=>some l.length
  | .arr _ _ n=>some n
  | .bar _ n=>some n
  | _=>none
def jor(a:T)(s n:Nat):T:=
  match a with
  | .alit l=>.alit ((l.drop s).take n)
  | .rep (.lit m) v=>if s+n≤m.toNat then .rep (.lit n) v else .cut a (.lit s) (.lit n)
  | _=>.cut a (.lit s) (.lit n)
def jh5:List Cp→Nat→Option (List Cp×Cp×Nat×List Cp)
  | [],_=>none
  | g::r,s=>
    match g.size with
    | some n=>if s<n then some ([],g,s,r) else
      match jh5 r (s-n) with
      | some (p,x,j,q)=>some (g::p,x,j,q)
      | none=>none
    | none=>some ([],g,s,r)
def Pv(i d:T)(n:T):List T:=needs [Ek (.lit 0) d,jd5 i n]
def Vj(segs:List Cp)(s:Nat)(d:T):Option (List T×Aw):=
  match jh5 segs s with
  | some (_,.cells l,j,_)=>if d.isZ then (l[j]?).map ([],·) else none
  | some (_,.arr k a n,j,_)=>let i:=Ej (.lit j) d;some (Pv i d (.lit n),.int k (Zf a i))
  | some (_,.arrD k a,j,_)=>let i:=Ej (.lit j) d;some (Pv i d (.len a),.int k (Zf a i))
  | some (_,.bar a n,j,_)=>let i:=Ej (.lit j) d;some (Pv i d (.lit n),.bool (Xi (jkp (Zf a i) (.lit 0))))
  | _=>none
def Dn:List Cp→List Cp
  | .cells a::r=>match Dn r with
    | .cells b::q=>.cells (a++b)::q
    | q=>.cells a::q
  | g::r=>g::Dn r
  | []=>[]
def j1i(a:T):Bool:=match a.viewA with|.other=>false|_=>true
def jv1(k:IntKind)(a:T)(s n:Nat):List Cp:=match n with|0=>[]|n+1=>[.arr k (jor a s (n+1)) (n+1)]
def jr6(g:List Cp):List Cp:=match g with
  | [.arrD k (.rep n v)]=>match n.view with
    | .lit (.ofNat m)=>[.arr k (.rep (.lit m) v) m]
    | _=>[.arrD k (.rep n v)]
  | g=>g
def Wk(segs:List Cp)(s:Nat)(d:T)(x:Aw):Option (List T×List Cp):=
  match jh5 segs s,x with
  | some (p,.cells l,j,q),x=>if d.isZ then some ([],p++ .cells (l.set j x)::q) else none
  | some (p,.arr k a n,j,q),.int k' t=>if k=k' then
      if (d.isZ).and (j1i a) then some ([],Dn (p++(jv1 k a 0 j++(.cells [.int k t]::(jv1 k a (j+1) (n-(j+1))++q)))))
      else let i:=Ej (.lit j) d;some (Pv i d (.lit n),p++ .arr k (.set a i t) n::q)
    else none
  | some (p,.arrD k a,j,q),.int k' t=>if k=k' then let i:=Ej (.lit j) d;some (Pv i d (.len a),p++ .arrD k (.set a i t)::q) else none
  | some (p,.bar a n,j,q),.bool t=>let i:=Ej (.lit j) d;some (Pv i d (.lit n),p++ .bar (.set a i (jop t (.lit 1) (.lit 0))) n::q)
  | _,_=>none
def Fd:List Cp→Nat→Option (List Cp×List Cp)
  | l,0=>some ([],l)
  | [],_+1=>none
  | g::r,n+1=>
    match g with
    | .cells l=>if l.length≤n+1 then (Fd r (n+1-l.length)).map fun (x,y)=>(g::x,y)
      else some ([.cells (l.take (n+1))],.cells (l.drop (n+1))::r)
    | .arr k a m=>if m≤n+1 then (Fd r (n+1-m)).map fun (x,y)=>(g::x,y)
      else some ([.arr k (jor a 0 (n+1)) (n+1)],.arr k (jor a (n+1) (m-(n+1))) (m-(n+1))::r)
    | _=>none
def Rm(segs:List Cp)(s:Nat)(d:T)(n:Nat):Option (List T×List Cp):=
  if d.isZ then
    match Fd segs s with
    | some (_,y)=>(Fd y n).map fun (x,_)=>([],x)
    | none=>none
  else
    match jh5 segs s with
    | some (_,.arr k a m,j,_)=>let i:=Ej (.lit j) d;some (needs [Ek (.lit 0) d,Ek (Ej i (.lit n)) (.lit m)],[.arr k (.cut a i (.lit n)) n])
    | some (_,.arrD k a,j,_)=>let i:=Ej (.lit j) d;some (needs [Ek (.lit 0) d,Ek (Ej i (.lit n)) (.len a)],[.arr k (.cut a i (.lit n)) n])
    | _=>none
def Nb(segs:List Cp)(s:Nat)(d:T)(n:Nat)(x:List Cp):Option (List T×List Cp):=
  if d.isZ then
    match Fd segs s with
    | some (p,y)=>(Fd y n).map fun (_,q)=>([],p++(x++q))
    | none=>none
  else
    match jh5 segs s,x with
    | some (p,.arr k a m,j,q),[.arr k' b n']=>if k=k'∧n'=n then let i:=Ej (.lit j) d;some (needs [Ek (.lit 0) d,Ek (Ej i (.lit n)) (.lit m)],p++ .arr k (.splice a i b) m::q) else none
    | some (p,.arrD k a,j,q),[.arr k' b n']=>if k=k'∧n'=n then let i:=Ej (.lit j) d;some (needs [Ek (.lit 0) d,Ek (Ej i (.lit n)) (.len a)],p++ .arrD k (.splice a i b)::q) else none
    | _,_=>none
def Rn:List Cp→Option Nat
  | []=>some 0
  | g::r=>match g.size,Rn r with
    | some a,some b=>some (a+b)
    | _,_=>none
end memory
section types
variable (P:Program)
def Vn(t:TypeId):Bool:=match P.underlying t with|some (.struct _)|some (.array _ _)=>true|_=>false
def Kf(t:TypeId):Option Nat:=(P.info? t).map (·.size)
def jky(t:TypeId)(f:Nat):Option Field:=match P.underlying t with|some (.struct fs)=>fs[f]? |_=>none
def jx4:Nat→TypeId→Option (List Cp)
  | 0,_=>none
  | n+1,t=>
    match P.underlying t with
    | some (.int k)=>some [.cells [.int k (.lit 0)]]
    | some .bool=>some [.cells [.bool .ff]]
    | some .string=>some [.cells [.str []]]
    | some (.pointer _)=>some [.cells [.nilp]]
    | some (.slice _)=>some [.cells [.nils]]
    | some (.interface _)=>some [.cells [.nilI]]
    | some (.array m e)=>
      match P.underlying e with
      | some (.int k)=>some [.arr k (.rep (.lit m) (.lit 0)) m]
      | some .bool=>some [.bar (.rep (.lit m) (.lit 0)) m]
      | _=>(jx4 n e).map fun l=>(List.replicate m l).flatten
    | some (.struct fs)=>fs.toList.foldr (fun f acc=>match jx4 n f.type,acc with|some a,some b=>some (a++b)|_,_=>none) (some [])
    | _=>none
def jsz:Cp→Option (List Aw)
  | .cells l=>some l
  | .arr k (.rep (.lit m) (.lit z)) n=>if m=n then some (List.replicate n (.int k (.lit z))) else none
  | .bar (.rep (.lit m) (.lit z)) n=>if m=n∧z=0 then some (List.replicate n (.bool .ff)) else none
  | _=>none
def Nm:List Cp→Option (List Aw)
  | []=>some []
  | g::r=>match jsz g,Nm r with
    | some a,some b=>some (a++b)
    | _,_=>none
def Vv:List Value→Option (List Aw)
  | []=>some []
  | v::r=>match Rb v,Vv r with
    | some a,some b=>some (a::b)
    | _,_=>none
def Zu(t:TypeId):Option (List Cp):=
  match jx4 P 12 t,(P.info? t).bind (·.zero) with
  | some g,some z=>
    match Nm (Dn g),Vv z.cells.toList with
    | some a,some b=>if a=b then some (Dn g) else none
    | _,_=>none
  | _,_=>none
def SV.segs:SV→List Cp
  | .one l=>[.cells [l]]
  | .agg s=>s
def jeo(place:Nat→Option (Nat×Nat)):List Cp→List (Nat×SR)→Option (List T×List Cp)
  | g,[]=>some ([],g)
  | g,(i,.v x)::r=>
    match place i,Rn x.segs with
    | some (off,size),some n=>
      if n=size∧x.plain=true then
        match Nb g off (.lit 0) n x.segs with
        | some (_,g')=>jeo place g' r
        | none=>none
      else none
    | _,_=>none
  | _,_=>none
def Si(k:IntKind):List Aw→Option (List Int)
  | []=>some []
  | .int k' (.lit n)::r=>if k=k' then (Si k r).map (n:: ·) else none
  | _=>none
def Uh:List Cp→List Cp
  | [.cells l]=>match l with
    | .int k _::_=>match Si k l with
      | some ns=>[.arr k (.alit ns) ns.length]
      | none=>[.cells l]
    | _=>[.cells l]
  | g=>g
end types
def j0t(k:IntKind)(s:T):List T×T:=
  match k with
  | .i64=>(needs [Ek (.lit (-9223372036854775808)) s,Ek s (.lit 9223372036854775807)],s)
  | _=>([],jpe k s)
def jh7(k:IntKind)(c:List T)(s:T):Option (List T×Aw):=some (c++(j0t k s).1,.int k (j0t k s).2)
def j4s(op:BinOp)(x y:Aw)(xc yc:Bool):Option (List T×Aw):=
  match op,x,y with
  | .shl,.int k a,.int _ b=>jh7 k (needs [Ek (.lit 0) b]) (jx1 k a b)
  | .shr,.int k a,.int _ b=>some (needs [Ek (.lit 0) b],.int k (jyl k a b))
  | op,.int k a,.int k' b=>
    if k≠k' then none else
    match op with
    | .add=>jh7 k [] (Ej a b)
    | .sub=>jh7 k [] (Tk a b)
    | .mul=>jh7 k [] (Tj a b)
    | .quo=>jh7 k (needs [Xi (jkp b (.lit 0))]) (jq6 a b)
    | .rem=>some (needs [Xi (jkp b (.lit 0))],.int k (jqz a b))
    | .and|.or|.xor|.andNot=>some ([],.int k (jli op k a b))
    | .eql=>some ([],.bool (jkp a b))
    | .neq=>some ([],.bool (Xi (jkp a b)))
    | .lss=>some ([],.bool (jd5 a b))
    | .leq=>some ([],.bool (Ek a b))
    | .gtr=>some ([],.bool (jd5 b a))
    | .geq=>some ([],.bool (Ek b a))
    | _=>none
  | .eql,.bool a,.bool b=>some ([],.bool (jmr a b))
  | .neq,.bool a,.bool b=>some ([],.bool (Xi (jmr a b)))
  | .eql,.nilI,.nilI=>if xc||yc then some ([],.bool .tt) else none
  | .neq,.nilI,.nilI=>if xc||yc then some ([],.bool .ff) else none
  | .eql,.iface _ _,.nilI=>some ([],.bool .ff)
  | .neq,.iface _ _,.nilI=>some ([],.bool .tt)
  | .eql,.nilp,.nilp=>some ([],.bool .tt)
  | .neq,.nilp,.nilp=>some ([],.bool .ff)
  | .eql,.ptr _ _ _,.nilp=>some ([],.bool .ff)
  | .neq,.ptr _ _ _,.nilp=>some ([],.bool .tt)
  | _,_,_=>none
def Kx:Operand→Bool
  | .const _=>true
  | _=>false
def Jv(P:Program)(t:TypeId)(x:Aw):Bool:=
  match x,P.underlying t with
  | .int _ _,_=>true
  | .bool _,some .bool=>true
  | .nilI,some (.interface _)=>true
  | .iface _ _,some (.interface _)=>true
  | .nilp,some (.pointer _)=>true
  | .ptr _ _ _,some (.pointer _)=>true
  | _,_=>false
def jkz(P:Program)(t:TypeId)(x i:Aw):Option (List T×Aw):=
  match i with
  | .int _ ti=>
    match P.underlying t,x with
    | some (.array n e),.ptr r s d=>
      match Kf P e with
      | some z=>
        match ti.view with
        | .lit q=>if 0≤q∧q<n then some ([],.ptr r (s+q.toNat*z) d) else none
        | _=>some (needs [Ek (.lit 0) ti,jd5 ti (.lit n),Ek (.lit 0) d],.ptr r s (Ej d (Tj ti (.lit z))))
      | none=>none
    | some (.slice e),.sl r s d l _=>
      match Kf P e with
      | some z=>
        match ti.view with
        | .lit q=>if 0≤q then some (needs [jd5 ti l],.ptr r (s+q.toNat*z) d) else none
        | _=>some (needs [Ek (.lit 0) ti,jd5 ti l,Ek (.lit 0) d],.ptr r s (Ej d (Tj ti (.lit z))))
      | none=>none
    | _,_=>none
  | _=>none
def Ut(fr:Nat→SR):Option Operand→T→Option T
  | none,t=>some t
  | some x,_=>match Vy fr x with
    | some (.int _ t)=>some t
    | _=>none
def T.isPos(t:T):Bool:=match t.view with|.lit (.ofNat (_+1))=>true|_=>false
def jgn(m l:T)(z:Nat)(d r:T):T:=
  match l.isZ with
  | true=>d
  | false=>match r.isPos with
    | true=>Ej d (Tj l (.lit z))
    | false=>jop (jkp m l) d (Ej d (Tj l (.lit z)))
def Ur(m l r:T):T:=
  match l.isZ with
  | true=>.tt
  | false=>match r.isPos with
    | true=>jd5 l m
    | false=>.tt
def jju(P:Program)(t:TypeId)(x:Aw)(fr:Nat→SR)(lo hi mx:Option Operand):Option (List T×Aw):=
  match P.underlying t,x with
  | some (.slice e),.sl r s d len cap=>
    match Kf P e,Ut fr mx cap,Ut fr lo (.lit 0) with
    | some z,some m,some l=>
      match Ut fr hi len with
      | some h=>if hi.isNone&&mx.isSome then none else
        some (needs [Ek (.lit 0) m,Ek m cap,Ek (.lit 0) h,Ek h (if mx.isSome||hi.isSome then m else h),Ek (.lit 0) l,Ek l h,Ek (.lit 0) d,Ek (.lit 0) cap,Ek (.lit 0) len,Ur m l (Tk h l)],.sl r s (jgn m l z d (Tk h l)) (Tk h l) (Tk m l))
      | none=>none
    | _,_,_=>none
  | some (.array n e),.ptr r s d=>
    match Kf P e,Ut fr mx (.lit n),Ut fr lo (.lit 0) with
    | some z,some m,some l=>
      match Ut fr hi (.lit n) with
      | some h=>if hi.isNone&&mx.isSome then none else
        some (needs [Ek (.lit 0) m,Ek m (.lit n),Ek (.lit 0) h,Ek h m,Ek (.lit 0) l,Ek l h,Ek (.lit 0) d,Ur m l (Tk h l)],.sl r s (jgn m l z d (Tk h l)) (Tk h l) (Tk m l))
      | none=>none
    | _,_,_=>none
  | _,_=>none
def j19:Aw→Aw
  | .sl r s (.lit (.ofNat (q+1))) l c=>.sl r (s+(q+1)) (.lit 0) l c
  | l=>l
def Ze(h:Hp)(b:Gn):Hp:={h with rw:=h.rw++ [(.new h.na,b)],na:=h.na+1}
def jnv(P:Program)(t:TypeId)(p:Aw)(h:Hp):Option (List T×SV):=
  match p with
  | .ptr r s d=>
    match Jr h.rw r with
    | some b=>
      if Vn P t then
        match Kf P t with
        | some n=>(Rm b.segs s d n).map fun (c,g)=>(c,.agg g)
        | none=>none
      else (Vj b.segs s d).map fun (c,x)=>(c,.one x)
    | none=>
      match Na h.ro r with
      | some (k,a)=>if Vn P t then
          match Kf P t with
          | some n=>let i:=Ej (.lit s) d;some (needs [Ek (.lit 0) d,Ek (Ej i (.lit n)) (.len a)],.agg [.arr k (.cut a i (.lit n)) n])
          | none=>none
        else let i:=Ej (.lit s) d;some (Pv i d (.len a),.one (.int k (Zf a i)))
      | none=>none
  | _=>none
def j6w(h:Hp):Aw→Bool
  | .val n=>match h.ow with
    | some o=>Nat.beq o.v n
    | none=>false
  | _=>false
def jk0(P:Program)(t:TypeId)(p:Aw)(x:SV)(h:Hp):Option (List T×Hp):=
  match p with
  | .ptr r s d=>
    match Jr h.rw r with
    | some b=>
      match x with
      | .one l=>if Kf P t=some 1∧(l.plain||j6w h l)=true then (Wk b.segs s d l).map fun (c,g)=>(c,{h with rw:=Tp h.rw r {b with segs:=g}}) else none
      | .agg g=>match Rn g with
        | some n=>if Kf P t=some n∧g.all Cp.plain=true then (Nb b.segs s d n g).map fun (c,g')=>(c,{h with rw:=Tp h.rw r {b with segs:=g'}}) else none
        | none=>none
    | none=>none
  | _=>none
def jp1(h:Hp)(l:Aw)(n:Nat):Option (List T×List Cp):=
  match l with
  | .sl r s d _ _=>
    match Jr h.rw r with
    | some b=>Rm b.segs s d n
    | none=>match Na h.ro r with
      | some (k,a)=>let i:=Ej (.lit s) d;some (needs [Ek (.lit 0) d,Ek (Ej i (.lit n)) (.len a)],[.arr k (.cut a i (.lit n)) n])
      | none=>none
  | _=>none
def Xf(a b:T):T:=
  match a.viewA,b.viewA with
  | .alit x,.alit y=>.alit (x++y)
  | .alit [],_=>b
  | _,.alit []=>a
  | _,_=>.splice a (.len a) b
def jhb(k:IntKind):T→Nat→List Aw→Option T
  | a,_,[]=>some a
  | a,j,.int k' t::l=>if k=k' then jhb k (.set a (.lit j) t) (j+1) l else none
  | _,_,_=>none
def qbf(k:IntKind):Cp→Option T
  | .cells l=>match Si k l with
    | some ns=>some (.alit ns)
    | none=>jhb k (.alit (List.replicate l.length 0)) 0 l
  | .arr k' a _=>if k=k' then some a else none
  | .arrD k' a=>if k=k' then some a else none
  | _=>none
def jb5(k:IntKind):List Cp→Option T
  | []=>some (.alit [])
  | g::r=>match qbf k g,jb5 k r with
    | some a,some b=>some (Xf a b)
    | _,_=>none
def jt5(k:IntKind)(h:Hp)(l:Aw)(n:T):Option (List T×T):=
  match l with
  | .sl r s d _ _=>
    match Jr h.rw r with
    | some b=>match jh5 b.segs s with
      | some (_,.arr k' a m,j,_)=>if k=k' then let i:=Ej (.lit j) d;some (needs [Ek (.lit 0) d,Ek (.lit 0) n,Ek (Ej i n) (.lit m)],.cut a i n) else none
      | some (_,.arrD k' a,j,_)=>if k=k' then let i:=Ej (.lit j) d;some (needs [Ek (.lit 0) d,Ek (.lit 0) n,Ek (Ej i n) (.len a)],.cut a i n) else none
      | _=>none
    | none=>match Na h.ro r with
      | some (k',a)=>if k=k' then let i:=Ej (.lit s) d;some (needs [Ek (.lit 0) d,Ek (.lit 0) n,Ek (Ej i n) (.len a)],.cut a i n) else none
      | none=>none
  | _=>none
def jew(k:IntKind)(h:Hp)(l:Aw)(n:T):Option (List T×T):=
  match n.view with
  | .lit (.ofNat m)=>match jp1 h l m with
    | some (c,g)=>match jb5 k g with
      | some t=>some (c,t)
      | none=>none
    | none=>jt5 k h l n
  | _=>jt5 k h l n
def jxu(P:Program)(t:TypeId)(x y:Aw)(h:Hp):Option Sb:=
  match P.underlying t,x,y with
  | some (.slice e),.sl r s d ln _,.sl r2 s2 d2 ln2 c2=>
    match Jr h.rw r with
    | some b=>
      if Kf P e=some 1 then
        let n:=jko ln ln2
        match jh5 b.segs s with
        | some (p,.arr k a m,j,q)=>
          let i:=Ej (.lit j) d
          match jew k h (.sl r2 s2 d2 ln2 c2) n with
          | some (c,g)=>some ⟨c++needs [Ek (.lit 0) ln,Ek (.lit 0) ln2,Ek (.lit 0) d,Ek (Ej i n) (.lit m)],.v (.one (.int .i64 n)),{h with rw:=Tp h.rw r {b with segs:=p++ .arr k (.splice a i g) m::q}}⟩
          | none=>none
        | some (p,.arrD k a,j,q)=>
          let i:=Ej (.lit j) d
          match jew k h (.sl r2 s2 d2 ln2 c2) n with
          | some (c,g)=>some ⟨c++needs [Ek (.lit 0) ln,Ek (.lit 0) ln2,Ek (.lit 0) d,Ek (Ej i n) (.len a)],.v (.one (.int .i64 n)),{h with rw:=Tp h.rw r {b with segs:=p++ .arrD k (.splice a i g)::q}}⟩
          | none=>none
        | _=>none
      else none
    | none=>none
  | _,_,_=>none
def jtj(P:Program)(t:TypeId)(x y:Aw)(h:Hp):Option Sb:=
  match P.underlying t,x,y with
  | some (.slice e),.sl r s d ln _,.sl r2 s2 d2 ln2 c2=>
    match Kf P e,ln.view,ln2.view,Jr h.rw r with
    | some 1,.lit (.ofNat p),.lit (.ofNat q),some b=>
      match jp1 h (.sl r2 s2 d2 ln2 c2) (Nat.min q p) with
      | some (c,g)=>if g.all Cp.plain then
          match Nb b.segs s d (Nat.min q p) g with
          | some (c',g')=>some ⟨c++c',.v (.one (.int .i64 (.lit (Nat.min q p:Nat)))),{h with rw:=Tp h.rw r {b with segs:=Dn g'}}⟩
          | none=>none
        else none
      | none=>none
    | _,_,_,_=>none
  | _,_,_=>none
def jh9(P:Program)(t:TypeId)(g:List Cp)(off:Nat):Option SV:=
  if Vn P t then
    match Kf P t with
    | some n=>match Rm g off (.lit 0) n with
      | some ([],x)=>some (.agg x)
      | _=>none
    | none=>none
  else match Vj g off (.lit 0) with
    | some ([],x)=>some (.one x)
    | _=>none
def jjd(P:Program)(t:TypeId)(name:String):Option FuncId:=
  match P.info? t with
  | some i=>
    match i.methods.find? (·.name==name) with
    | some m=>if m.path.isEmpty then
        match m.func,P.underlying t with
        | some (f,true),some (.pointer _)=>some f
        | _,_=>none
      else none
    | none=>none
  | none=>none
def jdb(P:Program)(f:FuncId):Bool:=
  match P.funcs[f]? with
  | some fn=>fn.body.isSome&& !(fn.name== "runtime.NumGoroutine")
  | none=>false
def jm4(P:Program)(fr:Nat→SR)(c:Call):Option (FuncId×List SR):=
  let args:=c.args.toList.mapM (Ua fr)
  match c.callee with
  | .value (.func f)=>if jdb P f then args.map (f,·) else none
  | .invoke x name=>
    match Vy fr x with
    | some (.iface t l)=>
      match jjd P t name with
      | some f=>if jdb P f then args.map fun as=>(f,l.sr::as) else none
      | none=>none
    | _=>none
  | _=>none
def Dt(h:Hp)(c:List T)(x:SR):Option Sb:=some ⟨c,x,h⟩
def jfo(fr:Nat→SR)(h:Hp)(x:Operand):Option Sb:=(Ua fr x).map fun v=>⟨[],v,h⟩
def jrd(P:Program)(specs:Nat→Option Ec)(fr:Nat→SR)(h:Hp)(c:Operand)(a:Operand)(b:Operand):Option Sb:=
    match Vy fr c,Vy fr a,Vy fr b with
    | some (.bool t),some (.bool x),some (.bool y)=>Dt h [] (jgb (jjn t x y))
    | some (.bool .tt),some x,_=>Dt h [] x.sr
    | some (.bool .ff),_,some y=>Dt h [] y.sr
    | some (.bool .tt),none,_|some (.bool .ff),_,none=>none
    | _,_,_=>none
def jl1(P:Program)(specs:Nat→Option Ec)(fr:Nat→SR)(h:Hp)(t:TypeId):Option Sb:=
    match Zu P t with
    | some g=>Dt (Ze h ⟨t,g⟩) [] (.v (.one (.ptr (.new h.na) 0 (.lit 0))))
    | none=>none
def j09(P:Program)(specs:Nat→Option Ec)(fr:Nat→SR)(h:Hp)(t:TypeId)(x:Operand):Option Sb:=
    match Ua fr x with
    | some (.v v)=>if v.plain=true then Dt (Ze h ⟨t,v.segs⟩) [] (.v (.one (.ptr (.new h.na) 0 (.lit 0)))) else none
    | _=>none
def jjq(P:Program)(specs:Nat→Option Ec)(fr:Nat→SR)(h:Hp)(t:TypeId)(parts:Array (Nat×Operand)):Option Sb:=
    match parts.toList.mapM (fun (i,x)=>(Ua fr x).map fun v=>(i,v)),P.underlying t,Zu P t with
    | some ps,some (.struct fs),some z=>
      match fs.toList.mapM (fun f=>(P.info? f.type).map fun i=>(f.offset,i.size)) with
      | some places=>match jeo (places.toArray[·]?) z ps with
        | some (_,g)=>Dt h [] (.v (.agg (Dn g)))
        | none=>none
      | none=>none
    | some ps,some (.array _ e),some z=>
      match Kf P e,Nm z with
      | some n,some cs=>match jeo (fun i=>some (i*n,n)) [.cells cs] ps with
        | some (_,g)=>Dt h [] (.v (.agg (Uh (Dn g))))
        | none=>none
      | _,_=>none
    | _,_,_=>none
def So(P:Program)(specs:Nat→Option Ec)(fr:Nat→SR)(h:Hp)(t:TypeId)(len:Nat)(parts:Array (Nat×Operand)):Option Sb:=
    match parts.toList.mapM (fun (i,x)=>(Ua fr x).map fun v=>(i,v)),P.underlying t with
    | some ps,some (.slice e)=>
      match Kf P e,Zu P e with
      | some n,some z=>
        match Nm z with
        | some cs=>if len*n≤16777216∧0<len*n∧cs.length=n then
            match jeo (fun i=>some (i*n,n)) [.cells (List.replicate len cs).flatten] ps with
            | some (_,g)=>Dt (Ze h ⟨e,Uh (Dn g)⟩) [] (.v (.one (.sl (.new h.na) 0 (.lit 0) (.lit len) (.lit len))))
            | none=>none
          else none
        | none=>none
      | _,_=>none
    | _,_=>none
def jpz(P:Program)(specs:Nat→Option Ec)(fr:Nat→SR)(h:Hp)(t:TypeId)(x:Operand):Option Sb:=
    match Vy fr x with
    | some p=>if (P.underlying t).isSome then (jnv P t p h).map fun (c,v)=>⟨c,.v v,h⟩ else none
    | none=>none
def jkq(P:Program)(specs:Nat→Option Ec)(fr:Nat→SR)(h:Hp)(t:TypeId)(x:Operand)(y:Operand):Option Sb:=
    match Vy fr x,Ua fr y with
    | some p,some (.v v)=>(jk0 P t p v h).map fun (c,h')=>⟨c,.v (.one .undef),h'⟩
    | _,_=>none
def Yv(P:Program)(specs:Nat→Option Ec)(fr:Nat→SR)(h:Hp)(x:Operand):Option Sb:=
    match Ua fr x with
    | some (.v (.one (.ptr r s d)))=>Dt h [] (.v (.one (.ptr r s d)))
    | some (.v (.one (.iface t l)))=>Dt h [] (.v (.one (.iface t l)))
    | _=>none
def jyh(P:Program)(fr:Nat→SR)(op:BinOp)(t:TypeId)(x:Operand)(y:Operand):Option T:=
    match Ua fr x,Ua fr y,P.underlying t with
    | some (.v (.agg [.arr k a m])),some (.v (.agg [.arr k' b m'])),some (.array n e)=>
      match P.underlying e,op with
      | some (.int _),.eql=>if k=k'∧m=n∧m'=n∧Kf P e=some 1 then some (.aeq a b) else none
      | some (.int _),.neq=>if k=k'∧m=n∧m'=n∧Kf P e=some 1 then some (.not (.aeq a b)) else none
      | _,_=>none
    | _,_,_=>none
def jk9(P:Program)(specs:Nat→Option Ec)(fr:Nat→SR)(h:Hp)(op:BinOp)(t:TypeId)(x:Operand)(y:Operand):Option Sb:=
    match Vy fr x,Vy fr y with
    | some a,some b=>if Jv P t a then (j4s op a b (Kx x) (Kx y)).map fun (c,l)=>⟨c,l.sr,h⟩ else none
    | none,none=>match jyh P fr op t x y with
      | some b=>Dt h [] (jgb b)
      | none=>none
    | _,_=>none
def jqh(P:Program)(specs:Nat→Option Ec)(fr:Nat→SR)(h:Hp)(op:UnOp)(x:Operand):Option Sb:=
    match op,Vy fr x with
    | .neg,some (.int k a)=>(jh7 k [] (Tk (.lit 0) a)).map fun (c,l)=>⟨c,l.sr,h⟩
    | .xor,some (.int k a)=>Dt h [] (Tq k (jli .xor k (.lit (if k.signed then-1 else k.max)) a))
    | .not,some (.bool a)=>Dt h [] (jgb (Xi a))
    | _,_=>none
def jbg(P:Program)(specs:Nat→Option Ec)(fr:Nat→SR)(h:Hp)(src:TypeId)(dst:TypeId)(x:Operand):Option Sb:=
    match P.underlying src,P.underlying dst,Vy fr x with
    | some _,some (.int k),some (.int _ a)=>(jh7 k [] a).map fun (c,l)=>⟨c,l.sr,h⟩
    | _,_,_=>none
def Ob(P:Program)(specs:Nat→Option Ec)(fr:Nat→SR)(h:Hp)(t:TypeId)(x:Operand):Option Sb:=
    match P.underlying t,Vy fr x with
    | some (.interface _),_=>none
    | some _,some l=>Dt h [] (.v (.one (.iface t l)))
    | _,_=>none
def Vp(P:Program)(specs:Nat→Option Ec)(fr:Nat→SR)(h:Hp)(t:TypeId)(l:Operand)(c:Operand):Option Sb:=
    match P.underlying t,Vy fr l,Vy fr c with
    | some (.slice e),some (.int _ n),some (.int _ m)=>
      match P.info? e,Zu P e with
      | some i,some [.cells [.int k (.lit 0)]]=>
        if n=m∧i.size=1 then Dt (Ze h ⟨e,jr6 [.arrD k (.rep n (.lit 0))]⟩) (needs [Ek (.lit 0) n,Ek (Tj n (.lit i.bytes)) (.lit 140737488355328),Ek n (.lit 9223372036854775807)]) (.v (.one (.sl (.new h.na) 0 (.lit 0) n n))) else none
      | some i,some [.arr k (.rep (.lit q) (.lit 0)) q']=>
        if n=m∧i.size=q'∧q=q'∧0<q' then Dt (Ze h ⟨e,jr6 [.arrD k (.rep (Tj n (.lit q)) (.lit 0))]⟩) (needs [Ek (.lit 0) n,Ek (Tj n (.lit i.bytes)) (.lit 140737488355328),Ek n (.lit 9223372036854775807)]) (.v (.one (.sl (.new h.na) 0 (.lit 0) n n))) else none
      | _,_=>none
    | _,_,_=>none
def jkv(P:Program)(specs:Nat→Option Ec)(fr:Nat→SR)(h:Hp)(t:TypeId)(x:Operand)(lo:Option Operand)(hi:Option Operand)(mx:Option Operand):Option Sb:=
    match Vy fr x with
    | some p=>(jju P t p fr lo hi mx).map fun (c,l)=>⟨c,(j19 l).sr,h⟩
    | none=>none
def Uy(P:Program)(specs:Nat→Option Ec)(fr:Nat→SR)(h:Hp)(t:TypeId)(x:Operand)(f:Nat):Option Sb:=
    match Vy fr x,jky P t f with
    | some (.ptr r s d),some q=>match Kf P q.type with
      | some (_+1)=>Dt h (needs [Ek (.lit 0) d]) (.v (.one (.ptr r (s+q.offset) d)))
      | _=>none
    | _,_=>none
def jlr(P:Program)(specs:Nat→Option Ec)(fr:Nat→SR)(h:Hp)(t:TypeId)(x:Operand)(f:Nat):Option Sb:=
    match Ua fr x,jky P t f with
    | some (.v (.agg g)),some q=>if (P.underlying q.type).isSome then (jh9 P q.type g q.offset).map fun v=>⟨[],.v v,h⟩ else none
    | _,_=>none
def Uq(P:Program)(specs:Nat→Option Ec)(fr:Nat→SR)(h:Hp)(t:TypeId)(x:Operand)(i:Operand):Option Sb:=
    match Vy fr x,Vy fr i with
    | some p,some q=>(jkz P t p q).map fun (c,l)=>⟨c,l.sr,h⟩
    | _,_=>none
def jji(P:Program)(specs:Nat→Option Ec)(fr:Nat→SR)(h:Hp)(t:TypeId)(x:Operand)(i:Operand):Option Sb:=
    match Ua fr x,Vy fr i,P.underlying t with
    | some (.v (.agg g)),some (.int _ (.lit q)),some (.array n e)=>
      match Kf P e with
      | some z=>if 0≤q∧q<n∧(P.underlying e).isSome=true then (jh9 P e g (q.toNat*z)).map fun v=>⟨[],.v v,h⟩ else none
      | none=>none
    | some (.v (.agg [.arr k a m])),some (.int _ i),some (.array n e)=>
      if Kf P e=some 1∧Vn P e=false∧(P.underlying e).isSome=true∧n=m then Dt h (needs [Ek (.lit 0) i,jd5 i (.lit n)]) (Tq k (Zf a i)) else none
    | some (.v (.one (.str l))),some (.int _ i),some .string=>
      Dt h (needs [Ek (.lit 0) i,jd5 i (.lit l.length)]) (Tq .u8 (Zf (.alit (l.map fun c=>(c.toNat:Int))) i))
    | _,_,_=>none
def jb9(P:Program)(specs:Nat→Option Ec)(fr:Nat→SR)(h:Hp)(x:Operand)(i:Nat):Option Sb:=
    match Ua fr x with
    | some (.tup xs)=>match xs[i]? with
      | some v=>Dt h [] (.v v)
      | none=>none
    | _=>none
def jm7(want:Array (String×TypeId))(got:Array Method):Option Unit:=
  match want.toList.filter fun (name,sig)=> !got.any fun m=>m.name==name&&m.sig==sig with
  | []=>none
  | _::_=>some ()
def Tb(P:Program)(specs:Nat→Option Ec)(fr:Nat→SR)(h:Hp)(x:Operand)(asserted:TypeId)(ok:Bool):Option Sb:=
    match Vy fr x,P.underlying asserted with
    | some (.iface t l),some (.interface want)=>match P.info? t with
      | some i=>match jm7 want i.methods with
        | none=>Dt h [] (if ok then .tup [.one (.iface t l),.one (.bool .tt)] else .v (.one (.iface t l)))
        | some _=>match ok,Rb (((P.info? asserted).bind (·.zero)).getD (.agg #[])) with
          | true,some z=>Dt h [] (.tup [.one z,.one (.bool .ff)])
          | _,_=>none
      | none=>none
    | some (.iface t l),some d=>if d matches .interface _ then none else
      if t=asserted then Dt h [] (if ok then .tup [.one l,.one (.bool .tt)] else .v (.one l))
      else match ok,Rb (((P.info? asserted).bind (·.zero)).getD (.agg #[])) with
        | true,some z=>Dt h [] (.tup [.one z,.one (.bool .ff)])
        | _,_=>none
    | _,_=>none
def jpd(P:Program)(specs:Nat→Option Ec)(fr:Nat→SR)(h:Hp)(c:Call):Option Sb:=
    match c.callee with
    | .builtin .len=>match c.args.toList,c.argTypes.toList with
      | [x],[t]=>match P.underlying t,Vy fr x with
        | some (.slice _),some (.sl _ _ _ n _)=>Dt h (needs [Ek (.lit 0) n]) (Tq .i64 n)
        | some (.slice _),some .nils=>Dt h [] (Tq .i64 (.lit 0))
        | some (.array n _),some _=>Dt h [] (Tq .i64 (.lit n))
        | some .string,some (.str l)=>Dt h [] (Tq .i64 (.lit l.length))
        | _,_=>none
      | _,_=>none
    | .builtin .max=>match c.args.toList with
      | [x,y]=>match Vy fr x,Vy fr y with
        | some (.int k a),some (.int _ b)=>Dt h [] (Tq k (qay a b))
        | _,_=>none
      | _=>none
    | .builtin .min=>match c.args.toList with
      | [x,y]=>match Vy fr x,Vy fr y with
        | some (.int k a),some (.int _ b)=>Dt h [] (Tq k (jko a b))
        | _,_=>none
      | _=>none
    | .builtin .copy=>match c.args.toList,c.argTypes.toList with
      | [x,y],[t,_]=>match Vy fr x,Vy fr y with
        | some a,some b=>match jtj P t a b h with
          | some r=>some r
          | none=>jxu P t a b h
        | _,_=>none
      | _,_=>none
    | _=>match jm4 P fr c with
      | some (f,args)=>match specs f with
        | some s=>s args h
        | none=>none
      | none=>none
def Gx(P:Program)(specs:Nat→Option Ec)(fr:Nat→SR)(h:Hp)(o:Oper):Option Sb:=
  match o.op with
  | .move x=>jfo fr h x
  | .assign x=>jfo fr h x
  | .pick c a b=>jrd P specs fr h c a b
  | .alloc t=>jl1 P specs fr h t
  | .box t x=>j09 P specs fr h t x
  | .build t parts=>jjq P specs fr h t parts
  | .buildSlice t len parts=>So P specs fr h t len parts
  | .load t x=>jpz P specs fr h t x
  | .store t x y=>jkq P specs fr h t x y
  | .nilCheck x=>Yv P specs fr h x
  | .binOp op t x y _=>jk9 P specs fr h op t x y
  | .unOp op _ x=>jqh P specs fr h op x
  | .convert src dst x=>jbg P specs fr h src dst x
  | .makeInterface t x=>Ob P specs fr h t x
  | .makeSlice t l c=>Vp P specs fr h t l c
  | .slice t x lo hi mx=>jkv P specs fr h t x lo hi mx
  | .fieldAddr t x f=>Uy P specs fr h t x f
  | .field t x f=>jlr P specs fr h t x f
  | .indexAddr t x i=>Uq P specs fr h t x i
  | .index t x i=>jji P specs fr h t x i
  | .extract x i=>jb9 P specs fr h x i
  | .typeAssert x _ asserted ok=>Tb P specs fr h x asserted ok
  | .call c=>jpd P specs fr h c
  | _=>none
end
end Go.Proofs.YtljjbikbfeigdaaGreatDoor
