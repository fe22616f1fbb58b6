/- Part of the proof of FnColorStreamCardSaid: Terms put for letters; whether two terms are the same; of what sort a term is. -/
import Derived.Test.YtljjbikbfeigdaaGreatDoorCo01
set_option linter.all false
namespace Go.Proofs.YtljjbikbfeigdaaGreatDoor
noncomputable section
open Go
structure TS where
  i:Nat→T
  b:Nat→T
  a:Nat→T
noncomputable def T.putR:T→TS→T:=T.rec (motive:=fun _=>TS→T)
    (fun q0 _=>T.lit q0)
    (fun _=>T.tt)
    (fun _=>T.ff)
    (fun q0 s=>s.i q0)
    (fun q0 s=>s.b q0)
    (fun q0 s=>s.a q0)
    (fun _ _ h0 h1 s=>T.add (h0 s) (h1 s))
    (fun _ _ h0 h1 s=>T.sub (h0 s) (h1 s))
    (fun _ _ h0 h1 s=>T.mul (h0 s) (h1 s))
    (fun q0 _ h0 s=>T.wrap q0 (h0 s))
    (fun _ _ h0 h1 s=>T.tdiv (h0 s) (h1 s))
    (fun _ _ h0 h1 s=>T.tmod (h0 s) (h1 s))
    (fun q0 _ _ h0 h1 s=>T.shl q0 (h0 s) (h1 s))
    (fun q0 _ _ h0 h1 s=>T.shr q0 (h0 s) (h1 s))
    (fun q0 q1 _ _ h0 h1 s=>T.bits q0 q1 (h0 s) (h1 s))
    (fun _ _ h0 h1 s=>T.mx (h0 s) (h1 s))
    (fun _ _ h0 h1 s=>T.mn (h0 s) (h1 s))
    (fun _ _ h0 h1 s=>T.eq (h0 s) (h1 s))
    (fun _ _ h0 h1 s=>T.lt (h0 s) (h1 s))
    (fun _ _ h0 h1 s=>T.le (h0 s) (h1 s))
    (fun _ _ h0 h1 s=>T.beq (h0 s) (h1 s))
    (fun _ h0 s=>T.not (h0 s))
    (fun _ _ h0 h1 s=>T.and (h0 s) (h1 s))
    (fun _ _ h0 h1 s=>T.or (h0 s) (h1 s))
    (fun _ _ _ h0 h1 h2 s=>T.ite (h0 s) (h1 s) (h2 s))
    (fun _ _ _ h0 h1 h2 s=>T.bite (h0 s) (h1 s) (h2 s))
    (fun _ h0 s=>T.len (h0 s))
    (fun _ _ h0 h1 s=>T.get (h0 s) (h1 s))
    (fun _ _ _ h0 h1 h2 s=>T.set (h0 s) (h1 s) (h2 s))
    (fun _ _ h0 h1 s=>T.rep (h0 s) (h1 s))
    (fun _ _ _ h0 h1 h2 s=>T.cut (h0 s) (h1 s) (h2 s))
    (fun q0 _=>T.alit q0)
    (fun _ _ _ h0 h1 h2 s=>T.splice (h0 s) (h1 s) (h2 s))
    (fun _ _ h0 h1 s=>T.aeq (h0 s) (h1 s))
    (fun q0 _ _ _ _ _ _ _ _ h0 h1 h2 h3 h4 h5 h6 h7 s=>T.fi q0 (h0 s) (h1 s) (h2 s) (h3 s) (h4 s) (h5 s) (h6 s) (h7 s))
    (fun q0 _ _ _ _ _ _ _ _ h0 h1 h2 h3 h4 h5 h6 h7 s=>T.fb q0 (h0 s) (h1 s) (h2 s) (h3 s) (h4 s) (h5 s) (h6 s) (h7 s))
    (fun q0 _ _ _ _ _ _ _ _ h0 h1 h2 h3 h4 h5 h6 h7 s=>T.fa q0 (h0 s) (h1 s) (h2 s) (h3 s) (h4 s) (h5 s) (h6 s) (h7 s))
noncomputable def T.put (s:TS) (t:T):T:=t.putR s
def T.putI(s:TS):T→T
  | .lit q0=>T.lit q0
  | .tt=>T.tt
  | .ff=>T.ff
  | .iv q0=>s.i q0
  | .bv q0=>s.b q0
  | .av q0=>s.a q0
  | .add a0 a1=>T.add (T.putI s a0) (T.putI s a1)
  | .sub a0 a1=>T.sub (T.putI s a0) (T.putI s a1)
  | .mul a0 a1=>T.mul (T.putI s a0) (T.putI s a1)
  | .wrap q0 a0=>T.wrap q0 (T.putI s a0)
  | .tdiv a0 a1=>T.tdiv (T.putI s a0) (T.putI s a1)
  | .tmod a0 a1=>T.tmod (T.putI s a0) (T.putI s a1)
  | .shl q0 a0 a1=>T.shl q0 (T.putI s a0) (T.putI s a1)
  | .shr q0 a0 a1=>T.shr q0 (T.putI s a0) (T.putI s a1)
  | .bits q0 q1 a0 a1=>T.bits q0 q1 (T.putI s a0) (T.putI s a1)
  | .mx a0 a1=>T.mx (T.putI s a0) (T.putI s a1)
  | .mn a0 a1=>T.mn (T.putI s a0) (T.putI s a1)
  | .eq a0 a1=>T.eq (T.putI s a0) (T.putI s a1)
  | .lt a0 a1=>T.lt (T.putI s a0) (T.putI s a1)
  | .le a0 a1=>T.le (T.putI s a0) (T.putI s a1)
  | .beq a0 a1=>T.beq (T.putI s a0) (T.putI s a1)
  | .not a0=>T.not (T.putI s a0)
  | .and a0 a1=>T.and (T.putI s a0) (T.putI s a1)
  | .or a0 a1=>T.or (T.putI s a0) (T.putI s a1)
  | .ite a0 a1 a2=>T.ite (T.putI s a0) (T.putI s a1) (T.putI s a2)
  | .bite a0 a1 a2=>T.bite (T.putI s a0) (T.putI s a1) (T.putI s a2)
  | .len a0=>T.len (T.putI s a0)
  | .get a0 a1=>T.get (T.putI s a0) (T.putI s a1)
  | .set a0 a1 a2=>T.set (T.putI s a0) (T.putI s a1) (T.putI s a2)
  | .rep a0 a1=>T.rep (T.putI s a0) (T.putI s a1)
  | .cut a0 a1 a2=>T.cut (T.putI s a0) (T.putI s a1) (T.putI s a2)
  | .alit q0=>T.alit q0
  | .splice a0 a1 a2=>T.splice (T.putI s a0) (T.putI s a1) (T.putI s a2)
  | .aeq a0 a1=>T.aeq (T.putI s a0) (T.putI s a1)
  | .fi q0 a0 a1 a2 a3 a4 a5 a6 a7=>T.fi q0 (T.putI s a0) (T.putI s a1) (T.putI s a2) (T.putI s a3) (T.putI s a4) (T.putI s a5) (T.putI s a6) (T.putI s a7)
  | .fb q0 a0 a1 a2 a3 a4 a5 a6 a7=>T.fb q0 (T.putI s a0) (T.putI s a1) (T.putI s a2) (T.putI s a3) (T.putI s a4) (T.putI s a5) (T.putI s a6) (T.putI s a7)
  | .fa q0 a0 a1 a2 a3 a4 a5 a6 a7=>T.fa q0 (T.putI s a0) (T.putI s a1) (T.putI s a2) (T.putI s a3) (T.putI s a4) (T.putI s a5) (T.putI s a6) (T.putI s a7)
theorem T.put_eq: @T.put= @T.putI:=by
  funext s t
  unfold T.put
  induction t with
  | lit q0=>rfl
  | tt=>rfl
  | ff=>rfl
  | iv q0=>rfl
  | bv q0=>rfl
  | av q0=>rfl
  | add a0 a1 h0 h1=>show T.add (a0.putR s) (a1.putR s)=_;rw[h0,h1];rfl
  | sub a0 a1 h0 h1=>show T.sub (a0.putR s) (a1.putR s)=_;rw[h0,h1];rfl
  | mul a0 a1 h0 h1=>show T.mul (a0.putR s) (a1.putR s)=_;rw[h0,h1];rfl
  | wrap q0 a0 h0=>show T.wrap q0 (a0.putR s)=_;rw[h0];rfl
  | tdiv a0 a1 h0 h1=>show T.tdiv (a0.putR s) (a1.putR s)=_;rw[h0,h1];rfl
  | tmod a0 a1 h0 h1=>show T.tmod (a0.putR s) (a1.putR s)=_;rw[h0,h1];rfl
  | shl q0 a0 a1 h0 h1=>show T.shl q0 (a0.putR s) (a1.putR s)=_;rw[h0,h1];rfl
  | shr q0 a0 a1 h0 h1=>show T.shr q0 (a0.putR s) (a1.putR s)=_;rw[h0,h1];rfl
  | bits q0 q1 a0 a1 h0 h1=>show T.bits q0 q1 (a0.putR s) (a1.putR s)=_;rw[h0,h1];rfl
  | mx a0 a1 h0 h1=>show T.mx (a0.putR s) (a1.putR s)=_;rw[h0,h1];rfl
  | mn a0 a1 h0 h1=>show T.mn (a0.putR s) (a1.putR s)=_;rw[h0,h1];rfl
  | eq a0 a1 h0 h1=>show T.eq (a0.putR s) (a1.putR s)=_;rw[h0,h1];rfl
  | lt a0 a1 h0 h1=>show T.lt (a0.putR s) (a1.putR s)=_;rw[h0,h1];rfl
  | le a0 a1 h0 h1=>show T.le (a0.putR s) (a1.putR s)=_;rw[h0,h1];rfl
  | beq a0 a1 h0 h1=>show T.beq (a0.putR s) (a1.putR s)=_;rw[h0,h1];rfl
  | not a0 h0=>show T.not (a0.putR s)=_;rw[h0];rfl
  | and a0 a1 h0 h1=>show T.and (a0.putR s) (a1.putR s)=_;rw[h0,h1];rfl
  | or a0 a1 h0 h1=>show T.or (a0.putR s) (a1.putR s)=_;rw[h0,h1];rfl
  | ite a0 a1 a2 h0 h1 h2=>show T.ite (a0.putR s) (a1.putR s) (a2.putR s)=_;rw[h0,h1,h2];rfl
  | bite a0 a1 a2 h0 h1 h2=>show T.bite (a0.putR s) (a1.putR s) (a2.putR s)=_;rw[h0,h1,h2];rfl
  | len a0 h0=>show T.len (a0.putR s)=_;rw[h0];rfl
  | get a0 a1 h0 h1=>show T.get (a0.putR s) (a1.putR s)=_;rw[h0,h1];rfl
  | set a0 a1 a2 h0 h1 h2=>show T.set (a0.putR s) (a1.putR s) (a2.putR s)=_;rw[h0,h1,h2];rfl
  | rep a0 a1 h0 h1=>show T.rep (a0.putR s) (a1.putR s)=_;rw[h0,h1];rfl
  | cut a0 a1 a2 h0 h1 h2=>show T.cut (a0.putR s) (a1.putR s) (a2.putR s)=_;rw[h0,h1,h2];rfl
  | alit q0=>rfl
  | splice a0 a1 a2 h0 h1 h2=>show T.splice (a0.putR s) (a1.putR s) (a2.putR s)=_;rw[h0,h1,h2];rfl
  | aeq a0 a1 h0 h1=>show T.aeq (a0.putR s) (a1.putR s)=_;rw[h0,h1];rfl
  | fi q0 a0 a1 a2 a3 a4 a5 a6 a7 h0 h1 h2 h3 h4 h5 h6 h7=>show T.fi q0 (a0.putR s) (a1.putR s) (a2.putR s) (a3.putR s) (a4.putR s) (a5.putR s) (a6.putR s) (a7.putR s)=_;rw[h0,h1,h2,h3,h4,h5,h6,h7];rfl
  | fb q0 a0 a1 a2 a3 a4 a5 a6 a7 h0 h1 h2 h3 h4 h5 h6 h7=>show T.fb q0 (a0.putR s) (a1.putR s) (a2.putR s) (a3.putR s) (a4.putR s) (a5.putR s) (a6.putR s) (a7.putR s)=_;rw[h0,h1,h2,h3,h4,h5,h6,h7];rfl
  | fa q0 a0 a1 a2 a3 a4 a5 a6 a7 h0 h1 h2 h3 h4 h5 h6 h7=>show T.fa q0 (a0.putR s) (a1.putR s) (a2.putR s) (a3.putR s) (a4.putR s) (a5.putR s) (a6.putR s) (a7.putR s)=_;rw[h0,h1,h2,h3,h4,h5,h6,h7];rfl
noncomputable def T.same:T→T→Bool:=T.rec (motive:=fun _=>T→Bool)
    (fun q0 t=>T.rec (motive:=fun _=>Bool) (fun p0=>(decide (q0=p0))) false false (fun _=>false) (fun _=>false) (fun _=>false) (fun _ _ _ _=>false) (fun _ _ _ _=>false) (fun _ _ _ _=>false) (fun _ _ _=>false) (fun _ _ _ _=>false) (fun _ _ _ _=>false) (fun _ _ _ _ _=>false) (fun _ _ _ _ _=>false) (fun _ _ _ _ _ _=>false) (fun _ _ _ _=>false) (fun _ _ _ _=>false) (fun _ _ _ _=>false) (fun _ _ _ _=>false) (fun _ _ _ _=>false) (fun _ _ _ _=>false) (fun _ _=>false) (fun _ _ _ _=>false) (fun _ _ _ _=>false) (fun _ _ _ _ _ _=>false) (fun _ _ _ _ _ _=>false) (fun _ _=>false) (fun _ _ _ _=>false) (fun _ _ _ _ _ _=>false) (fun _ _ _ _=>false) (fun _ _ _ _ _ _=>false) (fun _=>false) (fun _ _ _ _ _ _=>false) (fun _ _ _ _=>false) (fun _ _ _ _ _ _ _ _ _ _ _ _ _ _ _ _ _=>false) (fun _ _ _ _ _ _ _ _ _ _ _ _ _ _ _ _ _=>false) (fun _ _ _ _ _ _ _ _ _ _ _ _ _ _ _ _ _=>false) t)
    (fun t=>T.rec (motive:=fun _=>Bool) (fun _=>false) true false (fun _=>false) (fun _=>false) (fun _=>false) (fun _ _ _ _=>false) (fun _ _ _ _=>false) (fun _ _ _ _=>false) (fun _ _ _=>false) (fun _ _ _ _=>false) (fun _ _ _ _=>false) (fun _ _ _ _ _=>false) (fun _ _ _ _ _=>false) (fun _ _ _ _ _ _=>false) (fun _ _ _ _=>false) (fun _ _ _ _=>false) (fun _ _ _ _=>false) (fun _ _ _ _=>false) (fun _ _ _ _=>false) (fun _ _ _ _=>false) (fun _ _=>false) (fun _ _ _ _=>false) (fun _ _ _ _=>false) (fun _ _ _ _ _ _=>false) (fun _ _ _ _ _ _=>false) (fun _ _=>false) (fun _ _ _ _=>false) (fun _ _ _ _ _ _=>false) (fun _ _ _ _=>false) (fun _ _ _ _ _ _=>false) (fun _=>false) (fun _ _ _ _ _ _=>false) (fun _ _ _ _=>false) (fun _ _ _ _ _ _ _ _ _ _ _ _ _ _ _ _ _=>false) (fun _ _ _ _ _ _ _ _ _ _ _ _ _ _ _ _ _=>false) (fun _ _ _ _ _ _ _ _ _ _ _ _ _ _ _ _ _=>false) t)
    (fun t=>T.rec (motive:=fun _=>Bool) (fun _=>false) false true (fun _=>false) (fun _=>false) (fun _=>false) (fun _ _ _ _=>false) (fun _ _ _ _=>false) (fun _ _ _ _=>false) (fun _ _ _=>false) (fun _ _ _ _=>false) (fun _ _ _ _=>false) (fun _ _ _ _ _=>false) (fun _ _ _ _ _=>false) (fun _ _ _ _ _ _=>false) (fun _ _ _ _=>false) (fun _ _ _ _=>false) (fun _ _ _ _=>false) (fun _ _ _ _=>false) (fun _ _ _ _=>false) (fun _ _ _ _=>false) (fun _ _=>false) (fun _ _ _ _=>false) (fun _ _ _ _=>false) (fun _ _ _ _ _ _=>false) (fun _ _ _ _ _ _=>false) (fun _ _=>false) (fun _ _ _ _=>false) (fun _ _ _ _ _ _=>false) (fun _ _ _ _=>false) (fun _ _ _ _ _ _=>false) (fun _=>false) (fun _ _ _ _ _ _=>false) (fun _ _ _ _=>false) (fun _ _ _ _ _ _ _ _ _ _ _ _ _ _ _ _ _=>false) (fun _ _ _ _ _ _ _ _ _ _ _ _ _ _ _ _ _=>false) (fun _ _ _ _ _ _ _ _ _ _ _ _ _ _ _ _ _=>false) t)
    (fun q0 t=>T.rec (motive:=fun _=>Bool) (fun _=>false) false false (fun p0=>(Nat.beq q0 p0)) (fun _=>false) (fun _=>false) (fun _ _ _ _=>false) (fun _ _ _ _=>false) (fun _ _ _ _=>false) (fun _ _ _=>false) (fun _ _ _ _=>false) (fun _ _ _ _=>false) (fun _ _ _ _ _=>false) (fun _ _ _ _ _=>false) (fun _ _ _ _ _ _=>false) (fun _ _ _ _=>false) (fun _ _ _ _=>false) (fun _ _ _ _=>false) (fun _ _ _ _=>false) (fun _ _ _ _=>false) (fun _ _ _ _=>false) (fun _ _=>false) (fun _ _ _ _=>false) (fun _ _ _ _=>false) (fun _ _ _ _ _ _=>false) (fun _ _ _ _ _ _=>false) (fun _ _=>false) (fun _ _ _ _=>false) (fun _ _ _ _ _ _=>false) (fun _ _ _ _=>false) (fun _ _ _ _ _ _=>false) (fun _=>false) (fun _ _ _ _ _ _=>false) (fun _ _ _ _=>false) (fun _ _ _ _ _ _ _ _ _ _ _ _ _ _ _ _ _=>false) (fun _ _ _ _ _ _ _ _ _ _ _ _ _ _ _ _ _=>false) (fun _ _ _ _ _ _ _ _ _ _ _ _ _ _ _ _ _=>false) t)
    (fun q0 t=>T.rec (motive:=fun _=>Bool) (fun _=>false) false false (fun _=>false) (fun p0=>(Nat.beq q0 p0)) (fun _=>false) (fun _ _ _ _=>false) (fun _ _ _ _=>false) (fun _ _ _ _=>false) (fun _ _ _=>false) (fun _ _ _ _=>false) (fun _ _ _ _=>false) (fun _ _ _ _ _=>false) (fun _ _ _ _ _=>false) (fun _ _ _ _ _ _=>false) (fun _ _ _ _=>false) (fun _ _ _ _=>false) (fun _ _ _ _=>false) (fun _ _ _ _=>false) (fun _ _ _ _=>false) (fun _ _ _ _=>false) (fun _ _=>false) (fun _ _ _ _=>false) (fun _ _ _ _=>false) (fun _ _ _ _ _ _=>false) (fun _ _ _ _ _ _=>false) (fun _ _=>false) (fun _ _ _ _=>false) (fun _ _ _ _ _ _=>false) (fun _ _ _ _=>false) (fun _ _ _ _ _ _=>false) (fun _=>false) (fun _ _ _ _ _ _=>false) (fun _ _ _ _=>false) (fun _ _ _ _ _ _ _ _ _ _ _ _ _ _ _ _ _=>false) (fun _ _ _ _ _ _ _ _ _ _ _ _ _ _ _ _ _=>false) (fun _ _ _ _ _ _ _ _ _ _ _ _ _ _ _ _ _=>false) t)
    (fun q0 t=>T.rec (motive:=fun _=>Bool) (fun _=>false) false false (fun _=>false) (fun _=>false) (fun p0=>(Nat.beq q0 p0)) (fun _ _ _ _=>false) (fun _ _ _ _=>false) (fun _ _ _ _=>false) (fun _ _ _=>false) (fun _ _ _ _=>false) (fun _ _ _ _=>false) (fun _ _ _ _ _=>false) (fun _ _ _ _ _=>false) (fun _ _ _ _ _ _=>false) (fun _ _ _ _=>false) (fun _ _ _ _=>false) (fun _ _ _ _=>false) (fun _ _ _ _=>false) (fun _ _ _ _=>false) (fun _ _ _ _=>false) (fun _ _=>false) (fun _ _ _ _=>false) (fun _ _ _ _=>false) (fun _ _ _ _ _ _=>false) (fun _ _ _ _ _ _=>false) (fun _ _=>false) (fun _ _ _ _=>false) (fun _ _ _ _ _ _=>false) (fun _ _ _ _=>false) (fun _ _ _ _ _ _=>false) (fun _=>false) (fun _ _ _ _ _ _=>false) (fun _ _ _ _=>false) (fun _ _ _ _ _ _ _ _ _ _ _ _ _ _ _ _ _=>false) (fun _ _ _ _ _ _ _ _ _ _ _ _ _ _ _ _ _=>false) (fun _ _ _ _ _ _ _ _ _ _ _ _ _ _ _ _ _=>false) t)
    (fun _ _ h0 h1 t=>T.rec (motive:=fun _=>Bool) (fun _=>false) false false (fun _=>false) (fun _=>false) (fun _=>false) (fun b0 b1 _ _=>((h0 b0).and (h1 b1))) (fun _ _ _ _=>false) (fun _ _ _ _=>false) (fun _ _ _=>false) (fun _ _ _ _=>false) (fun _ _ _ _=>false) (fun _ _ _ _ _=>false) (fun _ _ _ _ _=>false) (fun _ _ _ _ _ _=>false) (fun _ _ _ _=>false) (fun _ _ _ _=>false) (fun _ _ _ _=>false) (fun _ _ _ _=>false) (fun _ _ _ _=>false) (fun _ _ _ _=>false) (fun _ _=>false) (fun _ _ _ _=>false) (fun _ _ _ _=>false) (fun _ _ _ _ _ _=>false) (fun _ _ _ _ _ _=>false) (fun _ _=>false) (fun _ _ _ _=>false) (fun _ _ _ _ _ _=>false) (fun _ _ _ _=>false) (fun _ _ _ _ _ _=>false) (fun _=>false) (fun _ _ _ _ _ _=>false) (fun _ _ _ _=>false) (fun _ _ _ _ _ _ _ _ _ _ _ _ _ _ _ _ _=>false) (fun _ _ _ _ _ _ _ _ _ _ _ _ _ _ _ _ _=>false) (fun _ _ _ _ _ _ _ _ _ _ _ _ _ _ _ _ _=>false) t)
    (fun _ _ h0 h1 t=>T.rec (motive:=fun _=>Bool) (fun _=>false) false false (fun _=>false) (fun _=>false) (fun _=>false) (fun _ _ _ _=>false) (fun b0 b1 _ _=>((h0 b0).and (h1 b1))) (fun _ _ _ _=>false) (fun _ _ _=>false) (fun _ _ _ _=>false) (fun _ _ _ _=>false) (fun _ _ _ _ _=>false) (fun _ _ _ _ _=>false) (fun _ _ _ _ _ _=>false) (fun _ _ _ _=>false) (fun _ _ _ _=>false) (fun _ _ _ _=>false) (fun _ _ _ _=>false) (fun _ _ _ _=>false) (fun _ _ _ _=>false) (fun _ _=>false) (fun _ _ _ _=>false) (fun _ _ _ _=>false) (fun _ _ _ _ _ _=>false) (fun _ _ _ _ _ _=>false) (fun _ _=>false) (fun _ _ _ _=>false) (fun _ _ _ _ _ _=>false) (fun _ _ _ _=>false) (fun _ _ _ _ _ _=>false) (fun _=>false) (fun _ _ _ _ _ _=>false) (fun _ _ _ _=>false) (fun _ _ _ _ _ _ _ _ _ _ _ _ _ _ _ _ _=>false) (fun _ _ _ _ _ _ _ _ _ _ _ _ _ _ _ _ _=>false) (fun _ _ _ _ _ _ _ _ _ _ _ _ _ _ _ _ _=>false) t)
    (fun _ _ h0 h1 t=>T.rec (motive:=fun _=>Bool) (fun _=>false) false false (fun _=>false) (fun _=>false) (fun _=>false) (fun _ _ _ _=>false) (fun _ _ _ _=>false) (fun b0 b1 _ _=>((h0 b0).and (h1 b1))) (fun _ _ _=>false) (fun _ _ _ _=>false) (fun _ _ _ _=>false) (fun _ _ _ _ _=>false) (fun _ _ _ _ _=>false) (fun _ _ _ _ _ _=>false) (fun _ _ _ _=>false) (fun _ _ _ _=>false) (fun _ _ _ _=>false) (fun _ _ _ _=>false) (fun _ _ _ _=>false) (fun _ _ _ _=>false) (fun _ _=>false) (fun _ _ _ _=>false) (fun _ _ _ _=>false) (fun _ _ _ _ _ _=>false) (fun _ _ _ _ _ _=>false) (fun _ _=>false) (fun _ _ _ _=>false) (fun _ _ _ _ _ _=>false) (fun _ _ _ _=>false) (fun _ _ _ _ _ _=>false) (fun _=>false) (fun _ _ _ _ _ _=>false) (fun _ _ _ _=>false) (fun _ _ _ _ _ _ _ _ _ _ _ _ _ _ _ _ _=>false) (fun _ _ _ _ _ _ _ _ _ _ _ _ _ _ _ _ _=>false) (fun _ _ _ _ _ _ _ _ _ _ _ _ _ _ _ _ _=>false) t)
    (fun q0 _ h0 t=>T.rec (motive:=fun _=>Bool) (fun _=>false) false false (fun _=>false) (fun _=>false) (fun _=>false) (fun _ _ _ _=>false) (fun _ _ _ _=>false) (fun _ _ _ _=>false) (fun p0 b0 _=>((decide (q0=p0)).and (h0 b0))) (fun _ _ _ _=>false) (fun _ _ _ _=>false) (fun _ _ _ _ _=>false) (fun _ _ _ _ _=>false) (fun _ _ _ _ _ _=>false) (fun _ _ _ _=>false) (fun _ _ _ _=>false) (fun _ _ _ _=>false) (fun _ _ _ _=>false) (fun _ _ _ _=>false) (fun _ _ _ _=>false) (fun _ _=>false) (fun _ _ _ _=>false) (fun _ _ _ _=>false) (fun _ _ _ _ _ _=>false) (fun _ _ _ _ _ _=>false) (fun _ _=>false) (fun _ _ _ _=>false) (fun _ _ _ _ _ _=>false) (fun _ _ _ _=>false) (fun _ _ _ _ _ _=>false) (fun _=>false) (fun _ _ _ _ _ _=>false) (fun _ _ _ _=>false) (fun _ _ _ _ _ _ _ _ _ _ _ _ _ _ _ _ _=>false) (fun _ _ _ _ _ _ _ _ _ _ _ _ _ _ _ _ _=>false) (fun _ _ _ _ _ _ _ _ _ _ _ _ _ _ _ _ _=>false) t)
    (fun _ _ h0 h1 t=>T.rec (motive:=fun _=>Bool) (fun _=>false) false false (fun _=>false) (fun _=>false) (fun _=>false) (fun _ _ _ _=>false) (fun _ _ _ _=>false) (fun _ _ _ _=>false) (fun _ _ _=>false) (fun b0 b1 _ _=>((h0 b0).and (h1 b1))) (fun _ _ _ _=>false) (fun _ _ _ _ _=>false) (fun _ _ _ _ _=>false) (fun _ _ _ _ _ _=>false) (fun _ _ _ _=>false) (fun _ _ _ _=>false) (fun _ _ _ _=>false) (fun _ _ _ _=>false) (fun _ _ _ _=>false) (fun _ _ _ _=>false) (fun _ _=>false) (fun _ _ _ _=>false) (fun _ _ _ _=>false) (fun _ _ _ _ _ _=>false) (fun _ _ _ _ _ _=>false) (fun _ _=>false) (fun _ _ _ _=>false) (fun _ _ _ _ _ _=>false) (fun _ _ _ _=>false) (fun _ _ _ _ _ _=>false) (fun _=>false) (fun _ _ _ _ _ _=>false) (fun _ _ _ _=>false) (fun _ _ _ _ _ _ _ _ _ _ _ _ _ _ _ _ _=>false) (fun _ _ _ _ _ _ _ _ _ _ _ _ _ _ _ _ _=>false) (fun _ _ _ _ _ _ _ _ _ _ _ _ _ _ _ _ _=>false) t)
    (fun _ _ h0 h1 t=>T.rec (motive:=fun _=>Bool) (fun _=>false) false false (fun _=>false) (fun _=>false) (fun _=>false) (fun _ _ _ _=>false) (fun _ _ _ _=>false) (fun _ _ _ _=>false) (fun _ _ _=>false) (fun _ _ _ _=>false) (fun b0 b1 _ _=>((h0 b0).and (h1 b1))) (fun _ _ _ _ _=>false) (fun _ _ _ _ _=>false) (fun _ _ _ _ _ _=>false) (fun _ _ _ _=>false) (fun _ _ _ _=>false) (fun _ _ _ _=>false) (fun _ _ _ _=>false) (fun _ _ _ _=>false) (fun _ _ _ _=>false) (fun _ _=>false) (fun _ _ _ _=>false) (fun _ _ _ _=>false) (fun _ _ _ _ _ _=>false) (fun _ _ _ _ _ _=>false) (fun _ _=>false) (fun _ _ _ _=>false) (fun _ _ _ _ _ _=>false) (fun _ _ _ _=>false) (fun _ _ _ _ _ _=>false) (fun _=>false) (fun _ _ _ _ _ _=>false) (fun _ _ _ _=>false) (fun _ _ _ _ _ _ _ _ _ _ _ _ _ _ _ _ _=>false) (fun _ _ _ _ _ _ _ _ _ _ _ _ _ _ _ _ _=>false) (fun _ _ _ _ _ _ _ _ _ _ _ _ _ _ _ _ _=>false) t)
    (fun q0 _ _ h0 h1 t=>T.rec (motive:=fun _=>Bool) (fun _=>false) false false (fun _=>false) (fun _=>false) (fun _=>false) (fun _ _ _ _=>false) (fun _ _ _ _=>false) (fun _ _ _ _=>false) (fun _ _ _=>false) (fun _ _ _ _=>false) (fun _ _ _ _=>false) (fun p0 b0 b1 _ _=>((decide (q0=p0)).and ((h0 b0).and (h1 b1)))) (fun _ _ _ _ _=>false) (fun _ _ _ _ _ _=>false) (fun _ _ _ _=>false) (fun _ _ _ _=>false) (fun _ _ _ _=>false) (fun _ _ _ _=>false) (fun _ _ _ _=>false) (fun _ _ _ _=>false) (fun _ _=>false) (fun _ _ _ _=>false) (fun _ _ _ _=>false) (fun _ _ _ _ _ _=>false) (fun _ _ _ _ _ _=>false) (fun _ _=>false) (fun _ _ _ _=>false) (fun _ _ _ _ _ _=>false) (fun _ _ _ _=>false) (fun _ _ _ _ _ _=>false) (fun _=>false) (fun _ _ _ _ _ _=>false) (fun _ _ _ _=>false) (fun _ _ _ _ _ _ _ _ _ _ _ _ _ _ _ _ _=>false) (fun _ _ _ _ _ _ _ _ _ _ _ _ _ _ _ _ _=>false) (fun _ _ _ _ _ _ _ _ _ _ _ _ _ _ _ _ _=>false) t)
    (fun q0 _ _ h0 h1 t=>T.rec (motive:=fun _=>Bool) (fun _=>false) false false (fun _=>false) (fun _=>false) (fun _=>false) (fun _ _ _ _=>false) (fun _ _ _ _=>false) (fun _ _ _ _=>false) (fun _ _ _=>false) (fun _ _ _ _=>false) (fun _ _ _ _=>false) (fun _ _ _ _ _=>false) (fun p0 b0 b1 _ _=>((decide (q0=p0)).and ((h0 b0).and (h1 b1)))) (fun _ _ _ _ _ _=>false) (fun _ _ _ _=>false) (fun _ _ _ _=>false) (fun _ _ _ _=>false) (fun _ _ _ _=>false) (fun _ _ _ _=>false) (fun _ _ _ _=>false) (fun _ _=>false) (fun _ _ _ _=>false) (fun _ _ _ _=>false) (fun _ _ _ _ _ _=>false) (fun _ _ _ _ _ _=>false) (fun _ _=>false) (fun _ _ _ _=>false) (fun _ _ _ _ _ _=>false) (fun _ _ _ _=>false) (fun _ _ _ _ _ _=>false) (fun _=>false) (fun _ _ _ _ _ _=>false) (fun _ _ _ _=>false) (fun _ _ _ _ _ _ _ _ _ _ _ _ _ _ _ _ _=>false) (fun _ _ _ _ _ _ _ _ _ _ _ _ _ _ _ _ _=>false) (fun _ _ _ _ _ _ _ _ _ _ _ _ _ _ _ _ _=>false) t)
    (fun q0 q1 _ _ h0 h1 t=>T.rec (motive:=fun _=>Bool) (fun _=>false) false false (fun _=>false) (fun _=>false) (fun _=>false) (fun _ _ _ _=>false) (fun _ _ _ _=>false) (fun _ _ _ _=>false) (fun _ _ _=>false) (fun _ _ _ _=>false) (fun _ _ _ _=>false) (fun _ _ _ _ _=>false) (fun _ _ _ _ _=>false) (fun p0 p1 b0 b1 _ _=>((decide (q0=p0)).and ((decide (q1=p1)).and ((h0 b0).and (h1 b1))))) (fun _ _ _ _=>false) (fun _ _ _ _=>false) (fun _ _ _ _=>false) (fun _ _ _ _=>false) (fun _ _ _ _=>false) (fun _ _ _ _=>false) (fun _ _=>false) (fun _ _ _ _=>false) (fun _ _ _ _=>false) (fun _ _ _ _ _ _=>false) (fun _ _ _ _ _ _=>false) (fun _ _=>false) (fun _ _ _ _=>false) (fun _ _ _ _ _ _=>false) (fun _ _ _ _=>false) (fun _ _ _ _ _ _=>false) (fun _=>false) (fun _ _ _ _ _ _=>false) (fun _ _ _ _=>false) (fun _ _ _ _ _ _ _ _ _ _ _ _ _ _ _ _ _=>false) (fun _ _ _ _ _ _ _ _ _ _ _ _ _ _ _ _ _=>false) (fun _ _ _ _ _ _ _ _ _ _ _ _ _ _ _ _ _=>false) t)
    (fun _ _ h0 h1 t=>T.rec (motive:=fun _=>Bool) (fun _=>false) false false (fun _=>false) (fun _=>false) (fun _=>false) (fun _ _ _ _=>false) (fun _ _ _ _=>false) (fun _ _ _ _=>false) (fun _ _ _=>false) (fun _ _ _ _=>false) (fun _ _ _ _=>false) (fun _ _ _ _ _=>false) (fun _ _ _ _ _=>false) (fun _ _ _ _ _ _=>false) (fun b0 b1 _ _=>((h0 b0).and (h1 b1))) (fun _ _ _ _=>false) (fun _ _ _ _=>false) (fun _ _ _ _=>false) (fun _ _ _ _=>false) (fun _ _ _ _=>false) (fun _ _=>false) (fun _ _ _ _=>false) (fun _ _ _ _=>false) (fun _ _ _ _ _ _=>false) (fun _ _ _ _ _ _=>false) (fun _ _=>false) (fun _ _ _ _=>false) (fun _ _ _ _ _ _=>false) (fun _ _ _ _=>false) (fun _ _ _ _ _ _=>false) (fun _=>false) (fun _ _ _ _ _ _=>false) (fun _ _ _ _=>false) (fun _ _ _ _ _ _ _ _ _ _ _ _ _ _ _ _ _=>false) (fun _ _ _ _ _ _ _ _ _ _ _ _ _ _ _ _ _=>false) (fun _ _ _ _ _ _ _ _ _ _ _ _ _ _ _ _ _=>false) t)
    (fun _ _ h0 h1 t=>T.rec (motive:=fun _=>Bool) (fun _=>false) false false (fun _=>false) (fun _=>false) (fun _=>false) (fun _ _ _ _=>false) (fun _ _ _ _=>false) (fun _ _ _ _=>false) (fun _ _ _=>false) (fun _ _ _ _=>false) (fun _ _ _ _=>false) (fun _ _ _ _ _=>false) (fun _ _ _ _ _=>false) (fun _ _ _ _ _ _=>false) (fun _ _ _ _=>false) (fun b0 b1 _ _=>((h0 b0).and (h1 b1))) (fun _ _ _ _=>false) (fun _ _ _ _=>false) (fun _ _ _ _=>false) (fun _ _ _ _=>false) (fun _ _=>false) (fun _ _ _ _=>false) (fun _ _ _ _=>false) (fun _ _ _ _ _ _=>false) (fun _ _ _ _ _ _=>false) (fun _ _=>false) (fun _ _ _ _=>false) (fun _ _ _ _ _ _=>false) (fun _ _ _ _=>false) (fun _ _ _ _ _ _=>false) (fun _=>false) (fun _ _ _ _ _ _=>false) (fun _ _ _ _=>false) (fun _ _ _ _ _ _ _ _ _ _ _ _ _ _ _ _ _=>false) (fun _ _ _ _ _ _ _ _ _ _ _ _ _ _ _ _ _=>false) (fun _ _ _ _ _ _ _ _ _ _ _ _ _ _ _ _ _=>false) t)
    (fun _ _ h0 h1 t=>T.rec (motive:=fun _=>Bool) (fun _=>false) false false (fun _=>false) (fun _=>false) (fun _=>false) (fun _ _ _ _=>false) (fun _ _ _ _=>false) (fun _ _ _ _=>false) (fun _ _ _=>false) (fun _ _ _ _=>false) (fun _ _ _ _=>false) (fun _ _ _ _ _=>false) (fun _ _ _ _ _=>false) (fun _ _ _ _ _ _=>false) (fun _ _ _ _=>false) (fun _ _ _ _=>false) (fun b0 b1 _ _=>((h0 b0).and (h1 b1))) (fun _ _ _ _=>false) (fun _ _ _ _=>false) (fun _ _ _ _=>false) (fun _ _=>false) (fun _ _ _ _=>false) (fun _ _ _ _=>false) (fun _ _ _ _ _ _=>false) (fun _ _ _ _ _ _=>false) (fun _ _=>false) (fun _ _ _ _=>false) (fun _ _ _ _ _ _=>false) (fun _ _ _ _=>false) (fun _ _ _ _ _ _=>false) (fun _=>false) (fun _ _ _ _ _ _=>false) (fun _ _ _ _=>false) (fun _ _ _ _ _ _ _ _ _ _ _ _ _ _ _ _ _=>false) (fun _ _ _ _ _ _ _ _ _ _ _ _ _ _ _ _ _=>false) (fun _ _ _ _ _ _ _ _ _ _ _ _ _ _ _ _ _=>false) t)
    (fun _ _ h0 h1 t=>T.rec (motive:=fun _=>Bool) (fun _=>false) false false (fun _=>false) (fun _=>false) (fun _=>false) (fun _ _ _ _=>false) (fun _ _ _ _=>false) (fun _ _ _ _=>false) (fun _ _ _=>false) (fun _ _ _ _=>false) (fun _ _ _ _=>false) (fun _ _ _ _ _=>false) (fun _ _ _ _ _=>false) (fun _ _ _ _ _ _=>false) (fun _ _ _ _=>false) (fun _ _ _ _=>false) (fun _ _ _ _=>false) (fun b0 b1 _ _=>((h0 b0).and (h1 b1))) (fun _ _ _ _=>false) (fun _ _ _ _=>false) (fun _ _=>false) (fun _ _ _ _=>false) (fun _ _ _ _=>false) (fun _ _ _ _ _ _=>false) (fun _ _ _ _ _ _=>false) (fun _ _=>false) (fun _ _ _ _=>false) (fun _ _ _ _ _ _=>false) (fun _ _ _ _=>false) (fun _ _ _ _ _ _=>false) (fun _=>false) (fun _ _ _ _ _ _=>false) (fun _ _ _ _=>false) (fun _ _ _ _ _ _ _ _ _ _ _ _ _ _ _ _ _=>false) (fun _ _ _ _ _ _ _ _ _ _ _ _ _ _ _ _ _=>false) (fun _ _ _ _ _ _ _ _ _ _ _ _ _ _ _ _ _=>false) t)
    (fun _ _ h0 h1 t=>T.rec (motive:=fun _=>Bool) (fun _=>false) false false (fun _=>false) (fun _=>false) (fun _=>false) (fun _ _ _ _=>false) (fun _ _ _ _=>false) (fun _ _ _ _=>false) (fun _ _ _=>false) (fun _ _ _ _=>false) (fun _ _ _ _=>false) (fun _ _ _ _ _=>false) (fun _ _ _ _ _=>false) (fun _ _ _ _ _ _=>false) (fun _ _ _ _=>false) (fun _ _ _ _=>false) (fun _ _ _ _=>false) (fun _ _ _ _=>false) (fun b0 b1 _ _=>((h0 b0).and (h1 b1))) (fun _ _ _ _=>false) (fun _ _=>false) (fun _ _ _ _=>false) (fun _ _ _ _=>false) (fun _ _ _ _ _ _=>false) (fun _ _ _ _ _ _=>false) (fun _ _=>false) (fun _ _ _ _=>false) (fun _ _ _ _ _ _=>false) (fun _ _ _ _=>false) (fun _ _ _ _ _ _=>false) (fun _=>false) (fun _ _ _ _ _ _=>false) (fun _ _ _ _=>false) (fun _ _ _ _ _ _ _ _ _ _ _ _ _ _ _ _ _=>false) (fun _ _ _ _ _ _ _ _ _ _ _ _ _ _ _ _ _=>false) (fun _ _ _ _ _ _ _ _ _ _ _ _ _ _ _ _ _=>false) t)
    (fun _ _ h0 h1 t=>T.rec (motive:=fun _=>Bool) (fun _=>false) false false (fun _=>false) (fun _=>false) (fun _=>false) (fun _ _ _ _=>false) (fun _ _ _ _=>false) (fun _ _ _ _=>false) (fun _ _ _=>false) (fun _ _ _ _=>false) (fun _ _ _ _=>false) (fun _ _ _ _ _=>false) (fun _ _ _ _ _=>false) (fun _ _ _ _ _ _=>false) (fun _ _ _ _=>false) (fun _ _ _ _=>false) (fun _ _ _ _=>false) (fun _ _ _ _=>false) (fun _ _ _ _=>false) (fun b0 b1 _ _=>((h0 b0).and (h1 b1))) (fun _ _=>false) (fun _ _ _ _=>false) (fun _ _ _ _=>false) (fun _ _ _ _ _ _=>false) (fun _ _ _ _ _ _=>false) (fun _ _=>false) (fun _ _ _ _=>false) (fun _ _ _ _ _ _=>false) (fun _ _ _ _=>false) (fun _ _ _ _ _ _=>false) (fun _=>false) (fun _ _ _ _ _ _=>false) (fun _ _ _ _=>false) (fun _ _ _ _ _ _ _ _ _ _ _ _ _ _ _ _ _=>false) (fun _ _ _ _ _ _ _ _ _ _ _ _ _ _ _ _ _=>false) (fun _ _ _ _ _ _ _ _ _ _ _ _ _ _ _ _ _=>false) t)
    (fun _ h0 t=>T.rec (motive:=fun _=>Bool) (fun _=>false) false false (fun _=>false) (fun _=>false) (fun _=>false) (fun _ _ _ _=>false) (fun _ _ _ _=>false) (fun _ _ _ _=>false) (fun _ _ _=>false) (fun _ _ _ _=>false) (fun _ _ _ _=>false) (fun _ _ _ _ _=>false) (fun _ _ _ _ _=>false) (fun _ _ _ _ _ _=>false) (fun _ _ _ _=>false) (fun _ _ _ _=>false) (fun _ _ _ _=>false) (fun _ _ _ _=>false) (fun _ _ _ _=>false) (fun _ _ _ _=>false) (fun b0 _=>(h0 b0)) (fun _ _ _ _=>false) (fun _ _ _ _=>false) (fun _ _ _ _ _ _=>false) (fun _ _ _ _ _ _=>false) (fun _ _=>false) (fun _ _ _ _=>false) (fun _ _ _ _ _ _=>false) (fun _ _ _ _=>false) (fun _ _ _ _ _ _=>false) (fun _=>false) (fun _ _ _ _ _ _=>false) (fun _ _ _ _=>false) (fun _ _ _ _ _ _ _ _ _ _ _ _ _ _ _ _ _=>false) (fun _ _ _ _ _ _ _ _ _ _ _ _ _ _ _ _ _=>false) (fun _ _ _ _ _ _ _ _ _ _ _ _ _ _ _ _ _=>false) t)
    (fun _ _ h0 h1 t=>T.rec (motive:=fun _=>Bool) (fun _=>false) false false (fun _=>false) (fun _=>false) (fun _=>false) (fun _ _ _ _=>false) (fun _ _ _ _=>false) (fun _ _ _ _=>false) (fun _ _ _=>false) (fun _ _ _ _=>false) (fun _ _ _ _=>false) (fun _ _ _ _ _=>false) (fun _ _ _ _ _=>false) (fun _ _ _ _ _ _=>false) (fun _ _ _ _=>false) (fun _ _ _ _=>false) (fun _ _ _ _=>false) (fun _ _ _ _=>false) (fun _ _ _ _=>false) (fun _ _ _ _=>false) (fun _ _=>false) (fun b0 b1 _ _=>((h0 b0).and (h1 b1))) (fun _ _ _ _=>false) (fun _ _ _ _ _ _=>false) (fun _ _ _ _ _ _=>false) (fun _ _=>false) (fun _ _ _ _=>false) (fun _ _ _ _ _ _=>false) (fun _ _ _ _=>false) (fun _ _ _ _ _ _=>false) (fun _=>false) (fun _ _ _ _ _ _=>false) (fun _ _ _ _=>false) (fun _ _ _ _ _ _ _ _ _ _ _ _ _ _ _ _ _=>false) (fun _ _ _ _ _ _ _ _ _ _ _ _ _ _ _ _ _=>false) (fun _ _ _ _ _ _ _ _ _ _ _ _ _ _ _ _ _=>false) t)
    (fun _ _ h0 h1 t=>T.rec (motive:=fun _=>Bool) (fun _=>false) false false (fun _=>false) (fun _=>false) (fun _=>false) (fun _ _ _ _=>false) (fun _ _ _ _=>false) (fun _ _ _ _=>false) (fun _ _ _=>false) (fun _ _ _ _=>false) (fun _ _ _ _=>false) (fun _ _ _ _ _=>false) (fun _ _ _ _ _=>false) (fun _ _ _ _ _ _=>false) (fun _ _ _ _=>false) (fun _ _ _ _=>false) (fun _ _ _ _=>false) (fun _ _ _ _=>false) (fun _ _ _ _=>false) (fun _ _ _ _=>false) (fun _ _=>false) (fun _ _ _ _=>false) (fun b0 b1 _ _=>((h0 b0).and (h1 b1))) (fun _ _ _ _ _ _=>false) (fun _ _ _ _ _ _=>false) (fun _ _=>false) (fun _ _ _ _=>false) (fun _ _ _ _ _ _=>false) (fun _ _ _ _=>false) (fun _ _ _ _ _ _=>false) (fun _=>false) (fun _ _ _ _ _ _=>false) (fun _ _ _ _=>false) (fun _ _ _ _ _ _ _ _ _ _ _ _ _ _ _ _ _=>false) (fun _ _ _ _ _ _ _ _ _ _ _ _ _ _ _ _ _=>false) (fun _ _ _ _ _ _ _ _ _ _ _ _ _ _ _ _ _=>false) t)
    (fun _ _ _ h0 h1 h2 t=>T.rec (motive:=fun _=>Bool) (fun _=>false) false false (fun _=>false) (fun _=>false) (fun _=>false) (fun _ _ _ _=>false) (fun _ _ _ _=>false) (fun _ _ _ _=>false) (fun _ _ _=>false) (fun _ _ _ _=>false) (fun _ _ _ _=>false) (fun _ _ _ _ _=>false) (fun _ _ _ _ _=>false) (fun _ _ _ _ _ _=>false) (fun _ _ _ _=>false) (fun _ _ _ _=>false) (fun _ _ _ _=>false) (fun _ _ _ _=>false) (fun _ _ _ _=>false) (fun _ _ _ _=>false) (fun _ _=>false) (fun _ _ _ _=>false) (fun _ _ _ _=>false) (fun b0 b1 b2 _ _ _=>((h0 b0).and ((h1 b1).and (h2 b2)))) (fun _ _ _ _ _ _=>false) (fun _ _=>false) (fun _ _ _ _=>false) (fun _ _ _ _ _ _=>false) (fun _ _ _ _=>false) (fun _ _ _ _ _ _=>false) (fun _=>false) (fun _ _ _ _ _ _=>false) (fun _ _ _ _=>false) (fun _ _ _ _ _ _ _ _ _ _ _ _ _ _ _ _ _=>false) (fun _ _ _ _ _ _ _ _ _ _ _ _ _ _ _ _ _=>false) (fun _ _ _ _ _ _ _ _ _ _ _ _ _ _ _ _ _=>false) t)
    (fun _ _ _ h0 h1 h2 t=>T.rec (motive:=fun _=>Bool) (fun _=>false) false false (fun _=>false) (fun _=>false) (fun _=>false) (fun _ _ _ _=>false) (fun _ _ _ _=>false) (fun _ _ _ _=>false) (fun _ _ _=>false) (fun _ _ _ _=>false) (fun _ _ _ _=>false) (fun _ _ _ _ _=>false) (fun _ _ _ _ _=>false) (fun _ _ _ _ _ _=>false) (fun _ _ _ _=>false) (fun _ _ _ _=>false) (fun _ _ _ _=>false) (fun _ _ _ _=>false) (fun _ _ _ _=>false) (fun _ _ _ _=>false) (fun _ _=>false) (fun _ _ _ _=>false) (fun _ _ _ _=>false) (fun _ _ _ _ _ _=>false) (fun b0 b1 b2 _ _ _=>((h0 b0).and ((h1 b1).and (h2 b2)))) (fun _ _=>false) (fun _ _ _ _=>false) (fun _ _ _ _ _ _=>false) (fun _ _ _ _=>false) (fun _ _ _ _ _ _=>false) (fun _=>false) (fun _ _ _ _ _ _=>false) (fun _ _ _ _=>false) (fun _ _ _ _ _ _ _ _ _ _ _ _ _ _ _ _ _=>false) (fun _ _ _ _ _ _ _ _ _ _ _ _ _ _ _ _ _=>false) (fun _ _ _ _ _ _ _ _ _ _ _ _ _ _ _ _ _=>false) t)
    (fun _ h0 t=>T.rec (motive:=fun _=>Bool) (fun _=>false) false false (fun _=>false) (fun _=>false) (fun _=>false) (fun _ _ _ _=>false) (fun _ _ _ _=>false) (fun _ _ _ _=>false) (fun _ _ _=>false) (fun _ _ _ _=>false) (fun _ _ _ _=>false) (fun _ _ _ _ _=>false) (fun _ _ _ _ _=>false) (fun _ _ _ _ _ _=>false) (fun _ _ _ _=>false) (fun _ _ _ _=>false) (fun _ _ _ _=>false) (fun _ _ _ _=>false) (fun _ _ _ _=>false) (fun _ _ _ _=>false) (fun _ _=>false) (fun _ _ _ _=>false) (fun _ _ _ _=>false) (fun _ _ _ _ _ _=>false) (fun _ _ _ _ _ _=>false) (fun b0 _=>(h0 b0)) (fun _ _ _ _=>false) (fun _ _ _ _ _ _=>false) (fun _ _ _ _=>false) (fun _ _ _ _ _ _=>false) (fun _=>false) (fun _ _ _ _ _ _=>false) (fun _ _ _ _=>false) (fun _ _ _ _ _ _ _ _ _ _ _ _ _ _ _ _ _=>false) (fun _ _ _ _ _ _ _ _ _ _ _ _ _ _ _ _ _=>false) (fun _ _ _ _ _ _ _ _ _ _ _ _ _ _ _ _ _=>false) t)
    (fun _ _ h0 h1 t=>T.rec (motive:=fun _=>Bool) (fun _=>false) false false (fun _=>false) (fun _=>false) (fun _=>false) (fun _ _ _ _=>false) (fun _ _ _ _=>false) (fun _ _ _ _=>false) (fun _ _ _=>false) (fun _ _ _ _=>false) (fun _ _ _ _=>false) (fun _ _ _ _ _=>false) (fun _ _ _ _ _=>false) (fun _ _ _ _ _ _=>false) (fun _ _ _ _=>false) (fun _ _ _ _=>false) (fun _ _ _ _=>false) (fun _ _ _ _=>false) (fun _ _ _ _=>false) (fun _ _ _ _=>false) (fun _ _=>false) (fun _ _ _ _=>false) (fun _ _ _ _=>false) (fun _ _ _ _ _ _=>false) (fun _ _ _ _ _ _=>false) (fun _ _=>false) (fun b0 b1 _ _=>((h0 b0).and (h1 b1))) (fun _ _ _ _ _ _=>false) (fun _ _ _ _=>false) (fun _ _ _ _ _ _=>false) (fun _=>false) (fun _ _ _ _ _ _=>false) (fun _ _ _ _=>false) (fun _ _ _ _ _ _ _ _ _ _ _ _ _ _ _ _ _=>false) (fun _ _ _ _ _ _ _ _ _ _ _ _ _ _ _ _ _=>false) (fun _ _ _ _ _ _ _ _ _ _ _ _ _ _ _ _ _=>false) t)
    (fun _ _ _ h0 h1 h2 t=>T.rec (motive:=fun _=>Bool) (fun _=>false) false false (fun _=>false) (fun _=>false) (fun _=>false) (fun _ _ _ _=>false) (fun _ _ _ _=>false) (fun _ _ _ _=>false) (fun _ _ _=>false) (fun _ _ _ _=>false) (fun _ _ _ _=>false) (fun _ _ _ _ _=>false) (fun _ _ _ _ _=>false) (fun _ _ _ _ _ _=>false) (fun _ _ _ _=>false) (fun _ _ _ _=>false) (fun _ _ _ _=>false) (fun _ _ _ _=>false) (fun _ _ _ _=>false) (fun _ _ _ _=>false) (fun _ _=>false) (fun _ _ _ _=>false) (fun _ _ _ _=>false) (fun _ _ _ _ _ _=>false) (fun _ _ _ _ _ _=>false) (fun _ _=>false) (fun _ _ _ _=>false) (fun b0 b1 b2 _ _ _=>((h0 b0).and ((h1 b1).and (h2 b2)))) (fun _ _ _ _=>false) (fun _ _ _ _ _ _=>false) (fun _=>false) (fun _ _ _ _ _ _=>false) (fun _ _ _ _=>false) (fun _ _ _ _ _ _ _ _ _ _ _ _ _ _ _ _ _=>false) (fun _ _ _ _ _ _ _ _ _ _ _ _ _ _ _ _ _=>false) (fun _ _ _ _ _ _ _ _ _ _ _ _ _ _ _ _ _=>false) t)
    (fun _ _ h0 h1 t=>T.rec (motive:=fun _=>Bool) (fun _=>false) false false (fun _=>false) (fun _=>false) (fun _=>false) (fun _ _ _ _=>false) (fun _ _ _ _=>false) (fun _ _ _ _=>false) (fun _ _ _=>false) (fun _ _ _ _=>false) (fun _ _ _ _=>false) (fun _ _ _ _ _=>false) (fun _ _ _ _ _=>false) (fun _ _ _ _ _ _=>false) (fun _ _ _ _=>false) (fun _ _ _ _=>false) (fun _ _ _ _=>false) (fun _ _ _ _=>false) (fun _ _ _ _=>false) (fun _ _ _ _=>false) (fun _ _=>false) (fun _ _ _ _=>false) (fun _ _ _ _=>false) (fun _ _ _ _ _ _=>false) (fun _ _ _ _ _ _=>false) (fun _ _=>false) (fun _ _ _ _=>false) (fun _ _ _ _ _ _=>false) (fun b0 b1 _ _=>((h0 b0).and (h1 b1))) (fun _ _ _ _ _ _=>false) (fun _=>false) (fun _ _ _ _ _ _=>false) (fun _ _ _ _=>false) (fun _ _ _ _ _ _ _ _ _ _ _ _ _ _ _ _ _=>false) (fun _ _ _ _ _ _ _ _ _ _ _ _ _ _ _ _ _=>false) (fun _ _ _ _ _ _ _ _ _ _ _ _ _ _ _ _ _=>false) t)
    (fun _ _ _ h0 h1 h2 t=>T.rec (motive:=fun _=>Bool) (fun _=>false) false false (fun _=>false) (fun _=>false) (fun _=>false) (fun _ _ _ _=>false) (fun _ _ _ _=>false) (fun _ _ _ _=>false) (fun _ _ _=>false) (fun _ _ _ _=>false) (fun _ _ _ _=>false) (fun _ _ _ _ _=>false) (fun _ _ _ _ _=>false) (fun _ _ _ _ _ _=>false) (fun _ _ _ _=>false) (fun _ _ _ _=>false) (fun _ _ _ _=>false) (fun _ _ _ _=>false) (fun _ _ _ _=>false) (fun _ _ _ _=>false) (fun _ _=>false) (fun _ _ _ _=>false) (fun _ _ _ _=>false) (fun _ _ _ _ _ _=>false) (fun _ _ _ _ _ _=>false) (fun _ _=>false) (fun _ _ _ _=>false) (fun _ _ _ _ _ _=>false) (fun _ _ _ _=>false) (fun b0 b1 b2 _ _ _=>((h0 b0).and ((h1 b1).and (h2 b2)))) (fun _=>false) (fun _ _ _ _ _ _=>false) (fun _ _ _ _=>false) (fun _ _ _ _ _ _ _ _ _ _ _ _ _ _ _ _ _=>false) (fun _ _ _ _ _ _ _ _ _ _ _ _ _ _ _ _ _=>false) (fun _ _ _ _ _ _ _ _ _ _ _ _ _ _ _ _ _=>false) t)
    (fun q0 t=>T.rec (motive:=fun _=>Bool) (fun _=>false) false false (fun _=>false) (fun _=>false) (fun _=>false) (fun _ _ _ _=>false) (fun _ _ _ _=>false) (fun _ _ _ _=>false) (fun _ _ _=>false) (fun _ _ _ _=>false) (fun _ _ _ _=>false) (fun _ _ _ _ _=>false) (fun _ _ _ _ _=>false) (fun _ _ _ _ _ _=>false) (fun _ _ _ _=>false) (fun _ _ _ _=>false) (fun _ _ _ _=>false) (fun _ _ _ _=>false) (fun _ _ _ _=>false) (fun _ _ _ _=>false) (fun _ _=>false) (fun _ _ _ _=>false) (fun _ _ _ _=>false) (fun _ _ _ _ _ _=>false) (fun _ _ _ _ _ _=>false) (fun _ _=>false) (fun _ _ _ _=>false) (fun _ _ _ _ _ _=>false) (fun _ _ _ _=>false) (fun _ _ _ _ _ _=>false) (fun p0=>(decide (q0=p0))) (fun _ _ _ _ _ _=>false) (fun _ _ _ _=>false) (fun _ _ _ _ _ _ _ _ _ _ _ _ _ _ _ _ _=>false) (fun _ _ _ _ _ _ _ _ _ _ _ _ _ _ _ _ _=>false) (fun _ _ _ _ _ _ _ _ _ _ _ _ _ _ _ _ _=>false) t)
    (fun _ _ _ h0 h1 h2 t=>T.rec (motive:=fun _=>Bool) (fun _=>false) false false (fun _=>false) (fun _=>false) (fun _=>false) (fun _ _ _ _=>false) (fun _ _ _ _=>false) (fun _ _ _ _=>false) (fun _ _ _=>false) (fun _ _ _ _=>false) (fun _ _ _ _=>false) (fun _ _ _ _ _=>false) (fun _ _ _ _ _=>false) (fun _ _ _ _ _ _=>false) (fun _ _ _ _=>false) (fun _ _ _ _=>false) (fun _ _ _ _=>false) (fun _ _ _ _=>false) (fun _ _ _ _=>false) (fun _ _ _ _=>false) (fun _ _=>false) (fun _ _ _ _=>false) (fun _ _ _ _=>false) (fun _ _ _ _ _ _=>false) (fun _ _ _ _ _ _=>false) (fun _ _=>false) (fun _ _ _ _=>false) (fun _ _ _ _ _ _=>false) (fun _ _ _ _=>false) (fun _ _ _ _ _ _=>false) (fun _=>false) (fun b0 b1 b2 _ _ _=>((h0 b0).and ((h1 b1).and (h2 b2)))) (fun _ _ _ _=>false) (fun _ _ _ _ _ _ _ _ _ _ _ _ _ _ _ _ _=>false) (fun _ _ _ _ _ _ _ _ _ _ _ _ _ _ _ _ _=>false) (fun _ _ _ _ _ _ _ _ _ _ _ _ _ _ _ _ _=>false) t)
    (fun _ _ h0 h1 t=>T.rec (motive:=fun _=>Bool) (fun _=>false) false false (fun _=>false) (fun _=>false) (fun _=>false) (fun _ _ _ _=>false) (fun _ _ _ _=>false) (fun _ _ _ _=>false) (fun _ _ _=>false) (fun _ _ _ _=>false) (fun _ _ _ _=>false) (fun _ _ _ _ _=>false) (fun _ _ _ _ _=>false) (fun _ _ _ _ _ _=>false) (fun _ _ _ _=>false) (fun _ _ _ _=>false) (fun _ _ _ _=>false) (fun _ _ _ _=>false) (fun _ _ _ _=>false) (fun _ _ _ _=>false) (fun _ _=>false) (fun _ _ _ _=>false) (fun _ _ _ _=>false) (fun _ _ _ _ _ _=>false) (fun _ _ _ _ _ _=>false) (fun _ _=>false) (fun _ _ _ _=>false) (fun _ _ _ _ _ _=>false) (fun _ _ _ _=>false) (fun _ _ _ _ _ _=>false) (fun _=>false) (fun _ _ _ _ _ _=>false) (fun b0 b1 _ _=>((h0 b0).and (h1 b1))) (fun _ _ _ _ _ _ _ _ _ _ _ _ _ _ _ _ _=>false) (fun _ _ _ _ _ _ _ _ _ _ _ _ _ _ _ _ _=>false) (fun _ _ _ _ _ _ _ _ _ _ _ _ _ _ _ _ _=>false) t)
    (fun q0 _ _ _ _ _ _ _ _ h0 h1 h2 h3 h4 h5 h6 h7 t=>T.rec (motive:=fun _=>Bool) (fun _=>false) false false (fun _=>false) (fun _=>false) (fun _=>false) (fun _ _ _ _=>false) (fun _ _ _ _=>false) (fun _ _ _ _=>false) (fun _ _ _=>false) (fun _ _ _ _=>false) (fun _ _ _ _=>false) (fun _ _ _ _ _=>false) (fun _ _ _ _ _=>false) (fun _ _ _ _ _ _=>false) (fun _ _ _ _=>false) (fun _ _ _ _=>false) (fun _ _ _ _=>false) (fun _ _ _ _=>false) (fun _ _ _ _=>false) (fun _ _ _ _=>false) (fun _ _=>false) (fun _ _ _ _=>false) (fun _ _ _ _=>false) (fun _ _ _ _ _ _=>false) (fun _ _ _ _ _ _=>false) (fun _ _=>false) (fun _ _ _ _=>false) (fun _ _ _ _ _ _=>false) (fun _ _ _ _=>false) (fun _ _ _ _ _ _=>false) (fun _=>false) (fun _ _ _ _ _ _=>false) (fun _ _ _ _=>false) (fun p0 b0 b1 b2 b3 b4 b5 b6 b7 _ _ _ _ _ _ _ _=>((Nat.beq q0 p0).and ((h0 b0).and ((h1 b1).and ((h2 b2).and ((h3 b3).and ((h4 b4).and ((h5 b5).and ((h6 b6).and (h7 b7)))))))))) (fun _ _ _ _ _ _ _ _ _ _ _ _ _ _ _ _ _=>false) (fun _ _ _ _ _ _ _ _ _ _ _ _ _ _ _ _ _=>false) t)
    (fun q0 _ _ _ _ _ _ _ _ h0 h1 h2 h3 h4 h5 h6 h7 t=>T.rec (motive:=fun _=>Bool) (fun _=>false) false false (fun _=>false) (fun _=>false) (fun _=>false) (fun _ _ _ _=>false) (fun _ _ _ _=>false) (fun _ _ _ _=>false) (fun _ _ _=>false) (fun _ _ _ _=>false) (fun _ _ _ _=>false) (fun _ _ _ _ _=>false) (fun _ _ _ _ _=>false) (fun _ _ _ _ _ _=>false) (fun _ _ _ _=>false) (fun _ _ _ _=>false) (fun _ _ _ _=>false) (fun _ _ _ _=>false) (fun _ _ _ _=>false) (fun _ _ _ _=>false) (fun _ _=>false) (fun _ _ _ _=>false) (fun _ _ _ _=>false) (fun _ _ _ _ _ _=>false) (fun _ _ _ _ _ _=>false) (fun _ _=>false) (fun _ _ _ _=>false) (fun _ _ _ _ _ _=>false) (fun _ _ _ _=>false) (fun _ _ _ _ _ _=>false) (fun _=>false) (fun _ _ _ _ _ _=>false) (fun _ _ _ _=>false) (fun _ _ _ _ _ _ _ _ _ _ _ _ _ _ _ _ _=>false) (fun p0 b0 b1 b2 b3 b4 b5 b6 b7 _ _ _ _ _ _ _ _=>((Nat.beq q0 p0).and ((h0 b0).and ((h1 b1).and ((h2 b2).and ((h3 b3).and ((h4 b4).and ((h5 b5).and ((h6 b6).and (h7 b7)))))))))) (fun _ _ _ _ _ _ _ _ _ _ _ _ _ _ _ _ _=>false) t)
    (fun q0 _ _ _ _ _ _ _ _ h0 h1 h2 h3 h4 h5 h6 h7 t=>T.rec (motive:=fun _=>Bool) (fun _=>false) false false (fun _=>false) (fun _=>false) (fun _=>false) (fun _ _ _ _=>false) (fun _ _ _ _=>false) (fun _ _ _ _=>false) (fun _ _ _=>false) (fun _ _ _ _=>false) (fun _ _ _ _=>false) (fun _ _ _ _ _=>false) (fun _ _ _ _ _=>false) (fun _ _ _ _ _ _=>false) (fun _ _ _ _=>false) (fun _ _ _ _=>false) (fun _ _ _ _=>false) (fun _ _ _ _=>false) (fun _ _ _ _=>false) (fun _ _ _ _=>false) (fun _ _=>false) (fun _ _ _ _=>false) (fun _ _ _ _=>false) (fun _ _ _ _ _ _=>false) (fun _ _ _ _ _ _=>false) (fun _ _=>false) (fun _ _ _ _=>false) (fun _ _ _ _ _ _=>false) (fun _ _ _ _=>false) (fun _ _ _ _ _ _=>false) (fun _=>false) (fun _ _ _ _ _ _=>false) (fun _ _ _ _=>false) (fun _ _ _ _ _ _ _ _ _ _ _ _ _ _ _ _ _=>false) (fun _ _ _ _ _ _ _ _ _ _ _ _ _ _ _ _ _=>false) (fun p0 b0 b1 b2 b3 b4 b5 b6 b7 _ _ _ _ _ _ _ _=>((Nat.beq q0 p0).and ((h0 b0).and ((h1 b1).and ((h2 b2).and ((h3 b3).and ((h4 b4).and ((h5 b5).and ((h6 b6).and (h7 b7)))))))))) t)
def T.sameI:T→T→Bool
  | .lit q0,.lit p0=>(decide (q0=p0))
  | .tt,.tt=>true
  | .ff,.ff=>true
  | .iv q0,.iv p0=>(Nat.beq q0 p0)
  | .bv q0,.bv p0=>(Nat.beq q0 p0)
  | .av q0,.av p0=>(Nat.beq q0 p0)
  | .add a0 a1,.add b0 b1=>((T.sameI a0 b0).and (T.sameI a1 b1))
  | .sub a0 a1,.sub b0 b1=>((T.sameI a0 b0).and (T.sameI a1 b1))
  | .mul a0 a1,.mul b0 b1=>((T.sameI a0 b0).and (T.sameI a1 b1))
  | .wrap q0 a0,.wrap p0 b0=>((decide (q0=p0)).and (T.sameI a0 b0))
  | .tdiv a0 a1,.tdiv b0 b1=>((T.sameI a0 b0).and (T.sameI a1 b1))
  | .tmod a0 a1,.tmod b0 b1=>((T.sameI a0 b0).and (T.sameI a1 b1))
  | .shl q0 a0 a1,.shl p0 b0 b1=>((decide (q0=p0)).and ((T.sameI a0 b0).and (T.sameI a1 b1)))
  | .shr q0 a0 a1,.shr p0 b0 b1=>((decide (q0=p0)).and ((T.sameI a0 b0).and (T.sameI a1 b1)))
  | .bits q0 q1 a0 a1,.bits p0 p1 b0 b1=>((decide (q0=p0)).and ((decide (q1=p1)).and ((T.sameI a0 b0).and (T.sameI a1 b1))))
  | .mx a0 a1,.mx b0 b1=>((T.sameI a0 b0).and (T.sameI a1 b1))
  | .mn a0 a1,.mn b0 b1=>((T.sameI a0 b0).and (T.sameI a1 b1))
  | .eq a0 a1,.eq b0 b1=>((T.sameI a0 b0).and (T.sameI a1 b1))
  | .lt a0 a1,.lt b0 b1=>((T.sameI a0 b0).and (T.sameI a1 b1))
  | .le a0 a1,.le b0 b1=>((T.sameI a0 b0).and (T.sameI a1 b1))
  | .beq a0 a1,.beq b0 b1=>((T.sameI a0 b0).and (T.sameI a1 b1))
  | .not a0,.not b0=>(T.sameI a0 b0)
  | .and a0 a1,.and b0 b1=>((T.sameI a0 b0).and (T.sameI a1 b1))
  | .or a0 a1,.or b0 b1=>((T.sameI a0 b0).and (T.sameI a1 b1))
  | .ite a0 a1 a2,.ite b0 b1 b2=>((T.sameI a0 b0).and ((T.sameI a1 b1).and (T.sameI a2 b2)))
  | .bite a0 a1 a2,.bite b0 b1 b2=>((T.sameI a0 b0).and ((T.sameI a1 b1).and (T.sameI a2 b2)))
  | .len a0,.len b0=>(T.sameI a0 b0)
  | .get a0 a1,.get b0 b1=>((T.sameI a0 b0).and (T.sameI a1 b1))
  | .set a0 a1 a2,.set b0 b1 b2=>((T.sameI a0 b0).and ((T.sameI a1 b1).and (T.sameI a2 b2)))
  | .rep a0 a1,.rep b0 b1=>((T.sameI a0 b0).and (T.sameI a1 b1))
  | .cut a0 a1 a2,.cut b0 b1 b2=>((T.sameI a0 b0).and ((T.sameI a1 b1).and (T.sameI a2 b2)))
  | .alit q0,.alit p0=>(decide (q0=p0))
  | .splice a0 a1 a2,.splice b0 b1 b2=>((T.sameI a0 b0).and ((T.sameI a1 b1).and (T.sameI a2 b2)))
  | .aeq a0 a1,.aeq b0 b1=>((T.sameI a0 b0).and (T.sameI a1 b1))
  | .fi q0 a0 a1 a2 a3 a4 a5 a6 a7,.fi p0 b0 b1 b2 b3 b4 b5 b6 b7=>((Nat.beq q0 p0).and ((T.sameI a0 b0).and ((T.sameI a1 b1).and ((T.sameI a2 b2).and ((T.sameI a3 b3).and ((T.sameI a4 b4).and ((T.sameI a5 b5).and ((T.sameI a6 b6).and (T.sameI a7 b7)))))))))
  | .fb q0 a0 a1 a2 a3 a4 a5 a6 a7,.fb p0 b0 b1 b2 b3 b4 b5 b6 b7=>((Nat.beq q0 p0).and ((T.sameI a0 b0).and ((T.sameI a1 b1).and ((T.sameI a2 b2).and ((T.sameI a3 b3).and ((T.sameI a4 b4).and ((T.sameI a5 b5).and ((T.sameI a6 b6).and (T.sameI a7 b7)))))))))
  | .fa q0 a0 a1 a2 a3 a4 a5 a6 a7,.fa p0 b0 b1 b2 b3 b4 b5 b6 b7=>((Nat.beq q0 p0).and ((T.sameI a0 b0).and ((T.sameI a1 b1).and ((T.sameI a2 b2).and ((T.sameI a3 b3).and ((T.sameI a4 b4).and ((T.sameI a5 b5).and ((T.sameI a6 b6).and (T.sameI a7 b7)))))))))
  | _,_=>false
theorem T.same_eq: @T.same= @T.sameI:=by
  funext t
  refine funext ?_
  induction t with
  | lit q0=>intro u;cases u<;>rfl
  | tt=>intro u;cases u<;>rfl
  | ff=>intro u;cases u<;>rfl
  | iv q0=>intro u;cases u<;>rfl
  | bv q0=>intro u;cases u<;>rfl
  | av q0=>intro u;cases u<;>rfl
  | add a0 a1 h0 h1=>
    intro u
    cases u with
    | add b0 b1=>show ((T.same a0 b0).and (T.same a1 b1))=_;rw[h0,h1];rfl
    | _=>rfl
  | sub a0 a1 h0 h1=>
    intro u
    cases u with
    | sub b0 b1=>show ((T.same a0 b0).and (T.same a1 b1))=_;rw[h0,h1];rfl
    | _=>rfl
  | mul a0 a1 h0 h1=>
    intro u
    cases u with
    | mul b0 b1=>show ((T.same a0 b0).and (T.same a1 b1))=_;rw[h0,h1];rfl
    | _=>rfl
  | wrap q0 a0 h0=>
    intro u
    cases u with
    | wrap p0 b0=>show ((decide (q0=p0)).and (T.same a0 b0))=_;rw[h0];rfl
    | _=>rfl
  | tdiv a0 a1 h0 h1=>
    intro u
    cases u with
    | tdiv b0 b1=>show ((T.same a0 b0).and (T.same a1 b1))=_;rw[h0,h1];rfl
    | _=>rfl
  | tmod a0 a1 h0 h1=>
    intro u
    cases u with
    | tmod b0 b1=>show ((T.same a0 b0).and (T.same a1 b1))=_;rw[h0,h1];rfl
    | _=>rfl
  | shl q0 a0 a1 h0 h1=>
    intro u
    cases u with
    | shl p0 b0 b1=>show ((decide (q0=p0)).and ((T.same a0 b0).and (T.same a1 b1)))=_;rw[h0,h1];rfl
    | _=>rfl
  | shr q0 a0 a1 h0 h1=>
    intro u
    cases u with
    | shr p0 b0 b1=>show ((decide (q0=p0)).and ((T.same a0 b0).and (T.same a1 b1)))=_;rw[h0,h1];rfl
    | _=>rfl
  | bits q0 q1 a0 a1 h0 h1=>
    intro u
    cases u with
    | bits p0 p1 b0 b1=>show ((decide (q0=p0)).and ((decide (q1=p1)).and ((T.same a0 b0).and (T.same a1 b1))))=_;rw[h0,h1];rfl
    | _=>rfl
  | mx a0 a1 h0 h1=>
    intro u
    cases u with
    | mx b0 b1=>show ((T.same a0 b0).and (T.same a1 b1))=_;rw[h0,h1];rfl
    | _=>rfl
  | mn a0 a1 h0 h1=>
    intro u
    cases u with
    | mn b0 b1=>show ((T.same a0 b0).and (T.same a1 b1))=_;rw[h0,h1];rfl
    | _=>rfl
  | eq a0 a1 h0 h1=>
    intro u
    cases u with
    | eq b0 b1=>show ((T.same a0 b0).and (T.same a1 b1))=_;rw[h0,h1];rfl
    | _=>rfl
  | lt a0 a1 h0 h1=>
    intro u
    cases u with
    | lt b0 b1=>show ((T.same a0 b0).and (T.same a1 b1))=_;rw[h0,h1];rfl
    | _=>rfl
  | le a0 a1 h0 h1=>
    intro u
    cases u with
    | le b0 b1=>show ((T.same a0 b0).and (T.same a1 b1))=_;rw[h0,h1];rfl
    | _=>rfl
  | beq a0 a1 h0 h1=>
    intro u
    cases u with
    | beq b0 b1=>show ((T.same a0 b0).and (T.same a1 b1))=_;rw[h0,h1];rfl
    | _=>rfl
  | not a0 h0=>
    intro u
    cases u with
    | not b0=>show (T.same a0 b0)=_;rw[h0];rfl
    | _=>rfl
  | and a0 a1 h0 h1=>
    intro u
    cases u with
    | and b0 b1=>show ((T.same a0 b0).and (T.same a1 b1))=_;rw[h0,h1];rfl
    | _=>rfl
  | or a0 a1 h0 h1=>
    intro u
    cases u with
    | or b0 b1=>show ((T.same a0 b0).and (T.same a1 b1))=_;rw[h0,h1];rfl
    | _=>rfl
  | ite a0 a1 a2 h0 h1 h2=>
    intro u
    cases u with
    | ite b0 b1 b2=>show ((T.same a0 b0).and ((T.same a1 b1).and (T.same a2 b2)))=_;rw[h0,h1,h2];rfl
    | _=>rfl
  | bite a0 a1 a2 h0 h1 h2=>
    intro u
    cases u with
    | bite b0 b1 b2=>show ((T.same a0 b0).and ((T.same a1 b1).and (T.same a2 b2)))=_;rw[h0,h1,h2];rfl
    | _=>rfl
  | len a0 h0=>
    intro u
    cases u with
    | len b0=>show (T.same a0 b0)=_;rw[h0];rfl
    | _=>rfl
  | get a0 a1 h0 h1=>
    intro u
    cases u with
    | get b0 b1=>show ((T.same a0 b0).and (T.same a1 b1))=_;rw[h0,h1];rfl
    | _=>rfl
  | set a0 a1 a2 h0 h1 h2=>
    intro u
    cases u with
    | set b0 b1 b2=>show ((T.same a0 b0).and ((T.same a1 b1).and (T.same a2 b2)))=_;rw[h0,h1,h2];rfl
    | _=>rfl
  | rep a0 a1 h0 h1=>
    intro u
    cases u with
    | rep b0 b1=>show ((T.same a0 b0).and (T.same a1 b1))=_;rw[h0,h1];rfl
    | _=>rfl
  | cut a0 a1 a2 h0 h1 h2=>
    intro u
    cases u with
    | cut b0 b1 b2=>show ((T.same a0 b0).and ((T.same a1 b1).and (T.same a2 b2)))=_;rw[h0,h1,h2];rfl
    | _=>rfl
  | alit q0=>intro u;cases u<;>rfl
  | splice a0 a1 a2 h0 h1 h2=>
    intro u
    cases u with
    | splice b0 b1 b2=>show ((T.same a0 b0).and ((T.same a1 b1).and (T.same a2 b2)))=_;rw[h0,h1,h2];rfl
    | _=>rfl
  | aeq a0 a1 h0 h1=>
    intro u
    cases u with
    | aeq b0 b1=>show ((T.same a0 b0).and (T.same a1 b1))=_;rw[h0,h1];rfl
    | _=>rfl
  | fi q0 a0 a1 a2 a3 a4 a5 a6 a7 h0 h1 h2 h3 h4 h5 h6 h7=>
    intro u
    cases u with
    | fi p0 b0 b1 b2 b3 b4 b5 b6 b7=>show ((Nat.beq q0 p0).and ((T.same a0 b0).and ((T.same a1 b1).and ((T.same a2 b2).and ((T.same a3 b3).and ((T.same a4 b4).and ((T.same a5 b5).and ((T.same a6 b6).and (T.same a7 b7)))))))))=_;rw[h0,h1,h2,h3,h4,h5,h6,h7];rfl
    | _=>rfl
  | fb q0 a0 a1 a2 a3 a4 a5 a6 a7 h0 h1 h2 h3 h4 h5 h6 h7=>
    intro u
    cases u with
    | fb p0 b0 b1 b2 b3 b4 b5 b6 b7=>show ((Nat.beq q0 p0).and ((T.same a0 b0).and ((T.same a1 b1).and ((T.same a2 b2).and ((T.same a3 b3).and ((T.same a4 b4).and ((T.same a5 b5).and ((T.same a6 b6).and (T.same a7 b7)))))))))=_;rw[h0,h1,h2,h3,h4,h5,h6,h7];rfl
    | _=>rfl
  | fa q0 a0 a1 a2 a3 a4 a5 a6 a7 h0 h1 h2 h3 h4 h5 h6 h7=>
    intro u
    cases u with
    | fa p0 b0 b1 b2 b3 b4 b5 b6 b7=>show ((Nat.beq q0 p0).and ((T.same a0 b0).and ((T.same a1 b1).and ((T.same a2 b2).and ((T.same a3 b3).and ((T.same a4 b4).and ((T.same a5 b5).and ((T.same a6 b6).and (T.same a7 b7)))))))))=_;rw[h0,h1,h2,h3,h4,h5,h6,h7];rfl
    | _=>rfl
noncomputable def T.sort (t:T):Nat:=T.rec (motive:=fun _=>Nat) (fun _=>0) 1 1 (fun _=>0) (fun _=>1) (fun _=>2) (fun _ _ _ _=>0) (fun _ _ _ _=>0) (fun _ _ _ _=>0) (fun _ _ _=>0) (fun _ _ _ _=>0) (fun _ _ _ _=>0) (fun _ _ _ _ _=>0) (fun _ _ _ _ _=>0) (fun _ _ _ _ _ _=>0) (fun _ _ _ _=>0) (fun _ _ _ _=>0) (fun _ _ _ _=>1) (fun _ _ _ _=>1) (fun _ _ _ _=>1) (fun _ _ _ _=>1) (fun _ _=>1) (fun _ _ _ _=>1) (fun _ _ _ _=>1) (fun _ _ _ _ _ _=>0) (fun _ _ _ _ _ _=>1) (fun _ _=>0) (fun _ _ _ _=>0) (fun _ _ _ _ _ _=>2) (fun _ _ _ _=>2) (fun _ _ _ _ _ _=>2) (fun _=>2) (fun _ _ _ _ _ _=>2) (fun _ _ _ _=>1) (fun _ _ _ _ _ _ _ _ _ _ _ _ _ _ _ _ _=>0) (fun _ _ _ _ _ _ _ _ _ _ _ _ _ _ _ _ _=>1) (fun _ _ _ _ _ _ _ _ _ _ _ _ _ _ _ _ _=>2) t
def T.sortI:T→Nat
  | .lit _=>0
  | .tt=>1
  | .ff=>1
  | .iv _=>0
  | .bv _=>1
  | .av _=>2
  | .add _ _=>0
  | .sub _ _=>0
  | .mul _ _=>0
  | .wrap _ _=>0
  | .tdiv _ _=>0
  | .tmod _ _=>0
  | .shl _ _ _=>0
  | .shr _ _ _=>0
  | .bits _ _ _ _=>0
  | .mx _ _=>0
  | .mn _ _=>0
  | .eq _ _=>1
  | .lt _ _=>1
  | .le _ _=>1
  | .beq _ _=>1
  | .not _=>1
  | .and _ _=>1
  | .or _ _=>1
  | .ite _ _ _=>0
  | .bite _ _ _=>1
  | .len _=>0
  | .get _ _=>0
  | .set _ _ _=>2
  | .rep _ _=>2
  | .cut _ _ _=>2
  | .alit _=>2
  | .splice _ _ _=>2
  | .aeq _ _=>1
  | .fi _ _ _ _ _ _ _ _ _=>0
  | .fb _ _ _ _ _ _ _ _ _=>1
  | .fa _ _ _ _ _ _ _ _ _=>2
theorem T.sort_eq: @T.sort= @T.sortI:=by funext t;cases t<;>rfl
theorem T.same_spec{t u:T}(h:t.same u=true):t=u:=by
  rw[T.same_eq] at h
  induction t generalizing u with
  | lit q0=>
    cases u with
    | lit p0=>
      simp only[T.sameI,Bool.and_eq_true,decide_eq_true_eq,Nat.beq_eq] at h
      have e0:=h
      rw[e0]
    | _=>cases h
  | tt=>cases u<;>first|rfl|cases h
  | ff=>cases u<;>first|rfl|cases h
  | iv q0=>
    cases u with
    | iv p0=>
      simp only[T.sameI,Bool.and_eq_true,decide_eq_true_eq,Nat.beq_eq] at h
      have e0:=h
      rw[e0]
    | _=>cases h
  | bv q0=>
    cases u with
    | bv p0=>
      simp only[T.sameI,Bool.and_eq_true,decide_eq_true_eq,Nat.beq_eq] at h
      have e0:=h
      rw[e0]
    | _=>cases h
  | av q0=>
    cases u with
    | av p0=>
      simp only[T.sameI,Bool.and_eq_true,decide_eq_true_eq,Nat.beq_eq] at h
      have e0:=h
      rw[e0]
    | _=>cases h
  | add a0 a1 h0 h1=>
    cases u with
    | add b0 b1=>
      simp only[T.sameI,Bool.and_eq_true,decide_eq_true_eq,Nat.beq_eq] at h
      obtain ⟨c0,c1⟩:=h
      rw[h0 c0,h1 c1]
    | _=>cases h
  | sub a0 a1 h0 h1=>
    cases u with
    | sub b0 b1=>
      simp only[T.sameI,Bool.and_eq_true,decide_eq_true_eq,Nat.beq_eq] at h
      obtain ⟨c0,c1⟩:=h
      rw[h0 c0,h1 c1]
    | _=>cases h
  | mul a0 a1 h0 h1=>
    cases u with
    | mul b0 b1=>
      simp only[T.sameI,Bool.and_eq_true,decide_eq_true_eq,Nat.beq_eq] at h
      obtain ⟨c0,c1⟩:=h
      rw[h0 c0,h1 c1]
    | _=>cases h
  | wrap q0 a0 h0=>
    cases u with
    | wrap p0 b0=>
      simp only[T.sameI,Bool.and_eq_true,decide_eq_true_eq,Nat.beq_eq] at h
      obtain ⟨e0,c0⟩:=h
      rw[e0,h0 c0]
    | _=>cases h
  | tdiv a0 a1 h0 h1=>
    cases u with
    | tdiv b0 b1=>
      simp only[T.sameI,Bool.and_eq_true,decide_eq_true_eq,Nat.beq_eq] at h
      obtain ⟨c0,c1⟩:=h
      rw[h0 c0,h1 c1]
    | _=>cases h
  | tmod a0 a1 h0 h1=>
    cases u with
    | tmod b0 b1=>
      simp only[T.sameI,Bool.and_eq_true,decide_eq_true_eq,Nat.beq_eq] at h
      obtain ⟨c0,c1⟩:=h
      rw[h0 c0,h1 c1]
    | _=>cases h
  | shl q0 a0 a1 h0 h1=>
    cases u with
    | shl p0 b0 b1=>
      simp only[T.sameI,Bool.and_eq_true,decide_eq_true_eq,Nat.beq_eq] at h
      obtain ⟨e0,c0,c1⟩:=h
      rw[e0,h0 c0,h1 c1]
    | _=>cases h
  | shr q0 a0 a1 h0 h1=>
    cases u with
    | shr p0 b0 b1=>
      simp only[T.sameI,Bool.and_eq_true,decide_eq_true_eq,Nat.beq_eq] at h
      obtain ⟨e0,c0,c1⟩:=h
      rw[e0,h0 c0,h1 c1]
    | _=>cases h
  | bits q0 q1 a0 a1 h0 h1=>
    cases u with
    | bits p0 p1 b0 b1=>
      simp only[T.sameI,Bool.and_eq_true,decide_eq_true_eq,Nat.beq_eq] at h
      obtain ⟨e0,e1,c0,c1⟩:=h
      rw[e0,e1,h0 c0,h1 c1]
    | _=>cases h
  | mx a0 a1 h0 h1=>
    cases u with
    | mx b0 b1=>
      simp only[T.sameI,Bool.and_eq_true,decide_eq_true_eq,Nat.beq_eq] at h
      obtain ⟨c0,c1⟩:=h
      rw[h0 c0,h1 c1]
    | _=>cases h
  | mn a0 a1 h0 h1=>
    cases u with
    | mn b0 b1=>
      simp only[T.sameI,Bool.and_eq_true,decide_eq_true_eq,Nat.beq_eq] at h
      obtain ⟨c0,c1⟩:=h
      rw[h0 c0,h1 c1]
    | _=>cases h
  | eq a0 a1 h0 h1=>
    cases u with
    | eq b0 b1=>
      simp only[T.sameI,Bool.and_eq_true,decide_eq_true_eq,Nat.beq_eq] at h
      obtain ⟨c0,c1⟩:=h
      rw[h0 c0,h1 c1]
    | _=>cases h
  | lt a0 a1 h0 h1=>
    cases u with
    | lt b0 b1=>
      simp only[T.sameI,Bool.and_eq_true,decide_eq_true_eq,Nat.beq_eq] at h
      obtain ⟨c0,c1⟩:=h
      rw[h0 c0,h1 c1]
    | _=>cases h
  | le a0 a1 h0 h1=>
    cases u with
    | le b0 b1=>
      simp only[T.sameI,Bool.and_eq_true,decide_eq_true_eq,Nat.beq_eq] at h
      obtain ⟨c0,c1⟩:=h
      rw[h0 c0,h1 c1]
    | _=>cases h
  | beq a0 a1 h0 h1=>
    cases u with
    | beq b0 b1=>
      simp only[T.sameI,Bool.and_eq_true,decide_eq_true_eq,Nat.beq_eq] at h
      obtain ⟨c0,c1⟩:=h
      rw[h0 c0,h1 c1]
    | _=>cases h
  | not a0 h0=>
    cases u with
    | not b0=>
      simp only[T.sameI,Bool.and_eq_true,decide_eq_true_eq,Nat.beq_eq] at h
      have c0:=h
      rw[h0 c0]
    | _=>cases h
  | and a0 a1 h0 h1=>
    cases u with
    | and b0 b1=>
      simp only[T.sameI,Bool.and_eq_true,decide_eq_true_eq,Nat.beq_eq] at h
      obtain ⟨c0,c1⟩:=h
      rw[h0 c0,h1 c1]
    | _=>cases h
  | or a0 a1 h0 h1=>
    cases u with
    | or b0 b1=>
      simp only[T.sameI,Bool.and_eq_true,decide_eq_true_eq,Nat.beq_eq] at h
      obtain ⟨c0,c1⟩:=h
      rw[h0 c0,h1 c1]
    | _=>cases h
  | ite a0 a1 a2 h0 h1 h2=>
    cases u with
    | ite b0 b1 b2=>
      simp only[T.sameI,Bool.and_eq_true,decide_eq_true_eq,Nat.beq_eq] at h
      obtain ⟨c0,c1,c2⟩:=h
      rw[h0 c0,h1 c1,h2 c2]
    | _=>cases h
  | bite a0 a1 a2 h0 h1 h2=>
    cases u with
    | bite b0 b1 b2=>
      simp only[T.sameI,Bool.and_eq_true,decide_eq_true_eq,Nat.beq_eq] at h
      obtain ⟨c0,c1,c2⟩:=h
      rw[h0 c0,h1 c1,h2 c2]
    | _=>cases h
  | len a0 h0=>
    cases u with
    | len b0=>
      simp only[T.sameI,Bool.and_eq_true,decide_eq_true_eq,Nat.beq_eq] at h
      have c0:=h
      rw[h0 c0]
    | _=>cases h
  | get a0 a1 h0 h1=>
    cases u with
    | get b0 b1=>
      simp only[T.sameI,Bool.and_eq_true,decide_eq_true_eq,Nat.beq_eq] at h
      obtain ⟨c0,c1⟩:=h
      rw[h0 c0,h1 c1]
    | _=>cases h
  | set a0 a1 a2 h0 h1 h2=>
    cases u with
    | set b0 b1 b2=>
      simp only[T.sameI,Bool.and_eq_true,decide_eq_true_eq,Nat.beq_eq] at h
      obtain ⟨c0,c1,c2⟩:=h
      rw[h0 c0,h1 c1,h2 c2]
    | _=>cases h
  | rep a0 a1 h0 h1=>
    cases u with
    | rep b0 b1=>
      simp only[T.sameI,Bool.and_eq_true,decide_eq_true_eq,Nat.beq_eq] at h
      obtain ⟨c0,c1⟩:=h
      rw[h0 c0,h1 c1]
    | _=>cases h
  | cut a0 a1 a2 h0 h1 h2=>
    cases u with
    | cut b0 b1 b2=>
      simp only[T.sameI,Bool.and_eq_true,decide_eq_true_eq,Nat.beq_eq] at h
      obtain ⟨c0,c1,c2⟩:=h
      rw[h0 c0,h1 c1,h2 c2]
    | _=>cases h
  | alit q0=>
    cases u with
    | alit p0=>
      simp only[T.sameI,Bool.and_eq_true,decide_eq_true_eq,Nat.beq_eq] at h
      have e0:=h
      rw[e0]
    | _=>cases h
  | splice a0 a1 a2 h0 h1 h2=>
    cases u with
    | splice b0 b1 b2=>
      simp only[T.sameI,Bool.and_eq_true,decide_eq_true_eq,Nat.beq_eq] at h
      obtain ⟨c0,c1,c2⟩:=h
      rw[h0 c0,h1 c1,h2 c2]
    | _=>cases h
  | aeq a0 a1 h0 h1=>
    cases u with
    | aeq b0 b1=>
      simp only[T.sameI,Bool.and_eq_true,decide_eq_true_eq,Nat.beq_eq] at h
      obtain ⟨c0,c1⟩:=h
      rw[h0 c0,h1 c1]
    | _=>cases h
  | fi q0 a0 a1 a2 a3 a4 a5 a6 a7 h0 h1 h2 h3 h4 h5 h6 h7=>
    cases u with
    | fi p0 b0 b1 b2 b3 b4 b5 b6 b7=>
      simp only[T.sameI,Bool.and_eq_true,decide_eq_true_eq,Nat.beq_eq] at h
      obtain ⟨e0,c0,c1,c2,c3,c4,c5,c6,c7⟩:=h
      rw[e0,h0 c0,h1 c1,h2 c2,h3 c3,h4 c4,h5 c5,h6 c6,h7 c7]
    | _=>cases h
  | fb q0 a0 a1 a2 a3 a4 a5 a6 a7 h0 h1 h2 h3 h4 h5 h6 h7=>
    cases u with
    | fb p0 b0 b1 b2 b3 b4 b5 b6 b7=>
      simp only[T.sameI,Bool.and_eq_true,decide_eq_true_eq,Nat.beq_eq] at h
      obtain ⟨e0,c0,c1,c2,c3,c4,c5,c6,c7⟩:=h
      rw[e0,h0 c0,h1 c1,h2 c2,h3 c3,h4 c4,h5 c5,h6 c6,h7 c7]
    | _=>cases h
  | fa q0 a0 a1 a2 a3 a4 a5 a6 a7 h0 h1 h2 h3 h4 h5 h6 h7=>
    cases u with
    | fa p0 b0 b1 b2 b3 b4 b5 b6 b7=>
      simp only[T.sameI,Bool.and_eq_true,decide_eq_true_eq,Nat.beq_eq] at h
      obtain ⟨e0,c0,c1,c2,c3,c4,c5,c6,c7⟩:=h
      rw[e0,h0 c0,h1 c1,h2 c2,h3 c3,h4 c4,h5 c5,h6 c6,h7 c7]
    | _=>cases h
theorem T.sort_den{S:Hw}{ρ:Et}{t:T}:(t.sort≠0→t.I S ρ=0)∧(t.sort≠1→t.B S ρ=false)∧(t.sort≠2→t.A S ρ=[]):=by
  rw[T.sort_eq]
  cases t<;>refine ⟨?_,?_,?_⟩<;>intro h<;>first|exact absurd rfl h|simp only[T.I]|simp only[T.B]|simp only[T.A]
structure TS.Ok(S:Hw)(s:TS)(ρ ρ':Et):Prop where
  i: ∀n,(s.i n).I S ρ=ρ'.i n∧(s.i n).sort=0
  b: ∀n,(s.b n).B S ρ=ρ'.b n∧(s.b n).sort=1
  a: ∀n,(s.a n).A S ρ=ρ'.a n∧(s.a n).sort=2
theorem T.put_den{S:Hw}{s:TS}{ρ ρ':Et}(hs:s.Ok S ρ ρ')(t:T):(t.put s).I S ρ=t.I S ρ'∧(t.put s).B S ρ=t.B S ρ'∧(t.put s).A S ρ=t.A S ρ':=by
  rw[T.put_eq]
  induction t with
  | lit q0=>exact ⟨rfl,rfl,rfl⟩
  | tt=>exact ⟨rfl,rfl,rfl⟩
  | ff=>exact ⟨rfl,rfl,rfl⟩
  | iv q0=>exact ⟨by simp only[T.putI,T.I];exact (hs.i q0).1,by simp only[T.putI,T.B];exact T.sort_den.2.1 (by rw[(hs.i q0).2];decide),by simp only[T.putI,T.A];exact T.sort_den.2.2 (by rw[(hs.i q0).2];decide)⟩
  | bv q0=>exact ⟨by simp only[T.putI,T.I];exact T.sort_den.1 (by rw[(hs.b q0).2];decide),by simp only[T.putI,T.B];exact (hs.b q0).1,by simp only[T.putI,T.A];exact T.sort_den.2.2 (by rw[(hs.b q0).2];decide)⟩
  | av q0=>exact ⟨by simp only[T.putI,T.I];exact T.sort_den.1 (by rw[(hs.a q0).2];decide),by simp only[T.putI,T.B];exact T.sort_den.2.1 (by rw[(hs.a q0).2];decide),by simp only[T.putI,T.A];exact (hs.a q0).1⟩
  | add a0 a1 h0 h1=>
    obtain ⟨i0,b0,l0⟩:=h0
    obtain ⟨i1,b1,l1⟩:=h1
    refine ⟨?_,?_,?_⟩<;>simp only[T.putI,T.I,T.B,T.A,i0,b0,l0,i1,b1,l1]
  | sub a0 a1 h0 h1=>
    obtain ⟨i0,b0,l0⟩:=h0
    obtain ⟨i1,b1,l1⟩:=h1
    refine ⟨?_,?_,?_⟩<;>simp only[T.putI,T.I,T.B,T.A,i0,b0,l0,i1,b1,l1]
  | mul a0 a1 h0 h1=>
    obtain ⟨i0,b0,l0⟩:=h0
    obtain ⟨i1,b1,l1⟩:=h1
    refine ⟨?_,?_,?_⟩<;>simp only[T.putI,T.I,T.B,T.A,i0,b0,l0,i1,b1,l1]
  | wrap q0 a0 h0=>
    obtain ⟨i0,b0,l0⟩:=h0
    refine ⟨?_,?_,?_⟩<;>simp only[T.putI,T.I,T.B,T.A,i0,b0,l0]
  | tdiv a0 a1 h0 h1=>
    obtain ⟨i0,b0,l0⟩:=h0
    obtain ⟨i1,b1,l1⟩:=h1
    refine ⟨?_,?_,?_⟩<;>simp only[T.putI,T.I,T.B,T.A,i0,b0,l0,i1,b1,l1]
  | tmod a0 a1 h0 h1=>
    obtain ⟨i0,b0,l0⟩:=h0
    obtain ⟨i1,b1,l1⟩:=h1
    refine ⟨?_,?_,?_⟩<;>simp only[T.putI,T.I,T.B,T.A,i0,b0,l0,i1,b1,l1]
  | shl q0 a0 a1 h0 h1=>
    obtain ⟨i0,b0,l0⟩:=h0
    obtain ⟨i1,b1,l1⟩:=h1
    refine ⟨?_,?_,?_⟩<;>simp only[T.putI,T.I,T.B,T.A,i0,b0,l0,i1,b1,l1]
  | shr q0 a0 a1 h0 h1=>
    obtain ⟨i0,b0,l0⟩:=h0
    obtain ⟨i1,b1,l1⟩:=h1
    refine ⟨?_,?_,?_⟩<;>simp only[T.putI,T.I,T.B,T.A,i0,b0,l0,i1,b1,l1]
  | bits q0 q1 a0 a1 h0 h1=>
    obtain ⟨i0,b0,l0⟩:=h0
    obtain ⟨i1,b1,l1⟩:=h1
    refine ⟨?_,?_,?_⟩<;>simp only[T.putI,T.I,T.B,T.A,i0,b0,l0,i1,b1,l1]
  | mx a0 a1 h0 h1=>
    obtain ⟨i0,b0,l0⟩:=h0
    obtain ⟨i1,b1,l1⟩:=h1
    refine ⟨?_,?_,?_⟩<;>simp only[T.putI,T.I,T.B,T.A,i0,b0,l0,i1,b1,l1]
  | mn a0 a1 h0 h1=>
    obtain ⟨i0,b0,l0⟩:=h0
    obtain ⟨i1,b1,l1⟩:=h1
    refine ⟨?_,?_,?_⟩<;>simp only[T.putI,T.I,T.B,T.A,i0,b0,l0,i1,b1,l1]
  | eq a0 a1 h0 h1=>
    obtain ⟨i0,b0,l0⟩:=h0
    obtain ⟨i1,b1,l1⟩:=h1
    refine ⟨?_,?_,?_⟩<;>simp only[T.putI,T.I,T.B,T.A,i0,b0,l0,i1,b1,l1]
  | lt a0 a1 h0 h1=>
    obtain ⟨i0,b0,l0⟩:=h0
    obtain ⟨i1,b1,l1⟩:=h1
    refine ⟨?_,?_,?_⟩<;>simp only[T.putI,T.I,T.B,T.A,i0,b0,l0,i1,b1,l1]
  | le a0 a1 h0 h1=>
    obtain ⟨i0,b0,l0⟩:=h0
    obtain ⟨i1,b1,l1⟩:=h1
    refine ⟨?_,?_,?_⟩<;>simp only[T.putI,T.I,T.B,T.A,i0,b0,l0,i1,b1,l1]
  | beq a0 a1 h0 h1=>
    obtain ⟨i0,b0,l0⟩:=h0
    obtain ⟨i1,b1,l1⟩:=h1
    refine ⟨?_,?_,?_⟩<;>simp only[T.putI,T.I,T.B,T.A,i0,b0,l0,i1,b1,l1]
  | not a0 h0=>
    obtain ⟨i0,b0,l0⟩:=h0
    refine ⟨?_,?_,?_⟩<;>simp only[T.putI,T.I,T.B,T.A,i0,b0,l0]
  | and a0 a1 h0 h1=>
    obtain ⟨i0,b0,l0⟩:=h0
    obtain ⟨i1,b1,l1⟩:=h1
    refine ⟨?_,?_,?_⟩<;>simp only[T.putI,T.I,T.B,T.A,i0,b0,l0,i1,b1,l1]
  | or a0 a1 h0 h1=>
    obtain ⟨i0,b0,l0⟩:=h0
    obtain ⟨i1,b1,l1⟩:=h1
    refine ⟨?_,?_,?_⟩<;>simp only[T.putI,T.I,T.B,T.A,i0,b0,l0,i1,b1,l1]
  | ite a0 a1 a2 h0 h1 h2=>
    obtain ⟨i0,b0,l0⟩:=h0
    obtain ⟨i1,b1,l1⟩:=h1
    obtain ⟨i2,b2,l2⟩:=h2
    refine ⟨?_,?_,?_⟩<;>simp only[T.putI,T.I,T.B,T.A,i0,b0,l0,i1,b1,l1,i2,b2,l2]
  | bite a0 a1 a2 h0 h1 h2=>
    obtain ⟨i0,b0,l0⟩:=h0
    obtain ⟨i1,b1,l1⟩:=h1
    obtain ⟨i2,b2,l2⟩:=h2
    refine ⟨?_,?_,?_⟩<;>simp only[T.putI,T.I,T.B,T.A,i0,b0,l0,i1,b1,l1,i2,b2,l2]
  | len a0 h0=>
    obtain ⟨i0,b0,l0⟩:=h0
    refine ⟨?_,?_,?_⟩<;>simp only[T.putI,T.I,T.B,T.A,i0,b0,l0]
  | get a0 a1 h0 h1=>
    obtain ⟨i0,b0,l0⟩:=h0
    obtain ⟨i1,b1,l1⟩:=h1
    refine ⟨?_,?_,?_⟩<;>simp only[T.putI,T.I,T.B,T.A,i0,b0,l0,i1,b1,l1]
  | set a0 a1 a2 h0 h1 h2=>
    obtain ⟨i0,b0,l0⟩:=h0
    obtain ⟨i1,b1,l1⟩:=h1
    obtain ⟨i2,b2,l2⟩:=h2
    refine ⟨?_,?_,?_⟩<;>simp only[T.putI,T.I,T.B,T.A,i0,b0,l0,i1,b1,l1,i2,b2,l2]
  | rep a0 a1 h0 h1=>
    obtain ⟨i0,b0,l0⟩:=h0
    obtain ⟨i1,b1,l1⟩:=h1
    refine ⟨?_,?_,?_⟩<;>simp only[T.putI,T.I,T.B,T.A,i0,b0,l0,i1,b1,l1]
  | cut a0 a1 a2 h0 h1 h2=>
    obtain ⟨i0,b0,l0⟩:=h0
    obtain ⟨i1,b1,l1⟩:=h1
    obtain ⟨i2,b2,l2⟩:=h2
    refine ⟨?_,?_,?_⟩<;>simp only[T.putI,T.I,T.B,T.A,i0,b0,l0,i1,b1,l1,i2,b2,l2]
  | alit q0=>exact ⟨rfl,rfl,rfl⟩
  | splice a0 a1 a2 h0 h1 h2=>
    obtain ⟨i0,b0,l0⟩:=h0
    obtain ⟨i1,b1,l1⟩:=h1
    obtain ⟨i2,b2,l2⟩:=h2
    refine ⟨?_,?_,?_⟩<;>simp only[T.putI,T.I,T.B,T.A,i0,b0,l0,i1,b1,l1,i2,b2,l2]
  | aeq a0 a1 h0 h1=>
    obtain ⟨i0,b0,l0⟩:=h0
    obtain ⟨i1,b1,l1⟩:=h1
    refine ⟨?_,?_,?_⟩<;>simp only[T.putI,T.I,T.B,T.A,i0,b0,l0,i1,b1,l1]
  | fi q0 a0 a1 a2 a3 a4 a5 a6 a7 h0 h1 h2 h3 h4 h5 h6 h7=>
    obtain ⟨i0,b0,l0⟩:=h0
    obtain ⟨i1,b1,l1⟩:=h1
    obtain ⟨i2,b2,l2⟩:=h2
    obtain ⟨i3,b3,l3⟩:=h3
    obtain ⟨i4,b4,l4⟩:=h4
    obtain ⟨i5,b5,l5⟩:=h5
    obtain ⟨i6,b6,l6⟩:=h6
    obtain ⟨i7,b7,l7⟩:=h7
    refine ⟨?_,?_,?_⟩<;>simp only[T.putI,T.I,T.B,T.A,i0,b0,l0,i1,b1,l1,i2,b2,l2,i3,b3,l3,i4,b4,l4,i5,b5,l5,i6,b6,l6,i7,b7,l7]
  | fb q0 a0 a1 a2 a3 a4 a5 a6 a7 h0 h1 h2 h3 h4 h5 h6 h7=>
    obtain ⟨i0,b0,l0⟩:=h0
    obtain ⟨i1,b1,l1⟩:=h1
    obtain ⟨i2,b2,l2⟩:=h2
    obtain ⟨i3,b3,l3⟩:=h3
    obtain ⟨i4,b4,l4⟩:=h4
    obtain ⟨i5,b5,l5⟩:=h5
    obtain ⟨i6,b6,l6⟩:=h6
    obtain ⟨i7,b7,l7⟩:=h7
    refine ⟨?_,?_,?_⟩<;>simp only[T.putI,T.I,T.B,T.A,i0,b0,l0,i1,b1,l1,i2,b2,l2,i3,b3,l3,i4,b4,l4,i5,b5,l5,i6,b6,l6,i7,b7,l7]
  | fa q0 a0 a1 a2 a3 a4 a5 a6 a7 h0 h1 h2 h3 h4 h5 h6 h7=>
    obtain ⟨i0,b0,l0⟩:=h0
    obtain ⟨i1,b1,l1⟩:=h1
    obtain ⟨i2,b2,l2⟩:=h2
    obtain ⟨i3,b3,l3⟩:=h3
    obtain ⟨i4,b4,l4⟩:=h4
    obtain ⟨i5,b5,l5⟩:=h5
    obtain ⟨i6,b6,l6⟩:=h6
    obtain ⟨i7,b7,l7⟩:=h7
    refine ⟨?_,?_,?_⟩<;>simp only[T.putI,T.I,T.B,T.A,i0,b0,l0,i1,b1,l1,i2,b2,l2,i3,b3,l3,i4,b4,l4,i5,b5,l5,i6,b6,l6,i7,b7,l7]
end
end Go.Proofs.YtljjbikbfeigdaaGreatDoor
namespace Go.Proofs.YtljjbikbfeigdaaGreatDoor
noncomputable section
open Go
def Ga{α:Type}:List (Nat×α)→Nat→Option α
  | [],_=>none
  | (k,x)::l,n=>match Nat.beq k n with
    | true=>some x
    | false=>Ga l n
inductive RB where
  | o (r:Cl)|n (k:Nat)|q (k:Nat)|p (l:Aw)
structure Bd where
  i:List (Nat×T):=[]
  b:List (Nat×T):=[]
  a:List (Nat×T):=[]
  v:List (Nat×Aw):=[]
  j:List (Nat×SR):=[]
  s:List (Nat×List Cp):=[]
  r:List (Nat×RB):=[]
  eqI:List (T×T):=[]
  eqB:List (T×T):=[]
  eqA:List (T×T):=[]
  need:List T:=[]
def Og(lo:Nat)(t x:T)(m:Bd):Bd:=
  match t with
  | .iv n=>if Nat.ble lo n then
      match Ga m.i n with
      | none=>{m with i:=(n,x)::m.i}
      | some _=>{m with eqI:=(t,x)::m.eqI}
    else {m with eqI:=(t,x)::m.eqI}
  | _=>{m with eqI:=(t,x)::m.eqI}
def jwr(lo:Nat)(t x:T)(m:Bd):Bd:=
  match t with
  | .bv n=>if Nat.ble lo n then
      match Ga m.b n with
      | none=>{m with b:=(n,x)::m.b}
      | some _=>{m with eqB:=(t,x)::m.eqB}
    else {m with eqB:=(t,x)::m.eqB}
  | _=>{m with eqB:=(t,x)::m.eqB}
def Pm(lo:Nat)(t x:T)(m:Bd):Bd:=
  match t with
  | .av n=>if Nat.ble lo n then
      match Ga m.a n with
      | none=>{m with a:=(n,x)::m.a}
      | some _=>{m with eqA:=(t,x)::m.eqA}
    else {m with eqA:=(t,x)::m.eqA}
  | _=>{m with eqA:=(t,x)::m.eqA}
def ji6(lo:Nat)(t x:Cl)(m:Bd):Option Bd:=
  match t with
  | .old n=>if Nat.ble lo n then
      match x with
      | .ro _=>none
      | _=>match Ga m.r n with
        | none=>some {m with r:=(n,.o x)::m.r}
        | some (.o y)=>if Nat.beq x.code y.code then some m else none
        | _=>none
    else if Nat.beq t.code x.code then some m else none
  | .own n=>if Nat.ble lo n then
      match Ga m.r n with
      | none=>match x with
        | .new k=>some {m with r:=(n,.n k)::m.r}
        | .own k=>some {m with r:=(n,.q k)::m.r}
        | _=>none
      | some (.n k)=>if Nat.beq x.code (Cl.new k).code then some m else none
      | some (.q k)=>if Nat.beq x.code (Cl.own k).code then some m else none
      | _=>none
    else if Nat.beq t.code x.code then some m else none
  | .ro n=>if Nat.ble lo n then none else if Nat.beq t.code x.code then some m else none
  | _=>if Nat.beq t.code x.code then some m else none
def jj4(lo:Nat)(s:Nat)(d:T)(s':Nat)(d':T)(m:Bd):Option Bd:=
  if Nat.beq s s' then some (Og lo d d' m)
  else if Nat.beq s 0 then some {Og lo d (Ej (.lit s') d') m with need:=needs [Ek (.lit 0) d']++(Og lo d (Ej (.lit s') d') m).need}
  else none
def Ka(lo:Nat):Aw→Aw→Bd→Option Bd
  | .val n,x,m=>if Nat.ble lo n then
      match Ga m.v n with
      | none=>some {m with v:=(n,x)::m.v}
      | some y=>if x=y then some m else none
    else if x=.val n then some m else none
  | .junk n,x,m=>if Nat.ble lo n then
      match Ga m.j n with
      | none=>some {m with j:=(n,.v (.one x))::m.j}
      | some _=>none
    else if x=.junk n then some m else none
  | .int k t,.int k' x,m=>if k=k' then some (Og lo t x m) else none
  | .bool t,.bool x,m=>some (jwr lo t x m)
  | .ptr r s d,.ptr r' s' d',m=>(ji6 lo r r' m).bind (jj4 lo s d s' d')
  | .sl (.ro n) s d l c,.sl r' s' d' l' c',m=>if Nat.ble lo n then
      match Ga m.r n with
      | none=>if (Nat.beq s 0).and d.isZ then some (Og lo c c' (Og lo l l' {m with r:=(n,.p (.sl r' s' d' l' c'))::m.r})) else none
      | _=>none
    else ((ji6 lo (.ro n) r' m).bind (jj4 lo s d s' d')).map fun m=>Og lo c c' (Og lo l l' m)
  | .sl r s d l c,.sl r' s' d' l' c',m=>((ji6 lo r r' m).bind (jj4 lo s d s' d')).map fun m=>Og lo c c' (Og lo l l' m)
  | .nilp,.nilp,m=>some m
  | .nils,.nils,m=>some m
  | .nilI,.nilI,m=>some m
  | .undef,.undef,m=>some m
  | .str l,.str l',m=>if l=l' then some m else none
  | .fn f,.fn g,m=>if f=g then some m else none
  | .iface t x,.iface t' x',m=>if t=t' then Ka lo x x' m else none
  | _,_,_=>none
def Ne(lo:Nat):List Aw→List Aw→Bd→Option Bd
  | [],[],m=>some m
  | t::ts,x::xs,m=>(Ka lo t x m).bind (Ne lo ts xs)
  | _,_,_=>none
def cellsOf:List Cp→Option (List Aw)
  | []=>some []
  | .cells l::r=>(cellsOf r).map (l++ ·)
  | .arr k a n::r=>(cellsOf r).map ((List.range n).map (fun (j:Nat)=>Aw.int k (Zf a (.lit j)))++ ·)
  | _=>none
def Km:List Cp→Option (List Cp×List Aw×T)
  | []=>none
  | [.tail z t]=>some ([],z,t)
  | g::r=>(Km r).map fun (p,q)=>(g::p,q)
def Aw.fixed:Aw→Bool
  | .int _ (.lit _)=>true
  | .bool .tt=>true
  | .bool .ff=>true
  | .nilp=>true
  | .nils=>true
  | .nilI=>true
  | .str _=>true
  | .undef=>true
  | _=>false
def Fk(lo:Nat):List Cp→List Cp→Bd→Option Bd
  | [],[],m=>some m
  | .cells l::ts,g,m=>match Fd g l.length with
    | some (x,rest)=>match cellsOf x with
      | some c=>(Ne lo l c m).bind (Fk lo ts rest)
      | none=>none
    | none=>none
  | .arr k t n::ts,g,m=>match Fd g n with
    | some (x,rest)=>match jb5 k x with
      | some a=>Fk lo ts rest (Pm lo t a m)
      | none=>none
    | none=>none
  | [.arrD k t],g,m=>match jb5 k g with
    | some a=>some (Pm lo t a m)
    | none=>none
  | [.arrD k t,.tail z u],g,m=>match Km g with
    | some (x,z',u')=>if z=z'∧z.all Aw.fixed=true then
        match jb5 k x with
        | some a=>some (Og lo u u' (Pm lo t a m))
        | none=>none
      else none
    | none=>none
  | [.tail z u],[.tail z' u'],m=>if z=z'∧z.all Aw.fixed=true then some (Og lo u u' m) else none
  | .bar t n::ts,.bar a n'::g,m=>if n=n' then Fk lo ts g (Pm lo t a m) else none
  | [.junk n],g,m=>if Nat.ble lo n then
      match Ga m.s n with
      | none=>some {m with s:=(n,g)::m.s}
      | some _=>none
    else if g=[.junk n] then some m else none
  | _,_,_=>none
def ji9(lo:Nat):SV→SV→Bd→Option Bd
  | .one t,.one x,m=>Ka lo t x m
  | .agg t,.agg g,m=>Fk lo t g m
  | _,_,_=>none
def Ys(lo:Nat):List SV→List SV→Bd→Option Bd
  | [],[],m=>some m
  | t::ts,x::xs,m=>(ji9 lo t x m).bind (Ys lo ts xs)
  | _,_,_=>none
def jgz(lo:Nat):SR→SR→Bd→Option Bd
  | .v (.one (.junk n)),x,m=>if Nat.ble lo n then
      match Ga m.j n with
      | none=>some {m with j:=(n,x)::m.j}
      | some _=>none
    else match x with
      | .v (.one y)=>Ka lo (.junk n) y m
      | _=>none
  | .v t,.v x,m=>ji9 lo t x m
  | .tup ts,.tup xs,m=>Ys lo ts xs m
  | _,_,_=>none
def Yz(lo:Nat):List SR→List SR→Bd→Option Bd
  | [],[],m=>some m
  | t::ts,x::xs,m=>(jgz lo t x m).bind (Yz lo ts xs)
  | _,_,_=>none
def Ox:List (Cl×Gn)→Cl→List (Cl×Gn)
  | [],_=>[]
  | (q,b)::l,r=>match Nat.beq q.code r.code with|true=>l|false=>(q,b)::Ox l r
def jxf(lo:Nat)(m:Bd):Cl→Option Cl
  | .old n=>if Nat.ble lo n then
      match Ga m.r n with
      | some (.o r)=>some r
      | _=>none
    else some (.old n)
  | .own n=>if Nat.ble lo n then
      match Ga m.r n with
      | some (.n k)=>some (.new k)
      | some (.q k)=>some (.own k)
      | _=>none
    else some (.own n)
  | .ro n=>if Nat.ble lo n then none else some (.ro n)
  | r=>some r
def jm8(lo:Nat):List (Cl×Gn)→List (Cl×Gn)→Bd→Option (Bd×List (Cl×Gn))
  | [],rest,m=>some (m,rest)
  | (t,b)::ts,l,m=>match jxf lo m t with
    | some r=>match Jr l r with
      | some c=>if Nat.beq b.ty c.ty then
          match Fk lo b.segs c.segs m with
          | some m'=>jm8 lo ts (Ox l r) m'
          | none=>none
        else none
      | none=>none
    | none=>none
def Xd(lo:Nat)(h:Hp)(rest:List (Cl×Gn)):List (Cl×IntKind×T)→Bd→Option Bd
  | [],m=>some m
  | (.ro n,k,t)::l,m=>
    if Nat.ble lo n then
      match Ga m.r n with
      | some (.p (.sl (.ro q) 0 (.lit (.ofNat 0)) _ _))=>match Na h.ro (.ro q) with
        | some (k',a)=>if k=k' then Xd lo h rest l (Pm lo t a m) else none
        | none=>none
      | some (.p (.sl r' s' d' ln c'))=>match jew k h (.sl r' s' d' ln c') ln,(Jr rest r').isSome||(Na h.ro r').isSome with
        | some (c,a),true=>Xd lo h rest l {Pm lo t a m with need:=c++(Pm lo t a m).need}
        | _,_=>none
      | _=>none
    else match Na h.ro (.ro n) with
      | some (k',a)=>if k=k' then Xd lo h rest l (Pm lo t a m) else none
      | none=>none
  | (.glob g,k,t)::l,m=>match Na h.ro (.glob g) with
    | some (k',a)=>if k=k' then Xd lo h rest l (Pm lo t a m) else none
    | none=>none
  | _,_=>none
def jxi(lo:Nat):Option OW→Option OW→Bd→Option Bd
  | none,_,m=>some m
  | some o,ow,m=>
    if Nat.ble lo o.v then
      match Ga m.v o.v,ow with
      | some (.val q),some p=>if (Nat.beq q p.v).and ((Nat.beq o.e p.e).and (decide (o.k=p.k))) then some (Pm lo o.a p.a m) else none
      | some .nils,none=>some (Pm lo o.a (.alit []) m)
      | _,_=>none
    else match ow with
      | some p=>if (Nat.beq o.v p.v).and ((Nat.beq o.e p.e).and (decide (o.k=p.k))) then some (Pm lo o.a p.a m) else none
      | none=>none
def jgo(x:T):T:=if Nat.beq x.sort 0 then x else .lit 0
def jfk(x:T):T:=if Nat.beq x.sort 1 then x else .ff
def jea(x:T):T:=if Nat.beq x.sort 2 then x else .alit []
def Bd.ts(lo:Nat)(m:Bd):TS where
  i n:=if Nat.ble lo n then jgo ((Ga m.i n).getD (.lit 0)) else .iv n
  b n:=if Nat.ble lo n then jfk ((Ga m.b n).getD .ff) else .bv n
  a n:=if Nat.ble lo n then jea ((Ga m.a n).getD (.alit [])) else .av n
def eqT(t x:T):T:=if t.same x then .tt else jkp t x
def qbo(t x:T):T:=if t.same x then .tt else jmr t x
def qda(t x:T):T:=if t.same x then .tt else .aeq t x
def Bd.needs(lo:Nat)(m:Bd):List T:=
  m.need++(Proofs.YtljjbikbfeigdaaGreatDoor.needs (m.eqI.map fun (t,x)=>eqT (t.put (m.ts lo)) x)++
    (Proofs.YtljjbikbfeigdaaGreatDoor.needs (m.eqB.map fun (t,x)=>qbo (t.put (m.ts lo)) x)++Proofs.YtljjbikbfeigdaaGreatDoor.needs (m.eqA.map fun (t,x)=>qda (t.put (m.ts lo)) x)))
def jn9(lo:Nat)(t:List SR)(th:Hp)(x:List SR)(h:Hp):Option (Bd×List (Cl×Gn)):=
  match Yz lo t x {} with
  | some m=>match jm8 lo th.rw h.rw m with
    | some (m,rest)=>match Xd lo h rest th.ro m with
      | some m=>match jxi lo th.ow h.ow m with
        | some m=>some (m,rest)
        | none=>none
      | none=>none
    | none=>none
  | none=>none
end
end Go.Proofs.YtljjbikbfeigdaaGreatDoor
