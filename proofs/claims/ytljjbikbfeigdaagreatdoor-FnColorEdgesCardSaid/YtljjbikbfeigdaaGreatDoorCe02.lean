/- Part of the proof of FnColorEdgesCardSaid: Terms put for letters; whether two terms are the same; of what sort a term is. -/
import Derived.Test.YtljjbikbfeigdaaGreatDoorCe01
set_option linter.all false
namespace Go.Proofs.YtljjbikbfeigdaaGreatDoor
noncomputable section
open Go
structure TS where
  i:Nat→T
  b:Nat→T
  a:Nat→T
noncomputable def T.putR:T→TS→T:=T.rec (motive:=fun _=>TS→T)
    (fun q0 _=>T.lit q0)
    (fun _=>T.tt)
    (fun _=>T.ff)
    (fun q0 s=>s.i q0)
    (fun q0 s=>s.b q0)
    (fun q0 s=>s.a q0)
    (fun _ _ h0 h1 s=>T.add (h0 s) (h1 s))
    (fun _ _ h0 h1 s=>T.sub (h0 s) (h1 s))
    (fun _ _ h0 h1 s=>T.mul (h0 s) (h1 s))
    (fun q0 _ h0 s=>T.wrap q0 (h0 s))
    (fun _ _ h0 h1 s=>T.tdiv (h0 s) (h1 s))
    (fun _ _ h0 h1 s=>T.tmod (h0 s) (h1 s))
    (fun q0 _ _ h0 h1 s=>T.shl q0 (h0 s) (h1 s))
    (fun q0 _ _ h0 h1 s=>T.shr q0 (h0 s) (h1 s))
    (fun q0 q1 _ _ h0 h1 s=>T.bits q0 q1 (h0 s) (h1 s))
    (fun _ _ h0 h1 s=>T.mx (h0 s) (h1 s))
    (fun _ _ h0 h1 s=>T.mn (h0 s) (h1 s))
    (fun _ _ h0 h1 s=>T.eq (h0 s) (h1 s))
    (fun _ _ h0 h1 s=>T.lt (h0 s) (h1 s))
    (fun _ _ h0 h1 s=>T.le (h0 s) (h1 s))
    (fun _ _ h0 h1 s=>T.beq (h0 s) (h1 s))
    (fun _ h0 s=>T.not (h0 s))
    (fun _ _ h0 h1 s=>T.and (h0 s) (h1 s))
    (fun _ _ h0 h1 s=>T.or (h0 s) (h1 s))
    (fun _ _ _ h0 h1 h2 s=>T.ite (h0 s) (h1 s) (h2 s))
    (fun _ _ _ h0 h1 h2 s=>T.bite (h0 s) (h1 s) (h2 s))
    (fun _ h0 s=>T.len (h0 s))
    (fun _ _ h0 h1 s=>T.get (h0 s) (h1 s))
    (fun _ _ _ h0 h1 h2 s=>T.set (h0 s) (h1 s) (h2 s))
    (fun _ _ h0 h1 s=>T.rep (h0 s) (h1 s))
    (fun _ _ _ h0 h1 h2 s=>T.cut (h0 s) (h1 s) (h2 s))
    (fun q0 _=>T.alit q0)
    (fun _ _ _ h0 h1 h2 s=>T.splice (h0 s) (h1 s) (h2 s))
    (fun _ _ h0 h1 s=>T.aeq (h0 s) (h1 s))
    (fun q0 _ _ _ _ _ _ _ _ h0 h1 h2 h3 h4 h5 h6 h7 s=>T.fi q0 (h0 s) (h1 s) (h2 s) (h3 s) (h4 s) (h5 s) (h6 s) (h7 s))
    (fun q0 _ _ _ _ _ _ _ _ h0 h1 h2 h3 h4 h5 h6 h7 s=>T.fb q0 (h0 s) (h1 s) (h2 s) (h3 s) (h4 s) (h5 s) (h6 s) (h7 s))
    (fun q0 _ _ _ _ _ _ _ _ h0 h1 h2 h3 h4 h5 h6 h7 s=>T.fa q0 (h0 s) (h1 s) (h2 s) (h3 s) (h4 s) (h5 s) (h6 s) (h7 s))
noncomputable def T.put (s:TS) (t:T):T:=t.putR s
def T.putI(s:TS):T→T
  | .lit q0=>T.lit q0
  | .tt=>T.tt
  | .ff=>T.ff
  | .iv q0=>s.i q0
  | .bv q0=>s.b q0
  | .av q0=>s.a q0
  | .add a0 a1=>T.add (T.putI s a0) (T.putI s a1)
  | .sub a0 a1=>T.sub (T.putI s a0) (T.putI s a1)
  | .mul a0 a1=>T.mul (T.putI s a0) (T.putI s a1)
  | .wrap q0 a0=>T.wrap q0 (T.putI s a0)
  | .tdiv a0 a1=>T.tdiv (T.putI s a0) (T.putI s a1)
  | .tmod a0 a1=>T.tmod (T.putI s a0) (T.putI s a1)
  | .shl q0 a0 a1=>T.shl q0 (T.putI s a0) (T.putI s a1)
  | .shr q0 a0 a1=>T.shr q0 (T.putI s a0) (T.putI s a1)
  | .bits q0 q1 a0 a1=>T.bits q0 q1 (T.putI s a0) (T.putI s a1)
  | .mx a0 a1=>T.mx (T.putI s a0) (T.putI s a1)
  | .mn a0 a1=>T.mn (T.putI s a0) (T.putI s a1)
  | .eq a0 a1=>T.eq (T.putI s a0) (T.putI s a1)
  | .lt a0 a1=>T.lt (T.putI s a0) (T.putI s a1)
  | .le a0 a1=>T.le (T.putI s a0) (T.putI s a1)
  | .beq a0 a1=>T.beq (T.putI s a0) (T.putI s a1)
  | .not a0=>T.not (T.putI s a0)
  | .and a0 a1=>T.and (T.putI s a0) (T.putI s a1)
  | .or a0 a1=>T.or (T.putI s a0) (T.putI s a1)
  | .ite a0 a1 a2=>T.ite (T.putI s a0) (T.putI s a1) (T.putI s a2)
  | .bite a0 a1 a2=>T.bite (T.putI s a0) (T.putI s a1) (T.putI s a2)
  | .len a0=>T.len (T.putI s a0)
  | .get a0 a1=>T.get (T.putI s a0) (T.putI s a1)
  | .set a0 a1 a2=>T.set (T.putI s a0) (T.putI s a1) (T.putI s a2)
  | .rep a0 a1=>T.rep (T.putI s a0) (T.putI s a1)
  | .cut a0 a1 a2=>T.cut (T.putI s a0) (T.putI s a1) (T.putI s a2)
  | .alit q0=>T.alit q0
  | .splice a0 a1 a2=>T.splice (T.putI s a0) (T.putI s a1) (T.putI s a2)
  | .aeq a0 a1=>T.aeq (T.putI s a0) (T.putI s a1)
  | .fi q0 a0 a1 a2 a3 a4 a5 a6 a7=>T.fi q0 (T.putI s a0) (T.putI s a1) (T.putI s a2) (T.putI s a3) (T.putI s a4) (T.putI s a5) (T.putI s a6) (T.putI s a7)
  | .fb q0 a0 a1 a2 a3 a4 a5 a6 a7=>T.fb q0 (T.putI s a0) (T.putI s a1) (T.putI s a2) (T.putI s a3) (T.putI s a4) (T.putI s a5) (T.putI s a6) (T.putI s a7)
  | .fa q0 a0 a1 a2 a3 a4 a5 a6 a7=>T.fa q0 (T.putI s a0) (T.putI s a1) (T.putI s a2) (T.putI s a3) (T.putI s a4) (T.putI s a5) (T.putI s a6) (T.putI s a7)
theorem T.put_eq: @T.put= @T.putI:=by
  funext s t
  unfold T.put
  induction t with
  | lit q0=>rfl
  | tt=>rfl
  | ff=>rfl
  | iv q0=>rfl
  | bv q0=>rfl
  | av q0=>rfl
  | add a0 a1 h0 h1=>show T.add (a0.putR s) (a1.putR s)=_;rw[h0,h1];rfl
  | sub a0 a1 h0 h1=>show T.sub (a0.putR s) (a1.putR s)=_;rw[h0,h1];rfl
  | mul a0 a1 h0 h1=>show T.mul (a0.putR s) (a1.putR s)=_;rw[h0,h1];rfl
  | wrap q0 a0 h0=>show T.wrap q0 (a0.putR s)=_;rw[h0];rfl
  | tdiv a0 a1 h0 h1=>show T.tdiv (a0.putR s) (a1.putR s)=_;rw[h0,h1];rfl
  | tmod a0 a1 h0 h1=>show T.tmod (a0.putR s) (a1.putR s)=_;rw[h0,h1];rfl
  | shl q0 a0 a1 h0 h1=>show T.shl q0 (a0.putR s) (a1.putR s)=_;rw[h0,h1];rfl
  | shr q0 a0 a1 h0 h1=>show T.shr q0 (a0.putR s) (a1.putR s)=_;rw[h0,h1];rfl
  | bits q0 q1 a0 a1 h0 h1=>show T.bits q0 q1 (a0.putR s) (a1.putR s)=_;rw[h0,h1];rfl
  | mx a0 a1 h0 h1=>show T.mx (a0.putR s) (a1.putR s)=_;rw[h0,h1];rfl
  | mn a0 a1 h0 h1=>show T.mn (a0.putR s) (a1.putR s)=_;rw[h0,h1];rfl
  | eq a0 a1 h0 h1=>show T.eq (a0.putR s) (a1.putR s)=_;rw[h0,h1];rfl
  | lt a0 a1 h0 h1=>show T.lt (a0.putR s) (a1.putR s)=_;rw[h0,h1];rfl
  | le a0 a1 h0 h1=>show T.le (a0.putR s) (a1.putR s)=_;rw[h0,h1];rfl
  | beq a0 a1 h0 h1=>show T.beq (a0.putR s) (a1.putR s)=_;rw[h0,h1];rfl
  | not a0 h0=>show T.not (a0.putR s)=_;rw[h0];rfl
  | and a0 a1 h0 h1=>show T.and (a0.putR s) (a1.putR s)=_;rw[h0,h1];rfl
  | or a0 a1 h0 h1=>show T.or (a0.putR s) (a1.putR s)=_;rw[h0,h1];rfl
  | ite a0 a1 a2 h0 h1 h2=>show T.ite (a0.putR s) (a1.putR s) (a2.putR s)=_;rw[h0,h1,h2];rfl
  | bite a0 a1 a2 h0 h1 h2=>show T.bite (a0.putR s) (a1.putR s) (a2.putR s)=_;rw[h0,h1,h2];rfl
  | len a0 h0=>show T.len (a0.putR s)=_;rw[h0];rfl
  | get a0 a1 h0 h1=>show T.get (a0.putR s) (a1.putR s)=_;rw[h0,h1];rfl
  | set a0 a1 a2 h0 h1 h2=>show T.set (a0.putR s) (a1.putR s) (a2.putR s)=_;rw[h0,h1,h2];rfl
  | rep a0 a1 h0 h1=>show T.rep (a0.putR s) (a1.putR s)=_;rw[h0,h1];rfl
  | cut a0 a1 a2 h0 h1 h2=>show T.cut (a0.putR s) (a1.putR s) (a2.putR s)=_;rw[h0,h1,h2];rfl
  | alit q0=>rfl
  | splice a0 a1 a2 h0 h1 h2=>show T.splice (a0.putR s) (a1.putR s) (a2.putR s)=_;rw[h0,h1,h2];rfl
  | aeq a0 a1 h0 h1=>show T.aeq (a0.putR s) (a1.putR s)=_;rw[h0,h1];rfl
  | fi q0 a0 a1 a2 a3 a4 a5 a6 a7 h0 h1 h2 h3 h4 h5 h6 h7=>show T.fi q0 (a0.putR s) (a1.putR s) (a2.putR s) (a3.putR s) (a4.putR s) (a5.putR s) (a6.putR s) (a7.putR s)=_;rw[h0,h1,h2,h3,h4,h5,h6,h7];rfl
  | fb q0 a0 a1 a2 a3 a4 a5 a6 a7 h0 h1 h2 h3 h4 h5 h6 h7=>show T.fb q0 (a0.putR s) (a1.putR s) (a2.putR s) (a3.putR s) (a4.putR s) (a5.putR s) (a6.putR s) (a7.putR s)=_;rw[h0,h1,h2,h3,h4,h5,h6,h7];rfl
  | fa q0 a0 a1 a2 a3 a4 a5 a6 a7 h0 h1 h2 h3 h4 h5 h6 h7=>show T.fa q0 (a0.putR s) (a1.putR s) (a2.putR s) (a3.putR s) (a4.putR s) (a5.putR s) (a6.putR s) (a7.putR s)=_;rw[h0,h1,h2,h3,h4,h5,h6,h7];rfl
noncomputable def T.same:T→T→Bool:=T.rec (motive:=fun _=>T→Bool)
    (fun q0 t=>T.rec (motive:=fun _=>Bool) (fun p0=>(decide (q0=p0))) false false (fun _=>false) (fun _=>false) (fun _=>false) (fun _ _ _ _=>false) (fun _ _ _ _=>false) (fun _ _ _ _=>false) (fun _ _ _=>false) (fun _ _ _ _=>false) (fun _ _ _ _=>false) (fun _ _ _ _ _=>false) (fun _ _ _ _ _=>false) (fun _ _ _ _ _ _=>false) (fun _ _ _ _=>false) (fun _ _ _ _=>false) (fun _ _ _ _=>false) (fun _ _ _ _=>false) (fun _ _ _ _=>false) (fun _ _ _ _=>false) (fun _ _=>false) (fun _ _ _ _=>false) (fun _ _ _ _=>false) (fun _ _ _ _ _ _=>false) (fun _ _ _ _ _ _=>false) (fun _ _=>false) (fun _ _ _ _=>false) (fun _ _ _ _ _ _=>false) (fun _ _ _ _=>false) (fun _ _ _ _ _ _=>false) (fun _=>false) (fun _ _ _ _ _ _=>false) (fun _ _ _ _=>false) (fun _ _ _ _ _ _ _ _ _ _ _ _ _ _ _ _ _=>false) (fun _ _ _ _ _ _ _ _ _ _ _ _ _ _ _ _ _=>false) (fun _ _ _ _ _ _ _ _ _ _ _ _ _ _ _ _ _=>false) t)
    (fun t=>T.rec (motive:=fun _=>Bool) (fun _=>false) true false (fun _=>false) (fun _=>false) (fun _=>false) (fun _ _ _ _=>false) (fun _ _ _ _=>false) (fun _ _ _ _=>false) (fun _ _ _=>false) (fun _ _ _ _=>false) (fun _ _ _ _=>false) (fun _ _ _ _ _=>false) (fun _ _ _ _ _=>false) (fun _ _ _ _ _ _=>false) (fun _ _ _ _=>false) (fun _ _ _ _=>false) (fun _ _ _ _=>false) (fun _ _ _ _=>false) (fun _ _ _ _=>false) (fun _ _ _ _=>false) (fun _ _=>false) (fun _ _ _ _=>false) (fun _ _ _ _=>false) (fun _ _ _ _ _ _=>false) (fun _ _ _ _ _ _=>false) (fun _ _=>false) (fun _ _ _ _=>false) (fun _ _ _ _ _ _=>false) (fun _ _ _ _=>false) (fun _ _ _ _ _ _=>false) (fun _=>false) (fun _ _ _ _ _ _=>false) (fun _ _ _ _=>false) (fun _ _ _ _ _ _ _ _ _ _ _ _ _ _ _ _ _=>false) (fun _ _ _ _ _ _ _ _ _ _ _ _ _ _ _ _ _=>false) (fun _ _ _ _ _ _ _ _ _ _ _ _ _ _ _ _ _=>false) t)
    (fun t=>T.rec (motive:=fun _=>Bool) (fun _=>false) false true (fun _=>false) (fun _=>false) (fun _=>false) (fun _ _ _ _=>false) (fun _ _ _ _=>false) (fun _ _ _ _=>false) (fun _ _ _=>false) (fun _ _ _ _=>false) (fun _ _ _ _=>false) (fun _ _ _ _ _=>false) (fun _ _ _ _ _=>false) (fun _ _ _ _ _ _=>false) (fun _ _ _ _=>false) (fun _ _ _ _=>false) (fun _ _ _ _=>false) (fun _ _ _ _=>false) (fun _ _ _ _=>false) (fun _ _ _ _=>false) (fun _ _=>false) (fun _ _ _ _=>false) (fun _ _ _ _=>false) (fun _ _ _ _ _ _=>false) (fun _ _ _ _ _ _=>false) (fun _ _=>false) (fun _ _ _ _=>false) (fun _ _ _ _ _ _=>false) (fun _ _ _ _=>false) (fun _ _ _ _ _ _=>false) (fun _=>false) (fun _ _ _ _ _ _=>false) (fun _ _ _ _=>false) (fun _ _ _ _ _ _ _ _ _ _ _ _ _ _ _ _ _=>false) (fun _ _ _ _ _ _ _ _ _ _ _ _ _ _ _ _ _=>false) (fun _ _ _ _ _ _ _ _ _ _ _ _ _ _ _ _ _=>false) t)
    (fun q0 t=>T.rec (motive:=fun _=>Bool) (fun _=>false) false false (fun p0=>(Nat.beq q0 p0)) (fun _=>false) (fun _=>false) (fun _ _ _ _=>false) (fun _ _ _ _=>false) (fun _ _ _ _=>false) (fun _ _ _=>false) (fun _ _ _ _=>false) (fun _ _ _ _=>false) (fun _ _ _ _ _=>false) (fun _ _ _ _ _=>false) (fun _ _ _ _ _ _=>false) (fun _ _ _ _=>false) (fun _ _ _ _=>false) (fun _ _ _ _=>false) (fun _ _ _ _=>false) (fun _ _ _ _=>false) (fun _ _ _ _=>false) (fun _ _=>false) (fun _ _ _ _=>false) (fun _ _ _ _=>false) (fun _ _ _ _ _ _=>false) (fun _ _ _ _ _ _=>false) (fun _ _=>false) (fun _ _ _ _=>false) (fun _ _ _ _ _ _=>false) (fun _ _ _ _=>false) (fun _ _ _ _ _ _=>false) (fun _=>false) (fun _ _ _ _ _ _=>false) (fun _ _ _ _=>false) (fun _ _ _ _ _ _ _ _ _ _ _ _ _ _ _ _ _=>false) (fun _ _ _ _ _ _ _ _ _ _ _ _ _ _ _ _ _=>false) (fun _ _ _ _ _ _ _ _ _ _ _ _ _ _ _ _ _=>false) t)
    (fun q0 t=>T.rec (motive:=fun _=>Bool) (fun _=>false) false false (fun _=>false) (fun p0=>(Nat.beq q0 p0)) (fun _=>false) (fun _ _ _ _=>false) (fun _ _ _ _=>false) (fun _ _ _ _=>false) (fun _ _ _=>false) (fun _ _ _ _=>false) (fun _ _ _ _=>false) (fun _ _ _ _ _=>false) (fun _ _ _ _ _=>false) (fun _ _ _ _ _ _=>false) (fun _ _ _ _=>false) (fun _ _ _ _=>false) (fun _ _ _ _=>false) (fun _ _ _ _=>false) (fun _ _ _ _=>false) (fun _ _ _ _=>false) (fun _ _=>false) (fun _ _ _ _=>false) (fun _ _ _ _=>false) (fun _ _ _ _ _ _=>false) (fun _ _ _ _ _ _=>false) (fun _ _=>false) (fun _ _ _ _=>false) (fun _ _ _ _ _ _=>false) (fun _ _ _ _=>false) (fun _ _ _ _ _ _=>false) (fun _=>false) (fun _ _ _ _ _ _=>false) (fun _ _ _ _=>false) (fun _ _ _ _ _ _ _ _ _ _ _ _ _ _ _ _ _=>false) (fun _ _ _ _ _ _ _ _ _ _ _ _ _ _ _ _ _=>false) (fun _ _ _ _ _ _ _ _ _ _ _ _ _ _ _ _ _=>false) t)
    (fun q0 t=>T.rec (motive:=fun _=>Bool) (fun _=>false) false false (fun _=>false) (fun _=>false) (fun p0=>(Nat.beq q0 p0)) (fun _ _ _ _=>false) (fun _ _ _ _=>false) (fun _ _ _ _=>false) (fun _ _ _=>false) (fun _ _ _ _=>false) (fun _ _ _ _=>false) (fun _ _ _ _ _=>false) (fun _ _ _ _ _=>false) (fun _ _ _ _ _ _=>false) (fun _ _ _ _=>false) (fun _ _ _ _=>false) (fun _ _ _ _=>false) (fun _ _ _ _=>false) (fun _ _ _ _=>false) (fun _ _ _ _=>false) (fun _ _=>false) (fun _ _ _ _=>false) (fun _ _ _ _=>false) (fun _ _ _ _ _ _=>false) (fun _ _ _ _ _ _=>false) (fun _ _=>false) (fun _ _ _ _=>false) (fun _ _ _ _ _ _=>false) (fun _ _ _ _=>false) (fun _ _ _ _ _ _=>false) (fun _=>false) (fun _ _ _ _ _ _=>false) (fun _ _ _ _=>false) (fun _ _ _ _ _ _ _ _ _ _ _ _ _ _ _ _ _=>false) (fun _ _ _ _ _ _ _ _ _ _ _ _ _ _ _ _ _=>false) (fun _ _ _ _ _ _ _ _ _ _ _ _ _ _ _ _ _=>false) t)
    (fun _ _ h0 h1 t=>T.rec (motive:=fun _=>Bool) (fun _=>false) false false (fun _=>false) (fun _=>false) (fun _=>false) (fun b0 b1 _ _=>((h0 b0).and (h1 b1))) (fun _ _ _ _=>false) (fun _ _ _ _=>false) (fun _ _ _=>false) (fun _ _ _ _=>false) (fun _ _ _ _=>false) (fun _ _ _ _ _=>false) (fun _ _ _ _ _=>false) (fun _ _ _ _ _ _=>false) (fun _ _ _ _=>false) (fun _ _ _ _=>false) (fun _ _ _ _=>false) (fun _ _ _ _=>false) (fun _ _ _ _=>false) (fun _ _ _ _=>false) (fun _ _=>false) (fun _ _ _ _=>false) (fun _ _ _ _=>false) (fun _ _ _ _ _ _=>false) (fun _ _ _ _ _ _=>false) (fun _ _=>false) (fun _ _ _ _=>false) (fun _ _ _ _ _ _=>false) (fun _ _ _ _=>false) (fun _ _ _ _ _ _=>false) (fun _=>false) (fun _ _ _ _ _ _=>false) (fun _ _ _ _=>false) (fun _ _ _ _ _ _ _ _ _ _ _ _ _ _ _ _ _=>false) (fun _ _ _ _ _ _ _ _ _ _ _ _ _ _ _ _ _=>false) (fun _ _ _ _ _ _ _ _ _ _ _ _ _ _ _ _ _=>false) t)
    (fun _ _ h0 h1 t=>T.rec (motive:=fun _=>Bool) (fun _=>false) false false (fun _=>false) (fun _=>false) (fun _=>false) (fun _ _ _ _=>false) (fun b0 b1 _ _=>((h0 b0).and (h1 b1))) (fun _ _ _ _=>false) (fun _ _ _=>false) (fun _ _ _ _=>false) (fun _ _ _ _=>false) (fun _ _ _ _ _=>false) (fun _ _ _ _ _=>false) (fun _ _ _ _ _ _=>false) (fun _ _ _ _=>false) (fun _ _ _ _=>false) (fun _ _ _ _=>false) (fun _ _ _ _=>false) (fun _ _ _ _=>false) (fun _ _ _ _=>false) (fun _ _=>false) (fun _ _ _ _=>false) (fun _ _ _ _=>false) (fun _ _ _ _ _ _=>false) (fun _ _ _ _ _ _=>false) (fun _ _=>false) (fun _ _ _ _=>false) (fun _ _ _ _ _ _=>false) (fun _ _ _ _=>false) (fun _ _ _ _ _ _=>false) (fun _=>false) (fun _ _ _ _ _ _=>false) (fun _ _ _ _=>false) (fun _ _ _ _ _ _ _ _ _ _ _ _ _ _ _ _ _=>false) (fun _ _ _ _ _ _ _ _ _ _ _ _ _ _ _ _ _=>false) (fun _ _ _ _ _ _ _ _ _ _ _ _ _ _ _ _ _=>false) t)
    (fun _ _ h0 h1 t=>T.rec (motive:=fun _=>Bool) (fun _=>false) false false (fun _=>false) (fun _=>false) (fun _=>false) (fun _ _ _ _=>false) (fun _ _ _ _=>false) (fun b0 b1 _ _=>((h0 b0).and (h1 b1))) (fun _ _ _=>false) (fun _ _ _ _=>false) (fun _ _ _ _=>false) (fun _ _ _ _ _=>false) (fun _ _ _ _ _=>false) (fun _ _ _ _ _ _=>false) (fun _ _ _ _=>false) (fun _ _ _ _=>false) (fun _ _ _ _=>false) (fun _ _ _ _=>false) (fun _ _ _ _=>false) (fun _ _ _ _=>false) (fun _ _=>false) (fun _ _ _ _=>false) (fun _ _ _ _=>false) (fun _ _ _ _ _ _=>false) (fun _ _ _ _ _ _=>false) (fun _ _=>false) (fun _ _ _ _=>false) (fun _ _ _ _ _ _=>false) (fun _ _ _ _=>false) (fun _ _ _ _ _ _=>false) (fun _=>false) (fun _ _ _ _ _ _=>false) (fun _ _ _ _=>false) (fun _ _ _ _ _ _ _ _ _ _ _ _ _ _ _ _ _=>false) (fun _ _ _ _ _ _ _ _ _ _ _ _ _ _ _ _ _=>false) (fun _ _ _ _ _ _ _ _ _ _ _ _ _ _ _ _ _=>false) t)
    (fun q0 _ h0 t=>T.rec (motive:=fun _=>Bool) (fun _=>false) false false (fun _=>false) (fun _=>false) (fun _=>false) (fun _ _ _ _=>false) (fun _ _ _ _=>false) (fun _ _ _ _=>false) (fun p0 b0 _=>((decide (q0=p0)).and (h0 b0))) (fun _ _ _ _=>false) (fun _ _ _ _=>false) (fun _ _ _ _ _=>false) (fun _ _ _ _ _=>false) (fun _ _ _ _ _ _=>false) (fun _ _ _ _=>false) (fun _ _ _ _=>false) (fun _ _ _ _=>false) (fun _ _ _ _=>false) (fun _ _ _ _=>false) (fun _ _ _ _=>false) (fun _ _=>false) (fun _ _ _ _=>false) (fun _ _ _ _=>false) (fun _ _ _ _ _ _=>false) (fun _ _ _ _ _ _=>false) (fun _ _=>false) (fun _ _ _ _=>false) (fun _ _ _ _ _ _=>false) (fun _ _ _ _=>false) (fun _ _ _ _ _ _=>false) (fun _=>false) (fun _ _ _ _ _ _=>false) (fun _ _ _ _=>false) (fun _ _ _ _ _ _ _ _ _ _ _ _ _ _ _ _ _=>false) (fun _ _ _ _ _ _ _ _ _ _ _ _ _ _ _ _ _=>false) (fun _ _ _ _ _ _ _ _ _ _ _ _ _ _ _ _ _=>false) t)
    (fun _ _ h0 h1 t=>T.rec (motive:=fun _=>Bool) (fun _=>false) false false (fun _=>false) (fun _=>false) (fun _=>false) (fun _ _ _ _=>false) (fun _ _ _ _=>false) (fun _ _ _ _=>false) (fun _ _ _=>false) (fun b0 b1 _ _=>((h0 b0).and (h1 b1))) (fun _ _ _ _=>false) (fun _ _ _ _ _=>false) (fun _ _ _ _ _=>false) (fun _ _ _ _ _ _=>false) (fun _ _ _ _=>false) (fun _ _ _ _=>false) (fun _ _ _ _=>false) (fun _ _ _ _=>false) (fun _ _ _ _=>false) (fun _ _ _ _=>false) (fun _ _=>false) (fun _ _ _ _=>false) (fun _ _ _ _=>false) (fun _ _ _ _ _ _=>false) (fun _ _ _ _ _ _=>false) (fun _ _=>false) (fun _ _ _ _=>false) (fun _ _ _ _ _ _=>false) (fun _ _ _ _=>false) (fun _ _ _ _ _ _=>false) (fun _=>false) (fun _ _ _ _ _ _=>false) (fun _ _ _ _=>false) (fun _ _ _ _ _ _ _ _ _ _ _ _ _ _ _ _ _=>false) (fun _ _ _ _ _ _ _ _ _ _ _ _ _ _ _ _ _=>false) (fun _ _ _ _ _ _ _ _ _ _ _ _ _ _ _ _ _=>false) t)
    (fun _ _ h0 h1 t=>T.rec (motive:=fun _=>Bool) (fun _=>false) false false (fun _=>false) (fun _=>false) (fun _=>false) (fun _ _ _ _=>false) (fun _ _ _ _=>false) (fun _ _ _ _=>false) (fun _ _ _=>false) (fun _ _ _ _=>false) (fun b0 b1 _ _=>((h0 b0).and (h1 b1))) (fun _ _ _ _ _=>false) (fun _ _ _ _ _=>false) (fun _ _ _ _ _ _=>false) (fun _ _ _ _=>false) (fun _ _ _ _=>false) (fun _ _ _ _=>false) (fun _ _ _ _=>false) (fun _ _ _ _=>false) (fun _ _ _ _=>false) (fun _ _=>false) (fun _ _ _ _=>false) (fun _ _ _ _=>false) (fun _ _ _ _ _ _=>false) (fun _ _ _ _ _ _=>false) (fun _ _=>false) (fun _ _ _ _=>false) (fun _ _ _ _ _ _=>false) (fun _ _ _ _=>false) (fun _ _ _ _ _ _=>false) (fun _=>false) (fun _ _ _ _ _ _=>false) (fun _ _ _ _=>false) (fun _ _ _ _ _ _ _ _ _ _ _ _ _ _ _ _ _=>false) (fun _ _ _ _ _ _ _ _ _ _ _ _ _ _ _ _ _=>false) (fun _ _ _ _ _ _ _ _ _ _ _ _ _ _ _ _ _=>false) t)
    (fun q0 _ _ h0 h1 t=>T.rec (motive:=fun _=>Bool) (fun _=>false) false false (fun _=>false) (fun _=>false) (fun _=>false) (fun _ _ _ _=>false) (fun _ _ _ _=>false) (fun _ _ _ _=>false) (fun _ _ _=>false) (fun _ _ _ _=>false) (fun _ _ _ _=>false) (fun p0 b0 b1 _ _=>((decide (q0=p0)).and ((h0 b0).and (h1 b1)))) (fun _ _ _ _ _=>false) (fun _ _ _ _ _ _=>false) (fun _ _ _ _=>false) (fun _ _ _ _=>false) (fun _ _ _ _=>false) (fun _ _ _ _=>false) (fun _ _ _ _=>false) (fun _ _ _ _=>false) (fun _ _=>false) (fun _ _ _ _=>false) (fun _ _ _ _=>false) (fun _ _ _ _ _ _=>false) (fun _ _ _ _ _ _=>false) (fun _ _=>false) (fun _ _ _ _=>false) (fun _ _ _ _ _ _=>false) (fun _ _ _ _=>false) (fun _ _ _ _ _ _=>false) (fun _=>false) (fun _ _ _ _ _ _=>false) (fun _ _ _ _=>false) (fun _ _ _ _ _ _ _ _ _ _ _ _ _ _ _ _ _=>false) (fun _ _ _ _ _ _ _ _ _ _ _ _ _ _ _ _ _=>false) (fun _ _ _ _ _ _ _ _ _ _ _ _ _ _ _ _ _=>false) t)
    (fun q0 _ _ h0 h1 t=>T.rec (motive:=fun _=>Bool) (fun _=>false) false false (fun _=>false) (fun _=>false) (fun _=>false) (fun _ _ _ _=>false) (fun _ _ _ _=>false) (fun _ _ _ _=>false) (fun _ _ _=>false) (fun _ _ _ _=>false) (fun _ _ _ _=>false) (fun _ _ _ _ _=>false) (fun p0 b0 b1 _ _=>((decide (q0=p0)).and ((h0 b0).and (h1 b1)))) (fun _ _ _ _ _ _=>false) (fun _ _ _ _=>false) (fun _ _ _ _=>false) (fun _ _ _ _=>false) (fun _ _ _ _=>false) (fun _ _ _ _=>false) (fun _ _ _ _=>false) (fun _ _=>false) (fun _ _ _ _=>false) (fun _ _ _ _=>false) (fun _ _ _ _ _ _=>false) (fun _ _ _ _ _ _=>false) (fun _ _=>false) (fun _ _ _ _=>false) (fun _ _ _ _ _ _=>false) (fun _ _ _ _=>false) (fun _ _ _ _ _ _=>false) (fun _=>false) (fun _ _ _ _ _ _=>false) (fun _ _ _ _=>false) (fun _ _ _ _ _ _ _ _ _ _ _ _ _ _ _ _ _=>false) (fun _ _ _ _ _ _ _ _ _ _ _ _ _ _ _ _ _=>false) (fun _ _ _ _ _ _ _ _ _ _ _ _ _ _ _ _ _=>false) t)
    (fun q0 q1 _ _ h0 h1 t=>T.rec (motive:=fun _=>Bool) (fun _=>false) false false (fun _=>false) (fun _=>false) (fun _=>false) (fun _ _ _ _=>false) (fun _ _ _ _=>false) (fun _ _ _ _=>false) (fun _ _ _=>false) (fun _ _ _ _=>false) (fun _ _ _ _=>false) (fun _ _ _ _ _=>false) (fun _ _ _ _ _=>false) (fun p0 p1 b0 b1 _ _=>((decide (q0=p0)).and ((decide (q1=p1)).and ((h0 b0).and (h1 b1))))) (fun _ _ _ _=>false) (fun _ _ _ _=>false) (fun _ _ _ _=>false) (fun _ _ _ _=>false) (fun _ _ _ _=>false) (fun _ _ _ _=>false) (fun _ _=>false) (fun _ _ _ _=>false) (fun _ _ _ _=>false) (fun _ _ _ _ _ _=>false) (fun _ _ _ _ _ _=>false) (fun _ _=>false) (fun _ _ _ _=>false) (fun _ _ _ _ _ _=>false) (fun _ _ _ _=>false) (fun _ _ _ _ _ _=>false) (fun _=>false) (fun _ _ _ _ _ _=>false) (fun _ _ _ _=>false) (fun _ _ _ _ _ _ _ _ _ _ _ _ _ _ _ _ _=>false) (fun _ _ _ _ _ _ _ _ _ _ _ _ _ _ _ _ _=>false) (fun _ _ _ _ _ _ _ _ _ _ _ _ _ _ _ _ _=>false) t)
    (fun _ _ h0 h1 t=>T.rec (motive:=fun _=>Bool) (fun _=>false) false false (fun _=>false) (fun _=>false) (fun _=>false) (fun _ _ _ _=>false) (fun _ _ _ _=>false) (fun _ _ _ _=>false) (fun _ _ _=>false) (fun _ _ _ _=>false) (fun _ _ _ _=>false) (fun _ _ _ _ _=>false) (fun _ _ _ _ _=>false) (fun _ _ _ _ _ _=>false) (fun b0 b1 _ _=>((h0 b0).and (h1 b1))) (fun _ _ _ _=>false) (fun _ _ _ _=>false) (fun _ _ _ _=>false) (fun _ _ _ _=>false) (fun _ _ _ _=>false) (fun _ _=>false) (fun _ _ _ _=>false) (fun _ _ _ _=>false) (fun _ _ _ _ _ _=>false) (fun _ _ _ _ _ _=>false) (fun _ _=>false) (fun _ _ _ _=>false) (fun _ _ _ _ _ _=>false) (fun _ _ _ _=>false) (fun _ _ _ _ _ _=>false) (fun _=>false) (fun _ _ _ _ _ _=>false) (fun _ _ _ _=>false) (fun _ _ _ _ _ _ _ _ _ _ _ _ _ _ _ _ _=>false) (fun _ _ _ _ _ _ _ _ _ _ _ _ _ _ _ _ _=>false) (fun _ _ _ _ _ _ _ _ _ _ _ _ _ _ _ _ _=>false) t)
    (fun _ _ h0 h1 t=>T.rec (motive:=fun _=>Bool) (fun _=>false) false false (fun _=>false) (fun _=>false) (fun _=>false) (fun _ _ _ _=>false) (fun _ _ _ _=>false) (fun _ _ _ _=>false) (fun _ _ _=>false) (fun _ _ _ _=>false) (fun _ _ _ _=>false) (fun _ _ _ _ _=>false) (fun _ _ _ _ _=>false) (fun _ _ _ _ _ _=>false) (fun _ _ _ _=>false) (fun b0 b1 _ _=>((h0 b0).and (h1 b1))) (fun _ _ _ _=>false) (fun _ _ _ _=>false) (fun _ _ _ _=>false) (fun _ _ _ _=>false) (fun _ _=>false) (fun _ _ _ _=>false) (fun _ _ _ _=>false) (fun _ _ _ _ _ _=>false) (fun _ _ _ _ _ _=>false) (fun _ _=>false) (fun _ _ _ _=>false) (fun _ _ _ _ _ _=>false) (fun _ _ _ _=>false) (fun _ _ _ _ _ _=>false) (fun _=>false) (fun _ _ _ _ _ _=>false) (fun _ _ _ _=>false) (fun _ _ _ _ _ _ _ _ _ _ _ _ _ _ _ _ _=>false) (fun _ _ _ _ _ _ _ _ _ _ _ _ _ _ _ _ _=>false) (fun _ _ _ _ _ _ _ _ _ _ _ _ _ _ _ _ _=>false) t)
    (fun _ _ h0 h1 t=>T.rec (motive:=fun _=>Bool) (fun _=>false) false false (fun _=>false) (fun _=>false) (fun _=>false) (fun _ _ _ _=>false) (fun _ _ _ _=>false) (fun _ _ _ _=>false) (fun _ _ _=>false) (fun _ _ _ _=>false) (fun _ _ _ _=>false) (fun _ _ _ _ _=>false) (fun _ _ _ _ _=>false) (fun _ _ _ _ _ _=>false) (fun _ _ _ _=>false) (fun _ _ _ _=>false) (fun b0 b1 _ _=>((h0 b0).and (h1 b1))) (fun _ _ _ _=>false) (fun _ _ _ _=>false) (fun _ _ _ _=>false) (fun _ _=>false) (fun _ _ _ _=>false) (fun _ _ _ _=>false) (fun _ _ _ _ _ _=>false) (fun _ _ _ _ _ _=>false) (fun _ _=>false) (fun _ _ _ _=>false) (fun _ _ _ _ _ _=>false) (fun _ _ _ _=>false) (fun _ _ _ _ _ _=>false) (fun _=>false) (fun _ _ _ _ _ _=>false) (fun _ _ _ _=>false) (fun _ _ _ _ _ _ _ _ _ _ _ _ _ _ _ _ _=>false) (fun _ _ _ _ _ _ _ _ _ _ _ _ _ _ _ _ _=>false) (fun _ _ _ _ _ _ _ _ _ _ _ _ _ _ _ _ _=>false) t)
    (fun _ _ h0 h1 t=>T.rec (motive:=fun _=>Bool) (fun _=>false) false false (fun _=>false) (fun _=>false) (fun _=>false) (fun _ _ _ _=>false) (fun _ _ _ _=>false) (fun _ _ _ _=>false) (fun _ _ _=>false) (fun _ _ _ _=>false) (fun _ _ _ _=>false) (fun _ _ _ _ _=>false) (fun _ _ _ _ _=>false) (fun _ _ _ _ _ _=>false) (fun _ _ _ _=>false) (fun _ _ _ _=>false) (fun _ _ _ _=>false) (fun b0 b1 _ _=>((h0 b0).and (h1 b1))) (fun _ _ _ _=>false) (fun _ _ _ _=>false) (fun _ _=>false) (fun _ _ _ _=>false) (fun _ _ _ _=>false) (fun _ _ _ _ _ _=>false) (fun _ _ _ _ _ _=>false) (fun _ _=>false) (fun _ _ _ _=>false) (fun _ _ _ _ _ _=>false) (fun _ _ _ _=>false) (fun _ _ _ _ _ _=>false) (fun _=>false) (fun _ _ _ _ _ _=>false) (fun _ _ _ _=>false) (fun _ _ _ _ _ _ _ _ _ _ _ _ _ _ _ _ _=>false) (fun _ _ _ _ _ _ _ _ _ _ _ _ _ _ _ _ _=>false) (fun _ _ _ _ _ _ _ _ _ _ _ _ _ _ _ _ _=>false) t)
    (fun _ _ h0 h1 t=>T.rec (motive:=fun _=>Bool) (fun _=>false) false false (fun _=>false) (fun _=>false) (fun _=>false) (fun _ _ _ _=>false) (fun _ _ _ _=>false) (fun _ _ _ _=>false) (fun _ _ _=>false) (fun _ _ _ _=>false) (fun _ _ _ _=>false) (fun _ _ _ _ _=>false) (fun _ _ _ _ _=>false) (fun _ _ _ _ _ _=>false) (fun _ _ _ _=>false) (fun _ _ _ _=>false) (fun _ _ _ _=>false) (fun _ _ _ _=>false) (fun b0 b1 _ _=>((h0 b0).and (h1 b1))) (fun _ _ _ _=>false) (fun _ _=>false) (fun _ _ _ _=>false) (fun _ _ _ _=>false) (fun _ _ _ _ _ _=>false) (fun _ _ _ _ _ _=>false) (fun _ _=>false) (fun _ _ _ _=>false) (fun _ _ _ _ _ _=>false) (fun _ _ _ _=>false) (fun _ _ _ _ _ _=>false) (fun _=>false) (fun _ _ _ _ _ _=>false) (fun _ _ _ _=>false) (fun _ _ _ _ _ _ _ _ _ _ _ _ _ _ _ _ _=>false) (fun _ _ _ _ _ _ _ _ _ _ _ _ _ _ _ _ _=>false) (fun _ _ _ _ _ _ _ _ _ _ _ _ _ _ _ _ _=>false) t)
    (fun _ _ h0 h1 t=>T.rec (motive:=fun _=>Bool) (fun _=>false) false false (fun _=>false) (fun _=>false) (fun _=>false) (fun _ _ _ _=>false) (fun _ _ _ _=>false) (fun _ _ _ _=>false) (fun _ _ _=>false) (fun _ _ _ _=>false) (fun _ _ _ _=>false) (fun _ _ _ _ _=>false) (fun _ _ _ _ _=>false) (fun _ _ _ _ _ _=>false) (fun _ _ _ _=>false) (fun _ _ _ _=>false) (fun _ _ _ _=>false) (fun _ _ _ _=>false) (fun _ _ _ _=>false) (fun b0 b1 _ _=>((h0 b0).and (h1 b1))) (fun _ _=>false) (fun _ _ _ _=>false) (fun _ _ _ _=>false) (fun _ _ _ _ _ _=>false) (fun _ _ _ _ _ _=>false) (fun _ _=>false) (fun _ _ _ _=>false) (fun _ _ _ _ _ _=>false) (fun _ _ _ _=>false) (fun _ _ _ _ _ _=>false) (fun _=>false) (fun _ _ _ _ _ _=>false) (fun _ _ _ _=>false) (fun _ _ _ _ _ _ _ _ _ _ _ _ _ _ _ _ _=>false) (fun _ _ _ _ _ _ _ _ _ _ _ _ _ _ _ _ _=>false) (fun _ _ _ _ _ _ _ _ _ _ _ _ _ _ _ _ _=>false) t)
    (fun _ h0 t=>T.rec (motive:=fun _=>Bool) (fun _=>false) false false (fun _=>false) (fun _=>false) (fun _=>false) (fun _ _ _ _=>false) (fun _ _ _ _=>false) (fun _ _ _ _=>false) (fun _ _ _=>false) (fun _ _ _ _=>false) (fun _ _ _ _=>false) (fun _ _ _ _ _=>false) (fun _ _ _ _ _=>false) (fun _ _ _ _ _ _=>false) (fun _ _ _ _=>false) (fun _ _ _ _=>false) (fun _ _ _ _=>false) (fun _ _ _ _=>false) (fun _ _ _ _=>false) (fun _ _ _ _=>false) (fun b0 _=>(h0 b0)) (fun _ _ _ _=>false) (fun _ _ _ _=>false) (fun _ _ _ _ _ _=>false) (fun _ _ _ _ _ _=>false) (fun _ _=>false) (fun _ _ _ _=>false) (fun _ _ _ _ _ _=>false) (fun _ _ _ _=>false) (fun _ _ _ _ _ _=>false) (fun _=>false) (fun _ _ _ _ _ _=>false) (fun _ _ _ _=>false) (fun _ _ _ _ _ _ _ _ _ _ _ _ _ _ _ _ _=>false) (fun _ _ _ _ _ _ _ _ _ _ _ _ _ _ _ _ _=>false) (fun _ _ _ _ _ _ _ _ _ _ _ _ _ _ _ _ _=>false) t)
    (fun _ _ h0 h1 t=>T.rec (motive:=fun _=>Bool) (fun _=>false) false false (fun _=>false) (fun _=>false) (fun _=>false) (fun _ _ _ _=>false) (fun _ _ _ _=>false) (fun _ _ _ _=>false) (fun _ _ _=>false) (fun _ _ _ _=>false) (fun _ _ _ _=>false) (fun _ _ _ _ _=>false) (fun _ _ _ _ _=>false) (fun _ _ _ _ _ _=>false) (fun _ _ _ _=>false) (fun _ _ _ _=>false) (fun _ _ _ _=>false) (fun _ _ _ _=>false) (fun _ _ _ _=>false) (fun _ _ _ _=>false) (fun _ _=>false) (fun b0 b1 _ _=>((h0 b0).and (h1 b1))) (fun _ _ _ _=>false) (fun _ _ _ _ _ _=>false) (fun _ _ _ _ _ _=>false) (fun _ _=>false) (fun _ _ _ _=>false) (fun _ _ _ _ _ _=>false) (fun _ _ _ _=>false) (fun _ _ _ _ _ _=>false) (fun _=>false) (fun _ _ _ _ _ _=>false) (fun _ _ _ _=>false) (fun _ _ _ _ _ _ _ _ _ _ _ _ _ _ _ _ _=>false) (fun _ _ _ _ _ _ _ _ _ _ _ _ _ _ _ _ _=>false) (fun _ _ _ _ _ _ _ _ _ _ _ _ _ _ _ _ _=>false) t)
    (fun _ _ h0 h1 t=>T.rec (motive:=fun _=>Bool) (fun _=>false) false false (fun _=>false) (fun _=>false) (fun _=>false) (fun _ _ _ _=>false) (fun _ _ _ _=>false) (fun _ _ _ _=>false) (fun _ _ _=>false) (fun _ _ _ _=>false) (fun _ _ _ _=>false) (fun _ _ _ _ _=>false) (fun _ _ _ _ _=>false) (fun _ _ _ _ _ _=>false) (fun _ _ _ _=>false) (fun _ _ _ _=>false) (fun _ _ _ _=>false) (fun _ _ _ _=>false) (fun _ _ _ _=>false) (fun _ _ _ _=>false) (fun _ _=>false) (fun _ _ _ _=>false) (fun b0 b1 _ _=>((h0 b0).and (h1 b1))) (fun _ _ _ _ _ _=>false) (fun _ _ _ _ _ _=>false) (fun _ _=>false) (fun _ _ _ _=>false) (fun _ _ _ _ _ _=>false) (fun _ _ _ _=>false) (fun _ _ _ _ _ _=>false) (fun _=>false) (fun _ _ _ _ _ _=>false) (fun _ _ _ _=>false) (fun _ _ _ _ _ _ _ _ _ _ _ _ _ _ _ _ _=>false) (fun _ _ _ _ _ _ _ _ _ _ _ _ _ _ _ _ _=>false) (fun _ _ _ _ _ _ _ _ _ _ _ _ _ _ _ _ _=>false) t)
    (fun _ _ _ h0 h1 h2 t=>T.rec (motive:=fun _=>Bool) (fun _=>false) false false (fun _=>false) (fun _=>false) (fun _=>false) (fun _ _ _ _=>false) (fun _ _ _ _=>false) (fun _ _ _ _=>false) (fun _ _ _=>false) (fun _ _ _ _=>false) (fun _ _ _ _=>false) (fun _ _ _ _ _=>false) (fun _ _ _ _ _=>false) (fun _ _ _ _ _ _=>false) (fun _ _ _ _=>false) (fun _ _ _ _=>false) (fun _ _ _ _=>false) (fun _ _ _ _=>false) (fun _ _ _ _=>false) (fun _ _ _ _=>false) (fun _ _=>false) (fun _ _ _ _=>false) (fun _ _ _ _=>false) (fun b0 b1 b2 _ _ _=>((h0 b0).and ((h1 b1).and (h2 b2)))) (fun _ _ _ _ _ _=>false) (fun _ _=>false) (fun _ _ _ _=>false) (fun _ _ _ _ _ _=>false) (fun _ _ _ _=>false) (fun _ _ _ _ _ _=>false) (fun _=>false) (fun _ _ _ _ _ _=>false) (fun _ _ _ _=>false) (fun _ _ _ _ _ _ _ _ _ _ _ _ _ _ _ _ _=>false) (fun _ _ _ _ _ _ _ _ _ _ _ _ _ _ _ _ _=>false) (fun _ _ _ _ _ _ _ _ _ _ _ _ _ _ _ _ _=>false) t)
    (fun _ _ _ h0 h1 h2 t=>T.rec (motive:=fun _=>Bool) (fun _=>false) false false (fun _=>false) (fun _=>false) (fun _=>false) (fun _ _ _ _=>false) (fun _ _ _ _=>false) (fun _ _ _ _=>false) (fun _ _ _=>false) (fun _ _ _ _=>false) (fun _ _ _ _=>false) (fun _ _ _ _ _=>false) (fun _ _ _ _ _=>false) (fun _ _ _ _ _ _=>false) (fun _ _ _ _=>false) (fun _ _ _ _=>false) (fun _ _ _ _=>false) (fun _ _ _ _=>false) (fun _ _ _ _=>false) (fun _ _ _ _=>false) (fun _ _=>false) (fun _ _ _ _=>false) (fun _ _ _ _=>false) (fun _ _ _ _ _ _=>false) (fun b0 b1 b2 _ _ _=>((h0 b0).and ((h1 b1).and (h2 b2)))) (fun _ _=>false) (fun _ _ _ _=>false) (fun _ _ _ _ _ _=>false) (fun _ _ _ _=>false) (fun _ _ _ _ _ _=>false) (fun _=>false) (fun _ _ _ _ _ _=>false) (fun _ _ _ _=>false) (fun _ _ _ _ _ _ _ _ _ _ _ _ _ _ _ _ _=>false) (fun _ _ _ _ _ _ _ _ _ _ _ _ _ _ _ _ _=>false) (fun _ _ _ _ _ _ _ _ _ _ _ _ _ _ _ _ _=>false) t)
    (fun _ h0 t=>T.rec (motive:=fun _=>Bool) (fun _=>false) false false (fun _=>false) (fun _=>false) (fun _=>false) (fun _ _ _ _=>false) (fun _ _ _ _=>false) (fun _ _ _ _=>false) (fun _ _ _=>false) (fun _ _ _ _=>false) (fun _ _ _ _=>false) (fun _ _ _ _ _=>false) (fun _ _ _ _ _=>false) (fun _ _ _ _ _ _=>false) (fun _ _ _ _=>false) (fun _ _ _ _=>false) (fun _ _ _ _=>false) (fun _ _ _ _=>false) (fun _ _ _ _=>false) (fun _ _ _ _=>false) (fun _ _=>false) (fun _ _ _ _=>false) (fun _ _ _ _=>false) (fun _ _ _ _ _ _=>false) (fun _ _ _ _ _ _=>false) (fun b0 _=>(h0 b0)) (fun _ _ _ _=>false) (fun _ _ _ _ _ _=>false) (fun _ _ _ _=>false) (fun _ _ _ _ _ _=>false) (fun _=>false) (fun _ _ _ _ _ _=>false) (fun _ _ _ _=>false) (fun _ _ _ _ _ _ _ _ _ _ _ _ _ _ _ _ _=>false) (fun _ _ _ _ _ _ _ _ _ _ _ _ _ _ _ _ _=>false) (fun _ _ _ _ _ _ _ _ _ _ _ _ _ _ _ _ _=>false) t)
    (fun _ _ h0 h1 t=>T.rec (motive:=fun _=>Bool) (fun _=>false) false false (fun _=>false) (fun _=>false) (fun _=>false) (fun _ _ _ _=>false) (fun _ _ _ _=>false) (fun _ _ _ _=>false) (fun _ _ _=>false) (fun _ _ _ _=>false) (fun _ _ _ _=>false) (fun _ _ _ _ _=>false) (fun _ _ _ _ _=>false) (fun _ _ _ _ _ _=>false) (fun _ _ _ _=>false) (fun _ _ _ _=>false) (fun _ _ _ _=>false) (fun _ _ _ _=>false) (fun _ _ _ _=>false) (fun _ _ _ _=>false) (fun _ _=>false) (fun _ _ _ _=>false) (fun _ _ _ _=>false) (fun _ _ _ _ _ _=>false) (fun _ _ _ _ _ _=>false) (fun _ _=>false) (fun b0 b1 _ _=>((h0 b0).and (h1 b1))) (fun _ _ _ _ _ _=>false) (fun _ _ _ _=>false) (fun _ _ _ _ _ _=>false) (fun _=>false) (fun _ _ _ _ _ _=>false) (fun _ _ _ _=>false) (fun _ _ _ _ _ _ _ _ _ _ _ _ _ _ _ _ _=>false) (fun _ _ _ _ _ _ _ _ _ _ _ _ _ _ _ _ _=>false) (fun _ _ _ _ _ _ _ _ _ _ _ _ _ _ _ _ _=>false) t)
    (fun _ _ _ h0 h1 h2 t=>T.rec (motive:=fun _=>Bool) (fun _=>false) false false (fun _=>false) (fun _=>false) (fun _=>false) (fun _ _ _ _=>false) (fun _ _ _ _=>false) (fun _ _ _ _=>false) (fun _ _ _=>false) (fun _ _ _ _=>false) (fun _ _ _ _=>false) (fun _ _ _ _ _=>false) (fun _ _ _ _ _=>false) (fun _ _ _ _ _ _=>false) (fun _ _ _ _=>false) (fun _ _ _ _=>false) (fun _ _ _ _=>false) (fun _ _ _ _=>false) (fun _ _ _ _=>false) (fun _ _ _ _=>false) (fun _ _=>false) (fun _ _ _ _=>false) (fun _ _ _ _=>false) (fun _ _ _ _ _ _=>false) (fun _ _ _ _ _ _=>false) (fun _ _=>false) (fun _ _ _ _=>false) (fun b0 b1 b2 _ _ _=>((h0 b0).and ((h1 b1).and (h2 b2)))) (fun _ _ _ _=>false) (fun _ _ _ _ _ _=>false) (fun _=>false) (fun _ _ _ _ _ _=>false) (fun _ _ _ _=>false) (fun _ _ _ _ _ _ _ _ _ _ _ _ _ _ _ _ _=>false) (fun _ _ _ _ _ _ _ _ _ _ _ _ _ _ _ _ _=>false) (fun _ _ _ _ _ _ _ _ _ _ _ _ _ _ _ _ _=>false) t)
    (fun _ _ h0 h1 t=>T.rec (motive:=fun _=>Bool) (fun _=>false) false false (fun _=>false) (fun _=>false) (fun _=>false) (fun _ _ _ _=>false) (fun _ _ _ _=>false) (fun _ _ _ _=>false) (fun _ _ _=>false) (fun _ _ _ _=>false) (fun _ _ _ _=>false) (fun _ _ _ _ _=>false) (fun _ _ _ _ _=>false) (fun _ _ _ _ _ _=>false) (fun _ _ _ _=>false) (fun _ _ _ _=>false) (fun _ _ _ _=>false) (fun _ _ _ _=>false) (fun _ _ _ _=>false) (fun _ _ _ _=>false) (fun _ _=>false) (fun _ _ _ _=>false) (fun _ _ _ _=>false) (fun _ _ _ _ _ _=>false) (fun _ _ _ _ _ _=>false) (fun _ _=>false) (fun _ _ _ _=>false) (fun _ _ _ _ _ _=>false) (fun b0 b1 _ _=>((h0 b0).and (h1 b1))) (fun _ _ _ _ _ _=>false) (fun _=>false) (fun _ _ _ _ _ _=>false) (fun _ _ _ _=>false) (fun _ _ _ _ _ _ _ _ _ _ _ _ _ _ _ _ _=>false) (fun _ _ _ _ _ _ _ _ _ _ _ _ _ _ _ _ _=>false) (fun _ _ _ _ _ _ _ _ _ _ _ _ _ _ _ _ _=>false) t)
    (fun _ _ _ h0 h1 h2 t=>T.rec (motive:=fun _=>Bool) (fun _=>false) false false (fun _=>false) (fun _=>false) (fun _=>false) (fun _ _ _ _=>false) (fun _ _ _ _=>false) (fun _ _ _ _=>false) (fun _ _ _=>false) (fun _ _ _ _=>false) (fun _ _ _ _=>false) (fun _ _ _ _ _=>false) (fun _ _ _ _ _=>false) (fun _ _ _ _ _ _=>false) (fun _ _ _ _=>false) (fun _ _ _ _=>false) (fun _ _ _ _=>false) (fun _ _ _ _=>false) (fun _ _ _ _=>false) (fun _ _ _ _=>false) (fun _ _=>false) (fun _ _ _ _=>false) (fun _ _ _ _=>false) (fun _ _ _ _ _ _=>false) (fun _ _ _ _ _ _=>false) (fun _ _=>false) (fun _ _ _ _=>false) (fun _ _ _ _ _ _=>false) (fun _ _ _ _=>false) (fun b0 b1 b2 _ _ _=>((h0 b0).and ((h1 b1).and (h2 b2)))) (fun _=>false) (fun _ _ _ _ _ _=>false) (fun _ _ _ _=>false) (fun _ _ _ _ _ _ _ _ _ _ _ _ _ _ _ _ _=>false) (fun _ _ _ _ _ _ _ _ _ _ _ _ _ _ _ _ _=>false) (fun _ _ _ _ _ _ _ _ _ _ _ _ _ _ _ _ _=>false) t)
    (fun q0 t=>T.rec (motive:=fun _=>Bool) (fun _=>false) false false (fun _=>false) (fun _=>false) (fun _=>false) (fun _ _ _ _=>false) (fun _ _ _ _=>false) (fun _ _ _ _=>false) (fun _ _ _=>false) (fun _ _ _ _=>false) (fun _ _ _ _=>false) (fun _ _ _ _ _=>false) (fun _ _ _ _ _=>false) (fun _ _ _ _ _ _=>false) (fun _ _ _ _=>false) (fun _ _ _ _=>false) (fun _ _ _ _=>false) (fun _ _ _ _=>false) (fun _ _ _ _=>false) (fun _ _ _ _=>false) (fun _ _=>false) (fun _ _ _ _=>false) (fun _ _ _ _=>false) (fun _ _ _ _ _ _=>false) (fun _ _ _ _ _ _=>false) (fun _ _=>false) (fun _ _ _ _=>false) (fun _ _ _ _ _ _=>false) (fun _ _ _ _=>false) (fun _ _ _ _ _ _=>false) (fun p0=>(decide (q0=p0))) (fun _ _ _ _ _ _=>false) (fun _ _ _ _=>false) (fun _ _ _ _ _ _ _ _ _ _ _ _ _ _ _ _ _=>false) (fun _ _ _ _ _ _ _ _ _ _ _ _ _ _ _ _ _=>false) (fun _ _ _ _ _ _ _ _ _ _ _ _ _ _ _ _ _=>false) t)
    (fun _ _ _ h0 h1 h2 t=>T.rec (motive:=fun _=>Bool) (fun _=>false) false false (fun _=>false) (fun _=>false) (fun _=>false) (fun _ _ _ _=>false) (fun _ _ _ _=>false) (fun _ _ _ _=>false) (fun _ _ _=>false) (fun _ _ _ _=>false) (fun _ _ _ _=>false) (fun _ _ _ _ _=>false) (fun _ _ _ _ _=>false) (fun _ _ _ _ _ _=>false) (fun _ _ _ _=>false) (fun _ _ _ _=>false) (fun _ _ _ _=>false) (fun _ _ _ _=>false) (fun _ _ _ _=>false) (fun _ _ _ _=>false) (fun _ _=>false) (fun _ _ _ _=>false) (fun _ _ _ _=>false) (fun _ _ _ _ _ _=>false) (fun _ _ _ _ _ _=>false) (fun _ _=>false) (fun _ _ _ _=>false) (fun _ _ _ _ _ _=>false) (fun _ _ _ _=>false) (fun _ _ _ _ _ _=>false) (fun _=>false) (fun b0 b1 b2 _ _ _=>((h0 b0).and ((h1 b1).and (h2 b2)))) (fun _ _ _ _=>false) (fun _ _ _ _ _ _ _ _ _ _ _ _ _ _ _ _ _=>false) (fun _ _ _ _ _ _ _ _ _ _ _ _ _ _ _ _ _=>false) (fun _ _ _ _ _ _ _ _ _ _ _ _ _ _ _ _ _=>false) t)
    (fun _ _ h0 h1 t=>T.rec (motive:=fun _=>Bool) (fun _=>false) false false (fun _=>false) (fun _=>false) (fun _=>false) (fun _ _ _ _=>false) (fun _ _ _ _=>false) (fun _ _ _ _=>false) (fun _ _ _=>false) (fun _ _ _ _=>false) (fun _ _ _ _=>false) (fun _ _ _ _ _=>false) (fun _ _ _ _ _=>false) (fun _ _ _ _ _ _=>false) (fun _ _ _ _=>false) (fun _ _ _ _=>false) (fun _ _ _ _=>false) (fun _ _ _ _=>false) (fun _ _ _ _=>false) (fun _ _ _ _=>false) (fun _ _=>false) (fun _ _ _ _=>false) (fun _ _ _ _=>false) (fun _ _ _ _ _ _=>false) (fun _ _ _ _ _ _=>false) (fun _ _=>false) (fun _ _ _ _=>false) (fun _ _ _ _ _ _=>false) (fun _ _ _ _=>false) (fun _ _ _ _ _ _=>false) (fun _=>false) (fun _ _ _ _ _ _=>false) (fun b0 b1 _ _=>((h0 b0).and (h1 b1))) (fun _ _ _ _ _ _ _ _ _ _ _ _ _ _ _ _ _=>false) (fun _ _ _ _ _ _ _ _ _ _ _ _ _ _ _ _ _=>false) (fun _ _ _ _ _ _ _ _ _ _ _ _ _ _ _ _ _=>false) t)
    (fun q0 _ _ _ _ _ _ _ _ h0 h1 h2 h3 h4 h5 h6 h7 t=>T.rec (motive:=fun _=>Bool) (fun _=>false) false false (fun _=>false) (fun _=>false) (fun _=>false) (fun _ _ _ _=>false) (fun _ _ _ _=>false) (fun _ _ _ _=>false) (fun _ _ _=>false) (fun _ _ _ _=>false) (fun _ _ _ _=>false) (fun _ _ _ _ _=>false) (fun _ _ _ _ _=>false) (fun _ _ _ _ _ _=>false) (fun _ _ _ _=>false) (fun _ _ _ _=>false) (fun _ _ _ _=>false) (fun _ _ _ _=>false) (fun _ _ _ _=>false) (fun _ _ _ _=>false) (fun _ _=>false) (fun _ _ _ _=>false) (fun _ _ _ _=>false) (fun _ _ _ _ _ _=>false) (fun _ _ _ _ _ _=>false) (fun _ _=>false) (fun _ _ _ _=>false) (fun _ _ _ _ _ _=>false) (fun _ _ _ _=>false) (fun _ _ _ _ _ _=>false) (fun _=>false) (fun _ _ _ _ _ _=>false) (fun _ _ _ _=>false) (fun p0 b0 b1 b2 b3 b4 b5 b6 b7 _ _ _ _ _ _ _ _=>((Nat.beq q0 p0).and ((h0 b0).and ((h1 b1).and ((h2 b2).and ((h3 b3).and ((h4 b4).and ((h5 b5).and ((h6 b6).and (h7 b7)))))))))) (fun _ _ _ _ _ _ _ _ _ _ _ _ _ _ _ _ _=>false) (fun _ _ _ _ _ _ _ _ _ _ _ _ _ _ _ _ _=>false) t)
    (fun q0 _ _ _ _ _ _ _ _ h0 h1 h2 h3 h4 h5 h6 h7 t=>T.rec (motive:=fun _=>Bool) (fun _=>false) false false (fun _=>false) (fun _=>false) (fun _=>false) (fun _ _ _ _=>false) (fun _ _ _ _=>false) (fun _ _ _ _=>false) (fun _ _ _=>false) (fun _ _ _ _=>false) (fun _ _ _ _=>false) (fun _ _ _ _ _=>false) (fun _ _ _ _ _=>false) (fun _ _ _ _ _ _=>false) (fun _ _ _ _=>false) (fun _ _ _ _=>false) (fun _ _ _ _=>false) (fun _ _ _ _=>false) (fun _ _ _ _=>false) (fun _ _ _ _=>false) (fun _ _=>false) (fun _ _ _ _=>false) (fun _ _ _ _=>false) (fun _ _ _ _ _ _=>false) (fun _ _ _ _ _ _=>false) (fun _ _=>false) (fun _ _ _ _=>false) (fun _ _ _ _ _ _=>false) (fun _ _ _ _=>false) (fun _ _ _ _ _ _=>false) (fun _=>false) (fun _ _ _ _ _ _=>false) (fun _ _ _ _=>false) (fun _ _ _ _ _ _ _ _ _ _ _ _ _ _ _ _ _=>false) (fun p0 b0 b1 b2 b3 b4 b5 b6 b7 _ _ _ _ _ _ _ _=>((Nat.beq q0 p0).and ((h0 b0).and ((h1 b1).and ((h2 b2).and ((h3 b3).and ((h4 b4).and ((h5 b5).and ((h6 b6).and (h7 b7)))))))))) (fun _ _ _ _ _ _ _ _ _ _ _ _ _ _ _ _ _=>false) t)
    (fun q0 _ _ _ _ _ _ _ _ h0 h1 h2 h3 h4 h5 h6 h7 t=>T.rec (motive:=fun _=>Bool) (fun _=>false) false false (fun _=>false) (fun _=>false) (fun _=>false) (fun _ _ _ _=>false) (fun _ _ _ _=>false) (fun _ _ _ _=>false) (fun _ _ _=>false) (fun _ _ _ _=>false) (fun _ _ _ _=>false) (fun _ _ _ _ _=>false) (fun _ _ _ _ _=>false) (fun _ _ _ _ _ _=>false) (fun _ _ _ _=>false) (fun _ _ _ _=>false) (fun _ _ _ _=>false) (fun _ _ _ _=>false) (fun _ _ _ _=>false) (fun _ _ _ _=>false) (fun _ _=>false) (fun _ _ _ _=>false) (fun _ _ _ _=>false) (fun _ _ _ _ _ _=>false) (fun _ _ _ _ _ _=>false) (fun _ _=>false) (fun _ _ _ _=>false) (fun _ _ _ _ _ _=>false) (fun _ _ _ _=>false) (fun _ _ _ _ _ _=>false) (fun _=>false) (fun _ _ _ _ _ _=>false) (fun _ _ _ _=>false) (fun _ _ _ _ _ _ _ _ _ _ _ _ _ _ _ _ _=>false) (fun _ _ _ _ _ _ _ _ _ _ _ _ _ _ _ _ _=>false) (fun p0 b0 b1 b2 b3 b4 b5 b6 b7 _ _ _ _ _ _ _ _=>((Nat.beq q0 p0).and ((h0 b0).and ((h1 b1).and ((h2 b2).and ((h3 b3).and ((h4 b4).and ((h5 b5).and ((h6 b6).and (h7 b7)))))))))) t)
def T.sameI:T→T→Bool
  | .lit q0,.lit p0=>(decide (q0=p0))
  | .tt,.tt=>true
  | .ff,.ff=>true
  | .iv q0,.iv p0=>(Nat.beq q0 p0)
  | .bv q0,.bv p0=>(Nat.beq q0 p0)
  | .av q0,.av p0=>(Nat.beq q0 p0)
  | .add a0 a1,.add b0 b1=>((T.sameI a0 b0).and (T.sameI a1 b1))
  | .sub a0 a1,.sub b0 b1=>((T.sameI a0 b0).and (T.sameI a1 b1))
  | .mul a0 a1,.mul b0 b1=>((T.sameI a0 b0).and (T.sameI a1 b1))
  | .wrap q0 a0,.wrap p0 b0=>((decide (q0=p0)).and (T.sameI a0 b0))
  | .tdiv a0 a1,.tdiv b0 b1=>((T.sameI a0 b0).and (T.sameI a1 b1))
  | .tmod a0 a1,.tmod b0 b1=>((T.sameI a0 b0).and (T.sameI a1 b1))
  | .shl q0 a0 a1,.shl p0 b0 b1=>((decide (q0=p0)).and ((T.sameI a0 b0).and (T.sameI a1 b1)))
  | .shr q0 a0 a1,.shr p0 b0 b1=>((decide (q0=p0)).and ((T.sameI a0 b0).and (T.sameI a1 b1)))
  | .bits q0 q1 a0 a1,.bits p0 p1 b0 b1=>((decide (q0=p0)).and ((decide (q1=p1)).and ((T.sameI a0 b0).and (T.sameI a1 b1))))
  | .mx a0 a1,.mx b0 b1=>((T.sameI a0 b0).and (T.sameI a1 b1))
  | .mn a0 a1,.mn b0 b1=>((T.sameI a0 b0).and (T.sameI a1 b1))
  | .eq a0 a1,.eq b0 b1=>((T.sameI a0 b0).and (T.sameI a1 b1))
  | .lt a0 a1,.lt b0 b1=>((T.sameI a0 b0).and (T.sameI a1 b1))
  | .le a0 a1,.le b0 b1=>((T.sameI a0 b0).and (T.sameI a1 b1))
  | .beq a0 a1,.beq b0 b1=>((T.sameI a0 b0).and (T.sameI a1 b1))
  | .not a0,.not b0=>(T.sameI a0 b0)
  | .and a0 a1,.and b0 b1=>((T.sameI a0 b0).and (T.sameI a1 b1))
  | .or a0 a1,.or b0 b1=>((T.sameI a0 b0).and (T.sameI a1 b1))
  | .ite a0 a1 a2,.ite b0 b1 b2=>((T.sameI a0 b0).and ((T.sameI a1 b1).and (T.sameI a2 b2)))
  | .bite a0 a1 a2,.bite b0 b1 b2=>((T.sameI a0 b0).and ((T.sameI a1 b1).and (T.sameI a2 b2)))
  | .len a0,.len b0=>(T.sameI a0 b0)
  | .get a0 a1,.get b0 b1=>((T.sameI a0 b0).and (T.sameI a1 b1))
  | .set a0 a1 a2,.set b0 b1 b2=>((T.sameI a0 b0).and ((T.sameI a1 b1).and (T.sameI a2 b2)))
  | .rep a0 a1,.rep b0 b1=>((T.sameI a0 b0).and (T.sameI a1 b1))
  | .cut a0 a1 a2,.cut b0 b1 b2=>((T.sameI a0 b0).and ((T.sameI a1 b1).and (T.sameI a2 b2)))
  | .alit q0,.alit p0=>(decide (q0=p0))
  | .splice a0 a1 a2,.splice b0 b1 b2=>((T.sameI a0 b0).and ((T.sameI a1 b1).and (T.sameI a2 b2)))
  | .aeq a0 a1,.aeq b0 b1=>((T.sameI a0 b0).and (T.sameI a1 b1))
  | .fi q0 a0 a1 a2 a3 a4 a5 a6 a7,.fi p0 b0 b1 b2 b3 b4 b5 b6 b7=>((Nat.beq q0 p0).and ((T.sameI a0 b0).and ((T.sameI a1 b1).and ((T.sameI a2 b2).and ((T.sameI a3 b3).and ((T.sameI a4 b4).and ((T.sameI a5 b5).and ((T.sameI a6 b6).and (T.sameI a7 b7)))))))))
  | .fb q0 a0 a1 a2 a3 a4 a5 a6 a7,.fb p0 b0 b1 b2 b3 b4 b5 b6 b7=>((Nat.beq q0 p0).and ((T.sameI a0 b0).and ((T.sameI a1 b1).and ((T.sameI a2 b2).and ((T.sameI a3 b3).and ((T.sameI a4 b4).and ((T.sameI a5 b5).and ((T.sameI a6 b6).and (T.sameI a7 b7)))))))))
  | .fa q0 a0 a1 a2 a3 a4 a5 a6 a7,.fa p0 b0 b1 b2 b3 b4 b5 b6 b7=>((Nat.beq q0 p0).and ((T.sameI a0 b0).and ((T.sameI a1 b1).and ((T.sameI a2 b2).and ((T.sameI a3 b3).and ((T.sameI a4 b4).and ((T.sameI a5 b5).and ((T.sameI a6 b6).and (T.sameI a7 b7)))))))))
  | _,_=>false
theorem T.same_eq: @T.same= @T.sameI:=by
  funext t
  refine funext ?_
  induction t with
  | lit q0=>intro u;cases u<;>rfl
  | tt=>intro u;cases u<;>rfl
  | ff=>intro u;cases u<;>rfl
  | iv q0=>intro u;cases u<;>rfl
  | bv q0=>intro u;cases u<;>rfl
  | av q0=>intro u;cases u<;>rfl
  | add a0 a1 h0 h1=>
    intro u
    cases u with
    | add b0 b1=>show ((T.same a0 b0).and (T.same a1 b1))=_;rw[h0,h1];rfl
    | _=>rfl
  | sub a0 a1 h0 h1=>
    intro u
    cases u with
    | sub b0 b1=>show ((T.same a0 b0).and (T.same a1 b1))=_;rw[h0,h1];rfl
    | _=>rfl
  | mul a0 a1 h0 h1=>
    intro u
    cases u with
    | mul b0 b1=>show ((T.same a0 b0).and (T.same a1 b1))=_;rw[h0,h1];rfl
    | _=>rfl
  | wrap q0 a0 h0=>
    intro u
    cases u with
    | wrap p0 b0=>show ((decide (q0=p0)).and (T.same a0 b0))=_;rw[h0];rfl
    | _=>rfl
  | tdiv a0 a1 h0 h1=>
    intro u
    cases u with
    | tdiv b0 b1=>show ((T.same a0 b0).and (T.same a1 b1))=_;rw[h0,h1];rfl
    | _=>rfl
  | tmod a0 a1 h0 h1=>
    intro u
    cases u with
    | tmod b0 b1=>show ((T.same a0 b0).and (T.same a1 b1))=_;rw[h0,h1];rfl
    | _=>rfl
  | shl q0 a0 a1 h0 h1=>
    intro u
    cases u with
    | shl p0 b0 b1=>show ((decide (q0=p0)).and ((T.same a0 b0).and (T.same a1 b1)))=_;rw[h0,h1];rfl
    | _=>rfl
  | shr q0 a0 a1 h0 h1=>
    intro u
    cases u with
    | shr p0 b0 b1=>show ((decide (q0=p0)).and ((T.same a0 b0).and (T.same a1 b1)))=_;rw[h0,h1];rfl
    | _=>rfl
  | bits q0 q1 a0 a1 h0 h1=>
    intro u
    cases u with
    | bits p0 p1 b0 b1=>show ((decide (q0=p0)).and ((decide (q1=p1)).and ((T.same a0 b0).and (T.same a1 b1))))=_;rw[h0,h1];rfl
    | _=>rfl
  | mx a0 a1 h0 h1=>
    intro u
    cases u with
    | mx b0 b1=>show ((T.same a0 b0).and (T.same a1 b1))=_;rw[h0,h1];rfl
    | _=>rfl
  | mn a0 a1 h0 h1=>
    intro u
    cases u with
    | mn b0 b1=>show ((T.same a0 b0).and (T.same a1 b1))=_;rw[h0,h1];rfl
    | _=>rfl
  | eq a0 a1 h0 h1=>
    intro u
    cases u with
    | eq b0 b1=>show ((T.same a0 b0).and (T.same a1 b1))=_;rw[h0,h1];rfl
    | _=>rfl
  | lt a0 a1 h0 h1=>
    intro u
    cases u with
    | lt b0 b1=>show ((T.same a0 b0).and (T.same a1 b1))=_;rw[h0,h1];rfl
    | _=>rfl
  | le a0 a1 h0 h1=>
    intro u
    cases u with
    | le b0 b1=>show ((T.same a0 b0).and (T.same a1 b1))=_;rw[h0,h1];rfl
    | _=>rfl
  | beq a0 a1 h0 h1=>
    intro u
    cases u with
    | beq b0 b1=>show ((T.same a0 b0).and (T.same a1 b1))=_;rw[h0,h1];rfl
    | _=>rfl
  | not a0 h0=>
    intro u
    cases u with
    | not b0=>show (T.same a0 b0)=_;rw[h0];rfl
    | _=>rfl
  | and a0 a1 h0 h1=>
    intro u
    cases u with
    | and b0 b1=>show ((T.same a0 b0).and (T.same a1 b1))=_;rw[h0,h1];rfl
    | _=>rfl
  | or a0 a1 h0 h1=>
    intro u
    cases u with
    | or b0 b1=>show ((T.same a0 b0).and (T.same a1 b1))=_;rw[h0,h1];rfl
    | _=>rfl
  | ite a0 a1 a2 h0 h1 h2=>
    intro u
    cases u with
    | ite b0 b1 b2=>show ((T.same a0 b0).and ((T.same a1 b1).and (T.same a2 b2)))=_;rw[h0,h1,h2];rfl
    | _=>rfl
  | bite a0 a1 a2 h0 h1 h2=>
    intro u
    cases u with
    | bite b0 b1 b2=>show ((T.same a0 b0).and ((T.same a1 b1).and (T.same a2 b2)))=_;rw[h0,h1,h2];rfl
    | _=>rfl
  | len a0 h0=>
    intro u
    cases u with
    | len b0=>show (T.same a0 b0)=_;rw[h0];rfl
    | _=>rfl
  | get a0 a1 h0 h1=>
    intro u
    cases u with
    | get b0 b1=>show ((T.same a0 b0).and (T.same a1 b1))=_;rw[h0,h1];rfl
    | _=>rfl
  | set a0 a1 a2 h0 h1 h2=>
    intro u
    cases u with
    | set b0 b1 b2=>show ((T.same a0 b0).and ((T.same a1 b1).and (T.same a2 b2)))=_;rw[h0,h1,h2];rfl
    | _=>rfl
  | rep a0 a1 h0 h1=>
    intro u
    cases u with
    | rep b0 b1=>show ((T.same a0 b0).and (T.same a1 b1))=_;rw[h0,h1];rfl
    | _=>rfl
  | cut a0 a1 a2 h0 h1 h2=>
    intro u
    cases u with
    | cut b0 b1 b2=>show ((T.same a0 b0).and ((T.same a1 b1).and (T.same a2 b2)))=_;rw[h0,h1,h2];rfl
    | _=>rfl
  | alit q0=>intro u;cases u<;>rfl
  | splice a0 a1 a2 h0 h1 h2=>
    intro u
    cases u with
    | splice b0 b1 b2=>show ((T.same a0 b0).and ((T.same a1 b1).and (T.same a2 b2)))=_;rw[h0,h1,h2];rfl
    | _=>rfl
  | aeq a0 a1 h0 h1=>
    intro u
    cases u with
    | aeq b0 b1=>show ((T.same a0 b0).and (T.same a1 b1))=_;rw[h0,h1];rfl
    | _=>rfl
  | fi q0 a0 a1 a2 a3 a4 a5 a6 a7 h0 h1 h2 h3 h4 h5 h6 h7=>
    intro u
    cases u with
    | fi p0 b0 b1 b2 b3 b4 b5 b6 b7=>show ((Nat.beq q0 p0).and ((T.same a0 b0).and ((T.same a1 b1).and ((T.same a2 b2).and ((T.same a3 b3).and ((T.same a4 b4).and ((T.same a5 b5).and ((T.same a6 b6).and (T.same a7 b7)))))))))=_;rw[h0,h1,h2,h3,h4,h5,h6,h7];rfl
    | _=>rfl
  | fb q0 a0 a1 a2 a3 a4 a5 a6 a7 h0 h1 h2 h3 h4 h5 h6 h7=>
    intro u
    cases u with
    | fb p0 b0 b1 b2 b3 b4 b5 b6 b7=>show ((Nat.beq q0 p0).and ((T.same a0 b0).and ((T.same a1 b1).and ((T.same a2 b2).and ((T.same a3 b3).and ((T.same a4 b4).and ((T.same a5 b5).and ((T.same a6 b6).and (T.same a7 b7)))))))))=_;rw[h0,h1,h2,h3,h4,h5,h6,h7];rfl
    | _=>rfl
  | fa q0 a0 a1 a2 a3 a4 a5 a6 a7 h0 h1 h2 h3 h4 h5 h6 h7=>
    intro u
    cases u with
    | fa p0 b0 b1 b2 b3 b4 b5 b6 b7=>show ((Nat.beq q0 p0).and ((T.same a0 b0).and ((T.same a1 b1).and ((T.same a2 b2).and ((T.same a3 b3).and ((T.same a4 b4).and ((T.same a5 b5).and ((T.same a6 b6).and (T.same a7 b7)))))))))=_;rw[h0,h1,h2,h3,h4,h5,h6,h7];rfl
    | _=>rfl
noncomputable def T.sort (t:T):Nat:=T.rec (motive:=fun _=>Nat) (fun _=>0) 1 1 (fun _=>0) (fun _=>1) (fun _=>2) (fun _ _ _ _=>0) (fun _ _ _ _=>0) (fun _ _ _ _=>0) (fun _ _ _=>0) (fun _ _ _ _=>0) (fun _ _ _ _=>0) (fun _ _ _ _ _=>0) (fun _ _ _ _ _=>0) (fun _ _ _ _ _ _=>0) (fun _ _ _ _=>0) (fun _ _ _ _=>0) (fun _ _ _ _=>1) (fun _ _ _ _=>1) (fun _ _ _ _=>1) (fun _ _ _ _=>1) (fun _ _=>1) (fun _ _ _ _=>1) (fun _ _ _ _=>1) (fun _ _ _ _ _ _=>0) (fun _ _ _ _ _ _=>1) (fun _ _=>0) (fun _ _ _ _=>0) (fun _ _ _ _ _ _=>2) (fun _ _ _ _=>2) (fun _ _ _ _ _ _=>2) (fun _=>2) (fun _ _ _ _ _ _=>2) (fun _ _ _ _=>1) (fun _ _ _ _ _ _ _ _ _ _ _ _ _ _ _ _ _=>0) (fun _ _ _ _ _ _ _ _ _ _ _ _ _ _ _ _ _=>1) (fun _ _ _ _ _ _ _ _ _ _ _ _ _ _ _ _ _=>2) t
def T.sortI:T→Nat
  | .lit _=>0
  | .tt=>1
  | .ff=>1
  | .iv _=>0
  | .bv _=>1
  | .av _=>2
  | .add _ _=>0
  | .sub _ _=>0
  | .mul _ _=>0
  | .wrap _ _=>0
  | .tdiv _ _=>0
  | .tmod _ _=>0
  | .shl _ _ _=>0
  | .shr _ _ _=>0
  | .bits _ _ _ _=>0
  | .mx _ _=>0
  | .mn _ _=>0
  | .eq _ _=>1
  | .lt _ _=>1
  | .le _ _=>1
  | .beq _ _=>1
  | .not _=>1
  | .and _ _=>1
  | .or _ _=>1
  | .ite _ _ _=>0
  | .bite _ _ _=>1
  | .len _=>0
  | .get _ _=>0
  | .set _ _ _=>2
  | .rep _ _=>2
  | .cut _ _ _=>2
  | .alit _=>2
  | .splice _ _ _=>2
  | .aeq _ _=>1
  | .fi _ _ _ _ _ _ _ _ _=>0
  | .fb _ _ _ _ _ _ _ _ _=>1
  | .fa _ _ _ _ _ _ _ _ _=>2
theorem T.sort_eq: @T.sort= @T.sortI:=by funext t;cases t<;>rfl
theorem T.same_spec{t u:T}(h:t.same u=true):t=u:=by
  rw[T.same_eq] at h
  induction t generalizing u with
  | lit q0=>
    cases u with
    | lit p0=>
      simp only[T.sameI,Bool.and_eq_true,decide_eq_true_eq,Nat.beq_eq] at h
      have e0:=h
      rw[e0]
    | _=>cases h
  | tt=>cases u<;>first|rfl|cases h
  | ff=>cases u<;>first|rfl|cases h
  | iv q0=>
    cases u with
    | iv p0=>
      simp only[T.sameI,Bool.and_eq_true,decide_eq_true_eq,Nat.beq_eq] at h
      have e0:=h
      rw[e0]
    | _=>cases h
  | bv q0=>
    cases u with
    | bv p0=>
      simp only[T.sameI,Bool.and_eq_true,decide_eq_true_eq,Nat.beq_eq] at h
      have e0:=h
      rw[e0]
    | _=>cases h
  | av q0=>
    cases u with
    | av p0=>
      simp only[T.sameI,Bool.and_eq_true,decide_eq_true_eq,Nat.beq_eq] at h
      have e0:=h
      rw[e0]
    | _=>cases h
  | add a0 a1 h0 h1=>
    cases u with
    | add b0 b1=>
      simp only[T.sameI,Bool.and_eq_true,decide_eq_true_eq,Nat.beq_eq] at h
      obtain ⟨c0,c1⟩:=h
      rw[h0 c0,h1 c1]
    | _=>cases h
  | sub a0 a1 h0 h1=>
    cases u with
    | sub b0 b1=>
      simp only[T.sameI,Bool.and_eq_true,decide_eq_true_eq,Nat.beq_eq] at h
      obtain ⟨c0,c1⟩:=h
      rw[h0 c0,h1 c1]
    | _=>cases h
  | mul a0 a1 h0 h1=>
    cases u with
    | mul b0 b1=>
      simp only[T.sameI,Bool.and_eq_true,decide_eq_true_eq,Nat.beq_eq] at h
      obtain ⟨c0,c1⟩:=h
      rw[h0 c0,h1 c1]
    | _=>cases h
  | wrap q0 a0 h0=>
    cases u with
    | wrap p0 b0=>
      simp only[T.sameI,Bool.and_eq_true,decide_eq_true_eq,Nat.beq_eq] at h
      obtain ⟨e0,c0⟩:=h
      rw[e0,h0 c0]
    | _=>cases h
  | tdiv a0 a1 h0 h1=>
    cases u with
    | tdiv b0 b1=>
      simp only[T.sameI,Bool.and_eq_true,decide_eq_true_eq,Nat.beq_eq] at h
      obtain ⟨c0,c1⟩:=h
      rw[h0 c0,h1 c1]
    | _=>cases h
  | tmod a0 a1 h0 h1=>
    cases u with
    | tmod b0 b1=>
      simp only[T.sameI,Bool.and_eq_true,decide_eq_true_eq,Nat.beq_eq] at h
      obtain ⟨c0,c1⟩:=h
      rw[h0 c0,h1 c1]
    | _=>cases h
  | shl q0 a0 a1 h0 h1=>
    cases u with
    | shl p0 b0 b1=>
      simp only[T.sameI,Bool.and_eq_true,decide_eq_true_eq,Nat.beq_eq] at h
      obtain ⟨e0,c0,c1⟩:=h
      rw[e0,h0 c0,h1 c1]
    | _=>cases h
  | shr q0 a0 a1 h0 h1=>
    cases u with
    | shr p0 b0 b1=>
      simp only[T.sameI,Bool.and_eq_true,decide_eq_true_eq,Nat.beq_eq] at h
      obtain ⟨e0,c0,c1⟩:=h
      rw[e0,h0 c0,h1 c1]
    | _=>cases h
  | bits q0 q1 a0 a1 h0 h1=>
    cases u with
    | bits p0 p1 b0 b1=>
      simp only[T.sameI,Bool.and_eq_true,decide_eq_true_eq,Nat.beq_eq] at h
      obtain ⟨e0,e1,c0,c1⟩:=h
      rw[e0,e1,h0 c0,h1 c1]
    | _=>cases h
  | mx a0 a1 h0 h1=>
    cases u with
    | mx b0 b1=>
      simp only[T.sameI,Bool.and_eq_true,decide_eq_true_eq,Nat.beq_eq] at h
      obtain ⟨c0,c1⟩:=h
      rw[h0 c0,h1 c1]
    | _=>cases h
  | mn a0 a1 h0 h1=>
    cases u with
    | mn b0 b1=>
      simp only[T.sameI,Bool.and_eq_true,decide_eq_true_eq,Nat.beq_eq] at h
      obtain ⟨c0,c1⟩:=h
      rw[h0 c0,h1 c1]
    | _=>cases h
  | eq a0 a1 h0 h1=>
    cases u with
    | eq b0 b1=>
      simp only[T.sameI,Bool.and_eq_true,decide_eq_true_eq,Nat.beq_eq] at h
      obtain ⟨c0,c1⟩:=h
      rw[h0 c0,h1 c1]
    | _=>cases h
  | lt a0 a1 h0 h1=>
    cases u with
    | lt b0 b1=>
      simp only[T.sameI,Bool.and_eq_true,decide_eq_true_eq,Nat.beq_eq] at h
      obtain ⟨c0,c1⟩:=h
      rw[h0 c0,h1 c1]
    | _=>cases h
  | le a0 a1 h0 h1=>
    cases u with
    | le b0 b1=>
      simp only[T.sameI,Bool.and_eq_true,decide_eq_true_eq,Nat.beq_eq] at h
      obtain ⟨c0,c1⟩:=h
      rw[h0 c0,h1 c1]
    | _=>cases h
  | beq a0 a1 h0 h1=>
    cases u with
    | beq b0 b1=>
      simp only[T.sameI,Bool.and_eq_true,decide_eq_true_eq,Nat.beq_eq] at h
      obtain ⟨c0,c1⟩:=h
      rw[h0 c0,h1 c1]
    | _=>cases h
  | not a0 h0=>
    cases u with
    | not b0=>
      simp only[T.sameI,Bool.and_eq_true,decide_eq_true_eq,Nat.beq_eq] at h
      have c0:=h
      rw[h0 c0]
    | _=>cases h
  | and a0 a1 h0 h1=>
    cases u with
    | and b0 b1=>
      simp only[T.sameI,Bool.and_eq_true,decide_eq_true_eq,Nat.beq_eq] at h
      obtain ⟨c0,c1⟩:=h
      rw[h0 c0,h1 c1]
    | _=>cases h
  | or a0 a1 h0 h1=>
    cases u with
    | or b0 b1=>
      simp only[T.sameI,Bool.and_eq_true,decide_eq_true_eq,Nat.beq_eq] at h
      obtain ⟨c0,c1⟩:=h
      rw[h0 c0,h1 c1]
    | _=>cases h
  | ite a0 a1 a2 h0 h1 h2=>
    cases u with
    | ite b0 b1 b2=>
      simp only[T.sameI,Bool.and_eq_true,decide_eq_true_eq,Nat.beq_eq] at h
      obtain ⟨c0,c1,c2⟩:=h
      rw[h0 c0,h1 c1,h2 c2]
    | _=>cases h
  | bite a0 a1 a2 h0 h1 h2=>
    cases u with
    | bite b0 b1 b2=>
      simp only[T.sameI,Bool.and_eq_true,decide_eq_true_eq,Nat.beq_eq] at h
      obtain ⟨c0,c1,c2⟩:=h
      rw[h0 c0,h1 c1,h2 c2]
    | _=>cases h
  | len a0 h0=>
    cases u with
    | len b0=>
      simp only[T.sameI,Bool.and_eq_true,decide_eq_true_eq,Nat.beq_eq] at h
      have c0:=h
      rw[h0 c0]
    | _=>cases h
  | get a0 a1 h0 h1=>
    cases u with
    | get b0 b1=>
      simp only[T.sameI,Bool.and_eq_true,decide_eq_true_eq,Nat.beq_eq] at h
      obtain ⟨c0,c1⟩:=h
      rw[h0 c0,h1 c1]
    | _=>cases h
  | set a0 a1 a2 h0 h1 h2=>
    cases u with
    | set b0 b1 b2=>
      simp only[T.sameI,Bool.and_eq_true,decide_eq_true_eq,Nat.beq_eq] at h
      obtain ⟨c0,c1,c2⟩:=h
      rw[h0 c0,h1 c1,h2 c2]
    | _=>cases h
  | rep a0 a1 h0 h1=>
    cases u with
    | rep b0 b1=>
      simp only[T.sameI,Bool.and_eq_true,decide_eq_true_eq,Nat.beq_eq] at h
      obtain ⟨c0,c1⟩:=h
      rw[h0 c0,h1 c1]
    | _=>cases h
  | cut a0 a1 a2 h0 h1 h2=>
    cases u with
    | cut b0 b1 b2=>
      simp only[T.sameI,Bool.and_eq_true,decide_eq_true_eq,Nat.beq_eq] at h
      obtain ⟨c0,c1,c2⟩:=h
      rw[h0 c0,h1 c1,h2 c2]
    | _=>cases h
  | alit q0=>
    cases u with
    | alit p0=>
      simp only[T.sameI,Bool.and_eq_true,decide_eq_true_eq,Nat.beq_eq] at h
      have e0:=h
      rw[e0]
    | _=>cases h
  | splice a0 a1 a2 h0 h1 h2=>
    cases u with
    | splice b0 b1 b2=>
      simp only[T.sameI,Bool.and_eq_true,decide_eq_true_eq,Nat.beq_eq] at h
      obtain ⟨c0,c1,c2⟩:=h
      rw[h0 c0,h1 c1,h2 c2]
    | _=>cases h
  | aeq a0 a1 h0 h1=>
    cases u with
    | aeq b0 b1=>
      simp only[T.sameI,Bool.and_eq_true,decide_eq_true_eq,Nat.beq_eq] at h
      obtain ⟨c0,c1⟩:=h
      rw[h0 c0,h1 c1]
    | _=>cases h
  | fi q0 a0 a1 a2 a3 a4 a5 a6 a7 h0 h1 h2 h3 h4 h5 h6 h7=>
    cases u with
    | fi p0 b0 b1 b2 b3 b4 b5 b6 b7=>
      simp only[T.sameI,Bool.and_eq_true,decide_eq_true_eq,Nat.beq_eq] at h
      obtain ⟨e0,c0,c1,c2,c3,c4,c5,c6,c7⟩:=h
      rw[e0,h0 c0,h1 c1,h2 c2,h3 c3,h4 c4,h5 c5,h6 c6,h7 c7]
    | _=>cases h
  | fb q0 a0 a1 a2 a3 a4 a5 a6 a7 h0 h1 h2 h3 h4 h5 h6 h7=>
    cases u with
    | fb p0 b0 b1 b2 b3 b4 b5 b6 b7=>
      simp only[T.sameI,Bool.and_eq_true,decide_eq_true_eq,Nat.beq_eq] at h
      obtain ⟨e0,c0,c1,c2,c3,c4,c5,c6,c7⟩:=h
      rw[e0,h0 c0,h1 c1,h2 c2,h3 c3,h4 c4,h5 c5,h6 c6,h7 c7]
    | _=>cases h
  | fa q0 a0 a1 a2 a3 a4 a5 a6 a7 h0 h1 h2 h3 h4 h5 h6 h7=>
    cases u with
    | fa p0 b0 b1 b2 b3 b4 b5 b6 b7=>
      simp only[T.sameI,Bool.and_eq_true,decide_eq_true_eq,Nat.beq_eq] at h
      obtain ⟨e0,c0,c1,c2,c3,c4,c5,c6,c7⟩:=h
      rw[e0,h0 c0,h1 c1,h2 c2,h3 c3,h4 c4,h5 c5,h6 c6,h7 c7]
    | _=>cases h
theorem T.sort_den{S:Hw}{ρ:Et}{t:T}:(t.sort≠0→t.I S ρ=0)∧(t.sort≠1→t.B S ρ=false)∧(t.sort≠2→t.A S ρ=[]):=by
  rw[T.sort_eq]
  cases t<;>refine ⟨?_,?_,?_⟩<;>intro h<;>first|exact absurd rfl h|simp only[T.I]|simp only[T.B]|simp only[T.A]
structure TS.Ok(S:Hw)(s:TS)(ρ ρ':Et):Prop where
  i: ∀n,(s.i n).I S ρ=ρ'.i n∧(s.i n).sort=0
  b: ∀n,(s.b n).B S ρ=ρ'.b n∧(s.b n).sort=1
  a: ∀n,(s.a n).A S ρ=ρ'.a n∧(s.a n).sort=2
theorem T.put_den{S:Hw}{s:TS}{ρ ρ':Et}(hs:s.Ok S ρ ρ')(t:T):(t.put s).I S ρ=t.I S ρ'∧(t.put s).B S ρ=t.B S ρ'∧(t.put s).A S ρ=t.A S ρ':=by
  rw[T.put_eq]
  induction t with
  | lit q0=>exact ⟨rfl,rfl,rfl⟩
  | tt=>exact ⟨rfl,rfl,rfl⟩
  | ff=>exact ⟨rfl,rfl,rfl⟩
  | iv q0=>exact ⟨by simp only[T.putI,T.I];exact (hs.i q0).1,by simp only[T.putI,T.B];exact T.sort_den.2.1 (by rw[(hs.i q0).2];decide),by simp only[T.putI,T.A];exact T.sort_den.2.2 (by rw[(hs.i q0).2];decide)⟩
  | bv q0=>exact ⟨by simp only[T.putI,T.I];exact T.sort_den.1 (by rw[(hs.b q0).2];decide),by simp only[T.putI,T.B];exact (hs.b q0).1,by simp only[T.putI,T.A];exact T.sort_den.2.2 (by rw[(hs.b q0).2];decide)⟩
  | av q0=>exact ⟨by simp only[T.putI,T.I];exact T.sort_den.1 (by rw[(hs.a q0).2];decide),by simp only[T.putI,T.B];exact T.sort_den.2.1 (by rw[(hs.a q0).2];decide),by simp only[T.putI,T.A];exact (hs.a q0).1⟩
  | add a0 a1 h0 h1=>
    obtain ⟨i0,b0,l0⟩:=h0
    obtain ⟨i1,b1,l1⟩:=h1
    refine ⟨?_,?_,?_⟩<;>simp only[T.putI,T.I,T.B,T.A,i0,b0,l0,i1,b1,l1]
  | sub a0 a1 h0 h1=>
    obtain ⟨i0,b0,l0⟩:=h0
    obtain ⟨i1,b1,l1⟩:=h1
    refine ⟨?_,?_,?_⟩<;>simp only[T.putI,T.I,T.B,T.A,i0,b0,l0,i1,b1,l1]
  | mul a0 a1 h0 h1=>
    obtain ⟨i0,b0,l0⟩:=h0
    obtain ⟨i1,b1,l1⟩:=h1
    refine ⟨?_,?_,?_⟩<;>simp only[T.putI,T.I,T.B,T.A,i0,b0,l0,i1,b1,l1]
  | wrap q0 a0 h0=>
    obtain ⟨i0,b0,l0⟩:=h0
    refine ⟨?_,?_,?_⟩<;>simp only[T.putI,T.I,T.B,T.A,i0,b0,l0]
  | tdiv a0 a1 h0 h1=>
    obtain ⟨i0,b0,l0⟩:=h0
    obtain ⟨i1,b1,l1⟩:=h1
    refine ⟨?_,?_,?_⟩<;>simp only[T.putI,T.I,T.B,T.A,i0,b0,l0,i1,b1,l1]
  | tmod a0 a1 h0 h1=>
    obtain ⟨i0,b0,l0⟩:=h0
    obtain ⟨i1,b1,l1⟩:=h1
    refine ⟨?_,?_,?_⟩<;>simp only[T.putI,T.I,T.B,T.A,i0,b0,l0,i1,b1,l1]
  | shl q0 a0 a1 h0 h1=>
    obtain ⟨i0,b0,l0⟩:=h0
    obtain ⟨i1,b1,l1⟩:=h1
    refine ⟨?_,?_,?_⟩<;>simp only[T.putI,T.I,T.B,T.A,i0,b0,l0,i1,b1,l1]
  | shr q0 a0 a1 h0 h1=>
    obtain ⟨i0,b0,l0⟩:=h0
    obtain ⟨i1,b1,l1⟩:=h1
    refine ⟨?_,?_,?_⟩<;>simp only[T.putI,T.I,T.B,T.A,i0,b0,l0,i1,b1,l1]
  | bits q0 q1 a0 a1 h0 h1=>
    obtain ⟨i0,b0,l0⟩:=h0
    obtain ⟨i1,b1,l1⟩:=h1
    refine ⟨?_,?_,?_⟩<;>simp only[T.putI,T.I,T.B,T.A,i0,b0,l0,i1,b1,l1]
  | mx a0 a1 h0 h1=>
    obtain ⟨i0,b0,l0⟩:=h0
    obtain ⟨i1,b1,l1⟩:=h1
    refine ⟨?_,?_,?_⟩<;>simp only[T.putI,T.I,T.B,T.A,i0,b0,l0,i1,b1,l1]
  | mn a0 a1 h0 h1=>
    obtain ⟨i0,b0,l0⟩:=h0
    obtain ⟨i1,b1,l1⟩:=h1
    refine ⟨?_,?_,?_⟩<;>simp only[T.putI,T.I,T.B,T.A,i0,b0,l0,i1,b1,l1]
  | eq a0 a1 h0 h1=>
    obtain ⟨i0,b0,l0⟩:=h0
    obtain ⟨i1,b1,l1⟩:=h1
    refine ⟨?_,?_,?_⟩<;>simp only[T.putI,T.I,T.B,T.A,i0,b0,l0,i1,b1,l1]
  | lt a0 a1 h0 h1=>
    obtain ⟨i0,b0,l0⟩:=h0
    obtain ⟨i1,b1,l1⟩:=h1
    refine ⟨?_,?_,?_⟩<;>simp only[T.putI,T.I,T.B,T.A,i0,b0,l0,i1,b1,l1]
  | le a0 a1 h0 h1=>
    obtain ⟨i0,b0,l0⟩:=h0
    obtain ⟨i1,b1,l1⟩:=h1
    refine ⟨?_,?_,?_⟩<;>simp only[T.putI,T.I,T.B,T.A,i0,b0,l0,i1,b1,l1]
  | beq a0 a1 h0 h1=>
    obtain ⟨i0,b0,l0⟩:=h0
    obtain ⟨i1,b1,l1⟩:=h1
    refine ⟨?_,?_,?_⟩<;>simp only[T.putI,T.I,T.B,T.A,i0,b0,l0,i1,b1,l1]
  | not a0 h0=>
    obtain ⟨i0,b0,l0⟩:=h0
    refine ⟨?_,?_,?_⟩<;>simp only[T.putI,T.I,T.B,T.A,i0,b0,l0]
  | and a0 a1 h0 h1=>
    obtain ⟨i0,b0,l0⟩:=h0
    obtain ⟨i1,b1,l1⟩:=h1
    refine ⟨?_,?_,?_⟩<;>simp only[T.putI,T.I,T.B,T.A,i0,b0,l0,i1,b1,l1]
  | or a0 a1 h0 h1=>
    obtain ⟨i0,b0,l0⟩:=h0
    obtain ⟨i1,b1,l1⟩:=h1
    refine ⟨?_,?_,?_⟩<;>simp only[T.putI,T.I,T.B,T.A,i0,b0,l0,i1,b1,l1]
  | ite a0 a1 a2 h0 h1 h2=>
    obtain ⟨i0,b0,l0⟩:=h0
    obtain ⟨i1,b1,l1⟩:=h1
    obtain ⟨i2,b2,l2⟩:=h2
    refine ⟨?_,?_,?_⟩<;>simp only[T.putI,T.I,T.B,T.A,i0,b0,l0,i1,b1,l1,i2,b2,l2]
  | bite a0 a1 a2 h0 h1 h2=>
    obtain ⟨i0,b0,l0⟩:=h0
    obtain ⟨i1,b1,l1⟩:=h1
    obtain ⟨i2,b2,l2⟩:=h2
    refine ⟨?_,?_,?_⟩<;>simp only[T.putI,T.I,T.B,T.A,i0,b0,l0,i1,b1,l1,i2,b2,l2]
  | len a0 h0=>
    obtain ⟨i0,b0,l0⟩:=h0
    refine ⟨?_,?_,?_⟩<;>simp only[T.putI,T.I,T.B,T.A,i0,b0,l0]
  | get a0 a1 h0 h1=>
    obtain ⟨i0,b0,l0⟩:=h0
    obtain ⟨i1,b1,l1⟩:=h1
    refine ⟨?_,?_,?_⟩<;>simp only[T.putI,T.I,T.B,T.A,i0,b0,l0,i1,b1,l1]
  | set a0 a1 a2 h0 h1 h2=>
    obtain ⟨i0,b0,l0⟩:=h0
    obtain ⟨i1,b1,l1⟩:=h1
    obtain ⟨i2,b2,l2⟩:=h2
    refine ⟨?_,?_,?_⟩<;>simp only[T.putI,T.I,T.B,T.A,i0,b0,l0,i1,b1,l1,i2,b2,l2]
  | rep a0 a1 h0 h1=>
    obtain ⟨i0,b0,l0⟩:=h0
    obtain ⟨i1,b1,l1⟩:=h1
    refine ⟨?_,?_,?_⟩<;>simp only[T.putI,T.I,T.B,T.A,i0,b0,l0,i1,b1,l1]
  | cut a0 a1 a2 h0 h1 h2=>
    obtain ⟨i0,b0,l0⟩:=h0
    obtain ⟨i1,b1,l1⟩:=h1
    obtain ⟨i2,b2,l2⟩:=h2
    refine ⟨?_,?_,?_⟩<;>simp only[T.putI,T.I,T.B,T.A,i0,b0,l0,i1,b1,l1,i2,b2,l2]
  | alit q0=>exact ⟨rfl,rfl,rfl⟩
  | splice a0 a1 a2 h0 h1 h2=>
    obtain ⟨i0,b0,l0⟩:=h0
    obtain ⟨i1,b1,l1⟩:=h1
    obtain ⟨i2,b2,l2⟩:=h2
    refine ⟨?_,?_,?_⟩<;>simp only[T.putI,T.I,T.B,T.A,i0,b0,l0,i1,b1,l1,i2,b2,l2]
  | aeq a0 a1 h0 h1=>
    obtain ⟨i0,b0,l0⟩:=h0
    obtain ⟨i1,b1,l1⟩:=h1
    refine ⟨?_,?_,?_⟩<;>simp only[T.putI,T.I,T.B,T.A,i0,b0,l0,i1,b1,l1]
  | fi q0 a0 a1 a2 a3 a4 a5 a6 a7 h0 h1 h2 h3 h4 h5 h6 h7=>
    obtain ⟨i0,b0,l0⟩:=h0
    obtain ⟨i1,b1,l1⟩:=h1
    obtain ⟨i2,b2,l2⟩:=h2
    obtain ⟨i3,b3,l3⟩:=h3
    obtain ⟨i4,b4,l4⟩:=h4
    obtain ⟨i5,b5,l5⟩:=h5
    obtain ⟨i6,b6,l6⟩:=h6
    obtain ⟨i7,b7,l7⟩:=h7
    refine ⟨?_,?_,?_⟩<;>simp only[T.putI,T.I,T.B,T.A,i0,b0,l0,i1,b1,l1,i2,b2,l2,i3,b3,l3,i4,b4,l4,i5,b5,l5,i6,b6,l6,i7,b7,l7]
  | fb q0 a0 a1 a2 a3 a4 a5 a6 a7 h0 h1 h2 h3 h4 h5 h6 h7=>
    obtain ⟨i0,b0,l0⟩:=h0
    obtain ⟨i1,b1,l1⟩:=h1
    obtain ⟨i2,b2,l2⟩:=h2
    obtain ⟨i3,b3,l3⟩:=h3
    obtain ⟨i4,b4,l4⟩:=h4
    obtain ⟨i5,b5,l5⟩:=h5
    obtain ⟨i6,b6,l6⟩:=h6
    obtain ⟨i7,b7,l7⟩:=h7
    refine ⟨?_,?_,?_⟩<;>simp only[T.putI,T.I,T.B,T.A,i0,b0,l0,i1,b1,l1,i2,b2,l2,i3,b3,l3,i4,b4,l4,i5,b5,l5,i6,b6,l6,i7,b7,l7]
  | fa q0 a0 a1 a2 a3 a4 a5 a6 a7 h0 h1 h2 h3 h4 h5 h6 h7=>
    obtain ⟨i0,b0,l0⟩:=h0
    obtain ⟨i1,b1,l1⟩:=h1
    obtain ⟨i2,b2,l2⟩:=h2
    obtain ⟨i3,b3,l3⟩:=h3
    obtain ⟨i4,b4,l4⟩:=h4
    obtain ⟨i5,b5,l5⟩:=h5
    obtain ⟨i6,b6,l6⟩:=h6
    obtain ⟨i7,b7,l7⟩:=h7
    refine ⟨?_,?_,?_⟩<;>simp only[T.putI,T.I,T.B,T.A,i0,b0,l0,i1,b1,l1,i2,b2,l2,i3,b3,l3,i4,b4,l4,i5,b5,l5,i6,b6,l6,i7,b7,l7]
def Ga{α:Type}:List (Nat×α)→Nat→Option α
  | [],_=>none
  | (k,x)::l,n=>match Nat.beq k n with
    | true=>some x
    | false=>Ga l n
inductive RB where
  | o (r:Cl)|n (k:Nat)|q (k:Nat)|p (l:Aw)
structure Bd where
  i:List (Nat×T):=[]
  b:List (Nat×T):=[]
  a:List (Nat×T):=[]
  v:List (Nat×Aw):=[]
  j:List (Nat×SR):=[]
  s:List (Nat×List Cp):=[]
  r:List (Nat×RB):=[]
  eqI:List (T×T):=[]
  eqB:List (T×T):=[]
  eqA:List (T×T):=[]
  need:List T:=[]
def Og(lo:Nat)(t x:T)(m:Bd):Bd:=
  match t with
  | .iv n=>if Nat.ble lo n then
      match Ga m.i n with
      | none=>{m with i:=(n,x)::m.i}
      | some _=>{m with eqI:=(t,x)::m.eqI}
    else {m with eqI:=(t,x)::m.eqI}
  | _=>{m with eqI:=(t,x)::m.eqI}
def jwr(lo:Nat)(t x:T)(m:Bd):Bd:=
  match t with
  | .bv n=>if Nat.ble lo n then
      match Ga m.b n with
      | none=>{m with b:=(n,x)::m.b}
      | some _=>{m with eqB:=(t,x)::m.eqB}
    else {m with eqB:=(t,x)::m.eqB}
  | _=>{m with eqB:=(t,x)::m.eqB}
def Pm(lo:Nat)(t x:T)(m:Bd):Bd:=
  match t with
  | .av n=>if Nat.ble lo n then
      match Ga m.a n with
      | none=>{m with a:=(n,x)::m.a}
      | some _=>{m with eqA:=(t,x)::m.eqA}
    else {m with eqA:=(t,x)::m.eqA}
  | _=>{m with eqA:=(t,x)::m.eqA}
def ji6(lo:Nat)(t x:Cl)(m:Bd):Option Bd:=
  match t with
  | .old n=>if Nat.ble lo n then
      match x with
      | .ro _=>none
      | _=>match Ga m.r n with
        | none=>some {m with r:=(n,.o x)::m.r}
        | some (.o y)=>if Nat.beq x.code y.code then some m else none
        | _=>none
    else if Nat.beq t.code x.code then some m else none
  | .own n=>if Nat.ble lo n then
      match Ga m.r n with
      | none=>match x with
        | .new k=>some {m with r:=(n,.n k)::m.r}
        | .own k=>some {m with r:=(n,.q k)::m.r}
        | _=>none
      | some (.n k)=>if Nat.beq x.code (Cl.new k).code then some m else none
      | some (.q k)=>if Nat.beq x.code (Cl.own k).code then some m else none
      | _=>none
    else if Nat.beq t.code x.code then some m else none
  | .ro n=>if Nat.ble lo n then none else if Nat.beq t.code x.code then some m else none
  | _=>if Nat.beq t.code x.code then some m else none
def jj4(lo:Nat)(s:Nat)(d:T)(s':Nat)(d':T)(m:Bd):Option Bd:=
  if Nat.beq s s' then some (Og lo d d' m)
  else if Nat.beq s 0 then some {Og lo d (Ej (.lit s') d') m with need:=needs [Ek (.lit 0) d']++(Og lo d (Ej (.lit s') d') m).need}
  else none
def Ka(lo:Nat):Aw→Aw→Bd→Option Bd
  | .val n,x,m=>if Nat.ble lo n then
      match Ga m.v n with
      | none=>some {m with v:=(n,x)::m.v}
      | some y=>if x=y then some m else none
    else if x=.val n then some m else none
  | .junk n,x,m=>if Nat.ble lo n then
      match Ga m.j n with
      | none=>some {m with j:=(n,.v (.one x))::m.j}
      | some _=>none
    else if x=.junk n then some m else none
  | .int k t,.int k' x,m=>if k=k' then some (Og lo t x m) else none
  | .bool t,.bool x,m=>some (jwr lo t x m)
  | .ptr r s d,.ptr r' s' d',m=>(ji6 lo r r' m).bind (jj4 lo s d s' d')
  | .sl (.ro n) s d l c,.sl r' s' d' l' c',m=>if Nat.ble lo n then
      match Ga m.r n with
      | none=>if (Nat.beq s 0).and d.isZ then some (Og lo c c' (Og lo l l' {m with r:=(n,.p (.sl r' s' d' l' c'))::m.r})) else none
      | _=>none
    else ((ji6 lo (.ro n) r' m).bind (jj4 lo s d s' d')).map fun m=>Og lo c c' (Og lo l l' m)
  | .sl r s d l c,.sl r' s' d' l' c',m=>((ji6 lo r r' m).bind (jj4 lo s d s' d')).map fun m=>Og lo c c' (Og lo l l' m)
  | .nilp,.nilp,m=>some m
  | .nils,.nils,m=>some m
  | .nilI,.nilI,m=>some m
  | .undef,.undef,m=>some m
  | .str l,.str l',m=>if l=l' then some m else none
  | .fn f,.fn g,m=>if f=g then some m else none
  | .iface t x,.iface t' x',m=>if t=t' then Ka lo x x' m else none
  | _,_,_=>none
def Ne(lo:Nat):List Aw→List Aw→Bd→Option Bd
  | [],[],m=>some m
  | t::ts,x::xs,m=>(Ka lo t x m).bind (Ne lo ts xs)
  | _,_,_=>none
def cellsOf:List Cp→Option (List Aw)
  | []=>some []
  | .cells l::r=>(cellsOf r).map (l++ ·)
  | .arr k a n::r=>(cellsOf r).map ((List.range n).map (fun (j:Nat)=>Aw.int k (Zf a (.lit j)))++ ·)
  | _=>none
def Km:List Cp→Option (List Cp×List Aw×T)
  | []=>none
  | [.tail z t]=>some ([],z,t)
  | g::r=>(Km r).map fun (p,q)=>(g::p,q)
def Aw.fixed:Aw→Bool
  | .int _ (.lit _)=>true
  | .bool .tt=>true
  | .bool .ff=>true
  | .nilp=>true
  | .nils=>true
  | .nilI=>true
  | .str _=>true
  | .undef=>true
  | _=>false
def Fk(lo:Nat):List Cp→List Cp→Bd→Option Bd
  | [],[],m=>some m
  | .cells l::ts,g,m=>match Fd g l.length with
    | some (x,rest)=>match cellsOf x with
      | some c=>(Ne lo l c m).bind (Fk lo ts rest)
      | none=>none
    | none=>none
  | .arr k t n::ts,g,m=>match Fd g n with
    | some (x,rest)=>match jb5 k x with
      | some a=>Fk lo ts rest (Pm lo t a m)
      | none=>none
    | none=>none
  | [.arrD k t],g,m=>match jb5 k g with
    | some a=>some (Pm lo t a m)
    | none=>none
  | [.arrD k t,.tail z u],g,m=>match Km g with
    | some (x,z',u')=>if z=z'∧z.all Aw.fixed=true then
        match jb5 k x with
        | some a=>some (Og lo u u' (Pm lo t a m))
        | none=>none
      else none
    | none=>none
  | [.tail z u],[.tail z' u'],m=>if z=z'∧z.all Aw.fixed=true then some (Og lo u u' m) else none
  | .bar t n::ts,.bar a n'::g,m=>if n=n' then Fk lo ts g (Pm lo t a m) else none
  | [.junk n],g,m=>if Nat.ble lo n then
      match Ga m.s n with
      | none=>some {m with s:=(n,g)::m.s}
      | some _=>none
    else if g=[.junk n] then some m else none
  | _,_,_=>none
def ji9(lo:Nat):SV→SV→Bd→Option Bd
  | .one t,.one x,m=>Ka lo t x m
  | .agg t,.agg g,m=>Fk lo t g m
  | _,_,_=>none
def Ys(lo:Nat):List SV→List SV→Bd→Option Bd
  | [],[],m=>some m
  | t::ts,x::xs,m=>(ji9 lo t x m).bind (Ys lo ts xs)
  | _,_,_=>none
def jgz(lo:Nat):SR→SR→Bd→Option Bd
  | .v (.one (.junk n)),x,m=>if Nat.ble lo n then
      match Ga m.j n with
      | none=>some {m with j:=(n,x)::m.j}
      | some _=>none
    else match x with
      | .v (.one y)=>Ka lo (.junk n) y m
      | _=>none
  | .v t,.v x,m=>ji9 lo t x m
  | .tup ts,.tup xs,m=>Ys lo ts xs m
  | _,_,_=>none
def Yz(lo:Nat):List SR→List SR→Bd→Option Bd
  | [],[],m=>some m
  | t::ts,x::xs,m=>(jgz lo t x m).bind (Yz lo ts xs)
  | _,_,_=>none
def Ox:List (Cl×Gn)→Cl→List (Cl×Gn)
  | [],_=>[]
  | (q,b)::l,r=>match Nat.beq q.code r.code with|true=>l|false=>(q,b)::Ox l r
def jxf(lo:Nat)(m:Bd):Cl→Option Cl
  | .old n=>if Nat.ble lo n then
      match Ga m.r n with
      | some (.o r)=>some r
      | _=>none
    else some (.old n)
  | .own n=>if Nat.ble lo n then
      match Ga m.r n with
      | some (.n k)=>some (.new k)
      | some (.q k)=>some (.own k)
      | _=>none
    else some (.own n)
  | .ro n=>if Nat.ble lo n then none else some (.ro n)
  | r=>some r
def jm8(lo:Nat):List (Cl×Gn)→List (Cl×Gn)→Bd→Option (Bd×List (Cl×Gn))
  | [],rest,m=>some (m,rest)
  | (t,b)::ts,l,m=>match jxf lo m t with
    | some r=>match Jr l r with
      | some c=>if Nat.beq b.ty c.ty then
          match Fk lo b.segs c.segs m with
          | some m'=>jm8 lo ts (Ox l r) m'
          | none=>none
        else none
      | none=>none
    | none=>none
def Xd(lo:Nat)(h:Hp)(rest:List (Cl×Gn)):List (Cl×IntKind×T)→Bd→Option Bd
  | [],m=>some m
  | (.ro n,k,t)::l,m=>
    if Nat.ble lo n then
      match Ga m.r n with
      | some (.p (.sl (.ro q) 0 (.lit (.ofNat 0)) _ _))=>match Na h.ro (.ro q) with
        | some (k',a)=>if k=k' then Xd lo h rest l (Pm lo t a m) else none
        | none=>none
      | some (.p (.sl r' s' d' ln c'))=>match jew k h (.sl r' s' d' ln c') ln,(Jr rest r').isSome||(Na h.ro r').isSome with
        | some (c,a),true=>Xd lo h rest l {Pm lo t a m with need:=c++(Pm lo t a m).need}
        | _,_=>none
      | _=>none
    else match Na h.ro (.ro n) with
      | some (k',a)=>if k=k' then Xd lo h rest l (Pm lo t a m) else none
      | none=>none
  | (.glob g,k,t)::l,m=>match Na h.ro (.glob g) with
    | some (k',a)=>if k=k' then Xd lo h rest l (Pm lo t a m) else none
    | none=>none
  | _,_=>none
def jxi(lo:Nat):Option OW→Option OW→Bd→Option Bd
  | none,_,m=>some m
  | some o,ow,m=>
    if Nat.ble lo o.v then
      match Ga m.v o.v,ow with
      | some (.val q),some p=>if (Nat.beq q p.v).and ((Nat.beq o.e p.e).and (decide (o.k=p.k))) then some (Pm lo o.a p.a m) else none
      | some .nils,none=>some (Pm lo o.a (.alit []) m)
      | _,_=>none
    else match ow with
      | some p=>if (Nat.beq o.v p.v).and ((Nat.beq o.e p.e).and (decide (o.k=p.k))) then some (Pm lo o.a p.a m) else none
      | none=>none
def jgo(x:T):T:=if Nat.beq x.sort 0 then x else .lit 0
def jfk(x:T):T:=if Nat.beq x.sort 1 then x else .ff
def jea(x:T):T:=if Nat.beq x.sort 2 then x else .alit []
def Bd.ts(lo:Nat)(m:Bd):TS where
  i n:=if Nat.ble lo n then jgo ((Ga m.i n).getD (.lit 0)) else .iv n
  b n:=if Nat.ble lo n then jfk ((Ga m.b n).getD .ff) else .bv n
  a n:=if Nat.ble lo n then jea ((Ga m.a n).getD (.alit [])) else .av n
def eqT(t x:T):T:=if t.same x then .tt else jkp t x
def qbo(t x:T):T:=if t.same x then .tt else jmr t x
def qda(t x:T):T:=if t.same x then .tt else .aeq t x
def Bd.needs(lo:Nat)(m:Bd):List T:=
  m.need++(Proofs.YtljjbikbfeigdaaGreatDoor.needs (m.eqI.map fun (t,x)=>eqT (t.put (m.ts lo)) x)++
    (Proofs.YtljjbikbfeigdaaGreatDoor.needs (m.eqB.map fun (t,x)=>qbo (t.put (m.ts lo)) x)++Proofs.YtljjbikbfeigdaaGreatDoor.needs (m.eqA.map fun (t,x)=>qda (t.put (m.ts lo)) x)))
def jn9(lo:Nat)(t:List SR)(th:Hp)(x:List SR)(h:Hp):Option (Bd×List (Cl×Gn)):=
  match Yz lo t x {} with
  | some m=>match jm8 lo th.rw h.rw m with
    | some (m,rest)=>match Xd lo h rest th.ro m with
      | some m=>match jxi lo th.ow h.ow m with
        | some m=>some (m,rest)
        | none=>none
      | none=>none
    | none=>none
  | none=>none
noncomputable def T.clearR:T→Nat→Bool:=T.rec (motive:=fun _=>Nat→Bool)
    (fun _ _=>true)
    (fun _=>true)
    (fun _=>true)
    (fun q0 ns=>Nat.ble (q0+1) ns)
    (fun q0 ns=>Nat.ble (q0+1) ns)
    (fun q0 ns=>Nat.ble (q0+1) ns)
    (fun _ _ h0 h1 ns=>((h0 ns).and (h1 ns)))
    (fun _ _ h0 h1 ns=>((h0 ns).and (h1 ns)))
    (fun _ _ h0 h1 ns=>((h0 ns).and (h1 ns)))
    (fun _ _ h0 ns=>(h0 ns))
    (fun _ _ h0 h1 ns=>((h0 ns).and (h1 ns)))
    (fun _ _ h0 h1 ns=>((h0 ns).and (h1 ns)))
    (fun _ _ _ h0 h1 ns=>((h0 ns).and (h1 ns)))
    (fun _ _ _ h0 h1 ns=>((h0 ns).and (h1 ns)))
    (fun _ _ _ _ h0 h1 ns=>((h0 ns).and (h1 ns)))
    (fun _ _ h0 h1 ns=>((h0 ns).and (h1 ns)))
    (fun _ _ h0 h1 ns=>((h0 ns).and (h1 ns)))
    (fun _ _ h0 h1 ns=>((h0 ns).and (h1 ns)))
    (fun _ _ h0 h1 ns=>((h0 ns).and (h1 ns)))
    (fun _ _ h0 h1 ns=>((h0 ns).and (h1 ns)))
    (fun _ _ h0 h1 ns=>((h0 ns).and (h1 ns)))
    (fun _ h0 ns=>(h0 ns))
    (fun _ _ h0 h1 ns=>((h0 ns).and (h1 ns)))
    (fun _ _ h0 h1 ns=>((h0 ns).and (h1 ns)))
    (fun _ _ _ h0 h1 h2 ns=>((h0 ns).and ((h1 ns).and (h2 ns))))
    (fun _ _ _ h0 h1 h2 ns=>((h0 ns).and ((h1 ns).and (h2 ns))))
    (fun _ h0 ns=>(h0 ns))
    (fun _ _ h0 h1 ns=>((h0 ns).and (h1 ns)))
    (fun _ _ _ h0 h1 h2 ns=>((h0 ns).and ((h1 ns).and (h2 ns))))
    (fun _ _ h0 h1 ns=>((h0 ns).and (h1 ns)))
    (fun _ _ _ h0 h1 h2 ns=>((h0 ns).and ((h1 ns).and (h2 ns))))
    (fun _ _=>true)
    (fun _ _ _ h0 h1 h2 ns=>((h0 ns).and ((h1 ns).and (h2 ns))))
    (fun _ _ h0 h1 ns=>((h0 ns).and (h1 ns)))
    (fun _ _ _ _ _ _ _ _ _ h0 h1 h2 h3 h4 h5 h6 h7 ns=>((h0 ns).and ((h1 ns).and ((h2 ns).and ((h3 ns).and ((h4 ns).and ((h5 ns).and ((h6 ns).and (h7 ns)))))))))
    (fun _ _ _ _ _ _ _ _ _ h0 h1 h2 h3 h4 h5 h6 h7 ns=>((h0 ns).and ((h1 ns).and ((h2 ns).and ((h3 ns).and ((h4 ns).and ((h5 ns).and ((h6 ns).and (h7 ns)))))))))
    (fun _ _ _ _ _ _ _ _ _ h0 h1 h2 h3 h4 h5 h6 h7 ns=>((h0 ns).and ((h1 ns).and ((h2 ns).and ((h3 ns).and ((h4 ns).and ((h5 ns).and ((h6 ns).and (h7 ns)))))))))
noncomputable def T.clear (ns:Nat) (t:T):Bool:=t.clearR ns
def T.clearI(ns:Nat):T→Bool
  | .lit _=>true
  | .tt=>true
  | .ff=>true
  | .iv q0=>Nat.ble (q0+1) ns
  | .bv q0=>Nat.ble (q0+1) ns
  | .av q0=>Nat.ble (q0+1) ns
  | .add a0 a1=>((T.clearI ns a0).and (T.clearI ns a1))
  | .sub a0 a1=>((T.clearI ns a0).and (T.clearI ns a1))
  | .mul a0 a1=>((T.clearI ns a0).and (T.clearI ns a1))
  | .wrap _ a0=>(T.clearI ns a0)
  | .tdiv a0 a1=>((T.clearI ns a0).and (T.clearI ns a1))
  | .tmod a0 a1=>((T.clearI ns a0).and (T.clearI ns a1))
  | .shl _ a0 a1=>((T.clearI ns a0).and (T.clearI ns a1))
  | .shr _ a0 a1=>((T.clearI ns a0).and (T.clearI ns a1))
  | .bits _ _ a0 a1=>((T.clearI ns a0).and (T.clearI ns a1))
  | .mx a0 a1=>((T.clearI ns a0).and (T.clearI ns a1))
  | .mn a0 a1=>((T.clearI ns a0).and (T.clearI ns a1))
  | .eq a0 a1=>((T.clearI ns a0).and (T.clearI ns a1))
  | .lt a0 a1=>((T.clearI ns a0).and (T.clearI ns a1))
  | .le a0 a1=>((T.clearI ns a0).and (T.clearI ns a1))
  | .beq a0 a1=>((T.clearI ns a0).and (T.clearI ns a1))
  | .not a0=>(T.clearI ns a0)
  | .and a0 a1=>((T.clearI ns a0).and (T.clearI ns a1))
  | .or a0 a1=>((T.clearI ns a0).and (T.clearI ns a1))
  | .ite a0 a1 a2=>((T.clearI ns a0).and ((T.clearI ns a1).and (T.clearI ns a2)))
  | .bite a0 a1 a2=>((T.clearI ns a0).and ((T.clearI ns a1).and (T.clearI ns a2)))
  | .len a0=>(T.clearI ns a0)
  | .get a0 a1=>((T.clearI ns a0).and (T.clearI ns a1))
  | .set a0 a1 a2=>((T.clearI ns a0).and ((T.clearI ns a1).and (T.clearI ns a2)))
  | .rep a0 a1=>((T.clearI ns a0).and (T.clearI ns a1))
  | .cut a0 a1 a2=>((T.clearI ns a0).and ((T.clearI ns a1).and (T.clearI ns a2)))
  | .alit _=>true
  | .splice a0 a1 a2=>((T.clearI ns a0).and ((T.clearI ns a1).and (T.clearI ns a2)))
  | .aeq a0 a1=>((T.clearI ns a0).and (T.clearI ns a1))
  | .fi _ a0 a1 a2 a3 a4 a5 a6 a7=>((T.clearI ns a0).and ((T.clearI ns a1).and ((T.clearI ns a2).and ((T.clearI ns a3).and ((T.clearI ns a4).and ((T.clearI ns a5).and ((T.clearI ns a6).and (T.clearI ns a7))))))))
  | .fb _ a0 a1 a2 a3 a4 a5 a6 a7=>((T.clearI ns a0).and ((T.clearI ns a1).and ((T.clearI ns a2).and ((T.clearI ns a3).and ((T.clearI ns a4).and ((T.clearI ns a5).and ((T.clearI ns a6).and (T.clearI ns a7))))))))
  | .fa _ a0 a1 a2 a3 a4 a5 a6 a7=>((T.clearI ns a0).and ((T.clearI ns a1).and ((T.clearI ns a2).and ((T.clearI ns a3).and ((T.clearI ns a4).and ((T.clearI ns a5).and ((T.clearI ns a6).and (T.clearI ns a7))))))))
theorem T.clear_eq: @T.clear= @T.clearI:=by
  funext ns t
  unfold T.clear
  induction t with
  | lit q0=>rfl
  | tt=>rfl
  | ff=>rfl
  | iv q0=>rfl
  | bv q0=>rfl
  | av q0=>rfl
  | add a0 a1 h0 h1=>show ((a0.clearR ns).and (a1.clearR ns))=_;rw[h0,h1];rfl
  | sub a0 a1 h0 h1=>show ((a0.clearR ns).and (a1.clearR ns))=_;rw[h0,h1];rfl
  | mul a0 a1 h0 h1=>show ((a0.clearR ns).and (a1.clearR ns))=_;rw[h0,h1];rfl
  | wrap q0 a0 h0=>show (a0.clearR ns)=_;rw[h0];rfl
  | tdiv a0 a1 h0 h1=>show ((a0.clearR ns).and (a1.clearR ns))=_;rw[h0,h1];rfl
  | tmod a0 a1 h0 h1=>show ((a0.clearR ns).and (a1.clearR ns))=_;rw[h0,h1];rfl
  | shl q0 a0 a1 h0 h1=>show ((a0.clearR ns).and (a1.clearR ns))=_;rw[h0,h1];rfl
  | shr q0 a0 a1 h0 h1=>show ((a0.clearR ns).and (a1.clearR ns))=_;rw[h0,h1];rfl
  | bits q0 q1 a0 a1 h0 h1=>show ((a0.clearR ns).and (a1.clearR ns))=_;rw[h0,h1];rfl
  | mx a0 a1 h0 h1=>show ((a0.clearR ns).and (a1.clearR ns))=_;rw[h0,h1];rfl
  | mn a0 a1 h0 h1=>show ((a0.clearR ns).and (a1.clearR ns))=_;rw[h0,h1];rfl
  | eq a0 a1 h0 h1=>show ((a0.clearR ns).and (a1.clearR ns))=_;rw[h0,h1];rfl
  | lt a0 a1 h0 h1=>show ((a0.clearR ns).and (a1.clearR ns))=_;rw[h0,h1];rfl
  | le a0 a1 h0 h1=>show ((a0.clearR ns).and (a1.clearR ns))=_;rw[h0,h1];rfl
  | beq a0 a1 h0 h1=>show ((a0.clearR ns).and (a1.clearR ns))=_;rw[h0,h1];rfl
  | not a0 h0=>show (a0.clearR ns)=_;rw[h0];rfl
  | and a0 a1 h0 h1=>show ((a0.clearR ns).and (a1.clearR ns))=_;rw[h0,h1];rfl
  | or a0 a1 h0 h1=>show ((a0.clearR ns).and (a1.clearR ns))=_;rw[h0,h1];rfl
  | ite a0 a1 a2 h0 h1 h2=>show ((a0.clearR ns).and ((a1.clearR ns).and (a2.clearR ns)))=_;rw[h0,h1,h2];rfl
  | bite a0 a1 a2 h0 h1 h2=>show ((a0.clearR ns).and ((a1.clearR ns).and (a2.clearR ns)))=_;rw[h0,h1,h2];rfl
  | len a0 h0=>show (a0.clearR ns)=_;rw[h0];rfl
  | get a0 a1 h0 h1=>show ((a0.clearR ns).and (a1.clearR ns))=_;rw[h0,h1];rfl
  | set a0 a1 a2 h0 h1 h2=>show ((a0.clearR ns).and ((a1.clearR ns).and (a2.clearR ns)))=_;rw[h0,h1,h2];rfl
  | rep a0 a1 h0 h1=>show ((a0.clearR ns).and (a1.clearR ns))=_;rw[h0,h1];rfl
  | cut a0 a1 a2 h0 h1 h2=>show ((a0.clearR ns).and ((a1.clearR ns).and (a2.clearR ns)))=_;rw[h0,h1,h2];rfl
  | alit q0=>rfl
  | splice a0 a1 a2 h0 h1 h2=>show ((a0.clearR ns).and ((a1.clearR ns).and (a2.clearR ns)))=_;rw[h0,h1,h2];rfl
  | aeq a0 a1 h0 h1=>show ((a0.clearR ns).and (a1.clearR ns))=_;rw[h0,h1];rfl
  | fi q0 a0 a1 a2 a3 a4 a5 a6 a7 h0 h1 h2 h3 h4 h5 h6 h7=>show ((a0.clearR ns).and ((a1.clearR ns).and ((a2.clearR ns).and ((a3.clearR ns).and ((a4.clearR ns).and ((a5.clearR ns).and ((a6.clearR ns).and (a7.clearR ns))))))))=_;rw[h0,h1,h2,h3,h4,h5,h6,h7];rfl
  | fb q0 a0 a1 a2 a3 a4 a5 a6 a7 h0 h1 h2 h3 h4 h5 h6 h7=>show ((a0.clearR ns).and ((a1.clearR ns).and ((a2.clearR ns).and ((a3.clearR ns).and ((a4.clearR ns).and ((a5.clearR ns).and ((a6.clearR ns).and (a7.clearR ns))))))))=_;rw[h0,h1,h2,h3,h4,h5,h6,h7];rfl
  | fa q0 a0 a1 a2 a3 a4 a5 a6 a7 h0 h1 h2 h3 h4 h5 h6 h7=>show ((a0.clearR ns).and ((a1.clearR ns).and ((a2.clearR ns).and ((a3.clearR ns).and ((a4.clearR ns).and ((a5.clearR ns).and ((a6.clearR ns).and (a7.clearR ns))))))))=_;rw[h0,h1,h2,h3,h4,h5,h6,h7];rfl
def Cl.clear(ns:Nat)(na:Nat):Cl→Bool
  | .old n=>Nat.ble (n+1) ns
  | .new k=>Nat.ble (k+1) na
  | .glob _=>true
  | .ro n=>Nat.ble (n+1) ns
  | .own n=>Nat.ble (n+1) ns
def Aw.clear(ns:Nat)(na:Nat):Aw→Bool
  | .int _ t=>t.clear ns
  | .bool t=>t.clear ns
  | .ptr r _ d=>(r.clear ns na).and (d.clear ns)
  | .sl r _ d n c=>(r.clear ns na).and ((d.clear ns).and ((n.clear ns).and (c.clear ns)))
  | .iface _ x=>x.clear ns na
  | .junk n=>Nat.ble (n+1) ns
  | .val n=>Nat.ble (n+1) ns
  | _=>true
def Cp.clear(ns:Nat)(na:Nat):Cp→Bool
  | .cells l=>l.all (Aw.clear ns na)
  | .arr _ a _=>a.clear ns
  | .arrD _ a=>a.clear ns
  | .bar a _=>a.clear ns
  | .junk n=>Nat.ble (n+1) ns
  | .tail z n=>(z.all (Aw.clear ns na)).and (n.clear ns)
def SV.clear(ns:Nat)(na:Nat):SV→Bool
  | .one l=>l.clear ns na
  | .agg g=>g.all (Cp.clear ns na)
def SR.clear(ns:Nat)(na:Nat):SR→Bool
  | .v x=>x.clear ns na
  | .tup l=>l.all (SV.clear ns na)
  | .ite c x y=>(c.clear ns).and ((x.clear ns na).and (y.clear ns na))
structure Wv where
  need:List T
  ns:Nat
  na:Nat
  facts:List T
  val:SR
  heap:Hp
abbrev Ff:=List SR→Hp→Option Wv
def j6r(z:Nat)(e:TypeId)(x:Aw)(h:Hp):Option (List T×Nat×List Cp×List (Cl×Gn)×Option (List Aw)):=
  match x with
  | .nils=>some ([],0,[],h.rw,none)
  | .sl (.own q) 0 (.lit (.ofNat 0)) (.lit (.ofNat n)) (.iv c)=>
    match Jr h.rw (.own q) with
    | some b=>
      if b.ty=e then
        match Fd b.segs (n*z) with
        | some (p,[.tail z' (.sub (.iv c') (.lit (.ofNat n')))])=>if c'=c∧n'=n then some ([.le (.lit n) (.iv c)],n,p,Ox h.rw (.own q),some z') else none
        | _=>none
      else none
    | none=>none
  | _=>none
def Gm(ns:Nat)(na:Nat)(rw:List (Cl×Gn)):Bool:=rw.all fun x=>(x.1.clear ns na).and (x.2.segs.all (Cp.clear ns na))
def Gh(ns:Nat)(na:Nat)(ro:List (Cl×IntKind×T)):Bool:=ro.all fun x=>(x.1.clear ns na).and (x.2.2.clear ns)
def Se(ns:Nat):Option OW→Bool
  | none=>true
  | some o=>(Nat.ble (o.v+1) ns).and (o.a.clear ns)
def jl4(P:Program)(t u:TypeId)(x y:Aw)(h:Hp):Option Wv:=
  match P.underlying t,h.ow,x,y with
  | some (.slice e),some o,.val q,.sl r2 s2 d2 ln2 c2=>
    if t=u∧o.v=q∧o.e=e then
      match P.info? e,Zu P e,jew o.k h (.sl r2 s2 d2 ln2 c2) ln2 with
      | some i,some [.cells [.int k (.lit 0)]],some (c,g)=>
        if k=o.k∧i.size=1∧i.bytes≤8∧Gm h.nv h.na h.rw=true∧Gh h.nv h.na h.ro=true∧o.a.clear h.nv=true∧g.clear h.nv=true then
          some ⟨c++ [.le (.lit 1) ln2,.le (.add (.len o.a) ln2) (.lit 1099511627776)],h.nv,h.na,[],.v (.one (.val h.nv)),{h with ow:=some ⟨h.nv,e,o.k,Xf o.a g⟩,nv:=h.nv+1}⟩
        else none
      | _,_,_=>none
    else none
  | _,_,_,_=>none
def jdn(P:Program)(t u:TypeId)(x y:Aw)(h:Hp):Option Wv:=
  match P.underlying t with
  | some (.slice e)=>
    if t=u then
      match P.info? e,Zu P e,y with
      | some i,some zs,.sl r2 s2 d2 ln2 c2=>
        match Nm zs,ln2.view,j6r i.size e x h with
        | some z,.lit (.ofNat m),some (c0,n,p,rw,oz)=>
          match jp1 h (.sl r2 s2 d2 ln2 c2) (m*i.size) with
          | some (c,g)=>
            if (oz=none∨oz=some z)∧z.length=i.size∧0<m∧0<i.size∧(n+m)*(i.bytes+1)≤1073741824∧g.all Cp.plain=true∧Gm h.nv h.na rw=true∧Gh h.nv h.na h.ro=true∧Se h.nv h.ow=true∧(p++g).all (Cp.clear h.nv h.na)=true then
              some ⟨c0++c,h.nv,h.na,[.le (.lit (n+m:Nat)) (.iv h.nv)],.v (.one (.sl (.own h.nv) 0 (.lit 0) (.lit (n+m:Nat)) (.iv h.nv))),
                { h with rw:=rw++ [(.own h.nv,⟨e,Dn (p++g)++ [.tail z (.sub (.iv h.nv) (.lit (n+m:Nat)))]⟩)],nv:=h.nv+1}⟩
            else none
          | none=>none
        | _,_,_=>none
      | _,_,_=>none
    else none
  | _=>none
def Ti(P:Program)(rsp:Nat→Option Ff)(fr:Nat→SR)(h:Hp)(o:Oper):Option Wv:=
  match o.op with
  | .call c=>match c.callee with
    | .builtin .append=>match c.args.toList,c.argTypes.toList with
      | [x,y],[t,u]=>match Vy fr x,Vy fr y with
        | some a,some b=>match jdn P t u a b h with
          | some r=>some r
          | none=>jl4 P t u a b h
        | _,_=>none
      | _,_=>none
    | _=>match jm4 P fr c with
      | some (f,args)=>match rsp f with
        | some s=>s args h
        | none=>none
      | none=>none
  | _=>none
structure Jh where
  fr:List SR
  h:Hp
  facts:List T
  meas:T
  quiet:Bool
def Jh.na(an:Jh):Nat:=if an.quiet then an.h.na+1000000000 else an.h.na
inductive KF where
  | code (c:Code)|blk (id:Nat)|again (c:Code)
  | inv (lo:Nat) (an:Jh) (c:Code)
structure Fs where
  o:Oper
  want:Bool
  fr:List SR
  heap:Hp
  r:Sb
inductive Jg where
  | need (c:List T) (k:Jg)
  | cond (c:T) (a b:Jg)
  | any (ns:Nat) (na:Nat) (facts:List T) (k:Jg)
  | fail (why:String)
  | done
  | tight (k:Jg)
  | ret (v:SR) (h:Hp)
  | fall (fr:List SR) (h:Hp)
  | out (id:Nat) (fr:List SR) (h:Hp)
  | stop (rest:List Oper) (all:List Oper) (ks:List KF) (fr:List SR) (h:Hp)
inductive qlp where
  | yes|no|ask (slot:Nat) (t:T)|lost
def jiu(all:List Oper)(fr:List SR)(o:Oper):qlp:=
  match o.guard with
  | none=>.yes
  | some (j,want)=>
    match (all[j]?).bind (·.dst) with
    | none=>.lost
    | some d=>
      if d<fr.length then
        match Do fr d with
        | .v (.one (.bool .tt))=>if want then .yes else .no
        | .v (.one (.bool .ff))=>if want then .no else .yes
        | .v (.one (.bool t))=>.ask d t
        | .v (.one .undef)=>.no
        | _=>.lost
      else .lost
def Vt(P:Program)(fr:Nat→SR)(h:Hp)(rs:List ResultVar):Option (List SV):=
  rs.mapM fun
    | .tmp t=>match fr t with|.v x=>some x|_=>none
    | .cell a t=>match fr a with
      | .v (.one (.ptr r s d))=>if (P.underlying t).isSome then
          match jnv P t (.ptr r s d) h with
          | some ([],x)=>some x
          | _=>none
        else none
      | _=>none
def jog(P:Program)(fr:Nat→SR)(h:Hp)(rs:List ResultVar):Option SR:=
  match Vt P fr h rs with
  | some [x]=>some (.v x)
  | some xs=>some (.tup xs)
  | none=>none
def Mo(e:Edge):Bool:=Region.binds .any e
def Pp(ms:List Nat)(o:Oper):Nat:=
  o.after.toList.foldl (fun s e=>if Mo e then s|||2^e.on|||ms.getD e.on 0 else s) 0
def Ex(ops:List Oper):List Nat:=ops.foldl (fun ms o=>ms++ [Pp ms o]) []
def Qi(all:List Oper)(o:Oper):List Tmp:=
  (o.op.operands.toList.filterMap fun|.tmp t=>some t|_=>none)++(match o.guard with|some (g,_)=>((all[g]?).bind (·.dst)).toList|none=>[])
def Jc(ops:List Oper):Bool:=
  ops.zipIdx.all fun (o,i)=>o.after.toList.all fun e=> !Mo e||e.on<i
def Vc(ops:List Oper)(ms:List Nat):Bool:=
  ops.zipIdx.all fun (w,i)=>
    match w.dst with
    | none=>true
    | some d=>ops.zipIdx.all fun (o,j)=>
      i==j|| !((Qi ops o).contains d||o.dst==some d)||(if i<j then (ms.getD j 0).testBit i else (ms.getD i 0).testBit j)
def jik:Op→Bool
  | .store .. =>true
  | .alloc .. =>true
  | .box .. =>true
  | .makeSlice .. =>true
  | .buildSlice .. =>true
  | .call .. =>true
  | _=>false
def Eb(e:Fs):Bool:=e.want&&(jik e.o.op&& !(e.r.heap==e.heap))
def Eo(h0:Hp)(es:List Fs):List Hp:=h0::(es.filter Eb).map (·.r.heap)
def Xw(P:Program)(specs:Nat→Option Ec)(e:Fs)(all:List T)(h:Hp):Bool:=
  match Gx P specs (Do e.fr) h e.o with
  | some r=>r.val==e.r.val&&r.heap==h&&r.need.all (all.contains ·)
  | none=>false
def Dr(ops:List Oper):Bool:=Jc ops&&Vc ops (Ex ops)
def Rh(P:Program)(specs:Nat→Option Ec)(h0:Hp)(es:List Fs):Bool:=
  let effs:=es.zipIdx.filterMap fun (e,i)=>if Eb e then some i else none
  effs.isEmpty||
  (let ms:=Ex (es.map (·.o))
   let all:=es.flatMap (·.r.need)
   let hs:=Eo h0 es
   (effs.all fun i=>effs.all fun j=> !(i<j)||(ms.getD j 0).testBit i)&&
   es.zipIdx.all fun (e,i)=>
    !e.want||Eb e||
    (let lo:=(effs.filter fun j=>(ms.getD i 0).testBit j).length
     let hi:=(effs.filter fun j=> !(ms.getD j 0).testBit i).length
     hs.zipIdx.all fun (h,t)=>t<lo||hi<t||Xw P specs e all h))
def Lp(P:Program)(specs:Nat→Option Ec)(h0:Hp)(es:List Fs):Bool:=
  let effs:=es.zipIdx.filterMap fun (e,i)=>if Eb e then some i else none
  let ms:=Ex (es.map (·.o))
  let all:=es.flatMap (·.r.need)
  let hs:=Eo h0 es
  es.zipIdx.all fun (e,i)=>
    !e.want||Eb e||
    (let lo:=(effs.filter fun j=>(ms.getD i 0).testBit j).length
     let hi:=(effs.filter fun j=> !(ms.getD j 0).testBit i).length
     hs.zipIdx.all fun (h,t)=>t<lo||hi<t||Xw P specs e all h)
def jl2{α:Type}:List α→List (List α)
  | []=>[[]]
  | x::l=>jl2 l++(jl2 l).map (x:: ·)
def jh2(x:Nat×Nat×Gn):Cl×Gn:=(.new x.2.1,x.2.2)
def hLs(H:Hp)(na1:Nat)(L:List (Nat×Nat×Gn)):Hp:={H with rw:=H.rw++L.map jh2,na:=na1}
def ju0(k:Nat):SR→SR
  | .v (.one (.ptr (.new _) s d))=>.v (.one (.ptr (.new k) s d))
  | .v (.one (.sl (.new _) s a b c))=>.v (.one (.sl (.new k) s a b c))
  | x=>x
def jce(ns k:Nat):SR→Bool
  | .v (.one (.ptr (.new j) _ d))=>(Nat.beq j k).and (d.clear ns)
  | .v (.one (.sl (.new j) _ a b c))=>(Nat.beq j k).and ((a.clear ns).and ((b.clear ns).and (c.clear ns)))
  | _=>false
def Pn(cur:List SR)(fin:List SR):List Fs→Bool
  | []=>cur==fin
  | e::es=>(e.fr==cur).and (Pn (Er cur e.o.dst e.r.val) fin es)
def Uf(ms:List Nat)(j i:Nat):Bool:=(ms.getD j 0).testBit i
def jlq(es:List Fs):List Nat:=es.zipIdx.filterMap fun (e,i)=>if Eb e then some i else none
def jrt(es:List Fs):List Nat:=
  let effs:=jlq es
  let ms:=Ex (es.map (·.o))
  effs.filter fun i=>effs.any fun j=>if i<j then !Uf ms j i else if j<i then !Uf ms i j else false
def jfn(es:List Fs)(A:List Nat):List (Nat×Nat×Gn):=
  A.filterMap fun i=>match es[i]? with
    | some e=>match e.r.heap.rw.getLast? with
      | some (.new k,b)=>some (i,k,b)
      | _=>none
    | none=>none
def jhk(ms:List Nat)(A:List Nat)(i:Nat)(L:List (Nat×Nat×Gn)):Bool:=
  (A.any fun a=>(Uf ms i a).and (L.any fun x=>Nat.beq x.1 a).not).or (L.any fun x=>Uf ms x.1 i)
def jjy(P:Program)(specs:Nat→Option Ec)(ns:Nat)(H:Hp)(na1:Nat)(all:List T)(e:Fs)(x:Nat×Nat×Gn)(L:List (Nat×Nat×Gn)):Bool:=
  match Gx P specs (Do e.fr) (hLs H na1 L) e.o with
  | some r=>(r.val==(if jce ns x.2.1 e.r.val then ju0 na1 e.r.val else e.r.val)).and ((r.heap=={hLs H na1 L with rw:=(hLs H na1 L).rw++ [(.new na1,x.2.2)],na:=na1+1}).and (r.need.all (all.contains ·)))
  | none=>false
def jjo(P:Program)(specs:Nat→Option Ec)(ns:Nat)(h0:Hp)(es:List Fs)(fr0 fin:List SR)(A:List Nat)(p:Nat)(als:List (Nat×Nat×Gn))(H:Hp):Bool:=
  let effs:=jlq es
  let ms:=Ex (es.map (·.o))
  let all:=es.flatMap (·.r.need)
  let na1:=H.na+als.length
  (Pn fr0 fin es).and<|(es.all fun e=>e.o.guard.isNone).and<|(fr0.all (SR.clear ns H.na)).and<|
  (decide (als.map (·.1)).Nodup).and<|(decide (als.map (·.2.1)).Nodup).and<|
  (als.all fun x=>(Nat.ble H.na x.2.1).and ((Nat.ble (x.2.1+1) na1).and ((x.2.2.segs.all (Cp.clear ns H.na)).and (A.contains x.1)))).and<|
  (A.all fun a=>als.any fun x=>Nat.beq x.1 a).and<|
  (Gm ns H.na H.rw).and<|(Gh ns H.na H.ro).and<|(H.ow.isNone).and<|
  (effs.zipIdx.all fun (i,k)=>if k<p then A.all (fun a=>Uf ms a i) else if k<p+als.length then A.contains i else A.all (fun a=>Uf ms i a)).and<|
  (A.all fun a=>((effs.drop p).take als.length).contains a).and<|
  ((Eo h0 es)[p]? ==some H).and<|((Eo h0 es)[p+als.length]? ==some (hLs H na1 als)).and<|
  (effs.all fun i=>effs.all fun j=>(!decide (i<j)).or ((Uf ms j i).or ((A.contains i).and (A.contains j)))).and<|
  (Lp P specs h0 es).and<|
  (es.zipIdx.all fun (e,i)=>(e.r.val.clear ns H.na).or ((als.any fun x=>(Nat.beq x.1 i).and (jce ns x.2.1 e.r.val)).or (A.all fun a=>Uf ms i a))).and<|
  (es.zipIdx.all fun (e,i)=>(Eb e).or ((jl2 als).all fun L=>(jhk ms A i L).or (Xw P specs e all (hLs H na1 L)))).and<|
  (als.all fun x=>match es[x.1]? with
    | some e=>((jce ns x.2.1 e.r.val).or (e.r.val.clear ns H.na)).and ((Eb e).and ((jl2 als).all fun L=>((L.any fun y=>Nat.beq y.1 x.1).or (jhk ms A x.1 L)).or (jjy P specs ns H na1 all e x L)))
    | none=>false)
def js1(P:Program)(specs:Nat→Option Ec)(ns:Nat)(h0:Hp)(es:List Fs)(fin:List SR):Bool:=
  match es with
  | []=>false
  | e0::_=>
    let A:=jrt es
    let p:=((jlq es).takeWhile fun i=>(A.contains i).not).length
    match (Eo h0 es)[p]? with
    | some H=>(jfn es A).isEmpty.not.and ((Nat.ble h0.na H.na).and (jjo P specs ns h0 es e0.fr fin A p (jfn es A) H))
    | none=>false
def Ji:Code→Bool
  | .seq a b=>Ji a&&Ji b
  | .cond _ a b=>Ji a&&Ji b
  | .block _ b=>Ji b
  | .loop b=>Ji b
  | .region _ ops draw=> !draw||Dr ops.toList
  | _=>true
inductive Wx where
  | code (c:Code)|pop
  | ops (rest all:List Oper)
  | draw (rest all:List Oper) (es:List Fs) (h0:Hp)
def Hy(id:Nat):List KF→Option (List KF)
  | []=>none
  | .code _::ks=>Hy id ks
  | .again _::ks=>Hy id ks
  | .inv _ _ _::ks=>Hy id ks
  | .blk j::ks=>if id=j then some ks else Hy id ks
def Jp(c:List T)(k:Jg):Jg:=match c with| []=>k|c=>.need c k
def Fi(fr:List SR)(slot:Nat)(b:Bool):List SR:=fr.set slot (.v (.one (.bool (Xt b))))
def jj2(c:T)(x y:Aw):Option Aw:=
  match x,y with
  | .int k a,.int k' b=>if k=k' then some (.int k (jop c a b)) else none
  | .bool a,.bool b=>some (.bool (jjn c a b))
  | _,_=>none
def jae(c:T)(x y:SR):SR:=
  if x=y then x else
  match x,y with
  | .v (.one a),.v (.one b)=>match jj2 c a b with
    | some l=>.v (.one l)
    | none=>.ite c x y
  | _,_=>.ite c x y
def Lo(c:T):List SR→List SR→List SR
  | x::l,y::m=>jae c x y::Lo c l m
  | _,_=>[]
def Kh:Code→Bool
  | .skip=>true
  | .seq a b=>(Kh a).and (Kh b)
  | .cond _ a b=>(Kh a).and (Kh b)
  | .region _ ops draw=>(draw.not).and (ops.toList.all fun o=>(jik o.op).not)
  | _=>false
def Jg.split:Jg→Option (List T×List SR)
  | .fall f _=>some ([],f)
  | .need c k=>match k.split with
    | some (d,f)=>some (c++d,f)
    | none=>none
  | _=>none
def jj0(c:T)(l:List T):List T:=l.map fun t=>.or c t
def jg2:Code→Nat
  | .region id _ _=>id
  | .seq a b=>match Nat.beq (jg2 a) 1000000 with|true=>jg2 b|false=>jg2 a
  | .cond _ a _=>jg2 a
  | .block _ b=>jg2 b
  | .loop b=>jg2 b
  | _=>1000000
def Mh(ns na:Nat):List KF→Bool
  | []=>true
  | .inv lo an _::ks=>((Nat.ble lo ns).and ((Nat.ble an.na na).and (an.meas.clear ns))).and (Mh ns na ks)
  | _::ks=>Mh ns na ks
def Cl.isNew:Cl→Bool
  | .new _=>true
  | .own _=>true
  | _=>false
def Cl.okIn(na:Nat):Cl→Bool
  | .new k=>Nat.ble (k+1) na
  | _=>true
def Aw.okIn(na:Nat):Aw→Bool
  | .ptr r _ _=>r.okIn na
  | .sl r _ _ _ _=>r.okIn na
  | .iface _ x=>x.okIn na
  | _=>true
def Cp.okIn(na:Nat):Cp→Bool
  | .cells l=>l.all (Aw.okIn na)
  | .tail z _=>z.all (Aw.okIn na)
  | _=>true
def SV.okIn(na:Nat):SV→Bool
  | .one l=>l.okIn na
  | .agg g=>g.all (Cp.okIn na)
def SR.okIn(na:Nat):SR→Bool
  | .v x=>x.okIn na
  | .tup l=>l.all (SV.okIn na)
  | .ite .. =>false
def jvr(na:Nat)(l:List (Cl×Gn)):Bool:=l.all fun x=>(x.1.okIn na).and (x.2.segs.all (Cp.okIn na))
def j1q(lo:Nat)(l:List (Cl×IntKind×T)):Bool:=l.all fun x=>match x.1 with|.ro n=>Nat.ble (n+1) lo|.glob _=>true|_=>false
def jvv(lo:Nat)(t:List SR)(th:Hp)(h:Hp)(rest:List (Cl×Gn))(quiet:Bool):Bool:=
  (t.all (SR.okIn th.na)).and ((jvr th.na th.rw).and ((j1q lo th.ro).and ((rest.all fun x=>x.1.isNew).and ((Nat.ble th.na h.na).and (quiet.not.or (Nat.beq th.na h.na))))))
def Wp(P:Program)(specs:Nat→Option Ec)(all:List Oper):List Oper→List Fs→List SR→Hp→Option (List Fs×List SR×Hp)
  | [],es,fr,h=>some (es,fr,h)
  | o::rest,es,fr,h=>match jiu all fr o with
    | .yes=>match Gx P specs (Do fr) h o with
      | some r=>match r.need with
        | []=>Wp P specs all rest (es++ [⟨o,true,fr,h,r⟩]) (Er fr o.dst r.val) r.heap
        | _=>none
      | none=>none
    | .no=>Wp P specs all rest (es++ [⟨o,false,fr,h,⟨[],.v (.one .undef),h⟩⟩]) (Er fr o.dst (.v (.one .undef))) h
    | _=>none
def jho(k:Nat)(es:List Fs):Bool:=(Ex (es.map (·.o))).zipIdx.all fun (m,j)=>(Nat.ble j k).or (m.testBit k)
def Wf(ns na:Nat)(es:List Fs):Bool:=es.all fun e=>(e.fr.all (SR.clear ns na)).and ((e.r.val.clear ns na).and (e.r.need.all (T.clear ns)))
def jur:Op→Bool
  | .alloc _=>true
  | _=>false
def jyi(P:Program)(specs:Nat→Option Ec)(hA:Hp)(all:List T)(e:Fs):Option Fs:=
  match e.want with
  | true=>match Gx P specs (Do e.fr) hA e.o with
    | some r=>if r.val=e.r.val∧r.heap=hA∧r.need.all (all.contains ·)=true then some {e with heap:=hA,r:=r} else none
    | none=>none
  | false=>if e.r.val=.v (.one .undef)∧e.r.need=[] then some {e with heap:=hA,r:={e.r with heap:=hA}} else none
def Zi(P:Program)(specs:Nat→Option Ec)(hA:Hp)(all:List T):List Fs→Option (List Fs)
  | []=>some []
  | e::es=>match jyi P specs hA all e,Zi P specs hA all es with
    | some x,some l=>some (x::l)
    | _,_=>none
structure Ee where
  ra:Sb
  ra1:Sb
  r2:Wv
  rz:Sb
  esA:List Fs
def Wm:SR:=.v (.one .undef)
def jzu(P:Program)(specs:Nat→Option Ec)(rsp:Nat→Option Ff)(oa oz:Oper)(es:List Fs)(o:Oper)(fr:List SR)(h:Hp)(rr:Wv):Option Ee:=
  match Gx P specs (Do (Er fr o.dst Wm)) h oa,Gx P specs (Do (Er fr o.dst rr.val)) rr.heap oa with
  | some ra,some ra1=>
    match Ti P rsp (Do fr) ra.heap o,Gx P specs (Do (Er (Er fr o.dst rr.val) oa.dst ra.val)) ra1.heap oz,Zi P specs ra.heap (es.flatMap (·.r.need)) es with
    | some r2,some rz,some esA=>some ⟨ra,ra1,r2,rz,esA⟩
    | _,_,_=>none
  | _,_=>none
section
variable (oa oz o:Oper) (es:List Fs) (fr:List SR) (h:Hp) (rr:Wv) (s:Ee)
def Ee.x1:Fs:=⟨o,true,fr,h,⟨rr.need,rr.val,rr.heap⟩⟩
def Ee.a1:Fs:=⟨oa,true,Er fr o.dst rr.val,rr.heap,s.ra1⟩
def Ee.z1:Fs:=⟨oz,true,Er (Er fr o.dst rr.val) oa.dst s.ra.val,s.ra1.heap,s.rz⟩
def Ee.x2:Fs:=⟨o,true,fr,s.ra.heap,⟨s.r2.need,s.r2.val,s.r2.heap⟩⟩
def Ee.a2:Fs:=⟨oa,false,Er fr o.dst rr.val,s.ra1.heap,⟨[],s.ra.val,s.ra1.heap⟩⟩
def Ee.x3:Fs:=⟨o,false,fr,h,⟨[],Wm,h⟩⟩
def Ee.a3:Fs:=⟨oa,true,Er fr o.dst Wm,h,s.ra⟩
def Ee.z3:Fs:=⟨oz,false,fr,s.ra.heap,⟨[],Wm,s.ra.heap⟩⟩
def Ee.es1:List Fs:=es++ [Ee.x1 o fr h rr,s.a1 oa o fr rr,s.z1 oa oz o fr rr]
def Ee.es2:List Fs:=s.esA++ [s.x2 o fr,s.a2 oa o fr rr,s.z1 oa oz o fr rr]
def Ee.es3:List Fs:=es++ [Ee.x3 o fr h,s.a3 oa o fr h,s.z3 oz fr]
def Ee.ok(P:Program)(specs:Nat→Option Ec):Bool:=
  let k:=es.length
  let ms:=Ex ((s.es1 oa oz o es fr h rr).map (·.o))
  (oa.guard.isNone).and<|(oz.guard.isNone).and<|(decide (oz.dst=none)).and<|(jur oa.op).and<|
  (s.ra.need.isEmpty).and<|(s.ra1.need.isEmpty).and<|(s.rz.need.isEmpty).and<|(decide (s.ra1.val=s.ra.val)).and<|(decide (s.rz.val=Wm)).and<|(decide (s.ra.val=.v (.one (.ptr (.new h.na) 0 (.lit 0))))).and<|
  (Nat.beq s.r2.ns rr.ns).and<|(Nat.ble rr.na s.r2.na).and<|(decide (s.r2.facts=rr.facts)).and<|(decide (s.r2.val=rr.val)).and<|(decide (s.r2.heap=s.ra1.heap)).and<|
  (es.all fun e=>(Eb e).not).and<|(s.esA.all fun e=>(Eb e).not).and<|
  (Eb (Ee.x1 o fr h rr)).and<|(Eb (s.a1 oa o fr rr)).and<|(Eb (s.z1 oa oz o fr rr)).and<|(Eb (s.x2 o fr)).and<|(Eb (s.a3 oa o fr h)).and<|
  (Lp P specs h (s.es1 oa oz o es fr h rr)).and<|(Lp P specs s.ra.heap (s.es2 oa oz o fr rr)).and<|(Lp P specs h (s.es3 oa oz o es fr h)).and<|
  (Uf ms (k+2) k).and<|(Uf ms (k+2) (k+1)).and<|
  (Wf rr.ns rr.na es).and<|(fr.all (SR.clear rr.ns rr.na)).and<|(rr.need.all (T.clear rr.ns)).and<|(s.r2.need.all (T.clear rr.ns)).and<|(s.ra.val.clear s.r2.ns s.r2.na).and<|(s.esA.all fun e=>e.r.val.clear s.r2.ns s.r2.na)
end
structure FC where
  rs:List ResultVar
  lt:Nat→Option (List SR→Hp→Option Jh)
structure Tab where
  lt:Nat→Nat→Option (List SR→Hp→Option Jh)
  inl:Nat→Bool
def Jg.bindRet(P:Program)(rs:List ResultVar)(nv na:Nat)(ks:List KF)(k:SR→Hp→Jg):Jg→Jg
  | .need c o=>.need c (o.bindRet P rs nv na ks k)
  | .cond c x y=>.cond c (x.bindRet P rs nv na ks k) (y.bindRet P rs nv na ks k)
  | .any ns na' facts o=>if (Nat.ble nv ns).and ((Nat.ble na na').and (Mh ns na' ks)) then .any ns na' facts (o.bindRet P rs nv na ks k) else .fail "names"
  | .ret v h=>k v h
  | .fall fr h=>match jog P (Do fr) h rs with
    | some v=>k v h
    | none=>.fail "result"
  | .done=>.done
  | .tight o=>.tight (o.bindRet P rs nv na ks k)
  | .fail s=>.fail s
  | .out _ _ _=>.fail "out"
  | .stop _ _ _ _ _=>.fail "stop"
def Aw.unv(q:Nat)(l:Aw):Aw→Aw
  | .val n=>match Nat.beq n q with
    | true=>l
    | false=>.val n
  | x=>x
def Cp.unv(q:Nat)(l:Aw):Cp→Cp
  | .cells c=>.cells (c.map (Aw.unv q l))
  | g=>g
def SV.unv(q:Nat)(l:Aw):SV→SV
  | .one x=>.one (Aw.unv q l x)
  | .agg g=>.agg (g.map (Cp.unv q l))
def SR.unv(q:Nat)(l:Aw):SR→SR
  | .v x=>.v (x.unv q l)
  | .tup xs=>.tup (xs.map (SV.unv q l))
  | x=>x
def jyn(fr:List SR)(h:Hp):Option (T×T×List SR×Hp):=
  match h.ow with
  | some o=>
    match (Gm h.nv h.na h.rw).and ((Gh h.nv h.na h.ro).and ((o.a.clear h.nv).and (fr.all (SR.clear h.nv h.na)))) with
    | true=>
      let l:Aw:=.sl (.own h.nv) 0 (.lit 0) (.len o.a) (.iv h.nv)
      some (.lt (.lit 0) (.len o.a),.le (.len o.a) (.iv h.nv),fr.map (SR.unv o.v l),{h with rw:=(.own h.nv,⟨o.e,[.arrD o.k o.a,.tail [.int o.k (.lit 0)] (.sub (.iv h.nv) (.len o.a))]⟩)::h.rw.map (fun x=>(x.1,⟨x.2.ty,x.2.segs.map (Cp.unv o.v l)⟩)),nv:=h.nv+1,ow:=none})
    | false=>none
  | none=>none
def jed(fc:FC)(id:Nat)(fr:List SR)(h:Hp):Option (T×T×List SR×Hp):=
  match fc.lt (1000000+id) with
  | some _=>jyn fr h
  | none=>none
def jfj(fc:FC)(id:Nat)(fr:List SR)(h:Hp):Option (List T×List SR):=
  match fc.lt (2000000+id) with
  | some f=>match f fr h with
    | some an=>match Do fr an.h.nv with
      | .v (.one (.int k t))=>some (needs [eqT t an.meas],fr.set an.h.nv (.v (.one (.int k an.meas))))
      | _=>none
    | none=>none
  | none=>none
def Fc(P:Program)(specs:Nat→Option Ec)(rsp:Nat→Option Ff)(tab:Tab):Nat→FC→Wx→List KF→List SR→Hp→Jg
  | 0,_,_,_,_,_=>.fail "fuel"
  | n+1,fc,.pop,ks,fr,h=>
    match ks with
    | []=>.fall fr h
    | .code c::ks=>Fc P specs rsp tab n fc (.code c) ks fr h
    | .again c::ks=>Fc P specs rsp tab n fc (.code c) (.again c::ks) fr h
    | .blk _::ks=>Fc P specs rsp tab n fc .pop ks fr h
    | .inv lo an _::_=>match jn9 lo an.fr an.h fr h with
      | some (m,rest)=>if jvv lo an.fr an.h h rest an.quiet then Jp (m.needs lo++(an.facts.map (T.put (m.ts lo))++ [.lt (.lit 0) an.meas,.lt (an.meas.put (m.ts lo)) an.meas])) .done else .fail "template"
      | none=>.fail "fit"
  | n+1,fc,.code c,ks,fr,h=>
    match c with
    | .skip=>Fc P specs rsp tab n fc .pop ks fr h
    | .seq a b=>Fc P specs rsp tab n fc (.code a) (.code b::ks) fr h
    | .cond x a b=>
      match x,Vy (Do fr) x with
      | _,some (.bool .tt)=>Fc P specs rsp tab n fc (.code a) ks fr h
      | _,some (.bool .ff)=>Fc P specs rsp tab n fc (.code b) ks fr h
      | .tmp s,some (.bool t)=>
        if (Kh a).and (Kh b) then
          match (Fc P specs rsp tab n fc (.code a) [] (Fi fr s true) h).split,(Fc P specs rsp tab n fc (.code b) [] (Fi fr s false) h).split with
          | some (c1,f1),some (c2,f2)=>if f1.length=f2.length∧f1.length=fr.length then Jp (jj0 (.not t) c1++jj0 t c2) (Fc P specs rsp tab n fc .pop ks (Lo t f1 f2) h)
            else .cond t (Fc P specs rsp tab n fc (.code a) ks (Fi fr s true) h) (Fc P specs rsp tab n fc (.code b) ks (Fi fr s false) h)
          | _,_=>.cond t (Fc P specs rsp tab n fc (.code a) ks (Fi fr s true) h) (Fc P specs rsp tab n fc (.code b) ks (Fi fr s false) h)
        else .cond t (Fc P specs rsp tab n fc (.code a) ks (Fi fr s true) h) (Fc P specs rsp tab n fc (.code b) ks (Fi fr s false) h)
      | _,_=>.fail "cond"
    | .block id b=>Fc P specs rsp tab n fc (.code b) (.blk id::ks) fr h
    | .exit id=>match Hy id ks with
      | some ks'=>Fc P specs rsp tab n fc .pop ks' fr h
      | none=>.out id fr h
    | .ret=>match jog P (Do fr) h fc.rs with
      | some v=>.ret v h
      | none=>.fail "result"
    | .region id ops draw=>match jed fc id fr h with
      | some (t,f,fr',h')=>match Mh h.nv h.na ks with
        | true=>.tight (.need [t] (.any h.nv h.na [f] (Fc P specs rsp tab n fc (.code (.region id ops draw)) ks fr' h')))
        | false=>.fail "names"
      | none=>match jfj fc id fr h with
        | some (nd,fr')=>Jp nd (if draw then Fc P specs rsp tab n fc (.draw ops.toList ops.toList [] h) ks fr' h else Fc P specs rsp tab n fc (.ops ops.toList ops.toList) ks fr' h)
        | none=>if draw then Fc P specs rsp tab n fc (.draw ops.toList ops.toList [] h) ks fr h else Fc P specs rsp tab n fc (.ops ops.toList ops.toList) ks fr h
    | .loop b=>match fc.lt (jg2 b) with
      | none=>Fc P specs rsp tab n fc (.code b) (.again b::ks) fr h
      | some f=>match f fr h with
        | none=>.fail "annotation"
        | some an=>match jn9 h.nv an.fr an.h fr h with
          | some (m,rest)=>if (jvv h.nv an.fr an.h h rest an.quiet).and (Mh h.nv an.na ks) then
              Jp (m.needs h.nv++an.facts.map (T.put (m.ts h.nv))) (.any h.nv an.na an.facts (Fc P specs rsp tab n fc (.code b) (.inv h.nv an b::ks) an.fr an.h))
            else .fail "template"
          | none=>.fail "fit"
    | _=>.fail "code"
  | n+1,fc,.ops rest all,ks,fr,h=>
    match rest with
    | []=>Fc P specs rsp tab n fc .pop ks fr h
    | o::rest=>
      match jiu all fr o with
      | .yes=>match Gx P specs (Do fr) h o with
        | some r=>Jp r.need (Fc P specs rsp tab n fc (.ops rest all) ks (Er fr o.dst r.val) r.heap)
        | none=>match Ti P rsp (Do fr) h o with
          | some rr=>if (fr.all (SR.clear rr.ns rr.na)).and (Mh rr.ns rr.na ks) then Jp rr.need (.any rr.ns rr.na rr.facts (Fc P specs rsp tab n fc (.ops rest all) ks (Er fr o.dst rr.val) rr.heap)) else .stop (o::rest) all ks fr h
          | none=>match o.op with
            | .call c=>match jm4 P (Do fr) c with
              | some (f,args)=>match (tab.inl f).and (fr.all (SR.clear h.nv h.na)),P.funcs[f]? with
                | true,some fn=>match fn.body with
                  | some b=>(Fc P specs rsp tab n ⟨fn.results.toList,tab.lt f⟩ (.code b) [] (args++List.replicate (fn.ntmps-args.length) (.v (.one .undef))) h).bindRet P fn.results.toList h.nv h.na ks fun v h'=>Fc P specs rsp tab n fc (.ops rest all) ks (Er fr o.dst v) h'
                  | none=>.stop (o::rest) all ks fr h
                | _,_=>.stop (o::rest) all ks fr h
              | none=>.stop (o::rest) all ks fr h
            | _=>.stop (o::rest) all ks fr h
      | .no=>Fc P specs rsp tab n fc (.ops rest all) ks (Er fr o.dst (.v (.one .undef))) h
      | .ask s t=>.cond t (Fc P specs rsp tab n fc (.ops (o::rest) all) ks (Fi fr s true) h) (Fc P specs rsp tab n fc (.ops (o::rest) all) ks (Fi fr s false) h)
      | .lost=>.fail "guard"
  | n+1,fc,.draw rest all es h0,ks,fr,h=>
    match rest with
    | []=>if Rh P specs h0 es then Fc P specs rsp tab n fc .pop ks fr h
      else if (js1 P specs h0.nv h0 es fr).and (Mh h0.nv h0.na ks) then .any h0.nv h0.na [] (Fc P specs rsp tab n fc .pop ks fr h) else .fail "order"
    | o::rest=>
      match jiu all fr o with
      | .yes=>match Gx P specs (Do fr) h o with
        | some r=>Jp r.need (Fc P specs rsp tab n fc (.draw rest all (es++ [⟨o,true,fr,h,r⟩]) h0) ks (Er fr o.dst r.val) r.heap)
        | none=>match Ti P rsp (Do fr) h o with
          | some rr=>match Wp P specs all rest (es++ [⟨o,true,fr,h,⟨rr.need,rr.val,rr.heap⟩⟩]) (Er fr o.dst rr.val) rr.heap with
            | some (es',fr',h')=>
              if (Rh P specs h0 es').and ((Eb ⟨o,true,fr,h,⟨rr.need,rr.val,rr.heap⟩⟩).and ((jho es.length es').and ((Wf rr.ns rr.na es).and ((fr.all (SR.clear rr.ns rr.na)).and ((rr.need.all (T.clear rr.ns)).and (Mh rr.ns rr.na ks)))))) then
                Jp rr.need (.any rr.ns rr.na rr.facts (Fc P specs rsp tab n fc .pop ks fr' h'))
              else match rest with
                | [oa,oz]=>match jzu P specs rsp oa oz es o fr h rr with
                  | some s=>if (s.ok oa oz o es fr h rr P specs).and (Mh rr.ns rr.na ks) then
                      Jp (rr.need++s.r2.need) (.any rr.ns rr.na rr.facts (Fc P specs rsp tab n fc .pop ks (Er (Er fr o.dst rr.val) oa.dst s.ra.val) s.rz.heap))
                    else .fail "order2"
                  | none=>.fail "order2"
                | _=>.fail "order2"
            | none=>.fail o.pos
          | none=>.fail o.pos
      | .no=>Fc P specs rsp tab n fc (.draw rest all (es++ [⟨o,false,fr,h,⟨[],.v (.one .undef),h⟩⟩]) h0) ks (Er fr o.dst (.v (.one .undef))) h
      | .ask s t=>.cond t (Fc P specs rsp tab n fc (.draw (o::rest) all es h0) ks (Fi fr s true) h) (Fc P specs rsp tab n fc (.draw (o::rest) all es h0) ks (Fi fr s false) h)
      | .lost=>.fail "guard"
def Jg.flat(P:Program)(rs:List ResultVar):Jg→Option Sb
  | .need c k=>match k.flat P rs with
    | some r=>some ⟨c++r.need,r.val,r.heap⟩
    | none=>none
  | .ret v h=>some ⟨[],v,h⟩
  | .fall fr h=>(jog P (Do fr) h rs).map fun v=>⟨[],v,h⟩
  | .cond c a b=>match a.flat P rs,b.flat P rs with
    | none,some r=>some ⟨.not c::r.need,r.val,r.heap⟩
    | some r,none=>some ⟨c::r.need,r.val,r.heap⟩
    | _,_=>none
  | _=>none
def jse(P:Program)(specs:Nat→Option Ec)(fuel:Nat)(f:Nat):Option Ec:=
  match P.funcs[f]? with
  | some fn=>match fn.body with
    | some c=>some fun args h=>(Fc P specs (fun _=>none) ⟨fun _ _=>none,fun _=>false⟩ fuel ⟨fn.results.toList,fun _=>none⟩ (.code c) [] (args++List.replicate (fn.ntmps-args.length) (.v (.one .undef))) h).flat P fn.results.toList
    | none=>none
  | none=>none
def jeh(P:Program)(ok:Nat→Bool)(base:Nat→Option Ec)(fuel:Nat):Nat→Nat→Option Ec
  | 0,f=>base f
  | n+1,f=>match base f with
    | some s=>some s
    | none=>if ok f then jse P (jeh P ok base fuel n) fuel f else none
end
end Go.Proofs.YtljjbikbfeigdaaGreatDoor
