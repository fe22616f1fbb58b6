/- Part of the proof of FnColorStreamCardSaid: Contracts of the specification's reader shown: a scan. -/
import Derived.Test.YtljjbikbfeigdaaGreatDoorCo30
set_option linter.all false
namespace Go.Proofs.YtljjbikbfeigdaaGreatDoor
noncomputable section
open Go
theorem jfm{h:Nat}(hh:h<4){D:List Int}{d:Int}(n:Nat): ∀{k a u:Int} {bl:List Int},(64-k).toNat≤n→0≤a→0≤u→u≤7→Ge (Bl h) (At h) D k a u=true→
    0≤e0 (Ef (Bl h) (At h) D d k a u bl)∧0≤e1 (Ef (Bl h) (At h) D d k a u bl)∧e1 (Ef (Bl h) (At h) D d k a u bl)≤7∧((Ef (Bl h) (At h) D d k a u bl).drop 2).length=bl.length:=by
  induction n with
  | zero=>
    intro k a u bl hn h1 h2 h3 ho
    rw[jbx (by omega)]
    exact ⟨h1,h2,h3,rfl⟩
  | succ n ih=>
    intro k a u bl hn h1 h2 h3 ho
    by_cases hk:k≤63
    · obtain ⟨f1,f2,f3,f4,f5,f6,f7,f8,f9⟩:=jz0 hh h1 h2 h3 hk ho
      by_cases hz:e0 (Bm (Bl h) (At h) D a u) % 16=0
      · rcases f8 hz with hr|⟨hr,q2,q3⟩
        · rw[jeq hk hz hr];exact ⟨f4,f5,f6,rfl⟩
        · rw[jev hk hz (by omega)];exact ih (by omega) f4 f5 f6 q3
      · obtain ⟨m1,m2,m3,m4,m5,m6⟩:=f9 hz
        rw[jf0 hk hz (by omega)]
        have:=ih (bl:=bl.set (d+(k+e0 (Bm (Bl h) (At h) D a u)/16)).toNat (sgn (e0 (Bm (Bl h) (At h) D a u) % 16) (e0 (Ez D (e0 (Bm (Bl h) (At h) D a u) % 16).toNat 0 (e1 (Bm (Bl h) (At h) D a u)) (e2 (Bm (Bl h) (At h) D a u)))))) (by omega) m4 m5 m6 m3
        rw[List.length_set] at this
        exact this
    · rw[jbx hk];exact ⟨h1,h2,h3,rfl⟩
theorem jzh{m X:Int}(h0:0≤m)(hX:1≤X):m.tdiv X*X+m.tmod X=m∧0≤m.tdiv X∧m.tdiv X≤m∧0≤m.tdiv X*X∧0≤m.tmod X∧m.tmod X<X:=by
  rw[Int.tdiv_eq_ediv_of_nonneg h0,Int.tmod_eq_emod_of_nonneg h0]
  have h1:=Int.mul_ediv_add_emod m X
  have h2:=Int.ediv_nonneg h0 (show 0≤X by omega)
  have h3:=Int.emod_nonneg m (show X≠0 by omega)
  have h4:=Int.emod_lt_of_pos m (show 0<X by omega)
  have h5:=Int.mul_nonneg h2 (show 0≤X by omega)
  have h6:=Int.ediv_le_self X h0
  rw[Int.mul_comm X] at h1
  exact ⟨h1,h2,h6,h5,h3,h4⟩
end
end Go.Proofs.YtljjbikbfeigdaaGreatDoor
