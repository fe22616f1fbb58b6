/- Part of the proof of FnColorStreamCardSaid: Contracts of the encoder shown: a whole gray image. -/
import Derived.Test.YtljjbikbfeigdaaGreatDoorCo27
set_option linter.all false
namespace Go.Proofs.YtljjbikbfeigdaaGreatDoor
noncomputable section
open Go
theorem jb1: ∀f s,j0k f=some s→Dw Tryz.prog Z f s:=by
  intro f s h
  unfold j0k at h
  split at h
  · cases h;exact Ce jkm
  · cases h;exact Ce jdu
  · cases h;exact Ce jsg
  · cases h;exact Ce qba
  · unfold j64 at h
    cases h
    intro ρ w0 w h args r hr
    simp only at hr
    split at hr
    · rename_i s _ _
      split at hr
      · rename_i hs
        match s,hs with
        | 0,_=>exact Ce jno ρ w0 w h _ r hr
        | 1,_=>exact Ce jxt ρ w0 w h _ r hr
        | 2,_=>exact Ce jyj ρ w0 w h _ r hr
        | 3,_=>exact Ce j03 ρ w0 w h _ r hr
        | n+4,hn=>exact absurd hn (by omega)
      · cases hr
    · cases hr
  · cases h
end
end Go.Proofs.YtljjbikbfeigdaaGreatDoor
