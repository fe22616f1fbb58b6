/- Part of the proof of FnGrayEdgesCardSaid: Contracts of the encoder: the forward transform. -/
import Derived.Test.YtljjbikbfeigdaaGreatDoorGe12
set_option linter.all false
namespace Go.Proofs.YtljjbikbfeigdaaGreatDoor
noncomputable section
open Go
/-- a block -/
def bB (k : Nat) (a : T) : Ref × Blk := (.old k, ⟨182, [.arr .i32 a 64]⟩)
def c118 : Ctr where
  args := [p0 (.old 0)]
  hp := { rw := [bB 0 (.av 0)], nv := 1000 }
  pre := [.eq (.len (.av 0)) (.lit 64)]
  val := .tup []
  hp' := { rw := [bB 0 (.av 100)] }
  post := [.eq (.len (.av 100)) (.lit 64), .aeq (.av 100) (fA 50 z0 z0 z0 z0 (.av 0))]
  quiet := false
def c119 : Ctr := { c118 with post := [.eq (.len (.av 100)) (.lit 64), .aeq (.av 100) (fA 51 z0 z0 z0 z0 (.av 0))] }
def c107 : Ctr := { c118 with post := [.eq (.len (.av 100)) (.lit 64), .aeq (.av 100) (fA 52 z0 z0 z0 z0 (.av 0))] }
def annD (f : Nat) (lo cnt hi : Nat) : List SR → Hp → Option Ann := mkAnn fun b _ _ => {
  lo := lo, hi := hi
  tr := [(cnt, .v (.one (.int .i64 (.iv b))))]
  rw := [(.old 0, [.arr .i32 (.av b) 64])]
  facts := inR (.lit 0) (.iv b) (.lit 8) ++ [.eq (.len (.av b)) (.lit 64), .aeq (fA f (.iv b) z0 z0 z0 (.av b)) (fA f z0 z0 z0 z0 (.av 0))]
  meas := .sub (.lit 8) (.iv b)
  quiet := false }
def ltK3 : Nat → Nat → Option (List SR → Hp → Option Ann) := fun f k => match f, k with
  | 118, 1 => some (annD 50 2 11 206)
  | 119, 1 => some (annD 51 2 12 197)
  | _, _ => none
def inlK3 : Nat → Bool := fun f => f == 120 || f == 121
def rspE : Nat → Option RSpec := fun f => match f with
  | 118 => some (applyR c118)
  | 119 => some (applyR c119)
  | _ => none
def c108 : Ctr where
  args := [.v (.one (.int .i32 (.iv 0))), .v (.one (.int .i32 (.iv 1)))]
  hp := { rw := [], nv := 1000 }
  pre := inR (.lit (-536870912)) (.iv 0) (.lit 536870912) ++ inR (.lit 1) (.iv 1) (.lit 536870912)
  val := .v (.one (.int .i32 (fI 60 (.iv 0) (.iv 1) z0 z0 (.alit []))))
  hp' := { rw := [] }
  post := []
  quiet := true
end
end Go.Proofs.YtljjbikbfeigdaaGreatDoor
