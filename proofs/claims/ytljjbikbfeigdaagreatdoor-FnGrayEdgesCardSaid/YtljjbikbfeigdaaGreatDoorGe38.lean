/- Part of the proof of FnGrayEdgesCardSaid: Contracts of the specification: the blocks of a gray image held against its samples. -/
import Derived.Test.YtljjbikbfeigdaaGreatDoorGe37
set_option linter.all false
namespace Go.Proofs.YtljjbikbfeigdaaGreatDoor
noncomputable section
open Go
/-- a frame with one component: wide (iv 21), high (iv 22), its quantization (av 30), its blocks (av 7), so many (iv 23) -/
def frG : List (Ref × Blk) := [(.old 4, ⟨73, [.cells [cI (.lit 192), cI (.iv 21), cI (.iv 22), .sl (.old 5) 0 z0 (.lit 1) (.iv 50), .bool .tt, cI (.lit 371)], .junk 1]⟩),
  (.old 5, ⟨30, [.cells [cI (.lit 1), cI (.lit 1), cI (.lit 1)], .arr .i64 (.av 30) 64, .cells [.sl (.old 7) 0 z0 (.iv 23) (.iv 23)], .tail zComp (.sub (.iv 50) (.lit 1))]⟩), (.old 7, ⟨27, [.arrD .i64 (.av 7)]⟩)]
def up8 (t : T) : T := .tdiv (.add t (.lit 7)) (.lit 8)
def dn8 (t : T) : T := .tdiv t (.lit 8)
def ed8 (e : Bool) (t : T) : T := match e with | true => up8 t | false => dn8 t
def boolT (e : Bool) : T := match e with | true => .tt | false => .ff
def c13 (e : Bool) : Ctr where
  args := [p0 (.old 4), .v (.one (cI z0)), slR (.ro 0) z0 (.iv 20) (.iv 9), .v (.one (cI (.iv 21))), .v (.one (cI (.iv 22))), .v (.one (.bool (boolT e)))]
  hp := { rw := frG, ro := (.ro 0, .u8, .av 5) :: roB, nv := 1000 }
  pre := preG ++ [.le (.iv 20) (.iv 9), .le (.mul (.iv 21) (.iv 22)) (.lit 65536), .eq (.iv 23) (.mul (up8 (.iv 21)) (up8 (.iv 22))), .eq (.len (.av 7)) (.mul (.lit 64) (.iv 23)), .eq (.len (.av 30)) (.lit 64), allT 1 255 (.av 30), allT (-1024) 1023 (.av 7),
    .fb 610 (.iv 21) (.iv 22) (ed8 e (.iv 21)) (ed8 e (.iv 22)) (.av 5) (.av 7) (.av 30) (one (up8 (.iv 21)))]
  val := .v (.one (.bool .tt))
  hp' := { rw := frG, ro := (.ro 0, .u8, .av 5) :: roB }
  post := []
  quiet := false
def ann13o : List SR → Hp → Option Ann := mkAnn fun b fr _ => {
  lo := 53, hi := 109
  tr := (52, .v (.one (cI (.iv b)))) :: junks b 19 6
  facts := inR z0 (.iv b) (slotT fr 51)
  meas := .sub (slotT fr 51) (.iv b)
  quiet := false }
def ann13i : List SR → Hp → Option Ann := mkAnn fun b _ _ => {
  lo := 86, hi := 108
  tr := (85, .v (.one (cI (.iv b)))) :: junks b 23 2
  facts := inR z0 (.iv b) (.lit 64)
  meas := .sub (.lit 64) (.iv b)
  quiet := true }
def ltK18 : Nat → Nat → Option (List SR → Hp → Option Ann) := fun f k => match f, k with
  | 13, 7 => some ann13o
  | 13, 13 => some ann13i
  | _, _ => none
def rspK18 : Nat → Option RSpec := fun f => match f with
  | 21 => some (applyR c21)
  | 22 => some (applyR c22)
  | _ => none
/-- what is carried out where it is called -/
def spK18 (P : Program) : Nat → Option Spec := deep P (fun f => f == 23 || f == 18 || f == 19 || f == 20 || f == 36 || f == 37 || f == 38) noS 1000 5
end
end Go.Proofs.YtljjbikbfeigdaaGreatDoor
