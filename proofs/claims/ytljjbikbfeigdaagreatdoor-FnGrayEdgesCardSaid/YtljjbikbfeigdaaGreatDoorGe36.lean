/- Part of the proof of FnGrayEdgesCardSaid: Contracts of the specification: the coefficients of a block, held against those that were read. -/
import Derived.Test.YtljjbikbfeigdaaGreatDoorGe35
set_option linter.all false
namespace Go.Proofs.YtljjbikbfeigdaaGreatDoor
noncomputable section
open Go
def roB : List (Ref × IntKind × T) := [(.glob 0, .i64, cA 47), (.glob 1, .i64, cA 45)]
def blkR (t : T) : SR := .v (.agg [.arr .i64 t 64])
def c21 : Ctr where
  args := [slR (.ro 0) z0 (.iv 20) (.iv 9), .v (.one (cI (.iv 21))), .v (.one (cI (.iv 22))), .v (.one (cI (.iv 5))), .v (.one (cI (.iv 6)))]
  hp := { rw := [], ro := [(.ro 0, .u8, .av 5)], nv := 1000 }
  pre := preG ++ [.le (.iv 20) (.iv 9)] ++ inR z0 (.iv 5) (.lit 65535) ++ inR z0 (.iv 6) (.lit 65535)
  val := blkR (padT (.mul (.lit 8) (.iv 5)) (.mul (.lit 8) (.iv 6)))
  hp' := { rw := [], ro := [(.ro 0, .u8, .av 5)] }
  post := []
  quiet := false
def ann21 : List SR → Hp → Option Ann := mkAnn fun b fr _ => {
  lo := 16, hi := 46
  tr := (15, .v (.one (cI (.iv b)))) :: junks b 12 3
  rw := [(slotRef fr 11, [.arr .i64 (.av b) 64])]
  facts := inR z0 (.iv b) (.lit 64) ++ [.eq (.len (.av b)) (.lit 64), .aeq (.cut (.av b) z0 (.iv b)) (.cut (padT (.mul (.lit 8) (.iv 5)) (.mul (.lit 8) (.iv 6))) z0 (.iv b))]
  meas := .sub (.lit 64) (.iv b)
  quiet := true }
/-- half of the exact transform, as far as place n and, there, x summands; the whole; the coefficients in their order, k of them -/
def hfT (n x : T) : T := fA 600 n x z0 z0 (.av 0)
def cfT (n y : T) : T := fA 601 n y z0 z0 (.av 0)
def exT (k : T) : T := fA 602 k z0 z0 z0 (.av 0)
def c22 : Ctr where
  args := [p0 (.old 0)]
  hp := { rw := [(.old 0, ⟨27, [.arr .i64 (.av 0) 64]⟩)], ro := roB, nv := 1000 }
  pre := [.eq (.len (.av 0)) (.lit 64), allT 0 255 (.av 0)]
  val := blkR (fA 603 z0 z0 z0 z0 (.av 0))
  hp' := { rw := [(.old 0, ⟨27, [.arr .i64 (.av 0) 64]⟩)], ro := roB }
  post := []
  quiet := false
def ann22a : List SR → Hp → Option Ann := mkAnn fun b fr _ => {
  lo := 15, hi := 49
  tr := (14, .v (.one (cI (.iv b)))) :: junks b 6 3
  rw := [(slotRef fr 3, [.arr .i64 (hfT (.mul (.lit 8) (.iv b)) z0) 64])]
  facts := inR z0 (.iv b) (.lit 8)
  meas := .sub (.lit 8) (.iv b)
  quiet := true }
def ann22b : List SR → Hp → Option Ann := mkAnn fun b fr _ => {
  lo := 18, hi := 48
  tr := (17, .v (.one (cI (.iv b)))) :: junks b 7 2
  rw := [(slotRef fr 3, [.arr .i64 (hfT (.add (.mul (.lit 8) (slotT fr 6)) (.iv b)) z0) 64])]
  facts := inR z0 (.iv b) (.lit 8)
  meas := .sub (.lit 8) (.iv b)
  quiet := true }
def ann22c : List SR → Hp → Option Ann := mkAnn fun b fr _ => {
  lo := 21, hi := 47
  tr := (20, .v (.one (cI (.iv b)))) :: junks b 8 1
  rw := [(slotRef fr 3, [.arr .i64 (hfT (.add (.mul (.lit 8) (slotT fr 6)) (slotT fr 7)) (.iv b)) 64])]
  facts := inR z0 (.iv b) (.lit 8)
  meas := .sub (.lit 8) (.iv b)
  quiet := true }
def ann22d : List SR → Hp → Option Ann := mkAnn fun b fr _ => {
  lo := 50, hi := 81
  tr := (49, .v (.one (cI (.iv b)))) :: junks b 9 3
  rw := [(slotRef fr 4, [.arr .i64 (cfT (.mul (.lit 8) (.iv b)) z0) 64])]
  facts := inR z0 (.iv b) (.lit 8)
  meas := .sub (.lit 8) (.iv b)
  quiet := true }
def ann22e : List SR → Hp → Option Ann := mkAnn fun b fr _ => {
  lo := 53, hi := 80
  tr := (52, .v (.one (cI (.iv b)))) :: junks b 10 2
  rw := [(slotRef fr 4, [.arr .i64 (cfT (.add (.mul (.lit 8) (slotT fr 9)) (.iv b)) z0) 64])]
  facts := inR z0 (.iv b) (.lit 8)
  meas := .sub (.lit 8) (.iv b)
  quiet := true }
def ann22f : List SR → Hp → Option Ann := mkAnn fun b fr _ => {
  lo := 56, hi := 79
  tr := (55, .v (.one (cI (.iv b)))) :: junks b 11 1
  rw := [(slotRef fr 4, [.arr .i64 (cfT (.add (.mul (.lit 8) (slotT fr 9)) (slotT fr 10)) (.iv b)) 64])]
  facts := inR z0 (.iv b) (.lit 8)
  meas := .sub (.lit 8) (.iv b)
  quiet := true }
def ann22g : List SR → Hp → Option Ann := mkAnn fun b fr _ => {
  lo := 83, hi := 92
  tr := (82, .v (.one (cI (.iv b)))) :: junks b 12 2
  rw := [(slotRef fr 5, [.arr .i64 (exT (.iv b)) 64])]
  facts := inR z0 (.iv b) (.lit 64)
  meas := .sub (.lit 64) (.iv b)
  quiet := true }
def ltK17 : Nat → Nat → Option (List SR → Hp → Option Ann) := fun f k => match f, k with
  | 21, 3 => some ann21
  | 22, 3 => some ann22a
  | 22, 6 => some ann22b
  | 22, 9 => some ann22c
  | 22, 16 => some ann22d
  | 22, 19 => some ann22e
  | 22, 22 => some ann22f
  | 22, 29 => some ann22g
  | _, _ => none
end
end Go.Proofs.YtljjbikbfeigdaaGreatDoor
