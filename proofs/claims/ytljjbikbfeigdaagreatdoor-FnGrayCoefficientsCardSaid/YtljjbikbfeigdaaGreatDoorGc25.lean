/- Part of the proof of FnGrayCoefficientsCardSaid: Contracts of the encoder: a scan of a gray image. -/
import Derived.Test.YtljjbikbfeigdaaGreatDoorGc24
set_option linter.all false
namespace Go.Proofs.YtljjbikbfeigdaaGreatDoor
noncomputable section
open Go
def wh : T := two (.iv 21) (.iv 22)
def sosT (x y p s : T) : T := .fa 501 x y p z0 s (.av 3) (.av 5) wh
def imgI : SR := .v (.one (.iface 52 (pL0 (.old 21))))
def roE : List (Ref × IntKind × T) := [(.glob 5, .u8, cA 44), (.glob 4, .i64, cA 45)]
def sosMost : Int := 100000000000
def c67 : Ctr where
  args := [p0 (.old 0), imgI]
  hp := { rw := hE 0 (.iv 0) (.av 1) (.iv 1) (.iv 2) (.av 2) (.av 3) ++ imgB, ro := roE, nv := 1000, ow := owW 0 (.av 0) }
  pre := preE sosMost ++ preG ++ [.eq (.len (.av 3)) (.lit 128), allT 1 255 (.av 3)]
  val := .tup []
  hp' := { rw := hE 100 (.iv 100) (.av 101) (.iv 101) (.iv 102) (.av 2) (.av 3) ++ imgB, ro := roE, ow := owW 100 (.av 100) }
  post := postE sosMost (.fa 500 z0 z0 z0 z0 s0 (.av 3) (.av 5) wh)
  quiet := false
def ann67o : List SR → Hp → Option Ann := mkAnn fun b fr _ => {
  lo := 128, hi := 154
  tr := [(12, .v (.one (cI (.iv (b + 3))))), (7, .v (.one (.int .i32 (.iv (b + 4)))))] ++ junks b 13 2
  rw := rwE b ++ [(slotRef fr 4, [.arr .i32 (.av (b + 2)) 64])]
  ow := some (.av b)
  facts := okB b ++ [.le (.lit 0) (.iv (b + 3)), .le (.iv (b + 3)) (.add (.iv 22) (.lit 7))] ++ inR (.lit (-1024)) (.iv (b + 4)) (.lit 1023) ++ [.eq (.len (.av (b + 2))) (.lit 64),
    .le (.add (.len (.av b)) (.iv (b + 2))) (.add (.add (.len (.av 0)) (.iv 0)) (.add (.lit 10) (.mul (.lit 1180800) (.iv (b + 3))))),
    .aeq (sosT z0 (.iv (b + 3)) (.iv (b + 4)) (stB b)) (.fa 500 z0 z0 z0 z0 s0 (.av 3) (.av 5) wh)]
  meas := .sub (.add (.iv 22) (.lit 8)) (.iv (b + 3))
  quiet := false }
def ann67i : List SR → Hp → Option Ann := mkAnn fun b fr _ => {
  lo := 138, hi := 154
  tr := [(13, .v (.one (cI (.iv (b + 3))))), (7, .v (.one (.int .i32 (.iv (b + 4)))))] ++ junks b 14 1
  rw := rwE b ++ [(slotRef fr 4, [.arr .i32 (.av (b + 2)) 64])]
  ow := some (.av b)
  facts := okB b ++ [.le (.lit 0) (.iv (b + 3)), .le (.iv (b + 3)) (.add (.iv 21) (.lit 7))] ++ inR (.lit (-1024)) (.iv (b + 4)) (.lit 1023) ++ [.eq (.len (.av (b + 2))) (.lit 64),
    .le (.add (.len (.av b)) (.iv (b + 2))) (.add (.add (.len (.av 0)) (.iv 0)) (.add (.lit 10) (.add (.mul (.lit 1180800) (slotT fr 12)) (.mul (.lit 144) (.iv (b + 3)))))),
    .aeq (sosT (.iv (b + 3)) (slotT fr 12) (.iv (b + 4)) (stB b)) (.fa 500 z0 z0 z0 z0 s0 (.av 3) (.av 5) wh)]
  meas := .sub (.add (.iv 21) (.lit 8)) (.iv (b + 3))
  quiet := false }
def ltK11 : Nat → Nat → Option (List SR → Hp → Option Ann) := fun f k => match f, k with
  | 67, 37 => some ann67o
  | 67, 40 => some ann67i
  | _, _ => none
def rspS : Nat → Option RSpec := fun f => match f with
  | 154 => some (applyR c154)
  | 88 => some (applyR c88)
  | 89 => some (applyR (c89 0))
  | 94 => some (applyR c94)
  | _ => none
end
end Go.Proofs.YtljjbikbfeigdaaGreatDoor
namespace Go.Proofs.YtljjbikbfeigdaaGreatDoor
noncomputable section
open Go
def lutLen (h : Nat) : Nat := if h % 2 = 0 then 12 else 251
def lutV (h : Nat) (l : Leaf) : List Leaf := (List.range 4).map fun k => if k = h then l else .val k
def c81 (h : Nat) : Ctr where
  args := [.v (.one (.ptr (.old 9) h (.lit 0))), .v (.agg [.arr .u8 (.alit ((cnt h).drop 1)) 16, .cells [.sl (.ro 0) 0 (.lit 0) (.lit (tabLen h)) (.iv 1)]])]
  hp := { rw := [(.old 9, ⟨136, [.cells (lutV h (.val 9))]⟩)], ro := [(.ro 0, .u8, .alit (syms h))], nv := 1000 }
  pre := [.le (.lit (tabLen h)) (.iv 1)]
  val := .tup []
  hp' := { rw := [(.old 9, ⟨136, [.cells (lutV h (.sl (.own 110) 0 (.lit 0) (.lit (lutLen h)) (.lit (lutLen h))))]⟩), (.own 110, ⟨131, [.arr .u32 (cA (40 + h)) (lutLen h)]⟩)], ro := [(.ro 0, .u8, .alit (syms h))] }
  post := []
  quiet := false
def fh (f h : Nat) (k : T) : T := .fi f (.lit h) k z0 z0 (.alit []) (.alit []) (.alit []) (.alit [])
def ann81a (h : Nat) : List SR → Hp → Option Ann := mkAnn fun b _ _ => {
  lo := 16, hi := 26
  tr := [(15, .v (.one (cI (.iv b)))), (4, .v (.one (cI (.iv (b + 1)))))] ++ junks b 6 1
  facts := inR (.lit 0) (.iv b) (.lit (tabLen h)) ++ [.eq (.iv (b + 1)) (fh 523 h (.iv b))]
  meas := .sub (.lit (tabLen h)) (.iv b)
  quiet := true }
def slRef (fr : List SR) (k : Nat) : Ref := match getSR fr k with
  | .v (.one (.sl r _ _ _ _)) => r
  | _ => .new 0
def cntT (h : Nat) (i : T) : T := .get (.alit ((cnt h).drop 1)) i
def ann81o (h : Nat) : List SR → Hp → Option Ann := mkAnn fun b fr _ => {
  lo := 31, hi := 65
  tr := [(9, .v (.one (cI (.iv b)))), (7, .v (.one (.int .u32 (.iv (b + 1))))), (8, .v (.one (cI (.iv (b + 2)))))] ++ junks b 10 2
  rw := [(slRef fr 29, [.arr .u32 (.av b) (lutLen h)])]
  facts := inR (.lit 0) (.iv b) (.lit 16) ++ [.eq (.iv (b + 2)) (fh 521 h (.iv b)), .eq (.iv (b + 1)) (fh 522 h (.iv b)), .eq (.len (.av b)) (.lit (lutLen h)), .aeq (.av b) (fA 520 (.lit h) (.iv (b + 2)) z0 z0 (.alit []))]
  meas := .sub (.lit 16) (.iv b)
  quiet := true }
def ann81i (h : Nat) : List SR → Hp → Option Ann := mkAnn fun b fr _ => {
  lo := 39, hi := 65
  tr := [(11, .v (.one (.int .u8 (.iv b)))), (7, .v (.one (.int .u32 (.iv (b + 1))))), (8, .v (.one (cI (.iv (b + 2)))))]
  rw := [(slRef fr 29, [.arr .u32 (.av b) (lutLen h)])]
  facts := inR (.lit 0) (.iv b) (cntT h (slotT fr 9)) ++ [.eq (.iv (b + 2)) (.add (fh 521 h (slotT fr 9)) (.iv b)), .eq (.iv (b + 1)) (.add (fh 522 h (slotT fr 9)) (.iv b)), .eq (.len (.av b)) (.lit (lutLen h)), .aeq (.av b) (fA 520 (.lit h) (.iv (b + 2)) z0 z0 (.alit []))]
  meas := .sub (cntT h (slotT fr 9)) (.iv b)
  quiet := true }
def ltK12 (h : Nat) : Nat → Nat → Option (List SR → Hp → Option Ann) := fun f k => match f, k with
  | 81, 3 => some (ann81a h)
  | 81, 11 => some (ann81o h)
  | 81, 15 => some (ann81i h)
  | 81, 2000008 => some (castTo 4 (.lit (lutLen h - 1 : Nat)))
  | _, _ => none
def rspL : Nat → Option RSpec := fun f => match f with
  | 81 => some (fun args h => match args with
    | .v (.one (.ptr _ s _)) :: _ => if s < 4 then applyR (c81 s) args h else none
    | _ => none)
  | _ => none
end
end Go.Proofs.YtljjbikbfeigdaaGreatDoor
namespace Go.Proofs.YtljjbikbfeigdaaGreatDoor
noncomputable section
open Go
def bOpt : Ref × Blk := (.old 8, ⟨104, [.cells [cI (.iv 30)]]⟩)
def roQ : List (Ref × IntKind × T) := roE ++ [(.glob 2, .u8, cA 46)]
def c45 : Ctr where
  args := [.v (.one (.iface 96 (pL0 (.old 3)))), imgI, p0 (.old 8)]
  hp := { rw := [bW 0, bOpt] ++ imgB, ro := roQ, nv := 1000, ow := owW 0 (.av 0) }
  pre := preG ++ inR (.lit 1) (.iv 30) (.lit 100) ++ [.aeq (.av 0) (.alit [])]
  val := .v (.one .nilI)
  hp' := { rw := [bW 100, bOpt] ++ imgB, ro := roQ, ow := owW 100 (.av 100) }
  post := [.aeq (.av 100) (.fa 510 (.iv 30) (.iv 21) (.iv 22) z0 (.av 5) (.alit []) (.alit []) (.alit [])), .le (.len (.av 100)) lim]
  quiet := false
/-- the encoder's tables made another -/
def setQ (t : T) (g : List Seg) : List Seg := g.take 3 ++ (.arr .u8 t 128 :: (match g.getLast? with | some x => [x] | none => []))
def quT (n : T) : T := .cut (fA 511 (.iv 30) z0 z0 z0 (.alit [])) z0 n
def ann45o : List SR → Hp → Option Ann := mkAnn fun b fr h => {
  lo := 48, hi := 89
  tr := (59, .v (.one (cI (.iv b)))) :: junks b 13 3
  rw := [(slotRef fr 8, setQ (.av b) (segsAt h (slotRef fr 8)))]
  facts := inR (.lit 0) (.iv b) (.lit 2) ++ [.eq (.len (.av b)) (.lit 128), .aeq (.cut (.av b) z0 (.mul (.lit 64) (.iv b))) (quT (.mul (.lit 64) (.iv b)))]
  meas := .sub (.lit 2) (.iv b)
  quiet := true }
def ann45i : List SR → Hp → Option Ann := mkAnn fun b fr h => {
  lo := 63, hi := 88
  tr := (62, .v (.one (cI (.iv b)))) :: junks b 14 2
  rw := [(slotRef fr 8, setQ (.av b) (segsAt h (slotRef fr 8)))]
  facts := inR (.lit 0) (.iv b) (.lit 64) ++ [.eq (.len (.av b)) (.lit 128), .aeq (.cut (.av b) z0 (.add (.mul (.lit 64) (slotT fr 59)) (.iv b))) (quT (.add (.mul (.lit 64) (slotT fr 59)) (.iv b)))]
  meas := .sub (.lit 64) (.iv b)
  quiet := true }
def ltK13 : Nat → Nat → Option (List SR → Hp → Option Ann) := fun f k => match f, k with
  | 45, 22 => some ann45o
  | 45, 25 => some ann45i
  | _, _ => none
def rspT : Nat → Option RSpec := fun f => match f with
  | 153 => some (applyR c153)
  | 154 => some (applyR c154)
  | 155 => some (applyR c155)
  | 67 => some (applyR c67)
  | 81 => rspL 81
  | _ => none
end
end Go.Proofs.YtljjbikbfeigdaaGreatDoor
