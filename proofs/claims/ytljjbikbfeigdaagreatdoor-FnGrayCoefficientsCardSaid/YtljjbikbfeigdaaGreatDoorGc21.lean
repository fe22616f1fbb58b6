/- Part of the proof of FnGrayCoefficientsCardSaid: Contracts of the specification's reader: a scan of a gray image. -/
import Derived.Test.YtljjbikbfeigdaaGreatDoorGc20
set_option linter.all false
namespace Go.Proofs.YtljjbikbfeigdaaGreatDoor
noncomputable section
open Go
/-- a scan whose tables and whose prediction, of component i, are told -/
def scanB (q i : Nat) (a u p : T) : List Seg :=
  [.cells ([.val 50] ++ (List.range 3).map (fun k => if k = i then .ptr (.old 4) (tabOff (2 * q)) (.lit 0) else .val (51 + k)) ++ (List.range 3).map (fun k => if k = i then .ptr (.old 4) (tabOff (2 * q + 1)) (.lit 0) else .val (54 + k)) ++ [.val 57, .val 58, .val 59, cI z0, dataL, cI a, cI u, .bool .ff] ++ (List.range 3).map (fun k => if k = i then cI p else .val (61 + k)) ++ [.val 64])]
def bSB (q i : Nat) (a u p : T) : Ref × Blk := (.old 1, ⟨118, scanB q i a u p⟩)
def c53 (q i : Nat) : Ctr where
  args := [sPtr, .v (.one (.bool .ff)), .v (.one (cI (.lit i))), blP]
  hp := { rw := [bSB q i (.iv 0) (.iv 1) (.iv 3), bD, bDec [2 * q, 2 * q + 1], bSy (2 * q), bSy (2 * q + 1), bBl (.av 7)], nv := 1000 }
  pre := preR (.iv 0) (.iv 1) ++ preB ++ inR (.lit (-1024)) (.iv 3) (.lit 1023) ++ [fbD (420 + q) (.iv 0) (.iv 1) (.iv 3) z0]
  val := .tup []
  hp' := { rw := [bSB q i (fDB (420 + q) (.iv 5) (.iv 0) (.iv 1) (.iv 3) (.av 7)) (fDB (422 + q) (.iv 5) (.iv 0) (.iv 1) (.iv 3) (.av 7)) (.add (.iv 3) (fD (270 + q) (.iv 0) (.iv 1) z0 z0)), bD, bDec [2 * q, 2 * q + 1], bSy (2 * q), bSy (2 * q + 1), bBl (faDB (424 + q) (.iv 5) (.iv 0) (.iv 1) (.iv 3) (.av 7))] }
  post := []
  quiet := true
def spB (q i : Nat) : Nat → Option Spec := fun f => match f with
  | 74 => some (applyF (c74 q i))
  | 75 => some (applyF (c75 (2 * q + 1)))
  | _ => none
def zComp : List Leaf := List.replicate 67 (.int .i64 (.lit 0)) ++ [.nils]
/-- the decoder of a gray image behind its tables: wide (iv 21), high (iv 22), the quantization (av 30) -/
def decG (comps hd sc : T) (miss : T) : List Seg :=
  [.cells [cI (.lit 192), cI (.iv 21), cI (.iv 22), .sl (.old 5) 0 (.lit 0) (.lit 1) (.iv 50), .bool .ff, cI hd, cI (.lit 192), .sl (.old 6) 0 (.lit 0) (.lit 1) (.iv 51)], .arr .i64 (.av 30) 256] ++ tabsS [0, 1] ++ [.cells [cI (.lit 0), cI sc], .arr .i64 miss 192]
def bDecG (hd sc miss : T) : Ref × Blk := (.old 4, ⟨73, decG z0 hd sc miss⟩)
/-- the component, its blocks iv 20 -/
def bComp (q : T) : Ref × Blk := (.old 5, ⟨30, [.cells [cI (.lit 1), cI (.lit 1), cI (.lit 1)], .arr .i64 q 64, .cells [.sl (.old 7) 0 (.lit 0) (.iv 20) (.iv 20)], .tail zComp (.sub (.iv 50) (.lit 1))]⟩)
def bDest : Ref × Blk := (.old 6, ⟨3, [.cells [cI (.lit 0)], .tail [.int .i64 (.lit 0)] (.sub (.iv 51) (.lit 1))]⟩)
def missT (k : T) : T := fA 410 k z0 z0 z0 (.alit [])
def miss0 : T := missT z0
def miss1 : T := missT (.lit 64)
def preG1 : List T := inR (.lit 1) (.iv 21) (.lit 65535) ++ inR (.lit 1) (.iv 22) (.lit 65535) ++ [.le (.mul (.iv 21) (.iv 22)) (.lit 65536), .eq (.iv 20) (.mul (.tdiv (.add (.iv 21) (.lit 7)) (.lit 8)) (.tdiv (.add (.iv 22) (.lit 7)) (.lit 8)))]
def c51 : Ctr where
  args := [p0 (.old 4), slR (.ro 0) (.lit 0) (.lit 6) (.iv 10)]
  hp := { rw := [bDecG z0 z0 miss0, bComp (.rep (.lit 64) z0), bDest], ro := [(.ro 0, .u8, .alit [1, 1, 0, 0, 63, 0])], nv := 1000 }
  pre := [.le (.lit 6) (.iv 10), .le (.lit 1) (.get (.av 30) z0)]
  val := .tup [.one (.ptr (.own 101) 0 (.lit 0)), .one (.bool .tt)]
  hp' := { rw := [bDecG z0 z0 miss1, bComp (.cut (.av 30) z0 (.lit 64)), bDest,
      (.own 101, ⟨118, [.cells [.sl (.own 102) 0 (.lit 0) (.lit 1) (.iv 102), .ptr (.old 4) (tabOff 0) (.lit 0), .nilp, .nilp, .ptr (.old 4) (tabOff 1) (.lit 0), .nilp, .nilp, cI z0, cI (.lit 63), cI z0, cI z0, .nils, cI z0, cI z0, .bool .ff, cI z0, cI z0, cI z0, cI z0]]⟩),
      (.own 102, ⟨3, [.cells [cI z0], .tail [.int .i64 (.lit 0)] (.sub (.iv 102) (.lit 1))]⟩)], ro := [(.ro 0, .u8, .alit [1, 1, 0, 0, 63, 0])] }
  post := []
  quiet := false
def c35 : Ctr where
  args := [p0 (.old 4), .v (.one (.sl (.old 2) 0 (.lit 365) (.lit 6) (.iv 10))), .v (.one dataL), .v (.one (cI (.iv 0)))]
  hp := { rw := [bDecG z0 z0 miss0, bComp (.rep (.lit 64) z0), bDest, bBl (.av 7), bD, bSy 0, bSy 1], nv := 1000 }
  pre := preD ++ [.le (.lit 0) (.iv 0), .le (.lit 371) (.iv 6), .le (.lit 6) (.iv 10), .aeq (.cut (.av 1) (.lit 365) (.lit 6)) (.alit [1, 1, 0, 0, 63, 0])] ++ preG1 ++ [.eq (.len (.av 7)) (.mul (.lit 64) (.iv 20)), .le (.lit 1) (.get (.av 30) z0),
    .fb 400 (.iv 20) z0 (.iv 0) z0 (.av 1) (.av 7) (one z0) (.alit [])]
  val := .tup [.one (cI (.fi 403 (.iv 20) (.iv 0) z0 z0 (.av 1) (.av 7) (.alit []) (.alit []))), .one (.bool .tt)]
  hp' := { rw := [bDecG (.iv 0) (.lit 1) miss1, bComp (.cut (.av 30) z0 (.lit 64)), bDest, bBl (.fa 403 (.iv 20) (.iv 0) z0 z0 (.av 1) (.av 7) (.alit []) (.alit [])), bD, bSy 0, bSy 1] }
  post := []
  quiet := false
def ann73 : List SR → Hp → Option Ann := mkAnn fun b _ _ => {
  lo := 139, hi := 168
  tr := [(8, .v (.one (cI (.iv b))))]
  rw := [(.old 4, decG z0 z0 z0 (.av b))]
  facts := inR (.lit 0) (.iv b) (.lit 64) ++ [.eq (.len (.av b)) (.lit 192), .aeq (.av b) (missT (.iv b))]
  meas := .sub (.lit 64) (.iv b)
  quiet := true }
def junks (b lo n : Nat) : List (Nat × SR) := (List.range' lo n).map fun k => (k, .v (.one (.junk (b + 100 + k))))
/-- the first cells of a block -/
def cellsAt (h : Hp) (r : Ref) (n : Nat) : List Leaf := match findB h.rw r with
  | some b => match b.segs with
    | .cells l :: _ => l.take n
    | _ => []
  | none => []
def fbS (n m a u : T) (bl p : T) : T := .fb 400 n m a u (.av 1) bl (one p) (.alit [])
def faS (n m a u : T) (bl p : T) : T := .fa 400 n m a u (.av 1) bl (one p) (.alit [])
def slotRef (fr : List SR) (k : Nat) : Ref := match getSR fr k with
  | .v (.one (.ptr r _ _)) => r
  | _ => .new 0
def ann35 : List SR → Hp → Option Ann := mkAnn fun b fr h => {
  lo := 85, hi := 193
  tr := (84, .v (.one (cI (.iv b)))) :: junks b 15 9
  rw := [(slotRef fr 10, [.cells (cellsAt h (slotRef fr 10) 11 ++ [dataL, cI (.iv (b + 1)), cI (.iv (b + 2)), .bool .ff, cI (.iv (b + 3)), cI z0, cI z0, cI z0])]), (.old 7, [.arrD .i64 (.av b)])]
  facts := inR (.lit 0) (.iv b) (.iv 20) ++ [.le (.lit 0) (.iv (b + 1))] ++ inR (.lit 0) (.iv (b + 2)) (.lit 7) ++ inR (.lit (-1024)) (.iv (b + 3)) (.lit 1023) ++ [.eq (.len (.av b)) (.mul (.lit 64) (.iv 20)),
    fbS (.sub (.iv 20) (.iv b)) (.iv b) (.iv (b + 1)) (.iv (b + 2)) (.av b) (.iv (b + 3)), .aeq (faS (.sub (.iv 20) (.iv b)) (.iv b) (.iv (b + 1)) (.iv (b + 2)) (.av b) (.iv (b + 3))) (faS (.iv 20) z0 (.iv 0) z0 (.av 7) z0)]
  meas := .sub (.iv 20) (.iv b)
  quiet := false }
def ltK8 : Nat → Nat → Option (List SR → Hp → Option Ann) := fun f k => match f, k with
  | 73, 17 => some ann73
  | 35, 13 => some ann35
  | _, _ => none
def inlK8 : Nat → Bool := fun f => !(f == 51)
def inlAll : Nat → Bool := fun _ => true
def spJ : Nat → Option Spec := fun f => match f with
  | 53 => some (applyF (c53 0 0))
  | 54 => some (applyF c54)
  | _ => none
def rspJ : Nat → Option RSpec := fun f => match f with
  | 51 => some (applyR c51)
  | _ => none
def spJ' (P : Program) : Nat → Option Spec := deep P (fun f => f == 37) spJ 1000 2
end
end Go.Proofs.YtljjbikbfeigdaaGreatDoor
namespace Go.Proofs.YtljjbikbfeigdaaGreatDoor
noncomputable section
open Go
def dArg : SR := .v (.one dataL)
def gD (k : T) : T := .get (.av 1) k
/-- a marker m at a place -/
def c31 (a : T) (m : Int) : Ctr where
  args := [dArg, .v (.one (cI a))]
  hp := { rw := [bD], nv := 1000 }
  pre := preD ++ [.le (.lit 0) a, .lt (.add a (.lit 1)) (.iv 6), .eq (gD a) (.lit 255), .eq (gD (.add a (.lit 1))) (.lit m)]
  val := .tup [.one (cI (.lit m)), .one (cI (match a with | .lit n => .lit (n + 2) | a => .add a (.lit 2)))]
  hp' := { rw := [bD] }
  post := []
  quiet := true
def ann31 (a : T) : List SR → Hp → Option Ann := mkAnn fun b _ _ => {
  lo := 6, hi := 31
  tr := [(1, .v (.one (cI (.iv b))))]
  facts := inR a (.iv b) (.add a (.lit 1))
  meas := .sub (.add a (.lit 2)) (.iv b)
  quiet := true }
/-- a segment of n bytes at place a -/
def c33 (a n : Nat) : Ctr where
  args := [dArg, .v (.one (cI (.lit a)))]
  hp := { rw := [bD], nv := 1000 }
  pre := preD ++ [.le (.lit (a + n : Nat)) (.iv 6), .eq (gD (.lit a)) (.lit (n / 256 : Nat)), .eq (gD (.lit (a + 1 : Nat))) (.lit (n % 256 : Nat))]
  val := .tup [.one (.sl (.old 2) 0 (.lit (a + 2 : Nat)) (.lit (n - 2 : Nat)) (.sub (.iv 7) (.lit (a + 2 : Nat)))), .one (cI (.lit (a + n : Nat))), .one (.bool .tt)]
  hp' := { rw := [bD] }
  post := []
  quiet := true
/-- the decoder: its cells, its quantization, its tables, what was sent -/
def decT (cs : List Leaf) (q : T) (tabs : List Seg) (sc miss : T) : Ref × Blk := (.old 4, ⟨73, .cells cs :: .arr .i64 q 256 :: (tabs ++ [.cells [cI z0, cI sc], .arr .i64 miss 192])⟩)
def cs0 : List Leaf := [cI z0, cI z0, cI z0, .nils, .bool .ff, cI z0, cI z0, .nils]
def qf (j : Nat) (k q : T) : T := .fa 411 (.lit j) k z0 z0 q (.av 2) (.alit []) (.alit [])
def c48 : Ctr where
  args := [p0 (.old 4), slR (.ro 0) (.lit 0) (.lit 130) (.iv 10)]
  hp := { rw := [decT cs0 (.av 30) (tabsS []) z0 (.av 31)], ro := [(.ro 0, .u8, .av 2)], nv := 1000 }
  pre := [.le (.lit 130) (.iv 10), .eq (.len (.av 2)) (.lit 130), .eq (.len (.av 30)) (.lit 256), allT 0 255 (.av 2), .eq (.get (.av 2) z0) z0, .eq (.get (.av 2) (.lit 65)) (.lit 1), allT 1 255 (.cut (.av 2) (.lit 1) (.lit 64)), allT 1 255 (.cut (.av 2) (.lit 66) (.lit 64))]
  val := .v (.one (.bool .tt))
  hp' := { rw := [decT cs0 (qf 1 (.lit 64) (qf 0 (.lit 64) (.av 30))) (tabsS []) z0 (.av 31)], ro := [(.ro 0, .u8, .av 2)] }
  post := []
  quiet := true
/-- is the slice in slot 1 the second half? -/
def half (fr : List SR) : Nat := match getSR fr 1 with
  | .v (.one (.sl _ s d _ _)) => if Nat.beq s 0 && d.isZ then 0 else 1
  | _ => 0
def ann48 : List SR → Hp → Option Ann := mkAnn fun b fr _ => {
  lo := 28, hi := 52
  tr := [(27, .v (.one (cI (.iv b)))), (5, .v (.one (.junk (b + 105))))]
  rw := [(.old 4, .cells cs0 :: .arr .i64 (.av b) 256 :: (tabsS [] ++ [.cells [cI z0, cI z0], .arr .i64 (.av 31) 192]))]
  facts := inR (.lit 0) (.iv b) (.lit 64) ++ [.eq (.len (.av b)) (.lit 256), .aeq (.av b) (qf (half fr) (.iv b) (match half fr with | 0 => .av 30 | _ => qf 0 (.lit 64) (.av 30)))]
  meas := .sub (.lit 64) (.iv b)
  quiet := true }
/-- tables that are told, in new blocks -/
def tabO (h : Nat) : List Seg := [.arr .i64 (cA (300 + h)) 17, .cells [.sl (.own (130 + h)) 0 (.lit 0) (.lit (tabLen h)) (.iv (130 + h))]]
def tabsO (hs : List Nat) : List Seg := (List.range 8).flatMap fun k => match hs.find? (fun h => Nat.beq (tabNo h) k) with
  | some h => tabO h
  | none => [.arr .i64 (.av (40 + k)) 17, .cells [.val (70 + k)]]
def bSyO (h : Nat) : Ref × Blk := (.own (130 + h), ⟨3, [.arrD .i64 (cA (310 + h)), .tail [.int .i64 (.lit 0)] (.iv (134 + h))]⟩)
def c49 : Ctr where
  args := [p0 (.old 4), slR (.ro 0) (.lit 0) (.lit 208) (.iv 10)]
  hp := { rw := [decT ([.val 80, .val 81, .val 82, .val 83, .val 84, .val 85, cI (.lit 192), .val 87]) (.av 30) (tabsS []) z0 (.av 31)], ro := [(.ro 0, .u8, .alit dhtG)], nv := 1000 }
  pre := [.le (.lit 208) (.iv 10)]
  val := .v (.one (.bool .tt))
  hp' := { rw := [decT ([.val 80, .val 81, .val 82, .val 83, .val 84, .val 85, cI (.lit 192), .val 87]) (.av 30) (tabsO [0, 1]) z0 (.av 31), bSyO 0, bSyO 1], ro := [(.ro 0, .u8, .alit dhtG)] }
  post := []
  quiet := false
/-- the last cell made another -/
def setLast (l : Leaf) (g : List Seg) : List Seg := match g.getLast? with
  | some (.cells c) => g.dropLast ++ [.cells (c.dropLast ++ [l])]
  | _ => g
def slotLit (fr : List SR) (k : Nat) : Nat := match getSR fr k with
  | .v (.one (.int _ t)) => match t.view with
    | .lit n => n.toNat
    | _ => 0
  | _ => 0
def segsAt (h : Hp) (r : Ref) : List Seg := match findB h.rw r with
  | some b => b.segs
  | none => []
/-- the symbols of table h, some of them taken in already -/
def ann49 : List SR → Hp → Option Ann := fun fr h =>
  let b := h.nv
  let t := 2 * slotLit fr 6 + slotLit fr 5
  some { fr := annFr b 88 121 ((87, .v (.one (cI (.iv b)))) :: junks b 13 1) 0 fr,
         h := { h with rw := annRw [(slotRef fr 7, setLast (.val b) (segsAt h (slotRef fr 7))), (slotRef fr 11, [.bar (.av (b + 1)) 256])] h.rw, ow := some ⟨b, 3, .i64, .av b⟩, nv := b + 400 },
         facts := inR (.lit 0) (.iv b) (.lit (tabLen t)) ++ [.eq (.len (.av (b + 1))) (.lit 256), .eq (.len (.av b)) (.iv b), .aeq (.av b) (.cut (cA (310 + t)) z0 (.iv b)), .aeq (.av (b + 1)) (fA 413 (.lit t) (.iv b) z0 z0 (.alit []))],
         meas := .sub (.lit (tabLen t)) (.iv b), quiet := false }
/-- slot s said to be t -/
def castTo (s : Nat) (t : T) : List SR → Hp → Option Ann := fun _ _ => some ⟨[], { rw := [], nv := s }, [], t, true⟩
def missLT (k : T) : T := fA 412 k z0 z0 z0 (.alit [])
def g2 (k : Int) : T := .get (.av 2) (.lit k)
def hdW : T := .add (.mul (g2 3) (.lit 256)) (g2 4)
def hdH : T := .add (.mul (g2 1) (.lit 256)) (g2 2)
def c50 : Ctr where
  args := [p0 (.old 4), .v (.one (cI (.lit 192))), slR (.ro 0) (.lit 0) (.lit 9) (.iv 10)]
  hp := { rw := [decT cs0 (.av 30) (tabsS []) z0 (missLT z0)], ro := [(.ro 0, .u8, .av 2)], nv := 1000 }
  pre := [.le (.lit 9) (.iv 10), .eq (.len (.av 2)) (.lit 9), allT 0 255 (.av 2), .eq (g2 0) (.lit 8), .eq (g2 5) (.lit 1), .eq (g2 6) (.lit 1), .eq (g2 7) (.lit 17), .eq (g2 8) z0, .le (.lit 1) hdW, .le (.lit 1) hdH, .le (.mul hdW hdH) (.lit 65536)]
  val := .v (.one (.bool .tt))
  hp' := { rw := [decT [cI (.lit 192), cI hdW, cI hdH, .sl (.own 105) 0 (.lit 0) (.lit 1) (.iv 105), .bool .ff, cI z0, cI (.lit 192), .sl (.own 106) 0 (.lit 0) (.lit 1) (.iv 106)] (.av 30) (tabsS []) z0 miss0,
      (.own 105, ⟨30, [.cells [cI (.lit 1), cI (.lit 1), cI (.lit 1)], .arr .i64 (.rep (.lit 64) z0) 64, .cells [.sl (.own 107) 0 (.lit 0) (.iv 120) (.iv 120)], .tail zComp (.sub (.iv 105) (.lit 1))]⟩),
      (.own 106, ⟨3, [.cells [cI z0], .tail [.int .i64 (.lit 0)] (.sub (.iv 106) (.lit 1))]⟩), (.own 107, ⟨27, [.arrD .i64 (.av 107)]⟩)], ro := [(.ro 0, .u8, .av 2)] }
  post := [.eq (.iv 120) (.fi 436 hdW hdH z0 z0 (.alit []) (.alit []) (.alit []) (.alit [])), .aeq (.av 107) (fA 437 (.iv 120) z0 z0 z0 (.alit []))]
  quiet := false
def ann50 : List SR → Hp → Option Ann := mkAnn fun b _ h => {
  lo := 243, hi := 254
  tr := [(242, .v (.one (cI (.iv b)))), (16, .v (.one (.junk (b + 116))))]
  rw := [(.old 4, (match findB h.rw (.old 4) with | some x => x.segs.dropLast | none => []) ++ [.arr .i64 (.av b) 192])]
  facts := inR (.lit 0) (.iv b) (.lit 64) ++ [.eq (.len (.av b)) (.lit 192), .aeq (.av b) (missLT (.iv b))]
  meas := .sub (.lit 64) (.iv b)
  quiet := true }
def ltK9 (a : T) : Nat → Nat → Option (List SR → Hp → Option Ann) := fun f k => match f, k with
  | 31, 3 => some (ann31 a)
  | 48, 8 => some ann48
  | 50, 34 => some ann50
  | 50, 2000004 => some (castTo 7 (.lit 1))
  | 49, 19 => some ann49
  | 49, 1000026 => some fun _ _ => none
  | _, _ => none
end
end Go.Proofs.YtljjbikbfeigdaaGreatDoor
namespace Go.Proofs.YtljjbikbfeigdaaGreatDoor
noncomputable section
open Go
def c47 : Ctr where
  args := [p0 (.old 7)]
  hp := { rw := [(.old 7, ⟨27, [.arr .i64 (.av 7) 64]⟩)], nv := 1000 }
  pre := [fA441]
  val := .v (.one (.bool .tt))
  hp' := { rw := [(.old 7, ⟨27, [.arr .i64 (.av 7) 64]⟩)] }
  post := []
  quiet := true
where fA441 : T := .fb 441 z0 z0 z0 z0 (.av 7) (.alit []) (.alit []) (.alit [])
def ann47 : List SR → Hp → Option Ann := mkAnn fun b _ _ => {
  lo := 22, hi := 32
  tr := (21, .v (.one (cI (.iv b)))) :: junks b 4 1
  facts := inR (.lit 0) (.iv b) (.lit 63)
  meas := .sub (.lit 63) (.iv b)
  quiet := true }
def ann32m : List SR → Hp → Option Ann := mkAnn fun b _ _ => {
  lo := 46, hi := 67
  tr := (45, .v (.one (cI (.iv b)))) :: junks b 9 1
  facts := inR (.lit 0) (.iv b) (.lit 64)
  meas := .sub (.lit 64) (.iv b)
  quiet := true }
/-- the length that slot s holds -/
def slotT (fr : List SR) (k : Nat) : T := match getSR fr k with
  | .v (.one (.int _ t)) => t
  | _ => z0
def ann32b : List SR → Hp → Option Ann := mkAnn fun b fr _ => {
  lo := 71, hi := 77
  tr := (70, .v (.one (cI (.iv b)))) :: junks b 11 1
  facts := inR (.lit 0) (.iv b) (slotT fr 69)
  meas := .sub (slotT fr 69) (.iv b)
  quiet := false }
def c17 : Ctr where
  args := [dArg]
  hp := { rw := [bD], nv := 1000 }
  pre := preD ++ [fbD 440 z0 z0 z0 z0]
  val := .tup [.one (.ptr (.own 101) 0 (.lit 0)), .one (.bool .tt)]
  hp' := { rw := [bD, (.own 101, ⟨73, [.cells [cI (.lit 192), cI (fD 431 z0 z0 z0 z0), cI (fD 432 z0 z0 z0 z0), .sl (.own 102) 0 (.lit 0) (.lit 1) (.iv 102), .bool .tt, cI (.lit 371)], .junk 101]⟩),
      (.own 102, ⟨30, [.cells [cI (.lit 1), cI (.lit 1), cI (.lit 1)], .arr .i64 (faD 434 z0 z0 z0 z0) 64, .cells [.sl (.own 103) 0 (.lit 0) (.iv 120) (.iv 120)], .tail zComp (.sub (.iv 102) (.lit 1))]⟩), (.own 103, ⟨27, [.arrD .i64 (faD 435 z0 z0 z0 z0)]⟩)] }
  post := [.eq (.iv 120) (fD 433 z0 z0 z0 z0)]
  quiet := false
/-- one of several contracts, by the number that argument 1 plainly is -/
def pickN (l : List (Int × Ctr)) (d : Ctr) : Spec := fun (args : List SR) (h : Hp) => match args[(1 : Nat)]? with
  | some (.v (.one (.int _ t))) => match t.view with
    | .lit m => match l.find? (fun x => x.1 == m) with
      | some x => applyF x.2 args h
      | none => applyF d args h
    | _ => applyF d args h
  | _ => applyF d args h
def spR : Nat → Option Spec := fun f => match f with
  | 31 => some (pickN [(2, c31 (.lit 2) 219), (136, c31 (.lit 136) 192), (149, c31 (.lit 149) 196), (361, c31 (.lit 361) 218)] (c31 (.iv 0) 217))
  | 33 => some (pickN [(4, c33 4 132), (138, c33 138 11), (151, c33 151 210), (363, c33 363 8)] (c33 4 132))
  | 47 => some (applyF c47)
  | 48 => some (applyF c48)
  | _ => none
def rspR : Nat → Option RSpec := fun f => match f with
  | 49 => some (applyR c49)
  | 50 => some (applyR c50)
  | 35 => some (applyR c35)
  | _ => none
def ltK10 : Nat → Nat → Option (List SR → Hp → Option Ann) := fun f k => match f, k with
  | 47, 4 => some ann47
  | 32, 11 => some ann32m
  | 32, 16 => some ann32b
  | _, _ => none
def inlK10 : Nat → Bool := fun f => f == 34 || f == 32
end
end Go.Proofs.YtljjbikbfeigdaaGreatDoor
