/- Part of the proof of FnGrayEdgesCardSaid: The walk of a whole piece of code on symbolic values, as a function, and what its answer asks for. -/
import Derived.Test.YtljjbikbfeigdaaGreatDoorGe02
set_option linter.all false
namespace Go.Proofs.YtljjbikbfeigdaaGreatDoor
noncomputable section
open Go
/-- All names in a term are below a number. -/
noncomputable def T.clearR : T → Nat → Bool := T.rec (motive := fun _ => Nat → Bool)
    (fun _ _ => true)
    (fun _ => true)
    (fun _ => true)
    (fun q0 ns => Nat.ble (q0 + 1) ns)
    (fun q0 ns => Nat.ble (q0 + 1) ns)
    (fun q0 ns => Nat.ble (q0 + 1) ns)
    (fun _ _ h0 h1 ns => ((h0 ns).and (h1 ns)))
    (fun _ _ h0 h1 ns => ((h0 ns).and (h1 ns)))
    (fun _ _ h0 h1 ns => ((h0 ns).and (h1 ns)))
    (fun _ _ h0 ns => (h0 ns))
    (fun _ _ h0 h1 ns => ((h0 ns).and (h1 ns)))
    (fun _ _ h0 h1 ns => ((h0 ns).and (h1 ns)))
    (fun _ _ _ h0 h1 ns => ((h0 ns).and (h1 ns)))
    (fun _ _ _ h0 h1 ns => ((h0 ns).and (h1 ns)))
    (fun _ _ _ _ h0 h1 ns => ((h0 ns).and (h1 ns)))
    (fun _ _ h0 h1 ns => ((h0 ns).and (h1 ns)))
    (fun _ _ h0 h1 ns => ((h0 ns).and (h1 ns)))
    (fun _ _ h0 h1 ns => ((h0 ns).and (h1 ns)))
    (fun _ _ h0 h1 ns => ((h0 ns).and (h1 ns)))
    (fun _ _ h0 h1 ns => ((h0 ns).and (h1 ns)))
    (fun _ _ h0 h1 ns => ((h0 ns).and (h1 ns)))
    (fun _ h0 ns => (h0 ns))
    (fun _ _ h0 h1 ns => ((h0 ns).and (h1 ns)))
    (fun _ _ h0 h1 ns => ((h0 ns).and (h1 ns)))
    (fun _ _ _ h0 h1 h2 ns => ((h0 ns).and ((h1 ns).and (h2 ns))))
    (fun _ _ _ h0 h1 h2 ns => ((h0 ns).and ((h1 ns).and (h2 ns))))
    (fun _ h0 ns => (h0 ns))
    (fun _ _ h0 h1 ns => ((h0 ns).and (h1 ns)))
    (fun _ _ _ h0 h1 h2 ns => ((h0 ns).and ((h1 ns).and (h2 ns))))
    (fun _ _ h0 h1 ns => ((h0 ns).and (h1 ns)))
    (fun _ _ _ h0 h1 h2 ns => ((h0 ns).and ((h1 ns).and (h2 ns))))
    (fun _ _ => true)
    (fun _ _ _ h0 h1 h2 ns => ((h0 ns).and ((h1 ns).and (h2 ns))))
    (fun _ _ h0 h1 ns => ((h0 ns).and (h1 ns)))
    (fun _ _ _ _ _ _ _ _ _ h0 h1 h2 h3 h4 h5 h6 h7 ns => ((h0 ns).and ((h1 ns).and ((h2 ns).and ((h3 ns).and ((h4 ns).and ((h5 ns).and ((h6 ns).and (h7 ns)))))))))
    (fun _ _ _ _ _ _ _ _ _ h0 h1 h2 h3 h4 h5 h6 h7 ns => ((h0 ns).and ((h1 ns).and ((h2 ns).and ((h3 ns).and ((h4 ns).and ((h5 ns).and ((h6 ns).and (h7 ns)))))))))
    (fun _ _ _ _ _ _ _ _ _ h0 h1 h2 h3 h4 h5 h6 h7 ns => ((h0 ns).and ((h1 ns).and ((h2 ns).and ((h3 ns).and ((h4 ns).and ((h5 ns).and ((h6 ns).and (h7 ns)))))))))
noncomputable def T.clear (ns : Nat) (t : T) : Bool := t.clearR ns
def T.clearI (ns : Nat) : T → Bool
  | .lit _ => true
  | .tt => true
  | .ff => true
  | .iv q0 => Nat.ble (q0 + 1) ns
  | .bv q0 => Nat.ble (q0 + 1) ns
  | .av q0 => Nat.ble (q0 + 1) ns
  | .add a0 a1 => ((T.clearI ns a0).and (T.clearI ns a1))
  | .sub a0 a1 => ((T.clearI ns a0).and (T.clearI ns a1))
  | .mul a0 a1 => ((T.clearI ns a0).and (T.clearI ns a1))
  | .wrap _ a0 => (T.clearI ns a0)
  | .tdiv a0 a1 => ((T.clearI ns a0).and (T.clearI ns a1))
  | .tmod a0 a1 => ((T.clearI ns a0).and (T.clearI ns a1))
  | .shl _ a0 a1 => ((T.clearI ns a0).and (T.clearI ns a1))
  | .shr _ a0 a1 => ((T.clearI ns a0).and (T.clearI ns a1))
  | .bits _ _ a0 a1 => ((T.clearI ns a0).and (T.clearI ns a1))
  | .mx a0 a1 => ((T.clearI ns a0).and (T.clearI ns a1))
  | .mn a0 a1 => ((T.clearI ns a0).and (T.clearI ns a1))
  | .eq a0 a1 => ((T.clearI ns a0).and (T.clearI ns a1))
  | .lt a0 a1 => ((T.clearI ns a0).and (T.clearI ns a1))
  | .le a0 a1 => ((T.clearI ns a0).and (T.clearI ns a1))
  | .beq a0 a1 => ((T.clearI ns a0).and (T.clearI ns a1))
  | .not a0 => (T.clearI ns a0)
  | .and a0 a1 => ((T.clearI ns a0).and (T.clearI ns a1))
  | .or a0 a1 => ((T.clearI ns a0).and (T.clearI ns a1))
  | .ite a0 a1 a2 => ((T.clearI ns a0).and ((T.clearI ns a1).and (T.clearI ns a2)))
  | .bite a0 a1 a2 => ((T.clearI ns a0).and ((T.clearI ns a1).and (T.clearI ns a2)))
  | .len a0 => (T.clearI ns a0)
  | .get a0 a1 => ((T.clearI ns a0).and (T.clearI ns a1))
  | .set a0 a1 a2 => ((T.clearI ns a0).and ((T.clearI ns a1).and (T.clearI ns a2)))
  | .rep a0 a1 => ((T.clearI ns a0).and (T.clearI ns a1))
  | .cut a0 a1 a2 => ((T.clearI ns a0).and ((T.clearI ns a1).and (T.clearI ns a2)))
  | .alit _ => true
  | .splice a0 a1 a2 => ((T.clearI ns a0).and ((T.clearI ns a1).and (T.clearI ns a2)))
  | .aeq a0 a1 => ((T.clearI ns a0).and (T.clearI ns a1))
  | .fi _ a0 a1 a2 a3 a4 a5 a6 a7 => ((T.clearI ns a0).and ((T.clearI ns a1).and ((T.clearI ns a2).and ((T.clearI ns a3).and ((T.clearI ns a4).and ((T.clearI ns a5).and ((T.clearI ns a6).and (T.clearI ns a7))))))))
  | .fb _ a0 a1 a2 a3 a4 a5 a6 a7 => ((T.clearI ns a0).and ((T.clearI ns a1).and ((T.clearI ns a2).and ((T.clearI ns a3).and ((T.clearI ns a4).and ((T.clearI ns a5).and ((T.clearI ns a6).and (T.clearI ns a7))))))))
  | .fa _ a0 a1 a2 a3 a4 a5 a6 a7 => ((T.clearI ns a0).and ((T.clearI ns a1).and ((T.clearI ns a2).and ((T.clearI ns a3).and ((T.clearI ns a4).and ((T.clearI ns a5).and ((T.clearI ns a6).and (T.clearI ns a7))))))))
theorem T.clear_eq : @T.clear = @T.clearI := by
  funext ns t
  unfold T.clear
  induction t with
  | lit q0 => rfl
  | tt => rfl
  | ff => rfl
  | iv q0 => rfl
  | bv q0 => rfl
  | av q0 => rfl
  | add a0 a1 h0 h1 => show ((a0.clearR ns).and (a1.clearR ns)) = _; rw [h0, h1]; rfl
  | sub a0 a1 h0 h1 => show ((a0.clearR ns).and (a1.clearR ns)) = _; rw [h0, h1]; rfl
  | mul a0 a1 h0 h1 => show ((a0.clearR ns).and (a1.clearR ns)) = _; rw [h0, h1]; rfl
  | wrap q0 a0 h0 => show (a0.clearR ns) = _; rw [h0]; rfl
  | tdiv a0 a1 h0 h1 => show ((a0.clearR ns).and (a1.clearR ns)) = _; rw [h0, h1]; rfl
  | tmod a0 a1 h0 h1 => show ((a0.clearR ns).and (a1.clearR ns)) = _; rw [h0, h1]; rfl
  | shl q0 a0 a1 h0 h1 => show ((a0.clearR ns).and (a1.clearR ns)) = _; rw [h0, h1]; rfl
  | shr q0 a0 a1 h0 h1 => show ((a0.clearR ns).and (a1.clearR ns)) = _; rw [h0, h1]; rfl
  | bits q0 q1 a0 a1 h0 h1 => show ((a0.clearR ns).and (a1.clearR ns)) = _; rw [h0, h1]; rfl
  | mx a0 a1 h0 h1 => show ((a0.clearR ns).and (a1.clearR ns)) = _; rw [h0, h1]; rfl
  | mn a0 a1 h0 h1 => show ((a0.clearR ns).and (a1.clearR ns)) = _; rw [h0, h1]; rfl
  | eq a0 a1 h0 h1 => show ((a0.clearR ns).and (a1.clearR ns)) = _; rw [h0, h1]; rfl
  | lt a0 a1 h0 h1 => show ((a0.clearR ns).and (a1.clearR ns)) = _; rw [h0, h1]; rfl
  | le a0 a1 h0 h1 => show ((a0.clearR ns).and (a1.clearR ns)) = _; rw [h0, h1]; rfl
  | beq a0 a1 h0 h1 => show ((a0.clearR ns).and (a1.clearR ns)) = _; rw [h0, h1]; rfl
  | not a0 h0 => show (a0.clearR ns) = _; rw [h0]; rfl
  | and a0 a1 h0 h1 => show ((a0.clearR ns).and (a1.clearR ns)) = _; rw [h0, h1]; rfl
  | or a0 a1 h0 h1 => show ((a0.clearR ns).and (a1.clearR ns)) = _; rw [h0, h1]; rfl
  | ite a0 a1 a2 h0 h1 h2 => show ((a0.clearR ns).and ((a1.clearR ns).and (a2.clearR ns))) = _; rw [h0, h1, h2]; rfl
  | bite a0 a1 a2 h0 h1 h2 => show ((a0.clearR ns).and ((a1.clearR ns).and (a2.clearR ns))) = _; rw [h0, h1, h2]; rfl
  | len a0 h0 => show (a0.clearR ns) = _; rw [h0]; rfl
  | get a0 a1 h0 h1 => show ((a0.clearR ns).and (a1.clearR ns)) = _; rw [h0, h1]; rfl
  | set a0 a1 a2 h0 h1 h2 => show ((a0.clearR ns).and ((a1.clearR ns).and (a2.clearR ns))) = _; rw [h0, h1, h2]; rfl
  | rep a0 a1 h0 h1 => show ((a0.clearR ns).and (a1.clearR ns)) = _; rw [h0, h1]; rfl
  | cut a0 a1 a2 h0 h1 h2 => show ((a0.clearR ns).and ((a1.clearR ns).and (a2.clearR ns))) = _; rw [h0, h1, h2]; rfl
  | alit q0 => rfl
  | splice a0 a1 a2 h0 h1 h2 => show ((a0.clearR ns).and ((a1.clearR ns).and (a2.clearR ns))) = _; rw [h0, h1, h2]; rfl
  | aeq a0 a1 h0 h1 => show ((a0.clearR ns).and (a1.clearR ns)) = _; rw [h0, h1]; rfl
  | fi q0 a0 a1 a2 a3 a4 a5 a6 a7 h0 h1 h2 h3 h4 h5 h6 h7 => show ((a0.clearR ns).and ((a1.clearR ns).and ((a2.clearR ns).and ((a3.clearR ns).and ((a4.clearR ns).and ((a5.clearR ns).and ((a6.clearR ns).and (a7.clearR ns)))))))) = _; rw [h0, h1, h2, h3, h4, h5, h6, h7]; rfl
  | fb q0 a0 a1 a2 a3 a4 a5 a6 a7 h0 h1 h2 h3 h4 h5 h6 h7 => show ((a0.clearR ns).and ((a1.clearR ns).and ((a2.clearR ns).and ((a3.clearR ns).and ((a4.clearR ns).and ((a5.clearR ns).and ((a6.clearR ns).and (a7.clearR ns)))))))) = _; rw [h0, h1, h2, h3, h4, h5, h6, h7]; rfl
  | fa q0 a0 a1 a2 a3 a4 a5 a6 a7 h0 h1 h2 h3 h4 h5 h6 h7 => show ((a0.clearR ns).and ((a1.clearR ns).and ((a2.clearR ns).and ((a3.clearR ns).and ((a4.clearR ns).and ((a5.clearR ns).and ((a6.clearR ns).and (a7.clearR ns)))))))) = _; rw [h0, h1, h2, h3, h4, h5, h6, h7]; rfl
def Ref.clear (ns : Nat) (na : Nat) : Ref → Bool
  | .old n => Nat.ble (n + 1) ns
  | .new k => Nat.ble (k + 1) na
  | .glob _ => true
  | .ro n => Nat.ble (n + 1) ns
  | .own n => Nat.ble (n + 1) ns
def Leaf.clear (ns : Nat) (na : Nat) : Leaf → Bool
  | .int _ t => t.clear ns
  | .bool t => t.clear ns
  | .ptr r _ d => (r.clear ns na).and (d.clear ns)
  | .sl r _ d n c => (r.clear ns na).and ((d.clear ns).and ((n.clear ns).and (c.clear ns)))
  | .iface _ x => x.clear ns na
  | .junk n => Nat.ble (n + 1) ns
  | .val n => Nat.ble (n + 1) ns
  | _ => true
def Seg.clear (ns : Nat) (na : Nat) : Seg → Bool
  | .cells l => l.all (Leaf.clear ns na)
  | .arr _ a _ => a.clear ns
  | .arrD _ a => a.clear ns
  | .bar a _ => a.clear ns
  | .junk n => Nat.ble (n + 1) ns
  | .tail z n => (z.all (Leaf.clear ns na)).and (n.clear ns)
def SV.clear (ns : Nat) (na : Nat) : SV → Bool
  | .one l => l.clear ns na
  | .agg g => g.all (Seg.clear ns na)
def SR.clear (ns : Nat) (na : Nat) : SR → Bool
  | .v x => x.clear ns na
  | .tup l => l.all (SV.clear ns na)
  | .ite c x y => (c.clear ns).and ((x.clear ns na).and (y.clear ns na))
/-- What a call gives of which not all is known: the names that are new, what is known of them, and all new blocks' numbers below na stay. -/
structure RRes where
  need : List T
  ns : Nat
  na : Nat
  facts : List T
  val : SR
  heap : Hp
abbrev RSpec := List SR → Hp → Option RRes
/-- What stands in a slice that the call itself made, the memory without it, and what its tail is made of. -/
def baseS (z : Nat) (e : TypeId) (x : Leaf) (h : Hp) : Option (List T × Nat × List Seg × List (Ref × Blk) × Option (List Leaf)) :=
  match x with
  | .nils => some ([], 0, [], h.rw, none)
  | .sl (.own q) 0 (.lit (.ofNat 0)) (.lit (.ofNat n)) (.iv c) =>
    match findB h.rw (.own q) with
    | some b =>
      if b.ty = e then
        match splitSegs b.segs (n * z) with
        | some (p, [.tail z' (.sub (.iv c') (.lit (.ofNat n')))]) => if c' = c ∧ n' = n then some ([.le (.lit n) (.iv c)], n, p, delB h.rw (.own q), some z') else none
        | _ => none
      else none
    | none => none
  | _ => none
def clearRw (ns : Nat) (na : Nat) (rw : List (Ref × Blk)) : Bool := rw.all fun x => (x.1.clear ns na).and (x.2.segs.all (Seg.clear ns na))
def clearRo (ns : Nat) (na : Nat) (ro : List (Ref × IntKind × T)) : Bool := ro.all fun x => (x.1.clear ns na).and (x.2.2.clear ns)
def clearOw (ns : Nat) : Option OW → Bool
  | none => true
  | some o => (Nat.ble (o.v + 1) ns).and (o.a.clear ns)
/-- An append to the slice that grows. -/
def appendG (P : Program) (t u : TypeId) (x y : Leaf) (h : Hp) : Option RRes :=
  match P.underlying t, h.ow, x, y with
  | some (.slice e), some o, .val q, .sl r2 s2 d2 ln2 c2 =>
    if t = u ∧ o.v = q ∧ o.e = e then
      match P.info? e, zeroS P e, readT o.k h (.sl r2 s2 d2 ln2 c2) ln2 with
      | some i, some [.cells [.int k (.lit 0)]], some (c, g) =>
        if k = o.k ∧ i.size = 1 ∧ i.bytes ≤ 8 ∧ clearRw h.nv h.na h.rw = true ∧ clearRo h.nv h.na h.ro = true ∧ o.a.clear h.nv = true ∧ g.clear h.nv = true then
          some ⟨c ++ [.le (.lit 1) ln2, .le (.add (.len o.a) ln2) (.lit 1099511627776)], h.nv, h.na, [], .v (.one (.val h.nv)), { h with ow := some ⟨h.nv, e, o.k, mkApp o.a g⟩, nv := h.nv + 1 }⟩
        else none
      | _, _, _ => none
    else none
  | _, _, _, _ => none
/-- An append to a slice that the call itself made. -/
def appendS (P : Program) (t u : TypeId) (x y : Leaf) (h : Hp) : Option RRes :=
  match P.underlying t with
  | some (.slice e) =>
    if t = u then
      match P.info? e, zeroS P e, y with
      | some i, some zs, .sl r2 s2 d2 ln2 c2 =>
        match flatSegs zs, ln2.view, baseS i.size e x h with
        | some z, .lit (.ofNat m), some (c0, n, p, rw, oz) =>
          match readS h (.sl r2 s2 d2 ln2 c2) (m * i.size) with
          | some (c, g) =>
            if (oz = none ∨ oz = some z) ∧ z.length = i.size ∧ 0 < m ∧ 0 < i.size ∧ (n + m) * (i.bytes + 1) ≤ 1073741824 ∧ g.all Seg.plain = true ∧ clearRw h.nv h.na rw = true ∧ clearRo h.nv h.na h.ro = true ∧ clearOw h.nv h.ow = true ∧ (p ++ g).all (Seg.clear h.nv h.na) = true then
              some ⟨c0 ++ c, h.nv, h.na, [.le (.lit (n + m : Nat)) (.iv h.nv)], .v (.one (.sl (.own h.nv) 0 (.lit 0) (.lit (n + m : Nat)) (.iv h.nv))),
                { h with rw := rw ++ [(.own h.nv, ⟨e, joinCells (p ++ g) ++ [.tail z (.sub (.iv h.nv) (.lit (n + m : Nat)))]⟩)], nv := h.nv + 1 }⟩
            else none
          | none => none
        | _, _, _ => none
      | _, _, _ => none
    else none
  | _ => none
/-- An operation of which not all is known. -/
def rstep (P : Program) (rsp : Nat → Option RSpec) (fr : Nat → SR) (h : Hp) (o : Oper) : Option RRes :=
  match o.op with
  | .call c => match c.callee with
    | .builtin .append => match c.args.toList, c.argTypes.toList with
      | [x, y], [t, u] => match evL fr x, evL fr y with
        | some a, some b => match appendS P t u a b h with
          | some r => some r
          | none => appendG P t u a b h
        | _, _ => none
      | _, _ => none
    | _ => match callS P fr c with
      | some (f, args) => match rsp f with
        | some s => s args h
        | none => none
      | none => none
  | _ => none
/-- What holds at a loop's head: the frame and the memory with letters, what is known of these, and what every round lowers. -/
structure Ann where
  fr : List SR
  h : Hp
  facts : List T
  meas : T
  quiet : Bool
def Ann.na (an : Ann) : Nat := if an.quiet then an.h.na + 1000000000 else an.h.na
/-- What is still to be carried out. -/
inductive KF where
  | code (c : Code) | blk (id : Nat) | again (c : Code)
  | inv (lo : Nat) (an : Ann) (c : Code)
/-- An operation of a region that draws its order, as it was carried out in the order of the text. -/
structure Ent where
  o : Oper
  want : Bool
  fr : List SR
  heap : Hp
  r : Res
inductive Out where
  | need (c : List T) (k : Out)
  | cond (c : T) (a b : Out)
  | any (ns : Nat) (na : Nat) (facts : List T) (k : Out)
  | fail (why : String)
  | done
  | tight (k : Out)
  | ret (v : SR) (h : Hp)
  | fall (fr : List SR) (h : Hp)
  | out (id : Nat) (fr : List SR) (h : Hp)
  | stop (rest : List Oper) (all : List Oper) (ks : List KF) (fr : List SR) (h : Hp)
/-- Is an operation wanted? Or on which slot does that hang, and for which truth value is it wanted? -/
inductive Want where
  | yes | no | ask (slot : Nat) (t : T) | lost
def wantS (all : List Oper) (fr : List SR) (o : Oper) : Want :=
  match o.guard with
  | none => .yes
  | some (j, want) =>
    match (all[j]?).bind (·.dst) with
    | none => .lost
    | some d =>
      if d < fr.length then
        match getSR fr d with
        | .v (.one (.bool .tt)) => if want then .yes else .no
        | .v (.one (.bool .ff)) => if want then .no else .yes
        | .v (.one (.bool t)) => .ask d t
        | .v (.one .undef) => .no
        | _ => .lost
      else .lost
/-- What a function hands back. -/
def resS (P : Program) (fr : Nat → SR) (h : Hp) (rs : List ResultVar) : Option (List SV) :=
  rs.mapM fun
    | .tmp t => match fr t with | .v x => some x | _ => none
    | .cell a t => match fr a with
      | .v (.one (.ptr r s d)) => if (P.underlying t).isSome then
          match loadR P t (.ptr r s d) h with
          | some ([], x) => some x
          | _ => none
        else none
      | _ => none
def retS (P : Program) (fr : Nat → SR) (h : Hp) (rs : List ResultVar) : Option SR :=
  match resS P fr h rs with
  | some [x] => some (.v x)
  | some xs => some (.tup xs)
  | none => none
/-- Masks of what stands ahead of an operation for sure. -/
def bindsAny (e : Edge) : Bool := Region.binds .any e
def maskOf (ms : List Nat) (o : Oper) : Nat :=
  o.after.toList.foldl (fun s e => if bindsAny e then s ||| 2 ^ e.on ||| ms.getD e.on 0 else s) 0
def masks (ops : List Oper) : List Nat := ops.foldl (fun ms o => ms ++ [maskOf ms o]) []
def looks (all : List Oper) (o : Oper) : List Tmp :=
  (o.op.operands.toList.filterMap fun | .tmp t => some t | _ => none) ++ (match o.guard with | some (g, _) => ((all[g]?).bind (·.dst)).toList | none => [])
def backEdges (ops : List Oper) : Bool :=
  ops.zipIdx.all fun (o, i) => o.after.toList.all fun e => !bindsAny e || e.on < i
/-- Every two operations that share a temporary which one of them writes are held in their order. -/
def tmpsOrdered (ops : List Oper) (ms : List Nat) : Bool :=
  ops.zipIdx.all fun (w, i) =>
    match w.dst with
    | none => true
    | some d => ops.zipIdx.all fun (o, j) =>
      i == j || !((looks ops o).contains d || o.dst == some d) || (if i < j then (ms.getD j 0).testBit i else (ms.getD i 0).testBit j)
/-- Operations that may leave another memory. -/
def opEff : Op → Bool
  | .store .. => true
  | .alloc .. => true
  | .box .. => true
  | .makeSlice .. => true
  | .buildSlice .. => true
  | .call .. => true
  | _ => false
def isEff (e : Ent) : Bool := e.want && (opEff e.o.op && !(e.r.heap == e.heap))
/-- The memory behind each effect. -/
def heapsOf (h0 : Hp) (es : List Ent) : List Hp := h0 :: (es.filter isEff).map (·.r.heap)
def sameAt (P : Program) (specs : Nat → Option Spec) (e : Ent) (all : List T) (h : Hp) : Bool :=
  match step P specs (getSR e.fr) h e.o with
  | some r => r.val == e.r.val && r.heap == h && r.need.all (all.contains ·)
  | none => false
/-- What a region's text alone must be. -/
def staticOk (ops : List Oper) : Bool := backEdges ops && tmpsOrdered ops (masks ops)
/-- May the region's order be left open? -/
def okDraw (P : Program) (specs : Nat → Option Spec) (h0 : Hp) (es : List Ent) : Bool :=
  let effs := es.zipIdx.filterMap fun (e, i) => if isEff e then some i else none
  effs.isEmpty ||
  (let ms := masks (es.map (·.o))
   let all := es.flatMap (·.r.need)
   let hs := heapsOf h0 es
   (effs.all fun i => effs.all fun j => !(i < j) || (ms.getD j 0).testBit i) &&
   es.zipIdx.all fun (e, i) =>
    !e.want || isEff e ||
    (let lo := (effs.filter fun j => (ms.getD i 0).testBit j).length
     let hi := (effs.filter fun j => !(ms.getD j 0).testBit i).length
     hs.zipIdx.all fun (h, t) => t < lo || hi < t || sameAt P specs e all h))
/-- What turns no memory gives the same wherever it may stand. -/
def okStill (P : Program) (specs : Nat → Option Spec) (h0 : Hp) (es : List Ent) : Bool :=
  let effs := es.zipIdx.filterMap fun (e, i) => if isEff e then some i else none
  let ms := masks (es.map (·.o))
  let all := es.flatMap (·.r.need)
  let hs := heapsOf h0 es
  es.zipIdx.all fun (e, i) =>
    !e.want || isEff e ||
    (let lo := (effs.filter fun j => (ms.getD i 0).testBit j).length
     let hi := (effs.filter fun j => !(ms.getD j 0).testBit i).length
     hs.zipIdx.all fun (h, t) => t < lo || hi < t || sameAt P specs e all h)
def subs {α : Type} : List α → List (List α)
  | [] => [[]]
  | x :: l => subs l ++ (subs l).map (x :: ·)
def newR (x : Nat × Nat × Blk) : Ref × Blk := (.new x.2.1, x.2.2)
def hLs (H : Hp) (na1 : Nat) (L : List (Nat × Nat × Blk)) : Hp := { H with rw := H.rw ++ L.map newR, na := na1 }
def rekey (k : Nat) : SR → SR
  | .v (.one (.ptr (.new _) s d)) => .v (.one (.ptr (.new k) s d))
  | .v (.one (.sl (.new _) s a b c)) => .v (.one (.sl (.new k) s a b c))
  | x => x
def keyed (ns k : Nat) : SR → Bool
  | .v (.one (.ptr (.new j) _ d)) => (Nat.beq j k).and (d.clear ns)
  | .v (.one (.sl (.new j) _ a b c)) => (Nat.beq j k).and ((a.clear ns).and ((b.clear ns).and (c.clear ns)))
  | _ => false
/-- The frames are those that the values make one after another. -/
def framesOk (cur : List SR) (fin : List SR) : List Ent → Bool
  | [] => cur == fin
  | e :: es => (e.fr == cur).and (framesOk (putSR cur e.o.dst e.r.val) fin es)
def bitM (ms : List Nat) (j i : Nat) : Bool := (ms.getD j 0).testBit i
def effsOf (es : List Ent) : List Nat := es.zipIdx.filterMap fun (e, i) => if isEff e then some i else none
def looseIx (es : List Ent) : List Nat :=
  let effs := effsOf es
  let ms := masks (es.map (·.o))
  effs.filter fun i => effs.any fun j => if i < j then !bitM ms j i else if j < i then !bitM ms i j else false
def looseAls (es : List Ent) (A : List Nat) : List (Nat × Nat × Blk) :=
  A.filterMap fun i => match es[i]? with
    | some e => match e.r.heap.rw.getLast? with
      | some (.new k, b) => some (i, k, b)
      | _ => none
    | none => none
/-- May entry i stand where just the blocks L have been made? -/
def skipL (ms : List Nat) (A : List Nat) (i : Nat) (L : List (Nat × Nat × Blk)) : Bool :=
  (A.any fun a => (bitM ms i a).and (L.any fun x => Nat.beq x.1 a).not).or (L.any fun x => bitM ms x.1 i)
def allocAt (P : Program) (specs : Nat → Option Spec) (ns : Nat) (H : Hp) (na1 : Nat) (all : List T) (e : Ent) (x : Nat × Nat × Blk) (L : List (Nat × Nat × Blk)) : Bool :=
  match step P specs (getSR e.fr) (hLs H na1 L) e.o with
  | some r => (r.val == (if keyed ns x.2.1 e.r.val then rekey na1 e.r.val else e.r.val)).and ((r.heap == { hLs H na1 L with rw := (hLs H na1 L).rw ++ [(.new na1, x.2.2)], na := na1 + 1 }).and (r.need.all (all.contains ·)))
  | none => false
def looseAt (P : Program) (specs : Nat → Option Spec) (ns : Nat) (h0 : Hp) (es : List Ent) (fr0 fin : List SR) (A : List Nat) (p : Nat) (als : List (Nat × Nat × Blk)) (H : Hp) : Bool :=
  let effs := effsOf es
  let ms := masks (es.map (·.o))
  let all := es.flatMap (·.r.need)
  let na1 := H.na + als.length
  (framesOk fr0 fin es).and <| (es.all fun e => e.o.guard.isNone).and <| (fr0.all (SR.clear ns H.na)).and <|
  (decide (als.map (·.1)).Nodup).and <| (decide (als.map (·.2.1)).Nodup).and <|
  (als.all fun x => (Nat.ble H.na x.2.1).and ((Nat.ble (x.2.1 + 1) na1).and ((x.2.2.segs.all (Seg.clear ns H.na)).and (A.contains x.1)))).and <|
  (A.all fun a => als.any fun x => Nat.beq x.1 a).and <|
  (clearRw ns H.na H.rw).and <| (clearRo ns H.na H.ro).and <| (H.ow.isNone).and <|
  (effs.zipIdx.all fun (i, k) => if k < p then A.all (fun a => bitM ms a i) else if k < p + als.length then A.contains i else A.all (fun a => bitM ms i a)).and <|
  (A.all fun a => ((effs.drop p).take als.length).contains a).and <|
  ((heapsOf h0 es)[p]? == some H).and <| ((heapsOf h0 es)[p + als.length]? == some (hLs H na1 als)).and <|
  (effs.all fun i => effs.all fun j => (!decide (i < j)).or ((bitM ms j i).or ((A.contains i).and (A.contains j)))).and <|
  (okStill P specs h0 es).and <|
  (es.zipIdx.all fun (e, i) => (e.r.val.clear ns H.na).or ((als.any fun x => (Nat.beq x.1 i).and (keyed ns x.2.1 e.r.val)).or (A.all fun a => bitM ms i a))).and <|
  (es.zipIdx.all fun (e, i) => (isEff e).or ((subs als).all fun L => (skipL ms A i L).or (sameAt P specs e all (hLs H na1 L)))).and <|
  (als.all fun x => match es[x.1]? with
    | some e => ((keyed ns x.2.1 e.r.val).or (e.r.val.clear ns H.na)).and ((isEff e).and ((subs als).all fun L => ((L.any fun y => Nat.beq y.1 x.1).or (skipL ms A x.1 L)).or (allocAt P specs ns H na1 all e x L)))
    | none => false)
/-- May the region's order be left open, where blocks are made in any order? -/
def looseOk (P : Program) (specs : Nat → Option Spec) (ns : Nat) (h0 : Hp) (es : List Ent) (fin : List SR) : Bool :=
  match es with
  | [] => false
  | e0 :: _ =>
    let A := looseIx es
    let p := ((effsOf es).takeWhile fun i => (A.contains i).not).length
    match (heapsOf h0 es)[p]? with
    | some H => (looseAls es A).isEmpty.not.and ((Nat.ble h0.na H.na).and (looseAt P specs ns h0 es e0.fr fin A p (looseAls es A) H))
    | none => false
/-- Regions that draw their order, throughout a piece of code. -/
def drawsOk : Code → Bool
  | .seq a b => drawsOk a && drawsOk b
  | .cond _ a b => drawsOk a && drawsOk b
  | .block _ b => drawsOk b
  | .loop b => drawsOk b
  | .region _ ops draw => !draw || staticOk ops.toList
  | _ => true
inductive Task where
  | code (c : Code) | pop
  | ops (rest all : List Oper)
  | draw (rest all : List Oper) (es : List Ent) (h0 : Hp)
def unwindS (id : Nat) : List KF → Option (List KF)
  | [] => none
  | .code _ :: ks => unwindS id ks
  | .again _ :: ks => unwindS id ks
  | .inv _ _ _ :: ks => unwindS id ks
  | .blk j :: ks => if id = j then some ks else unwindS id ks
def needOut (c : List T) (k : Out) : Out := match c with | [] => k | c => .need c k
def setTruth (fr : List SR) (slot : Nat) (b : Bool) : List SR := fr.set slot (.v (.one (.bool (ofBool b))))
/-- One value for two, where a truth says which. -/
def mergeLeaf (c : T) (x y : Leaf) : Option Leaf :=
  match x, y with
  | .int k a, .int k' b => if k = k' then some (.int k (mkIte c a b)) else none
  | .bool a, .bool b => some (.bool (mkBite c a b))
  | _, _ => none
def mergeSR (c : T) (x y : SR) : SR :=
  if x = y then x else
  match x, y with
  | .v (.one a), .v (.one b) => match mergeLeaf c a b with
    | some l => .v (.one l)
    | none => .ite c x y
  | _, _ => .ite c x y
def mergeFr (c : T) : List SR → List SR → List SR
  | x :: l, y :: m => mergeSR c x y :: mergeFr c l m
  | _, _ => []
/-- Code that only reckons. -/
def pureCode : Code → Bool
  | .skip => true
  | .seq a b => (pureCode a).and (pureCode b)
  | .cond _ a b => (pureCode a).and (pureCode b)
  | .region _ ops draw => (draw.not).and (ops.toList.all fun o => (opEff o.op).not)
  | _ => false
/-- The frame at the end of a piece of code that falls through, and what is asked for on the way. -/
def Out.split : Out → Option (List T × List SR)
  | .fall f _ => some ([], f)
  | .need c k => match k.split with
    | some (d, f) => some (c ++ d, f)
    | none => none
  | _ => none
def condNeeds (c : T) (l : List T) : List T := l.map fun t => .or c t
/-- A loop's key: the number of the first region in it. -/
def keyOf : Code → Nat
  | .region id _ _ => id
  | .seq a b => match Nat.beq (keyOf a) 1000000 with | true => keyOf b | false => keyOf a
  | .cond _ a _ => keyOf a
  | .block _ b => keyOf b
  | .loop b => keyOf b
  | _ => 1000000
/-- New names, or new blocks, are nothing to the loops that are still open. -/
def ksClear (ns na : Nat) : List KF → Bool
  | [] => true
  | .inv lo an _ :: ks => ((Nat.ble lo ns).and ((Nat.ble an.na na).and (an.meas.clear ns))).and (ksClear ns na ks)
  | _ :: ks => ksClear ns na ks
def Ref.isNew : Ref → Bool
  | .new _ => true
  | .own _ => true
  | _ => false
def Ref.okIn (na : Nat) : Ref → Bool
  | .new k => Nat.ble (k + 1) na
  | _ => true
def Leaf.okIn (na : Nat) : Leaf → Bool
  | .ptr r _ _ => r.okIn na
  | .sl r _ _ _ _ => r.okIn na
  | .iface _ x => x.okIn na
  | _ => true
def Seg.okIn (na : Nat) : Seg → Bool
  | .cells l => l.all (Leaf.okIn na)
  | .tail z _ => z.all (Leaf.okIn na)
  | _ => true
def SV.okIn (na : Nat) : SV → Bool
  | .one l => l.okIn na
  | .agg g => g.all (Seg.okIn na)
def SR.okIn (na : Nat) : SR → Bool
  | .v x => x.okIn na
  | .tup l => l.all (SV.okIn na)
  | .ite .. => false
def rwOk (na : Nat) (l : List (Ref × Blk)) : Bool := l.all fun x => (x.1.okIn na).and (x.2.segs.all (Seg.okIn na))
def roLow (lo : Nat) (l : List (Ref × IntKind × T)) : Bool := l.all fun x => match x.1 with | .ro n => Nat.ble (n + 1) lo | .glob _ => true | _ => false
/-- A template that may be used within the same call. -/
def tmOk (lo : Nat) (t : List SR) (th : Hp) (h : Hp) (rest : List (Ref × Blk)) (quiet : Bool) : Bool :=
  (t.all (SR.okIn th.na)).and ((rwOk th.na th.rw).and ((roLow lo th.ro).and ((rest.all fun x => x.1.isNew).and ((Nat.ble th.na h.na).and (quiet.not.or (Nat.beq th.na h.na))))))
/-- The rest of a region behind an operation of which not all is known: nothing more is asked. -/
def tailRun (P : Program) (specs : Nat → Option Spec) (all : List Oper) : List Oper → List Ent → List SR → Hp → Option (List Ent × List SR × Hp)
  | [], es, fr, h => some (es, fr, h)
  | o :: rest, es, fr, h => match wantS all fr o with
    | .yes => match step P specs (getSR fr) h o with
      | some r => match r.need with
        | [] => tailRun P specs all rest (es ++ [⟨o, true, fr, h, r⟩]) (putSR fr o.dst r.val) r.heap
        | _ => none
      | none => none
    | .no => tailRun P specs all rest (es ++ [⟨o, false, fr, h, ⟨[], .v (.one .undef), h⟩⟩]) (putSR fr o.dst (.v (.one .undef))) h
    | _ => none
def laterWait (k : Nat) (es : List Ent) : Bool := (masks (es.map (·.o))).zipIdx.all fun (m, j) => (Nat.ble j k).or (m.testBit k)
def entsClear (ns na : Nat) (es : List Ent) : Bool := es.all fun e => (e.fr.all (SR.clear ns na)).and ((e.r.val.clear ns na).and (e.r.need.all (T.clear ns)))
def isAllocOp : Op → Bool
  | .alloc _ => true
  | _ => false
/-- An entry that turns no memory, at another memory. -/
def shiftE (P : Program) (specs : Nat → Option Spec) (hA : Hp) (all : List T) (e : Ent) : Option Ent :=
  match e.want with
  | true => match step P specs (getSR e.fr) hA e.o with
    | some r => if r.val = e.r.val ∧ r.heap = hA ∧ r.need.all (all.contains ·) = true then some { e with heap := hA, r := r } else none
    | none => none
  | false => if e.r.val = .v (.one .undef) ∧ e.r.need = [] then some { e with heap := hA, r := { e.r with heap := hA } } else none
def shiftEs (P : Program) (specs : Nat → Option Spec) (hA : Hp) (all : List T) : List Ent → Option (List Ent)
  | [] => some []
  | e :: es => match shiftE P specs hA all e, shiftEs P specs hA all es with
    | some x, some l => some (x :: l)
    | _, _ => none
structure Swap where
  ra : Res
  ra1 : Res
  r2 : RRes
  rz : Res
  esA : List Ent
def undefSR : SR := .v (.one .undef)
def swapE (P : Program) (specs : Nat → Option Spec) (rsp : Nat → Option RSpec) (oa oz : Oper) (es : List Ent) (o : Oper) (fr : List SR) (h : Hp) (rr : RRes) : Option Swap :=
  match step P specs (getSR (putSR fr o.dst undefSR)) h oa, step P specs (getSR (putSR fr o.dst rr.val)) rr.heap oa with
  | some ra, some ra1 =>
    match rstep P rsp (getSR fr) ra.heap o, step P specs (getSR (putSR (putSR fr o.dst rr.val) oa.dst ra.val)) ra1.heap oz, shiftEs P specs ra.heap (es.flatMap (·.r.need)) es with
    | some r2, some rz, some esA => some ⟨ra, ra1, r2, rz, esA⟩
    | _, _, _ => none
  | _, _ => none
section
variable (oa oz o : Oper) (es : List Ent) (fr : List SR) (h : Hp) (rr : RRes) (s : Swap)
def Swap.x1 : Ent := ⟨o, true, fr, h, ⟨rr.need, rr.val, rr.heap⟩⟩
def Swap.a1 : Ent := ⟨oa, true, putSR fr o.dst rr.val, rr.heap, s.ra1⟩
def Swap.z1 : Ent := ⟨oz, true, putSR (putSR fr o.dst rr.val) oa.dst s.ra.val, s.ra1.heap, s.rz⟩
def Swap.x2 : Ent := ⟨o, true, fr, s.ra.heap, ⟨s.r2.need, s.r2.val, s.r2.heap⟩⟩
def Swap.a2 : Ent := ⟨oa, false, putSR fr o.dst rr.val, s.ra1.heap, ⟨[], s.ra.val, s.ra1.heap⟩⟩
def Swap.x3 : Ent := ⟨o, false, fr, h, ⟨[], undefSR, h⟩⟩
def Swap.a3 : Ent := ⟨oa, true, putSR fr o.dst undefSR, h, s.ra⟩
def Swap.z3 : Ent := ⟨oz, false, fr, s.ra.heap, ⟨[], undefSR, s.ra.heap⟩⟩
def Swap.es1 : List Ent := es ++ [Swap.x1 o fr h rr, s.a1 oa o fr rr, s.z1 oa oz o fr rr]
def Swap.es2 : List Ent := s.esA ++ [s.x2 o fr, s.a2 oa o fr rr, s.z1 oa oz o fr rr]
def Swap.es3 : List Ent := es ++ [Swap.x3 o fr h, s.a3 oa o fr h, s.z3 oz fr]
def Swap.ok (P : Program) (specs : Nat → Option Spec) : Bool :=
  let k := es.length
  let ms := masks ((s.es1 oa oz o es fr h rr).map (·.o))
  (oa.guard.isNone).and <| (oz.guard.isNone).and <| (decide (oz.dst = none)).and <| (isAllocOp oa.op).and <|
  (s.ra.need.isEmpty).and <| (s.ra1.need.isEmpty).and <| (s.rz.need.isEmpty).and <| (decide (s.ra1.val = s.ra.val)).and <| (decide (s.rz.val = undefSR)).and <| (decide (s.ra.val = .v (.one (.ptr (.new h.na) 0 (.lit 0))))).and <|
  (Nat.beq s.r2.ns rr.ns).and <| (Nat.ble rr.na s.r2.na).and <| (decide (s.r2.facts = rr.facts)).and <| (decide (s.r2.val = rr.val)).and <| (decide (s.r2.heap = s.ra1.heap)).and <|
  (es.all fun e => (isEff e).not).and <| (s.esA.all fun e => (isEff e).not).and <|
  (isEff (Swap.x1 o fr h rr)).and <| (isEff (s.a1 oa o fr rr)).and <| (isEff (s.z1 oa oz o fr rr)).and <| (isEff (s.x2 o fr)).and <| (isEff (s.a3 oa o fr h)).and <|
  (okStill P specs h (s.es1 oa oz o es fr h rr)).and <| (okStill P specs s.ra.heap (s.es2 oa oz o fr rr)).and <| (okStill P specs h (s.es3 oa oz o es fr h)).and <|
  (bitM ms (k + 2) k).and <| (bitM ms (k + 2) (k + 1)).and <|
  (entsClear rr.ns rr.na es).and <| (fr.all (SR.clear rr.ns rr.na)).and <| (rr.need.all (T.clear rr.ns)).and <| (s.r2.need.all (T.clear rr.ns)).and <| (s.ra.val.clear s.r2.ns s.r2.na).and <| (s.esA.all fun e => e.r.val.clear s.r2.ns s.r2.na)
end
/-- What a function's walk needs of it. -/
structure FC where
  rs : List ResultVar
  lt : Nat → Option (List SR → Hp → Option Ann)
/-- The table of loops, by function and key; the functions that are carried out where they are called. -/
structure Tab where
  lt : Nat → Nat → Option (List SR → Hp → Option Ann)
  inl : Nat → Bool
/-- What follows a function's end. -/
def Out.bindRet (P : Program) (rs : List ResultVar) (nv na : Nat) (ks : List KF) (k : SR → Hp → Out) : Out → Out
  | .need c o => .need c (o.bindRet P rs nv na ks k)
  | .cond c x y => .cond c (x.bindRet P rs nv na ks k) (y.bindRet P rs nv na ks k)
  | .any ns na' facts o => if (Nat.ble nv ns).and ((Nat.ble na na').and (ksClear ns na' ks)) then .any ns na' facts (o.bindRet P rs nv na ks k) else .fail "names"
  | .ret v h => k v h
  | .fall fr h => match retS P (getSR fr) h rs with
    | some v => k v h
    | none => .fail "result"
  | .done => .done
  | .tight o => .tight (o.bindRet P rs nv na ks k)
  | .fail s => .fail s
  | .out _ _ _ => .fail "out"
  | .stop _ _ _ _ _ => .fail "stop"
/-- A value's letter where its slice is written. -/
def Leaf.unv (q : Nat) (l : Leaf) : Leaf → Leaf
  | .val n => match Nat.beq n q with
    | true => l
    | false => .val n
  | x => x
def Seg.unv (q : Nat) (l : Leaf) : Seg → Seg
  | .cells c => .cells (c.map (Leaf.unv q l))
  | g => g
def SV.unv (q : Nat) (l : Leaf) : SV → SV
  | .one x => .one (Leaf.unv q l x)
  | .agg g => .agg (g.map (Seg.unv q l))
def SR.unv (q : Nat) (l : Leaf) : SR → SR
  | .v x => .v (x.unv q l)
  | .tup xs => .tup (xs.map (SV.unv q l))
  | x => x
/-- The slice that grows, as a slice of a block of its own: what is asked, what is known, the frame and the memory. -/
def unowS (fr : List SR) (h : Hp) : Option (T × T × List SR × Hp) :=
  match h.ow with
  | some o =>
    match (clearRw h.nv h.na h.rw).and ((clearRo h.nv h.na h.ro).and ((o.a.clear h.nv).and (fr.all (SR.clear h.nv h.na)))) with
    | true =>
      let l : Leaf := .sl (.own h.nv) 0 (.lit 0) (.len o.a) (.iv h.nv)
      some (.lt (.lit 0) (.len o.a), .le (.len o.a) (.iv h.nv), fr.map (SR.unv o.v l), { h with rw := (.own h.nv, ⟨o.e, [.arrD o.k o.a, .tail [.int o.k (.lit 0)] (.sub (.iv h.nv) (.len o.a))]⟩) :: h.rw.map (fun x => (x.1, ⟨x.2.ty, x.2.segs.map (Seg.unv o.v l)⟩)), nv := h.nv + 1, ow := none })
    | false => none
  | none => none
/-- Is the slice that grows to be laid down ahead of a region? -/
def unowAt (fc : FC) (id : Nat) (fr : List SR) (h : Hp) : Option (T × T × List SR × Hp) :=
  match fc.lt (1000000 + id) with
  | some _ => unowS fr h
  | none => none
/-- A slot's number said in other words ahead of a region, where the two are asked to be alike. -/
def castAt (fc : FC) (id : Nat) (fr : List SR) (h : Hp) : Option (List T × List SR) :=
  match fc.lt (2000000 + id) with
  | some f => match f fr h with
    | some an => match getSR fr an.h.nv with
      | .v (.one (.int k t)) => some (needs [eqT t an.meas], fr.set an.h.nv (.v (.one (.int k an.meas))))
      | _ => none
    | none => none
  | none => none
def walk (P : Program) (specs : Nat → Option Spec) (rsp : Nat → Option RSpec) (tab : Tab) : Nat → FC → Task → List KF → List SR → Hp → Out
  | 0, _, _, _, _, _ => .fail "fuel"
  | n + 1, fc, .pop, ks, fr, h =>
    match ks with
    | [] => .fall fr h
    | .code c :: ks => walk P specs rsp tab n fc (.code c) ks fr h
    | .again c :: ks => walk P specs rsp tab n fc (.code c) (.again c :: ks) fr h
    | .blk _ :: ks => walk P specs rsp tab n fc .pop ks fr h
    | .inv lo an _ :: _ => match fits lo an.fr an.h fr h with
      | some (m, rest) => if tmOk lo an.fr an.h h rest an.quiet then needOut (m.needs lo ++ (an.facts.map (T.put (m.ts lo)) ++ [.lt (.lit 0) an.meas, .lt (an.meas.put (m.ts lo)) an.meas])) .done else .fail "template"
      | none => .fail "fit"
  | n + 1, fc, .code c, ks, fr, h =>
    match c with
    | .skip => walk P specs rsp tab n fc .pop ks fr h
    | .seq a b => walk P specs rsp tab n fc (.code a) (.code b :: ks) fr h
    | .cond x a b =>
      match x, evL (getSR fr) x with
      | _, some (.bool .tt) => walk P specs rsp tab n fc (.code a) ks fr h
      | _, some (.bool .ff) => walk P specs rsp tab n fc (.code b) ks fr h
      | .tmp s, some (.bool t) =>
        if (pureCode a).and (pureCode b) then
          match (walk P specs rsp tab n fc (.code a) [] (setTruth fr s true) h).split, (walk P specs rsp tab n fc (.code b) [] (setTruth fr s false) h).split with
          | some (c1, f1), some (c2, f2) => if f1.length = f2.length ∧ f1.length = fr.length then needOut (condNeeds (.not t) c1 ++ condNeeds t c2) (walk P specs rsp tab n fc .pop ks (mergeFr t f1 f2) h)
            else .cond t (walk P specs rsp tab n fc (.code a) ks (setTruth fr s true) h) (walk P specs rsp tab n fc (.code b) ks (setTruth fr s false) h)
          | _, _ => .cond t (walk P specs rsp tab n fc (.code a) ks (setTruth fr s true) h) (walk P specs rsp tab n fc (.code b) ks (setTruth fr s false) h)
        else .cond t (walk P specs rsp tab n fc (.code a) ks (setTruth fr s true) h) (walk P specs rsp tab n fc (.code b) ks (setTruth fr s false) h)
      | _, _ => .fail "cond"
    | .block id b => walk P specs rsp tab n fc (.code b) (.blk id :: ks) fr h
    | .exit id => match unwindS id ks with
      | some ks' => walk P specs rsp tab n fc .pop ks' fr h
      | none => .out id fr h
    | .ret => match retS P (getSR fr) h fc.rs with
      | some v => .ret v h
      | none => .fail "result"
    | .region id ops draw => match unowAt fc id fr h with
      | some (t, f, fr', h') => match ksClear h.nv h.na ks with
        | true => .tight (.need [t] (.any h.nv h.na [f] (walk P specs rsp tab n fc (.code (.region id ops draw)) ks fr' h')))
        | false => .fail "names"
      | none => match castAt fc id fr h with
        | some (nd, fr') => needOut nd (if draw then walk P specs rsp tab n fc (.draw ops.toList ops.toList [] h) ks fr' h else walk P specs rsp tab n fc (.ops ops.toList ops.toList) ks fr' h)
        | none => if draw then walk P specs rsp tab n fc (.draw ops.toList ops.toList [] h) ks fr h else walk P specs rsp tab n fc (.ops ops.toList ops.toList) ks fr h
    | .loop b => match fc.lt (keyOf b) with
      | none => walk P specs rsp tab n fc (.code b) (.again b :: ks) fr h
      | some f => match f fr h with
        | none => .fail "annotation"
        | some an => match fits h.nv an.fr an.h fr h with
          | some (m, rest) => if (tmOk h.nv an.fr an.h h rest an.quiet).and (ksClear h.nv an.na ks) then
              needOut (m.needs h.nv ++ an.facts.map (T.put (m.ts h.nv))) (.any h.nv an.na an.facts (walk P specs rsp tab n fc (.code b) (.inv h.nv an b :: ks) an.fr an.h))
            else .fail "template"
          | none => .fail "fit"
    | _ => .fail "code"
  | n + 1, fc, .ops rest all, ks, fr, h =>
    match rest with
    | [] => walk P specs rsp tab n fc .pop ks fr h
    | o :: rest =>
      match wantS all fr o with
      | .yes => match step P specs (getSR fr) h o with
        | some r => needOut r.need (walk P specs rsp tab n fc (.ops rest all) ks (putSR fr o.dst r.val) r.heap)
        | none => match rstep P rsp (getSR fr) h o with
          | some rr => if (fr.all (SR.clear rr.ns rr.na)).and (ksClear rr.ns rr.na ks) then needOut rr.need (.any rr.ns rr.na rr.facts (walk P specs rsp tab n fc (.ops rest all) ks (putSR fr o.dst rr.val) rr.heap)) else .stop (o :: rest) all ks fr h
          | none => match o.op with
            | .call c => match callS P (getSR fr) c with
              | some (f, args) => match (tab.inl f).and (fr.all (SR.clear h.nv h.na)), P.funcs[f]? with
                | true, some fn => match fn.body with
                  | some b => (walk P specs rsp tab n ⟨fn.results.toList, tab.lt f⟩ (.code b) [] (args ++ List.replicate (fn.ntmps - args.length) (.v (.one .undef))) h).bindRet P fn.results.toList h.nv h.na ks fun v h' => walk P specs rsp tab n fc (.ops rest all) ks (putSR fr o.dst v) h'
                  | none => .stop (o :: rest) all ks fr h
                | _, _ => .stop (o :: rest) all ks fr h
              | none => .stop (o :: rest) all ks fr h
            | _ => .stop (o :: rest) all ks fr h
      | .no => walk P specs rsp tab n fc (.ops rest all) ks (putSR fr o.dst (.v (.one .undef))) h
      | .ask s t => .cond t (walk P specs rsp tab n fc (.ops (o :: rest) all) ks (setTruth fr s true) h) (walk P specs rsp tab n fc (.ops (o :: rest) all) ks (setTruth fr s false) h)
      | .lost => .fail "guard"
  | n + 1, fc, .draw rest all es h0, ks, fr, h =>
    match rest with
    | [] => if okDraw P specs h0 es then walk P specs rsp tab n fc .pop ks fr h
      else if (looseOk P specs h0.nv h0 es fr).and (ksClear h0.nv h0.na ks) then .any h0.nv h0.na [] (walk P specs rsp tab n fc .pop ks fr h) else .fail "order"
    | o :: rest =>
      match wantS all fr o with
      | .yes => match step P specs (getSR fr) h o with
        | some r => needOut r.need (walk P specs rsp tab n fc (.draw rest all (es ++ [⟨o, true, fr, h, r⟩]) h0) ks (putSR fr o.dst r.val) r.heap)
        | none => match rstep P rsp (getSR fr) h o with
          | some rr => match tailRun P specs all rest (es ++ [⟨o, true, fr, h, ⟨rr.need, rr.val, rr.heap⟩⟩]) (putSR fr o.dst rr.val) rr.heap with
            | some (es', fr', h') =>
              if (okDraw P specs h0 es').and ((isEff ⟨o, true, fr, h, ⟨rr.need, rr.val, rr.heap⟩⟩).and ((laterWait es.length es').and ((entsClear rr.ns rr.na es).and ((fr.all (SR.clear rr.ns rr.na)).and ((rr.need.all (T.clear rr.ns)).and (ksClear rr.ns rr.na ks)))))) then
                needOut rr.need (.any rr.ns rr.na rr.facts (walk P specs rsp tab n fc .pop ks fr' h'))
              else match rest with
                | [oa, oz] => match swapE P specs rsp oa oz es o fr h rr with
                  | some s => if (s.ok oa oz o es fr h rr P specs).and (ksClear rr.ns rr.na ks) then
                      needOut (rr.need ++ s.r2.need) (.any rr.ns rr.na rr.facts (walk P specs rsp tab n fc .pop ks (putSR (putSR fr o.dst rr.val) oa.dst s.ra.val) s.rz.heap))
                    else .fail "order2"
                  | none => .fail "order2"
                | _ => .fail "order2"
            | none => .fail o.pos
          | none => .fail o.pos
      | .no => walk P specs rsp tab n fc (.draw rest all (es ++ [⟨o, false, fr, h, ⟨[], .v (.one .undef), h⟩⟩]) h0) ks (putSR fr o.dst (.v (.one .undef))) h
      | .ask s t => .cond t (walk P specs rsp tab n fc (.draw (o :: rest) all es h0) ks (setTruth fr s true) h) (walk P specs rsp tab n fc (.draw (o :: rest) all es h0) ks (setTruth fr s false) h)
      | .lost => .fail "guard"
/-- The answer of a walk that does not fork, but where one of two ways is barred. -/
def Out.flat (P : Program) (rs : List ResultVar) : Out → Option Res
  | .need c k => match k.flat P rs with
    | some r => some ⟨c ++ r.need, r.val, r.heap⟩
    | none => none
  | .ret v h => some ⟨[], v, h⟩
  | .fall fr h => (retS P (getSR fr) h rs).map fun v => ⟨[], v, h⟩
  | .cond c a b => match a.flat P rs, b.flat P rs with
    | none, some r => some ⟨.not c :: r.need, r.val, r.heap⟩
    | some r, none => some ⟨c :: r.need, r.val, r.heap⟩
    | _, _ => none
  | _ => none
/-- Functions carried out where they are called, so many deep: those of which all is known. -/
def runSpec (P : Program) (specs : Nat → Option Spec) (fuel : Nat) (f : Nat) : Option Spec :=
  match P.funcs[f]? with
  | some fn => match fn.body with
    | some c => some fun args h => (walk P specs (fun _ => none) ⟨fun _ _ => none, fun _ => false⟩ fuel ⟨fn.results.toList, fun _ => none⟩ (.code c) [] (args ++ List.replicate (fn.ntmps - args.length) (.v (.one .undef))) h).flat P fn.results.toList
    | none => none
  | none => none
def deep (P : Program) (ok : Nat → Bool) (base : Nat → Option Spec) (fuel : Nat) : Nat → Nat → Option Spec
  | 0, f => base f
  | n + 1, f => match base f with
    | some s => some s
    | none => if ok f then runSpec P (deep P ok base fuel n) fuel f else none
end
end Go.Proofs.YtljjbikbfeigdaaGreatDoor
namespace Go.Proofs.YtljjbikbfeigdaaGreatDoor
noncomputable section
open Go
section
variable {S : Sig} {ρ : Env} {B : Nat}
def Seg.wf (S : Sig) (ρ : Env) : Seg → Prop
  | .arr _ a n => (a.A S ρ).length = n
  | .bar a n => (a.A S ρ).length = n
  | _ => True
def segsWf (S : Sig) (ρ : Env) (l : List Seg) : Prop := ∀ g ∈ l, g.wf S ρ
def SV.wf (S : Sig) (ρ : Env) : SV → Prop
  | .one _ => True
  | .agg l => segsWf S ρ l
def SR.wf (S : Sig) (ρ : Env) : SR → Prop
  | .v x => x.wf S ρ
  | .tup xs => ∀ x ∈ xs, x.wf S ρ
  | .ite c x y => (c.B S ρ = true → x.wf S ρ) ∧ (c.B S ρ = false → y.wf S ρ)
/-- All asked truths hold. -/
def Met (S : Sig) (ρ : Env) (l : List T) : Prop := ∀ t ∈ l, t.B S ρ = true
theorem Met.nil : Met S ρ [] := fun _ h => by cases h
theorem met_needs {l : List T} (h : Met S ρ (needs l)) : Met S ρ l := by
  intro t ht
  cases e : t.isTT with
  | true => rw [isTT_eq e]; rfl
  | false => exact h t (by simp [needs, ht, e])
theorem met_cons {t : T} {l : List T} : Met S ρ (t :: l) ↔ t.B S ρ = true ∧ Met S ρ l := by simp [Met]
theorem met_append {l m : List T} : Met S ρ (l ++ m) ↔ Met S ρ l ∧ Met S ρ m := by
  constructor
  · exact fun h => ⟨fun t ht => h t (by simp [ht]), fun t ht => h t (by simp [ht])⟩
  · rintro ⟨h, k⟩ t ht; rcases List.mem_append.1 ht with h1 | h1
    · exact h t h1
    · exact k t h1
theorem segsDen_cons (g : Seg) (l : List Seg) : segsDen S ρ B (g :: l) = g.den S ρ B ++ segsDen S ρ B l := by simp [segsDen]
theorem segsDen_append (l m : List Seg) : segsDen S ρ B (l ++ m) = segsDen S ρ B l ++ segsDen S ρ B m := by simp [segsDen]
theorem segsDen_nil : segsDen S ρ B [] = [] := rfl
theorem size_den {g : Seg} {n : Nat} (hw : g.wf S ρ) (h : g.size = some n) : (g.den S ρ B).length = n := by
  cases g <;> simp [Seg.size, Seg.den, Seg.wf] at *
  · exact h
  · omega
  · omega
theorem segsWf_cons {g : Seg} {l : List Seg} : segsWf S ρ (g :: l) ↔ g.wf S ρ ∧ segsWf S ρ l := by simp [segsWf]
theorem segsWf_append {l m : List Seg} : segsWf S ρ (l ++ m) ↔ segsWf S ρ l ∧ segsWf S ρ m := by
  constructor
  · exact fun h => ⟨fun t ht => h t (by simp [ht]), fun t ht => h t (by simp [ht])⟩
  · rintro ⟨h, k⟩ t ht; rcases List.mem_append.1 ht with h1 | h1
    · exact h t h1
    · exact k t h1
theorem segsSize_den : ∀ {l : List Seg} {n : Nat}, segsWf S ρ l → segsSize l = some n → (segsDen S ρ B l).length = n
  | [], n, _, h => by simp [segsSize] at h; subst h; rfl
  | g :: r, n, hw, h => by
    unfold segsSize at h
    split at h
    · rename_i a b ha hb
      simp only [Option.some.injEq] at h
      rw [segsDen_cons, List.length_append, size_den (segsWf_cons.1 hw).1 ha, segsSize_den (segsWf_cons.1 hw).2 hb]
      exact h
    · cases h
theorem seek_spec : ∀ {l : List Seg} {s : Nat} {p : List Seg} {g : Seg} {j : Nat} {q : List Seg}, segsWf S ρ l → seek l s = some (p, g, j, q) →
    l = p ++ g :: q ∧ (segsDen S ρ B p).length + j = s ∧ (∀ n, g.size = some n → j < n)
  | [], s, p, g, j, q, _, h => by simp [seek] at h
  | x :: r, s, p, g, j, q, hw, h => by
    unfold seek at h
    split at h
    · rename_i n hn
      split at h
      · rename_i hlt
        simp only [Option.some.injEq, Prod.mk.injEq] at h
        obtain ⟨rfl, rfl, rfl, rfl⟩ := h
        exact ⟨rfl, by simp [segsDen_nil], fun m hm => by rw [hn] at hm; injection hm with hm; omega⟩
      · rename_i hlt
        split at h
        · rename_i p' g' j' q' hs
          simp only [Option.some.injEq, Prod.mk.injEq] at h
          obtain ⟨rfl, rfl, rfl, rfl⟩ := h
          obtain ⟨h1, h2, h3⟩ := seek_spec (segsWf_cons.1 hw).2 hs
          refine ⟨by rw [h1]; rfl, ?_, h3⟩
          rw [segsDen_cons, List.length_append, size_den (segsWf_cons.1 hw).1 hn]
          omega
        · cases h
    · rename_i hn
      simp only [Option.some.injEq, Prod.mk.injEq] at h
      obtain ⟨rfl, rfl, rfl, rfl⟩ := h
      exact ⟨rfl, by simp [segsDen_nil], fun m hm => by rw [hn] at hm; cases hm⟩
theorem get_mid {α : Type} (p m q : List α) (j : Nat) (h : j < m.length) : (p ++ (m ++ q))[p.length + j]? = m[j]? := by
  rw [List.getElem?_append_right (by omega), show p.length + j - p.length = j from by omega, List.getElem?_append_left h]
theorem set_mid {α : Type} (p m q : List α) (j : Nat) (v : α) (h : j < m.length) : (p ++ (m ++ q)).set (p.length + j) v = p ++ (m.set j v ++ q) := by
  rw [List.set_append_right _ _ (by omega), show p.length + j - p.length = j from by omega, List.set_append_left _ _ h]
theorem inRange_met {i d n : T} (h : Met S ρ (inRange i d n)) : 0 ≤ d.I S ρ ∧ i.I S ρ < n.I S ρ := by
  have h' := met_needs h
  have h1 := (met_cons.1 h').1
  have h2 := (met_cons.1 (met_cons.1 h').2).1
  rw [mkLe_B, decide_eq_true_eq] at h1
  rw [mkLt_B, decide_eq_true_eq] at h2
  exact ⟨by simpa [T.I] using h1, h2⟩
theorem map_getD (k : IntKind) (l : List Int) (i : Nat) (h : i < l.length) : (l.map (Value.int k))[i]? = some (.int k (l.getD i 0)) := by
  simp [List.getD, List.getElem?_eq_getElem h]
/-- One cell read. -/
theorem loadLeaf_spec {l : List Seg} {s : Nat} {d : T} {c : List T} {x : Leaf} (hw : segsWf S ρ l) (h : loadLeaf l s d = some (c, x)) (hc : Met S ρ c) :
    (segsDen S ρ B l)[s + (d.I S ρ).toNat]? = some (x.den S ρ B) := by
  unfold loadLeaf at h
  split at h
  · rename_i p cs j q hs
    obtain ⟨rfl, h2, h3⟩ := seek_spec (B := B) hw hs
    split at h
    · rename_i hd
      rw [isZ_iff] at hd; subst hd
      cases hj : cs[j]? with
      | none => simp [hj] at h
      | some y =>
        simp [hj] at h
        obtain ⟨rfl, rfl⟩ := h
        have hjl : j < cs.length := h3 _ rfl
        simp only [T.I, Int.toNat_zero, Nat.add_zero]
        rw [segsDen_append, segsDen_cons, ← h2, get_mid _ _ _ _ (by simpa [Seg.den] using hjl)]
        simp [Seg.den, hj]
    · cases h
  · rename_i p k a n j q hs
    obtain ⟨rfl, h2, h3⟩ := seek_spec (B := B) hw hs
    simp only [Option.some.injEq, Prod.mk.injEq] at h
    obtain ⟨rfl, rfl⟩ := h
    obtain ⟨hd, hi⟩ := inRange_met hc
    have hl : (a.A S ρ).length = n := (segsWf_cons.1 (segsWf_append.1 hw).2).1
    simp only [mkAdd_I, T.I] at hi
    rw [segsDen_append, segsDen_cons, ← h2, Nat.add_assoc, get_mid _ _ _ _ (by simp [Seg.den]; omega)]
    simp only [Seg.den, Leaf.den, mkGet_I, mkAdd_I, T.I]
    rw [map_getD _ _ _ (by omega)]
    congr 3; omega
  · rename_i p k a j q hs
    obtain ⟨rfl, h2, h3⟩ := seek_spec (B := B) hw hs
    simp only [Option.some.injEq, Prod.mk.injEq] at h
    obtain ⟨rfl, rfl⟩ := h
    obtain ⟨hd, hi⟩ := inRange_met hc
    simp only [mkAdd_I, T.I] at hi
    rw [segsDen_append, segsDen_cons, ← h2, Nat.add_assoc, get_mid _ _ _ _ (by simp [Seg.den]; omega)]
    simp only [Seg.den, Leaf.den, mkGet_I, mkAdd_I, T.I]
    rw [map_getD _ _ _ (by omega)]
    congr 3; omega
  · rename_i p a n j q hs
    obtain ⟨rfl, h2, h3⟩ := seek_spec (B := B) hw hs
    simp only [Option.some.injEq, Prod.mk.injEq] at h
    obtain ⟨rfl, rfl⟩ := h
    obtain ⟨hd, hi⟩ := inRange_met hc
    have hl : (a.A S ρ).length = n := (segsWf_cons.1 (segsWf_append.1 hw).2).1
    simp only [mkAdd_I, T.I] at hi
    rw [segsDen_append, segsDen_cons, ← h2, Nat.add_assoc, get_mid _ _ _ _ (by simp [Seg.den]; omega)]
    simp only [Seg.den, Leaf.den, mkNot_B, mkEq_B, mkGet_I, mkAdd_I, T.I]
    rw [show ((j : Int) + d.I S ρ).toNat = j + (d.I S ρ).toNat from by omega, List.getElem?_map, List.getElem?_eq_getElem (by omega), List.getD_eq_getElem?_getD, List.getElem?_eq_getElem (by omega)]
    simp only [Option.map_some, Option.getD_some, truthOf]
  · cases h
theorem joinCells_den : ∀ (g : List Seg), segsDen S ρ B (joinCells g) = segsDen S ρ B g ∧ (segsWf S ρ g → segsWf S ρ (joinCells g))
  | [] => ⟨rfl, id⟩
  | x :: g => by
    obtain ⟨h1, h2⟩ := joinCells_den g
    cases x with
    | cells a =>
      unfold joinCells
      split
      · rename_i b q he
        rw [he] at h1 h2
        refine ⟨?_, fun hw => ?_⟩
        · rw [segsDen_cons, segsDen_cons, ← h1, segsDen_cons]; simp [Seg.den]
        · exact segsWf_cons.2 ⟨trivial, (segsWf_cons.1 (h2 (segsWf_cons.1 hw).2)).2⟩
      · refine ⟨?_, fun hw => ?_⟩
        · rw [segsDen_cons, segsDen_cons, h1]
        · exact segsWf_cons.2 ⟨trivial, h2 (segsWf_cons.1 hw).2⟩
    | arr k a n => simp only [joinCells]; exact ⟨by rw [segsDen_cons, segsDen_cons, h1], fun hw => segsWf_cons.2 ⟨(segsWf_cons.1 hw).1, h2 (segsWf_cons.1 hw).2⟩⟩
    | arrD k a => simp only [joinCells]; exact ⟨by rw [segsDen_cons, segsDen_cons, h1], fun hw => segsWf_cons.2 ⟨(segsWf_cons.1 hw).1, h2 (segsWf_cons.1 hw).2⟩⟩
    | bar a n => simp only [joinCells]; exact ⟨by rw [segsDen_cons, segsDen_cons, h1], fun hw => segsWf_cons.2 ⟨(segsWf_cons.1 hw).1, h2 (segsWf_cons.1 hw).2⟩⟩
    | junk n => simp only [joinCells]; exact ⟨by rw [segsDen_cons, segsDen_cons, h1], fun hw => segsWf_cons.2 ⟨(segsWf_cons.1 hw).1, h2 (segsWf_cons.1 hw).2⟩⟩
    | tail z n => simp only [joinCells]; exact ⟨by rw [segsDen_cons, segsDen_cons, h1], fun hw => segsWf_cons.2 ⟨(segsWf_cons.1 hw).1, h2 (segsWf_cons.1 hw).2⟩⟩
theorem mkCut_A (a : T) (s n : Nat) : (mkCut a s n).A S ρ = ((a.A S ρ).drop s).take n := by
  unfold mkCut
  split
  · simp [T.A]
  · split
    · simp [T.A, T.I]; omega
    · simp [T.A, T.I]
  · simp [T.A, T.I]
theorem cutA_den (k : IntKind) (a : T) (s n : Nat) : segsDen S ρ B (cutA k a s n) = (((a.A S ρ).drop s).take n).map (Value.int k) := by
  unfold cutA
  split
  · simp [segsDen_nil]
  · simp only [segsDen_cons, segsDen_nil, List.append_nil, Seg.den, mkCut_A]
theorem cutA_wf (k : IntKind) (a : T) (s n : Nat) (h : s + n ≤ (a.A S ρ).length) : segsWf S ρ (cutA k a s n) := by
  unfold cutA
  split
  · exact fun _ h => nomatch h
  · intro g hg
    simp only [List.mem_singleton] at hg
    subst hg
    simp only [Seg.wf, mkCut_A, List.length_take, List.length_drop]
    omega
theorem fixD_den (g : List Seg) : segsDen S ρ B (fixD g) = segsDen S ρ B g ∧ (segsWf S ρ g → segsWf S ρ (fixD g)) := by
  unfold fixD
  split
  · split
    · rename_i k n v m hv
      have := view_lit hv
      subst this
      refine ⟨rfl, fun _ g hg => ?_⟩
      simp only [List.mem_singleton] at hg
      subst hg
      simp [Seg.wf, T.A, T.I]
    · exact ⟨rfl, id⟩
  · exact ⟨rfl, id⟩
/-- One cell written. -/
theorem storeLeaf_spec {l : List Seg} {s : Nat} {d : T} {c : List T} {x : Leaf} {l' : List Seg} (hw : segsWf S ρ l) (h : storeLeaf l s d x = some (c, l')) (hc : Met S ρ c) :
    segsDen S ρ B l' = (segsDen S ρ B l).set (s + (d.I S ρ).toNat) (x.den S ρ B) ∧ segsWf S ρ l' ∧ s + (d.I S ρ).toNat < (segsDen S ρ B l).length := by
  unfold storeLeaf at h
  split at h
  · rename_i x' p cs j q hs
    obtain ⟨rfl, h2, h3⟩ := seek_spec (B := B) hw hs
    split at h
    · rename_i hd
      rw [isZ_iff] at hd; subst hd
      simp only [Option.some.injEq, Prod.mk.injEq] at h
      obtain ⟨rfl, rfl⟩ := h
      have hjl : j < cs.length := h3 _ rfl
      refine ⟨?_, ?_, ?_⟩
      · simp only [T.I, Int.toNat_zero, Nat.add_zero]
        rw [segsDen_append, segsDen_cons, segsDen_append, segsDen_cons, ← h2, set_mid _ _ _ _ _ (by simpa [Seg.den] using hjl)]
        simp [Seg.den, List.map_set]
      · have := segsWf_append.1 hw
        exact segsWf_append.2 ⟨this.1, segsWf_cons.2 ⟨trivial, (segsWf_cons.1 this.2).2⟩⟩
      · simp only [T.I, Int.toNat_zero, Nat.add_zero]
        rw [segsDen_append, segsDen_cons, ← h2]; simp [Seg.den]; omega
    · cases h
  · rename_i p k a n j q k' t hs
    obtain ⟨rfl, h2, h3⟩ := seek_spec (B := B) hw hs
    split at h
    · rename_i hk
      subst hk
      split at h
      · rename_i hcst
        simp only [Bool.and_eq_true] at hcst
        have hd := isZ_iff.1 hcst.1
        subst hd
        simp only [Option.some.injEq, Prod.mk.injEq] at h
        obtain ⟨rfl, rfl⟩ := h
        have hl : (a.A S ρ).length = n := (segsWf_cons.1 (segsWf_append.1 hw).2).1
        have hjn : j < n := h3 _ rfl
        obtain ⟨w1, w2⟩ := segsWf_append.1 hw
        refine ⟨?_, (joinCells_den (S := S) (ρ := ρ) (B := B) _).2 ?_, ?_⟩
        · rw [(joinCells_den (S := S) (ρ := ρ) (B := B) _).1]
          simp only [T.I, Int.toNat_zero, Nat.add_zero]
          rw [segsDen_append, segsDen_append, segsDen_cons, segsDen_append, cutA_den, cutA_den, segsDen_append, segsDen_cons, ← h2, set_mid _ _ _ _ _ (by simp [Seg.den]; omega)]
          simp only [Seg.den, List.map_cons, List.map_nil, List.drop_zero]
          rw [List.take_of_length_le (l := List.drop (j + 1) _) (by simp; omega)]
          rw [List.set_eq_take_append_cons_drop, if_pos (by simp; omega)]
          simp [List.map_take, List.map_drop]
        · exact segsWf_append.2 ⟨w1, segsWf_append.2 ⟨cutA_wf _ _ _ _ (by omega), segsWf_cons.2 ⟨trivial, segsWf_append.2 ⟨cutA_wf _ _ _ _ (by omega), (segsWf_cons.1 w2).2⟩⟩⟩⟩
        · simp only [T.I, Int.toNat_zero, Nat.add_zero]
          rw [segsDen_append, segsDen_cons, ← h2]; simp [Seg.den]; omega
      simp only [Option.some.injEq, Prod.mk.injEq] at h
      obtain ⟨rfl, rfl⟩ := h
      obtain ⟨hd, hi⟩ := inRange_met hc
      have hl : (a.A S ρ).length = n := (segsWf_cons.1 (segsWf_append.1 hw).2).1
      simp only [mkAdd_I, T.I] at hi
      refine ⟨?_, ?_, ?_⟩
      · rw [segsDen_append, segsDen_cons, segsDen_append, segsDen_cons, ← h2, Nat.add_assoc, set_mid _ _ _ _ _ (by simp [Seg.den]; omega)]
        simp only [Seg.den, Leaf.den, T.A, mkAdd_I, T.I, List.map_set]
        rw [show ((j : Int) + d.I S ρ).toNat = j + (d.I S ρ).toNat from by omega]
      · have := segsWf_append.1 hw
        exact segsWf_append.2 ⟨this.1, segsWf_cons.2 ⟨by simp [Seg.wf, T.A, hl], (segsWf_cons.1 this.2).2⟩⟩
      · rw [segsDen_append, segsDen_cons, ← h2]; simp [Seg.den]; omega
    · cases h
  · rename_i p k a j q k' t hs
    obtain ⟨rfl, h2, h3⟩ := seek_spec (B := B) hw hs
    split at h
    · rename_i hk
      subst hk
      simp only [Option.some.injEq, Prod.mk.injEq] at h
      obtain ⟨rfl, rfl⟩ := h
      obtain ⟨hd, hi⟩ := inRange_met hc
      simp only [mkAdd_I, T.I] at hi
      refine ⟨?_, ?_, ?_⟩
      · rw [segsDen_append, segsDen_cons, segsDen_append, segsDen_cons, ← h2, Nat.add_assoc, set_mid _ _ _ _ _ (by simp [Seg.den]; omega)]
        simp only [Seg.den, Leaf.den, T.A, mkAdd_I, T.I, List.map_set]
        rw [show ((j : Int) + d.I S ρ).toNat = j + (d.I S ρ).toNat from by omega]
      · have := segsWf_append.1 hw
        exact segsWf_append.2 ⟨this.1, segsWf_cons.2 ⟨trivial, (segsWf_cons.1 this.2).2⟩⟩
      · rw [segsDen_append, segsDen_cons, ← h2]; simp [Seg.den]; omega
    · cases h
  · rename_i p a n j q t hs
    obtain ⟨rfl, h2, h3⟩ := seek_spec (B := B) hw hs
    simp only [Option.some.injEq, Prod.mk.injEq] at h
    obtain ⟨rfl, rfl⟩ := h
    obtain ⟨hd, hi⟩ := inRange_met hc
    have hl : (a.A S ρ).length = n := (segsWf_cons.1 (segsWf_append.1 hw).2).1
    simp only [mkAdd_I, T.I] at hi
    refine ⟨?_, ?_, ?_⟩
    · rw [segsDen_append, segsDen_cons, segsDen_append, segsDen_cons, ← h2, Nat.add_assoc, set_mid _ _ _ _ _ (by simp [Seg.den]; omega)]
      simp only [Seg.den, Leaf.den, T.A, mkAdd_I, mkIte_I, T.I, List.map_set]
      rw [show ((j : Int) + d.I S ρ).toNat = j + (d.I S ρ).toNat from by omega]
      congr 3
      cases t.B S ρ <;> rfl
    · have := segsWf_append.1 hw
      exact segsWf_append.2 ⟨this.1, segsWf_cons.2 ⟨by simp [Seg.wf, T.A, hl], (segsWf_cons.1 this.2).2⟩⟩
    · rw [segsDen_append, segsDen_cons, ← h2]; simp [Seg.den]; omega
  · cases h
theorem splitSegs_spec : ∀ {l : List Seg} {n : Nat} {x y : List Seg}, segsWf S ρ l → splitSegs l n = some (x, y) →
    segsDen S ρ B x ++ segsDen S ρ B y = segsDen S ρ B l ∧ (segsDen S ρ B x).length = n ∧ segsWf S ρ x ∧ segsWf S ρ y
  | l, 0, x, y, hw, h => by
    cases l <;> (simp only [splitSegs, Option.some.injEq, Prod.mk.injEq] at h; obtain ⟨rfl, rfl⟩ := h; exact ⟨rfl, rfl, (fun _ h => nomatch h), hw⟩)
  | [], n + 1, x, y, _, h => by simp [splitSegs] at h
  | g :: r, n + 1, x, y, hw, h => by
    have hg := (segsWf_cons.1 hw).1
    have hr := (segsWf_cons.1 hw).2
    unfold splitSegs at h
    split at h
    · rename_i cs
      split at h
      · rename_i hle
        cases hq : splitSegs r (n + 1 - cs.length) with
        | none => simp [hq] at h
        | some xy =>
          obtain ⟨x', y'⟩ := xy
          simp [hq] at h
          obtain ⟨rfl, rfl⟩ := h
          obtain ⟨h1, h2, h3, h4⟩ := splitSegs_spec hr hq
          refine ⟨by rw [segsDen_cons, segsDen_cons, List.append_assoc, h1], ?_, segsWf_cons.2 ⟨hg, h3⟩, h4⟩
          rw [segsDen_cons, List.length_append, h2]; simp [Seg.den]; omega
      · rename_i hle
        simp only [Option.some.injEq, Prod.mk.injEq] at h
        obtain ⟨rfl, rfl⟩ := h
        refine ⟨?_, ?_, fun _ h => by simp at h; subst h; trivial, segsWf_cons.2 ⟨trivial, hr⟩⟩
        · simp only [segsDen_cons, segsDen_nil, List.append_nil, Seg.den, ← List.append_assoc, ← List.map_append, List.take_append_drop]
        · simp [segsDen_cons, segsDen_nil, Seg.den]; omega
    · rename_i k a m
      have hl : (a.A S ρ).length = m := hg
      split at h
      · rename_i hle
        cases hq : splitSegs r (n + 1 - m) with
        | none => simp [hq] at h
        | some xy =>
          obtain ⟨x', y'⟩ := xy
          simp [hq] at h
          obtain ⟨rfl, rfl⟩ := h
          obtain ⟨h1, h2, h3, h4⟩ := splitSegs_spec hr hq
          refine ⟨by rw [segsDen_cons, segsDen_cons, List.append_assoc, h1], ?_, segsWf_cons.2 ⟨hg, h3⟩, h4⟩
          rw [segsDen_cons, List.length_append, h2]; simp [Seg.den]; omega
      · rename_i hle
        simp only [Option.some.injEq, Prod.mk.injEq] at h
        obtain ⟨rfl, rfl⟩ := h
        refine ⟨?_, ?_, fun _ h => ?_, segsWf_cons.2 ⟨?_, hr⟩⟩
        · simp only [segsDen_cons, segsDen_nil, List.append_nil, Seg.den, mkCut_A, ← List.append_assoc, ← List.map_append, List.drop_zero]
          rw [List.take_of_length_le (l := List.drop (n + 1) _) (by simp; omega), List.take_append_drop]
        · simp [segsDen_cons, segsDen_nil, Seg.den, mkCut_A]; omega
        · simp at h; subst h; simp [Seg.wf, mkCut_A]; omega
        · simp [Seg.wf, mkCut_A]; omega
    · cases h
theorem rangeN_met {i d m : T} {n : Nat} (h : Met S ρ (needs [mkLe (.lit 0) d, mkLe (mkAdd i (.lit n)) m])) : 0 ≤ d.I S ρ ∧ i.I S ρ + n ≤ m.I S ρ := by
  have h' := met_needs h
  have h1 := (met_cons.1 h').1
  have h2 := (met_cons.1 (met_cons.1 h').2).1
  rw [mkLe_B, decide_eq_true_eq] at h1
  rw [mkLe_B, decide_eq_true_eq, mkAdd_I] at h2
  exact ⟨by simpa [T.I] using h1, by simpa [T.I] using h2⟩
theorem drop_mid {α : Type} (p m q : List α) (j n : Nat) (h : j + n ≤ m.length) : ((p ++ (m ++ q)).drop (p.length + j)).take n = (m.drop j).take n := by
  rw [List.drop_append, List.drop_eq_nil_of_le (by omega : p.length ≤ p.length + j), List.nil_append, show p.length + j - p.length = j from by omega, List.drop_append, List.take_append]
  rw [show n - (List.drop j m).length = 0 from by simp; omega]
  simp
/-- Many cells read. -/
theorem loadMany_spec {l : List Seg} {s : Nat} {d : T} {n : Nat} {c : List T} {x : List Seg} (hw : segsWf S ρ l) (h : loadMany l s d n = some (c, x)) (hc : Met S ρ c) :
    segsDen S ρ B x = ((segsDen S ρ B l).drop (s + (d.I S ρ).toNat)).take n ∧ (segsDen S ρ B x).length = n ∧ segsWf S ρ x := by
  unfold loadMany at h
  split at h
  · rename_i hd
    rw [isZ_iff] at hd; subst hd
    split at h
    · rename_i p y hp
      obtain ⟨h1, h2, h3, h4⟩ := splitSegs_spec (B := B) hw hp
      cases hq : splitSegs y n with
      | none => simp [hq] at h
      | some xy =>
        obtain ⟨x', y'⟩ := xy
        simp [hq] at h
        obtain ⟨rfl, rfl⟩ := h
        obtain ⟨k1, k2, k3, k4⟩ := splitSegs_spec (B := B) h4 hq
        refine ⟨?_, k2, k3⟩
        simp only [T.I, Int.toNat_zero, Nat.add_zero]
        rw [← h1, ← k1, ← h2, List.drop_append, List.drop_length, List.nil_append, Nat.sub_self, List.drop_zero, ← k2, List.take_append_length]
    · cases h
  · split at h
    · rename_i p k a m j q hs
      obtain ⟨rfl, h2, h3⟩ := seek_spec (B := B) hw hs
      simp only [Option.some.injEq, Prod.mk.injEq] at h
      obtain ⟨rfl, rfl⟩ := h
      obtain ⟨hd, hi⟩ := rangeN_met hc
      have hl : (a.A S ρ).length = m := (segsWf_cons.1 (segsWf_append.1 hw).2).1
      simp only [mkAdd_I, T.I] at hi
      refine ⟨?_, ?_, ?_⟩
      · rw [segsDen_append, segsDen_cons (l := q), ← h2, Nat.add_assoc, drop_mid _ _ _ _ _ (by simp [Seg.den]; omega)]
        simp only [segsDen_cons, segsDen_nil, List.append_nil, Seg.den, T.A, mkAdd_I, T.I, List.map_take, List.map_drop]
        rw [show ((j : Int) + d.I S ρ).toNat = j + (d.I S ρ).toNat from by omega, Int.toNat_natCast]
      · simp [segsDen_cons, segsDen_nil, Seg.den, T.A, mkAdd_I, T.I]; omega
      · intro g hg; simp at hg; subst hg; simp [Seg.wf, T.A, mkAdd_I, T.I]; omega
    · rename_i p k a j q hs
      obtain ⟨rfl, h2, h3⟩ := seek_spec (B := B) hw hs
      simp only [Option.some.injEq, Prod.mk.injEq] at h
      obtain ⟨rfl, rfl⟩ := h
      obtain ⟨hd, hi⟩ := rangeN_met hc
      simp only [mkAdd_I, T.I] at hi
      refine ⟨?_, ?_, ?_⟩
      · rw [segsDen_append, segsDen_cons (l := q), ← h2, Nat.add_assoc, drop_mid _ _ _ _ _ (by simp [Seg.den]; omega)]
        simp only [segsDen_cons, segsDen_nil, List.append_nil, Seg.den, T.A, mkAdd_I, T.I, List.map_take, List.map_drop]
        rw [show ((j : Int) + d.I S ρ).toNat = j + (d.I S ρ).toNat from by omega, Int.toNat_natCast]
      · simp [segsDen_cons, segsDen_nil, Seg.den, T.A, mkAdd_I, T.I]; omega
      · intro g hg; simp at hg; subst hg; simp [Seg.wf, T.A, mkAdd_I, T.I]; omega
    · cases h
theorem splice_mid (p m q : List Value) (j : Nat) (b : List Value) (h : j + b.length ≤ m.length) :
    (p ++ (m ++ q)).take (p.length + j) ++ (b ++ (p ++ (m ++ q)).drop (p.length + j + b.length)) = p ++ ((m.take j ++ (b ++ m.drop (j + b.length))) ++ q) := by
  rw [List.take_append, List.take_of_length_le (by omega : p.length ≤ p.length + j), show p.length + j - p.length = j from by omega, List.take_append,
    show j - m.length = 0 from by omega, List.drop_append, List.drop_eq_nil_of_le (by omega : p.length ≤ p.length + j + b.length), List.nil_append,
    show p.length + j + b.length - p.length = j + b.length from by omega, List.drop_append, show j + b.length - m.length = 0 from by omega]
  simp [List.append_assoc]
/-- Many cells written. -/
theorem storeMany_spec {l : List Seg} {s : Nat} {d : T} {n : Nat} {c : List T} {x l' : List Seg} (hw : segsWf S ρ l) (hx : segsWf S ρ x) (hn : (segsDen S ρ B x).length = n) (h : storeMany l s d n x = some (c, l')) (hc : Met S ρ c) :
    segsDen S ρ B l' = (segsDen S ρ B l).take (s + (d.I S ρ).toNat) ++ (segsDen S ρ B x ++ (segsDen S ρ B l).drop (s + (d.I S ρ).toNat + n)) ∧ segsWf S ρ l' ∧ s + (d.I S ρ).toNat + n ≤ (segsDen S ρ B l).length := by
  unfold storeMany at h
  split at h
  · rename_i hd
    rw [isZ_iff] at hd; subst hd
    split at h
    · rename_i p y hp
      obtain ⟨h1, h2, h3, h4⟩ := splitSegs_spec (B := B) hw hp
      cases hq : splitSegs y n with
      | none => simp [hq] at h
      | some xy =>
        obtain ⟨x', y'⟩ := xy
        simp [hq] at h
        obtain ⟨rfl, rfl⟩ := h
        obtain ⟨k1, k2, k3, k4⟩ := splitSegs_spec (B := B) h4 hq
        simp only [T.I, Int.toNat_zero, Nat.add_zero]
        refine ⟨?_, segsWf_append.2 ⟨h3, segsWf_append.2 ⟨hx, k4⟩⟩, ?_⟩
        · rw [← h1, ← k1, ← h2, List.take_append_length, segsDen_append, segsDen_append]
          congr 2
          rw [List.drop_append, List.drop_eq_nil_of_le (by omega), List.nil_append, List.drop_append, List.drop_eq_nil_of_le (by omega), List.nil_append]
          rw [show (segsDen S ρ B p).length + n - (segsDen S ρ B p).length - (segsDen S ρ B x').length = 0 from by omega]; rfl
        · rw [← h1, ← k1]; simp; omega
    · cases h
  · split at h
    · rename_i p k a m j q k' b n' hs
      split at h
      · rename_i hk
        obtain ⟨rfl, rfl⟩ := hk
        obtain ⟨rfl, h2, h3⟩ := seek_spec (B := B) hw hs
        simp only [Option.some.injEq, Prod.mk.injEq] at h
        obtain ⟨rfl, rfl⟩ := h
        obtain ⟨hd, hi⟩ := rangeN_met hc
        have hl : (a.A S ρ).length = m := (segsWf_cons.1 (segsWf_append.1 hw).2).1
        simp only [mkAdd_I, T.I] at hi
        have hb : (b.A S ρ).length = n' := by simpa [segsDen_cons, segsDen_nil, Seg.den] using hn
        refine ⟨?_, ?_, ?_⟩
        · have := splice_mid (segsDen S ρ B p) ((a.A S ρ).map (Value.int k)) (segsDen S ρ B q) (j + (d.I S ρ).toNat) ((b.A S ρ).map (Value.int k)) (by simp; omega)
          simp only [List.length_map, hb] at this
          simp only [segsDen_append, segsDen_cons, segsDen_nil, List.append_nil, Seg.den]
          rw [← h2, Nat.add_assoc (segsDen S ρ B p).length, this]
          simp only [T.A, spliceL, mkAdd_I, T.I, List.map_append, List.map_take, List.map_drop]
          rw [show ((j : Int) + d.I S ρ).toNat = j + (d.I S ρ).toNat from by omega, hb]
        · have := segsWf_append.1 hw
          exact segsWf_append.2 ⟨this.1, segsWf_cons.2 ⟨by simp [Seg.wf, T.A, spliceL, mkAdd_I, T.I]; omega, (segsWf_cons.1 this.2).2⟩⟩
        · rw [segsDen_append, segsDen_cons, ← h2]; simp [Seg.den]; omega
      · cases h
    · rename_i p k a j q k' b n' hs
      split at h
      · rename_i hk
        obtain ⟨rfl, rfl⟩ := hk
        obtain ⟨rfl, h2, h3⟩ := seek_spec (B := B) hw hs
        simp only [Option.some.injEq, Prod.mk.injEq] at h
        obtain ⟨rfl, rfl⟩ := h
        obtain ⟨hd, hi⟩ := rangeN_met hc
        simp only [mkAdd_I, T.I] at hi
        have hb : (b.A S ρ).length = n' := by simpa [segsDen_cons, segsDen_nil, Seg.den] using hn
        refine ⟨?_, ?_, ?_⟩
        · have := splice_mid (segsDen S ρ B p) ((a.A S ρ).map (Value.int k)) (segsDen S ρ B q) (j + (d.I S ρ).toNat) ((b.A S ρ).map (Value.int k)) (by simp; omega)
          simp only [List.length_map, hb] at this
          simp only [segsDen_append, segsDen_cons, segsDen_nil, List.append_nil, Seg.den]
          rw [← h2, Nat.add_assoc (segsDen S ρ B p).length, this]
          simp only [T.A, spliceL, mkAdd_I, T.I, List.map_append, List.map_take, List.map_drop]
          rw [show ((j : Int) + d.I S ρ).toNat = j + (d.I S ρ).toNat from by omega, hb]
        · have := segsWf_append.1 hw
          exact segsWf_append.2 ⟨this.1, segsWf_cons.2 ⟨trivial, (segsWf_cons.1 this.2).2⟩⟩
        · rw [segsDen_append, segsDen_cons, ← h2]; simp [Seg.den]; omega
      · cases h
    · cases h
end
end
end Go.Proofs.YtljjbikbfeigdaaGreatDoor
namespace Go.Proofs.YtljjbikbfeigdaaGreatDoor
noncomputable section
open Go
/-- The slice that grows is as told: nil, or at the head of a block of its own. -/
def OwAt (S : Sig) (ρ : Env) (w0 : World) (h : Hp) (o : OW) (w : World) : Prop :=
  (ρ.v o.v = .slice none 0 0 ∧ o.a.A S ρ = []) ∨
  ∃ b cap, ρ.v o.v = .slice (some ⟨b, 0, none⟩) (o.a.A S ρ).length cap ∧ (o.a.A S ρ).length ≤ cap ∧
    w.heap[b]? = some (.cells ((o.a.A S ρ).map (Value.int o.k) ++ List.replicate (cap - (o.a.A S ρ).length) (Value.int o.k 0)).toArray o.e (0, 0)) ∧
    (w0.heap.size ≤ b ∨ b ∈ ρ.loose) ∧ (∀ x ∈ h.rw, x.1.blk ρ w0.heap.size ≠ b) ∧ ∀ x ∈ h.ro, x.1.blk ρ w0.heap.size ≠ b
/-- The world w, which goes on from w0, is as h says. -/
structure HpOk (S : Sig) (ρ : Env) (w0 : World) (h : Hp) (w : World) : Prop where
  rw_ : ∀ x ∈ h.rw, w.heap[x.1.blk ρ w0.heap.size]? = some (.cells (segsDen S ρ w0.heap.size x.2.segs).toArray x.2.ty (0, 0))
  wf : ∀ x ∈ h.rw, segsWf S ρ x.2.segs
  off : ∀ x ∈ h.rw, x.1.off ρ = 0
  nd : (h.rw.map fun x => x.1.blk ρ w0.heap.size).Nodup
  ro : ∀ x ∈ h.ro, ∀ j v, (x.2.2.A S ρ)[j]? = some v → w.cell? ⟨x.1.blk ρ w0.heap.size, x.1.off ρ + j, none⟩ = some (.int x.2.1 v)
  apart : ∀ x ∈ h.ro, ∀ y ∈ h.rw, x.1.blk ρ w0.heap.size ≠ y.1.blk ρ w0.heap.size
  rolt : ∀ x ∈ h.ro, x.1.blk ρ w0.heap.size < w0.heap.size
  size : w.heap.size = w0.heap.size + ρ.nb h.na
  nbs : ∀ k, h.na ≤ k → ρ.nb (k + 1) = ρ.nb k + 1
  frame : ∀ i, i < w0.heap.size → i ∉ ρ.loose → (∀ x ∈ h.rw, x.1.blk ρ w0.heap.size ≠ i) → w.heap[i]? = w0.heap[i]?
  own : ∀ o, h.ow = some o → OwAt S ρ w0 h o w
  os : w.os = w0.os
  tape : w.tape = w0.tape
  output : w.output = w0.output
section
variable {S : Sig} {ρ : Env} {w0 w : World} {h : Hp} {P : Program}
theorem HpOk.drew (hh : HpOk S ρ w0 h w) : HpOk S ρ w0 h w.drew :=
  ⟨hh.rw_, hh.wf, hh.off, hh.nd, hh.ro, hh.apart, hh.rolt, hh.size, hh.nbs, hh.frame, hh.own, hh.os, hh.tape, hh.output⟩
theorem findB_mem : ∀ {l : List (Ref × Blk)} {r : Ref} {b : Blk}, findB l r = some b → (r, b) ∈ l
  | [], _, _, h => by simp [findB] at h
  | (q, c) :: l, r, b, h => by
    unfold findB at h
    split at h
    · rename_i e; have e := Ref.code_inj e; subst e; injection h with h; subst h; simp
    · exact List.mem_cons_of_mem _ (findB_mem h)
theorem findRO_mem : ∀ {l : List (Ref × IntKind × T)} {r : Ref} {b : IntKind × T}, findRO l r = some b → (r, b) ∈ l
  | [], _, _, h => by simp [findRO] at h
  | (q, c) :: l, r, b, h => by
    unfold findRO at h
    split at h
    · rename_i e; have e := Ref.code_inj e; subst e; injection h with h; subst h; simp
    · exact List.mem_cons_of_mem _ (findRO_mem h)
theorem setB_map (f : Ref → Nat) : ∀ (l : List (Ref × Blk)) (r : Ref) (c : Blk), (setB l r c).map (fun x => f x.1) = l.map (fun x => f x.1)
  | [], _, _ => rfl
  | (q, d) :: l, r, c => by
    unfold setB; split
    · rfl
    · simp [setB_map f l r c]
theorem mem_setB : ∀ {l : List (Ref × Blk)} {r : Ref} {c : Blk} {x : Ref × Blk} (f : Ref → Nat), (l.map (fun x => f x.1)).Nodup → x ∈ setB l r c → x = (r, c) ∨ (x ∈ l ∧ ((∃ b, (r, b) ∈ l) → f x.1 ≠ f r))
  | [], _, _, _, _, _, h => by simp [setB] at h
  | (q, d) :: l, r, c, x, f, hn, h => by
    simp only [List.map_cons, List.nodup_cons] at hn
    unfold setB at h
    split at h
    · rename_i e
      have e := Ref.code_inj e
      subst e
      rcases List.mem_cons.1 h with h | h
      · exact .inl h
      · refine .inr ⟨List.mem_cons_of_mem _ h, fun _ e => hn.1 ?_⟩
        rw [← e]; exact List.mem_map.2 ⟨x, h, rfl⟩
    · rename_i e
      have e := Ref.code_ne e
      rcases List.mem_cons.1 h with h | h
      · subst h
        refine .inr ⟨by simp, fun ⟨b, hb⟩ e' => ?_⟩
        rcases List.mem_cons.1 hb with hb | hb
        · injection hb with hb _; exact e hb.symm
        · apply hn.1; rw [e']; exact List.mem_map.2 ⟨(r, b), hb, rfl⟩
      · rcases mem_setB f hn.2 h with h | ⟨h1, h2⟩
        · exact .inl h
        · refine .inr ⟨List.mem_cons_of_mem _ h1, fun ⟨b, hb⟩ => ?_⟩
          rcases List.mem_cons.1 hb with hb | hb
          · injection hb with hb _; exact absurd hb.symm e
          · exact h2 ⟨b, hb⟩
/-- One block has turned. -/
theorem HpOk.upd (hh : HpOk S ρ w0 h w) {r : Ref} {b : Blk} (hb : findB h.rw r = some b) {segs : List Seg} (hwf : segsWf S ρ segs) {w' : World}
    (h1 : w'.heap[r.blk ρ w0.heap.size]? = some (.cells (segsDen S ρ w0.heap.size segs).toArray b.ty (0, 0))) (h2 : ∀ i, i ≠ r.blk ρ w0.heap.size → w'.heap[i]? = w.heap[i]?)
    (h3 : w'.heap.size = w.heap.size) (h4 : w'.os = w.os) (h5 : w'.tape = w.tape) (h6 : w'.output = w.output) :
    HpOk S ρ w0 { h with rw := setB h.rw r { b with segs := segs } } w' := by
  have hm := findB_mem hb
  have key : ∀ x ∈ setB h.rw r { b with segs := segs }, x = (r, { b with segs := segs }) ∨ (x ∈ h.rw ∧ x.1.blk ρ w0.heap.size ≠ r.blk ρ w0.heap.size) := fun x hx => by
    rcases mem_setB (fun q => q.blk ρ w0.heap.size) hh.nd hx with h | ⟨h1, h2⟩
    · exact .inl h
    · exact .inr ⟨h1, h2 ⟨b, hm⟩⟩
  have back : ∀ x ∈ setB h.rw r { b with segs := segs }, ∃ y ∈ h.rw, x.1 = y.1 := fun x hx => by
    rcases key x hx with h | ⟨h, _⟩
    · subst h; exact ⟨(r, b), hm, rfl⟩
    · exact ⟨x, h, rfl⟩
  have fwd : ∀ i, (∀ x ∈ setB h.rw r { b with segs := segs }, x.1.blk ρ w0.heap.size ≠ i) → ∀ x ∈ h.rw, x.1.blk ρ w0.heap.size ≠ i := by
    intro i hi x hx e
    have h7 : i ∈ (setB h.rw r { b with segs := segs }).map (fun x => x.1.blk ρ w0.heap.size) := by
      rw [setB_map (fun q => q.blk ρ w0.heap.size)]; exact List.mem_map.2 ⟨x, hx, e⟩
    obtain ⟨y, hy, e'⟩ := List.mem_map.1 h7
    exact hi y hy e'
  refine ⟨?_, ?_, ?_, ?_, ?_, ?_, hh.rolt, h3.trans hh.size, hh.nbs, ?_, ?_, h4.trans hh.os, h5.trans hh.tape, h6.trans hh.output⟩
  · intro x hx
    rcases key x hx with h | ⟨h, hne⟩
    · subst h; exact h1
    · rw [h2 _ hne]; exact hh.rw_ x h
  · intro x hx
    rcases key x hx with h | ⟨h, hne⟩
    · subst h; exact hwf
    · exact hh.wf x h
  · intro x hx
    obtain ⟨y, hy, e⟩ := back x hx
    rw [e]; exact hh.off y hy
  · show ((setB h.rw r { b with segs := segs }).map fun x => x.1.blk ρ w0.heap.size).Nodup
    rw [setB_map (fun q => q.blk ρ w0.heap.size)]; exact hh.nd
  · intro x hx j v hv
    rw [World.cell?_of_block (w := w) (h2 _ (hh.apart x hx (r, b) hm))]
    exact hh.ro x hx j v hv
  · intro x hx y hy
    obtain ⟨z, hz, e⟩ := back y hy
    rw [e]; exact hh.apart x hx z hz
  · intro i hi hlo hne
    rw [h2 i (by have := fwd i hne (r, b) hm; exact fun e => this e.symm)]
    exact hh.frame i hi hlo (fwd i hne)
  · intro o ho
    rcases hh.own o ho with h | ⟨p, cap, q1, q2, q3, q4, q5, q6⟩
    · exact .inl h
    · refine .inr ⟨p, cap, q1, q2, ?_, q4, fun x hx => ?_, q6⟩
      · rw [h2 p (fun e => q5 (r, b) hm e.symm)]; exact q3
      · obtain ⟨y, hy, e⟩ := back x hx
        rw [e]; exact q5 y hy
/-- A new block. -/
theorem HpOk.push (hh : HpOk S ρ w0 h w) (t : Nat) {segs : List Seg} (hwf : segsWf S ρ segs) :
    HpOk S ρ w0 (pushB h ⟨t, segs⟩) (w.alloc (.cells (segsDen S ρ w0.heap.size segs).toArray t)) := by
  have hlt : ∀ x ∈ h.rw, x.1.blk ρ w0.heap.size < w.heap.size := fun x hx => (Array.getElem?_eq_some_iff.1 (hh.rw_ x hx)).1
  have hn : (Ref.new h.na).blk ρ w0.heap.size = w.heap.size := hh.size.symm
  have hold : ∀ i, i < w.heap.size → (w.alloc (.cells (segsDen S ρ w0.heap.size segs).toArray t)).heap[i]? = w.heap[i]? := fun i hi => heap_alloc_old w _ hi
  refine ⟨?_, ?_, ?_, ?_, ?_, ?_, ?_, ?_, fun k hk => hh.nbs k (Nat.le_of_succ_le hk), ?_, ?_, hh.os, hh.tape, hh.output⟩
  · intro x hx
    rcases List.mem_append.1 hx with hx | hx
    · rw [hold _ (hlt x hx)]; exact hh.rw_ x hx
    · simp only [List.mem_singleton] at hx
      subst hx
      simp only [hn]
      exact heap_alloc_new w _
  · intro x hx
    rcases List.mem_append.1 hx with hx | hx
    · exact hh.wf x hx
    · simp only [List.mem_singleton] at hx
      subst hx
      exact hwf
  · intro x hx
    rcases List.mem_append.1 hx with hx | hx
    · exact hh.off x hx
    · simp only [List.mem_singleton] at hx
      subst hx
      rfl
  · show ((h.rw ++ [(Ref.new h.na, (⟨t, segs⟩ : Blk))]).map fun x => x.1.blk ρ w0.heap.size).Nodup
    rw [List.map_append, List.nodup_append]
    refine ⟨hh.nd, by simp, ?_⟩
    intro a ha b hb e
    obtain ⟨x, hx, e'⟩ := List.mem_map.1 ha
    simp only [List.map_cons, List.map_nil, List.mem_singleton] at hb
    have := hlt x hx
    rw [hn] at hb
    omega
  · intro x hx j v hv
    have hc := hh.ro x hx j v hv
    rw [World.cell?_alloc_lt w _ _ (World.block_lt_of_cell? w _ hc)]
    exact hc
  · intro x hx y hy
    rcases List.mem_append.1 hy with hy | hy
    · exact hh.apart x hx y hy
    · simp only [List.mem_singleton] at hy
      subst hy
      simp only [hn]
      have := hh.rolt x hx
      have := hh.size
      omega
  · exact hh.rolt
  · simp only [World.size_alloc, pushB]; rw [hh.size, hh.nbs h.na (Nat.le_refl _)]; omega
  · intro i hi hlo hne
    have := hh.size
    rw [hold i (by omega)]
    exact hh.frame i hi hlo fun x hx => hne x (List.mem_append.2 (.inl hx))
  · intro o ho
    rcases hh.own o ho with h | ⟨p, cap, q1, q2, q3, q4, q5, q6⟩
    · exact .inl h
    · have hp : p < w.heap.size := (Array.getElem?_eq_some_iff.1 q3).1
      refine .inr ⟨p, cap, q1, q2, by rw [hold p hp]; exact q3, q4, fun x hx => ?_, q6⟩
      rcases List.mem_append.1 hx with hx | hx
      · exact q5 x hx
      · simp only [List.mem_singleton] at hx
        subst hx
        rw [hn]; omega
/-- The operation yields v and leaves w'. -/
def Yields (P : Program) (a : Act) (w : World) (o : Oper) (v : Value) (w' : World) : Prop :=
  (execOp a.eval o).run P w = .ok (.value v) w' ∨ ((execOp a.eval o).run P w = .ok .skip w' ∧ v = undef)
theorem Yields.wp {a : Act} {o : Oper} {v : Value} {w' : World} (hy : Yields P a w o v w') {K : Act → World → Prop} {Q : Exit → Act → World → Prop} (hK : K (a.put o.dst v) w') : o.wp P a w K Q := by
  unfold Oper.wp
  rcases hy with hy | ⟨hy, rfl⟩ <;> rw [hy] <;> exact hK
theorem leafOf_den {v : Value} {l : Leaf} {B : Nat} (hv : leafOf v = some l) : l.den S ρ B = v := by
  unfold leafOf at hv
  split at hv <;> try (simp only [Option.some.injEq] at hv)
  · subst hv; rfl
  · subst hv; simp [Leaf.den, ofBool_B]
  · subst hv; rfl
  · subst hv; rfl
  · subst hv; rfl
  · subst hv; rfl
  · rename_i f x y
    split at hv
    · rename_i hc
      injection hv with hv
      subst hv
      simp only [Leaf.den]
      rw [Array.eq_empty_of_size_eq_zero hc.1, Array.eq_empty_of_size_eq_zero hc.2]
    · cases hv
  · rename_i vs
    split at hv
    · rename_i hc
      injection hv with hv
      subst hv
      simp only [Leaf.den, undef]
      rw [Array.eq_empty_of_size_eq_zero hc]
    · cases hv
  · cases hv
/-- The frame's temporaries that are asked for are as the symbolic frame says. -/
def Agree (S : Sig) (ρ : Env) (B : Nat) (fr : Nat → SR) (a : Act) (xs : Array Operand) : Prop := ∀ t, Operand.tmp t ∈ xs → a.tmps.getD t undef = (fr t).den S ρ B
theorem evS_den {fr : Nat → SR} {a : Act} {xs : Array Operand} {B : Nat} (ha : Agree S ρ B fr a xs) {x : Operand} (hx : x ∈ xs) {r : SR} (hr : evS fr x = some r) : a.eval x = r.den S ρ B := by
  cases x with
  | tmp t => simp only [evS, Option.some.injEq] at hr; subst hr; exact ha t hx
  | const v =>
    simp only [evS, Option.map_eq_some_iff] at hr
    obtain ⟨l, hl, rfl⟩ := hr
    simp only [Act.eval, Leaf.sr, SR.den, SV.den]
    exact (leafOf_den hl).symm
  | global g => simp only [evS, Option.some.injEq] at hr; subst hr; simp [Act.eval, SR.den, SV.den, Leaf.den, addrOf, Ref.blk, Ref.off, T.I]
  | func f => simp only [evS, Option.some.injEq] at hr; subst hr; simp [Act.eval, SR.den, SV.den, Leaf.den]
theorem evL_den {fr : Nat → SR} {a : Act} {xs : Array Operand} {B : Nat} (ha : Agree S ρ B fr a xs) {x : Operand} (hx : x ∈ xs) {l : Leaf} (hl : evL fr x = some l) : a.eval x = l.den S ρ B := by
  unfold evL at hl
  split at hl
  · rename_i l' hr
    injection hl with hl
    subst hl
    exact evS_den ha hx hr
  · cases hl
theorem getSR_wf {fr : List SR} (hf : ∀ x ∈ fr, x.wf S ρ) (t : Nat) : (getSR fr t).wf S ρ := by
  unfold getSR
  rw [List.getD_eq_getElem?_getD]
  cases ht : fr[t]? with
  | none => trivial
  | some x => exact hf x (List.mem_of_getElem? ht)
theorem evS_wf {fr : Nat → SR} (hf : ∀ t, (fr t).wf S ρ) {x : Operand} {r : SR} (hr : evS fr x = some r) : r.wf S ρ := by
  cases x with
  | tmp t => simp only [evS, Option.some.injEq] at hr; subst hr; exact hf t
  | const v =>
    simp only [evS, Option.map_eq_some_iff] at hr
    obtain ⟨l, hl, rfl⟩ := hr
    trivial
  | global g => simp only [evS, Option.some.injEq] at hr; subst hr; trivial
  | func f => simp only [evS, Option.some.injEq] at hr; subst hr; trivial
end
end
end Go.Proofs.YtljjbikbfeigdaaGreatDoor
namespace Go.Proofs.YtljjbikbfeigdaaGreatDoor
noncomputable section
open Go
section
variable {S : Sig} {ρ : Env} {w0 w : World} {h : Hp} {P : Program} {B : Nat}
theorem met_one {t : T} (h : Met S ρ (needs [t])) : t.B S ρ = true := (met_cons.1 (met_needs h)).1
theorem eqOk_bool {t : TypeId} {a : T} (h : eqTypeOk P t (.bool a) = true) : P.underlying t = some .bool := by
  unfold eqTypeOk at h
  cases hu : P.underlying t with
  | none => simp [hu] at h
  | some d => cases d <;> simp [hu] at h; rfl
theorem eqOk_nilI {t : TypeId} (h : eqTypeOk P t .nilI = true) : ∃ ms, P.underlying t = some (.interface ms) := by
  unfold eqTypeOk at h
  cases hu : P.underlying t with
  | none => simp [hu] at h
  | some d => cases d <;> simp [hu] at h; exact ⟨_, rfl⟩
theorem eqOk_iface {t u : TypeId} {x : Leaf} (h : eqTypeOk P t (.iface u x) = true) : ∃ ms, P.underlying t = some (.interface ms) := by
  unfold eqTypeOk at h
  cases hu : P.underlying t with
  | none => simp [hu] at h
  | some d => cases d <;> simp [hu] at h; exact ⟨_, rfl⟩
theorem eqOk_nilp {t : TypeId} (h : eqTypeOk P t .nilp = true) : ∃ e, P.underlying t = some (.pointer e) := by
  unfold eqTypeOk at h
  cases hu : P.underlying t with
  | none => simp [hu] at h
  | some d => cases d <;> simp [hu] at h; exact ⟨_, rfl⟩
theorem eqOk_ptr {t : TypeId} {r : Ref} {s : Nat} {d : T} (h : eqTypeOk P t (.ptr r s d) = true) : ∃ e, P.underlying t = some (.pointer e) := by
  unfold eqTypeOk at h
  cases hu : P.underlying t with
  | none => simp [hu] at h
  | some d => cases d <;> simp [hu] at h; exact ⟨_, rfl⟩
theorem run_eqGuard_const {op : BinOp} {t : TypeId} {X Y : Operand} (h : (isConstOp X || isConstOp Y) = true) : (eqGuard op t X Y .nilIface .nilIface).run P w = .ok () w := by
  unfold eqGuard
  cases X <;> cases Y <;> simp_all [isConstOp] <;> cases op <;> simp
theorem run_equalIn_nilI {t : TypeId} {ms : Array (String × TypeId)} (hd : P.underlying t = some (.interface ms)) (d : Nat) : (Op.equalIn (d + 1) t .nilIface .nilIface).run P w = .ok true w := by
  simp [Op.equalIn, run_underlying hd]
theorem run_equal_nilI {t : TypeId} {ms : Array (String × TypeId)} (hd : P.underlying t = some (.interface ms)) : (Op.equal t .nilIface .nilIface).run P w = .ok true w := run_equalIn_nilI hd 9999
theorem run_equalIn_iface_nilI {t u : TypeId} {x : Value} {ms : Array (String × TypeId)} (hd : P.underlying t = some (.interface ms)) (d : Nat) : (Op.equalIn (d + 1) t (.iface u x) .nilIface).run P w = .ok false w := by
  simp [Op.equalIn, run_underlying hd]
theorem run_equal_iface_nilI {t u : TypeId} {x : Value} {ms : Array (String × TypeId)} (hd : P.underlying t = some (.interface ms)) : (Op.equal t (.iface u x) .nilIface).run P w = .ok false w := run_equalIn_iface_nilI hd 9999
theorem run_equalIn_nilp {t e : TypeId} {x : Option Addr} (hd : P.underlying t = some (.pointer e)) (d : Nat) : (Op.equalIn (d + 1) t (.pointer x) (.pointer none)).run P w = .ok x.isNone w := by
  cases x <;> simp [Op.equalIn, run_underlying hd]
theorem run_equal_nilp {t e : TypeId} {x : Option Addr} (hd : P.underlying t = some (.pointer e)) : (Op.equal t (.pointer x) (.pointer none)).run P w = .ok x.isNone w := run_equalIn_nilp hd 9999
theorem fitS_ok {k : IntKind} {c : List T} {s : T} (hm : Met S ρ (c ++ (fitS k s).1)) : Met S ρ c ∧ (fitS k s).2.I S ρ = k.wrap (s.I S ρ) := by
  obtain ⟨m1, m2⟩ := met_append.1 hm
  refine ⟨m1, ?_⟩
  unfold fitS at m2 ⊢
  split
  · have m2 := met_needs m2
    have b1 := (met_cons.1 m2).1
    have b2 := (met_cons.1 (met_cons.1 m2).2).1
    rw [mkLe_B] at b1 b2
    have b1 := of_decide_eq_true b1
    have b2 := of_decide_eq_true b2
    simp only [T.I] at b1 b2
    show s.I S ρ = _
    rw [IntKind.wrap_i64]; omega
  · exact mkWrap_I _ _
theorem fitL_ok {k : IntKind} {c d : List T} {s : T} {l : Leaf} (h : fitL k c s = some (d, l)) (hm : Met S ρ d) : Met S ρ c ∧ ∃ u : T, l = .int k u ∧ u.I S ρ = k.wrap (s.I S ρ) := by
  unfold fitL at h
  simp only [Option.some.injEq, Prod.mk.injEq] at h
  obtain ⟨rfl, rfl⟩ := h
  obtain ⟨h1, h2⟩ := fitS_ok hm
  exact ⟨h1, _, rfl, h2⟩
set_option maxHeartbeats 1000000 in
theorem bin_ok {op : BinOp} {t : TypeId} {X Y : Operand} {x y l : Leaf} {c : List T} (ht : eqTypeOk P t x = true) (hb : binS op x y (isConstOp X) (isConstOp Y) = some (c, l)) (hm : Met S ρ c) :
    (do eqGuard op t X Y (x.den S ρ B) (y.den S ρ B); binOp op t (x.den S ρ B) (y.den S ρ B) : Sem Value).run P w = .ok (l.den S ρ B) w := by
  unfold binS at hb
  split at hb
  · rename_i k a k' b
    obtain ⟨hm, u, rfl, hu⟩ := fitL_ok hb hm
    have h1 := met_one hm
    rw [mkLe_B, decide_eq_true_eq] at h1
    simp only [T.I] at h1
    have h2 : ¬ (b.I S ρ < 0) := by omega
    simp [eqGuard, binOp, Leaf.den, Op.shift, h2, hu, mkShl_I]
  · rename_i k a k' b
    simp only [Option.some.injEq, Prod.mk.injEq] at hb
    obtain ⟨rfl, rfl⟩ := hb
    have h1 := met_one hm
    rw [mkLe_B, decide_eq_true_eq] at h1
    simp only [T.I] at h1
    have h2 : ¬ (b.I S ρ < 0) := by omega
    simp [eqGuard, binOp, Leaf.den, Op.shift, h2, mkShr_I]
  · rename_i k a k' b hne1 hne2
    split at hb
    · cases hb
    · rename_i hk
      have hk : k = k' := by simpa using hk
      subst hk
      split at hb <;> (try simp only [fitL, Option.some.injEq, Prod.mk.injEq] at hb) <;> (try (obtain ⟨rfl, rfl⟩ := hb))
      · simp [eqGuard, binOp, Leaf.den, Op.intArith, (fitS_ok hm).2, mkAdd_I]
      · simp [eqGuard, binOp, Leaf.den, Op.intArith, (fitS_ok hm).2, mkSub_I]
      · simp [eqGuard, binOp, Leaf.den, Op.intArith, (fitS_ok hm).2, mkMul_I]
      · have h1 := met_one (fitS_ok hm).1
        rw [mkNot_B, mkEq_B, Bool.not_eq_true'] at h1
        have h2 := of_decide_eq_false h1
        simp only [T.I] at h2
        simp [eqGuard, binOp, Leaf.den, Op.intDiv, h2, (fitS_ok hm).2, mkTdiv_I]
      · have h1 := met_one hm
        rw [mkNot_B, mkEq_B, Bool.not_eq_true'] at h1
        have h2 := of_decide_eq_false h1
        simp only [T.I] at h2
        simp [eqGuard, binOp, Leaf.den, Op.intDiv, h2, mkTmod_I]
      · simp [eqGuard, binOp, Leaf.den, Op.intBits, mkBits_I, bitsOf]
      · simp [eqGuard, binOp, Leaf.den, Op.intBits, mkBits_I, bitsOf]
      · simp [eqGuard, binOp, Leaf.den, Op.intBits, mkBits_I, bitsOf]
      · simp [eqGuard, binOp, Leaf.den, Op.intBits, mkBits_I, bitsOf]
      · simp [eqGuard, binOp, Leaf.den, Op.intCmp, mkEq_B]; rfl
      · simp [eqGuard, binOp, Leaf.den, Op.intCmp, mkEq_B, mkNot_B]; rfl
      · simp [eqGuard, binOp, Leaf.den, Op.intCmp, mkLt_B]
      · simp [eqGuard, binOp, Leaf.den, Op.intCmp, mkLe_B]
      · simp [eqGuard, binOp, Leaf.den, Op.intCmp, mkLt_B]
      · simp [eqGuard, binOp, Leaf.den, Op.intCmp, mkLe_B]
  · rename_i a b
    simp only [Option.some.injEq, Prod.mk.injEq] at hb
    obtain ⟨rfl, rfl⟩ := hb
    obtain hd := eqOk_bool ht
    simp [eqGuard, binOp, Leaf.den, run_equal_bool w t _ _ hd, mkBeq_B]
  · rename_i a b
    simp only [Option.some.injEq, Prod.mk.injEq] at hb
    obtain ⟨rfl, rfl⟩ := hb
    obtain hd := eqOk_bool ht
    simp [eqGuard, binOp, Leaf.den, run_equal_bool w t _ _ hd, mkBeq_B, mkNot_B]
  · split at hb
    · rename_i hc
      simp only [Option.some.injEq, Prod.mk.injEq] at hb
      obtain ⟨rfl, rfl⟩ := hb
      obtain ⟨ms, hd⟩ := eqOk_nilI ht
      simp [binOp, Leaf.den, run_eqGuard_const hc, run_equal_nilI hd, T.B]
    · cases hb
  · split at hb
    · rename_i hc
      simp only [Option.some.injEq, Prod.mk.injEq] at hb
      obtain ⟨rfl, rfl⟩ := hb
      obtain ⟨ms, hd⟩ := eqOk_nilI ht
      simp [binOp, Leaf.den, run_eqGuard_const hc, run_equal_nilI hd, T.B]
    · cases hb
  · simp only [Option.some.injEq, Prod.mk.injEq] at hb
    obtain ⟨rfl, rfl⟩ := hb
    obtain ⟨ms, hd⟩ := eqOk_iface ht
    simp [eqGuard, binOp, Leaf.den, run_equal_iface_nilI hd, T.B]
  · simp only [Option.some.injEq, Prod.mk.injEq] at hb
    obtain ⟨rfl, rfl⟩ := hb
    obtain ⟨ms, hd⟩ := eqOk_iface ht
    simp [eqGuard, binOp, Leaf.den, run_equal_iface_nilI hd, T.B]
  · simp only [Option.some.injEq, Prod.mk.injEq] at hb
    obtain ⟨rfl, rfl⟩ := hb
    obtain ⟨ms, hd⟩ := eqOk_nilp ht
    simp [eqGuard, binOp, Leaf.den, run_equal_nilp hd, T.B]
  · simp only [Option.some.injEq, Prod.mk.injEq] at hb
    obtain ⟨rfl, rfl⟩ := hb
    obtain ⟨ms, hd⟩ := eqOk_nilp ht
    simp [eqGuard, binOp, Leaf.den, run_equal_nilp hd, T.B]
  · simp only [Option.some.injEq, Prod.mk.injEq] at hb
    obtain ⟨rfl, rfl⟩ := hb
    obtain ⟨ms, hd⟩ := eqOk_ptr ht
    simp [eqGuard, binOp, Leaf.den, run_equal_nilp hd, T.B]
  · simp only [Option.some.injEq, Prod.mk.injEq] at hb
    obtain ⟨rfl, rfl⟩ := hb
    obtain ⟨ms, hd⟩ := eqOk_ptr ht
    simp [eqGuard, binOp, Leaf.den, run_equal_nilp hd, T.B]
  · cases hb
theorem run_size {t : TypeId} {n : Nat} (h : sizeT P t = some n) : (sizeOf t).run P w = .ok n w := by
  unfold sizeT at h
  cases hi : P.info? t with
  | none => simp [hi] at h
  | some i => simp [hi] at h; subst h; simp [sizeOf, typeInfo, hi]
theorem run_isAgg {t : TypeId} {d : TypeDesc} (hd : P.underlying t = some d) : (isAgg t).run P w = .ok (isAggT P t) w := by
  unfold isAgg isAggT
  simp only [Sem.run_bind, run_underlying hd, Result.andThen_ok, hd]
  cases d <;> rfl
theorem addr_add (b o n : Nat) : (⟨b, o, none⟩ : Addr).add n = ⟨b, o + n, none⟩ := Addr.add_lit b o n
theorem toNat_move {d i : Int} (z : Nat) (hd : 0 ≤ d) (hi : 0 ≤ i) : (d + i * z).toNat = d.toNat + i.toNat * z := by
  obtain ⟨a, rfl⟩ := Int.eq_ofNat_of_zero_le hd
  obtain ⟨b, rfl⟩ := Int.eq_ofNat_of_zero_le hi
  have h : (b : Int) * (z : Int) = ((b * z : Nat) : Int) := (Int.natCast_mul b z).symm
  simp only [h, Int.toNat_natCast]
  omega
theorem met3 {a b c : T} (h : Met S ρ (needs [a, b, c])) : a.B S ρ = true ∧ b.B S ρ = true ∧ c.B S ρ = true := by
  have h' := met_needs h
  exact ⟨(met_cons.1 h').1, (met_cons.1 (met_cons.1 h').2).1, (met_cons.1 (met_cons.1 (met_cons.1 h').2).2).1⟩
theorem le_of {a b : T} (h : (mkLe a b).B S ρ = true) : a.I S ρ ≤ b.I S ρ := by rw [mkLe_B, decide_eq_true_eq] at h; exact h
theorem lt_of {a b : T} (h : (mkLt a b).B S ρ = true) : a.I S ρ < b.I S ρ := by rw [mkLt_B, decide_eq_true_eq] at h; exact h
/-- An element's place. -/
theorem index_ok {t : TypeId} {x i l : Leaf} {c : List T} (hb : indexS P t x i = some (c, l)) (hm : Met S ρ c) : (Instr.indexAt t (x.den S ρ B) (i.den S ρ B)).run P w = .ok (l.den S ρ B) w := by
  unfold indexS at hb
  split at hb
  · rename_i k ti
    split at hb
    · rename_i n e r s d hu
      split at hb
      · rename_i z hz
        split at hb
        · rename_i q hqv
          have hqv := view_lit hqv
          subst hqv
          split at hb
          · rename_i hq
            simp only [Option.some.injEq, Prod.mk.injEq] at hb
            obtain ⟨rfl, rfl⟩ := hb
            simp [Instr.indexAt, Leaf.den, asIntOf, run_underlying hu, Instr.sureAddr, T.I, hq, run_size hz, addrOf, addr_add]
          · cases hb
        · simp only [Option.some.injEq, Prod.mk.injEq] at hb
          obtain ⟨rfl, rfl⟩ := hb
          obtain ⟨h1, h2, h3⟩ := met3 hm
          have h1 := le_of h1
          have h2 := lt_of h2
          have h3 := le_of h3
          simp only [T.I] at h1 h2 h3
          simp [Instr.indexAt, Leaf.den, asIntOf, run_underlying hu, Instr.sureAddr, T.I, h1, h2, run_size hz, addrOf, addr_add, mkAdd_I, mkMul_I, toNat_move z h3 h1]
      · cases hb
    · rename_i e r s d ln cp hu
      split at hb
      · rename_i z hz
        split at hb
        · rename_i q hqv
          have hqv := view_lit hqv
          subst hqv
          split at hb
          · rename_i hq
            simp only [Option.some.injEq, Prod.mk.injEq] at hb
            obtain ⟨rfl, rfl⟩ := hb
            have h1 := lt_of (met_one hm)
            simp only [T.I] at h1
            have hl : ((ln.I S ρ).toNat : Int) = ln.I S ρ := by omega
            simp only [Instr.indexAt, Leaf.den, asIntOf, run_underlying hu, T.I, Sem.run_bind, Sem.run_pure, Result.andThen_ok, hl]
            rw [if_pos ⟨hq, h1⟩]
            simp [run_size hz, addrOf, addr_add]
          · cases hb
        · simp only [Option.some.injEq, Prod.mk.injEq] at hb
          obtain ⟨rfl, rfl⟩ := hb
          obtain ⟨h1, h2, h3⟩ := met3 hm
          have h1 := le_of h1
          have h2 := lt_of h2
          have h3 := le_of h3
          simp only [T.I] at h1 h3
          have hl : ((ln.I S ρ).toNat : Int) = ln.I S ρ := by omega
          simp only [Instr.indexAt, Leaf.den, asIntOf, run_underlying hu, T.I, Sem.run_bind, Sem.run_pure, Result.andThen_ok, hl]
          rw [if_pos ⟨h1, h2⟩]
          simp [run_size hz, addrOf, addr_add, mkAdd_I, mkMul_I, T.I, toNat_move z h3 h1]
      · cases hb
    · cases hb
  · cases hb
end
end
end Go.Proofs.YtljjbikbfeigdaaGreatDoor
