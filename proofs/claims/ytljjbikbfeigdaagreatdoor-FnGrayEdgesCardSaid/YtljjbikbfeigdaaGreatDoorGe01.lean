/- Part of the proof of FnGrayEdgesCardSaid: Terms over integers, truth values and lists of integers, and what they denote: the language in which the walks of this claim are reckoned. No program stands here. -/
import Derived.WalkKit
import Derived.KernelRfl
import Derived.Deep.Draws
set_option linter.all false
namespace Go.Proofs.YtljjbikbfeigdaaGreatDoor
noncomputable section
open Go
/-- A term. -/
inductive T where
  | lit (n : Int) | tt | ff
  | iv (n : Nat) | bv (n : Nat) | av (n : Nat)
  | add (a b : T) | sub (a b : T) | mul (a b : T)
  | wrap (k : IntKind) (a : T)
  | tdiv (a b : T) | tmod (a b : T)
  | shl (k : IntKind) (a n : T) | shr (k : IntKind) (a n : T)
  | bits (o : BinOp) (k : IntKind) (a b : T)
  | mx (a b : T) | mn (a b : T)
  | eq (a b : T) | lt (a b : T) | le (a b : T)
  | beq (a b : T) | not (a : T) | and (a b : T) | or (a b : T)
  | ite (c a b : T) | bite (c a b : T)
  | len (a : T) | get (a i : T)
  | set (a i v : T) | rep (n v : T) | cut (a s n : T) | alit (l : List Int)
  | splice (a s b : T)
  | aeq (a b : T)
  | fi (f : Nat) (x y z u a b c d : T) | fb (f : Nat) (x y z u a b c d : T) | fa (f : Nat) (x y z u a b c d : T)
  deriving DecidableEq, Inhabited, Repr
/-- The functions that a term may name by number. -/
structure Sig where
  fi : Nat → Int → Int → Int → Int → List Int → List Int → List Int → List Int → Int
  fb : Nat → Int → Int → Int → Int → List Int → List Int → List Int → List Int → Bool
  fa : Nat → Int → Int → Int → Int → List Int → List Int → List Int → List Int → List Int
/-- What the letters stand for. -/
structure Env where
  i : Nat → Int := fun _ => 0
  b : Nat → Bool := fun _ => false
  a : Nat → List Int := fun _ => []
  v : Nat → Value := fun _ => undef
  j : Nat → Value := fun _ => undef
  blk : Nat → Nat := fun _ => 0
  off : Nat → Nat := fun _ => 0
  vs : Nat → List Value := fun _ => []
  nb : Nat → Nat := fun k => k
  loose : List Nat := []
/-- What Go's bit operators give. -/
def bitsOf (o : BinOp) (k : IntKind) (x y : Int) : Int :=
  let a := BitVec.ofInt k.bits x
  let b := BitVec.ofInt k.bits y
  match o with
  | .and => k.wrap (a &&& b).toNat
  | .or => k.wrap (a ||| b).toNat
  | .xor => k.wrap (a ^^^ b).toNat
  | .andNot => k.wrap (a &&& ~~~b).toNat
  | _ => 0
def imx (x y : Int) : Int := if y > x then y else x
def imn (x y : Int) : Int := if y < x then y else x
def ieq (x y : Int) : Bool := decide (x = y)
def ilt (x y : Int) : Bool := decide (x < y)
def ile (x y : Int) : Bool := decide (x ≤ y)
def leq (x y : List Int) : Bool := decide (x = y)
def spliceL (l : List Int) (s : Nat) (m : List Int) : List Int := l.take s ++ (m ++ l.drop (s + m.length))
section
variable (S : Sig) (ρ : Env)
mutual
def T.I : T → Int
  | .lit n => n
  | .iv n => ρ.i n
  | .add a b => a.I + b.I
  | .sub a b => a.I - b.I
  | .mul a b => a.I * b.I
  | .wrap k a => k.wrap a.I
  | .tdiv a b => a.I.tdiv b.I
  | .tmod a b => a.I.tmod b.I
  | .shl k a n => a.I * 2 ^ (Min.min n.I.toNat k.bits)
  | .shr k a n => a.I.fdiv (2 ^ (Min.min n.I.toNat k.bits))
  | .bits o k a b => bitsOf o k a.I b.I
  | .mx a b => imx a.I b.I
  | .mn a b => imn a.I b.I
  | .ite c a b => cond c.B a.I b.I
  | .len a => (a.A.length : Int)
  | .get a i => a.A.getD i.I.toNat 0
  | .fi f x y z u a b c d => S.fi f x.I y.I z.I u.I a.A b.A c.A d.A
  | _ => 0
def T.B : T → Bool
  | .tt => true
  | .bv n => ρ.b n
  | .eq a b => ieq a.I b.I
  | .lt a b => ilt a.I b.I
  | .le a b => ile a.I b.I
  | .beq a b => a.B == b.B
  | .not a => !a.B
  | .and a b => a.B && b.B
  | .or a b => a.B || b.B
  | .bite c a b => cond c.B a.B b.B
  | .aeq a b => leq a.A b.A
  | .fb f x y z u a b c d => S.fb f x.I y.I z.I u.I a.A b.A c.A d.A
  | _ => false
def T.A : T → List Int
  | .av n => ρ.a n
  | .set a i v => a.A.set i.I.toNat v.I
  | .rep n v => List.replicate n.I.toNat v.I
  | .cut a s n => (a.A.drop s.I.toNat).take n.I.toNat
  | .alit l => l
  | .splice a s b => spliceL a.A s.I.toNat b.A
  | .fa f x y z u a b c d => S.fa f x.I y.I z.I u.I a.A b.A c.A d.A
  | _ => []
end
end
/-- A term, as far as it is plain. -/
inductive V where
  | lit (n : Int) | tt | ff | other
inductive VA where
  | alit (l : List Int) | rep (n v : T) | other
noncomputable def T.view (t : T) : V := T.rec (motive := fun _ => V) (fun n => .lit n) .tt .ff (fun _ => .other) (fun _ => .other) (fun _ => .other) (fun _ _ _ _ => .other) (fun _ _ _ _ => .other) (fun _ _ _ _ => .other) (fun _ _ _ => .other) (fun _ _ _ _ => .other) (fun _ _ _ _ => .other) (fun _ _ _ _ _ => .other) (fun _ _ _ _ _ => .other) (fun _ _ _ _ _ _ => .other) (fun _ _ _ _ => .other) (fun _ _ _ _ => .other) (fun _ _ _ _ => .other) (fun _ _ _ _ => .other) (fun _ _ _ _ => .other) (fun _ _ _ _ => .other) (fun _ _ => .other) (fun _ _ _ _ => .other) (fun _ _ _ _ => .other) (fun _ _ _ _ _ _ => .other) (fun _ _ _ _ _ _ => .other) (fun _ _ => .other) (fun _ _ _ _ => .other) (fun _ _ _ _ _ _ => .other) (fun _ _ _ _ => .other) (fun _ _ _ _ _ _ => .other) (fun _ => .other) (fun _ _ _ _ _ _ => .other) (fun _ _ _ _ => .other) (fun _ _ _ _ _ _ _ _ _ _ _ _ _ _ _ _ _ => .other) (fun _ _ _ _ _ _ _ _ _ _ _ _ _ _ _ _ _ => .other) (fun _ _ _ _ _ _ _ _ _ _ _ _ _ _ _ _ _ => .other) t
noncomputable def T.viewA (t : T) : VA := T.rec (motive := fun _ => VA) (fun _ => .other) .other .other (fun _ => .other) (fun _ => .other) (fun _ => .other) (fun _ _ _ _ => .other) (fun _ _ _ _ => .other) (fun _ _ _ _ => .other) (fun _ _ _ => .other) (fun _ _ _ _ => .other) (fun _ _ _ _ => .other) (fun _ _ _ _ _ => .other) (fun _ _ _ _ _ => .other) (fun _ _ _ _ _ _ => .other) (fun _ _ _ _ => .other) (fun _ _ _ _ => .other) (fun _ _ _ _ => .other) (fun _ _ _ _ => .other) (fun _ _ _ _ => .other) (fun _ _ _ _ => .other) (fun _ _ => .other) (fun _ _ _ _ => .other) (fun _ _ _ _ => .other) (fun _ _ _ _ _ _ => .other) (fun _ _ _ _ _ _ => .other) (fun _ _ => .other) (fun _ _ _ _ => .other) (fun _ _ _ _ _ _ => .other) (fun n v _ _ => .rep n v) (fun _ _ _ _ _ _ => .other) (fun l => .alit l) (fun _ _ _ _ _ _ => .other) (fun _ _ _ _ => .other) (fun _ _ _ _ _ _ _ _ _ _ _ _ _ _ _ _ _ => .other) (fun _ _ _ _ _ _ _ _ _ _ _ _ _ _ _ _ _ => .other) (fun _ _ _ _ _ _ _ _ _ _ _ _ _ _ _ _ _ => .other) t
theorem view_lit {t : T} {n : Int} (h : t.view = .lit n) : t = .lit n := by
  cases t <;> first | (injection h with h; subst h; rfl) | cases h
theorem view_tt {t : T} (h : t.view = .tt) : t = .tt := by
  cases t <;> first | rfl | cases h
theorem view_ff {t : T} (h : t.view = .ff) : t = .ff := by
  cases t <;> first | rfl | cases h
theorem viewA_alit {t : T} {l : List Int} (h : t.viewA = .alit l) : t = .alit l := by
  cases t <;> first | (injection h with h; subst h; rfl) | cases h
theorem viewA_rep {t n v : T} (h : t.viewA = .rep n v) : t = .rep n v := by
  cases t <;> first | (injection h with h1 h2; subst h1 h2; rfl) | cases h
/-- Plainly naught; plainly true. -/
def T.isZ (t : T) : Bool := match t.view with | .lit (.ofNat 0) => true | _ => false
def T.isTT (t : T) : Bool := match t.view with | .tt => true | _ => false
theorem isZ_iff {t : T} : t.isZ = true ↔ t = .lit 0 := by
  unfold T.isZ
  constructor
  · intro h
    split at h
    · rename_i hv; exact view_lit hv
    · cases h
  · intro h; subst h; rfl
theorem isTT_eq {t : T} (h : t.isTT = true) : t = .tt := by
  unfold T.isTT at h
  split at h
  · rename_i hv; exact view_tt hv
  · cases h
/-- Sums and their like, with what can be reckoned reckoned. -/
def mkAdd (a b : T) : T := match a.view, b.view with
  | .lit x, .lit y => .lit (x + y)
  | .lit (.ofNat 0), _ => b
  | _, .lit (.ofNat 0) => a
  | _, _ => .add a b
def mkSub (a b : T) : T := match a.view, b.view with
  | .lit x, .lit y => .lit (x - y)
  | _, .lit (.ofNat 0) => a
  | _, _ => .sub a b
def mkMul (a b : T) : T := match a.view, b.view with
  | .lit x, .lit y => .lit (x * y)
  | _, .lit (.ofNat 1) => a
  | _, _ => .mul a b
def mkWrap (k : IntKind) (a : T) : T := match a.view with
  | .lit x => .lit (k.wrap x)
  | _ => .wrap k a
def mkTdiv (a b : T) : T := match a.view, b.view with
  | .lit x, .lit y => .lit (x.tdiv y)
  | _, _ => .tdiv a b
def mkTmod (a b : T) : T := match a.view, b.view with
  | .lit x, .lit y => .lit (x.tmod y)
  | _, _ => .tmod a b
def mkShl (k : IntKind) (a b : T) : T := match a.view, b.view with
  | .lit x, .lit y => .lit (x * 2 ^ (Min.min y.toNat k.bits))
  | _, .lit y => .mul a (.lit (2 ^ (Min.min y.toNat k.bits)))
  | _, _ => .shl k a b
def mkShr (k : IntKind) (a b : T) : T := match a.view, b.view with
  | .lit x, .lit y => .lit (x.fdiv (2 ^ (Min.min y.toNat k.bits)))
  | _, _ => .shr k a b
def mkBits (o : BinOp) (k : IntKind) (a b : T) : T := match a.view, b.view with
  | .lit x, .lit y => .lit (bitsOf o k x y)
  | _, _ => .bits o k a b
def ofBool (b : Bool) : T := if b then .tt else .ff
def mkEq (a b : T) : T := match a.view, b.view with
  | .lit x, .lit y => ofBool (decide (x = y))
  | _, _ => .eq a b
def mkLt (a b : T) : T := match a.view, b.view with
  | .lit x, .lit y => ofBool (decide (x < y))
  | _, _ => .lt a b
def mkLe (a b : T) : T := match a.view, b.view with
  | .lit x, .lit y => ofBool (decide (x ≤ y))
  | _, _ => .le a b
def mkNot (a : T) : T := match a.view with
  | .tt => .ff
  | .ff => .tt
  | _ => .not a
def mkBeq (a b : T) : T := match a.view, b.view with
  | .tt, _ => b
  | _, .tt => a
  | .ff, _ => mkNot b
  | _, .ff => mkNot a
  | _, _ => .beq a b
def mkIte (c a b : T) : T := match c.view with
  | .tt => a
  | .ff => b
  | _ => .ite c a b
def mkBite (c a b : T) : T := match c.view, a.view, b.view with
  | .tt, _, _ => a
  | .ff, _, _ => b
  | _, .tt, .ff => c
  | _, _, .ff => .and c a
  | _, .tt, _ => .or c b
  | _, _, _ => .bite c a b
def mkMx (a b : T) : T := match a.view, b.view with
  | .lit x, .lit y => .lit (if y > x then y else x)
  | _, _ => .mx a b
def mkMn (a b : T) : T := match a.view, b.view with
  | .lit x, .lit y => .lit (if y < x then y else x)
  | _, _ => .mn a b
def mkGet (a i : T) : T := match a.viewA, i.view with
  | .alit l, .lit x => .lit (l.getD x.toNat 0)
  | .rep _ v, _ => match v.view with
    | .lit (.ofNat 0) => .lit 0
    | _ => .get a i
  | _, _ => .get a i
section
variable {S : Sig} {ρ : Env}
theorem mkAdd_I (a b : T) : (mkAdd a b).I S ρ = a.I S ρ + b.I S ρ := by
  unfold mkAdd; split
  · rename_i h1 h2; rw [view_lit h1, view_lit h2]; simp [T.I]
  · rw [view_lit (t := a) (by assumption)]; simp [T.I]
  · rw [view_lit (t := b) (by assumption)]; simp [T.I]
  · simp [T.I]
theorem mkSub_I (a b : T) : (mkSub a b).I S ρ = a.I S ρ - b.I S ρ := by
  unfold mkSub; split
  · rename_i h1 h2; rw [view_lit h1, view_lit h2]; simp [T.I]
  · rw [view_lit (t := b) (by assumption)]; simp [T.I]
  · simp [T.I]
theorem mkMul_I (a b : T) : (mkMul a b).I S ρ = a.I S ρ * b.I S ρ := by
  unfold mkMul; split
  · rename_i h1 h2; rw [view_lit h1, view_lit h2]; simp [T.I]
  · rw [view_lit (t := b) (by assumption)]; simp [T.I]
  · simp [T.I]
theorem mkWrap_I (k : IntKind) (a : T) : (mkWrap k a).I S ρ = k.wrap (a.I S ρ) := by
  unfold mkWrap; split
  · rename_i h1; rw [view_lit h1]; simp [T.I]
  · simp [T.I]
theorem mkTdiv_I (a b : T) : (mkTdiv a b).I S ρ = (a.I S ρ).tdiv (b.I S ρ) := by
  unfold mkTdiv; split
  · rename_i h1 h2; rw [view_lit h1, view_lit h2]; simp [T.I]
  · simp [T.I]
theorem mkTmod_I (a b : T) : (mkTmod a b).I S ρ = (a.I S ρ).tmod (b.I S ρ) := by
  unfold mkTmod; split
  · rename_i h1 h2; rw [view_lit h1, view_lit h2]; simp [T.I]
  · simp [T.I]
theorem mkShl_I (k : IntKind) (a b : T) : (mkShl k a b).I S ρ = a.I S ρ * 2 ^ (Min.min (b.I S ρ).toNat k.bits) := by
  unfold mkShl; split
  · rename_i h1 h2; rw [view_lit h1, view_lit h2]; simp [T.I]
  · rw [view_lit (t := b) (by assumption)]; simp [T.I]
  · simp [T.I]
theorem mkShr_I (k : IntKind) (a b : T) : (mkShr k a b).I S ρ = (a.I S ρ).fdiv (2 ^ (Min.min (b.I S ρ).toNat k.bits)) := by
  unfold mkShr; split
  · rename_i h1 h2; rw [view_lit h1, view_lit h2]; simp [T.I]
  · simp [T.I]
theorem mkBits_I (o : BinOp) (k : IntKind) (a b : T) : (mkBits o k a b).I S ρ = bitsOf o k (a.I S ρ) (b.I S ρ) := by
  unfold mkBits; split
  · rename_i h1 h2; rw [view_lit h1, view_lit h2]; simp [T.I]
  · simp [T.I]
theorem ofBool_B (b : Bool) : (ofBool b).B S ρ = b := by cases b <;> simp [ofBool, T.B]
theorem mkEq_B (a b : T) : (mkEq a b).B S ρ = decide (a.I S ρ = b.I S ρ) := by
  unfold mkEq; split
  · rename_i h1 h2; rw [view_lit h1, view_lit h2]; simp only [T.I, ofBool_B]; exact decide_eq_decide.2 Iff.rfl
  · simp only [T.B]; rfl
theorem mkLt_B (a b : T) : (mkLt a b).B S ρ = decide (a.I S ρ < b.I S ρ) := by
  unfold mkLt; split
  · rename_i h1 h2; rw [view_lit h1, view_lit h2]; simp only [T.I, ofBool_B]; exact decide_eq_decide.2 Iff.rfl
  · simp only [T.B]; rfl
theorem mkLe_B (a b : T) : (mkLe a b).B S ρ = decide (a.I S ρ ≤ b.I S ρ) := by
  unfold mkLe; split
  · rename_i h1 h2; rw [view_lit h1, view_lit h2]; simp only [T.I, ofBool_B]; exact decide_eq_decide.2 Iff.rfl
  · simp only [T.B]; rfl
theorem mkNot_B (a : T) : (mkNot a).B S ρ = !(a.B S ρ) := by
  unfold mkNot; split
  · rename_i h1; rw [view_tt h1]; simp [T.B]
  · rename_i h1; rw [view_ff h1]; simp [T.B]
  · simp [T.B]
theorem mkBeq_B (a b : T) : (mkBeq a b).B S ρ = (a.B S ρ == b.B S ρ) := by
  unfold mkBeq; split
  · rw [view_tt (t := a) (by assumption)]; simp [T.B]
  · rw [view_tt (t := b) (by assumption)]; simp [T.B]
  · rw [view_ff (t := a) (by assumption)]; simp [T.B, mkNot_B]
  · rw [view_ff (t := b) (by assumption)]; simp [T.B, mkNot_B]
  · simp [T.B]
theorem mkIte_I (c a b : T) : (mkIte c a b).I S ρ = if c.B S ρ then a.I S ρ else b.I S ρ := by
  unfold mkIte; split
  · rename_i h1; rw [view_tt h1]; simp [T.B]
  · rename_i h1; rw [view_ff h1]; simp [T.B]
  · simp [T.I]
theorem mkBite_B (c a b : T) : (mkBite c a b).B S ρ = if c.B S ρ then a.B S ρ else b.B S ρ := by
  unfold mkBite; split
  · rw [view_tt (t := c) (by assumption)]; simp [T.B]
  · rw [view_ff (t := c) (by assumption)]; simp [T.B]
  · rw [view_tt (t := a) (by assumption), view_ff (t := b) (by assumption)]; simp [T.B]
  · rw [view_ff (t := b) (by assumption)]; simp only [T.B]; cases c.B S ρ <;> simp
  · rw [view_tt (t := a) (by assumption)]; simp only [T.B]; cases c.B S ρ <;> simp
  · simp [T.B]
theorem mkMx_I (a b : T) : (mkMx a b).I S ρ = if b.I S ρ > a.I S ρ then b.I S ρ else a.I S ρ := by
  unfold mkMx; split
  · rename_i x y h1 h2; rw [view_lit h1, view_lit h2]; simp only [T.I]; first | rfl | (rcases Int.lt_trichotomy x y with hq | hq | hq <;> (repeat' split) <;> omega)
  · simp only [T.I]; rfl
theorem mkMn_I (a b : T) : (mkMn a b).I S ρ = if b.I S ρ < a.I S ρ then b.I S ρ else a.I S ρ := by
  unfold mkMn; split
  · rename_i x y h1 h2; rw [view_lit h1, view_lit h2]; simp only [T.I]; first | rfl | (rcases Int.lt_trichotomy x y with hq | hq | hq <;> (repeat' split) <;> omega)
  · simp only [T.I]; rfl
theorem getD_rep0 (n i : Nat) : (List.replicate n (0 : Int)).getD i 0 = 0 := by
  simp only [List.getD_eq_getElem?_getD, List.getElem?_replicate]; split <;> rfl
theorem mkGet_I (a i : T) : (mkGet a i).I S ρ = (a.A S ρ).getD (i.I S ρ).toNat 0 := by
  unfold mkGet; split
  · rename_i h1 h2; rw [viewA_alit h1, view_lit h2]; simp [T.I, T.A]
  · rename_i h1
    split
    · rename_i h2
      rw [viewA_rep h1, view_lit h2]
      simp only [T.I, T.A]
      exact (getD_rep0 _ _).symm
    · simp [T.I]
  · simp [T.I]
end
section
variable {S : Sig} {ρ : Env} {a b c : T}
theorem b_le : (T.B S ρ (.le a b) = true) ↔ a.I S ρ ≤ b.I S ρ := by simp only [T.B]; exact decide_eq_true_iff
theorem b_lt : (T.B S ρ (.lt a b) = true) ↔ a.I S ρ < b.I S ρ := by simp only [T.B]; exact decide_eq_true_iff
theorem b_eq : (T.B S ρ (.eq a b) = true) ↔ a.I S ρ = b.I S ρ := by simp only [T.B]; exact decide_eq_true_iff
theorem b_aeq : (T.B S ρ (.aeq a b) = true) ↔ a.A S ρ = b.A S ρ := by simp only [T.B]; exact decide_eq_true_iff
theorem f_le : (T.B S ρ (.le a b) = false) ↔ b.I S ρ < a.I S ρ := by simp only [T.B]; exact decide_eq_false_iff_not.trans Int.not_le
theorem f_lt : (T.B S ρ (.lt a b) = false) ↔ b.I S ρ ≤ a.I S ρ := by simp only [T.B]; exact decide_eq_false_iff_not.trans Int.not_lt
theorem f_eq : (T.B S ρ (.eq a b) = false) ↔ ¬ a.I S ρ = b.I S ρ := by simp only [T.B]; exact decide_eq_false_iff_not
theorem f_aeq : (T.B S ρ (.aeq a b) = false) ↔ ¬ a.A S ρ = b.A S ρ := by simp only [T.B]; exact decide_eq_false_iff_not
theorem b_not : (T.B S ρ (.not a) = true) ↔ T.B S ρ a = false := by simp only [T.B]; simp
theorem f_not : (T.B S ρ (.not a) = false) ↔ T.B S ρ a = true := by simp only [T.B]; simp
theorem b_and : (T.B S ρ (.and a b) = true) ↔ T.B S ρ a = true ∧ T.B S ρ b = true := by simp only [T.B]; simp
theorem b_or : (T.B S ρ (.or a b) = true) ↔ T.B S ρ a = true ∨ T.B S ρ b = true := by simp only [T.B]; simp
theorem f_and : (T.B S ρ (.and a b) = false) ↔ T.B S ρ a = false ∨ T.B S ρ b = false := by simp only [T.B]; cases T.B S ρ a <;> simp
theorem f_or : (T.B S ρ (.or a b) = false) ↔ T.B S ρ a = false ∧ T.B S ρ b = false := by simp only [T.B]; simp
theorem b_tt : (T.B S ρ .tt = true) ↔ True := by simp [T.B]
theorem b_ff : (T.B S ρ .ff = true) ↔ False := by simp [T.B]
theorem f_tt : (T.B S ρ .tt = false) ↔ False := by simp [T.B]
theorem f_ff : (T.B S ρ .ff = false) ↔ True := by simp [T.B]
end
end
end Go.Proofs.YtljjbikbfeigdaaGreatDoor
namespace Go.Proofs.YtljjbikbfeigdaaGreatDoor
noncomputable section
open Go
/-- A block of memory: one that came in, the k-th new one, a package variable's, one that is only read. -/
inductive Ref where
  | old (n : Nat) | new (k : Nat) | glob (g : Nat) | ro (n : Nat) | own (n : Nat)
  deriving DecidableEq, Inhabited, Repr
/-- What one cell holds. -/
inductive Leaf where
  | int (k : IntKind) (t : T) | bool (t : T)
  | ptr (r : Ref) (s : Nat) (d : T)
  | sl (r : Ref) (s : Nat) (d len cap : T)
  | nilp | nils | nilI
  | str (l : List UInt8)
  | fn (f : Nat)
  | iface (t : Nat) (x : Leaf)
  | undef | junk (n : Nat) | val (n : Nat)
  deriving DecidableEq, Inhabited, Repr
/-- A part of a block, or of a struct's or an array's value. -/
inductive Seg where
  | cells (l : List Leaf)
  | arr (k : IntKind) (a : T) (n : Nat)
  | arrD (k : IntKind) (a : T)
  | bar (a : T) (n : Nat)
  | junk (n : Nat)
  | tail (z : List Leaf) (n : T)
  deriving DecidableEq, Inhabited, Repr
inductive SV where
  | one (l : Leaf) | agg (s : List Seg)
  deriving DecidableEq, Inhabited, Repr
inductive SR where
  | v (x : SV) | tup (xs : List SV) | ite (c : T) (x y : SR)
  deriving DecidableEq, Inhabited, Repr
structure Blk where
  ty : Nat
  segs : List Seg
  deriving DecidableEq, Inhabited, Repr
/-- A slice of whole numbers that grows: its value, its element's type, what it holds. -/
structure OW where
  v : Nat
  e : Nat
  k : IntKind
  a : T
  deriving DecidableEq, Inhabited, Repr
structure Hp where
  rw : List (Ref × Blk)
  ro : List (Ref × IntKind × T) := []
  na : Nat := 0
  nv : Nat := 0
  ow : Option OW := none
  deriving DecidableEq, Inhabited, Repr
structure Res where
  need : List T
  val : SR
  heap : Hp
  deriving DecidableEq, Inhabited, Repr
abbrev Spec := List SR → Hp → Option Res
def Ref.code : Ref → Nat
  | .old n => 5 * n
  | .new n => 5 * n + 1
  | .glob n => 5 * n + 2
  | .ro n => 5 * n + 3
  | .own n => 5 * n + 4
theorem Ref.code_inj {q r : Ref} (h : Nat.beq q.code r.code = true) : q = r := by
  have h := Nat.eq_of_beq_eq_true h
  cases q <;> cases r <;> simp only [Ref.code] at h <;> first | (congr 1; omega) | (exfalso; omega)
theorem Ref.code_ne {q r : Ref} (h : ¬ Nat.beq q.code r.code = true) : q ≠ r := by
  intro e; subst e; exact h (Nat.beq_refl _)
/-- A truth as a number. -/
def truthOf (x : Int) : Bool := !(decide (x = 0))
section
variable (S : Sig) (ρ : Env) (B : Nat)
def Ref.blk : Ref → Nat
  | .old n => ρ.blk n
  | .new k => B + ρ.nb k
  | .own n => B + ρ.blk n
  | .glob g => g
  | .ro n => ρ.blk n
def Ref.off : Ref → Nat
  | .ro n => ρ.off n
  | _ => 0
def addrOf (r : Ref) (s : Nat) (d : T) : Addr := ⟨r.blk ρ B, r.off ρ + s + (d.I S ρ).toNat, none⟩
def Leaf.den : Leaf → Value
  | .int k t => .int k (t.I S ρ)
  | .bool t => .bool (t.B S ρ)
  | .ptr r s d => .pointer (some (addrOf S ρ B r s d))
  | .sl r s d l c => .slice (some (addrOf S ρ B r s d)) (l.I S ρ).toNat (c.I S ρ).toNat
  | .nilp => .pointer none
  | .nils => .slice none 0 0
  | .nilI => .nilIface
  | .str l => .string ⟨l.toArray⟩
  | .fn f => .func (.func f) #[] #[]
  | .iface t x => .iface t x.den
  | .undef => Go.undef
  | .junk n => ρ.j n
  | .val n => ρ.v n
def Seg.den : Seg → List Value
  | .cells l => l.map (Leaf.den S ρ B)
  | .arr k a _ => (a.A S ρ).map (Value.int k)
  | .arrD k a => (a.A S ρ).map (Value.int k)
  | .bar a _ => (a.A S ρ).map fun x => Value.bool (truthOf x)
  | .junk n => ρ.vs n
  | .tail z n => (List.replicate (n.I S ρ).toNat (z.map (Leaf.den S ρ B))).flatten
def segsDen (l : List Seg) : List Value := l.flatMap (Seg.den S ρ B)
def SV.den : SV → Value
  | .one l => l.den S ρ B
  | .agg s => .agg (segsDen S ρ B s).toArray
def SR.den : SR → Value
  | .v x => x.den S ρ B
  | .tup xs => .tuple (xs.map (SV.den S ρ B)).toArray
  | .ite c x y => if c.B S ρ then x.den else y.den
end
/-- A cell's value that may be stored. -/
def Leaf.plain : Leaf → Bool
  | .undef | .junk _ | .val _ => false
  | _ => true
def Seg.plain : Seg → Bool
  | .cells l => l.all Leaf.plain
  | .junk _ => false
  | .tail _ _ => false
  | _ => true
def SV.plain : SV → Bool
  | .one l => l.plain
  | .agg s => s.all Seg.plain
def Leaf.sr (l : Leaf) : SR := .v (.one l)
def intL (k : IntKind) (t : T) : SR := .v (.one (.int k t))
def boolL (t : T) : SR := .v (.one (.bool t))
/-- The symbolic form of a constant cell. -/
def leafOf : Value → Option Leaf
  | .int k n => some (.int k (.lit n))
  | .bool b => some (.bool (ofBool b))
  | .string s => some (.str s.data.toList)
  | .pointer none => some .nilp
  | .slice none 0 0 => some .nils
  | .nilIface => some .nilI
  | .func (.func f) a b => if a.size = 0 ∧ b.size = 0 then some (.fn f) else none
  | .tuple vs => if vs.size = 0 then some .undef else none
  | _ => none
def getSR (fr : List SR) (t : Nat) : SR := fr.getD t (.v (.one .undef))
def evS (fr : Nat → SR) : Operand → Option SR
  | .tmp t => some (fr t)
  | .const v => (leafOf v).map Leaf.sr
  | .global g => some (.v (.one (.ptr (.glob g) 0 (.lit 0))))
  | .func f => some (.v (.one (.fn f)))
def evL (fr : Nat → SR) (x : Operand) : Option Leaf :=
  match evS fr x with
  | some (.v (.one l)) => some l
  | _ => none
def putSR (fr : List SR) (dst : Option Tmp) (x : SR) : List SR :=
  match dst with
  | some d => fr.set d x
  | none => fr
/-- needs that are plainly met are left out -/
def needs (l : List T) : List T := l.filter (fun t => !t.isTT)
section memory
def findB : List (Ref × Blk) → Ref → Option Blk
  | [], _ => none
  | (q, b) :: l, r => if Nat.beq q.code r.code then some b else findB l r
def setB : List (Ref × Blk) → Ref → Blk → List (Ref × Blk)
  | [], _, _ => []
  | (q, b) :: l, r, c => if Nat.beq q.code r.code then (q, c) :: l else (q, b) :: setB l r c
def findRO : List (Ref × IntKind × T) → Ref → Option (IntKind × T)
  | [], _ => none
  | (q, x) :: l, r => if Nat.beq q.code r.code then some x else findRO l r
def Seg.size : Seg → Option Nat
  | .cells l => some l.length
  | .arr _ _ n => some n
  | .bar _ n => some n
  | _ => none
def mkCut (a : T) (s n : Nat) : T :=
  match a with
  | .alit l => .alit ((l.drop s).take n)
  | .rep (.lit m) v => if s + n ≤ m.toNat then .rep (.lit n) v else .cut a (.lit s) (.lit n)
  | _ => .cut a (.lit s) (.lit n)
/-- The part that holds place s: what stands ahead of it, it, the place in it, what stands behind. -/
def seek : List Seg → Nat → Option (List Seg × Seg × Nat × List Seg)
  | [], _ => none
  | g :: r, s =>
    match g.size with
    | some n => if s < n then some ([], g, s, r) else
      match seek r (s - n) with
      | some (p, x, j, q) => some (g :: p, x, j, q)
      | none => none
    | none => some ([], g, s, r)
def inRange (i d : T) (n : T) : List T := needs [mkLe (.lit 0) d, mkLt i n]
/-- One cell read. -/
def loadLeaf (segs : List Seg) (s : Nat) (d : T) : Option (List T × Leaf) :=
  match seek segs s with
  | some (_, .cells l, j, _) => if d.isZ then (l[j]?).map ([], ·) else none
  | some (_, .arr k a n, j, _) => let i := mkAdd (.lit j) d; some (inRange i d (.lit n), .int k (mkGet a i))
  | some (_, .arrD k a, j, _) => let i := mkAdd (.lit j) d; some (inRange i d (.len a), .int k (mkGet a i))
  | some (_, .bar a n, j, _) => let i := mkAdd (.lit j) d; some (inRange i d (.lit n), .bool (mkNot (mkEq (mkGet a i) (.lit 0))))
  | _ => none
/-- Neighbouring cells joined. -/
def joinCells : List Seg → List Seg
  | .cells a :: r => match joinCells r with
    | .cells b :: q => .cells (a ++ b) :: q
    | q => .cells a :: q
  | g :: r => g :: joinCells r
  | [] => []
def isConstA (a : T) : Bool := match a.viewA with | .other => false | _ => true
def cutA (k : IntKind) (a : T) (s n : Nat) : List Seg := match n with | 0 => [] | n + 1 => [.arr k (mkCut a s (n + 1)) (n + 1)]
/-- Whole numbers of which there is a plain number. -/
def fixD (g : List Seg) : List Seg := match g with
  | [.arrD k (.rep n v)] => match n.view with
    | .lit (.ofNat m) => [.arr k (.rep (.lit m) v) m]
    | _ => [.arrD k (.rep n v)]
  | g => g
/-- One cell written. -/
def storeLeaf (segs : List Seg) (s : Nat) (d : T) (x : Leaf) : Option (List T × List Seg) :=
  match seek segs s, x with
  | some (p, .cells l, j, q), x => if d.isZ then some ([], p ++ .cells (l.set j x) :: q) else none
  | some (p, .arr k a n, j, q), .int k' t => if k = k' then
      if (d.isZ).and (isConstA a) then some ([], joinCells (p ++ (cutA k a 0 j ++ (.cells [.int k t] :: (cutA k a (j + 1) (n - (j + 1)) ++ q)))))
      else let i := mkAdd (.lit j) d; some (inRange i d (.lit n), p ++ .arr k (.set a i t) n :: q)
    else none
  | some (p, .arrD k a, j, q), .int k' t => if k = k' then let i := mkAdd (.lit j) d; some (inRange i d (.len a), p ++ .arrD k (.set a i t) :: q) else none
  | some (p, .bar a n, j, q), .bool t => let i := mkAdd (.lit j) d; some (inRange i d (.lit n), p ++ .bar (.set a i (mkIte t (.lit 1) (.lit 0))) n :: q)
  | _, _ => none
/-- Cut in two at a place. -/
def splitSegs : List Seg → Nat → Option (List Seg × List Seg)
  | l, 0 => some ([], l)
  | [], _ + 1 => none
  | g :: r, n + 1 =>
    match g with
    | .cells l => if l.length ≤ n + 1 then (splitSegs r (n + 1 - l.length)).map fun (x, y) => (g :: x, y)
      else some ([.cells (l.take (n + 1))], .cells (l.drop (n + 1)) :: r)
    | .arr k a m => if m ≤ n + 1 then (splitSegs r (n + 1 - m)).map fun (x, y) => (g :: x, y)
      else some ([.arr k (mkCut a 0 (n + 1)) (n + 1)], .arr k (mkCut a (n + 1) (m - (n + 1))) (m - (n + 1)) :: r)
    | _ => none
/-- n cells read. -/
def loadMany (segs : List Seg) (s : Nat) (d : T) (n : Nat) : Option (List T × List Seg) :=
  if d.isZ then
    match splitSegs segs s with
    | some (_, y) => (splitSegs y n).map fun (x, _) => ([], x)
    | none => none
  else
    match seek segs s with
    | some (_, .arr k a m, j, _) => let i := mkAdd (.lit j) d; some (needs [mkLe (.lit 0) d, mkLe (mkAdd i (.lit n)) (.lit m)], [.arr k (.cut a i (.lit n)) n])
    | some (_, .arrD k a, j, _) => let i := mkAdd (.lit j) d; some (needs [mkLe (.lit 0) d, mkLe (mkAdd i (.lit n)) (.len a)], [.arr k (.cut a i (.lit n)) n])
    | _ => none
/-- n cells written (n: as many as the parts have). -/
def storeMany (segs : List Seg) (s : Nat) (d : T) (n : Nat) (x : List Seg) : Option (List T × List Seg) :=
  if d.isZ then
    match splitSegs segs s with
    | some (p, y) => (splitSegs y n).map fun (_, q) => ([], p ++ (x ++ q))
    | none => none
  else
    match seek segs s, x with
    | some (p, .arr k a m, j, q), [.arr k' b n'] => if k = k' ∧ n' = n then let i := mkAdd (.lit j) d; some (needs [mkLe (.lit 0) d, mkLe (mkAdd i (.lit n)) (.lit m)], p ++ .arr k (.splice a i b) m :: q) else none
    | some (p, .arrD k a, j, q), [.arr k' b n'] => if k = k' ∧ n' = n then let i := mkAdd (.lit j) d; some (needs [mkLe (.lit 0) d, mkLe (mkAdd i (.lit n)) (.len a)], p ++ .arrD k (.splice a i b) :: q) else none
    | _, _ => none
/-- How many cells parts have, where that is plain. -/
def segsSize : List Seg → Option Nat
  | [] => some 0
  | g :: r => match g.size, segsSize r with
    | some a, some b => some (a + b)
    | _, _ => none
end memory
section types
variable (P : Program)
def isAggT (t : TypeId) : Bool := match P.underlying t with | some (.struct _) | some (.array _ _) => true | _ => false
def sizeT (t : TypeId) : Option Nat := (P.info? t).map (·.size)
def fieldT (t : TypeId) (f : Nat) : Option Field := match P.underlying t with | some (.struct fs) => fs[f]? | _ => none
/-- The zero value of a type, in parts. -/
def zsegs : Nat → TypeId → Option (List Seg)
  | 0, _ => none
  | n + 1, t =>
    match P.underlying t with
    | some (.int k) => some [.cells [.int k (.lit 0)]]
    | some .bool => some [.cells [.bool .ff]]
    | some .string => some [.cells [.str []]]
    | some (.pointer _) => some [.cells [.nilp]]
    | some (.slice _) => some [.cells [.nils]]
    | some (.interface _) => some [.cells [.nilI]]
    | some (.array m e) =>
      match P.underlying e with
      | some (.int k) => some [.arr k (.rep (.lit m) (.lit 0)) m]
      | some .bool => some [.bar (.rep (.lit m) (.lit 0)) m]
      | _ => (zsegs n e).map fun l => (List.replicate m l).flatten
    | some (.struct fs) => fs.toList.foldr (fun f acc => match zsegs n f.type, acc with | some a, some b => some (a ++ b) | _, _ => none) (some [])
    | _ => none
/-- The single cells of parts whose every cell is a constant. -/
def flatSeg : Seg → Option (List Leaf)
  | .cells l => some l
  | .arr k (.rep (.lit m) (.lit z)) n => if m = n then some (List.replicate n (.int k (.lit z))) else none
  | .bar (.rep (.lit m) (.lit z)) n => if m = n ∧ z = 0 then some (List.replicate n (.bool .ff)) else none
  | _ => none
def flatSegs : List Seg → Option (List Leaf)
  | [] => some []
  | g :: r => match flatSeg g, flatSegs r with
    | some a, some b => some (a ++ b)
    | _, _ => none
def leavesOf : List Value → Option (List Leaf)
  | [] => some []
  | v :: r => match leafOf v, leavesOf r with
    | some a, some b => some (a :: b)
    | _, _ => none
/-- The zero value, held against the program's own table. -/
def zeroS (t : TypeId) : Option (List Seg) :=
  match zsegs P 12 t, (P.info? t).bind (·.zero) with
  | some g, some z =>
    match flatSegs (joinCells g), leavesOf z.cells.toList with
    | some a, some b => if a = b then some (joinCells g) else none
    | _, _ => none
  | _, _ => none
def SV.segs : SV → List Seg
  | .one l => [.cells [l]]
  | .agg s => s
/-- A literal's parts laid into its zero value. -/
def fillS (place : Nat → Option (Nat × Nat)) : List Seg → List (Nat × SR) → Option (List T × List Seg)
  | g, [] => some ([], g)
  | g, (i, .v x) :: r =>
    match place i, segsSize x.segs with
    | some (off, size), some n =>
      if n = size ∧ x.plain = true then
        match storeMany g off (.lit 0) n x.segs with
        | some (_, g') => fillS place g' r
        | none => none
      else none
    | _, _ => none
  | _, _ => none
/-- Whole numbers, all constants, as one list. -/
def litInts (k : IntKind) : List Leaf → Option (List Int)
  | [] => some []
  | .int k' (.lit n) :: r => if k = k' then (litInts k r).map (n :: ·) else none
  | _ => none
def packInts : List Seg → List Seg
  | [.cells l] => match l with
    | .int k _ :: _ => match litInts k l with
      | some ns => [.arr k (.alit ns) ns.length]
      | none => [.cells l]
    | _ => [.cells l]
  | g => g
end types
end
end Go.Proofs.YtljjbikbfeigdaaGreatDoor
namespace Go.Proofs.YtljjbikbfeigdaaGreatDoor
noncomputable section
open Go
/-- A number that must fit its kind: for 'int' it is asked, else it wraps. -/
def fitS (k : IntKind) (s : T) : List T × T :=
  match k with
  | .i64 => (needs [mkLe (.lit (-9223372036854775808)) s, mkLe s (.lit 9223372036854775807)], s)
  | _ => ([], mkWrap k s)
def fitL (k : IntKind) (c : List T) (s : T) : Option (List T × Leaf) := some (c ++ (fitS k s).1, .int k (fitS k s).2)
/-- Two operands of a binary operator. -/
def binS (op : BinOp) (x y : Leaf) (xc yc : Bool) : Option (List T × Leaf) :=
  match op, x, y with
  | .shl, .int k a, .int _ b => fitL k (needs [mkLe (.lit 0) b]) (mkShl k a b)
  | .shr, .int k a, .int _ b => some (needs [mkLe (.lit 0) b], .int k (mkShr k a b))
  | op, .int k a, .int k' b =>
    if k ≠ k' then none else
    match op with
    | .add => fitL k [] (mkAdd a b)
    | .sub => fitL k [] (mkSub a b)
    | .mul => fitL k [] (mkMul a b)
    | .quo => fitL k (needs [mkNot (mkEq b (.lit 0))]) (mkTdiv a b)
    | .rem => some (needs [mkNot (mkEq b (.lit 0))], .int k (mkTmod a b))
    | .and | .or | .xor | .andNot => some ([], .int k (mkBits op k a b))
    | .eql => some ([], .bool (mkEq a b))
    | .neq => some ([], .bool (mkNot (mkEq a b)))
    | .lss => some ([], .bool (mkLt a b))
    | .leq => some ([], .bool (mkLe a b))
    | .gtr => some ([], .bool (mkLt b a))
    | .geq => some ([], .bool (mkLe b a))
    | _ => none
  | .eql, .bool a, .bool b => some ([], .bool (mkBeq a b))
  | .neq, .bool a, .bool b => some ([], .bool (mkNot (mkBeq a b)))
  | .eql, .nilI, .nilI => if xc || yc then some ([], .bool .tt) else none
  | .neq, .nilI, .nilI => if xc || yc then some ([], .bool .ff) else none
  | .eql, .iface _ _, .nilI => some ([], .bool .ff)
  | .neq, .iface _ _, .nilI => some ([], .bool .tt)
  | .eql, .nilp, .nilp => some ([], .bool .tt)
  | .neq, .nilp, .nilp => some ([], .bool .ff)
  | .eql, .ptr _ _ _, .nilp => some ([], .bool .ff)
  | .neq, .ptr _ _ _, .nilp => some ([], .bool .tt)
  | _, _, _ => none
def isConstOp : Operand → Bool
  | .const _ => true
  | _ => false
/-- The type of an operand against the operator's shape: what '==' asks of the program. -/
def eqTypeOk (P : Program) (t : TypeId) (x : Leaf) : Bool :=
  match x, P.underlying t with
  | .int _ _, _ => true
  | .bool _, some .bool => true
  | .nilI, some (.interface _) => true
  | .iface _ _, some (.interface _) => true
  | .nilp, some (.pointer _) => true
  | .ptr _ _ _, some (.pointer _) => true
  | _, _ => false
/-- An element's place. -/
def indexS (P : Program) (t : TypeId) (x i : Leaf) : Option (List T × Leaf) :=
  match i with
  | .int _ ti =>
    match P.underlying t, x with
    | some (.array n e), .ptr r s d =>
      match sizeT P e with
      | some z =>
        match ti.view with
        | .lit q => if 0 ≤ q ∧ q < n then some ([], .ptr r (s + q.toNat * z) d) else none
        | _ => some (needs [mkLe (.lit 0) ti, mkLt ti (.lit n), mkLe (.lit 0) d], .ptr r s (mkAdd d (mkMul ti (.lit z))))
      | none => none
    | some (.slice e), .sl r s d l _ =>
      match sizeT P e with
      | some z =>
        match ti.view with
        | .lit q => if 0 ≤ q then some (needs [mkLt ti l], .ptr r (s + q.toNat * z) d) else none
        | _ => some (needs [mkLe (.lit 0) ti, mkLt ti l, mkLe (.lit 0) d], .ptr r s (mkAdd d (mkMul ti (.lit z))))
      | none => none
    | _, _ => none
  | _ => none
/-- The three numbers of a slice expression. -/
def boundT (fr : Nat → SR) : Option Operand → T → Option T
  | none, t => some t
  | some x, _ => match evL fr x with
    | some (.int _ t) => some t
    | _ => none
/-- Plainly more than naught. -/
def T.isPos (t : T) : Bool := match t.view with | .lit (.ofNat (_ + 1)) => true | _ => false
/-- the new place of a slice whose first element moves on by l of size z, m the bound of the capacity, r what is left -/
def moveOn (m l : T) (z : Nat) (d r : T) : T :=
  match l.isZ with
  | true => d
  | false => match r.isPos with
    | true => mkAdd d (mkMul l (.lit z))
    | false => mkIte (mkEq m l) d (mkAdd d (mkMul l (.lit z)))
def moveNeed (m l r : T) : T :=
  match l.isZ with
  | true => .tt
  | false => match r.isPos with
    | true => mkLt l m
    | false => .tt
def sliceS (P : Program) (t : TypeId) (x : Leaf) (fr : Nat → SR) (lo hi mx : Option Operand) : Option (List T × Leaf) :=
  match P.underlying t, x with
  | some (.slice e), .sl r s d len cap =>
    match sizeT P e, boundT fr mx cap, boundT fr lo (.lit 0) with
    | some z, some m, some l =>
      match boundT fr hi len with
      | some h => if hi.isNone && mx.isSome then none else
        some (needs [mkLe (.lit 0) m, mkLe m cap, mkLe (.lit 0) h, mkLe h (if mx.isSome || hi.isSome then m else h), mkLe (.lit 0) l, mkLe l h, mkLe (.lit 0) d, mkLe (.lit 0) cap, mkLe (.lit 0) len, moveNeed m l (mkSub h l)], .sl r s (moveOn m l z d (mkSub h l)) (mkSub h l) (mkSub m l))
      | none => none
    | _, _, _ => none
  | some (.array n e), .ptr r s d =>
    match sizeT P e, boundT fr mx (.lit n), boundT fr lo (.lit 0) with
    | some z, some m, some l =>
      match boundT fr hi (.lit n) with
      | some h => if hi.isNone && mx.isSome then none else
        some (needs [mkLe (.lit 0) m, mkLe m (.lit n), mkLe (.lit 0) h, mkLe h m, mkLe (.lit 0) l, mkLe l h, mkLe (.lit 0) d, moveNeed m l (mkSub h l)], .sl r s (moveOn m l z d (mkSub h l)) (mkSub h l) (mkSub m l))
      | none => none
    | _, _, _ => none
  | _, _ => none
/-- A slice that begins at a place that is plain. -/
def normL : Leaf → Leaf
  | .sl r s (.lit (.ofNat (q + 1))) l c => .sl r (s + (q + 1)) (.lit 0) l c
  | l => l
/-- A new block at the end. -/
def pushB (h : Hp) (b : Blk) : Hp := { h with rw := h.rw ++ [(.new h.na, b)], na := h.na + 1 }
def loadR (P : Program) (t : TypeId) (p : Leaf) (h : Hp) : Option (List T × SV) :=
  match p with
  | .ptr r s d =>
    match findB h.rw r with
    | some b =>
      if isAggT P t then
        match sizeT P t with
        | some n => (loadMany b.segs s d n).map fun (c, g) => (c, .agg g)
        | none => none
      else (loadLeaf b.segs s d).map fun (c, x) => (c, .one x)
    | none =>
      match findRO h.ro r with
      | some (k, a) => if isAggT P t then
          match sizeT P t with
          | some n => let i := mkAdd (.lit s) d; some (needs [mkLe (.lit 0) d, mkLe (mkAdd i (.lit n)) (.len a)], .agg [.arr k (.cut a i (.lit n)) n])
          | none => none
        else let i := mkAdd (.lit s) d; some (inRange i d (.len a), .one (.int k (mkGet a i)))
      | none => none
  | _ => none
def isOwL (h : Hp) : Leaf → Bool
  | .val n => match h.ow with
    | some o => Nat.beq o.v n
    | none => false
  | _ => false
def storeR (P : Program) (t : TypeId) (p : Leaf) (x : SV) (h : Hp) : Option (List T × Hp) :=
  match p with
  | .ptr r s d =>
    match findB h.rw r with
    | some b =>
      match x with
      | .one l => if sizeT P t = some 1 ∧ (l.plain || isOwL h l) = true then (storeLeaf b.segs s d l).map fun (c, g) => (c, { h with rw := setB h.rw r { b with segs := g } }) else none
      | .agg g => match segsSize g with
        | some n => if sizeT P t = some n ∧ g.all Seg.plain = true then (storeMany b.segs s d n g).map fun (c, g') => (c, { h with rw := setB h.rw r { b with segs := g' } }) else none
        | none => none
    | none => none
  | _ => none
/-- n cells from where a slice begins. -/
def readS (h : Hp) (l : Leaf) (n : Nat) : Option (List T × List Seg) :=
  match l with
  | .sl r s d _ _ =>
    match findB h.rw r with
    | some b => loadMany b.segs s d n
    | none => match findRO h.ro r with
      | some (k, a) => let i := mkAdd (.lit s) d; some (needs [mkLe (.lit 0) d, mkLe (mkAdd i (.lit n)) (.len a)], [.arr k (.cut a i (.lit n)) n])
      | none => none
  | _ => none
def mkApp (a b : T) : T :=
  match a.viewA, b.viewA with
  | .alit x, .alit y => .alit (x ++ y)
  | .alit [], _ => b
  | _, .alit [] => a
  | _, _ => .splice a (.len a) b
/-- Whole numbers of one kind as one list. -/
def setsT (k : IntKind) : T → Nat → List Leaf → Option T
  | a, _, [] => some a
  | a, j, .int k' t :: l => if k = k' then setsT k (.set a (.lit j) t) (j + 1) l else none
  | _, _, _ => none
def segT (k : IntKind) : Seg → Option T
  | .cells l => match litInts k l with
    | some ns => some (.alit ns)
    | none => setsT k (.alit (List.replicate l.length 0)) 0 l
  | .arr k' a _ => if k = k' then some a else none
  | .arrD k' a => if k = k' then some a else none
  | _ => none
def packT (k : IntKind) : List Seg → Option T
  | [] => some (.alit [])
  | g :: r => match segT k g, packT k r with
    | some a, some b => some (mkApp a b)
    | _, _ => none
/-- So many whole numbers (a term) from where a slice begins. -/
def readD (k : IntKind) (h : Hp) (l : Leaf) (n : T) : Option (List T × T) :=
  match l with
  | .sl r s d _ _ =>
    match findB h.rw r with
    | some b => match seek b.segs s with
      | some (_, .arr k' a m, j, _) => if k = k' then let i := mkAdd (.lit j) d; some (needs [mkLe (.lit 0) d, mkLe (.lit 0) n, mkLe (mkAdd i n) (.lit m)], .cut a i n) else none
      | some (_, .arrD k' a, j, _) => if k = k' then let i := mkAdd (.lit j) d; some (needs [mkLe (.lit 0) d, mkLe (.lit 0) n, mkLe (mkAdd i n) (.len a)], .cut a i n) else none
      | _ => none
    | none => match findRO h.ro r with
      | some (k', a) => if k = k' then let i := mkAdd (.lit s) d; some (needs [mkLe (.lit 0) d, mkLe (.lit 0) n, mkLe (mkAdd i n) (.len a)], .cut a i n) else none
      | none => none
  | _ => none
def readT (k : IntKind) (h : Hp) (l : Leaf) (n : T) : Option (List T × T) :=
  match n.view with
  | .lit (.ofNat m) => match readS h l m with
    | some (c, g) => match packT k g with
      | some t => some (c, t)
      | none => none
    | none => readD k h l n
  | _ => readD k h l n
/-- A copy of as many whole numbers as the shorter of two has. -/
def copyD (P : Program) (t : TypeId) (x y : Leaf) (h : Hp) : Option Res :=
  match P.underlying t, x, y with
  | some (.slice e), .sl r s d ln _, .sl r2 s2 d2 ln2 c2 =>
    match findB h.rw r with
    | some b =>
      if sizeT P e = some 1 then
        let n := mkMn ln ln2
        match seek b.segs s with
        | some (p, .arr k a m, j, q) =>
          let i := mkAdd (.lit j) d
          match readT k h (.sl r2 s2 d2 ln2 c2) n with
          | some (c, g) => some ⟨c ++ needs [mkLe (.lit 0) ln, mkLe (.lit 0) ln2, mkLe (.lit 0) d, mkLe (mkAdd i n) (.lit m)], .v (.one (.int .i64 n)), { h with rw := setB h.rw r { b with segs := p ++ .arr k (.splice a i g) m :: q } }⟩
          | none => none
        | some (p, .arrD k a, j, q) =>
          let i := mkAdd (.lit j) d
          match readT k h (.sl r2 s2 d2 ln2 c2) n with
          | some (c, g) => some ⟨c ++ needs [mkLe (.lit 0) ln, mkLe (.lit 0) ln2, mkLe (.lit 0) d, mkLe (mkAdd i n) (.len a)], .v (.one (.int .i64 n)), { h with rw := setB h.rw r { b with segs := p ++ .arrD k (.splice a i g) :: q } }⟩
          | none => none
        | _ => none
      else none
    | none => none
  | _, _, _ => none
/-- A copy of so many single cells. -/
def copyS (P : Program) (t : TypeId) (x y : Leaf) (h : Hp) : Option Res :=
  match P.underlying t, x, y with
  | some (.slice e), .sl r s d ln _, .sl r2 s2 d2 ln2 c2 =>
    match sizeT P e, ln.view, ln2.view, findB h.rw r with
    | some 1, .lit (.ofNat p), .lit (.ofNat q), some b =>
      match readS h (.sl r2 s2 d2 ln2 c2) (Nat.min q p) with
      | some (c, g) => if g.all Seg.plain then
          match storeMany b.segs s d (Nat.min q p) g with
          | some (c', g') => some ⟨c ++ c', .v (.one (.int .i64 (.lit (Nat.min q p : Nat)))), { h with rw := setB h.rw r { b with segs := joinCells g' } }⟩
          | none => none
        else none
      | none => none
    | _, _, _, _ => none
  | _, _, _ => none
/-- An array's or a struct's part, by value. -/
def partS (P : Program) (t : TypeId) (g : List Seg) (off : Nat) : Option SV :=
  if isAggT P t then
    match sizeT P t with
    | some n => match loadMany g off (.lit 0) n with
      | some ([], x) => some (.agg x)
      | _ => none
    | none => none
  else match loadLeaf g off (.lit 0) with
    | some ([], x) => some (.one x)
    | _ => none
def methodS (P : Program) (t : TypeId) (name : String) : Option FuncId :=
  match P.info? t with
  | some i =>
    match i.methods.find? (·.name == name) with
    | some m => if m.path.isEmpty then
        match m.func, P.underlying t with
        | some (f, true), some (.pointer _) => some f
        | _, _ => none
      else none
    | none => none
  | none => none
def hasBody (P : Program) (f : FuncId) : Bool :=
  match P.funcs[f]? with
  | some fn => fn.body.isSome && !(fn.name == "runtime.NumGoroutine")
  | none => false
/-- Which function a call enters, and with what. -/
def callS (P : Program) (fr : Nat → SR) (c : Call) : Option (FuncId × List SR) :=
  let args := c.args.toList.mapM (evS fr)
  match c.callee with
  | .value (.func f) => if hasBody P f then args.map (f, ·) else none
  | .invoke x name =>
    match evL fr x with
    | some (.iface t l) =>
      match methodS P t name with
      | some f => if hasBody P f then args.map fun as => (f, l.sr :: as) else none
      | none => none
    | _ => none
  | _ => none
def okRes (h : Hp) (c : List T) (x : SR) : Option Res := some ⟨c, x, h⟩
def stMove (fr : Nat → SR) (h : Hp) (x : Operand) : Option Res := (evS fr x).map fun v => ⟨[], v, h⟩
def stPick (P : Program) (specs : Nat → Option Spec) (fr : Nat → SR) (h : Hp) (c : Operand) (a : Operand) (b : Operand) : Option Res :=
    match evL fr c, evL fr a, evL fr b with
    | some (.bool t), some (.bool x), some (.bool y) => okRes h [] (boolL (mkBite t x y))
    | some (.bool .tt), some x, _ => okRes h [] x.sr
    | some (.bool .ff), _, some y => okRes h [] y.sr
    | some (.bool .tt), none, _ | some (.bool .ff), _, none => none
    | _, _, _ => none
def stAlloc (P : Program) (specs : Nat → Option Spec) (fr : Nat → SR) (h : Hp) (t : TypeId) : Option Res :=
    match zeroS P t with
    | some g => okRes (pushB h ⟨t, g⟩) [] (.v (.one (.ptr (.new h.na) 0 (.lit 0))))
    | none => none
def stBox (P : Program) (specs : Nat → Option Spec) (fr : Nat → SR) (h : Hp) (t : TypeId) (x : Operand) : Option Res :=
    match evS fr x with
    | some (.v v) => if v.plain = true then okRes (pushB h ⟨t, v.segs⟩) [] (.v (.one (.ptr (.new h.na) 0 (.lit 0)))) else none
    | _ => none
def stBuild (P : Program) (specs : Nat → Option Spec) (fr : Nat → SR) (h : Hp) (t : TypeId) (parts : Array (Nat × Operand)) : Option Res :=
    match parts.toList.mapM (fun (i, x) => (evS fr x).map fun v => (i, v)), P.underlying t, zeroS P t with
    | some ps, some (.struct fs), some z =>
      match fs.toList.mapM (fun f => (P.info? f.type).map fun i => (f.offset, i.size)) with
      | some places => match fillS (places.toArray[·]?) z ps with
        | some (_, g) => okRes h [] (.v (.agg (joinCells g)))
        | none => none
      | none => none
    | some ps, some (.array _ e), some z =>
      match sizeT P e, flatSegs z with
      | some n, some cs => match fillS (fun i => some (i * n, n)) [.cells cs] ps with
        | some (_, g) => okRes h [] (.v (.agg (packInts (joinCells g))))
        | none => none
      | _, _ => none
    | _, _, _ => none
def stBuildSlice (P : Program) (specs : Nat → Option Spec) (fr : Nat → SR) (h : Hp) (t : TypeId) (len : Nat) (parts : Array (Nat × Operand)) : Option Res :=
    match parts.toList.mapM (fun (i, x) => (evS fr x).map fun v => (i, v)), P.underlying t with
    | some ps, some (.slice e) =>
      match sizeT P e, zeroS P e with
      | some n, some z =>
        match flatSegs z with
        | some cs => if len * n ≤ 16777216 ∧ 0 < len * n ∧ cs.length = n then
            match fillS (fun i => some (i * n, n)) [.cells (List.replicate len cs).flatten] ps with
            | some (_, g) => okRes (pushB h ⟨e, packInts (joinCells g)⟩) [] (.v (.one (.sl (.new h.na) 0 (.lit 0) (.lit len) (.lit len))))
            | none => none
          else none
        | none => none
      | _, _ => none
    | _, _ => none
def stLoad (P : Program) (specs : Nat → Option Spec) (fr : Nat → SR) (h : Hp) (t : TypeId) (x : Operand) : Option Res :=
    match evL fr x with
    | some p => if (P.underlying t).isSome then (loadR P t p h).map fun (c, v) => ⟨c, .v v, h⟩ else none
    | none => none
def stStore (P : Program) (specs : Nat → Option Spec) (fr : Nat → SR) (h : Hp) (t : TypeId) (x : Operand) (y : Operand) : Option Res :=
    match evL fr x, evS fr y with
    | some p, some (.v v) => (storeR P t p v h).map fun (c, h') => ⟨c, .v (.one .undef), h'⟩
    | _, _ => none
def stNilCheck (P : Program) (specs : Nat → Option Spec) (fr : Nat → SR) (h : Hp) (x : Operand) : Option Res :=
    match evS fr x with
    | some (.v (.one (.ptr r s d))) => okRes h [] (.v (.one (.ptr r s d)))
    | some (.v (.one (.iface t l))) => okRes h [] (.v (.one (.iface t l)))
    | _ => none
/-- Two arrays of whole numbers held against one another. -/
def eqAggS (P : Program) (fr : Nat → SR) (op : BinOp) (t : TypeId) (x : Operand) (y : Operand) : Option T :=
    match evS fr x, evS fr y, P.underlying t with
    | some (.v (.agg [.arr k a m])), some (.v (.agg [.arr k' b m'])), some (.array n e) =>
      match P.underlying e, op with
      | some (.int _), .eql => if k = k' ∧ m = n ∧ m' = n ∧ sizeT P e = some 1 then some (.aeq a b) else none
      | some (.int _), .neq => if k = k' ∧ m = n ∧ m' = n ∧ sizeT P e = some 1 then some (.not (.aeq a b)) else none
      | _, _ => none
    | _, _, _ => none
def stBinOp (P : Program) (specs : Nat → Option Spec) (fr : Nat → SR) (h : Hp) (op : BinOp) (t : TypeId) (x : Operand) (y : Operand) : Option Res :=
    match evL fr x, evL fr y with
    | some a, some b => if eqTypeOk P t a then (binS op a b (isConstOp x) (isConstOp y)).map fun (c, l) => ⟨c, l.sr, h⟩ else none
    | none, none => match eqAggS P fr op t x y with
      | some b => okRes h [] (boolL b)
      | none => none
    | _, _ => none
def stUnOp (P : Program) (specs : Nat → Option Spec) (fr : Nat → SR) (h : Hp) (op : UnOp) (x : Operand) : Option Res :=
    match op, evL fr x with
    | .neg, some (.int k a) => (fitL k [] (mkSub (.lit 0) a)).map fun (c, l) => ⟨c, l.sr, h⟩
    | .xor, some (.int k a) => okRes h [] (intL k (mkBits .xor k (.lit (if k.signed then -1 else k.max)) a))
    | .not, some (.bool a) => okRes h [] (boolL (mkNot a))
    | _, _ => none
def stConvert (P : Program) (specs : Nat → Option Spec) (fr : Nat → SR) (h : Hp) (src : TypeId) (dst : TypeId) (x : Operand) : Option Res :=
    match P.underlying src, P.underlying dst, evL fr x with
    | some _, some (.int k), some (.int _ a) => (fitL k [] a).map fun (c, l) => ⟨c, l.sr, h⟩
    | _, _, _ => none
def stMakeInterface (P : Program) (specs : Nat → Option Spec) (fr : Nat → SR) (h : Hp) (t : TypeId) (x : Operand) : Option Res :=
    match P.underlying t, evL fr x with
    | some (.interface _), _ => none
    | some _, some l => okRes h [] (.v (.one (.iface t l)))
    | _, _ => none
def stMakeSlice (P : Program) (specs : Nat → Option Spec) (fr : Nat → SR) (h : Hp) (t : TypeId) (l : Operand) (c : Operand) : Option Res :=
    match P.underlying t, evL fr l, evL fr c with
    | some (.slice e), some (.int _ n), some (.int _ m) =>
      match P.info? e, zeroS P e with
      | some i, some [.cells [.int k (.lit 0)]] =>
        if n = m ∧ i.size = 1 then okRes (pushB h ⟨e, fixD [.arrD k (.rep n (.lit 0))]⟩) (needs [mkLe (.lit 0) n, mkLe (mkMul n (.lit i.bytes)) (.lit 140737488355328), mkLe n (.lit 9223372036854775807)]) (.v (.one (.sl (.new h.na) 0 (.lit 0) n n))) else none
      | some i, some [.arr k (.rep (.lit q) (.lit 0)) q'] =>
        if n = m ∧ i.size = q' ∧ q = q' ∧ 0 < q' then okRes (pushB h ⟨e, fixD [.arrD k (.rep (mkMul n (.lit q)) (.lit 0))]⟩) (needs [mkLe (.lit 0) n, mkLe (mkMul n (.lit i.bytes)) (.lit 140737488355328), mkLe n (.lit 9223372036854775807)]) (.v (.one (.sl (.new h.na) 0 (.lit 0) n n))) else none
      | _, _ => none
    | _, _, _ => none
def stSlice (P : Program) (specs : Nat → Option Spec) (fr : Nat → SR) (h : Hp) (t : TypeId) (x : Operand) (lo : Option Operand) (hi : Option Operand) (mx : Option Operand) : Option Res :=
    match evL fr x with
    | some p => (sliceS P t p fr lo hi mx).map fun (c, l) => ⟨c, (normL l).sr, h⟩
    | none => none
def stFieldAddr (P : Program) (specs : Nat → Option Spec) (fr : Nat → SR) (h : Hp) (t : TypeId) (x : Operand) (f : Nat) : Option Res :=
    match evL fr x, fieldT P t f with
    | some (.ptr r s d), some q => match sizeT P q.type with
      | some (_ + 1) => okRes h (needs [mkLe (.lit 0) d]) (.v (.one (.ptr r (s + q.offset) d)))
      | _ => none
    | _, _ => none
def stField (P : Program) (specs : Nat → Option Spec) (fr : Nat → SR) (h : Hp) (t : TypeId) (x : Operand) (f : Nat) : Option Res :=
    match evS fr x, fieldT P t f with
    | some (.v (.agg g)), some q => if (P.underlying q.type).isSome then (partS P q.type g q.offset).map fun v => ⟨[], .v v, h⟩ else none
    | _, _ => none
def stIndexAddr (P : Program) (specs : Nat → Option Spec) (fr : Nat → SR) (h : Hp) (t : TypeId) (x : Operand) (i : Operand) : Option Res :=
    match evL fr x, evL fr i with
    | some p, some q => (indexS P t p q).map fun (c, l) => ⟨c, l.sr, h⟩
    | _, _ => none
def stIndex (P : Program) (specs : Nat → Option Spec) (fr : Nat → SR) (h : Hp) (t : TypeId) (x : Operand) (i : Operand) : Option Res :=
    match evS fr x, evL fr i, P.underlying t with
    | some (.v (.agg g)), some (.int _ (.lit q)), some (.array n e) =>
      match sizeT P e with
      | some z => if 0 ≤ q ∧ q < n ∧ (P.underlying e).isSome = true then (partS P e g (q.toNat * z)).map fun v => ⟨[], .v v, h⟩ else none
      | none => none
    | some (.v (.agg [.arr k a m])), some (.int _ i), some (.array n e) =>
      if sizeT P e = some 1 ∧ isAggT P e = false ∧ (P.underlying e).isSome = true ∧ n = m then okRes h (needs [mkLe (.lit 0) i, mkLt i (.lit n)]) (intL k (mkGet a i)) else none
    | some (.v (.one (.str l))), some (.int _ i), some .string =>
      okRes h (needs [mkLe (.lit 0) i, mkLt i (.lit l.length)]) (intL .u8 (mkGet (.alit (l.map fun c => (c.toNat : Int))) i))
    | _, _, _ => none
def stExtract (P : Program) (specs : Nat → Option Spec) (fr : Nat → SR) (h : Hp) (x : Operand) (i : Nat) : Option Res :=
    match evS fr x with
    | some (.tup xs) => match xs[i]? with
      | some v => okRes h [] (.v v)
      | none => none
    | _ => none
/-- Whether a method is lacking (the kernel cannot reckon which). -/
def lacks (want : Array (String × TypeId)) (got : Array Method) : Option Unit :=
  match want.toList.filter fun (name, sig) => !got.any fun m => m.name == name && m.sig == sig with
  | [] => none
  | _ :: _ => some ()
def stTypeAssert (P : Program) (specs : Nat → Option Spec) (fr : Nat → SR) (h : Hp) (x : Operand) (asserted : TypeId) (ok : Bool) : Option Res :=
    match evL fr x, P.underlying asserted with
    | some (.iface t l), some (.interface want) => match P.info? t with
      | some i => match lacks want i.methods with
        | none => okRes h [] (if ok then .tup [.one (.iface t l), .one (.bool .tt)] else .v (.one (.iface t l)))
        | some _ => match ok, leafOf (((P.info? asserted).bind (·.zero)).getD (.agg #[])) with
          | true, some z => okRes h [] (.tup [.one z, .one (.bool .ff)])
          | _, _ => none
      | none => none
    | some (.iface t l), some d => if d matches .interface _ then none else
      if t = asserted then okRes h [] (if ok then .tup [.one l, .one (.bool .tt)] else .v (.one l))
      else match ok, leafOf (((P.info? asserted).bind (·.zero)).getD (.agg #[])) with
        | true, some z => okRes h [] (.tup [.one z, .one (.bool .ff)])
        | _, _ => none
    | _, _ => none
def stCall (P : Program) (specs : Nat → Option Spec) (fr : Nat → SR) (h : Hp) (c : Call) : Option Res :=
    match c.callee with
    | .builtin .len => match c.args.toList, c.argTypes.toList with
      | [x], [t] => match P.underlying t, evL fr x with
        | some (.slice _), some (.sl _ _ _ n _) => okRes h (needs [mkLe (.lit 0) n]) (intL .i64 n)
        | some (.slice _), some .nils => okRes h [] (intL .i64 (.lit 0))
        | some (.array n _), some _ => okRes h [] (intL .i64 (.lit n))
        | some .string, some (.str l) => okRes h [] (intL .i64 (.lit l.length))
        | _, _ => none
      | _, _ => none
    | .builtin .max => match c.args.toList with
      | [x, y] => match evL fr x, evL fr y with
        | some (.int k a), some (.int _ b) => okRes h [] (intL k (mkMx a b))
        | _, _ => none
      | _ => none
    | .builtin .min => match c.args.toList with
      | [x, y] => match evL fr x, evL fr y with
        | some (.int k a), some (.int _ b) => okRes h [] (intL k (mkMn a b))
        | _, _ => none
      | _ => none
    | .builtin .copy => match c.args.toList, c.argTypes.toList with
      | [x, y], [t, _] => match evL fr x, evL fr y with
        | some a, some b => match copyS P t a b h with
          | some r => some r
          | none => copyD P t a b h
        | _, _ => none
      | _, _ => none
    | _ => match callS P fr c with
      | some (f, args) => match specs f with
        | some s => s args h
        | none => none
      | none => none
/-- One operation. -/
def step (P : Program) (specs : Nat → Option Spec) (fr : Nat → SR) (h : Hp) (o : Oper) : Option Res :=
  match o.op with
  | .move x => stMove fr h x
  | .assign x => stMove fr h x
  | .pick c a b => stPick P specs fr h c a b
  | .alloc t => stAlloc P specs fr h t
  | .box t x => stBox P specs fr h t x
  | .build t parts => stBuild P specs fr h t parts
  | .buildSlice t len parts => stBuildSlice P specs fr h t len parts
  | .load t x => stLoad P specs fr h t x
  | .store t x y => stStore P specs fr h t x y
  | .nilCheck x => stNilCheck P specs fr h x
  | .binOp op t x y _ => stBinOp P specs fr h op t x y
  | .unOp op _ x => stUnOp P specs fr h op x
  | .convert src dst x => stConvert P specs fr h src dst x
  | .makeInterface t x => stMakeInterface P specs fr h t x
  | .makeSlice t l c => stMakeSlice P specs fr h t l c
  | .slice t x lo hi mx => stSlice P specs fr h t x lo hi mx
  | .fieldAddr t x f => stFieldAddr P specs fr h t x f
  | .field t x f => stField P specs fr h t x f
  | .indexAddr t x i => stIndexAddr P specs fr h t x i
  | .index t x i => stIndex P specs fr h t x i
  | .extract x i => stExtract P specs fr h x i
  | .typeAssert x _ asserted ok => stTypeAssert P specs fr h x asserted ok
  | .call c => stCall P specs fr h c
  | _ => none
end
end Go.Proofs.YtljjbikbfeigdaaGreatDoor
