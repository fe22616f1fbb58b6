/- Part of the proof of FnGrayEdgesCardSaid: Contracts of the encoder: a block. -/
import Derived.Test.YtljjbikbfeigdaaGreatDoorGe14
set_option linter.all false
namespace Go.Proofs.YtljjbikbfeigdaaGreatDoor
noncomputable section
open Go
/-- Two contracts of one function: by what an argument plainly is. -/
def argIs (k : Nat) (n : Int) (args : List SR) : Bool := match args[k]? with
  | some (.v (.one (.int _ t))) => match t.view with
    | .lit m => decide (m = n)
    | _ => false
  | _ => false
def pickR (p : List SR → Bool) (a b : RSpec) : RSpec := fun args h => match p args with
  | true => a args h
  | false => b args h
theorem pickR_ok {P : Program} {S : Sig} {f : FuncId} {p : List SR → Bool} {a b : RSpec} (ha : RSpecOk P S f a) (hb : RSpecOk P S f b) : RSpecOk P S f (pickR p a b) := by
  intro ρ w0 w h args r hr
  unfold pickR at hr
  split at hr
  · exact ha ρ w0 w h args r hr
  · exact hb ρ w0 w h args r hr
def inlK4 : Nat → Bool := fun _ => false
/-- a code alone, by table h, the value v -/
def c110' (h : Nat) : Ctr where
  args := [p0 (.old 0), .v (.one (.int .i64 (.lit h))), .v (.one (.int .i32 (.iv 10)))]
  hp := eIn
  pre := preE 6 ++ inR (.lit 0) (.iv 10) (.lit 240)
  val := .tup []
  hp' := eOut
  post := postE 6 (fA (20 + h) (.iv 10) z0 z0 z0 s0)
  quiet := false
def fA3 (f : Nat) (x y : T) (a b c : T) : T := .fa f x y z0 z0 a b c (.alit [])
def allT (lo hi : Int) (a : T) : T := .fb 2 (.lit lo) (.lit hi) z0 z0 a (.alit []) (.alit []) (.alit [])
def c89 (q : Nat) : Ctr where
  args := [p0 (.old 0), p0 (.old 20), .v (.one (.int .i64 (.lit q))), .v (.one (.int .i32 (.iv 3)))]
  hp := { eIn with rw := hE 0 (.iv 0) (.av 1) (.iv 1) (.iv 2) (.av 2) (.av 3) ++ [bB 20 (.av 4)], ro := [(.glob 5, .u8, cA 44), (.glob 4, .i64, cA 45)] }
  pre := preE 1152 ++ inR (.lit (-1024)) (.iv 3) (.lit 1023) ++ [.eq (.len (.av 3)) (.lit 128), .eq (.len (.av 4)) (.lit 64), allT 1 255 (.av 3), allT 0 255 (.av 4)]
  val := .v (.one (.int .i32 (.fi (61 + q) z0 z0 z0 z0 (.av 3) (.av 4) (.alit []) (.alit []))))
  hp' := { eOut with rw := hE 100 (.iv 100) (.av 101) (.iv 101) (.iv 102) (.av 2) (.av 3) ++ [bB 20 (.av 102)], ro := [(.glob 5, .u8, cA 44), (.glob 4, .i64, cA 45)] }
  post := postE 1152 (fA3 (70 + q) (.iv 3) z0 s0 (.av 3) (.av 4)) ++ [.eq (.len (.av 102)) (.lit 64), .le (.lit (-1024)) (.fi (61 + q) z0 z0 z0 z0 (.av 3) (.av 4) (.alit []) (.alit [])), .le (.fi (61 + q) z0 z0 z0 z0 (.av 3) (.av 4) (.alit []) (.alit [])) (.lit 1023)]
  quiet := false
/-- the stream with the letters from b on -/
def stB (b : Nat) : T := sT (tot (.av b) (.av (b + 1)) (.iv (b + 2))) (.iv b) (.iv (b + 1))
def rwE (b : Nat) : List (Ref × List Seg) := wrS b (.iv (b + 2)) (.av (b + 1)) ++ [(.old 0, [.cells [.iface 141 (.ptr (.old 1) 0 (.lit 0)), .nilI], .arr .u8 (.av 2) 16, .cells [.int .u32 (.iv b), .int .u32 (.iv (b + 1))], .arr .u8 (.av 3) 128, .cells lutR])]
def okB (b : Nat) : List T := okSt (.iv (b + 2)) (.av (b + 1)) (.iv b) (.iv (b + 1))
/-- the loop over the coefficients: the state behind the first code bears the letters from 1400 on -/
def ann89o (q : Nat) : List SR → Hp → Option Ann := mkAnn fun b _ _ => {
  lo := 43, hi := 85
  tr := [(11, .v (.one (.int .i32 (.iv (b + 3))))), (12, .v (.one (.int .i64 (.iv (b + 4))))), (13, .v (.one (.junk (b + 99)))), (41, .v (.one (.junk (b + 98)))), (42, .v (.one (.junk (b + 97))))]
  rw := rwE b
  ow := some (.av b)
  facts := okB b ++ inR (.lit 0) (.iv (b + 3)) (.iv (b + 4)) ++ inR (.lit 1) (.iv (b + 4)) (.lit 64) ++ [
    .le (.add (.add (.len (.av b)) (.iv (b + 2))) (.iv (b + 3))) (.add (.add (.len (.av 0)) (.iv 0)) (.sub (.mul (.lit 18) (.iv (b + 4))) (.lit 6))),
    .aeq (fA3 (80 + q) (.iv (b + 4)) (.iv (b + 3)) (stB b) (.av 3) (fA 52 z0 z0 z0 z0 (.av 4))) (fA3 (70 + q) (.iv 3) z0 s0 (.av 3) (.av 4))]
  meas := .sub (.lit 64) (.iv (b + 4))
  quiet := false }
def ann89i (q : Nat) : List SR → Hp → Option Ann := mkAnn fun b _ _ => {
  lo := 67, hi := 85
  tr := [(11, .v (.one (.int .i32 (.iv (b + 3)))))]
  rw := rwE b
  ow := some (.av b)
  facts := okB b ++ inR (.lit 0) (.iv (b + 3)) (.lit 64) ++ [
    .le (.add (.add (.len (.av b)) (.iv (b + 2))) (.iv (b + 3))) (.add (.add (.len (.av 0)) (.iv 0)) (.sub (.mul (.lit 18) (.iv (b - 400 + 4))) (.lit 6))),
    .eq (.tmod (.iv (b + 3)) (.lit 16)) (.tmod (.iv (b - 400 + 3)) (.lit 16)),
    .aeq (fA (82 + q) (.iv (b + 3)) z0 z0 z0 (stB b)) (fA (82 + q) (.iv (b - 400 + 3)) z0 z0 z0 (stB (b - 400)))]
  meas := .iv (b + 3)
  quiet := false }
def ltK4 (q : Nat) : Nat → Nat → Option (List SR → Hp → Option Ann) := fun f k => match f, k with
  | 89, 6 => some (ann89o q)
  | 89, 11 => some (ann89i q)
  | _, _ => none
def spE : Nat → Option Spec := fun f => match f with
  | 108 => some (applyF c108)
  | _ => none
def rspF (q : Nat) : Nat → Option RSpec := fun f => match f with
  | 107 => some (applyR c107)
  | 110 => some (applyR (c110' (2 * q + 1)))
  | 109 => some (pickR (argIs 1 (2 * q + 1)) (applyR (c109 (2 * q + 1) 15 1023)) (applyR (c109 (2 * q) 0 2047)))
  | _ => none
end
end Go.Proofs.YtljjbikbfeigdaaGreatDoor
namespace Go.Proofs.YtljjbikbfeigdaaGreatDoor
noncomputable section
open Go
/-- A number, 2^s times of which is a linear form and an error from lo to hi. -/
structure Aff where
  c : List Int
  s : Nat
  lo : Int
  hi : Int
def dot : List Int → List Int → Int
  | a :: l, x :: m => a * x + dot l m
  | _, _ => 0
def addL : List Int → List Int → List Int
  | [], m => m
  | l, [] => l
  | a :: l, b :: m => (a + b) :: addL l m
def sclL (k : Int) : List Int → List Int
  | [] => []
  | a :: l => k * a :: sclL k l
theorem dot_addL : ∀ (l m x : List Int), dot (addL l m) x = dot l x + dot m x
  | [], m, x => by simp [addL, dot]
  | a :: l, [], x => by cases x <;> simp [addL, dot]
  | a :: l, b :: m, [] => by simp [addL, dot]
  | a :: l, b :: m, x :: xs => by
    simp only [addL, dot]
    rw [dot_addL l m xs, Int.add_mul]; omega
theorem dot_sclL (k : Int) : ∀ (l x : List Int), dot (sclL k l) x = k * dot l x
  | [], x => by simp [sclL, dot]
  | a :: l, [] => by simp [sclL, dot]
  | a :: l, x :: xs => by simp only [sclL, dot]; rw [dot_sclL k l xs, Int.mul_add, Int.mul_assoc]
/-- The greatest and the least value of a form. -/
def mxd (xl xh : Int) : List Int → Int
  | [] => 0
  | a :: l => (if 0 ≤ a then a * xh else a * xl) + mxd xl xh l
def mnd (xl xh : Int) : List Int → Int
  | [] => 0
  | a :: l => (if 0 ≤ a then a * xl else a * xh) + mnd xl xh l
theorem dot_mxd {xl xh : Int} : ∀ {c x : List Int}, c.length ≤ x.length → (∀ y ∈ x, xl ≤ y ∧ y ≤ xh) → mnd xl xh c ≤ dot c x ∧ dot c x ≤ mxd xl xh c
  | [], x, _, _ => by simp [dot, mxd, mnd]
  | a :: l, [], h, _ => by simp at h
  | a :: l, x :: xs, h, hx => by
    have ih := dot_mxd (c := l) (x := xs) (by simpa using h) (fun y hy => hx y (List.mem_cons_of_mem _ hy))
    have h0 := hx x List.mem_cons_self
    simp only [dot, mxd, mnd]
    split
    · rename_i ha
      have := Int.mul_le_mul_of_nonneg_left h0.1 ha
      have := Int.mul_le_mul_of_nonneg_left h0.2 ha
      omega
    · rename_i ha
      have := Int.mul_le_mul_of_nonpos_left (a := a) (by omega) h0.1
      have := Int.mul_le_mul_of_nonpos_left (a := a) (by omega) h0.2
      omega
def Aff.Is (x : List Int) (a : Aff) (v : Int) : Prop := ∃ e, a.lo ≤ e ∧ e ≤ a.hi ∧ v * 2 ^ a.s = dot a.c x + e
def Aff.lift (a : Aff) (k : Nat) : Aff := ⟨sclL (2 ^ k) a.c, a.s + k, a.lo * 2 ^ k, a.hi * 2 ^ k⟩
def Aff.neg (a : Aff) : Aff := ⟨sclL (-1) a.c, a.s, -a.hi, -a.lo⟩
def Aff.add0 (a b : Aff) : Aff := ⟨addL a.c b.c, a.s, a.lo + b.lo, a.hi + b.hi⟩
def Aff.add (a b : Aff) : Aff := (a.lift (b.s - a.s)).add0 (b.lift (a.s - b.s))
def Aff.mulc (k : Int) (a : Aff) : Aff := if 0 ≤ k then ⟨sclL k a.c, a.s, k * a.lo, k * a.hi⟩ else ⟨sclL k a.c, a.s, k * a.hi, k * a.lo⟩
def Aff.addc (m : Int) (a : Aff) : Aff := ⟨a.c, a.s, a.lo + m * 2 ^ a.s, a.hi + m * 2 ^ a.s⟩
def Aff.shr (k : Nat) (a : Aff) : Aff := ⟨a.c, a.s + k, a.lo - 2 ^ a.s * (2 ^ k - 1), a.hi⟩
theorem p2 (k : Nat) : (0 : Int) < 2 ^ k := Int.pow_pos (by omega)
section
variable {x : List Int} {a b : Aff} {v w : Int}
theorem lift_is (h : a.Is x v) (k : Nat) : (a.lift k).Is x v := by
  obtain ⟨e, h1, h2, h3⟩ := h
  have hp := p2 k
  refine ⟨e * 2 ^ k, Int.mul_le_mul_of_nonneg_right h1 (by omega), Int.mul_le_mul_of_nonneg_right h2 (by omega), ?_⟩
  show v * 2 ^ (a.s + k) = dot (sclL (2 ^ k) a.c) x + e * 2 ^ k
  rw [dot_sclL, Int.pow_add, ← Int.mul_assoc, h3, Int.add_mul, Int.mul_comm (dot a.c x)]
theorem neg_is (h : a.Is x v) : a.neg.Is x (-v) := by
  obtain ⟨e, h1, h2, h3⟩ := h
  refine ⟨-e, Int.neg_le_neg h2, Int.neg_le_neg h1, ?_⟩
  show -v * 2 ^ a.s = dot (sclL (-1) a.c) x + -e
  rw [dot_sclL, Int.neg_mul, h3]; omega
theorem add0_is (hs : a.s = b.s) (h : a.Is x v) (h' : b.Is x w) : (a.add0 b).Is x (v + w) := by
  obtain ⟨e, h1, h2, h3⟩ := h
  obtain ⟨f, g1, g2, g3⟩ := h'
  refine ⟨e + f, Int.add_le_add h1 g1, Int.add_le_add h2 g2, ?_⟩
  show (v + w) * 2 ^ a.s = dot (addL a.c b.c) x + (e + f)
  rw [dot_addL, Int.add_mul, h3]
  rw [hs, g3]; omega
theorem add_is (h : a.Is x v) (h' : b.Is x w) : (a.add b).Is x (v + w) :=
  add0_is (show a.s + (b.s - a.s) = b.s + (a.s - b.s) by omega) (lift_is h _) (lift_is h' _)
theorem sub_is (h : a.Is x v) (h' : b.Is x w) : (a.add b.neg).Is x (v - w) := by
  have := add_is h (neg_is h')
  rwa [← Int.sub_eq_add_neg] at this
theorem mulc_is (k : Int) (h : a.Is x v) : (a.mulc k).Is x (k * v) := by
  obtain ⟨e, h1, h2, h3⟩ := h
  unfold Aff.mulc
  split
  · rename_i hk
    refine ⟨k * e, Int.mul_le_mul_of_nonneg_left h1 hk, Int.mul_le_mul_of_nonneg_left h2 hk, ?_⟩
    show k * v * 2 ^ a.s = dot (sclL k a.c) x + k * e
    rw [dot_sclL, Int.mul_assoc, h3, Int.mul_add]
  · rename_i hk
    refine ⟨k * e, Int.mul_le_mul_of_nonpos_left (by omega) h2, Int.mul_le_mul_of_nonpos_left (by omega) h1, ?_⟩
    show k * v * 2 ^ a.s = dot (sclL k a.c) x + k * e
    rw [dot_sclL, Int.mul_assoc, h3, Int.mul_add]
theorem addc_is (m : Int) (h : a.Is x v) : (a.addc m).Is x (v + m) := by
  obtain ⟨e, h1, h2, h3⟩ := h
  refine ⟨e + m * 2 ^ a.s, Int.add_le_add_right h1 _, Int.add_le_add_right h2 _, ?_⟩
  show (v + m) * 2 ^ a.s = dot a.c x + (e + m * 2 ^ a.s)
  rw [Int.add_mul, h3]; omega
theorem sh_eq (v : Int) (k : Nat) : sh v k = v / 2 ^ k := by
  cases k with
  | zero => simp [sh]
  | succ k => rfl
theorem shr_is (k : Nat) (h : a.Is x v) : (a.shr k).Is x (sh v k) := by
  obtain ⟨e, h1, h2, h3⟩ := h
  have hk := p2 k
  have hs := p2 a.s
  have hm1 := Int.emod_nonneg v (Int.ne_of_gt hk)
  have hm2 := Int.emod_lt_of_pos v hk
  have hd := Int.mul_ediv_add_emod v (2 ^ k)
  have l1 : 2 ^ a.s * (v % 2 ^ k) ≤ 2 ^ a.s * (2 ^ k - 1) := Int.mul_le_mul_of_nonneg_left (by omega) (by omega)
  have l2 : 0 ≤ 2 ^ a.s * (v % 2 ^ k) := Int.mul_nonneg (by omega) hm1
  refine ⟨e - 2 ^ a.s * (v % 2 ^ k), ?_, ?_, ?_⟩
  · show a.lo - 2 ^ a.s * (2 ^ k - 1) ≤ _; omega
  · show _ ≤ a.hi; omega
  · show sh v k * 2 ^ (a.s + k) = dot a.c x + (e - 2 ^ a.s * (v % 2 ^ k))
    rw [sh_eq, Int.pow_add]
    have e1 : v / 2 ^ k * (2 ^ a.s * 2 ^ k) = 2 ^ a.s * (2 ^ k * (v / 2 ^ k)) := by
      rw [Int.mul_comm, Int.mul_assoc]
    have e2 : 2 ^ k * (v / 2 ^ k) = v - v % 2 ^ k := by omega
    rw [e1, e2, Int.mul_sub, Int.mul_comm (2 ^ a.s) v, h3]; omega
end
/-- Within 32 bits. -/
def Aff.w (xl xh : Int) (a : Aff) : Option Aff := if a.c.length ≤ 8 ∧ mxd xl xh a.c + a.hi < 2147483648 * 2 ^ a.s ∧ -2147483648 * 2 ^ a.s ≤ mnd xl xh a.c + a.lo then some a else none
theorem w_is {xl xh : Int} {x : List Int} (hl : x.length = 8) (hx : ∀ y ∈ x, xl ≤ y ∧ y ≤ xh) {a b : Aff} {v : Int} (hw : a.w xl xh = some b) (h : a.Is x v) : b.Is x (w32 v) := by
  unfold Aff.w at hw
  split at hw
  · rename_i hc
    cases hw
    obtain ⟨h1, h2, h3⟩ := hc
    have hd := dot_mxd (c := a.c) (x := x) (by omega) hx
    obtain ⟨e, g1, g2, g3⟩ := h
    have hp := p2 a.s
    have v1 : v < 2147483648 := by
      apply Int.lt_of_mul_lt_mul_right (a := 2 ^ a.s) _ (by omega)
      rw [g3]; omega
    have v2 : -2147483648 ≤ v := by
      apply Int.le_of_mul_le_mul_right (a := 2 ^ a.s) _ hp
      rw [g3]; omega
    have : w32 v = v := by unfold w32; rw [IntKind.wrap_i32]; omega
    rw [this]; exact ⟨e, g1, g2, g3⟩
  · cases hw
def regA (l : List Aff) (n : Nat) : Aff := l.getD n ⟨[], 0, 0, 0⟩
def absBox (xl xh : Int) (x y : Aff) (c s : Int) : Option (Aff × Aff) :=
  (Aff.w xl xh (x.add y)).bind fun t => (Aff.w xl xh (t.mulc c)).bind fun k =>
    (Aff.w xl xh (y.mulc (w32 (s - c)))).bind fun p => (Aff.w xl xh (x.mulc (w32 (c + s)))).bind fun q =>
      (Aff.w xl xh (k.add p)).bind fun u => (Aff.w xl xh (k.add q.neg)).map fun v => (u, v)
def set2 (l : List Aff) (a b : Nat) (u v : Aff) : List Aff := (l.set a u).set b v
def Ins.abs (xl xh : Int) (l : List Aff) : Ins → Option (List Aff)
  | .bf a b => (Aff.w xl xh ((regA l a).add (regA l b))).bind fun u => (Aff.w xl xh ((regA l a).add (regA l b).neg)).map fun v => set2 l a b u v
  | .box a b k c s => (absBox xl xh ((regA l a).shr k) ((regA l b).shr k) c s).map fun p => set2 l a b p.1 p.2
  | .sm a k c => (Aff.w xl xh (((regA l a).shr k).mulc c)).map fun u => l.set a u
  | .rnd a => (Aff.w xl xh ((regA l a).addc 131072)).map fun u => l.set a (u.shr 18)
  | .dc a => (Aff.w xl xh ((regA l a).addc (-1024))).bind fun u => (Aff.w xl xh (u.mulc 262144)).map fun v => l.set a v
  | .sl a => (Aff.w xl xh ((regA l a).mulc 262144)).map fun v => l.set a v
def absRuns (xl xh : Int) : List Ins → List Aff → Option (List Aff)
  | [], l => some l
  | i :: p, l => (i.abs xl xh l).bind (absRuns xl xh p)
def Regs (x : List Int) (l : List Aff) (f : Nat → Int) : Prop := l.length = 8 ∧ ∀ n, n < 8 → (regA l n).Is x (f n)
theorem regs_set {x : List Int} {l : List Aff} {f : Nat → Int} (h : Regs x l f) {n : Nat} {a : Aff} {v : Int} (ha : a.Is x v) : Regs x (l.set n a) (updR f n v) := by
  refine ⟨by rw [List.length_set]; exact h.1, fun m hm => ?_⟩
  unfold regA updR
  by_cases e : m = n
  · subst e
    rw [List.getD_eq_getElem?_getD, List.getElem?_set_self (by rw [h.1]; exact hm)]
    simp only [Nat.beq_refl, cond_true, Option.getD_some]; exact ha
  · rw [List.getD_eq_getElem?_getD, List.getElem?_set_ne (by omega)]
    have : Nat.beq m n = false := by
      rw [← Bool.not_eq_true, Nat.beq_eq]; exact e
    rw [this, cond_false]
    have := h.2 m hm
    unfold regA at this
    rwa [List.getD_eq_getElem?_getD] at this
theorem box_is {xl xh : Int} {x : List Int} (hl : x.length = 8) (hx : ∀ y ∈ x, xl ≤ y ∧ y ≤ xh) {a b : Aff} {v w c s : Int} {p : Aff × Aff} (ha : a.Is x v) (hb : b.Is x w) (h : absBox xl xh a b c s = some p) : p.1.Is x (boxA v w c s) ∧ p.2.Is x (boxB v w c s) := by
  unfold absBox at h
  simp only [Option.bind_eq_some_iff, Option.map_eq_some_iff] at h
  obtain ⟨t, h1, k, h2, p1, h3, q1, h4, u, h5, w1, h6, rfl⟩ := h
  have r1 := w_is hl hx h1 (add_is ha hb)
  have r2 := w_is hl hx h2 (mulc_is c r1)
  have r3 := w_is hl hx h3 (mulc_is _ hb)
  have r4 := w_is hl hx h4 (mulc_is _ ha)
  exact ⟨w_is hl hx h5 (add_is r2 r3), w_is hl hx h6 (sub_is r2 r4)⟩
theorem ins_is {xl xh : Int} {x : List Int} (hl : x.length = 8) (hx : ∀ y ∈ x, xl ≤ y ∧ y ≤ xh) {l l' : List Aff} {f : Nat → Int} (h : Regs x l f) : ∀ {i : Ins}, (∀ a b, i = .bf a b → a < 8 ∧ b < 8) → (∀ a b k c s, i = .box a b k c s → a < 8 ∧ b < 8) → (∀ a k c, i = .sm a k c → a < 8) → (∀ a, i = .rnd a → a < 8) → (∀ a, i = .dc a → a < 8) → (∀ a, i = .sl a → a < 8) → i.abs xl xh l = some l' → Regs x l' (i.run f)
  | .bf a b, k1, _, _, _, _, _, hi => by
    simp only [Ins.abs, Option.bind_eq_some_iff, Option.map_eq_some_iff] at hi
    obtain ⟨u, h1, v, h2, rfl⟩ := hi
    obtain ⟨ha, hb⟩ := k1 a b rfl
    exact regs_set (regs_set h (w_is hl hx h1 (add_is (h.2 a ha) (h.2 b hb)))) (w_is hl hx h2 (sub_is (h.2 a ha) (h.2 b hb)))
  | .box a b k c s, _, k1, _, _, _, _, hi => by
    simp only [Ins.abs, Option.map_eq_some_iff] at hi
    obtain ⟨p, h1, rfl⟩ := hi
    obtain ⟨ha, hb⟩ := k1 a b k c s rfl
    have := box_is hl hx (shr_is k (h.2 a ha)) (shr_is k (h.2 b hb)) h1
    exact regs_set (regs_set h this.1) this.2
  | .sm a k c, _, _, k1, _, _, _, hi => by
    simp only [Ins.abs, Option.map_eq_some_iff] at hi
    obtain ⟨u, h1, rfl⟩ := hi
    have := w_is hl hx h1 (mulc_is c (shr_is k (h.2 a (k1 a k c rfl))))
    rw [Int.mul_comm] at this
    exact regs_set h this
  | .rnd a, _, _, _, k1, _, _, hi => by
    simp only [Ins.abs, Option.map_eq_some_iff] at hi
    obtain ⟨u, h1, rfl⟩ := hi
    exact regs_set h (shr_is 18 (w_is hl hx h1 (addc_is 131072 (h.2 a (k1 a rfl)))))
  | .dc a, _, _, _, _, k1, _, hi => by
    simp only [Ins.abs, Option.bind_eq_some_iff, Option.map_eq_some_iff] at hi
    obtain ⟨u, h1, v, h2, rfl⟩ := hi
    have := w_is hl hx h2 (mulc_is 262144 (w_is hl hx h1 (addc_is (-1024) (h.2 a (k1 a rfl)))))
    rw [Int.mul_comm] at this
    exact regs_set h this
  | .sl a, _, _, _, _, _, k1, hi => by
    simp only [Ins.abs, Option.map_eq_some_iff] at hi
    obtain ⟨v, h1, rfl⟩ := hi
    have := w_is hl hx h1 (mulc_is 262144 (h.2 a (k1 a rfl)))
    rw [Int.mul_comm] at this
    exact regs_set h this
def Ins.ok : Ins → Bool
  | .bf a b => decide (a < 8) && decide (b < 8)
  | .box a b _ _ _ => decide (a < 8) && decide (b < 8)
  | .sm a _ _ | .rnd a | .dc a | .sl a => decide (a < 8)
theorem runs_is {xl xh : Int} {x : List Int} (hl : x.length = 8) (hx : ∀ y ∈ x, xl ≤ y ∧ y ≤ xh) : ∀ {p : List Ins} {l l' : List Aff} {f : Nat → Int}, p.all Ins.ok = true → Regs x l f → absRuns xl xh p l = some l' → Regs x l' (runs p f)
  | [], l, l', f, _, h, hi => by cases hi; exact h
  | i :: p, l, l', f, ho, h, hi => by
    simp only [absRuns, Option.bind_eq_some_iff] at hi
    obtain ⟨m, h1, h2⟩ := hi
    simp only [List.all_cons, Bool.and_eq_true] at ho
    refine runs_is (p := p) hl hx ho.2 (ins_is hl hx h ?_ ?_ ?_ ?_ ?_ ?_ h1) h2
    · rintro a b rfl; simpa [Ins.ok] using ho.1
    · rintro a b k c s rfl; simpa [Ins.ok] using ho.1
    · rintro a k c rfl; simpa [Ins.ok] using ho.1
    · rintro a rfl; simpa [Ins.ok] using ho.1
    · rintro a rfl; simpa [Ins.ok] using ho.1
    · rintro a rfl; simpa [Ins.ok] using ho.1
end
end Go.Proofs.YtljjbikbfeigdaaGreatDoor
