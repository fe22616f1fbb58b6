/- Part of the proof of FnGrayEdgesCardSaid: Words for contracts and for loops' annotations. -/
import Derived.Test.YtljjbikbfeigdaaGreatDoorGe10
set_option linter.all false
namespace Go.Proofs.YtljjbikbfeigdaaGreatDoor
noncomputable section
open Go
def app (a b : T) : T := .splice a (.len a) b
def one (t : T) : T := .set (.alit [0]) (.lit 0) t
def p0 (r : Ref) : SR := .v (.one (.ptr r 0 (.lit 0)))
def pL0 (r : Ref) : Leaf := .ptr r 0 (.lit 0)
def slR (r : Ref) (d l c : T) : SR := .v (.one (.sl r 0 d l c))
def noS : Nat → Option Spec := fun _ => none
def noR : Nat → Option RSpec := fun _ => none
def noTab : Tab := ⟨fun _ _ => none, fun _ => false⟩
def inR (a t b : T) : List T := [.le a t, .le t b]
/-- The slots of a frame, some of them made anew: those that are told, and those from lo to hi that nobody reads. -/
def annFr (b lo hi : Nat) (tr : List (Nat × SR)) : Nat → List SR → List SR
  | _, [] => []
  | n, x :: l => (match look tr n with
    | some y => y
    | none => if Nat.ble lo n && Nat.ble (n + 1) hi then .v (.one (.junk (b + 100 + n))) else x) :: annFr b lo hi tr (n + 1) l
def annRw (l : List (Ref × List Seg)) : List (Ref × Blk) → List (Ref × Blk)
  | [] => []
  | (r, b) :: m => (r, match l.find? (fun x => Nat.beq x.1.code r.code) with
    | some (_, g) => { b with segs := g }
    | none => b) :: annRw l m
/-- What a loop's annotation tells, from the first new name on. -/
structure AnnD where
  lo : Nat
  hi : Nat
  tr : List (Nat × SR)
  rw : List (Ref × List Seg) := []
  ow : Option T := none
  facts : List T
  meas : T
  quiet : Bool
def mkAnn (f : Nat → List SR → Hp → AnnD) (fr : List SR) (h : Hp) : Option Ann :=
  let d := f h.nv fr h
  some { fr := annFr h.nv d.lo d.hi d.tr 0 fr, h := { h with rw := annRw d.rw h.rw, ow := match d.ow, h.ow with | some a, some o => some ⟨h.nv, o.e, o.k, a⟩ | _, o => o, nv := h.nv + 400 }, facts := d.facts, meas := d.meas, quiet := d.quiet }
end
end Go.Proofs.YtljjbikbfeigdaaGreatDoor
namespace Go.Proofs.YtljjbikbfeigdaaGreatDoor
noncomputable section
open Go
def sameL : List T → List T → Bool
  | [], [] => true
  | a :: l, b :: m => (a.same b).and (sameL l m)
  | _, _ => false
theorem sameL_spec : ∀ {l m : List T}, sameL l m = true → l = m
  | [], [], _ => rfl
  | a :: l, b :: m, h => by
    simp only [sameL, Bool.and_eq_true] at h
    rw [T.same_spec h.1, sameL_spec h.2]
  | [], _ :: _, h => by cases h
  | _ :: _, [], h => by cases h
def VC.same : VC → VC → Bool
  | .need c k, .need d l => (sameL c d).and (k.same l)
  | .cond c a b, .cond d x y => (c.same d).and ((a.same x).and (b.same y))
  | .any n m f k, .any n' m' f' l => (Nat.beq n n').and ((Nat.beq m m').and ((sameL f f').and (k.same l)))
  | .done, .done => true
  | .fail _, .fail _ => true
  | _, _ => false
/-- The same, whatever is said of what fails. -/
def VC.le : VC → VC
  | .need c k => .need c k.le
  | .cond c a b => .cond c a.le b.le
  | .any n m f k => .any n m f k.le
  | .done => .done
  | .fail _ => .fail ""
theorem VC.same_spec : ∀ {a b : VC}, a.same b = true → a.le = b.le
  | .need c k, .need d l, h => by
    simp only [VC.same, Bool.and_eq_true] at h
    simp only [VC.le, sameL_spec h.1, VC.same_spec h.2]
  | .cond c a b, .cond d x y, h => by
    simp only [VC.same, Bool.and_eq_true] at h
    simp only [VC.le, T.same_spec h.1, VC.same_spec h.2.1, VC.same_spec h.2.2]
  | .any n m f k, .any n' m' f' l, h => by
    simp only [VC.same, Bool.and_eq_true] at h
    simp only [VC.le, Nat.eq_of_beq_eq_true h.1, Nat.eq_of_beq_eq_true h.2.1, sameL_spec h.2.2.1, VC.same_spec h.2.2.2]
  | .done, .done, _ => rfl
  | .fail _, .fail _, _ => rfl
  | .need .., .cond .., h => by cases h
  | .need .., .any .., h => by cases h
  | .need .., .done, h => by cases h
  | .need .., .fail _, h => by cases h
  | .cond .., .need .., h => by cases h
  | .cond .., .any .., h => by cases h
  | .cond .., .done, h => by cases h
  | .cond .., .fail _, h => by cases h
  | .any .., .need .., h => by cases h
  | .any .., .cond .., h => by cases h
  | .any .., .done, h => by cases h
  | .any .., .fail _, h => by cases h
  | .done, .need .., h => by cases h
  | .done, .cond .., h => by cases h
  | .done, .any .., h => by cases h
  | .done, .fail _, h => by cases h
  | .fail _, .need .., h => by cases h
  | .fail _, .cond .., h => by cases h
  | .fail _, .any .., h => by cases h
  | .fail _, .done, h => by cases h
theorem VC.le_sem {S : Sig} {ρ : Env} : ∀ {a : VC}, a.le.sem S ρ ↔ a.sem S ρ
  | .need c k => by simp only [VC.le, VC.sem, VC.le_sem (a := k)]
  | .cond c a b => by simp only [VC.le, VC.sem, VC.le_sem (a := a), VC.le_sem (a := b)]
  | .any n m f k => by simp only [VC.le, VC.sem, VC.le_sem (a := k)]
  | .done => Iff.rfl
  | .fail _ => Iff.rfl
def vcIs (o : Option VC) (v : VC) : Bool := match o with
  | some u => u.same v
  | none => false
/-- A contract of the program. -/
theorem ctr_prog {S : Sig} {specs : Nat → Option Spec} {rsp : Nat → Option RSpec} {tab : Tab} {fuel f : Nat} {c : Ctr} {vc : VC} (hsp : ∀ f s, specs f = some s → SpecOk Tryz.prog S f s) (hrsp : ∀ f s, rsp f = some s → RSpecOk Tryz.prog S f s)
    (h : vcIs (vcOf Tryz.prog specs rsp tab fuel f c) vc = true) (hv : ∀ ρ, Met S ρ (c.pre ++ lenFacts c.hp.rw) → vc.sem S ρ) : CtrOk Tryz.prog S f c := by
  unfold vcIs at h
  split at h
  · rename_i u hu
    exact ctr_ok mixed drawsOk_prog hsp hrsp hu fun ρ hm => VC.le_sem.1 (VC.same_spec h ▸ VC.le_sem.2 (hv ρ hm))
  · cases h
theorem noS_ok {S : Sig} : ∀ f s, noS f = some s → SpecOk Tryz.prog S f s := fun _ _ h => by cases h
theorem noR_ok {S : Sig} : ∀ f s, noR f = some s → RSpecOk Tryz.prog S f s := fun _ _ h => by cases h
theorem hyp_nil {S : Sig} {ρ : Env} {p : Prop} : hyp S ρ [] p ↔ p := Iff.rfl
theorem hyp_cons {S : Sig} {ρ : Env} {p : Prop} {t : T} {l : List T} : hyp S ρ (t :: l) p ↔ (t.B S ρ = true → hyp S ρ l p) := Iff.rfl
theorem met_nil {S : Sig} {ρ : Env} : Met S ρ [] ↔ True := ⟨fun _ => trivial, fun _ => Met.nil⟩
theorem shr_24_u32 (x : Int) : x.fdiv (2 ^ Min.min (Int.toNat 24) IntKind.u32.bits) = x / 16777216 := Int.fdiv_eq_ediv_of_nonneg _ (by decide)
theorem shr_8_u32 (x : Int) : x.fdiv (2 ^ Min.min (Int.toNat 8) IntKind.u32.bits) = x / 256 := Int.fdiv_eq_ediv_of_nonneg _ (by decide)
theorem shr_8_i32 (x : Int) : x.fdiv (2 ^ Min.min (Int.toNat 8) IntKind.i32.bits) = x / 256 := Int.fdiv_eq_ediv_of_nonneg _ (by decide)
theorem shr_14_i32 (x : Int) : x.fdiv (2 ^ Min.min (Int.toNat 14) IntKind.i32.bits) = x / 16384 := Int.fdiv_eq_ediv_of_nonneg _ (by decide)
theorem shr_12_i32 (x : Int) : x.fdiv (2 ^ Min.min (Int.toNat 12) IntKind.i32.bits) = x / 4096 := Int.fdiv_eq_ediv_of_nonneg _ (by decide)
theorem shr_18_i32 (x : Int) : x.fdiv (2 ^ Min.min (Int.toNat 18) IntKind.i32.bits) = x / 262144 := Int.fdiv_eq_ediv_of_nonneg _ (by decide)
theorem shr_2_i32 (x : Int) : x.fdiv (2 ^ Min.min (Int.toNat 2) IntKind.i32.bits) = x / 4 := Int.fdiv_eq_ediv_of_nonneg _ (by decide)
theorem shr_1_i32 (x : Int) : x.fdiv (2 ^ Min.min (Int.toNat 1) IntKind.i32.bits) = x / 2 := Int.fdiv_eq_ediv_of_nonneg _ (by decide)
theorem shr_1_i64 (x : Int) : x.fdiv (2 ^ Min.min (Int.toNat 1) IntKind.i64.bits) = x / 2 := Int.fdiv_eq_ediv_of_nonneg _ (by decide)
theorem shr_8_i64 (x : Int) : x.fdiv (2 ^ Min.min (Int.toNat 8) IntKind.i64.bits) = x / 256 := Int.fdiv_eq_ediv_of_nonneg _ (by decide)
theorem shr_4_i64 (x : Int) : x.fdiv (2 ^ Min.min (Int.toNat 4) IntKind.i64.bits) = x / 16 := Int.fdiv_eq_ediv_of_nonneg _ (by decide)
theorem shr_16_u32 (x : Int) : x.fdiv (2 ^ Min.min (Int.toNat 16) IntKind.u32.bits) = x / 65536 := Int.fdiv_eq_ediv_of_nonneg _ (by decide)
theorem shr_4_u8 (x : Int) : x.fdiv (2 ^ Min.min (Int.toNat 4) IntKind.u8.bits) = x / 16 := Int.fdiv_eq_ediv_of_nonneg _ (by decide)
theorem shr_1_u8 (x : Int) : x.fdiv (2 ^ Min.min (Int.toNat 1) IntKind.u8.bits) = x / 2 := Int.fdiv_eq_ediv_of_nonneg _ (by decide)
theorem spliceL_cast (a b : List Int) : spliceL a ((a.length : Int)).toNat b = a ++ b := by simp [spliceL]
theorem length_splice (l c : List Int) (s : Nat) (h : s + c.length ≤ l.length) : (spliceL l s c).length = l.length := by simp [spliceL]; omega
theorem take_splice (l c : List Int) (s k : Nat) (h : s + c.length ≤ l.length) (hk : k = s + c.length) : (spliceL l s c).take k = l.take s ++ c := by
  subst hk
  unfold spliceL
  rw [← List.append_assoc, List.take_append_of_le_length (by simp; omega), List.take_of_length_le (by simp; omega)]
theorem splice_nil (l : List Int) (s : Nat) : spliceL l s [] = l := by simp [spliceL]
theorem set_one (x y : Int) : [x].set 0 y = [y] := rfl
theorem take_take_drop (l : List Int) (d a b : Nat) : (l.drop d).take (a + b) = (l.drop d).take a ++ (l.drop (d + a)).take b := by rw [List.take_add, List.drop_drop]
theorem cond_ieq (x y a b : Int) : cond (ieq x y) a b = if x = y then a else b := by
  unfold ieq
  by_cases h : x = y <;> simp [h]
theorem cp_laws (buf p : List Int) (n d len cap : Int) (h1 : 0 ≤ n) (h2 : n ≤ 4096) (hb : (buf.length : Int) = 4096) (hd : 0 ≤ d) (hl : 0 ≤ len) (hp : d + len ≤ p.length) (hc : len ≤ cap) :
    ((spliceL buf (cond (ieq 4096 n) 0 n).toNat (List.take (imn (4096 - n) len).toNat (List.drop d.toNat p))).length : Int) = 4096 ∧
    List.take (n + imn (4096 - n) len).toNat (spliceL buf (cond (ieq 4096 n) 0 n).toNat (List.take (imn (4096 - n) len).toNat (List.drop d.toNat p))) = buf.take n.toNat ++ List.take (imn (4096 - n) len).toNat (List.drop d.toNat p) ∧
    List.take len.toNat (List.drop d.toNat p) = List.take (imn (4096 - n) len).toNat (List.drop d.toNat p) ++ List.take (len - imn (4096 - n) len).toNat (List.drop (cond (ieq cap (imn (4096 - n) len)) d (d + imn (4096 - n) len)).toNat p) := by
  have hk0 : 0 ≤ imn (4096 - n) len := by unfold imn; split <;> omega
  have hkl : imn (4096 - n) len ≤ len := by unfold imn; split <;> omega
  have hkn : n + imn (4096 - n) len ≤ 4096 := by unfold imn; split <;> omega
  generalize imn (4096 - n) len = k at *
  have hlen : (List.take k.toNat (List.drop d.toNat p)).length = k.toNat := by simp; omega
  rw [cond_ieq, cond_ieq]
  by_cases hn : 4096 = n
  · have : k = 0 := by omega
    subst this
    simp only [Int.toNat_zero, List.take_zero, splice_nil, hb, List.append_nil, List.nil_append, Int.add_zero, Int.sub_zero, ite_self]
    refine ⟨trivial, ?_⟩
    simp
  · rw [if_neg hn]
    refine ⟨?_, ?_, ?_⟩
    · rw [length_splice _ _ _ (by omega)]; exact hb
    · exact take_splice _ _ _ _ (by omega) (by omega)
    · rw [show len.toNat = k.toNat + (len - k).toNat from by omega, take_take_drop]
      congr 1
      split
      · rw [show (len - k).toNat = 0 from by omega]; rfl
      · congr 2; omega
theorem take_set_succ (l : List Int) (n : Nat) (x : Int) (h : n < l.length) : (l.set n x).take (n + 1) = l.take n ++ [x] := by
  rw [List.take_add_one, List.take_set_of_le (Nat.le_refl n), List.getElem?_set_self h]; rfl
end
end Go.Proofs.YtljjbikbfeigdaaGreatDoor
namespace Go.Proofs.YtljjbikbfeigdaaGreatDoor
noncomputable section
open Go
/-- the thin package's writer -/
def bW (v : Nat) : Ref × Blk := (.old 3, ⟨98, [.cells [.val v, .int .i64 (.lit (-1)), .bool .ff]]⟩)
def owW (v : Nat) (a : T) : Option OW := some ⟨v, 5, .u8, a⟩
def c151 : Ctr where
  args := [p0 (.old 3), slR (.ro 0) (.lit 0) (.iv 1) (.iv 2)]
  hp := { rw := [bW 0], ro := [(.ro 0, .u8, .av 1)], nv := 1000, ow := owW 0 (.av 0) }
  pre := [.le (.lit 1) (.iv 1), .le (.iv 1) (.iv 2), .eq (.len (.av 1)) (.iv 1), .le (.add (.len (.av 0)) (.iv 1)) (.lit 1099511627776)]
  val := .tup [.one (.int .i64 (.iv 1)), .one .nilI]
  hp' := { rw := [bW 100], ro := [(.ro 0, .u8, .av 1)], ow := owW 100 (.av 100) }
  post := [.aeq (.av 100) (app (.av 0) (.av 1))]
  quiet := false
/-- the buffered writer, its buffer, the writer behind it -/
def hB (v : Nat) (n : T) (buf : T) : List (Ref × Blk) :=
  [(.old 1, ⟨221, [.cells [.nilI, .sl (.old 2) 0 (.lit 0) (.lit 4096) (.lit 4096), .int .i64 n, .iface 96 (.ptr (.old 3) 0 (.lit 0))]]⟩), (.old 2, ⟨5, [.arr .u8 buf 4096]⟩), bW v]
/-- all that was written -/
def tot (r buf n : T) : T := app r (.cut buf (.lit 0) n)
def lim : T := .lit 1000000000000
def c153 : Ctr where
  args := [p0 (.old 1)]
  hp := { rw := hB 0 (.iv 0) (.av 1), nv := 1000, ow := owW 0 (.av 0) }
  pre := inR (.lit 0) (.iv 0) (.lit 4096) ++ [.le (.add (.len (.av 0)) (.iv 0)) lim]
  val := .v (.one .nilI)
  hp' := { rw := hB 100 (.lit 0) (.av 1), ow := owW 100 (.av 100) }
  post := [.eq (.len (.av 100)) (.add (.len (.av 0)) (.iv 0)), .aeq (.av 100) (tot (.av 0) (.av 1) (.iv 0))]
  quiet := false
def postW (x m : T) : List T := .eq (.add (.len (.av 100)) (.iv 100)) (.add (.add (.len (.av 0)) (.iv 0)) m) :: inR (.lit 0) (.iv 100) (.lit 4096) ++ [.eq (.len (.av 101)) (.lit 4096), .aeq (tot (.av 100) (.av 101) (.iv 100)) (app (tot (.av 0) (.av 1) (.iv 0)) x)]
def preW (x : T) : List T := inR (.lit 0) (.iv 0) (.lit 4096) ++ [.le (.add (.add (.len (.av 0)) (.iv 0)) x) lim]
def c155 : Ctr where
  args := [p0 (.old 1), .v (.one (.int .u8 (.iv 9)))]
  hp := { rw := hB 0 (.iv 0) (.av 1), nv := 1000, ow := owW 0 (.av 0) }
  pre := preW (.lit 1)
  val := .v (.one .nilI)
  hp' := { rw := hB 100 (.iv 100) (.av 101), ow := owW 100 (.av 100) }
  post := postW (one (.iv 9)) (.lit 1)
  quiet := false
def c154 : Ctr where
  args := [p0 (.old 1), slR (.ro 0) (.lit 0) (.iv 1) (.iv 2)]
  hp := { rw := hB 0 (.iv 0) (.av 1), ro := [(.ro 0, .u8, .av 2)], nv := 1000, ow := owW 0 (.av 0) }
  pre := preW (.iv 1) ++ inR (.lit 0) (.iv 1) (.lit 4096) ++ [.le (.iv 1) (.iv 2), .eq (.len (.av 2)) (.iv 1)]
  val := .tup [.one (.int .i64 (.iv 1)), .one .nilI]
  hp' := { rw := hB 100 (.iv 100) (.av 101), ro := [(.ro 0, .u8, .av 2)], ow := owW 100 (.av 100) }
  post := postW (.av 2) (.iv 1)
  quiet := false
def ann154 : List SR → Hp → Option Ann := mkAnn fun b _ _ => {
  lo := 6, hi := 95
  tr := [(1, slR (.ro 0) (.iv b) (.iv (b + 1)) (.iv (b + 2))), (4, .v (.one (.int .i64 (.iv (b + 3)))))]
  rw := [(.old 1, [.cells [.nilI, .sl (.old 2) 0 (.lit 0) (.lit 4096) (.lit 4096), .int .i64 (.iv (b + 4)), .iface 96 (.ptr (.old 3) 0 (.lit 0))]]), (.old 2, [.arr .u8 (.av (b + 1)) 4096]), (.old 3, [.cells [.val b, .int .i64 (.lit (-1)), .bool .ff]])]
  ow := some (.av b)
  facts := [.le (.lit 0) (.iv b), .le (.lit 0) (.iv (b + 1)), .le (.add (.iv b) (.iv (b + 1))) (.iv 1), .le (.iv (b + 1)) (.iv (b + 2)), .eq (.add (.iv (b + 3)) (.iv (b + 1))) (.iv 1), .le (.lit 0) (.iv (b + 3)), .eq (.len (.av (b + 1))) (.lit 4096)] ++
    inR (.lit 0) (.iv (b + 4)) (.lit 4096) ++ [.eq (.add (.add (.len (.av b)) (.iv (b + 4))) (.iv (b + 1))) (.add (.add (.len (.av 0)) (.iv 0)) (.iv 1)), .aeq (app (tot (.av b) (.av (b + 1)) (.iv (b + 4))) (.cut (.av 2) (.iv b) (.iv (b + 1)))) (app (tot (.av 0) (.av 1) (.iv 0)) (.av 2))]
  meas := .add (.mul (.lit 2) (.iv (b + 1))) (.mn (.iv (b + 4)) (.lit 1))
  quiet := false }
def ltK1 : Nat → Nat → Option (List SR → Hp → Option Ann) := fun f k => match f, k with
  | 154, 1 => some ann154
  | _, _ => none
def inlK1 : Nat → Bool := fun f => f == 152 || f == 156
def rspA : Nat → Option RSpec := fun f => match f with
  | 151 => some (applyR c151)
  | _ => none
def rspB : Nat → Option RSpec := fun f => match f with
  | 151 => some (applyR c151)
  | 153 => some (applyR c153)
  | _ => none
end
end Go.Proofs.YtljjbikbfeigdaaGreatDoor
namespace Go.Proofs.YtljjbikbfeigdaaGreatDoor
noncomputable section
open Go
section
variable {S : Sig}
def vc151 : VC :=
 (.need [(.le (.lit (0)) (.iv 1))] (.need [(.le (.lit (0)) (.iv 2)), (.le (.iv 2) (.iv 2)), (.le (.lit (0)) (.iv 2))] (.need [(.le (.iv 1) (.len (.av 1)))] (.any 1000 0 [] (.cond (.lt (.iv 1) (.iv 1)) (.fail "stop impl.go:60") (.need [(.aeq (.splice (.av 0) (.len (.av 0)) (.cut (.av 1) (.lit (0)) (.iv 1))) (.splice (.av 0) (.len (.av 0)) (.av 1)))] .done))))))
theorem w151 : vcIs (vcOf Tryz.prog noS noR ⟨ltK1, inlK1⟩ 100000 151 c151) vc151 = true := by kernel_rfl
theorem c151_ok : CtrOk Tryz.prog S 151 c151 := by
  refine ctr_prog noS_ok noR_ok w151 fun ρ h => ?_
  simp only [c151, bW, lenFacts, inR, List.flatMap_cons, List.flatMap_nil, List.append_nil, List.append_assoc, List.cons_append, List.nil_append, and_true, ↓b_le, ↓b_lt, ↓b_eq, ↓b_aeq, ↓f_le, ↓f_lt, ↓f_eq, ↓f_aeq, ↓b_not, ↓f_not, ↓b_and, ↓b_or, ↓f_and, ↓f_or, ↓b_tt, ↓b_ff, ↓f_tt, ↓f_ff, met_cons, met_nil, hyp_cons, hyp_nil, T.I, T.A, T.B, Int.toNat_zero, List.drop_zero, and_true, implies_true, VC.sem, spliceL_cast, shr_24_u32, shr_8_u32, shr_8_i32, shr_14_i32, shr_12_i32, shr_18_i32, shr_2_i32, shr_1_i32, shr_1_i64, shr_8_i64, shr_4_i64, shr_16_u32, shr_4_u8, shr_1_u8] at h
  obtain ⟨h1, h2, h3, h4⟩ := h
  simp only [vc151, ↓b_le, ↓b_lt, ↓b_eq, ↓b_aeq, ↓f_le, ↓f_lt, ↓f_eq, ↓f_aeq, ↓b_not, ↓f_not, ↓b_and, ↓b_or, ↓f_and, ↓f_or, ↓b_tt, ↓b_ff, ↓f_tt, ↓f_ff, met_cons, met_nil, hyp_cons, hyp_nil, T.I, T.A, T.B, Int.toNat_zero, List.drop_zero, and_true, implies_true, VC.sem, spliceL_cast, shr_24_u32, shr_8_u32, shr_8_i32, shr_14_i32, shr_12_i32, shr_18_i32, shr_2_i32, shr_1_i32, shr_1_i64, shr_8_i64, shr_4_i64, shr_16_u32, shr_4_u8, shr_1_u8]
  (repeat' (first | refine And.intro ?_ ?_ | intro _)) <;> (try trivial) <;> (try omega) <;> (try (simp only [imn, imx, cond_ieq, IntKind.wrap_u32, IntKind.wrap_i32, IntKind.wrap_u8] at *; omega))
  rw [List.take_of_length_le (by omega)]
theorem rspA_ok : ∀ f s, rspA f = some s → RSpecOk Tryz.prog S f s := by
  intro f s h
  unfold rspA at h
  split at h
  · cases h; exact applyR_ok c151_ok
  · cases h
def vc153 : VC :=
 let t0 : T := .splice (.av 0) (.len (.av 0)) (.cut (.av 1) (.lit (0)) (.iv 0))
 (.cond (.eq (.iv 0) (.lit (0))) (.need [(.eq (.lit (0)) (.iv 0)), (.eq (.len (.av 0)) (.add (.len (.av 0)) (.iv 0))), (.aeq (.av 0) t0)] .done) (.need [(.le (.lit (1)) (.iv 0)), (.eq (.len (.cut (.av 1) (.lit (0)) (.iv 0))) (.iv 0)), (.le (.add (.len (.av 0)) (.iv 0)) (.lit (1099511627776)))] (.any 1000 0 [(.aeq (.av 1100) t0)] (.cond (.lt (.iv 0) (.iv 0)) (.fail "stop bufio.go:644") (.need [(.eq (.len (.av 1100)) (.add (.len (.av 0)) (.iv 0)))] .done)))))
theorem w153 : vcIs (vcOf Tryz.prog noS rspA ⟨ltK1, inlK1⟩ 100000 153 c153) vc153 = true := by kernel_rfl
theorem c153_ok : CtrOk Tryz.prog S 153 c153 := by
  refine ctr_prog noS_ok rspA_ok w153 fun ρ h => ?_
  simp only [c153, hB, bW, lim, lenFacts, inR, List.flatMap_cons, List.flatMap_nil, List.append_nil, List.append_assoc, List.cons_append, List.nil_append, and_true, ↓b_le, ↓b_lt, ↓b_eq, ↓b_aeq, ↓f_le, ↓f_lt, ↓f_eq, ↓f_aeq, ↓b_not, ↓f_not, ↓b_and, ↓b_or, ↓f_and, ↓f_or, ↓b_tt, ↓b_ff, ↓f_tt, ↓f_ff, met_cons, met_nil, hyp_cons, hyp_nil, T.I, T.A, T.B, Int.toNat_zero, List.drop_zero, and_true, implies_true, VC.sem, spliceL_cast, shr_24_u32, shr_8_u32, shr_8_i32, shr_14_i32, shr_12_i32, shr_18_i32, shr_2_i32, shr_1_i32, shr_1_i64, shr_8_i64, shr_4_i64, shr_16_u32, shr_4_u8, shr_1_u8] at h
  obtain ⟨h1, h2, h3, h4⟩ := h
  simp only [vc153, ↓b_le, ↓b_lt, ↓b_eq, ↓b_aeq, ↓f_le, ↓f_lt, ↓f_eq, ↓f_aeq, ↓b_not, ↓f_not, ↓b_and, ↓b_or, ↓f_and, ↓f_or, ↓b_tt, ↓b_ff, ↓f_tt, ↓f_ff, met_cons, met_nil, hyp_cons, hyp_nil, T.I, T.A, T.B, Int.toNat_zero, List.drop_zero, and_true, implies_true, VC.sem, spliceL_cast, shr_24_u32, shr_8_u32, shr_8_i32, shr_14_i32, shr_12_i32, shr_18_i32, shr_2_i32, shr_1_i32, shr_1_i64, shr_8_i64, shr_4_i64, shr_16_u32, shr_4_u8, shr_1_u8]
  (repeat' (first | refine And.intro ?_ ?_ | intro _)) <;> (try trivial) <;> (try omega) <;> (try (simp only [imn, imx, cond_ieq, IntKind.wrap_u32, IntKind.wrap_i32, IntKind.wrap_u8] at *; omega))
  · rename_i h; rw [h]; simp
  · rw [List.length_take]; omega
  · have := congrArg List.length ‹ρ.a 1100 = _›
    simp only [List.length_append, List.length_take] at this
    omega
theorem rspB_ok : ∀ f s, rspB f = some s → RSpecOk Tryz.prog S f s := by
  intro f s h
  unfold rspB at h
  split at h
  · cases h; exact applyR_ok c151_ok
  · cases h; exact applyR_ok c153_ok
  · cases h
def vc155 : VC :=
 let t0 : T := .splice (.av 0) (.len (.av 0)) (.cut (.av 1) (.lit (0)) (.iv 0))
 let t1 : T := .splice t0 (.len t0) (.set (.alit [0]) (.lit (0)) (.iv 9))
 let t2 : T := .add (.iv 0) (.lit (1))
 (.need [(.le (.lit (-9223372036854775808)) (.sub (.lit (4096)) (.iv 0))), (.le (.sub (.lit (4096)) (.iv 0)) (.lit (9223372036854775807)))] (.cond (.le (.sub (.lit (4096)) (.iv 0)) (.lit (0))) (.need [(.le (.add (.len (.av 0)) (.iv 0)) (.lit (1000000000000)))] (.any 1000 0 [(.eq (.len (.av 1100)) (.add (.len (.av 0)) (.iv 0))), (.aeq (.av 1100) t0)] (.need [(.eq (.add (.len (.av 1100)) (.lit (1))) (.add (.add (.len (.av 0)) (.iv 0)) (.lit (1)))), (.le (.lit (0)) (.lit (1))), (.le (.lit (1)) (.lit (4096))), (.eq (.len (.set (.av 1) (.lit (0)) (.iv 9))) (.lit (4096))), (.aeq (.splice (.av 1100) (.len (.av 1100)) (.cut (.set (.av 1) (.lit (0)) (.iv 9)) (.lit (0)) (.lit (1)))) t1)] .done))) (.need [(.lt (.iv 0) (.lit (4096)))] (.need [(.le (.lit (-9223372036854775808)) t2), (.le t2 (.lit (9223372036854775807)))] (.need [(.eq (.add (.len (.av 0)) t2) (.add (.add (.len (.av 0)) (.iv 0)) (.lit (1)))), (.le (.lit (0)) t2), (.le t2 (.lit (4096))), (.eq (.len (.set (.av 1) (.iv 0) (.iv 9))) (.lit (4096))), (.aeq (.splice (.av 0) (.len (.av 0)) (.cut (.set (.av 1) (.iv 0) (.iv 9)) (.lit (0)) t2)) t1)] .done)))))
theorem w155 : vcIs (vcOf Tryz.prog noS rspB ⟨ltK1, inlK1⟩ 100000 155 c155) vc155 = true := by kernel_rfl
theorem c155_ok : CtrOk Tryz.prog S 155 c155 := by
  refine ctr_prog noS_ok rspB_ok w155 fun ρ h => ?_
  simp only [c155, hB, bW, lim, preW, lenFacts, inR, List.flatMap_cons, List.flatMap_nil, List.append_nil, List.append_assoc, List.cons_append, List.nil_append, and_true, ↓b_le, ↓b_lt, ↓b_eq, ↓b_aeq, ↓f_le, ↓f_lt, ↓f_eq, ↓f_aeq, ↓b_not, ↓f_not, ↓b_and, ↓b_or, ↓f_and, ↓f_or, ↓b_tt, ↓b_ff, ↓f_tt, ↓f_ff, met_cons, met_nil, hyp_cons, hyp_nil, T.I, T.A, T.B, Int.toNat_zero, List.drop_zero, and_true, implies_true, VC.sem, spliceL_cast, shr_24_u32, shr_8_u32, shr_8_i32, shr_14_i32, shr_12_i32, shr_18_i32, shr_2_i32, shr_1_i32, shr_1_i64, shr_8_i64, shr_4_i64, shr_16_u32, shr_4_u8, shr_1_u8] at h
  obtain ⟨h1, h2, h3, h4⟩ := h
  simp only [vc155, set_one, ↓b_le, ↓b_lt, ↓b_eq, ↓b_aeq, ↓f_le, ↓f_lt, ↓f_eq, ↓f_aeq, ↓b_not, ↓f_not, ↓b_and, ↓b_or, ↓f_and, ↓f_or, ↓b_tt, ↓b_ff, ↓f_tt, ↓f_ff, met_cons, met_nil, hyp_cons, hyp_nil, T.I, T.A, T.B, Int.toNat_zero, List.drop_zero, and_true, implies_true, VC.sem, spliceL_cast, shr_24_u32, shr_8_u32, shr_8_i32, shr_14_i32, shr_12_i32, shr_18_i32, shr_2_i32, shr_1_i32, shr_1_i64, shr_8_i64, shr_4_i64, shr_16_u32, shr_4_u8, shr_1_u8]
  (repeat' (first | refine And.intro ?_ ?_ | intro _)) <;> (try trivial) <;> (try omega) <;> (try (simp only [imn, imx, cond_ieq, IntKind.wrap_u32, IntKind.wrap_i32, IntKind.wrap_u8] at *; omega))
  · simp; omega
  · rename_i h _ _ h'
    rw [h', show (1 : Int).toNat = 0 + 1 from rfl, take_set_succ _ _ _ (by omega)]
    simp
  · simp; omega
  · rw [show (ρ.i 0 + 1).toNat = (ρ.i 0).toNat + 1 from by omega, take_set_succ _ _ _ (by omega)]
    simp
def vc154 : VC :=
 let t0 : T := .lit (0)
 let t1 : T := .add (.add (.len (.av 0)) (.iv 0)) (.iv 1)
 let t2 : T := .splice (.av 0) (.len (.av 0)) (.cut (.av 1) t0 (.iv 0))
 let t4 : T := .splice t2 (.len t2) (.av 2)
 let t5 : T := .iv 1001
 let t6 : T := .add (.iv 1003) t5
 let t7 : T := .len (.av 1000)
 let t8 : T := .splice (.av 1000) t7 (.cut (.av 1001) t0 (.iv 1004))
 let t9 : T := .cut (.av 2) (.iv 1000) t5
 let t10 : T := .lit (-9223372036854775808)
 let t11 : T := .sub (.lit (4096)) (.iv 1004)
 let t12 : T := .lit (9223372036854775807)
 let t13 : T := .le t0 (.iv 1002)
 let t14 : T := .ite (.eq (.iv 1002) t5) (.iv 1000) (.add (.iv 1000) t5)
 let t15 : T := .sub t5 t5
 let t16 : T := .splice (.av 1500) (.len (.av 1500)) (.cut (.av 1001) t0 (.iv 1004))
 let t17 : T := .add (.mul (.lit (2)) t5) (.mn (.iv 1004) (.lit (1)))
 let t19 : T := .mn t11 t5
 let t21 : T := .add (.iv 1000) t19
 let t22 : T := .le t21 (.len (.av 2))
 let t23 : T := .ite (.eq (.lit (4096)) (.iv 1004)) t0 (.iv 1004)
 let t25 : T := .le (.add t23 t19) (.lit (4096))
 let t26 : T := .add (.iv 1004) t19
 let t30 : T := .le t26 (.lit (4096))
 let t31 : T := .add t7 t26
 let t32 : T := .splice (.av 1001) t23 (.cut (.av 2) (.iv 1000) t19)
 let t33 : T := .splice (.av 1000) t7 (.cut t32 t0 t26)
 let t34 : T := .add (.iv 1003) t19
 let t37 : T := .ite (.eq (.iv 1002) t19) (.iv 1000) t21
 let t38 : T := .sub t5 t19
 let t39 : T := .eq (.len t32) (.lit (4096))
 let t40 : T := .splice (.av 1500) (.len (.av 1500)) (.cut t32 t0 t0)
 (.need [(.le t0 t0), (.le (.add t0 (.iv 1)) (.iv 1)), (.eq (.add t0 (.iv 1)) (.iv 1)), (.le t0 t0), (.eq t1 t1), (.aeq (.splice t2 (.len t2) (.cut (.av 2) t0 (.iv 1))) t4)] (.any 1000 0 [(.le t0 (.iv 1000)), (.le t0 t5), (.le (.add (.iv 1000) t5) (.iv 1)), (.le t5 (.iv 1002)), (.eq t6 (.iv 1)), (.le t0 (.iv 1003)), (.eq (.len (.av 1001)) (.lit (4096))), (.le t0 (.iv 1004)), (.le (.iv 1004) (.lit (4096))), (.eq (.add (.add t7 (.iv 1004)) t5) t1), (.aeq (.splice t8 (.len t8) t9) t4)] (.need [(.le t10 t11), (.le t11 t12)] (.cond (.lt t11 t5) (.cond (.eq (.iv 1004) t0) (.need [(.le (.add (.iv 1000) t5) (.len (.av 2))), (.le (.lit (1)) t5), (.eq (.len t9) t5), (.le (.add t7 t5) (.lit (1099511627776)))] (.any 1400 0 [(.aeq (.av 1500) (.splice (.av 1000) t7 t9))] (.need [(.le t10 t6), (.le t6 t12)] (.need [t13, (.le (.iv 1002) (.iv 1002)), (.le t5 t5), (.le t5 t5), t13] (.need [(.le t0 t14), (.le t0 t15), (.le (.add t14 t15) (.iv 1)), (.le t15 (.sub (.iv 1002) t5)), (.eq (.add t6 t15) (.iv 1)), (.le t0 t6), (.eq (.add (.add (.len (.av 1500)) (.iv 1004)) t15) t1), (.aeq (.splice t16 (.len t16) (.cut (.av 2) t14 t15)) t4), (.lt t0 t17), (.lt (.add (.mul (.lit (2)) t15) (.mn (.iv 1004) (.lit (1)))) t17)] .done))))) (.need [(.le t0 t19), t22, (.le t0 t11), (.le t0 t23), t25] (.need [(.le t10 t26), (.le t26 t12)] (.need [(.le t0 t26), t30, (.le t31 (.lit (1000000000000)))] (.any 1400 0 [(.eq (.len (.av 1500)) t31), (.aeq (.av 1500) t33)] (.need [(.le t10 t34), (.le t34 t12)] (.need [t13, (.le (.iv 1002) (.iv 1002)), (.le t5 t5), (.le t19 t5), t13] (.need [(.le t0 t37), (.le t0 t38), (.le (.add t37 t38) (.iv 1)), (.le t38 (.sub (.iv 1002) t19)), (.eq (.add t34 t38) (.iv 1)), (.le t0 t34), t39, (.le t0 (.lit (4096))), (.eq (.add (.add (.len (.av 1500)) t0) t38) t1), (.aeq (.splice t40 (.len t40) (.cut (.av 2) t37 t38)) t4), (.lt t0 t17), (.lt (.add (.mul (.lit (2)) t38) (.mn t0 (.lit (1)))) t17)] .done)))))))) (.need [(.le t0 t19), t22, (.le t0 t11), (.le t0 t23), t25] (.need [(.le t10 t26), (.le t26 t12)] (.need [(.le t10 t34), (.le t34 t12)] (.need [(.eq (.iv 1) t34), (.eq t31 t1), (.le t0 t26), t30, t39, (.aeq t33 t4)] .done))))))))
theorem w154 : vcIs (vcOf Tryz.prog noS rspB ⟨ltK1, inlK1⟩ 100000 154 c154) vc154 = true := by kernel_rfl
theorem c154_ok : CtrOk Tryz.prog S 154 c154 := by
  refine ctr_prog noS_ok rspB_ok w154 fun ρ h => ?_
  simp only [c154, hB, bW, lim, preW, lenFacts, inR, List.flatMap_cons, List.flatMap_nil, List.append_nil, List.append_assoc, List.cons_append, List.nil_append, and_true, ↓b_le, ↓b_lt, ↓b_eq, ↓b_aeq, ↓f_le, ↓f_lt, ↓f_eq, ↓f_aeq, ↓b_not, ↓f_not, ↓b_and, ↓b_or, ↓f_and, ↓f_or, ↓b_tt, ↓b_ff, ↓f_tt, ↓f_ff, met_cons, met_nil, hyp_cons, hyp_nil, T.I, T.A, T.B, Int.toNat_zero, List.drop_zero, and_true, implies_true, VC.sem, spliceL_cast, shr_24_u32, shr_8_u32, shr_8_i32, shr_14_i32, shr_12_i32, shr_18_i32, shr_2_i32, shr_1_i32, shr_1_i64, shr_8_i64, shr_4_i64, shr_16_u32, shr_4_u8, shr_1_u8] at h
  obtain ⟨h1, h2, h3, h4⟩ := h
  obtain ⟨h4, h5, h6, h7, h8⟩ := h4
  have hT : (ρ.a 2).take (ρ.i 1).toNat = ρ.a 2 := List.take_of_length_le (by omega)
  simp only [vc154, hT, ↓b_le, ↓b_lt, ↓b_eq, ↓b_aeq, ↓f_le, ↓f_lt, ↓f_eq, ↓f_aeq, ↓b_not, ↓f_not, ↓b_and, ↓b_or, ↓f_and, ↓f_or, ↓b_tt, ↓b_ff, ↓f_tt, ↓f_ff, met_cons, met_nil, hyp_cons, hyp_nil, T.I, T.A, T.B, Int.toNat_zero, List.drop_zero, and_true, implies_true, VC.sem, spliceL_cast, shr_24_u32, shr_8_u32, shr_8_i32, shr_14_i32, shr_12_i32, shr_18_i32, shr_2_i32, shr_1_i32, shr_1_i64, shr_8_i64, shr_4_i64, shr_16_u32, shr_4_u8, shr_1_u8]
  (repeat' (first | refine And.intro ?_ ?_ | intro _)) <;> (try trivial) <;> (try omega) <;> (try (simp only [imn, imx, cond_ieq, IntKind.wrap_u32, IntKind.wrap_i32, IntKind.wrap_u8] at *; omega))
  all_goals
    obtain ⟨q1, q2, q3⟩ := cp_laws (ρ.a 1001) (ρ.a 2) (ρ.i 1004) (ρ.i 1000) (ρ.i 1001) (ρ.i 1002) (by assumption) (by assumption) (by assumption) (by assumption) (by assumption) (by omega) (by assumption)
    try exact q1
    try (have hk : imn (4096 - ρ.i 1004) (ρ.i 1001) = ρ.i 1001 := by unfold imn; omega
         rw [q2, hk, ← List.append_assoc]; assumption)
  rw [‹ρ.a 1500 = _›, q2]
  rw [← ‹ρ.a 1000 ++ List.take (ρ.i 1004).toNat (ρ.a 1001) ++ List.take (ρ.i 1001).toNat (List.drop (ρ.i 1000).toNat (ρ.a 2)) = ρ.a 0 ++ List.take (ρ.i 0).toNat (ρ.a 1) ++ ρ.a 2›, q3]
  simp
end
end
end Go.Proofs.YtljjbikbfeigdaaGreatDoor
namespace Go.Proofs.YtljjbikbfeigdaaGreatDoor
noncomputable section
open Go
/-- A stream: its bytes, the bits that wait, and how many these are. -/
structure St where
  t : List Int
  b : Int
  n : Int
def pk (s : St) : List Int := s.b :: s.n :: s.t
def up (l : List Int) : St := ⟨l.drop 2, l.getD 0 0, l.getD 1 0⟩
theorem up_pk (s : St) : up (pk s) = s := rfl
def stuffed (c : Int) : List Int := if c = 255 then [255, 0] else [c]
def emF (t : List Int) (b n : Int) : St :=
  if n < 8 then ⟨t, b, n⟩ else emF (t ++ stuffed (IntKind.u8.wrap (b / 16777216))) (IntKind.u32.wrap (b * 256)) (n - 8)
termination_by n.toNat
decreasing_by omega
theorem emF_end {t : List Int} {b n : Int} (h : n < 8) : emF t b n = ⟨t, b, n⟩ := by rw [emF, if_pos h]
theorem emF_step {t : List Int} {b n : Int} (h : 8 ≤ n) : emF t b n = emF (t ++ stuffed (IntKind.u8.wrap (b / 16777216))) (IntKind.u32.wrap (b * 256)) (n - 8) := by rw [emF, if_neg (by omega)]
/-- Bits put behind a stream. -/
def emit (s : St) (bits nb : Int) : St :=
  emF s.t (bitsOf .or .u32 (IntKind.u32.wrap (bits * 2 ^ (Min.min (32 - (nb + s.n)).toNat 32))) s.b) (nb + s.n)
def lutL : List (List Int) := [
  [33554432, 50331650, 50331651, 50331652, 50331653, 50331654, 67108878, 83886110, 100663358, 117440638, 134217982, 150995454],
  [67108874, 33554432, 33554433, 50331652, 67108875, 83886106, 117440632, 134217976, 167773174, 268500866, 268500867, 0, 0, 0, 0, 0, 0, 67108876, 83886107, 117440633, 150995446, 184551414, 268500868, 268500869, 268500870, 268500871, 268500872, 0, 0, 0, 0, 0, 0, 83886108, 134217977, 167773175, 201330676, 268500873, 268500874, 268500875, 268500876, 268500877, 268500878, 0, 0, 0, 0, 0, 0, 100663354, 150995447, 201330677, 268500879, 268500880, 268500881, 268500882, 268500883, 268500884, 268500885, 0, 0, 0, 0, 0, 0, 100663355, 167773176, 268500886, 268500887, 268500888, 268500889, 268500890, 268500891, 268500892, 268500893, 0, 0, 0, 0, 0, 0, 117440634, 184551415, 268500894, 268500895, 268500896, 268500897, 268500898, 268500899, 268500900, 268500901, 0, 0, 0, 0, 0, 0, 117440635, 201330678, 268500902, 268500903, 268500904, 268500905, 268500906, 268500907, 268500908, 268500909, 0, 0, 0, 0, 0, 0, 134217978, 201330679, 268500910, 268500911, 268500912, 268500913, 268500914, 268500915, 268500916, 268500917, 0, 0, 0, 0, 0, 0, 150995448, 251690944, 268500918, 268500919, 268500920, 268500921, 268500922, 268500923, 268500924, 268500925, 0, 0, 0, 0, 0, 0, 150995449, 268500926, 268500927, 268500928, 268500929, 268500930, 268500931, 268500932, 268500933, 268500934, 0, 0, 0, 0, 0, 0, 150995450, 268500935, 268500936, 268500937, 268500938, 268500939, 268500940, 268500941, 268500942, 268500943, 0, 0, 0, 0, 0, 0, 167773177, 268500944, 268500945, 268500946, 268500947, 268500948, 268500949, 268500950, 268500951, 268500952, 0, 0, 0, 0, 0, 0, 167773178, 268500953, 268500954, 268500955, 268500956, 268500957, 268500958, 268500959, 268500960, 268500961, 0, 0, 0, 0, 0, 0, 184551416, 268500962, 268500963, 268500964, 268500965, 268500966, 268500967, 268500968, 268500969, 268500970, 0, 0, 0, 0, 0, 0, 268500971, 268500972, 268500973, 268500974, 268500975, 268500976, 268500977, 268500978, 268500979, 268500980, 0, 0, 0, 0, 0, 184551417, 268500981, 268500982, 268500983, 268500984, 268500985, 268500986, 268500987, 268500988, 268500989, 268500990],
  [33554432, 33554433, 33554434, 50331654, 67108878, 83886110, 100663358, 117440638, 134217982, 150995454, 167773182, 184551422],
  [33554432, 33554433, 50331652, 67108874, 83886104, 83886105, 100663352, 117440632, 150995444, 167773174, 201330676, 0, 0, 0, 0, 0, 0, 67108875, 100663353, 134217974, 150995445, 184551414, 201330677, 268500872, 268500873, 268500874, 268500875, 0, 0, 0, 0, 0, 0, 83886106, 134217975, 167773175, 201330678, 251690946, 268500876, 268500877, 268500878, 268500879, 268500880, 0, 0, 0, 0, 0, 0, 83886107, 134217976, 167773176, 201330679, 268500881, 268500882, 268500883, 268500884, 268500885, 268500886, 0, 0, 0, 0, 0, 0, 100663354, 150995446, 268500887, 268500888, 268500889, 268500890, 268500891, 268500892, 268500893, 268500894, 0, 0, 0, 0, 0, 0, 100663355, 167773177, 268500895, 268500896, 268500897, 268500898, 268500899, 268500900, 268500901, 268500902, 0, 0, 0, 0, 0, 0, 117440633, 184551415, 268500903, 268500904, 268500905, 268500906, 268500907, 268500908, 268500909, 268500910, 0, 0, 0, 0, 0, 0, 117440634, 184551416, 268500911, 268500912, 268500913, 268500914, 268500915, 268500916, 268500917, 268500918, 0, 0, 0, 0, 0, 0, 134217977, 268500919, 268500920, 268500921, 268500922, 268500923, 268500924, 268500925, 268500926, 268500927, 0, 0, 0, 0, 0, 0, 150995447, 268500928, 268500929, 268500930, 268500931, 268500932, 268500933, 268500934, 268500935, 268500936, 0, 0, 0, 0, 0, 0, 150995448, 268500937, 268500938, 268500939, 268500940, 268500941, 268500942, 268500943, 268500944, 268500945, 0, 0, 0, 0, 0, 0, 150995449, 268500946, 268500947, 268500948, 268500949, 268500950, 268500951, 268500952, 268500953, 268500954, 0, 0, 0, 0, 0, 0, 150995450, 268500955, 268500956, 268500957, 268500958, 268500959, 268500960, 268500961, 268500962, 268500963, 0, 0, 0, 0, 0, 0, 184551417, 268500964, 268500965, 268500966, 268500967, 268500968, 268500969, 268500970, 268500971, 268500972, 0, 0, 0, 0, 0, 0, 234897376, 268500973, 268500974, 268500975, 268500976, 268500977, 268500978, 268500979, 268500980, 268500981, 0, 0, 0, 0, 0, 167773178, 251690947, 268500982, 268500983, 268500984, 268500985, 268500986, 268500987, 268500988, 268500989, 268500990]]
def bitCountL : List Int := [0, 1, 2, 2, 3, 3, 3, 3, 4, 4, 4, 4, 4, 4, 4, 4, 5, 5, 5, 5, 5, 5, 5, 5, 5, 5, 5, 5, 5, 5, 5, 5, 6, 6, 6, 6, 6, 6, 6, 6, 6, 6, 6, 6, 6, 6, 6, 6, 6, 6, 6, 6, 6, 6, 6, 6, 6, 6, 6, 6, 6, 6, 6, 6, 7, 7, 7, 7, 7, 7, 7, 7, 7, 7, 7, 7, 7, 7, 7, 7, 7, 7, 7, 7, 7, 7, 7, 7, 7, 7, 7, 7, 7, 7, 7, 7, 7, 7, 7, 7, 7, 7, 7, 7, 7, 7, 7, 7, 7, 7, 7, 7, 7, 7, 7, 7, 7, 7, 7, 7, 7, 7, 7, 7, 7, 7, 7, 7, 8, 8, 8, 8, 8, 8, 8, 8, 8, 8, 8, 8, 8, 8, 8, 8, 8, 8, 8, 8, 8, 8, 8, 8, 8, 8, 8, 8, 8, 8, 8, 8, 8, 8, 8, 8, 8, 8, 8, 8, 8, 8, 8, 8, 8, 8, 8, 8, 8, 8, 8, 8, 8, 8, 8, 8, 8, 8, 8, 8, 8, 8, 8, 8, 8, 8, 8, 8, 8, 8, 8, 8, 8, 8, 8, 8, 8, 8, 8, 8, 8, 8, 8, 8, 8, 8, 8, 8, 8, 8, 8, 8, 8, 8, 8, 8, 8, 8, 8, 8, 8, 8, 8, 8, 8, 8, 8, 8, 8, 8, 8, 8, 8, 8, 8, 8, 8, 8, 8, 8, 8, 8, 8, 8, 8, 8, 8, 8]
def absI (v : Int) : Int := if v < 0 then -v else v
/-- How many bits a value takes. -/
def nbI (v : Int) : Int := if absI v < 256 then bitCountL.getD (absI v).toNat 0 else 8 + bitCountL.getD (absI v / 256).toNat 0
/-- A run of zeros and a value behind it, by table h. -/
def hrle (h : Nat) (s : St) (run v : Int) : St :=
  let x := (lutL.getD h []).getD (run * 16 + nbI v).toNat 0
  let s1 := emit s (x % 16777216) (x / 16777216)
  if 0 < nbI v then emit s1 ((if v < 0 then v - 1 else v) % 2 ^ (nbI v).toNat) (nbI v) else s1
/-- A code alone. -/
def huff (h : Nat) (s : St) (v : Int) : St :=
  let x := (lutL.getD h []).getD v.toNat 0
  emit s (x % 16777216) (x / 16777216)
theorem or16 {r n : Int} (h1 : 0 ≤ r) (h2 : r ≤ 15) (h3 : 0 ≤ n) (h4 : n ≤ 15) : bitsOf .or .i32 (r * 16) n = r * 16 + n := by
  have key : ∀ a : Fin 16, ∀ b : Fin 16, bitsOf .or .i32 (((a.val : Nat) : Int) * 16) ((b.val : Nat) : Int) = ((a.val : Nat) : Int) * 16 + ((b.val : Nat) : Int) := by decide
  obtain ⟨a, rfl⟩ := Int.eq_ofNat_of_zero_le h1
  obtain ⟨b, rfl⟩ := Int.eq_ofNat_of_zero_le h3
  exact key ⟨a, by omega⟩ ⟨b, by omega⟩
theorem and_mask {x : Int} {n : Nat} (h1 : 0 ≤ x) (h2 : x < 4294967296) (hn : n ≤ 32) : bitsOf .and .u32 x (2 ^ n - 1) = x % 2 ^ n := by
  obtain ⟨a, rfl⟩ := Int.eq_ofNat_of_zero_le h1
  have ha : a < 2 ^ 32 := by omega
  have h2n : (2 : Nat) ^ n ≤ 2 ^ 32 := Nat.pow_le_pow_right (by omega) hn
  have hp : 0 < (2 : Nat) ^ n := Nat.pow_pos (by omega)
  have e1 : ((2 : Int) ^ n - 1) = ((2 ^ n - 1 : Nat) : Int) := by rw [Int.natCast_sub hp]; simp
  rw [e1]
  have key : ((BitVec.ofInt 32 (a : Int) &&& BitVec.ofInt 32 ((2 ^ n - 1 : Nat) : Int) : BitVec 32)).toNat = a % 2 ^ n := by
    rw [BitVec.ofInt_natCast, BitVec.ofInt_natCast, BitVec.toNat_and, BitVec.toNat_ofNat, BitVec.toNat_ofNat, Nat.mod_eq_of_lt ha, Nat.mod_eq_of_lt (by omega : 2 ^ n - 1 < 2 ^ 32), Nat.and_two_pow_sub_one_eq_mod]
  show IntKind.u32.wrap ((((BitVec.ofInt 32 (a : Int) &&& BitVec.ofInt 32 ((2 ^ n - 1 : Nat) : Int) : BitVec 32)).toNat : Nat) : Int) = _
  rw [key, IntKind.wrap_u32]
  have : a % 2 ^ n < 2 ^ 32 := Nat.lt_of_le_of_lt (Nat.mod_le _ _) ha
  have e2 : ((a % 2 ^ n : Nat) : Int) = (a : Int) % 2 ^ n := by simp
  rw [e2]
  omega
theorem and24 {x : Int} (h1 : 0 ≤ x) (h2 : x < 4294967296) : bitsOf .and .u32 x 16777215 = x % 16777216 := and_mask (n := 24) h1 h2 (by omega)
theorem nbI_all : (List.range 2048).all (fun n => let b := nbI (n : Int); decide (0 ≤ b) && decide (b ≤ 11) && (decide (1023 < n) || decide (b ≤ 10)) && decide ((n : Int) < 2 ^ b.toNat) && (decide (n = 0) || decide ((2 : Int) ^ b.toNat ≤ 2 * n))) = true := by decide +kernel
theorem nbI_neg (v : Int) : nbI (-v) = nbI v := by
  have : absI (-v) = absI v := by unfold absI; split <;> split <;> omega
  unfold nbI; rw [this]
theorem nbI_abs (v : Int) : nbI (absI v) = nbI v := by
  unfold absI; split
  · exact nbI_neg v
  · rfl
/-- The number of bits of a value that is not too great. -/
theorem nbI_spec {v : Int} (h : absI v ≤ 2047) : 0 ≤ nbI v ∧ nbI v ≤ 11 ∧ (absI v ≤ 1023 → nbI v ≤ 10) ∧ absI v < 2 ^ (nbI v).toNat ∧ (v ≠ 0 → 2 ^ (nbI v).toNat ≤ 2 * absI v) := by
  have h0 : 0 ≤ absI v := by unfold absI; split <;> omega
  have hz : absI v = 0 → v = 0 := by unfold absI; split <;> omega
  rw [← nbI_abs v]
  generalize absI v = a at *
  obtain ⟨n, rfl⟩ := Int.eq_ofNat_of_zero_le h0
  have := List.all_eq_true.1 nbI_all n (List.mem_range.2 (by omega))
  simp only [Bool.and_eq_true, Bool.or_eq_true, decide_eq_true_eq] at this
  obtain ⟨⟨⟨⟨k1, k2⟩, k3⟩, k4⟩, k5⟩ := this
  refine ⟨k1, k2, fun _ => by omega, k4, fun hv => ?_⟩
  rcases k5 with k5 | k5
  · exact absurd (hz (by omega)) hv
  · exact k5
theorem lut_all : (List.range 4).all (fun h => (lutL.getD h []).all fun x => decide (0 ≤ x) && decide (x < 285212672) && decide (x % 16777216 ≤ 65535)) = true := by decide +kernel
theorem lut_spec (h : Nat) (hh : h < 4) (i : Nat) : 0 ≤ (lutL.getD h []).getD i 0 ∧ (lutL.getD h []).getD i 0 < 285212672 ∧ (lutL.getD h []).getD i 0 % 16777216 ≤ 65535 := by
  have h1 := List.all_eq_true.1 lut_all h (List.mem_range.2 hh)
  rw [List.getD_eq_getElem?_getD (l := lutL.getD h [])]
  cases hi : (lutL.getD h [])[i]? with
  | none => simp
  | some x =>
    have := List.all_eq_true.1 h1 x (List.mem_of_getElem? hi)
    simp only [Bool.and_eq_true, decide_eq_true_eq] at this
    exact ⟨this.1.1, this.1.2, this.2⟩
end
end Go.Proofs.YtljjbikbfeigdaaGreatDoor
namespace Go.Proofs.YtljjbikbfeigdaaGreatDoor
noncomputable section
open Go
/-- functions in terms -/
def fI (f : Nat) (x y z u a : T) : T := .fi f x y z u a (.alit []) (.alit []) (.alit [])
def fA (f : Nat) (x y z u a : T) : T := .fa f x y z u a (.alit []) (.alit []) (.alit [])
def z0 : T := .lit 0
def cA (f : Nat) : T := fA f z0 z0 z0 z0 (.alit [])
def lutR : List Leaf := [.sl (.old 10) 0 (.lit 0) (.lit 12) (.lit 12), .sl (.old 11) 0 (.lit 0) (.lit 251) (.lit 251), .sl (.old 12) 0 (.lit 0) (.lit 12) (.lit 12), .sl (.old 13) 0 (.lit 0) (.lit 251) (.lit 251)]
def lutB : List (Ref × Blk) := [(.old 10, ⟨131, [.arr .u32 (cA 40) 12]⟩), (.old 11, ⟨131, [.arr .u32 (cA 41) 251]⟩), (.old 12, ⟨131, [.arr .u32 (cA 42) 12]⟩), (.old 13, ⟨131, [.arr .u32 (cA 43) 251]⟩)]
/-- the encoder -/
def bE (eb en ebuf quant : T) : Ref × Blk := (.old 0, ⟨138, [.cells [.iface 141 (.ptr (.old 1) 0 (.lit 0)), .nilI], .arr .u8 ebuf 16, .cells [.int .u32 eb, .int .u32 en], .arr .u8 quant 128, .cells lutR]⟩)
/-- the encoder and what it writes to: the slice that grows v, the buffer buf with n bytes, the bits that wait -/
def hE (v : Nat) (n buf eb en ebuf quant : T) : List (Ref × Blk) := bE eb en ebuf quant :: hB v n buf ++ lutB
def eIn : Hp := { rw := hE 0 (.iv 0) (.av 1) (.iv 1) (.iv 2) (.av 2) (.av 3), nv := 1000, ow := owW 0 (.av 0) }
def eOut : Hp := { rw := hE 100 (.iv 100) (.av 101) (.iv 101) (.iv 102) (.av 2) (.av 3), ow := owW 100 (.av 100) }
/-- a stream as one list -/
def sT (t eb en : T) : T := app (one eb) (app (one en) t)
def s0 : T := sT (tot (.av 0) (.av 1) (.iv 0)) (.iv 1) (.iv 2)
def s1 : T := sT (tot (.av 100) (.av 101) (.iv 100)) (.iv 101) (.iv 102)
/-- what holds of a stream: its counts, its bits, how long it may yet become -/
def okSt (n buf eb en : T) : List T := inR (.lit 0) n (.lit 4096) ++ [.eq (.len buf) (.lit 4096)] ++ inR (.lit 0) eb (.lit 4294967295) ++ inR (.lit 0) en (.lit 7)
def preE (room : Int) : List T := okSt (.iv 0) (.av 1) (.iv 1) (.iv 2) ++ [.le (.add (.add (.len (.av 0)) (.iv 0)) (.lit room)) lim]
def postE (grow : Int) (fs : T) : List T := okSt (.iv 100) (.av 101) (.iv 101) (.iv 102) ++ [.le (.add (.len (.av 100)) (.iv 100)) (.add (.add (.len (.av 0)) (.iv 0)) (.lit grow)), .aeq s1 fs]
def c94 : Ctr where
  args := [p0 (.old 0), .v (.one (.int .u32 (.iv 10))), .v (.one (.int .u32 (.iv 11)))]
  hp := eIn
  pre := preE 6 ++ inR (.lit 0) (.iv 10) (.lit 65535) ++ inR (.lit 0) (.iv 11) (.lit 16)
  val := .tup []
  hp' := eOut
  post := postE 6 (fA 3 (.iv 10) (.iv 11) z0 z0 s0)
  quiet := false
def wrS (b : Nat) (n buf : T) : List (Ref × List Seg) :=
  [(.old 1, [.cells [.nilI, .sl (.old 2) 0 (.lit 0) (.lit 4096) (.lit 4096), .int .i64 n, .iface 96 (.ptr (.old 3) 0 (.lit 0))]]), (.old 2, [.arr .u8 buf 4096]), (.old 3, [.cells [.val b, .int .i64 (.lit (-1)), .bool .ff]])]
def bits94 : T := .bits .or .u32 (.wrap .u32 (.shl .u32 (.iv 10) (.wrap .u32 (.sub (.lit 32) (.wrap .u32 (.add (.iv 11) (.iv 2))))))) (.iv 1)
def n94 : T := .wrap .u32 (.add (.iv 11) (.iv 2))
def ann94 : List SR → Hp → Option Ann := mkAnn fun b _ _ => {
  lo := 23, hi := 47
  tr := [(1, .v (.one (.int .u32 (.iv b)))), (2, .v (.one (.int .u32 (.iv (b + 1))))), (6, .v (.one (.junk (b + 106))))]
  rw := wrS b (.iv (b + 2)) (.av (b + 1))
  ow := some (.av b)
  facts := inR (.lit 0) (.iv b) (.lit 4294967295) ++ inR (.lit 0) (.iv (b + 1)) (.lit 23) ++ inR (.lit 0) (.iv (b + 2)) (.lit 4096) ++ [.eq (.len (.av (b + 1))) (.lit 4096),
    .le (.add (.mul (.lit 4) (.add (.len (.av b)) (.iv (b + 2)))) (.iv (b + 1))) (.add (.mul (.lit 4) (.add (.len (.av 0)) (.iv 0))) (.lit 24)),
    .aeq (fA 1 z0 z0 z0 z0 (sT (tot (.av b) (.av (b + 1)) (.iv (b + 2))) (.iv b) (.iv (b + 1)))) (fA 1 z0 z0 z0 z0 (sT (tot (.av 0) (.av 1) (.iv 0)) bits94 n94))]
  meas := .iv (b + 1)
  quiet := false }
def rspC : Nat → Option RSpec := fun f => match f with
  | 154 => some (applyR c154)
  | 155 => some (applyR c155)
  | 153 => some (applyR c153)
  | _ => none
def ltK2 : Nat → Nat → Option (List SR → Hp → Option Ann) := fun f k => match f, k with
  | 94, 3 => some ann94
  | _, _ => none
def inlK2 : Nat → Bool := fun f => f == 62 || f == 84 || f == 110
/-- a run and a value, by table h -/
def c109 (h : Nat) (run top : Int) : Ctr where
  args := [p0 (.old 0), .v (.one (.int .i64 (.lit h))), .v (.one (.int .i32 (.iv 10))), .v (.one (.int .i32 (.iv 11)))]
  hp := { eIn with ro := [(.glob 5, .u8, cA 44)] }
  pre := preE 12 ++ inR (.lit 0) (.iv 10) (.lit run) ++ inR (.lit (-top)) (.iv 11) (.lit top)
  val := .tup []
  hp' := { eOut with ro := [(.glob 5, .u8, cA 44)] }
  post := postE 12 (fA (10 + h) (.iv 10) (.iv 11) z0 z0 s0)
  quiet := false
def rspD : Nat → Option RSpec := fun f => match f with
  | 94 => some (applyR c94)
  | _ => none
end
end Go.Proofs.YtljjbikbfeigdaaGreatDoor
namespace Go.Proofs.YtljjbikbfeigdaaGreatDoor
noncomputable section
open Go
/-- One line of the transform's code, on eight numbers. -/
inductive Ins where
  | bf (a b : Nat)
  | box (a b : Nat) (k : Nat) (c s : Int)
  | sm (a k : Nat) (c : Int)
  | rnd (a : Nat)
  | dc (a : Nat)
  | sl (a : Nat)
def updR (f : Nat → Int) (n : Nat) (v : Int) : Nat → Int := fun m => cond (Nat.beq m n) v (f m)
def w32 (x : Int) : Int := IntKind.i32.wrap x
/-- An arithmetic shift; by naught it is not there. -/
def sh (x : Int) : Nat → Int
  | 0 => x
  | k + 1 => x / 2 ^ (k + 1)
def boxA (x y c s : Int) : Int := w32 (w32 (c * w32 (x + y)) + w32 (w32 (s - c) * y))
def boxB (x y c s : Int) : Int := w32 (w32 (c * w32 (x + y)) - w32 (w32 (c + s) * x))
def Ins.run (f : Nat → Int) : Ins → Nat → Int
  | .bf a b => updR (updR f a (w32 (f a + f b))) b (w32 (f a - f b))
  | .box a b k c s => updR (updR f a (boxA (sh (f a) k) (sh (f b) k) c s)) b (boxB (sh (f a) k) (sh (f b) k) c s)
  | .sm a k c => updR f a (w32 (sh (f a) k * c))
  | .rnd a => updR f a (w32 (f a + 131072) / 262144)
  | .dc a => updR f a (w32 (w32 (f a - 1024) * 262144))
  | .sl a => updR f a (w32 (f a * 262144))
def runs : List Ins → (Nat → Int) → Nat → Int
  | [], f => f
  | i :: l, f => runs l (i.run f)
def colsP : List Ins := [.bf 0 7, .bf 1 6, .bf 2 5, .bf 3 4, .box 4 7 0 217965 145639, .box 5 6 0 257107 51142, .bf 0 3, .bf 1 2, .box 2 3 0 141871 342508, .bf 0 1, .dc 0, .sl 1, .bf 4 6, .bf 7 5, .sm 5 12 5793, .sm 6 12 5793, .bf 7 4]
def rowsP : List Ins := [.bf 0 7, .bf 1 6, .bf 2 5, .bf 3 4, .box 4 7 14 13623 9102, .box 5 6 14 16069 3196, .bf 0 3, .bf 1 2, .box 2 3 14 8867 21407, .bf 0 1, .bf 4 6, .bf 7 5, .sm 5 14 23170, .sm 6 14 23170, .bf 7 4, .rnd 0, .rnd 1, .rnd 2, .rnd 3, .rnd 4, .rnd 5, .rnd 6, .rnd 7]
/-- Eight numbers of a list, as registers. -/
def eight (a b c d e f g h : Int) : Nat → Int
  | 0 => a | 1 => b | 2 => c | 3 => d | 4 => e | 5 => f | 6 => g | 7 => h | _ => 0
def at8 (a : List Int) (n : Int) : Int := a.getD n.toNat 0
def colOf (i : Int) (a : List Int) : Nat → Int := runs colsP (eight (at8 a i) (at8 a (8 + i)) (at8 a (16 + i)) (at8 a (24 + i)) (at8 a (32 + i)) (at8 a (40 + i)) (at8 a (48 + i)) (at8 a (56 + i)))
def rowOf (i : Int) (a : List Int) : Nat → Int := runs rowsP (eight (at8 a (8 * i)) (at8 a (1 + 8 * i)) (at8 a (2 + 8 * i)) (at8 a (3 + 8 * i)) (at8 a (4 + 8 * i)) (at8 a (5 + 8 * i)) (at8 a (6 + 8 * i)) (at8 a (7 + 8 * i)))
def colStep (i : Int) (a : List Int) : List Int :=
  (((((((a.set i.toNat (colOf i a 0)).set (32 + i).toNat (colOf i a 1)).set (16 + i).toNat (colOf i a 2)).set (48 + i).toNat (colOf i a 3)).set (8 + i).toNat (colOf i a 7)).set (24 + i).toNat (colOf i a 5)).set (40 + i).toNat (colOf i a 6)).set (56 + i).toNat (colOf i a 4)
def rowStep (i : Int) (a : List Int) : List Int :=
  (((((((a.set (8 * i).toNat (rowOf i a 0)).set (1 + 8 * i).toNat (rowOf i a 7)).set (2 + 8 * i).toNat (rowOf i a 2)).set (3 + 8 * i).toNat (rowOf i a 5)).set (4 + 8 * i).toNat (rowOf i a 1)).set (5 + 8 * i).toNat (rowOf i a 6)).set (6 + 8 * i).toNat (rowOf i a 3)).set (7 + 8 * i).toNat (rowOf i a 4)
def colsF (i : Int) (a : List Int) : List Int := if i < 8 then colsF (i + 1) (colStep i a) else a
termination_by (8 - i).toNat
decreasing_by omega
def rowsF (i : Int) (a : List Int) : List Int := if i < 8 then rowsF (i + 1) (rowStep i a) else a
termination_by (8 - i).toNat
decreasing_by omega
theorem colsF_step {i : Int} {a : List Int} (h : i < 8) : colsF i a = colsF (i + 1) (colStep i a) := by rw [colsF, if_pos h]
theorem colsF_end {i : Int} {a : List Int} (h : ¬ i < 8) : colsF i a = a := by rw [colsF, if_neg h]
theorem rowsF_step {i : Int} {a : List Int} (h : i < 8) : rowsF i a = rowsF (i + 1) (rowStep i a) := by rw [rowsF, if_pos h]
theorem rowsF_end {i : Int} {a : List Int} (h : ¬ i < 8) : rowsF i a = a := by rw [rowsF, if_neg h]
/-- The whole transform. -/
def dctF (a : List Int) : List Int := rowsF 0 (colsF 0 a)
/-- The quotient, rounded to the nearest. -/
def rdiv (a b : Int) : Int := if 0 ≤ a then (a + b / 2) / b else -((-a + b / 2) / b)
end
end Go.Proofs.YtljjbikbfeigdaaGreatDoor
namespace Go.Proofs.YtljjbikbfeigdaaGreatDoor
noncomputable section
open Go
def unzigL : List Int := [0, 1, 8, 16, 9, 2, 3, 10, 17, 24, 32, 25, 18, 11, 4, 5, 12, 19, 26, 33, 40, 48, 41, 34, 27, 20, 13, 6, 7, 14, 21, 28, 35, 42, 49, 56, 57, 50, 43, 36, 29, 22, 15, 23, 30, 37, 44, 51, 58, 59, 52, 45, 38, 31, 39, 46, 53, 60, 61, 54, 47, 55, 62, 63]
/-- The k-th coefficient of a block, quantized by table q; d is the transformed block. -/
def coef (q : Nat) (quant d : List Int) (k : Int) : Int := rdiv (at8 d (at8 unzigL k)) (8 * at8 quant (64 * q + k))
/-- Runs of sixteen zeros. -/
def zrlF (q : Nat) (s : St) (run : Int) : St := if 15 < run then zrlF q (huff (2 * q + 1) s 240) (run - 16) else s
termination_by run.toNat
decreasing_by omega
/-- The coefficients from zig on, run zeros before them. -/
def acF (q : Nat) (quant d : List Int) (s : St) (zig run : Int) : St :=
  if zig < 64 then
    if coef q quant d zig = 0 then acF q quant d s (zig + 1) (run + 1)
    else acF q quant d (hrle (2 * q + 1) (zrlF q s run) (run % 16) (coef q quant d zig)) (zig + 1) 0
  else if 0 < run then huff (2 * q + 1) s 0 else s
termination_by (64 - zig).toNat
decreasing_by all_goals omega
/-- A block. -/
def blkF (q : Nat) (quant blk : List Int) (s : St) (prev : Int) : St :=
  acF q quant (dctF blk) (hrle (2 * q) s 0 (coef q quant (dctF blk) 0 - prev)) 1 0
theorem zrlF_step {q : Nat} {s : St} {run : Int} (h : 15 < run) : zrlF q s run = zrlF q (huff (2 * q + 1) s 240) (run - 16) := by rw [zrlF, if_pos h]
theorem zrlF_end {q : Nat} {s : St} {run : Int} (h : ¬ 15 < run) : zrlF q s run = s := by rw [zrlF, if_neg h]
theorem acF_zero {q : Nat} {quant d : List Int} {s : St} {zig run : Int} (h : zig < 64) (h0 : coef q quant d zig = 0) : acF q quant d s zig run = acF q quant d s (zig + 1) (run + 1) := by rw [acF, if_pos h, if_pos h0]
theorem acF_some {q : Nat} {quant d : List Int} {s : St} {zig run : Int} (h : zig < 64) (h0 : ¬ coef q quant d zig = 0) : acF q quant d s zig run = acF q quant d (hrle (2 * q + 1) (zrlF q s run) (run % 16) (coef q quant d zig)) (zig + 1) 0 := by rw [acF, if_pos h, if_neg h0]
theorem acF_eob {q : Nat} {quant d : List Int} {s : St} {zig run : Int} (h : ¬ zig < 64) (h0 : 0 < run) : acF q quant d s zig run = huff (2 * q + 1) s 0 := by rw [acF, if_neg h, if_pos h0]
theorem acF_end {q : Nat} {quant d : List Int} {s : St} {zig run : Int} (h : ¬ zig < 64) (h0 : ¬ 0 < run) : acF q quant d s zig run = s := by rw [acF, if_neg h, if_neg h0]
/-- All numbers of a list from lo to hi. -/
def allIn (lo hi : Int) (l : List Int) : Bool := l.all fun x => decide (lo ≤ x) && decide (x ≤ hi)
/-- A block of a plane, its last column and row repeated. -/
def padL (px py wide high : Int) (pix : List Int) : List Int :=
  (List.range 64).map fun i => at8 pix (min (py + (i / 8 : Nat)) (high - 1) * wide + min (px + (i % 8 : Nat)) (wide - 1))
end
end Go.Proofs.YtljjbikbfeigdaaGreatDoor
namespace Go.Proofs.YtljjbikbfeigdaaGreatDoor
noncomputable section
open Go
/-- One bit: may it be read; it; where the next one stands. -/
def rOk (D : List Int) (at_ us : Int) : Bool := decide (at_ < D.length) && (decide (at8 D at_ ≠ 255) || (decide (at_ + 1 < D.length) && decide (at8 D (at_ + 1) = 0)))
def rV (D : List Int) (at_ us : Int) : Int := at8 D at_ / 2 ^ (7 - us).toNat % 2
def rAt (D : List Int) (at_ us : Int) : Int := if us + 1 = 8 then (if at8 D at_ = 255 then at_ + 2 else at_ + 1) else at_
def rUs (us : Int) : Int := if us + 1 = 8 then 0 else us + 1
/-- So many bits as a number, and where the next one stands. -/
def numL (D : List Int) : Nat → Int → Int → Int → List Int
  | 0, v, at_, us => [v, at_, us]
  | n + 1, v, at_, us => numL D n (2 * v + rV D at_ us) (rAt D at_ us) (rUs us)
def numOk (D : List Int) : Nat → Int → Int → Bool
  | 0, _, _ => true
  | n + 1, at_, us => rOk D at_ us && numOk D n (rAt D at_ us) (rUs us)
/-- A number as a value of its size. -/
def sgn (n v : Int) : Int := if 0 < n ∧ v < 2 ^ (n - 1).toNat then v - (2 ^ n.toNat - 1) else v
/-- A symbol, and where the next bit stands; f lengths are left. -/
def symL (cs sy D : List Int) : Nat → Int → Int → Int → Int → Int → List Int
  | 0, _, _, _, at_, us => [0, at_, us]
  | f + 1, code, first, index, at_, us =>
    let c := 2 * code + rV D at_ us
    let n := at8 cs (16 - f)
    if c - first < n then [at8 sy (index + c - first), rAt D at_ us, rUs us]
    else symL cs sy D f c (2 * (first + n)) (index + n) (rAt D at_ us) (rUs us)
def symOk (cs sy D : List Int) : Nat → Int → Int → Int → Int → Int → Bool
  | 0, _, _, _, _, _ => false
  | f + 1, code, first, index, at_, us =>
    let c := 2 * code + rV D at_ us
    let n := at8 cs (16 - f)
    rOk D at_ us && (if c - first < n then decide (0 ≤ index + c - first) && decide (index + c - first < sy.length)
    else symOk cs sy D f c (2 * (first + n)) (index + n) (rAt D at_ us) (rUs us))
def sym1 (cs sy D : List Int) (at_ us : Int) : List Int := symL cs sy D 16 0 0 0 at_ us
def sym1Ok (cs sy D : List Int) (at_ us : Int) : Bool := symOk cs sy D 16 0 0 0 at_ us
def e0 (l : List Int) : Int := l.getD 0 0
def e1 (l : List Int) : Int := l.getD 1 0
def e2 (l : List Int) : Int := l.getD 2 0
def sRun (cs sy D : List Int) (at_ us : Int) : Int := e0 (sym1 cs sy D at_ us) / 16
def sSize (cs sy D : List Int) (at_ us : Int) : Int := e0 (sym1 cs sy D at_ us) % 16
def sAt (cs sy D : List Int) (at_ us : Int) : Int := e1 (sym1 cs sy D at_ us)
def sUs (cs sy D : List Int) (at_ us : Int) : Int := e2 (sym1 cs sy D at_ us)
/-- The number that follows a symbol. -/
def sNum (cs sy D : List Int) (at_ us : Int) : List Int := numL D (sSize cs sy D at_ us).toNat 0 (sAt cs sy D at_ us) (sUs cs sy D at_ us)
/-- The other coefficients of a block that stands at place d of bl. -/
def seqL (cs sy D : List Int) (d k at_ us : Int) (bl : List Int) : List Int :=
  if k ≤ 63 then
    if sSize cs sy D at_ us = 0 then
      if sRun cs sy D at_ us = 0 then sAt cs sy D at_ us :: sUs cs sy D at_ us :: bl else seqL cs sy D d (k + 16) (sAt cs sy D at_ us) (sUs cs sy D at_ us) bl
    else if 0 ≤ sRun cs sy D at_ us then seqL cs sy D d (k + sRun cs sy D at_ us + 1) (e1 (sNum cs sy D at_ us)) (e2 (sNum cs sy D at_ us)) (bl.set (d + (k + sRun cs sy D at_ us)).toNat (sgn (sSize cs sy D at_ us) (e0 (sNum cs sy D at_ us))))
    else []
  else at_ :: us :: bl
termination_by (64 - k).toNat
decreasing_by all_goals omega
def seqOk (cs sy D : List Int) (k at_ us : Int) : Bool :=
  if k ≤ 63 then
    sym1Ok cs sy D at_ us && (if sSize cs sy D at_ us = 0 then
      (if sRun cs sy D at_ us = 0 then true else decide (sRun cs sy D at_ us = 15) && (decide (k + 15 < 63) && seqOk cs sy D (k + 16) (sAt cs sy D at_ us) (sUs cs sy D at_ us)))
    else if 0 ≤ sRun cs sy D at_ us then decide (k + sRun cs sy D at_ us ≤ 63) && (numOk D (sSize cs sy D at_ us).toNat (sAt cs sy D at_ us) (sUs cs sy D at_ us) && seqOk cs sy D (k + sRun cs sy D at_ us + 1) (e1 (sNum cs sy D at_ us)) (e2 (sNum cs sy D at_ us))) else false)
  else true
termination_by (64 - k).toNat
decreasing_by all_goals omega
/-- The ones that fill the last byte. -/
def alN (us : Int) : Nat := if us = 0 then 0 else (8 - us).toNat
def alAt (D : List Int) : Nat → Int → Int → Int
  | 0, at_, _ => at_
  | n + 1, at_, us => alAt D n (rAt D at_ us) (rUs us)
def alOk (D : List Int) : Nat → Int → Int → Bool
  | 0, _, _ => true
  | n + 1, at_, us => rOk D at_ us && (decide (rV D at_ us = 1) && alOk D n (rAt D at_ us) (rUs us))
def cntL : List (List Int) := [
  [0, 0, 1, 5, 1, 1, 1, 1, 1, 1, 0, 0, 0, 0, 0, 0, 0],
  [0, 0, 2, 1, 3, 3, 2, 4, 3, 5, 5, 4, 4, 0, 0, 1, 125],
  [0, 0, 3, 1, 1, 1, 1, 1, 1, 1, 1, 1, 0, 0, 0, 0, 0],
  [0, 0, 2, 1, 2, 4, 4, 3, 4, 7, 5, 4, 4, 0, 1, 2, 119]]
def symsL : List (List Int) := [
  [0, 1, 2, 3, 4, 5, 6, 7, 8, 9, 10, 11],
  [0x01, 0x02, 0x03, 0x00, 0x04, 0x11, 0x05, 0x12, 0x21, 0x31, 0x41, 0x06, 0x13, 0x51, 0x61, 0x07, 0x22, 0x71, 0x14, 0x32, 0x81, 0x91, 0xa1, 0x08, 0x23, 0x42, 0xb1, 0xc1, 0x15, 0x52, 0xd1, 0xf0, 0x24, 0x33, 0x62, 0x72, 0x82, 0x09, 0x0a, 0x16, 0x17, 0x18, 0x19, 0x1a, 0x25, 0x26, 0x27, 0x28, 0x29, 0x2a, 0x34, 0x35, 0x36, 0x37, 0x38, 0x39, 0x3a, 0x43, 0x44, 0x45, 0x46, 0x47, 0x48, 0x49, 0x4a, 0x53, 0x54, 0x55, 0x56, 0x57, 0x58, 0x59, 0x5a, 0x63, 0x64, 0x65, 0x66, 0x67, 0x68, 0x69, 0x6a, 0x73, 0x74, 0x75, 0x76, 0x77, 0x78, 0x79, 0x7a, 0x83, 0x84, 0x85, 0x86, 0x87, 0x88, 0x89, 0x8a, 0x92, 0x93, 0x94, 0x95, 0x96, 0x97, 0x98, 0x99, 0x9a, 0xa2, 0xa3, 0xa4, 0xa5, 0xa6, 0xa7, 0xa8, 0xa9, 0xaa, 0xb2, 0xb3, 0xb4, 0xb5, 0xb6, 0xb7, 0xb8, 0xb9, 0xba, 0xc2, 0xc3, 0xc4, 0xc5, 0xc6, 0xc7, 0xc8, 0xc9, 0xca, 0xd2, 0xd3, 0xd4, 0xd5, 0xd6, 0xd7, 0xd8, 0xd9, 0xda, 0xe1, 0xe2, 0xe3, 0xe4, 0xe5, 0xe6, 0xe7, 0xe8, 0xe9, 0xea, 0xf1, 0xf2, 0xf3, 0xf4, 0xf5, 0xf6, 0xf7, 0xf8, 0xf9, 0xfa],
  [0, 1, 2, 3, 4, 5, 6, 7, 8, 9, 10, 11],
  [0x00, 0x01, 0x02, 0x03, 0x11, 0x04, 0x05, 0x21, 0x31, 0x06, 0x12, 0x41, 0x51, 0x07, 0x61, 0x71, 0x13, 0x22, 0x32, 0x81, 0x08, 0x14, 0x42, 0x91, 0xa1, 0xb1, 0xc1, 0x09, 0x23, 0x33, 0x52, 0xf0, 0x15, 0x62, 0x72, 0xd1, 0x0a, 0x16, 0x24, 0x34, 0xe1, 0x25, 0xf1, 0x17, 0x18, 0x19, 0x1a, 0x26, 0x27, 0x28, 0x29, 0x2a, 0x35, 0x36, 0x37, 0x38, 0x39, 0x3a, 0x43, 0x44, 0x45, 0x46, 0x47, 0x48, 0x49, 0x4a, 0x53, 0x54, 0x55, 0x56, 0x57, 0x58, 0x59, 0x5a, 0x63, 0x64, 0x65, 0x66, 0x67, 0x68, 0x69, 0x6a, 0x73, 0x74, 0x75, 0x76, 0x77, 0x78, 0x79, 0x7a, 0x82, 0x83, 0x84, 0x85, 0x86, 0x87, 0x88, 0x89, 0x8a, 0x92, 0x93, 0x94, 0x95, 0x96, 0x97, 0x98, 0x99, 0x9a, 0xa2, 0xa3, 0xa4, 0xa5, 0xa6, 0xa7, 0xa8, 0xa9, 0xaa, 0xb2, 0xb3, 0xb4, 0xb5, 0xb6, 0xb7, 0xb8, 0xb9, 0xba, 0xc2, 0xc3, 0xc4, 0xc5, 0xc6, 0xc7, 0xc8, 0xc9, 0xca, 0xd2, 0xd3, 0xd4, 0xd5, 0xd6, 0xd7, 0xd8, 0xd9, 0xda, 0xe2, 0xe3, 0xe4, 0xe5, 0xe6, 0xe7, 0xe8, 0xe9, 0xea, 0xf2, 0xf3, 0xf4, 0xf5, 0xf6, 0xf7, 0xf8, 0xf9, 0xfa]]
def cnt (h : Nat) : List Int := cntL.getD h []
def syms (h : Nat) : List Int := symsL.getD h []
/-- A DC difference: its value, where the next bit stands; may it be read. -/
def dcS (q : Nat) (D : List Int) (at_ us : Int) : List Int := sym1 (cnt (2 * q)) (syms (2 * q)) D at_ us
def dcN (q : Nat) (D : List Int) (at_ us : Int) : List Int := numL D (e0 (dcS q D at_ us)).toNat 0 (e1 (dcS q D at_ us)) (e2 (dcS q D at_ us))
def dcV (q : Nat) (D : List Int) (at_ us : Int) : Int := sgn (e0 (dcS q D at_ us)) (e0 (dcN q D at_ us))
def dcOk (q : Nat) (D : List Int) (at_ us : Int) : Bool := sym1Ok (cnt (2 * q)) (syms (2 * q)) D at_ us && numOk D (e0 (dcS q D at_ us)).toNat (e1 (dcS q D at_ us)) (e2 (dcS q D at_ us))
end
end Go.Proofs.YtljjbikbfeigdaaGreatDoor
namespace Go.Proofs.YtljjbikbfeigdaaGreatDoor
noncomputable section
open Go
/-- The coefficients behind the first one of block m, by the tables of q. -/
def acS (q : Nat) (D : List Int) (d at_ us : Int) (bl : List Int) : List Int := seqL (cnt (2 * q + 1)) (syms (2 * q + 1)) D d 1 at_ us bl
/-- One block at place d of bl: where the next bit stands, the prediction, the blocks. -/
def blkS (q : Nat) (D : List Int) (d at_ us p : Int) (bl : List Int) : List Int :=
  acS q D d (e1 (dcN q D at_ us)) (e2 (dcN q D at_ us)) (bl.set d.toNat (p + dcV q D at_ us))
def blkOk (q : Nat) (D : List Int) (at_ us p : Int) : Bool :=
  dcOk q D at_ us && (decide (-1024 ≤ p + dcV q D at_ us) && (decide (p + dcV q D at_ us ≤ 1023) && seqOk (cnt (2 * q + 1)) (syms (2 * q + 1)) D 1 (e1 (dcN q D at_ us)) (e2 (dcN q D at_ us))))
/-- n blocks from number m on. -/
def scL (D : List Int) : Nat → Int → Int → Int → Int → List Int → List Int
  | 0, _, at_, us, _, bl => at_ :: us :: bl
  | n + 1, m, at_, us, p, bl => scL D n (m + 1) (e0 (blkS 0 D (64 * m) at_ us p bl)) (e1 (blkS 0 D (64 * m) at_ us p bl)) (p + dcV 0 D at_ us) ((blkS 0 D (64 * m) at_ us p bl).drop 2)
def scOk (D : List Int) : Nat → Int → Int → Int → Int → List Int → Bool
  | 0, _, at_, us, _, _ => alOk D (alN us) at_ us
  | n + 1, m, at_, us, p, bl => blkOk 0 D at_ us p && scOk D n (m + 1) (e0 (blkS 0 D (64 * m) at_ us p bl)) (e1 (blkS 0 D (64 * m) at_ us p bl)) (p + dcV 0 D at_ us) ((blkS 0 D (64 * m) at_ us p bl).drop 2)
/-- A whole scan: where it ends, its blocks. -/
def scAt (D : List Int) (n : Nat) (at_ : Int) (bl : List Int) : Int := alAt D (alN (e1 (scL D n 0 at_ 0 0 bl))) (e0 (scL D n 0 at_ 0 0 bl)) (e1 (scL D n 0 at_ 0 0 bl))
def scBl (D : List Int) (n : Nat) (at_ : Int) (bl : List Int) : List Int := (scL D n 0 at_ 0 0 bl).drop 2
end
end Go.Proofs.YtljjbikbfeigdaaGreatDoor
namespace Go.Proofs.YtljjbikbfeigdaaGreatDoor
noncomputable section
open Go
def cutL (l : List Int) (s n : Nat) : List Int := (l.drop s).take n
/-- The parameters of the segment with the Huffman tables of the first component. -/
def dhtG : List Int := [0] ++ (cnt 0).drop 1 ++ syms 0 ++ [16] ++ (cnt 1).drop 1 ++ syms 1
def sosG : List Int := [1, 1, 0, 0, 63, 0]
/-- Elements of a quantization table, from the first k numbers behind number 65 j of b. -/
def qfill (j : Nat) (b : List Int) : Nat → List Int → List Int
  | 0, q => q
  | k + 1, q => (qfill j b k q).set (64 * j + k) (at8 b ((65 * j + 1 + k : Nat) : Int))
def wdD (D : List Int) : Int := at8 D 143 * 256 + at8 D 144
def hgD (D : List Int) : Int := at8 D 141 * 256 + at8 D 142
def nbOf (w h : Int) : Int := (w + 7) / 8 * ((h + 7) / 8)
def nbD (D : List Int) : Int := nbOf (wdD D) (hgD D)
def zeroN (n : Int) : List Int := List.replicate (64 * n).toNat 0
def blD (D : List Int) : List Int := scBl D (nbD D).toNat 371 (zeroN (nbD D))
def endD (D : List Int) : Int := scAt D (nbD D).toNat 371 (zeroN (nbD D))
/-- Coefficients of samples of 8 bits. -/
def inBl (l : List Int) : Bool := decide (-1024 ≤ at8 l 0) && (decide (at8 l 0 ≤ 1023) && l.tail.all fun x => decide (-1023 ≤ x) && decide (x ≤ 1023))
def inAll (n : Nat) (bl : List Int) : Bool := (List.range n).all fun m => inBl (cutL bl (64 * m) 64)
def gOk (D : List Int) : Bool :=
  decide (cutL D 0 7 = [255, 216, 255, 219, 0, 132, 0]) && (((cutL D 7 64).all fun x => decide (1 ≤ x)) && (decide (at8 D 71 = 1) && (((cutL D 72 64).all fun x => decide (1 ≤ x)) &&
  (decide (cutL D 136 5 = [255, 192, 0, 11, 8]) && (decide (1 ≤ wdD D) && (decide (1 ≤ hgD D) && (decide (wdD D * hgD D ≤ 65536) && (decide (cutL D 145 4 = [1, 1, 17, 0]) &&
  (decide (cutL D 149 4 = [255, 196, 0, 210]) && (decide (cutL D 153 208 = dhtG) && (decide (cutL D 361 4 = [255, 218, 0, 8]) && (decide (cutL D 365 6 = sosG) &&
  (scOk D (nbD D).toNat 0 371 0 0 (zeroN (nbD D)) && (decide (at8 D (endD D) = 255) && (decide (at8 D (endD D + 1) = 217) && (decide (endD D + 2 = D.length) && inAll (nbD D).toNat (blD D)))))))))))))))))
/-- How much of a scan was sent: k coefficients of the first component. -/
def missK (k : Int) : List Int := (List.range 192).map fun (j : Nat) => if j < 64 ∧ k ≤ (j : Int) then -1 else 0
def missL (k : Int) : List Int := (List.range 192).map fun (j : Nat) => if j < 64 ∧ (j : Int) < k then -1 else 0
/-- Which symbols a table has among its first k. -/
def seenL (h k : Nat) : List Int := ((syms h).take k).foldl (fun l s => l.set s.toNat 1) (List.replicate 256 0)
end
end Go.Proofs.YtljjbikbfeigdaaGreatDoor
namespace Go.Proofs.YtljjbikbfeigdaaGreatDoor
noncomputable section
open Go
/-- The blocks from (x, y) on, and the bits that fill the last byte. -/
def sosB (w h : Int) (pix quant : List Int) (s : St) (prev x y : Int) : St :=
  if y < h then
    if x < w then sosB w h pix quant (blkF 0 quant (padL x y w h pix) s prev) (coef 0 quant (dctF (padL x y w h pix)) 0) (x + 8) y
    else sosB w h pix quant s prev 0 (y + 8)
  else emit s 127 7
termination_by ((h - y).toNat, (w - x).toNat)
decreasing_by
  · apply Prod.Lex.right; omega
  · apply Prod.Lex.left; omega
def sosHdr : List Int := [255, 218, 0, 8, 1, 1, 0, 0, 63, 0]
/-- A scan with its header. -/
def sosF (w h : Int) (pix quant : List Int) (s : St) : St := sosB w h pix quant ⟨s.t ++ sosHdr, s.b, s.n⟩ 0 0 0
theorem sosB_blk {w h : Int} {pix quant : List Int} {s : St} {prev x y : Int} (hy : y < h) (hx : x < w) : sosB w h pix quant s prev x y = sosB w h pix quant (blkF 0 quant (padL x y w h pix) s prev) (coef 0 quant (dctF (padL x y w h pix)) 0) (x + 8) y := by rw [sosB, if_pos hy, if_pos hx]
theorem sosB_row {w h : Int} {pix quant : List Int} {s : St} {prev x y : Int} (hy : y < h) (hx : ¬ x < w) : sosB w h pix quant s prev x y = sosB w h pix quant s prev 0 (y + 8) := by rw [sosB, if_pos hy, if_neg hx]
theorem sosB_end {w h : Int} {pix quant : List Int} {s : St} {prev x y : Int} (hy : ¬ y < h) : sosB w h pix quant s prev x y = emit s 127 7 := by rw [sosB, if_neg hy]
end
end Go.Proofs.YtljjbikbfeigdaaGreatDoor
namespace Go.Proofs.YtljjbikbfeigdaaGreatDoor
noncomputable section
open Go
def uqL : List Int := [16, 11, 12, 14, 12, 10, 16, 14, 13, 14, 18, 17, 16, 19, 24, 40, 26, 24, 22, 22, 24, 49, 35, 37, 29, 40, 58, 51, 61, 60, 57, 51, 56, 55, 64, 72, 92, 78, 64, 68, 87, 69, 55, 56, 80, 109, 81, 87, 95, 98, 103, 104, 103, 62, 77, 113, 121, 112, 100, 120, 92, 101, 103, 99, 17, 18, 18, 24, 21, 24, 47, 26, 26, 47, 99, 66, 56, 66, 99, 99, 99, 99, 99, 99, 99, 99, 99, 99, 99, 99, 99, 99, 99, 99, 99, 99, 99, 99, 99, 99, 99, 99, 99, 99, 99, 99, 99, 99, 99, 99, 99, 99, 99, 99, 99, 99, 99, 99, 99, 99, 99, 99, 99, 99, 99, 99, 99, 99]
def scaleQ (q : Int) : Int := if q < 50 then 5000 / q else 200 - q * 2
/-- An element of the quantization tables of a quality. -/
def qel (q : Int) (k : Nat) : Int :=
  if (at8 uqL (k : Int) * scaleQ q + 50) / 100 < 1 then 1 else if 255 < (at8 uqL (k : Int) * scaleQ q + 50) / 100 then 255 else (at8 uqL (k : Int) * scaleQ q + 50) / 100
def quantL (q : Int) : List Int := (List.range 128).map (qel q)
def hdrG (q w h : Int) : List Int :=
  [255, 216] ++ ([255, 219, 0, 132] ++ ([0] ++ (cutL (quantL q) 0 64 ++ ([1] ++ (cutL (quantL q) 64 64 ++ ([255, 192, 0, 11] ++ ([8, h / 256, h % 256, w / 256, w % 256, 1, 1, 17, 0] ++
    ([255, 196, 0, 210] ++ ([0] ++ ((cnt 0).drop 1 ++ (syms 0 ++ ([16] ++ ((cnt 1).drop 1 ++ syms 1)))))))))))))
/-- The whole stream of a gray image. -/
def grayF (q w h : Int) (pix : List Int) : List Int := (sosF w h pix (quantL q) ⟨hdrG q w h, 0, 0⟩).t ++ [255, 217]
/-- The look-up table's making: how many symbols there are up to length i, the code behind them, the greatest of the first k symbols, the table with the first k. -/
def KI (h : Nat) : Nat → Int
  | 0 => 0
  | i + 1 => KI h i + at8 (cnt h) (i + 1 : Nat)
def CI (h : Nat) : Nat → Int
  | 0 => 0
  | i + 1 => (CI h i + at8 (cnt h) (i + 1 : Nat)) * 2
def maxP (h k : Nat) : Int := ((syms h).take k).foldl (fun m s => if m < s then s else m) 0
def lutP (h k : Nat) : List Int := ((syms h).take k).foldl (fun l s => l.set s.toNat ((lutL.getD h []).getD s.toNat 0)) (List.replicate (if h % 2 = 0 then 12 else 251) 0)
end
end Go.Proofs.YtljjbikbfeigdaaGreatDoor
namespace Go.Proofs.YtljjbikbfeigdaaGreatDoor
noncomputable section
open Go
def basisL : List Int := [370728, 514214, 484379, 435930, 370728, 291279, 200636, 102284, 370728, 435930, 200636, -102284, -370728, -514214, -484379, -291279, 370728, 291279, -200636, -514214, -370728, 102284, 484379, 435930, 370728, 102284, -484379, -291279, 370728, 435930, -200636, -514214, 370728, -102284, -484379, 291279, 370728, -435930, -200636, 514214, 370728, -291279, -200636, 514214, -370728, -102284, 484379, -435930, 370728, -435930, 200636, 102284, -370728, 514214, -484379, 291279, 370728, -514214, 484379, -435930, 370728, -291279, 200636, -102284]
/-- Sums on their way: those of the places before n are whole, that of place n has x summands. -/
def accP (f : Int → Nat → Int) (n x : Int) : List Int := (List.range 64).map fun i : Nat => if (i : Int) < n then f i 8 else if (i : Int) = n then f i x.toNat else 0
def hsum (s : List Int) (i : Int) : Nat → Int
  | 0 => 0
  | n + 1 => hsum s i n + at8 basisL (8 * n + i % 8) * (at8 s (8 * (i / 8) + n) - 128)
def halfL (s : List Int) : List Int := accP (hsum s) 64 0
def csum (h : List Int) (i : Int) : Nat → Int
  | 0 => 0
  | n + 1 => csum h i n + at8 basisL (8 * n + i / 8) * at8 h (8 * n + i % 8)
def coefE (s : List Int) : List Int := accP (csum (halfL s)) 64 0
/-- The coefficients in zigzag order, k of them. -/
def exP (k : Int) (s : List Int) : List Int := (List.range 64).map fun i : Nat => if (i : Int) < k then at8 (coefE s) (at8 unzigL i) else 0
def exactL (s : List Int) : List Int := exP 64 s
theorem accP_len {f : Int → Nat → Int} {n x : Int} : (accP f n x).length = 64 := by simp [accP]
theorem accP_at {f : Int → Nat → Int} {n x j : Int} (h0 : 0 ≤ j) (h1 : j < 64) : at8 (accP f n x) j = if j < n then f j 8 else if j = n then f j x.toNat else 0 := by
  obtain ⟨m, rfl⟩ := Int.eq_ofNat_of_zero_le h0
  unfold accP at8
  rw [List.getD_eq_getElem?_getD, List.getElem?_map, Int.toNat_natCast, List.getElem?_range (by omega)]
  rfl
theorem accP_ext {l : List Int} {f : Int → Nat → Int} {n x : Int} (hl : l.length = 64) (h : ∀ j : Int, 0 ≤ j → j < 64 → at8 l j = at8 (accP f n x) j) : l = accP f n x := by
  apply List.ext_getElem (by rw [hl, accP_len])
  intro i h1 h2
  have := h (i : Int) (by omega) (by omega)
  unfold at8 at this
  rw [Int.toNat_natCast, List.getD_eq_getElem?_getD, List.getD_eq_getElem?_getD, List.getElem?_eq_getElem h1, List.getElem?_eq_getElem h2] at this
  exact this
theorem accP_start {f : Int → Nat → Int} (hf : ∀ i, f i 0 = 0) : accP f 0 0 = List.replicate 64 0 := by
  symm
  refine accP_ext (by simp) fun j h0 h1 => ?_
  rw [accP_at h0 h1, if_neg (by omega)]
  unfold at8
  rw [List.getD_eq_getElem?_getD, List.getElem?_replicate, if_pos (by omega), Int.toNat_zero, hf, ite_self]
  rfl
theorem accP_next {f : Int → Nat → Int} (hf : ∀ i, f i 0 = 0) {n x m : Int} (hx : x = 8) (hm : m = n + 1) : accP f m 0 = accP f n x := by
  subst hx hm
  refine accP_ext accP_len fun j h0 h1 => ?_
  rw [accP_at h0 h1, accP_at h0 h1]
  by_cases h : j < n
  · rw [if_pos h, if_pos (by omega)]
  · rw [if_neg h]
    by_cases h2 : j = n
    · rw [if_pos h2, if_pos (by omega)]; rfl
    · rw [if_neg h2, if_neg (by omega), Int.toNat_zero, hf, ite_self]
theorem at8_setI {l : List Int} {n j v : Int} (h0 : 0 ≤ n) (h1 : n < l.length) (hj : 0 ≤ j) : at8 (l.set n.toNat v) j = if j = n then v else at8 l j := by
  unfold at8
  rw [List.getD_eq_getElem?_getD, List.getD_eq_getElem?_getD, List.getElem?_set]
  by_cases h : j = n
  · subst h; rw [if_pos rfl, if_pos rfl, if_pos (by omega)]; rfl
  · rw [if_neg (by omega), if_neg h]
theorem accP_step {f : Int → Nat → Int} {n x v : Int} (h0 : 0 ≤ n) (h1 : n < 64) (hx : 0 ≤ x) (hv : v = f n (x.toNat + 1)) : accP f n (x + 1) = (accP f n x).set n.toNat v := by
  symm
  refine accP_ext (by simp [accP]) fun j g0 g1 => ?_
  rw [at8_setI h0 (by rw [accP_len]; omega) g0, accP_at g0 g1, accP_at g0 g1]
  by_cases h : j = n
  · subst h
    rw [if_pos rfl, if_neg (by omega), if_pos rfl, hv]
    congr 1; omega
  · rw [if_neg h, if_neg h, if_neg h]
theorem mul_bnd {b c B C : Int} (h1 : -B ≤ b) (h2 : b ≤ B) (h3 : -C ≤ c) (h4 : c ≤ C) : -(B * C) ≤ b * c ∧ b * c ≤ B * C := by
  have hb : b.natAbs ≤ B.natAbs := by omega
  have hc : c.natAbs ≤ C.natAbs := by omega
  have h : (b * c).natAbs ≤ (B * C).natAbs := by rw [Int.natAbs_mul, Int.natAbs_mul]; exact Nat.mul_le_mul hb hc
  have hp : 0 ≤ B * C := Int.mul_nonneg (by omega) (by omega)
  omega
theorem basis_all : basisL.all (fun x => decide (-514214 ≤ x) && decide (x ≤ 514214)) = true := by decide +kernel
theorem at8_all {lo hi : Int} {l : List Int} (h : ∀ x ∈ l, lo ≤ x ∧ x ≤ hi) (h0 : lo ≤ 0) (h1 : 0 ≤ hi) (j : Int) : lo ≤ at8 l j ∧ at8 l j ≤ hi := by
  unfold at8
  rw [List.getD_eq_getElem?_getD]
  cases e : l[j.toNat]? with
  | none => exact ⟨h0, h1⟩
  | some x => exact h x (List.mem_of_getElem? e)
theorem basis_bnd (j : Int) : -514214 ≤ at8 basisL j ∧ at8 basisL j ≤ 514214 :=
  at8_all (fun x hx => by have := List.all_eq_true.1 basis_all x hx; simpa only [Bool.and_eq_true, decide_eq_true_eq] using this) (by decide) (by decide) j
theorem hsum_bnd {s : List Int} (hs : ∀ x ∈ s, 0 ≤ x ∧ x ≤ 255) (i : Int) : ∀ n : Nat, -((n : Int) * 65819392) ≤ hsum s i n ∧ hsum s i n ≤ (n : Int) * 65819392
  | 0 => by simp [hsum]
  | n + 1 => by
    have ih := hsum_bnd hs i n
    have h1 := basis_bnd (8 * (n : Int) + i % 8)
    have h2 := at8_all hs (by decide) (by decide) (8 * (i / 8) + (n : Int))
    have h3 := mul_bnd (c := at8 s (8 * (i / 8) + (n : Int)) - 128) (C := 128) h1.1 h1.2 (by omega) (by omega)
    rw [hsum]
    omega
theorem half_bnd {s : List Int} (hs : ∀ x ∈ s, 0 ≤ x ∧ x ≤ 255) : ∀ x ∈ halfL s, -526555136 ≤ x ∧ x ≤ 526555136 := by
  intro x hx
  unfold halfL accP at hx
  obtain ⟨i, hi, rfl⟩ := List.mem_map.1 hx
  have := hsum_bnd hs (i : Int) 8
  rw [if_pos (by rw [List.mem_range] at hi; omega)]
  omega
theorem csum_bnd {h : List Int} (hh : ∀ x ∈ h, -526555136 ≤ x ∧ x ≤ 526555136) (i : Int) : ∀ n : Nat, -((n : Int) * 270762022703104) ≤ csum h i n ∧ csum h i n ≤ (n : Int) * 270762022703104
  | 0 => by simp [csum]
  | n + 1 => by
    have ih := csum_bnd hh i n
    have h1 := basis_bnd (8 * (n : Int) + i / 8)
    have h2 := at8_all hh (by decide) (by decide) (8 * (n : Int) + i % 8)
    have h3 := mul_bnd h1.1 h1.2 h2.1 h2.2
    rw [csum]
    omega
theorem exP_start {s : List Int} : exP 0 s = List.replicate 64 0 := by
  unfold exP
  apply List.ext_getElem (by simp)
  intro i h1 h2
  simp only [List.getElem_map, List.getElem_range, List.getElem_replicate]
  rw [if_neg (by omega)]
theorem exP_step {k v : Int} {s : List Int} (h0 : 0 ≤ k) (h1 : k < 64) (hv : v = at8 (coefE s) (at8 unzigL k)) : exP (k + 1) s = (exP k s).set k.toNat v := by
  unfold exP
  apply List.ext_getElem (by simp)
  intro i g1 g2
  rw [List.getElem_set]
  simp only [List.getElem_map, List.getElem_range]
  by_cases h : k.toNat = i
  · rw [if_pos h, if_pos (by omega), hv, show k = (i : Int) from by omega]
  · rw [if_neg h]
    by_cases h2 : (i : Int) < k
    · rw [if_pos h2, if_pos (by omega)]
    · rw [if_neg h2, if_neg (by omega)]
end
end Go.Proofs.YtljjbikbfeigdaaGreatDoor
namespace Go.Proofs.YtljjbikbfeigdaaGreatDoor
noncomputable section
open Go
/-- A quantized coefficient is near the exact one. -/
def nearB (c q e : Int) : Bool := decide (imx (c * q * 1099511627776 - e) (0 - (c * q * 1099511627776 - e)) ≤ (q + 1) * 549755813888)
def blkNear (cols rows : Int) (pl bl q : List Int) (X across m : Nat) : Bool :=
  (List.range 64).all fun k => nearB (at8 bl (64 * ((m / X * across + m % X : Nat) : Int) + k)) (at8 q k) (at8 (exactL (padL (8 * ((m % X : Nat) : Int)) (8 * ((m / X : Nat) : Int)) cols rows pl)) k)
/-- So many blocks, X in a row of which the plane's table has 'across'. -/
def codesOk (cols rows : Int) (X Y : Int) (pl bl q : List Int) (across : Int) : Bool :=
  (List.range (X.toNat * Y.toNat)).all fun m => blkNear cols rows pl bl q X.toNat across.toNat m
/-- A picture of blocks with one value each: w blocks in a row, h rows of them. -/
def flatL (w h : Int) (vs : List Int) : List Int :=
  (List.range (64 * w.toNat * h.toNat)).map fun i => at8 vs ((i / (64 * w.toNat) * w.toNat + i % (8 * w.toNat) / 8 : Nat) : Int)
theorem codes_at {cols rows X Y across : Int} {pl bl q : List Int} (h : codesOk cols rows X Y pl bl q across = true) {m : Nat} (hm : m < X.toNat * Y.toNat) {k : Nat} (hk : k < 64) :
    nearB (at8 bl (64 * ((m / X.toNat * across.toNat + m % X.toNat : Nat) : Int) + k)) (at8 q k) (at8 (exactL (padL (8 * ((m % X.toNat : Nat) : Int)) (8 * ((m / X.toNat : Nat) : Int)) cols rows pl)) k) = true := by
  have h1 := List.all_eq_true.1 h m (List.mem_range.2 hm)
  exact List.all_eq_true.1 h1 k (List.mem_range.2 hk)
end
end Go.Proofs.YtljjbikbfeigdaaGreatDoor
namespace Go.Proofs.YtljjbikbfeigdaaGreatDoor
noncomputable section
open Go
def Z : Sig where
  fi f x y z u a b c d := match f with
    | 60 => rdiv x y
    | 61 => coef 0 a (dctF b) 0
    | 62 => coef 1 a (dctF b) 0
    | 200 => rV a x y
    | 201 => rAt a x y
    | 202 => rUs y
    | 204 => e0 (numL a x.toNat 0 y z)
    | 205 => e1 (numL a x.toNat 0 y z)
    | 206 => e2 (numL a x.toNat 0 y z)
    | 208 => sgn x (e0 (numL a x.toNat 0 y z))
    | 209 => 2 ^ x.toNat - 1
    | 220 => e0 (sym1 (cnt 0) (syms 0) a x y)
    | 230 => e1 (sym1 (cnt 0) (syms 0) a x y)
    | 240 => e2 (sym1 (cnt 0) (syms 0) a x y)
    | 260 => e0 (seqL (cnt 0) (syms 0) a x 1 y z b)
    | 264 => e1 (seqL (cnt 0) (syms 0) a x 1 y z b)
    | 221 => e0 (sym1 (cnt 1) (syms 1) a x y)
    | 231 => e1 (sym1 (cnt 1) (syms 1) a x y)
    | 241 => e2 (sym1 (cnt 1) (syms 1) a x y)
    | 261 => e0 (seqL (cnt 1) (syms 1) a x 1 y z b)
    | 265 => e1 (seqL (cnt 1) (syms 1) a x 1 y z b)
    | 222 => e0 (sym1 (cnt 2) (syms 2) a x y)
    | 232 => e1 (sym1 (cnt 2) (syms 2) a x y)
    | 242 => e2 (sym1 (cnt 2) (syms 2) a x y)
    | 262 => e0 (seqL (cnt 2) (syms 2) a x 1 y z b)
    | 266 => e1 (seqL (cnt 2) (syms 2) a x 1 y z b)
    | 223 => e0 (sym1 (cnt 3) (syms 3) a x y)
    | 233 => e1 (sym1 (cnt 3) (syms 3) a x y)
    | 243 => e2 (sym1 (cnt 3) (syms 3) a x y)
    | 263 => e0 (seqL (cnt 3) (syms 3) a x 1 y z b)
    | 267 => e1 (seqL (cnt 3) (syms 3) a x 1 y z b)
    | 270 => dcV 0 a x y
    | 272 => e1 (dcN 0 a x y)
    | 274 => e2 (dcN 0 a x y)
    | 271 => dcV 1 a x y
    | 273 => e1 (dcN 1 a x y)
    | 275 => e2 (dcN 1 a x y)
    | 290 => alAt a (alN y) x y
    | 403 => scAt a x.toNat y b
    | 420 => e0 (blkS 0 a x y z u b)
    | 422 => e1 (blkS 0 a x y z u b)
    | 421 => e0 (blkS 1 a x y z u b)
    | 423 => e1 (blkS 1 a x y z u b)
    | 431 => wdD a
    | 432 => hgD a
    | 433 => nbD a
    | 436 => nbOf x y
    | 521 => KI x.toNat y.toNat
    | 522 => CI x.toNat y.toNat
    | 523 => maxP x.toNat y.toNat
    | _ => 0
  fb f x y z u a b c d := match f with
    | 2 => allIn x y a
    | 200 => rOk a x y
    | 203 => numOk a x.toNat y z
    | 210 => symOk (cnt 0) (syms 0) a (17 - x).toNat y z u (e0 b) (e1 b)
    | 220 => sym1Ok (cnt 0) (syms 0) a x y
    | 250 => seqOk (cnt 0) (syms 0) a x y z
    | 211 => symOk (cnt 1) (syms 1) a (17 - x).toNat y z u (e0 b) (e1 b)
    | 221 => sym1Ok (cnt 1) (syms 1) a x y
    | 251 => seqOk (cnt 1) (syms 1) a x y z
    | 212 => symOk (cnt 2) (syms 2) a (17 - x).toNat y z u (e0 b) (e1 b)
    | 222 => sym1Ok (cnt 2) (syms 2) a x y
    | 252 => seqOk (cnt 2) (syms 2) a x y z
    | 213 => symOk (cnt 3) (syms 3) a (17 - x).toNat y z u (e0 b) (e1 b)
    | 223 => sym1Ok (cnt 3) (syms 3) a x y
    | 253 => seqOk (cnt 3) (syms 3) a x y z
    | 270 => dcOk 0 a x y
    | 271 => dcOk 1 a x y
    | 290 => alOk a (alN y) x y
    | 400 => scOk a x.toNat y z u (e0 c) b
    | 420 => blkOk 0 a x y z
    | 421 => blkOk 1 a x y z
    | 440 => gOk a
    | 441 => inBl a
    | 610 => codesOk x y z u a b c (e0 d)
    | _ => false
  fa f x y z u a b c d := match f with
    | 1 => pk (emF (up a).t (up a).b (up a).n)
    | 3 => pk (emit (up a) x y)
    | 10 => pk (hrle 0 (up a) x y)
    | 11 => pk (hrle 1 (up a) x y)
    | 12 => pk (hrle 2 (up a) x y)
    | 13 => pk (hrle 3 (up a) x y)
    | 20 => pk (huff 0 (up a) x)
    | 21 => pk (huff 1 (up a) x)
    | 22 => pk (huff 2 (up a) x)
    | 23 => pk (huff 3 (up a) x)
    | 40 => lutL.getD 0 []
    | 41 => lutL.getD 1 []
    | 42 => lutL.getD 2 []
    | 43 => lutL.getD 3 []
    | 44 => bitCountL
    | 45 => unzigL
    | 47 => basisL
    | 600 => accP (hsum a) x y
    | 601 => accP (csum (halfL a)) x y
    | 602 => exP x a
    | 603 => exactL a
    | 620 => flatL x y a
    | 50 => colsF x a
    | 51 => rowsF x a
    | 52 => dctF a
    | 70 => pk (blkF 0 b c (up a) x)
    | 71 => pk (blkF 1 b c (up a) x)
    | 80 => pk (acF 0 b c (up a) x y)
    | 81 => pk (acF 1 b c (up a) x y)
    | 82 => pk (zrlF 0 (up a) x)
    | 83 => pk (zrlF 1 (up a) x)
    | 90 => padL x y z u a
    | 203 => numL a x.toNat y z u
    | 210 => symL (cnt 0) (syms 0) a (17 - x).toNat y z u (e0 b) (e1 b)
    | 250 => seqL (cnt 0) (syms 0) a x y z u b
    | 268 => (seqL (cnt 0) (syms 0) a x 1 y z b).drop 2
    | 300 => cnt 0
    | 310 => syms 0
    | 211 => symL (cnt 1) (syms 1) a (17 - x).toNat y z u (e0 b) (e1 b)
    | 251 => seqL (cnt 1) (syms 1) a x y z u b
    | 269 => (seqL (cnt 1) (syms 1) a x 1 y z b).drop 2
    | 301 => cnt 1
    | 311 => syms 1
    | 212 => symL (cnt 2) (syms 2) a (17 - x).toNat y z u (e0 b) (e1 b)
    | 252 => seqL (cnt 2) (syms 2) a x y z u b
    | 270 => (seqL (cnt 2) (syms 2) a x 1 y z b).drop 2
    | 302 => cnt 2
    | 312 => syms 2
    | 213 => symL (cnt 3) (syms 3) a (17 - x).toNat y z u (e0 b) (e1 b)
    | 253 => seqL (cnt 3) (syms 3) a x y z u b
    | 271 => (seqL (cnt 3) (syms 3) a x 1 y z b).drop 2
    | 303 => cnt 3
    | 313 => syms 3
    | 400 => scL a x.toNat y z u (e0 c) b
    | 403 => scBl a x.toNat y b
    | 410 => missK x
    | 411 => qfill x.toNat b y.toNat a
    | 412 => missL x
    | 413 => seenL x.toNat y.toNat
    | 434 => cutL a 7 64
    | 435 => blD a
    | 437 => zeroN x
    | 424 => (blkS 0 a x y z u b).drop 2
    | 425 => (blkS 1 a x y z u b).drop 2
    | 46 => uqL
    | 500 => pk (sosF (e0 d) (e1 d) c b (up a))
    | 501 => pk (sosB (e0 d) (e1 d) c b (up a) z x y)
    | 510 => grayF x y z a
    | 511 => quantL x
    | 520 => lutP x.toNat y.toNat
    | _ => []
end
end Go.Proofs.YtljjbikbfeigdaaGreatDoor
