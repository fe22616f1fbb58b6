/- Part of the proof of FnGrayEdgesCardSaid: The forward transform is near the exact one. -/
import Derived.Test.YtljjbikbfeigdaaGreatDoorGe15
set_option linter.all false
namespace Go.Proofs.YtljjbikbfeigdaaGreatDoor
noncomputable section
open Go
def unit8 : List Aff := [⟨[1, 0, 0, 0, 0, 0, 0, 0], 0, 0, 0⟩, ⟨[0, 1, 0, 0, 0, 0, 0, 0], 0, 0, 0⟩, ⟨[0, 0, 1, 0, 0, 0, 0, 0], 0, 0, 0⟩, ⟨[0, 0, 0, 1, 0, 0, 0, 0], 0, 0, 0⟩, ⟨[0, 0, 0, 0, 1, 0, 0, 0], 0, 0, 0⟩, ⟨[0, 0, 0, 0, 0, 1, 0, 0], 0, 0, 0⟩, ⟨[0, 0, 0, 0, 0, 0, 1, 0], 0, 0, 0⟩, ⟨[0, 0, 0, 0, 0, 0, 0, 1], 0, 0, 0⟩]
def colA : List Aff := (absRuns 0 255 colsP unit8).getD []
/-- Which register holds the k-th number at the end. -/
def perm8 : List Nat := [0, 7, 2, 5, 1, 6, 3, 4]
def pm (k : Nat) : Nat := perm8.getD k 0
def yhi (v : Nat) : Int := (mxd 0 255 (regA colA (pm v)).c + (regA colA (pm v)).hi) / 2 ^ (regA colA (pm v)).s
def ylo (v : Nat) : Int := -(-(mnd 0 255 (regA colA (pm v)).c + (regA colA (pm v)).lo) / 2 ^ (regA colA (pm v)).s)
def rowA (v : Nat) : List Aff := (absRuns (ylo v) (yhi v) rowsP unit8).getD []
/-- The columns of the exact transform: 2^20 C(u)/2 cos. -/
def basC : List (List Int) := [[370728, 370728, 370728, 370728, 370728, 370728, 370728, 370728], [514214, 435930, 291279, 102284, -102284, -291279, -435930, -514214], [484379, 200636, -200636, -484379, -484379, -200636, 200636, 484379], [435930, -102284, -514214, -291279, 291279, 514214, 102284, -435930], [370728, -370728, -370728, 370728, 370728, -370728, -370728, 370728], [291279, -514214, 102284, 435930, -435930, -102284, 514214, -291279], [200636, -484379, 484379, -200636, -200636, 484379, -484379, 200636], [102284, -291279, 435930, -514214, 514214, -435930, 291279, -102284]]
def bas (u : Nat) : List Int := basC.getD u []
def sumL : List Int → Int
  | [] => 0
  | a :: l => a + sumL l
/-- The greatest, the least value of k1 * dot2 B A - k2 * dot2 E F. -/
def up2 (k1 k2 : Int) (A F : List Int) : List Int → List Int → Int
  | b :: B, e :: E => mxd 0 255 (addL (sclL (k1 * b) A) (sclL (-(k2 * e)) F)) + up2 k1 k2 A F B E
  | _, _ => 0
def dn2 (k1 k2 : Int) (A F : List Int) : List Int → List Int → Int
  | b :: B, e :: E => mnd 0 255 (addL (sclL (k1 * b) A) (sclL (-(k2 * e)) F)) + dn2 k1 k2 A F B E
  | _, _ => 0
/-- k1 times the form less k2 times the exact one, at most; at least. -/
def distU (k1 k2 : Int) (u v : Nat) : Int :=
  let B := regA (rowA v) (pm u)
  let A := regA colA (pm v)
  up2 k1 k2 A.c (bas v) B.c (bas u) + k1 * (mxd A.lo A.hi B.c + B.hi * 2 ^ A.s) + k2 * 128 * sumL (bas u) * sumL (bas v)
def distD (k1 k2 : Int) (u v : Nat) : Int :=
  let B := regA (rowA v) (pm u)
  let A := regA colA (pm v)
  dn2 k1 k2 A.c (bas v) B.c (bas u) + k1 * (mnd A.lo A.hi B.c + B.lo * 2 ^ A.s) + k2 * 128 * sumL (bas u) * sumL (bas v)
def scl (u v : Nat) : Int := 2 ^ ((regA (rowA v) (pm u)).s + (regA colA (pm v)).s)
def okUV (u v : Nat) : Bool :=
  decide ((regA (rowA v) (pm u)).c.length = 8) && decide ((regA colA (pm v)).c.length = 8) &&
  decide (distU (2 ^ 37) (scl u v) u v ≤ 2 ^ 39 * scl u v) && decide (-(2 ^ 39) * scl u v ≤ distD (2 ^ 37) (scl u v) u v) &&
  decide (distU 1 0 u v < 8188 * scl u v) && decide (-(if u = 0 ∧ v = 0 then 8196 else 8188) * scl u v < distD 1 0 u v)
def okAll : Bool := (absRuns 0 255 colsP unit8).isSome && (List.range 8).all fun v => (absRuns (ylo v) (yhi v) rowsP unit8).isSome && (List.range 8).all fun u => okUV u v
theorem okAll_is : okAll = true := by decide +kernel
def dot2 : List Int → List Int → List (List Int) → Int
  | b :: B, A, x :: X => b * dot A x + dot2 B A X
  | _, _, _ => 0
def AllIs (a : Aff) : List (List Int) → List Int → Prop
  | [], [] => True
  | x :: X, y :: Y => a.Is x y ∧ AllIs a X Y
  | _, _ => False
theorem lin2 {a : Aff} : ∀ {X : List (List Int)} {Y : List Int}, AllIs a X Y → ∃ fs : List Int, fs.length = Y.length ∧ (∀ f ∈ fs, a.lo ≤ f ∧ f ≤ a.hi) ∧ ∀ B : List Int, dot B Y * 2 ^ a.s = dot2 B a.c X + dot B fs
  | [], [], _ => ⟨[], rfl, fun _ h => by simp at h, fun B => by cases B <;> simp [dot, dot2]⟩
  | [], _ :: _, h => h.elim
  | _ :: _, [], h => h.elim
  | x :: X, y :: Y, h => by
    obtain ⟨⟨e, h1, h2, h3⟩, h⟩ := h
    obtain ⟨fs, g1, g2, g3⟩ := lin2 h
    refine ⟨e :: fs, by simp [g1], fun f hf => ?_, fun B => ?_⟩
    · rcases List.mem_cons.1 hf with rfl | hf
      · exact ⟨h1, h2⟩
      · exact g2 f hf
    · cases B with
      | nil => simp [dot, dot2]
      | cons b B =>
        simp only [dot, dot2]
        have e1 : b * y * 2 ^ a.s = b * dot a.c x + b * e := by rw [Int.mul_assoc, h3, Int.mul_add]
        rw [Int.add_mul, e1, g3]; omega
theorem length_addL : ∀ (l m : List Int), (addL l m).length = max l.length m.length
  | [], m => by simp [addL]
  | a :: l, [] => by simp [addL]
  | a :: l, b :: m => by simp only [addL, List.length_cons]; rw [length_addL l m]; omega
theorem length_sclL (k : Int) : ∀ (l : List Int), (sclL k l).length = l.length
  | [] => rfl
  | a :: l => by simp only [sclL, List.length_cons]; rw [length_sclL k l]
theorem bnd2 {k1 k2 : Int} {A F : List Int} (hA : A.length = 8) (hF : F.length = 8) : ∀ {B E : List Int} {X : List (List Int)}, B.length = X.length → E.length = X.length → (∀ x ∈ X, x.length = 8 ∧ ∀ y ∈ x, 0 ≤ y ∧ y ≤ 255) →
    dn2 k1 k2 A F B E ≤ k1 * dot2 B A X - k2 * dot2 E F X ∧ k1 * dot2 B A X - k2 * dot2 E F X ≤ up2 k1 k2 A F B E
  | [], [], [], _, _, _ => by simp [dot2, up2, dn2]
  | _ :: _, _, [], h, _, _ => by simp at h
  | _, _ :: _, [], _, h, _ => by simp at h
  | [], _, _ :: _, h, _, _ => by simp at h
  | _, [], _ :: _, _, h, _ => by simp at h
  | b :: B, e :: E, x :: X, h1, h2, h3 => by
    obtain ⟨i1, i2⟩ := bnd2 (k1 := k1) (k2 := k2) hA hF (B := B) (E := E) (X := X) (by simpa using h1) (by simpa using h2) (fun y hy => h3 y (List.mem_cons_of_mem _ hy))
    obtain ⟨hx1, hx2⟩ := h3 x List.mem_cons_self
    have hd := dot_mxd (c := addL (sclL (k1 * b) A) (sclL (-(k2 * e)) F)) (x := x) (by rw [length_addL, length_sclL, length_sclL]; omega) hx2
    rw [dot_addL, dot_sclL, dot_sclL] at hd
    simp only [dot2, up2, dn2]
    have e1 : k1 * (b * dot A x + dot2 B A X) = k1 * b * dot A x + k1 * dot2 B A X := by rw [Int.mul_add, Int.mul_assoc]
    have e2 : k2 * (e * dot F x + dot2 E F X) = k2 * e * dot F x + k2 * dot2 E F X := by rw [Int.mul_add, Int.mul_assoc]
    have e3 : -(k2 * e) * dot F x = -(k2 * e * dot F x) := by rw [Int.neg_mul]
    rw [e1, e2]; omega
/-- The i-th column. -/
def colL (i : Int) (a : List Int) : List Int := [at8 a i, at8 a (8 + i), at8 a (16 + i), at8 a (24 + i), at8 a (32 + i), at8 a (40 + i), at8 a (48 + i), at8 a (56 + i)]
def colsL (a : List Int) : List (List Int) := [colL 0 a, colL 1 a, colL 2 a, colL 3 a, colL 4 a, colL 5 a, colL 6 a, colL 7 a]
/-- The exact coefficient, 2^40 times. -/
def exact (u v : Nat) (a : List Int) : Int := dot2 (bas u) (bas v) (colsL a) - 128 * sumL (bas u) * sumL (bas v)
theorem unit_is (x0 x1 x2 x3 x4 x5 x6 x7 : Int) : Regs [x0, x1, x2, x3, x4, x5, x6, x7] unit8 (eight x0 x1 x2 x3 x4 x5 x6 x7) := by
  refine ⟨rfl, fun n hn => ?_⟩
  match n, hn with
  | 0, _ | 1, _ | 2, _ | 3, _ | 4, _ | 5, _ | 6, _ | 7, _ => exact ⟨0, Int.le_refl _, Int.le_refl _, by simp [regA, unit8, dot, eight]⟩
theorem run_is {xl xh : Int} {p : List Ins} (hp : p.all Ins.ok = true) (hs : (absRuns xl xh p unit8).isSome = true) {x0 x1 x2 x3 x4 x5 x6 x7 : Int} (hx : ∀ y ∈ [x0, x1, x2, x3, x4, x5, x6, x7], xl ≤ y ∧ y ≤ xh) {n : Nat} (hn : n < 8) :
    (regA ((absRuns xl xh p unit8).getD []) n).Is [x0, x1, x2, x3, x4, x5, x6, x7] (runs p (eight x0 x1 x2 x3 x4 x5 x6 x7) n) := by
  obtain ⟨l, hl⟩ := Option.isSome_iff_exists.1 hs
  rw [hl]
  exact (runs_is (x := [x0, x1, x2, x3, x4, x5, x6, x7]) rfl hx hp (unit_is x0 x1 x2 x3 x4 x5 x6 x7) hl).2 n hn
theorem pm_lt {k : Nat} (h : k < 8) : pm k < 8 := by
  match k, h with
  | 0, _ | 1, _ | 2, _ | 3, _ | 4, _ | 5, _ | 6, _ | 7, _ => decide
theorem okAll_parts : (absRuns 0 255 colsP unit8).isSome = true ∧ ∀ v, v < 8 → (absRuns (ylo v) (yhi v) rowsP unit8).isSome = true ∧ ∀ u, u < 8 → okUV u v = true := by
  have h := okAll_is
  unfold okAll at h
  simp only [Bool.and_eq_true, List.all_eq_true, List.mem_range] at h
  exact h
theorem at8_in {lo hi : Int} {a : List Int} {n : Int} (h0 : lo ≤ 0) (h1 : 0 ≤ hi) (h : ∀ y ∈ a, lo ≤ y ∧ y ≤ hi) : lo ≤ at8 a n ∧ at8 a n ≤ hi := by
  unfold at8
  rw [List.getD_eq_getElem?_getD]
  cases hi : a[n.toNat]? with
  | none => simp; omega
  | some x => exact h x (List.mem_of_getElem? hi)
section
variable {a : List Int} (ha : ∀ y ∈ a, 0 ≤ y ∧ y ≤ 255)
include ha
theorem colL_in (i : Int) : ∀ y ∈ colL i a, 0 ≤ y ∧ y ≤ 255 := by
  intro y hy
  simp only [colL, List.mem_cons, List.not_mem_nil, or_false] at hy
  rcases hy with rfl | rfl | rfl | rfl | rfl | rfl | rfl | rfl <;> exact at8_in (by omega) (by omega) ha
theorem col_is (i : Int) {n : Nat} (hn : n < 8) : (regA colA n).Is (colL i a) (colOf i a n) :=
  run_is (by decide) okAll_parts.1 (colL_in ha i) hn
theorem col_rng (i : Int) {v : Nat} (hv : v < 8) : ylo v ≤ colOf i a (pm v) ∧ colOf i a (pm v) ≤ yhi v := by
  have hlen : (regA colA (pm v)).c.length = 8 := by
    have := (okAll_parts.2 v hv).2 0 (by omega)
    unfold okUV at this
    simp only [Bool.and_eq_true, decide_eq_true_eq] at this
    exact this.1.1.1.1.2
  obtain ⟨e, h1, h2, h3⟩ := col_is ha i (pm_lt hv)
  have hd := dot_mxd (c := (regA colA (pm v)).c) (x := colL i a) (by rw [hlen]; exact Nat.le_refl _) (colL_in ha i)
  have hp := p2 (regA colA (pm v)).s
  unfold ylo yhi
  constructor
  · have : -(colOf i a (pm v)) ≤ -(mnd 0 255 (regA colA (pm v)).c + (regA colA (pm v)).lo) / 2 ^ (regA colA (pm v)).s := by
      rw [Int.le_ediv_iff_mul_le hp, Int.neg_mul, h3]; omega
    omega
  · rw [Int.le_ediv_iff_mul_le hp, h3]; omega
theorem dist_is {k1 k2 : Int} (hk : 0 ≤ k1) {u v : Nat} (hu : u < 8) (hv : v < 8) :
    distD k1 k2 u v ≤ k1 * (runs rowsP (eight (colOf 0 a (pm v)) (colOf 1 a (pm v)) (colOf 2 a (pm v)) (colOf 3 a (pm v)) (colOf 4 a (pm v)) (colOf 5 a (pm v)) (colOf 6 a (pm v)) (colOf 7 a (pm v))) (pm u) * scl u v) - k2 * exact u v a ∧
    k1 * (runs rowsP (eight (colOf 0 a (pm v)) (colOf 1 a (pm v)) (colOf 2 a (pm v)) (colOf 3 a (pm v)) (colOf 4 a (pm v)) (colOf 5 a (pm v)) (colOf 6 a (pm v)) (colOf 7 a (pm v))) (pm u) * scl u v) - k2 * exact u v a ≤ distU k1 k2 u v := by
  obtain ⟨hr, hok⟩ := okAll_parts.2 v hv
  have hok := hok u hu
  unfold okUV at hok
  simp only [Bool.and_eq_true, decide_eq_true_eq] at hok
  obtain ⟨⟨⟨⟨⟨hB, hA⟩, _⟩, _⟩, _⟩, _⟩ := hok
  have hy : ∀ y ∈ [colOf 0 a (pm v), colOf 1 a (pm v), colOf 2 a (pm v), colOf 3 a (pm v), colOf 4 a (pm v), colOf 5 a (pm v), colOf 6 a (pm v), colOf 7 a (pm v)], ylo v ≤ y ∧ y ≤ yhi v := by
    intro y hy
    simp only [List.mem_cons, List.not_mem_nil, or_false] at hy
    rcases hy with rfl | rfl | rfl | rfl | rfl | rfl | rfl | rfl <;> exact col_rng ha _ hv
  obtain ⟨e, e1, e2, e3⟩ := run_is (p := rowsP) (by decide) hr hy (pm_lt hu)
  have hall : AllIs (regA colA (pm v)) (colsL a) [colOf 0 a (pm v), colOf 1 a (pm v), colOf 2 a (pm v), colOf 3 a (pm v), colOf 4 a (pm v), colOf 5 a (pm v), colOf 6 a (pm v), colOf 7 a (pm v)] := by
    refine ⟨?_, ?_, ?_, ?_, ?_, ?_, ?_, ?_, trivial⟩ <;> exact col_is ha _ (pm_lt hv)
  obtain ⟨fs, f1, f2, f3⟩ := lin2 hall
  change runs rowsP _ (pm u) * 2 ^ (regA (rowA v) (pm u)).s = dot (regA (rowA v) (pm u)).c _ + e at e3
  change (regA (rowA v) (pm u)).lo ≤ e at e1
  change e ≤ (regA (rowA v) (pm u)).hi at e2
  have hlin := f3 (regA (rowA v) (pm u)).c
  have hf := dot_mxd (c := (regA (rowA v) (pm u)).c) (x := fs) (by rw [hB, f1]; exact Nat.le_refl _) f2
  have hbas : ∀ u, u < 8 → (bas u).length = 8 := by
    intro u hu
    match u, hu with
    | 0, _ | 1, _ | 2, _ | 3, _ | 4, _ | 5, _ | 6, _ | 7, _ => decide
  have hX : ∀ x ∈ colsL a, x.length = 8 ∧ ∀ y ∈ x, 0 ≤ y ∧ y ≤ 255 := by
    intro x hx
    simp only [colsL, List.mem_cons, List.not_mem_nil, or_false] at hx
    rcases hx with rfl | rfl | rfl | rfl | rfl | rfl | rfl | rfl <;> exact ⟨rfl, colL_in ha _⟩
  have hb := bnd2 (k1 := k1) (k2 := k2) hA (hbas v hv) (B := (regA (rowA v) (pm u)).c) (E := bas u) (X := colsL a) (by rw [hB]; rfl) (by rw [hbas u hu]; rfl) hX
  have hp := p2 (regA colA (pm v)).s
  generalize runs rowsP (eight (colOf 0 a (pm v)) (colOf 1 a (pm v)) (colOf 2 a (pm v)) (colOf 3 a (pm v)) (colOf 4 a (pm v)) (colOf 5 a (pm v)) (colOf 6 a (pm v)) (colOf 7 a (pm v))) (pm u) = z at *
  have hz : z * scl u v = dot2 (regA (rowA v) (pm u)).c (regA colA (pm v)).c (colsL a) + (dot (regA (rowA v) (pm u)).c fs + e * 2 ^ (regA colA (pm v)).s) := by
    unfold scl
    rw [Int.pow_add, ← Int.mul_assoc, e3, Int.add_mul, hlin]; omega
  rw [hz]
  unfold exact distU distD
  have g1 : e * 2 ^ (regA colA (pm v)).s ≤ (regA (rowA v) (pm u)).hi * 2 ^ (regA colA (pm v)).s := Int.mul_le_mul_of_nonneg_right e2 (by omega)
  have g2 : (regA (rowA v) (pm u)).lo * 2 ^ (regA colA (pm v)).s ≤ e * 2 ^ (regA colA (pm v)).s := Int.mul_le_mul_of_nonneg_right e1 (by omega)
  have g3 := Int.mul_le_mul_of_nonneg_left (Int.add_le_add hf.2 g1) hk
  have g4 := Int.mul_le_mul_of_nonneg_left (Int.add_le_add hf.1 g2) hk
  have g5 : k2 * (dot2 (bas u) (bas v) (colsL a) - 128 * sumL (bas u) * sumL (bas v)) = k2 * dot2 (bas u) (bas v) (colsL a) - k2 * 128 * sumL (bas u) * sumL (bas v) := by
    rw [Int.mul_sub]; simp only [Int.mul_assoc]
  rw [g5, Int.mul_add]
  constructor <;> (simp only; omega)
end
end
end Go.Proofs.YtljjbikbfeigdaaGreatDoor
