/- Part of the proof of FnGrayCoefficientsCardSaid: The forward transform, element by element; its distance from the exact one; the quantized coefficients' bounds. -/
import Derived.Test.YtljjbikbfeigdaaGreatDoorGc16
set_option linter.all false
namespace Go.Proofs.YtljjbikbfeigdaaGreatDoor
noncomputable section
open Go
theorem ite_no {c : Prop} [Decidable c] {x y z : Int} (h : ¬ c) (h2 : y = z) : (if c then x else y) = z := by rw [if_neg h]; exact h2
theorem ite_yes {c : Prop} [Decidable c] {x y z : Int} (h : c) (h2 : x = z) : (if c then x else y) = z := by rw [if_pos h]; exact h2
theorem at8_set {l : List Int} {m n x : Int} (h1 : 0 ≤ m) (h2 : m < 64) (h3 : 0 ≤ n) (hl : l.length = 64) : at8 (l.set m.toNat x) n = if n = m then x else at8 l n := by
  unfold at8
  rw [List.getD_eq_getElem?_getD, List.getD_eq_getElem?_getD]
  split
  · rename_i e; subst e
    rw [List.getElem?_set_self (by omega)]; rfl
  · rw [List.getElem?_set_ne (by omega)]
theorem colStep_len {i : Int} {a : List Int} : (colStep i a).length = a.length := by simp [colStep]
theorem rowStep_len {i : Int} {a : List Int} : (rowStep i a).length = a.length := by simp [rowStep]
theorem colStep_get {a : List Int} (hl : a.length = 64) {i j : Int} (h1 : 0 ≤ i) (h2 : i < 8) (h3 : 0 ≤ j) (h4 : j < 8) {v : Nat} (hv : v < 8) :
    at8 (colStep i a) (8 * (v : Int) + j) = if j = i then colOf i a (pm v) else at8 a (8 * (v : Int) + j) := by
  unfold colStep
  rw [at8_set (by omega) (by omega) (by omega) (by simp [hl]), at8_set (by omega) (by omega) (by omega) (by simp [hl]), at8_set (by omega) (by omega) (by omega) (by simp [hl]), at8_set (by omega) (by omega) (by omega) (by simp [hl]), at8_set (by omega) (by omega) (by omega) (by simp [hl]), at8_set (by omega) (by omega) (by omega) (by simp [hl]), at8_set (by omega) (by omega) (by omega) (by simp [hl]), at8_set (by omega) (by omega) (by omega) hl]
  generalize colOf i a = f
  generalize at8 a = g
  by_cases hj : j = i
  · rw [if_pos hj]
    match v, hv with
    | 0, _ | 1, _ | 2, _ | 3, _ | 4, _ | 5, _ | 6, _ | 7, _ => repeat (first | exact ite_yes (by omega) rfl | refine ite_no (by omega) ?_ | rfl)
  · rw [if_neg hj]
    match v, hv with
    | 0, _ | 1, _ | 2, _ | 3, _ | 4, _ | 5, _ | 6, _ | 7, _ => repeat (first | exact ite_yes (by omega) rfl | refine ite_no (by omega) ?_ | rfl)
theorem rowStep_get {a : List Int} (hl : a.length = 64) {i v : Int} (h1 : 0 ≤ i) (h2 : i < 8) (h3 : 0 ≤ v) (h4 : v < 8) {u : Nat} (hu : u < 8) :
    at8 (rowStep i a) (8 * v + (u : Int)) = if v = i then rowOf i a (pm u) else at8 a (8 * v + (u : Int)) := by
  unfold rowStep
  rw [at8_set (by omega) (by omega) (by omega) (by simp [hl]), at8_set (by omega) (by omega) (by omega) (by simp [hl]), at8_set (by omega) (by omega) (by omega) (by simp [hl]), at8_set (by omega) (by omega) (by omega) (by simp [hl]), at8_set (by omega) (by omega) (by omega) (by simp [hl]), at8_set (by omega) (by omega) (by omega) (by simp [hl]), at8_set (by omega) (by omega) (by omega) (by simp [hl]), at8_set (by omega) (by omega) (by omega) hl]
  generalize rowOf i a = f
  generalize at8 a = g
  by_cases hj : v = i
  · rw [if_pos hj]
    match u, hu with
    | 0, _ | 1, _ | 2, _ | 3, _ | 4, _ | 5, _ | 6, _ | 7, _ => repeat (first | exact ite_yes (by omega) rfl | refine ite_no (by omega) ?_ | rfl)
  · rw [if_neg hj]
    match u, hu with
    | 0, _ | 1, _ | 2, _ | 3, _ | 4, _ | 5, _ | 6, _ | 7, _ => repeat (first | exact ite_yes (by omega) rfl | refine ite_no (by omega) ?_ | rfl)
theorem colOf_congr {i : Int} {a b : List Int} (h : ∀ v : Nat, v < 8 → at8 a (8 * (v : Int) + i) = at8 b (8 * (v : Int) + i)) : colOf i a = colOf i b := by
  have e0 : at8 a i = at8 b i := by simpa using h 0 (by omega)
  have e1 : at8 a (8 + i) = at8 b (8 + i) := h 1 (by omega)
  have e2 : at8 a (16 + i) = at8 b (16 + i) := h 2 (by omega)
  have e3 : at8 a (24 + i) = at8 b (24 + i) := h 3 (by omega)
  have e4 : at8 a (32 + i) = at8 b (32 + i) := h 4 (by omega)
  have e5 : at8 a (40 + i) = at8 b (40 + i) := h 5 (by omega)
  have e6 : at8 a (48 + i) = at8 b (48 + i) := h 6 (by omega)
  have e7 : at8 a (56 + i) = at8 b (56 + i) := h 7 (by omega)
  unfold colOf
  rw [e0, e1, e2, e3, e4, e5, e6, e7]
theorem rowOf_congr {i : Int} {a b : List Int} (h : ∀ u : Nat, u < 8 → at8 a (8 * i + (u : Int)) = at8 b (8 * i + (u : Int))) : rowOf i a = rowOf i b := by
  have e0 : at8 a (8 * i) = at8 b (8 * i) := by simpa using h 0 (by omega)
  have e1 : at8 a (1 + 8 * i) = at8 b (1 + 8 * i) := by
    have := h 1 (by omega)
    rw [Int.add_comm] at this
    exact this
  have e2 : at8 a (2 + 8 * i) = at8 b (2 + 8 * i) := by
    have := h 2 (by omega)
    rw [Int.add_comm] at this
    exact this
  have e3 : at8 a (3 + 8 * i) = at8 b (3 + 8 * i) := by
    have := h 3 (by omega)
    rw [Int.add_comm] at this
    exact this
  have e4 : at8 a (4 + 8 * i) = at8 b (4 + 8 * i) := by
    have := h 4 (by omega)
    rw [Int.add_comm] at this
    exact this
  have e5 : at8 a (5 + 8 * i) = at8 b (5 + 8 * i) := by
    have := h 5 (by omega)
    rw [Int.add_comm] at this
    exact this
  have e6 : at8 a (6 + 8 * i) = at8 b (6 + 8 * i) := by
    have := h 6 (by omega)
    rw [Int.add_comm] at this
    exact this
  have e7 : at8 a (7 + 8 * i) = at8 b (7 + 8 * i) := by
    have := h 7 (by omega)
    rw [Int.add_comm] at this
    exact this
  unfold rowOf
  rw [e0, e1, e2, e3, e4, e5, e6, e7]
theorem colsF_get (m : Nat) : ∀ {i j : Int} {a : List Int}, a.length = 64 → i = 8 - (m : Int) → 0 ≤ i → 0 ≤ j → j < 8 → ∀ {v : Nat}, v < 8 →
    at8 (colsF i a) (8 * (v : Int) + j) = if i ≤ j then colOf j a (pm v) else at8 a (8 * (v : Int) + j) := by
  induction m with
  | zero =>
    intro i j a hl hi h0 h1 h2 v hv
    rw [colsF_end (by omega), if_neg (by omega)]
  | succ m ih =>
    intro i j a hl hi h0 h1 h2 v hv
    rw [colsF_step (by omega), ih (by rw [colStep_len, hl]) (by omega) (by omega) h1 h2 hv]
    by_cases hj : i + 1 ≤ j
    · rw [if_pos hj, if_pos (by omega)]
      rw [colOf_congr (b := a)]
      intro w hw
      rw [colStep_get hl h0 (by omega) h1 h2 hw, if_neg (by omega)]
    · rw [if_neg hj, colStep_get hl h0 (by omega) h1 h2 hv]
      by_cases e : j = i
      · subst e; rw [if_pos rfl, if_pos (Int.le_refl _)]
      · rw [if_neg e, if_neg (by omega)]
theorem rowsF_get (m : Nat) : ∀ {i v : Int} {a : List Int}, a.length = 64 → i = 8 - (m : Int) → 0 ≤ i → 0 ≤ v → v < 8 → ∀ {u : Nat}, u < 8 →
    at8 (rowsF i a) (8 * v + (u : Int)) = if i ≤ v then rowOf v a (pm u) else at8 a (8 * v + (u : Int)) := by
  induction m with
  | zero =>
    intro i v a hl hi h0 h1 h2 u hu
    rw [rowsF_end (by omega), if_neg (by omega)]
  | succ m ih =>
    intro i v a hl hi h0 h1 h2 u hu
    rw [rowsF_step (by omega), ih (by rw [rowStep_len, hl]) (by omega) (by omega) h1 h2 hu]
    by_cases hj : i + 1 ≤ v
    · rw [if_pos hj, if_pos (by omega)]
      rw [rowOf_congr (b := a)]
      intro w hw
      rw [rowStep_get hl h0 (by omega) h1 h2 hw, if_neg (by omega)]
    · rw [if_neg hj, rowStep_get hl h0 (by omega) h1 h2 hu]
      by_cases e : v = i
      · subst e; rw [if_pos rfl, if_pos (Int.le_refl _)]
      · rw [if_neg e, if_neg (by omega)]
theorem colsF_len (m : Nat) : ∀ {i : Int} {a : List Int}, i = 8 - (m : Int) → (colsF i a).length = a.length := by
  induction m with
  | zero => intro i a hi; rw [colsF_end (by omega)]
  | succ m ih => intro i a hi; rw [colsF_step (by omega), ih (by omega), colStep_len]
theorem dct_get {a : List Int} (hl : a.length = 64) {u v : Nat} (hu : u < 8) (hv : v < 8) : at8 (dctF a) (8 * (v : Int) + (u : Int)) =
    runs rowsP (eight (colOf 0 a (pm v)) (colOf 1 a (pm v)) (colOf 2 a (pm v)) (colOf 3 a (pm v)) (colOf 4 a (pm v)) (colOf 5 a (pm v)) (colOf 6 a (pm v)) (colOf 7 a (pm v))) (pm u) := by
  unfold dctF
  rw [rowsF_get 8 (by rw [colsF_len 8 (by omega), hl]) (by omega) (by omega) (by omega) (by omega) hu, if_pos (by omega)]
  unfold rowOf
  have g : ∀ j : Int, 0 ≤ j → j < 8 → at8 (colsF 0 a) (j + 8 * (v : Int)) = colOf j a (pm v) := by
    intro j h1 h2
    rw [Int.add_comm, colsF_get 8 hl (by omega) (by omega) h1 h2 hv, if_pos h1]
  rw [g 1 (by omega) (by omega), g 2 (by omega) (by omega), g 3 (by omega) (by omega), g 4 (by omega) (by omega), g 5 (by omega) (by omega), g 6 (by omega) (by omega), g 7 (by omega) (by omega)]
  have g0 := g 0 (by omega) (by omega)
  rw [Int.zero_add] at g0
  rw [g0]
/-- The transform is within one half of a coefficient of the exact one; its bounds. -/
theorem dct_near {a : List Int} (hl : a.length = 64) (ha : ∀ y ∈ a, 0 ≤ y ∧ y ≤ 255) {u v : Nat} (hu : u < 8) (hv : v < 8) :
    -(2 ^ 39) ≤ 2 ^ 37 * at8 (dctF a) (8 * (v : Int) + (u : Int)) - exact u v a ∧ 2 ^ 37 * at8 (dctF a) (8 * (v : Int) + (u : Int)) - exact u v a ≤ 2 ^ 39 ∧
    at8 (dctF a) (8 * (v : Int) + (u : Int)) ≤ 8187 ∧ -(if u = 0 ∧ v = 0 then 8195 else 8187) ≤ at8 (dctF a) (8 * (v : Int) + (u : Int)) := by
  rw [dct_get hl hu hv]
  obtain ⟨_, hok⟩ := okAll_parts.2 v hv
  have hok := hok u hu
  unfold okUV at hok
  simp only [Bool.and_eq_true, decide_eq_true_eq] at hok
  obtain ⟨⟨⟨⟨_, c1⟩, c2⟩, c3⟩, c4⟩ := hok
  have d1 := dist_is ha (k1 := 2 ^ 37) (k2 := scl u v) (by decide) hu hv
  have d2 := dist_is ha (k1 := 1) (k2 := 0) (by decide) hu hv
  generalize runs rowsP (eight (colOf 0 a (pm v)) (colOf 1 a (pm v)) (colOf 2 a (pm v)) (colOf 3 a (pm v)) (colOf 4 a (pm v)) (colOf 5 a (pm v)) (colOf 6 a (pm v)) (colOf 7 a (pm v))) (pm u) = z at *
  have hp : 0 < scl u v := p2 _
  generalize scl u v = p at *
  have e1 : (2 : Int) ^ 37 * (z * p) - p * exact u v a = (2 ^ 37 * z - exact u v a) * p := by
    rw [Int.sub_mul, Int.mul_assoc, Int.mul_comm p]
  rw [e1] at d1
  refine ⟨?_, ?_, ?_, ?_⟩
  · apply Int.le_of_mul_le_mul_right (a := p) _ hp; omega
  · apply Int.le_of_mul_le_mul_right (a := p) _ hp; omega
  · have : z < 8188 := by
      apply Int.lt_of_mul_lt_mul_right (a := p) _ (by omega); omega
    omega
  · have : -(if u = 0 ∧ v = 0 then 8196 else 8188) < z := by
      apply Int.lt_of_mul_lt_mul_right (a := p) _ (by omega); omega
    split at this <;> rename_i hh
    · rw [if_pos hh]; omega
    · rw [if_neg hh]; omega
end
end Go.Proofs.YtljjbikbfeigdaaGreatDoor
