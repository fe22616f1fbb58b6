/- Part of the proof of FnGrayEdgesCardSaid: The encoder's coefficients are what the specification's checker asks for. -/
import Derived.Test.YtljjbikbfeigdaaGreatDoorGe40
set_option linter.all false
namespace Go.Proofs.YtljjbikbfeigdaaGreatDoor
noncomputable section
open Go
def sum8 (f : Int → Int) : Int := f 0 + f 1 + f 2 + f 3 + f 4 + f 5 + f 6 + f 7
theorem sum8_comm (f : Int → Int → Int) : sum8 (fun y => sum8 fun x => f x y) = sum8 fun x => sum8 fun y => f x y := by
  simp only [sum8]; omega
theorem sum8_mul (c : Int) (f : Int → Int) : c * sum8 f = sum8 fun x => c * f x := by
  simp only [sum8, Int.mul_add]
theorem sum8_sub (f g : Int → Int) : sum8 (fun x => f x - g x) = sum8 f - sum8 g := by
  simp only [sum8]; omega
theorem sum8_congr {f g : Int → Int} (h : ∀ x, f x = g x) : sum8 f = sum8 g := by
  have : f = g := funext h
  rw [this]
theorem sum8_on {f g : Int → Int} (h : ∀ x : Int, 0 ≤ x → x < 8 → f x = g x) : sum8 f = sum8 g := by
  unfold sum8
  rw [h 0 (by decide) (by decide), h 1 (by decide) (by decide), h 2 (by decide) (by decide), h 3 (by decide) (by decide), h 4 (by decide) (by decide), h 5 (by decide) (by decide), h 6 (by decide) (by decide), h 7 (by decide) (by decide)]
theorem dct_sum (U V : Int → Int) (s : Int → Int → Int) : sum8 (fun y => V y * sum8 fun x => U x * (s x y - 128)) = sum8 (fun x => U x * sum8 fun y => V y * s x y) - 128 * sum8 U * sum8 V := by
  have e1 : sum8 (fun y => V y * sum8 fun x => U x * (s x y - 128)) = sum8 (fun y => sum8 fun x => U x * (V y * s x y)) - sum8 (fun y => sum8 fun x => 128 * U x * V y) := by
    rw [← sum8_sub]
    refine sum8_congr fun y => ?_
    rw [sum8_mul, ← sum8_sub]
    refine sum8_congr fun x => ?_
    rw [Int.mul_sub, Int.mul_sub, Int.mul_left_comm (V y) (U x) (s x y)]
    congr 1
    rw [Int.mul_comm (V y), Int.mul_comm (U x)]
  have e2 : sum8 (fun y => sum8 fun x => 128 * U x * V y) = 128 * sum8 U * sum8 V := by
    rw [sum8_mul (128 * sum8 U)]
    refine sum8_congr fun y => ?_
    rw [Int.mul_assoc, Int.mul_comm (sum8 U) (V y), ← Int.mul_assoc, sum8_mul]
    refine sum8_congr fun x => ?_
    rw [Int.mul_assoc, Int.mul_comm (U x), ← Int.mul_assoc]
  rw [e1, e2, sum8_comm]
  congr 1
  refine sum8_congr fun x => ?_
  rw [sum8_mul]
theorem bas_all : ∀ u : Nat, u < 8 → bas u = [at8 basisL (8 * 0 + u), at8 basisL (8 * 1 + u), at8 basisL (8 * 2 + u), at8 basisL (8 * 3 + u), at8 basisL (8 * 4 + u), at8 basisL (8 * 5 + u), at8 basisL (8 * 6 + u), at8 basisL (8 * 7 + u)] := by decide +kernel
theorem exact_sum {u v : Nat} (hu : u < 8) (hv : v < 8) (s : List Int) :
    exact u v s = sum8 (fun x => at8 basisL (8 * x + u) * sum8 fun y => at8 basisL (8 * y + v) * at8 s (8 * y + x)) - 128 * sum8 (fun x => at8 basisL (8 * x + u)) * sum8 (fun y => at8 basisL (8 * y + v)) := by
  unfold exact
  rw [bas_all u hu, bas_all v hv]
  have e1 : ∀ a b c d e f g h : Int, sumL [a, b, c, d, e, f, g, h] = a + b + c + d + e + f + g + h := by intros; simp only [sumL]; omega
  have e2 : ∀ (A : List Int) (a b c d e f g h : Int) (X Y Z W P Q R T : List Int), dot2 [a, b, c, d, e, f, g, h] A [X, Y, Z, W, P, Q, R, T] = a * dot A X + b * dot A Y + c * dot A Z + d * dot A W + e * dot A P + f * dot A Q + g * dot A R + h * dot A T := by intros; simp only [dot2]; omega
  have e3 : ∀ a b c d e f g h p q r t w x y z : Int, dot [a, b, c, d, e, f, g, h] [p, q, r, t, w, x, y, z] = a * p + b * q + c * r + d * t + e * w + f * x + g * y + h * z := by intros; simp only [dot]; omega
  rw [e1, e1]
  unfold colsL colL
  rw [e2]
  simp only [e3]
  rfl
theorem hsum_8 (s : List Int) (i : Int) : hsum s i 8 = sum8 fun x => at8 basisL (8 * x + i % 8) * (at8 s (8 * (i / 8) + x) - 128) := by
  simp only [hsum, sum8]
  simp only [Int.zero_add]
  rfl
theorem csum_8 (h : List Int) (i : Int) : csum h i 8 = sum8 fun y => at8 basisL (8 * y + i / 8) * at8 h (8 * y + i % 8) := by
  simp only [csum, sum8]
  simp only [Int.zero_add]
  rfl
theorem half_at {s : List Int} {j : Int} (h0 : 0 ≤ j) (h1 : j < 64) : at8 (halfL s) j = hsum s j 8 := by
  unfold halfL
  rw [accP_at h0 h1, if_pos h1]
theorem exact_eq {s : List Int} {k : Int} (h0 : 0 ≤ k) (h1 : k < 64) {u v : Nat} (hu : u < 8) (hv : v < 8) (hn : at8 unzigL k = 8 * (v : Int) + u) : at8 (exactL s) k = exact u v s := by
  have e1 : at8 (exactL s) k = at8 (coefE s) (8 * (v : Int) + u) := by
    obtain ⟨m, rfl⟩ := Int.eq_ofNat_of_zero_le h0
    show ((List.range 64).map fun i : Nat => if (i : Int) < 64 then at8 (coefE s) (at8 unzigL i) else 0).getD ((m : Int)).toNat 0 = _
    rw [List.getD_eq_getElem?_getD, List.getElem?_map, Int.toNat_natCast, List.getElem?_range (by omega)]
    simp only [Option.map_some, Option.getD_some]
    rw [if_pos h1, hn]
  have e2 : at8 (coefE s) (8 * (v : Int) + u) = csum (halfL s) (8 * (v : Int) + u) 8 := by
    unfold coefE
    rw [accP_at (by omega) (by omega), if_pos (by omega)]
  rw [e1, e2, csum_8, show (8 * (v : Int) + (u : Int)) / 8 = v from by omega, show (8 * (v : Int) + (u : Int)) % 8 = u from by omega, exact_sum hu hv, ← dct_sum]
  have e3 : ∀ y : Int, 0 ≤ y → y < 8 → at8 (halfL s) (8 * y + u) = sum8 fun x => at8 basisL (8 * x + u) * (at8 s (8 * y + x) - 128) := by
    intro y a b
    rw [half_at (by omega) (by omega), hsum_8, show (8 * y + (u : Int)) % 8 = u from by omega, show (8 * y + (u : Int)) / 8 = y from by omega]
  exact sum8_on fun y a b => by rw [e3 y a b]
theorem rdiv_half {x q : Int} (hq : 1 ≤ q) : -(4 * q) ≤ 8 * (rdiv x (8 * q) * q) - x ∧ 8 * (rdiv x (8 * q) * q) - x ≤ 4 * q := by
  have e : 8 * q / 2 = 4 * q := by omega
  unfold rdiv
  rw [e]
  split
  · have g1 := Int.mul_ediv_self_le (x := x + 4 * q) (k := 8 * q) (by omega)
    have g2 := Int.lt_mul_ediv_self_add (x := x + 4 * q) (k := 8 * q) (by omega)
    generalize (x + 4 * q) / (8 * q) = n at *
    rw [Int.mul_assoc, Int.mul_comm q n] at g1 g2
    omega
  · have g1 := Int.mul_ediv_self_le (x := -x + 4 * q) (k := 8 * q) (by omega)
    have g2 := Int.lt_mul_ediv_self_add (x := -x + 4 * q) (k := 8 * q) (by omega)
    generalize (-x + 4 * q) / (8 * q) = n at *
    rw [Int.mul_assoc, Int.mul_comm q n] at g1 g2
    rw [Int.neg_mul]
    omega
theorem near_coef {s : List Int} (hl : s.length = 64) (hs : ∀ x ∈ s, 0 ≤ x ∧ x ≤ 255) {k Q : Int} (h0 : 0 ≤ k) (h1 : k < 64) (hQ : 1 ≤ Q) : nearB (rdiv (at8 (dctF s) (at8 unzigL k)) (8 * Q)) Q (at8 (exactL s) k) = true := by
  obtain ⟨u1, u2, _⟩ := unz_spec h0 h1
  obtain ⟨n, hn⟩ := Int.eq_ofNat_of_zero_le u1
  have hn2 : at8 unzigL k = 8 * ((n / 8 : Nat) : Int) + ((n % 8 : Nat) : Int) := by rw [hn]; omega
  rw [exact_eq h0 h1 (u := n % 8) (v := n / 8) (by omega) (by omega) hn2, hn2]
  obtain ⟨d1, d2, _⟩ := dct_near hl hs (u := n % 8) (v := n / 8) (by omega) (by omega)
  generalize at8 (dctF s) (8 * ((n / 8 : Nat) : Int) + ((n % 8 : Nat) : Int)) = F at *
  generalize exact (n % 8) (n / 8) s = e at *
  obtain ⟨r1, r2⟩ := rdiv_half (x := F) hQ
  unfold nearB imx
  generalize rdiv F (8 * Q) * Q = p at *
  rw [decide_eq_true_eq]
  split <;> omega
theorem dctL_at {f : Nat → List Int} (hf : ∀ m, (f m).length = 64) {n m : Nat} (hm : m < n) {k : Nat} (hk : k < 64) : at8 ((List.range n).map f).flatten (64 * (m : Int) + k) = at8 (f m) k := by
  have := flat_cut hf n 0 m hm
  rw [Nat.zero_add] at this
  rw [← this, List.range_eq_range']
  unfold at8 cutL
  rw [List.getD_eq_getElem?_getD, List.getD_eq_getElem?_getD, List.getElem?_take, if_pos (by omega), List.getElem?_drop, show (64 * (m : Int) + (k : Int)).toNat = 64 * m + ((k : Int)).toNat from by omega]
theorem div_row (r c a : Nat) (h : c < a) : (r * a + c) / a = r := by rw [Nat.mul_comm, Nat.mul_add_div (by omega), Nat.div_eq_of_lt h, Nat.add_zero]
theorem coefL_at {q : Nat} {quant d : List Int} {k : Nat} (hk : k < 64) : at8 (coefL q quant d 0 64) k = coef q quant d k := by
  unfold at8 coefL
  rw [List.getD_eq_getElem?_getD, List.getElem?_map, Int.toNat_natCast, ← List.range_eq_range', List.getElem?_range hk]
  rfl
/-- All blocks are near: X of them in each of Y rows. -/
theorem blocks_near {w h : Int} {pix quant bl qt : List Int} (I : Img w h pix quant) (hb : bl = ((List.range (wX w * hY h)).map (blkM w h pix quant)).flatten) (hq : ∀ k : Nat, k < 64 → at8 qt k = at8 quant k)
    {X Y : Int} (hX : X ≤ (w + 7) / 8) (hY2 : Y ≤ (h + 7) / 8) : codesOk w h X Y pix bl qt ((w + 7) / 8) = true := by
  unfold codesOk
  rw [List.all_eq_true]
  intro m hm
  rw [List.mem_range] at hm
  unfold blkNear
  rw [List.all_eq_true]
  intro k hk
  rw [List.mem_range] at hk
  have hA : ((w + 7) / 8).toNat = wX w := rfl
  rw [hA]
  have hXA : X.toNat ≤ wX w := by unfold wX; omega
  have hYB : Y.toNat ≤ hY h := by unfold hY; omega
  generalize hXn : X.toNat = x at *
  generalize hYn : Y.toNat = y at *
  have hx : 0 < x := by
    rcases Nat.eq_zero_or_pos x with h | h
    · rw [h, Nat.zero_mul] at hm; omega
    · exact h
  have c1 : m % x < x := Nat.mod_lt _ hx
  have c2 : m / x < y := by rw [Nat.div_lt_iff_lt_mul hx, Nat.mul_comm]; exact hm
  have c3 : m / x * wX w + m % x < wX w * hY h := by
    have g : (m / x + 1) * wX w ≤ hY h * wX w := Nat.mul_le_mul_right _ (by omega)
    rw [Nat.add_mul, Nat.one_mul, Nat.mul_comm (hY h)] at g
    omega
  have c4 : (m / x * wX w + m % x) % wX w = m % x := by rw [Nat.mul_comm, Nat.mul_add_mod, Nat.mod_eq_of_lt (by omega)]
  have c5 : (m / x * wX w + m % x) / wX w = m / x := div_row _ _ _ (by omega)
  rw [hb, dctL_at (fun m => blkM_len m) c3 hk]
  unfold blkM blkAt
  rw [c4, c5, coefL_at hk, hq k hk]
  have hqq := allIn_at I.q (n := (k : Int)) (by omega) (by rw [I.ql]; omega)
  have hp := padL_in (px := 8 * ((m % x : Nat) : Int)) (py := 8 * ((m / x : Nat) : Int)) (Int.mul_nonneg (by omega) (Int.natCast_nonneg _)) (Int.mul_nonneg (by omega) (Int.natCast_nonneg _)) I.w1 I.h1 I.len I.pix
  have := near_coef (padL_len) (allIn_mem hp) (k := (k : Int)) (by omega) (by omega) hqq.1
  unfold coef
  rw [show 64 * ((0 : Nat) : Int) + (k : Int) = (k : Int) from by omega]
  exact this
theorem inBl_all {l : List Int} (h : inBl l = true) : ∀ x ∈ l, -1024 ≤ x ∧ x ≤ 1023 := by
  unfold inBl at h
  simp only [Bool.and_eq_true, decide_eq_true_eq, List.all_eq_true] at h
  intro x hx
  cases l with
  | nil => simp at hx
  | cons a l =>
    rcases List.mem_cons.1 hx with rfl | hx
    · exact ⟨h.1, h.2.1⟩
    · have := h.2.2 x hx
      omega
theorem blocks_in {w h : Int} {pix quant bl : List Int} (I : Img w h pix quant) (hb : bl = ((List.range (wX w * hY h)).map (blkM w h pix quant)).flatten) : allIn (-1024) 1023 bl = true := by
  unfold allIn
  rw [List.all_eq_true]
  intro x hx
  rw [hb] at hx
  obtain ⟨l, hl, hx⟩ := List.mem_flatten.1 hx
  obtain ⟨m, _, rfl⟩ := List.mem_map.1 hl
  have := inBl_all (inBl_coef I (x := 8 * ((m % wX w : Nat) : Int)) (y := 8 * ((m / wX w : Nat) : Int)) (Int.mul_nonneg (by omega) (Int.natCast_nonneg _)) (Int.mul_nonneg (by omega) (Int.natCast_nonneg _))) x hx
  simp only [Bool.and_eq_true, decide_eq_true_eq]; exact this
end
end Go.Proofs.YtljjbikbfeigdaaGreatDoor
