/- Part of the proof of FnGrayCoefficientsCardSaid: Contracts of the specification's reader shown: a scan. -/
import Derived.Test.YtljjbikbfeigdaaGreatDoorGc31
set_option linter.all false
namespace Go.Proofs.YtljjbikbfeigdaaGreatDoor
noncomputable section
open Go
theorem seqL_rng {h : Nat} (hh : h < 4) {D : List Int} {d : Int} (n : Nat) : ∀ {k a u : Int} {bl : List Int}, (64 - k).toNat ≤ n → 0 ≤ a → 0 ≤ u → u ≤ 7 → seqOk (cnt h) (syms h) D k a u = true →
    0 ≤ e0 (seqL (cnt h) (syms h) D d k a u bl) ∧ 0 ≤ e1 (seqL (cnt h) (syms h) D d k a u bl) ∧ e1 (seqL (cnt h) (syms h) D d k a u bl) ≤ 7 ∧ ((seqL (cnt h) (syms h) D d k a u bl).drop 2).length = bl.length := by
  induction n with
  | zero =>
    intro k a u bl hn h1 h2 h3 ho
    rw [seqL_d (by omega)]
    exact ⟨h1, h2, h3, rfl⟩
  | succ n ih =>
    intro k a u bl hn h1 h2 h3 ho
    by_cases hk : k ≤ 63
    · obtain ⟨f1, f2, f3, f4, f5, f6, f7, f8, f9⟩ := seqF hh h1 h2 h3 hk ho
      by_cases hz : e0 (sym1 (cnt h) (syms h) D a u) % 16 = 0
      · rcases f8 hz with hr | ⟨hr, q2, q3⟩
        · rw [seqL_a hk hz hr]; exact ⟨f4, f5, f6, rfl⟩
        · rw [seqL_b hk hz (by omega)]; exact ih (by omega) f4 f5 f6 q3
      · obtain ⟨m1, m2, m3, m4, m5, m6⟩ := f9 hz
        rw [seqL_c hk hz (by omega)]
        have := ih (bl := bl.set (d + (k + e0 (sym1 (cnt h) (syms h) D a u) / 16)).toNat (sgn (e0 (sym1 (cnt h) (syms h) D a u) % 16) (e0 (numL D (e0 (sym1 (cnt h) (syms h) D a u) % 16).toNat 0 (e1 (sym1 (cnt h) (syms h) D a u)) (e2 (sym1 (cnt h) (syms h) D a u)))))) (by omega) m4 m5 m6 m3
        rw [List.length_set] at this
        exact this
    · rw [seqL_d hk]; exact ⟨h1, h2, h3, rfl⟩
theorem blkS_rng {D bl : List Int} {d a u p : Int} (h1 : 0 ≤ a) (h2 : 0 ≤ u) (h3 : u ≤ 7) (ho : blkOk 0 D a u p = true) :
    0 ≤ e0 (blkS 0 D d a u p bl) ∧ 0 ≤ e1 (blkS 0 D d a u p bl) ∧ e1 (blkS 0 D d a u p bl) ≤ 7 ∧ ((blkS 0 D d a u p bl).drop 2).length = bl.length ∧ -1024 ≤ p + dcV 0 D a u ∧ p + dcV 0 D a u ≤ 1023 := by
  rw [blkOk_0] at ho
  simp only [Bool.and_eq_true, decide_eq_true_eq] at ho
  obtain ⟨o1, o2, o3, o4⟩ := ho
  obtain ⟨n1, n2, n3⟩ := dcNx_0 h1 h2 h3 o1
  have := seqL_rng (h := 1) (by omega) (d := d) _ (bl := bl.set d.toNat (p + dcV 0 D a u)) (Nat.le_refl _) n1 n2 n3 o4
  rw [blkS_0]
  rw [List.length_set] at this
  exact ⟨this.1, this.2.1, this.2.2.1, this.2.2.2, o2, o3⟩
theorem zb400 (n m a u p : Int) (D bl : List Int) : Z.fb 400 n m a u D bl [p] [] = scOk D n.toNat m a u p bl := id rfl
theorem za400 (n m a u p : Int) (D bl : List Int) : Z.fa 400 n m a u D bl [p] [] = scL D n.toNat m a u p bl := id rfl
theorem z403 (n a : Int) (D bl : List Int) : Z.fi 403 n a 0 0 D bl [] [] = scAt D n.toNat a bl := id rfl
theorem za403 (n a : Int) (D bl : List Int) : Z.fa 403 n a 0 0 D bl [] [] = scBl D n.toNat a bl := id rfl
theorem scOk_step {D bl : List Int} {n m a u p : Int} (h : m < n) : scOk D (n - m).toNat m a u p bl = (blkOk 0 D a u p && scOk D (n - (m + 1)).toNat (m + 1) (e0 (blkS 0 D (64 * m) a u p bl)) (e1 (blkS 0 D (64 * m) a u p bl)) (p + dcV 0 D a u) ((blkS 0 D (64 * m) a u p bl).drop 2)) := by
  rw [show (n - m).toNat = (n - (m + 1)).toNat + 1 from by omega]; rfl
theorem scL_step {D bl : List Int} {n m a u p : Int} (h : m < n) : scL D (n - m).toNat m a u p bl = scL D (n - (m + 1)).toNat (m + 1) (e0 (blkS 0 D (64 * m) a u p bl)) (e1 (blkS 0 D (64 * m) a u p bl)) (p + dcV 0 D a u) ((blkS 0 D (64 * m) a u p bl).drop 2) := by
  rw [show (n - m).toNat = (n - (m + 1)).toNat + 1 from by omega]; rfl
theorem tdiv1 (x : Int) : (x + 1 - 1).tdiv 1 = x := by rw [Int.add_sub_cancel, Int.tdiv_one]
theorem idx_m {m X : Int} (h0 : 0 ≤ m) (hX : 1 ≤ X) : m.tdiv X * X + m.tmod X = m ∧ 0 ≤ m.tdiv X ∧ m.tdiv X ≤ m ∧ 0 ≤ m.tdiv X * X ∧ 0 ≤ m.tmod X ∧ m.tmod X < X := by
  rw [Int.tdiv_eq_ediv_of_nonneg h0, Int.tmod_eq_emod_of_nonneg h0]
  have h1 := Int.mul_ediv_add_emod m X
  have h2 := Int.ediv_nonneg h0 (show 0 ≤ X by omega)
  have h3 := Int.emod_nonneg m (show X ≠ 0 by omega)
  have h4 := Int.emod_lt_of_pos m (show 0 < X by omega)
  have h5 := Int.mul_nonneg h2 (show 0 ≤ X by omega)
  have h6 := Int.ediv_le_self X h0
  rw [Int.mul_comm X] at h1
  exact ⟨h1, h2, h6, h5, h3, h4⟩
theorem rspJ_ok : ∀ f s, rspJ f = some s → RSpecOk Tryz.prog Z f s := by
  intro f s h
  unfold rspJ at h
  split at h
  · cases h; exact applyR_ok c51_ok
  · cases h
def vc35 : VC :=
 let t0 : T := .lit (-9223372036854775808)
 let t1 : T := .lit (9223372036854775807)
 let t2 : T := .sub (.add (.iv 21) (.lit (8))) (.lit (1))
 let t3 : T := .tdiv t2 (.lit (8))
 let t4 : T := .sub (.add (.iv 22) (.lit (8))) (.lit (1))
 let t5 : T := .sub (.add (.iv 21) (.lit (1))) (.lit (1))
 let t6 : T := .tdiv t5 (.lit (1))
 let t7 : T := .sub (.add (.iv 22) (.lit (1))) (.lit (1))
 let t8 : T := .tdiv t7 (.lit (1))
 let t9 : T := .add t6 (.lit (8))
 let t10 : T := .sub t9 (.lit (1))
 let t11 : T := .tdiv t10 (.lit (8))
 let t12 : T := .add t8 (.lit (8))
 let t13 : T := .sub t12 (.lit (1))
 let t14 : T := .tdiv t13 (.lit (8))
 let t15 : T := .mul t11 t14
 let t16 : T := .lit (0)
 let t17 : T := .set (.alit [0]) t16 t16
 let t18 : T := .alit []
 let t19 : T := .fa 400 (.iv 20) t16 (.iv 0) t16 (.av 1) (.av 7) t17 t18
 let t20 : T := .sub (.iv 20) (.iv 1400)
 let t21 : T := .tdiv (.iv 1400) t11
 let t22 : T := .mul t21 t3
 let t23 : T := .tmod (.iv 1400) t11
 let t24 : T := .add t22 t23
 let t25 : T := .mul t24 (.lit (64))
 let t26 : T := .add (.iv 1400) (.lit (1))
 let t27 : T := .fi 420 t25 (.iv 1401) (.iv 1402) (.iv 1403) (.av 1) (.av 1400) t18 t18
 let t28 : T := .fi 422 t25 (.iv 1401) (.iv 1402) (.iv 1403) (.av 1) (.av 1400) t18 t18
 let t29 : T := .add (.iv 1403) (.fi 270 (.iv 1401) (.iv 1402) t16 t16 (.av 1) t18 t18 t18)
 let t30 : T := .fa 424 t25 (.iv 1401) (.iv 1402) (.iv 1403) (.av 1) (.av 1400) t18 t18
 let t31 : T := .sub (.iv 20) t26
 let t32 : T := .set (.alit [0]) t16 t29
 (.need [(.le (.lit (371)) (.len (.av 1))), (.aeq (.alit [1, 1, 0, 0, 63, 0]) (.cut (.av 1) (.lit (365)) (.lit (6))))] (.any 1000 0 [] (.need [(.le t0 (.add (.iv 21) (.lit (8)))), (.le (.add (.iv 21) (.lit (8))) t1), (.le t0 t2), (.le t2 t1), (.le t0 t3), (.le t3 t1)] (.need [(.le t0 (.add (.iv 22) (.lit (8)))), (.le (.add (.iv 22) (.lit (8))) t1), (.le t0 t4), (.le t4 t1), (.le t0 (.tdiv t4 (.lit (8)))), (.le (.tdiv t4 (.lit (8))) t1)] (.need [(.le t0 (.iv 21)), (.le (.iv 21) t1)] (.need [(.le t0 (.add (.iv 21) (.lit (1)))), (.le (.add (.iv 21) (.lit (1))) t1), (.le t0 t5), (.le t5 t1), (.le t0 t6), (.le t6 t1)] (.need [(.le t0 (.iv 22)), (.le (.iv 22) t1)] (.need [(.le t0 (.add (.iv 22) (.lit (1)))), (.le (.add (.iv 22) (.lit (1))) t1), (.le t0 t7), (.le t7 t1), (.le t0 t8), (.le t8 t1)] (.need [(.le t0 t9), (.le t9 t1), (.le t0 t10), (.le t10 t1), (.le t0 t11), (.le t11 t1)] (.need [(.le t0 t12), (.le t12 t1), (.le t0 t13), (.le t13 t1), (.le t0 t14), (.le t14 t1)] (.need [(.le t0 t15), (.le t15 t1)] (.need [(.le t16 t16), (.le t16 (.iv 20)), (.le t16 t16), (.le t16 (.lit (7))), (.le (.lit (-1024)) t16), (.le t16 (.lit (1023))), (.fb 400 (.sub (.iv 20) t16) t16 (.iv 0) t16 (.av 1) (.av 7) t17 t18), (.aeq (.fa 400 (.sub (.iv 20) t16) t16 (.iv 0) t16 (.av 1) (.av 7) t17 t18) t19)] (.any 1400 2 [(.le t16 (.iv 1400)), (.le (.iv 1400) (.iv 20)), (.le t16 (.iv 1401)), (.le t16 (.iv 1402)), (.le (.iv 1402) (.lit (7))), (.le (.lit (-1024)) (.iv 1403)), (.le (.iv 1403) (.lit (1023))), (.eq (.len (.av 1400)) (.mul (.lit (64)) (.iv 20))), (.fb 400 t20 (.iv 1400) (.iv 1401) (.iv 1402) (.av 1) (.av 1400) (.set (.alit [0]) t16 (.iv 1403)) t18), (.aeq (.fa 400 t20 (.iv 1400) (.iv 1401) (.iv 1402) (.av 1) (.av 1400) (.set (.alit [0]) t16 (.iv 1403)) t18) t19)] (.cond (.lt (.iv 1400) t15) (.need [(.not (.eq t11 t16)), (.le t0 t21), (.le t21 t1)] (.need [(.le t0 t22), (.le t22 t1)] (.need [(.le t0 t23), (.le t23 t1)] (.need [(.le t0 t24), (.le t24 t1)] (.need [(.le t16 t24), (.lt t24 (.iv 20))] (.need [(.le t16 t25), (.le (.add t25 (.lit (64))) (.len (.av 1400))), (.le (.len (.av 1400)) (.lit (1000000000000))), (.fb 420 (.iv 1401) (.iv 1402) (.iv 1403) t16 (.av 1) t18 t18 t18)] (.need [(.le t0 t26), (.le t26 t1)] (.need [(.le t16 t26), (.le t26 (.iv 20)), (.le t16 t27), (.le t16 t28), (.le t28 (.lit (7))), (.le (.lit (-1024)) t29), (.le t29 (.lit (1023))), (.eq (.len t30) (.mul (.lit (64)) (.iv 20))), (.fb 400 t31 t26 t27 t28 (.av 1) t30 t32 t18), (.aeq (.fa 400 t31 t26 t27 t28 (.av 1) t30 t32 t18) t19), (.lt t16 t20), (.lt t31 t20)] .done)))))))) (.need [(.fb 290 (.iv 1401) (.iv 1402) t16 t16 (.av 1) t18 t18 t18)] (.need [(.eq (.fi 403 (.iv 20) (.iv 0) t16 t16 (.av 1) (.av 7) t18 t18) (.fi 290 (.iv 1401) (.iv 1402) t16 t16 (.av 1) t18 t18 t18)), (.aeq (.fa 403 (.iv 20) (.iv 0) t16 t16 (.av 1) (.av 7) t18 t18) (.av 1400))] .done))))))))))))))))
theorem w35 : vcIs (vcOf Tryz.prog (spJ' Tryz.prog) rspJ ⟨ltK8, inlK8⟩ 100000 35 c35) vc35 = true := by kernel_rfl
theorem c35_ok : CtrOk Tryz.prog Z 35 c35 := by
  refine ctr_prog (spJ37'_ok c53_00_ok c54_ok) rspJ_ok w35 fun ρ h => ?_
  have g1 := getM h (.eq (.len (.av 1)) (.iv 6)) (by kernel_rfl)
  have g2 := getM h (.le (.iv 6) lim) (by kernel_rfl)
  have g3 := getM h (.le (.lit 0) (.iv 0)) (by kernel_rfl)
  have g4 := getM h (.le (.lit 371) (.iv 6)) (by kernel_rfl)
  have g5 := getM h (.aeq (.cut (.av 1) (.lit 365) (.lit 6)) (.alit [1, 1, 0, 0, 63, 0])) (by kernel_rfl)
  have g6 := getM h (.le (.lit 1) (.iv 21)) (by kernel_rfl)
  have g7 := getM h (.le (.iv 21) (.lit 65535)) (by kernel_rfl)
  have g8 := getM h (.le (.lit 1) (.iv 22)) (by kernel_rfl)
  have g9 := getM h (.le (.iv 22) (.lit 65535)) (by kernel_rfl)
  have g10 := getM h (.le (.mul (.iv 21) (.iv 22)) (.lit 65536)) (by kernel_rfl)
  have g11 := getM h (.eq (.iv 20) (.mul (.tdiv (.add (.iv 21) (.lit 7)) (.lit 8)) (.tdiv (.add (.iv 22) (.lit 7)) (.lit 8)))) (by kernel_rfl)
  have g12 := getM h (.eq (.len (.av 7)) (.mul (.lit 64) (.iv 20))) (by kernel_rfl)
  have g13 := getM h (.le (.lit 1) (.get (.av 30) z0)) (by kernel_rfl)
  have g14 := getM h (.fb 400 (.iv 20) z0 (.iv 0) z0 (.av 1) (.av 7) (one z0) (.alit [])) (by kernel_rfl)
  have g15 := getM h (.le (.lit 6) (.iv 10)) (by kernel_rfl)
  clear h
  simp only [lim, one, z0, set_one, zb400, ↓b_le, ↓b_lt, ↓b_eq, ↓b_aeq, ↓f_le, ↓f_lt, ↓f_eq, ↓f_aeq, ↓b_not, ↓f_not, ↓b_and, ↓b_or, ↓f_and, ↓f_or, ↓b_tt, ↓b_ff, ↓f_tt, ↓f_ff, met_cons, met_nil, hyp_cons, hyp_nil, T.I, T.A, T.B, Int.toNat_zero, List.drop_zero, and_true, implies_true, VC.sem, spliceL_cast, shr_24_u32, shr_8_u32, shr_8_i32, shr_14_i32, shr_12_i32, shr_18_i32, shr_2_i32, shr_1_i32, shr_1_i64, shr_8_i64, shr_4_i64, shr_16_u32, shr_4_u8, shr_1_u8] at g1 g2 g3 g4 g5 g6 g7 g8 g9 g10 g11 g12 g13 g14 g15
  rw [Int.tdiv_eq_ediv_of_nonneg (by omega), Int.tdiv_eq_ediv_of_nonneg (by omega)] at g11
  have t1 := tdiv8 (x := ρ.i 21) (by omega)
  have t2 := tdiv8 (x := ρ.i 22) (by omega)
  have nb := nb_bnd g6 g8 g10
  rw [nb.2.2, ← g11] at nb
  have hX1 : 1 ≤ (ρ.i 21 + 7) / 8 := by omega
  have hX2 : (ρ.i 21 + 7) / 8 ≤ 8192 := by omega
  have hY1 : 1 ≤ (ρ.i 22 + 7) / 8 := by omega
  have hY2 : (ρ.i 22 + 7) / 8 ≤ 8192 := by omega
  simp only [vc35, ↓b_le, ↓b_lt, ↓b_eq, ↓b_aeq, ↓f_le, ↓f_lt, ↓f_eq, ↓f_aeq, ↓b_not, ↓f_not, ↓b_and, ↓b_or, ↓f_and, ↓f_or, ↓b_tt, ↓b_ff, ↓f_tt, ↓f_ff, met_cons, met_nil, hyp_cons, hyp_nil, T.I, T.A, T.B, Int.toNat_zero, List.drop_zero, and_true, implies_true, VC.sem, spliceL_cast, shr_24_u32, shr_8_u32, shr_8_i32, shr_14_i32, shr_12_i32, shr_18_i32, shr_2_i32, shr_1_i32, shr_1_i64, shr_8_i64, shr_4_i64, shr_16_u32, shr_4_u8, shr_1_u8, getD_at8, tdiv1, t1, t2, set_one, za410, zb400, za400, z403, za403, zb290, z290, yb420_0, y420_0, y422_0, y424_0, y270_0, Int.sub_zero]
  generalize (ρ.i 21 + 7) / 8 = X at *
  generalize (ρ.i 22 + 7) / 8 = Y at *
  have I := idx_m (m := ρ.i 1400) (X := X)
  have IE : 0 ≤ ρ.i 1400 → (ρ.i 1400).tdiv X * X + (ρ.i 1400).tmod X = ρ.i 1400 := fun h => (I h hX1).1
  (repeat' (first | exact True.intro | refine And.intro ?_ ?_ | intro _)) <;> (try omega)
  · exact g5.symm
  · have ho := ‹scOk _ (ρ.i 20 - ρ.i 1400).toNat _ _ _ _ _ = true›
    rw [scOk_step (by omega), Bool.and_eq_true] at ho
    exact ho.1
  · rw [IE (by omega), Int.mul_comm _ 64]
    have ho := ‹scOk _ (ρ.i 20 - ρ.i 1400).toNat _ _ _ _ _ = true›
    rw [scOk_step (by omega), Bool.and_eq_true] at ho
    have B := blkS_rng (bl := ρ.a 1400) (d := 64 * ρ.i 1400) (by omega) (by omega) (by omega) ho.1
    exact B.1
  · rw [IE (by omega), Int.mul_comm _ 64]
    have ho := ‹scOk _ (ρ.i 20 - ρ.i 1400).toNat _ _ _ _ _ = true›
    rw [scOk_step (by omega), Bool.and_eq_true] at ho
    have B := blkS_rng (bl := ρ.a 1400) (d := 64 * ρ.i 1400) (by omega) (by omega) (by omega) ho.1
    exact B.2.1
  · rw [IE (by omega), Int.mul_comm _ 64]
    have ho := ‹scOk _ (ρ.i 20 - ρ.i 1400).toNat _ _ _ _ _ = true›
    rw [scOk_step (by omega), Bool.and_eq_true] at ho
    have B := blkS_rng (bl := ρ.a 1400) (d := 64 * ρ.i 1400) (by omega) (by omega) (by omega) ho.1
    exact B.2.2.1
  · skip
    have ho := ‹scOk _ (ρ.i 20 - ρ.i 1400).toNat _ _ _ _ _ = true›
    rw [scOk_step (by omega), Bool.and_eq_true] at ho
    have B := blkS_rng (bl := ρ.a 1400) (d := 64 * ρ.i 1400) (by omega) (by omega) (by omega) ho.1
    exact B.2.2.2.2.1
  · skip
    have ho := ‹scOk _ (ρ.i 20 - ρ.i 1400).toNat _ _ _ _ _ = true›
    rw [scOk_step (by omega), Bool.and_eq_true] at ho
    have B := blkS_rng (bl := ρ.a 1400) (d := 64 * ρ.i 1400) (by omega) (by omega) (by omega) ho.1
    exact B.2.2.2.2.2
  · rw [IE (by omega), Int.mul_comm _ 64]
    have ho := ‹scOk _ (ρ.i 20 - ρ.i 1400).toNat _ _ _ _ _ = true›
    rw [scOk_step (by omega), Bool.and_eq_true] at ho
    have B := blkS_rng (bl := ρ.a 1400) (d := 64 * ρ.i 1400) (by omega) (by omega) (by omega) ho.1
    have := B.2.2.2.1
    omega
  · rw [IE (by omega), Int.mul_comm _ 64]
    have ho := ‹scOk _ (ρ.i 20 - ρ.i 1400).toNat _ _ _ _ _ = true›
    rw [scOk_step (by omega), Bool.and_eq_true] at ho
    have B := blkS_rng (bl := ρ.a 1400) (d := 64 * ρ.i 1400) (by omega) (by omega) (by omega) ho.1
    exact ho.2
  · rw [IE (by omega), Int.mul_comm _ 64, ← scL_step (by omega)]
    assumption
  · have ho := ‹scOk _ (ρ.i 20 - ρ.i 1400).toNat _ _ _ _ _ = true›
    rw [show (ρ.i 20 - ρ.i 1400).toNat = 0 from by omega] at ho
    exact ho
  · have he := ‹scL _ (ρ.i 20 - ρ.i 1400).toNat _ _ _ _ _ = _›
    rw [show (ρ.i 20 - ρ.i 1400).toNat = 0 from by omega] at he
    unfold scAt
    rw [← he]; rfl
  · have he := ‹scL _ (ρ.i 20 - ρ.i 1400).toNat _ _ _ _ _ = _›
    rw [show (ρ.i 20 - ρ.i 1400).toNat = 0 from by omega] at he
    unfold scBl
    rw [← he]; rfl
end
end Go.Proofs.YtljjbikbfeigdaaGreatDoor
