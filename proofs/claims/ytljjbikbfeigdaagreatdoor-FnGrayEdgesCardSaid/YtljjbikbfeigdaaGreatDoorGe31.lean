/- Part of the proof of FnGrayEdgesCardSaid: Contracts of the specification's reader shown: the frame header, the scan header. -/
import Derived.Test.YtljjbikbfeigdaaGreatDoorGe30
set_option linter.all false
namespace Go.Proofs.YtljjbikbfeigdaaGreatDoor
noncomputable section
open Go
theorem za412 (x : Int) : Z.fa 412 x 0 0 0 [] [] [] [] = missL x := id rfl
theorem za410 (x : Int) : Z.fa 410 x 0 0 0 [] [] [] [] = missK x := id rfl
theorem za437 (x : Int) : Z.fa 437 x 0 0 0 [] [] [] [] = zeroN x := id rfl
theorem z436 (x y : Int) : Z.fi 436 x y 0 0 [] [] [] [] = nbOf x y := id rfl
theorem missL_len (k : Int) : (missL k).length = 192 := by simp [missL]
theorem missL_step {k : Int} (h0 : 0 ≤ k) (h1 : k < 64) : (missL k).set k.toNat (-1) = missL (k + 1) := by
  apply List.ext_getElem (by simp [missL])
  intro i hi1 hi2
  simp only [List.getElem_set, missL, List.getElem_map, List.getElem_range]
  by_cases hi : k.toNat = i
  · rw [if_pos hi, if_pos (by omega)]
  · rw [if_neg hi]
    by_cases hj : i < 64 ∧ (i : Int) < k
    · rw [if_pos hj, if_pos (by omega)]
    · rw [if_neg hj, if_neg (by omega)]
theorem missK_step {k : Int} (h0 : 0 ≤ k) (h1 : k < 64) : (missK k).set k.toNat 0 = missK (k + 1) := by
  apply List.ext_getElem (by simp [missK])
  intro i hi1 hi2
  simp only [List.getElem_set, missK, List.getElem_map, List.getElem_range]
  by_cases hi : k.toNat = i
  · rw [if_pos hi, if_neg (by omega)]
  · rw [if_neg hi]
    by_cases hj : i < 64 ∧ k ≤ (i : Int)
    · rw [if_pos hj, if_pos (by omega)]
    · rw [if_neg hj, if_neg (by omega)]
theorem missK_at {k : Int} (h0 : 0 ≤ k) (h1 : k < 64) : at8 (missK k) k = -1 := by
  unfold at8 missK
  rw [List.getD_eq_getElem?_getD, List.getElem?_map, List.getElem?_range (by omega)]
  simp only [Option.map_some, Option.getD_some]
  rw [if_pos (by omega)]
theorem missK_64 {k : Int} (h0 : 0 ≤ k) (h1 : k < 192) : at8 (missK 64) k = 0 := by
  unfold at8 missK
  rw [List.getD_eq_getElem?_getD, List.getElem?_map, List.getElem?_range (by omega)]
  simp only [Option.map_some, Option.getD_some]
  rw [if_neg (by omega)]
theorem missL_64 : missL 64 = missK 0 := by decide +kernel
theorem nb_bnd {w h : Int} (hw : 1 ≤ w) (hh : 1 ≤ h) (hm : w * h ≤ 65536) : 1 ≤ nbOf w h ∧ nbOf w h ≤ 65536 ∧ nbOf w h = (w + 7) / 8 * ((h + 7) / 8) := by
  have h1 : (1 : Int) * 1 ≤ (w + 7) / 8 * ((h + 7) / 8) := Int.mul_le_mul (by omega) (by omega) (by omega) (by omega)
  have h2 : (w + 7) / 8 * ((h + 7) / 8) ≤ w * h := Int.mul_le_mul (by omega) (by omega) (by omega) (by omega)
  unfold nbOf
  omega
theorem tdiv8 {x : Int} (h : 0 ≤ x) : (x + 8 - 1).tdiv 8 = (x + 7) / 8 := by rw [Int.tdiv_eq_ediv_of_nonneg (by omega)]; omega
def vc50 : VC :=
 let t0 : T := .lit (0)
 let t1 : T := .len (.av 2)
 let t2 : T := .lit (-9223372036854775808)
 let t3 : T := .lit (9223372036854775807)
 let t4 : T := .mul (.get (.av 2) (.lit (1))) (.lit (256))
 let t5 : T := .get (.av 2) (.lit (2))
 let t6 : T := .mul (.get (.av 2) (.lit (3))) (.lit (256))
 let t7 : T := .get (.av 2) (.lit (4))
 let t8 : T := .bits .or .i64 t4 t5
 let t9 : T := .bits .or .i64 t6 t7
 let t10 : T := .mul t8 t9
 let t11 : T := .shr .u8 (.get (.av 2) (.lit (7))) (.lit (4))
 let t12 : T := .bits .and .u8 (.get (.av 2) (.lit (7))) (.lit (15))
 let t13 : T := .get (.av 2) (.lit (8))
 let t14 : T := .add t9 (.lit (8))
 let t15 : T := .sub t14 (.lit (1))
 let t16 : T := .tdiv t15 (.lit (8))
 let t17 : T := .add t8 (.lit (8))
 let t18 : T := .sub t17 (.lit (1))
 let t19 : T := .tdiv t18 (.lit (8))
 let t20 : T := .mul t16 t19
 let t21 : T := .alit []
 let t22 : T := .fa 412 t0 t0 t0 t0 t21 t21 t21 t21
 let t23 : T := .add (.iv 1002) (.lit (1))
 (.need [(.lt t0 t1)] (.need [(.lt (.lit (5)) t1)] (.need [(.le t2 (.get (.av 2) (.lit (5)))), (.le (.get (.av 2) (.lit (5))) t3)] (.need [(.lt (.lit (1)) t1)] (.need [(.le t2 (.get (.av 2) (.lit (1)))), (.le (.get (.av 2) (.lit (1))) t3)] (.need [(.le t2 t4), (.le t4 t3)] (.need [(.lt (.lit (2)) t1)] (.need [(.le t2 t5), (.le t5 t3)] (.need [(.lt (.lit (3)) t1)] (.need [(.le t2 (.get (.av 2) (.lit (3)))), (.le (.get (.av 2) (.lit (3))) t3)] (.need [(.le t2 t6), (.le t6 t3)] (.need [(.lt (.lit (4)) t1)] (.need [(.le t2 t7), (.le t7 t3)] (.cond (.eq t8 t0) (.fail "leaf fit") (.cond (.eq t9 t0) (.fail "leaf fit") (.need [(.le t2 t10), (.le t10 t3)] (.cond (.lt (.lit (65536)) t10) (.fail "leaf fit") (.need [(.le t0 (.iv 10)), (.le (.iv 10) (.iv 10)), (.le t0 (.iv 10)), (.lt (.lit (6)) (.iv 10))] (.need [(.lt (.lit (6)) t1)] (.need [(.le t2 (.get (.av 2) (.lit (6)))), (.le (.get (.av 2) (.lit (6))) t3)] (.need [(.lt (.lit (7)) t1)] (.need [(.le t2 t11), (.le t11 t3)] (.need [(.le t2 t12), (.le t12 t3)] (.cond (.lt t11 (.lit (1))) (.fail "leaf fit") (.cond (.lt (.lit (4)) t11) (.fail "leaf fit") (.cond (.lt t12 (.lit (1))) (.fail "leaf fit") (.cond (.lt (.lit (4)) t12) (.fail "leaf fit") (.need [(.lt (.lit (8)) t1)] (.cond (.lt (.lit (3)) t13) (.fail "leaf fit") (.any 1000 2 [(.le (.lit (1)) (.iv 1000))] (.need [(.le t2 t13), (.le t13 t3)] (.any 1001 3 [(.le (.lit (1)) (.iv 1001))] (.cond (.eq t11 (.lit (3))) (.fail "leaf fit") (.cond (.lt (.lit (2)) t12) (.fail "leaf fit") (.need [(.le t2 t14), (.le t14 t3), (.le t2 t15), (.le t15 t3), (.le t2 t16), (.le t16 t3)] (.need [(.le t2 t17), (.le t17 t3), (.le t2 t18), (.le t18 t3), (.le t2 t19), (.le t19 t3)] (.need [(.le t2 t20), (.le t20 t3)] (.need [(.le t0 t20), (.le (.mul t20 (.lit (512))) (.lit (140737488355328)))] (.need [(.le t0 t0), (.le t0 (.lit (64))), (.aeq t22 t22)] (.any 1002 1000000005 [(.le t0 (.iv 1002)), (.le (.iv 1002) (.lit (64))), (.eq (.len (.av 1002)) (.lit (192))), (.aeq (.av 1002) (.fa 412 (.iv 1002) t0 t0 t0 t21 t21 t21 t21))] (.cond (.lt (.iv 1002) (.lit (64))) (.need [(.lt (.iv 1002) (.lit (192)))] (.need [(.le t2 t23), (.le t23 t3)] (.need [(.le t0 t23), (.le t23 (.lit (64))), (.eq (.len (.set (.av 1002) (.iv 1002) (.lit (-1)))) (.lit (192))), (.aeq (.set (.av 1002) (.iv 1002) (.lit (-1))) (.fa 412 t23 t0 t0 t0 t21 t21 t21 t21)), (.lt t0 (.sub (.lit (64)) (.iv 1002))), (.lt (.sub (.lit (64)) t23) (.sub (.lit (64)) (.iv 1002)))] .done))) (.need [(.eq t0 t13), (.eq (.lit (1)) (.get (.av 2) (.lit (6)))), (.eq (.add t4 t5) t8), (.eq (.add t6 t7) t9), (.aeq (.fa 410 t0 t0 t0 t0 t21 t21 t21 t21) (.av 1002)), (.eq t20 (.fi 436 (.add t6 t7) (.add t4 t5) t0 t0 t21 t21 t21 t21)), (.aeq (.rep (.mul t20 (.lit (64))) t0) (.fa 437 t20 t0 t0 t0 t21 t21 t21 t21))] .done))))))))))))))))))))))))))))))))))))))))))
theorem spJ37_ok : ∀ f s, deep Tryz.prog (fun f => f == 37) noS 1000 2 f = some s → SpecOk Tryz.prog Z f s := deep_ok mixed drawsOk_prog noS_ok 1000 2
theorem w50 : vcIs (vcOf Tryz.prog (deep Tryz.prog (fun f => f == 37) noS 1000 2) noR ⟨ltK9 z0, inlK8⟩ 100000 50 c50) vc50 = true := by kernel_rfl
theorem c50_ok : CtrOk Tryz.prog Z 50 c50 := by
  refine ctr_prog spJ37_ok noR_ok w50 fun ρ h => ?_
  simp only [c50, decT, cs0, allT, z0, hdW, hdH, g2, zb2, getD_at8, getD0_at8, za412, lenFacts, inR, List.flatMap_cons, List.flatMap_nil, List.append_nil, List.append_assoc, List.cons_append, List.nil_append, and_true, ↓b_le, ↓b_lt, ↓b_eq, ↓b_aeq, ↓f_le, ↓f_lt, ↓f_eq, ↓f_aeq, ↓b_not, ↓f_not, ↓b_and, ↓b_or, ↓f_and, ↓f_or, ↓b_tt, ↓b_ff, ↓f_tt, ↓f_ff, met_cons, met_nil, hyp_cons, hyp_nil, T.I, T.A, T.B, Int.toNat_zero, List.drop_zero, and_true, implies_true, VC.sem, spliceL_cast, shr_24_u32, shr_8_u32, shr_8_i32, shr_14_i32, shr_12_i32, shr_18_i32, shr_2_i32, shr_1_i32, shr_1_i64, shr_8_i64, shr_4_i64, shr_16_u32, shr_4_u8, shr_1_u8] at h
  have f1 : 9 ≤ ρ.i 10 := h.1
  have f2 := h.2.1
  have f3 := h.2.2.1
  obtain ⟨-, -, -, f4, f5, f6, f7, f8, f9, f10, f11, -⟩ := h
  have b1 := allIn_at f3 (n := 1) (by omega) (by omega)
  have b2 := allIn_at f3 (n := 2) (by omega) (by omega)
  have b3 := allIn_at f3 (n := 3) (by omega) (by omega)
  have b4 := allIn_at f3 (n := 4) (by omega) (by omega)
  have o1 := or256 b1.1 b1.2 b2.1 b2.2
  have o2 := or256 b3.1 b3.2 b4.1 b4.2
  simp only [vc50, ↓b_le, ↓b_lt, ↓b_eq, ↓b_aeq, ↓f_le, ↓f_lt, ↓f_eq, ↓f_aeq, ↓b_not, ↓f_not, ↓b_and, ↓b_or, ↓f_and, ↓f_or, ↓b_tt, ↓b_ff, ↓f_tt, ↓f_ff, met_cons, met_nil, hyp_cons, hyp_nil, T.I, T.A, T.B, Int.toNat_zero, List.drop_zero, and_true, implies_true, VC.sem, spliceL_cast, shr_24_u32, shr_8_u32, shr_8_i32, shr_14_i32, shr_12_i32, shr_18_i32, shr_2_i32, shr_1_i32, shr_1_i64, shr_8_i64, shr_4_i64, shr_16_u32, shr_4_u8, shr_1_u8, getD_at8, getD0_at8, za412, za410, za437, z436, o1, o2, f4, f5, f6, f7, f8, List.length_set]
  generalize hW : at8 (ρ.a 2) 3 * 256 + at8 (ρ.a 2) 4 = W at *
  generalize hH : at8 (ρ.a 2) 1 * 256 + at8 (ρ.a 2) 2 = H at *
  have hmul : H * W ≤ 65536 := by rw [Int.mul_comm]; exact f11
  have hm0 : 0 ≤ H * W := Int.mul_nonneg (by omega) (by omega)
  have t1 := tdiv8 (x := W) (by omega)
  have t2 := tdiv8 (x := H) (by omega)
  obtain ⟨n1, n2, n3⟩ := nb_bnd f9 f10 f11
  have n4 : nbOf W H * 64 = 64 * nbOf W H := Int.mul_comm _ _
  have s1 := missL_step (k := ρ.i 1002)
  have s2 := missL_len (ρ.i 1002)
  have s3 : (17 : Int).fdiv (2 ^ min (Int.toNat 4) IntKind.u8.bits) = 1 := rfl
  have s4 : bitsOf .and .u8 17 15 = 1 := by decide +kernel
  simp only [t1, t2, ← n3, n4, s3, s4]
  (repeat' (first | exact True.intro | refine And.intro ?_ ?_ | intro _)) <;> (try omega)
  · rw [‹ρ.a 1002 = missL _›]; exact s1 (by omega) (by omega)
  · rw [‹ρ.a 1002 = missL _›, show ρ.i 1002 = 64 from by omega]; exact missL_64.symm
  · rfl
def vc51 : VC :=
 let t0 : T := .lit (0)
 let t1 : T := .len (.alit [1, 1, 0, 0, 63, 0])
 let t2 : T := .alit []
 let t3 : T := .fa 410 t0 t0 t0 t0 t2 t2 t2 t2
 let t4 : T := .add (.iv 1001) (.lit (1))
 (.need [(.lt t0 t1)] (.need [(.lt (.lit (1)) t1)] (.need [(.lt (.lit (2)) t1)] (.cond (.eq (.get (.av 30) t0) t0) (.fail "leaf fit") (.any 1000 2 [(.le (.lit (1)) (.iv 1000))] (.need [(.le t0 (.iv 10)), (.le (.iv 10) (.iv 10)), (.le t0 (.iv 10)), (.lt (.lit (3)) (.iv 10))] (.need [(.lt (.lit (3)) t1)] (.need [(.lt (.lit (4)) t1)] (.need [(.lt (.lit (5)) t1)] (.need [(.le t0 t0), (.le t0 (.lit (64))), (.aeq t3 t3)] (.any 1001 1000000002 [(.le t0 (.iv 1001)), (.le (.iv 1001) (.lit (64))), (.eq (.len (.av 1001)) (.lit (192))), (.aeq (.av 1001) (.fa 410 (.iv 1001) t0 t0 t0 t2 t2 t2 t2))] (.cond (.le (.iv 1001) (.lit (63))) (.need [(.lt (.iv 1001) (.lit (64)))] (.need [(.lt (.iv 1001) (.lit (192)))] (.cond (.not (.eq (.get (.av 1001) (.iv 1001)) (.lit (-1)))) (.fail "leaf fit") (.need [(.le (.lit (-9223372036854775808)) t4), (.le t4 (.lit (9223372036854775807)))] (.need [(.le t0 t4), (.le t4 (.lit (64))), (.eq (.len (.set (.av 1001) (.iv 1001) t0)) (.lit (192))), (.aeq (.set (.av 1001) (.iv 1001) t0) (.fa 410 t4 t0 t0 t0 t2 t2 t2 t2)), (.lt t0 (.sub (.lit (64)) (.iv 1001))), (.lt (.sub (.lit (64)) t4) (.sub (.lit (64)) (.iv 1001)))] .done))))) (.need [(.aeq (.fa 410 (.lit (64)) t0 t0 t0 t2 t2 t2 t2) (.av 1001))] .done)))))))))))))
theorem spJ37'_ok (h1 : CtrOk Tryz.prog Z 53 (c53 0 0)) (h2 : CtrOk Tryz.prog Z 54 c54) : ∀ f s, spJ' Tryz.prog f = some s → SpecOk Tryz.prog Z f s := deep_ok mixed drawsOk_prog (fun f s h => by
  unfold spJ at h
  split at h
  · cases h; exact applyF_ok h1
  · cases h; exact applyF_ok h2
  · cases h) 1000 2
theorem w51 : vcIs (vcOf Tryz.prog (spJ' Tryz.prog) noR ⟨ltK8, inlAll⟩ 100000 51 c51) vc51 = true := by kernel_rfl
theorem c51_ok : CtrOk Tryz.prog Z 51 c51 := by
  refine ctr_prog (spJ37'_ok c53_00_ok c54_ok) noR_ok w51 fun ρ h => ?_
  have f1 := getM h (.le (.lit 6) (.iv 10)) (by kernel_rfl)
  have f2 := getM h (.le (.lit 1) (.get (.av 30) z0)) (by kernel_rfl)
  clear h
  simp only [z0, getD_at8, getD0_at8, ↓b_le, ↓b_lt, ↓b_eq, ↓b_aeq, ↓f_le, ↓f_lt, ↓f_eq, ↓f_aeq, ↓b_not, ↓f_not, ↓b_and, ↓b_or, ↓f_and, ↓f_or, ↓b_tt, ↓b_ff, ↓f_tt, ↓f_ff, met_cons, met_nil, hyp_cons, hyp_nil, T.I, T.A, T.B, Int.toNat_zero, List.drop_zero, and_true, implies_true, VC.sem, spliceL_cast, shr_24_u32, shr_8_u32, shr_8_i32, shr_14_i32, shr_12_i32, shr_18_i32, shr_2_i32, shr_1_i32, shr_1_i64, shr_8_i64, shr_4_i64, shr_16_u32, shr_4_u8, shr_1_u8] at f1 f2
  have s1 := missK_step (k := ρ.i 1001)
  have s2 := missK_at (k := ρ.i 1001)
  simp only [vc51, ↓b_le, ↓b_lt, ↓b_eq, ↓b_aeq, ↓f_le, ↓f_lt, ↓f_eq, ↓f_aeq, ↓b_not, ↓f_not, ↓b_and, ↓b_or, ↓f_and, ↓f_or, ↓b_tt, ↓b_ff, ↓f_tt, ↓f_ff, met_cons, met_nil, hyp_cons, hyp_nil, T.I, T.A, T.B, Int.toNat_zero, List.drop_zero, and_true, implies_true, VC.sem, spliceL_cast, shr_24_u32, shr_8_u32, shr_8_i32, shr_14_i32, shr_12_i32, shr_18_i32, shr_2_i32, shr_1_i32, shr_1_i64, shr_8_i64, shr_4_i64, shr_16_u32, shr_4_u8, shr_1_u8, getD_at8, getD0_at8, za410, List.length_set, List.length_cons, List.length_nil]
  (repeat' (first | exact True.intro | refine And.intro ?_ ?_ | intro _)) <;> (try omega)
  · have hn := ‹¬ at8 (ρ.a 1001) _ = -1›
    rw [‹ρ.a 1001 = missK _›] at hn
    exact hn (s2 (by omega) (by omega))
  · rw [‹ρ.a 1001 = missK _›]; exact s1 (by omega) (by omega)
  · rw [‹ρ.a 1001 = missK _›, show ρ.i 1001 = 64 from by omega]
end
end Go.Proofs.YtljjbikbfeigdaaGreatDoor
