/- Part of the proof of FnGrayEdgesCardSaid: Contracts of the specification shown: the blocks of a gray image held against its samples. -/
import Derived.Test.YtljjbikbfeigdaaGreatDoorGe38
set_option linter.all false
namespace Go.Proofs.YtljjbikbfeigdaaGreatDoor
noncomputable section
open Go
theorem spK18_ok : ∀ f s, spK18 Tryz.prog f = some s → SpecOk Tryz.prog Z f s := deep_ok mixed drawsOk_prog noS_ok _ _
theorem rspK18_ok : ∀ f s, rspK18 f = some s → RSpecOk Tryz.prog Z f s := by
  intro f s h
  unfold rspK18 at h
  split at h
  · cases h; exact applyR_ok c21_ok
  · cases h; exact applyR_ok c22_ok
  · cases h
def vc13_1 : VC :=
 let t0 : T := .lit (-9223372036854775808)
 let t1 : T := .lit (9223372036854775807)
 let t2 : T := .lit (1)
 let t3 : T := .sub (.add (.iv 21) t2) t2
 let t4 : T := .tdiv t3 t2
 let t5 : T := .sub (.add (.iv 22) t2) t2
 let t6 : T := .tdiv t5 t2
 let t7 : T := .sub (.add (.iv 21) (.lit (8))) t2
 let t8 : T := .tdiv t7 (.lit (8))
 let t11 : T := .sub (.add (.iv 22) (.lit (8))) t2
 let t12 : T := .le t0 (.tdiv t11 (.lit (8)))
 let t13 : T := .le (.tdiv t11 (.lit (8))) t1
 let t14 : T := .add t4 (.lit (8))
 let t15 : T := .sub t14 t2
 let t16 : T := .tdiv t15 (.lit (8))
 let t17 : T := .add t6 (.lit (8))
 let t18 : T := .sub t17 t2
 let t19 : T := .tdiv t18 (.lit (8))
 let t20 : T := .mul t16 t19
 let t21 : T := .lit (0)
 let t22 : T := .tdiv (.iv 1000) t16
 let t24 : T := .le t4 (.lit (65535))
 let t26 : T := .le t6 (.lit (65535))
 let t27 : T := .eq (.len (.av 5)) (.mul t4 t6)
 let t28 : T := .tmod (.iv 1000) t16
 let t30 : T := .le t28 (.lit (65535))
 let t32 : T := .le t22 (.lit (65535))
 let t33 : T := .fa 90 (.mul (.lit (8)) t28) (.mul (.lit (8)) t22) t4 t6 (.av 5) (.alit []) (.alit []) (.alit [])
 let t34 : T := .mul t22 t8
 let t35 : T := .add t34 t28
 let t36 : T := .mul t35 (.lit (64))
 let t37 : T := .add t36 (.iv 2200)
 let t38 : T := .mul (.get (.av 7) t37) (.get (.av 30) (.iv 2200))
 let t39 : T := .mul t38 (.lit (1099511627776))
 let t40 : T := .sub t39 (.get (.fa 603 t21 t21 t21 t21 t33 (.alit []) (.alit []) (.alit [])) (.iv 2200))
 let t41 : T := .sub t21 t40
 let t42 : T := .add (.get (.av 30) (.iv 2200)) t2
 let t43 : T := .mul t42 (.lit (549755813888))
 let t44 : T := .add (.iv 2200) t2
 let t45 : T := .add (.iv 1000) t2
 let t46 : T := .sub t20 (.iv 1000)
 (.need [(.le t0 (.iv 21)), (.le (.iv 21) t1), (.le t0 (.add (.iv 21) t2)), (.le (.add (.iv 21) t2) t1), (.le t0 t3), (.le t3 t1), (.le t0 t4), (.le t4 t1), (.le t0 (.iv 22)), (.le (.iv 22) t1), (.le t0 (.add (.iv 22) t2)), (.le (.add (.iv 22) t2) t1), (.le t0 t5), (.le t5 t1), (.le t0 t6), (.le t6 t1)] (.need [(.le t0 (.add (.iv 21) (.lit (8)))), (.le (.add (.iv 21) (.lit (8))) t1), (.le t0 t7), (.le t7 t1), (.le t0 t8), (.le t8 t1), (.le t0 (.add (.iv 22) (.lit (8)))), (.le (.add (.iv 22) (.lit (8))) t1), (.le t0 t11), (.le t11 t1), t12, t13, (.le t0 t8), (.le t8 t1), t12, t13] (.need [(.le t0 t14), (.le t14 t1), (.le t0 t15), (.le t15 t1), (.le t0 t16), (.le t16 t1), (.le t0 t17), (.le t17 t1), (.le t0 t18), (.le t18 t1), (.le t0 t19), (.le t19 t1)] (.need [(.le t0 t20), (.le t20 t1)] (.need [(.le t21 t21), (.le t21 t20)] (.any 1000 3 [(.le t21 (.iv 1000)), (.le (.iv 1000) t20)] (.cond (.lt (.iv 1000) t20) (.need [(.not (.eq t16 t21))] (.need [(.le t0 t22), (.le t22 t1)] (.need [(.le t2 t4), t24, (.le t2 t6), t26, t27, (.le t21 t28), t30, (.le t21 t22), t32, (.le t2 t4), t24, (.le t2 t6), t26, t27, (.le t21 t28), t30, (.le t21 t22), t32] (.any 1400 3 [] (.need [(.eq (.len t33) (.lit (64))), (.fb 2 t21 (.lit (255)) t21 t21 t33 (.alit []) (.alit []) (.alit []))] (.any 1800 4 [] (.need [(.le t0 t34), (.le t34 t1)] (.need [(.le t0 t35), (.le t35 t1)] (.need [(.le t21 t35), (.lt t35 (.iv 23))] (.need [(.le t21 (.lit (64)))] (.any 2200 1000000005 [(.le t21 (.iv 2200)), (.le (.iv 2200) (.lit (64)))] (.cond (.lt (.iv 2200) (.lit (64))) (.need [(.le t21 t36)] (.need [(.le t21 t37), (.lt t37 (.len (.av 7)))] (.need [(.le t0 t38), (.le t38 t1), (.le t0 t39), (.le t39 t1), (.le t0 t40), (.le t40 t1), (.le t0 t41), (.le t41 t1), (.le t0 t42), (.le t42 t1), (.le t0 t43), (.le t43 t1)] (.cond (.not (.le (.mx t40 t41) t43)) (.need [.ff] .done) (.need [(.le t0 t44), (.le t44 t1)] (.need [(.le t21 t44), (.le t44 (.lit (64))), (.lt t21 (.sub (.lit (64)) (.iv 2200))), (.lt (.sub (.lit (64)) t44) (.sub (.lit (64)) (.iv 2200)))] .done)))))) (.need [(.le t0 t45), (.le t45 t1)] (.need [(.le t21 t45), (.le t45 t20), (.lt t21 t46), (.lt (.sub t20 t45) t46)] .done)))))))))))))) .done)))))))
theorem w13_1 : vcIs (vcOf Tryz.prog (spK18 Tryz.prog) rspK18 ⟨ltK18, fun _ => false⟩ 100000 13 (c13 true)) vc13_1 = true := by kernel_rfl
theorem zfb610 (x y z u : Int) (a b c d : List Int) : Z.fb 610 x y z u a b c d = codesOk x y z u a b c (e0 d) := id rfl
theorem blk_idx {m X Y A B : Int} (h0 : 0 ≤ m) (h1 : m < X * Y) (hX : 0 ≤ X) (hXA : X ≤ A) (hY : 0 ≤ Y) (hYB : Y ≤ B) :
    1 ≤ X ∧ 0 ≤ m.tdiv X ∧ m.tdiv X < Y ∧ 0 ≤ m.tmod X ∧ m.tmod X < X ∧ 0 ≤ m.tdiv X * A ∧ m.tdiv X * A + m.tmod X < A * B ∧ m.tdiv X ≤ m := by
  have hX1 : 1 ≤ X := by
    rcases Int.lt_or_le 0 X with h | h
    · omega
    · exfalso
      have : X = 0 := by omega
      subst this
      rw [Int.zero_mul] at h1; omega
  obtain ⟨q1, q2, q3, q4, q5, q6⟩ := idx_m h0 hX1
  have hr : m.tdiv X < Y := by
    apply Int.lt_of_mul_lt_mul_left (a := X) _ hX
    rw [Int.mul_comm X]; omega
  have g1 : (m.tdiv X + 1) * A ≤ B * A := Int.mul_le_mul_of_nonneg_right (by omega) (by omega)
  have g2 : 0 ≤ m.tdiv X * A := Int.mul_nonneg q2 (by omega)
  rw [Int.add_mul, Int.one_mul, Int.mul_comm B A] at g1
  exact ⟨hX1, q2, hr, q5, q6, g2, by omega, q3⟩
theorem codes_key {W H m k X Y A : Int} {pl bl q : List Int} (h : codesOk W H X Y pl bl q A = true) (hX : 0 ≤ X) (hY : 0 ≤ Y) (hA : 0 ≤ A) (h0 : 0 ≤ m) (h1 : m < X * Y) (k0 : 0 ≤ k) (k1 : k < 64) :
    imx (at8 bl ((m.tdiv X * A + m.tmod X) * 64 + k) * at8 q k * 1099511627776 - at8 (exactL (padL (8 * m.tmod X) (8 * m.tdiv X) W H pl)) k) (0 - (at8 bl ((m.tdiv X * A + m.tmod X) * 64 + k) * at8 q k * 1099511627776 - at8 (exactL (padL (8 * m.tmod X) (8 * m.tdiv X) W H pl)) k)) ≤ (at8 q k + 1) * 549755813888 := by
  obtain ⟨x, rfl⟩ := Int.eq_ofNat_of_zero_le hX
  obtain ⟨y, rfl⟩ := Int.eq_ofNat_of_zero_le hY
  obtain ⟨a, rfl⟩ := Int.eq_ofNat_of_zero_le hA
  obtain ⟨n, rfl⟩ := Int.eq_ofNat_of_zero_le h0
  obtain ⟨j, rfl⟩ := Int.eq_ofNat_of_zero_le k0
  have hn : n < x * y := by
    rw [← Int.natCast_mul] at h1; omega
  have := codes_at h (m := n) (by simpa using hn) (k := j) (by omega)
  rw [Int.toNat_natCast, Int.toNat_natCast] at this
  rw [Int.tdiv_eq_ediv_of_nonneg (by omega), Int.tmod_eq_emod_of_nonneg (by omega), ← Int.natCast_ediv, ← Int.natCast_emod]
  have e : (((n / x : Nat) : Int) * (a : Int) + ((n % x : Nat) : Int)) * 64 + (j : Int) = 64 * ((n / x * a + n % x : Nat) : Int) + (j : Int) := by
    rw [Int.natCast_add, Int.natCast_mul, Int.mul_comm _ 64]
  rw [e]
  exact of_decide_eq_true this
theorem exact_bnd {s : List Int} (hs : ∀ x ∈ s, 0 ≤ x ∧ x ≤ 255) (k : Int) : -2166096181624832 ≤ at8 (exactL s) k ∧ at8 (exactL s) k ≤ 2166096181624832 := by
  refine at8_all (fun x hx => ?_) (by decide) (by decide) k
  unfold exactL exP at hx
  obtain ⟨i, hi, rfl⟩ := List.mem_map.1 hx
  rw [if_pos (by rw [List.mem_range] at hi; omega)]
  refine at8_all (fun x hx => ?_) (by decide) (by decide) _
  unfold coefE accP at hx
  obtain ⟨i, hi, rfl⟩ := List.mem_map.1 hx
  have := csum_bnd (half_bnd hs) (i : Int) 8
  rw [if_pos (by rw [List.mem_range] at hi; omega)]
  omega
theorem padL_all {px py w h : Int} {pix : List Int} (ha : allIn 0 255 pix = true) : ∀ x ∈ padL px py w h pix, 0 ≤ x ∧ x ≤ 255 := by
  intro x hx
  unfold padL at hx
  obtain ⟨i, _, rfl⟩ := List.mem_map.1 hx
  exact at8_all (allIn_mem ha) (by decide) (by decide) _
set_option maxRecDepth 20000 in
set_option maxHeartbeats 2000000 in
theorem c13_1_ok : CtrOk Tryz.prog Z 13 (c13 true) := by
  refine ctr_prog spK18_ok rspK18_ok w13_1 fun ρ h => ?_
  simp only [c13, preG, frG, roB, allT, ed8, up8, dn8, z0, one, lenFacts, inR, List.flatMap_cons, List.flatMap_nil, List.append_nil, List.append_assoc, List.cons_append, List.nil_append, and_true, ↓b_le, ↓b_lt, ↓b_eq, ↓b_aeq, ↓f_le, ↓f_lt, ↓f_eq, ↓f_aeq, ↓b_not, ↓f_not, ↓b_and, ↓b_or, ↓f_and, ↓f_or, ↓b_tt, ↓b_ff, ↓f_tt, ↓f_ff, met_cons, met_nil, hyp_cons, hyp_nil, T.I, T.A, T.B, Int.toNat_zero, List.drop_zero, and_true, implies_true, VC.sem, spliceL_cast, shr_24_u32, shr_8_u32, shr_8_i32, shr_14_i32, shr_12_i32, shr_18_i32, shr_2_i32, shr_1_i32, shr_1_i64, shr_8_i64, shr_4_i64, shr_16_u32, shr_4_u8, shr_1_u8, zfb610] at h
  obtain ⟨h1, h2, h3, h4, h5, h6, h7, h8, h9, h10, h11, h12, h13, h14, h15, h16⟩ := h
  have ha : allIn 0 255 (ρ.a 5) = true := h7
  have hq : allIn 1 255 (ρ.a 30) = true := h13
  have hb := allIn_mem (show allIn (-1024) 1023 (ρ.a 7) = true from h14)
  have t1 := tdiv8 (x := ρ.i 21) (by omega)
  have t2 := tdiv8 (x := ρ.i 22) (by omega)
  have u1 : (ρ.i 21 + 7).tdiv 8 = (ρ.i 21 + 7) / 8 := Int.tdiv_eq_ediv_of_nonneg (by omega)
  have u2 : (ρ.i 22 + 7).tdiv 8 = (ρ.i 22 + 7) / 8 := Int.tdiv_eq_ediv_of_nonneg (by omega)
  have v1 : (ρ.i 21).tdiv 8 = ρ.i 21 / 8 := Int.tdiv_eq_ediv_of_nonneg (by omega)
  have v2 : (ρ.i 22).tdiv 8 = ρ.i 22 / 8 := Int.tdiv_eq_ediv_of_nonneg (by omega)
  simp only [vc13_1, ↓b_le, ↓b_lt, ↓b_eq, ↓b_aeq, ↓f_le, ↓f_lt, ↓f_eq, ↓f_aeq, ↓b_not, ↓f_not, ↓b_and, ↓b_or, ↓f_and, ↓f_or, ↓b_tt, ↓b_ff, ↓f_tt, ↓f_ff, met_cons, met_nil, hyp_cons, hyp_nil, T.I, T.A, T.B, Int.toNat_zero, List.drop_zero, and_true, implies_true, VC.sem, spliceL_cast, shr_24_u32, shr_8_u32, shr_8_i32, shr_14_i32, shr_12_i32, shr_18_i32, shr_2_i32, shr_1_i32, shr_1_i64, shr_8_i64, shr_4_i64, shr_16_u32, shr_4_u8, shr_1_u8, tdiv1, t1, t2, v1, v2, zfa90, zfa603, getD8]
  simp only [u1, u2, v1, v2] at h10 h15
  have h15' : codesOk (ρ.i 21) (ρ.i 22) ((ρ.i 21 + 7) / 8) ((ρ.i 22 + 7) / 8) (ρ.a 5) (ρ.a 7) (ρ.a 30) ((ρ.i 21 + 7) / 8) = true := h15
  have P1 : 0 ≤ ((ρ.i 21 + 7) / 8) * ((ρ.i 22 + 7) / 8) ∧ ((ρ.i 21 + 7) / 8) * ((ρ.i 22 + 7) / 8) ≤ 8192 * 8192 := ⟨Int.mul_nonneg (by omega) (by omega), Int.mul_le_mul (by omega) (by omega) (by omega) (by omega)⟩
  have P2 : 0 ≤ (ρ.i 21 + 7) / 8 * ((ρ.i 22 + 7) / 8) ∧ (ρ.i 21 + 7) / 8 * ((ρ.i 22 + 7) / 8) ≤ 8192 * 8192 := ⟨Int.mul_nonneg (by omega) (by omega), Int.mul_le_mul (by omega) (by omega) (by omega) (by omega)⟩
  have BI := fun (a : 0 ≤ ρ.i 1000) (b : ρ.i 1000 < ((ρ.i 21 + 7) / 8) * ((ρ.i 22 + 7) / 8)) => blk_idx (A := (ρ.i 21 + 7) / 8) (B := (ρ.i 22 + 7) / 8) a b (by omega) (by omega) (by omega) (by omega)
  have QB := at8_all (fun x hx => show 0 ≤ x ∧ x ≤ 255 from ⟨by have := allIn_mem hq x hx; omega, (allIn_mem hq x hx).2⟩) (by decide) (by decide) (ρ.i 2200)
  have BB := at8_all hb (by decide) (by decide) (((ρ.i 1000).tdiv ((ρ.i 21 + 7) / 8) * ((ρ.i 21 + 7) / 8) + (ρ.i 1000).tmod ((ρ.i 21 + 7) / 8)) * 64 + ρ.i 2200)
  have MB := mul_bnd (B := 1024) (C := 255) BB.1 (by omega) (by omega) QB.2
  have EB := exact_bnd (padL_all (px := 8 * (ρ.i 1000).tmod ((ρ.i 21 + 7) / 8)) (py := 8 * (ρ.i 1000).tdiv ((ρ.i 21 + 7) / 8)) (w := ρ.i 21) (h := ρ.i 22) ha) (ρ.i 2200)
  have KEY := fun (a : 0 ≤ ρ.i 1000) (b : ρ.i 1000 < ((ρ.i 21 + 7) / 8) * ((ρ.i 22 + 7) / 8)) (c : 0 ≤ ρ.i 2200) (d : ρ.i 2200 < 64) => codes_key h15' (by omega) (by omega) (by omega) a b c d
  (repeat' (first | with_reducible exact True.intro | with_reducible refine And.intro ?_ ?_ | intro _)) <;> (try omega)
  · rw [padL_len]; rfl
  · show allIn 0 255 _ = true
    unfold allIn
    rw [List.all_eq_true]
    intro x hx
    have := padL_all ha x hx
    simp only [Bool.and_eq_true, decide_eq_true_eq]; exact this
end
end Go.Proofs.YtljjbikbfeigdaaGreatDoor
