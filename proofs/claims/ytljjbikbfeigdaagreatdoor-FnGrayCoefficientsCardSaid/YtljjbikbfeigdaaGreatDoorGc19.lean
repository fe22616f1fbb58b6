/- Part of the proof of FnGrayCoefficientsCardSaid: Contracts of the specification's reader shown: bits, numbers, symbols. -/
import Derived.Test.YtljjbikbfeigdaaGreatDoorGc18
set_option linter.all false
namespace Go.Proofs.YtljjbikbfeigdaaGreatDoor
noncomputable section
open Go
theorem z200 (x y : Int) (D : List Int) : Z.fi 200 x y 0 0 D [] [] [] = rV D x y := id rfl
theorem z201 (x y : Int) (D : List Int) : Z.fi 201 x y 0 0 D [] [] [] = rAt D x y := id rfl
theorem z202 (x y : Int) (D : List Int) : Z.fi 202 x y 0 0 D [] [] [] = rUs y := id rfl
theorem zb200 (x y : Int) (D : List Int) : Z.fb 200 x y 0 0 D [] [] [] = rOk D x y := id rfl
theorem zb2 (x y : Int) (D : List Int) : Z.fb 2 x y 0 0 D [] [] [] = allIn x y D := id rfl
theorem fdiv_p2 {x : Int} {n : Nat} : x.fdiv (2 ^ n) = x / 2 ^ n := Int.fdiv_eq_ediv_of_nonneg _ (Int.le_of_lt (two_pos n))
theorem and1 {x : Int} (h0 : 0 ≤ x) (h1 : x ≤ 255) : bitsOf .and .i64 x 1 = x % 2 := by
  have key : ∀ a : Fin 256, bitsOf .and .i64 ((a.val : Nat) : Int) 1 = ((a.val : Nat) : Int) % 2 := by decide +kernel
  obtain ⟨a, rfl⟩ := Int.eq_ofNat_of_zero_le h0
  exact key ⟨a, by omega⟩
theorem div_byte {x : Int} {n : Nat} (h0 : 0 ≤ x) (h1 : x ≤ 255) : 0 ≤ x / 2 ^ n ∧ x / 2 ^ n ≤ 255 := by
  have hp := two_pos n
  refine ⟨Int.ediv_nonneg h0 (by omega), ?_⟩
  have : x / 2 ^ n ≤ x := Int.ediv_le_self _ h0
  omega
theorem rV_eq {D : List Int} {a u : Int} (h0 : 0 ≤ at8 D a) (h1 : at8 D a ≤ 255) (hu : 0 ≤ u) (hu2 : u ≤ 7) : bitsOf .and .i64 ((at8 D a).fdiv (2 ^ min (7 - u).toNat IntKind.u8.bits)) 1 = rV D a u ∧ 0 ≤ (at8 D a).fdiv (2 ^ min (7 - u).toNat IntKind.u8.bits) ∧ (at8 D a).fdiv (2 ^ min (7 - u).toNat IntKind.u8.bits) ≤ 255 := by
  have hm : min (7 - u).toNat IntKind.u8.bits = (7 - u).toNat := by show min _ 8 = _; omega
  rw [hm, fdiv_p2]
  have hb := div_byte (n := (7 - u).toNat) h0 h1
  exact ⟨and1 hb.1 hb.2, hb⟩
theorem getD_at8 (D : List Int) (n : Int) : D.getD n.toNat 0 = at8 D n := rfl
def vc76 : VC :=
 let t0 : T := .fi 202 (.iv 0) (.iv 1) (.lit (0)) (.lit (0)) (.av 1) (.alit []) (.alit []) (.alit [])
 let t1 : T := .eq t0 (.iv 1)
 let t2 : T := .fi 201 (.iv 0) (.iv 1) (.lit (0)) (.lit (0)) (.av 1) (.alit []) (.alit []) (.alit [])
 let t3 : T := .eq t2 (.iv 0)
 let t4 : T := .fi 200 (.iv 0) (.iv 1) (.lit (0)) (.lit (0)) (.av 1) (.alit []) (.alit []) (.alit [])
 let t5 : T := .eq t4 (.lit (0))
 let t6 : T := .lit (-9223372036854775808)
 let t7 : T := .add (.iv 0) (.lit (1))
 let t8 : T := .lit (9223372036854775807)
 let t9 : T := .sub (.lit (7)) (.iv 1)
 let t10 : T := .shr .u8 (.get (.av 1) (.iv 0)) t9
 let t13 : T := .add (.iv 1) (.lit (1))
 let t14 : T := .add t7 (.lit (1))
 let t16 : T := .eq t4 (.bits .and .i64 t10 (.lit (1)))
 (.need [(.le (.lit (0)) (.iv 6))] (.cond (.le (.iv 6) (.iv 0)) (.need [t1, t3, t5, .ff] .done) (.need [(.lt (.iv 0) (.iv 6))] (.need [(.lt (.iv 0) (.len (.av 1)))] (.cond (.eq (.get (.av 1) (.iv 0)) (.lit (255))) (.need [(.le t6 t7), (.le t7 t8)] (.cond (.le (.iv 6) t7) (.need [t1, t3, t5, .ff] .done) (.need [(.le (.lit (0)) t7), (.lt t7 (.iv 6))] (.need [(.lt t7 (.len (.av 1)))] (.cond (.not (.eq (.get (.av 1) t7) (.lit (0)))) (.need [t1, t3, t5, .ff] .done) (.need [(.le t6 t9), (.le t9 t8)] (.need [(.le (.lit (0)) t9)] (.need [(.le t6 t10), (.le t10 t8)] (.need [(.le t6 t13), (.le t13 t8)] (.cond (.eq t13 (.lit (8))) (.need [(.le t6 t14), (.le t14 t8)] (.need [(.eq t0 (.lit (0))), (.eq t2 t14), t16] .done)) (.need [(.eq t0 t13), t3, t16] .done))))))))))) (.need [(.le t6 t9), (.le t9 t8)] (.need [(.le (.lit (0)) t9)] (.need [(.le t6 t10), (.le t10 t8)] (.need [(.le t6 t13), (.le t13 t8)] (.cond (.eq t13 (.lit (8))) (.need [(.le t6 t7), (.le t7 t8)] (.need [(.eq t0 (.lit (0))), (.eq t2 t7), t16] .done)) (.need [(.eq t0 t13), t3, t16] .done)))))))))))
theorem w76 : vcIs (vcOf Tryz.prog noS noR ⟨ltK6 0, inlK6⟩ 100000 76 c76) vc76 = true := by kernel_rfl
theorem c76_ok : CtrOk Tryz.prog Z 76 c76 := by
  refine ctr_prog noS_ok noR_ok w76 fun ρ h => ?_
  simp only [c76, bS, scanC, prV, bD, preR, preD, fD, fbD, allT, z0, lim, zb2, zb200, lenFacts, inR, List.flatMap_cons, List.flatMap_nil, List.append_nil, List.append_assoc, List.cons_append, List.nil_append, and_true, ↓b_le, ↓b_lt, ↓b_eq, ↓b_aeq, ↓f_le, ↓f_lt, ↓f_eq, ↓f_aeq, ↓b_not, ↓f_not, ↓b_and, ↓b_or, ↓f_and, ↓f_or, ↓b_tt, ↓b_ff, ↓f_tt, ↓f_ff, met_cons, met_nil, hyp_cons, hyp_nil, T.I, T.A, T.B, Int.toNat_zero, List.drop_zero, and_true, implies_true, VC.sem, spliceL_cast, shr_24_u32, shr_8_u32, shr_8_i32, shr_14_i32, shr_12_i32, shr_18_i32, shr_2_i32, shr_1_i32, shr_1_i64, shr_8_i64, shr_4_i64, shr_16_u32, shr_4_u8, shr_1_u8] at h
  obtain ⟨h1, h2, h3, h4, h5, h6, h7, h8⟩ := h
  simp only [rOk, Bool.and_eq_true, Bool.or_eq_true, decide_eq_true_eq] at h8
  have hb := allIn_at h4 (n := ρ.i 0) (by omega) (by omega)
  obtain ⟨v1, v2, v3⟩ := rV_eq hb.1 hb.2 h6 h7
  simp only [vc76, ↓b_le, ↓b_lt, ↓b_eq, ↓b_aeq, ↓f_le, ↓f_lt, ↓f_eq, ↓f_aeq, ↓b_not, ↓f_not, ↓b_and, ↓b_or, ↓f_and, ↓f_or, ↓b_tt, ↓b_ff, ↓f_tt, ↓f_ff, met_cons, met_nil, hyp_cons, hyp_nil, T.I, T.A, T.B, Int.toNat_zero, List.drop_zero, and_true, implies_true, VC.sem, spliceL_cast, shr_24_u32, shr_8_u32, shr_8_i32, shr_14_i32, shr_12_i32, shr_18_i32, shr_2_i32, shr_1_i32, shr_1_i64, shr_8_i64, shr_4_i64, shr_16_u32, shr_4_u8, shr_1_u8, getD_at8, z200, z201, z202, v1, rAt, rUs]
  (repeat' (first | refine And.intro ?_ ?_ | intro _)) <;> (try trivial) <;> (try omega) <;> (try (simp only [imn, imx, cond_ieq, IntKind.wrap_u32, IntKind.wrap_i32, IntKind.wrap_u8] at *; omega))
theorem spG_ok : ∀ f s, spG f = some s → SpecOk Tryz.prog Z f s := by
  intro f s h
  unfold spG at h
  split at h
  · cases h; exact applyF_ok c76_ok
  · cases h
theorem z209 (x : Int) (D : List Int) : Z.fi 209 x 0 0 0 D [] [] [] = 2 ^ x.toNat - 1 := id rfl
theorem zb203 (x y z : Int) (D : List Int) : Z.fb 203 x y z 0 D [] [] [] = numOk D x.toNat y z := id rfl
theorem za203 (x y z u : Int) (D : List Int) : Z.fa 203 x y z u D [] [] [] = numL D x.toNat y z u := id rfl
theorem z204 (x y z : Int) (D : List Int) : Z.fi 204 x y z 0 D [] [] [] = e0 (numL D x.toNat 0 y z) := id rfl
theorem z205 (x y z : Int) (D : List Int) : Z.fi 205 x y z 0 D [] [] [] = e1 (numL D x.toNat 0 y z) := id rfl
theorem z206 (x y z : Int) (D : List Int) : Z.fi 206 x y z 0 D [] [] [] = e2 (numL D x.toNat 0 y z) := id rfl
theorem z208 (x y z : Int) (D : List Int) : Z.fi 208 x y z 0 D [] [] [] = sgn x (e0 (numL D x.toNat 0 y z)) := id rfl
theorem rV_01 (D : List Int) (a u : Int) : 0 ≤ rV D a u ∧ rV D a u ≤ 1 := by unfold rV; omega
theorem rAt_nn {D : List Int} {a u : Int} (h : 0 ≤ a) : 0 ≤ rAt D a u := by unfold rAt; split <;> (try split) <;> omega
theorem rUs_rng {u : Int} (h0 : 0 ≤ u) (h1 : u ≤ 7) : 0 ≤ rUs u ∧ rUs u ≤ 7 := by unfold rUs; split <;> omega
theorem or1 {v b : Int} (h0 : 0 ≤ v) (h1 : v ≤ 1099511627776) (hb : 0 ≤ b) (hb1 : b ≤ 1) : bitsOf .or .i64 (v * 2) b = 2 * v + b := by
  obtain ⟨v, rfl⟩ := Int.eq_ofNat_of_zero_le h0
  obtain ⟨b, rfl⟩ := Int.eq_ofNat_of_zero_le hb
  have e : ((v : Int) * 2) = ((2 ^ 1 * v : Nat) : Int) := by omega
  rw [e]
  have key : ((BitVec.ofInt 64 ((2 ^ 1 * v : Nat) : Int) ||| BitVec.ofInt 64 (b : Int) : BitVec 64)).toNat = 2 ^ 1 * v + b := by
    rw [BitVec.ofInt_natCast, BitVec.ofInt_natCast, BitVec.toNat_or, BitVec.toNat_ofNat, BitVec.toNat_ofNat, Nat.mod_eq_of_lt (by omega : 2 ^ 1 * v < 2 ^ 64), Nat.mod_eq_of_lt (by omega : b < 2 ^ 64), ← Nat.two_pow_add_eq_or_of_lt (by omega : b < 2 ^ 1)]
  show IntKind.i64.wrap ((((BitVec.ofInt 64 ((2 ^ 1 * v : Nat) : Int) ||| BitVec.ofInt 64 (b : Int) : BitVec 64)).toNat : Nat) : Int) = _
  rw [key, IntKind.wrap_i64]
  omega
theorem numOk_step {D : List Int} {m a u : Int} (h : 0 < m) : numOk D m.toNat a u = (rOk D a u && numOk D (m - 1).toNat (rAt D a u) (rUs u)) := by
  rw [show m.toNat = (m - 1).toNat + 1 from by omega]; rfl
theorem numL_step {D : List Int} {m v a u : Int} (h : 0 < m) : numL D m.toNat v a u = numL D (m - 1).toNat (2 * v + rV D a u) (rAt D a u) (rUs u) := by
  rw [show m.toNat = (m - 1).toNat + 1 from by omega]; rfl
theorem pow_step {m : Int} (h : 0 ≤ m) : (2 : Int) ^ (m + 1).toNat = 2 * 2 ^ m.toNat := by
  rw [show (m + 1).toNat = m.toNat + 1 from by omega, Int.pow_succ, Int.mul_comm]
theorem pow_le16 {m : Int} (h1 : m ≤ 16) : (2 : Int) ^ m.toNat ≤ 65536 := by
  have := Nat.pow_le_pow_right (show 0 < 2 by omega) (show m.toNat ≤ 16 by omega)
  have e : ((2 ^ m.toNat : Nat) : Int) = (2 : Int) ^ m.toNat := by simp
  omega
def vc103 : VC :=
 let t0 : T := .lit (0)
 let t1 : T := .alit []
 let t2 : T := .fa 203 (.iv 2) t0 (.iv 0) (.iv 1) (.av 1) t1 t1 t1
 let t3 : T := .sub (.iv 2) (.iv 1001)
 let t4 : T := .add (.iv 1001) (.lit (1))
 let t5 : T := .bits .or .i64 (.mul (.iv 1000) (.lit (2))) (.fi 200 (.iv 1002) (.iv 1003) t0 t0 (.av 1) t1 t1 t1)
 let t6 : T := .fi 201 (.iv 1002) (.iv 1003) t0 t0 (.av 1) t1 t1 t1
 let t7 : T := .fi 202 (.iv 1002) (.iv 1003) t0 t0 (.av 1) t1 t1 t1
 let t8 : T := .sub (.iv 2) t4
 (.need [(.le t0 t0), (.le t0 t0), (.le t0 (.fi 209 t0 t0 t0 t0 (.av 1) t1 t1 t1)), (.fb 203 (.sub (.iv 2) t0) (.iv 0) (.iv 1) t0 (.av 1) t1 t1 t1), (.aeq (.fa 203 (.sub (.iv 2) t0) t0 (.iv 0) (.iv 1) (.av 1) t1 t1 t1) t2)] (.any 1000 1000000000 [(.le t0 (.iv 1001)), (.le (.iv 1001) (.iv 2)), (.le t0 (.iv 1000)), (.le (.iv 1000) (.fi 209 (.iv 1001) t0 t0 t0 (.av 1) t1 t1 t1)), (.le t0 (.iv 1002)), (.le t0 (.iv 1003)), (.le (.iv 1003) (.lit (7))), (.fb 203 t3 (.iv 1002) (.iv 1003) t0 (.av 1) t1 t1 t1), (.aeq (.fa 203 t3 (.iv 1000) (.iv 1002) (.iv 1003) (.av 1) t1 t1 t1) t2)] (.cond (.lt (.iv 1001) (.iv 2)) (.need [(.le (.lit (-9223372036854775808)) (.mul (.iv 1000) (.lit (2)))), (.le (.mul (.iv 1000) (.lit (2))) (.lit (9223372036854775807)))] (.need [(.fb 200 (.iv 1002) (.iv 1003) t0 t0 (.av 1) t1 t1 t1)] (.need [(.le (.lit (-9223372036854775808)) t4), (.le t4 (.lit (9223372036854775807)))] (.need [(.le t0 t4), (.le t4 (.iv 2)), (.le t0 t5), (.le t5 (.fi 209 t4 t0 t0 t0 (.av 1) t1 t1 t1)), (.le t0 t6), (.le t0 t7), (.le t7 (.lit (7))), (.fb 203 t8 t6 t7 t0 (.av 1) t1 t1 t1), (.aeq (.fa 203 t8 t5 t6 t7 (.av 1) t1 t1 t1) t2), (.lt t0 t3), (.lt t8 t3)] .done)))) (.need [(.eq (.fi 206 (.iv 2) (.iv 0) (.iv 1) t0 (.av 1) t1 t1 t1) (.iv 1003)), (.eq (.fi 205 (.iv 2) (.iv 0) (.iv 1) t0 (.av 1) t1 t1 t1) (.iv 1002)), (.eq (.fi 204 (.iv 2) (.iv 0) (.iv 1) t0 (.av 1) t1 t1 t1) (.iv 1000))] .done))))
theorem w103 : vcIs (vcOf Tryz.prog spG noR ⟨ltK6 0, inlK6⟩ 100000 103 c103) vc103 = true := by kernel_rfl
theorem c103_ok : CtrOk Tryz.prog Z 103 c103 := by
  refine ctr_prog spG_ok noR_ok w103 fun ρ h => ?_
  simp only [c103, bS, scanC, prV, bD, preR, preD, fD, fbD, allT, z0, lim, zb2, zb203, lenFacts, inR, List.flatMap_cons, List.flatMap_nil, List.append_nil, List.append_assoc, List.cons_append, List.nil_append, and_true, ↓b_le, ↓b_lt, ↓b_eq, ↓b_aeq, ↓f_le, ↓f_lt, ↓f_eq, ↓f_aeq, ↓b_not, ↓f_not, ↓b_and, ↓b_or, ↓f_and, ↓f_or, ↓b_tt, ↓b_ff, ↓f_tt, ↓f_ff, met_cons, met_nil, hyp_cons, hyp_nil, T.I, T.A, T.B, Int.toNat_zero, List.drop_zero, and_true, implies_true, VC.sem, spliceL_cast, shr_24_u32, shr_8_u32, shr_8_i32, shr_14_i32, shr_12_i32, shr_18_i32, shr_2_i32, shr_1_i32, shr_1_i64, shr_8_i64, shr_4_i64, shr_16_u32, shr_4_u8, shr_1_u8] at h
  obtain ⟨h1, h2, h3, h4, h5, h6, h7, h8, h9, h10⟩ := h
  have p1 := pow_step (m := ρ.i 1001)
  have p2 := pow_le16 (m := ρ.i 1001)
  have r1 := rV_01 (ρ.a 1) (ρ.i 1002) (ρ.i 1003)
  have r2 := rAt_nn (D := ρ.a 1) (a := ρ.i 1002) (u := ρ.i 1003)
  have r3 := rUs_rng (u := ρ.i 1003)
  have r4 := fun h0 h1 => or1 (v := ρ.i 1000) (b := rV (ρ.a 1) (ρ.i 1002) (ρ.i 1003)) h0 h1 r1.1 r1.2
  simp only [vc103, ↓b_le, ↓b_lt, ↓b_eq, ↓b_aeq, ↓f_le, ↓f_lt, ↓f_eq, ↓f_aeq, ↓b_not, ↓f_not, ↓b_and, ↓b_or, ↓f_and, ↓f_or, ↓b_tt, ↓b_ff, ↓f_tt, ↓f_ff, met_cons, met_nil, hyp_cons, hyp_nil, T.I, T.A, T.B, Int.toNat_zero, List.drop_zero, and_true, implies_true, VC.sem, spliceL_cast, shr_24_u32, shr_8_u32, shr_8_i32, shr_14_i32, shr_12_i32, shr_18_i32, shr_2_i32, shr_1_i32, shr_1_i64, shr_8_i64, shr_4_i64, shr_16_u32, shr_4_u8, shr_1_u8, z200, z201, z202, z204, z205, z206, z209, zb200, zb203, za203, Int.sub_zero]
  (repeat' (first | refine And.intro ?_ ?_ | intro _)) <;> (try trivial) <;> (try omega)
  · have e := ‹numOk (ρ.a 1) (ρ.i 2 - ρ.i 1001).toNat (ρ.i 1002) (ρ.i 1003) = true›
    rw [numOk_step (by omega), Bool.and_eq_true] at e
    exact e.1
  · have e := ‹numOk (ρ.a 1) (ρ.i 2 - ρ.i 1001).toNat (ρ.i 1002) (ρ.i 1003) = true›
    rw [numOk_step (by omega), Bool.and_eq_true] at e
    rw [show ρ.i 2 - (ρ.i 1001 + 1) = ρ.i 2 - ρ.i 1001 - 1 from by omega]
    exact e.2
  · rw [r4 (by omega) (by omega), show ρ.i 2 - (ρ.i 1001 + 1) = ρ.i 2 - ρ.i 1001 - 1 from by omega, ← numL_step (by omega)]
    assumption
  · have e := ‹numL (ρ.a 1) (ρ.i 2 - ρ.i 1001).toNat _ _ _ = _›
    rw [show (ρ.i 2 - ρ.i 1001).toNat = 0 from by omega] at e
    rw [← e]; rfl
  · have e := ‹numL (ρ.a 1) (ρ.i 2 - ρ.i 1001).toNat _ _ _ = _›
    rw [show (ρ.i 2 - ρ.i 1001).toNat = 0 from by omega] at e
    rw [← e]; rfl
  · have e := ‹numL (ρ.a 1) (ρ.i 2 - ρ.i 1001).toNat _ _ _ = _›
    rw [show (ρ.i 2 - ρ.i 1001).toNat = 0 from by omega] at e
    rw [← e]; rfl
theorem spH_ok : ∀ f s, spH f = some s → SpecOk Tryz.prog Z f s := by
  intro f s h
  unfold spH at h
  split at h
  · cases h; exact applyF_ok c103_ok
  · cases h
theorem numL_rng (D : List Int) : ∀ (n : Nat) (v a u : Int), 0 ≤ v → 0 ≤ e0 (numL D n v a u) ∧ e0 (numL D n v a u) < (v + 1) * 2 ^ n
  | 0, v, a, u, h => by simp only [numL, e0]; simp; omega
  | n + 1, v, a, u, h => by
    have r := rV_01 D a u
    have ih := numL_rng D n (2 * v + rV D a u) (rAt D a u) (rUs u) (by omega)
    refine ⟨ih.1, ?_⟩
    simp only [numL]
    refine Int.lt_of_lt_of_le ih.2 ?_
    have hp := two_pos n
    have : (2 * v + rV D a u + 1) * 2 ^ n ≤ (2 * (v + 1)) * 2 ^ n := Int.mul_le_mul_of_nonneg_right (by omega) (by omega)
    rw [Int.pow_succ]
    have e : (v + 1) * (2 ^ n * 2) = (2 * (v + 1)) * 2 ^ n := by rw [Int.mul_comm (2 ^ n) 2, ← Int.mul_assoc, Int.mul_comm (v + 1) 2]
    omega
def vc101 : VC :=
 let t0 : T := .lit (-9223372036854775808)
 let t1 : T := .sub (.iv 2) (.lit (1))
 let t2 : T := .lit (9223372036854775807)
 let t3 : T := .shl .i64 (.lit (1)) t1
 let t4 : T := .fi 204 (.iv 2) (.iv 0) (.iv 1) (.lit (0)) (.av 1) (.alit []) (.alit []) (.alit [])
 let t6 : T := .not (.lt t4 t3)
 let t7 : T := .sub (.shl .i64 (.lit (1)) (.iv 2)) (.lit (1))
 let t8 : T := .sub t4 t7
 let t9 : T := .fi 208 (.iv 2) (.iv 0) (.iv 1) (.lit (0)) (.av 1) (.alit []) (.alit []) (.alit [])
 (.cond (.lt (.lit (0)) (.iv 2)) (.need [(.le t0 t1), (.le t1 t2)] (.need [(.le (.lit (0)) t1), (.le t0 t3), (.le t3 t2)] (.need [(.or t6 (.le (.lit (0)) (.iv 2))), (.or t6 (.le t0 (.shl .i64 (.lit (1)) (.iv 2)))), (.or t6 (.le (.shl .i64 (.lit (1)) (.iv 2)) t2)), (.or t6 (.le t0 t7)), (.or t6 (.le t7 t2)), (.or t6 (.le t0 t8)), (.or t6 (.le t8 t2))] (.need [(.eq t9 (.ite (.lt t4 t3) t8 t4))] .done)))) (.need [(.eq t9 t4)] .done))
theorem w101 : vcIs (vcOf Tryz.prog spH noR ⟨ltK6 0, inlK6⟩ 100000 101 c101) vc101 = true := by kernel_rfl
theorem shl_i64 {n : Int} (h1 : n ≤ 63) : (1 : Int) * 2 ^ min n.toNat IntKind.i64.bits = 2 ^ n.toNat := by
  rw [Int.one_mul, show min n.toNat IntKind.i64.bits = n.toNat from by show min _ 64 = _; omega]
theorem c101_ok : CtrOk Tryz.prog Z 101 c101 := by
  refine ctr_prog spH_ok noR_ok w101 fun ρ h => ?_
  simp only [c101, c103, bS, scanC, prV, bD, preR, preD, fD, fbD, allT, z0, lim, zb2, zb203, lenFacts, inR, List.flatMap_cons, List.flatMap_nil, List.append_nil, List.append_assoc, List.cons_append, List.nil_append, and_true, ↓b_le, ↓b_lt, ↓b_eq, ↓b_aeq, ↓f_le, ↓f_lt, ↓f_eq, ↓f_aeq, ↓b_not, ↓f_not, ↓b_and, ↓b_or, ↓f_and, ↓f_or, ↓b_tt, ↓b_ff, ↓f_tt, ↓f_ff, met_cons, met_nil, hyp_cons, hyp_nil, T.I, T.A, T.B, Int.toNat_zero, List.drop_zero, and_true, implies_true, VC.sem, spliceL_cast, shr_24_u32, shr_8_u32, shr_8_i32, shr_14_i32, shr_12_i32, shr_18_i32, shr_2_i32, shr_1_i32, shr_1_i64, shr_8_i64, shr_4_i64, shr_16_u32, shr_4_u8, shr_1_u8] at h
  obtain ⟨h1, h2, h3, h4, h5, h6, h7, h8, h9, h10⟩ := h
  have s1 := shl_i64 (n := ρ.i 2) (by omega)
  have s2 := shl_i64 (n := ρ.i 2 - 1) (by omega)
  have p1 := pow_le16 h9
  have p2 := pow_le16 (m := ρ.i 2 - 1) (by omega)
  have q1 := two_pos (ρ.i 2).toNat
  have q2 := two_pos (ρ.i 2 - 1).toNat
  have q3 := numL_rng (ρ.a 1) (ρ.i 2).toNat 0 (ρ.i 0) (ρ.i 1) (by omega)
  simp only [vc101, ↓b_le, ↓b_lt, ↓b_eq, ↓b_aeq, ↓f_le, ↓f_lt, ↓f_eq, ↓f_aeq, ↓b_not, ↓f_not, ↓b_and, ↓b_or, ↓f_and, ↓f_or, ↓b_tt, ↓b_ff, ↓f_tt, ↓f_ff, met_cons, met_nil, hyp_cons, hyp_nil, T.I, T.A, T.B, Int.toNat_zero, List.drop_zero, and_true, implies_true, VC.sem, spliceL_cast, shr_24_u32, shr_8_u32, shr_8_i32, shr_14_i32, shr_12_i32, shr_18_i32, shr_2_i32, shr_1_i32, shr_1_i64, shr_8_i64, shr_4_i64, shr_16_u32, shr_4_u8, shr_1_u8, z204, z205, z206, z208, zb203, s1, s2, sgn, cond_ilt]
  (repeat' (first | refine And.intro ?_ ?_ | intro _)) <;> (try trivial) <;> (try omega)
theorem z220 (x y : Int) (D : List Int) : Z.fi 220 x y 0 0 D [] [] [] = e0 (sym1 (cnt 0) (syms 0) D x y) := id rfl
theorem z230 (x y : Int) (D : List Int) : Z.fi 230 x y 0 0 D [] [] [] = e1 (sym1 (cnt 0) (syms 0) D x y) := id rfl
theorem z240 (x y : Int) (D : List Int) : Z.fi 240 x y 0 0 D [] [] [] = e2 (sym1 (cnt 0) (syms 0) D x y) := id rfl
theorem zb220 (x y : Int) (D : List Int) : Z.fb 220 x y 0 0 D [] [] [] = sym1Ok (cnt 0) (syms 0) D x y := id rfl
theorem zb210 (x y z u a v : Int) (D : List Int) : Z.fb 210 x y z u D ([a] ++ [v]) [] [] = symOk (cnt 0) (syms 0) D (17 - x).toNat y z u a v := id rfl
theorem za210 (x y z u a v : Int) (D : List Int) : Z.fa 210 x y z u D ([a] ++ [v]) [] [] = symL (cnt 0) (syms 0) D (17 - x).toNat y z u a v := id rfl
theorem za300 : Z.fa 300 0 0 0 0 [] [] [] [] = cnt 0 := id rfl
theorem za310 : Z.fa 310 0 0 0 0 [] [] [] [] = syms 0 := id rfl
theorem z221 (x y : Int) (D : List Int) : Z.fi 221 x y 0 0 D [] [] [] = e0 (sym1 (cnt 1) (syms 1) D x y) := id rfl
theorem z231 (x y : Int) (D : List Int) : Z.fi 231 x y 0 0 D [] [] [] = e1 (sym1 (cnt 1) (syms 1) D x y) := id rfl
theorem z241 (x y : Int) (D : List Int) : Z.fi 241 x y 0 0 D [] [] [] = e2 (sym1 (cnt 1) (syms 1) D x y) := id rfl
theorem zb221 (x y : Int) (D : List Int) : Z.fb 221 x y 0 0 D [] [] [] = sym1Ok (cnt 1) (syms 1) D x y := id rfl
theorem zb211 (x y z u a v : Int) (D : List Int) : Z.fb 211 x y z u D ([a] ++ [v]) [] [] = symOk (cnt 1) (syms 1) D (17 - x).toNat y z u a v := id rfl
theorem za211 (x y z u a v : Int) (D : List Int) : Z.fa 211 x y z u D ([a] ++ [v]) [] [] = symL (cnt 1) (syms 1) D (17 - x).toNat y z u a v := id rfl
theorem za301 : Z.fa 301 0 0 0 0 [] [] [] [] = cnt 1 := id rfl
theorem za311 : Z.fa 311 0 0 0 0 [] [] [] [] = syms 1 := id rfl
theorem symOk_step {cs sy D : List Int} {l code first index a u : Int} (h : l ≤ 16) : symOk cs sy D (17 - l).toNat code first index a u =
    (rOk D a u && (if 2 * code + rV D a u - first < at8 cs l then decide (0 ≤ index + (2 * code + rV D a u) - first) && decide (index + (2 * code + rV D a u) - first < sy.length)
      else symOk cs sy D (17 - (l + 1)).toNat (2 * code + rV D a u) (2 * (first + at8 cs l)) (index + at8 cs l) (rAt D a u) (rUs u))) := by
  rw [show (17 - l).toNat = (16 - l).toNat + 1 from by omega, show (17 - (l + 1)).toNat = (16 - l).toNat from by omega]
  simp only [symOk]
  rw [show (16 : Int) - ((16 - l).toNat : Int) = l from by omega]
theorem symL_step {cs sy D : List Int} {l code first index a u : Int} (h : l ≤ 16) : symL cs sy D (17 - l).toNat code first index a u =
    (if 2 * code + rV D a u - first < at8 cs l then [at8 sy (index + (2 * code + rV D a u) - first), rAt D a u, rUs u]
      else symL cs sy D (17 - (l + 1)).toNat (2 * code + rV D a u) (2 * (first + at8 cs l)) (index + at8 cs l) (rAt D a u) (rUs u)) := by
  rw [show (17 - l).toNat = (16 - l).toNat + 1 from by omega, show (17 - (l + 1)).toNat = (16 - l).toNat from by omega]
  simp only [symL]
  rw [show (16 : Int) - ((16 - l).toNat : Int) = l from by omega]
theorem symOk_end {cs sy D : List Int} {l code first index a u : Int} (h : 16 < l) : symOk cs sy D (17 - l).toNat code first index a u = false := by
  rw [show (17 - l).toNat = 0 from by omega]; rfl
theorem cnt_all : (List.range 4).all (fun h => (cnt h).all fun x => decide (0 ≤ x) && decide (x ≤ 162)) = true := by decide +kernel
theorem cnt_rng {h : Nat} (hh : h < 4) (l : Int) : 0 ≤ at8 (cnt h) l ∧ at8 (cnt h) l ≤ 162 := by
  have h1 := List.all_eq_true.1 cnt_all h (List.mem_range.2 hh)
  unfold at8
  rw [List.getD_eq_getElem?_getD]
  cases hi : (cnt h)[l.toNat]? with
  | none => simp
  | some x =>
    have := List.all_eq_true.1 h1 x (List.mem_of_getElem? hi)
    simp only [Bool.and_eq_true, decide_eq_true_eq] at this
    exact this
def vc102_0 : VC :=
 let t0 : T := .lit (1)
 let t1 : T := .lit (0)
 let t2 : T := .alit []
 let t3 : T := .fi 209 (.sub t0 t0) t1 t1 t1 (.av 1) t2 t2 t2
 let t4 : T := .splice (.set (.alit [0]) t1 (.iv 0)) (.len (.set (.alit [0]) t1 (.iv 0))) (.set (.alit [0]) t1 (.iv 1))
 let t5 : T := .fa 210 t0 t1 t1 t1 (.av 1) t4 t2 t2
 let t6 : T := .fi 209 (.sub (.iv 1003) t0) t1 t1 t1 (.av 1) t2 t2 t2
 let t7 : T := .splice (.set (.alit [0]) t1 (.iv 1004)) (.len (.set (.alit [0]) t1 (.iv 1004))) (.set (.alit [0]) t1 (.iv 1005))
 let t8 : T := .lit (-9223372036854775808)
 let t9 : T := .lit (9223372036854775807)
 let t10 : T := .bits .or .i64 (.mul (.iv 1000) (.lit (2))) (.fi 200 (.iv 1004) (.iv 1005) t1 t1 (.av 1) t2 t2 t2)
 let t11 : T := .sub t10 (.iv 1001)
 let t12 : T := .get (.fa 300 t1 t1 t1 t1 t2 t2 t2 t2) (.iv 1003)
 let t13 : T := .add (.iv 1002) t10
 let t14 : T := .sub t13 (.iv 1001)
 let t15 : T := .fa 310 t1 t1 t1 t1 t2 t2 t2 t2
 let t16 : T := .fi 240 (.iv 0) (.iv 1) t1 t1 (.av 1) t2 t2 t2
 let t17 : T := .fi 202 (.iv 1004) (.iv 1005) t1 t1 (.av 1) t2 t2 t2
 let t18 : T := .fi 230 (.iv 0) (.iv 1) t1 t1 (.av 1) t2 t2 t2
 let t19 : T := .fi 201 (.iv 1004) (.iv 1005) t1 t1 (.av 1) t2 t2 t2
 let t20 : T := .fi 220 (.iv 0) (.iv 1) t1 t1 (.av 1) t2 t2 t2
 let t21 : T := .add (.iv 1002) t12
 let t22 : T := .add (.iv 1001) t12
 let t23 : T := .mul t22 (.lit (2))
 let t24 : T := .add (.iv 1003) t0
 let t25 : T := .fi 209 (.sub t24 t0) t1 t1 t1 (.av 1) t2 t2 t2
 let t26 : T := .set (.alit [0]) t1 t19
 let t27 : T := .splice t26 (.len t26) (.set (.alit [0]) t1 t17)
 (.need [(.le t0 t0), (.le t0 (.lit (17))), (.le t1 t1), (.le t1 t3), (.le t1 t1), (.le t1 (.mul (.lit (400)) t3)), (.le t1 t1), (.le t1 (.mul (.lit (200)) t0)), (.fb 210 t0 t1 t1 t1 (.av 1) t4 t2 t2), (.aeq t5 t5)] (.any 1000 1000000000 [(.le t0 (.iv 1003)), (.le (.iv 1003) (.lit (17))), (.le t1 (.iv 1000)), (.le (.iv 1000) t6), (.le t1 (.iv 1001)), (.le (.iv 1001) (.mul (.lit (400)) t6)), (.le t1 (.iv 1002)), (.le (.iv 1002) (.mul (.lit (200)) (.iv 1003))), (.le t1 (.iv 1004)), (.le t1 (.iv 1005)), (.le (.iv 1005) (.lit (7))), (.fb 210 (.iv 1003) (.iv 1000) (.iv 1001) (.iv 1002) (.av 1) t7 t2 t2), (.aeq (.fa 210 (.iv 1003) (.iv 1000) (.iv 1001) (.iv 1002) (.av 1) t7 t2 t2) t5)] (.cond (.le (.iv 1003) (.lit (16))) (.need [(.le t8 (.mul (.iv 1000) (.lit (2)))), (.le (.mul (.iv 1000) (.lit (2))) t9)] (.need [(.fb 200 (.iv 1004) (.iv 1005) t1 t1 (.av 1) t2 t2 t2)] (.need [(.le t1 (.iv 1003)), (.lt (.iv 1003) (.lit (17)))] (.need [(.le t8 t11), (.le t11 t9)] (.cond (.lt t11 t12) (.need [(.le t8 t13), (.le t13 t9)] (.need [(.le t8 t14), (.le t14 t9)] (.need [(.le t1 t14), (.lt t14 (.lit (12)))] (.need [(.lt t14 (.len t15))] (.need [(.eq t16 t17), (.eq t18 t19), (.eq t20 (.get t15 t14))] .done))))) (.need [(.le t8 t21), (.le t21 t9)] (.need [(.le t8 t22), (.le t22 t9)] (.need [(.le t8 t23), (.le t23 t9)] (.need [(.le t8 t24), (.le t24 t9)] (.need [(.le t0 t24), (.le t24 (.lit (17))), (.le t1 t10), (.le t10 t25), (.le t1 t23), (.le t23 (.mul (.lit (400)) t25)), (.le t1 t21), (.le t21 (.mul (.lit (200)) t24)), (.le t1 t19), (.le t1 t17), (.le t17 (.lit (7))), (.fb 210 t24 t10 t23 t21 (.av 1) t27 t2 t2), (.aeq (.fa 210 t24 t10 t23 t21 (.av 1) t27 t2 t2) t5), (.lt t1 (.sub (.lit (17)) (.iv 1003))), (.lt (.sub (.lit (17)) t24) (.sub (.lit (17)) (.iv 1003)))] .done)))))))))) (.need [(.eq t16 (.iv 1005)), (.eq t18 (.iv 1004)), (.eq t20 t1), .ff] .done))))
theorem w102_0 : vcIs (vcOf Tryz.prog spG noR ⟨ltK6 0, inlK6⟩ 100000 102 (c102 0)) vc102_0 = true := by kernel_rfl
set_option maxRecDepth 20000 in
theorem c102_0_ok : CtrOk Tryz.prog Z 102 (c102 0) := by
  refine ctr_prog spG_ok noR_ok w102_0 fun ρ h => ?_
  have g1 := h (.eq (.len (.av 1)) (.iv 6)) (by decide +kernel)
  have g2 := h (.le (.iv 6) lim) (by decide +kernel)
  have g4 := h (.le (.lit 0) (.iv 0)) (by decide +kernel)
  have g5 := h (.le (.lit 0) (.iv 1)) (by decide +kernel)
  have g6 := h (.le (.iv 1) (.lit 7)) (by decide +kernel)
  have g7 := h (fbD 220 (.iv 0) (.iv 1) z0 z0) (by decide +kernel)
  simp only [fbD, z0, lim, zb220, ↓b_le, ↓b_lt, ↓b_eq, ↓b_aeq, ↓f_le, ↓f_lt, ↓f_eq, ↓f_aeq, ↓b_not, ↓f_not, ↓b_and, ↓b_or, ↓f_and, ↓f_or, ↓b_tt, ↓b_ff, ↓f_tt, ↓f_ff, met_cons, met_nil, hyp_cons, hyp_nil, T.I, T.A, T.B, Int.toNat_zero, List.drop_zero, and_true, implies_true, VC.sem, spliceL_cast, shr_24_u32, shr_8_u32, shr_8_i32, shr_14_i32, shr_12_i32, shr_18_i32, shr_2_i32, shr_1_i32, shr_1_i64, shr_8_i64, shr_4_i64, shr_16_u32, shr_4_u8, shr_1_u8] at g1 g2 g4 g5 g6 g7
  have r1 := rV_01 (ρ.a 1) (ρ.i 1004) (ρ.i 1005)
  have r2 := rAt_nn (D := ρ.a 1) (a := ρ.i 1004) (u := ρ.i 1005)
  have r3 := rUs_rng (u := ρ.i 1005)
  have r4 := fun h0 h1 => or1 (v := ρ.i 1000) (b := rV (ρ.a 1) (ρ.i 1004) (ρ.i 1005)) h0 h1 r1.1 r1.2
  have r5 := cnt_rng (h := 0) (by omega) (ρ.i 1003)
  have p1 := pow_step (m := ρ.i 1003 - 1)
  have p2 := pow_le16 (m := ρ.i 1003 - 1)
  have hl : ((cnt 0).length : Int) = 17 := rfl
  have hs : ((syms 0).length : Int) = 12 := by rw [show (syms 0).length = 12 by kernel_rfl]; rfl
  rw [show ρ.i 1003 - 1 + 1 = ρ.i 1003 from by omega] at p1
  simp only [vc102_0, ↓b_le, ↓b_lt, ↓b_eq, ↓b_aeq, ↓f_le, ↓f_lt, ↓f_eq, ↓f_aeq, ↓b_not, ↓f_not, ↓b_and, ↓b_or, ↓f_and, ↓f_or, ↓b_tt, ↓b_ff, ↓f_tt, ↓f_ff, met_cons, met_nil, hyp_cons, hyp_nil, T.I, T.A, T.B, Int.toNat_zero, List.drop_zero, and_true, implies_true, VC.sem, spliceL_cast, shr_24_u32, shr_8_u32, shr_8_i32, shr_14_i32, shr_12_i32, shr_18_i32, shr_2_i32, shr_1_i32, shr_1_i64, shr_8_i64, shr_4_i64, shr_16_u32, shr_4_u8, shr_1_u8, getD_at8, z200, z201, z202, z209, zb200, z220, z230, z240, zb210, za210, za300, za310, hl, hs, set_one]
  (repeat' (first | refine And.intro ?_ ?_ | intro _)) <;> (try trivial) <;> (try omega)
  all_goals (have e4 := r4 (by omega) (by omega); clear r4; simp only [e4] at *)
  all_goals (try omega)
  · have e := ‹symOk (cnt 0) _ _ (17 - ρ.i 1003).toNat _ _ _ _ _ = true›
    rw [symOk_step (by omega), Bool.and_eq_true] at e
    exact e.1
  · have e := ‹symOk (cnt 0) _ _ (17 - ρ.i 1003).toNat _ _ _ _ _ = true›
    rw [symOk_step (by omega), Bool.and_eq_true, if_pos (by omega), Bool.and_eq_true, decide_eq_true_eq, decide_eq_true_eq] at e
    omega
  · have e := ‹symOk (cnt 0) _ _ (17 - ρ.i 1003).toNat _ _ _ _ _ = true›
    rw [symOk_step (by omega), Bool.and_eq_true, if_pos (by omega), Bool.and_eq_true, decide_eq_true_eq, decide_eq_true_eq] at e
    omega
  · have e := ‹symL (cnt 0) _ _ (17 - ρ.i 1003).toNat _ _ _ _ _ = _›
    rw [symL_step (by omega), if_pos (by omega)] at e
    show e2 (symL _ _ _ (17 - 1 : Int).toNat 0 0 0 _ _) = _
    rw [← e]; rfl
  · have e := ‹symL (cnt 0) _ _ (17 - ρ.i 1003).toNat _ _ _ _ _ = _›
    rw [symL_step (by omega), if_pos (by omega)] at e
    show e1 (symL _ _ _ (17 - 1 : Int).toNat 0 0 0 _ _) = _
    rw [← e]; rfl
  · have e := ‹symL (cnt 0) _ _ (17 - ρ.i 1003).toNat _ _ _ _ _ = _›
    rw [symL_step (by omega), if_pos (by omega)] at e
    show e0 (symL _ _ _ (17 - 1 : Int).toNat 0 0 0 _ _) = _
    rw [← e]; rfl
  · rw [show ρ.i 1003 + 1 - 1 = ρ.i 1003 from by omega]; have := p1 (by omega); omega
  · rw [show ρ.i 1003 + 1 - 1 = ρ.i 1003 from by omega]; have := p1 (by omega); omega
  · have e := ‹symOk (cnt 0) _ _ (17 - ρ.i 1003).toNat _ _ _ _ _ = true›
    rw [symOk_step (by omega), Bool.and_eq_true, if_neg (by omega)] at e
    rw [Int.mul_comm _ 2]; exact e.2
  · have e := ‹symL (cnt 0) _ _ (17 - ρ.i 1003).toNat _ _ _ _ _ = _›
    rw [symL_step (by omega), if_neg (by omega)] at e
    rw [Int.mul_comm _ 2]; exact e
  · have e := ‹symOk (cnt 0) _ _ (17 - ρ.i 1003).toNat _ _ _ _ _ = true›
    rw [symOk_end (by omega)] at e; cases e
  · have e := ‹symOk (cnt 0) _ _ (17 - ρ.i 1003).toNat _ _ _ _ _ = true›
    rw [symOk_end (by omega)] at e; cases e
  · have e := ‹symOk (cnt 0) _ _ (17 - ρ.i 1003).toNat _ _ _ _ _ = true›
    rw [symOk_end (by omega)] at e; cases e
  · have e := ‹symOk (cnt 0) _ _ (17 - ρ.i 1003).toNat _ _ _ _ _ = true›
    rw [symOk_end (by omega)] at e; cases e
def vc102_1 : VC :=
 let t0 : T := .lit (1)
 let t1 : T := .lit (0)
 let t2 : T := .alit []
 let t3 : T := .fi 209 (.sub t0 t0) t1 t1 t1 (.av 1) t2 t2 t2
 let t4 : T := .splice (.set (.alit [0]) t1 (.iv 0)) (.len (.set (.alit [0]) t1 (.iv 0))) (.set (.alit [0]) t1 (.iv 1))
 let t5 : T := .fa 211 t0 t1 t1 t1 (.av 1) t4 t2 t2
 let t6 : T := .fi 209 (.sub (.iv 1003) t0) t1 t1 t1 (.av 1) t2 t2 t2
 let t7 : T := .splice (.set (.alit [0]) t1 (.iv 1004)) (.len (.set (.alit [0]) t1 (.iv 1004))) (.set (.alit [0]) t1 (.iv 1005))
 let t8 : T := .lit (-9223372036854775808)
 let t9 : T := .lit (9223372036854775807)
 let t10 : T := .bits .or .i64 (.mul (.iv 1000) (.lit (2))) (.fi 200 (.iv 1004) (.iv 1005) t1 t1 (.av 1) t2 t2 t2)
 let t11 : T := .sub t10 (.iv 1001)
 let t12 : T := .get (.fa 301 t1 t1 t1 t1 t2 t2 t2 t2) (.iv 1003)
 let t13 : T := .add (.iv 1002) t10
 let t14 : T := .sub t13 (.iv 1001)
 let t15 : T := .fa 311 t1 t1 t1 t1 t2 t2 t2 t2
 let t16 : T := .fi 241 (.iv 0) (.iv 1) t1 t1 (.av 1) t2 t2 t2
 let t17 : T := .fi 202 (.iv 1004) (.iv 1005) t1 t1 (.av 1) t2 t2 t2
 let t18 : T := .fi 231 (.iv 0) (.iv 1) t1 t1 (.av 1) t2 t2 t2
 let t19 : T := .fi 201 (.iv 1004) (.iv 1005) t1 t1 (.av 1) t2 t2 t2
 let t20 : T := .fi 221 (.iv 0) (.iv 1) t1 t1 (.av 1) t2 t2 t2
 let t21 : T := .add (.iv 1002) t12
 let t22 : T := .add (.iv 1001) t12
 let t23 : T := .mul t22 (.lit (2))
 let t24 : T := .add (.iv 1003) t0
 let t25 : T := .fi 209 (.sub t24 t0) t1 t1 t1 (.av 1) t2 t2 t2
 let t26 : T := .set (.alit [0]) t1 t19
 let t27 : T := .splice t26 (.len t26) (.set (.alit [0]) t1 t17)
 (.need [(.le t0 t0), (.le t0 (.lit (17))), (.le t1 t1), (.le t1 t3), (.le t1 t1), (.le t1 (.mul (.lit (400)) t3)), (.le t1 t1), (.le t1 (.mul (.lit (200)) t0)), (.fb 211 t0 t1 t1 t1 (.av 1) t4 t2 t2), (.aeq t5 t5)] (.any 1000 1000000000 [(.le t0 (.iv 1003)), (.le (.iv 1003) (.lit (17))), (.le t1 (.iv 1000)), (.le (.iv 1000) t6), (.le t1 (.iv 1001)), (.le (.iv 1001) (.mul (.lit (400)) t6)), (.le t1 (.iv 1002)), (.le (.iv 1002) (.mul (.lit (200)) (.iv 1003))), (.le t1 (.iv 1004)), (.le t1 (.iv 1005)), (.le (.iv 1005) (.lit (7))), (.fb 211 (.iv 1003) (.iv 1000) (.iv 1001) (.iv 1002) (.av 1) t7 t2 t2), (.aeq (.fa 211 (.iv 1003) (.iv 1000) (.iv 1001) (.iv 1002) (.av 1) t7 t2 t2) t5)] (.cond (.le (.iv 1003) (.lit (16))) (.need [(.le t8 (.mul (.iv 1000) (.lit (2)))), (.le (.mul (.iv 1000) (.lit (2))) t9)] (.need [(.fb 200 (.iv 1004) (.iv 1005) t1 t1 (.av 1) t2 t2 t2)] (.need [(.le t1 (.iv 1003)), (.lt (.iv 1003) (.lit (17)))] (.need [(.le t8 t11), (.le t11 t9)] (.cond (.lt t11 t12) (.need [(.le t8 t13), (.le t13 t9)] (.need [(.le t8 t14), (.le t14 t9)] (.need [(.le t1 t14), (.lt t14 (.lit (162)))] (.need [(.lt t14 (.len t15))] (.need [(.eq t16 t17), (.eq t18 t19), (.eq t20 (.get t15 t14))] .done))))) (.need [(.le t8 t21), (.le t21 t9)] (.need [(.le t8 t22), (.le t22 t9)] (.need [(.le t8 t23), (.le t23 t9)] (.need [(.le t8 t24), (.le t24 t9)] (.need [(.le t0 t24), (.le t24 (.lit (17))), (.le t1 t10), (.le t10 t25), (.le t1 t23), (.le t23 (.mul (.lit (400)) t25)), (.le t1 t21), (.le t21 (.mul (.lit (200)) t24)), (.le t1 t19), (.le t1 t17), (.le t17 (.lit (7))), (.fb 211 t24 t10 t23 t21 (.av 1) t27 t2 t2), (.aeq (.fa 211 t24 t10 t23 t21 (.av 1) t27 t2 t2) t5), (.lt t1 (.sub (.lit (17)) (.iv 1003))), (.lt (.sub (.lit (17)) t24) (.sub (.lit (17)) (.iv 1003)))] .done)))))))))) (.need [(.eq t16 (.iv 1005)), (.eq t18 (.iv 1004)), (.eq t20 t1), .ff] .done))))
theorem w102_1 : vcIs (vcOf Tryz.prog spG noR ⟨ltK6 1, inlK6⟩ 100000 102 (c102 1)) vc102_1 = true := by kernel_rfl
set_option maxRecDepth 20000 in
theorem c102_1_ok : CtrOk Tryz.prog Z 102 (c102 1) := by
  refine ctr_prog spG_ok noR_ok w102_1 fun ρ h => ?_
  have g1 := h (.eq (.len (.av 1)) (.iv 6)) (by decide +kernel)
  have g2 := h (.le (.iv 6) lim) (by decide +kernel)
  have g4 := h (.le (.lit 0) (.iv 0)) (by decide +kernel)
  have g5 := h (.le (.lit 0) (.iv 1)) (by decide +kernel)
  have g6 := h (.le (.iv 1) (.lit 7)) (by decide +kernel)
  have g7 := h (fbD 221 (.iv 0) (.iv 1) z0 z0) (by decide +kernel)
  simp only [fbD, z0, lim, zb221, ↓b_le, ↓b_lt, ↓b_eq, ↓b_aeq, ↓f_le, ↓f_lt, ↓f_eq, ↓f_aeq, ↓b_not, ↓f_not, ↓b_and, ↓b_or, ↓f_and, ↓f_or, ↓b_tt, ↓b_ff, ↓f_tt, ↓f_ff, met_cons, met_nil, hyp_cons, hyp_nil, T.I, T.A, T.B, Int.toNat_zero, List.drop_zero, and_true, implies_true, VC.sem, spliceL_cast, shr_24_u32, shr_8_u32, shr_8_i32, shr_14_i32, shr_12_i32, shr_18_i32, shr_2_i32, shr_1_i32, shr_1_i64, shr_8_i64, shr_4_i64, shr_16_u32, shr_4_u8, shr_1_u8] at g1 g2 g4 g5 g6 g7
  have r1 := rV_01 (ρ.a 1) (ρ.i 1004) (ρ.i 1005)
  have r2 := rAt_nn (D := ρ.a 1) (a := ρ.i 1004) (u := ρ.i 1005)
  have r3 := rUs_rng (u := ρ.i 1005)
  have r4 := fun h0 h1 => or1 (v := ρ.i 1000) (b := rV (ρ.a 1) (ρ.i 1004) (ρ.i 1005)) h0 h1 r1.1 r1.2
  have r5 := cnt_rng (h := 1) (by omega) (ρ.i 1003)
  have p1 := pow_step (m := ρ.i 1003 - 1)
  have p2 := pow_le16 (m := ρ.i 1003 - 1)
  have hl : ((cnt 1).length : Int) = 17 := rfl
  have hs : ((syms 1).length : Int) = 162 := by rw [show (syms 1).length = 162 by kernel_rfl]; rfl
  rw [show ρ.i 1003 - 1 + 1 = ρ.i 1003 from by omega] at p1
  simp only [vc102_1, ↓b_le, ↓b_lt, ↓b_eq, ↓b_aeq, ↓f_le, ↓f_lt, ↓f_eq, ↓f_aeq, ↓b_not, ↓f_not, ↓b_and, ↓b_or, ↓f_and, ↓f_or, ↓b_tt, ↓b_ff, ↓f_tt, ↓f_ff, met_cons, met_nil, hyp_cons, hyp_nil, T.I, T.A, T.B, Int.toNat_zero, List.drop_zero, and_true, implies_true, VC.sem, spliceL_cast, shr_24_u32, shr_8_u32, shr_8_i32, shr_14_i32, shr_12_i32, shr_18_i32, shr_2_i32, shr_1_i32, shr_1_i64, shr_8_i64, shr_4_i64, shr_16_u32, shr_4_u8, shr_1_u8, getD_at8, z200, z201, z202, z209, zb200, z221, z231, z241, zb211, za211, za301, za311, hl, hs, set_one]
  (repeat' (first | refine And.intro ?_ ?_ | intro _)) <;> (try trivial) <;> (try omega)
  all_goals (have e4 := r4 (by omega) (by omega); clear r4; simp only [e4] at *)
  all_goals (try omega)
  · have e := ‹symOk (cnt 1) _ _ (17 - ρ.i 1003).toNat _ _ _ _ _ = true›
    rw [symOk_step (by omega), Bool.and_eq_true] at e
    exact e.1
  · have e := ‹symOk (cnt 1) _ _ (17 - ρ.i 1003).toNat _ _ _ _ _ = true›
    rw [symOk_step (by omega), Bool.and_eq_true, if_pos (by omega), Bool.and_eq_true, decide_eq_true_eq, decide_eq_true_eq] at e
    omega
  · have e := ‹symOk (cnt 1) _ _ (17 - ρ.i 1003).toNat _ _ _ _ _ = true›
    rw [symOk_step (by omega), Bool.and_eq_true, if_pos (by omega), Bool.and_eq_true, decide_eq_true_eq, decide_eq_true_eq] at e
    omega
  · have e := ‹symL (cnt 1) _ _ (17 - ρ.i 1003).toNat _ _ _ _ _ = _›
    rw [symL_step (by omega), if_pos (by omega)] at e
    show e2 (symL _ _ _ (17 - 1 : Int).toNat 0 0 0 _ _) = _
    rw [← e]; rfl
  · have e := ‹symL (cnt 1) _ _ (17 - ρ.i 1003).toNat _ _ _ _ _ = _›
    rw [symL_step (by omega), if_pos (by omega)] at e
    show e1 (symL _ _ _ (17 - 1 : Int).toNat 0 0 0 _ _) = _
    rw [← e]; rfl
  · have e := ‹symL (cnt 1) _ _ (17 - ρ.i 1003).toNat _ _ _ _ _ = _›
    rw [symL_step (by omega), if_pos (by omega)] at e
    show e0 (symL _ _ _ (17 - 1 : Int).toNat 0 0 0 _ _) = _
    rw [← e]; rfl
  · rw [show ρ.i 1003 + 1 - 1 = ρ.i 1003 from by omega]; have := p1 (by omega); omega
  · rw [show ρ.i 1003 + 1 - 1 = ρ.i 1003 from by omega]; have := p1 (by omega); omega
  · have e := ‹symOk (cnt 1) _ _ (17 - ρ.i 1003).toNat _ _ _ _ _ = true›
    rw [symOk_step (by omega), Bool.and_eq_true, if_neg (by omega)] at e
    rw [Int.mul_comm _ 2]; exact e.2
  · have e := ‹symL (cnt 1) _ _ (17 - ρ.i 1003).toNat _ _ _ _ _ = _›
    rw [symL_step (by omega), if_neg (by omega)] at e
    rw [Int.mul_comm _ 2]; exact e
  · have e := ‹symOk (cnt 1) _ _ (17 - ρ.i 1003).toNat _ _ _ _ _ = true›
    rw [symOk_end (by omega)] at e; cases e
  · have e := ‹symOk (cnt 1) _ _ (17 - ρ.i 1003).toNat _ _ _ _ _ = true›
    rw [symOk_end (by omega)] at e; cases e
  · have e := ‹symOk (cnt 1) _ _ (17 - ρ.i 1003).toNat _ _ _ _ _ = true›
    rw [symOk_end (by omega)] at e; cases e
  · have e := ‹symOk (cnt 1) _ _ (17 - ρ.i 1003).toNat _ _ _ _ _ = true›
    rw [symOk_end (by omega)] at e; cases e
end
end Go.Proofs.YtljjbikbfeigdaaGreatDoor
