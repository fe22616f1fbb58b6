/- Part of the proof of FnGrayCoefficientsCardSaid: Contracts of the specification's reader shown: the segments with the Huffman tables. -/
import Derived.Test.YtljjbikbfeigdaaGreatDoorGc23
set_option linter.all false
namespace Go.Proofs.YtljjbikbfeigdaaGreatDoor
noncomputable section
open Go
theorem dht_len : (dhtG.length : Int) = 208 := by rw [show dhtG.length = 208 by kernel_rfl]; rfl
theorem dht_at0 : (List.range 12).all (fun i => decide (at8 dhtG (17 + i : Int) = at8 (syms 0) (i : Int)) && decide (at8 (syms 0) (i : Int) ≤ 11) && decide (0 ≤ at8 (syms 0) (i : Int)) && decide (at8 (seenL 0 i) (at8 (syms 0) (i : Int)) = 0)) = true := by decide +kernel
theorem dht_at1 : (List.range 162).all (fun i => decide (at8 dhtG (46 + i : Int) = at8 (syms 1) (i : Int)) && decide (at8 (syms 1) (i : Int) % 16 ≤ 10) && decide (0 ≤ at8 (syms 1) (i : Int)) && decide (at8 (syms 1) (i : Int) ≤ 255) && decide (at8 (seenL 1 i) (at8 (syms 1) (i : Int)) = 0)) = true := by decide +kernel
theorem seenL_step (h : Nat) {k : Int} (h0 : 0 ≤ k) (h1 : k < (syms h).length) : seenL h (k + 1).toNat = (seenL h k.toNat).set (at8 (syms h) k).toNat 1 := by
  unfold seenL
  have hk : k.toNat < (syms h).length := by omega
  rw [show (k + 1).toNat = k.toNat + 1 from by omega, List.take_add_one, List.getElem?_eq_getElem hk, List.foldl_append]
  simp only [Option.toList_some, List.foldl_cons, List.foldl_nil]
  congr 2
  unfold at8
  rw [List.getD_eq_getElem?_getD, List.getElem?_eq_getElem hk]; rfl
theorem take_step1 (l : List Int) {k : Int} (h0 : 0 ≤ k) (h1 : k < l.length) : l.take (k + 1).toNat = l.take k.toNat ++ [at8 l k] := by
  have hk : k.toNat < l.length := by omega
  rw [show (k + 1).toNat = k.toNat + 1 from by omega, List.take_add_one, List.getElem?_eq_getElem hk]
  unfold at8
  rw [List.getD_eq_getElem?_getD, List.getElem?_eq_getElem hk]; rfl
theorem and15u8 {x : Int} (h0 : 0 ≤ x) (h1 : x ≤ 255) : bitsOf .and .u8 x 15 = x % 16 := by
  have key : ∀ a : Fin 256, bitsOf .and .u8 ((a.val : Nat) : Int) 15 = ((a.val : Nat) : Int) % 16 := by decide +kernel
  obtain ⟨a, rfl⟩ := Int.eq_ofNat_of_zero_le h0
  exact key ⟨a, by omega⟩
theorem za413 (x y : Int) : Z.fa 413 x y 0 0 [] [] [] [] = seenL x.toNat y.toNat := id rfl
theorem syms_len0 : ((syms 0).length : Int) = 12 := rfl
theorem syms_len1 : ((syms 1).length : Int) = 162 := by rw [show (syms 1).length = 162 by kernel_rfl]; rfl
def vc49 : VC :=
 let t0 : T := .lit (0)
 let t1 : T := .len (.alit dhtG)
 let t2 : T := .lit (1)
 let t3 : T := .alit []
 let t4 : T := .fa 310 t0 t0 t0 t0 t3 t3 t3 t3
 let t5 : T := .len (.av 1000)
 let t6 : T := .get (.alit dhtG) (.add (.lit (17)) (.iv 1000))
 let t7 : T := .lit (-9223372036854775808)
 let t8 : T := .lit (9223372036854775807)
 let t9 : T := .add (.iv 1000) t2
 let t10 : T := .set (.av 1001) t6 t2
 let t11 : T := .splice (.av 1000) t5 (.set (.alit [0]) t0 t6)
 let t12 : T := .sub (.iv 10) (.lit (29))
 let t13 : T := .fa 311 t0 t0 t0 t0 t3 t3 t3 t3
 let t14 : T := .len (.av 1401)
 let t15 : T := .get (.alit dhtG) (.add (.lit (46)) (.iv 1401))
 let t16 : T := .add (.iv 1401) t2
 let t17 : T := .set (.av 1402) t15 t2
 let t18 : T := .splice (.av 1401) t14 (.set (.alit [0]) t0 t15)
 (.need [(.lt t0 t1)] (.need [(.lt t2 t1)] (.need [(.lt (.lit (2)) t1)] (.need [(.lt (.lit (3)) t1)] (.need [(.lt (.lit (4)) t1)] (.need [(.lt (.lit (5)) t1)] (.need [(.lt (.lit (6)) t1)] (.need [(.lt (.lit (7)) t1)] (.need [(.lt (.lit (8)) t1)] (.need [(.lt (.lit (9)) t1)] (.need [(.lt (.lit (10)) t1)] (.need [(.lt (.lit (11)) t1)] (.need [(.lt (.lit (12)) t1)] (.need [(.lt (.lit (13)) t1)] (.need [(.lt (.lit (14)) t1)] (.need [(.lt (.lit (15)) t1)] (.need [(.lt (.lit (16)) t1)] (.need [(.le t0 (.iv 10)), (.le (.iv 10) (.iv 10)), (.le (.lit (29)) (.iv 10)), (.le t0 (.iv 10)), (.lt (.lit (17)) (.iv 10))] (.need [(.le t0 t0), (.le t0 (.lit (12))), (.eq (.len (.rep (.lit (256)) t0)) (.lit (256))), (.eq (.len t3) t0), (.aeq t3 (.cut t4 t0 t0)), (.aeq (.rep (.lit (256)) t0) (.fa 413 t0 t0 t0 t0 t3 t3 t3 t3))] (.any 1000 2 [(.le t0 (.iv 1000)), (.le (.iv 1000) (.lit (12))), (.eq (.len (.av 1001)) (.lit (256))), (.eq t5 (.iv 1000)), (.aeq (.av 1000) (.cut t4 t0 (.iv 1000))), (.aeq (.av 1001) (.fa 413 t0 (.iv 1000) t0 t0 t3 t3 t3 t3))] (.cond (.lt (.iv 1000) (.lit (12))) (.need [(.lt (.add (.lit (17)) (.iv 1000)) t1)] (.need [(.le t0 t6), (.lt t6 (.lit (256)))] (.cond (.not (.eq (.get (.av 1001) t6) t0)) (.fail "leaf fit") (.cond (.lt (.lit (11)) t6) (.fail "leaf fit") (.need [(.le t7 t6), (.le t6 t8)] (.need [(.le t2 t2), (.le (.add t5 t2) (.lit (1099511627776)))] (.any 1400 3 [] (.need [(.le t7 t9), (.le t9 t8)] (.need [(.le t0 t9), (.le t9 (.lit (12))), (.eq (.len t10) (.lit (256))), (.eq (.len t11) t9), (.aeq t11 (.cut t4 t0 t9)), (.aeq t10 (.fa 413 t0 t9 t0 t0 t3 t3 t3 t3)), (.lt t0 (.sub (.lit (12)) (.iv 1000))), (.lt (.sub (.lit (12)) t9) (.sub (.lit (12)) (.iv 1000)))] .done))))))))) (.need [(.lt t0 t5)] (.any 1400 2 [(.le t5 (.iv 1400))] (.need [(.lt (.lit (29)) (.iv 10))] (.need [(.lt (.lit (29)) t1)] (.need [(.lt (.lit (30)) t1)] (.need [(.lt (.lit (31)) t1)] (.need [(.lt (.lit (32)) t1)] (.need [(.lt (.lit (33)) t1)] (.need [(.lt (.lit (34)) t1)] (.need [(.lt (.lit (35)) t1)] (.need [(.lt (.lit (36)) t1)] (.need [(.lt (.lit (37)) t1)] (.need [(.lt (.lit (38)) t1)] (.need [(.lt (.lit (39)) t1)] (.need [(.lt (.lit (40)) t1)] (.need [(.lt (.lit (41)) t1)] (.need [(.lt (.lit (42)) t1)] (.need [(.lt (.lit (43)) t1)] (.need [(.lt (.lit (44)) t1)] (.need [(.lt (.lit (45)) t1)] (.need [(.le t0 t12), (.le t12 t12), (.le (.lit (179)) t12), (.le t0 t12), (.lt (.lit (17)) t12)] (.need [(.le t0 (.lit (162))), (.aeq t3 (.cut t13 t0 t0)), (.aeq (.rep (.lit (256)) t0) (.fa 413 t2 t0 t0 t0 t3 t3 t3 t3))] (.any 1401 4 [(.le t0 (.iv 1401)), (.le (.iv 1401) (.lit (162))), (.eq (.len (.av 1402)) (.lit (256))), (.eq t14 (.iv 1401)), (.aeq (.av 1401) (.cut t13 t0 (.iv 1401))), (.aeq (.av 1402) (.fa 413 t2 (.iv 1401) t0 t0 t3 t3 t3 t3))] (.cond (.lt (.iv 1401) (.lit (162))) (.need [(.lt (.add (.lit (46)) (.iv 1401)) t1)] (.need [(.le t0 t15), (.lt t15 (.lit (256)))] (.cond (.not (.eq (.get (.av 1402) t15) t0)) (.fail "leaf fit") (.cond (.lt (.lit (10)) (.bits .and .u8 t15 (.lit (15)))) (.fail "leaf fit") (.need [(.le t7 t15), (.le t15 t8)] (.need [(.le t2 t2), (.le (.add t14 t2) (.lit (1099511627776)))] (.any 1801 5 [] (.need [(.le t7 t16), (.le t16 t8)] (.need [(.le t0 t16), (.le t16 (.lit (162))), (.eq (.len t17) (.lit (256))), (.eq (.len t18) t16), (.aeq t18 (.cut t13 t0 t16)), (.aeq t17 (.fa 413 t2 t16 t0 t0 t3 t3 t3 t3)), (.lt t0 (.sub (.lit (162)) (.iv 1401))), (.lt (.sub (.lit (162)) t16) (.sub (.lit (162)) (.iv 1401)))] .done))))))))) (.need [(.lt t0 t14)] (.any 1801 4 [(.le t14 (.iv 1801))] (.need [(.eq (.lit (162)) t14), (.eq (.lit (12)) t5), (.aeq t13 (.av 1401)), (.aeq t4 (.av 1000)), (.aeq (.fa 301 t0 t0 t0 t0 t3 t3 t3 t3) (.splice (.rep t2 t0) (.len (.rep t2 t0)) (.alit [0, 2, 1, 3, 3, 2, 4, 3, 5, 5, 4, 4, 0, 0, 1, 125]))), (.aeq (.fa 300 t0 t0 t0 t0 t3 t3 t3 t3) (.splice (.rep t2 t0) (.len (.rep t2 t0)) (.alit [0, 1, 5, 1, 1, 1, 1, 1, 1, 0, 0, 0, 0, 0, 0, 0])))] .done))))))))))))))))))))))))))))))))))))))))))))))))
theorem w49 : vcIs (vcOf Tryz.prog noS noR ⟨ltK9 z0, inlK8⟩ 100000 49 c49) vc49 = true := by kernel_rfl
theorem c49_ok : CtrOk Tryz.prog Z 49 c49 := by
  refine ctr_prog noS_ok noR_ok w49 fun ρ h => ?_
  have g1 := getM h (.le (.lit 208) (.iv 10)) (by kernel_rfl)
  clear h
  simp only [↓b_le, ↓b_lt, ↓b_eq, ↓b_aeq, ↓f_le, ↓f_lt, ↓f_eq, ↓f_aeq, ↓b_not, ↓f_not, ↓b_and, ↓b_or, ↓f_and, ↓f_or, ↓b_tt, ↓b_ff, ↓f_tt, ↓f_ff, met_cons, met_nil, hyp_cons, hyp_nil, T.I, T.A, T.B, Int.toNat_zero, List.drop_zero, and_true, implies_true, VC.sem, spliceL_cast, shr_24_u32, shr_8_u32, shr_8_i32, shr_14_i32, shr_12_i32, shr_18_i32, shr_2_i32, shr_1_i32, shr_1_i64, shr_8_i64, shr_4_i64, shr_16_u32, shr_4_u8, shr_1_u8] at g1
  have A0 : 0 ≤ ρ.i 1000 → ρ.i 1000 < 12 → at8 dhtG (17 + ρ.i 1000) = at8 (syms 0) (ρ.i 1000) ∧ 0 ≤ at8 (syms 0) (ρ.i 1000) ∧ at8 (syms 0) (ρ.i 1000) ≤ 11 ∧ at8 (seenL 0 (ρ.i 1000).toNat) (at8 (syms 0) (ρ.i 1000)) = 0 := by
    intro h0 h1
    have := List.all_eq_true.1 dht_at0 (ρ.i 1000).toNat (List.mem_range.2 (by omega))
    simp only [Bool.and_eq_true, decide_eq_true_eq, Int.toNat_of_nonneg h0] at this
    exact ⟨this.1.1.1, this.1.2, this.1.1.2, this.2⟩
  have A1 : 0 ≤ ρ.i 1401 → ρ.i 1401 < 162 → at8 dhtG (46 + ρ.i 1401) = at8 (syms 1) (ρ.i 1401) ∧ 0 ≤ at8 (syms 1) (ρ.i 1401) ∧ at8 (syms 1) (ρ.i 1401) ≤ 255 ∧ at8 (syms 1) (ρ.i 1401) % 16 ≤ 10 ∧ at8 (seenL 1 (ρ.i 1401).toNat) (at8 (syms 1) (ρ.i 1401)) = 0 := by
    intro h0 h1
    have := List.all_eq_true.1 dht_at1 (ρ.i 1401).toNat (List.mem_range.2 (by omega))
    simp only [Bool.and_eq_true, decide_eq_true_eq, Int.toNat_of_nonneg h0] at this
    exact ⟨this.1.1.1.1, this.1.1.2, this.1.2, this.1.1.1.2, this.2⟩
  simp only [vc49, ↓b_le, ↓b_lt, ↓b_eq, ↓b_aeq, ↓f_le, ↓f_lt, ↓f_eq, ↓f_aeq, ↓b_not, ↓f_not, ↓b_and, ↓b_or, ↓f_and, ↓f_or, ↓b_tt, ↓b_ff, ↓f_tt, ↓f_ff, met_cons, met_nil, hyp_cons, hyp_nil, T.I, T.A, T.B, Int.toNat_zero, List.drop_zero, and_true, implies_true, VC.sem, spliceL_cast, shr_24_u32, shr_8_u32, shr_8_i32, shr_14_i32, shr_12_i32, shr_18_i32, shr_2_i32, shr_1_i32, shr_1_i64, shr_8_i64, shr_4_i64, shr_16_u32, shr_4_u8, shr_1_u8, getD_at8, za413, za310, za311, dht_len, set_one, List.length_set, List.length_append, List.length_cons, List.length_nil, List.length_replicate]
  (repeat' (first | exact True.intro | refine And.intro ?_ ?_ | intro _)) <;> (try omega)
  · rfl
  · rfl
  · obtain ⟨a, b, c, d⟩ := A0 (by omega) (by omega)
    have hn := ‹¬ at8 (ρ.a 1001) _ = 0›
    rw [a, ‹ρ.a 1001 = seenL _ _›] at hn
    exact hn d
  · rw [take_step1 _ (by omega) (by rw [syms_len0]; omega), (A0 (by omega) (by omega)).1, ← ‹ρ.a 1000 = List.take _ _›]
  · rw [seenL_step 0 (by omega) (by rw [syms_len0]; omega), (A0 (by omega) (by omega)).1, ← ‹ρ.a 1001 = seenL _ _›]
  · rfl
  · rfl
  · obtain ⟨a, b, c, d, f⟩ := A1 (by omega) (by omega)
    have hn := ‹¬ at8 (ρ.a 1402) _ = 0›
    rw [a, ‹ρ.a 1402 = seenL _ _›] at hn
    exact hn f
  · obtain ⟨a, b, c, d, f⟩ := A1 (by omega) (by omega)
    have hn := ‹10 < bitsOf _ _ _ _›
    rw [a, and15u8 b c] at hn
    omega
  · rw [take_step1 _ (by omega) (by rw [syms_len1]; omega), (A1 (by omega) (by omega)).1, ← ‹ρ.a 1401 = List.take _ _›]
  · rw [show Int.toNat 1 = 1 from rfl] at *
    rw [seenL_step 1 (by omega) (by rw [syms_len1]; omega), (A1 (by omega) (by omega)).1, ← ‹ρ.a 1402 = seenL _ _›]
  · have e := ‹ρ.a 1401 = _›
    rw [List.take_of_length_le (by have := syms_len1; omega)] at e
    exact e.symm
  · have e := ‹ρ.a 1000 = _›
    rw [List.take_of_length_le (by have := syms_len0; omega)] at e
    exact e.symm
  · rfl
  · rfl
end
end Go.Proofs.YtljjbikbfeigdaaGreatDoor
