/- Part of the proof of FnGrayEdgesCardSaid: Contracts of the specification's reader shown: the coefficients of a block. -/
import Derived.Test.YtljjbikbfeigdaaGreatDoorGe19
set_option linter.all false
namespace Go.Proofs.YtljjbikbfeigdaaGreatDoor
noncomputable section
open Go
theorem and15 {x : Int} (h0 : 0 ≤ x) (h1 : x ≤ 255) : bitsOf .and .i64 x 15 = x % 16 := by
  have key : ∀ a : Fin 256, bitsOf .and .i64 ((a.val : Nat) : Int) 15 = ((a.val : Nat) : Int) % 16 := by decide +kernel
  obtain ⟨a, rfl⟩ := Int.eq_ofNat_of_zero_le h0
  exact key ⟨a, by omega⟩
theorem e0_cons (a : Int) (l : List Int) : e0 (a :: l) = a := rfl
theorem e1_cons (a b : Int) (l : List Int) : e1 (a :: b :: l) = b := rfl
theorem e2_cons (a b c : Int) (l : List Int) : e2 (a :: b :: c :: l) = c := rfl
theorem numL_pos (D : List Int) : ∀ (n : Nat) (v a u : Int), 0 ≤ a → 0 ≤ u → u ≤ 7 → 0 ≤ e1 (numL D n v a u) ∧ 0 ≤ e2 (numL D n v a u) ∧ e2 (numL D n v a u) ≤ 7
  | 0, v, a, u, h1, h2, h3 => by simp only [numL, e1_cons, e2_cons]; omega
  | n + 1, v, a, u, h1, h2, h3 => by
    have r := rUs_rng h2 h3
    exact numL_pos D n _ _ _ (rAt_nn h1) r.1 r.2
theorem symL_rng {cs sy D : List Int} {top : Int} (hs : allIn 0 top sy = true) : ∀ (f : Nat) (code first index a u : Int), symOk cs sy D f code first index a u = true → 0 ≤ a → 0 ≤ u → u ≤ 7 →
    0 ≤ e0 (symL cs sy D f code first index a u) ∧ e0 (symL cs sy D f code first index a u) ≤ top ∧ 0 ≤ e1 (symL cs sy D f code first index a u) ∧ 0 ≤ e2 (symL cs sy D f code first index a u) ∧ e2 (symL cs sy D f code first index a u) ≤ 7
  | 0, _, _, _, _, _, h, _, _, _ => by cases h
  | f + 1, code, first, index, a, u, h, h1, h2, h3 => by
    have r := rUs_rng h2 h3
    simp only [symOk, Bool.and_eq_true] at h
    obtain ⟨_, h⟩ := h
    simp only [symL]
    split at h
    · rename_i hc
      rw [if_pos hc]
      simp only [Bool.and_eq_true, decide_eq_true_eq] at h
      simp only [e0_cons, e1_cons, e2_cons]
      have := allIn_at hs h.1 h.2
      exact ⟨this.1, this.2, rAt_nn h1, r.1, r.2⟩
    · rename_i hc
      rw [if_neg hc]
      exact symL_rng hs f _ _ _ _ _ h (rAt_nn h1) r.1 r.2
theorem syms_all : (List.range 4).all (fun h => allIn 0 255 (syms h)) = true := by decide +kernel
theorem syms_dc : (List.range 2).all (fun q => allIn 0 11 (syms (2 * q))) = true := by decide +kernel
theorem sym1_rng {h : Nat} (hh : h < 4) {D : List Int} {a u : Int} (ho : sym1Ok (cnt h) (syms h) D a u = true) (h1 : 0 ≤ a) (h2 : 0 ≤ u) (h3 : u ≤ 7) :
    0 ≤ e0 (sym1 (cnt h) (syms h) D a u) ∧ e0 (sym1 (cnt h) (syms h) D a u) ≤ 255 ∧ 0 ≤ e1 (sym1 (cnt h) (syms h) D a u) ∧ 0 ≤ e2 (sym1 (cnt h) (syms h) D a u) ∧ e2 (sym1 (cnt h) (syms h) D a u) ≤ 7 :=
  symL_rng (List.all_eq_true.1 syms_all h (List.mem_range.2 hh)) 16 0 0 0 a u ho h1 h2 h3
theorem dc_rng {q : Nat} (hq : q < 2) {D : List Int} {a u : Int} (ho : sym1Ok (cnt (2 * q)) (syms (2 * q)) D a u = true) (h1 : 0 ≤ a) (h2 : 0 ≤ u) (h3 : u ≤ 7) : e0 (sym1 (cnt (2 * q)) (syms (2 * q)) D a u) ≤ 11 :=
  (symL_rng (List.all_eq_true.1 syms_dc q (List.mem_range.2 hq)) 16 0 0 0 a u ho h1 h2 h3).2.1
theorem spI_ok (h : Nat) (hc : CtrOk Tryz.prog Z 102 (c102 h)) : ∀ f s, spI h f = some s → SpecOk Tryz.prog Z f s := by
  intro f s hs
  unfold spI at hs
  split at hs
  · cases hs; exact applyF_ok c101_ok
  · cases hs; exact applyF_ok hc
  · cases hs
theorem zb290 (x y : Int) (D : List Int) : Z.fb 290 x y 0 0 D [] [] [] = alOk D (alN y) x y := id rfl
theorem z290 (x y : Int) (D : List Int) : Z.fi 290 x y 0 0 D [] [] [] = alAt D (alN y) x y := id rfl
theorem alN_step {u : Int} (h0 : 0 ≤ u) (h1 : u ≤ 7) (hz : ¬ u = 0) : alN u = alN (rUs u) + 1 := by
  unfold alN rUs
  rw [if_neg hz]
  by_cases h8 : u + 1 = 8
  · rw [if_pos h8, if_pos rfl]; omega
  · rw [if_neg h8, if_neg (by omega)]; omega
theorem al_step {D : List Int} {a u : Int} (h0 : 0 ≤ u) (h1 : u ≤ 7) (hz : ¬ u = 0) : alOk D (alN u) a u = (rOk D a u && (decide (rV D a u = 1) && alOk D (alN (rUs u)) (rAt D a u) (rUs u))) ∧ alAt D (alN u) a u = alAt D (alN (rUs u)) (rAt D a u) (rUs u) := by
  rw [alN_step h0 h1 hz]; exact ⟨rfl, rfl⟩
def vc54 : VC :=
 let t0 : T := .lit (0)
 let t1 : T := .alit []
 let t2 : T := .fi 290 (.iv 0) (.iv 1) t0 t0 (.av 1) t1 t1 t1
 let t3 : T := .fi 201 (.iv 1000) (.iv 1001) t0 t0 (.av 1) t1 t1 t1
 let t5 : T := .fi 202 (.iv 1000) (.iv 1001) t0 t0 (.av 1) t1 t1 t1
 let t7 : T := .le t5 (.lit (7))
 let t8 : T := .fb 290 t3 t5 t0 t0 (.av 1) t1 t1 t1
 let t9 : T := .eq (.fi 290 t3 t5 t0 t0 (.av 1) t1 t1 t1) t2
 let t10 : T := .lt t0 (.tmod (.sub (.lit (8)) (.iv 1001)) (.lit (8)))
 let t11 : T := .lt (.tmod (.sub (.lit (8)) t5) (.lit (8))) (.tmod (.sub (.lit (8)) (.iv 1001)) (.lit (8)))
 (.need [(.eq t2 t2)] (.any 1000 1000000000 [(.le t0 (.iv 1000)), (.le t0 (.iv 1001)), (.le (.iv 1001) (.lit (7))), (.fb 290 (.iv 1000) (.iv 1001) t0 t0 (.av 1) t1 t1 t1), (.eq (.fi 290 (.iv 1000) (.iv 1001) t0 t0 (.av 1) t1 t1 t1) t2)] (.cond (.not (.eq (.iv 1001) t0)) (.need [(.fb 200 (.iv 1000) (.iv 1001) t0 t0 (.av 1) t1 t1 t1)] (.cond (.eq (.fi 200 (.iv 1000) (.iv 1001) t0 t0 (.av 1) t1 t1 t1) t0) (.need [.ff, (.le t0 t3), (.le t0 t5), t7, t8, t9, t10, t11] .done) (.need [(.le t0 t3), (.le t0 t5), t7, t8, t9, t10, t11] .done))) (.need [(.eq t0 (.iv 1001)), (.eq t2 (.iv 1000))] .done))))
theorem w54 : vcIs (vcOf Tryz.prog spG noR ⟨ltK7 0, inlK6⟩ 100000 54 c54) vc54 = true := by kernel_rfl
theorem c54_ok : CtrOk Tryz.prog Z 54 c54 := by
  refine ctr_prog spG_ok noR_ok w54 fun ρ h => ?_
  simp only [c54, bS, scanC, prV, bD, preR, preD, fD, fbD, allT, z0, lim, zb2, zb290, lenFacts, inR, List.flatMap_cons, List.flatMap_nil, List.append_nil, List.append_assoc, List.cons_append, List.nil_append, and_true, ↓b_le, ↓b_lt, ↓b_eq, ↓b_aeq, ↓f_le, ↓f_lt, ↓f_eq, ↓f_aeq, ↓b_not, ↓f_not, ↓b_and, ↓b_or, ↓f_and, ↓f_or, ↓b_tt, ↓b_ff, ↓f_tt, ↓f_ff, met_cons, met_nil, hyp_cons, hyp_nil, T.I, T.A, T.B, Int.toNat_zero, List.drop_zero, and_true, implies_true, VC.sem, spliceL_cast, shr_24_u32, shr_8_u32, shr_8_i32, shr_14_i32, shr_12_i32, shr_18_i32, shr_2_i32, shr_1_i32, shr_1_i64, shr_8_i64, shr_4_i64, shr_16_u32, shr_4_u8, shr_1_u8] at h
  obtain ⟨h1, h2, h3, h4, h5, h6, h7, h8⟩ := h
  have r2 := rAt_nn (D := ρ.a 1) (a := ρ.i 1000) (u := ρ.i 1001)
  have r3 := rUs_rng (u := ρ.i 1001)
  have r4 := al_step (D := ρ.a 1) (a := ρ.i 1000) (u := ρ.i 1001)
  simp only [vc54, ↓b_le, ↓b_lt, ↓b_eq, ↓b_aeq, ↓f_le, ↓f_lt, ↓f_eq, ↓f_aeq, ↓b_not, ↓f_not, ↓b_and, ↓b_or, ↓f_and, ↓f_or, ↓b_tt, ↓b_ff, ↓f_tt, ↓f_ff, met_cons, met_nil, hyp_cons, hyp_nil, T.I, T.A, T.B, Int.toNat_zero, List.drop_zero, and_true, implies_true, VC.sem, spliceL_cast, shr_24_u32, shr_8_u32, shr_8_i32, shr_14_i32, shr_12_i32, shr_18_i32, shr_2_i32, shr_1_i32, shr_1_i64, shr_8_i64, shr_4_i64, shr_16_u32, shr_4_u8, shr_1_u8, z200, z201, z202, zb200, zb290, z290]
  (repeat' (first | exact True.intro | refine And.intro ?_ ?_ | intro _)) <;> (try assumption) <;> (try omega)
  all_goals (have ho := ‹alOk (ρ.a 1) (alN (ρ.i 1001)) _ _ = true›)
  all_goals (have he := ‹alAt (ρ.a 1) (alN (ρ.i 1001)) _ _ = _›)
  all_goals (by_cases hz : ρ.i 1001 = 0)
  all_goals (try (exfalso; omega))
  all_goals (try (have s := r4 (by omega) (by omega) hz; rw [s.1] at ho; rw [s.2] at he; simp only [Bool.and_eq_true, decide_eq_true_eq] at ho))
  all_goals (try rw [Int.tmod_eq_emod_of_nonneg (by omega)])
  all_goals (try rw [Int.tmod_eq_emod_of_nonneg (by omega)])
  all_goals (try omega)
  all_goals (first | exact ho.1 | exact ho.2.2 | exact he | (exfalso; have := ho.2.1; omega) | (rw [hz] at he; exact he.symm) | (have q := r3 (by omega) (by omega); unfold rUs at *; split <;> omega))
theorem seqF {h : Nat} (hh : h < 4) {D : List Int} {k a u : Int} (h1 : 0 ≤ a) (h2 : 0 ≤ u) (h3 : u ≤ 7) (hk : k ≤ 63) (ho : seqOk (cnt h) (syms h) D k a u = true) :
    sym1Ok (cnt h) (syms h) D a u = true ∧ 0 ≤ e0 (sym1 (cnt h) (syms h) D a u) ∧ e0 (sym1 (cnt h) (syms h) D a u) ≤ 255 ∧ 0 ≤ (e1 (sym1 (cnt h) (syms h) D a u)) ∧ 0 ≤ (e2 (sym1 (cnt h) (syms h) D a u)) ∧ (e2 (sym1 (cnt h) (syms h) D a u)) ≤ 7 ∧ bitsOf .and .i64 (e0 (sym1 (cnt h) (syms h) D a u)) 15 = e0 (sym1 (cnt h) (syms h) D a u) % 16 ∧
    (e0 (sym1 (cnt h) (syms h) D a u) % 16 = 0 → e0 (sym1 (cnt h) (syms h) D a u) / 16 = 0 ∨ (e0 (sym1 (cnt h) (syms h) D a u) / 16 = 15 ∧ k + 15 < 63 ∧ seqOk (cnt h) (syms h) D (k + 16) (e1 (sym1 (cnt h) (syms h) D a u)) (e2 (sym1 (cnt h) (syms h) D a u)) = true)) ∧
    (¬ e0 (sym1 (cnt h) (syms h) D a u) % 16 = 0 → k + e0 (sym1 (cnt h) (syms h) D a u) / 16 ≤ 63 ∧ numOk D (e0 (sym1 (cnt h) (syms h) D a u) % 16).toNat (e1 (sym1 (cnt h) (syms h) D a u)) (e2 (sym1 (cnt h) (syms h) D a u)) = true ∧ seqOk (cnt h) (syms h) D (k + e0 (sym1 (cnt h) (syms h) D a u) / 16 + 1) (e1 (numL D (e0 (sym1 (cnt h) (syms h) D a u) % 16).toNat 0 (e1 (sym1 (cnt h) (syms h) D a u)) (e2 (sym1 (cnt h) (syms h) D a u)))) (e2 (numL D (e0 (sym1 (cnt h) (syms h) D a u) % 16).toNat 0 (e1 (sym1 (cnt h) (syms h) D a u)) (e2 (sym1 (cnt h) (syms h) D a u)))) = true ∧ 0 ≤ e1 (numL D (e0 (sym1 (cnt h) (syms h) D a u) % 16).toNat 0 (e1 (sym1 (cnt h) (syms h) D a u)) (e2 (sym1 (cnt h) (syms h) D a u))) ∧ 0 ≤ e2 (numL D (e0 (sym1 (cnt h) (syms h) D a u) % 16).toNat 0 (e1 (sym1 (cnt h) (syms h) D a u)) (e2 (sym1 (cnt h) (syms h) D a u))) ∧ e2 (numL D (e0 (sym1 (cnt h) (syms h) D a u) % 16).toNat 0 (e1 (sym1 (cnt h) (syms h) D a u)) (e2 (sym1 (cnt h) (syms h) D a u))) ≤ 7) := by
  rw [seqOk, if_pos hk, Bool.and_eq_true] at ho
  obtain ⟨o1, o2⟩ := ho
  obtain ⟨r1, r2, r3, r4, r5⟩ := sym1_rng hh o1 h1 h2 h3
  refine ⟨o1, r1, r2, r3, r4, r5, and15 r1 r2, fun hz => ?_, fun hz => ?_⟩
  · rw [if_pos (show sSize (cnt h) (syms h) D a u = 0 from hz)] at o2
    split at o2
    · rename_i hr; exact Or.inl hr
    · simp only [Bool.and_eq_true, decide_eq_true_eq] at o2
      exact Or.inr o2
  · rw [if_neg (show ¬ sSize (cnt h) (syms h) D a u = 0 from hz), if_pos (show 0 ≤ sRun (cnt h) (syms h) D a u by unfold sRun; omega)] at o2
    simp only [Bool.and_eq_true, decide_eq_true_eq] at o2
    exact ⟨o2.1, o2.2.1, o2.2.2, numL_pos D _ 0 _ _ r3 r4 r5⟩
theorem seqL_a {h : Nat} {D bl : List Int} {d k a u : Int} (hk : k ≤ 63) (hz : e0 (sym1 (cnt h) (syms h) D a u) % 16 = 0) (hr : e0 (sym1 (cnt h) (syms h) D a u) / 16 = 0) : seqL (cnt h) (syms h) D d k a u bl = (e1 (sym1 (cnt h) (syms h) D a u)) :: (e2 (sym1 (cnt h) (syms h) D a u)) :: bl := by
  rw [seqL, if_pos hk, if_pos (show sSize (cnt h) (syms h) D a u = 0 from hz), if_pos (show sRun (cnt h) (syms h) D a u = 0 from hr)]; rfl
theorem seqL_b {h : Nat} {D bl : List Int} {d k a u : Int} (hk : k ≤ 63) (hz : e0 (sym1 (cnt h) (syms h) D a u) % 16 = 0) (hr : ¬ e0 (sym1 (cnt h) (syms h) D a u) / 16 = 0) : seqL (cnt h) (syms h) D d k a u bl = seqL (cnt h) (syms h) D d (k + 16) (e1 (sym1 (cnt h) (syms h) D a u)) (e2 (sym1 (cnt h) (syms h) D a u)) bl := by
  rw [seqL, if_pos hk, if_pos (show sSize (cnt h) (syms h) D a u = 0 from hz), if_neg (show ¬ sRun (cnt h) (syms h) D a u = 0 from hr)]; rfl
theorem seqL_c {h : Nat} {D bl : List Int} {d k a u : Int} (hk : k ≤ 63) (hz : ¬ e0 (sym1 (cnt h) (syms h) D a u) % 16 = 0) (hr : 0 ≤ e0 (sym1 (cnt h) (syms h) D a u) / 16) : seqL (cnt h) (syms h) D d k a u bl = seqL (cnt h) (syms h) D d (k + e0 (sym1 (cnt h) (syms h) D a u) / 16 + 1) (e1 (numL D (e0 (sym1 (cnt h) (syms h) D a u) % 16).toNat 0 (e1 (sym1 (cnt h) (syms h) D a u)) (e2 (sym1 (cnt h) (syms h) D a u)))) (e2 (numL D (e0 (sym1 (cnt h) (syms h) D a u) % 16).toNat 0 (e1 (sym1 (cnt h) (syms h) D a u)) (e2 (sym1 (cnt h) (syms h) D a u)))) (bl.set (d + (k + e0 (sym1 (cnt h) (syms h) D a u) / 16)).toNat (sgn (e0 (sym1 (cnt h) (syms h) D a u) % 16) (e0 (numL D (e0 (sym1 (cnt h) (syms h) D a u) % 16).toNat 0 (e1 (sym1 (cnt h) (syms h) D a u)) (e2 (sym1 (cnt h) (syms h) D a u)))))) := by
  rw [seqL, if_pos hk, if_neg (show ¬ sSize (cnt h) (syms h) D a u = 0 from hz), if_pos (show 0 ≤ sRun (cnt h) (syms h) D a u from hr)]; rfl
theorem seqL_d {h : Nat} {D bl : List Int} {d k a u : Int} (hk : ¬ k ≤ 63) : seqL (cnt h) (syms h) D d k a u bl = a :: u :: bl := by
  rw [seqL, if_neg hk]
theorem getM {S : Sig} {ρ : Env} {l : List T} (h : Met S ρ l) (t : T) (ht : memT l t = true) : t.B S ρ = true := h t (memT_spec ht)
def vc75_1 : VC :=
 let t0 : T := .alit []
 let t1 : T := .fa 251 (.iv 5) (.lit (1)) (.iv 0) (.iv 1) (.av 1) (.av 7) t0 t0
 let t2 : T := .lit (0)
 let t3 : T := .fi 221 (.iv 1001) (.iv 1002) t2 t2 (.av 1) t0 t0 t0
 let t4 : T := .bits .and .i64 t3 (.lit (15))
 let t5 : T := .shr .i64 t3 (.lit (4))
 let t6 : T := .fi 265 (.iv 5) (.iv 0) (.iv 1) t2 (.av 1) (.av 7) t0 t0
 let t7 : T := .fi 241 (.iv 1001) (.iv 1002) t2 t2 (.av 1) t0 t0 t0
 let t8 : T := .eq t6 t7
 let t9 : T := .fi 261 (.iv 5) (.iv 0) (.iv 1) t2 (.av 1) (.av 7) t0 t0
 let t10 : T := .fi 231 (.iv 1001) (.iv 1002) t2 t2 (.av 1) t0 t0 t0
 let t11 : T := .eq t9 t10
 let t12 : T := .aeq (.fa 269 (.iv 5) (.iv 0) (.iv 1) t2 (.av 1) (.av 7) t0 t0) (.av 1000)
 let t13 : T := .lit (-9223372036854775808)
 let t14 : T := .add (.iv 1000) (.lit (15))
 let t15 : T := .lit (9223372036854775807)
 let t16 : T := .add t14 (.lit (1))
 let t20 : T := .add (.iv 1000) t5
 let t21 : T := .add (.iv 5) t20
 let t22 : T := .add t20 (.lit (1))
 let t23 : T := .fi 205 t4 t10 t7 t2 (.av 1) t0 t0 t0
 let t24 : T := .fi 206 t4 t10 t7 t2 (.av 1) t0 t0 t0
 let t25 : T := .set (.av 1000) t21 (.fi 208 t4 t10 t7 t2 (.av 1) t0 t0 t0)
 (.need [(.le (.lit (1)) (.lit (1))), (.le (.lit (1)) (.lit (64))), (.eq (.len (.av 7)) (.len (.av 7))), (.aeq t1 t1)] (.any 1000 1000000000 [(.le (.lit (1)) (.iv 1000)), (.le (.iv 1000) (.lit (64))), (.le t2 (.iv 1001)), (.le t2 (.iv 1002)), (.le (.iv 1002) (.lit (7))), (.eq (.len (.av 1000)) (.len (.av 7))), (.fb 251 (.iv 1000) (.iv 1001) (.iv 1002) t2 (.av 1) t0 t0 t0), (.aeq (.fa 251 (.iv 5) (.iv 1000) (.iv 1001) (.iv 1002) (.av 1) (.av 1000) t0 t0) t1)] (.cond (.le (.iv 1000) (.lit (63))) (.need [(.fb 221 (.iv 1001) (.iv 1002) t2 t2 (.av 1) t0 t0 t0)] (.cond (.eq t4 t2) (.cond (.eq t5 t2) (.need [t8, t11, t12] .done) (.need [(.le t13 t14), (.le t14 t15)] (.cond (.not (.eq t5 (.lit (15)))) (.need [t8, t11, .ff, t12] .done) (.cond (.le (.lit (63)) t14) (.need [t8, t11, .ff, t12] .done) (.need [(.le t13 t16), (.le t16 t15)] (.need [(.le (.lit (1)) t16), (.le t16 (.lit (64))), (.le t2 t10), (.le t2 t7), (.le t7 (.lit (7))), (.fb 251 t16 t10 t7 t2 (.av 1) t0 t0 t0), (.aeq (.fa 251 (.iv 5) t16 t10 t7 (.av 1) (.av 1000) t0 t0) t1), (.lt t2 (.sub (.lit (64)) (.iv 1000))), (.lt (.sub (.lit (64)) t16) (.sub (.lit (64)) (.iv 1000)))] .done)))))) (.need [(.le t13 t20), (.le t20 t15)] (.cond (.lt (.lit (63)) t20) (.need [t8, t11, .ff, t12] .done) (.need [(.le t2 t10), (.le t2 t7), (.le t7 (.lit (7))), (.le t2 t4), (.le t4 (.lit (16))), (.fb 203 t4 t10 t7 t2 (.av 1) t0 t0 t0)] (.need [(.le t2 t20), (.lt t20 (.lit (64)))] (.need [(.le t2 t21), (.lt t21 (.len (.av 1000)))] (.need [(.le t13 t22), (.le t22 t15)] (.need [(.le (.lit (1)) t22), (.le t22 (.lit (64))), (.le t2 t23), (.le t2 t24), (.le t24 (.lit (7))), (.eq (.len t25) (.len (.av 7))), (.fb 251 t22 t23 t24 t2 (.av 1) t0 t0 t0), (.aeq (.fa 251 (.iv 5) t22 t23 t24 (.av 1) t25 t0 t0) t1), (.lt t2 (.sub (.lit (64)) (.iv 1000))), (.lt (.sub (.lit (64)) t22) (.sub (.lit (64)) (.iv 1000)))] .done))))))))) (.need [(.eq t6 (.iv 1002)), (.eq t9 (.iv 1001)), t12] .done))))
theorem w75_1 : vcIs (vcOf Tryz.prog (spI 1) noR ⟨ltK7 1, inlK6⟩ 100000 75 (c75 1)) vc75_1 = true := by kernel_rfl
theorem zb251 (x y z : Int) (D : List Int) : Z.fb 251 x y z 0 D [] [] [] = seqOk (cnt 1) (syms 1) D x y z := id rfl
theorem za251 (x y z u : Int) (D b : List Int) : Z.fa 251 x y z u D b [] [] = seqL (cnt 1) (syms 1) D x y z u b := id rfl
theorem z261 (x y z : Int) (D b : List Int) : Z.fi 261 x y z 0 D b [] [] = e0 (seqL (cnt 1) (syms 1) D x 1 y z b) := id rfl
theorem z2641 (x y z : Int) (D b : List Int) : Z.fi 265 x y z 0 D b [] [] = e1 (seqL (cnt 1) (syms 1) D x 1 y z b) := id rfl
theorem za2681 (x y z : Int) (D b : List Int) : Z.fa 269 x y z 0 D b [] [] = (seqL (cnt 1) (syms 1) D x 1 y z b).drop 2 := id rfl
set_option maxRecDepth 20000 in
theorem c75_1_ok : CtrOk Tryz.prog Z 75 (c75 1) := by
  refine ctr_prog (spI_ok 1 c102_1_ok) noR_ok w75_1 fun ρ h => ?_
  have g1 := getM h (.eq (.len (.av 1)) (.iv 6)) (by kernel_rfl)
  have g2 := getM h (.le (.iv 6) lim) (by kernel_rfl)
  have g4 := getM h (.le (.lit 0) (.iv 0)) (by kernel_rfl)
  have g5 := getM h (.le (.lit 0) (.iv 1)) (by kernel_rfl)
  have g6 := getM h (.le (.iv 1) (.lit 7)) (by kernel_rfl)
  have g7 := getM h (.le (.lit 0) (.iv 5)) (by kernel_rfl)
  have g8 := getM h (.le (.add (.iv 5) (.lit 64)) (.len (.av 7))) (by kernel_rfl)
  have g9 := getM h (.le (.len (.av 7)) lim) (by kernel_rfl)
  have g10 := getM h (fbD 251 (.lit 1) (.iv 0) (.iv 1) z0) (by kernel_rfl)
  clear h
  simp only [fbD, z0, lim, zb251, ↓b_le, ↓b_lt, ↓b_eq, ↓b_aeq, ↓f_le, ↓f_lt, ↓f_eq, ↓f_aeq, ↓b_not, ↓f_not, ↓b_and, ↓b_or, ↓f_and, ↓f_or, ↓b_tt, ↓b_ff, ↓f_tt, ↓f_ff, met_cons, met_nil, hyp_cons, hyp_nil, T.I, T.A, T.B, Int.toNat_zero, List.drop_zero, and_true, implies_true, VC.sem, spliceL_cast, shr_24_u32, shr_8_u32, shr_8_i32, shr_14_i32, shr_12_i32, shr_18_i32, shr_2_i32, shr_1_i32, shr_1_i64, shr_8_i64, shr_4_i64, shr_16_u32, shr_4_u8, shr_1_u8] at g1 g2 g4 g5 g6 g7 g8 g9 g10
  have w1 := z261 (ρ.i 5) (ρ.i 0) (ρ.i 1) (ρ.a 1) (ρ.a 7)
  have w2 := z2641 (ρ.i 5) (ρ.i 0) (ρ.i 1) (ρ.a 1) (ρ.a 7)
  have w3 := za2681 (ρ.i 5) (ρ.i 0) (ρ.i 1) (ρ.a 1) (ρ.a 7)
  simp only [vc75_1, ↓b_le, ↓b_lt, ↓b_eq, ↓b_aeq, ↓f_le, ↓f_lt, ↓f_eq, ↓f_aeq, ↓b_not, ↓f_not, ↓b_and, ↓b_or, ↓f_and, ↓f_or, ↓b_tt, ↓b_ff, ↓f_tt, ↓f_ff, met_cons, met_nil, hyp_cons, hyp_nil, T.I, T.A, T.B, Int.toNat_zero, List.drop_zero, and_true, implies_true, VC.sem, spliceL_cast, shr_24_u32, shr_8_u32, shr_8_i32, shr_14_i32, shr_12_i32, shr_18_i32, shr_2_i32, shr_1_i32, shr_1_i64, shr_8_i64, shr_4_i64, shr_16_u32, shr_4_u8, shr_1_u8, z204, z205, z206, z208, zb203, z221, z231, z241, zb221, zb251, za251]
  (repeat' (first | exact True.intro | refine And.intro ?_ ?_ | intro _)) <;> (try assumption) <;> (try omega)
  all_goals (try rw [w1])
  all_goals (try rw [w2])
  all_goals (try rw [w3])
  all_goals clear w1 w2 w3
  all_goals (by_cases hk : ρ.i 1000 ≤ 63)
  all_goals (try (exfalso; omega))
  all_goals (have e := ‹seqL _ _ _ _ (ρ.i 1000) _ _ _ = _›)
  all_goals (try (rw [seqL_d hk] at e; rw [← e]; rfl))
  all_goals (have F := seqF (h := 1) (by omega) (D := ρ.a 1) (k := ρ.i 1000) (a := ρ.i 1001) (u := ρ.i 1002) (by omega) (by omega) (by omega) (by omega) ‹seqOk _ _ _ (ρ.i 1000) _ _ = true›)
  all_goals (obtain ⟨f1, f2, f3, f4, f5, f6, f7, f8, f9⟩ := F)
  all_goals (try simp only [f7] at *)
  all_goals (try omega)
  all_goals (try assumption)
  all_goals (first
    | (exfalso; have q := f8 (by omega); omega)
    | (rw [seqL_a (by omega) (by omega) (by omega)] at e; rw [← e]; rfl)
    | (rw [show ρ.i 1000 + 15 + 1 = ρ.i 1000 + 16 from by omega, ← seqL_b (by omega) (by omega) (by omega)]; exact e)
    | (rw [← seqL_c (by omega) (by omega) (by omega)]; exact e)
    | (have q := f8 (by omega); rw [show ρ.i 1000 + 15 + 1 = ρ.i 1000 + 16 from by omega]; exact (q.resolve_left (by omega)).2.2)
    | (have m := f9 (by omega); first | exact m.2.1 | exact m.2.2.1 | omega | (rw [List.length_set]; omega)))
theorem z270 (x y : Int) (D : List Int) : Z.fi 270 x y 0 0 D [] [] [] = sgn (e0 (sym1 (cnt 0) (syms 0) D x y)) (e0 (numL D (e0 (sym1 (cnt 0) (syms 0) D x y)).toNat 0 (e1 (sym1 (cnt 0) (syms 0) D x y)) (e2 (sym1 (cnt 0) (syms 0) D x y)))) := id rfl
theorem z2720 (x y : Int) (D : List Int) : Z.fi 272 x y 0 0 D [] [] [] = e1 (numL D (e0 (sym1 (cnt 0) (syms 0) D x y)).toNat 0 (e1 (sym1 (cnt 0) (syms 0) D x y)) (e2 (sym1 (cnt 0) (syms 0) D x y))) := id rfl
theorem z2740 (x y : Int) (D : List Int) : Z.fi 274 x y 0 0 D [] [] [] = e2 (numL D (e0 (sym1 (cnt 0) (syms 0) D x y)).toNat 0 (e1 (sym1 (cnt 0) (syms 0) D x y)) (e2 (sym1 (cnt 0) (syms 0) D x y))) := id rfl
theorem zb270 (x y : Int) (D : List Int) : Z.fb 270 x y 0 0 D [] [] [] = (sym1Ok (cnt 0) (syms 0) D x y && numOk D (e0 (sym1 (cnt 0) (syms 0) D x y)).toNat (e1 (sym1 (cnt 0) (syms 0) D x y)) (e2 (sym1 (cnt 0) (syms 0) D x y))) := id rfl
def vc74_00 : VC :=
 let t0 : T := .lit (0)
 let t1 : T := .alit []
 let t2 : T := .fi 230 (.iv 0) (.iv 1) t0 t0 (.av 1) t1 t1 t1
 let t3 : T := .fi 240 (.iv 0) (.iv 1) t0 t0 (.av 1) t1 t1 t1
 let t4 : T := .fi 220 (.iv 0) (.iv 1) t0 t0 (.av 1) t1 t1 t1
 let t5 : T := .add (.iv 3) (.fi 208 t4 t2 t3 t0 (.av 1) t1 t1 t1)
 let t6 : T := .add (.iv 3) (.fi 270 (.iv 0) (.iv 1) t0 t0 (.av 1) t1 t1 t1)
 let t7 : T := .eq t6 t5
 let t8 : T := .eq (.fi 274 (.iv 0) (.iv 1) t0 t0 (.av 1) t1 t1 t1) (.fi 206 t4 t2 t3 t0 (.av 1) t1 t1 t1)
 let t9 : T := .eq (.fi 272 (.iv 0) (.iv 1) t0 t0 (.av 1) t1 t1 t1) (.fi 205 t4 t2 t3 t0 (.av 1) t1 t1 t1)
 let t10 : T := .aeq (.set (.av 7) (.iv 5) t6) (.set (.av 7) (.iv 5) t5)
 (.need [(.fb 220 (.iv 0) (.iv 1) t0 t0 (.av 1) t1 t1 t1)] (.need [(.le t0 t2), (.le t0 t3), (.le t3 (.lit (7))), (.le t0 t4), (.le t4 (.lit (16))), (.fb 203 t4 t2 t3 t0 (.av 1) t1 t1 t1)] (.need [(.le (.lit (-9223372036854775808)) t5), (.le t5 (.lit (9223372036854775807)))] (.need [(.lt (.iv 5) (.len (.av 7)))] (.cond (.lt t5 (.lit (-1024))) (.need [t7, t8, t9, .ff, t10] .done) (.cond (.lt (.lit (1023)) t5) (.need [t7, t8, t9, .ff, t10] .done) (.need [t7, t8, t9, t10] .done)))))))
theorem w74_00 : vcIs (vcOf Tryz.prog (spI 0) noR ⟨ltK7 0, inlK6⟩ 100000 74 (c74 0 0)) vc74_00 = true := by kernel_rfl
set_option maxRecDepth 20000 in
theorem c74_00_ok : CtrOk Tryz.prog Z 74 (c74 0 0) := by
  refine ctr_prog (spI_ok 0 c102_0_ok) noR_ok w74_00 fun ρ h => ?_
  have g1 := getM h (.eq (.len (.av 1)) (.iv 6)) (by kernel_rfl)
  have g2 := getM h (.le (.iv 6) lim) (by kernel_rfl)
  have g4 := getM h (.le (.lit 0) (.iv 0)) (by kernel_rfl)
  have g5 := getM h (.le (.lit 0) (.iv 1)) (by kernel_rfl)
  have g6 := getM h (.le (.iv 1) (.lit 7)) (by kernel_rfl)
  have g7 := getM h (.le (.lit 0) (.iv 5)) (by kernel_rfl)
  have g8 := getM h (.le (.add (.iv 5) (.lit 64)) (.len (.av 7))) (by kernel_rfl)
  have g9 := getM h (.le (.len (.av 7)) lim) (by kernel_rfl)
  have g10 := getM h (fbD 270 (.iv 0) (.iv 1) z0 z0) (by kernel_rfl)
  have g11 := getM h (.le (.lit (-1024)) (.iv 3)) (by kernel_rfl)
  have g12 := getM h (.le (.iv 3) (.lit 1023)) (by kernel_rfl)
  have g13 := getM h (.le (.lit (-1024)) (.add (.iv 3) (fD 270 (.iv 0) (.iv 1) z0 z0))) (by kernel_rfl)
  have g14 := getM h (.le (.add (.iv 3) (fD 270 (.iv 0) (.iv 1) z0 z0)) (.lit 1023)) (by kernel_rfl)
  clear h
  simp only [fbD, fD, z0, lim, zb270, z270, ↓b_le, ↓b_lt, ↓b_eq, ↓b_aeq, ↓f_le, ↓f_lt, ↓f_eq, ↓f_aeq, ↓b_not, ↓f_not, ↓b_and, ↓b_or, ↓f_and, ↓f_or, ↓b_tt, ↓b_ff, ↓f_tt, ↓f_ff, met_cons, met_nil, hyp_cons, hyp_nil, T.I, T.A, T.B, Int.toNat_zero, List.drop_zero, and_true, implies_true, VC.sem, spliceL_cast, shr_24_u32, shr_8_u32, shr_8_i32, shr_14_i32, shr_12_i32, shr_18_i32, shr_2_i32, shr_1_i32, shr_1_i64, shr_8_i64, shr_4_i64, shr_16_u32, shr_4_u8, shr_1_u8, Bool.and_eq_true] at g1 g2 g4 g5 g6 g7 g8 g9 g10 g11 g12 g13 g14
  obtain ⟨o1, o2⟩ := g10
  obtain ⟨r1, r2, r3, r4, r5⟩ := sym1_rng (h := 0) (by omega) o1 g4 g5 g6
  have r6 := dc_rng (q := 0) (by omega) o1 g4 g5 g6
  simp only [vc74_00, ↓b_le, ↓b_lt, ↓b_eq, ↓b_aeq, ↓f_le, ↓f_lt, ↓f_eq, ↓f_aeq, ↓b_not, ↓f_not, ↓b_and, ↓b_or, ↓f_and, ↓f_or, ↓b_tt, ↓b_ff, ↓f_tt, ↓f_ff, met_cons, met_nil, hyp_cons, hyp_nil, T.I, T.A, T.B, Int.toNat_zero, List.drop_zero, and_true, implies_true, VC.sem, spliceL_cast, shr_24_u32, shr_8_u32, shr_8_i32, shr_14_i32, shr_12_i32, shr_18_i32, shr_2_i32, shr_1_i32, shr_1_i64, shr_8_i64, shr_4_i64, shr_16_u32, shr_4_u8, shr_1_u8, z204, z205, z206, z208, zb203, z220, z230, z240, zb220, z270, z2720, z2740]
  (repeat' (first | exact True.intro | refine And.intro ?_ ?_ | intro _)) <;> (try assumption) <;> (try omega)
  exact Int.le_trans r6 (by decide)
end
end Go.Proofs.YtljjbikbfeigdaaGreatDoor
