/- Part of the proof of FnGrayEdgesCardSaid: Contracts of the specification's reader shown: a whole stream. -/
import Derived.Test.YtljjbikbfeigdaaGreatDoorGe32
set_option linter.all false
namespace Go.Proofs.YtljjbikbfeigdaaGreatDoor
noncomputable section
open Go
theorem pickN_ok {f : FuncId} {l : List (Int × Ctr)} {d : Ctr} (hl : ∀ x ∈ l, CtrOk Tryz.prog Z f x.2) (hd : CtrOk Tryz.prog Z f d) : SpecOk Tryz.prog Z f (pickN l d) := by
  intro ρ w0 w h args r hs
  unfold pickN at hs
  split at hs
  · split at hs
    · split at hs
      · rename_i x hx
        exact applyF_ok (hl x (List.mem_of_find?_eq_some hx)) ρ w0 w h args r hs
      · exact applyF_ok hd ρ w0 w h args r hs
    · exact applyF_ok hd ρ w0 w h args r hs
  · exact applyF_ok hd ρ w0 w h args r hs
theorem spR_ok : ∀ f s, spR f = some s → SpecOk Tryz.prog Z f s := by
  intro f s h
  unfold spR at h
  split at h
  · cases h
    refine pickN_ok (fun x hx => ?_) c31_e_ok
    simp only [List.mem_cons, List.not_mem_nil, or_false] at hx
    rcases hx with rfl | rfl | rfl | rfl
    · exact c31_2_ok
    · exact c31_136_ok
    · exact c31_149_ok
    · exact c31_361_ok
  · cases h
    refine pickN_ok (fun x hx => ?_) c33_4_ok
    simp only [List.mem_cons, List.not_mem_nil, or_false] at hx
    rcases hx with rfl | rfl | rfl | rfl
    · exact c33_4_ok
    · exact c33_138_ok
    · exact c33_151_ok
    · exact c33_363_ok
  · cases h; exact applyF_ok c47_ok
  · cases h; exact applyF_ok c48_ok
  · cases h
theorem rspR_ok : ∀ f s, rspR f = some s → RSpecOk Tryz.prog Z f s := by
  intro f s h
  unfold rspR at h
  split at h
  · cases h; exact applyR_ok c49_ok
  · cases h; exact applyR_ok c50_ok
  · cases h; exact applyR_ok c35_ok
  · cases h
theorem at8_cut {D : List Int} {s n : Nat} {i : Int} (h0 : 0 ≤ i) (h1 : i < n) : at8 ((D.drop s).take n) i = at8 D (s + i) := by
  unfold at8
  rw [List.getD_eq_getElem?_getD, List.getElem?_take, if_pos (by omega), List.getElem?_drop, List.getD_eq_getElem?_getD]
  congr 2; omega
theorem cut_at {D l : List Int} {s n : Nat} (h : cutL D s n = l) {i : Int} (h0 : 0 ≤ i) (h1 : i < n) : at8 D (s + i) = at8 l i := by
  rw [← h]; exact (at8_cut h0 h1).symm
theorem ext_at8 {l m : List Int} (hl : l.length = m.length) (h : ∀ i : Nat, i < l.length → at8 l i = at8 m i) : l = m := by
  apply List.ext_getElem hl
  intro i h1 h2
  have := h i h1
  unfold at8 at this
  rw [List.getD_eq_getElem?_getD, List.getD_eq_getElem?_getD, Int.toNat_natCast, List.getElem?_eq_getElem h1, List.getElem?_eq_getElem h2] at this
  exact this
theorem at8_setN {l : List Int} {m : Nat} {x n : Int} (hm : m < l.length) (h0 : 0 ≤ n) : at8 (l.set m x) n = if n = m then x else at8 l n := by
  unfold at8
  rw [List.getD_eq_getElem?_getD, List.getElem?_set, List.getD_eq_getElem?_getD]
  by_cases h : n = m
  · rw [if_pos h, if_pos (by omega), if_pos (by omega)]; rfl
  · rw [if_neg h, if_neg (by omega)]
theorem qfill_at {j : Nat} {b : List Int} : ∀ (k : Nat) {q : List Int} {i : Int}, 0 ≤ i → 64 * j + k ≤ q.length → at8 (qfill j b k q) i = if 64 * j ≤ i ∧ i < 64 * j + k then at8 b (65 * j + 1 + (i - 64 * j)) else at8 q i
  | 0, q, i, h0, _ => by rw [if_neg (by omega)]; rfl
  | k + 1, q, i, h0, hl => by
    rw [qfill, at8_setN (by rw [qfill_len]; omega) h0, qfill_at k h0 (by omega)]
    by_cases hi : i = (64 * j + k : Nat)
    · rw [if_pos hi, if_pos (by omega)]; congr 1; omega
    · rw [if_neg hi]
      by_cases h2 : 64 * j ≤ i ∧ i < 64 * j + k
      · rw [if_pos h2, if_pos (by omega)]
      · rw [if_neg h2, if_neg (by omega)]
theorem quant_first {D : List Int} {q : List Int} (hq : q.length = 256) (hD : 136 ≤ D.length) : (qfill 1 ((D.drop 6).take 130) 64 (qfill 0 ((D.drop 6).take 130) 64 q)).take 64 = cutL D 7 64 := by
  apply ext_at8
  · simp [qfill_len, cutL]; omega
  · intro i hi
    have hi64 : i < 64 := by simp at hi; omega
    have e1 : ∀ l : List Int, at8 (l.take 64) (i : Int) = at8 l (i : Int) := by
      intro l
      have := at8_cut (D := l) (s := 0) (n := 64) (i := (i : Int)) (by omega) (by omega)
      rw [List.drop_zero] at this
      rw [this]; congr 1; omega
    rw [e1, qfill_at 64 (by omega) (by rw [qfill_len]; omega), if_neg (by omega), qfill_at 64 (by omega) (by omega), if_pos (by omega), at8_cut (by omega) (by omega)]
    unfold cutL
    rw [at8_cut (by omega) (by omega)]
    congr 1; omega
theorem allIn_sub {lo hi : Int} {l : List Int} (h : allIn lo hi l = true) (s n : Nat) : allIn lo hi ((l.drop s).take n) = true := by
  unfold allIn at *
  rw [List.all_eq_true] at *
  exact fun x hx => h x (List.mem_of_mem_drop (List.mem_of_mem_take hx))
theorem allIn_lo {lo hi lo2 : Int} {l : List Int} (h : allIn lo hi l = true) (h2 : (l.all fun x => decide (lo2 ≤ x)) = true) : allIn lo2 hi l = true := by
  unfold allIn at *
  rw [List.all_eq_true] at *
  intro x hx
  have a := h x hx
  have b := h2 x hx
  simp only [Bool.and_eq_true, decide_eq_true_eq] at *
  exact ⟨b, a.2⟩
theorem zb440 (D : List Int) : Z.fb 440 0 0 0 0 D [] [] [] = gOk D := id rfl
theorem z431 (D : List Int) : Z.fi 431 0 0 0 0 D [] [] [] = wdD D := id rfl
theorem z432 (D : List Int) : Z.fi 432 0 0 0 0 D [] [] [] = hgD D := id rfl
theorem z433 (D : List Int) : Z.fi 433 0 0 0 0 D [] [] [] = nbD D := id rfl
theorem za434 (D : List Int) : Z.fa 434 0 0 0 0 D [] [] [] = cutL D 7 64 := id rfl
theorem za435 (D : List Int) : Z.fa 435 0 0 0 0 D [] [] [] = blD D := id rfl
theorem scL_rng {D : List Int} : ∀ (n : Nat) {m a u p : Int} {bl : List Int}, 0 ≤ a → 0 ≤ u → u ≤ 7 → scOk D n m a u p bl = true →
    0 ≤ e0 (scL D n m a u p bl) ∧ 0 ≤ e1 (scL D n m a u p bl) ∧ e1 (scL D n m a u p bl) ≤ 7 ∧ ((scL D n m a u p bl).drop 2).length = bl.length
  | 0, m, a, u, p, bl, h1, h2, h3, _ => ⟨h1, h2, h3, rfl⟩
  | n + 1, m, a, u, p, bl, h1, h2, h3, ho => by
    simp only [scOk, Bool.and_eq_true] at ho
    have B := blkS_rng (bl := bl) (d := 64 * m) h1 h2 h3 ho.1
    have := scL_rng n B.1 B.2.1 B.2.2.1 ho.2
    rw [B.2.2.2.1] at this
    exact this
theorem alAt_nn {D : List Int} : ∀ (n : Nat) {a u : Int}, 0 ≤ a → 0 ≤ alAt D n a u
  | 0, _, _, h => h
  | n + 1, _, _, h => alAt_nn n (rAt_nn h)
theorem cut_cut {D : List Int} {r s m n : Nat} (h : s + n ≤ m) : List.take n (List.drop s (List.take m (List.drop r D))) = cutL D (r + s) n := by
  unfold cutL
  rw [List.drop_take, List.take_take, List.drop_drop, Nat.min_eq_left (by omega)]
theorem zeroN_len {n : Int} (h : 0 ≤ n) : ((zeroN n).length : Int) = 64 * n := by simp [zeroN]; omega
theorem hS4 : spliceL (List.replicate 64 (0 : Int)) ((64 : Nat) : Int).toNat (spliceL (List.replicate 64 0) ((64 : Nat) : Int).toNat (spliceL (List.replicate 64 0) ((64 : Nat) : Int).toNat (List.replicate 64 0))) = List.replicate 256 0 := by decide +kernel
theorem hS3 : spliceL (List.replicate 64 (0 : Int)) ((64 : Nat) : Int).toNat (spliceL (List.replicate 64 0) ((64 : Nat) : Int).toNat (List.replicate 64 0)) = List.replicate 192 0 := by decide +kernel
theorem hql : (List.replicate 64 (0 : Int) ++ (List.replicate 64 0 ++ (List.replicate 64 0 ++ List.replicate 64 0))).length = 256 := by rw [List.length_append, List.length_append, List.length_append, List.length_replicate]
def vc17 : VC :=
 let t0 : T := .lit (0)
 let t1 : T := .av 1
 let t2 : T := .lit (255)
 let t3 : T := .lit (1)
 let t4 : T := .cut t1 (.lit (6)) (.lit (130))
 let t5 : T := .lit (64)
 let t6 : T := .rep t5 t0
 let t8 : T := .splice t6 (.len t6) (.splice t6 (.len t6) t6)
 let t9 : T := .splice t6 (.len t6) t8
 let t10 : T := .alit []
 let t11 : T := .cut t1 (.lit (140)) (.lit (9))
 let t12 : T := .add (.mul (.get t11 (.lit (3))) (.lit (256))) (.get t11 (.lit (4)))
 let t13 : T := .add (.mul (.get t11 t3) (.lit (256))) (.get t11 (.lit (2)))
 let t14 : T := .iv 1120
 let t15 : T := .fa 411 t3 t5 t0 t0 (.fa 411 t0 t5 t0 t0 t9 t4 t10 t10) t4 t10 t10
 let t16 : T := .fi 403 t14 (.lit (371)) t0 t0 t1 (.av 1107) t10 t10
 let t18 : T := .fa 410 t5 t0 t0 t0 t10 t10 t10 t10
 let t19 : T := .add (.iv 2200) t3
 let t20 : T := .fa 403 t14 (.lit (371)) t0 t0 t1 (.av 1107) t10 t10
 let t21 : T := .add (.iv 2600) t3
 (.need [(.le t0 (.iv 6))] (.cond (.lt (.iv 6) (.lit (2))) (.fail "leaf fit") (.need [(.lt t0 (.iv 6))] (.need [(.lt t0 (.len t1))] (.cond (.not (.eq (.get t1 t0) t2)) (.fail "leaf fit") (.need [(.lt t3 (.iv 6))] (.need [(.lt t3 (.len t1))] (.cond (.not (.eq (.get t1 t3) (.lit (216)))) (.fail "leaf fit") (.need [(.le t0 (.lit (2))), (.lt (.add (.lit (2)) t3) (.iv 6)), (.eq (.get t1 (.lit (2))) t2), (.eq (.get t1 (.add (.lit (2)) t3)) (.lit (219)))] (.need [(.le (.lit (136)) (.iv 6)), (.eq (.get t1 (.lit (4))) t0), (.eq (.get t1 (.lit (5))) (.lit (132)))] (.need [(.le (.lit (136)) (.len t1)), (.le (.lit (130)) (.sub (.iv 7) (.lit (6)))), (.eq (.len t4) (.lit (130))), (.eq (.len t9) (.lit (256))), (.fb 2 t0 t2 t0 t0 t4 t10 t10 t10), (.eq (.get t4 t0) t0), (.eq (.get t4 (.lit (65))) t3), (.fb 2 t3 t2 t0 t0 (.cut t4 t3 t5) t10 t10 t10), (.fb 2 t3 t2 t0 t0 (.cut t4 (.lit (66)) t5) t10 t10 t10)] (.need [(.le t0 (.lit (136))), (.lt (.add (.lit (136)) t3) (.iv 6)), (.eq (.get t1 (.lit (136))) t2), (.eq (.get t1 (.add (.lit (136)) t3)) (.lit (192)))] (.need [(.le (.lit (149)) (.iv 6)), (.eq (.get t1 (.lit (138))) t0), (.eq (.get t1 (.lit (139))) (.lit (11)))] (.need [(.le (.lit (149)) (.len t1)), (.aeq (.fa 412 t0 t0 t0 t0 t10 t10 t10 t10) t8), (.le (.lit (9)) (.sub (.iv 7) (.lit (140)))), (.eq (.len t11) (.lit (9))), (.fb 2 t0 t2 t0 t0 t11 t10 t10 t10), (.eq (.get t11 t0) (.lit (8))), (.eq (.get t11 (.lit (5))) t3), (.eq (.get t11 (.lit (6))) t3), (.eq (.get t11 (.lit (7))) (.lit (17))), (.eq (.get t11 (.lit (8))) t0), (.le t3 t12), (.le t3 t13), (.le (.mul t12 t13) (.lit (65536)))] (.any 1000 1 [(.eq t14 (.fi 436 t12 t13 t0 t0 t10 t10 t10 t10)), (.aeq (.av 1107) (.fa 437 t14 t0 t0 t0 t10 t10 t10 t10))] (.need [(.le t0 (.lit (149))), (.lt (.add (.lit (149)) t3) (.iv 6)), (.eq (.get t1 (.lit (149))) t2), (.eq (.get t1 (.add (.lit (149)) t3)) (.lit (196)))] (.need [(.le (.lit (361)) (.iv 6)), (.eq (.get t1 (.lit (151))) t0), (.eq (.get t1 (.lit (152))) (.lit (210)))] (.need [(.le (.lit (361)) (.len t1)), (.aeq (.alit dhtG) (.cut t1 (.lit (153)) (.lit (208)))), (.le (.lit (208)) (.sub (.iv 7) (.lit (153))))] (.any 1400 1 [] (.need [(.le t0 (.lit (361))), (.lt (.add (.lit (361)) t3) (.iv 6)), (.eq (.get t1 (.lit (361))) t2), (.eq (.get t1 (.add (.lit (361)) t3)) (.lit (218)))] (.need [(.le (.lit (371)) (.iv 6)), (.eq (.get t1 (.lit (363))) t0), (.eq (.get t1 (.lit (364))) (.lit (8)))] (.need [(.le t0 (.lit (371))), (.le (.lit (6)) (.sub (.iv 7) (.lit (365)))), (.aeq (.cut t1 (.lit (365)) (.lit (6))) (.alit [1, 1, 0, 0, 63, 0])), (.le t12 (.lit (65535))), (.le t13 (.lit (65535))), (.eq t14 (.mul (.tdiv (.add t12 (.lit (7))) (.lit (8))) (.tdiv (.add t13 (.lit (7))) (.lit (8))))), (.eq (.len (.av 1107)) (.mul t5 t14)), (.le t3 (.get t15 t0)), (.fb 400 t14 t0 (.lit (371)) t0 t1 (.av 1107) (.set (.alit [0]) t0 t0) t10)] (.any 1800 1 [] (.need [(.le t0 t16), (.lt (.add t16 t3) (.iv 6)), (.eq (.get t1 t16) t2), (.eq (.get t1 (.add t16 t3)) (.lit (217)))] (.cond (.not (.eq (.add t16 (.lit (2))) (.iv 6))) (.fail "leaf fit") (.cond (.lt (.get t18 t0) t0) (.fail "leaf fit") (.need [(.le t0 t0), (.le t0 t5)] (.any 2200 1000000002 [(.le t0 (.iv 2200)), (.le (.iv 2200) t5)] (.cond (.lt (.iv 2200) t5) (.need [(.lt (.iv 2200) (.lit (192)))] (.need [(.le (.lit (-9223372036854775808)) t19), (.le t19 (.lit (9223372036854775807)))] (.need [(.eq (.get t18 (.iv 2200)) t0), (.le t0 t19), (.le t19 t5), (.lt t0 (.sub t5 (.iv 2200))), (.lt (.sub t5 t19) (.sub t5 (.iv 2200)))] .done))) (.need [(.le t0 t14)] (.any 2600 2 [(.le t0 (.iv 2600)), (.le (.iv 2600) t14)] (.cond (.lt (.iv 2600) t14) (.need [(.le t0 (.mul (.iv 2600) t5)), (.le (.add (.mul (.iv 2600) t5) t5) (.len t20))] (.need [(.fb 441 t0 t0 t0 t0 (.cut t20 (.mul (.iv 2600) t5) t5) t10 t10 t10)] (.need [(.le (.lit (-9223372036854775808)) t21), (.le t21 (.lit (9223372036854775807)))] (.need [(.le t0 t21), (.le t21 t14), (.lt t0 (.sub t14 (.iv 2600))), (.lt (.sub t14 t21) (.sub t14 (.iv 2600)))] .done)))) (.need [(.eq (.fi 432 t0 t0 t0 t0 t1 t10 t10 t10) t13), (.eq (.fi 431 t0 t0 t0 t0 t1 t10 t10 t10) t12), (.aeq (.fa 435 t0 t0 t0 t0 t1 t10 t10 t10) t20), (.aeq (.fa 434 t0 t0 t0 t0 t1 t10 t10 t10) (.cut t15 t0 t5)), (.eq t14 (.fi 433 t0 t0 t0 t0 t1 t10 t10 t10))] .done)))))))))))))))))))))))))))))))))
theorem w17 : vcIs (vcOf Tryz.prog spR rspR ⟨ltK10, inlK10⟩ 100000 17 c17) vc17 = true := by kernel_rfl
theorem c17_ok : CtrOk Tryz.prog Z 17 c17 := by
  refine ctr_prog spR_ok rspR_ok w17 fun ρ h => ?_
  have g1 := getM h (.eq (.len (.av 1)) (.iv 6)) (by kernel_rfl)
  have g2 := getM h (.le (.iv 6) lim) (by kernel_rfl)
  have g3 := getM h (.le (.iv 6) (.iv 7)) (by kernel_rfl)
  have g4 := getM h (allT 0 255 (.av 1)) (by kernel_rfl)
  have g5 := getM h (fbD 440 z0 z0 z0 z0) (by kernel_rfl)
  clear h
  simp only [lim, allT, fbD, z0, zb2, zb440, ↓b_le, ↓b_lt, ↓b_eq, ↓b_aeq, ↓f_le, ↓f_lt, ↓f_eq, ↓f_aeq, ↓b_not, ↓f_not, ↓b_and, ↓b_or, ↓f_and, ↓f_or, ↓b_tt, ↓b_ff, ↓f_tt, ↓f_ff, met_cons, met_nil, hyp_cons, hyp_nil, T.I, T.A, T.B, Int.toNat_zero, List.drop_zero, and_true, implies_true, VC.sem, spliceL_cast, shr_24_u32, shr_8_u32, shr_8_i32, shr_14_i32, shr_12_i32, shr_18_i32, shr_2_i32, shr_1_i32, shr_1_i64, shr_8_i64, shr_4_i64, shr_16_u32, shr_4_u8, shr_1_u8] at g1 g2 g3 g4 g5
  simp only [gOk, Bool.and_eq_true, decide_eq_true_eq] at g5
  obtain ⟨a1, a2, a3, a4, a5, a6, a7, a8, a9, a10, a11, a12, a13, a14, a15, a16, a17, a18⟩ := g5
  have hlen : 371 ≤ (ρ.a 1).length := by
    have := congrArg List.length a13
    simp only [cutL, sosG, List.length_take, List.length_drop, List.length_cons, List.length_nil] at this
    omega
  have q0 : at8 (ρ.a 1) 0 = 255 := cut_at a1 (i := 0) (by omega) (by omega)
  have q1 : at8 (ρ.a 1) 1 = 216 := cut_at a1 (i := 1) (by omega) (by omega)
  have q2 : at8 (ρ.a 1) 2 = 255 := cut_at a1 (i := 2) (by omega) (by omega)
  have q3 : at8 (ρ.a 1) 3 = 219 := cut_at a1 (i := 3) (by omega) (by omega)
  have q4 : at8 (ρ.a 1) 4 = 0 := cut_at a1 (i := 4) (by omega) (by omega)
  have q5 : at8 (ρ.a 1) 5 = 132 := cut_at a1 (i := 5) (by omega) (by omega)
  have q6 : at8 (ρ.a 1) 6 = 0 := cut_at a1 (i := 6) (by omega) (by omega)
  have q136 : at8 (ρ.a 1) 136 = 255 := cut_at a5 (i := 0) (by omega) (by omega)
  have q137 : at8 (ρ.a 1) 137 = 192 := cut_at a5 (i := 1) (by omega) (by omega)
  have q138 : at8 (ρ.a 1) 138 = 0 := cut_at a5 (i := 2) (by omega) (by omega)
  have q139 : at8 (ρ.a 1) 139 = 11 := cut_at a5 (i := 3) (by omega) (by omega)
  have q140 : at8 (ρ.a 1) 140 = 8 := cut_at a5 (i := 4) (by omega) (by omega)
  have q145 : at8 (ρ.a 1) 145 = 1 := cut_at a9 (i := 0) (by omega) (by omega)
  have q146 : at8 (ρ.a 1) 146 = 1 := cut_at a9 (i := 1) (by omega) (by omega)
  have q147 : at8 (ρ.a 1) 147 = 17 := cut_at a9 (i := 2) (by omega) (by omega)
  have q148 : at8 (ρ.a 1) 148 = 0 := cut_at a9 (i := 3) (by omega) (by omega)
  have q149 : at8 (ρ.a 1) 149 = 255 := cut_at a10 (i := 0) (by omega) (by omega)
  have q150 : at8 (ρ.a 1) 150 = 196 := cut_at a10 (i := 1) (by omega) (by omega)
  have q151 : at8 (ρ.a 1) 151 = 0 := cut_at a10 (i := 2) (by omega) (by omega)
  have q152 : at8 (ρ.a 1) 152 = 210 := cut_at a10 (i := 3) (by omega) (by omega)
  have q361 : at8 (ρ.a 1) 361 = 255 := cut_at a12 (i := 0) (by omega) (by omega)
  have q362 : at8 (ρ.a 1) 362 = 218 := cut_at a12 (i := 1) (by omega) (by omega)
  have q363 : at8 (ρ.a 1) 363 = 0 := cut_at a12 (i := 2) (by omega) (by omega)
  have q364 : at8 (ρ.a 1) 364 = 8 := cut_at a12 (i := 3) (by omega) (by omega)
  have e140 : at8 (List.take 9 (List.drop 140 (ρ.a 1))) 0 = at8 (ρ.a 1) 140 := at8_cut (i := 0) (by omega) (by omega)
  have e141 : at8 (List.take 9 (List.drop 140 (ρ.a 1))) 1 = at8 (ρ.a 1) 141 := at8_cut (i := 1) (by omega) (by omega)
  have e142 : at8 (List.take 9 (List.drop 140 (ρ.a 1))) 2 = at8 (ρ.a 1) 142 := at8_cut (i := 2) (by omega) (by omega)
  have e143 : at8 (List.take 9 (List.drop 140 (ρ.a 1))) 3 = at8 (ρ.a 1) 143 := at8_cut (i := 3) (by omega) (by omega)
  have e144 : at8 (List.take 9 (List.drop 140 (ρ.a 1))) 4 = at8 (ρ.a 1) 144 := at8_cut (i := 4) (by omega) (by omega)
  have e145 : at8 (List.take 9 (List.drop 140 (ρ.a 1))) 5 = at8 (ρ.a 1) 145 := at8_cut (i := 5) (by omega) (by omega)
  have e146 : at8 (List.take 9 (List.drop 140 (ρ.a 1))) 6 = at8 (ρ.a 1) 146 := at8_cut (i := 6) (by omega) (by omega)
  have e147 : at8 (List.take 9 (List.drop 140 (ρ.a 1))) 7 = at8 (ρ.a 1) 147 := at8_cut (i := 7) (by omega) (by omega)
  have e148 : at8 (List.take 9 (List.drop 140 (ρ.a 1))) 8 = at8 (ρ.a 1) 148 := at8_cut (i := 8) (by omega) (by omega)
  have f0 : at8 (List.take 130 (List.drop 6 (ρ.a 1))) 0 = at8 (ρ.a 1) 6 := at8_cut (i := 0) (by omega) (by omega)
  have f1 : at8 (List.take 130 (List.drop 6 (ρ.a 1))) 1 = at8 (ρ.a 1) 7 := at8_cut (i := 1) (by omega) (by omega)
  have f65 : at8 (List.take 130 (List.drop 6 (ρ.a 1))) 65 = at8 (ρ.a 1) 71 := at8_cut (i := 65) (by omega) (by omega)
  have b141 := allIn_at g4 (n := 141) (by omega) (by omega)
  have b142 := allIn_at g4 (n := 142) (by omega) (by omega)
  have b143 := allIn_at g4 (n := 143) (by omega) (by omega)
  have b144 := allIn_at g4 (n := 144) (by omega) (by omega)
  have hw : at8 (ρ.a 1) 143 * 256 + at8 (ρ.a 1) 144 = wdD (ρ.a 1) := rfl
  have hh : at8 (ρ.a 1) 141 * 256 + at8 (ρ.a 1) 142 = hgD (ρ.a 1) := rfl
  have hw2 : wdD (ρ.a 1) ≤ 65535 := by rw [← hw]; omega
  have nb := nb_bnd a6 a7 a8
  have hs := scL_rng _ (m := 0) (a := 371) (u := 0) (p := 0) (by omega) (by omega) (by omega) a14
  have hend : 0 ≤ endD (ρ.a 1) := alAt_nn _ hs.1
  have hbl : ((blD (ρ.a 1)).length : Int) = 64 * nbD (ρ.a 1) := by rw [← zeroN_len (n := nbD (ρ.a 1)) (by show 0 ≤ nbOf _ _; omega), ← hs.2.2.2]; rfl
  have hq1 : 1 ≤ at8 (ρ.a 1) 7 := by
    have := List.all_eq_true.1 a2 (at8 (ρ.a 1) 7) (by
      have hl : 0 < (cutL (ρ.a 1) 7 64).length := by simp [cutL]; omega
      have e : at8 (cutL (ρ.a 1) 7 64) 0 = at8 (ρ.a 1) 7 := at8_cut (i := 0) (by omega) (by omega)
      rw [← e]
      unfold at8
      rw [List.getD_eq_getElem?_getD, Int.toNat_zero, List.getElem?_eq_getElem hl]
      exact List.getElem_mem hl)
    exact of_decide_eq_true this
  have hh2 : hgD (ρ.a 1) ≤ 65535 := by rw [← hh]; omega
  simp only [vc17, ↓b_le, ↓b_lt, ↓b_eq, ↓b_aeq, ↓f_le, ↓f_lt, ↓f_eq, ↓f_aeq, ↓b_not, ↓f_not, ↓b_and, ↓b_or, ↓f_and, ↓f_or, ↓b_tt, ↓b_ff, ↓f_tt, ↓f_ff, met_cons, met_nil, hyp_cons, hyp_nil, T.I, T.A, T.B, Int.toNat_zero, List.drop_zero, and_true, implies_true, VC.sem, spliceL_cast, shr_24_u32, shr_8_u32, shr_8_i32, shr_14_i32, shr_12_i32, shr_18_i32, shr_2_i32, shr_1_i32, shr_1_i64, shr_8_i64, shr_4_i64, shr_16_u32, shr_4_u8, shr_1_u8, getD_at8, getD0_at8, zb2, zb400, zb441, za410, za411, za412, za437, za434, za435, z431, z432, z433, z436, z403, za403, set_one, Int.reduceAdd]
  simp only [Int.reduceToNat, List.length_append, List.length_replicate, hS4, hS3, e140, e141, e142, e143, e144, e145, e146, e147, e148, f0, f1, f65, hw, hh, q2, q3, q4, q5, q136, q137, q138, q139, q149, q150, q151, q152, q361, q362, q363, q364]
  (repeat' (first | exact True.intro | refine And.intro ?_ ?_ | intro _)) <;> (try omega)
  · rw [List.length_take, List.length_drop]; omega
  · exact allIn_sub g4 6 130
  · rw [cut_cut (by omega)]; exact allIn_lo (allIn_sub g4 7 64) a2
  · rw [cut_cut (by omega)]; exact allIn_lo (allIn_sub g4 72 64) a4
  · decide +kernel
  · rw [List.length_take, List.length_drop]; omega
  · exact allIn_sub g4 140 9
  · exact a11.symm
  · exact a13
  · have i1 := ‹ρ.i 1120 = nbOf _ _›
    rw [i1, nb.2.2, Int.tdiv_eq_ediv_of_nonneg (by omega), Int.tdiv_eq_ediv_of_nonneg (by omega)]
  · rw [‹ρ.a 1107 = zeroN _›, zeroN_len]
    have i1 := ‹ρ.i 1120 = nbOf _ _›
    omega
  · rw [qfill_at 64 (by omega) (by rw [qfill_len, hql]; omega), if_neg (by omega), qfill_at 64 (by omega) (by rw [hql]; omega), if_pos (by omega)]
    show 1 ≤ at8 (List.take 130 (List.drop 6 (ρ.a 1))) 1
    rw [f1]; exact hq1
  · have i1 : ρ.i 1120 = nbD (ρ.a 1) := ‹ρ.i 1120 = nbOf _ _›; have i2 := ‹ρ.a 1107 = zeroN _›; rw [i1] at i2; rw [i2, i1]; exact a14
  · have i1 : ρ.i 1120 = nbD (ρ.a 1) := ‹ρ.i 1120 = nbOf _ _›; have i2 := ‹ρ.a 1107 = zeroN _›; rw [i1] at i2; rw [i2, i1]; exact hend
  · have i1 : ρ.i 1120 = nbD (ρ.a 1) := ‹ρ.i 1120 = nbOf _ _›; have i2 := ‹ρ.a 1107 = zeroN _›; rw [i1] at i2; rw [i2, i1]; show endD (ρ.a 1) + 1 < _; omega
  · have i1 : ρ.i 1120 = nbD (ρ.a 1) := ‹ρ.i 1120 = nbOf _ _›; have i2 := ‹ρ.a 1107 = zeroN _›; rw [i1] at i2; rw [i2, i1]; exact a15
  · have i1 : ρ.i 1120 = nbD (ρ.a 1) := ‹ρ.i 1120 = nbOf _ _›; have i2 := ‹ρ.a 1107 = zeroN _›; rw [i1] at i2; rw [i2, i1]; exact a16
  · have i1 : ρ.i 1120 = nbD (ρ.a 1) := ‹ρ.i 1120 = nbOf _ _›; have i2 := ‹ρ.a 1107 = zeroN _›; rw [i1] at i2
    have hn := ‹¬ scAt _ _ _ _ + 2 = _›
    rw [i2, i1] at hn
    exact hn (by show endD (ρ.a 1) + 2 = _; omega)
  · have hn := ‹at8 (missK 64) 0 < 0›
    rw [missK_64 (by omega) (by omega)] at hn
    omega
  · exact missK_64 (by omega) (by omega)
  · have i1 : ρ.i 1120 = nbD (ρ.a 1) := ‹ρ.i 1120 = nbOf _ _›; have i2 := ‹ρ.a 1107 = zeroN _›; rw [i1] at i2; rw [i2, i1]
    show _ ≤ ((blD (ρ.a 1)).length : Int)
    omega
  · have i1 : ρ.i 1120 = nbD (ρ.a 1) := ‹ρ.i 1120 = nbOf _ _›; have i2 := ‹ρ.a 1107 = zeroN _›; rw [i1] at i2; rw [i2, i1]
    have := List.all_eq_true.1 a18 (ρ.i 2600).toNat (List.mem_range.2 (by omega))
    rw [show (ρ.i 2600 * 64).toNat = 64 * (ρ.i 2600).toNat from by omega]
    exact this
  · have i1 : ρ.i 1120 = nbD (ρ.a 1) := ‹ρ.i 1120 = nbOf _ _›; have i2 := ‹ρ.a 1107 = zeroN _›; rw [i1] at i2; rw [i2, i1]; rfl
  · exact (quant_first hql (by omega)).symm
  · exact ‹ρ.i 1120 = nbOf _ _›
end
end Go.Proofs.YtljjbikbfeigdaaGreatDoor
