/- Part of the proof of FnGrayEdgesCardSaid: Contracts of the specification's reader shown: blocks, the segments with tables. -/
import Derived.Test.YtljjbikbfeigdaaGreatDoorGe22
set_option linter.all false
namespace Go.Proofs.YtljjbikbfeigdaaGreatDoor
noncomputable section
open Go
theorem spB_ok {q i : Nat} (h1 : CtrOk Tryz.prog Z 74 (c74 q i)) (h2 : CtrOk Tryz.prog Z 75 (c75 (2 * q + 1))) : ∀ f s, spB q i f = some s → SpecOk Tryz.prog Z f s := by
  intro f s hs
  unfold spB at hs
  split at hs
  · cases hs; exact applyF_ok h1
  · cases hs; exact applyF_ok h2
  · cases hs
theorem y270_0 (x y : Int) (D : List Int) : Z.fi 270 x y 0 0 D [] [] [] = dcV 0 D x y := id rfl
theorem y272_0 (x y : Int) (D : List Int) : Z.fi 272 x y 0 0 D [] [] [] = e1 (dcN 0 D x y) := id rfl
theorem y274_0 (x y : Int) (D : List Int) : Z.fi 274 x y 0 0 D [] [] [] = e2 (dcN 0 D x y) := id rfl
theorem yb270_0 (x y : Int) (D : List Int) : Z.fb 270 x y 0 0 D [] [] [] = dcOk 0 D x y := id rfl
theorem yb420_0 (x y p : Int) (D : List Int) : Z.fb 420 x y p 0 D [] [] [] = blkOk 0 D x y p := id rfl
theorem y420_0 (d x y p : Int) (D bl : List Int) : Z.fi 420 d x y p D bl [] [] = e0 (blkS 0 D d x y p bl) := id rfl
theorem y422_0 (d x y p : Int) (D bl : List Int) : Z.fi 422 d x y p D bl [] [] = e1 (blkS 0 D d x y p bl) := id rfl
theorem y424_0 (d x y p : Int) (D bl : List Int) : Z.fa 424 d x y p D bl [] [] = (blkS 0 D d x y p bl).drop 2 := id rfl
theorem blkS_0 (d x y p : Int) (D bl : List Int) : blkS 0 D d x y p bl = seqL (cnt 1) (syms 1) D d 1 (e1 (dcN 0 D x y)) (e2 (dcN 0 D x y)) (bl.set d.toNat (p + dcV 0 D x y)) := by rfl
theorem blkOk_0 (x y p : Int) (D : List Int) : blkOk 0 D x y p = (dcOk 0 D x y && (decide (-1024 ≤ p + dcV 0 D x y) && (decide (p + dcV 0 D x y ≤ 1023) && seqOk (cnt 1) (syms 1) D 1 (e1 (dcN 0 D x y)) (e2 (dcN 0 D x y))))) := by unfold blkOk; rfl
theorem dcNx_0 {x y : Int} {D : List Int} (h1 : 0 ≤ x) (h2 : 0 ≤ y) (h3 : y ≤ 7) (ho : dcOk 0 D x y = true) : 0 ≤ e1 (dcN 0 D x y) ∧ 0 ≤ e2 (dcN 0 D x y) ∧ e2 (dcN 0 D x y) ≤ 7 := by
  unfold dcOk at ho
  rw [Bool.and_eq_true] at ho
  obtain ⟨r1, r2, r3, r4, r5⟩ := sym1_rng (h := 2 * 0) (by omega) ho.1 h1 h2 h3
  exact numL_pos D _ 0 _ _ r3 r4 r5
def vc53_00 : VC :=
 let t0 : T := .lit (0)
 let t1 : T := .alit []
 let t2 : T := .add (.iv 3) (.fi 270 (.iv 0) (.iv 1) t0 t0 (.av 1) t1 t1 t1)
 let t3 : T := .fi 272 (.iv 0) (.iv 1) t0 t0 (.av 1) t1 t1 t1
 let t4 : T := .fi 274 (.iv 0) (.iv 1) t0 t0 (.av 1) t1 t1 t1
 let t5 : T := .set (.av 7) (.iv 5) t2
 (.need [(.fb 270 (.iv 0) (.iv 1) t0 t0 (.av 1) t1 t1 t1), (.le (.lit (-1024)) t2), (.le t2 (.lit (1023)))] (.need [(.le t0 t3), (.le t0 t4), (.le t4 (.lit (7))), (.le (.add (.iv 5) (.lit (64))) (.len t5)), (.le (.len t5) (.lit (1000000000000))), (.fb 251 (.lit (1)) t3 t4 t0 (.av 1) t1 t1 t1)] (.need [(.eq (.fi 422 (.iv 5) (.iv 0) (.iv 1) (.iv 3) (.av 1) (.av 7) t1 t1) (.fi 265 (.iv 5) t3 t4 t0 (.av 1) t5 t1 t1)), (.eq (.fi 420 (.iv 5) (.iv 0) (.iv 1) (.iv 3) (.av 1) (.av 7) t1 t1) (.fi 261 (.iv 5) t3 t4 t0 (.av 1) t5 t1 t1)), (.aeq (.fa 424 (.iv 5) (.iv 0) (.iv 1) (.iv 3) (.av 1) (.av 7) t1 t1) (.fa 269 (.iv 5) t3 t4 t0 (.av 1) t5 t1 t1))] .done)))
theorem w53_00 : vcIs (vcOf Tryz.prog (spB 0 0) noR ⟨fun _ _ => none, inlK6⟩ 100000 53 (c53 0 0)) vc53_00 = true := by kernel_rfl
theorem c53_00_ok : CtrOk Tryz.prog Z 53 (c53 0 0) := by
  refine ctr_prog (spB_ok c74_00_ok c75_1_ok) noR_ok w53_00 fun ρ h => ?_
  have g1 := getM h (.eq (.len (.av 1)) (.iv 6)) (by kernel_rfl)
  have g4 := getM h (.le (.lit 0) (.iv 0)) (by kernel_rfl)
  have g5 := getM h (.le (.lit 0) (.iv 1)) (by kernel_rfl)
  have g6 := getM h (.le (.iv 1) (.lit 7)) (by kernel_rfl)
  have g7 := getM h (.le (.lit 0) (.iv 5)) (by kernel_rfl)
  have g8 := getM h (.le (.add (.iv 5) (.lit 64)) (.len (.av 7))) (by kernel_rfl)
  have g9 := getM h (.le (.len (.av 7)) lim) (by kernel_rfl)
  have g10 := getM h (fbD 420 (.iv 0) (.iv 1) (.iv 3) z0) (by kernel_rfl)
  clear h
  simp only [fbD, z0, lim, ↓b_le, ↓b_lt, ↓b_eq, ↓b_aeq, ↓f_le, ↓f_lt, ↓f_eq, ↓f_aeq, ↓b_not, ↓f_not, ↓b_and, ↓b_or, ↓f_and, ↓f_or, ↓b_tt, ↓b_ff, ↓f_tt, ↓f_ff, met_cons, met_nil, hyp_cons, hyp_nil, T.I, T.A, T.B, Int.toNat_zero, List.drop_zero, and_true, implies_true, VC.sem, spliceL_cast, shr_24_u32, shr_8_u32, shr_8_i32, shr_14_i32, shr_12_i32, shr_18_i32, shr_2_i32, shr_1_i32, shr_1_i64, shr_8_i64, shr_4_i64, shr_16_u32, shr_4_u8, shr_1_u8, yb420_0, blkOk_0, Bool.and_eq_true, decide_eq_true_eq] at g1 g4 g5 g6 g7 g8 g9 g10
  obtain ⟨o1, o2, o3, o4⟩ := g10
  obtain ⟨n1, n2, n3⟩ := dcNx_0 g4 g5 g6 o1
  simp only [vc53_00, ↓b_le, ↓b_lt, ↓b_eq, ↓b_aeq, ↓f_le, ↓f_lt, ↓f_eq, ↓f_aeq, ↓b_not, ↓f_not, ↓b_and, ↓b_or, ↓f_and, ↓f_or, ↓b_tt, ↓b_ff, ↓f_tt, ↓f_ff, met_cons, met_nil, hyp_cons, hyp_nil, T.I, T.A, T.B, Int.toNat_zero, List.drop_zero, and_true, implies_true, VC.sem, spliceL_cast, shr_24_u32, shr_8_u32, shr_8_i32, shr_14_i32, shr_12_i32, shr_18_i32, shr_2_i32, shr_1_i32, shr_1_i64, shr_8_i64, shr_4_i64, shr_16_u32, shr_4_u8, shr_1_u8, y270_0, y272_0, y274_0, yb270_0, y420_0, y422_0, y424_0, blkS_0, z261, z2641, za2681, zb251, List.length_set]
  (repeat' (first | exact True.intro | refine And.intro ?_ ?_ | intro _)) <;> (try assumption) <;> (try omega)
theorem getD0_at8 (D : List Int) : D.getD 0 0 = at8 D 0 := rfl
theorem zb441 (l : List Int) : Z.fb 441 0 0 0 0 l [] [] [] = inBl l := id rfl
theorem inBl_at {l : List Int} (hl : l.length = 64) (h : inBl l = true) : -1024 ≤ at8 l 0 ∧ at8 l 0 ≤ 1023 ∧ ∀ i : Int, 0 ≤ i → i < 63 → -1023 ≤ at8 l (1 + i) ∧ at8 l (1 + i) ≤ 1023 := by
  unfold inBl at h
  simp only [Bool.and_eq_true, decide_eq_true_eq] at h
  refine ⟨h.1, h.2.1, fun i h0 h1 => ?_⟩
  have hi : (1 + i).toNat < l.length := by omega
  have e : at8 l (1 + i) = l.tail[i.toNat]'(by simp; omega) := by
    unfold at8
    rw [List.getD_eq_getElem?_getD, List.getElem?_eq_getElem hi]
    simp only [Option.getD_some, List.getElem_tail]
    congr 1; omega
  have := List.all_eq_true.1 h.2.2 _ (List.getElem_mem (l := l.tail) (n := i.toNat) (by simp; omega))
  simp only [Bool.and_eq_true, decide_eq_true_eq] at this
  rw [e]; exact this
def vc47 : VC :=
 let t0 : T := .add (.iv 1000) (.lit (1))
 (.cond (.lt (.get (.av 7) (.lit (0))) (.lit (-1024))) (.need [.ff] .done) (.cond (.lt (.lit (1023)) (.get (.av 7) (.lit (0)))) (.need [.ff] .done) (.need [(.le (.lit (0)) (.lit (0))), (.le (.lit (0)) (.lit (63)))] (.any 1000 1000000000 [(.le (.lit (0)) (.iv 1000)), (.le (.iv 1000) (.lit (63)))] (.cond (.lt (.iv 1000) (.lit (63))) (.need [(.lt (.add (.lit (1)) (.iv 1000)) (.lit (64)))] (.cond (.lt (.get (.av 7) (.add (.lit (1)) (.iv 1000))) (.lit (-1023))) (.need [.ff] .done) (.cond (.lt (.lit (1023)) (.get (.av 7) (.add (.lit (1)) (.iv 1000)))) (.need [.ff] .done) (.need [(.le (.lit (-9223372036854775808)) t0), (.le t0 (.lit (9223372036854775807)))] (.need [(.le (.lit (0)) t0), (.le t0 (.lit (63))), (.lt (.lit (0)) (.sub (.lit (63)) (.iv 1000))), (.lt (.sub (.lit (63)) t0) (.sub (.lit (63)) (.iv 1000)))] .done))))) .done)))))
theorem w47 : vcIs (vcOf Tryz.prog noS noR ⟨ltK10, inlK10⟩ 100000 47 c47) vc47 = true := by kernel_rfl
theorem c47_ok : CtrOk Tryz.prog Z 47 c47 := by
  refine ctr_prog noS_ok noR_ok w47 fun ρ h => ?_
  simp only [c47, c47.fA441, z0, zb441, lenFacts, inR, List.flatMap_cons, List.flatMap_nil, List.append_nil, List.append_assoc, List.cons_append, List.nil_append, and_true, ↓b_le, ↓b_lt, ↓b_eq, ↓b_aeq, ↓f_le, ↓f_lt, ↓f_eq, ↓f_aeq, ↓b_not, ↓f_not, ↓b_and, ↓b_or, ↓f_and, ↓f_or, ↓b_tt, ↓b_ff, ↓f_tt, ↓f_ff, met_cons, met_nil, hyp_cons, hyp_nil, T.I, T.A, T.B, Int.toNat_zero, List.drop_zero, and_true, implies_true, VC.sem, spliceL_cast, shr_24_u32, shr_8_u32, shr_8_i32, shr_14_i32, shr_12_i32, shr_18_i32, shr_2_i32, shr_1_i32, shr_1_i64, shr_8_i64, shr_4_i64, shr_16_u32, shr_4_u8, shr_1_u8] at h
  obtain ⟨h1, h2⟩ := h
  obtain ⟨k1, k2, k3⟩ := inBl_at (by omega) h1
  have k4 := k3 (ρ.i 1000)
  simp only [vc47, ↓b_le, ↓b_lt, ↓b_eq, ↓b_aeq, ↓f_le, ↓f_lt, ↓f_eq, ↓f_aeq, ↓b_not, ↓f_not, ↓b_and, ↓b_or, ↓f_and, ↓f_or, ↓b_tt, ↓b_ff, ↓f_tt, ↓f_ff, met_cons, met_nil, hyp_cons, hyp_nil, T.I, T.A, T.B, Int.toNat_zero, List.drop_zero, and_true, implies_true, VC.sem, spliceL_cast, shr_24_u32, shr_8_u32, shr_8_i32, shr_14_i32, shr_12_i32, shr_18_i32, shr_2_i32, shr_1_i32, shr_1_i64, shr_8_i64, shr_4_i64, shr_16_u32, shr_4_u8, shr_1_u8, getD_at8, getD0_at8]
  (repeat' (first | exact True.intro | refine And.intro ?_ ?_ | intro _)) <;> (try assumption) <;> (try omega)
theorem za411 (x y : Int) (q b : List Int) : Z.fa 411 x y 0 0 q b [] [] = qfill x.toNat b y.toNat q := id rfl
theorem qfill_len (j : Nat) (b : List Int) : ∀ (k : Nat) (q : List Int), (qfill j b k q).length = q.length
  | 0, _ => rfl
  | k + 1, q => by rw [qfill, List.length_set, qfill_len j b k q]
theorem qfill_step (j : Nat) (b : List Int) {k : Int} (q : List Int) (h : 0 ≤ k) : qfill j b (k + 1).toNat q = (qfill j b k.toNat q).set (64 * j + k.toNat) (at8 b (65 * j + 1 + k)) := by
  rw [show (k + 1).toNat = k.toNat + 1 from by omega, qfill]
  congr 2; omega
theorem allIn_cut {lo hi : Int} {l : List Int} {s n : Nat} (h : allIn lo hi ((l.drop s).take n) = true) {i : Int} (h0 : s ≤ i) (h1 : i < s + n) (h2 : i < l.length) : lo ≤ at8 l i ∧ at8 l i ≤ hi := by
  have := allIn_at h (n := i - s) (by omega) (by simp; omega)
  have e : at8 ((l.drop s).take n) (i - s) = at8 l i := by
    unfold at8
    rw [List.getD_eq_getElem?_getD, List.getElem?_take, if_pos (by omega), List.getElem?_drop, List.getD_eq_getElem?_getD]
    congr 2; omega
  rw [e] at this; exact this
def vc48 : VC :=
 let t0 : T := .lit (0)
 let t1 : T := .get (.av 2) t0
 let t2 : T := .lit (64)
 let t3 : T := .alit []
 let t4 : T := .fa 411 t0 t2 t0 t0 (.av 30) (.av 2) t3 t3
 let t5 : T := .fa 411 (.lit (1)) t2 t0 t0 t4 (.av 2) t3 t3
 let t6 : T := .lit (-9223372036854775808)
 let t7 : T := .add (.lit (1)) (.iv 1000)
 let t8 : T := .lit (9223372036854775807)
 let t9 : T := .get (.av 2) t7
 let t11 : T := .add (.mul t1 t2) (.iv 1000)
 let t12 : T := .add (.iv 1000) (.lit (1))
 let t13 : T := .set (.av 1000) t11 t9
 let t14 : T := .get (.av 2) (.lit (65))
 let t15 : T := .add (.lit (1)) (.iv 1400)
 let t16 : T := .get (.av 2) (.add (.lit (65)) t15)
 let t18 : T := .add (.mul t14 t2) (.iv 1400)
 let t19 : T := .add (.iv 1400) (.lit (1))
 let t20 : T := .set (.av 1400) t18 t16
 (.need [(.lt t0 (.len (.av 2)))] (.cond (.lt (.lit (3)) t1) (.need [.ff, (.aeq t5 (.av 30))] .done) (.need [(.le t0 t0), (.le t0 t2), (.aeq (.av 30) (.fa 411 t0 t0 t0 t0 (.av 30) (.av 2) t3 t3))] (.any 1000 1000000000 [(.le t0 (.iv 1000)), (.le (.iv 1000) t2), (.eq (.len (.av 1000)) (.lit (256))), (.aeq (.av 1000) (.fa 411 t0 (.iv 1000) t0 t0 (.av 30) (.av 2) t3 t3))] (.cond (.lt (.iv 1000) t2) (.need [(.le t6 t7), (.le t7 t8)] (.need [(.le t0 t7), (.lt t7 (.lit (130)))] (.need [(.lt t7 (.len (.av 2)))] (.cond (.eq t9 t0) (.need [.ff, (.aeq t5 (.av 1000))] .done) (.need [(.le t6 t9), (.le t9 t8)] (.need [(.le t0 t1), (.lt t1 (.lit (4)))] (.need [(.le t0 (.mul t1 t2))] (.need [(.le t0 t11), (.lt t11 (.lit (256)))] (.need [(.le t6 t12), (.le t12 t8)] (.need [(.le t0 t12), (.le t12 t2), (.eq (.len t13) (.lit (256))), (.aeq t13 (.fa 411 t0 t12 t0 t0 (.av 30) (.av 2) t3 t3)), (.lt t0 (.sub t2 (.iv 1000))), (.lt (.sub t2 t12) (.sub t2 (.iv 1000)))] .done)))))))))) (.need [(.le t0 (.iv 10)), (.le (.iv 10) (.iv 10)), (.le t0 (.iv 10)), (.lt (.lit (65)) (.iv 10))] (.need [(.lt (.lit (65)) (.len (.av 2)))] (.cond (.lt (.lit (3)) t14) (.need [.ff, (.aeq t5 (.av 1000))] .done) (.need [(.aeq (.av 1000) (.fa 411 (.lit (1)) t0 t0 t0 t4 (.av 2) t3 t3))] (.any 1400 1000000000 [(.le t0 (.iv 1400)), (.le (.iv 1400) t2), (.eq (.len (.av 1400)) (.lit (256))), (.aeq (.av 1400) (.fa 411 (.lit (1)) (.iv 1400) t0 t0 t4 (.av 2) t3 t3))] (.cond (.lt (.iv 1400) t2) (.need [(.le t6 t15), (.le t15 t8)] (.need [(.le t0 t15), (.lt t15 (.lit (65)))] (.need [(.lt (.add (.lit (65)) t15) (.len (.av 2)))] (.cond (.eq t16 t0) (.need [.ff, (.aeq t5 (.av 1400))] .done) (.need [(.le t6 t16), (.le t16 t8)] (.need [(.le t0 t14), (.lt t14 (.lit (4)))] (.need [(.le t0 (.mul t14 t2))] (.need [(.le t0 t18), (.lt t18 (.lit (256)))] (.need [(.le t6 t19), (.le t19 t8)] (.need [(.le t0 t19), (.le t19 t2), (.eq (.len t20) (.lit (256))), (.aeq t20 (.fa 411 (.lit (1)) t19 t0 t0 t4 (.av 2) t3 t3)), (.lt t0 (.sub t2 (.iv 1400))), (.lt (.sub t2 t19) (.sub t2 (.iv 1400)))] .done)))))))))) (.need [(.le t0 (.sub (.iv 10) (.lit (65)))), (.le (.sub (.iv 10) (.lit (65))) (.sub (.iv 10) (.lit (65)))), (.le t0 (.sub (.iv 10) (.lit (65))))] (.need [(.aeq t5 (.av 1400))] .done)))))))))))))
theorem w48 : vcIs (vcOf Tryz.prog noS noR ⟨ltK9 z0, inlK8⟩ 100000 48 c48) vc48 = true := by kernel_rfl
theorem c48_ok : CtrOk Tryz.prog Z 48 c48 := by
  refine ctr_prog noS_ok noR_ok w48 fun ρ h => ?_
  have g1 := getM h (.le (.lit 130) (.iv 10)) (by kernel_rfl)
  have g2 := getM h (.eq (.len (.av 2)) (.lit 130)) (by kernel_rfl)
  have g3 := getM h (.eq (.len (.av 30)) (.lit 256)) (by kernel_rfl)
  have g4 := getM h (allT 0 255 (.av 2)) (by kernel_rfl)
  have g5 := getM h (.eq (.get (.av 2) z0) z0) (by kernel_rfl)
  have g6 := getM h (.eq (.get (.av 2) (.lit 65)) (.lit 1)) (by kernel_rfl)
  have g7 := getM h (allT 1 255 (.cut (.av 2) (.lit 1) (.lit 64))) (by kernel_rfl)
  have g8 := getM h (allT 1 255 (.cut (.av 2) (.lit 66) (.lit 64))) (by kernel_rfl)
  clear h
  simp only [allT, z0, zb2, getD_at8, ↓b_le, ↓b_lt, ↓b_eq, ↓b_aeq, ↓f_le, ↓f_lt, ↓f_eq, ↓f_aeq, ↓b_not, ↓f_not, ↓b_and, ↓b_or, ↓f_and, ↓f_or, ↓b_tt, ↓b_ff, ↓f_tt, ↓f_ff, met_cons, met_nil, hyp_cons, hyp_nil, T.I, T.A, T.B, Int.toNat_zero, List.drop_zero, and_true, implies_true, VC.sem, spliceL_cast, shr_24_u32, shr_8_u32, shr_8_i32, shr_14_i32, shr_12_i32, shr_18_i32, shr_2_i32, shr_1_i32, shr_1_i64, shr_8_i64, shr_4_i64, shr_16_u32, shr_4_u8, shr_1_u8] at g1 g2 g3 g4 g5 g6 g7 g8
  have k1 := fun h0 h1 => allIn_cut g7 (i := 1 + ρ.i 1000) h0 h1 (by omega)
  have k2 := fun h0 h1 => allIn_cut g8 (i := 65 + (1 + ρ.i 1400)) h0 h1 (by omega)
  have k3 := qfill_step 0 (ρ.a 2) (k := ρ.i 1000) (ρ.a 30)
  have k4 := qfill_step 1 (ρ.a 2) (k := ρ.i 1400) (qfill 0 (ρ.a 2) (Int.toNat 64) (ρ.a 30))
  simp only [vc48, ↓b_le, ↓b_lt, ↓b_eq, ↓b_aeq, ↓f_le, ↓f_lt, ↓f_eq, ↓f_aeq, ↓b_not, ↓f_not, ↓b_and, ↓b_or, ↓f_and, ↓f_or, ↓b_tt, ↓b_ff, ↓f_tt, ↓f_ff, met_cons, met_nil, hyp_cons, hyp_nil, T.I, T.A, T.B, Int.toNat_zero, List.drop_zero, and_true, implies_true, VC.sem, spliceL_cast, shr_24_u32, shr_8_u32, shr_8_i32, shr_14_i32, shr_12_i32, shr_18_i32, shr_2_i32, shr_1_i32, shr_1_i64, shr_8_i64, shr_4_i64, shr_16_u32, shr_4_u8, shr_1_u8, getD_at8, za411, getD0_at8, g5, g6, List.length_set]
  simp only [getD0_at8] at g5
  generalize hQ : qfill 0 (ρ.a 2) (Int.toNat 64) (ρ.a 30) = Q at *
  (repeat' (first | exact True.intro | refine And.intro ?_ ?_ | intro _)) <;> (try omega)
  · rfl
  · rw [k3 (by omega), ← ‹ρ.a 1000 = qfill 0 _ _ _›, show (0 * 64 + ρ.i 1000).toNat = 64 * 0 + (ρ.i 1000).toNat from by omega, show (1 + ρ.i 1000) = (65 * ((0 : Nat) : Int) + 1 + ρ.i 1000) from by omega]
  · have e := ‹ρ.a 1000 = qfill 0 _ _ _›
    rw [show ρ.i 1000 = 64 from by omega, hQ] at e
    exact e
  · have e := ‹ρ.a 1400 = qfill _ _ _ _›
    rw [show Int.toNat 1 = 1 from rfl] at *
    rw [k4 (by omega), ← e, show (1 * 64 + ρ.i 1400).toNat = 64 * 1 + (ρ.i 1400).toNat from by omega, show (65 + (1 + ρ.i 1400)) = (65 * ((1 : Nat) : Int) + 1 + ρ.i 1400) from by omega]
  · have e := ‹ρ.a 1400 = qfill _ _ _ _›
    rw [show ρ.i 1400 = 64 from by omega] at e
    exact e.symm
end
end Go.Proofs.YtljjbikbfeigdaaGreatDoor
