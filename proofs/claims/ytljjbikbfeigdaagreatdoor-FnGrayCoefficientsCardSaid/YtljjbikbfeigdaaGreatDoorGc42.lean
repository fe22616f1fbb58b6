/- Part of the proof of FnGrayCoefficientsCardSaid: FnGrayCoefficients, FnGrayEdges: the laws' functions. -/
import Derived.Test.YtljjbikbfeigdaaGreatDoorGc41
set_option linter.all false
namespace Go.Proofs.YtljjbikbfeigdaaGreatDoor
noncomputable section
open Go
theorem cutq_at {q : Int} {k : Nat} (hk : k < 64) : at8 (cutL (quantL q) 0 64) k = at8 (quantL q) k := by
  unfold at8 cutL
  rw [List.getD_eq_getElem?_getD, List.getD_eq_getElem?_getD, List.getElem?_take, if_pos (by omega), List.drop_zero]
theorem cutq_in {q : Int} : allIn 1 255 (cutL (quantL q) 0 64) = true := by
  unfold allIn
  rw [List.all_eq_true]
  intro x hx
  have hx2 : x ∈ quantL q := List.mem_of_mem_drop (List.mem_of_mem_take hx)
  unfold quantL at hx2
  obtain ⟨k, _, rfl⟩ := List.mem_map.1 hx2
  have : 1 ≤ qel q k ∧ qel q k ≤ 255 := by unfold qel; split <;> (try split) <;> omega
  simp only [Bool.and_eq_true, decide_eq_true_eq]; exact this
theorem blD_len2 {q w h : Int} {pix D : List Int} (F : Found q w h pix D) (hw : 1 ≤ w) (hh : 1 ≤ h) : ((blD D).length : Int) = 64 * nbD D ∧ nbD D = (w + 7) / 8 * ((h + 7) / 8) := by
  have e : nbD D = (w + 7) / 8 * ((h + 7) / 8) := by unfold nbD nbOf; rw [F.wide, F.high]
  refine ⟨?_, e⟩
  rw [e, F.blocks, List.length_flatten, List.map_map]
  have : (List.length ∘ blkM w h pix (quantL q)) = fun _ => 64 := by funext m; exact blkM_len m
  rw [this, List.map_const', List.sum_replicate_nat, List.length_range, Int.natCast_mul, Int.natCast_mul, Int.mul_comm]
  congr 2
  · unfold wX; omega
  · unfold hY; omega
theorem yb610 (x y z u : Int) (a b c d : List Int) : Z.fb 610 x y z u a b c d = codesOk x y z u a b c (e0 d) := id rfl
theorem rspQ0_ok : ∀ f s, rspQ false f = some s → RSpecOk Tryz.prog Z f s := by
  intro f s h
  unfold rspQ at h
  split at h
  · cases h; exact applyR_ok c16_ok
  · cases h; exact applyR_ok c17_ok
  · cases h; exact applyR_ok c13_0_ok
  · cases h
def vc4 : VC :=
 let t0 : T := .lit (0)
 let t1 : T := .mul (.iv 21) (.iv 22)
 let t2 : T := .alit []
 let t3 : T := .fi 431 t0 t0 t0 t0 (.av 1100) t2 t2 t2
 let t4 : T := .fi 432 t0 t0 t0 t0 (.av 1100) t2 t2 t2
 let t5 : T := .fa 435 t0 t0 t0 t0 (.av 1100) t2 t2 t2
 let t6 : T := .fa 434 t0 t0 t0 t0 (.av 1100) t2 t2 t2
 (.need [(.le t0 (.iv 20))] (.cond (.lt (.lit (2147483647)) (.iv 20)) .done (.cond (.le (.lit (1)) (.iv 21)) (.cond (.le (.lit (1)) (.iv 22)) (.cond (.le (.iv 21) (.lit (65535))) (.cond (.le (.iv 22) (.lit (65535))) (.need [(.le (.lit (-9223372036854775808)) t1), (.le t1 (.lit (9223372036854775807)))] (.cond (.le t1 (.lit (65536))) (.cond (.le (.lit (1)) (.iv 30)) (.cond (.le (.iv 30) (.lit (100))) (.cond (.not (.eq (.iv 20) t1)) .done (.need [(.eq (.len (.av 5)) t1)] (.any 1000 0 [(.eq (.iv 1120) (.len (.av 1100))), (.le (.iv 1120) (.iv 1121)), (.aeq (.av 1100) (.fa 510 (.iv 30) (.iv 21) (.iv 22) t0 (.av 5) t2 t2 t2)), (.le (.len (.av 1100)) (.lit (1000000000000)))] (.need [(.eq (.len (.av 1100)) (.iv 1120)), (.le (.iv 1120) (.lit (1000000000000))), (.fb 2 t0 (.lit (255)) t0 t0 (.av 1100) t2 t2 t2), (.fb 440 t0 t0 t0 t0 (.av 1100) t2 t2 t2)] (.any 1400 0 [(.eq (.iv 1520) (.fi 433 t0 t0 t0 t0 (.av 1100) t2 t2 t2))] (.cond (.eq t3 (.iv 21)) (.cond (.eq t4 (.iv 22)) (.need [(.eq (.iv 22) t4), (.eq (.iv 21) t3), (.eq (.iv 1520) (.mul (.tdiv (.add (.iv 21) (.lit (7))) (.lit (8))) (.tdiv (.add (.iv 22) (.lit (7))) (.lit (8))))), (.eq (.len t5) (.mul (.lit (64)) (.iv 1520))), (.eq (.len t6) (.lit (64))), (.fb 2 (.lit (1)) (.lit (255)) t0 t0 t6 t2 t2 t2), (.fb 2 (.lit (-1024)) (.lit (1023)) t0 t0 t5 t2 t2 t2), (.fb 610 (.iv 21) (.iv 22) (.tdiv (.iv 21) (.lit (8))) (.tdiv (.iv 22) (.lit (8))) (.av 5) t5 t6 (.set (.alit [0]) t0 (.tdiv (.add (.iv 21) (.lit (7))) (.lit (8)))))] (.any 1800 0 [] .done)) (.need [.ff] .done)) (.need [.ff] .done))))))) .done) .done) .done)) .done) .done) .done) .done)))
def vc4n : VC :=
 (.cond (.le (.lit (1)) (.iv 21)) (.cond (.le (.lit (1)) (.iv 22)) (.cond (.le (.iv 21) (.lit (65535))) (.cond (.le (.iv 22) (.lit (65535))) (.need [(.le (.lit (-9223372036854775808)) (.mul (.iv 21) (.iv 22))), (.le (.mul (.iv 21) (.iv 22)) (.lit (9223372036854775807)))] (.cond (.le (.mul (.iv 21) (.iv 22)) (.lit (65536))) (.cond (.le (.lit (1)) (.iv 30)) (.cond (.le (.iv 30) (.lit (100))) (.cond (.not (.eq (.lit (0)) (.mul (.iv 21) (.iv 22)))) .done (.fail "stop encode.go:46")) .done) .done) .done)) .done) .done) .done) .done)
theorem w4 : vcIs (vcOf Tryz.prog noS (rspQ false) ⟨fun _ _ => none, inlAll⟩ 100000 4 c4) vc4 = true := by kernel_rfl
theorem w4n : vcIs (vcOf Tryz.prog noS noR ⟨fun _ _ => none, fun f => f == 11⟩ 100000 4 c4n) vc4n = true := by kernel_rfl
theorem c4n_ok : CtrOk Tryz.prog Z 4 c4n := by
  refine ctr_prog noS_ok noR_ok w4n fun ρ h => ?_
  simp only [c4n, gPreN, gArgsN, minI, maxI, lenFacts, inR, List.flatMap_cons, List.flatMap_nil, List.append_nil, List.append_assoc, List.cons_append, List.nil_append, and_true, ↓b_le, ↓b_lt, ↓b_eq, ↓b_aeq, ↓f_le, ↓f_lt, ↓f_eq, ↓f_aeq, ↓b_not, ↓f_not, ↓b_and, ↓b_or, ↓f_and, ↓f_or, ↓b_tt, ↓b_ff, ↓f_tt, ↓f_ff, met_cons, met_nil, hyp_cons, hyp_nil, T.I, T.A, T.B, Int.toNat_zero, List.drop_zero, and_true, implies_true, VC.sem, spliceL_cast, shr_24_u32, shr_8_u32, shr_8_i32, shr_14_i32, shr_12_i32, shr_18_i32, shr_2_i32, shr_1_i32, shr_1_i64, shr_8_i64, shr_4_i64, shr_16_u32, shr_4_u8, shr_1_u8] at h
  obtain ⟨h1, h2, h3, h4, h5, h6⟩ := h
  simp only [vc4n, ↓b_le, ↓b_lt, ↓b_eq, ↓b_aeq, ↓f_le, ↓f_lt, ↓f_eq, ↓f_aeq, ↓b_not, ↓f_not, ↓b_and, ↓b_or, ↓f_and, ↓f_or, ↓b_tt, ↓b_ff, ↓f_tt, ↓f_ff, met_cons, met_nil, hyp_cons, hyp_nil, T.I, T.A, T.B, Int.toNat_zero, List.drop_zero, and_true, implies_true, VC.sem, spliceL_cast, shr_24_u32, shr_8_u32, shr_8_i32, shr_14_i32, shr_12_i32, shr_18_i32, shr_2_i32, shr_1_i32, shr_1_i64, shr_8_i64, shr_4_i64, shr_16_u32, shr_4_u8, shr_1_u8]
  have bnd : 1 ≤ ρ.i 21 → 1 ≤ ρ.i 22 → ρ.i 21 ≤ 65535 → ρ.i 22 ≤ 65535 → 1 ≤ ρ.i 21 * ρ.i 22 ∧ ρ.i 21 * ρ.i 22 ≤ 65535 * 65535 := fun a b c d => ⟨Int.le_trans (by omega) (Int.mul_le_mul (a := 1) (b := 1) a b (by omega) (by omega)), Int.mul_le_mul c d (by omega) (by omega)⟩
  (repeat' (first | with_reducible exact True.intro | with_reducible refine And.intro ?_ ?_ | intro _)) <;> (try omega)
set_option maxRecDepth 20000 in
theorem c4_ok : CtrOk Tryz.prog Z 4 c4 := by
  refine ctr_prog noS_ok rspQ0_ok w4 fun ρ h => ?_
  simp only [c4, gPre, gRo, gArgs, roQ, roE, roB, cA, fA, z0, minI, maxI, allT, lenFacts, inR, List.flatMap_cons, List.flatMap_nil, List.append_nil, List.append_assoc, List.cons_append, List.nil_append, and_true, ↓b_le, ↓b_lt, ↓b_eq, ↓b_aeq, ↓f_le, ↓f_lt, ↓f_eq, ↓f_aeq, ↓b_not, ↓f_not, ↓b_and, ↓b_or, ↓f_and, ↓f_or, ↓b_tt, ↓b_ff, ↓f_tt, ↓f_ff, met_cons, met_nil, hyp_cons, hyp_nil, T.I, T.A, T.B, Int.toNat_zero, List.drop_zero, and_true, implies_true, VC.sem, spliceL_cast, shr_24_u32, shr_8_u32, shr_8_i32, shr_14_i32, shr_12_i32, shr_18_i32, shr_2_i32, shr_1_i32, shr_1_i64, shr_8_i64, shr_4_i64, shr_16_u32, shr_4_u8, shr_1_u8, fb2] at h
  obtain ⟨h1, h2, h3, h4, h5, h6, h7, h8, h9⟩ := h
  simp only [vc4, ↓b_le, ↓b_lt, ↓b_eq, ↓b_aeq, ↓f_le, ↓f_lt, ↓f_eq, ↓f_aeq, ↓b_not, ↓f_not, ↓b_and, ↓b_or, ↓f_and, ↓f_or, ↓b_tt, ↓b_ff, ↓f_tt, ↓f_ff, met_cons, met_nil, hyp_cons, hyp_nil, T.I, T.A, T.B, Int.toNat_zero, List.drop_zero, and_true, implies_true, VC.sem, spliceL_cast, shr_24_u32, shr_8_u32, shr_8_i32, shr_14_i32, shr_12_i32, shr_18_i32, shr_2_i32, shr_1_i32, shr_1_i64, shr_8_i64, shr_4_i64, shr_16_u32, shr_4_u8, shr_1_u8, fb2, zfa510, zb440, z431, z432, z433, za434, za435, yb610]
  have bnd : 1 ≤ ρ.i 21 → 1 ≤ ρ.i 22 → ρ.i 21 ≤ 65535 → ρ.i 22 ≤ 65535 → 0 ≤ ρ.i 21 * ρ.i 22 ∧ ρ.i 21 * ρ.i 22 ≤ 65535 * 65535 := fun a b c d => ⟨Int.mul_nonneg (by omega) (by omega), Int.mul_le_mul c d (by omega) (by omega)⟩
  have fnd : 1 ≤ ρ.i 21 → 1 ≤ ρ.i 22 → ρ.i 21 ≤ 65535 → ρ.i 22 ≤ 65535 → ρ.i 21 * ρ.i 22 ≤ 65536 → ((ρ.a 5).length : Int) = ρ.i 21 * ρ.i 22 → Img (ρ.i 21) (ρ.i 22) (ρ.a 5) (quantL (ρ.i 30)) ∧ Found (ρ.i 30) (ρ.i 21) (ρ.i 22) (ρ.a 5) (grayF (ρ.i 30) (ρ.i 21) (ρ.i 22) (ρ.a 5)) :=
    fun a b c d e f => ⟨qimg a b f h3, gray_found (qimg a b f h3) c d e⟩
  have u1 : 1 ≤ ρ.i 21 → (ρ.i 21 + 7).tdiv 8 = (ρ.i 21 + 7) / 8 := fun a => Int.tdiv_eq_ediv_of_nonneg (by omega)
  have u2 : 1 ≤ ρ.i 22 → (ρ.i 22 + 7).tdiv 8 = (ρ.i 22 + 7) / 8 := fun a => Int.tdiv_eq_ediv_of_nonneg (by omega)
  have v1 : 1 ≤ ρ.i 21 → (ρ.i 21).tdiv 8 = ρ.i 21 / 8 := fun a => Int.tdiv_eq_ediv_of_nonneg (by omega)
  have v2 : 1 ≤ ρ.i 22 → (ρ.i 22).tdiv 8 = ρ.i 22 / 8 := fun a => Int.tdiv_eq_ediv_of_nonneg (by omega)
  (repeat' (first | with_reducible exact True.intro | with_reducible refine And.intro ?_ ?_ | intro _)) <;> (try omega)
  · skip
    have fd := fnd (by omega) (by omega) (by omega) (by omega) (by omega) (by omega)
    have ea : ρ.a 1100 = grayF (ρ.i 30) (ρ.i 21) (ρ.i 22) (ρ.a 5) := ‹_›
    rw [← ea] at fd
    obtain ⟨I, F⟩ := fd
    exact F.bytes
  · skip
    have fd := fnd (by omega) (by omega) (by omega) (by omega) (by omega) (by omega)
    have ea : ρ.a 1100 = grayF (ρ.i 30) (ρ.i 21) (ρ.i 22) (ρ.a 5) := ‹_›
    rw [← ea] at fd
    obtain ⟨I, F⟩ := fd
    exact F.ok
  · skip
    have fd := fnd (by omega) (by omega) (by omega) (by omega) (by omega) (by omega)
    have ea : ρ.a 1100 = grayF (ρ.i 30) (ρ.i 21) (ρ.i 22) (ρ.a 5) := ‹_›
    rw [← ea] at fd
    obtain ⟨I, F⟩ := fd
    have := blD_len2 F I.w1 I.h1
    rw [u1 (by omega), u2 (by omega)]
    omega
  · skip
    have fd := fnd (by omega) (by omega) (by omega) (by omega) (by omega) (by omega)
    have ea : ρ.a 1100 = grayF (ρ.i 30) (ρ.i 21) (ρ.i 22) (ρ.a 5) := ‹_›
    rw [← ea] at fd
    obtain ⟨I, F⟩ := fd
    have := blD_len2 F I.w1 I.h1
    omega
  · skip
    have fd := fnd (by omega) (by omega) (by omega) (by omega) (by omega) (by omega)
    have ea : ρ.a 1100 = grayF (ρ.i 30) (ρ.i 21) (ρ.i 22) (ρ.a 5) := ‹_›
    rw [← ea] at fd
    obtain ⟨I, F⟩ := fd
    rw [F.quant, (qcut_len _).1]; rfl
  · skip
    have fd := fnd (by omega) (by omega) (by omega) (by omega) (by omega) (by omega)
    have ea : ρ.a 1100 = grayF (ρ.i 30) (ρ.i 21) (ρ.i 22) (ρ.a 5) := ‹_›
    rw [← ea] at fd
    obtain ⟨I, F⟩ := fd
    rw [F.quant]; exact cutq_in
  · skip
    have fd := fnd (by omega) (by omega) (by omega) (by omega) (by omega) (by omega)
    have ea : ρ.a 1100 = grayF (ρ.i 30) (ρ.i 21) (ρ.i 22) (ρ.a 5) := ‹_›
    rw [← ea] at fd
    obtain ⟨I, F⟩ := fd
    exact blocks_in I F.blocks
  · skip
    have fd := fnd (by omega) (by omega) (by omega) (by omega) (by omega) (by omega)
    have ea : ρ.a 1100 = grayF (ρ.i 30) (ρ.i 21) (ρ.i 22) (ρ.a 5) := ‹_›
    rw [← ea] at fd
    obtain ⟨I, F⟩ := fd
    show codesOk _ _ _ _ _ _ _ ((ρ.i 21 + 7).tdiv 8) = true
    have X1 := u1 (by omega)
    have X2 := u2 (by omega)
    have X3 := v1 (by omega)
    have X4 := v2 (by omega)
    simp only [X1, X2, X3, X4]
    exact blocks_near I F.blocks (fun k hk => by rw [F.quant]; exact cutq_at hk) (by omega) (by omega)
  · skip
    have fd := fnd (by omega) (by omega) (by omega) (by omega) (by omega) (by omega)
    have ea : ρ.a 1100 = grayF (ρ.i 30) (ρ.i 21) (ρ.i 22) (ρ.a 5) := ‹_›
    rw [← ea] at fd
    obtain ⟨I, F⟩ := fd
    exact absurd F.high ‹_›
  · skip
    have fd := fnd (by omega) (by omega) (by omega) (by omega) (by omega) (by omega)
    have ea : ρ.a 1100 = grayF (ρ.i 30) (ρ.i 21) (ρ.i 22) (ρ.a 5) := ‹_›
    rw [← ea] at fd
    obtain ⟨I, F⟩ := fd
    exact absurd F.wide ‹_›
end
end Go.Proofs.YtljjbikbfeigdaaGreatDoor
