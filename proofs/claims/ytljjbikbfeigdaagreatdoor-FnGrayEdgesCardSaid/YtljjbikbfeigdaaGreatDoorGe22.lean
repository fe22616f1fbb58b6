/- Part of the proof of FnGrayEdgesCardSaid: Contracts of the specification's reader shown: markers, segments, blocks. -/
import Derived.Test.YtljjbikbfeigdaaGreatDoorGe21
set_option linter.all false
namespace Go.Proofs.YtljjbikbfeigdaaGreatDoor
noncomputable section
open Go
theorem or256 {v b : Int} (h0 : 0 ≤ v) (h1 : v ≤ 255) (hb : 0 ≤ b) (hb1 : b ≤ 255) : bitsOf .or .i64 (v * 256) b = v * 256 + b := by
  obtain ⟨v, rfl⟩ := Int.eq_ofNat_of_zero_le h0
  obtain ⟨b, rfl⟩ := Int.eq_ofNat_of_zero_le hb
  have e : ((v : Int) * 256) = ((2 ^ 8 * v : Nat) : Int) := by omega
  rw [e]
  have key : ((BitVec.ofInt 64 ((2 ^ 8 * v : Nat) : Int) ||| BitVec.ofInt 64 (b : Int) : BitVec 64)).toNat = 2 ^ 8 * v + b := by
    rw [BitVec.ofInt_natCast, BitVec.ofInt_natCast, BitVec.toNat_or, BitVec.toNat_ofNat, BitVec.toNat_ofNat, Nat.mod_eq_of_lt (by omega : 2 ^ 8 * v < 2 ^ 64), Nat.mod_eq_of_lt (by omega : b < 2 ^ 64), ← Nat.two_pow_add_eq_or_of_lt (by omega : b < 2 ^ 8)]
  show IntKind.i64.wrap ((((BitVec.ofInt 64 ((2 ^ 8 * v : Nat) : Int) ||| BitVec.ofInt 64 (b : Int) : BitVec 64)).toNat : Nat) : Int) = _
  rw [key, IntKind.wrap_i64]
  omega
def vc31_2 : VC :=
 let t0 : T := .get (.av 1) (.iv 1000)
 let t1 : T := .add (.iv 1000) (.lit (1))
 let t2 : T := .le (.lit (-9223372036854775808)) t1
 let t3 : T := .le t1 (.lit (9223372036854775807))
 (.need [(.le (.lit (0)) (.iv 6))] (.cond (.le (.iv 6) (.lit (2))) (.need [.ff, .ff] .done) (.need [(.lt (.lit (2)) (.iv 6))] (.need [(.lt (.lit (2)) (.len (.av 1)))] (.need [(.le (.lit (2)) (.lit (2))), (.le (.lit (2)) (.add (.lit (2)) (.lit (1))))] (.any 1000 1000000000 [(.le (.lit (2)) (.iv 1000)), (.le (.iv 1000) (.add (.lit (2)) (.lit (1))))] (.cond (.lt (.iv 1000) (.iv 6)) (.need [(.le (.lit (0)) (.iv 1000))] (.need [(.lt (.iv 1000) (.len (.av 1)))] (.cond (.eq t0 (.lit (255))) (.need [t2, t3] (.need [(.le (.lit (2)) t1), (.le t1 (.add (.lit (2)) (.lit (1)))), (.lt (.lit (0)) (.sub (.add (.lit (2)) (.lit (2))) (.iv 1000))), (.lt (.sub (.add (.lit (2)) (.lit (2))) t1) (.sub (.add (.lit (2)) (.lit (2))) (.iv 1000)))] .done)) (.cond (.eq (.iv 1000) (.iv 6)) (.need [(.eq (.lit (4)) (.iv 1000)), .ff] .done) (.need [(.le (.lit (-9223372036854775808)) t0), (.le t0 (.lit (9223372036854775807)))] (.need [t2, t3] (.need [(.eq (.lit (4)) t1), (.eq (.lit (219)) t0)] .done))))))) (.cond (.eq (.iv 1000) (.iv 6)) (.need [(.eq (.lit (4)) (.iv 1000)), .ff] .done) (.need [(.le (.lit (0)) (.iv 1000)), (.lt (.iv 1000) (.iv 6))] (.need [(.lt (.iv 1000) (.len (.av 1)))] (.need [(.le (.lit (-9223372036854775808)) t0), (.le t0 (.lit (9223372036854775807)))] (.need [t2, t3] (.need [(.eq (.lit (4)) t1), (.eq (.lit (219)) t0)] .done)))))))))))))
theorem w31_2 : vcIs (vcOf Tryz.prog noS noR ⟨ltK9 (.lit 2), inlK8⟩ 100000 31 (c31 (.lit 2) 219)) vc31_2 = true := by kernel_rfl
theorem c31_2_ok : CtrOk Tryz.prog Z 31 (c31 (.lit 2) 219) := by
  refine ctr_prog noS_ok noR_ok w31_2 fun ρ h => ?_
  simp only [c31, bD, preD, gD, allT, z0, lim, zb2, getD_at8, lenFacts, inR, List.flatMap_cons, List.flatMap_nil, List.append_nil, List.append_assoc, List.cons_append, List.nil_append, and_true, ↓b_le, ↓b_lt, ↓b_eq, ↓b_aeq, ↓f_le, ↓f_lt, ↓f_eq, ↓f_aeq, ↓b_not, ↓f_not, ↓b_and, ↓b_or, ↓f_and, ↓f_or, ↓b_tt, ↓b_ff, ↓f_tt, ↓f_ff, met_cons, met_nil, hyp_cons, hyp_nil, T.I, T.A, T.B, Int.toNat_zero, List.drop_zero, and_true, implies_true, VC.sem, spliceL_cast, shr_24_u32, shr_8_u32, shr_8_i32, shr_14_i32, shr_12_i32, shr_18_i32, shr_2_i32, shr_1_i32, shr_1_i64, shr_8_i64, shr_4_i64, shr_16_u32, shr_4_u8, shr_1_u8, Int.reduceAdd] at h
  obtain ⟨h1, h2, h3, h4, h5, h5', h6, h7⟩ := h
  have hb := allIn_at h4 (n := ρ.i 1000)
  have k0 : ρ.i 1000 = 2 → at8 (ρ.a 1) (ρ.i 1000) = 255 := fun e => by rw [e]; exact h6
  have k1 : ρ.i 1000 = 3 → at8 (ρ.a 1) (ρ.i 1000) = 219 := fun e => by rw [e]; exact h7
  simp only [vc31_2, ↓b_le, ↓b_lt, ↓b_eq, ↓b_aeq, ↓f_le, ↓f_lt, ↓f_eq, ↓f_aeq, ↓b_not, ↓f_not, ↓b_and, ↓b_or, ↓f_and, ↓f_or, ↓b_tt, ↓b_ff, ↓f_tt, ↓f_ff, met_cons, met_nil, hyp_cons, hyp_nil, T.I, T.A, T.B, Int.toNat_zero, List.drop_zero, and_true, implies_true, VC.sem, spliceL_cast, shr_24_u32, shr_8_u32, shr_8_i32, shr_14_i32, shr_12_i32, shr_18_i32, shr_2_i32, shr_1_i32, shr_1_i64, shr_8_i64, shr_4_i64, shr_16_u32, shr_4_u8, shr_1_u8, getD_at8, Int.reduceAdd]
  (repeat' (first | exact True.intro | refine And.intro ?_ ?_ | intro _)) <;> (try assumption) <;> (try omega)
def vc31_136 : VC :=
 let t0 : T := .lit (136)
 let t1 : T := .get (.av 1) (.iv 1000)
 let t2 : T := .add (.iv 1000) (.lit (1))
 let t3 : T := .le (.lit (-9223372036854775808)) t2
 let t4 : T := .le t2 (.lit (9223372036854775807))
 (.need [(.le (.lit (0)) (.iv 6))] (.cond (.le (.iv 6) t0) (.need [.ff, .ff] .done) (.need [(.lt t0 (.iv 6))] (.need [(.lt t0 (.len (.av 1)))] (.need [(.le t0 t0), (.le t0 (.add t0 (.lit (1))))] (.any 1000 1000000000 [(.le t0 (.iv 1000)), (.le (.iv 1000) (.add t0 (.lit (1))))] (.cond (.lt (.iv 1000) (.iv 6)) (.need [(.le (.lit (0)) (.iv 1000))] (.need [(.lt (.iv 1000) (.len (.av 1)))] (.cond (.eq t1 (.lit (255))) (.need [t3, t4] (.need [(.le t0 t2), (.le t2 (.add t0 (.lit (1)))), (.lt (.lit (0)) (.sub (.add t0 (.lit (2))) (.iv 1000))), (.lt (.sub (.add t0 (.lit (2))) t2) (.sub (.add t0 (.lit (2))) (.iv 1000)))] .done)) (.cond (.eq (.iv 1000) (.iv 6)) (.need [(.eq (.lit (138)) (.iv 1000)), .ff] .done) (.need [(.le (.lit (-9223372036854775808)) t1), (.le t1 (.lit (9223372036854775807)))] (.need [t3, t4] (.need [(.eq (.lit (138)) t2), (.eq (.lit (192)) t1)] .done))))))) (.cond (.eq (.iv 1000) (.iv 6)) (.need [(.eq (.lit (138)) (.iv 1000)), .ff] .done) (.need [(.le (.lit (0)) (.iv 1000)), (.lt (.iv 1000) (.iv 6))] (.need [(.lt (.iv 1000) (.len (.av 1)))] (.need [(.le (.lit (-9223372036854775808)) t1), (.le t1 (.lit (9223372036854775807)))] (.need [t3, t4] (.need [(.eq (.lit (138)) t2), (.eq (.lit (192)) t1)] .done)))))))))))))
theorem w31_136 : vcIs (vcOf Tryz.prog noS noR ⟨ltK9 (.lit 136), inlK8⟩ 100000 31 (c31 (.lit 136) 192)) vc31_136 = true := by kernel_rfl
theorem c31_136_ok : CtrOk Tryz.prog Z 31 (c31 (.lit 136) 192) := by
  refine ctr_prog noS_ok noR_ok w31_136 fun ρ h => ?_
  simp only [c31, bD, preD, gD, allT, z0, lim, zb2, getD_at8, lenFacts, inR, List.flatMap_cons, List.flatMap_nil, List.append_nil, List.append_assoc, List.cons_append, List.nil_append, and_true, ↓b_le, ↓b_lt, ↓b_eq, ↓b_aeq, ↓f_le, ↓f_lt, ↓f_eq, ↓f_aeq, ↓b_not, ↓f_not, ↓b_and, ↓b_or, ↓f_and, ↓f_or, ↓b_tt, ↓b_ff, ↓f_tt, ↓f_ff, met_cons, met_nil, hyp_cons, hyp_nil, T.I, T.A, T.B, Int.toNat_zero, List.drop_zero, and_true, implies_true, VC.sem, spliceL_cast, shr_24_u32, shr_8_u32, shr_8_i32, shr_14_i32, shr_12_i32, shr_18_i32, shr_2_i32, shr_1_i32, shr_1_i64, shr_8_i64, shr_4_i64, shr_16_u32, shr_4_u8, shr_1_u8, Int.reduceAdd] at h
  obtain ⟨h1, h2, h3, h4, h5, h5', h6, h7⟩ := h
  have hb := allIn_at h4 (n := ρ.i 1000)
  have k0 : ρ.i 1000 = 136 → at8 (ρ.a 1) (ρ.i 1000) = 255 := fun e => by rw [e]; exact h6
  have k1 : ρ.i 1000 = 137 → at8 (ρ.a 1) (ρ.i 1000) = 192 := fun e => by rw [e]; exact h7
  simp only [vc31_136, ↓b_le, ↓b_lt, ↓b_eq, ↓b_aeq, ↓f_le, ↓f_lt, ↓f_eq, ↓f_aeq, ↓b_not, ↓f_not, ↓b_and, ↓b_or, ↓f_and, ↓f_or, ↓b_tt, ↓b_ff, ↓f_tt, ↓f_ff, met_cons, met_nil, hyp_cons, hyp_nil, T.I, T.A, T.B, Int.toNat_zero, List.drop_zero, and_true, implies_true, VC.sem, spliceL_cast, shr_24_u32, shr_8_u32, shr_8_i32, shr_14_i32, shr_12_i32, shr_18_i32, shr_2_i32, shr_1_i32, shr_1_i64, shr_8_i64, shr_4_i64, shr_16_u32, shr_4_u8, shr_1_u8, getD_at8, Int.reduceAdd]
  (repeat' (first | exact True.intro | refine And.intro ?_ ?_ | intro _)) <;> (try assumption) <;> (try omega)
def vc31_149 : VC :=
 let t0 : T := .lit (149)
 let t1 : T := .get (.av 1) (.iv 1000)
 let t2 : T := .add (.iv 1000) (.lit (1))
 let t3 : T := .le (.lit (-9223372036854775808)) t2
 let t4 : T := .le t2 (.lit (9223372036854775807))
 (.need [(.le (.lit (0)) (.iv 6))] (.cond (.le (.iv 6) t0) (.need [.ff, .ff] .done) (.need [(.lt t0 (.iv 6))] (.need [(.lt t0 (.len (.av 1)))] (.need [(.le t0 t0), (.le t0 (.add t0 (.lit (1))))] (.any 1000 1000000000 [(.le t0 (.iv 1000)), (.le (.iv 1000) (.add t0 (.lit (1))))] (.cond (.lt (.iv 1000) (.iv 6)) (.need [(.le (.lit (0)) (.iv 1000))] (.need [(.lt (.iv 1000) (.len (.av 1)))] (.cond (.eq t1 (.lit (255))) (.need [t3, t4] (.need [(.le t0 t2), (.le t2 (.add t0 (.lit (1)))), (.lt (.lit (0)) (.sub (.add t0 (.lit (2))) (.iv 1000))), (.lt (.sub (.add t0 (.lit (2))) t2) (.sub (.add t0 (.lit (2))) (.iv 1000)))] .done)) (.cond (.eq (.iv 1000) (.iv 6)) (.need [(.eq (.lit (151)) (.iv 1000)), .ff] .done) (.need [(.le (.lit (-9223372036854775808)) t1), (.le t1 (.lit (9223372036854775807)))] (.need [t3, t4] (.need [(.eq (.lit (151)) t2), (.eq (.lit (196)) t1)] .done))))))) (.cond (.eq (.iv 1000) (.iv 6)) (.need [(.eq (.lit (151)) (.iv 1000)), .ff] .done) (.need [(.le (.lit (0)) (.iv 1000)), (.lt (.iv 1000) (.iv 6))] (.need [(.lt (.iv 1000) (.len (.av 1)))] (.need [(.le (.lit (-9223372036854775808)) t1), (.le t1 (.lit (9223372036854775807)))] (.need [t3, t4] (.need [(.eq (.lit (151)) t2), (.eq (.lit (196)) t1)] .done)))))))))))))
theorem w31_149 : vcIs (vcOf Tryz.prog noS noR ⟨ltK9 (.lit 149), inlK8⟩ 100000 31 (c31 (.lit 149) 196)) vc31_149 = true := by kernel_rfl
theorem c31_149_ok : CtrOk Tryz.prog Z 31 (c31 (.lit 149) 196) := by
  refine ctr_prog noS_ok noR_ok w31_149 fun ρ h => ?_
  simp only [c31, bD, preD, gD, allT, z0, lim, zb2, getD_at8, lenFacts, inR, List.flatMap_cons, List.flatMap_nil, List.append_nil, List.append_assoc, List.cons_append, List.nil_append, and_true, ↓b_le, ↓b_lt, ↓b_eq, ↓b_aeq, ↓f_le, ↓f_lt, ↓f_eq, ↓f_aeq, ↓b_not, ↓f_not, ↓b_and, ↓b_or, ↓f_and, ↓f_or, ↓b_tt, ↓b_ff, ↓f_tt, ↓f_ff, met_cons, met_nil, hyp_cons, hyp_nil, T.I, T.A, T.B, Int.toNat_zero, List.drop_zero, and_true, implies_true, VC.sem, spliceL_cast, shr_24_u32, shr_8_u32, shr_8_i32, shr_14_i32, shr_12_i32, shr_18_i32, shr_2_i32, shr_1_i32, shr_1_i64, shr_8_i64, shr_4_i64, shr_16_u32, shr_4_u8, shr_1_u8, Int.reduceAdd] at h
  obtain ⟨h1, h2, h3, h4, h5, h5', h6, h7⟩ := h
  have hb := allIn_at h4 (n := ρ.i 1000)
  have k0 : ρ.i 1000 = 149 → at8 (ρ.a 1) (ρ.i 1000) = 255 := fun e => by rw [e]; exact h6
  have k1 : ρ.i 1000 = 150 → at8 (ρ.a 1) (ρ.i 1000) = 196 := fun e => by rw [e]; exact h7
  simp only [vc31_149, ↓b_le, ↓b_lt, ↓b_eq, ↓b_aeq, ↓f_le, ↓f_lt, ↓f_eq, ↓f_aeq, ↓b_not, ↓f_not, ↓b_and, ↓b_or, ↓f_and, ↓f_or, ↓b_tt, ↓b_ff, ↓f_tt, ↓f_ff, met_cons, met_nil, hyp_cons, hyp_nil, T.I, T.A, T.B, Int.toNat_zero, List.drop_zero, and_true, implies_true, VC.sem, spliceL_cast, shr_24_u32, shr_8_u32, shr_8_i32, shr_14_i32, shr_12_i32, shr_18_i32, shr_2_i32, shr_1_i32, shr_1_i64, shr_8_i64, shr_4_i64, shr_16_u32, shr_4_u8, shr_1_u8, getD_at8, Int.reduceAdd]
  (repeat' (first | exact True.intro | refine And.intro ?_ ?_ | intro _)) <;> (try assumption) <;> (try omega)
def vc31_361 : VC :=
 let t0 : T := .lit (361)
 let t1 : T := .get (.av 1) (.iv 1000)
 let t2 : T := .add (.iv 1000) (.lit (1))
 let t3 : T := .le (.lit (-9223372036854775808)) t2
 let t4 : T := .le t2 (.lit (9223372036854775807))
 (.need [(.le (.lit (0)) (.iv 6))] (.cond (.le (.iv 6) t0) (.need [.ff, .ff] .done) (.need [(.lt t0 (.iv 6))] (.need [(.lt t0 (.len (.av 1)))] (.need [(.le t0 t0), (.le t0 (.add t0 (.lit (1))))] (.any 1000 1000000000 [(.le t0 (.iv 1000)), (.le (.iv 1000) (.add t0 (.lit (1))))] (.cond (.lt (.iv 1000) (.iv 6)) (.need [(.le (.lit (0)) (.iv 1000))] (.need [(.lt (.iv 1000) (.len (.av 1)))] (.cond (.eq t1 (.lit (255))) (.need [t3, t4] (.need [(.le t0 t2), (.le t2 (.add t0 (.lit (1)))), (.lt (.lit (0)) (.sub (.add t0 (.lit (2))) (.iv 1000))), (.lt (.sub (.add t0 (.lit (2))) t2) (.sub (.add t0 (.lit (2))) (.iv 1000)))] .done)) (.cond (.eq (.iv 1000) (.iv 6)) (.need [(.eq (.lit (363)) (.iv 1000)), .ff] .done) (.need [(.le (.lit (-9223372036854775808)) t1), (.le t1 (.lit (9223372036854775807)))] (.need [t3, t4] (.need [(.eq (.lit (363)) t2), (.eq (.lit (218)) t1)] .done))))))) (.cond (.eq (.iv 1000) (.iv 6)) (.need [(.eq (.lit (363)) (.iv 1000)), .ff] .done) (.need [(.le (.lit (0)) (.iv 1000)), (.lt (.iv 1000) (.iv 6))] (.need [(.lt (.iv 1000) (.len (.av 1)))] (.need [(.le (.lit (-9223372036854775808)) t1), (.le t1 (.lit (9223372036854775807)))] (.need [t3, t4] (.need [(.eq (.lit (363)) t2), (.eq (.lit (218)) t1)] .done)))))))))))))
theorem w31_361 : vcIs (vcOf Tryz.prog noS noR ⟨ltK9 (.lit 361), inlK8⟩ 100000 31 (c31 (.lit 361) 218)) vc31_361 = true := by kernel_rfl
theorem c31_361_ok : CtrOk Tryz.prog Z 31 (c31 (.lit 361) 218) := by
  refine ctr_prog noS_ok noR_ok w31_361 fun ρ h => ?_
  simp only [c31, bD, preD, gD, allT, z0, lim, zb2, getD_at8, lenFacts, inR, List.flatMap_cons, List.flatMap_nil, List.append_nil, List.append_assoc, List.cons_append, List.nil_append, and_true, ↓b_le, ↓b_lt, ↓b_eq, ↓b_aeq, ↓f_le, ↓f_lt, ↓f_eq, ↓f_aeq, ↓b_not, ↓f_not, ↓b_and, ↓b_or, ↓f_and, ↓f_or, ↓b_tt, ↓b_ff, ↓f_tt, ↓f_ff, met_cons, met_nil, hyp_cons, hyp_nil, T.I, T.A, T.B, Int.toNat_zero, List.drop_zero, and_true, implies_true, VC.sem, spliceL_cast, shr_24_u32, shr_8_u32, shr_8_i32, shr_14_i32, shr_12_i32, shr_18_i32, shr_2_i32, shr_1_i32, shr_1_i64, shr_8_i64, shr_4_i64, shr_16_u32, shr_4_u8, shr_1_u8, Int.reduceAdd] at h
  obtain ⟨h1, h2, h3, h4, h5, h5', h6, h7⟩ := h
  have hb := allIn_at h4 (n := ρ.i 1000)
  have k0 : ρ.i 1000 = 361 → at8 (ρ.a 1) (ρ.i 1000) = 255 := fun e => by rw [e]; exact h6
  have k1 : ρ.i 1000 = 362 → at8 (ρ.a 1) (ρ.i 1000) = 218 := fun e => by rw [e]; exact h7
  simp only [vc31_361, ↓b_le, ↓b_lt, ↓b_eq, ↓b_aeq, ↓f_le, ↓f_lt, ↓f_eq, ↓f_aeq, ↓b_not, ↓f_not, ↓b_and, ↓b_or, ↓f_and, ↓f_or, ↓b_tt, ↓b_ff, ↓f_tt, ↓f_ff, met_cons, met_nil, hyp_cons, hyp_nil, T.I, T.A, T.B, Int.toNat_zero, List.drop_zero, and_true, implies_true, VC.sem, spliceL_cast, shr_24_u32, shr_8_u32, shr_8_i32, shr_14_i32, shr_12_i32, shr_18_i32, shr_2_i32, shr_1_i32, shr_1_i64, shr_8_i64, shr_4_i64, shr_16_u32, shr_4_u8, shr_1_u8, getD_at8, Int.reduceAdd]
  (repeat' (first | exact True.intro | refine And.intro ?_ ?_ | intro _)) <;> (try assumption) <;> (try omega)
def vc31_e : VC :=
 let t0 : T := .add (.iv 0) (.lit (2))
 let t1 : T := .get (.av 1) (.iv 1000)
 let t2 : T := .add (.iv 1000) (.lit (1))
 let t3 : T := .le (.lit (-9223372036854775808)) t2
 let t4 : T := .le t2 (.lit (9223372036854775807))
 (.need [(.le (.lit (0)) (.iv 6))] (.cond (.le (.iv 6) (.iv 0)) (.need [(.eq t0 (.iv 0)), .ff] .done) (.need [(.lt (.iv 0) (.iv 6))] (.need [(.lt (.iv 0) (.len (.av 1)))] (.need [(.le (.iv 0) (.iv 0)), (.le (.iv 0) (.add (.iv 0) (.lit (1))))] (.any 1000 1000000000 [(.le (.iv 0) (.iv 1000)), (.le (.iv 1000) (.add (.iv 0) (.lit (1))))] (.cond (.lt (.iv 1000) (.iv 6)) (.need [(.le (.lit (0)) (.iv 1000))] (.need [(.lt (.iv 1000) (.len (.av 1)))] (.cond (.eq t1 (.lit (255))) (.need [t3, t4] (.need [(.le (.iv 0) t2), (.le t2 (.add (.iv 0) (.lit (1)))), (.lt (.lit (0)) (.sub t0 (.iv 1000))), (.lt (.sub t0 t2) (.sub t0 (.iv 1000)))] .done)) (.cond (.eq (.iv 1000) (.iv 6)) (.need [(.eq t0 (.iv 1000)), .ff] .done) (.need [(.le (.lit (-9223372036854775808)) t1), (.le t1 (.lit (9223372036854775807)))] (.need [t3, t4] (.need [(.eq t0 t2), (.eq (.lit (217)) t1)] .done))))))) (.cond (.eq (.iv 1000) (.iv 6)) (.need [(.eq t0 (.iv 1000)), .ff] .done) (.need [(.le (.lit (0)) (.iv 1000)), (.lt (.iv 1000) (.iv 6))] (.need [(.lt (.iv 1000) (.len (.av 1)))] (.need [(.le (.lit (-9223372036854775808)) t1), (.le t1 (.lit (9223372036854775807)))] (.need [t3, t4] (.need [(.eq t0 t2), (.eq (.lit (217)) t1)] .done)))))))))))))
theorem w31_e : vcIs (vcOf Tryz.prog noS noR ⟨ltK9 (.iv 0), inlK8⟩ 100000 31 (c31 (.iv 0) 217)) vc31_e = true := by kernel_rfl
theorem c31_e_ok : CtrOk Tryz.prog Z 31 (c31 (.iv 0) 217) := by
  refine ctr_prog noS_ok noR_ok w31_e fun ρ h => ?_
  simp only [c31, bD, preD, gD, allT, z0, lim, zb2, getD_at8, lenFacts, inR, List.flatMap_cons, List.flatMap_nil, List.append_nil, List.append_assoc, List.cons_append, List.nil_append, and_true, ↓b_le, ↓b_lt, ↓b_eq, ↓b_aeq, ↓f_le, ↓f_lt, ↓f_eq, ↓f_aeq, ↓b_not, ↓f_not, ↓b_and, ↓b_or, ↓f_and, ↓f_or, ↓b_tt, ↓b_ff, ↓f_tt, ↓f_ff, met_cons, met_nil, hyp_cons, hyp_nil, T.I, T.A, T.B, Int.toNat_zero, List.drop_zero, and_true, implies_true, VC.sem, spliceL_cast, shr_24_u32, shr_8_u32, shr_8_i32, shr_14_i32, shr_12_i32, shr_18_i32, shr_2_i32, shr_1_i32, shr_1_i64, shr_8_i64, shr_4_i64, shr_16_u32, shr_4_u8, shr_1_u8] at h
  obtain ⟨h1, h2, h3, h4, h5, h6, h7, h8⟩ := h
  have hb := allIn_at h4 (n := ρ.i 1000)
  have k0 : ρ.i 1000 = ρ.i 0 → at8 (ρ.a 1) (ρ.i 1000) = 255 := fun e => by rw [e]; exact h7
  have k1 : ρ.i 1000 = ρ.i 0 + 1 → at8 (ρ.a 1) (ρ.i 1000) = 217 := fun e => by rw [e]; exact h8
  simp only [vc31_e, ↓b_le, ↓b_lt, ↓b_eq, ↓b_aeq, ↓f_le, ↓f_lt, ↓f_eq, ↓f_aeq, ↓b_not, ↓f_not, ↓b_and, ↓b_or, ↓f_and, ↓f_or, ↓b_tt, ↓b_ff, ↓f_tt, ↓f_ff, met_cons, met_nil, hyp_cons, hyp_nil, T.I, T.A, T.B, Int.toNat_zero, List.drop_zero, and_true, implies_true, VC.sem, spliceL_cast, shr_24_u32, shr_8_u32, shr_8_i32, shr_14_i32, shr_12_i32, shr_18_i32, shr_2_i32, shr_1_i32, shr_1_i64, shr_8_i64, shr_4_i64, shr_16_u32, shr_4_u8, shr_1_u8, getD_at8]
  (repeat' (first | exact True.intro | refine And.intro ?_ ?_ | intro _)) <;> (try assumption) <;> (try omega)
def vc33_4 : VC :=
 let t0 : T := .lit (-9223372036854775808)
 let t1 : T := .lit (9223372036854775807)
 let t2 : T := .mul (.get (.av 1) (.lit (4))) (.lit (256))
 let t3 : T := .bits .or .i64 t2 (.get (.av 1) (.lit (5)))
 let t4 : T := .add (.lit (4)) t3
 (.need [(.le (.lit (0)) (.iv 6))] (.cond (.lt (.iv 6) (.lit (6))) (.fail "leaf fit") (.need [(.lt (.lit (4)) (.iv 6))] (.need [(.lt (.lit (4)) (.len (.av 1)))] (.need [(.le t0 (.get (.av 1) (.lit (4)))), (.le (.get (.av 1) (.lit (4))) t1)] (.need [(.le t0 t2), (.le t2 t1)] (.need [(.lt (.lit (5)) (.iv 6))] (.need [(.lt (.lit (5)) (.len (.av 1)))] (.need [(.le t0 (.get (.av 1) (.lit (5)))), (.le (.get (.av 1) (.lit (5))) t1)] (.cond (.lt t3 (.lit (2))) (.fail "leaf fit") (.need [(.le t0 t4), (.le t4 t1)] (.cond (.lt (.iv 6) t4) (.fail "leaf fit") (.need [(.le (.lit (0)) (.iv 7)), (.le (.iv 7) (.iv 7)), (.le (.lit (0)) t4), (.le t4 (.iv 7)), (.le (.lit (6)) t4), (.le (.lit (0)) (.iv 7))] (.need [(.eq (.lit (136)) t4), (.eq (.lit (130)) (.sub t4 (.lit (6)))), (.eq (.lit (6)) (.ite (.eq (.iv 7) (.lit (6))) (.lit (0)) (.lit (6))))] .done))))))))))))))
theorem w33_4 : vcIs (vcOf Tryz.prog noS noR ⟨ltK9 z0, inlK8⟩ 100000 33 (c33 4 132)) vc33_4 = true := by kernel_rfl
theorem c33_4_ok : CtrOk Tryz.prog Z 33 (c33 4 132) := by
  refine ctr_prog noS_ok noR_ok w33_4 fun ρ h => ?_
  simp only [c33, bD, preD, gD, allT, z0, lim, zb2, getD_at8, lenFacts, inR, List.flatMap_cons, List.flatMap_nil, List.append_nil, List.append_assoc, List.cons_append, List.nil_append, and_true, ↓b_le, ↓b_lt, ↓b_eq, ↓b_aeq, ↓f_le, ↓f_lt, ↓f_eq, ↓f_aeq, ↓b_not, ↓f_not, ↓b_and, ↓b_or, ↓f_and, ↓f_or, ↓b_tt, ↓b_ff, ↓f_tt, ↓f_ff, met_cons, met_nil, hyp_cons, hyp_nil, T.I, T.A, T.B, Int.toNat_zero, List.drop_zero, and_true, implies_true, VC.sem, spliceL_cast, shr_24_u32, shr_8_u32, shr_8_i32, shr_14_i32, shr_12_i32, shr_18_i32, shr_2_i32, shr_1_i32, shr_1_i64, shr_8_i64, shr_4_i64, shr_16_u32, shr_4_u8, shr_1_u8, Nat.reduceAdd, Nat.reduceDiv, Nat.reduceMod, Int.cast_ofNat_Int] at h
  obtain ⟨h1, h2, h3, h4, h5, h6, h7⟩ := h
  have e1 : bitsOf .or .i64 (at8 (ρ.a 1) 4 * 256) (at8 (ρ.a 1) 5) = 132 := by
    rw [h6, h7, or256 (by omega) (by omega) (by omega) (by omega)]; rfl
  simp only [vc33_4, ↓b_le, ↓b_lt, ↓b_eq, ↓b_aeq, ↓f_le, ↓f_lt, ↓f_eq, ↓f_aeq, ↓b_not, ↓f_not, ↓b_and, ↓b_or, ↓f_and, ↓f_or, ↓b_tt, ↓b_ff, ↓f_tt, ↓f_ff, met_cons, met_nil, hyp_cons, hyp_nil, T.I, T.A, T.B, Int.toNat_zero, List.drop_zero, and_true, implies_true, VC.sem, spliceL_cast, shr_24_u32, shr_8_u32, shr_8_i32, shr_14_i32, shr_12_i32, shr_18_i32, shr_2_i32, shr_1_i32, shr_1_i64, shr_8_i64, shr_4_i64, shr_16_u32, shr_4_u8, shr_1_u8, getD_at8, e1, Int.reduceAdd, cond_ieq]
  (repeat' (first | exact True.intro | refine And.intro ?_ ?_ | intro _)) <;> (try assumption) <;> (try omega)
def vc33_138 : VC :=
 let t0 : T := .lit (-9223372036854775808)
 let t1 : T := .lit (9223372036854775807)
 let t2 : T := .mul (.get (.av 1) (.lit (138))) (.lit (256))
 let t3 : T := .bits .or .i64 t2 (.get (.av 1) (.lit (139)))
 let t4 : T := .add (.lit (138)) t3
 (.need [(.le (.lit (0)) (.iv 6))] (.cond (.lt (.iv 6) (.lit (140))) (.fail "leaf fit") (.need [(.lt (.lit (138)) (.iv 6))] (.need [(.lt (.lit (138)) (.len (.av 1)))] (.need [(.le t0 (.get (.av 1) (.lit (138)))), (.le (.get (.av 1) (.lit (138))) t1)] (.need [(.le t0 t2), (.le t2 t1)] (.need [(.lt (.lit (139)) (.iv 6))] (.need [(.lt (.lit (139)) (.len (.av 1)))] (.need [(.le t0 (.get (.av 1) (.lit (139)))), (.le (.get (.av 1) (.lit (139))) t1)] (.cond (.lt t3 (.lit (2))) (.fail "leaf fit") (.need [(.le t0 t4), (.le t4 t1)] (.cond (.lt (.iv 6) t4) (.fail "leaf fit") (.need [(.le (.lit (0)) (.iv 7)), (.le (.iv 7) (.iv 7)), (.le (.lit (0)) t4), (.le t4 (.iv 7)), (.le (.lit (140)) t4), (.le (.lit (0)) (.iv 7))] (.need [(.eq (.lit (149)) t4), (.eq (.lit (9)) (.sub t4 (.lit (140)))), (.eq (.lit (140)) (.ite (.eq (.iv 7) (.lit (140))) (.lit (0)) (.lit (140))))] .done))))))))))))))
theorem w33_138 : vcIs (vcOf Tryz.prog noS noR ⟨ltK9 z0, inlK8⟩ 100000 33 (c33 138 11)) vc33_138 = true := by kernel_rfl
theorem c33_138_ok : CtrOk Tryz.prog Z 33 (c33 138 11) := by
  refine ctr_prog noS_ok noR_ok w33_138 fun ρ h => ?_
  simp only [c33, bD, preD, gD, allT, z0, lim, zb2, getD_at8, lenFacts, inR, List.flatMap_cons, List.flatMap_nil, List.append_nil, List.append_assoc, List.cons_append, List.nil_append, and_true, ↓b_le, ↓b_lt, ↓b_eq, ↓b_aeq, ↓f_le, ↓f_lt, ↓f_eq, ↓f_aeq, ↓b_not, ↓f_not, ↓b_and, ↓b_or, ↓f_and, ↓f_or, ↓b_tt, ↓b_ff, ↓f_tt, ↓f_ff, met_cons, met_nil, hyp_cons, hyp_nil, T.I, T.A, T.B, Int.toNat_zero, List.drop_zero, and_true, implies_true, VC.sem, spliceL_cast, shr_24_u32, shr_8_u32, shr_8_i32, shr_14_i32, shr_12_i32, shr_18_i32, shr_2_i32, shr_1_i32, shr_1_i64, shr_8_i64, shr_4_i64, shr_16_u32, shr_4_u8, shr_1_u8, Nat.reduceAdd, Nat.reduceDiv, Nat.reduceMod, Int.cast_ofNat_Int] at h
  obtain ⟨h1, h2, h3, h4, h5, h6, h7⟩ := h
  have e1 : bitsOf .or .i64 (at8 (ρ.a 1) 138 * 256) (at8 (ρ.a 1) 139) = 11 := by
    rw [h6, h7, or256 (by omega) (by omega) (by omega) (by omega)]; rfl
  simp only [vc33_138, ↓b_le, ↓b_lt, ↓b_eq, ↓b_aeq, ↓f_le, ↓f_lt, ↓f_eq, ↓f_aeq, ↓b_not, ↓f_not, ↓b_and, ↓b_or, ↓f_and, ↓f_or, ↓b_tt, ↓b_ff, ↓f_tt, ↓f_ff, met_cons, met_nil, hyp_cons, hyp_nil, T.I, T.A, T.B, Int.toNat_zero, List.drop_zero, and_true, implies_true, VC.sem, spliceL_cast, shr_24_u32, shr_8_u32, shr_8_i32, shr_14_i32, shr_12_i32, shr_18_i32, shr_2_i32, shr_1_i32, shr_1_i64, shr_8_i64, shr_4_i64, shr_16_u32, shr_4_u8, shr_1_u8, getD_at8, e1, Int.reduceAdd, cond_ieq]
  (repeat' (first | exact True.intro | refine And.intro ?_ ?_ | intro _)) <;> (try assumption) <;> (try omega)
def vc33_151 : VC :=
 let t0 : T := .lit (-9223372036854775808)
 let t1 : T := .lit (9223372036854775807)
 let t2 : T := .mul (.get (.av 1) (.lit (151))) (.lit (256))
 let t3 : T := .bits .or .i64 t2 (.get (.av 1) (.lit (152)))
 let t4 : T := .add (.lit (151)) t3
 (.need [(.le (.lit (0)) (.iv 6))] (.cond (.lt (.iv 6) (.lit (153))) (.fail "leaf fit") (.need [(.lt (.lit (151)) (.iv 6))] (.need [(.lt (.lit (151)) (.len (.av 1)))] (.need [(.le t0 (.get (.av 1) (.lit (151)))), (.le (.get (.av 1) (.lit (151))) t1)] (.need [(.le t0 t2), (.le t2 t1)] (.need [(.lt (.lit (152)) (.iv 6))] (.need [(.lt (.lit (152)) (.len (.av 1)))] (.need [(.le t0 (.get (.av 1) (.lit (152)))), (.le (.get (.av 1) (.lit (152))) t1)] (.cond (.lt t3 (.lit (2))) (.fail "leaf fit") (.need [(.le t0 t4), (.le t4 t1)] (.cond (.lt (.iv 6) t4) (.fail "leaf fit") (.need [(.le (.lit (0)) (.iv 7)), (.le (.iv 7) (.iv 7)), (.le (.lit (0)) t4), (.le t4 (.iv 7)), (.le (.lit (153)) t4), (.le (.lit (0)) (.iv 7))] (.need [(.eq (.lit (361)) t4), (.eq (.lit (208)) (.sub t4 (.lit (153)))), (.eq (.lit (153)) (.ite (.eq (.iv 7) (.lit (153))) (.lit (0)) (.lit (153))))] .done))))))))))))))
theorem w33_151 : vcIs (vcOf Tryz.prog noS noR ⟨ltK9 z0, inlK8⟩ 100000 33 (c33 151 210)) vc33_151 = true := by kernel_rfl
theorem c33_151_ok : CtrOk Tryz.prog Z 33 (c33 151 210) := by
  refine ctr_prog noS_ok noR_ok w33_151 fun ρ h => ?_
  simp only [c33, bD, preD, gD, allT, z0, lim, zb2, getD_at8, lenFacts, inR, List.flatMap_cons, List.flatMap_nil, List.append_nil, List.append_assoc, List.cons_append, List.nil_append, and_true, ↓b_le, ↓b_lt, ↓b_eq, ↓b_aeq, ↓f_le, ↓f_lt, ↓f_eq, ↓f_aeq, ↓b_not, ↓f_not, ↓b_and, ↓b_or, ↓f_and, ↓f_or, ↓b_tt, ↓b_ff, ↓f_tt, ↓f_ff, met_cons, met_nil, hyp_cons, hyp_nil, T.I, T.A, T.B, Int.toNat_zero, List.drop_zero, and_true, implies_true, VC.sem, spliceL_cast, shr_24_u32, shr_8_u32, shr_8_i32, shr_14_i32, shr_12_i32, shr_18_i32, shr_2_i32, shr_1_i32, shr_1_i64, shr_8_i64, shr_4_i64, shr_16_u32, shr_4_u8, shr_1_u8, Nat.reduceAdd, Nat.reduceDiv, Nat.reduceMod, Int.cast_ofNat_Int] at h
  obtain ⟨h1, h2, h3, h4, h5, h6, h7⟩ := h
  have e1 : bitsOf .or .i64 (at8 (ρ.a 1) 151 * 256) (at8 (ρ.a 1) 152) = 210 := by
    rw [h6, h7, or256 (by omega) (by omega) (by omega) (by omega)]; rfl
  simp only [vc33_151, ↓b_le, ↓b_lt, ↓b_eq, ↓b_aeq, ↓f_le, ↓f_lt, ↓f_eq, ↓f_aeq, ↓b_not, ↓f_not, ↓b_and, ↓b_or, ↓f_and, ↓f_or, ↓b_tt, ↓b_ff, ↓f_tt, ↓f_ff, met_cons, met_nil, hyp_cons, hyp_nil, T.I, T.A, T.B, Int.toNat_zero, List.drop_zero, and_true, implies_true, VC.sem, spliceL_cast, shr_24_u32, shr_8_u32, shr_8_i32, shr_14_i32, shr_12_i32, shr_18_i32, shr_2_i32, shr_1_i32, shr_1_i64, shr_8_i64, shr_4_i64, shr_16_u32, shr_4_u8, shr_1_u8, getD_at8, e1, Int.reduceAdd, cond_ieq]
  (repeat' (first | exact True.intro | refine And.intro ?_ ?_ | intro _)) <;> (try assumption) <;> (try omega)
def vc33_363 : VC :=
 let t0 : T := .lit (-9223372036854775808)
 let t1 : T := .lit (9223372036854775807)
 let t2 : T := .mul (.get (.av 1) (.lit (363))) (.lit (256))
 let t3 : T := .bits .or .i64 t2 (.get (.av 1) (.lit (364)))
 let t4 : T := .add (.lit (363)) t3
 (.need [(.le (.lit (0)) (.iv 6))] (.cond (.lt (.iv 6) (.lit (365))) (.fail "leaf fit") (.need [(.lt (.lit (363)) (.iv 6))] (.need [(.lt (.lit (363)) (.len (.av 1)))] (.need [(.le t0 (.get (.av 1) (.lit (363)))), (.le (.get (.av 1) (.lit (363))) t1)] (.need [(.le t0 t2), (.le t2 t1)] (.need [(.lt (.lit (364)) (.iv 6))] (.need [(.lt (.lit (364)) (.len (.av 1)))] (.need [(.le t0 (.get (.av 1) (.lit (364)))), (.le (.get (.av 1) (.lit (364))) t1)] (.cond (.lt t3 (.lit (2))) (.fail "leaf fit") (.need [(.le t0 t4), (.le t4 t1)] (.cond (.lt (.iv 6) t4) (.fail "leaf fit") (.need [(.le (.lit (0)) (.iv 7)), (.le (.iv 7) (.iv 7)), (.le (.lit (0)) t4), (.le t4 (.iv 7)), (.le (.lit (365)) t4), (.le (.lit (0)) (.iv 7))] (.need [(.eq (.lit (371)) t4), (.eq (.lit (6)) (.sub t4 (.lit (365)))), (.eq (.lit (365)) (.ite (.eq (.iv 7) (.lit (365))) (.lit (0)) (.lit (365))))] .done))))))))))))))
theorem w33_363 : vcIs (vcOf Tryz.prog noS noR ⟨ltK9 z0, inlK8⟩ 100000 33 (c33 363 8)) vc33_363 = true := by kernel_rfl
theorem c33_363_ok : CtrOk Tryz.prog Z 33 (c33 363 8) := by
  refine ctr_prog noS_ok noR_ok w33_363 fun ρ h => ?_
  simp only [c33, bD, preD, gD, allT, z0, lim, zb2, getD_at8, lenFacts, inR, List.flatMap_cons, List.flatMap_nil, List.append_nil, List.append_assoc, List.cons_append, List.nil_append, and_true, ↓b_le, ↓b_lt, ↓b_eq, ↓b_aeq, ↓f_le, ↓f_lt, ↓f_eq, ↓f_aeq, ↓b_not, ↓f_not, ↓b_and, ↓b_or, ↓f_and, ↓f_or, ↓b_tt, ↓b_ff, ↓f_tt, ↓f_ff, met_cons, met_nil, hyp_cons, hyp_nil, T.I, T.A, T.B, Int.toNat_zero, List.drop_zero, and_true, implies_true, VC.sem, spliceL_cast, shr_24_u32, shr_8_u32, shr_8_i32, shr_14_i32, shr_12_i32, shr_18_i32, shr_2_i32, shr_1_i32, shr_1_i64, shr_8_i64, shr_4_i64, shr_16_u32, shr_4_u8, shr_1_u8, Nat.reduceAdd, Nat.reduceDiv, Nat.reduceMod, Int.cast_ofNat_Int] at h
  obtain ⟨h1, h2, h3, h4, h5, h6, h7⟩ := h
  have e1 : bitsOf .or .i64 (at8 (ρ.a 1) 363 * 256) (at8 (ρ.a 1) 364) = 8 := by
    rw [h6, h7, or256 (by omega) (by omega) (by omega) (by omega)]; rfl
  simp only [vc33_363, ↓b_le, ↓b_lt, ↓b_eq, ↓b_aeq, ↓f_le, ↓f_lt, ↓f_eq, ↓f_aeq, ↓b_not, ↓f_not, ↓b_and, ↓b_or, ↓f_and, ↓f_or, ↓b_tt, ↓b_ff, ↓f_tt, ↓f_ff, met_cons, met_nil, hyp_cons, hyp_nil, T.I, T.A, T.B, Int.toNat_zero, List.drop_zero, and_true, implies_true, VC.sem, spliceL_cast, shr_24_u32, shr_8_u32, shr_8_i32, shr_14_i32, shr_12_i32, shr_18_i32, shr_2_i32, shr_1_i32, shr_1_i64, shr_8_i64, shr_4_i64, shr_16_u32, shr_4_u8, shr_1_u8, getD_at8, e1, Int.reduceAdd, cond_ieq]
  (repeat' (first | exact True.intro | refine And.intro ?_ ?_ | intro _)) <;> (try assumption) <;> (try omega)
end
end Go.Proofs.YtljjbikbfeigdaaGreatDoor
