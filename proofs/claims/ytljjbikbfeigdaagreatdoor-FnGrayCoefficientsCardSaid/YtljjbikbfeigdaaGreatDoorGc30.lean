/- Part of the proof of FnGrayCoefficientsCardSaid: Contracts of the encoder shown: a whole gray image, the plain part. -/
import Derived.Test.YtljjbikbfeigdaaGreatDoorGc29
set_option linter.all false
namespace Go.Proofs.YtljjbikbfeigdaaGreatDoor
noncomputable section
open Go
theorem zfa46 : Z.fa 46 0 0 0 0 [] [] [] [] = uqL := id rfl
theorem zfa510 (q w h : Int) (p : List Int) : Z.fa 510 q w h 0 p [] [] [] = grayF q w h p := id rfl
theorem zfa511 (q : Int) : Z.fa 511 q 0 0 0 [] [] [] [] = quantL q := id rfl
theorem fb21 (P : List Int) : Z.fb 2 1 255 0 0 P [] [] [] = allIn 1 255 P := id rfl
set_option maxRecDepth 20000 in
theorem uq_all : uqL.all (fun u => decide (1 ≤ u) && decide (u ≤ 255)) = true := by decide +kernel
theorem uq_len : (uqL.length : Int) = 128 := by rw [show uqL.length = 128 by kernel_rfl]; rfl
theorem uq_at {k : Int} (h0 : 0 ≤ k) (h1 : k < 128) : 1 ≤ at8 uqL k ∧ at8 uqL k ≤ 255 := by
  have hk : k.toNat < uqL.length := by have := uq_len; omega
  have := List.all_eq_true.1 uq_all (at8 uqL k) (by
    unfold at8
    rw [List.getD_eq_getElem?_getD, List.getElem?_eq_getElem hk]
    exact List.getElem_mem hk)
  simp only [Bool.and_eq_true, decide_eq_true_eq] at this
  exact this
theorem scale_bnd {q : Int} (h1 : 1 ≤ q) (h2 : q ≤ 100) : 0 ≤ scaleQ q ∧ scaleQ q ≤ 5000 := by
  unfold scaleQ
  split
  · exact ⟨Int.ediv_nonneg (by omega) (by omega), Int.ediv_le_self _ (by omega)⟩
  · omega
theorem uqs_bnd {q k : Int} (h1 : 1 ≤ q) (h2 : q ≤ 100) (h3 : 0 ≤ k) (h4 : k < 128) : 0 ≤ at8 uqL k * scaleQ q ∧ at8 uqL k * scaleQ q ≤ 1275000 := by
  have a := uq_at h3 h4
  have b := scale_bnd h1 h2
  exact ⟨Int.mul_nonneg (by omega) (by omega), Int.mul_le_mul (c := 255) (d := 5000) (by omega) (by omega) (by omega) (by omega)⟩
theorem qel_at {q : Int} {k : Nat} (hk : k < 128) : (quantL q)[k]? = some (qel q k) := by
  unfold quantL
  rw [List.getElem?_map, List.getElem?_range hk]; rfl
theorem qel_bnd (q : Int) (k : Nat) : 1 ≤ qel q k ∧ qel q k ≤ 255 := by unfold qel; split <;> (try split) <;> omega
theorem quantL_in (q : Int) : allIn 1 255 (quantL q) = true := by
  unfold allIn quantL
  rw [List.all_eq_true]
  intro x hx
  obtain ⟨k, _, rfl⟩ := List.mem_map.1 hx
  have := qel_bnd q k
  simp only [Bool.and_eq_true, decide_eq_true_eq]; exact this
theorem quantL_len (q : Int) : ((quantL q).length : Int) = 128 := by simp [quantL]
theorem and255 {x : Int} (h1 : 0 ≤ x) (h2 : x < 65536) : bitsOf .and .i64 x 255 = x % 256 := by
  obtain ⟨a, rfl⟩ := Int.eq_ofNat_of_zero_le h1
  have ha : a < 2 ^ 64 := by omega
  have key : ((BitVec.ofInt 64 (a : Int) &&& BitVec.ofInt 64 ((255 : Nat) : Int) : BitVec 64)).toNat = a % 256 := by
    rw [BitVec.ofInt_natCast, BitVec.ofInt_natCast, BitVec.toNat_and, BitVec.toNat_ofNat, BitVec.toNat_ofNat, Nat.mod_eq_of_lt ha, Nat.mod_eq_of_lt (by omega : 255 < 2 ^ 64)]
    exact Nat.and_two_pow_sub_one_eq_mod a 8
  show IntKind.i64.wrap ((((BitVec.ofInt 64 (a : Int) &&& BitVec.ofInt 64 ((255 : Nat) : Int) : BitVec 64)).toNat : Nat) : Int) = _
  rw [key, IntKind.wrap_i64]
  omega
theorem hdr9 (a b c d : Int) : (((((((([0, 0, 0, 0, 0, 0, 0, 0, 0].set 0 8).set (Int.toNat 1) a).set (Int.toNat 2) b).set (Int.toNat 3) c).set (Int.toNat 4) d).set (Int.toNat 5) 1).set (Int.toNat 6) 1).set (Int.toNat 7) 17).set (Int.toNat 8) 0 = ([8, a, b, c, d, 1, 1, 17, 0] : List Int) := id rfl
theorem eoi2 (d : Int) : List.take (Int.toNat 2)
        ((((((((((([0, 0, 0, 0, 0, 0, 0, 0, 0].set 0 255).set (Int.toNat 1) 196).set (Int.toNat 2) 0).set (Int.toNat 3)
                                        210).set
                                    (Int.toNat 4) d).set
                                (Int.toNat 5) 1).set
                            (Int.toNat 6) 1).set
                        (Int.toNat 7) 17).set
                    (Int.toNat 8) 0 ++
                  List.replicate (Int.toNat 7) 0).set
              0 255).set
          (Int.toNat 1) 217) = ([255, 217] : List Int) := id rfl
theorem cnt1L : (cnt 1).drop 1 = [0, 2, 1, 3, 3, 2, 4, 3, 5, 5, 4, 4, 0, 0, 1, 125] := by kernel_rfl
theorem cnt0L : (cnt 0).drop 1 = [0, 1, 5, 1, 1, 1, 1, 1, 1, 0, 0, 0, 0, 0, 0, 0] := by kernel_rfl
theorem syms0L : syms 0 = [0, 1, 2, 3, 4, 5, 6, 7, 8, 9, 10, 11] := by kernel_rfl
theorem pk_inj {b n : Int} {t : List Int} {s : St} (h : [b] ++ ([n] ++ t) = pk s) : t = s.t := by
  obtain ⟨t', b', n'⟩ := s
  unfold pk at h
  simp only [List.cons_append, List.nil_append, List.cons.injEq] at h
  exact h.2.2
theorem up_hdr (t : List Int) : up ([0] ++ ([0] ++ t)) = ⟨t, 0, 0⟩ := rfl
set_option maxRecDepth 20000 in
set_option maxHeartbeats 4000000 in
theorem c45_ok : CtrOk Tryz.prog Z 45 c45 := by
  refine ctr_prog noS_ok rspT_ok w45 fun ρ h => ?_
  simp only [c45, bW, bOpt, preG, imgB, roQ, roE, owW, cA, fA, z0, allT, lenFacts, inR, List.flatMap_cons, List.flatMap_nil, List.append_nil, List.append_assoc, List.cons_append, List.nil_append, and_true, ↓b_le, ↓b_lt, ↓b_eq, ↓b_aeq, ↓f_le, ↓f_lt, ↓f_eq, ↓f_aeq, ↓b_not, ↓f_not, ↓b_and, ↓b_or, ↓f_and, ↓f_or, ↓b_tt, ↓b_ff, ↓f_tt, ↓f_ff, met_cons, met_nil, hyp_cons, hyp_nil, T.I, T.A, T.B, Int.toNat_zero, List.drop_zero, and_true, implies_true, VC.sem, spliceL_cast, shr_24_u32, shr_8_u32, shr_8_i32, shr_14_i32, shr_12_i32, shr_18_i32, shr_2_i32, shr_1_i32, shr_1_i64, shr_8_i64, shr_4_i64, shr_16_u32, shr_4_u8, shr_1_u8] at h
  obtain ⟨h1, h2, h3, h4, h5, h6, h7, hq1, hq2, hnil⟩ := h
  have e0 : ((ρ.a 0).length : Int) = 0 := by rw [hnil]; rfl
  have eQ : (bif ilt (ρ.i 30) 1 then 1 else bif ilt 100 (ρ.i 30) then 100 else ρ.i 30) = ρ.i 30 := by rw [cond_ilt, cond_ilt, if_neg (by omega), if_neg (by omega)]
  have eT : Int.tdiv 5000 (ρ.i 30) = 5000 / ρ.i 30 := Int.tdiv_eq_ediv_of_nonneg (by omega)
  have eS : (bif ilt (ρ.i 30) 50 then 5000 / ρ.i 30 else 200 - ρ.i 30 * 2) = scaleQ (ρ.i 30) := by rw [cond_ilt]; rfl
  have bT : 0 ≤ 5000 / ρ.i 30 ∧ 5000 / ρ.i 30 ≤ 5000 := ⟨Int.ediv_nonneg (by omega) (by omega), Int.ediv_le_self _ (by omega)⟩
  have B := fun {k : Int} (h3 : 0 ≤ k) (h4 : k < 128) => uqs_bnd hq1 hq2 h3 h4
  have t64 : Int.toNat 64 = 64 := rfl
  simp only [vc45, set_one, ↓b_le, ↓b_lt, ↓b_eq, ↓b_aeq, ↓f_le, ↓f_lt, ↓f_eq, ↓f_aeq, ↓b_not, ↓f_not, ↓b_and, ↓b_or, ↓f_and, ↓f_or, ↓b_tt, ↓b_ff, ↓f_tt, ↓f_ff, met_cons, met_nil, hyp_cons, hyp_nil, T.I, T.A, T.B, Int.toNat_zero, List.drop_zero, and_true, implies_true, VC.sem, spliceL_cast, shr_24_u32, shr_8_u32, shr_8_i32, shr_14_i32, shr_12_i32, shr_18_i32, shr_2_i32, shr_1_i32, shr_1_i64, shr_8_i64, shr_4_i64, shr_16_u32, shr_4_u8, shr_1_u8, fb2, eQ, eT, eS, getD_at8, zfa46, zfa510, zfa511, uq_len, fb21]
  have w1 : IntKind.u8.wrap (ρ.i 22 / 256) = ρ.i 22 / 256 := by rw [IntKind.wrap_u8]; omega
  have w2 : IntKind.u8.wrap (ρ.i 21 / 256) = ρ.i 21 / 256 := by rw [IntKind.wrap_u8]; omega
  have w3 : IntKind.u8.wrap (ρ.i 22 % 256) = ρ.i 22 % 256 := by rw [IntKind.wrap_u8]; omega
  have w4 : IntKind.u8.wrap (ρ.i 21 % 256) = ρ.i 21 % 256 := by rw [IntKind.wrap_u8]; omega
  simp only [hdr9, eoi2, and255 (x := ρ.i 21) (by omega) (by omega), and255 (x := ρ.i 22) (by omega) (by omega), w1, w2, w3, w4]
  (repeat' (first | with_reducible exact True.intro | with_reducible refine And.intro ?_ ?_ | intro _)) <;> (try omega)
  · rfl
  · rfl
  · have e : 64 * ρ.i 2600 + 0 = 64 * ρ.i 2600 := by omega
    rw [e]; exact ‹List.take (64 * ρ.i 2600).toNat _ = _›
  · have := uq_at (k := ρ.i 2600 * 64 + ρ.i 3000) (by omega) (by omega); omega
  · have := uq_at (k := ρ.i 2600 * 64 + ρ.i 3000) (by omega) (by omega); omega
  · have := B (k := ρ.i 2600 * 64 + ρ.i 3000) (by omega) (by omega); omega
  · have := B (k := ρ.i 2600 * 64 + ρ.i 3000) (by omega) (by omega); omega
  · have := B (k := ρ.i 2600 * 64 + ρ.i 3000) (by omega) (by omega); omega
  · have := B (k := ρ.i 2600 * 64 + ρ.i 3000) (by omega) (by omega)
    rw [Int.tdiv_eq_ediv_of_nonneg (by omega)]; omega
  · have := B (k := ρ.i 2600 * 64 + ρ.i 3000) (by omega) (by omega)
    rw [Int.tdiv_eq_ediv_of_nonneg (by omega)]; omega
  · rw [List.length_set]; exact ‹((ρ.a 3000).length : Int) = 128›
  · have b := B (k := ρ.i 2600 * 64 + ρ.i 3000) (by omega) (by omega)
    have hl : ((ρ.a 3000).length : Int) = 128 := ‹_›
    have e1 : (64 * ρ.i 2600 + (ρ.i 3000 + 1)).toNat = (ρ.i 2600 * 64 + ρ.i 3000).toNat + 1 := by omega
    have e2 : (64 * ρ.i 2600 + ρ.i 3000).toNat = (ρ.i 2600 * 64 + ρ.i 3000).toNat := by omega
    have e3 : (((ρ.i 2600 * 64 + ρ.i 3000).toNat : Nat) : Int) = ρ.i 2600 * 64 + ρ.i 3000 := by omega
    have ht := ‹List.take (64 * ρ.i 2600 + ρ.i 3000).toNat (ρ.a 3000) = _›
    rw [e2] at ht
    rw [e1]
    refine take_step ht (by omega) ?_
    rw [qel_at (by omega)]
    unfold qel
    rw [e3, Int.tdiv_eq_ediv_of_nonneg (by omega), cond_ilt, cond_ilt, IntKind.wrap_u8]
    refine congrArg some ?_
    generalize (at8 uqL (ρ.i 2600 * 64 + ρ.i 3000) * scaleQ (ρ.i 30) + 50) / 100 = v
    split <;> (try split) <;> omega
  · have e : 64 * (ρ.i 2600 + 1) = 64 * ρ.i 2600 + ρ.i 3000 := by omega
    rw [e]; exact ‹List.take (64 * ρ.i 2600 + ρ.i 3000).toNat _ = _›
  · rfl
  · rfl
  · rw [List.length_take, t64]; omega
  · rw [List.length_take, List.length_drop, t64]; omega
  · rfl
  · rfl
  · rfl
  · rfl
  · have e := ‹List.take (64 * ρ.i 2600).toNat _ = _›
    have hl : ((ρ.a 2600).length : Int) = 128 := ‹_›
    have hl2 := quantL_len (ρ.i 30)
    rw [List.take_of_length_le (by omega), List.take_of_length_le (by omega)] at e
    rw [e]; exact quantL_in _
  · have e := ‹List.take (64 * ρ.i 2600).toNat _ = _›
    have hl : ((ρ.a 2600).length : Int) = 128 := ‹_›
    have hl2 := quantL_len (ρ.i 30)
    rw [List.take_of_length_le (by omega), List.take_of_length_le (by omega)] at e
    have s := ‹[ρ.i 9101] ++ _ = _›
    rw [zfa500] at s
    have s := pk_inj s
    rw [‹ρ.a 9900 = _›, ‹ρ.a 9500 ++ _ = _›, s, ‹ρ.a 8700 ++ _ = _›, ‹ρ.a 8300 ++ _ = _›, ‹ρ.a 7900 ++ _ = _›, ‹ρ.a 7500 ++ _ = _›, ‹ρ.a 7100 ++ _ = _›, ‹ρ.a 6700 ++ _ = _›, ‹ρ.a 6300 ++ _ = _›, ‹ρ.a 5900 ++ _ = _›, ‹ρ.a 5500 ++ _ = _›, ‹ρ.a 5100 ++ _ = _›, ‹ρ.a 4700 ++ _ = _›, ‹ρ.a 4300 ++ _ = _›, ‹ρ.a 3900 ++ _ = _›, ‹ρ.a 3500 ++ _ = _›, ‹ρ.a 3100 ++ _ = _›, hnil, e]
    unfold grayF hdrG cutL
    rw [cnt0L, cnt1L, syms0L]
    refine congrArg (fun s : St => (sosF (ρ.i 21) (ρ.i 22) (ρ.a 5) (quantL (ρ.i 30)) s).t ++ [255, 217]) ?_
    rw [up_hdr]
    simp only [List.append_assoc, List.nil_append, List.take_zero, Int.toNat_zero, List.drop_zero]
    rfl
end
end Go.Proofs.YtljjbikbfeigdaaGreatDoor
namespace Go.Proofs.YtljjbikbfeigdaaGreatDoor
noncomputable section
open Go
def u6 (t : T) : Leaf := .int .u64 t
def c79 : Ctr where
  args := [.v (.one (u6 (.iv 0))), .v (.one (u6 (.iv 1)))]
  hp := { rw := [], nv := 1000 }
  pre := inR (.lit 0) (.iv 0) (.lit 131072) ++ inR (.lit 0) (.iv 1) (.lit 65535)
  val := .tup [.one (u6 (.lit 0)), .one (u6 (.mul (.iv 0) (.iv 1)))]
  hp' := { rw := [] }
  post := []
  quiet := true
def c57 : Ctr where
  args := [.v (.one (cI (.iv 0))), .v (.one (cI (.iv 1))), .v (.one (cI (.iv 2)))]
  hp := { rw := [], nv := 1000 }
  pre := inR (.lit 1) (.iv 0) (.lit 2) ++ inR (.lit 1) (.iv 1) (.lit 65535) ++ inR (.lit 1) (.iv 2) (.lit 65535)
  val := .v (.one (cI (.mul (.mul (.iv 0) (.iv 1)) (.iv 2))))
  hp' := { rw := [] }
  post := []
  quiet := true
def sp79 : Nat → Option Spec := fun f => match f with
  | 79 => some (applyF c79)
  | _ => none
def c29 : Ctr where
  args := [slR (.old 22) z0 (.iv 20) (.iv 20), .v (.one (cI (.iv 21))), slR (.ro 0) z0 (.iv 20) (.iv 9), .v (.one (cI (.iv 21))), .v (.one (cI (.iv 22)))]
  hp := { rw := [(.old 22, ⟨5, [.arrD .u8 (.av 4)]⟩)], ro := [(.ro 0, .u8, .av 5)], nv := 1000 }
  pre := inR (.lit 1) (.iv 21) (.lit 65535) ++ inR (.lit 1) (.iv 22) (.lit 65535) ++ [.eq (.iv 20) (.mul (.iv 21) (.iv 22)), .eq (.len (.av 5)) (.iv 20), .eq (.len (.av 4)) (.iv 20), .le (.iv 20) (.iv 9)]
  val := .tup []
  hp' := { rw := [(.old 22, ⟨5, [.arrD .u8 (.av 104)]⟩)], ro := [(.ro 0, .u8, .av 5)] }
  post := [.aeq (.av 104) (.av 5)]
  quiet := true
def ann29 : List SR → Hp → Option Ann := mkAnn fun b _ _ => {
  lo := 14, hi := 37
  tr := (13, .v (.one (cI (.iv b)))) :: junks b 10 2
  rw := [(.old 22, [.arrD .u8 (.av b)])]
  facts := inR (.lit 0) (.iv b) (.iv 22) ++ [.eq (.len (.av b)) (.iv 20), .aeq (.cut (.av b) z0 (.mul (.iv b) (.iv 21))) (.cut (.av 5) z0 (.mul (.iv b) (.iv 21)))]
  meas := .sub (.iv 22) (.iv b)
  quiet := true }
def ltK14 : Nat → Nat → Option (List SR → Hp → Option Ann) := fun f k => match f, k with
  | 29, 1 => some ann29
  | 30, 1000003 => some (fun _ _ => none)
  | _, _ => none
def spN0 : Nat → Option Spec := fun f => match f with
  | 57 => some (applyF c57)
  | _ => none
def spN (P : Program) : Nat → Option Spec := deep P (fun f => f == 43 || f == 44 || f == 58 || f == 46) spN0 1000 5
def rspN : Nat → Option RSpec := fun f => match f with
  | 29 => some (applyR c29)
  | 45 => some (applyR c45)
  | _ => none
def c16 : Ctr where
  args := [slR (.ro 0) z0 (.iv 20) (.iv 9), .v (.one (cI z0)), .v (.one (cI z0)), .v (.one (cI (.iv 21))), .v (.one (cI (.iv 22))), .v (.one (cI (.iv 30))), .v (.one (cI (.lit (-1))))]
  hp := { rw := [], ro := (.ro 0, .u8, .av 5) :: roQ, nv := 1000 }
  pre := preG ++ inR (.lit 1) (.iv 30) (.lit 100) ++ [.le (.iv 20) (.iv 9)]
  val := .tup [.one (.sl (.own 101) 0 z0 (.iv 120) (.iv 121)), .one (cI z0)]
  hp' := { rw := [(.own 101, ⟨5, [.arrD .u8 (.av 100), .tail [.int .u8 z0] (.sub (.iv 121) (.iv 120))]⟩)], ro := (.ro 0, .u8, .av 5) :: roQ }
  post := [.eq (.iv 120) (.len (.av 100)), .le (.iv 120) (.iv 121), .aeq (.av 100) (.fa 510 (.iv 30) (.iv 21) (.iv 22) z0 (.av 5) (.alit []) (.alit []) (.alit [])), .le (.len (.av 100)) lim]
  quiet := false
end
end Go.Proofs.YtljjbikbfeigdaaGreatDoor
namespace Go.Proofs.YtljjbikbfeigdaaGreatDoor
noncomputable section
open Go
theorem shr_32_u64 (x : Int) : x.fdiv (2 ^ min (Int.toNat 32) IntKind.u64.bits) = x / 4294967296 := by
  have e : ((2 : Int) ^ min (Int.toNat 32) IntKind.u64.bits) = 4294967296 := by decide
  rw [e, Int.fdiv_eq_ediv_of_nonneg _ (by omega)]
theorem and32 {x : Int} (h1 : 0 ≤ x) (h2 : x < 4294967296) : bitsOf .and .u64 x 4294967295 = x := by
  obtain ⟨a, rfl⟩ := Int.eq_ofNat_of_zero_le h1
  have ha : a < 2 ^ 64 := by omega
  have key : ((BitVec.ofInt 64 (a : Int) &&& BitVec.ofInt 64 ((4294967295 : Nat) : Int) : BitVec 64)).toNat = a % 4294967296 := by
    rw [BitVec.ofInt_natCast, BitVec.ofInt_natCast, BitVec.toNat_and, BitVec.toNat_ofNat, BitVec.toNat_ofNat, Nat.mod_eq_of_lt ha, Nat.mod_eq_of_lt (by omega : 4294967295 < 2 ^ 64)]
    exact Nat.and_two_pow_sub_one_eq_mod a 32
  show IntKind.u64.wrap ((((BitVec.ofInt 64 (a : Int) &&& BitVec.ofInt 64 ((4294967295 : Nat) : Int) : BitVec 64)).toNat : Nat) : Int) = _
  rw [key, IntKind.wrap_u64]
  omega
def vc79 : VC :=
 let t0 : T := .wrap .u64 (.add (.wrap .u64 (.mul (.shr .u64 (.iv 0) (.lit (32))) (.bits .and .u64 (.iv 1) (.lit (4294967295))))) (.shr .u64 (.wrap .u64 (.mul (.bits .and .u64 (.iv 0) (.lit (4294967295))) (.bits .and .u64 (.iv 1) (.lit (4294967295))))) (.lit (32))))
 (.need [(.eq (.mul (.iv 0) (.iv 1)) (.wrap .u64 (.mul (.iv 0) (.iv 1)))), (.eq (.lit (0)) (.wrap .u64 (.add (.wrap .u64 (.add (.wrap .u64 (.mul (.shr .u64 (.iv 0) (.lit (32))) (.shr .u64 (.iv 1) (.lit (32))))) (.shr .u64 t0 (.lit (32))))) (.shr .u64 (.wrap .u64 (.add (.bits .and .u64 t0 (.lit (4294967295))) (.wrap .u64 (.mul (.bits .and .u64 (.iv 0) (.lit (4294967295))) (.shr .u64 (.iv 1) (.lit (32))))))) (.lit (32))))))] .done)
theorem w79 : vcIs (vcOf Tryz.prog noS noR noTab 100000 79 c79) vc79 = true := by kernel_rfl
theorem c79_ok : CtrOk Tryz.prog Z 79 c79 := by
  refine ctr_prog noS_ok noR_ok w79 fun ρ h => ?_
  simp only [c79, lenFacts, inR, List.flatMap_cons, List.flatMap_nil, List.append_nil, List.append_assoc, List.cons_append, List.nil_append, and_true, ↓b_le, ↓b_lt, ↓b_eq, ↓b_aeq, ↓f_le, ↓f_lt, ↓f_eq, ↓f_aeq, ↓b_not, ↓f_not, ↓b_and, ↓b_or, ↓f_and, ↓f_or, ↓b_tt, ↓b_ff, ↓f_tt, ↓f_ff, met_cons, met_nil, hyp_cons, hyp_nil, T.I, T.A, T.B, Int.toNat_zero, List.drop_zero, and_true, implies_true, VC.sem, spliceL_cast, shr_24_u32, shr_8_u32, shr_8_i32, shr_14_i32, shr_12_i32, shr_18_i32, shr_2_i32, shr_1_i32, shr_1_i64, shr_8_i64, shr_4_i64, shr_16_u32, shr_4_u8, shr_1_u8] at h
  obtain ⟨h1, h2, h3, h4⟩ := h
  have hp0 : 0 ≤ ρ.i 0 * ρ.i 1 := Int.mul_nonneg (by omega) (by omega)
  have hp1 : ρ.i 0 * ρ.i 1 ≤ 131072 * 65535 := Int.mul_le_mul (by omega) (by omega) (by omega) (by omega)
  have e0 : ρ.i 0 / 4294967296 = 0 := Int.ediv_eq_zero_of_lt (by omega) (by omega)
  have e1 : ρ.i 1 / 4294967296 = 0 := Int.ediv_eq_zero_of_lt (by omega) (by omega)
  have w0 : IntKind.u64.wrap 0 = 0 := rfl
  have wp : IntKind.u64.wrap (ρ.i 0 * ρ.i 1) = ρ.i 0 * ρ.i 1 := by rw [IntKind.wrap_u64]; omega
  have wq : IntKind.u64.wrap (ρ.i 0 * ρ.i 1 / 4294967296) = ρ.i 0 * ρ.i 1 / 4294967296 := by rw [IntKind.wrap_u64]; omega
  have eq : ρ.i 0 * ρ.i 1 / 4294967296 / 4294967296 = 0 := by omega
  simp only [vc79, ↓b_le, ↓b_lt, ↓b_eq, ↓b_aeq, ↓f_le, ↓f_lt, ↓f_eq, ↓f_aeq, ↓b_not, ↓f_not, ↓b_and, ↓b_or, ↓f_and, ↓f_or, ↓b_tt, ↓b_ff, ↓f_tt, ↓f_ff, met_cons, met_nil, hyp_cons, hyp_nil, T.I, T.A, T.B, Int.toNat_zero, List.drop_zero, and_true, implies_true, VC.sem, spliceL_cast, shr_24_u32, shr_8_u32, shr_8_i32, shr_14_i32, shr_12_i32, shr_18_i32, shr_2_i32, shr_1_i32, shr_1_i64, shr_8_i64, shr_4_i64, shr_16_u32, shr_4_u8, shr_1_u8, shr_32_u64, e0, e1, and32 (x := ρ.i 0) (by omega) (by omega), and32 (x := ρ.i 1) (by omega) (by omega), Int.zero_mul, Int.mul_zero, w0, wp, Int.zero_add, Int.add_zero, wq, and32 (x := ρ.i 0 * ρ.i 1 / 4294967296) (by omega) (by omega), eq]
def vc57 : VC :=
 let t0 : T := .eq (.mul (.mul (.iv 0) (.iv 1)) (.iv 2)) (.lit (-1))
 let t1 : T := .mul (.wrap .u64 (.iv 0)) (.wrap .u64 (.iv 1))
 let t2 : T := .mul t1 (.wrap .u64 (.iv 2))
 (.cond (.lt (.iv 0) (.lit (0))) (.need [t0] .done) (.cond (.lt (.iv 1) (.lit (0))) (.need [t0] .done) (.cond (.lt (.iv 2) (.lit (0))) (.need [t0] .done) (.need [(.le (.lit (0)) (.wrap .u64 (.iv 0))), (.le (.wrap .u64 (.iv 0)) (.lit (131072))), (.le (.lit (0)) (.wrap .u64 (.iv 1))), (.le (.wrap .u64 (.iv 1)) (.lit (65535)))] (.need [(.le (.lit (0)) t1), (.le t1 (.lit (131072))), (.le (.lit (0)) (.wrap .u64 (.iv 2))), (.le (.wrap .u64 (.iv 2)) (.lit (65535)))] (.need [(.le (.lit (-9223372036854775808)) t2), (.le t2 (.lit (9223372036854775807)))] (.cond (.lt t2 (.lit (0))) (.need [t0] .done) (.cond (.not (.eq (.wrap .u64 t2) t2)) (.need [t0] .done) (.need [(.eq (.mul (.mul (.iv 0) (.iv 1)) (.iv 2)) t2)] .done)))))))))
theorem w57 : vcIs (vcOf Tryz.prog sp79 noR noTab 100000 57 c57) vc57 = true := by kernel_rfl
theorem sp79_ok : ∀ f s, sp79 f = some s → SpecOk Tryz.prog Z f s := by
  intro f s h
  unfold sp79 at h
  split at h
  · cases h; exact applyF_ok c79_ok
  · cases h
theorem c57_ok : CtrOk Tryz.prog Z 57 c57 := by
  refine ctr_prog sp79_ok noR_ok w57 fun ρ h => ?_
  simp only [c57, lenFacts, inR, List.flatMap_cons, List.flatMap_nil, List.append_nil, List.append_assoc, List.cons_append, List.nil_append, and_true, ↓b_le, ↓b_lt, ↓b_eq, ↓b_aeq, ↓f_le, ↓f_lt, ↓f_eq, ↓f_aeq, ↓b_not, ↓f_not, ↓b_and, ↓b_or, ↓f_and, ↓f_or, ↓b_tt, ↓b_ff, ↓f_tt, ↓f_ff, met_cons, met_nil, hyp_cons, hyp_nil, T.I, T.A, T.B, Int.toNat_zero, List.drop_zero, and_true, implies_true, VC.sem, spliceL_cast, shr_24_u32, shr_8_u32, shr_8_i32, shr_14_i32, shr_12_i32, shr_18_i32, shr_2_i32, shr_1_i32, shr_1_i64, shr_8_i64, shr_4_i64, shr_16_u32, shr_4_u8, shr_1_u8] at h
  obtain ⟨h1, h2, h3, h4, h5, h6⟩ := h
  have hp0 : 1 ≤ ρ.i 0 * ρ.i 1 := Int.le_trans (by omega) (Int.mul_le_mul (a := 1) (b := 1) h1 h3 (by omega) (by omega))
  have hp1 : ρ.i 0 * ρ.i 1 ≤ 2 * 65535 := Int.mul_le_mul (by omega) (by omega) (by omega) (by omega)
  have hq0 : 0 ≤ ρ.i 0 * ρ.i 1 * ρ.i 2 := Int.mul_nonneg (by omega) (by omega)
  have hq1 : ρ.i 0 * ρ.i 1 * ρ.i 2 ≤ 131070 * 65535 := Int.mul_le_mul (by omega) (by omega) (by omega) (by omega)
  have u0 : IntKind.u64.wrap (ρ.i 0) = ρ.i 0 := by rw [IntKind.wrap_u64]; omega
  have u1 : IntKind.u64.wrap (ρ.i 1) = ρ.i 1 := by rw [IntKind.wrap_u64]; omega
  have u2 : IntKind.u64.wrap (ρ.i 2) = ρ.i 2 := by rw [IntKind.wrap_u64]; omega
  have u3 : IntKind.u64.wrap (ρ.i 0 * ρ.i 1 * ρ.i 2) = ρ.i 0 * ρ.i 1 * ρ.i 2 := by rw [IntKind.wrap_u64]; omega
  simp only [vc57, ↓b_le, ↓b_lt, ↓b_eq, ↓b_aeq, ↓f_le, ↓f_lt, ↓f_eq, ↓f_aeq, ↓b_not, ↓f_not, ↓b_and, ↓b_or, ↓f_and, ↓f_or, ↓b_tt, ↓b_ff, ↓f_tt, ↓f_ff, met_cons, met_nil, hyp_cons, hyp_nil, T.I, T.A, T.B, Int.toNat_zero, List.drop_zero, and_true, implies_true, VC.sem, spliceL_cast, shr_24_u32, shr_8_u32, shr_8_i32, shr_14_i32, shr_12_i32, shr_18_i32, shr_2_i32, shr_1_i32, shr_1_i64, shr_8_i64, shr_4_i64, shr_16_u32, shr_4_u8, shr_1_u8, u0, u1, u2, u3]
  (repeat' (first | with_reducible exact True.intro | with_reducible refine And.intro ?_ ?_ | intro _)) <;> (try omega)
  exact absurd True.intro ‹¬ True›
def vc29 : VC :=
 let t0 : T := .lit (0)
 let t1 : T := .mul (.iv 1000) (.iv 21)
 let t2 : T := .add t1 (.iv 21)
 let t3 : T := .mn t1 (.iv 20)
 let t4 : T := .ite (.eq (.iv 9) t3) t0 t3
 let t6 : T := .mn (.sub t2 t1) (.sub (.iv 20) t3)
 let t7 : T := .ite (.eq (.iv 20) t1) t0 t1
 let t8 : T := .add (.iv 1000) (.lit (1))
 let t9 : T := .splice (.av 1000) t7 (.cut (.av 5) t4 t6)
 (.need [(.le t0 t0), (.le t0 (.iv 22)), (.aeq (.cut (.av 4) t0 (.mul t0 (.iv 21))) (.cut (.av 5) t0 (.mul t0 (.iv 21))))] (.any 1000 1000000000 [(.le t0 (.iv 1000)), (.le (.iv 1000) (.iv 22)), (.eq (.len (.av 1000)) (.iv 20)), (.aeq (.cut (.av 1000) t0 t1) (.cut (.av 5) t0 t1))] (.cond (.lt (.iv 1000) (.iv 22)) (.need [(.le (.lit (-9223372036854775808)) t1), (.le t1 (.lit (9223372036854775807)))] (.need [(.le t0 (.iv 20))] (.need [(.le (.lit (-9223372036854775808)) t2), (.le t2 (.lit (9223372036854775807)))] (.need [(.le (.iv 20) (.iv 20)), (.le t0 t2), (.le t2 (.iv 20)), (.le t0 t1), (.le t1 t2)] (.need [(.le t0 (.iv 9)), (.le (.iv 9) (.iv 9)), (.le t0 t3), (.le t3 (.iv 20)), (.le t0 (.iv 9))] (.need [(.le t0 t4), (.le t0 t6), (.le (.add t4 t6) (.len (.av 5))), (.le t0 (.sub t2 t1)), (.le t0 (.sub (.iv 20) t3)), (.le t0 t7), (.le (.add t7 t6) (.len (.av 1000)))] (.need [(.le (.lit (-9223372036854775808)) t8), (.le t8 (.lit (9223372036854775807)))] (.need [(.le t0 t8), (.le t8 (.iv 22)), (.eq (.len t9) (.iv 20)), (.aeq (.cut t9 t0 (.mul t8 (.iv 21))) (.cut (.av 5) t0 (.mul t8 (.iv 21)))), (.lt t0 (.sub (.iv 22) (.iv 1000))), (.lt (.sub (.iv 22) t8) (.sub (.iv 22) (.iv 1000)))] .done)))))))) (.need [(.aeq (.av 1000) (.av 5))] .done))))
theorem w29 : vcIs (vcOf Tryz.prog noS noR ⟨ltK14, inlAll⟩ 100000 29 c29) vc29 = true := by kernel_rfl
theorem splice_row {l P : List Int} {s n : Nat} (hl : l.length = P.length) (hs : s + n ≤ P.length) (ht : l.take s = P.take s) :
    (spliceL l s ((P.drop s).take n)).length = l.length ∧ (spliceL l s ((P.drop s).take n)).take (s + n) = P.take (s + n) := by
  have e1 : ((P.drop s).take n).length = n := by rw [List.length_take, List.length_drop]; omega
  have e2 : (l.take s).length = s := by rw [List.length_take]; omega
  unfold spliceL
  constructor
  · simp only [List.length_append, e1, e2, List.length_drop]; omega
  · rw [← List.append_assoc, List.take_append_of_le_length (by rw [List.length_append, e1, e2]; exact Nat.le_refl _), List.take_of_length_le (by rw [List.length_append, e1, e2]; exact Nat.le_refl _), ht, List.take_add]
theorem c29_ok : CtrOk Tryz.prog Z 29 c29 := by
  refine ctr_prog noS_ok noR_ok w29 fun ρ h => ?_
  simp only [c29, lenFacts, inR, List.flatMap_cons, List.flatMap_nil, List.append_nil, List.append_assoc, List.cons_append, List.nil_append, and_true, ↓b_le, ↓b_lt, ↓b_eq, ↓b_aeq, ↓f_le, ↓f_lt, ↓f_eq, ↓f_aeq, ↓b_not, ↓f_not, ↓b_and, ↓b_or, ↓f_and, ↓f_or, ↓b_tt, ↓b_ff, ↓f_tt, ↓f_ff, met_cons, met_nil, hyp_cons, hyp_nil, T.I, T.A, T.B, Int.toNat_zero, List.drop_zero, and_true, implies_true, VC.sem, spliceL_cast, shr_24_u32, shr_8_u32, shr_8_i32, shr_14_i32, shr_12_i32, shr_18_i32, shr_2_i32, shr_1_i32, shr_1_i64, shr_8_i64, shr_4_i64, shr_16_u32, shr_4_u8, shr_1_u8] at h
  obtain ⟨h1, h2, h3, h4, h5, h6, h7, h8⟩ := h
  have hY : ∀ y : Int, 0 ≤ y → y < ρ.i 22 → 0 ≤ y * ρ.i 21 ∧ y * ρ.i 21 + ρ.i 21 ≤ ρ.i 20 ∧ (y + 1) * ρ.i 21 = y * ρ.i 21 + ρ.i 21 ∧ ρ.i 20 ≤ 4294836225 := by
    intro y a b
    have g1 : (y + 1) * ρ.i 21 = y * ρ.i 21 + ρ.i 21 := by rw [Int.add_mul, Int.one_mul]
    have g2 : (y + 1) * ρ.i 21 ≤ ρ.i 22 * ρ.i 21 := Int.mul_le_mul_of_nonneg_right (by omega) (by omega)
    have g3 : ρ.i 22 * ρ.i 21 ≤ 65535 * 65535 := Int.mul_le_mul (by omega) (by omega) (by omega) (by omega)
    have g4 : 0 ≤ y * ρ.i 21 := Int.mul_nonneg a (by omega)
    rw [Int.mul_comm (ρ.i 22)] at g2 g3
    omega
  have t0 : (0 * ρ.i 21).toNat = 0 := by rw [Int.zero_mul]; rfl
  have hM : ∀ y : Int, 0 ≤ y → y < ρ.i 22 → min (y * ρ.i 21) (ρ.i 20) = y * ρ.i 21 ∧ min (y * ρ.i 21 + ρ.i 21 - y * ρ.i 21) (ρ.i 20 - y * ρ.i 21) = ρ.i 21 ∧ (bif ieq (ρ.i 9) (y * ρ.i 21) then 0 else y * ρ.i 21) = y * ρ.i 21 ∧ (bif ieq (ρ.i 20) (y * ρ.i 21) then 0 else y * ρ.i 21) = y * ρ.i 21 := by
    intro y a b
    obtain ⟨y0, y1, y2, y3⟩ := hY y a b
    rw [cond_ieq, cond_ieq, if_neg (by omega), if_neg (by omega)]
    omega
  have hR := fun (y : Int) (a : 0 ≤ y) (b : y < ρ.i 22) (l : List Int) (c : (l.length : Int) = ρ.i 20) (d : l.take (y * ρ.i 21).toNat = (ρ.a 5).take (y * ρ.i 21).toNat) => splice_row (l := l) (P := ρ.a 5) (s := (y * ρ.i 21).toNat) (n := (ρ.i 21).toNat) (by omega) (by have := hY y a b; omega) d
  simp only [vc29, ↓b_le, ↓b_lt, ↓b_eq, ↓b_aeq, ↓f_le, ↓f_lt, ↓f_eq, ↓f_aeq, ↓b_not, ↓f_not, ↓b_and, ↓b_or, ↓f_and, ↓f_or, ↓b_tt, ↓b_ff, ↓f_tt, ↓f_ff, met_cons, met_nil, hyp_cons, hyp_nil, T.I, T.A, T.B, Int.toNat_zero, List.drop_zero, and_true, implies_true, VC.sem, spliceL_cast, shr_24_u32, shr_8_u32, shr_8_i32, shr_14_i32, shr_12_i32, shr_18_i32, shr_2_i32, shr_1_i32, shr_1_i64, shr_8_i64, shr_4_i64, shr_16_u32, shr_4_u8, shr_1_u8, t0, imn_min, List.take_zero]
  (repeat' (first | with_reducible exact True.intro | with_reducible refine And.intro ?_ ?_ | intro _)) <;> (try omega)
  · have := hY (ρ.i 1000) (by omega) (by omega); omega
  · have := hY (ρ.i 1000) (by omega) (by omega); omega
  · have := hY (ρ.i 1000) (by omega) (by omega); omega
  · have := hY (ρ.i 1000) (by omega) (by omega); omega
  · have := hY (ρ.i 1000) (by omega) (by omega); omega
  · have := hY (ρ.i 1000) (by omega) (by omega); omega
  · have := hY (ρ.i 1000) (by omega) (by omega)
    obtain ⟨m1, m2, m3, m4⟩ := hM (ρ.i 1000) (by omega) (by omega)
    rw [m1, m3]; omega
  · have := hY (ρ.i 1000) (by omega) (by omega)
    obtain ⟨m1, m2, m3, m4⟩ := hM (ρ.i 1000) (by omega) (by omega)
    rw [m1, m2, m3]; omega
  · have := hY (ρ.i 1000) (by omega) (by omega)
    obtain ⟨m1, m2, m3, m4⟩ := hM (ρ.i 1000) (by omega) (by omega)
    rw [m4]; omega
  · have := hY (ρ.i 1000) (by omega) (by omega)
    obtain ⟨m1, m2, m3, m4⟩ := hM (ρ.i 1000) (by omega) (by omega)
    rw [m1, m2, m4]; omega
  · obtain ⟨m1, m2, m3, m4⟩ := hM (ρ.i 1000) (by omega) (by omega)
    rw [m1, m2, m3, m4, (hR (ρ.i 1000) (by omega) (by omega) _ ‹_› ‹_›).1]; omega
  · obtain ⟨m1, m2, m3, m4⟩ := hM (ρ.i 1000) (by omega) (by omega)
    have hy := hY (ρ.i 1000) (by omega) (by omega)
    have e : ((ρ.i 1000 + 1) * ρ.i 21).toNat = (ρ.i 1000 * ρ.i 21).toNat + (ρ.i 21).toNat := by omega
    rw [m1, m2, m3, m4, e, (hR (ρ.i 1000) (by omega) (by omega) _ ‹_› ‹_›).2]
  · have e : ρ.i 1000 = ρ.i 22 := by omega
    have ht := ‹List.take (ρ.i 1000 * ρ.i 21).toNat (ρ.a 1000) = _›
    rw [e, Int.mul_comm, ← h5] at ht
    rw [List.take_of_length_le (by omega), List.take_of_length_le (by omega)] at ht
    exact ht
def vc16 : VC :=
 let t0 : T := .lit (-9223372036854775808)
 let t1 : T := .lit (9223372036854775807)
 let t2 : T := .lit (0)
 let t3 : T := .sub (.ite (.lt (.iv 21) t2) t2 (.iv 21)) (.ite (.lt (.iv 21) t2) (.iv 21) t2)
 let t4 : T := .ite (.lt (.iv 22) t2) t2 (.iv 22)
 let t5 : T := .sub t4 (.ite (.lt (.iv 22) t2) (.iv 22) t2)
 let t6 : T := .mul (.lit (1)) t3
 let t7 : T := .mul t6 t5
 (.need [(.le t0 (.iv 21)), (.le (.iv 21) t1)] (.need [(.le t0 (.iv 22)), (.le (.iv 22) t1)] (.need [(.le t0 t3), (.le t3 t1), (.le t0 t5), (.le t5 t1), (.le (.lit (1)) (.lit (1))), (.le (.lit (1)) (.lit (2))), (.le (.lit (1)) t3), (.le t3 (.lit (65535))), (.le (.lit (1)) t5), (.le t5 (.lit (65535))), (.not (.lt t7 t2))] (.need [(.le t2 t7), (.le t7 (.lit (140737488355328))), (.le t7 t1)] (.need [(.le t0 t6), (.le t6 t1)] (.any 1000 2 [] (.need [(.eq t6 (.iv 21)), (.eq t7 (.iv 20)), (.le (.lit (1)) t6), (.le t6 (.lit (65535))), (.eq t7 (.mul t6 (.iv 22))), (.eq (.len (.av 5)) t7), (.eq (.len (.rep t7 t2)) t7), (.le t7 (.iv 9))] (.any 1000 1000000008 [(.aeq (.av 1104) (.av 5))] (.need [(.eq t6 (.ite (.lt (.iv 21) t2) t2 (.iv 21))), (.eq t2 (.ite (.lt (.iv 22) t2) (.iv 22) t2)), (.eq t2 (.ite (.lt (.iv 21) t2) (.iv 21) t2)), (.le (.lit (1)) t4), (.le t4 (.lit (65535))), (.eq (.len (.av 1104)) (.mul t6 t4)), (.eq (.len (.av 1104)) t7), (.fb 2 t2 (.lit (255)) t2 t2 (.av 1104) (.alit []) (.alit []) (.alit [])), (.aeq (.alit []) (.alit []))] (.any 1400 10 [(.aeq (.av 1500) (.fa 510 (.iv 30) t6 t4 t2 (.av 1104) (.alit []) (.alit []) (.alit []))), (.le (.len (.av 1500)) (.lit (1000000000000)))] (.need [(.lt t2 (.len (.av 1500)))] (.any 1800 10 [(.le (.len (.av 1500)) (.iv 1800))] (.need [(.eq (.len (.av 1500)) (.len (.av 1500))), (.aeq (.av 1500) (.fa 510 (.iv 30) (.iv 21) (.iv 22) t2 (.av 5) (.alit []) (.alit []) (.alit [])))] .done)))))))))))))
theorem w16 : vcIs (vcOf Tryz.prog (spN Tryz.prog) rspN ⟨ltK14, inlAll⟩ 100000 16 c16) vc16 = true := by kernel_rfl
theorem spN_ok : ∀ f s, spN Tryz.prog f = some s → SpecOk Tryz.prog Z f s := by
  intro f s h
  refine deep_ok mixed drawsOk_prog (fun f s h => ?_) 1000 5 f s h
  unfold spN0 at h
  split at h
  · cases h; exact applyF_ok c57_ok
  · cases h
theorem rspN_ok : ∀ f s, rspN f = some s → RSpecOk Tryz.prog Z f s := by
  intro f s h
  unfold rspN at h
  split at h
  · cases h; exact applyR_ok c29_ok
  · cases h; exact applyR_ok c45_ok
  · cases h
theorem grayF_pos (q w h : Int) (p : List Int) : (0 : Int) < (grayF q w h p).length := by
  unfold grayF
  rw [List.length_append]
  have : ([255, 217] : List Int).length = 2 := rfl
  omega
theorem c16_ok : CtrOk Tryz.prog Z 16 c16 := by
  refine ctr_prog spN_ok rspN_ok w16 fun ρ h => ?_
  simp only [c16, preG, roQ, roE, cA, fA, z0, allT, lenFacts, inR, List.flatMap_cons, List.flatMap_nil, List.append_nil, List.append_assoc, List.cons_append, List.nil_append, and_true, ↓b_le, ↓b_lt, ↓b_eq, ↓b_aeq, ↓f_le, ↓f_lt, ↓f_eq, ↓f_aeq, ↓b_not, ↓f_not, ↓b_and, ↓b_or, ↓f_and, ↓f_or, ↓b_tt, ↓b_ff, ↓f_tt, ↓f_ff, met_cons, met_nil, hyp_cons, hyp_nil, T.I, T.A, T.B, Int.toNat_zero, List.drop_zero, and_true, implies_true, VC.sem, spliceL_cast, shr_24_u32, shr_8_u32, shr_8_i32, shr_14_i32, shr_12_i32, shr_18_i32, shr_2_i32, shr_1_i32, shr_1_i64, shr_8_i64, shr_4_i64, shr_16_u32, shr_4_u8, shr_1_u8] at h
  obtain ⟨h1, h2, h3, h4, h5, h6, h7, h8, h9, h10⟩ := h
  have e1 : (bif ilt (ρ.i 21) 0 then 0 else ρ.i 21) = ρ.i 21 := by rw [cond_ilt, if_neg (by omega)]
  have e2 : (bif ilt (ρ.i 21) 0 then ρ.i 21 else 0) = 0 := by rw [cond_ilt, if_neg (by omega)]
  have e3 : (bif ilt (ρ.i 22) 0 then 0 else ρ.i 22) = ρ.i 22 := by rw [cond_ilt, if_neg (by omega)]
  have e4 : (bif ilt (ρ.i 22) 0 then ρ.i 22 else 0) = 0 := by rw [cond_ilt, if_neg (by omega)]
  have hq0 : 0 ≤ ρ.i 21 * ρ.i 22 := Int.mul_nonneg (by omega) (by omega)
  have hq1 : ρ.i 21 * ρ.i 22 ≤ 65535 * 65535 := Int.mul_le_mul (by omega) (by omega) (by omega) (by omega)
  have g0 := grayF_pos (ρ.i 30) (ρ.i 21) (ρ.i 22)
  simp only [vc16, ↓b_le, ↓b_lt, ↓b_eq, ↓b_aeq, ↓f_le, ↓f_lt, ↓f_eq, ↓f_aeq, ↓b_not, ↓f_not, ↓b_and, ↓b_or, ↓f_and, ↓f_or, ↓b_tt, ↓b_ff, ↓f_tt, ↓f_ff, met_cons, met_nil, hyp_cons, hyp_nil, T.I, T.A, T.B, Int.toNat_zero, List.drop_zero, and_true, implies_true, VC.sem, spliceL_cast, shr_24_u32, shr_8_u32, shr_8_i32, shr_14_i32, shr_12_i32, shr_18_i32, shr_2_i32, shr_1_i32, shr_1_i64, shr_8_i64, shr_4_i64, shr_16_u32, shr_4_u8, shr_1_u8, e1, e2, e3, e4, Int.sub_zero, Int.one_mul, fb2, zfa510, List.length_replicate]
  (repeat' (first | with_reducible exact True.intro | with_reducible refine And.intro ?_ ?_ | intro _)) <;> (try omega)
  · rw [‹ρ.a 1104 = _›]; exact h5
  · rw [‹ρ.a 1104 = _›]; exact h5
  · rw [‹ρ.a 1104 = _›]; exact h7
  · rw [‹ρ.a 1500 = _›]; exact g0 _
  · rw [‹ρ.a 1500 = _›, ‹ρ.a 1104 = _›]
end
end Go.Proofs.YtljjbikbfeigdaaGreatDoor
