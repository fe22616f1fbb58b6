/- Part of the proof of FnGrayEdgesCardSaid: The bits of blocks: what the encoder writes, and that the specification's reader finds it again. -/
import Derived.Test.YtljjbikbfeigdaaGreatDoorGe33
import Derived.Test.YtljjbikbfeigdaaGreatDoorRows
import Derived.Lib.LaidTab
import Derived.MakeChecks
import Derived.Below
set_option linter.all false
namespace Go.Proofs.YtljjbikbfeigdaaGreatDoor
noncomputable section
open Go
def valB (v : Int) : List Int := bitsN ((if v < 0 then v - 1 else v) % 2 ^ (nbI v).toNat) (nbI v).toNat
def hrB (h : Nat) (run v : Int) : List Int := codeB h (run * 16 + nbI v) ++ valB v
def zrB (q : Nat) (run : Int) : List Int := if 15 < run then codeB (2 * q + 1) 240 ++ zrB q (run - 16) else []
termination_by run.toNat
decreasing_by omega
def acB (q : Nat) : List Int → Int → List Int
  | [], run => if 0 < run then codeB (2 * q + 1) 0 else []
  | c :: l, run => if c = 0 then acB q l (run + 1) else zrB q run ++ (hrB (2 * q + 1) (run % 16) c ++ acB q l 0)
/-- The coefficients of a block from number z on. -/
def coefL (q : Nat) (quant d : List Int) (z n : Nat) : List Int := (List.range' z n).map fun (k : Nat) => coef q quant d (k : Int)
def blkB (q : Nat) (quant d : List Int) (prev : Int) : List Int := hrB (2 * q) 0 (coef q quant d 0 - prev) ++ acB q (coefL q quant d 1 63) 0
theorem pow_nb {v : Int} (h : absI v ≤ 2047) : nbI v = ((nbI v).toNat : Int) ∧ (nbI v).toNat ≤ 11 ∧ absI v < 2 ^ (nbI v).toNat ∧ (v ≠ 0 → 2 ^ (nbI v).toNat ≤ 2 * absI v) ∧ (v ≠ 0 → 1 ≤ nbI v) := by
  obtain ⟨k1, k2, k3, k4, k5⟩ := nbI_spec h
  refine ⟨by omega, by omega, k4, k5, fun hv => ?_⟩
  rcases (show nbI v = 0 ∨ 1 ≤ nbI v by omega) with hz | hz
  · have := k4
    rw [hz] at this
    have h0 : absI v < 1 := this
    unfold absI at h0; split at h0 <;> omega
  · exact hz
theorem rep_hrle {H : List Int} {s : St} {L : List Int} {h : Nat} {run v : Int} (hr : Rep H s L) (hf : Fine h (run * 16 + nbI v)) (hv : absI v ≤ 2047) : Rep H (hrle h s run v) (L ++ hrB h run v) := by
  obtain ⟨k1, k2, k3, k4, k5⟩ := pow_nb hv
  have h1 := rep_code hf hr
  unfold hrB hrle
  simp only
  by_cases hz : 0 < nbI v
  · rw [if_pos hz, ← List.append_assoc]
    have hp := two_pos (nbI v).toNat
    have h2 := rep_emit h1 (x := (if v < 0 then v - 1 else v) % 2 ^ (nbI v).toNat) (k := (nbI v).toNat) (Int.emod_nonneg _ (Int.ne_of_gt hp)) (Int.emod_lt_of_pos _ hp) (by omega)
    rw [← k1] at h2
    exact h2
  · rw [if_neg hz]
    have e : valB v = [] := by unfold valB; rw [show (nbI v).toNat = 0 from by omega]; rfl
    rw [e, List.append_nil]
    exact h1
theorem rep_zrl {H : List Int} {q : Nat} (hq : q < 2) (n : Nat) : ∀ {s : St} {L : List Int} {run : Int}, run.toNat ≤ n → Rep H s L → Rep H (zrlF q s run) (L ++ zrB q run) := by
  induction n with
  | zero =>
    intro s L run hn hr
    rw [zrlF_end (by omega), zrB, if_neg (by omega), List.append_nil]; exact hr
  | succ n ih =>
    intro s L run hn hr
    by_cases h : 15 < run
    · rw [zrlF_step h, zrB, if_pos h, ← List.append_assoc]
      exact ih (by omega) (rep_code (fine_zrl hq) hr)
    · rw [zrlF_end h, zrB, if_neg h, List.append_nil]; exact hr
theorem rep_ac {H : List Int} {q : Nat} (hq : q < 2) {quant d : List Int} (hb : ∀ k : Nat, k < 64 → k ≠ 0 → absI (coef q quant d (k : Int)) ≤ 1023) : ∀ (n : Nat) {s : St} {L : List Int} {run : Int}, n ≤ 63 → 0 ≤ run → Rep H s L →
    Rep H (acF q quant d s ((64 - n : Nat) : Int) run) (L ++ acB q (coefL q quant d (64 - n) n) run)
  | 0, s, L, run, _, hrun, hr => by
    by_cases h : 0 < run
    · rw [acF_eob (by omega) h]
      simp only [coefL, List.range'_zero, List.map_nil, acB, if_pos h]
      exact rep_code (fine_eob hq) hr
    · rw [acF_end (by omega) h]
      simp only [coefL, List.range'_zero, List.map_nil, acB, if_neg h, List.append_nil]
      exact hr
  | n + 1, s, L, run, hn, hrun, hr => by
    have e : coefL q quant d (64 - (n + 1)) (n + 1) = coef q quant d ((64 - (n + 1) : Nat) : Int) :: coefL q quant d (64 - n) n := by
      unfold coefL
      rw [List.range'_succ, List.map_cons, show 64 - (n + 1) + 1 = 64 - n from by omega]
    have en : ((64 - (n + 1) : Nat) : Int) + 1 = ((64 - n : Nat) : Int) := by omega
    rw [e]
    simp only [acB]
    by_cases hc : coef q quant d ((64 - (n + 1) : Nat) : Int) = 0
    · rw [acF_zero (by omega) hc, if_pos hc, en]
      exact rep_ac hq hb n (by omega) (by omega) hr
    · have hbk := hb (64 - (n + 1)) (by omega) (by omega)
      obtain ⟨k1, k2, k3, k4, k5⟩ := pow_nb (v := coef q quant d ((64 - (n + 1) : Nat) : Int)) (by omega)
      have k6 := (nbI_spec (v := coef q quant d ((64 - (n + 1) : Nat) : Int)) (by omega)).2.2.1 hbk
      have k7 := k5 hc
      rw [acF_some (by omega) hc, if_neg hc, en, ← List.append_assoc, ← List.append_assoc]
      refine rep_ac hq hb n (by omega) (by omega) ?_
      refine rep_hrle (rep_zrl hq _ (Nat.le_refl _) hr) (fine_ac hq (by omega) (by omega) k7 k6) (by omega)
theorem rep_blk {H : List Int} {q : Nat} (hq : q < 2) {quant blk : List Int} (hb : ∀ k : Nat, k < 64 → k ≠ 0 → absI (coef q quant (dctF blk) (k : Int)) ≤ 1023) {s : St} {L : List Int} {prev : Int} (h0 : absI (coef q quant (dctF blk) 0 - prev) ≤ 2047) (hr : Rep H s L) :
    Rep H (blkF q quant blk s prev) (L ++ blkB q quant (dctF blk) prev) := by
  obtain ⟨k1, k2, k3, k4, k5⟩ := pow_nb h0
  unfold blkF blkB
  rw [← List.append_assoc]
  have := rep_ac hq hb 63 (run := 0) (by omega) (by omega) (rep_hrle (h := 2 * q) (run := 0) (v := coef q quant (dctF blk) 0 - prev) hr (by rw [Int.zero_mul, Int.zero_add]; exact fine_dc hq (by omega) (by omega)) h0)
  exact this
/-- A value is found again. -/
theorem sgn_val {v : Int} (h : absI v ≤ 2047) : sgn (nbI v) ((if v < 0 then v - 1 else v) % 2 ^ (nbI v).toNat % 2 ^ (nbI v).toNat) = v := by
  obtain ⟨k1, k2, k3, k4, k5⟩ := pow_nb h
  rw [Int.emod_emod]
  by_cases hz : v = 0
  · subst hz; decide
  · have k4 := k4 hz
    have k5 := k5 hz
    have e : (nbI v).toNat = (nbI v - 1).toNat + 1 := by omega
    have ep : (2 : Int) ^ (nbI v).toNat = 2 * 2 ^ (nbI v - 1).toNat := by rw [e, Int.pow_succ, Int.mul_comm]
    unfold sgn
    rw [ep] at k3 k4 ⊢
    have hp := two_pos (nbI v - 1).toNat
    generalize (2 : Int) ^ (nbI v - 1).toNat = p at k3 k4 hp ⊢
    unfold absI at k3 k4
    by_cases hn : v < 0
    · rw [if_pos hn] at k3 k4 ⊢
      have em : (v - 1) % (2 * p) = 2 * p + (v - 1) := by
        rw [← Int.add_emod_right (v - 1) (2 * p), Int.add_comm]
        exact Int.emod_eq_of_lt (by omega) (by omega)
      rw [em, if_pos (by omega)]; omega
    · rw [if_neg hn] at k3 k4 ⊢
      rw [Int.emod_eq_of_lt (by omega) (by omega), if_neg (by omega)]
theorem rd_hr {D T : List Int} {h : Nat} {run v at_ us : Int} {R : List Int} (hf : Fine h (run * 16 + nbI v)) (hv : absI v ≤ 2047) (hr : Rd D T at_ us (hrB h run v ++ R)) :
    sym1Ok (cnt h) (syms h) D at_ us = true ∧ ∃ a1 u1, sym1 (cnt h) (syms h) D at_ us = [run * 16 + nbI v, a1, u1] ∧
      numOk D (nbI v).toNat a1 u1 = true ∧ ∃ x a2 u2, numL D (nbI v).toNat 0 a1 u1 = [x, a2, u2] ∧ sgn (nbI v) x = v ∧ Rd D T a2 u2 R := by
  unfold hrB at hr
  rw [List.append_assoc] at hr
  obtain ⟨h1, a1, u1, h2, h3⟩ := rd_code hf hr
  obtain ⟨g1, a2, u2, g2, g3⟩ := rd_num (v := 0) h3
  refine ⟨h1, a1, u1, h2, g1, _, a2, u2, g2, ?_, g3⟩
  rw [Int.zero_mul, Int.zero_add]
  exact sgn_val hv
/-- Coefficients laid down from a place on. -/
def plc (bl : List Int) (p : Int) : List Int → List Int
  | [] => bl
  | c :: l => plc (if c = 0 then bl else bl.set p.toNat c) (p + 1) l
theorem plc_spec : ∀ {cs A G : List Int}, plc (A ++ (List.replicate cs.length 0 ++ G)) (A.length : Int) cs = A ++ (cs ++ G)
  | [], A, G => rfl
  | c :: l, A, G => by
    have ih := plc_spec (cs := l) (A := A ++ [c]) (G := G)
    simp only [plc, List.length_cons, List.replicate_succ, List.cons_append]
    have e : (if c = 0 then A ++ 0 :: (List.replicate l.length 0 ++ G) else (A ++ 0 :: (List.replicate l.length 0 ++ G)).set (A.length : Int).toNat c) = (A ++ [c]) ++ (List.replicate l.length 0 ++ G) := by
      by_cases hc : c = 0
      · rw [if_pos hc, hc]; simp
      · rw [if_neg hc]; simp [List.set_append]
    rw [e, show ((A.length : Int) + 1) = ((A ++ [c]).length : Int) from by simp, ih]; simp
section
variable {D T : List Int} {q : Nat}
theorem rd_zrl (hq : q < 2) (n : Nat) : ∀ {run k at_ us : Int} {X : List Int}, run.toNat ≤ n → 0 ≤ run → k + run ≤ 63 → Rd D T at_ us (zrB q run ++ X) →
    ∃ k1 a1 u1, k1 + run % 16 = k + run ∧ k ≤ k1 ∧ Rd D T a1 u1 X ∧ (∀ d bl, seqL (cnt (2 * q + 1)) (syms (2 * q + 1)) D d k at_ us bl = seqL (cnt (2 * q + 1)) (syms (2 * q + 1)) D d k1 a1 u1 bl) ∧
      (seqOk (cnt (2 * q + 1)) (syms (2 * q + 1)) D k1 a1 u1 = true → seqOk (cnt (2 * q + 1)) (syms (2 * q + 1)) D k at_ us = true) := by
  induction n with
  | zero =>
    intro run k at_ us X hn h0 hk hr
    rw [zrB, if_neg (by omega), List.nil_append] at hr
    exact ⟨k, at_, us, by omega, by omega, hr, fun _ _ => rfl, id⟩
  | succ n ih =>
    intro run k at_ us X hn h0 hk hr
    by_cases h : 15 < run
    · rw [zrB, if_pos h, List.append_assoc] at hr
      obtain ⟨g1, a1, u1, g2, g3⟩ := rd_code (fine_zrl hq) hr
      obtain ⟨k1, a2, u2, f1, f2, f3, f4, f5⟩ := ih (run := run - 16) (k := k + 16) (by omega) (by omega) (by omega) g3
      refine ⟨k1, a2, u2, by omega, by omega, f3, fun d bl => ?_, fun ho => ?_⟩
      · rw [← f4 d bl, seqL, if_pos (by omega), if_pos (show sSize _ _ D at_ us = 0 by unfold sSize; rw [g2]; rfl), if_neg (show ¬ sRun _ _ D at_ us = 0 by unfold sRun; rw [g2]; show ¬ (240 : Int) / 16 = 0; decide)]
        unfold sAt sUs; rw [g2]; rfl
      · rw [seqOk, if_pos (by omega), if_pos (show sSize _ _ D at_ us = 0 by unfold sSize; rw [g2]; rfl), if_neg (show ¬ sRun _ _ D at_ us = 0 by unfold sRun; rw [g2]; show ¬ (240 : Int) / 16 = 0; decide)]
        simp only [Bool.and_eq_true, decide_eq_true_eq]
        refine ⟨g1, by unfold sRun; rw [g2]; rfl, by omega, ?_⟩
        unfold sAt sUs; rw [g2]
        exact f5 ho
    · rw [zrB, if_neg h, List.nil_append] at hr
      exact ⟨k, at_, us, by omega, by omega, hr, fun _ _ => rfl, id⟩
theorem rd_ac (hq : q < 2) {R : List Int} : ∀ {cs : List Int} {run k at_ us : Int}, (∀ c ∈ cs, absI c ≤ 1023) → 0 ≤ run → 1 ≤ k → k + run + cs.length = 64 → Rd D T at_ us (acB q cs run ++ R) →
    seqOk (cnt (2 * q + 1)) (syms (2 * q + 1)) D k at_ us = true ∧ ∃ a1 u1, (∀ d bl, seqL (cnt (2 * q + 1)) (syms (2 * q + 1)) D d k at_ us bl = a1 :: u1 :: plc bl (d + (k + run)) cs) ∧ Rd D T a1 u1 R
  | [], run, k, at_, us, _, h0, h1, hk, hr => by
    simp only [List.length_nil] at hk
    simp only [acB] at hr
    by_cases h : 0 < run
    · rw [if_pos h] at hr
      obtain ⟨g1, a1, u1, g2, g3⟩ := rd_code (fine_eob hq) hr
      refine ⟨?_, a1, u1, fun d bl => ?_, g3⟩
      · rw [seqOk, if_pos (by omega), if_pos (show sSize _ _ D at_ us = 0 by unfold sSize; rw [g2]; rfl), if_pos (show sRun _ _ D at_ us = 0 by unfold sRun; rw [g2]; rfl), g1]; rfl
      · rw [seqL, if_pos (by omega), if_pos (show sSize _ _ D at_ us = 0 by unfold sSize; rw [g2]; rfl), if_pos (show sRun _ _ D at_ us = 0 by unfold sRun; rw [g2]; rfl)]
        unfold sAt sUs; rw [g2]; rfl
    · rw [if_neg h, List.nil_append] at hr
      refine ⟨?_, at_, us, fun d bl => ?_, hr⟩
      · rw [seqOk, if_neg (by omega)]
      · rw [seqL, if_neg (by omega)]; rfl
  | c :: l, run, k, at_, us, hc, h0, h1, hk, hr => by
    simp only [List.length_cons] at hk
    simp only [acB] at hr
    have hl : ∀ x ∈ l, absI x ≤ 1023 := fun x hx => hc x (List.mem_cons_of_mem _ hx)
    by_cases hz : c = 0
    · rw [if_pos hz] at hr
      obtain ⟨g1, a1, u1, g2, g3⟩ := rd_ac hq hl (run := run + 1) (by omega) h1 (by omega) hr
      refine ⟨g1, a1, u1, fun d bl => ?_, g3⟩
      rw [g2]
      simp only [plc, if_pos hz]
      rw [show d + (k + (run + 1)) = d + (k + run) + 1 from by omega]
    · rw [if_neg hz, List.append_assoc, List.append_assoc] at hr
      obtain ⟨k1, a1, u1, f1, f2, f3, f4, f5⟩ := rd_zrl hq _ (Nat.le_refl _) h0 (show k + run ≤ 63 by omega) hr
      have hcb := hc c (List.mem_cons_self ..)
      obtain ⟨p1, p2, p3, p4, p5⟩ := pow_nb (v := c) (by omega)
      have p6 := (nbI_spec (v := c) (by omega)).2.2.1 hcb
      have p7 := p5 hz
      obtain ⟨s1, a2, u2, s2, s3, x, a3, u3, s4, s5, s6⟩ := rd_hr (fine_ac hq (by omega) (by omega) p7 p6) (by omega) f3
      obtain ⟨g1, a4, u4, g2, g3⟩ := rd_ac hq hl (run := 0) (k := k1 + run % 16 + 1) (by omega) (by omega) (by omega) s6
      have hsz : sSize (cnt (2 * q + 1)) (syms (2 * q + 1)) D a1 u1 = nbI c := by unfold sSize; rw [s2]; show (run % 16 * 16 + nbI c) % 16 = _; omega
      have hrn : sRun (cnt (2 * q + 1)) (syms (2 * q + 1)) D a1 u1 = run % 16 := by unfold sRun; rw [s2]; show (run % 16 * 16 + nbI c) / 16 = _; omega
      have hat : sAt (cnt (2 * q + 1)) (syms (2 * q + 1)) D a1 u1 = a2 := by unfold sAt; rw [s2]; rfl
      have hus : sUs (cnt (2 * q + 1)) (syms (2 * q + 1)) D a1 u1 = u2 := by unfold sUs; rw [s2]; rfl
      have hnm : sNum (cnt (2 * q + 1)) (syms (2 * q + 1)) D a1 u1 = [x, a3, u3] := by unfold sNum; rw [hsz, hat, hus, s4]
      refine ⟨f5 ?_, a4, u4, fun d bl => ?_, g3⟩
      · rw [seqOk, if_pos (by omega), hsz, hrn, hat, hus, hnm, if_neg (by omega), if_pos (by omega)]
        simp only [Bool.and_eq_true, decide_eq_true_eq]
        exact ⟨s1, by omega, s3, g1⟩
      · rw [f4 d bl, seqL, if_pos (by omega), hsz, hrn, hnm, if_neg (by omega), if_pos (by omega)]
        show seqL _ _ D d (k1 + run % 16 + 1) a3 u3 (bl.set _ (sgn (nbI c) x)) = _
        rw [s5, g2]
        simp only [plc, if_neg hz]
        rw [show d + (k1 + run % 16 + 1 + 0) = d + (k + run) + 1 from by omega, show d + (k1 + run % 16) = d + (k + run) from by omega]
end
end
end Go.Proofs.YtljjbikbfeigdaaGreatDoor
namespace Go.Proofs.YtljjbikbfeigdaaGreatDoor
noncomputable section
open Go
section
variable (w h : Int) (pix quant : List Int)
def blkAt (x y : Int) : List Int := dctF (padL x y w h pix)
/-- The bits of the blocks from (x, y) on. -/
def sosBits (prev x y : Int) : List Int :=
  if y < h then
    if x < w then blkB 0 quant (blkAt w h pix x y) prev ++ sosBits (coef 0 quant (blkAt w h pix x y) 0) (x + 8) y
    else sosBits prev 0 (y + 8)
  else []
termination_by ((h - y).toNat, (w - x).toNat)
decreasing_by
  · apply Prod.Lex.right; omega
  · apply Prod.Lex.left; omega
/-- Their coefficients. -/
def sosC (x y : Int) : List (List Int) :=
  if y < h then
    if x < w then coefL 0 quant (blkAt w h pix x y) 0 64 :: sosC (x + 8) y
    else sosC 0 (y + 8)
  else []
termination_by ((h - y).toNat, (w - x).toNat)
decreasing_by
  · apply Prod.Lex.right; omega
  · apply Prod.Lex.left; omega
end
/-- What is asked of an image and its quantization. -/
structure Img (w h : Int) (pix quant : List Int) : Prop where
  w1 : 1 ≤ w
  h1 : 1 ≤ h
  len : (pix.length : Int) = w * h
  pix : allIn 0 255 pix = true
  ql : quant.length = 128
  q : allIn 1 255 quant = true
section
variable {w h : Int} {pix quant : List Int}
theorem Img.coef (I : Img w h pix quant) {x y : Int} (hx : 0 ≤ x) (hy : 0 ≤ y) {k : Int} (h0 : 0 ≤ k) (h1 : k < 64) :
    -1024 ≤ coef 0 quant (blkAt w h pix x y) k ∧ coef 0 quant (blkAt w h pix x y) k ≤ 1023 ∧ (k ≠ 0 → -1023 ≤ coef 0 quant (blkAt w h pix x y) k) :=
  coef_bnd (by omega) padL_len (padL_in hx hy I.w1 I.h1 I.len I.pix) I.ql I.q h0 h1
theorem absI_le {v n : Int} (h0 : -n ≤ v) (h1 : v ≤ n) : absI v ≤ n := by unfold absI; split <;> omega
theorem Img.ac (I : Img w h pix quant) {x y : Int} (hx : 0 ≤ x) (hy : 0 ≤ y) : ∀ k : Nat, k < 64 → k ≠ 0 → absI (Proofs.YtljjbikbfeigdaaGreatDoor.coef 0 quant (blkAt w h pix x y) (k : Int)) ≤ 1023 := by
  intro k hk hz
  have := I.coef hx hy (k := (k : Int)) (by omega) (by omega)
  exact absI_le (this.2.2 (by omega)) this.2.1
theorem ones7 : bitsN 127 7 = List.replicate 7 1 := by decide
/-- The whole scan, as bits. -/
theorem rep_sos (I : Img w h pix quant) {H : List Int} (n : Nat) : ∀ (m : Nat) {s : St} {L : List Int} {prev x y : Int}, (h - y).toNat ≤ n → (w - x).toNat ≤ m → 0 ≤ x → 0 ≤ y → -1024 ≤ prev → prev ≤ 1023 → Rep H s L →
    Rep H (sosB w h pix quant s prev x y) (L ++ (sosBits w h pix quant prev x y ++ List.replicate 7 1)) := by
  induction n with
  | zero =>
    intro m s L prev x y hn hm hx hy hp1 hp2 hr
    rw [sosB_end (by omega), sosBits, if_neg (by omega), List.nil_append, ← ones7]
    exact rep_emit hr (x := 127) (k := 7) (by omega) (by decide) (by omega)
  | succ n ihn =>
    intro m
    induction m with
    | zero =>
      intro s L prev x y hn hm hx hy hp1 hp2 hr
      by_cases hyh : y < h
      · rw [sosB_row hyh (by omega), sosBits, if_pos hyh, if_neg (by omega)]
        exact ihn _ (by omega) (Nat.le_refl _) (by omega) (by omega) hp1 hp2 hr
      · rw [sosB_end hyh, sosBits, if_neg hyh, List.nil_append, ← ones7]
        exact rep_emit hr (x := 127) (k := 7) (by omega) (by decide) (by omega)
    | succ m ihm =>
      intro s L prev x y hn hm hx hy hp1 hp2 hr
      by_cases hyh : y < h
      · by_cases hxw : x < w
        · have hc := I.coef hx hy (k := 0) (by omega) (by omega)
          rw [sosB_blk hyh hxw, sosBits, if_pos hyh, if_pos hxw, List.append_assoc, ← List.append_assoc]
          exact ihm hn (by omega) (by omega) hy hc.1 hc.2.1 (rep_blk (by omega) (I.ac hx hy) (absI_le (by show -2047 ≤ Proofs.YtljjbikbfeigdaaGreatDoor.coef 0 quant (blkAt w h pix x y) 0 - prev; omega) (by show Proofs.YtljjbikbfeigdaaGreatDoor.coef 0 quant (blkAt w h pix x y) 0 - prev ≤ 2047; omega)) hr)
        · rw [sosB_row hyh hxw, sosBits, if_pos hyh, if_neg hxw]
          exact ihn _ (by omega) (Nat.le_refl _) (by omega) (by omega) hp1 hp2 hr
      · rw [sosB_end hyh, sosBits, if_neg hyh, List.nil_append, ← ones7]
        exact rep_emit hr (x := 127) (k := 7) (by omega) (by decide) (by omega)
theorem coefL_len (q : Nat) (d : List Int) (z n : Nat) : (coefL q quant d z n).length = n := by simp [coefL]
theorem coefL_cons (q : Nat) (d : List Int) (z n : Nat) : coefL q quant d z (n + 1) = coef q quant d (z : Int) :: coefL q quant d (z + 1) n := by
  unfold coefL; rw [List.range'_succ, List.map_cons]
variable {D T : List Int}
/-- One block found again. -/
theorem rd_blk (I : Img w h pix quant) {x y : Int} (hx : 0 ≤ x) (hy : 0 ≤ y) {prev a u : Int} {R : List Int} (hp1 : -1024 ≤ prev) (hp2 : prev ≤ 1023) (hr : Rd D T a u (blkB 0 quant (blkAt w h pix x y) prev ++ R)) :
    blkOk 0 D a u prev = true ∧ prev + dcV 0 D a u = coef 0 quant (blkAt w h pix x y) 0 ∧ ∃ a1 u1, Rd D T a1 u1 R ∧ ∀ (A G : List Int), blkS 0 D (A.length : Int) a u prev (A ++ (List.replicate 64 0 ++ G)) = a1 :: u1 :: (A ++ (coefL 0 quant (blkAt w h pix x y) 0 64 ++ G)) := by
  have hc := I.coef hx hy (k := 0) (by omega) (by omega)
  unfold blkB at hr
  rw [List.append_assoc] at hr
  have hab : absI (coef 0 quant (blkAt w h pix x y) 0 - prev) ≤ 2047 := absI_le (by omega) (by omega)
  obtain ⟨p1, p2, p3, p4, p5⟩ := pow_nb hab
  have hz : (0 : Int) * 16 + nbI (coef 0 quant (blkAt w h pix x y) 0 - prev) = nbI (coef 0 quant (blkAt w h pix x y) 0 - prev) := by omega
  obtain ⟨s1, a1, u1, s2, s3, v, a2, u2, s4, s5, s6⟩ := rd_hr (h := 0) (by rw [hz]; exact fine_dc (q := 0) (by omega) (by omega) (by omega)) hab hr
  rw [hz] at s2
  have hS : dcS 0 D a u = [nbI (coef 0 quant (blkAt w h pix x y) 0 - prev), a1, u1] := s2
  have hN : dcN 0 D a u = [v, a2, u2] := by unfold dcN; rw [hS]; exact s4
  have hV : dcV 0 D a u = coef 0 quant (blkAt w h pix x y) 0 - prev := by unfold dcV; rw [hS, hN]; exact s5
  have hO : dcOk 0 D a u = true := by
    unfold dcOk
    rw [Bool.and_eq_true]
    exact ⟨s1, by rw [hS]; exact s3⟩
  have hcs : ∀ c ∈ coefL 0 quant (blkAt w h pix x y) 1 63, absI c ≤ 1023 := by
    intro c hc
    unfold coefL at hc
    obtain ⟨k, hk, rfl⟩ := List.mem_map.1 hc
    rw [List.mem_range'_1] at hk
    exact I.ac hx hy k (by omega) (by omega)
  obtain ⟨g1, a3, u3, g2, g3⟩ := rd_ac (q := 0) (by omega) hcs (run := 0) (k := 1) (by omega) (by omega) (by rw [coefL_len]; rfl) s6
  refine ⟨?_, by omega, a3, u3, g3, fun A G => ?_⟩
  · unfold blkOk
    simp only [Bool.and_eq_true, decide_eq_true_eq]
    refine ⟨hO, by omega, by omega, ?_⟩
    rw [hN]; exact g1
  · unfold blkS acS
    rw [hN]
    show seqL _ _ D _ 1 a2 u2 _ = _
    rw [g2]
    congr 2
    have e : (A ++ (List.replicate 64 0 ++ G)).set (A.length : Int).toNat (prev + dcV 0 D a u) = (A ++ [coef 0 quant (blkAt w h pix x y) 0]) ++ (List.replicate 63 0 ++ G) := by
      rw [hV, show prev + (coef 0 quant (blkAt w h pix x y) 0 - prev) = coef 0 quant (blkAt w h pix x y) 0 from by omega, List.replicate_succ]
      simp [List.set_append]
    rw [e]
    have hl : (coefL 0 quant (blkAt w h pix x y) 1 63).length = 63 := coefL_len ..
    have := plc_spec (cs := coefL 0 quant (blkAt w h pix x y) 1 63) (A := A ++ [coef 0 quant (blkAt w h pix x y) 0]) (G := G)
    rw [hl] at this
    rw [show (A.length : Int) + (1 + 0) = ((A ++ [coef 0 quant (blkAt w h pix x y) 0]).length : Int) from by simp, this, coefL_cons 0 _ 0 63]
    simp
/-- The ones at the end. -/
theorem al_rd : ∀ (j : Nat) {a u : Int}, Rd D T a u (List.replicate j 1) → alN u = j → alOk D j a u = true ∧ Rd D T (alAt D j a u) 0 []
  | 0, a, u, hr, hj => by
    obtain ⟨n, B, h1, h2, h3, h4, h5, h6, h7⟩ := hr
    have hu : u = 0 := by
      unfold alN at hj
      split at hj
      · assumption
      · omega
    subst hu
    exact ⟨rfl, n, B, h1, h2, h3, h4, h5, h6, h7⟩
  | j + 1, a, u, hr, hj => by
    obtain ⟨n, B, h1, h2, h3, h4, h5, h6, h7⟩ := hr
    have hu : ¬ u = 0 := by
      intro hu
      subst hu
      simp [alN] at hj
    have hr : Rd D T a u (1 :: List.replicate j 1) := ⟨n, B, h1, h2, h3, h4, h5, h6, h7⟩
    obtain ⟨g1, g2, g3⟩ := rd_bit hr
    have hs : alN u = alN (rUs u) + 1 := by
      unfold alN rUs
      rw [if_neg hu]
      by_cases h8 : u + 1 = 8
      · rw [if_pos h8, if_pos rfl]; omega
      · rw [if_neg h8, if_neg (by omega)]; omega
    obtain ⟨k1, k2⟩ := al_rd j g3 (by omega)
    refine ⟨?_, k2⟩
    simp only [alOk, g1, g2, k1]; rfl
theorem rd_al {j : Nat} (hj : j < 8) {a u : Int} (hr : Rd D T a u (List.replicate j 1)) : alOk D (alN u) a u = true ∧ Rd D T (alAt D (alN u) a u) 0 [] := by
  have hn : alN u = j := by
    obtain ⟨n, B, h1, h2, h3, h4, h5, h6, h7⟩ := hr
    have hl := congrArg List.length h7
    rw [List.length_replicate, List.length_drop] at hl
    have hB : (bytesB B).length = 8 * B.length := by
      clear h2 h3 h6 h7 hl
      induction B with
      | nil => rfl
      | cons c B ih => rw [bytesB_cons, List.length_append, ih, byteB_len, List.length_cons]; omega
    rw [hB] at hl
    unfold alN
    by_cases hu : u = 0
    · rw [if_pos hu]
      cases B with
      | nil => simp at hl; omega
      | cons c B => rw [List.length_cons] at hl; omega
    · rw [if_neg hu]
      cases B with
      | nil => exact absurd (h6 rfl) hu
      | cons c B =>
        cases B with
        | nil => simp at hl; omega
        | cons d B => simp only [List.length_cons] at hl; omega
  have := al_rd j hr hn
  rw [hn]; exact this
theorem rd_end {a : Int} (hr : Rd D T a 0 []) : 0 ≤ a ∧ D.drop a.toNat = T := by
  obtain ⟨n, B, h1, h2, h3, h4, h5, h6, h7⟩ := hr
  cases B with
  | nil => rw [h1]; exact ⟨by omega, h2⟩
  | cons c B =>
    have := congrArg List.length h7
    rw [bytesB_cons, Int.toNat_zero, List.drop_zero, List.length_append, byteB_len, List.length_nil] at this
    omega
/-- The whole scan found again. -/
theorem rd_sos (I : Img w h pix quant) {j : Nat} (hj : j < 8) (n : Nat) : ∀ (m : Nat) {prev x y a u : Int} {A : List Int} {M : Int}, (h - y).toNat ≤ n → (w - x).toNat ≤ m → 0 ≤ x → 0 ≤ y → -1024 ≤ prev → prev ≤ 1023 →
    (A.length : Int) = 64 * M → Rd D T a u (sosBits w h pix quant prev x y ++ List.replicate j 1) →
    scOk D (sosC w h pix quant x y).length M a u prev (A ++ List.replicate (64 * (sosC w h pix quant x y).length) 0) = true ∧
    ∃ a1 u1, scL D (sosC w h pix quant x y).length M a u prev (A ++ List.replicate (64 * (sosC w h pix quant x y).length) 0) = a1 :: u1 :: (A ++ (sosC w h pix quant x y).flatten) ∧ Rd D T a1 u1 (List.replicate j 1) := by
  have hend : ∀ {prev a u : Int} {A : List Int} {M : Int}, Rd D T a u ([] ++ List.replicate j 1) → scOk D 0 M a u prev (A ++ List.replicate (64 * 0) 0) = true ∧
      ∃ a1 u1, scL D 0 M a u prev (A ++ List.replicate (64 * 0) 0) = a1 :: u1 :: (A ++ ([] : List (List Int)).flatten) ∧ Rd D T a1 u1 (List.replicate j 1) := by
    intro prev a u A M hr
    exact ⟨(rd_al hj hr).1, a, u, by simp [scL], hr⟩
  induction n with
  | zero =>
    intro m prev x y a u A M hn hm hx hy hp1 hp2 hA hr
    rw [sosBits, if_neg (by omega)] at hr
    rw [sosC, if_neg (by omega)]
    exact hend hr
  | succ n ihn =>
    intro m
    induction m with
    | zero =>
      intro prev x y a u A M hn hm hx hy hp1 hp2 hA hr
      by_cases hyh : y < h
      · rw [sosBits, if_pos hyh, if_neg (by omega)] at hr
        rw [sosC, if_pos hyh, if_neg (by omega)]
        exact ihn _ (by omega) (Nat.le_refl _) (by omega) (by omega) hp1 hp2 hA hr
      · rw [sosBits, if_neg hyh] at hr
        rw [sosC, if_neg hyh]
        exact hend hr
    | succ m ihm =>
      intro prev x y a u A M hn hm hx hy hp1 hp2 hA hr
      by_cases hyh : y < h
      · by_cases hxw : x < w
        · have hc := I.coef hx hy (k := 0) (by omega) (by omega)
          rw [sosBits, if_pos hyh, if_pos hxw, List.append_assoc] at hr
          obtain ⟨b1, b2, a1, u1, b3, b4⟩ := rd_blk I hx hy hp1 hp2 hr
          have hA' : ((A ++ coefL 0 quant (blkAt w h pix x y) 0 64).length : Int) = 64 * (M + 1) := by rw [List.length_append, coefL_len]; omega
          obtain ⟨c1, a2, u2, c2, c3⟩ := ihm (A := A ++ coefL 0 quant (blkAt w h pix x y) 0 64) (M := M + 1) hn (by omega) (by omega) hy hc.1 hc.2.1 hA' b3
          have eS : sosC w h pix quant x y = coefL 0 quant (blkAt w h pix x y) 0 64 :: sosC w h pix quant (x + 8) y := by rw [sosC, if_pos hyh, if_pos hxw]
          have eR : A ++ List.replicate (64 * (sosC w h pix quant x y).length) 0 = A ++ (List.replicate 64 0 ++ List.replicate (64 * (sosC w h pix quant (x + 8) y).length) 0) := by
            rw [eS, List.length_cons, Nat.mul_add, Nat.mul_one, Nat.add_comm, ← List.replicate_append_replicate]
          have eB := b4 A (List.replicate (64 * (sosC w h pix quant (x + 8) y).length) 0)
          rw [hA] at eB
          rw [eR, eS, List.length_cons]
          simp only [scOk, scL, eB, b1, b2, e0, e1, List.getD_cons_zero, List.getD_cons_succ, List.drop_succ_cons, List.drop_zero, Bool.true_and]
          rw [← List.append_assoc]
          refine ⟨c1, a2, u2, ?_, c3⟩
          rw [c2, List.flatten_cons, List.append_assoc]
        · rw [sosBits, if_pos hyh, if_neg hxw] at hr
          rw [sosC, if_pos hyh, if_neg hxw]
          exact ihn _ (by omega) (Nat.le_refl _) (by omega) (by omega) hp1 hp2 hA hr
      · rw [sosBits, if_neg hyh] at hr
        rw [sosC, if_neg hyh]
        exact hend hr
end
end
end Go.Proofs.YtljjbikbfeigdaaGreatDoor
namespace Go.Proofs.YtljjbikbfeigdaaGreatDoor
noncomputable section
open Go
section
variable (w h : Int) (pix quant : List Int)
def wX : Nat := ((w + 7) / 8).toNat
def hY : Nat := ((h + 7) / 8).toNat
/-- Block m. -/
def blkM (m : Nat) : List Int := coefL 0 quant (blkAt w h pix (8 * ((m % wX w : Nat) : Int)) (8 * ((m / wX w : Nat) : Int))) 0 64
end
section
variable {w h : Int} {pix quant : List Int}
theorem sosC_none {x : Int} {j : Nat} {i : Nat} (hj : hY h ≤ j) : sosC w h pix quant x (8 * (j : Int)) = ((List.range (wX w * hY h)).drop (j * wX w + i)).map (blkM w h pix quant) := by
  have h1 : ¬ 8 * (j : Int) < h := by unfold hY at hj; omega
  rw [sosC, if_neg h1, List.drop_of_length_le, List.map_nil]
  rw [List.length_range]
  have := Nat.mul_le_mul_right (wX w) hj
  rw [Nat.mul_comm (wX w)]
  omega
theorem sosC_at (hw : 1 ≤ w) (n : Nat) : ∀ (m i j : Nat), hY h - j ≤ n → wX w - i ≤ m → i ≤ wX w →
    sosC w h pix quant (8 * (i : Int)) (8 * (j : Int)) = ((List.range (wX w * hY h)).drop (j * wX w + i)).map (blkM w h pix quant) := by
  induction n with
  | zero => intro m i j hn _ _; exact sosC_none (by omega)
  | succ n ihn =>
    intro m
    induction m with
    | zero =>
      intro i j hn hm hi
      by_cases hj : hY h ≤ j
      · exact sosC_none hj
      · have hi : i = wX w := by omega
        have h1 : 8 * (j : Int) < h := by unfold hY at hj; omega
        have h2 : ¬ 8 * (i : Int) < w := by rw [hi]; unfold wX; omega
        rw [sosC, if_pos h1, if_neg h2]
        have := ihn _ 0 (j + 1) (by omega) (Nat.le_refl _) (by omega)
        rw [show (8 : Int) * ((0 : Nat) : Int) = 0 from rfl, show 8 * (((j + 1 : Nat)) : Int) = 8 * (j : Int) + 8 from by omega] at this
        rw [this, hi, Nat.add_mul, Nat.one_mul, Nat.add_zero]
    | succ m ihm =>
      intro i j hn hm hi
      by_cases hj : hY h ≤ j
      · exact sosC_none hj
      · have h1 : 8 * (j : Int) < h := by unfold hY at hj; omega
        by_cases hi2 : i = wX w
        · have h2 : ¬ 8 * (i : Int) < w := by rw [hi2]; unfold wX; omega
          rw [sosC, if_pos h1, if_neg h2]
          have := ihn _ 0 (j + 1) (by omega) (Nat.le_refl _) (by omega)
          rw [show (8 : Int) * ((0 : Nat) : Int) = 0 from rfl, show 8 * (((j + 1 : Nat)) : Int) = 8 * (j : Int) + 8 from by omega] at this
          rw [this, hi2, Nat.add_mul, Nat.one_mul, Nat.add_zero]
        · have hi3 : i < wX w := by omega
          have h2 : 8 * (i : Int) < w := by unfold wX at hi3; omega
          have hp : j * wX w + i < wX w * hY h := by
            have := Nat.mul_le_mul_right (wX w) (show j + 1 ≤ hY h by omega)
            rw [Nat.add_mul, Nat.one_mul] at this
            rw [Nat.mul_comm (wX w)]; omega
          rw [sosC, if_pos h1, if_pos h2]
          have := ihm (i + 1) j hn (by omega) (by omega)
          rw [show 8 * (((i + 1 : Nat)) : Int) = 8 * (i : Int) + 8 from by omega] at this
          rw [this]
          conv => rhs; rw [List.drop_eq_getElem_cons (by rw [List.length_range]; exact hp), List.map_cons, List.getElem_range]
          have e1 : (j * wX w + i) % wX w = i := by rw [Nat.mul_comm, Nat.mul_add_mod, Nat.mod_eq_of_lt hi3]
          have e2 : (j * wX w + i) / wX w = j := by rw [Nat.mul_comm, Nat.mul_add_div (by omega), Nat.div_eq_of_lt hi3, Nat.add_zero]
          unfold blkM
          rw [e1, e2]
          rfl
theorem sosC_eq (hw : 1 ≤ w) : sosC w h pix quant 0 0 = (List.range (wX w * hY h)).map (blkM w h pix quant) := by
  have := sosC_at (h := h) (pix := pix) (quant := quant) hw _ _ 0 0 (Nat.le_refl _) (Nat.le_refl _) (Nat.zero_le _)
  rw [Nat.zero_mul, Nat.add_zero, List.drop_zero] at this
  exact this
theorem blkM_len (m : Nat) : (blkM w h pix quant m).length = 64 := coefL_len _ _ _ _
theorem flat_cut {f : Nat → List Int} (hf : ∀ m, (f m).length = 64) : ∀ (n s m : Nat), m < n → cutL ((List.range' s n).map f).flatten (64 * m) 64 = f (s + m)
  | 0, _, _, h => by omega
  | n + 1, s, 0, _ => by
    unfold cutL
    rw [Nat.mul_zero, List.drop_zero, List.range'_succ, List.map_cons, List.flatten_cons, Nat.add_zero]
    have := hf s
    rw [List.take_append_of_le_length (by omega), List.take_of_length_le (by omega)]; rfl
  | n + 1, s, m + 1, h => by
    have ih := flat_cut hf n (s + 1) m (by omega)
    unfold cutL at ih ⊢
    rw [List.range'_succ, List.map_cons, List.flatten_cons, show 64 * (m + 1) = (f s).length + 64 * m from by rw [hf]; omega, List.drop_append, List.drop_of_length_le (Nat.le_add_right _ _), List.nil_append, Nat.add_sub_cancel_left, ih]
    congr 1; omega
end
end
end Go.Proofs.YtljjbikbfeigdaaGreatDoor
namespace Go.Proofs.YtljjbikbfeigdaaGreatDoor
noncomputable section
open Go
def preG7 : List Int := [255, 216, 255, 219, 0, 132, 0]
def midA (w h : Int) : List Int := [255, 192, 0, 11, 8, h / 256, h % 256, w / 256, w % 256, 1, 1, 17, 0, 255, 196, 0, 210]
def midB : List Int := [255, 218, 0, 8, 1, 1, 0, 0, 63, 0]
theorem hdr_eq (q w h : Int) : hdrG q w h ++ sosHdr = preG7 ++ (cutL (quantL q) 0 64 ++ ([1] ++ (cutL (quantL q) 64 64 ++ (midA w h ++ (dhtG ++ midB))))) := by
  unfold hdrG sosHdr midA midB dhtG preG7
  simp only [List.append_assoc, List.cons_append, List.nil_append]
theorem qcut_len (q : Int) : (cutL (quantL q) 0 64).length = 64 ∧ (cutL (quantL q) 64 64).length = 64 := by
  have : (quantL q).length = 128 := by simp [quantL]
  unfold cutL
  rw [List.length_take, List.length_take, List.length_drop, List.length_drop, this]
  omega
theorem dhtG_len : dhtG.length = 208 := by kernel_rfl
theorem bits_tail {X L P : List Int} {k : Nat} (h : X ++ P = L ++ List.replicate k (1 : Int)) (hp : P.length ≤ k) : X = L ++ List.replicate (k - P.length) 1 := by
  have e : List.replicate k (1 : Int) = List.replicate (k - P.length) 1 ++ List.replicate P.length 1 := by rw [List.replicate_append_replicate]; congr 1; omega
  rw [e, ← List.append_assoc] at h
  exact (List.append_inj' h (by simp)).1
theorem qimg {q w h : Int} {pix : List Int} (h1 : 1 ≤ w) (h2 : 1 ≤ h) (hl : (pix.length : Int) = w * h) (hp : allIn 0 255 pix = true) : Img w h pix (quantL q) :=
  ⟨h1, h2, hl, hp, by simp [quantL], by
    unfold allIn quantL
    rw [List.all_eq_true]
    intro x hx
    obtain ⟨k, _, rfl⟩ := List.mem_map.1 hx
    have : 1 ≤ qel q k ∧ qel q k ≤ 255 := by unfold qel; split <;> (try split) <;> omega
    simp only [Bool.and_eq_true, decide_eq_true_eq]; exact this⟩
theorem gray_form {q w h : Int} {pix : List Int} (I : Img w h pix (quantL q)) : ∃ (B : List Int) (j : Nat), isBytes B ∧ j < 8 ∧ bytesB B = sosBits w h pix (quantL q) 0 0 0 ++ List.replicate j 1 ∧ grayF q w h pix = (hdrG q w h ++ sosHdr) ++ (stuffAll B ++ [255, 217]) := by
  have h0 : Rep (hdrG q w h ++ sosHdr) ⟨hdrG q w h ++ sosHdr, 0, 0⟩ [] :=
    ⟨[], [], fun b hb => by simp at hb, fun b hb => by simp at hb, by simp, by simp [stuffAll, bval], rfl⟩
  have hr := rep_sos I _ _ (Nat.le_refl _) (Nat.le_refl _) (Int.le_refl 0) (Int.le_refl 0) (by omega : (-1024 : Int) ≤ 0) (by omega : (0 : Int) ≤ 1023) h0
  obtain ⟨B, P, b1, b2, b3, b4, b5⟩ := hr
  rw [List.nil_append] at b5
  refine ⟨B, 7 - P.length, b1, by omega, bits_tail b5.symm (by omega), ?_⟩
  unfold grayF sosF
  rw [b4, List.append_assoc]
end
end Go.Proofs.YtljjbikbfeigdaaGreatDoor
namespace Go.Proofs.YtljjbikbfeigdaaGreatDoor
noncomputable section
open Go
theorem drop_step {α : Type} {D A R : List α} {n m : Nat} (h : D.drop n = A ++ R) (hm : n + A.length = m) : D.drop m = R := by
  subst hm
  rw [← List.drop_drop, h, List.drop_left]
theorem cutL_of {D A R : List Int} {n k : Nat} (h : D.drop n = A ++ R) (hk : A.length = k) : cutL D n k = A := by
  subst hk
  unfold cutL
  rw [h, List.take_left]
theorem at8_of {D R : List Int} {n k : Nat} (h : D.drop n = R) : at8 D ((n + k : Nat) : Int) = at8 R (k : Int) := by
  subst h
  unfold at8
  rw [Int.toNat_natCast, Int.toNat_natCast, List.getD_eq_getElem?_getD, List.getD_eq_getElem?_getD, List.getElem?_drop]
theorem nb_nat {w h : Int} (h1 : 1 ≤ w) (h2 : 1 ≤ h) : (nbOf w h).toNat = wX w * hY h := by
  have e1 : (w + 7) / 8 = ((wX w : Nat) : Int) := by unfold wX; omega
  have e2 : (h + 7) / 8 = ((hY h : Nat) : Int) := by unfold hY; omega
  unfold nbOf
  rw [e1, e2, ← Int.natCast_mul, Int.toNat_natCast]
theorem zeroN_nat {n : Int} {N : Nat} (h : n.toNat = N) : zeroN n = List.replicate (64 * N) 0 := by
  unfold zeroN
  congr 1; omega
theorem inBl_coef {w h : Int} {pix quant : List Int} (I : Img w h pix quant) {x y : Int} (hx : 0 ≤ x) (hy : 0 ≤ y) : inBl (coefL 0 quant (blkAt w h pix x y) 0 64) = true := by
  have c0 := I.coef hx hy (k := 0) (by omega) (by omega)
  have e : coefL 0 quant (blkAt w h pix x y) 0 64 = coef 0 quant (blkAt w h pix x y) 0 :: coefL 0 quant (blkAt w h pix x y) 1 63 := coefL_cons _ _ _ _
  unfold inBl
  rw [e]
  simp only [Bool.and_eq_true, decide_eq_true_eq, List.tail_cons, List.all_eq_true]
  refine ⟨c0.1, c0.2.1, fun v hv => ?_⟩
  unfold coefL at hv
  obtain ⟨k, hk, rfl⟩ := List.mem_map.1 hv
  rw [List.mem_range'_1] at hk
  have := I.coef hx hy (k := (k : Int)) (by omega) (by omega)
  exact ⟨this.2.2 (by omega), this.2.1⟩
theorem bytes_in {B : List Int} (h : isBytes B) : allIn 0 255 B = true := by
  unfold allIn
  rw [List.all_eq_true]
  intro x hx
  have := h x hx
  simp only [Bool.and_eq_true, decide_eq_true_eq]; exact this
theorem in_bytes {B : List Int} (h : allIn 0 255 B = true) : isBytes B := by
  intro x hx
  unfold allIn at h
  have := List.all_eq_true.1 h x hx
  simpa using this
theorem isBytes_app {A B : List Int} (ha : isBytes A) (hb : isBytes B) : isBytes (A ++ B) := by
  intro x hx
  rcases List.mem_append.1 hx with h | h
  · exact ha x h
  · exact hb x h
theorem stuff_bytes {B : List Int} (h : isBytes B) : isBytes (stuffAll B) := by
  intro x hx
  unfold stuffAll at hx
  obtain ⟨b, hb, hx⟩ := List.mem_flatMap.1 hx
  unfold stuffed at hx
  have := h b hb
  split at hx
  · simp only [List.mem_cons, List.not_mem_nil, or_false] at hx
    omega
  · rw [List.mem_singleton.1 hx]; exact this
/-- What the reader finds in the stream of a gray image. -/
structure Found (q w h : Int) (pix D : List Int) : Prop where
  ok : gOk D = true
  wide : wdD D = w
  high : hgD D = h
  quant : cutL D 7 64 = cutL (quantL q) 0 64
  blocks : blD D = ((List.range (wX w * hY h)).map (blkM w h pix (quantL q))).flatten
  bytes : allIn 0 255 D = true
theorem gray_found {q w h : Int} {pix : List Int} (I : Img w h pix (quantL q)) (hw : w ≤ 65535) (hh : h ≤ 65535) (hwh : w * h ≤ 65536) : Found q w h pix (grayF q w h pix) := by
  obtain ⟨B, j, b1, b2, b3, b4⟩ := gray_form I
  have hw1 := I.w1
  have hh1 := I.h1
  generalize hD : grayF q w h pix = D at *
  rw [hdr_eq] at b4
  simp only [List.append_assoc] at b4
  have d0 : D.drop 0 = preG7 ++ (cutL (quantL q) 0 64 ++ ([1] ++ (cutL (quantL q) 64 64 ++ (midA w h ++ (dhtG ++ (midB ++ (stuffAll B ++ [255, 217]))))))) := b4
  have d7 := drop_step (m := 7) d0 rfl
  have d71 := drop_step (m := 71) d7 (by rw [(qcut_len q).1])
  have d72 := drop_step (m := 72) d71 rfl
  have d136 := drop_step (m := 136) d72 (by rw [(qcut_len q).2])
  have d153 := drop_step (m := 153) d136 rfl
  have d361 := drop_step (m := 361) d153 (by rw [dhtG_len])
  have d371 := drop_step (m := 371) d361 rfl
  have wd : wdD D = w := by
    have e1 : at8 D 143 = w / 256 := at8_of (k := 7) d136
    have e2 : at8 D 144 = w % 256 := at8_of (k := 8) d136
    unfold wdD
    rw [e1, e2]; omega
  have hg : hgD D = h := by
    have e1 : at8 D 141 = h / 256 := at8_of (k := 5) d136
    have e2 : at8 D 142 = h % 256 := at8_of (k := 6) d136
    unfold hgD
    rw [e1, e2]; omega
  have hN : (nbD D).toNat = wX w * hY h := by
    unfold nbD
    rw [wd, hg]
    exact nb_nat hw1 hh1
  have hC := sosC_eq (w := w) (h := h) (pix := pix) (quant := quantL q) hw1
  have hCl : (sosC w h pix (quantL q) 0 0).length = wX w * hY h := by rw [hC]; simp
  have hrd : Rd D [255, 217] 371 0 (sosBits w h pix (quantL q) 0 0 0 ++ List.replicate j 1) := ⟨371, B, rfl, d371, b1, by omega, by omega, fun _ => rfl, by rw [b3]; rfl⟩
  obtain ⟨s1, a1, u1, s2, s3⟩ := rd_sos I b2 _ _ (A := []) (M := 0) (Nat.le_refl _) (Nat.le_refl _) (Int.le_refl 0) (Int.le_refl 0) (by omega : (-1024 : Int) ≤ 0) (by omega : (0 : Int) ≤ 1023) rfl hrd
  rw [List.nil_append, hCl] at s1 s2
  obtain ⟨l1, l2⟩ := rd_al b2 s3
  obtain ⟨r1, r2⟩ := rd_end l2
  have hz := zeroN_nat hN
  have hbl : blD D = ((List.range (wX w * hY h)).map (blkM w h pix (quantL q))).flatten := by
    unfold blD scBl
    rw [hN, hz, s2, hC, List.nil_append]
    rfl
  have hend : endD D = alAt D (alN u1) a1 u1 := by
    unfold endD scAt
    rw [hN, hz, s2]
    rfl
  obtain ⟨t1, t2, t3⟩ := at8_drop r2
  obtain ⟨t4, t5, t6⟩ := at8_drop t3
  have tl := congrArg List.length r2
  rw [List.length_drop] at tl
  have hq := in_bytes (B := quantL q) (by
    have := I.q
    unfold allIn at this ⊢
    rw [List.all_eq_true] at this ⊢
    intro x hx
    have := this x hx
    simp only [Bool.and_eq_true, decide_eq_true_eq] at this ⊢
    omega)
  have hqc : ∀ s n, isBytes (cutL (quantL q) s n) := fun s n x hx => hq x (List.mem_of_mem_drop (List.mem_of_mem_take hx))
  have hq1 : ∀ s n, (cutL (quantL q) s n).all (fun x => decide (1 ≤ x)) = true := by
    intro s n
    rw [List.all_eq_true]
    intro x hx
    have := List.all_eq_true.1 I.q x (List.mem_of_mem_drop (List.mem_of_mem_take hx))
    simp only [Bool.and_eq_true, decide_eq_true_eq] at this ⊢
    exact this.1
  have c7 : cutL D 7 64 = cutL (quantL q) 0 64 := cutL_of d7 (qcut_len q).1
  refine ⟨?_, wd, hg, c7, hbl, ?_⟩
  · have g1 : cutL D 0 7 = [255, 216, 255, 219, 0, 132, 0] := cutL_of d0 rfl
    have g2 : at8 D 71 = 1 := at8_of (k := 0) d71
    have g3 : cutL D 72 64 = cutL (quantL q) 64 64 := cutL_of d72 (qcut_len q).2
    have g4 : cutL D 136 5 = [255, 192, 0, 11, 8] := by unfold cutL; rw [d136]; rfl
    have g5 : cutL D 145 4 = [1, 1, 17, 0] := by
      unfold cutL
      rw [show (145 : Nat) = 136 + 9 from rfl, ← List.drop_drop, d136]; rfl
    have g6 : cutL D 149 4 = [255, 196, 0, 210] := by
      unfold cutL
      rw [show (149 : Nat) = 136 + 13 from rfl, ← List.drop_drop, d136]; rfl
    have g7 : cutL D 153 208 = dhtG := cutL_of d153 dhtG_len
    have g8 : cutL D 361 4 = [255, 218, 0, 8] := by unfold cutL; rw [d361]; rfl
    have g9 : cutL D 365 6 = sosG := by
      unfold cutL
      rw [show (365 : Nat) = 361 + 4 from rfl, ← List.drop_drop, d361]; rfl
    have g10 : inAll (nbD D).toNat (blD D) = true := by
      unfold inAll
      rw [List.all_eq_true]
      intro m hm
      rw [hN, List.mem_range] at hm
      rw [hbl, List.range_eq_range', flat_cut blkM_len _ _ _ hm]
      exact inBl_coef I (Int.mul_nonneg (by omega) (Int.natCast_nonneg _)) (Int.mul_nonneg (by omega) (Int.natCast_nonneg _))
    have et : ((alAt D (alN u1) a1 u1).toNat : Int) = alAt D (alN u1) a1 u1 := by omega
    rw [hN] at g10
    unfold gOk
    rw [g1, c7, hq1, g2, g3, hq1, g4, wd, hg, g5, g6, g7, g8, g9, hN, hz, s1, hend, g10]
    rw [et] at t1
    have t4' : at8 D (alAt D (alN u1) a1 u1 + 1) = 217 := by rw [← t4]; congr 1; omega
    have hlen : alAt D (alN u1) a1 u1 + 2 = (D.length : Int) := by
      simp only [List.length_cons, List.length_nil] at tl
      omega
    rw [t1, t4', hlen]
    simp only [decide_true, Bool.and_self, Bool.and_true, Bool.true_and, hw1, hh1, hwh]
  · refine bytes_in ?_
    rw [b4]
    have m1 : isBytes preG7 := in_bytes (by kernel_rfl)
    have m3 : isBytes ([1] : List Int) := in_bytes (by kernel_rfl)
    have m5 : isBytes (midA w h) := by
      intro x hx
      unfold midA at hx
      simp only [List.mem_cons, List.not_mem_nil, or_false] at hx
      omega
    have m6 : isBytes dhtG := in_bytes (by kernel_rfl)
    have m7 : isBytes midB := in_bytes (by kernel_rfl)
    have m8 : isBytes ([255, 217] : List Int) := in_bytes (by kernel_rfl)
    exact isBytes_app m1 (isBytes_app (hqc _ _) (isBytes_app m3 (isBytes_app (hqc _ _) (isBytes_app m5 (isBytes_app m6 (isBytes_app m7 (isBytes_app (stuff_bytes b1) m8)))))))
end
end Go.Proofs.YtljjbikbfeigdaaGreatDoor
namespace Go.Proofs.YtljjbikbfeigdaaGreatDoor
noncomputable section
open Go
def minI : T := .lit (-9223372036854775808)
def maxI : T := .lit 9223372036854775807
/-- the arguments of a law on a gray image, and what is known of them -/
def gArgs : List SR := [slR (.ro 0) z0 (.iv 20) (.iv 9), .v (.one (cI (.iv 21))), .v (.one (cI (.iv 22))), .v (.one (cI (.iv 30)))]
def gRo : List (Ref × IntKind × T) := (.ro 0, .u8, .av 5) :: roQ
def gPre : List T := [.eq (.len (.av 5)) (.iv 20), .le (.iv 20) (.iv 9), allT 0 255 (.av 5)] ++ inR minI (.iv 21) maxI ++ inR minI (.iv 22) maxI ++ inR minI (.iv 30) maxI
end
end Go.Proofs.YtljjbikbfeigdaaGreatDoor
namespace Go.Proofs.YtljjbikbfeigdaaGreatDoor
noncomputable section
open Go
end
end Go.Proofs.YtljjbikbfeigdaaGreatDoor
namespace Go.Proofs.YtljjbikbfeigdaaGreatDoor
noncomputable section
open Go
theorem gUnzigN : Tryz.prog.globalNamed "jpegcodec/pub/jpeg.unzig" = some 4 := by kernel_rfl
theorem gBitN : Tryz.prog.globalNamed "jpegcodec/pub/jpeg.bitCount" = some 5 := by kernel_rfl
theorem gQuantN : Tryz.prog.globalNamed "jpegcodec/pub/jpeg.unscaledQuant" = some 2 := by kernel_rfl
theorem tUnzig : (Tryz.prog.globals[4]?).map (·.type) = some 27 := by kernel_rfl
theorem tQuant : (Tryz.prog.globals[2]?).map (·.type) = some 133 := by kernel_rfl
theorem und27 : Tryz.prog.underlying 27 = some (.array 64 3) := by kernel_rfl
theorem und133 : Tryz.prog.underlying 133 = some (.array 2 132) := by kernel_rfl
theorem und132 : Tryz.prog.underlying 132 = some (.array 64 5) := by kernel_rfl
theorem dUnzig : (Rows.laid_jpegcodec_pub_jpeg_unzig : DataW Unit) = Lib.tabData .i64 (Z.fa 45 0 0 0 0 [] [] [] []) := by kernel_rfl
theorem dBit : (Rows.laid_jpegcodec_pub_jpeg_bitCount : DataW Unit) = Lib.tabData .u8 bitCountL := by kernel_rfl
theorem dQuant : (Rows.laid_jpegcodec_pub_jpeg_unscaledQuant : DataW Unit) = .agg [Lib.tabData .u8 (uqL.take 64), Lib.tabData .u8 (uqL.drop 64)] := by kernel_rfl
theorem plain : (Rows.fnGrayStreamRow.laid.filter fun x => x.2.handleName?.isNone) = [("jpegcodec/pub/jpeg.unzig", Rows.laid_jpegcodec_pub_jpeg_unzig), ("jpegcodec/pub/jpeg.bitCount", Rows.laid_jpegcodec_pub_jpeg_bitCount), ("jpegcodec/pub/jpeg.unscaledQuant", Rows.laid_jpegcodec_pub_jpeg_unscaledQuant)] := by kernel_rfl
theorem tBit : (Tryz.prog.globals[5]?).map (·.type) = some 251 := by kernel_rfl
theorem und251 : Tryz.prog.underlying 251 = some (.array 256 5) := by kernel_rfl
theorem und3 : Tryz.prog.underlying 3 = some (.int .i64) := by kernel_rfl
theorem und5 : Tryz.prog.underlying 5 = some (.int .u8) := by kernel_rfl
theorem co3 : Tryz.prog.cellsOf 3 = 1 := by kernel_rfl
theorem co5 : Tryz.prog.cellsOf 5 = 1 := by kernel_rfl
theorem co27 : Tryz.prog.cellsOf 27 = 64 := by kernel_rfl
theorem co251 : Tryz.prog.cellsOf 251 = 256 := by kernel_rfl
theorem co132 : Tryz.prog.cellsOf 132 = 64 := by kernel_rfl
theorem co133 : Tryz.prog.cellsOf 133 = 128 := by kernel_rfl
theorem cells_of_two {w : World} {fuel : Nat} {cs : List Value} {X Y : List Int} {p : List MemPlace} (h : DataW.trod (fun _ => ()) Tryz.prog w 0 (fun _ => true) false fuel 133 cs = some (.agg [Lib.tabData .u8 X, Lib.tabData .u8 Y], p)) :
    cs = (X ++ Y).map fun z => Value.int .u8 z := by
  cases fuel with
  | zero => simp [DataW.trod] at h
  | succ fuel =>
    simp only [DataW.trod, und133, co132, co133] at h
    split at h
    · rename_i hl
      obtain ⟨xs, hm, hx⟩ := Option.map_eq_some_iff.1 h
      have hxs : xs.map (·.1) = [Lib.tabData .u8 X, Lib.tabData .u8 Y] := by
        have := congrArg Prod.fst hx
        simpa using this
      obtain ⟨b0, hb0, hf0⟩ := Lib.mapM_at hm 0 0 rfl
      obtain ⟨b1, hb1, hf1⟩ := Lib.mapM_at hm 1 1 rfl
      have e0 : b0.1 = Lib.tabData .u8 X := by
        have : (xs.map (·.1))[0]? = some b0.1 := by simp [hb0]
        rw [hxs] at this; simpa using this.symm
      have e1 : b1.1 = Lib.tabData .u8 Y := by
        have : (xs.map (·.1))[1]? = some b1.1 := by simp [hb1]
        rw [hxs] at this; simpa using this.symm
      obtain ⟨b00, b01⟩ := b0
      obtain ⟨b10, b11⟩ := b1
      simp only at e0 e1
      subst e0
      subst e1
      have c0 := Lib.cells_of_tab und132 und5 co5 co132 hf0
      have c1 := Lib.cells_of_tab und132 und5 co5 co132 hf1
      rw [List.map_append, ← c0, ← c1]
      simp only [Nat.zero_mul, Nat.one_mul, List.drop_zero]
      rw [List.take_of_length_le (l := cs.drop 64) (by rw [List.length_drop]; omega), List.take_append_drop]
    · cases h
end
end Go.Proofs.YtljjbikbfeigdaaGreatDoor
namespace Go.Proofs.YtljjbikbfeigdaaGreatDoor
noncomputable section
open Go
def gArgsN : List SR := [.v (.one .nils), .v (.one (cI (.iv 21))), .v (.one (cI (.iv 22))), .v (.one (cI (.iv 30)))]
def gPreN : List T := inR minI (.iv 21) maxI ++ inR minI (.iv 22) maxI ++ inR minI (.iv 30) maxI
end
end Go.Proofs.YtljjbikbfeigdaaGreatDoor
namespace Go.Proofs.YtljjbikbfeigdaaGreatDoor
noncomputable section
open Go
end
end Go.Proofs.YtljjbikbfeigdaaGreatDoor
namespace Go.Proofs.YtljjbikbfeigdaaGreatDoor
noncomputable section
open Go Go.RowKit
/-- What the walk is told of the package variables. -/
def GlobOk (w : World) : Prop :=
  (∀ j v, (Z.fa 45 0 0 0 0 [] [] [] [])[j]? = some v → w.cell? ⟨4, j, none⟩ = some (.int .i64 v)) ∧ (∀ j v, bitCountL[j]? = some v → w.cell? ⟨5, j, none⟩ = some (.int .u8 v)) ∧ (∀ j v, uqL[j]? = some v → w.cell? ⟨2, j, none⟩ = some (.int .u8 v))
/-- What the letters stand for. -/
def envG (blk off : Nat) (len cap w h q : Int) (pix : List Int) : Env :=
  { i := fun k => if k = 20 then len else if k = 9 then cap else if k = 21 then w else if k = 22 then h else q, a := fun _ => pix, blk := fun _ => blk, off := fun _ => off }
theorem below_of {S : Sig} {ρ : Env} {w w' : World} {h : Hp} (hh : HpOk S ρ w h w') (hrw : h.rw = []) (hl : ρ.loose = []) : Below w.heap.size w w' := by
  refine ⟨hh.os, hh.tape, hh.output, by rw [hh.size]; omega, fun k hk => hh.frame k hk (by rw [hl]; simp) fun x hx => by rw [hrw] at hx; cases hx⟩
theorem cell_lt {w : World} {b o : Nat} {v : Value} (h : w.cell? ⟨b, o, none⟩ = some v) : b < w.heap.size := by
  unfold World.cell? at h
  simp only at h
  rcases Nat.lt_or_ge b w.heap.size with hl | hl
  · exact hl
  · rw [Array.getElem?_eq_none hl] at h; cases h
theorem call_gray {f : Nat} {c : Ctr} (hc : CtrOk Tryz.prog Z f c) (ha : c.args = gArgs) (hhp : c.hp = { rw := [], ro := gRo, nv := 1000 }) (hpre : c.pre = gPre) (hv : c.val = .v (.one (.bool .tt))) (hh' : c.hp'.rw = []) {w : World} (hg : GlobOk w)
    {x : Addr} {len cap : Nat} {z : List Int} {a1 a2 a3 : Int} (hx : x.spot = none) (hb : x.block < w.heap.size) (hl : len ≤ cap) (hz : z.length = cap) (hcell : ∀ i, i < z.length → w.cell? (x.add i) = some (.int .u8 (z.getD i 0)))
    (hwf : ∀ n ∈ z, (Lit.int .u8 n).wf = true) (w1 : (Lit.int .i64 a1).wf = true) (w2 : (Lit.int .i64 a2).wf = true) (w3 : (Lit.int .i64 a3).wf = true) :
    Calls Tryz.prog f #[.slice (some x) len cap, .int .i64 a1, .int .i64 a2, .int .i64 a3] w fun e w' => e = .returned (.bool true) ∧ Below w.heap.size w w' := by
  obtain ⟨g1, g2, g3⟩ := hg
  have l4 := cell_lt (g1 0 0 (by kernel_rfl))
  have l5 := cell_lt (g2 0 0 (by kernel_rfl))
  have l2 := cell_lt (g3 0 16 (by kernel_rfl))
  have hin : ∀ n ∈ z, 0 ≤ n ∧ n ≤ 255 := by
    intro n hn
    have := hwf n hn
    simp only [Lit.wf, Bool.and_eq_true, decide_eq_true_eq] at this
    exact this
  let ρ : Env := envG x.block x.off len cap a1 a2 a3 (z.take len)
  have hHp : HpOk Z ρ w c.hp w := by
    rw [hhp]
    refine ⟨fun x hx => (by cases hx), fun x hx => (by cases hx), fun x hx => (by cases hx), List.nodup_nil, ?_, fun x _ y hy => (by cases hy), ?_, rfl, fun k _ => rfl, fun i _ _ _ => rfl, fun o ho => (by cases ho), rfl, rfl, rfl⟩
    · intro y hy j v hv
      simp only [gRo, roQ, roE, List.cons_append, List.nil_append, List.mem_cons, List.not_mem_nil, or_false] at hy
      rcases hy with rfl | rfl | rfl | rfl
      · have hj : j < (z.take len).length := (List.getElem?_eq_some_iff.1 hv).1
        rw [List.length_take] at hj
        have hz' : z.getD j 0 = v := by
          have hv' : (z.take len)[j]? = some v := hv
          rw [List.getElem?_take, if_pos (by omega)] at hv'
          rw [List.getD_eq_getElem?_getD, hv']; rfl
        have := hcell j (by omega)
        rw [hz'] at this
        have e : x.add j = ⟨x.block, x.off + j, none⟩ := by
          unfold Addr.add
          split
          · rename_i h0
            subst h0
            rw [← hx]; rfl
          · rfl
        rw [e] at this
        exact this
      · have := g2 j v hv
        rw [show (Ref.off ρ (.glob 5)) + j = j from Nat.zero_add j]
        exact this
      · have := g1 j v hv
        rw [show (Ref.off ρ (.glob 4)) + j = j from Nat.zero_add j]
        exact this
      · have := g3 j v hv
        rw [show (Ref.off ρ (.glob 2)) + j = j from Nat.zero_add j]
        exact this
    · intro y hy
      simp only [gRo, roQ, roE, List.cons_append, List.nil_append, List.mem_cons, List.not_mem_nil, or_false] at hy
      rcases hy with rfl | rfl | rfl | rfl
      · exact hb
      · exact l5
      · exact l4
      · exact l2
  have hmet : Met Z ρ c.pre := by
    rw [hpre]
    have hlen : ((z.take len).length : Int) = len := by rw [List.length_take]; omega
    have hpi : allIn 0 255 (z.take len) = true := by
      unfold allIn
      rw [List.all_eq_true]
      intro n hn
      have := hin n (List.mem_of_mem_take hn)
      simp only [Bool.and_eq_true, decide_eq_true_eq]; exact this
    simp only [Lit.wf, Bool.and_eq_true, decide_eq_true_eq] at w1 w2 w3
    simp only [gPre, minI, maxI, allT, z0, lenFacts, inR, List.flatMap_cons, List.flatMap_nil, List.append_nil, List.append_assoc, List.cons_append, List.nil_append, and_true, ↓b_le, ↓b_lt, ↓b_eq, ↓b_aeq, ↓f_le, ↓f_lt, ↓f_eq, ↓f_aeq, ↓b_not, ↓f_not, ↓b_and, ↓b_or, ↓f_and, ↓f_or, ↓b_tt, ↓b_ff, ↓f_tt, ↓f_ff, met_cons, met_nil, hyp_cons, hyp_nil, T.I, T.A, T.B, Int.toNat_zero, List.drop_zero, and_true, implies_true, VC.sem, spliceL_cast, shr_24_u32, shr_8_u32, shr_8_i32, shr_14_i32, shr_12_i32, shr_18_i32, shr_2_i32, shr_1_i32, shr_1_i64, shr_8_i64, shr_4_i64, shr_16_u32, shr_4_u8, shr_1_u8]
    exact ⟨hlen, by show (len : Int) ≤ cap; omega, hpi, w1.1, w1.2, w2.1, w2.2, w3.1, w3.2⟩
  have := hc ρ w w hHp hmet (by rw [ha]; intro x hx; simp only [gArgs, List.mem_cons, List.not_mem_nil, or_false] at hx; rcases hx with rfl | rfl | rfl | rfl <;> trivial) (fun _ => rfl)
  rw [ha] at this
  have ea : (gArgs.map (SR.den Z ρ w.heap.size)).toArray = #[.slice (some x) len cap, .int .i64 a1, .int .i64 a2, .int .i64 a3] := by
    have ex : (⟨x.block, x.off + 0 + (0 : Int).toNat, none⟩ : Addr) = x := by
      obtain ⟨b, o, s⟩ := x
      simp only at hx
      subst hx
      rfl
    show #[Value.slice (some ⟨x.block, x.off + 0 + (0 : Int).toNat, none⟩) ((len : Int)).toNat ((cap : Int)).toNat, .int .i64 a1, .int .i64 a2, .int .i64 a3] = _
    rw [ex, Int.toNat_natCast, Int.toNat_natCast]
  rw [ea] at this
  refine this.mono fun e w' ⟨ρ', q1, q2, q3, q4, q5⟩ => ⟨?_, below_of q5 hh' (q1.loose.trans rfl)⟩
  rw [q4, hv]; rfl
theorem call_grayN {f : Nat} {c : Ctr} (hc : CtrOk Tryz.prog Z f c) (ha : c.args = gArgsN) (hhp : c.hp = { rw := [], nv := 1000 }) (hpre : c.pre = gPreN) (hv : c.val = .v (.one (.bool .tt))) (hh' : c.hp'.rw = []) {w : World}
    {a1 a2 a3 : Int} (w1 : (Lit.int .i64 a1).wf = true) (w2 : (Lit.int .i64 a2).wf = true) (w3 : (Lit.int .i64 a3).wf = true) :
    Calls Tryz.prog f #[.slice none 0 0, .int .i64 a1, .int .i64 a2, .int .i64 a3] w fun e w' => e = .returned (.bool true) ∧ Below w.heap.size w w' := by
  let ρ : Env := envG 0 0 0 0 a1 a2 a3 []
  have hHp : HpOk Z ρ w c.hp w := by
    rw [hhp]
    exact ⟨fun x hx => (by cases hx), fun x hx => (by cases hx), fun x hx => (by cases hx), List.nodup_nil, fun x hx => (by cases hx), fun x hx => (by cases hx), fun x hx => (by cases hx), rfl, fun k _ => rfl, fun i _ _ _ => rfl, fun o ho => (by cases ho), rfl, rfl, rfl⟩
  have hmet : Met Z ρ c.pre := by
    rw [hpre]
    simp only [Lit.wf, Bool.and_eq_true, decide_eq_true_eq] at w1 w2 w3
    simp only [gPreN, minI, maxI, lenFacts, inR, List.flatMap_cons, List.flatMap_nil, List.append_nil, List.append_assoc, List.cons_append, List.nil_append, and_true, ↓b_le, ↓b_lt, ↓b_eq, ↓b_aeq, ↓f_le, ↓f_lt, ↓f_eq, ↓f_aeq, ↓b_not, ↓f_not, ↓b_and, ↓b_or, ↓f_and, ↓f_or, ↓b_tt, ↓b_ff, ↓f_tt, ↓f_ff, met_cons, met_nil, hyp_cons, hyp_nil, T.I, T.A, T.B, Int.toNat_zero, List.drop_zero, and_true, implies_true, VC.sem, spliceL_cast, shr_24_u32, shr_8_u32, shr_8_i32, shr_14_i32, shr_12_i32, shr_18_i32, shr_2_i32, shr_1_i32, shr_1_i64, shr_8_i64, shr_4_i64, shr_16_u32, shr_4_u8, shr_1_u8]
    exact ⟨w1.1, w1.2, w2.1, w2.2, w3.1, w3.2⟩
  have := hc ρ w w hHp hmet (by rw [ha]; intro x hx; simp only [gArgsN, List.mem_cons, List.not_mem_nil, or_false] at hx; rcases hx with rfl | rfl | rfl | rfl <;> trivial) (fun _ => rfl)
  rw [ha] at this
  have ea : (gArgsN.map (SR.den Z ρ w.heap.size)).toArray = #[.slice none 0 0, .int .i64 a1, .int .i64 a2, .int .i64 a3] := rfl
  rw [ea] at this
  refine this.mono fun e w' ⟨ρ', q1, q2, q3, q4, q5⟩ => ⟨?_, below_of q5 hh' (q1.loose.trans rfl)⟩
  rw [q4, hv]; rfl
end
end Go.Proofs.YtljjbikbfeigdaaGreatDoor
