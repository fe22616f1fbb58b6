/- Part of the proof of FnGrayEdgesCardSaid: What the package variables hold, by the rows' cell; from contracts to walks: the laws on a gray image's coefficients. -/
import Derived.Test.YtljjbikbfeigdaaGreatDoorGe42
import Derived.ProofKit
import Derived.LaidMore
import Derived.Stop.Joined
set_option linter.all false
namespace Go.Proofs.YtljjbikbfeigdaaGreatDoor
noncomputable section
open Go Go.ChangeShapes Go.WideShapes Go.RowKit
theorem gBasisN : Tryz.prog.globalNamed "jpegcodec/spec.basis" = some 0 := by kernel_rfl
theorem gZigN : Tryz.prog.globalNamed "jpegcodec/spec.zigzag" = some 1 := by kernel_rfl
theorem tBasis : (Tryz.prog.globals[0]?).map (·.type) = some 83 := by kernel_rfl
theorem tZig : (Tryz.prog.globals[1]?).map (·.type) = some 27 := by kernel_rfl
theorem und83 : Tryz.prog.underlying 83 = some (.array 8 82) := by kernel_rfl
theorem und82 : Tryz.prog.underlying 82 = some (.array 8 3) := by kernel_rfl
theorem co82 : Tryz.prog.cellsOf 82 = 8 := by kernel_rfl
theorem co83 : Tryz.prog.cellsOf 83 = 64 := by kernel_rfl
def basisR : List (List Int) := (List.range 8).map fun i => (basisL.drop (i * 8)).take 8
theorem basisR_flat : basisR.flatten = basisL := by kernel_rfl
theorem dBasis : (Rows.laid_jpegcodec_spec_basis : DataW Unit) = .agg (basisR.map (Lib.tabData .i64)) := by kernel_rfl
theorem dZig : (Rows.laid_jpegcodec_spec_zigzag : DataW Unit) = Lib.tabData .i64 (Z.fa 45 0 0 0 0 [] [] [] []) := by kernel_rfl
theorem chunks {α : Type} (m : Nat) : ∀ (rows : List (List α)) (cs : List α), cs.length = rows.length * m → (∀ i r, rows[i]? = some r → (cs.drop (i * m)).take m = r) → cs = rows.flatten
  | [], cs, h, _ => by
    simp at h
    simp [h]
  | r :: rows, cs, h, hr => by
    have h0 := hr 0 r rfl
    rw [Nat.zero_mul, List.drop_zero] at h0
    have ih := chunks m rows (cs.drop m) (by rw [List.length_drop, h, List.length_cons, Nat.add_mul, Nat.one_mul]; omega) (fun i r' hi => by
      have := hr (i + 1) r' (by simpa using hi)
      rw [List.drop_drop]
      rw [Nat.add_mul, Nat.one_mul, Nat.add_comm] at this
      exact this)
    rw [List.flatten_cons, ← h0, ← ih, List.take_append_drop]
theorem cells_of_eight {w : World} {fuel : Nat} {cs : List Value} {rows : List (List Int)} {p : List MemPlace} (hl8 : rows.length = 8) (h : DataW.trod (fun _ => ()) Tryz.prog w 0 (fun _ => true) false fuel 83 cs = some (.agg (rows.map (Lib.tabData .i64)), p)) :
    cs = rows.flatten.map fun z => Value.int .i64 z := by
  cases fuel with
  | zero => simp [DataW.trod] at h
  | succ fuel =>
    simp only [DataW.trod, und83, co82, co83] at h
    split at h
    · rename_i hl
      obtain ⟨xs, hm, hx⟩ := Option.map_eq_some_iff.1 h
      have hxs : xs.map (·.1) = rows.map (Lib.tabData .i64) := by
        have := congrArg Prod.fst hx
        simpa using this
      rw [List.map_flatten]
      refine chunks 8 _ _ (by rw [List.length_map, hl8, hl]) fun i r hi => ?_
      rw [List.getElem?_map, Option.map_eq_some_iff] at hi
      obtain ⟨z, hz, rfl⟩ := hi
      have hi8 : i < 8 := by rw [← hl8]; exact (List.getElem?_eq_some_iff.1 hz).1
      obtain ⟨b, hb, hf⟩ := Lib.mapM_at hm i i (by simp [hi8])
      have e0 : b.1 = Lib.tabData .i64 z := by
        have : (xs.map (·.1))[i]? = some b.1 := by simp [hb]
        rw [hxs, List.getElem?_map, hz] at this
        simpa using this.symm
      obtain ⟨b0, b1⟩ := b
      simp only at e0
      subst e0
      exact Lib.cells_of_tab und82 und3 co3 co82 hf
    · cases h
def tables5 : List (String × DataW Unit) := [("jpegcodec/spec.basis", Rows.laid_jpegcodec_spec_basis), ("jpegcodec/spec.zigzag", Rows.laid_jpegcodec_spec_zigzag), ("jpegcodec/pub/jpeg.unzig", Rows.laid_jpegcodec_pub_jpeg_unzig), ("jpegcodec/pub/jpeg.bitCount", Rows.laid_jpegcodec_pub_jpeg_bitCount), ("jpegcodec/pub/jpeg.unscaledQuant", Rows.laid_jpegcodec_pub_jpeg_unscaledQuant)]
/-- What the walk is told of the package variables. -/
def GlobOk2 (w : World) : Prop := GlobOk w ∧ (∀ j v, basisL[j]? = some v → w.cell? ⟨0, j, none⟩ = some (.int .i64 v)) ∧ (∀ j v, (Z.fa 45 0 0 0 0 [] [] [] [])[j]? = some v → w.cell? ⟨1, j, none⟩ = some (.int .i64 v))
theorem glob2_cells {W : World} (h : laidMet Tryz.prog tables5 W) : GlobOk2 W := by
  unfold tables5 at h
  obtain ⟨ps, ⟨g3, t3, cs3, f3, p3, q3, hg3, ht3, hv3, hd3, ⟨g4, t4, cs4, f4, p4, q4, hg4, ht4, hv4, hd4, ⟨g0, t0, cs0, f0, p0, q0, hg0, ht0, hv0, hd0, ⟨g1, t1, cs1, f1, p1, q1, hg1, ht1, hv1, hd1, ⟨g2, t2, cs2, f2, p2, q2, hg2, ht2, hv2, hd2, _, _⟩, _⟩, _⟩, _⟩, _⟩, _, _⟩ := h
  obtain rfl := Option.some.inj (gUnzigN.symm.trans hg0)
  obtain rfl := Option.some.inj (gBitN.symm.trans hg1)
  obtain rfl := Option.some.inj (gQuantN.symm.trans hg2)
  obtain rfl := Option.some.inj (gBasisN.symm.trans hg3)
  obtain rfl := Option.some.inj (gZigN.symm.trans hg4)
  obtain rfl := Option.some.inj (tUnzig.symm.trans ht0)
  obtain rfl := Option.some.inj (tBit.symm.trans ht1)
  obtain rfl := Option.some.inj (tQuant.symm.trans ht2)
  obtain rfl := Option.some.inj (tBasis.symm.trans ht3)
  obtain rfl := Option.some.inj (tZig.symm.trans ht4)
  rw [dUnzig] at hd0
  rw [dBit] at hd1
  rw [dQuant] at hd2
  rw [dBasis] at hd3
  rw [dZig] at hd4
  have c0 := Lib.cells_of_tab und27 und3 co3 co27 hd0
  have c1 := Lib.cells_of_tab und251 und5 co5 co251 hd1
  have c2 := cells_of_two hd2
  rw [List.take_append_drop] at c2
  have c3 := cells_of_eight rfl hd3
  rw [basisR_flat] at c3
  have c4 := Lib.cells_of_tab und27 und3 co3 co27 hd4
  refine ⟨⟨fun j v hj => ?_, fun j v hj => ?_, fun j v hj => ?_⟩, fun j v hj => ?_, fun j v hj => ?_⟩
  · have := World.var?_cell hg0 hv0 j
    rw [this, ← Array.getElem?_toList, c0, List.getElem?_map, hj]; rfl
  · have := World.var?_cell hg1 hv1 j
    rw [this, ← Array.getElem?_toList, c1, List.getElem?_map, hj]; rfl
  · have := World.var?_cell hg2 hv2 j
    rw [this, ← Array.getElem?_toList, c2, List.getElem?_map, hj]; rfl
  · have := World.var?_cell hg3 hv3 j
    rw [this, ← Array.getElem?_toList, c3, List.getElem?_map, hj]; rfl
  · have := World.var?_cell hg4 hv4 j
    rw [this, ← Array.getElem?_toList, c4, List.getElem?_map, hj]; rfl
theorem call_gray2 {f : Nat} {c : Ctr} (hc : CtrOk Tryz.prog Z f c) (ha : c.args = gArgs) (hhp : c.hp = { rw := [], ro := gRo ++ roB, nv := 1000 }) (hpre : c.pre = gPre) (hv : c.val = .v (.one (.bool .tt))) (hh' : c.hp'.rw = []) {w : World} (hg2 : GlobOk2 w)
    {x : Addr} {len cap : Nat} {z : List Int} {a1 a2 a3 : Int} (hx : x.spot = none) (hb : x.block < w.heap.size) (hl : len ≤ cap) (hz : z.length = cap) (hcell : ∀ i, i < z.length → w.cell? (x.add i) = some (.int .u8 (z.getD i 0)))
    (hwf : ∀ n ∈ z, (Lit.int .u8 n).wf = true) (w1 : (Lit.int .i64 a1).wf = true) (w2 : (Lit.int .i64 a2).wf = true) (w3 : (Lit.int .i64 a3).wf = true) :
    Calls Tryz.prog f #[.slice (some x) len cap, .int .i64 a1, .int .i64 a2, .int .i64 a3] w fun e w' => e = .returned (.bool true) ∧ Below w.heap.size w w' := by
  obtain ⟨⟨g1, g2, g3⟩, g4, g5⟩ := hg2
  have l0 := cell_lt (g4 0 370728 (by kernel_rfl))
  have l1 := cell_lt (g5 0 0 (by kernel_rfl))
  have l4 := cell_lt (g1 0 0 (by kernel_rfl))
  have l5 := cell_lt (g2 0 0 (by kernel_rfl))
  have l2 := cell_lt (g3 0 16 (by kernel_rfl))
  have hin : ∀ n ∈ z, 0 ≤ n ∧ n ≤ 255 := by
    intro n hn
    have := hwf n hn
    simp only [Lit.wf, Bool.and_eq_true, decide_eq_true_eq] at this
    exact this
  let ρ : Env := envG x.block x.off len cap a1 a2 a3 (z.take len)
  have hHp : HpOk Z ρ w c.hp w := by
    rw [hhp]
    refine ⟨fun x hx => (by cases hx), fun x hx => (by cases hx), fun x hx => (by cases hx), List.nodup_nil, ?_, fun x _ y hy => (by cases hy), ?_, rfl, fun k _ => rfl, fun i _ _ _ => rfl, fun o ho => (by cases ho), rfl, rfl, rfl⟩
    · intro y hy j v hv
      simp only [gRo, roQ, roE, roB, List.cons_append, List.nil_append, List.mem_cons, List.not_mem_nil, or_false] at hy
      rcases hy with rfl | rfl | rfl | rfl | rfl | rfl
      · have hj : j < (z.take len).length := (List.getElem?_eq_some_iff.1 hv).1
        rw [List.length_take] at hj
        have hz' : z.getD j 0 = v := by
          have hv' : (z.take len)[j]? = some v := hv
          rw [List.getElem?_take, if_pos (by omega)] at hv'
          rw [List.getD_eq_getElem?_getD, hv']; rfl
        have := hcell j (by omega)
        rw [hz'] at this
        have e : x.add j = ⟨x.block, x.off + j, none⟩ := by
          unfold Addr.add
          split
          · rename_i h0
            subst h0
            rw [← hx]; rfl
          · rfl
        rw [e] at this
        exact this
      · have := g2 j v hv
        rw [show (Ref.off ρ (.glob 5)) + j = j from Nat.zero_add j]
        exact this
      · have := g1 j v hv
        rw [show (Ref.off ρ (.glob 4)) + j = j from Nat.zero_add j]
        exact this
      · have := g3 j v hv
        rw [show (Ref.off ρ (.glob 2)) + j = j from Nat.zero_add j]
        exact this
      · have := g4 j v hv
        rw [show (Ref.off ρ (.glob 0)) + j = j from Nat.zero_add j]
        exact this
      · have := g5 j v hv
        rw [show (Ref.off ρ (.glob 1)) + j = j from Nat.zero_add j]
        exact this
    · intro y hy
      simp only [gRo, roQ, roE, roB, List.cons_append, List.nil_append, List.mem_cons, List.not_mem_nil, or_false] at hy
      rcases hy with rfl | rfl | rfl | rfl | rfl | rfl
      · exact hb
      · exact l5
      · exact l4
      · exact l2
      · exact l0
      · exact l1
  have hmet : Met Z ρ c.pre := by
    rw [hpre]
    have hlen : ((z.take len).length : Int) = len := by rw [List.length_take]; omega
    have hpi : allIn 0 255 (z.take len) = true := by
      unfold allIn
      rw [List.all_eq_true]
      intro n hn
      have := hin n (List.mem_of_mem_take hn)
      simp only [Bool.and_eq_true, decide_eq_true_eq]; exact this
    simp only [Lit.wf, Bool.and_eq_true, decide_eq_true_eq] at w1 w2 w3
    simp only [gPre, minI, maxI, allT, z0, lenFacts, inR, List.flatMap_cons, List.flatMap_nil, List.append_nil, List.append_assoc, List.cons_append, List.nil_append, and_true, ↓b_le, ↓b_lt, ↓b_eq, ↓b_aeq, ↓f_le, ↓f_lt, ↓f_eq, ↓f_aeq, ↓b_not, ↓f_not, ↓b_and, ↓b_or, ↓f_and, ↓f_or, ↓b_tt, ↓b_ff, ↓f_tt, ↓f_ff, met_cons, met_nil, hyp_cons, hyp_nil, T.I, T.A, T.B, Int.toNat_zero, List.drop_zero, and_true, implies_true, VC.sem, spliceL_cast, shr_24_u32, shr_8_u32, shr_8_i32, shr_14_i32, shr_12_i32, shr_18_i32, shr_2_i32, shr_1_i32, shr_1_i64, shr_8_i64, shr_4_i64, shr_16_u32, shr_4_u8, shr_1_u8]
    exact ⟨hlen, by show (len : Int) ≤ cap; omega, hpi, w1.1, w1.2, w2.1, w2.2, w3.1, w3.2⟩
  have := hc ρ w w hHp hmet (by rw [ha]; intro x hx; simp only [gArgs, List.mem_cons, List.not_mem_nil, or_false] at hx; rcases hx with rfl | rfl | rfl | rfl <;> trivial) (fun _ => rfl)
  rw [ha] at this
  have ea : (gArgs.map (SR.den Z ρ w.heap.size)).toArray = #[.slice (some x) len cap, .int .i64 a1, .int .i64 a2, .int .i64 a3] := by
    have ex : (⟨x.block, x.off + 0 + (0 : Int).toNat, none⟩ : Addr) = x := by
      obtain ⟨b, o, s⟩ := x
      simp only at hx
      subst hx
      rfl
    show #[Value.slice (some ⟨x.block, x.off + 0 + (0 : Int).toNat, none⟩) ((len : Int)).toNat ((cap : Int)).toNat, .int .i64 a1, .int .i64 a2, .int .i64 a3] = _
    rw [ex, Int.toNat_natCast, Int.toNat_natCast]
  rw [ea] at this
  refine this.mono fun e w' ⟨ρ', q1, q2, q3, q4, q5⟩ => ⟨?_, below_of q5 hh' (q1.loose.trans rfl)⟩
  rw [q4, hv]; rfl
noncomputable def laidWorld2 (os : Os) : World :=
  let w0 := laidWorld os
  let put (k : Nat) (c : Array Value) (h : Array Obj) : Array Obj := h.modify k fun
    | .cells _ t frozen => .cells c t frozen
    | o => o
  { w0 with heap := put 0 (basisL.map (Value.int .i64)).toArray (put 1 ((Z.fa 45 0 0 0 0 [] [] [] []).map (Value.int .i64)).toArray w0.heap) }
theorem lv1 (os : Os) (args : Array Value) : (DataW.laidRun Tryz.prog ((laidWorld2 os).forCall (fun _ _ => 0) ⟨#[], args, []⟩).memory 8 ((Rows.fnGrayCoefficientsRow.laid.filter fun x => x.2.handleName?.isNone).map (·.1))).map (·.1) = some (Rows.fnGrayCoefficientsRow.laid.filter fun x => x.2.handleName?.isNone) := by kernel_rfl
theorem lv2 (os : Os) (args : Array Value) : (DataW.laidRun Tryz.prog ((laidWorld2 os).forCall (fun _ _ => 0) ⟨#[], args, []⟩).memory 8 ((Rows.fnGrayCoefficientsRow.laid.filter fun x => x.2.handleName?.isNone).map (·.1))).map (fun x => decide x.2.Nodup && laidRowsB Tryz.prog ((laidWorld2 os).forCall (fun _ _ => 0) ⟨#[], args, []⟩).memory x.2) = some true := by kernel_rfl
theorem lv_met (os : Os) (args : Array Value) : laidMetH Tryz.prog Rows.fnGrayCoefficientsRow.laid ((laidWorld2 os).forCall (fun _ _ => 0) ⟨#[], args, []⟩).memory :=
  laidMetH_of_parts3 (fuel := 8) (laidMet_of_run' 8 (lv1 os args) (lv2 os args)) (by kernel_rfl) (by kernel_rfl)
end
end Go.Proofs.YtljjbikbfeigdaaGreatDoor
