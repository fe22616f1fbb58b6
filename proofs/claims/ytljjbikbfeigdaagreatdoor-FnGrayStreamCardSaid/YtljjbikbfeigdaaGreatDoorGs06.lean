/- Part of the proof of FnGrayStreamCardSaid: A region that draws its order and holds one operation of which not all is known. -/
import Derived.Test.YtljjbikbfeigdaaGreatDoorGs05
set_option linter.all false
namespace Go.Proofs.YtljjbikbfeigdaaGreatDoor
noncomputable section
open Go
theorem frameD_vals {D : Nat → Bool} : ∀ (l : List (Option Tmp × Value)) (k : Nat) (m : List (Option Tmp × Value)) (cur cur' : List Value), l.length = m.length → (∀ j, D (k + j) = true → l[j]? = m[j]?) → cur = cur' → frameD D k l cur = frameD D k m cur'
  | [], _, [], _, _, _, _, h => h
  | x :: l, k, y :: m, cur, cur', hl, h, hc => by
    unfold frameD
    apply frameD_vals l (k + 1) m _ _ (by simpa using hl)
    · intro j hj
      have := h (j + 1) (by rw [show k + (j + 1) = k + 1 + j from by omega]; exact hj)
      simpa using this
    · cases hD : D k with
      | true =>
        have := h 0 (by simpa using hD)
        simp at this
        subst this hc; rfl
      | false => simp [hc]
  | [], _, _ :: _, _, _, h, _, _ => by simp at h
  | _ :: _, _, [], _, _, h, _, _ => by simp at h
section
variable {S : Sig} {ρ : Env} {w0 : World} {P : Program} {specs : Nat → Option Spec}
set_option maxHeartbeats 1000000 in
/-- The operation of which not all is known is carried out. -/
theorem mid_stepX {G : Env → Prop} {h0 : Hp} {es : List Ent} {init : List Value} {hl : Hp} (hst : staticOk (es.map (·.o)) = true) (hok : okDraw P specs h0 es = true) (hchain : Chain h0 es hl)
    {i : Nat} {e : Ent} (hei : es[i]? = some e)
    (ffr : e.fr.map (SR.den S ρ w0.heap.size) = frameD (fun j => decide (j < i)) 0 (pairsOf S ρ w0.heap.size es) init)
    (fwant : Region.wanted e.o (yielded (es.map (·.o)).toArray (frameD (fun j => decide (j < i)) 0 (pairsOf S ρ w0.heap.size es) init).toArray) = true) (hne : isEff e = true)
    {listed : Array Bool} {a : Act} {w : World} (hm : Mid S ρ w0 h0 es init listed a w) (hi : i ∈ Region.ready .any (es.map (·.o)).toArray listed) {K : Act → World → Prop} {Q : Exit → Act → World → Prop}
    (hsame : ∀ ρ', G ρ' → ∀ j, listed.getD j false = true → (pairsOf S ρ' w0.heap.size es)[j]? = (pairsOf S ρ w0.heap.size es)[j]?)
    (hX : ∀ (K : Act → World → Prop) (Q : Exit → Act → World → Prop), Agree S ρ w0.heap.size (getSR e.fr) a e.o.op.operands → HpOk S ρ w0 e.heap w → (∀ ρ' w', G ρ' → HpOk S ρ' w0 e.r.heap w' → K (a.put e.o.dst (e.r.val.den S ρ' w0.heap.size)) w') → e.o.wp P a w K Q)
    (hK : ∀ ρ' a' w', G ρ' → Mid S ρ' w0 h0 es init (listed.setIfInBounds i true) a' w' → K a' w') : wpOp P (es.map (·.o)).toArray Q i K a w := by
  unfold staticOk at hst
  simp only [Bool.and_eq_true] at hst
  obtain ⟨hb, ht⟩ := hst
  unfold okDraw at hok
  simp only [Bool.or_eq_true, Bool.and_eq_true, List.isEmpty_iff] at hok
  rw [effs_eq] at hok
  have he : ((effsFrom 0 es).all fun i => (effsFrom 0 es).all fun j => !(i < j) || ((masks (es.map (·.o))).getD j 0).testBit i) = true := by
    rcases hok with h | h
    · rw [h]; rfl
    · exact h.1
  obtain ⟨r1, r2, r3⟩ := ready_spec hi
  have r1' : i < es.length := by simpa using r1
  have hil : i < listed.size := by rw [hm.size]; exact r1'
  rw [getD_tf _ _ hil] at r2
  have hoi : (es.map (·.o))[i]? = some e.o := by simp [hei]
  have hoa : (es.map (·.o)).toArray[i]? = some e.o := by simpa using hoi
  have hpre := r3 e.o hoa
  have hmask := closed_mask hb hm.closed i e.o hoi hpre
  -- what the frame holds of what the operation looks at
  have hlook : ∀ d, d ∈ looks (es.map (·.o)) e.o → (frameD (fun i => listed.getD i false) 0 (pairsOf S ρ w0.heap.size es) init)[d]? = (frameD (fun j => decide (j < i)) 0 (pairsOf S ρ w0.heap.size es) init)[d]? := by
    intro d hd
    apply frameD_look _ _ _ _ rfl rfl
    intro j p hj hpd
    obtain ⟨e', hj', rfl⟩ := pairs_back hj
    simp only [Nat.zero_add] at hpd ⊢
    have hoj : (es.map (·.o))[j]? = some e'.o := by simp [hj']
    by_cases hij : j = i
    · subst hij
      simp [r2]
    · have hord := ordered_pair ht hoj hoi hpd hij (.inl hd)
      split at hord
      · rename_i hlt
        rw [hmask j hord]; simp [hlt]
      · rename_i hlt
        have hnl : listed.getD j false = false := by
          cases hl : listed.getD j false with
          | false => rfl
          | true =>
            exfalso
            have := closed_mask hb hm.closed j e'.o hoj (fun x h1 h2 => hm.closed j e'.o hoj hl x h1 h2) i hord
            rw [r2] at this; cases this
        rw [hnl]; simp; omega
  have hsizes : (frameD (fun i => listed.getD i false) 0 (pairsOf S ρ w0.heap.size es) init).length = (frameD (fun j => decide (j < i)) 0 (pairsOf S ρ w0.heap.size es) init).length := by
    rw [frameD_length, frameD_length]
  have hat : ∀ d : Nat, a.tmps[d]? = (frameD (fun i => listed.getD i false) 0 (pairsOf S ρ w0.heap.size es) init)[d]? := fun d => by rw [← hm.fr]; simp
  have hwant : Region.wanted e.o (yielded (es.map (·.o)).toArray a.tmps) = true := by
    rw [← fwant]
    apply wanted_same
    intro g b hg d hd
    rw [hat d, hlook d (by unfold looks; rw [hg]; simp only [List.mem_append]; right; simp at hd ⊢; exact hd)]
    simp
  -- the state behind it
  have hnext : ∀ (ρ' : Env) (w' : World) (t : Nat) (h : Hp), G ρ' → t ≤ (effsFrom 0 es).length → (∀ k j, (effsFrom 0 es)[k]? = some j → ((listed.setIfInBounds i true).getD j false = true ↔ k < t)) → (heapsOf h0 es)[t]? = some h → HpOk S ρ' w0 h w' →
      K (a.put e.o.dst (e.r.val.den S ρ' w0.heap.size)) w' := by
    intro ρ' w' t h hG g1 g2 g3 g4
    apply hK ρ' _ _ hG
    · refine ⟨by simpa using hm.size, ?_, ?_, ?_, t, h, g1, g2, g3, g4⟩
      · intro j o hj hD x hx1 hx2
        simp only at hD ⊢
        rw [getD_set _ _ _ hil] at hD ⊢
        split at hD
        · rename_i hji
          subst hji
          rw [hoi] at hj; injection hj with hj; subst hj
          split
          · rfl
          · exact hpre x hx1 hx2
        · split
          · rfl
          · exact hm.closed j o hj hD x hx1 hx2
      · have hput : (a.put e.o.dst (e.r.val.den S ρ' w0.heap.size)).tmps.toList = putV a.tmps.toList e.o.dst (e.r.val.den S ρ' w0.heap.size) := by
          unfold Act.put putV
          cases e.o.dst <;> simp
        have hfr' : a.tmps.toList = frameD (fun i => listed.getD i false) 0 (pairsOf S ρ' w0.heap.size es) init := by
          rw [hm.fr]
          refine frameD_vals _ 0 _ _ _ (by simp [pairsOf]) (fun j hj => ?_) rfl
          exact (hsame ρ' hG j (by simpa using hj)).symm
        rw [hput, hfr']
        symm
        refine frameD_put (j := i) _ 0 init (e.o.dst, e.r.val.den S ρ' w0.heap.size) (Nat.zero_le _) (by simpa using pairs_get hei) r2 (by rw [getD_set _ _ _ hil]; simp) (fun j hj => by rw [getD_set _ _ _ hil, if_neg hj]) ?_
        intro j p s hj hlt hs1 hs2
        obtain ⟨e', hj', rfl⟩ := pairs_back hj
        simp only [Nat.zero_add] at hlt hs1 hs2 ⊢
        have hoj : (es.map (·.o))[j]? = some e'.o := by simp [hj']
        have hord := ordered_pair ht hoj hoi hs2 (by omega) (.inr hs1)
        rw [if_neg (by omega)] at hord
        cases hl : listed.getD j false with
        | false => rfl
        | true =>
          exfalso
          have := closed_mask hb hm.closed j e'.o hoj (fun x h1 h2 => hm.closed j e'.o hoj hl x h1 h2) i hord
          rw [r2] at this; cases this
      · unfold Act.put
        cases e.o.dst <;> exact hm.defers
  obtain ⟨t, h, h1, h2, h3, h4⟩ := hm.heap
  have hch := chain_heaps 0 hchain
  unfold wpOp
  rw [hoa]
  simp only [hwant, if_true]
  left
  have hagree : Agree S ρ w0.heap.size (getSR e.fr) a e.o.op.operands := by
    intro x hxo
    have hd : x ∈ looks (es.map (·.o)) e.o := by
      unfold looks
      rw [List.mem_append]; left
      rw [List.mem_filterMap]
      exact ⟨.tmp x, by simpa using hxo, rfl⟩
    have := hlook x hd
    rw [← hat x, ← ffr] at this
    rw [Array.getD_eq_getD_getElem?, this]
    unfold getSR
    rw [List.getElem?_map, List.getD_eq_getElem?_getD]
    cases e.fr[x]? <;> rfl
  obtain ⟨k, hk⟩ : ∃ k, (effsFrom 0 es)[k]? = some i := by
    apply List.getElem?_of_mem
    rw [← effs_eq, List.mem_filterMap]
    exact ⟨(e, i), List.mem_zipIdx_iff_getElem?.2 hei, by simp [hne]⟩
  obtain ⟨e', q1, q2, q3, q4, q5⟩ := hch.1 k i hk
  simp only [Nat.sub_zero] at q1
  rw [hei] at q1; injection q1 with q1; subst q1
  have hkt : k = t := by
    have hnk : ¬ k < t := fun hlt => by have := (h2 k i hk).2 hlt; rw [r2] at this; cases this
    rcases Nat.lt_or_ge t k with hlt | hge
    · exfalso
      have hkl : k < (effsFrom 0 es).length := (List.getElem?_eq_some_iff.1 hk).1
      have htl : t < (effsFrom 0 es).length := by omega
      obtain ⟨j, hj⟩ : ∃ j, (effsFrom 0 es)[t]? = some j := ⟨_, List.getElem?_eq_getElem htl⟩
      have hji : j < i := by
        have : List.Pairwise (· < ·) (effsFrom 0 es) := by
          unfold effsFrom
          apply List.Pairwise.filterMap (R := fun a b => a.2 < b.2)
          · intro a b hab x hx y hy
            split at hx <;> simp at hx
            split at hy <;> simp at hy
            omega
          · rw [List.pairwise_iff_getElem]
            intro p q hp hq hpq
            simp; exact hpq
        rw [List.pairwise_iff_getElem] at this
        have := this t k htl hkl hlt
        rw [List.getElem?_eq_getElem htl] at hj
        rw [List.getElem?_eq_getElem hkl] at hk
        injection hj with hj; injection hk with hk
        omega
      rw [List.all_eq_true] at he
      have := he j (List.mem_of_getElem? hj)
      rw [List.all_eq_true] at this
      have := this i (List.mem_of_getElem? hk)
      simp only [hji, decide_true, Bool.not_true, Bool.false_or] at this
      have := hmask j this
      have := (h2 t j hj).1 this
      omega
    · omega
  subst hkt
  rw [h3] at q4; injection q4 with q4
  subst q4
  refine hX _ _ hagree h4 fun ρ' w' hG hw' => ?_
  refine hnext ρ' w' (k + 1) e.r.heap hG (by have := (List.getElem?_eq_some_iff.1 hk).1; omega) (fun k' j hk' => ?_) q5 hw'
  rw [getD_set _ _ _ hil]
  have hnd : (effsFrom 0 es)[k']? = some j → j = i → k' = k := by
    intro hk' hji
    subst hji
    have hnk : k' < k ∨ k' = k ∨ k < k' := by omega
    rcases hnk with hlt | rfl | hlt
    · exfalso
      have := (h2 k' j hk').2 hlt
      rw [r2] at this; cases this
    · rfl
    · exfalso
      have : List.Pairwise (· < ·) (effsFrom 0 es) := by
        unfold effsFrom
        apply List.Pairwise.filterMap (R := fun a b => a.2 < b.2)
        · intro a b hab x hx y hy
          split at hx <;> simp at hx
          split at hy <;> simp at hy
          omega
        · rw [List.pairwise_iff_getElem]
          intro p q hp hq hpq
          simp; exact hpq
      rw [List.pairwise_iff_getElem] at this
      have k1 := (List.getElem?_eq_some_iff.1 hk)
      have k2 := (List.getElem?_eq_some_iff.1 hk')
      have := this k k' k1.1 k2.1 hlt
      omega
  split
  · rename_i hji
    have := hnd hk' hji
    simp; omega
  · rename_i hji
    rw [h2 k' j hk']
    constructor
    · intro h; omega
    · intro h
      rcases Nat.lt_or_ge k' k with hlt | hge
      · exact hlt
      · exfalso
        have : k' = k := by omega
        subst this
        rw [hk] at hk'; injection hk' with hk'; exact hji hk'.symm
end
end
end Go.Proofs.YtljjbikbfeigdaaGreatDoor
namespace Go.Proofs.YtljjbikbfeigdaaGreatDoor
noncomputable section
open Go
section
variable {S : Sig} {ρ : Env} {w0 : World} {P : Program} {specs : Nat → Option Spec}
theorem mid_stop {h0 : Hp} {es : List Ent} {init : List Value} {hl : Hp} (hb : backEdges (es.map (·.o)) = true) (hchain : Chain h0 es hl) {listed : Array Bool} {a : Act} {w : World} (hm : Mid S ρ w0 h0 es init listed a w)
    (hr : Region.ready .any (es.map (·.o)).toArray listed = []) : a.tmps.toList = frameD (fun _ => true) 0 (pairsOf S ρ w0.heap.size es) init ∧ HpOk S ρ w0 hl w ∧ ∀ i, i < es.length → listed.getD i false = true := by
  have hall := all_listed (ops := es.map (·.o)) (by simpa using hm.size) hb hr
  obtain ⟨t, h, h1, h2, h3, h4⟩ := hm.heap
  refine ⟨?_, ?_, by simpa using hall⟩
  · rw [hm.fr]
    apply List.ext_getElem?
    intro s
    apply frameD_look _ _ _ _ rfl rfl
    intro i e hi _
    obtain ⟨e', hi', _⟩ := pairs_back hi
    simp only [Nat.zero_add]
    exact hall i (by simpa using (List.getElem?_eq_some_iff.1 hi').1)
  · have htl : t = (effsFrom 0 es).length := by
      rcases Nat.lt_or_ge t (effsFrom 0 es).length with hlt | hge
      · have hi := h2 t _ (List.getElem?_eq_getElem hlt)
        obtain ⟨e', q1, _⟩ := (chain_heaps 0 hchain).1 t _ (List.getElem?_eq_getElem hlt)
        have := hi.1 (hall _ (by simpa using (List.getElem?_eq_some_iff.1 q1).1))
        omega
      · omega
    have := (chain_heaps 0 hchain).2.1
    rw [← htl, h3] at this
    injection this with this
    rw [← this]; exact h4
theorem count_set {n i : Nat} {listed : Array Bool} (hil : i < listed.size) (hin : i < n) (r2 : listed.getD i false = false) :
    ((List.range n).filter fun j => !(listed.setIfInBounds i true).getD j false).length < ((List.range n).filter fun j => !listed.getD j false).length := by
  have e1 : ((List.range n).filter fun j => !(listed.setIfInBounds i true).getD j false) = ((List.range n).filter fun j => !listed.getD j false).filter fun j => j != i := by
    rw [List.filter_filter]
    apply List.filter_congr
    intro j _
    rw [getD_set _ _ _ hil]
    by_cases hji : j = i
    · subst hji; simp
    · simp [hji]
  rw [e1]
  have hmem : i ∈ (List.range n).filter fun j => !listed.getD j false := by
    rw [List.mem_filter]; exact ⟨List.mem_range.2 hin, by rw [r2]; rfl⟩
  exact List.length_filter_lt_length_iff_exists.2 ⟨i, hmem, by simp⟩
theorem ready_zero {es : List Ent} {listed : Array Bool} (hs : listed.size = es.length) (hf : ((List.range es.length).filter fun i => !listed.getD i false).length ≤ 0) : Region.ready .any (es.map (·.o)).toArray listed = [] := by
  rw [List.eq_nil_iff_forall_not_mem]
  intro i hi
  obtain ⟨r1, r2, _⟩ := ready_spec hi
  have r1 : i < es.length := by simpa using r1
  rw [getD_tf _ _ (by rw [hs]; exact r1)] at r2
  have : i ∈ (List.range es.length).filter fun i => !listed.getD i false := by
    rw [List.mem_filter]; exact ⟨List.mem_range.2 r1, by rw [r2]; rfl⟩
  have := List.length_pos_of_mem this
  omega
/-- What the walk has shown of one entry. -/
structure Told (P : Program) (specs : Nat → Option Spec) (S : Sig) (ρ : Env) (B : Nat) (es : List Ent) (init : List Value) (j : Nat) (e : Ent) : Prop where
  fr : e.fr.map (SR.den S ρ B) = frameD (fun i => decide (i < j)) 0 (pairsOf S ρ B es) init
  want : Region.wanted e.o (yielded (es.map (·.o)).toArray (frameD (fun i => decide (i < j)) 0 (pairsOf S ρ B es) init).toArray) = e.want
  st : e.want = true → step P specs (getSR e.fr) e.heap e.o = some e.r ∧ Met S ρ e.r.need ∧ ∀ x ∈ e.fr, x.wf S ρ
  no : e.want = false → e.r.val = .v (.one .undef) ∧ e.r.need = []
/-- Behind it. -/
theorem any_okB (hsp : ∀ f s, specs f = some s → SpecOk P S f s) {h0 : Hp} {es : List Ent} {init : List Value} {hl : Hp} {k : Nat} (hst : staticOk (es.map (·.o)) = true) (hok : okDraw P specs h0 es = true) (hchain : Chain h0 es hl)
    (hneed : Met S ρ (es.flatMap (·.r.need))) (htold : ∀ j e, es[j]? = some e → j ≠ k → Told P specs S ρ w0.heap.size es init j e)
    {Q : Exit → Act → World → Prop} (hQ : ∀ a w, a.tmps.toList = frameD (fun _ => true) 0 (pairsOf S ρ w0.heap.size es) init → a.defers = [] → HpOk S ρ w0 hl w → Q .normal a w) :
    ∀ (fuel : Nat) (listed : Array Bool) (a : Act) (w : World), Mid S ρ w0 h0 es init listed a w → listed.getD k false = true → ((List.range es.length).filter fun i => !listed.getD i false).length ≤ fuel →
      wpAny P .any (es.map (·.o)).toArray Q fuel listed a w := by
  have hb : backEdges (es.map (·.o)) = true := by
    unfold staticOk at hst; simp only [Bool.and_eq_true] at hst; exact hst.1
  intro fuel
  induction fuel with
  | zero =>
    intro listed a w hm hk hf
    have hr := ready_zero hm.size hf
    obtain ⟨q1, q2, _⟩ := mid_stop hb hchain hm hr
    exact ⟨hr, hQ a w q1 hm.defers q2⟩
  | succ fuel ih =>
    intro listed a w hm hk hf
    refine ⟨fun hr => ?_, fun i hi => ?_⟩
    · obtain ⟨q1, q2, _⟩ := mid_stop hb hchain hm hr
      exact hQ a w q1 hm.defers q2
    obtain ⟨r1, r2, _⟩ := ready_spec hi
    have r1' : i < es.length := by simpa using r1
    have hil : i < listed.size := by rw [hm.size]; exact r1'
    rw [getD_tf _ _ hil] at r2
    obtain ⟨e, hei⟩ : ∃ e, es[i]? = some e := ⟨_, List.getElem?_eq_getElem r1'⟩
    have hik : i ≠ k := fun h => by subst h; rw [r2] at hk; cases hk
    have ht := htold i e hei hik
    refine mid_step hsp hst hok hchain hneed hei ht.fr ht.want ht.st ht.no hm hi fun a' w' hm' => ih _ _ _ hm' ?_ ?_
    · rw [getD_set _ _ _ hil]; split
      · rfl
      · exact hk
    · have := count_set hil r1' r2
      omega
/-- Ahead of it. -/
theorem any_ok2 (hsp : ∀ f s, specs f = some s → SpecOk P S f s) {rsp : Nat → Option RSpec} (hrsp : ∀ f s, rsp f = some s → RSpecOk P S f s) {h0 : Hp} {es : List Ent} {init : List Value} {hl : Hp} {k : Nat} {x : Ent} {rr : RRes}
    (hst : staticOk (es.map (·.o)) = true) (hok : okDraw P specs h0 es = true) (hchain : Chain h0 es hl) (hneed : Met S ρ (es.flatMap (·.r.need))) (hk : es[k]? = some x)
    (hx : rstep P rsp (getSR x.fr) x.heap x.o = some rr) (hxr : x.r = ⟨rr.need, rr.val, rr.heap⟩) (hxe : isEff x = true) (hxn : Met S ρ rr.need)
    (hxf : x.fr.map (SR.den S ρ w0.heap.size) = frameD (fun i => decide (i < k)) 0 (pairsOf S ρ w0.heap.size es) init) (hxwf : ∀ y ∈ x.fr, y.wf S ρ)
    (hxw : Region.wanted x.o (yielded (es.map (·.o)).toArray (frameD (fun i => decide (i < k)) 0 (pairsOf S ρ w0.heap.size es) init).toArray) = true)
    (htold : ∀ j e, es[j]? = some e → j < k → Told P specs S ρ w0.heap.size es init j e)
    (hwait : ∀ j, k < j → j < es.length → ((masks (es.map (·.o))).getD j 0).testBit k = true)
    (hclr : ∀ j e, es[j]? = some e → j < k → e.r.val.clear rr.ns rr.na = true)
    (hB : ∀ ρ', Agree2 rr.ns rr.na ρ ρ' → Met S ρ' rr.facts → rr.val.wf S ρ' → (∃ w', HpOk S ρ' w0 rr.heap w') → Met S ρ' (es.flatMap (·.r.need)) ∧ ∀ j e, es[j]? = some e → j ≠ k → Told P specs S ρ' w0.heap.size es init j e)
    {Q : Exit → Act → World → Prop} (hQ : ∀ ρ' a w, Agree2 rr.ns rr.na ρ ρ' → Met S ρ' rr.facts → rr.val.wf S ρ' → (∃ w', HpOk S ρ' w0 rr.heap w') → a.tmps.toList = frameD (fun _ => true) 0 (pairsOf S ρ' w0.heap.size es) init → a.defers = [] → HpOk S ρ' w0 hl w → Q .normal a w) :
    ∀ (fuel : Nat) (listed : Array Bool) (a : Act) (w : World), Mid S ρ w0 h0 es init listed a w → listed.getD k false = false → ((List.range es.length).filter fun i => !listed.getD i false).length ≤ fuel →
      wpAny P .any (es.map (·.o)).toArray Q fuel listed a w := by
  have hb : backEdges (es.map (·.o)) = true := by
    unfold staticOk at hst; simp only [Bool.and_eq_true] at hst; exact hst.1
  have hkl : k < es.length := (List.getElem?_eq_some_iff.1 hk).1
  intro fuel
  induction fuel with
  | zero =>
    intro listed a w hm hkn hf
    have hr := ready_zero hm.size hf
    obtain ⟨_, _, q3⟩ := mid_stop hb hchain hm hr
    rw [q3 k hkl] at hkn; cases hkn
  | succ fuel ih =>
    intro listed a w hm hkn hf
    refine ⟨fun hr => ?_, fun i hi => ?_⟩
    · obtain ⟨_, _, q3⟩ := mid_stop hb hchain hm hr
      rw [q3 k hkl] at hkn; cases hkn
    obtain ⟨r1, r2, r3⟩ := ready_spec hi
    have r1' : i < es.length := by simpa using r1
    have hil : i < listed.size := by rw [hm.size]; exact r1'
    rw [getD_tf _ _ hil] at r2
    obtain ⟨e, hei⟩ : ∃ e, es[i]? = some e := ⟨_, List.getElem?_eq_getElem r1'⟩
    have hoi : (es.map (·.o))[i]? = some e.o := by simp [hei]
    have hoa : (es.map (·.o)).toArray[i]? = some e.o := by simpa using hoi
    have hmask := closed_mask hb hm.closed i e.o hoi (r3 e.o hoa)
    have hlisted : ∀ j, listed.getD j false = true → j < k := by
      intro j hj
      have hjl : j < es.length := by
        rcases Nat.lt_or_ge j listed.size with h | h
        · rw [hm.size] at h; exact h
        · rw [Array.getD_eq_getD_getElem?, Array.getElem?_eq_none h] at hj; cases hj
      rcases Nat.lt_trichotomy j k with h | h | h
      · exact h
      · rw [h, hkn] at hj; cases hj
      · exfalso
        have hoj : (es.map (·.o))[j]? = some es[j].o := by simp [hjl]
        have := closed_mask hb hm.closed j es[j].o hoj (fun x h1 h2 => hm.closed j es[j].o hoj hj x h1 h2) k (hwait j h hjl)
        rw [hkn] at this; cases this
    by_cases hik : i = k
    · subst hik
      rw [hk] at hei
      injection hei with hei
      subst hei
      refine mid_stepX (G := fun ρ' => Agree2 rr.ns rr.na ρ ρ' ∧ Met S ρ' rr.facts ∧ rr.val.wf S ρ' ∧ ∃ w', HpOk S ρ' w0 rr.heap w') hst hok hchain hk hxf hxw hxe hm hi ?_ ?_ ?_
      · intro ρ' hG j hj
        have hjk := hlisted j hj
        have hjl : j < es.length := by omega
        have hej : es[j]? = some es[j] := List.getElem?_eq_getElem hjl
        rw [pairs_get hej, pairs_get hej, (SR.clear_den hG.1 (hclr j _ hej hjk)).1]
      · intro K Q' hag hh hK
        have := rstep_ok hrsp hx hxn (getSR_wf hxwf) hag hh
        refine this K Q' fun ρ' w' b1 b2 b3 b4 => ?_
        have h5 := hK ρ' w' ⟨b1, b2, b3, w', b4⟩ (by rw [hxr]; exact b4)
        rw [hxr] at h5; exact h5
      · intro ρ' a' w' hG hm'
        obtain ⟨hn', ht'⟩ := hB ρ' hG.1 hG.2.1 hG.2.2.1 hG.2.2.2
        refine any_okB hsp hst hok hchain hn' ht' (fun a w => hQ ρ' a w hG.1 hG.2.1 hG.2.2.1 hG.2.2.2) fuel _ a' w' hm' ?_ ?_
        · rw [getD_set _ _ _ hil]; simp
        · have := count_set hil r1' r2
          omega
    · have hlt : i < k := by
        rcases Nat.lt_or_ge i k with h | h
        · exact h
        · exfalso
          have := hmask k (hwait i (by omega) r1')
          rw [hkn] at this; cases this
      have ht := htold i e hei hlt
      refine mid_step hsp hst hok hchain hneed hei ht.fr ht.want ht.st ht.no hm hi fun a' w' hm' => ih _ _ _ hm' ?_ ?_
      · rw [getD_set _ _ _ hil, if_neg (fun h => hik h.symm)]; exact hkn
      · have := count_set hil r1' r2
        omega
end
end
end Go.Proofs.YtljjbikbfeigdaaGreatDoor
namespace Go.Proofs.YtljjbikbfeigdaaGreatDoor
noncomputable section
open Go
/-- Other numbers for the new blocks. -/
def Env.nbs (ρ : Env) (f : Nat → Nat) : Env := { ρ with nb := f }
section
variable {S : Sig} {ρ : Env} {f g : Nat → Nat} {B : Nat}
theorem nbs_nbs : (ρ.nbs f).nbs g = ρ.nbs g := rfl
theorem T.nbs (t : T) : t.I S (ρ.nbs f) = t.I S ρ ∧ t.B S (ρ.nbs f) = t.B S ρ ∧ t.A S (ρ.nbs f) = t.A S ρ := by
  induction t <;> simp_all only [T.I, T.B, T.A, Env.nbs, and_self]
theorem met_nbs {l : List T} (h : Met S ρ l) : Met S (ρ.nbs f) l := fun t ht => by rw [(T.nbs t).2.1]; exact h t ht
theorem Seg.wf_nbs {x : Seg} (h : x.wf S ρ) : x.wf S (ρ.nbs f) := by
  cases x <;> simp only [Seg.wf] at h ⊢ <;> (try rw [(T.nbs _).2.2]) <;> exact h
theorem segs_wf_nbs {l : List Seg} (h : segsWf S ρ l) : segsWf S (ρ.nbs f) l := fun g hg => Seg.wf_nbs (h g hg)
theorem SV.wf_nbs {x : SV} (h : x.wf S ρ) : x.wf S (ρ.nbs f) := by
  cases x with
  | one _ => trivial
  | agg l => exact segs_wf_nbs h
theorem SR.wf_nbs : ∀ {x : SR}, x.wf S ρ → x.wf S (ρ.nbs f)
  | .v x, h => SV.wf_nbs (x := x) h
  | .tup xs, h => fun x hx => SV.wf_nbs (h x hx)
  | .ite c x y, h => ⟨fun hc => SR.wf_nbs (h.1 (by rw [(T.nbs c).2.1] at hc; exact hc)), fun hc => SR.wf_nbs (h.2 (by rw [(T.nbs c).2.1] at hc; exact hc))⟩
theorem nbs_agree {ns na : Nat} (h : ∀ k, k < na → f k = ρ.nb k) : Agree2 ns na ρ (ρ.nbs f) :=
  ⟨fun _ _ => rfl, fun _ _ => rfl, fun _ _ => rfl, fun _ _ => rfl, fun _ _ => rfl, fun _ _ => rfl, fun _ _ => rfl, fun _ _ => rfl, h, rfl⟩
theorem HpOk.turn {ρ' : Env} {ns na : Nat} {w0 w : World} {h h' : Hp} (hh : HpOk S ρ w0 h w) (hA : Agree2 ns na ρ ρ') (hb : ∀ x ∈ h.rw, x.2.segs.all (Seg.clear ns na) = true)
    (hp : (h'.rw.map fun x => (x.1.blk ρ' w0.heap.size, x.2)).Perm (h.rw.map fun x => (x.1.blk ρ w0.heap.size, x.2))) (ho : ∀ x ∈ h'.rw, x.1.off ρ' = 0)
    (hro : h'.ro = h.ro) (hrc : clearRo ns na h.ro = true) (how : h'.ow = none) (hs : ρ'.nb h'.na = ρ.nb h.na) (hn : ∀ k, h'.na ≤ k → ρ'.nb (k + 1) = ρ'.nb k + 1) : HpOk S ρ' w0 h' w := by
  have back : ∀ x ∈ h'.rw, ∃ y ∈ h.rw, y.1.blk ρ w0.heap.size = x.1.blk ρ' w0.heap.size ∧ y.2 = x.2 := by
    intro x hx
    have := hp.subset (List.mem_map.2 ⟨x, hx, rfl⟩)
    obtain ⟨y, hy, he⟩ := List.mem_map.1 this
    injection he with h1 h2
    exact ⟨y, hy, h1, h2⟩
  have forth : ∀ y ∈ h.rw, ∃ x ∈ h'.rw, x.1.blk ρ' w0.heap.size = y.1.blk ρ w0.heap.size := by
    intro y hy
    have := hp.symm.subset (List.mem_map.2 ⟨y, hy, rfl⟩)
    obtain ⟨x, hx, he⟩ := List.mem_map.1 this
    injection he with h1 h2
    exact ⟨x, hx, h1⟩
  have hrc' : ∀ x ∈ h.ro, x.1.clear ns na = true ∧ x.2.2.clear ns = true := by
    intro x hx
    unfold clearRo at hrc
    have := List.all_eq_true.1 hrc x hx
    simpa using this
  refine ⟨?_, ?_, ho, ?_, ?_, ?_, ?_, ?_, hn, ?_, ?_, hh.os, hh.tape, hh.output⟩
  · intro x hx
    obtain ⟨y, hy, e1, e2⟩ := back x hx
    rw [← e1, ← e2, (segs_clear hA (hb y hy)).1]
    exact hh.rw_ y hy
  · intro x hx
    obtain ⟨y, hy, e1, e2⟩ := back x hx
    rw [← e2]
    exact (segs_clear (B := w0.heap.size) hA (hb y hy)).2 (hh.wf y hy)
  · have e1 : (h'.rw.map fun x => x.1.blk ρ' w0.heap.size) = (h'.rw.map fun x => (x.1.blk ρ' w0.heap.size, x.2)).map (·.1) := by simp [List.map_map, Function.comp_def]
    have e2 : (h.rw.map fun x => x.1.blk ρ w0.heap.size) = (h.rw.map fun x => (x.1.blk ρ w0.heap.size, x.2)).map (·.1) := by simp [List.map_map, Function.comp_def]
    rw [e1, (hp.map _).nodup_iff, ← e2]
    exact hh.nd
  · intro x hx j v hv
    rw [hro] at hx
    obtain ⟨c1, c2⟩ := hrc' x hx
    rw [(Ref.clear_den hA c1).1, (Ref.clear_den (B := w0.heap.size) hA c1).2]
    rw [(T.clear_den hA c2).2.2] at hv
    exact hh.ro x hx j v hv
  · intro x hx y hy
    rw [hro] at hx
    obtain ⟨z, hz, e1, _⟩ := back y hy
    rw [(Ref.clear_den hA (hrc' x hx).1).1, ← e1]
    exact hh.apart x hx z hz
  · intro x hx
    rw [hro] at hx
    rw [(Ref.clear_den hA (hrc' x hx).1).1]
    exact hh.rolt x hx
  · rw [hs]; exact hh.size
  · intro i hi hl hx
    rw [hA.loose] at hl
    refine hh.frame i hi hl fun y hy => ?_
    obtain ⟨x, hx1, e1⟩ := forth y hy
    rw [← e1]
    exact hx x hx1
  · intro o hoo
    rw [how] at hoo; cases hoo
end
end
end Go.Proofs.YtljjbikbfeigdaaGreatDoor
namespace Go.Proofs.YtljjbikbfeigdaaGreatDoor
noncomputable section
open Go
section
variable {S : Sig} {ρ : Env} {w0 : World} {P : Program} {specs : Nat → Option Spec} {B : Nat} {f g : Nat → Nat}
theorem frameD_none {D : Nat → Bool} : ∀ (l : List (Option Tmp × Value)) (k : Nat) (cur : List Value), (∀ i, k ≤ i → D i = false) → frameD D k l cur = cur
  | [], _, _, _ => rfl
  | e :: l, k, cur, h => by
    unfold frameD
    rw [if_neg (by rw [h k (Nat.le_refl _)]; simp)]
    exact frameD_none l (k + 1) cur fun i hi => h i (by omega)
theorem frames_ok : ∀ {es : List Ent} {cur fin : List SR} (k : Nat), framesOk cur fin es = true →
    (∀ (j : Nat) (e : Ent), es[j]? = some e → e.fr.map (SR.den S ρ B) = frameD (fun i => decide (i < k + j)) k (pairsOf S ρ B es) (cur.map (SR.den S ρ B))) ∧
    fin.map (SR.den S ρ B) = frameD (fun _ => true) k (pairsOf S ρ B es) (cur.map (SR.den S ρ B))
  | [], cur, fin, k, h => by
    simp only [framesOk, beq_iff_eq] at h
    subst h
    exact ⟨fun j e hj => by simp at hj, rfl⟩
  | e :: es, cur, fin, k, h => by
    simp only [framesOk, Bool.and_eq_true, beq_iff_eq] at h
    obtain ⟨h1, h2⟩ := h
    obtain ⟨i1, i2⟩ := frames_ok (k + 1) h2
    have hp : (putSR cur e.o.dst e.r.val).map (SR.den S ρ B) = putV (cur.map (SR.den S ρ B)) e.o.dst (e.r.val.den S ρ B) := by
      unfold putSR putV
      cases e.o.dst <;> simp [List.map_set]
    have hpe : pairsOf S ρ B (e :: es) = (e.o.dst, e.r.val.den S ρ B) :: pairsOf S ρ B es := rfl
    refine ⟨fun j x hj => ?_, ?_⟩
    · cases j with
      | zero =>
        simp only [List.getElem?_cons_zero, Option.some.injEq] at hj
        subst hj
        rw [h1, frameD_none _ _ _ (fun i hi => by simp; omega)]
      | succ j =>
        rw [i1 j x (by simpa using hj), hp, hpe]
        conv => rhs; unfold frameD
        rw [if_pos (by simp), show k + 1 + j = k + (j + 1) from by omega]
    · rw [i2, hp, hpe]
      conv => rhs; unfold frameD
      rw [if_pos rfl]
theorem Shown.nbs {h0 hl : Hp} {es : List Ent} {fr0 fin : List SR} {init : List Value} (sh : Shown P specs S ρ B h0 es init hl) (hf : framesOk fr0 fin es = true) (hi : fr0.map (SR.den S (ρ.nbs f) B) = init)
    (hg : ∀ e ∈ es, e.o.guard = none) : Shown P specs S (ρ.nbs f) B h0 es init hl := by
  refine ⟨fun j e hj => ?_, fun j e hj => ?_, fun j e hj hw => ?_, sh.no, sh.chain⟩
  · have := (frames_ok (S := S) (ρ := ρ.nbs f) (B := B) 0 hf).1 j e hj
    rw [this, hi]
    simp only [Nat.zero_add]
  · rw [← sh.want j e hj]
    exact wanted_same fun g b h => by rw [hg e (List.mem_of_getElem? hj)] at h; cases h
  · obtain ⟨s1, s2, s3⟩ := sh.st j e hj hw
    exact ⟨s1, met_nbs s2, fun x hx => SR.wf_nbs (s3 x hx)⟩
theorem frameD_pairs {D : Nat → Bool} : ∀ (l m : List (Option Tmp × Value)) (k : Nat) (cur : List Value), l.length = m.length → (∀ i, D (k + i) = true → l[i]? = m[i]?) → frameD D k l cur = frameD D k m cur
  | [], [], _, _, _, _ => rfl
  | [], _ :: _, _, _, h, _ => by simp at h
  | _ :: _, [], _, _, h, _ => by simp at h
  | x :: l, y :: m, k, cur, h, hd => by
    have ih := fun cur => frameD_pairs (D := D) l m (k + 1) cur (by simpa using h) fun i hi => by
      have := hd (i + 1) (by rwa [show k + (i + 1) = k + 1 + i from by omega])
      simpa using this
    unfold frameD
    rw [ih]
    cases hk : D k with
    | false => rfl
    | true =>
      have := hd 0 (by simpa using hk)
      simp only [List.getElem?_cons_zero, Option.some.injEq] at this
      rw [this]
/-- What a ready operation finds, and what the frame is behind it. -/
theorem mid_frame {es : List Ent} {init : List Value} (hst : staticOk (es.map (·.o)) = true) {i : Nat} {e : Ent} (hei : es[i]? = some e)
    (ffr : e.fr.map (SR.den S ρ B) = frameD (fun j => decide (j < i)) 0 (pairsOf S ρ B es) init)
    {listed : Array Bool} {a : Act} (hsz : listed.size = es.length) (hcl : Closed (es.map (·.o)) (fun i => listed.getD i false)) (hfr : a.tmps.toList = frameD (fun i => listed.getD i false) 0 (pairsOf S ρ B es) init)
    (hi : i ∈ Region.ready .any (es.map (·.o)).toArray listed) :
    i < listed.size ∧ listed.getD i false = false ∧ (∀ j, ((masks (es.map (·.o))).getD i 0).testBit j = true → listed.getD j false = true) ∧ Agree S ρ B (getSR e.fr) a e.o.op.operands ∧
    Closed (es.map (·.o)) (fun j => (listed.setIfInBounds i true).getD j false) ∧
    (a.put e.o.dst (e.r.val.den S ρ B)).tmps.toList = frameD (fun j => (listed.setIfInBounds i true).getD j false) 0 (pairsOf S ρ B es) init := by
  unfold staticOk at hst
  simp only [Bool.and_eq_true] at hst
  obtain ⟨hb, ht⟩ := hst
  obtain ⟨r1, r2, r3⟩ := ready_spec hi
  have r1' : i < es.length := by simpa using r1
  have hil : i < listed.size := by rw [hsz]; exact r1'
  rw [getD_tf _ _ hil] at r2
  have hoi : (es.map (·.o))[i]? = some e.o := by simp [hei]
  have hoa : (es.map (·.o)).toArray[i]? = some e.o := by simpa using hoi
  have hpre := r3 e.o hoa
  have hmask := closed_mask hb hcl i e.o hoi hpre
  have hlook : ∀ d, d ∈ looks (es.map (·.o)) e.o → (frameD (fun i => listed.getD i false) 0 (pairsOf S ρ B es) init)[d]? = (frameD (fun j => decide (j < i)) 0 (pairsOf S ρ B es) init)[d]? := by
    intro d hd
    apply frameD_look _ _ _ _ rfl rfl
    intro j p hj hpd
    obtain ⟨e', hj', rfl⟩ := pairs_back hj
    simp only [Nat.zero_add] at hpd ⊢
    have hoj : (es.map (·.o))[j]? = some e'.o := by simp [hj']
    by_cases hij : j = i
    · subst hij
      simp [r2]
    · have hord := ordered_pair ht hoj hoi hpd hij (.inl hd)
      split at hord
      · rename_i hlt
        rw [hmask j hord]; simp [hlt]
      · rename_i hlt
        have hnl : listed.getD j false = false := by
          cases hl : listed.getD j false with
          | false => rfl
          | true =>
            exfalso
            have := closed_mask hb hcl j e'.o hoj (fun x h1 h2 => hcl j e'.o hoj hl x h1 h2) i hord
            rw [r2] at this; cases this
        rw [hnl]; simp; omega
  have hat : ∀ d : Nat, a.tmps[d]? = (frameD (fun i => listed.getD i false) 0 (pairsOf S ρ B es) init)[d]? := fun d => by rw [← hfr]; simp
  refine ⟨hil, r2, hmask, ?_, ?_, ?_⟩
  · intro x hxo
    have hd : x ∈ looks (es.map (·.o)) e.o := by
      unfold looks
      rw [List.mem_append]; left
      rw [List.mem_filterMap]
      exact ⟨.tmp x, by simpa using hxo, rfl⟩
    have := hlook x hd
    rw [← hat x, ← ffr] at this
    rw [Array.getD_eq_getD_getElem?, this]
    unfold getSR
    rw [List.getElem?_map, List.getD_eq_getElem?_getD]
    cases e.fr[x]? <;> rfl
  · intro j o hj hD x hx1 hx2
    simp only at hD ⊢
    rw [getD_set _ _ _ hil] at hD ⊢
    split at hD
    · rename_i hji
      subst hji
      rw [hoi] at hj; injection hj with hj; subst hj
      split
      · rfl
      · exact hpre x hx1 hx2
    · split
      · rfl
      · exact hcl j o hj hD x hx1 hx2
  · have hput : (a.put e.o.dst (e.r.val.den S ρ B)).tmps.toList = putV a.tmps.toList e.o.dst (e.r.val.den S ρ B) := by
      unfold Act.put putV
      cases e.o.dst <;> simp
    rw [hput, hfr]
    symm
    refine frameD_put (j := i) _ 0 init (e.o.dst, e.r.val.den S ρ B) (Nat.zero_le _) (by simpa using pairs_get hei) r2 (by rw [getD_set _ _ _ hil]; simp) (fun j hj => by rw [getD_set _ _ _ hil, if_neg hj]) ?_
    intro j p s hj hlt hs1 hs2
    obtain ⟨e', hj', rfl⟩ := pairs_back hj
    simp only [Nat.zero_add] at hlt hs1 hs2 ⊢
    have hoj : (es.map (·.o))[j]? = some e'.o := by simp [hj']
    have hord := ordered_pair ht hoj hoi hs2 (by omega) (.inr hs1)
    rw [if_neg (by omega)] at hord
    cases hl : listed.getD j false with
    | false => rfl
    | true =>
      exfalso
      have := closed_mask hb hcl j e'.o hoj (fun x h1 h2 => hcl j e'.o hoj hl x h1 h2) i hord
      rw [r2] at this; cases this
theorem filter_subs {α : Type} (p : α → Bool) : ∀ l : List α, l.filter p ∈ subs l
  | [] => by simp [subs]
  | x :: l => by
    simp only [subs, List.mem_append, List.mem_map]
    rw [List.filter_cons]
    split
    · exact .inr ⟨_, filter_subs p l, rfl⟩
    · exact .inl (filter_subs p l)
theorem filter_more {α : Type} {l : List (Nat × α)} {D D' : Nat → Bool} {x : Nat × α} (hx : x ∈ l) (hn : (l.map (·.1)).Nodup) (h0 : D x.1 = false) (h1 : D' x.1 = true) (hd : ∀ j, j ≠ x.1 → D' j = D j) :
    (l.filter fun y => D' y.1).Perm (x :: l.filter fun y => D y.1) := by
  induction l with
  | nil => cases hx
  | cons y l ih =>
    simp only [List.map_cons, List.nodup_cons] at hn
    by_cases hy : y.1 = x.1
    · have hyx : y = x := by
        rcases List.mem_cons.1 hx with h | h
        · exact h.symm
        · exact absurd (List.mem_map.2 ⟨x, h, hy.symm⟩) hn.1
      subst hyx
      have e : (l.filter fun z => D' z.1) = l.filter fun z => D z.1 := by
        apply List.filter_congr
        intro z hz
        exact hd _ fun he => hn.1 (List.mem_map.2 ⟨z, hz, he⟩)
      rw [List.filter_cons_of_pos (by rw [h1]), List.filter_cons_of_neg (by rw [h0]; simp), e]
    · have hxl : x ∈ l := (List.mem_cons.1 hx).resolve_left fun h => hy (by rw [h])
      have := ih hxl hn.2
      rw [List.filter_cons, List.filter_cons, hd _ hy]
      split
      · exact (this.cons y).trans (List.Perm.swap x y _)
      · exact this
end
end
end Go.Proofs.YtljjbikbfeigdaaGreatDoor
namespace Go.Proofs.YtljjbikbfeigdaaGreatDoor
noncomputable section
open Go
abbrev Als := List (Nat × Nat × Blk)
structure LooseP (P : Program) (specs : Nat → Option Spec) (ns : Nat) (h0 : Hp) (es : List Ent) (fr0 fin : List SR) (A : List Nat) (p : Nat) (als : Als) (H : Hp) : Prop where
  frames : framesOk fr0 fin es = true
  guard : ∀ e ∈ es, e.o.guard = none
  fr0c : fr0.all (SR.clear ns H.na) = true
  ndi : (als.map (·.1)).Nodup
  ndk : (als.map (·.2.1)).Nodup
  rng : ∀ x ∈ als, H.na ≤ x.2.1 ∧ x.2.1 < H.na + als.length ∧ x.2.2.segs.all (Seg.clear ns H.na) = true ∧ x.1 ∈ A
  Aals : ∀ a ∈ A, ∃ x ∈ als, x.1 = a
  rwc : clearRw ns H.na H.rw = true
  roc : clearRo ns H.na H.ro = true
  ow : H.ow = none
  pos : ∀ k i, (effsFrom 0 es)[k]? = some i → (k < p → ∀ a ∈ A, bitM (masks (es.map (·.o))) a i = true) ∧ (p ≤ k → k < p + als.length → i ∈ A) ∧ (p + als.length ≤ k → ∀ a ∈ A, bitM (masks (es.map (·.o))) i a = true)
  hH : (heapsOf h0 es)[p]? = some H
  hE : (heapsOf h0 es)[p + als.length]? = some (hLs H (H.na + als.length) als)
  ord : ∀ i ∈ effsFrom 0 es, ∀ j ∈ effsFrom 0 es, i < j → bitM (masks (es.map (·.o))) j i = true ∨ (i ∈ A ∧ j ∈ A)
  still : okStill P specs h0 es = true
  val : ∀ i e, es[i]? = some e → e.r.val.clear ns H.na = true ∨ (∃ x ∈ als, x.1 = i ∧ keyed ns x.2.1 e.r.val = true) ∨ ∀ a ∈ A, bitM (masks (es.map (·.o))) i a = true
  pure : ∀ i e, es[i]? = some e → isEff e = false → ∀ L ∈ subs als, skipL (masks (es.map (·.o))) A i L = false → sameAt P specs e (es.flatMap (·.r.need)) (hLs H (H.na + als.length) L) = true
  al : ∀ x ∈ als, ∃ e, es[x.1]? = some e ∧ (keyed ns x.2.1 e.r.val = true ∨ e.r.val.clear ns H.na = true) ∧ isEff e = true ∧
    ∀ L ∈ subs als, (∀ y ∈ L, y.1 ≠ x.1) → skipL (masks (es.map (·.o))) A x.1 L = false → allocAt P specs ns H (H.na + als.length) (es.flatMap (·.r.need)) e x L = true
theorem beq_iff' {a b : Nat} : Nat.beq a b = true ↔ a = b := ⟨Nat.eq_of_beq_eq_true, fun h => h ▸ Nat.beq_refl a⟩
theorem looseAt_spec {P : Program} {specs : Nat → Option Spec} {ns : Nat} {h0 : Hp} {es : List Ent} {fr0 fin : List SR} {A : List Nat} {p : Nat} {als : Als} {H : Hp}
    (h : looseAt P specs ns h0 es fr0 fin A p als H = true) : LooseP P specs ns h0 es fr0 fin A p als H := by
  unfold looseAt at h
  simp only [Bool.and_eq_true] at h
  obtain ⟨a1, a2, a3, a4, a5, a6, a7, a8, a9, a10, a11, a12, a13, a14, a15, a16, a17, a18, a19⟩ := h
  have heff : effsOf es = effsFrom 0 es := rfl
  rw [heff] at a11 a12 a15
  refine ⟨a1, ?_, a3, of_decide_eq_true a4, of_decide_eq_true a5, ?_, ?_, a8, a9, by simpa using a10, ?_, by simpa using a13, by simpa using a14, ?_, a16, ?_, ?_, ?_⟩
  · intro e he
    have := List.all_eq_true.1 a2 e he
    simpa using this
  · intro x hx
    have := List.all_eq_true.1 a6 x hx
    simp only [Bool.and_eq_true, Nat.ble_eq, List.contains_iff_mem] at this
    obtain ⟨b1, b2, b3, b4⟩ := this
    exact ⟨b1, b2, b3, b4⟩
  · intro a ha
    have := List.all_eq_true.1 a7 a ha
    obtain ⟨x, hx, he⟩ := List.any_eq_true.1 this
    exact ⟨x, hx, beq_iff'.1 he⟩
  · intro k i hk
    have := List.all_eq_true.1 a11 (i, k) (List.mem_zipIdx_iff_getElem?.2 hk)
    simp only at this
    refine ⟨fun h1 a ha => ?_, fun h1 h2 => ?_, fun h1 a ha => ?_⟩
    · rw [if_pos h1] at this; exact List.all_eq_true.1 this a ha
    · rw [if_neg (by omega), if_pos h2] at this; exact List.contains_iff_mem.1 this
    · rw [if_neg (by omega), if_neg (by omega)] at this; exact List.all_eq_true.1 this a ha
  · intro i hi j hj hij
    have := List.all_eq_true.1 (List.all_eq_true.1 a15 i hi) j hj
    simp only [hij, decide_true, Bool.not_true, Bool.false_or, Bool.or_eq_true, Bool.and_eq_true, List.contains_iff_mem] at this
    exact this
  · intro i e hi
    have := List.all_eq_true.1 a17 (e, i) (List.mem_zipIdx_iff_getElem?.2 hi)
    simp only [Bool.or_eq_true] at this
    rcases this with h | h | h
    · exact .inl h
    · obtain ⟨x, hx, he⟩ := List.any_eq_true.1 h
      simp only [Bool.and_eq_true] at he
      exact .inr (.inl ⟨x, hx, beq_iff'.1 he.1, he.2⟩)
    · exact .inr (.inr fun a ha => List.all_eq_true.1 h a ha)
  · intro i e hi hne L hL hs
    have := List.all_eq_true.1 a18 (e, i) (List.mem_zipIdx_iff_getElem?.2 hi)
    simp only [hne, Bool.false_or] at this
    have := List.all_eq_true.1 this L hL
    simpa [hs] using this
  · intro x hx
    have := List.all_eq_true.1 a19 x hx
    split at this
    · rename_i e he
      simp only [Bool.and_eq_true, Bool.or_eq_true] at this
      obtain ⟨c1, c2, c3⟩ := this
      refine ⟨e, he, c1, c2, fun L hL hn hs => ?_⟩
      have := List.all_eq_true.1 c3 L hL
      simp only [Bool.or_eq_true] at this
      rcases this with (h | h) | h
      · obtain ⟨y, hy, he⟩ := List.any_eq_true.1 h
        exact absurd (beq_iff'.1 he) (hn y hy)
      · rw [hs] at h; cases h
      · exact h
    · cases this
end
end Go.Proofs.YtljjbikbfeigdaaGreatDoor
namespace Go.Proofs.YtljjbikbfeigdaaGreatDoor
noncomputable section
open Go
section
variable {S : Sig} {ρ : Env} {w0 : World} {P : Program} {specs : Nat → Option Spec} {ns : Nat} {h0 hl : Hp} {es : List Ent} {fr0 fin : List SR} {A : List Nat} {p : Nat} {als : Als} {H : Hp} {init : List Value}
/-- In the midst of making the blocks. -/
structure Mid2 (S : Sig) (ρ : Env) (w0 : World) (es : List Ent) (init : List Value) (H : Hp) (als : Als) (p : Nat) (f : Nat → Nat) (listed : Array Bool) (a : Act) (w : World) : Prop where
  size : listed.size = es.length
  closed : Closed (es.map (·.o)) (fun i => listed.getD i false)
  fr : a.tmps.toList = frameD (fun i => listed.getD i false) 0 (pairsOf S (ρ.nbs f) w0.heap.size es) init
  defers : a.defers = []
  agree : ∀ k, k < H.na → f k = ρ.nb k
  heap : HpOk S (ρ.nbs f) w0 (hLs H (H.na + als.length) (als.filter fun x => listed.getD x.1 false)) w
  eff : ∀ k i, (effsFrom 0 es)[k]? = some i → (k < p → listed.getD i false = true) ∧ (p + als.length ≤ k → listed.getD i false = false)
theorem effs_mem {i : Nat} (h : i ∈ effsFrom 0 es) : ∃ e, es[i]? = some e ∧ isEff e = true := by
  unfold effsFrom at h
  rw [List.mem_filterMap] at h
  obtain ⟨⟨e, j⟩, h1, h2⟩ := h
  simp only at h2
  split at h2
  · rename_i he
    simp only [Option.some.injEq] at h2
    subst h2
    exact ⟨e, List.mem_zipIdx_iff_getElem?.1 h1, he⟩
  · cases h2
theorem pairs_len (es : List Ent) {B : Nat} : (pairsOf S ρ B es).length = es.length := by simp [pairsOf]
/-- What the frame holds stays, if the numbers of the blocks that were made stay. -/
theorem fr_turn (lp : LooseP P specs ns h0 es fr0 fin A p als H) {B : Nat} {f g : Nat → Nat} {D : Nat → Bool} (hfg : ∀ k, k < H.na → g k = f k) (hk : ∀ x ∈ als, D x.1 = true → g x.2.1 = f x.2.1)
    (hw : ∀ i, D i = true → ¬ ∀ a ∈ A, bitM (masks (es.map (·.o))) i a = true) : frameD D 0 (pairsOf S (ρ.nbs f) B es) init = frameD D 0 (pairsOf S (ρ.nbs g) B es) init := by
  refine frameD_pairs _ _ 0 init (by rw [pairs_len, pairs_len]) fun i hi => ?_
  rw [Nat.zero_add] at hi
  unfold pairsOf
  rw [List.getElem?_map, List.getElem?_map]
  cases he : es[i]? with
  | none => rfl
  | some e =>
    simp only [Option.map_some, Option.some.injEq, Prod.mk.injEq, true_and]
    have hA : Agree2 ns H.na (ρ.nbs f) ((ρ.nbs f).nbs g) := nbs_agree hfg
    rcases lp.val i e he with h | ⟨x, hx, hxi, h⟩ | h
    · exact ((SR.clear_den (S := S) (B := B) hA h).1).symm
    · have hkx := hk x hx (by rw [hxi]; exact hi)
      unfold keyed at h
      split at h
      · rename_i j s d hv
        simp only [Bool.and_eq_true] at h
        have hj := beq_iff'.1 h.1
        subst hj
        rw [hv]
        simp only [SR.den, SV.den, Leaf.den, addrOf, Ref.blk, Ref.off, (T.nbs d).1]
        simp only [Env.nbs, hkx]
      · rename_i j s x1 x2 x3 hv
        simp only [Bool.and_eq_true] at h
        have hj := beq_iff'.1 h.1
        subst hj
        rw [hv]
        simp only [SR.den, SV.den, Leaf.den, addrOf, Ref.blk, Ref.off, (T.nbs x1).1, (T.nbs x2).1, (T.nbs x3).1]
        simp only [Env.nbs, hkx]
      · cases h
    · exact absurd h (hw i hi)
theorem rekey_den {k m : Nat} {v : SR} {f g : Nat → Nat} {B : Nat} (h : keyed ns k v = true) (hm : f m = g k) : (rekey m v).den S (ρ.nbs f) B = v.den S (ρ.nbs g) B := by
  unfold keyed at h
  split at h
  · rename_i j s d
    simp only [Bool.and_eq_true] at h
    have hj := beq_iff'.1 h.1
    subst hj
    simp only [rekey, SR.den, SV.den, Leaf.den, addrOf, Ref.blk, Ref.off, (T.nbs d).1]
    simp only [Env.nbs, hm]
  · rename_i j s x1 x2 x3
    simp only [Bool.and_eq_true] at h
    have hj := beq_iff'.1 h.1
    subst hj
    simp only [rekey, SR.den, SV.den, Leaf.den, addrOf, Ref.blk, Ref.off, (T.nbs x1).1, (T.nbs x2).1, (T.nbs x3).1]
    simp only [Env.nbs, hm]
  · cases h
theorem skip_false (lp : LooseP P specs ns h0 es fr0 fin A p als H) (hst : staticOk (es.map (·.o)) = true) {listed : Array Bool} (hcl : Closed (es.map (·.o)) (fun i => listed.getD i false)) {i : Nat} (hil : listed.getD i false = false)
    (hmask : ∀ j, ((masks (es.map (·.o))).getD i 0).testBit j = true → listed.getD j false = true) (hlen : listed.size = es.length) : skipL (masks (es.map (·.o))) A i (als.filter fun x => listed.getD x.1 false) = false := by
  unfold staticOk at hst
  simp only [Bool.and_eq_true] at hst
  unfold skipL
  rw [Bool.or_eq_false_iff]
  constructor
  · rw [← Bool.not_eq_true, List.any_eq_true]
    rintro ⟨a, ha, h⟩
    simp only [Bool.and_eq_true, Bool.not_eq_true', ← Bool.not_eq_true, List.any_eq_true, not_exists, not_and] at h
    obtain ⟨h1, h2⟩ := h
    obtain ⟨x, hx, hxa⟩ := lp.Aals a ha
    have := hmask a h1
    exact h2 x (List.mem_filter.2 ⟨hx, by rw [hxa]; exact this⟩) (beq_iff'.2 hxa)
  · rw [← Bool.not_eq_true, List.any_eq_true]
    rintro ⟨x, hx, h⟩
    obtain ⟨hx1, hx2⟩ := List.mem_filter.1 hx
    obtain ⟨e, he, _⟩ := lp.al x hx1
    have hoj : (es.map (·.o))[x.1]? = some e.o := by simp [he]
    have := closed_mask hst.1 hcl x.1 e.o hoj (fun y h1 h2 => hcl x.1 e.o hoj hx2 y h1 h2) i h
    rw [hil] at this; cases this
theorem sub_met {l m : List T} (h : l.all (m.contains ·) = true) (hm : Met S ρ m) : Met S ρ l := fun x hx => hm x (List.contains_iff_mem.1 (List.all_eq_true.1 h x hx))
set_option maxHeartbeats 1000000 in
theorem mid2_step (hsp : ∀ f s, specs f = some s → SpecOk P S f s) (lp : LooseP P specs ns h0 es fr0 fin A p als H) (hst : staticOk (es.map (·.o)) = true) (sh : Shown P specs S ρ w0.heap.size h0 es init hl)
    (hi0 : ∀ f : Nat → Nat, (∀ k, k < H.na → f k = ρ.nb k) → fr0.map (SR.den S (ρ.nbs f) w0.heap.size) = init)
    {f : Nat → Nat} {listed : Array Bool} {a : Act} {w : World} (hm : Mid2 S ρ w0 es init H als p f listed a w) (hun : ∃ x ∈ als, listed.getD x.1 false = false) {i : Nat}
    (hi : i ∈ Region.ready .any (es.map (·.o)).toArray listed) {K : Act → World → Prop} {Q : Exit → Act → World → Prop}
    (hK : ∀ g a' w', Mid2 S ρ w0 es init H als p g (listed.setIfInBounds i true) a' w' → K a' w') : wpOp P (es.map (·.o)).toArray Q i K a w := by
  have r1' : i < es.length := by simpa using (ready_spec hi).1
  obtain ⟨e, hei⟩ : ∃ e, es[i]? = some e := ⟨_, List.getElem?_eq_getElem r1'⟩
  have hoa : (es.map (·.o)).toArray[i]? = some e.o := by simp [hei]
  have shf : ∀ f : Nat → Nat, (∀ k, k < H.na → f k = ρ.nb k) → Shown P specs S (ρ.nbs f) w0.heap.size h0 es init hl := fun f hf => sh.nbs lp.frames (hi0 f hf) lp.guard
  have mf := mid_frame hst hei ((shf f hm.agree).fr i e hei) hm.size hm.closed hm.fr hi
  obtain ⟨hil, r2, hmask, hagree, hcl', hput⟩ := mf
  have hwant : Region.wanted e.o (yielded (es.map (·.o)).toArray a.tmps) = true := by
    unfold Region.wanted; rw [lp.guard e (List.mem_of_getElem? hei)]
  have hwt : e.want = true := by
    rw [← sh.want i e hei]; unfold Region.wanted; rw [lp.guard e (List.mem_of_getElem? hei)]
  obtain ⟨s1, s2, s3⟩ := (shf f hm.agree).st i e hei hwt
  have hneed : Met S (ρ.nbs f) (es.flatMap (·.r.need)) := (shf f hm.agree).met
  have hskip := skip_false lp hst hm.closed r2 hmask hm.size
  obtain ⟨x0, hx0, hx0l⟩ := hun
  have nowait : ∀ j, listed.getD j false = true → ¬ ∀ a ∈ A, bitM (masks (es.map (·.o))) j a = true := by
    intro j hj hall
    have hb := hall x0.1 (lp.rng x0 hx0).2.2.2
    have hst' := hst
    unfold staticOk at hst'
    simp only [Bool.and_eq_true] at hst'
    have hjl : j < es.length := by
      rcases Nat.lt_or_ge j es.length with h | h
      · exact h
      · rw [Array.getD_eq_getD_getElem?, Array.getElem?_eq_none (by rw [hm.size]; exact h)] at hj; cases hj
    have hoj : (es.map (·.o))[j]? = some (es[j]).o := by simp [hjl]
    have := closed_mask hst'.1 hm.closed j _ hoj (fun y h1 h2 => hm.closed j _ hoj hj y h1 h2) x0.1 hb
    rw [hx0l] at this; cases this
  unfold wpOp
  rw [hoa]
  simp only [hwant, if_true]
  left
  cases hne : isEff e with
  | false =>
    have hs := lp.pure i e hei hne _ (filter_subs _ als) hskip
    unfold sameAt at hs
    split at hs
    · rename_i r' hr'
      simp only [Bool.and_eq_true, beq_iff_eq] at hs
      obtain ⟨⟨v1, v2⟩, v3⟩ := hs
      obtain ⟨_, d2⟩ := step_ok hsp (o := e.o) (a := a) (w := w) (w0 := w0) hr' (sub_met v3 hneed) (getSR_wf s3) hagree hm.heap
      refine d2 _ _ fun w' hw' => ?_
      rw [v1]
      rw [v2] at hw'
      have hnA : i ∉ A := by
        intro hA
        obtain ⟨x, hx, hxi⟩ := lp.Aals i hA
        obtain ⟨e', he', _, he2, _⟩ := lp.al x hx
        rw [hxi, hei] at he'; injection he' with he'; subst he'
        rw [hne] at he2; cases he2
      have hfl : (als.filter fun x => (listed.setIfInBounds i true).getD x.1 false) = als.filter fun x => listed.getD x.1 false := by
        apply List.filter_congr
        intro x hx
        rw [getD_set _ _ _ hil, if_neg (by intro h; exact hnA (by rw [← h]; exact (lp.rng x hx).2.2.2))]
      refine hK f _ _ ⟨by simpa using hm.size, hcl', hput, ?_, hm.agree, by rw [hfl]; exact hw', ?_⟩
      · unfold Act.put
        cases e.o.dst <;> exact hm.defers
      · intro k j hk
        obtain ⟨q1, q2⟩ := hm.eff k j hk
        have hji : j ≠ i := by
          intro h; subst h
          have : j ∈ effsFrom 0 es := List.mem_of_getElem? hk
          obtain ⟨e', h1, h2⟩ := effs_mem this
          rw [hei] at h1; injection h1 with h1; subst h1
          rw [hne] at h2; cases h2
        rw [getD_set _ _ _ hil, if_neg hji]
        exact ⟨q1, q2⟩
    · cases hs
  | true =>
    -- it makes a block
    have hiE : i ∈ effsFrom 0 es := by
      rw [← effs_eq, List.mem_filterMap]
      exact ⟨(e, i), List.mem_zipIdx_iff_getElem?.2 hei, by simp [hne]⟩
    obtain ⟨k0, hk0⟩ := List.getElem?_of_mem hiE
    obtain ⟨p1, p2, p3⟩ := lp.pos k0 i hk0
    have hk1 : p ≤ k0 := by
      rcases Nat.lt_or_ge k0 p with h | h
      · have := (hm.eff k0 i hk0).1 h
        rw [r2] at this; cases this
      · exact h
    have hk2 : k0 < p + als.length := by
      rcases Nat.lt_or_ge k0 (p + als.length) with h | h
      · exact h
      · have := hmask x0.1 (p3 h x0.1 (lp.rng x0 hx0).2.2.2)
        rw [hx0l] at this; cases this
    have hiA := p2 hk1 hk2
    obtain ⟨x, hx, hxi⟩ := lp.Aals i hiA
    obtain ⟨e', he', hkc, _, hat⟩ := lp.al x hx
    rw [hxi, hei] at he'; injection he' with he'; subst he'
    have hxl : listed.getD x.1 false = false := by rw [hxi]; exact r2
    have hat := hat _ (filter_subs (fun y => listed.getD y.1 false) als) (fun y hy h => by
      have := (List.mem_filter.1 hy).2
      rw [h, hxl] at this; cases this) (by rw [hxi]; exact hskip)
    unfold allocAt at hat
    split at hat
    · rename_i r' hr'
      simp only [Bool.and_eq_true, beq_iff_eq] at hat
      obtain ⟨v1, v2, v3⟩ := hat
      obtain ⟨_, d2⟩ := step_ok hsp (o := e.o) (a := a) (w := w) (w0 := w0) hr' (sub_met v3 hneed) (getSR_wf s3) hagree hm.heap
      refine d2 _ _ fun w' hw' => ?_
      rw [v2] at hw'
      obtain ⟨g1, g2, g3, _⟩ := lp.rng x hx
      let na1 := H.na + als.length
      let g : Nat → Nat := fun k => if k = x.2.1 then f na1 else if na1 ≤ k then f (k + 1) else f k
      have gk : g x.2.1 = f na1 := if_pos rfl
      have glow : ∀ k, k < H.na → g k = f k := fun k hk => by
        show (if k = x.2.1 then f na1 else if na1 ≤ k then f (k + 1) else f k) = f k
        rw [if_neg (by omega), if_neg (by show ¬ H.na + als.length ≤ k; omega)]
      have ghigh : ∀ k, na1 ≤ k → g k = f (k + 1) := fun k hk => by
        show (if k = x.2.1 then f na1 else if na1 ≤ k then f (k + 1) else f k) = f (k + 1)
        rw [if_neg (by have : H.na + als.length ≤ k := hk; omega), if_pos hk]
      have gother : ∀ y ∈ als, listed.getD y.1 false = true → g y.2.1 = f y.2.1 := by
        intro y hy hyl
        have hne : y.2.1 ≠ x.2.1 := by
          intro he
          have : y = x := by
            have hnd := lp.ndk
            obtain ⟨m, hm1⟩ := List.getElem?_of_mem hy
            obtain ⟨m', hm2⟩ := List.getElem?_of_mem hx
            have e1 : (als.map (·.2.1))[m]? = some y.2.1 := by simp [hm1]
            have e2 : (als.map (·.2.1))[m']? = some y.2.1 := by simp [hm2, he]
            have hl1 := (List.getElem?_eq_some_iff.1 e1).1
            have := (List.getElem?_inj hl1 hnd).1 (e1.trans e2.symm)
            subst this
            rw [hm1] at hm2; injection hm2
          rw [this, hxl] at hyl; cases hyl
        show (if y.2.1 = x.2.1 then f na1 else if na1 ≤ y.2.1 then f (y.2.1 + 1) else f y.2.1) = f y.2.1
        rw [if_neg hne, if_neg (by show ¬ H.na + als.length ≤ y.2.1; have := (lp.rng y hy).2.1; omega)]
      have hagr : ∀ k, k < H.na → g k = ρ.nb k := fun k hk => (glow k hk).trans (hm.agree k hk)
      have hA2 : Agree2 ns H.na (ρ.nbs f) ((ρ.nbs f).nbs g) := nbs_agree glow
      have hrc : ∀ z ∈ H.rw, z.1.clear ns H.na = true ∧ z.2.segs.all (Seg.clear ns H.na) = true := by
        intro z hz
        have := lp.rwc
        unfold clearRw at this
        have := List.all_eq_true.1 this z hz
        simpa using this
      -- the frame
      have hval : r'.val.den S (ρ.nbs f) w0.heap.size = e.r.val.den S (ρ.nbs g) w0.heap.size := by
        rw [v1]
        split
        · rename_i hkey
          exact rekey_den hkey gk.symm
        · rename_i hkey
          rcases hkc with h | h
          · exact absurd h hkey
          · exact ((SR.clear_den (S := S) (B := w0.heap.size) hA2 h).1).symm
      have hfr' : a.tmps.toList = frameD (fun i => listed.getD i false) 0 (pairsOf S (ρ.nbs g) w0.heap.size es) init := by
        rw [hm.fr]
        exact fr_turn lp (fun k hk => glow k hk) (fun y hy hyl => gother y hy hyl) nowait
      have mg := mid_frame hst hei ((shf g hagr).fr i e hei) hm.size hm.closed hfr' hi
      have hput' := mg.2.2.2.2.2
      rw [hval]
      refine hK g _ _ ⟨by simpa using hm.size, hcl', hput', ?_, hagr, ?_, ?_⟩
      · unfold Act.put
        cases e.o.dst <;> exact hm.defers
      · refine HpOk.turn (ρ := ρ.nbs f) (ns := ns) (na := H.na) hw' hA2 ?_ ?_ ?_ rfl lp.roc lp.ow ?_ ?_
        · intro z hz
          rcases List.mem_append.1 hz with h | h
          · rcases List.mem_append.1 h with h | h
            · exact (hrc z h).2
            · obtain ⟨y, hy, hyz⟩ := List.mem_map.1 h
              rw [← hyz]
              exact (lp.rng y (List.mem_filter.1 hy).1).2.2.1
          · rw [List.mem_singleton.1 h]; exact g3
        · have hp := filter_more (D := fun j => listed.getD j false) (D' := fun j => (listed.setIfInBounds i true).getD j false) hx lp.ndi hxl (by rw [getD_set _ _ _ hil, if_pos hxi]) (fun j hj => by rw [getD_set _ _ _ hil, if_neg (by rw [← hxi]; exact hj)])
          have e1 : (H.rw.map fun z => (z.1.blk (ρ.nbs g) w0.heap.size, z.2)) = H.rw.map fun z => (z.1.blk (ρ.nbs f) w0.heap.size, z.2) := by
            apply List.map_congr_left
            intro z hz
            exact congrArg (fun b => (b, z.2)) (Ref.clear_den (B := w0.heap.size) hA2 (hrc z hz).1).1
          have e2 : ((als.filter fun y => listed.getD y.1 false).map fun y => ((newR y).1.blk (ρ.nbs g) w0.heap.size, (newR y).2)) = (als.filter fun y => listed.getD y.1 false).map fun y => ((newR y).1.blk (ρ.nbs f) w0.heap.size, (newR y).2) := by
            apply List.map_congr_left
            intro y hy
            obtain ⟨y1, y2⟩ := List.mem_filter.1 hy
            have := gother y y1 y2
            simp only [newR, Ref.blk, Env.nbs, this]
          simp only [hLs, List.map_append, List.map_map, List.map_cons, List.map_nil, Function.comp_def]
          rw [e1]
          have h3 := hp.map fun y => ((newR y).1.blk (ρ.nbs g) w0.heap.size, (newR y).2)
          rw [List.map_cons, e2] at h3
          have h5 : (newR x).1.blk (ρ.nbs g) w0.heap.size = (Ref.new (H.na + als.length)).blk (ρ.nbs f) w0.heap.size := by
            simp only [newR, Ref.blk, Env.nbs]
            exact congrArg _ gk
          rw [h5] at h3
          have h4 := (h3.trans (List.perm_append_singleton _ _).symm).append_left (H.rw.map fun z => (z.1.blk (ρ.nbs f) w0.heap.size, z.2))
          rw [← List.append_assoc] at h4
          exact h4
        · intro z hz
          rcases (List.mem_append.1 hz).symm with h | h
          · obtain ⟨y, _, hyz⟩ := List.mem_map.1 h
            rw [← hyz]; rfl
          · have := hw'.off z (List.mem_append_left _ (List.mem_append_left _ h))
            have h2 := (Ref.clear_den (B := w0.heap.size) hA2 (hrc z h).1).2
            exact h2.trans this
        · exact ghigh na1 (Nat.le_refl _)
        · intro k hk
          have hk : na1 ≤ k := hk
          have := hw'.nbs (k + 1) (by show H.na + als.length + 1 ≤ k + 1; have : H.na + als.length ≤ k := hk; omega)
          show g (k + 1) = g k + 1
          rw [ghigh k hk, ghigh (k + 1) (by omega)]
          exact this
      · intro k j hk
        obtain ⟨q1, q2⟩ := hm.eff k j hk
        refine ⟨fun h => ?_, fun h => ?_⟩
        · rw [getD_set _ _ _ hil]
          split
          · rfl
          · exact q1 h
        · rw [getD_set _ _ _ hil]
          split
          · rename_i hji
            subst hji
            have := (lp.pos k j hk).2.2 h
            exfalso
            have := hmask x0.1 (this x0.1 (lp.rng x0 hx0).2.2.2)
            rw [hx0l] at this; cases this
          · exact q2 h
    · cases hat
end
end
end Go.Proofs.YtljjbikbfeigdaaGreatDoor
namespace Go.Proofs.YtljjbikbfeigdaaGreatDoor
noncomputable section
open Go
section
variable {S : Sig} {ρ : Env} {w0 : World} {P : Program} {specs : Nat → Option Spec} {ns : Nat} {h0 hl : Hp} {es : List Ent} {fr0 fin : List SR} {A : List Nat} {p : Nat} {als : Als} {H : Hp} {init : List Value}
def Inv3 (S : Sig) (ρ : Env) (w0 : World) (h0 : Hp) (es : List Ent) (init : List Value) (H : Hp) (als : Als) (p : Nat) (listed : Array Bool) (a : Act) (w : World) : Prop :=
  (Mid S ρ w0 h0 es init listed a w ∧ ∀ x ∈ als, listed.getD x.1 false = false) ∨
  (∃ f, Mid2 S ρ w0 es init H als p f listed a w ∧ ∃ x ∈ als, listed.getD x.1 false = false) ∨
  (∃ f : Nat → Nat, (∀ k, k < H.na → f k = ρ.nb k) ∧ Mid S (ρ.nbs f) w0 h0 es init listed a w ∧ ∀ x ∈ als, listed.getD x.1 false = true)
theorem mid2_done (lp : LooseP P specs ns h0 es fr0 fin A p als H) (hc : Chain h0 es hl) {f : Nat → Nat} {listed : Array Bool} {a : Act} {w : World} (hm : Mid2 S ρ w0 es init H als p f listed a w) : Inv3 S ρ w0 h0 es init H als p listed a w := by
  by_cases hall : ∃ x ∈ als, listed.getD x.1 false = false
  · exact .inr (.inl ⟨f, hm, hall⟩)
  · have hall : ∀ x ∈ als, listed.getD x.1 false = true := by
      intro x hx
      cases hb : listed.getD x.1 false with
      | true => rfl
      | false => exact absurd ⟨x, hx, hb⟩ hall
    refine .inr (.inr ⟨f, hm.agree, ⟨hm.size, hm.closed, hm.fr, hm.defers, p + als.length, hLs H (H.na + als.length) als, ?_, fun k i hk => ?_, lp.hE, ?_⟩, hall⟩)
    · have := (List.getElem?_eq_some_iff.1 lp.hE).1
      rw [(chain_heaps 0 hc).2.2] at this
      omega
    · obtain ⟨q1, q2⟩ := hm.eff k i hk
      constructor
      · intro h
        rcases Nat.lt_or_ge k (p + als.length) with h' | h'
        · exact h'
        · rw [q2 h'] at h; cases h
      · intro h
        rcases Nat.lt_or_ge k p with h' | h'
        · exact q1 h'
        · obtain ⟨x, hx, hxi⟩ := lp.Aals i ((lp.pos k i hk).2.1 h' h)
          rw [← hxi]; exact hall x hx
    · have := hm.heap
      rw [List.filter_eq_self.2 hall] at this
      exact this
theorem mid2_start (lp : LooseP P specs ns h0 es fr0 fin A p als H) (hst : staticOk (es.map (·.o)) = true) (hc : Chain h0 es hl) {listed : Array Bool} {a : Act} {w : World} (hm : Mid S ρ w0 h0 es init listed a w)
    (hun : ∀ x ∈ als, listed.getD x.1 false = false) {i : Nat} (hiA : i ∈ A) (hmask : ∀ j, ((masks (es.map (·.o))).getD i 0).testBit j = true → listed.getD j false = true) : ∃ f, Mid2 S ρ w0 es init H als p f listed a w := by
  have hst' := hst
  unfold staticOk at hst'
  simp only [Bool.and_eq_true] at hst'
  obtain ⟨x, hx, hxi⟩ := lp.Aals i hiA
  have hpos : 0 < als.length := List.length_pos_of_mem hx
  obtain ⟨t, h, h1, h2, h3, h4⟩ := hm.heap
  have hlen : p + als.length < (effsFrom 0 es).length + 1 := by
    have := (List.getElem?_eq_some_iff.1 lp.hE).1
    rwa [(chain_heaps 0 hc).2.2] at this
  have nowait : ∀ j, listed.getD j false = true → ¬ ∀ a ∈ A, bitM (masks (es.map (·.o))) j a = true := by
    intro j hj hall
    have hb := hall x.1 (lp.rng x hx).2.2.2
    have hjl : j < es.length := by
      rcases Nat.lt_or_ge j es.length with h | h
      · exact h
      · rw [Array.getD_eq_getD_getElem?, Array.getElem?_eq_none (by rw [hm.size]; exact h)] at hj; cases hj
    have hoj : (es.map (·.o))[j]? = some (es[j]).o := by simp [hjl]
    have := closed_mask hst'.1 hm.closed j _ hoj (fun y h1 h2 => hm.closed j _ hoj hj y h1 h2) x.1 hb
    rw [hun x hx] at this; cases this
  have htp : t = p := by
    have hA : ¬ p < t := by
      intro hlt
      have hk : (effsFrom 0 es)[p]? = some ((effsFrom 0 es)[p]'(by omega)) := List.getElem?_eq_getElem _
      obtain ⟨y, hy, hye⟩ := lp.Aals _ ((lp.pos p _ hk).2.1 (Nat.le_refl _) (by omega))
      have := (h2 p _ hk).2 hlt
      rw [← hye, hun y hy] at this; cases this
    rcases Nat.lt_or_ge t p with hlt | hge
    · exfalso
      have hk : (effsFrom 0 es)[t]? = some ((effsFrom 0 es)[t]'(by omega)) := List.getElem?_eq_getElem _
      have := hmask _ ((lp.pos t _ hk).1 hlt i hiA)
      have := (h2 t _ hk).1 this
      omega
    · omega
  subst htp
  rw [lp.hH] at h3
  injection h3 with h3
  subst h3
  let f : Nat → Nat := fun k => if k < H.na then ρ.nb k else if k < H.na + als.length then 0 else ρ.nb H.na + (k - (H.na + als.length))
  have flow : ∀ k, k < H.na → f k = ρ.nb k := fun k hk => if_pos hk
  have fhigh : ∀ k, H.na + als.length ≤ k → f k = ρ.nb H.na + (k - (H.na + als.length)) := fun k hk => by
    show (if k < H.na then ρ.nb k else if k < H.na + als.length then 0 else ρ.nb H.na + (k - (H.na + als.length))) = _
    rw [if_neg (by omega), if_neg (by omega)]
  have hnone : (als.filter fun x => listed.getD x.1 false) = [] := by
    rw [List.filter_eq_nil_iff]
    intro y hy
    rw [hun y hy]; simp
  have hA2 : Agree2 ns H.na ρ (ρ.nbs f) := nbs_agree flow
  have hrc : ∀ z ∈ H.rw, z.1.clear ns H.na = true ∧ z.2.segs.all (Seg.clear ns H.na) = true := by
    intro z hz
    have := lp.rwc
    unfold clearRw at this
    have := List.all_eq_true.1 this z hz
    simpa using this
  refine ⟨f, hm.size, hm.closed, ?_, hm.defers, flow, ?_, fun k j hk => ⟨fun h => ?_, fun h => ?_⟩⟩
  · rw [hm.fr]
    exact fr_turn (f := ρ.nb) (g := f) lp flow (fun y hy hyl => by rw [hun y hy] at hyl; cases hyl) nowait
  · rw [hnone]
    refine HpOk.turn (ρ := ρ) (ns := ns) (na := H.na) h4 hA2 (fun z hz => (hrc z hz).2) ?_ ?_ rfl lp.roc lp.ow ?_ ?_
    · have e1 : (H.rw.map fun z => (z.1.blk (ρ.nbs f) w0.heap.size, z.2)) = H.rw.map fun z => (z.1.blk ρ w0.heap.size, z.2) := by
        apply List.map_congr_left
        intro z hz
        exact congrArg (fun b => (b, z.2)) (Ref.clear_den (B := w0.heap.size) hA2 (hrc z hz).1).1
      simp only [hLs, List.map_nil, List.append_nil]
      rw [e1]
    · intro z hz
      simp only [hLs, List.map_nil, List.append_nil] at hz
      exact (Ref.clear_den (B := w0.heap.size) hA2 (hrc z hz).1).2.trans (h4.off z hz)
    · show f (H.na + als.length) = ρ.nb H.na
      rw [fhigh _ (Nat.le_refl _)]; omega
    · intro k hk
      have hk : H.na + als.length ≤ k := hk
      show f (k + 1) = f k + 1
      rw [fhigh k hk, fhigh (k + 1) (by omega)]; omega
  · exact (h2 k j hk).2 h
  · cases hb : listed.getD j false with
    | false => rfl
    | true => have := (h2 k j hk).1 hb; omega
set_option maxHeartbeats 1000000 in
theorem any_ok3 (hsp : ∀ f s, specs f = some s → SpecOk P S f s) (lp : LooseP P specs ns h0 es fr0 fin A p als H) (hne : als ≠ []) (hst : staticOk (es.map (·.o)) = true) (sh : Shown P specs S ρ w0.heap.size h0 es init hl)
    (hi0 : ∀ f : Nat → Nat, (∀ k, k < H.na → f k = ρ.nb k) → fr0.map (SR.den S (ρ.nbs f) w0.heap.size) = init)
    {Q : Exit → Act → World → Prop} (hQ : ∀ (f : Nat → Nat) a w, (∀ k, k < H.na → f k = ρ.nb k) → a.tmps.toList = frameD (fun _ => true) 0 (pairsOf S (ρ.nbs f) w0.heap.size es) init → a.defers = [] → HpOk S (ρ.nbs f) w0 hl w → Q .normal a w) :
    ∀ (fuel : Nat) (listed : Array Bool) (a : Act) (w : World), Inv3 S ρ w0 h0 es init H als p listed a w → ((List.range es.length).filter fun i => !listed.getD i false).length ≤ fuel →
      wpAny P .any (es.map (·.o)).toArray Q fuel listed a w := by
  have hst' := hst
  unfold staticOk at hst'
  simp only [Bool.and_eq_true] at hst'
  obtain ⟨hb, ht⟩ := hst'
  obtain ⟨x0, hx0⟩ : ∃ x, x ∈ als := by
    cases als with
    | nil => exact absurd rfl hne
    | cons x l => exact ⟨x, List.mem_cons_self⟩
  have hx0i : x0.1 < es.length := by
    obtain ⟨e, he, _⟩ := lp.al x0 hx0
    exact (List.getElem?_eq_some_iff.1 he).1
  have hsize : ∀ {listed : Array Bool} {a : Act} {w : World}, Inv3 S ρ w0 h0 es init H als p listed a w → listed.size = es.length := by
    intro listed a w h
    rcases h with ⟨h, _⟩ | ⟨f, h, _⟩ | ⟨f, _, h, _⟩
    · exact h.size
    · exact h.size
    · exact h.size
  have hstop : ∀ (listed : Array Bool) (a : Act) (w : World), Inv3 S ρ w0 h0 es init H als p listed a w → Region.ready .any (es.map (·.o)).toArray listed = [] → Q .normal a w := by
    intro listed a w h hr
    have hall := all_listed (ops := es.map (·.o)) (by simpa using hsize h) hb hr
    have hx0l := hall x0.1 (by simpa using hx0i)
    rcases h with ⟨_, h⟩ | ⟨f, _, x, hx, h⟩ | ⟨f, hf, hm, _⟩
    · rw [h x0 hx0] at hx0l; cases hx0l
    · obtain ⟨e, he, _⟩ := lp.al x hx
      rw [hall x.1 (by simpa using (List.getElem?_eq_some_iff.1 he).1)] at h; cases h
    · obtain ⟨t, h, h1, h2, h3, h4⟩ := hm.heap
      refine hQ f a w hf ?_ hm.defers ?_
      · rw [hm.fr]
        apply List.ext_getElem?
        intro s
        apply frameD_look _ _ _ _ rfl rfl
        intro i e hi _
        obtain ⟨e', hi', _⟩ := pairs_back hi
        simp only [Nat.zero_add]
        exact hall i (by simpa using (List.getElem?_eq_some_iff.1 hi').1)
      · have htl : t = (effsFrom 0 es).length := by
          rcases Nat.lt_or_ge t (effsFrom 0 es).length with hlt | hge
          · have hi := h2 t _ (List.getElem?_eq_getElem hlt)
            obtain ⟨e', q1, _⟩ := (chain_heaps 0 sh.chain).1 t _ (List.getElem?_eq_getElem hlt)
            have := hi.1 (hall _ (by simpa using (List.getElem?_eq_some_iff.1 q1).1))
            omega
          · omega
        have := (chain_heaps 0 sh.chain).2.1
        rw [← htl, h3] at this
        injection this with this
        rw [← this]; exact h4
  intro fuel
  induction fuel with
  | zero =>
    intro listed a w hm hf
    have hr : Region.ready .any (es.map (·.o)).toArray listed = [] := by
      rw [List.eq_nil_iff_forall_not_mem]
      intro i hi
      obtain ⟨r1, r2, _⟩ := ready_spec hi
      have r1 : i < es.length := by simpa using r1
      rw [getD_tf _ _ (by rw [hsize hm]; exact r1)] at r2
      have : i ∈ (List.range es.length).filter fun i => !listed.getD i false := by
        rw [List.mem_filter]; exact ⟨List.mem_range.2 r1, by rw [r2]; rfl⟩
      have := List.length_pos_of_mem this
      omega
    exact ⟨hr, hstop listed a w hm hr⟩
  | succ fuel ih =>
    intro listed a w hm hf
    refine ⟨hstop listed a w hm, fun i hi => ?_⟩
    obtain ⟨r1, r2, r3⟩ := ready_spec hi
    have r1' : i < es.length := by simpa using r1
    have hil : i < listed.size := by rw [hsize hm]; exact r1'
    rw [getD_tf _ _ hil] at r2
    obtain ⟨e, hei⟩ : ∃ e, es[i]? = some e := ⟨_, List.getElem?_eq_getElem r1'⟩
    have hoi : (es.map (·.o))[i]? = some e.o := by simp [hei]
    have hoa : (es.map (·.o)).toArray[i]? = some e.o := by simpa using hoi
    have hpre := r3 e.o hoa
    have hless : ((List.range es.length).filter fun j => !(listed.setIfInBounds i true).getD j false).length ≤ fuel := by
      have : ((List.range es.length).filter fun j => !(listed.setIfInBounds i true).getD j false).length < ((List.range es.length).filter fun j => !listed.getD j false).length := by
          have e1 : ((List.range es.length).filter fun j => !(listed.setIfInBounds i true).getD j false) = ((List.range es.length).filter fun j => !listed.getD j false).filter fun j => j != i := by
            rw [List.filter_filter]
            apply List.filter_congr
            intro j _
            rw [getD_set _ _ _ hil]
            by_cases hji : j = i
            · subst hji; simp
            · simp [hji]
          rw [e1]
          have hmem : i ∈ (List.range es.length).filter fun j => !listed.getD j false := by
            rw [List.mem_filter]; exact ⟨List.mem_range.2 r1', by rw [r2]; rfl⟩
          exact List.length_filter_lt_length_iff_exists.2 ⟨i, hmem, by simp⟩
      omega
    have effmem : isEff e = true → i ∈ effsFrom 0 es := by
      intro h
      rw [← effs_eq, List.mem_filterMap]
      exact ⟨(e, i), List.mem_zipIdx_iff_getElem?.2 hei, by simp [h]⟩
    rcases hm with ⟨hm, hun⟩ | ⟨f, hm, hun⟩ | ⟨f, hf', hm, hall⟩
    · have hmask := closed_mask hb hm.closed i e.o hoi hpre
      by_cases hiA : i ∈ A
      · obtain ⟨f, hm2⟩ := mid2_start lp hst sh.chain hm hun hiA hmask
        exact mid2_step hsp lp hst sh hi0 hm2 ⟨x0, hx0, hun x0 hx0⟩ hi fun g a' w' hm' => ih _ _ _ (mid2_done lp sh.chain hm') hless
      · refine mid_step' hsp hst (.inr lp.still) sh.chain sh.met hei (sh.fr i e hei) (sh.want i e hei) (sh.st i e hei) (sh.no i e hei) (fun he j hj hji => ?_) hm hi fun a' w' hm' => ih _ _ _ (.inl ⟨hm', fun x hx => ?_⟩) hless
        · rcases lp.ord j hj i (effmem he) hji with h | h
          · exact .inl h
          · exact absurd h.2 hiA
        · rw [getD_set _ _ _ hil, if_neg (by intro h; exact hiA (by rw [← h]; exact (lp.rng x hx).2.2.2))]
          exact hun x hx
    · exact mid2_step hsp lp hst sh hi0 hm hun hi fun g a' w' hm' => ih _ _ _ (mid2_done lp sh.chain hm') hless
    · have shf : Shown P specs S (ρ.nbs f) w0.heap.size h0 es init hl := sh.nbs lp.frames (hi0 f hf') lp.guard
      have hiA : i ∉ A := by
        intro h
        obtain ⟨x, hx, hxi⟩ := lp.Aals i h
        have := hall x hx
        rw [hxi, r2] at this; cases this
      refine mid_step' hsp hst (.inr lp.still) shf.chain shf.met hei (shf.fr i e hei) (shf.want i e hei) (shf.st i e hei) (shf.no i e hei) (fun he j hj hji => ?_) hm hi fun a' w' hm' => ih _ _ _ (.inr (.inr ⟨f, hf', hm', fun x hx => ?_⟩)) hless
      · rcases lp.ord j hj i (effmem he) hji with h | h
        · exact .inl h
        · exact absurd h.2 hiA
      · rw [getD_set _ _ _ hil]
        split
        · rfl
        · exact hall x hx
end
end
end Go.Proofs.YtljjbikbfeigdaaGreatDoor
namespace Go.Proofs.YtljjbikbfeigdaaGreatDoor
noncomputable section
open Go
/-- The letters are as bound. -/
structure Real (S : Sig) (lo na : Nat) (ρ ρ' : Env) (B B' : Nat) (m : Bd) : Prop where
  i : ∀ n x, lo ≤ n → look m.i n = some x → ρ'.i n = x.I S ρ
  b : ∀ n x, lo ≤ n → look m.b n = some x → ρ'.b n = x.B S ρ
  a : ∀ n x, lo ≤ n → look m.a n = some x → ρ'.a n = x.A S ρ
  v : ∀ n x, lo ≤ n → look m.v n = some x → ρ'.v n = x.den S ρ B
  j : ∀ n x, lo ≤ n → look m.j n = some x → ρ'.j n = x.den S ρ B
  s : ∀ n x, lo ≤ n → look m.s n = some x → ρ'.vs n = segsDen S ρ B x
  o : ∀ n r, lo ≤ n → look m.r n = some (.o r) → ρ'.blk n = r.blk ρ B
  n : ∀ n k, lo ≤ n → look m.r n = some (.n k) → B' + ρ'.blk n = B + ρ.nb k
  q : ∀ n k, lo ≤ n → look m.r n = some (.q k) → B' + ρ'.blk n = B + ρ.blk k
  p : ∀ n r s d l c, lo ≤ n → look m.r n = some (.p (.sl r s d l c)) → ρ'.blk n = r.blk ρ B ∧ ρ'.off n = r.off ρ + s + (d.I S ρ).toNat
  vL : ∀ n, n < lo → ρ'.v n = ρ.v n
  jL : ∀ n, n < lo → ρ'.j n = ρ.j n
  sL : ∀ n, n < lo → ρ'.vs n = ρ.vs n
  blkL : ∀ n, n < lo → ρ'.blk n = ρ.blk n
  offL : ∀ n, n < lo → ρ'.off n = ρ.off n
  nb : ∀ k, k < na → B' + ρ'.nb k = B + ρ.nb k
  hB : 0 < lo → B' = B
  eqI : ∀ p ∈ m.eqI, p.1.I S ρ' = p.2.I S ρ
  eqB : ∀ p ∈ m.eqB, p.1.B S ρ' = p.2.B S ρ
  eqA : ∀ p ∈ m.eqA, p.1.A S ρ' = p.2.A S ρ
  need : Met S ρ m.need
section
variable {S : Sig} {lo na : Nat} {ρ ρ' : Env} {B B' : Nat} {m m' : Bd}
theorem look_cons {α : Type} {l : List (Nat × α)} {n k : Nat} {x y : α} (h : look l k = none) (hn : look l n = some y) : look ((k, x) :: l) n = some y := by
  unfold look
  cases hb : Nat.beq k n with
  | true =>
    have := Nat.eq_of_beq_eq_true hb
    subst this
    rw [h] at hn; cases hn
  | false => exact hn
theorem look_self {α : Type} {l : List (Nat × α)} {n : Nat} {x : α} : look ((n, x) :: l) n = some x := by
  unfold look; rw [Nat.beq_refl]
theorem ble_iff {a b : Nat} : Nat.ble a b = true ↔ a ≤ b := ⟨Nat.le_of_ble_eq_true, Nat.ble_eq_true_of_le⟩
theorem bindI_ok {t x : T} (hr : Real S lo na ρ ρ' B B' (bindI lo t x m)) : t.I S ρ' = x.I S ρ ∧ Real S lo na ρ ρ' B B' m := by
  have heq : Real S lo na ρ ρ' B B' { m with eqI := (t, x) :: m.eqI } → t.I S ρ' = x.I S ρ ∧ Real S lo na ρ ρ' B B' m := fun hr =>
    ⟨hr.eqI (t, x) (by simp), { hr with eqI := fun p hp => hr.eqI p (List.mem_cons_of_mem _ hp) }⟩
  unfold bindI at hr
  split at hr
  · rename_i n
    split at hr
    · rename_i hl
      rw [ble_iff] at hl
      split at hr
      · rename_i hn
        exact ⟨hr.i n x hl look_self, { hr with i := fun k y hk hy => hr.i k y hk (look_cons hn hy) }⟩
      · exact heq hr
    · exact heq hr
  · exact heq hr
theorem bindB_ok {t x : T} (hr : Real S lo na ρ ρ' B B' (bindB lo t x m)) : t.B S ρ' = x.B S ρ ∧ Real S lo na ρ ρ' B B' m := by
  have heq : Real S lo na ρ ρ' B B' { m with eqB := (t, x) :: m.eqB } → t.B S ρ' = x.B S ρ ∧ Real S lo na ρ ρ' B B' m := fun hr =>
    ⟨hr.eqB (t, x) (by simp), { hr with eqB := fun p hp => hr.eqB p (List.mem_cons_of_mem _ hp) }⟩
  unfold bindB at hr
  split at hr
  · rename_i n
    split at hr
    · rename_i hl
      rw [ble_iff] at hl
      split at hr
      · rename_i hn
        exact ⟨hr.b n x hl look_self, { hr with b := fun k y hk hy => hr.b k y hk (look_cons hn hy) }⟩
      · exact heq hr
    · exact heq hr
  · exact heq hr
theorem bindA_ok {t x : T} (hr : Real S lo na ρ ρ' B B' (bindA lo t x m)) : t.A S ρ' = x.A S ρ ∧ Real S lo na ρ ρ' B B' m := by
  have heq : Real S lo na ρ ρ' B B' { m with eqA := (t, x) :: m.eqA } → t.A S ρ' = x.A S ρ ∧ Real S lo na ρ ρ' B B' m := fun hr =>
    ⟨hr.eqA (t, x) (by simp), { hr with eqA := fun p hp => hr.eqA p (List.mem_cons_of_mem _ hp) }⟩
  unfold bindA at hr
  split at hr
  · rename_i n
    split at hr
    · rename_i hl
      rw [ble_iff] at hl
      split at hr
      · rename_i hn
        exact ⟨hr.a n x hl look_self, { hr with a := fun k y hk hy => hr.a k y hk (look_cons hn hy) }⟩
      · exact heq hr
    · exact heq hr
  · exact heq hr
theorem same_ref {t x : Ref} (h : Nat.beq t.code x.code = true) (ho : t.okIn na = true) (hr : Real S lo na ρ ρ' B B' m) (h1 : ∀ n, t = .old n → n < lo) (h2 : ∀ n, t = .own n → n < lo) (h3 : ∀ n, t = .ro n → n < lo) :
    t.blk ρ' B' = x.blk ρ B ∧ t.off ρ' = x.off ρ := by
  have := Ref.code_inj h
  subst this
  cases t with
  | old n => exact ⟨hr.blkL n (h1 n rfl), rfl⟩
  | new k => exact ⟨hr.nb k (Nat.le_of_ble_eq_true ho), rfl⟩
  | glob g => exact ⟨rfl, rfl⟩
  | ro n => exact ⟨hr.blkL n (h3 n rfl), hr.offL n (h3 n rfl)⟩
  | own n =>
    have hl := h2 n rfl
    have := hr.hB (by omega)
    exact ⟨by simp only [Ref.blk]; rw [this, hr.blkL n hl], rfl⟩
theorem not_ble {a b : Nat} (h : ¬ Nat.ble a b = true) : b < a := by
  rw [ble_iff] at h; omega
theorem bindR_ok {t x : Ref} (ho : t.okIn na = true) (h : bindR lo t x m = some m') (hr : Real S lo na ρ ρ' B B' m') : t.blk ρ' B' = x.blk ρ B ∧ t.off ρ' = x.off ρ ∧ Real S lo na ρ ρ' B B' m := by
  unfold bindR at h
  split at h
  · rename_i n
    split at h
    · rename_i hl
      rw [ble_iff] at hl
      split at h
      · cases h
      · rename_i hne
        have hoff : x.off ρ = 0 := by cases x <;> first | rfl | exact absurd rfl (hne _)
        split at h
        · rename_i hn
          cases h
          exact ⟨hr.o n x hl look_self, hoff.symm, { hr with o := fun k y hk hy => hr.o k y hk (look_cons hn hy), n := fun k y hk hy => hr.n k y hk (look_cons hn hy), q := fun k y hk hy => hr.q k y hk (look_cons hn hy), p := fun k r s d l c hk hy => hr.p k r s d l c hk (look_cons hn hy) }⟩
        · rename_i y hy
          split at h
          · rename_i hc
            cases h
            have := Ref.code_inj hc
            subst this
            exact ⟨hr.o n x hl hy, hoff.symm, hr⟩
          · cases h
        · cases h
    · rename_i hl
      split at h
      · rename_i hc
        cases h
        obtain ⟨h1, h2⟩ := same_ref hc ho hr (fun k e => by cases e; exact not_ble hl) (fun k e => by cases e) (fun k e => by cases e)
        exact ⟨h1, h2, hr⟩
      · cases h
  · rename_i n
    split at h
    · rename_i hl
      rw [ble_iff] at hl
      split at h
      · rename_i hn
        split at h
        · rename_i k
          cases h
          exact ⟨hr.n n k hl look_self, rfl, { hr with o := fun k y hk hy => hr.o k y hk (look_cons hn hy), n := fun k y hk hy => hr.n k y hk (look_cons hn hy), q := fun k y hk hy => hr.q k y hk (look_cons hn hy), p := fun k r s d l c hk hy => hr.p k r s d l c hk (look_cons hn hy) }⟩
        · rename_i k
          cases h
          exact ⟨hr.q n k hl look_self, rfl, { hr with o := fun k y hk hy => hr.o k y hk (look_cons hn hy), n := fun k y hk hy => hr.n k y hk (look_cons hn hy), q := fun k y hk hy => hr.q k y hk (look_cons hn hy), p := fun k r s d l c hk hy => hr.p k r s d l c hk (look_cons hn hy) }⟩
        · cases h
      · rename_i k hy
        split at h
        · rename_i hc
          cases h
          have := Ref.code_inj hc
          subst this
          exact ⟨hr.n n k hl hy, rfl, hr⟩
        · cases h
      · rename_i k hy
        split at h
        · rename_i hc
          cases h
          have := Ref.code_inj hc
          subst this
          exact ⟨hr.q n k hl hy, rfl, hr⟩
        · cases h
      · cases h
    · rename_i hl
      split at h
      · rename_i hc
        cases h
        obtain ⟨h1, h2⟩ := same_ref hc ho hr (fun k e => by cases e) (fun k e => by cases e; exact not_ble hl) (fun k e => by cases e)
        exact ⟨h1, h2, hr⟩
      · cases h
  · rename_i n
    split at h
    · cases h
    · rename_i hl
      split at h
      · rename_i hc
        cases h
        obtain ⟨h1, h2⟩ := same_ref hc ho hr (fun k e => by cases e) (fun k e => by cases e) (fun k e => by cases e; exact not_ble hl)
        exact ⟨h1, h2, hr⟩
      · cases h
  · rename_i n1 n2 n3
    split at h
    · rename_i hc
      cases h
      obtain ⟨h1, h2⟩ := same_ref hc ho hr (fun k e => absurd e (n1 k)) (fun k e => absurd e (n2 k)) (fun k e => absurd e (n3 k))
      exact ⟨h1, h2, hr⟩
    · cases h
theorem bindD_ok {s s' : Nat} {d d' : T} (h : bindD lo s d s' d' m = some m') (hr : Real S lo na ρ ρ' B B' m') : s + (d.I S ρ').toNat = s' + (d'.I S ρ).toNat ∧ Real S lo na ρ ρ' B B' m := by
  unfold bindD at h
  split at h
  · rename_i hs
    have := Nat.eq_of_beq_eq_true hs
    subst this
    cases h
    obtain ⟨h1, h2⟩ := bindI_ok hr
    exact ⟨by rw [h1], h2⟩
  · split at h
    · rename_i hs
      have := Nat.eq_of_beq_eq_true hs
      subst this
      cases h
      obtain ⟨n1, n2⟩ := met_append.1 hr.need
      obtain ⟨h1, h2⟩ := bindI_ok (S := S) (lo := lo) (na := na) (ρ := ρ) (ρ' := ρ') (B := B) (B' := B') (m := m) (t := d) (x := mkAdd (.lit s') d') { hr with need := n2 }
      refine ⟨?_, h2⟩
      have := le_of (met_one n1)
      rw [h1, mkAdd_I]
      simp only [T.I] at this ⊢
      omega
    · cases h
theorem addr_eq {r r' : Ref} {s s' : Nat} {d d' : T} (h1 : r.blk ρ' B' = r'.blk ρ B) (h2 : r.off ρ' = r'.off ρ) (h3 : s + (d.I S ρ').toNat = s' + (d'.I S ρ).toNat) : addrOf S ρ' B' r s d = addrOf S ρ B r' s' d' := by
  simp only [addrOf, h1, h2]
  congr 1
  omega
theorem fitLeaf_ok : ∀ {t x : Leaf} {m m' : Bd}, t.okIn na = true → fitLeaf lo t x m = some m' → Real S lo na ρ ρ' B B' m' → t.den S ρ' B' = x.den S ρ B ∧ Real S lo na ρ ρ' B B' m := by
  intro t
  induction t with
  | iface k t ih =>
    intro x m m' ho h hr
    cases x <;> simp only [fitLeaf] at h <;> try (cases h; done)
    split at h
    · rename_i hk
      subst hk
      obtain ⟨h1, h2⟩ := ih (by simpa [Leaf.okIn] using ho) h hr
      exact ⟨by simp only [Leaf.den, h1], h2⟩
    · cases h
  | val n =>
    intro x m m' ho h hr
    simp only [fitLeaf] at h
    split at h
    · rename_i hl
      rw [ble_iff] at hl
      split at h
      · rename_i hn
        cases h
        exact ⟨hr.v n x hl look_self, { hr with v := fun k y hk hy => hr.v k y hk (look_cons hn hy) }⟩
      · rename_i y hy
        split at h
        · rename_i hxy
          cases h
          subst hxy
          exact ⟨hr.v n x hl hy, hr⟩
        · cases h
    · rename_i hl
      split at h
      · rename_i hx
        cases h
        subst hx
        exact ⟨hr.vL n (not_ble hl), hr⟩
      · cases h
  | junk n =>
    intro x m m' ho h hr
    simp only [fitLeaf] at h
    split at h
    · rename_i hl
      rw [ble_iff] at hl
      split at h
      · rename_i hn
        cases h
        exact ⟨hr.j n _ hl look_self, { hr with j := fun k y hk hy => hr.j k y hk (look_cons hn hy) }⟩
      · cases h
    · rename_i hl
      split at h
      · rename_i hx
        cases h
        subst hx
        exact ⟨hr.jL n (not_ble hl), hr⟩
      · cases h
  | int k t =>
    intro x m m' ho h hr
    cases x <;> simp only [fitLeaf] at h <;> try (cases h; done)
    split at h
    · rename_i hk
      subst hk
      cases h
      obtain ⟨h1, h2⟩ := bindI_ok hr
      exact ⟨by simp only [Leaf.den, h1], h2⟩
    · cases h
  | bool t =>
    intro x m m' ho h hr
    cases x <;> simp only [fitLeaf] at h <;> try (cases h; done)
    cases h
    obtain ⟨h1, h2⟩ := bindB_ok hr
    exact ⟨by simp only [Leaf.den, h1], h2⟩
  | ptr r s d =>
    intro x m m' ho h hr
    cases x <;> simp only [fitLeaf] at h <;> try (cases h; done)
    rename_i r' s' d'
    rw [Option.bind_eq_some_iff] at h
    obtain ⟨m1, h1, h2⟩ := h
    obtain ⟨e3, hr1⟩ := bindD_ok h2 hr
    obtain ⟨e1, e2, hr2⟩ := bindR_ok ho h1 hr1
    exact ⟨by simp only [Leaf.den, addr_eq e1 e2 e3], hr2⟩
  | sl r s d l c =>
    intro x m m' ho h hr
    cases x with
    | sl r' s' d' l' c' =>
      have gen : ((bindR lo r r' m).bind (bindD lo s d s' d')).map (fun m => bindI lo c c' (bindI lo l l' m)) = some m' → (Leaf.sl r s d l c).den S ρ' B' = (Leaf.sl r' s' d' l' c').den S ρ B ∧ Real S lo na ρ ρ' B B' m := by
        intro hg
        rw [Option.map_eq_some_iff] at hg
        obtain ⟨m2, hg, rfl⟩ := hg
        rw [Option.bind_eq_some_iff] at hg
        obtain ⟨m1, h1, h2⟩ := hg
        obtain ⟨e5, hr⟩ := bindI_ok hr
        obtain ⟨e4, hr⟩ := bindI_ok hr
        obtain ⟨e3, hr1⟩ := bindD_ok h2 hr
        obtain ⟨e1, e2, hr2⟩ := bindR_ok ho h1 hr1
        exact ⟨by simp only [Leaf.den, addr_eq e1 e2 e3, e4, e5], hr2⟩
      cases r with
      | ro n =>
        simp only [fitLeaf] at h
        split at h
        · rename_i hl
          rw [ble_iff] at hl
          split at h
          · rename_i hn
            split at h
            · rename_i hz
              simp only [Bool.and_eq_true] at hz
              have hs := Nat.eq_of_beq_eq_true hz.1
              have hd := isZ_iff.1 hz.2
              subst hs hd
              cases h
              obtain ⟨e5, hr⟩ := bindI_ok hr
              obtain ⟨e4, hr⟩ := bindI_ok hr
              obtain ⟨p1, p2⟩ := hr.p n r' s' d' l' c' hl look_self
              refine ⟨?_, { hr with o := fun k y hk hy => hr.o k y hk (look_cons hn hy), n := fun k y hk hy => hr.n k y hk (look_cons hn hy), q := fun k y hk hy => hr.q k y hk (look_cons hn hy), p := fun k r s d l c hk hy => hr.p k r s d l c hk (look_cons hn hy) }⟩
              simp only [Leaf.den, addrOf, Ref.blk, Ref.off, p1, p2, e4, e5, T.I]
              congr 2
            · cases h
          · cases h
        · exact gen h
      | _ => exact gen h
    | _ => cases r <;> simp [fitLeaf] at h
  | _ =>
    intro x m m' ho h hr
    cases x <;> simp only [fitLeaf] at h <;> first
      | (cases h; done)
      | (cases h; exact ⟨rfl, hr⟩)
      | (split at h
         · rename_i e
           cases h
           subst e
           exact ⟨rfl, hr⟩
         · cases h)
end
end
end Go.Proofs.YtljjbikbfeigdaaGreatDoor
namespace Go.Proofs.YtljjbikbfeigdaaGreatDoor
noncomputable section
open Go
section
variable {S : Sig} {lo na : Nat} {ρ ρ' : Env} {B B' : Nat}
theorem fitLeaves_ok : ∀ {ts xs : List Leaf} {m m' : Bd}, ts.all (Leaf.okIn na) = true → fitLeaves lo ts xs m = some m' → Real S lo na ρ ρ' B B' m' → ts.map (Leaf.den S ρ' B') = xs.map (Leaf.den S ρ B) ∧ Real S lo na ρ ρ' B B' m
  | [], [], m, m', _, h, hr => by
    simp only [fitLeaves, Option.some.injEq] at h
    subst h
    exact ⟨rfl, hr⟩
  | t :: ts, x :: xs, m, m', ho, h, hr => by
    simp only [fitLeaves] at h
    rw [Option.bind_eq_some_iff] at h
    obtain ⟨m1, h1, h2⟩ := h
    simp only [List.all_cons, Bool.and_eq_true] at ho
    obtain ⟨e2, hr⟩ := fitLeaves_ok ho.2 h2 hr
    obtain ⟨e1, hr⟩ := fitLeaf_ok ho.1 h1 hr
    exact ⟨by rw [List.map_cons, List.map_cons, e1, e2], hr⟩
  | [], _ :: _, _, _, _, h, _ => by simp [fitLeaves] at h
  | _ :: _, [], _, _, _, h, _ => by simp [fitLeaves] at h
theorem cellsOf_den : ∀ {g : List Seg} {l : List Leaf}, segsWf S ρ g → cellsOf g = some l → l.map (Leaf.den S ρ B) = segsDen S ρ B g
  | [], l, _, h => by simp only [cellsOf, Option.some.injEq] at h; subst h; rfl
  | .cells c :: g, l, hw, h => by
    simp only [cellsOf, Option.map_eq_some_iff] at h
    obtain ⟨l', h, rfl⟩ := h
    rw [List.map_append, cellsOf_den (segsWf_cons.1 hw).2 h, segsDen_cons]; rfl
  | .arr k a n :: g, l, hw, h => by
    simp only [cellsOf, Option.map_eq_some_iff] at h
    obtain ⟨l', h, rfl⟩ := h
    have hl : (a.A S ρ).length = n := (segsWf_cons.1 hw).1
    rw [List.map_append, cellsOf_den (segsWf_cons.1 hw).2 h, segsDen_cons]
    congr 1
    apply List.ext_getElem?
    intro j
    simp only [List.map_map, List.getElem?_map, Seg.den]
    by_cases hj : j < n
    · rw [List.getElem?_range hj, List.getElem?_eq_getElem (by omega)]
      simp [Leaf.den, mkGet_I, T.I, List.getD_eq_getElem?_getD, List.getElem?_eq_getElem (show j < (a.A S ρ).length by omega)]
    · rw [List.getElem?_eq_none (by simpa using hj), List.getElem?_eq_none (by omega)]; rfl
  | .arrD _ _ :: _, _, _, h => by simp [cellsOf] at h
  | .bar _ _ :: _, _, _, h => by simp [cellsOf] at h
  | .junk _ :: _, _, _, h => by simp [cellsOf] at h
  | .tail _ _ :: _, _, _, h => by simp [cellsOf] at h
theorem dropTail_spec : ∀ {g p : List Seg} {z : List Leaf} {t : T}, dropTail g = some (p, z, t) → g = p ++ [.tail z t]
  | [], _, _, _, h => by simp [dropTail] at h
  | [.tail z t], p, z', t', h => by
    simp only [dropTail, Option.some.injEq, Prod.mk.injEq] at h
    obtain ⟨rfl, rfl, rfl⟩ := h
    rfl
  | [.cells _], _, _, _, h => by simp [dropTail] at h
  | [.arr _ _ _], _, _, _, h => by simp [dropTail] at h
  | [.arrD _ _], _, _, _, h => by simp [dropTail] at h
  | [.bar _ _], _, _, _, h => by simp [dropTail] at h
  | [.junk _], _, _, _, h => by simp [dropTail] at h
  | x :: y :: g, p, z, t, h => by
    rw [dropTail] at h
    · simp only [Option.map_eq_some_iff, Prod.exists] at h
      obtain ⟨p', z', t', h, h'⟩ := h
      simp only [Prod.mk.injEq] at h'
      obtain ⟨rfl, rfl, rfl⟩ := h'
      rw [dropTail_spec h]; rfl
    · intro _ _ _ h; cases h
theorem map_int_inj {k : IntKind} {l m : List Int} (h : l.map (Value.int k) = m.map (Value.int k)) : l = m := by
  induction l generalizing m with
  | nil => cases m <;> simp at h ⊢
  | cons x l ih =>
    cases m with
    | nil => simp at h
    | cons y m =>
      simp only [List.map_cons, List.cons.injEq, Value.int.injEq, true_and] at h
      rw [h.1, ih h.2]
theorem fixed_den {z : List Leaf} (h : z.all Leaf.fixed = true) : z.map (Leaf.den S ρ' B') = z.map (Leaf.den S ρ B) := by
  rw [List.all_eq_true] at h
  apply List.map_congr_left
  intro x hx
  have := h x hx
  unfold Leaf.fixed at this
  split at this <;> first | rfl | cases this
theorem fitSegs_ok : ∀ {ts g : List Seg} {m m' : Bd}, ts.all (Seg.okIn na) = true → segsWf S ρ g → fitSegs lo ts g m = some m' → Real S lo na ρ ρ' B B' m' →
    segsDen S ρ' B' ts = segsDen S ρ B g ∧ segsWf S ρ' ts ∧ Real S lo na ρ ρ' B B' m := by
  intro ts
  induction ts with
  | nil =>
    intro g m m' _ hw h hr
    cases g with
    | nil =>
      simp only [fitSegs, Option.some.injEq] at h
      subst h
      exact ⟨rfl, (fun _ h => nomatch h), hr⟩
    | cons x g => simp [fitSegs] at h
  | cons t ts ih =>
    intro g m m' ho hw h hr
    simp only [List.all_cons, Bool.and_eq_true] at ho
    have arrD : ∀ {k : IntKind} {u : T} {g : List Seg} {a : T} {m m' : Bd}, packT k g = some a → Real S lo na ρ ρ' B B' (bindA lo u a m) → (Seg.arrD k u).den S ρ' B' = segsDen S ρ B g ∧ Real S lo na ρ ρ' B B' m := by
      intro k u g a m m' hp hr
      obtain ⟨e, hr⟩ := bindA_ok hr
      exact ⟨by rw [← packT_den hp, Seg.den, e], hr⟩
    cases t with
    | cells l =>
      simp only [fitSegs] at h
      split at h
      · rename_i x rest hs
        split at h
        · rename_i c hc
          rw [Option.bind_eq_some_iff] at h
          obtain ⟨m1, h1, h2⟩ := h
          obtain ⟨s1, s2, s3, s4⟩ := splitSegs_spec (B := B) hw hs
          obtain ⟨e2, w2, hr⟩ := ih ho.2 s4 h2 hr
          obtain ⟨e1, hr⟩ := fitLeaves_ok ho.1 h1 hr
          refine ⟨?_, segsWf_cons.2 ⟨trivial, w2⟩, hr⟩
          rw [segsDen_cons, e2, ← s1, ← cellsOf_den s3 hc, ← e1]; rfl
        · cases h
      · cases h
    | arr k u n =>
      simp only [fitSegs] at h
      split at h
      · rename_i x rest hs
        split at h
        · rename_i a hp
          obtain ⟨s1, s2, s3, s4⟩ := splitSegs_spec (B := B) hw hs
          obtain ⟨e2, w2, hr⟩ := ih ho.2 s4 h hr
          obtain ⟨e1, hr⟩ := bindA_ok hr
          have hp' := packT_den (S := S) (ρ := ρ) (B := B) hp
          refine ⟨?_, segsWf_cons.2 ⟨?_, w2⟩, hr⟩
          · rw [segsDen_cons, e2, ← s1, ← hp', ← e1]; rfl
          · show (u.A S ρ').length = n
            rw [e1, ← s2, ← hp', List.length_map]
        · cases h
      · cases h
    | arrD k u =>
      cases ts with
      | nil =>
        simp only [fitSegs] at h
        split at h
        · rename_i a hp
          cases h
          obtain ⟨e, hr⟩ := arrD (m' := m) hp hr
          refine ⟨by rw [segsDen_cons, segsDen_nil, List.append_nil, e], segsWf_cons.2 ⟨trivial, fun _ h => nomatch h⟩, hr⟩
        · cases h
      | cons t2 ts =>
        cases t2 with
        | tail z v =>
          cases ts with
          | nil =>
            simp only [fitSegs] at h
            split at h
            · rename_i x z' u' hd
              split at h
              · rename_i hz
                obtain ⟨rfl, hzf⟩ := hz
                split at h
                · rename_i a hp
                  cases h
                  obtain ⟨e2, hr⟩ := bindI_ok hr
                  obtain ⟨e, hr⟩ := arrD (m' := m) hp hr
                  refine ⟨?_, segsWf_cons.2 ⟨trivial, segsWf_cons.2 ⟨trivial, fun _ h => nomatch h⟩⟩, hr⟩
                  rw [dropTail_spec hd, segsDen_append, segsDen_cons, segsDen_cons, segsDen_cons, e]
                  simp only [segsDen_nil, List.append_nil, Seg.den, e2, fixed_den (S := S) (ρ := ρ) (ρ' := ρ') (B := B) (B' := B') hzf]
                · cases h
              · cases h
            · cases h
          | cons _ _ => simp [fitSegs] at h
        | _ => simp [fitSegs] at h
    | bar u n =>
      cases g with
      | nil => simp [fitSegs] at h
      | cons y g =>
        cases y with
        | bar a n' =>
          simp only [fitSegs] at h
          split at h
          · rename_i hn
            subst hn
            obtain ⟨e2, w2, hr⟩ := ih ho.2 (segsWf_cons.1 hw).2 h hr
            obtain ⟨e1, hr⟩ := bindA_ok hr
            refine ⟨?_, segsWf_cons.2 ⟨?_, w2⟩, hr⟩
            · rw [segsDen_cons, segsDen_cons, e2]; simp only [Seg.den, e1]
            · show (u.A S ρ').length = n
              rw [e1]; exact (segsWf_cons.1 hw).1
          · cases h
        | _ => simp [fitSegs] at h
    | tail z u =>
      cases ts with
      | nil =>
        cases g with
        | nil => simp [fitSegs] at h
        | cons y g =>
          cases g with
          | cons _ _ => cases y <;> simp [fitSegs] at h
          | nil =>
            cases y with
            | tail z' u' =>
              simp only [fitSegs] at h
              split at h
              · rename_i hz
                obtain ⟨rfl, hzf⟩ := hz
                cases h
                obtain ⟨e2, hr⟩ := bindI_ok hr
                refine ⟨?_, segsWf_cons.2 ⟨trivial, fun _ h => nomatch h⟩, hr⟩
                simp only [segsDen_cons, segsDen_nil, List.append_nil, Seg.den, e2, fixed_den (S := S) (ρ := ρ) (ρ' := ρ') (B := B) (B' := B') hzf]
              · cases h
            | _ => simp [fitSegs] at h
      | cons _ _ => cases g <;> simp [fitSegs] at h
    | junk n =>
      cases ts with
      | nil =>
        simp only [fitSegs] at h
        split at h
        · rename_i hl
          rw [ble_iff] at hl
          split at h
          · rename_i hn
            cases h
            refine ⟨?_, segsWf_cons.2 ⟨trivial, fun _ h => nomatch h⟩, { hr with s := fun k y hk hy => hr.s k y hk (look_cons hn hy) }⟩
            rw [segsDen_cons, segsDen_nil, List.append_nil]
            exact hr.s n g hl look_self
          · cases h
        · rename_i hl
          split at h
          · rename_i hg
            cases h
            subst hg
            refine ⟨?_, segsWf_cons.2 ⟨trivial, fun _ h => nomatch h⟩, hr⟩
            rw [segsDen_cons, segsDen_nil, List.append_nil, segsDen_cons, segsDen_nil, List.append_nil]
            exact hr.sL n (not_ble hl)
          · cases h
      | cons _ _ => simp [fitSegs] at h
end
end
end Go.Proofs.YtljjbikbfeigdaaGreatDoor
namespace Go.Proofs.YtljjbikbfeigdaaGreatDoor
noncomputable section
open Go
section
variable {S : Sig} {lo na : Nat} {ρ ρ' : Env} {B B' : Nat}
theorem fitSV_ok {t x : SV} {m m' : Bd} (ho : t.okIn na = true) (hw : x.wf S ρ) (h : fitSV lo t x m = some m') (hr : Real S lo na ρ ρ' B B' m') : t.den S ρ' B' = x.den S ρ B ∧ t.wf S ρ' ∧ Real S lo na ρ ρ' B B' m := by
  cases t with
  | one t =>
    cases x with
    | one x =>
      obtain ⟨h1, h2⟩ := fitLeaf_ok ho h hr
      exact ⟨h1, trivial, h2⟩
    | agg g => simp [fitSV] at h
  | agg t =>
    cases x with
    | one x => simp [fitSV] at h
    | agg g =>
      obtain ⟨h1, h2, h3⟩ := fitSegs_ok ho hw h hr
      exact ⟨by simp only [SV.den, h1], h2, h3⟩
theorem fitSVs_ok : ∀ {ts xs : List SV} {m m' : Bd}, ts.all (SV.okIn na) = true → (∀ x ∈ xs, x.wf S ρ) → fitSVs lo ts xs m = some m' → Real S lo na ρ ρ' B B' m' →
    ts.map (SV.den S ρ' B') = xs.map (SV.den S ρ B) ∧ (∀ t ∈ ts, t.wf S ρ') ∧ Real S lo na ρ ρ' B B' m
  | [], [], m, m', _, _, h, hr => by
    simp only [fitSVs, Option.some.injEq] at h
    subst h
    exact ⟨rfl, (fun _ h => nomatch h), hr⟩
  | t :: ts, x :: xs, m, m', ho, hw, h, hr => by
    simp only [fitSVs] at h
    rw [Option.bind_eq_some_iff] at h
    obtain ⟨m1, h1, h2⟩ := h
    simp only [List.all_cons, Bool.and_eq_true] at ho
    obtain ⟨e2, w2, hr⟩ := fitSVs_ok ho.2 (fun x hx => hw x (by simp [hx])) h2 hr
    obtain ⟨e1, w1, hr⟩ := fitSV_ok ho.1 (hw x (by simp)) h1 hr
    refine ⟨by rw [List.map_cons, List.map_cons, e1, e2], fun u hu => ?_, hr⟩
    rcases List.mem_cons.1 hu with rfl | hu
    · exact w1
    · exact w2 u hu
  | [], _ :: _, _, _, _, _, h, _ => by simp [fitSVs] at h
  | _ :: _, [], _, _, _, _, h, _ => by simp [fitSVs] at h
theorem fitSR_ok {t x : SR} {m m' : Bd} (ho : t.okIn na = true) (hw : x.wf S ρ) (h : fitSR lo t x m = some m') (hr : Real S lo na ρ ρ' B B' m') : t.den S ρ' B' = x.den S ρ B ∧ t.wf S ρ' ∧ Real S lo na ρ ρ' B B' m := by
  have gen : ∀ {t x : SV}, t.okIn na = true → x.wf S ρ → fitSV lo t x m = some m' → t.den S ρ' B' = x.den S ρ B ∧ t.wf S ρ' ∧ Real S lo na ρ ρ' B B' m := fun ho hw h => fitSV_ok ho hw h hr
  cases t with
  | v t =>
    cases t with
    | agg g =>
      cases x with
      | v x => exact gen ho hw h
      | _ => simp [fitSR] at h
    | one t =>
      cases t with
      | junk n =>
        simp only [fitSR] at h
        split at h
        · rename_i hl
          rw [ble_iff] at hl
          split at h
          · rename_i hn
            cases h
            exact ⟨hr.j n x hl look_self, trivial, { hr with j := fun k y hk hy => hr.j k y hk (look_cons hn hy) }⟩
          · cases h
        · split at h
          · obtain ⟨h1, h2⟩ := fitLeaf_ok (t := .junk n) rfl h hr
            exact ⟨h1, trivial, h2⟩
          · cases h
      | _ =>
        cases x with
        | v x => exact gen ho hw h
        | _ => simp [fitSR] at h
  | tup ts =>
    cases x with
    | tup xs =>
      obtain ⟨h1, h2, h3⟩ := fitSVs_ok ho hw h hr
      exact ⟨by simp only [SR.den, h1], h2, h3⟩
    | _ => simp [fitSR] at h
  | ite _ _ _ => simp [fitSR] at h
theorem fitSRs_ok : ∀ {ts xs : List SR} {m m' : Bd}, ts.all (SR.okIn na) = true → (∀ x ∈ xs, x.wf S ρ) → fitSRs lo ts xs m = some m' → Real S lo na ρ ρ' B B' m' →
    ts.map (SR.den S ρ' B') = xs.map (SR.den S ρ B) ∧ (∀ t ∈ ts, t.wf S ρ') ∧ Real S lo na ρ ρ' B B' m
  | [], [], m, m', _, _, h, hr => by
    simp only [fitSRs, Option.some.injEq] at h
    subst h
    exact ⟨rfl, (fun _ h => nomatch h), hr⟩
  | t :: ts, x :: xs, m, m', ho, hw, h, hr => by
    simp only [fitSRs] at h
    rw [Option.bind_eq_some_iff] at h
    obtain ⟨m1, h1, h2⟩ := h
    simp only [List.all_cons, Bool.and_eq_true] at ho
    obtain ⟨e2, w2, hr⟩ := fitSRs_ok ho.2 (fun x hx => hw x (by simp [hx])) h2 hr
    obtain ⟨e1, w1, hr⟩ := fitSR_ok ho.1 (hw x (by simp)) h1 hr
    refine ⟨by rw [List.map_cons, List.map_cons, e1, e2], fun u hu => ?_, hr⟩
    rcases List.mem_cons.1 hu with rfl | hu
    · exact w1
    · exact w2 u hu
  | [], _ :: _, _, _, _, _, h, _ => by simp [fitSRs] at h
  | _ :: _, [], _, _, _, _, h, _ => by simp [fitSRs] at h
theorem delB_perm : ∀ {l : List (Ref × Blk)} {r : Ref} {c : Blk}, findB l r = some c → ((r, c) :: delB l r).Perm l
  | [], _, _, h => by simp [findB] at h
  | (q, b) :: l, r, c, h => by
    unfold findB at h
    unfold delB
    split at h
    · rename_i hq
      have := Ref.code_inj hq
      subst this
      cases h
      rw [hq]
    · rename_i hq
      have hq : Nat.beq q.code r.code = false := by cases hb : Nat.beq q.code r.code with | true => exact absurd hb hq | false => rfl
      rw [hq]
      exact (List.Perm.swap _ _ _).trans ((delB_perm h).cons _)
theorem refOf_ok {t r : Ref} {m : Bd} (ho : t.okIn na = true) (h : refOf lo m t = some r) (hr : Real S lo na ρ ρ' B B' m) : t.blk ρ' B' = r.blk ρ B ∧ (t.off ρ' = 0 ∨ t.off ρ' = r.off ρ) := by
  unfold refOf at h
  split at h
  · rename_i n
    split at h
    · rename_i hl
      rw [ble_iff] at hl
      split at h
      · rename_i r' hn
        cases h
        exact ⟨hr.o n r hl hn, .inl rfl⟩
      · cases h
    · rename_i hl
      cases h
      exact ⟨hr.blkL n (not_ble hl), .inl rfl⟩
  · rename_i n
    split at h
    · rename_i hl
      rw [ble_iff] at hl
      split at h
      · rename_i k hn
        cases h
        exact ⟨hr.n n k hl hn, .inl rfl⟩
      · rename_i k hn
        cases h
        exact ⟨hr.q n k hl hn, .inl rfl⟩
      · cases h
    · rename_i hl
      cases h
      have hl := not_ble hl
      have := hr.hB (by omega)
      exact ⟨by simp only [Ref.blk]; rw [this, hr.blkL n hl], .inl rfl⟩
  · rename_i n
    split at h
    · cases h
    · rename_i hl
      cases h
      exact ⟨hr.blkL n (not_ble hl), .inr (hr.offL n (not_ble hl))⟩
  · rename_i n1 n2 n3
    cases h
    cases t with
    | old n => exact absurd rfl (n1 n)
    | own n => exact absurd rfl (n2 n)
    | ro n => exact absurd rfl (n3 n)
    | new k => exact ⟨hr.nb k (Nat.le_of_ble_eq_true ho), .inl rfl⟩
    | glob g => exact ⟨rfl, .inl rfl⟩
theorem fitRw_ok : ∀ {ts l rest : List (Ref × Blk)} {m m' : Bd}, rwOk na ts = true → (∀ x ∈ l, segsWf S ρ x.2.segs) → fitRw lo ts l m = some (m', rest) → Real S lo na ρ ρ' B B' m' →
    Real S lo na ρ ρ' B B' m ∧ ((ts.map fun x => x.1.blk ρ' B') ++ rest.map fun x => x.1.blk ρ B).Perm (l.map fun x => x.1.blk ρ B) ∧ (∀ x ∈ rest, x ∈ l) ∧
      ∀ t ∈ ts, ∃ x ∈ l, t.1.blk ρ' B' = x.1.blk ρ B ∧ (t.1.off ρ' = 0 ∨ t.1.off ρ' = x.1.off ρ) ∧ t.2.ty = x.2.ty ∧ segsDen S ρ' B' t.2.segs = segsDen S ρ B x.2.segs ∧ segsWf S ρ' t.2.segs
  | [], l, rest, m, m', _, _, h, hr => by
    simp only [fitRw, Option.some.injEq, Prod.mk.injEq] at h
    obtain ⟨rfl, rfl⟩ := h
    exact ⟨hr, List.Perm.refl _, fun _ h => h, fun _ h => nomatch h⟩
  | (t, b) :: ts, l, rest, m, m', ho, hw, h, hr => by
    simp only [rwOk, List.all_cons, Bool.and_eq_true] at ho
    obtain ⟨⟨o1, o2⟩, o3⟩ := ho
    simp only [fitRw] at h
    split at h
    · rename_i r hrf
      split at h
      · rename_i c hf
        split at h
        · rename_i hty
          have hty := Nat.eq_of_beq_eq_true hty
          split at h
          · rename_i m1 hs
            have hmem := findB_mem hf
            obtain ⟨hr1, p1, s1, q1⟩ := fitRw_ok o3 (fun x hx => hw x (mem_delB hx)) h hr
            obtain ⟨e1, e2, hr0⟩ := fitSegs_ok o2 (hw _ hmem) hs hr1
            obtain ⟨e3, e4⟩ := refOf_ok o1 hrf hr0
            refine ⟨hr0, ?_, fun x hx => mem_delB (s1 x hx), fun u hu => ?_⟩
            · have := (delB_perm hf).map fun x => x.1.blk ρ B
              simp only [List.map_cons] at this
              simp only [List.map_cons, List.cons_append, e3]
              exact (p1.cons _).trans this
            · rcases List.mem_cons.1 hu with rfl | hu
              · exact ⟨(r, c), hmem, e3, e4, hty, e1, e2⟩
              · obtain ⟨x, hx, q⟩ := q1 u hu
                exact ⟨x, mem_delB hx, q⟩
          · cases h
        · cases h
      · cases h
    · cases h
theorem findRO_isSome {l : List (Ref × IntKind × T)} {r : Ref} (h : (findRO l r).isSome = true) : ∃ x ∈ l, x.1 = r := by
  cases hf : findRO l r with
  | none => rw [hf] at h; cases h
  | some b => exact ⟨(r, b), findRO_mem hf, rfl⟩
theorem findB_isSome {l : List (Ref × Blk)} {r : Ref} (h : (findB l r).isSome = true) : ∃ x ∈ l, x.1 = r := by
  cases hf : findB l r with
  | none => rw [hf] at h; cases h
  | some b => exact ⟨(r, b), findB_mem hf, rfl⟩
theorem fitRo_ok {w0 w : World} {h : Hp} {rest : List (Ref × Blk)} (hB : B = w0.heap.size) (hh : HpOk S ρ w0 h w) : ∀ {l : List (Ref × IntKind × T)} {m m' : Bd}, fitRo lo h rest l m = some m' → Real S lo na ρ ρ' B B' m' →
    Real S lo na ρ ρ' B B' m ∧ ∀ t ∈ l, (∀ j v, (t.2.2.A S ρ')[j]? = some v → w.cell? ⟨t.1.blk ρ' B', t.1.off ρ' + j, none⟩ = some (.int t.2.1 v)) ∧
      (((∃ n, t.1 = .ro n ∧ lo ≤ n) ∧ ∃ x ∈ rest, t.1.blk ρ' B' = x.1.blk ρ B) ∨ ∃ x ∈ h.ro, t.1.blk ρ' B' = x.1.blk ρ B)
  | [], m, m', hf, hr => by
    simp only [fitRo, Option.some.injEq] at hf
    subst hf
    exact ⟨hr, fun _ h => nomatch h⟩
  | (r, k, t) :: l, m, m', hf, hr => by
    cases r with
    | ro n =>
      simp only [fitRo] at hf
      split at hf
      · rename_i hl
        rw [ble_iff] at hl
        split at hf
        · rename_i q l1 c1 hlk
          split at hf
          · rename_i k'' a hro
            split at hf
            · rename_i hk
              subst hk
              obtain ⟨hr1, q1⟩ := fitRo_ok hB hh hf hr
              obtain ⟨e1, hr0⟩ := bindA_ok hr1
              obtain ⟨p1, p2⟩ := hr0.p n _ _ _ _ _ hl hlk
              refine ⟨hr0, fun u hu => ?_⟩
              rcases List.mem_cons.1 hu with rfl | hu
              · have hmem := findRO_mem hro
                refine ⟨fun j v hv => ?_, .inr ⟨_, hmem, p1⟩⟩
                have := hh.ro _ hmem j v (by rw [← e1]; exact hv)
                simp only [Ref.blk, Ref.off, p1, p2] at this ⊢
                simpa [T.I] using this
              · exact q1 u hu
            · cases hf
          · cases hf
        · rename_i r' s' d' ln c' hne hlk
          split at hf
          · rename_i c a hrd hso
            obtain ⟨hr1, q1⟩ := fitRo_ok hB hh hf hr
            obtain ⟨n1, n2⟩ := met_append.1 hr1.need
            obtain ⟨e1, hr0⟩ := bindA_ok (S := S) (lo := lo) (na := na) (ρ := ρ) (ρ' := ρ') (B := B) (B' := B') (m := m) (t := t) (x := a) { hr1 with need := n2 }
            obtain ⟨p1, p2⟩ := hr0.p n _ _ _ _ _ hl hlk
            refine ⟨hr0, fun u hu => ?_⟩
            rcases List.mem_cons.1 hu with rfl | hu
            · refine ⟨fun j v hv => ?_, ?_⟩
              · obtain ⟨r2, s2, d2, l2, c2, heq2, g1, g3⟩ := readT_ok hh hrd n1
                cases heq2
                have := g3 j (.int k v) (by rw [← e1, List.getElem?_map, hv]; rfl)
                simp only [addrOf, addr_add] at this
                simp only [Ref.blk, Ref.off, p1, p2]
                rw [hB]
                exact this
              · simp only [Bool.or_eq_true] at hso
                rcases hso with hso | hso
                · obtain ⟨x, hx, e⟩ := findB_isSome hso
                  exact .inl ⟨⟨n, rfl, hl⟩, x, hx, by rw [e]; exact p1⟩
                · obtain ⟨x, hx, e⟩ := findRO_isSome hso
                  exact .inr ⟨x, hx, by rw [e]; exact p1⟩
            · exact q1 u hu
          · cases hf
        · cases hf
      · rename_i hl
        have hl := not_ble hl
        split at hf
        · rename_i k'' a hro
          split at hf
          · rename_i hk
            subst hk
            obtain ⟨hr1, q1⟩ := fitRo_ok hB hh hf hr
            obtain ⟨e1, hr0⟩ := bindA_ok hr1
            refine ⟨hr0, fun u hu => ?_⟩
            rcases List.mem_cons.1 hu with rfl | hu
            · have hmem := findRO_mem hro
              have eb : (Ref.ro n).blk ρ' B' = (Ref.ro n).blk ρ B := hr0.blkL n hl
              have eo : (Ref.ro n).off ρ' = (Ref.ro n).off ρ := hr0.offL n hl
              refine ⟨fun j v hv => ?_, .inr ⟨_, hmem, eb⟩⟩
              have := hh.ro _ hmem j v (by rw [← e1]; exact hv)
              rw [eb, eo, hB]
              exact this
            · exact q1 u hu
          · cases hf
        · cases hf
    | glob g =>
      simp only [fitRo] at hf
      split at hf
      · rename_i k'' a hro
        split at hf
        · rename_i hk
          subst hk
          obtain ⟨hr1, q1⟩ := fitRo_ok hB hh hf hr
          obtain ⟨e1, hr0⟩ := bindA_ok hr1
          refine ⟨hr0, fun u hu => ?_⟩
          rcases List.mem_cons.1 hu with rfl | hu
          · have hmem := findRO_mem hro
            refine ⟨fun j v hv => ?_, .inr ⟨_, hmem, rfl⟩⟩
            exact hh.ro _ hmem j v (by rw [← e1]; exact hv)
          · exact q1 u hu
        · cases hf
      · cases hf
    | _ => simp [fitRo] at hf
/-- The slice that grows: it is the one that there was, or nil. -/
theorem fitOw_ok {o ow : Option OW} {m m' : Bd} (h : fitOw lo o ow m = some m') (hr : Real S lo na ρ ρ' B B' m') : Real S lo na ρ ρ' B B' m ∧
    ∀ t, o = some t → (∃ p, ow = some p ∧ ρ'.v t.v = ρ.v p.v ∧ t.e = p.e ∧ t.k = p.k ∧ t.a.A S ρ' = p.a.A S ρ) ∨ (ρ'.v t.v = .slice none 0 0 ∧ t.a.A S ρ' = []) := by
  unfold fitOw at h
  split at h
  · cases h
    exact ⟨hr, fun _ h => nomatch h⟩
  · rename_i o'
    split at h
    · rename_i hl
      rw [ble_iff] at hl
      split at h
      · rename_i q p hq
        split at h
        · rename_i hc
          simp only [Bool.and_eq_true, decide_eq_true_eq] at hc
          obtain ⟨c1, c2, c3⟩ := hc
          have c1 := Nat.eq_of_beq_eq_true c1
          have c2 := Nat.eq_of_beq_eq_true c2
          cases h
          obtain ⟨e1, hr⟩ := bindA_ok hr
          refine ⟨hr, fun t ht => .inl ⟨p, rfl, ?_, ?_⟩⟩
          · cases ht; rw [hr.v _ _ hl hq, c1]; rfl
          · cases ht; exact ⟨c2, c3, e1⟩
        · cases h
      · rename_i hq
        cases h
        obtain ⟨e1, hr⟩ := bindA_ok hr
        refine ⟨hr, fun t ht => .inr ?_⟩
        cases ht
        exact ⟨by rw [hr.v _ _ hl hq]; rfl, by rw [e1]; rfl⟩
      · cases h
    · rename_i hl
      split at h
      · rename_i p
        split at h
        · rename_i hc
          simp only [Bool.and_eq_true, decide_eq_true_eq] at hc
          obtain ⟨c1, c2, c3⟩ := hc
          have c1 := Nat.eq_of_beq_eq_true c1
          have c2 := Nat.eq_of_beq_eq_true c2
          cases h
          obtain ⟨e1, hr⟩ := bindA_ok hr
          refine ⟨hr, fun t ht => .inl ⟨p, rfl, ?_, ?_⟩⟩
          · cases ht; rw [hr.vL _ (not_ble hl), c1]
          · cases ht; exact ⟨c2, c3, e1⟩
        · cases h
      · cases h
end
end
end Go.Proofs.YtljjbikbfeigdaaGreatDoor
