/- Part of the proof of FnGrayCoefficientsCardSaid: A region that draws its order and holds one call of which not all is known and, unordered against it, a variable that is made. -/
import Derived.Test.YtljjbikbfeigdaaGreatDoorGc06
set_option linter.all false
namespace Go.Proofs.YtljjbikbfeigdaaGreatDoor
noncomputable section
open Go
section
variable {S : Sig} {ρ : Env} {w0 : World} {P : Program} {specs : Nat → Option Spec}
theorem Agree2.mono {lo na na' : Nat} {ρ ρ' : Env} (h : Agree2 lo na' ρ ρ') (hn : na ≤ na') : Agree2 lo na ρ ρ' :=
  ⟨h.1, h.2, h.3, h.4, h.5, h.6, h.7, h.8, fun k hk => h.9 k (by omega), h.10⟩
/-- Behind what is not run again (k, a). -/
theorem any_okB' (hsp : ∀ f s, specs f = some s → SpecOk P S f s) {h0 : Hp} {es : List Ent} {init : List Value} {hl : Hp} {k a : Nat} (hst : staticOk (es.map (·.o)) = true) (hok : okStill P specs h0 es = true) (hchain : Chain h0 es hl)
    (hord : ∀ i ∈ effsFrom 0 es, ∀ j ∈ effsFrom 0 es, j < i → ((masks (es.map (·.o))).getD i 0).testBit j = true ∨ j = k)
    (hneed : Met S ρ (es.flatMap (·.r.need))) (htold : ∀ j e, es[j]? = some e → j ≠ k → j ≠ a → Told P specs S ρ w0.heap.size es init j e)
    {Q : Exit → Act → World → Prop} (hQ : ∀ a w, a.tmps.toList = frameD (fun _ => true) 0 (pairsOf S ρ w0.heap.size es) init → a.defers = [] → HpOk S ρ w0 hl w → Q .normal a w) :
    ∀ (fuel : Nat) (listed : Array Bool) (b : Act) (w : World), Mid S ρ w0 h0 es init listed b w → listed.getD k false = true → listed.getD a false = true → ((List.range es.length).filter fun i => !listed.getD i false).length ≤ fuel →
      wpAny P .any (es.map (·.o)).toArray Q fuel listed b w := by
  have hb : backEdges (es.map (·.o)) = true := by
    unfold staticOk at hst; simp only [Bool.and_eq_true] at hst; exact hst.1
  intro fuel
  induction fuel with
  | zero =>
    intro listed b w hm hk ha hf
    have hr := ready_zero hm.size hf
    obtain ⟨q1, q2, _⟩ := mid_stop hb hchain hm hr
    exact ⟨hr, hQ b w q1 hm.defers q2⟩
  | succ fuel ih =>
    intro listed b w hm hk ha hf
    refine ⟨fun hr => ?_, fun i hi => ?_⟩
    · obtain ⟨q1, q2, _⟩ := mid_stop hb hchain hm hr
      exact hQ b w q1 hm.defers q2
    obtain ⟨r1, r2, _⟩ := ready_spec hi
    have r1' : i < es.length := by simpa using r1
    have hil : i < listed.size := by rw [hm.size]; exact r1'
    rw [getD_tf _ _ hil] at r2
    obtain ⟨e, hei⟩ : ∃ e, es[i]? = some e := ⟨_, List.getElem?_eq_getElem r1'⟩
    have hik : i ≠ k := fun h => by subst h; rw [r2] at hk; cases hk
    have hia : i ≠ a := fun h => by subst h; rw [r2] at ha; cases ha
    have ht := htold i e hei hik hia
    refine mid_step' hsp hst (.inr hok) hchain hneed hei ht.fr ht.want ht.st ht.no (fun hne j hj hji => ?_) hm hi fun a' w' hm' => ih _ _ _ hm' ?_ ?_ ?_
    · have hmem : i ∈ effsFrom 0 es := by
        rw [← effs_eq, List.mem_filterMap]
        exact ⟨(e, i), List.mem_zipIdx_iff_getElem?.2 hei, by simp [hne]⟩
      rcases hord i hmem j hj hji with h | h
      · exact .inl h
      · subst h; exact .inr hk
    · rw [getD_set _ _ _ hil]; split
      · rfl
      · exact hk
    · rw [getD_set _ _ _ hil]; split
      · rfl
      · exact ha
    · have := count_set hil r1' r2
      omega
/-- The variable is made, the call is still to come. -/
theorem any_okA (hsp : ∀ f s, specs f = some s → SpecOk P S f s) {rsp : Nat → Option RSpec} (hrsp : ∀ f s, rsp f = some s → RSpecOk P S f s) {h0 : Hp} {es : List Ent} {init : List Value} {hl : Hp} {k a : Nat} {x : Ent} {rr : RRes}
    (hst : staticOk (es.map (·.o)) = true) (hok : okStill P specs h0 es = true) (hchain : Chain h0 es hl)
    (hord : ∀ i ∈ effsFrom 0 es, ∀ j ∈ effsFrom 0 es, j < i → ((masks (es.map (·.o))).getD i 0).testBit j = true ∨ j = k) (heff : ∀ j ∈ effsFrom 0 es, k ≤ j)
    (hneed : Met S ρ (es.flatMap (·.r.need))) (hk : es[k]? = some x)
    (hx : rstep P rsp (getSR x.fr) x.heap x.o = some rr) (hxr : x.r = ⟨rr.need, rr.val, rr.heap⟩) (hxe : isEff x = true) (hxn : Met S ρ rr.need)
    (hxf : x.fr.map (SR.den S ρ w0.heap.size) = frameD (fun i => decide (i < k)) 0 (pairsOf S ρ w0.heap.size es) init) (hxwf : ∀ y ∈ x.fr, y.wf S ρ)
    (hxw : Region.wanted x.o (yielded (es.map (·.o)).toArray (frameD (fun i => decide (i < k)) 0 (pairsOf S ρ w0.heap.size es) init).toArray) = true)
    (htold : ∀ j e, es[j]? = some e → j < k → Told P specs S ρ w0.heap.size es init j e)
    (hwait : ∀ j, k < j → j ≠ a → j < es.length → ((masks (es.map (·.o))).getD j 0).testBit k = true)
    (hclr : ∀ j e, es[j]? = some e → j < k ∨ j = a → e.r.val.clear rr.ns rr.na = true)
    (hB : ∀ ρ', Agree2 rr.ns rr.na ρ ρ' → Met S ρ' rr.facts → rr.val.wf S ρ' → Met S ρ' (es.flatMap (·.r.need)) ∧ ∀ j e, es[j]? = some e → j ≠ k → j ≠ a → Told P specs S ρ' w0.heap.size es init j e)
    {Q : Exit → Act → World → Prop} (hQ : ∀ ρ' b w, Agree2 rr.ns rr.na ρ ρ' → Met S ρ' rr.facts → rr.val.wf S ρ' → b.tmps.toList = frameD (fun _ => true) 0 (pairsOf S ρ' w0.heap.size es) init → b.defers = [] → HpOk S ρ' w0 hl w → Q .normal b w) :
    ∀ (fuel : Nat) (listed : Array Bool) (b : Act) (w : World), Mid S ρ w0 h0 es init listed b w → listed.getD k false = false → listed.getD a false = true → ((List.range es.length).filter fun i => !listed.getD i false).length ≤ fuel →
      wpAny P .any (es.map (·.o)).toArray Q fuel listed b w := by
  have hb : backEdges (es.map (·.o)) = true := by
    unfold staticOk at hst; simp only [Bool.and_eq_true] at hst; exact hst.1
  have hkl : k < es.length := (List.getElem?_eq_some_iff.1 hk).1
  intro fuel
  induction fuel with
  | zero =>
    intro listed b w hm hkn ha hf
    have hr := ready_zero hm.size hf
    obtain ⟨_, _, q3⟩ := mid_stop hb hchain hm hr
    rw [q3 k hkl] at hkn; cases hkn
  | succ fuel ih =>
    intro listed b w hm hkn ha hf
    refine ⟨fun hr => ?_, fun i hi => ?_⟩
    · obtain ⟨_, _, q3⟩ := mid_stop hb hchain hm hr
      rw [q3 k hkl] at hkn; cases hkn
    obtain ⟨r1, r2, r3⟩ := ready_spec hi
    have r1' : i < es.length := by simpa using r1
    have hil : i < listed.size := by rw [hm.size]; exact r1'
    rw [getD_tf _ _ hil] at r2
    obtain ⟨e, hei⟩ : ∃ e, es[i]? = some e := ⟨_, List.getElem?_eq_getElem r1'⟩
    have hia : i ≠ a := fun h => by subst h; rw [r2] at ha; cases ha
    have hoi : (es.map (·.o))[i]? = some e.o := by simp [hei]
    have hoa : (es.map (·.o)).toArray[i]? = some e.o := by simpa using hoi
    have hmask := closed_mask hb hm.closed i e.o hoi (r3 e.o hoa)
    have hlisted : ∀ j, listed.getD j false = true → j < k ∨ j = a := by
      intro j hj
      have hjl : j < es.length := by
        rcases Nat.lt_or_ge j listed.size with h | h
        · rw [hm.size] at h; exact h
        · rw [Array.getD_eq_getD_getElem?, Array.getElem?_eq_none h] at hj; cases hj
      by_cases hja : j = a
      · exact .inr hja
      rcases Nat.lt_trichotomy j k with h | h | h
      · exact .inl h
      · rw [h, hkn] at hj; cases hj
      · exfalso
        have hoj : (es.map (·.o))[j]? = some es[j].o := by simp [hjl]
        have := closed_mask hb hm.closed j es[j].o hoj (fun x h1 h2 => hm.closed j es[j].o hoj hj x h1 h2) k (hwait j h hja hjl)
        rw [hkn] at this; cases this
    by_cases hik : i = k
    · subst hik
      rw [hk] at hei
      injection hei with hei
      subst hei
      refine mid_stepX' (G := fun ρ' => Agree2 rr.ns rr.na ρ ρ' ∧ Met S ρ' rr.facts ∧ rr.val.wf S ρ') hst hchain hk hxf hxw hxe (fun j hj hji => by have := heff j hj; omega) hm hi ?_ ?_ ?_
      · intro ρ' hG j hj
        have hjk := hlisted j hj
        obtain ⟨e', hej⟩ : ∃ e', es[j]? = some e' := by
          have hjl : j < es.length := by
            rcases Nat.lt_or_ge j listed.size with h | h
            · rw [hm.size] at h; exact h
            · rw [Array.getD_eq_getD_getElem?, Array.getElem?_eq_none h] at hj; cases hj
          exact ⟨_, List.getElem?_eq_getElem hjl⟩
        rw [pairs_get hej, pairs_get hej, (SR.clear_den hG.1 (hclr j _ hej hjk)).1]
      · intro K Q' hag hh hK
        have := rstep_ok hrsp hx hxn (getSR_wf hxwf) hag hh
        refine this K Q' fun ρ' w' b1 b2 b3 b4 => ?_
        have h5 := hK ρ' w' ⟨b1, b2, b3⟩ (by rw [hxr]; exact b4)
        rw [hxr] at h5; exact h5
      · intro ρ' a' w' hG hm'
        obtain ⟨hn', ht'⟩ := hB ρ' hG.1 hG.2.1 hG.2.2
        refine any_okB' hsp hst hok hchain hord hn' ht' (fun b w => hQ ρ' b w hG.1 hG.2.1 hG.2.2) fuel _ a' w' hm' ?_ ?_ ?_
        · rw [getD_set _ _ _ hil]; simp
        · rw [getD_set _ _ _ hil, if_neg (fun h => hia h.symm)]; exact ha
        · have := count_set hil r1' r2
          omega
    · have hlt : i < k := by
        rcases Nat.lt_or_ge i k with h | h
        · exact h
        · exfalso
          have := hmask k (hwait i (by omega) hia r1')
          rw [hkn] at this; cases this
      have ht := htold i e hei hlt
      refine mid_step' hsp hst (.inr hok) hchain hneed hei ht.fr ht.want ht.st ht.no (fun hne j hj hji => by have := heff j hj; omega) hm hi fun a' w' hm' => ih _ _ _ hm' ?_ ?_ ?_
      · rw [getD_set _ _ _ hil, if_neg (fun h => hik h.symm)]; exact hkn
      · rw [getD_set _ _ _ hil, if_neg (fun h => hia h.symm)]; exact ha
      · have := count_set hil r1' r2
        omega
/-- Neither is done. The variable's making is entry a of es3, of which the others behind k are never run. -/
theorem any_ok4 (hsp : ∀ f s, specs f = some s → SpecOk P S f s) {rsp : Nat → Option RSpec} (hrsp : ∀ f s, rsp f = some s → RSpecOk P S f s) {h0 hA : Hp} {es es2 es3 : List Ent} {init : List Value} {hl h3 : Hp} {k a : Nat} {x x2 a3 : Ent} {rr r2 : RRes}
    (m2 : es2.map (·.o) = es.map (·.o)) (m3 : es3.map (·.o) = es.map (·.o)) (p2 : pairsOf S ρ w0.heap.size es2 = pairsOf S ρ w0.heap.size es) (p3 : ∀ j, j < k ∨ j = a → (pairsOf S ρ w0.heap.size es3)[j]? = (pairsOf S ρ w0.heap.size es)[j]?)
    (hst : staticOk (es.map (·.o)) = true) (hok : okStill P specs h0 es = true) (hok2 : okStill P specs hA es2 = true) (hok3 : okStill P specs h0 es3 = true)
    (hchain : Chain h0 es hl) (hchain2 : Chain hA es2 hl) (hchain3 : Chain h0 es3 h3)
    (hord : ∀ i ∈ effsFrom 0 es, ∀ j ∈ effsFrom 0 es, j < i → ((masks (es.map (·.o))).getD i 0).testBit j = true ∨ j = k) (heff : ∀ j ∈ effsFrom 0 es, k ≤ j)
    (hord2 : ∀ i ∈ effsFrom 0 es2, ∀ j ∈ effsFrom 0 es2, j < i → ((masks (es2.map (·.o))).getD i 0).testBit j = true ∨ j = k) (heff2 : ∀ j ∈ effsFrom 0 es2, k ≤ j ∧ j ≠ a)
    (heff3 : effsFrom 0 es3 = [a]) (hheap3 : (heapsOf h0 es3)[1]? = some hA)
    (hneed : Met S ρ (es.flatMap (·.r.need))) (hneed2 : Met S ρ (es2.flatMap (·.r.need))) (hneed3 : Met S ρ (es3.flatMap (·.r.need))) (hka : k < a) (hk : es[k]? = some x) (hk2 : es2[k]? = some x2) (ha3 : es3[a]? = some a3)
    (hx : rstep P rsp (getSR x.fr) x.heap x.o = some rr) (hxr : x.r = ⟨rr.need, rr.val, rr.heap⟩) (hxe : isEff x = true) (hxn : Met S ρ rr.need)
    (hx2 : rstep P rsp (getSR x2.fr) x2.heap x2.o = some r2) (hxr2 : x2.r = ⟨r2.need, r2.val, r2.heap⟩) (hxe2 : isEff x2 = true) (hxn2 : Met S ρ r2.need) (hxo : x2.o = x.o) (hxfr : x2.fr = x.fr)
    (hsn : r2.ns = rr.ns) (hsv : r2.val = rr.val) (hsf : r2.facts = rr.facts) (hsa : rr.na ≤ r2.na)
    (hxf : x.fr.map (SR.den S ρ w0.heap.size) = frameD (fun i => decide (i < k)) 0 (pairsOf S ρ w0.heap.size es) init) (hxwf : ∀ y ∈ x.fr, y.wf S ρ)
    (hxw : Region.wanted x.o (yielded (es.map (·.o)).toArray (frameD (fun i => decide (i < k)) 0 (pairsOf S ρ w0.heap.size es) init).toArray) = true)
    (htold : ∀ j e, es[j]? = some e → j < k → Told P specs S ρ w0.heap.size es init j e) (htold2 : ∀ j e, es2[j]? = some e → j < k → Told P specs S ρ w0.heap.size es2 init j e) (htold3 : Told P specs S ρ w0.heap.size es3 init a a3)
    (hwait : ∀ j, k < j → j ≠ a → j < es.length → ((masks (es.map (·.o))).getD j 0).testBit k = true)
    (hclr : ∀ j e, es[j]? = some e → j < k → e.r.val.clear rr.ns rr.na = true) (hclr2 : ∀ j e, es2[j]? = some e → j < k ∨ j = a → e.r.val.clear r2.ns r2.na = true)
    (hB : ∀ ρ', Agree2 rr.ns rr.na ρ ρ' → Met S ρ' rr.facts → rr.val.wf S ρ' → (Met S ρ' (es.flatMap (·.r.need)) ∧ ∀ j e, es[j]? = some e → j ≠ k → Told P specs S ρ' w0.heap.size es init j e) ∧
      (Met S ρ' (es2.flatMap (·.r.need)) ∧ ∀ j e, es2[j]? = some e → j ≠ k → j ≠ a → Told P specs S ρ' w0.heap.size es2 init j e) ∧ pairsOf S ρ' w0.heap.size es2 = pairsOf S ρ' w0.heap.size es)
    {Q : Exit → Act → World → Prop} (hQ : ∀ ρ' b w, Agree2 rr.ns rr.na ρ ρ' → Met S ρ' rr.facts → rr.val.wf S ρ' → b.tmps.toList = frameD (fun _ => true) 0 (pairsOf S ρ' w0.heap.size es) init → b.defers = [] → HpOk S ρ' w0 hl w → Q .normal b w) :
    ∀ (fuel : Nat) (listed : Array Bool) (b : Act) (w : World), Mid S ρ w0 h0 es init listed b w → listed.getD k false = false → listed.getD a false = false → ((List.range es.length).filter fun i => !listed.getD i false).length ≤ fuel →
      wpAny P .any (es.map (·.o)).toArray Q fuel listed b w := by
  have hb : backEdges (es.map (·.o)) = true := by
    unfold staticOk at hst; simp only [Bool.and_eq_true] at hst; exact hst.1
  have hkl : k < es.length := (List.getElem?_eq_some_iff.1 hk).1
  have hl2 : es2.length = es.length := by have := congrArg List.length m2; simpa using this
  have hl3 : es3.length = es.length := by have := congrArg List.length m3; simpa using this
  intro fuel
  induction fuel with
  | zero =>
    intro listed b w hm hkn han hf
    have hr := ready_zero hm.size hf
    obtain ⟨_, _, q3⟩ := mid_stop hb hchain hm hr
    rw [q3 k hkl] at hkn; cases hkn
  | succ fuel ih =>
    intro listed b w hm hkn han hf
    refine ⟨fun hr => ?_, fun i hi => ?_⟩
    · obtain ⟨_, _, q3⟩ := mid_stop hb hchain hm hr
      rw [q3 k hkl] at hkn; cases hkn
    obtain ⟨r1, r2', r3⟩ := ready_spec hi
    have r1' : i < es.length := by simpa using r1
    have hil : i < listed.size := by rw [hm.size]; exact r1'
    rw [getD_tf _ _ hil] at r2'
    obtain ⟨e, hei⟩ : ∃ e, es[i]? = some e := ⟨_, List.getElem?_eq_getElem r1'⟩
    have hoi : (es.map (·.o))[i]? = some e.o := by simp [hei]
    have hoa : (es.map (·.o)).toArray[i]? = some e.o := by simpa using hoi
    have hmask := closed_mask hb hm.closed i e.o hoi (r3 e.o hoa)
    have hbnd : ∀ j, listed.getD j false = true → j < es.length := by
      intro j hj
      rcases Nat.lt_or_ge j listed.size with h | h
      · rw [hm.size] at h; exact h
      · rw [Array.getD_eq_getD_getElem?, Array.getElem?_eq_none h] at hj; cases hj
    have hlisted : ∀ j, listed.getD j false = true → j < k := by
      intro j hj
      have hjl := hbnd j hj
      have hja : j ≠ a := fun h => by rw [h, han] at hj; cases hj
      rcases Nat.lt_trichotomy j k with h | h | h
      · exact h
      · rw [h, hkn] at hj; cases hj
      · exfalso
        have hoj : (es.map (·.o))[j]? = some es[j].o := by simp [hjl]
        have := closed_mask hb hm.closed j es[j].o hoj (fun x h1 h2 => hm.closed j es[j].o hoj hj x h1 h2) k (hwait j h hja hjl)
        rw [hkn] at this; cases this
    by_cases hik : i = k
    · subst hik
      rw [hk] at hei
      injection hei with hei
      subst hei
      refine mid_stepX' (G := fun ρ' => Agree2 rr.ns rr.na ρ ρ' ∧ Met S ρ' rr.facts ∧ rr.val.wf S ρ') hst hchain hk hxf hxw hxe (fun j hj hji => by have := heff j hj; omega) hm hi ?_ ?_ ?_
      · intro ρ' hG j hj
        have hjk := hlisted j hj
        have hej : es[j]? = some (es[j]'(hbnd j hj)) := List.getElem?_eq_getElem _
        rw [pairs_get hej, pairs_get hej, (SR.clear_den hG.1 (hclr j _ hej hjk)).1]
      · intro K Q' hag hh hK
        have := rstep_ok hrsp hx hxn (getSR_wf hxwf) hag hh
        refine this K Q' fun ρ' w' b1 b2 b3 b4 => ?_
        have h5 := hK ρ' w' ⟨b1, b2, b3⟩ (by rw [hxr]; exact b4)
        rw [hxr] at h5; exact h5
      · intro ρ' a' w' hG hm'
        obtain ⟨⟨hn', ht'⟩, _⟩ := hB ρ' hG.1 hG.2.1 hG.2.2
        refine any_okB' (a := i) hsp hst hok hchain hord hn' (fun j e h1 h2 _ => ht' j e h1 h2) (fun b w => hQ ρ' b w hG.1 hG.2.1 hG.2.2) fuel _ a' w' hm' ?_ ?_ ?_
        · rw [getD_set _ _ _ hil]; simp
        · rw [getD_set _ _ _ hil]; simp
        · have := count_set hil r1' r2'
          omega
    by_cases hia : i = a
    · subst hia
      have hm3 : Mid S ρ w0 h0 es3 init listed b w := by
        obtain ⟨t, h, g1, g2, g3, g4⟩ := hm.heap
        have ht0 : t = 0 := by
          rcases Nat.eq_zero_or_pos t with h | h
          · exact h
          · exfalso
            have h0l : 0 < (effsFrom 0 es).length := by omega
            have := (g2 0 _ (List.getElem?_eq_getElem h0l)).2 h
            have := hlisted _ this
            have := heff _ (List.getElem_mem h0l)
            omega
        refine ⟨by rw [hm.size, hl3], by rw [m3]; exact hm.closed, ?_, hm.defers, 0, h0, Nat.zero_le _, ?_, by simp [heapsOf], ?_⟩
        · rw [hm.fr]
          refine frameD_vals _ 0 _ _ _ (by simp [pairsOf, hl3]) (fun j hj => ?_) rfl
          exact (p3 j (.inl (hlisted j (by simpa using hj)))).symm
        · intro q j hj
          rw [heff3] at hj
          have : j = i := by
            rcases q with _ | q
            · simpa using hj.symm
            · simp at hj
          subst this
          rw [han]; simp
        · have : h = h0 := by
            rw [ht0] at g3
            unfold heapsOf at g3
            simpa using g3.symm
          rw [← this]; exact g4
      have hi3 : i ∈ Region.ready .any (es3.map (·.o)).toArray listed := by rw [m3]; exact hi
      rw [← m3]
      refine mid_step' hsp (by rw [m3]; exact hst) (.inr hok3) hchain3 hneed3 ha3 htold3.fr htold3.want htold3.st htold3.no (fun _ j hj hji => by rw [heff3, List.mem_singleton] at hj; omega) hm3 hi3 fun b' w' hm' => ?_
      have hfuel : ((List.range es2.length).filter fun j => !(listed.setIfInBounds i true).getD j false).length ≤ fuel := by
        rw [hl2]
        have := count_set hil r1' r2'
        omega
      have hmid : Mid S ρ w0 hA es2 init (listed.setIfInBounds i true) b' w' := by
        obtain ⟨t, h, g1, g2, g3, g4⟩ := hm'.heap
        have ht1 : t = 1 := by
          rw [heff3] at g1 g2
          have := (g2 0 i rfl).1 (by rw [getD_set _ _ _ hil]; simp)
          simp at g1; omega
        have hhA : h = hA := by
          rw [ht1, hheap3] at g3
          exact (Option.some.inj g3).symm
        have hls : ∀ j, (listed.setIfInBounds i true).getD j false = true → j < k ∨ j = i := by
          intro j hj
          rw [getD_set _ _ _ hil] at hj
          split at hj
          · exact .inr ‹_›
          · exact .inl (hlisted j hj)
        refine ⟨by rw [hm'.size, hl3, hl2], by rw [m2, ← m3]; exact hm'.closed, ?_, hm'.defers, 0, hA, Nat.zero_le _, ?_, by simp [heapsOf], ?_⟩
        · rw [hm'.fr, p2]
          refine frameD_vals _ 0 _ _ _ (by simp [pairsOf, hl3]) (fun j hj => ?_) rfl
          exact p3 j (hls j (by simpa using hj))
        · intro q j hj
          have hje := heff2 j (List.mem_of_getElem? hj)
          constructor
          · intro h
            rcases hls j h with h | h
            · omega
            · exact absurd h hje.2
          · intro h; omega
        · rw [← hhA]; exact g4
      have := any_okA (a := i) hsp hrsp (by rw [m2]; exact hst) hok2 hchain2 hord2 (fun j hj => (heff2 j hj).1) hneed2 hk2 hx2 hxr2 hxe2 hxn2 (by rw [hxfr, p2]; exact hxf) (by rw [hxfr]; exact hxwf) (by rw [hxo, m2, p2]; exact hxw) htold2
        (fun j h1 h2 h3 => by rw [m2]; exact hwait j h1 h2 (by omega)) hclr2
        (fun ρ' g1 g2 g3 => by
          rw [hsn] at g1
          rw [hsf] at g2
          rw [hsv] at g3
          exact (hB ρ' (g1.mono hsa) g2 g3).2.1)
        (Q := Q) (fun ρ' b w g1 g2 g3 g4 g5 g6 => by
          rw [hsn] at g1
          rw [hsf] at g2
          rw [hsv] at g3
          rw [(hB ρ' (g1.mono hsa) g2 g3).2.2] at g4
          exact hQ ρ' b w (g1.mono hsa) g2 g3 g4 g5 g6)
        fuel _ b' w' hmid (by rw [getD_set _ _ _ hil, if_neg (by omega)]; exact hkn) (by rw [getD_set _ _ _ hil]; simp) hfuel
      rw [m2, ← m3] at this
      exact this
    · have hlt : i < k := by
        rcases Nat.lt_or_ge i k with h | h
        · exact h
        · exfalso
          have := hmask k (hwait i (by omega) hia r1')
          rw [hkn] at this; cases this
      have ht := htold i e hei hlt
      refine mid_step' hsp hst (.inr hok) hchain hneed hei ht.fr ht.want ht.st ht.no (fun hne j hj hji => by have := heff j hj; omega) hm hi fun a' w' hm' => ih _ _ _ hm' ?_ ?_ ?_
      · rw [getD_set _ _ _ hil, if_neg (fun h => hik h.symm)]; exact hkn
      · rw [getD_set _ _ _ hil, if_neg (fun h => hia h.symm)]; exact han
      · have := count_set hil r1' r2'
        omega
end
end
end Go.Proofs.YtljjbikbfeigdaaGreatDoor
namespace Go.Proofs.YtljjbikbfeigdaaGreatDoor
noncomputable section
open Go
/-- The letters are as bound. -/
structure Real (S : Sig) (lo na : Nat) (ρ ρ' : Env) (B B' : Nat) (m : Bd) : Prop where
  i : ∀ n x, lo ≤ n → look m.i n = some x → ρ'.i n = x.I S ρ
  b : ∀ n x, lo ≤ n → look m.b n = some x → ρ'.b n = x.B S ρ
  a : ∀ n x, lo ≤ n → look m.a n = some x → ρ'.a n = x.A S ρ
  v : ∀ n x, lo ≤ n → look m.v n = some x → ρ'.v n = x.den S ρ B
  j : ∀ n x, lo ≤ n → look m.j n = some x → ρ'.j n = x.den S ρ B
  s : ∀ n x, lo ≤ n → look m.s n = some x → ρ'.vs n = segsDen S ρ B x
  o : ∀ n r, lo ≤ n → look m.r n = some (.o r) → ρ'.blk n = r.blk ρ B
  n : ∀ n k, lo ≤ n → look m.r n = some (.n k) → B' + ρ'.blk n = B + ρ.nb k
  q : ∀ n k, lo ≤ n → look m.r n = some (.q k) → B' + ρ'.blk n = B + ρ.blk k
  p : ∀ n r s d l c, lo ≤ n → look m.r n = some (.p (.sl r s d l c)) → ρ'.blk n = r.blk ρ B ∧ ρ'.off n = r.off ρ + s + (d.I S ρ).toNat
  vL : ∀ n, n < lo → ρ'.v n = ρ.v n
  jL : ∀ n, n < lo → ρ'.j n = ρ.j n
  sL : ∀ n, n < lo → ρ'.vs n = ρ.vs n
  blkL : ∀ n, n < lo → ρ'.blk n = ρ.blk n
  offL : ∀ n, n < lo → ρ'.off n = ρ.off n
  nb : ∀ k, k < na → B' + ρ'.nb k = B + ρ.nb k
  hB : 0 < lo → B' = B
  eqI : ∀ p ∈ m.eqI, p.1.I S ρ' = p.2.I S ρ
  eqB : ∀ p ∈ m.eqB, p.1.B S ρ' = p.2.B S ρ
  eqA : ∀ p ∈ m.eqA, p.1.A S ρ' = p.2.A S ρ
  need : Met S ρ m.need
section
variable {S : Sig} {lo na : Nat} {ρ ρ' : Env} {B B' : Nat} {m m' : Bd}
theorem look_cons {α : Type} {l : List (Nat × α)} {n k : Nat} {x y : α} (h : look l k = none) (hn : look l n = some y) : look ((k, x) :: l) n = some y := by
  unfold look
  cases hb : Nat.beq k n with
  | true =>
    have := Nat.eq_of_beq_eq_true hb
    subst this
    rw [h] at hn; cases hn
  | false => exact hn
theorem look_self {α : Type} {l : List (Nat × α)} {n : Nat} {x : α} : look ((n, x) :: l) n = some x := by
  unfold look; rw [Nat.beq_refl]
theorem ble_iff {a b : Nat} : Nat.ble a b = true ↔ a ≤ b := ⟨Nat.le_of_ble_eq_true, Nat.ble_eq_true_of_le⟩
theorem bindI_ok {t x : T} (hr : Real S lo na ρ ρ' B B' (bindI lo t x m)) : t.I S ρ' = x.I S ρ ∧ Real S lo na ρ ρ' B B' m := by
  have heq : Real S lo na ρ ρ' B B' { m with eqI := (t, x) :: m.eqI } → t.I S ρ' = x.I S ρ ∧ Real S lo na ρ ρ' B B' m := fun hr =>
    ⟨hr.eqI (t, x) (by simp), { hr with eqI := fun p hp => hr.eqI p (List.mem_cons_of_mem _ hp) }⟩
  unfold bindI at hr
  split at hr
  · rename_i n
    split at hr
    · rename_i hl
      rw [ble_iff] at hl
      split at hr
      · rename_i hn
        exact ⟨hr.i n x hl look_self, { hr with i := fun k y hk hy => hr.i k y hk (look_cons hn hy) }⟩
      · exact heq hr
    · exact heq hr
  · exact heq hr
theorem bindB_ok {t x : T} (hr : Real S lo na ρ ρ' B B' (bindB lo t x m)) : t.B S ρ' = x.B S ρ ∧ Real S lo na ρ ρ' B B' m := by
  have heq : Real S lo na ρ ρ' B B' { m with eqB := (t, x) :: m.eqB } → t.B S ρ' = x.B S ρ ∧ Real S lo na ρ ρ' B B' m := fun hr =>
    ⟨hr.eqB (t, x) (by simp), { hr with eqB := fun p hp => hr.eqB p (List.mem_cons_of_mem _ hp) }⟩
  unfold bindB at hr
  split at hr
  · rename_i n
    split at hr
    · rename_i hl
      rw [ble_iff] at hl
      split at hr
      · rename_i hn
        exact ⟨hr.b n x hl look_self, { hr with b := fun k y hk hy => hr.b k y hk (look_cons hn hy) }⟩
      · exact heq hr
    · exact heq hr
  · exact heq hr
theorem bindA_ok {t x : T} (hr : Real S lo na ρ ρ' B B' (bindA lo t x m)) : t.A S ρ' = x.A S ρ ∧ Real S lo na ρ ρ' B B' m := by
  have heq : Real S lo na ρ ρ' B B' { m with eqA := (t, x) :: m.eqA } → t.A S ρ' = x.A S ρ ∧ Real S lo na ρ ρ' B B' m := fun hr =>
    ⟨hr.eqA (t, x) (by simp), { hr with eqA := fun p hp => hr.eqA p (List.mem_cons_of_mem _ hp) }⟩
  unfold bindA at hr
  split at hr
  · rename_i n
    split at hr
    · rename_i hl
      rw [ble_iff] at hl
      split at hr
      · rename_i hn
        exact ⟨hr.a n x hl look_self, { hr with a := fun k y hk hy => hr.a k y hk (look_cons hn hy) }⟩
      · exact heq hr
    · exact heq hr
  · exact heq hr
theorem same_ref {t x : Ref} (h : Nat.beq t.code x.code = true) (ho : t.okIn na = true) (hr : Real S lo na ρ ρ' B B' m) (h1 : ∀ n, t = .old n → n < lo) (h2 : ∀ n, t = .own n → n < lo) (h3 : ∀ n, t = .ro n → n < lo) :
    t.blk ρ' B' = x.blk ρ B ∧ t.off ρ' = x.off ρ := by
  have := Ref.code_inj h
  subst this
  cases t with
  | old n => exact ⟨hr.blkL n (h1 n rfl), rfl⟩
  | new k => exact ⟨hr.nb k (Nat.le_of_ble_eq_true ho), rfl⟩
  | glob g => exact ⟨rfl, rfl⟩
  | ro n => exact ⟨hr.blkL n (h3 n rfl), hr.offL n (h3 n rfl)⟩
  | own n =>
    have hl := h2 n rfl
    have := hr.hB (by omega)
    exact ⟨by simp only [Ref.blk]; rw [this, hr.blkL n hl], rfl⟩
theorem not_ble {a b : Nat} (h : ¬ Nat.ble a b = true) : b < a := by
  rw [ble_iff] at h; omega
theorem bindR_ok {t x : Ref} (ho : t.okIn na = true) (h : bindR lo t x m = some m') (hr : Real S lo na ρ ρ' B B' m') : t.blk ρ' B' = x.blk ρ B ∧ t.off ρ' = x.off ρ ∧ Real S lo na ρ ρ' B B' m := by
  unfold bindR at h
  split at h
  · rename_i n
    split at h
    · rename_i hl
      rw [ble_iff] at hl
      split at h
      · cases h
      · rename_i hne
        have hoff : x.off ρ = 0 := by cases x <;> first | rfl | exact absurd rfl (hne _)
        split at h
        · rename_i hn
          cases h
          exact ⟨hr.o n x hl look_self, hoff.symm, { hr with o := fun k y hk hy => hr.o k y hk (look_cons hn hy), n := fun k y hk hy => hr.n k y hk (look_cons hn hy), q := fun k y hk hy => hr.q k y hk (look_cons hn hy), p := fun k r s d l c hk hy => hr.p k r s d l c hk (look_cons hn hy) }⟩
        · rename_i y hy
          split at h
          · rename_i hc
            cases h
            have := Ref.code_inj hc
            subst this
            exact ⟨hr.o n x hl hy, hoff.symm, hr⟩
          · cases h
        · cases h
    · rename_i hl
      split at h
      · rename_i hc
        cases h
        obtain ⟨h1, h2⟩ := same_ref hc ho hr (fun k e => by cases e; exact not_ble hl) (fun k e => by cases e) (fun k e => by cases e)
        exact ⟨h1, h2, hr⟩
      · cases h
  · rename_i n
    split at h
    · rename_i hl
      rw [ble_iff] at hl
      split at h
      · rename_i hn
        split at h
        · rename_i k
          cases h
          exact ⟨hr.n n k hl look_self, rfl, { hr with o := fun k y hk hy => hr.o k y hk (look_cons hn hy), n := fun k y hk hy => hr.n k y hk (look_cons hn hy), q := fun k y hk hy => hr.q k y hk (look_cons hn hy), p := fun k r s d l c hk hy => hr.p k r s d l c hk (look_cons hn hy) }⟩
        · rename_i k
          cases h
          exact ⟨hr.q n k hl look_self, rfl, { hr with o := fun k y hk hy => hr.o k y hk (look_cons hn hy), n := fun k y hk hy => hr.n k y hk (look_cons hn hy), q := fun k y hk hy => hr.q k y hk (look_cons hn hy), p := fun k r s d l c hk hy => hr.p k r s d l c hk (look_cons hn hy) }⟩
        · cases h
      · rename_i k hy
        split at h
        · rename_i hc
          cases h
          have := Ref.code_inj hc
          subst this
          exact ⟨hr.n n k hl hy, rfl, hr⟩
        · cases h
      · rename_i k hy
        split at h
        · rename_i hc
          cases h
          have := Ref.code_inj hc
          subst this
          exact ⟨hr.q n k hl hy, rfl, hr⟩
        · cases h
      · cases h
    · rename_i hl
      split at h
      · rename_i hc
        cases h
        obtain ⟨h1, h2⟩ := same_ref hc ho hr (fun k e => by cases e) (fun k e => by cases e; exact not_ble hl) (fun k e => by cases e)
        exact ⟨h1, h2, hr⟩
      · cases h
  · rename_i n
    split at h
    · cases h
    · rename_i hl
      split at h
      · rename_i hc
        cases h
        obtain ⟨h1, h2⟩ := same_ref hc ho hr (fun k e => by cases e) (fun k e => by cases e) (fun k e => by cases e; exact not_ble hl)
        exact ⟨h1, h2, hr⟩
      · cases h
  · rename_i n1 n2 n3
    split at h
    · rename_i hc
      cases h
      obtain ⟨h1, h2⟩ := same_ref hc ho hr (fun k e => absurd e (n1 k)) (fun k e => absurd e (n2 k)) (fun k e => absurd e (n3 k))
      exact ⟨h1, h2, hr⟩
    · cases h
theorem bindD_ok {s s' : Nat} {d d' : T} (h : bindD lo s d s' d' m = some m') (hr : Real S lo na ρ ρ' B B' m') : s + (d.I S ρ').toNat = s' + (d'.I S ρ).toNat ∧ Real S lo na ρ ρ' B B' m := by
  unfold bindD at h
  split at h
  · rename_i hs
    have := Nat.eq_of_beq_eq_true hs
    subst this
    cases h
    obtain ⟨h1, h2⟩ := bindI_ok hr
    exact ⟨by rw [h1], h2⟩
  · split at h
    · rename_i hs
      have := Nat.eq_of_beq_eq_true hs
      subst this
      cases h
      obtain ⟨n1, n2⟩ := met_append.1 hr.need
      obtain ⟨h1, h2⟩ := bindI_ok (S := S) (lo := lo) (na := na) (ρ := ρ) (ρ' := ρ') (B := B) (B' := B') (m := m) (t := d) (x := mkAdd (.lit s') d') { hr with need := n2 }
      refine ⟨?_, h2⟩
      have := le_of (met_one n1)
      rw [h1, mkAdd_I]
      simp only [T.I] at this ⊢
      omega
    · cases h
theorem addr_eq {r r' : Ref} {s s' : Nat} {d d' : T} (h1 : r.blk ρ' B' = r'.blk ρ B) (h2 : r.off ρ' = r'.off ρ) (h3 : s + (d.I S ρ').toNat = s' + (d'.I S ρ).toNat) : addrOf S ρ' B' r s d = addrOf S ρ B r' s' d' := by
  simp only [addrOf, h1, h2]
  congr 1
  omega
theorem fitLeaf_ok : ∀ {t x : Leaf} {m m' : Bd}, t.okIn na = true → fitLeaf lo t x m = some m' → Real S lo na ρ ρ' B B' m' → t.den S ρ' B' = x.den S ρ B ∧ Real S lo na ρ ρ' B B' m := by
  intro t
  induction t with
  | iface k t ih =>
    intro x m m' ho h hr
    cases x <;> simp only [fitLeaf] at h <;> try (cases h; done)
    split at h
    · rename_i hk
      subst hk
      obtain ⟨h1, h2⟩ := ih (by simpa [Leaf.okIn] using ho) h hr
      exact ⟨by simp only [Leaf.den, h1], h2⟩
    · cases h
  | val n =>
    intro x m m' ho h hr
    simp only [fitLeaf] at h
    split at h
    · rename_i hl
      rw [ble_iff] at hl
      split at h
      · rename_i hn
        cases h
        exact ⟨hr.v n x hl look_self, { hr with v := fun k y hk hy => hr.v k y hk (look_cons hn hy) }⟩
      · rename_i y hy
        split at h
        · rename_i hxy
          cases h
          subst hxy
          exact ⟨hr.v n x hl hy, hr⟩
        · cases h
    · rename_i hl
      split at h
      · rename_i hx
        cases h
        subst hx
        exact ⟨hr.vL n (not_ble hl), hr⟩
      · cases h
  | junk n =>
    intro x m m' ho h hr
    simp only [fitLeaf] at h
    split at h
    · rename_i hl
      rw [ble_iff] at hl
      split at h
      · rename_i hn
        cases h
        exact ⟨hr.j n _ hl look_self, { hr with j := fun k y hk hy => hr.j k y hk (look_cons hn hy) }⟩
      · cases h
    · rename_i hl
      split at h
      · rename_i hx
        cases h
        subst hx
        exact ⟨hr.jL n (not_ble hl), hr⟩
      · cases h
  | int k t =>
    intro x m m' ho h hr
    cases x <;> simp only [fitLeaf] at h <;> try (cases h; done)
    split at h
    · rename_i hk
      subst hk
      cases h
      obtain ⟨h1, h2⟩ := bindI_ok hr
      exact ⟨by simp only [Leaf.den, h1], h2⟩
    · cases h
  | bool t =>
    intro x m m' ho h hr
    cases x <;> simp only [fitLeaf] at h <;> try (cases h; done)
    cases h
    obtain ⟨h1, h2⟩ := bindB_ok hr
    exact ⟨by simp only [Leaf.den, h1], h2⟩
  | ptr r s d =>
    intro x m m' ho h hr
    cases x <;> simp only [fitLeaf] at h <;> try (cases h; done)
    rename_i r' s' d'
    rw [Option.bind_eq_some_iff] at h
    obtain ⟨m1, h1, h2⟩ := h
    obtain ⟨e3, hr1⟩ := bindD_ok h2 hr
    obtain ⟨e1, e2, hr2⟩ := bindR_ok ho h1 hr1
    exact ⟨by simp only [Leaf.den, addr_eq e1 e2 e3], hr2⟩
  | sl r s d l c =>
    intro x m m' ho h hr
    cases x with
    | sl r' s' d' l' c' =>
      have gen : ((bindR lo r r' m).bind (bindD lo s d s' d')).map (fun m => bindI lo c c' (bindI lo l l' m)) = some m' → (Leaf.sl r s d l c).den S ρ' B' = (Leaf.sl r' s' d' l' c').den S ρ B ∧ Real S lo na ρ ρ' B B' m := by
        intro hg
        rw [Option.map_eq_some_iff] at hg
        obtain ⟨m2, hg, rfl⟩ := hg
        rw [Option.bind_eq_some_iff] at hg
        obtain ⟨m1, h1, h2⟩ := hg
        obtain ⟨e5, hr⟩ := bindI_ok hr
        obtain ⟨e4, hr⟩ := bindI_ok hr
        obtain ⟨e3, hr1⟩ := bindD_ok h2 hr
        obtain ⟨e1, e2, hr2⟩ := bindR_ok ho h1 hr1
        exact ⟨by simp only [Leaf.den, addr_eq e1 e2 e3, e4, e5], hr2⟩
      cases r with
      | ro n =>
        simp only [fitLeaf] at h
        split at h
        · rename_i hl
          rw [ble_iff] at hl
          split at h
          · rename_i hn
            split at h
            · rename_i hz
              simp only [Bool.and_eq_true] at hz
              have hs := Nat.eq_of_beq_eq_true hz.1
              have hd := isZ_iff.1 hz.2
              subst hs hd
              cases h
              obtain ⟨e5, hr⟩ := bindI_ok hr
              obtain ⟨e4, hr⟩ := bindI_ok hr
              obtain ⟨p1, p2⟩ := hr.p n r' s' d' l' c' hl look_self
              refine ⟨?_, { hr with o := fun k y hk hy => hr.o k y hk (look_cons hn hy), n := fun k y hk hy => hr.n k y hk (look_cons hn hy), q := fun k y hk hy => hr.q k y hk (look_cons hn hy), p := fun k r s d l c hk hy => hr.p k r s d l c hk (look_cons hn hy) }⟩
              simp only [Leaf.den, addrOf, Ref.blk, Ref.off, p1, p2, e4, e5, T.I]
              congr 2
            · cases h
          · cases h
        · exact gen h
      | _ => exact gen h
    | _ => cases r <;> simp [fitLeaf] at h
  | _ =>
    intro x m m' ho h hr
    cases x <;> simp only [fitLeaf] at h <;> first
      | (cases h; done)
      | (cases h; exact ⟨rfl, hr⟩)
      | (split at h
         · rename_i e
           cases h
           subst e
           exact ⟨rfl, hr⟩
         · cases h)
end
end
end Go.Proofs.YtljjbikbfeigdaaGreatDoor
namespace Go.Proofs.YtljjbikbfeigdaaGreatDoor
noncomputable section
open Go
section
variable {S : Sig} {lo na : Nat} {ρ ρ' : Env} {B B' : Nat}
theorem fitLeaves_ok : ∀ {ts xs : List Leaf} {m m' : Bd}, ts.all (Leaf.okIn na) = true → fitLeaves lo ts xs m = some m' → Real S lo na ρ ρ' B B' m' → ts.map (Leaf.den S ρ' B') = xs.map (Leaf.den S ρ B) ∧ Real S lo na ρ ρ' B B' m
  | [], [], m, m', _, h, hr => by
    simp only [fitLeaves, Option.some.injEq] at h
    subst h
    exact ⟨rfl, hr⟩
  | t :: ts, x :: xs, m, m', ho, h, hr => by
    simp only [fitLeaves] at h
    rw [Option.bind_eq_some_iff] at h
    obtain ⟨m1, h1, h2⟩ := h
    simp only [List.all_cons, Bool.and_eq_true] at ho
    obtain ⟨e2, hr⟩ := fitLeaves_ok ho.2 h2 hr
    obtain ⟨e1, hr⟩ := fitLeaf_ok ho.1 h1 hr
    exact ⟨by rw [List.map_cons, List.map_cons, e1, e2], hr⟩
  | [], _ :: _, _, _, _, h, _ => by simp [fitLeaves] at h
  | _ :: _, [], _, _, _, h, _ => by simp [fitLeaves] at h
theorem cellsOf_den : ∀ {g : List Seg} {l : List Leaf}, segsWf S ρ g → cellsOf g = some l → l.map (Leaf.den S ρ B) = segsDen S ρ B g
  | [], l, _, h => by simp only [cellsOf, Option.some.injEq] at h; subst h; rfl
  | .cells c :: g, l, hw, h => by
    simp only [cellsOf, Option.map_eq_some_iff] at h
    obtain ⟨l', h, rfl⟩ := h
    rw [List.map_append, cellsOf_den (segsWf_cons.1 hw).2 h, segsDen_cons]; rfl
  | .arr k a n :: g, l, hw, h => by
    simp only [cellsOf, Option.map_eq_some_iff] at h
    obtain ⟨l', h, rfl⟩ := h
    have hl : (a.A S ρ).length = n := (segsWf_cons.1 hw).1
    rw [List.map_append, cellsOf_den (segsWf_cons.1 hw).2 h, segsDen_cons]
    congr 1
    apply List.ext_getElem?
    intro j
    simp only [List.map_map, List.getElem?_map, Seg.den]
    by_cases hj : j < n
    · rw [List.getElem?_range hj, List.getElem?_eq_getElem (by omega)]
      simp [Leaf.den, mkGet_I, T.I, List.getD_eq_getElem?_getD, List.getElem?_eq_getElem (show j < (a.A S ρ).length by omega)]
    · rw [List.getElem?_eq_none (by simpa using hj), List.getElem?_eq_none (by omega)]; rfl
  | .arrD _ _ :: _, _, _, h => by simp [cellsOf] at h
  | .bar _ _ :: _, _, _, h => by simp [cellsOf] at h
  | .junk _ :: _, _, _, h => by simp [cellsOf] at h
  | .tail _ _ :: _, _, _, h => by simp [cellsOf] at h
theorem dropTail_spec : ∀ {g p : List Seg} {z : List Leaf} {t : T}, dropTail g = some (p, z, t) → g = p ++ [.tail z t]
  | [], _, _, _, h => by simp [dropTail] at h
  | [.tail z t], p, z', t', h => by
    simp only [dropTail, Option.some.injEq, Prod.mk.injEq] at h
    obtain ⟨rfl, rfl, rfl⟩ := h
    rfl
  | [.cells _], _, _, _, h => by simp [dropTail] at h
  | [.arr _ _ _], _, _, _, h => by simp [dropTail] at h
  | [.arrD _ _], _, _, _, h => by simp [dropTail] at h
  | [.bar _ _], _, _, _, h => by simp [dropTail] at h
  | [.junk _], _, _, _, h => by simp [dropTail] at h
  | x :: y :: g, p, z, t, h => by
    rw [dropTail] at h
    · simp only [Option.map_eq_some_iff, Prod.exists] at h
      obtain ⟨p', z', t', h, h'⟩ := h
      simp only [Prod.mk.injEq] at h'
      obtain ⟨rfl, rfl, rfl⟩ := h'
      rw [dropTail_spec h]; rfl
    · intro _ _ _ h; cases h
theorem fixed_den {z : List Leaf} (h : z.all Leaf.fixed = true) : z.map (Leaf.den S ρ' B') = z.map (Leaf.den S ρ B) := by
  rw [List.all_eq_true] at h
  apply List.map_congr_left
  intro x hx
  have := h x hx
  unfold Leaf.fixed at this
  split at this <;> first | rfl | cases this
theorem fitSegs_ok : ∀ {ts g : List Seg} {m m' : Bd}, ts.all (Seg.okIn na) = true → segsWf S ρ g → fitSegs lo ts g m = some m' → Real S lo na ρ ρ' B B' m' →
    segsDen S ρ' B' ts = segsDen S ρ B g ∧ segsWf S ρ' ts ∧ Real S lo na ρ ρ' B B' m := by
  intro ts
  induction ts with
  | nil =>
    intro g m m' _ hw h hr
    cases g with
    | nil =>
      simp only [fitSegs, Option.some.injEq] at h
      subst h
      exact ⟨rfl, (fun _ h => nomatch h), hr⟩
    | cons x g => simp [fitSegs] at h
  | cons t ts ih =>
    intro g m m' ho hw h hr
    simp only [List.all_cons, Bool.and_eq_true] at ho
    have arrD : ∀ {k : IntKind} {u : T} {g : List Seg} {a : T} {m m' : Bd}, packT k g = some a → Real S lo na ρ ρ' B B' (bindA lo u a m) → (Seg.arrD k u).den S ρ' B' = segsDen S ρ B g ∧ Real S lo na ρ ρ' B B' m := by
      intro k u g a m m' hp hr
      obtain ⟨e, hr⟩ := bindA_ok hr
      exact ⟨by rw [← packT_den hp, Seg.den, e], hr⟩
    cases t with
    | cells l =>
      simp only [fitSegs] at h
      split at h
      · rename_i x rest hs
        split at h
        · rename_i c hc
          rw [Option.bind_eq_some_iff] at h
          obtain ⟨m1, h1, h2⟩ := h
          obtain ⟨s1, s2, s3, s4⟩ := splitSegs_spec (B := B) hw hs
          obtain ⟨e2, w2, hr⟩ := ih ho.2 s4 h2 hr
          obtain ⟨e1, hr⟩ := fitLeaves_ok ho.1 h1 hr
          refine ⟨?_, segsWf_cons.2 ⟨trivial, w2⟩, hr⟩
          rw [segsDen_cons, e2, ← s1, ← cellsOf_den s3 hc, ← e1]; rfl
        · cases h
      · cases h
    | arr k u n =>
      simp only [fitSegs] at h
      split at h
      · rename_i x rest hs
        split at h
        · rename_i a hp
          obtain ⟨s1, s2, s3, s4⟩ := splitSegs_spec (B := B) hw hs
          obtain ⟨e2, w2, hr⟩ := ih ho.2 s4 h hr
          obtain ⟨e1, hr⟩ := bindA_ok hr
          have hp' := packT_den (S := S) (ρ := ρ) (B := B) hp
          refine ⟨?_, segsWf_cons.2 ⟨?_, w2⟩, hr⟩
          · rw [segsDen_cons, e2, ← s1, ← hp', ← e1]; rfl
          · show (u.A S ρ').length = n
            rw [e1, ← s2, ← hp', List.length_map]
        · cases h
      · cases h
    | arrD k u =>
      cases ts with
      | nil =>
        simp only [fitSegs] at h
        split at h
        · rename_i a hp
          cases h
          obtain ⟨e, hr⟩ := arrD (m' := m) hp hr
          refine ⟨by rw [segsDen_cons, segsDen_nil, List.append_nil, e], segsWf_cons.2 ⟨trivial, fun _ h => nomatch h⟩, hr⟩
        · cases h
      | cons t2 ts =>
        cases t2 with
        | tail z v =>
          cases ts with
          | nil =>
            simp only [fitSegs] at h
            split at h
            · rename_i x z' u' hd
              split at h
              · rename_i hz
                obtain ⟨rfl, hzf⟩ := hz
                split at h
                · rename_i a hp
                  cases h
                  obtain ⟨e2, hr⟩ := bindI_ok hr
                  obtain ⟨e, hr⟩ := arrD (m' := m) hp hr
                  refine ⟨?_, segsWf_cons.2 ⟨trivial, segsWf_cons.2 ⟨trivial, fun _ h => nomatch h⟩⟩, hr⟩
                  rw [dropTail_spec hd, segsDen_append, segsDen_cons, segsDen_cons, segsDen_cons, e]
                  simp only [segsDen_nil, List.append_nil, Seg.den, e2, fixed_den (S := S) (ρ := ρ) (ρ' := ρ') (B := B) (B' := B') hzf]
                · cases h
              · cases h
            · cases h
          | cons _ _ => simp [fitSegs] at h
        | _ => simp [fitSegs] at h
    | bar u n =>
      cases g with
      | nil => simp [fitSegs] at h
      | cons y g =>
        cases y with
        | bar a n' =>
          simp only [fitSegs] at h
          split at h
          · rename_i hn
            subst hn
            obtain ⟨e2, w2, hr⟩ := ih ho.2 (segsWf_cons.1 hw).2 h hr
            obtain ⟨e1, hr⟩ := bindA_ok hr
            refine ⟨?_, segsWf_cons.2 ⟨?_, w2⟩, hr⟩
            · rw [segsDen_cons, segsDen_cons, e2]; simp only [Seg.den, e1]
            · show (u.A S ρ').length = n
              rw [e1]; exact (segsWf_cons.1 hw).1
          · cases h
        | _ => simp [fitSegs] at h
    | tail z u =>
      cases ts with
      | nil =>
        cases g with
        | nil => simp [fitSegs] at h
        | cons y g =>
          cases g with
          | cons _ _ => cases y <;> simp [fitSegs] at h
          | nil =>
            cases y with
            | tail z' u' =>
              simp only [fitSegs] at h
              split at h
              · rename_i hz
                obtain ⟨rfl, hzf⟩ := hz
                cases h
                obtain ⟨e2, hr⟩ := bindI_ok hr
                refine ⟨?_, segsWf_cons.2 ⟨trivial, fun _ h => nomatch h⟩, hr⟩
                simp only [segsDen_cons, segsDen_nil, List.append_nil, Seg.den, e2, fixed_den (S := S) (ρ := ρ) (ρ' := ρ') (B := B) (B' := B') hzf]
              · cases h
            | _ => simp [fitSegs] at h
      | cons _ _ => cases g <;> simp [fitSegs] at h
    | junk n =>
      cases ts with
      | nil =>
        simp only [fitSegs] at h
        split at h
        · rename_i hl
          rw [ble_iff] at hl
          split at h
          · rename_i hn
            cases h
            refine ⟨?_, segsWf_cons.2 ⟨trivial, fun _ h => nomatch h⟩, { hr with s := fun k y hk hy => hr.s k y hk (look_cons hn hy) }⟩
            rw [segsDen_cons, segsDen_nil, List.append_nil]
            exact hr.s n g hl look_self
          · cases h
        · rename_i hl
          split at h
          · rename_i hg
            cases h
            subst hg
            refine ⟨?_, segsWf_cons.2 ⟨trivial, fun _ h => nomatch h⟩, hr⟩
            rw [segsDen_cons, segsDen_nil, List.append_nil, segsDen_cons, segsDen_nil, List.append_nil]
            exact hr.sL n (not_ble hl)
          · cases h
      | cons _ _ => simp [fitSegs] at h
end
end
end Go.Proofs.YtljjbikbfeigdaaGreatDoor
namespace Go.Proofs.YtljjbikbfeigdaaGreatDoor
noncomputable section
open Go
section
variable {S : Sig} {lo na : Nat} {ρ ρ' : Env} {B B' : Nat}
theorem fitSV_ok {t x : SV} {m m' : Bd} (ho : t.okIn na = true) (hw : x.wf S ρ) (h : fitSV lo t x m = some m') (hr : Real S lo na ρ ρ' B B' m') : t.den S ρ' B' = x.den S ρ B ∧ t.wf S ρ' ∧ Real S lo na ρ ρ' B B' m := by
  cases t with
  | one t =>
    cases x with
    | one x =>
      obtain ⟨h1, h2⟩ := fitLeaf_ok ho h hr
      exact ⟨h1, trivial, h2⟩
    | agg g => simp [fitSV] at h
  | agg t =>
    cases x with
    | one x => simp [fitSV] at h
    | agg g =>
      obtain ⟨h1, h2, h3⟩ := fitSegs_ok ho hw h hr
      exact ⟨by simp only [SV.den, h1], h2, h3⟩
theorem fitSVs_ok : ∀ {ts xs : List SV} {m m' : Bd}, ts.all (SV.okIn na) = true → (∀ x ∈ xs, x.wf S ρ) → fitSVs lo ts xs m = some m' → Real S lo na ρ ρ' B B' m' →
    ts.map (SV.den S ρ' B') = xs.map (SV.den S ρ B) ∧ (∀ t ∈ ts, t.wf S ρ') ∧ Real S lo na ρ ρ' B B' m
  | [], [], m, m', _, _, h, hr => by
    simp only [fitSVs, Option.some.injEq] at h
    subst h
    exact ⟨rfl, (fun _ h => nomatch h), hr⟩
  | t :: ts, x :: xs, m, m', ho, hw, h, hr => by
    simp only [fitSVs] at h
    rw [Option.bind_eq_some_iff] at h
    obtain ⟨m1, h1, h2⟩ := h
    simp only [List.all_cons, Bool.and_eq_true] at ho
    obtain ⟨e2, w2, hr⟩ := fitSVs_ok ho.2 (fun x hx => hw x (by simp [hx])) h2 hr
    obtain ⟨e1, w1, hr⟩ := fitSV_ok ho.1 (hw x (by simp)) h1 hr
    refine ⟨by rw [List.map_cons, List.map_cons, e1, e2], fun u hu => ?_, hr⟩
    rcases List.mem_cons.1 hu with rfl | hu
    · exact w1
    · exact w2 u hu
  | [], _ :: _, _, _, _, _, h, _ => by simp [fitSVs] at h
  | _ :: _, [], _, _, _, _, h, _ => by simp [fitSVs] at h
theorem fitSR_ok {t x : SR} {m m' : Bd} (ho : t.okIn na = true) (hw : x.wf S ρ) (h : fitSR lo t x m = some m') (hr : Real S lo na ρ ρ' B B' m') : t.den S ρ' B' = x.den S ρ B ∧ t.wf S ρ' ∧ Real S lo na ρ ρ' B B' m := by
  have gen : ∀ {t x : SV}, t.okIn na = true → x.wf S ρ → fitSV lo t x m = some m' → t.den S ρ' B' = x.den S ρ B ∧ t.wf S ρ' ∧ Real S lo na ρ ρ' B B' m := fun ho hw h => fitSV_ok ho hw h hr
  cases t with
  | v t =>
    cases t with
    | agg g =>
      cases x with
      | v x => exact gen ho hw h
      | _ => simp [fitSR] at h
    | one t =>
      cases t with
      | junk n =>
        simp only [fitSR] at h
        split at h
        · rename_i hl
          rw [ble_iff] at hl
          split at h
          · rename_i hn
            cases h
            exact ⟨hr.j n x hl look_self, trivial, { hr with j := fun k y hk hy => hr.j k y hk (look_cons hn hy) }⟩
          · cases h
        · split at h
          · obtain ⟨h1, h2⟩ := fitLeaf_ok (t := .junk n) rfl h hr
            exact ⟨h1, trivial, h2⟩
          · cases h
      | _ =>
        cases x with
        | v x => exact gen ho hw h
        | _ => simp [fitSR] at h
  | tup ts =>
    cases x with
    | tup xs =>
      obtain ⟨h1, h2, h3⟩ := fitSVs_ok ho hw h hr
      exact ⟨by simp only [SR.den, h1], h2, h3⟩
    | _ => simp [fitSR] at h
  | ite _ _ _ => simp [fitSR] at h
theorem fitSRs_ok : ∀ {ts xs : List SR} {m m' : Bd}, ts.all (SR.okIn na) = true → (∀ x ∈ xs, x.wf S ρ) → fitSRs lo ts xs m = some m' → Real S lo na ρ ρ' B B' m' →
    ts.map (SR.den S ρ' B') = xs.map (SR.den S ρ B) ∧ (∀ t ∈ ts, t.wf S ρ') ∧ Real S lo na ρ ρ' B B' m
  | [], [], m, m', _, _, h, hr => by
    simp only [fitSRs, Option.some.injEq] at h
    subst h
    exact ⟨rfl, (fun _ h => nomatch h), hr⟩
  | t :: ts, x :: xs, m, m', ho, hw, h, hr => by
    simp only [fitSRs] at h
    rw [Option.bind_eq_some_iff] at h
    obtain ⟨m1, h1, h2⟩ := h
    simp only [List.all_cons, Bool.and_eq_true] at ho
    obtain ⟨e2, w2, hr⟩ := fitSRs_ok ho.2 (fun x hx => hw x (by simp [hx])) h2 hr
    obtain ⟨e1, w1, hr⟩ := fitSR_ok ho.1 (hw x (by simp)) h1 hr
    refine ⟨by rw [List.map_cons, List.map_cons, e1, e2], fun u hu => ?_, hr⟩
    rcases List.mem_cons.1 hu with rfl | hu
    · exact w1
    · exact w2 u hu
  | [], _ :: _, _, _, _, _, h, _ => by simp [fitSRs] at h
  | _ :: _, [], _, _, _, _, h, _ => by simp [fitSRs] at h
theorem delB_perm : ∀ {l : List (Ref × Blk)} {r : Ref} {c : Blk}, findB l r = some c → ((r, c) :: delB l r).Perm l
  | [], _, _, h => by simp [findB] at h
  | (q, b) :: l, r, c, h => by
    unfold findB at h
    unfold delB
    split at h
    · rename_i hq
      have := Ref.code_inj hq
      subst this
      cases h
      rw [hq]
    · rename_i hq
      have hq : Nat.beq q.code r.code = false := by cases hb : Nat.beq q.code r.code with | true => exact absurd hb hq | false => rfl
      rw [hq]
      exact (List.Perm.swap _ _ _).trans ((delB_perm h).cons _)
theorem refOf_ok {t r : Ref} {m : Bd} (ho : t.okIn na = true) (h : refOf lo m t = some r) (hr : Real S lo na ρ ρ' B B' m) : t.blk ρ' B' = r.blk ρ B ∧ (t.off ρ' = 0 ∨ t.off ρ' = r.off ρ) := by
  unfold refOf at h
  split at h
  · rename_i n
    split at h
    · rename_i hl
      rw [ble_iff] at hl
      split at h
      · rename_i r' hn
        cases h
        exact ⟨hr.o n r hl hn, .inl rfl⟩
      · cases h
    · rename_i hl
      cases h
      exact ⟨hr.blkL n (not_ble hl), .inl rfl⟩
  · rename_i n
    split at h
    · rename_i hl
      rw [ble_iff] at hl
      split at h
      · rename_i k hn
        cases h
        exact ⟨hr.n n k hl hn, .inl rfl⟩
      · rename_i k hn
        cases h
        exact ⟨hr.q n k hl hn, .inl rfl⟩
      · cases h
    · rename_i hl
      cases h
      have hl := not_ble hl
      have := hr.hB (by omega)
      exact ⟨by simp only [Ref.blk]; rw [this, hr.blkL n hl], .inl rfl⟩
  · rename_i n
    split at h
    · cases h
    · rename_i hl
      cases h
      exact ⟨hr.blkL n (not_ble hl), .inr (hr.offL n (not_ble hl))⟩
  · rename_i n1 n2 n3
    cases h
    cases t with
    | old n => exact absurd rfl (n1 n)
    | own n => exact absurd rfl (n2 n)
    | ro n => exact absurd rfl (n3 n)
    | new k => exact ⟨hr.nb k (Nat.le_of_ble_eq_true ho), .inl rfl⟩
    | glob g => exact ⟨rfl, .inl rfl⟩
theorem fitRw_ok : ∀ {ts l rest : List (Ref × Blk)} {m m' : Bd}, rwOk na ts = true → (∀ x ∈ l, segsWf S ρ x.2.segs) → fitRw lo ts l m = some (m', rest) → Real S lo na ρ ρ' B B' m' →
    Real S lo na ρ ρ' B B' m ∧ ((ts.map fun x => x.1.blk ρ' B') ++ rest.map fun x => x.1.blk ρ B).Perm (l.map fun x => x.1.blk ρ B) ∧ (∀ x ∈ rest, x ∈ l) ∧
      ∀ t ∈ ts, ∃ x ∈ l, t.1.blk ρ' B' = x.1.blk ρ B ∧ (t.1.off ρ' = 0 ∨ t.1.off ρ' = x.1.off ρ) ∧ t.2.ty = x.2.ty ∧ segsDen S ρ' B' t.2.segs = segsDen S ρ B x.2.segs ∧ segsWf S ρ' t.2.segs
  | [], l, rest, m, m', _, _, h, hr => by
    simp only [fitRw, Option.some.injEq, Prod.mk.injEq] at h
    obtain ⟨rfl, rfl⟩ := h
    exact ⟨hr, List.Perm.refl _, fun _ h => h, fun _ h => nomatch h⟩
  | (t, b) :: ts, l, rest, m, m', ho, hw, h, hr => by
    simp only [rwOk, List.all_cons, Bool.and_eq_true] at ho
    obtain ⟨⟨o1, o2⟩, o3⟩ := ho
    simp only [fitRw] at h
    split at h
    · rename_i r hrf
      split at h
      · rename_i c hf
        split at h
        · rename_i hty
          have hty := Nat.eq_of_beq_eq_true hty
          split at h
          · rename_i m1 hs
            have hmem := findB_mem hf
            obtain ⟨hr1, p1, s1, q1⟩ := fitRw_ok o3 (fun x hx => hw x (mem_delB hx)) h hr
            obtain ⟨e1, e2, hr0⟩ := fitSegs_ok o2 (hw _ hmem) hs hr1
            obtain ⟨e3, e4⟩ := refOf_ok o1 hrf hr0
            refine ⟨hr0, ?_, fun x hx => mem_delB (s1 x hx), fun u hu => ?_⟩
            · have := (delB_perm hf).map fun x => x.1.blk ρ B
              simp only [List.map_cons] at this
              simp only [List.map_cons, List.cons_append, e3]
              exact (p1.cons _).trans this
            · rcases List.mem_cons.1 hu with rfl | hu
              · exact ⟨(r, c), hmem, e3, e4, hty, e1, e2⟩
              · obtain ⟨x, hx, q⟩ := q1 u hu
                exact ⟨x, mem_delB hx, q⟩
          · cases h
        · cases h
      · cases h
    · cases h
theorem findRO_isSome {l : List (Ref × IntKind × T)} {r : Ref} (h : (findRO l r).isSome = true) : ∃ x ∈ l, x.1 = r := by
  cases hf : findRO l r with
  | none => rw [hf] at h; cases h
  | some b => exact ⟨(r, b), findRO_mem hf, rfl⟩
theorem findB_isSome {l : List (Ref × Blk)} {r : Ref} (h : (findB l r).isSome = true) : ∃ x ∈ l, x.1 = r := by
  cases hf : findB l r with
  | none => rw [hf] at h; cases h
  | some b => exact ⟨(r, b), findB_mem hf, rfl⟩
theorem fitRo_ok {w0 w : World} {h : Hp} {rest : List (Ref × Blk)} (hB : B = w0.heap.size) (hh : HpOk S ρ w0 h w) : ∀ {l : List (Ref × IntKind × T)} {m m' : Bd}, fitRo lo h rest l m = some m' → Real S lo na ρ ρ' B B' m' →
    Real S lo na ρ ρ' B B' m ∧ ∀ t ∈ l, (∀ j v, (t.2.2.A S ρ')[j]? = some v → w.cell? ⟨t.1.blk ρ' B', t.1.off ρ' + j, none⟩ = some (.int t.2.1 v)) ∧
      (((∃ n, t.1 = .ro n ∧ lo ≤ n) ∧ ∃ x ∈ rest, t.1.blk ρ' B' = x.1.blk ρ B) ∨ ∃ x ∈ h.ro, t.1.blk ρ' B' = x.1.blk ρ B)
  | [], m, m', hf, hr => by
    simp only [fitRo, Option.some.injEq] at hf
    subst hf
    exact ⟨hr, fun _ h => nomatch h⟩
  | (r, k, t) :: l, m, m', hf, hr => by
    cases r with
    | ro n =>
      simp only [fitRo] at hf
      split at hf
      · rename_i hl
        rw [ble_iff] at hl
        split at hf
        · rename_i q l1 c1 hlk
          split at hf
          · rename_i k'' a hro
            split at hf
            · rename_i hk
              subst hk
              obtain ⟨hr1, q1⟩ := fitRo_ok hB hh hf hr
              obtain ⟨e1, hr0⟩ := bindA_ok hr1
              obtain ⟨p1, p2⟩ := hr0.p n _ _ _ _ _ hl hlk
              refine ⟨hr0, fun u hu => ?_⟩
              rcases List.mem_cons.1 hu with rfl | hu
              · have hmem := findRO_mem hro
                refine ⟨fun j v hv => ?_, .inr ⟨_, hmem, p1⟩⟩
                have := hh.ro _ hmem j v (by rw [← e1]; exact hv)
                simp only [Ref.blk, Ref.off, p1, p2] at this ⊢
                simpa [T.I] using this
              · exact q1 u hu
            · cases hf
          · cases hf
        · rename_i r' s' d' ln c' hne hlk
          split at hf
          · rename_i c a hrd hso
            obtain ⟨hr1, q1⟩ := fitRo_ok hB hh hf hr
            obtain ⟨n1, n2⟩ := met_append.1 hr1.need
            obtain ⟨e1, hr0⟩ := bindA_ok (S := S) (lo := lo) (na := na) (ρ := ρ) (ρ' := ρ') (B := B) (B' := B') (m := m) (t := t) (x := a) { hr1 with need := n2 }
            obtain ⟨p1, p2⟩ := hr0.p n _ _ _ _ _ hl hlk
            refine ⟨hr0, fun u hu => ?_⟩
            rcases List.mem_cons.1 hu with rfl | hu
            · refine ⟨fun j v hv => ?_, ?_⟩
              · obtain ⟨r2, s2, d2, l2, c2, heq2, g1, g3⟩ := readT_ok hh hrd n1
                cases heq2
                have := g3 j (.int k v) (by rw [← e1, List.getElem?_map, hv]; rfl)
                simp only [addrOf, addr_add] at this
                simp only [Ref.blk, Ref.off, p1, p2]
                rw [hB]
                exact this
              · simp only [Bool.or_eq_true] at hso
                rcases hso with hso | hso
                · obtain ⟨x, hx, e⟩ := findB_isSome hso
                  exact .inl ⟨⟨n, rfl, hl⟩, x, hx, by rw [e]; exact p1⟩
                · obtain ⟨x, hx, e⟩ := findRO_isSome hso
                  exact .inr ⟨x, hx, by rw [e]; exact p1⟩
            · exact q1 u hu
          · cases hf
        · cases hf
      · rename_i hl
        have hl := not_ble hl
        split at hf
        · rename_i k'' a hro
          split at hf
          · rename_i hk
            subst hk
            obtain ⟨hr1, q1⟩ := fitRo_ok hB hh hf hr
            obtain ⟨e1, hr0⟩ := bindA_ok hr1
            refine ⟨hr0, fun u hu => ?_⟩
            rcases List.mem_cons.1 hu with rfl | hu
            · have hmem := findRO_mem hro
              have eb : (Ref.ro n).blk ρ' B' = (Ref.ro n).blk ρ B := hr0.blkL n hl
              have eo : (Ref.ro n).off ρ' = (Ref.ro n).off ρ := hr0.offL n hl
              refine ⟨fun j v hv => ?_, .inr ⟨_, hmem, eb⟩⟩
              have := hh.ro _ hmem j v (by rw [← e1]; exact hv)
              rw [eb, eo, hB]
              exact this
            · exact q1 u hu
          · cases hf
        · cases hf
    | glob g =>
      simp only [fitRo] at hf
      split at hf
      · rename_i k'' a hro
        split at hf
        · rename_i hk
          subst hk
          obtain ⟨hr1, q1⟩ := fitRo_ok hB hh hf hr
          obtain ⟨e1, hr0⟩ := bindA_ok hr1
          refine ⟨hr0, fun u hu => ?_⟩
          rcases List.mem_cons.1 hu with rfl | hu
          · have hmem := findRO_mem hro
            refine ⟨fun j v hv => ?_, .inr ⟨_, hmem, rfl⟩⟩
            exact hh.ro _ hmem j v (by rw [← e1]; exact hv)
          · exact q1 u hu
        · cases hf
      · cases hf
    | _ => simp [fitRo] at hf
/-- The slice that grows: it is the one that there was, or nil. -/
theorem fitOw_ok {o ow : Option OW} {m m' : Bd} (h : fitOw lo o ow m = some m') (hr : Real S lo na ρ ρ' B B' m') : Real S lo na ρ ρ' B B' m ∧
    ∀ t, o = some t → (∃ p, ow = some p ∧ ρ'.v t.v = ρ.v p.v ∧ t.e = p.e ∧ t.k = p.k ∧ t.a.A S ρ' = p.a.A S ρ) ∨ (ρ'.v t.v = .slice none 0 0 ∧ t.a.A S ρ' = []) := by
  unfold fitOw at h
  split at h
  · cases h
    exact ⟨hr, fun _ h => nomatch h⟩
  · rename_i o'
    split at h
    · rename_i hl
      rw [ble_iff] at hl
      split at h
      · rename_i q p hq
        split at h
        · rename_i hc
          simp only [Bool.and_eq_true, decide_eq_true_eq] at hc
          obtain ⟨c1, c2, c3⟩ := hc
          have c1 := Nat.eq_of_beq_eq_true c1
          have c2 := Nat.eq_of_beq_eq_true c2
          cases h
          obtain ⟨e1, hr⟩ := bindA_ok hr
          refine ⟨hr, fun t ht => .inl ⟨p, rfl, ?_, ?_⟩⟩
          · cases ht; rw [hr.v _ _ hl hq, c1]; rfl
          · cases ht; exact ⟨c2, c3, e1⟩
        · cases h
      · rename_i hq
        cases h
        obtain ⟨e1, hr⟩ := bindA_ok hr
        refine ⟨hr, fun t ht => .inr ?_⟩
        cases ht
        exact ⟨by rw [hr.v _ _ hl hq]; rfl, by rw [e1]; rfl⟩
      · cases h
    · rename_i hl
      split at h
      · rename_i p
        split at h
        · rename_i hc
          simp only [Bool.and_eq_true, decide_eq_true_eq] at hc
          obtain ⟨c1, c2, c3⟩ := hc
          have c1 := Nat.eq_of_beq_eq_true c1
          have c2 := Nat.eq_of_beq_eq_true c2
          cases h
          obtain ⟨e1, hr⟩ := bindA_ok hr
          refine ⟨hr, fun t ht => .inl ⟨p, rfl, ?_, ?_⟩⟩
          · cases ht; rw [hr.vL _ (not_ble hl), c1]
          · cases ht; exact ⟨c2, c3, e1⟩
        · cases h
      · cases h
end
end
end Go.Proofs.YtljjbikbfeigdaaGreatDoor
namespace Go.Proofs.YtljjbikbfeigdaaGreatDoor
noncomputable section
open Go
/-- The letters from lo on stand for what they are bound to. -/
def overE (S : Sig) (lo : Nat) (m : Bd) (ρ : Env) (B : Nat) (nbf : Nat → Nat) (loose : List Nat) : Env where
  i n := ((m.ts lo).i n).I S ρ
  b n := ((m.ts lo).b n).B S ρ
  a n := ((m.ts lo).a n).A S ρ
  v n := if lo ≤ n then ((look m.v n).getD .undef).den S ρ B else ρ.v n
  j n := if lo ≤ n then ((look m.j n).getD (.v (.one .undef))).den S ρ B else ρ.j n
  vs n := if lo ≤ n then segsDen S ρ B ((look m.s n).getD []) else ρ.vs n
  blk n := if lo ≤ n then (match look m.r n with
    | some (.o r) => r.blk ρ B
    | some (.n k) => ρ.nb k
    | some (.q k) => ρ.blk k
    | some (.p (.sl r _ _ _ _)) => r.blk ρ B
    | _ => 0) else ρ.blk n
  off n := if lo ≤ n then (match look m.r n with
    | some (.p (.sl r s d _ _)) => r.off ρ + s + (d.I S ρ).toNat
    | _ => 0) else ρ.off n
  nb := nbf
  loose := loose
/-- No block is told to be the call's own. -/
def Bd.noNew (m : Bd) : Bool := m.r.all fun x => match x.2 with | .n _ => false | .q _ => false | _ => true
section
variable {S : Sig} {lo na : Nat} {ρ : Env} {B B' : Nat} {m : Bd}
theorem normI_I (x : T) : (normI x).I S ρ = x.I S ρ ∧ (normI x).sort = 0 := by
  unfold normI
  split
  · rename_i h; exact ⟨rfl, Nat.eq_of_beq_eq_true h⟩
  · rename_i h
    refine ⟨?_, rfl⟩
    have := (T.sort_den (t := x) (S := S) (ρ := ρ)).1 fun e => h (by rw [e]; rfl)
    rw [this]; rfl
theorem normB_B (x : T) : (normB x).B S ρ = x.B S ρ ∧ (normB x).sort = 1 := by
  unfold normB
  split
  · rename_i h; exact ⟨rfl, Nat.eq_of_beq_eq_true h⟩
  · rename_i h
    refine ⟨?_, rfl⟩
    have := (T.sort_den (t := x) (S := S) (ρ := ρ)).2.1 fun e => h (by rw [e]; rfl)
    rw [this]; rfl
theorem normA_A (x : T) : (normA x).A S ρ = x.A S ρ ∧ (normA x).sort = 2 := by
  unfold normA
  split
  · rename_i h; exact ⟨rfl, Nat.eq_of_beq_eq_true h⟩
  · rename_i h
    refine ⟨?_, rfl⟩
    have := (T.sort_den (t := x) (S := S) (ρ := ρ)).2.2 fun e => h (by rw [e]; rfl)
    rw [this]; rfl
theorem ts_ok (lo : Nat) (m : Bd) (ρ : Env) (B : Nat) (nbf : Nat → Nat) (loose : List Nat) : (m.ts lo).Ok S ρ (overE S lo m ρ B nbf loose) := by
  refine ⟨fun n => ⟨rfl, ?_⟩, fun n => ⟨rfl, ?_⟩, fun n => ⟨rfl, ?_⟩⟩ <;> simp only [Bd.ts]
  · split
    · exact (normI_I (S := S) (ρ := ρ) _).2
    · rfl
  · split
    · exact (normB_B (S := S) (ρ := ρ) _).2
    · rfl
  · split
    · exact (normA_A (S := S) (ρ := ρ) _).2
    · rfl
theorem eqT_ok {t x : T} (h : (eqT t x).B S ρ = true) : t.I S ρ = x.I S ρ := by
  unfold eqT at h
  split at h
  · rename_i hs; rw [T.same_spec hs]
  · rw [mkEq_B] at h; exact of_decide_eq_true h
theorem beqT_ok {t x : T} (h : (beqT t x).B S ρ = true) : t.B S ρ = x.B S ρ := by
  unfold beqT at h
  split at h
  · rename_i hs; rw [T.same_spec hs]
  · rw [mkBeq_B] at h; simpa using h
theorem aeqT_ok {t x : T} (h : (aeqT t x).B S ρ = true) : t.A S ρ = x.A S ρ := by
  unfold aeqT at h
  split at h
  · rename_i hs; rw [T.same_spec hs]
  · simp only [T.B] at h; exact of_decide_eq_true h
theorem over_real {nbf : Nat → Nat} {loose : List Nat} (hm : Met S ρ (m.needs lo)) (hnb : ∀ k, k < na → B' + nbf k = B + ρ.nb k) (hB : 0 < lo → B' = B) (hn : B' = B ∨ m.noNew = true) :
    Real S lo na ρ (overE S lo m ρ B nbf loose) B B' m := by
  have hts := ts_ok (S := S) lo m ρ B nbf loose
  unfold Bd.needs at hm
  obtain ⟨m1, m2⟩ := met_append.1 hm
  obtain ⟨m2, m3⟩ := met_append.1 m2
  obtain ⟨m3, m4⟩ := met_append.1 m3
  have m2 := met_needs m2
  have m3 := met_needs m3
  have m4 := met_needs m4
  have hno : ∀ n x, look m.r n = some x → ((∃ k, x = .n k) ∨ ∃ k, x = .q k) → B' = B := by
    intro n x hx hk
    rcases hn with hn | hn
    · exact hn
    · exfalso
      unfold Bd.noNew at hn
      rw [List.all_eq_true] at hn
      have : ∀ {l : List (Nat × RB)}, look l n = some x → ∃ k, (k, x) ∈ l := by
        intro l
        induction l with
        | nil => intro h; simp [look] at h
        | cons y l ih =>
          intro h
          unfold look at h
          split at h
          · cases h; exact ⟨_, List.mem_cons_self ..⟩
          · obtain ⟨k, hk⟩ := ih h; exact ⟨k, List.mem_cons_of_mem _ hk⟩
      obtain ⟨k, hk'⟩ := this hx
      have := hn _ hk'
      rcases hk with ⟨k, rfl⟩ | ⟨k, rfl⟩ <;> simp at this
  refine ⟨?_, ?_, ?_, ?_, ?_, ?_, ?_, ?_, ?_, ?_, ?_, ?_, ?_, ?_, ?_, hnb, hB, ?_, ?_, ?_, m1⟩
  · intro n x hl hx
    simp only [overE, Bd.ts, ble_iff.2 hl, if_true, hx, Option.getD_some, (normI_I (S := S) (ρ := ρ) x).1]
  · intro n x hl hx
    simp only [overE, Bd.ts, ble_iff.2 hl, if_true, hx, Option.getD_some, (normB_B (S := S) (ρ := ρ) x).1]
  · intro n x hl hx
    simp only [overE, Bd.ts, ble_iff.2 hl, if_true, hx, Option.getD_some, (normA_A (S := S) (ρ := ρ) x).1]
  · intro n x hl hx
    simp only [overE, if_pos hl, hx, Option.getD_some]
  · intro n x hl hx
    simp only [overE, if_pos hl, hx, Option.getD_some]
  · intro n x hl hx
    simp only [overE, if_pos hl, hx, Option.getD_some]
  · intro n x hl hx
    simp only [overE, if_pos hl, hx]
  · intro n x hl hx
    simp only [overE, if_pos hl, hx]
    rw [hno n _ hx (.inl ⟨_, rfl⟩)]
  · intro n x hl hx
    simp only [overE, if_pos hl, hx]
    rw [hno n _ hx (.inr ⟨_, rfl⟩)]
  · intro n r s d l c hl hx
    simp only [overE, if_pos hl, hx, and_self]
  · intro n hl; simp only [overE]; rw [if_neg (by omega)]
  · intro n hl; simp only [overE]; rw [if_neg (by omega)]
  · intro n hl; simp only [overE]; rw [if_neg (by omega)]
  · intro n hl; simp only [overE]; rw [if_neg (by omega)]
  · intro n hl; simp only [overE]; rw [if_neg (by omega)]
  · intro p hp
    have := eqT_ok (m2 _ (List.mem_map.2 ⟨p, hp, rfl⟩))
    rw [← this, (T.put_den hts p.1).1]
  · intro p hp
    have := beqT_ok (m3 _ (List.mem_map.2 ⟨p, hp, rfl⟩))
    rw [← this, (T.put_den hts p.1).2.1]
  · intro p hp
    have := aeqT_ok (m4 _ (List.mem_map.2 ⟨p, hp, rfl⟩))
    rw [← this, (T.put_den hts p.1).2.2]
theorem over_agree {nbf : Nat → Nat} {loose : List Nat} (hnb : ∀ k, k < na → nbf k = ρ.nb k) (hlo : loose = ρ.loose) : Agree2 lo na ρ (overE S lo m ρ B nbf loose) := by
  refine ⟨?_, ?_, ?_, ?_, ?_, ?_, ?_, ?_, hnb, hlo⟩ <;> intro k hk
  · simp only [overE, Bd.ts]; rw [if_neg (by rw [ble_iff]; omega)]; simp only [T.I]
  · simp only [overE, Bd.ts]; rw [if_neg (by rw [ble_iff]; omega)]; simp only [T.B]
  · simp only [overE, Bd.ts]; rw [if_neg (by rw [ble_iff]; omega)]; simp only [T.A]
  all_goals (simp only [overE]; rw [if_neg (by omega)])
/-- The parts of a fit. -/
theorem fits_parts {t : List SR} {th : Hp} {x : List SR} {h : Hp} {rest : List (Ref × Blk)} {ρ' : Env} {w0 w : World} (hf : fits lo t th x h = some (m, rest)) (hB : B = w0.heap.size) (hr : Real S lo na ρ ρ' B B' m) (hh : HpOk S ρ w0 h w) (hw : ∀ y ∈ x, y.wf S ρ)
    (ht : t.all (SR.okIn na) = true) (hrw : rwOk na th.rw = true) :
    t.map (SR.den S ρ' B') = x.map (SR.den S ρ B) ∧ (∀ y ∈ t, y.wf S ρ') ∧
    (((th.rw.map fun x => x.1.blk ρ' B') ++ rest.map fun x => x.1.blk ρ B).Perm (h.rw.map fun x => x.1.blk ρ B) ∧ (∀ x ∈ rest, x ∈ h.rw) ∧
      ∀ t ∈ th.rw, ∃ x ∈ h.rw, t.1.blk ρ' B' = x.1.blk ρ B ∧ (t.1.off ρ' = 0 ∨ t.1.off ρ' = x.1.off ρ) ∧ t.2.ty = x.2.ty ∧ segsDen S ρ' B' t.2.segs = segsDen S ρ B x.2.segs ∧ segsWf S ρ' t.2.segs) ∧
    (∀ t ∈ th.ro, (∀ j v, (t.2.2.A S ρ')[j]? = some v → w.cell? ⟨t.1.blk ρ' B', t.1.off ρ' + j, none⟩ = some (.int t.2.1 v)) ∧
      (((∃ n, t.1 = .ro n ∧ lo ≤ n) ∧ ∃ x ∈ rest, t.1.blk ρ' B' = x.1.blk ρ B) ∨ ∃ x ∈ h.ro, t.1.blk ρ' B' = x.1.blk ρ B)) ∧
    ∀ o, th.ow = some o → (∃ p, h.ow = some p ∧ ρ'.v o.v = ρ.v p.v ∧ o.e = p.e ∧ o.k = p.k ∧ o.a.A S ρ' = p.a.A S ρ) ∨ (ρ'.v o.v = .slice none 0 0 ∧ o.a.A S ρ' = []) := by
  unfold fits at hf
  split at hf
  · rename_i m1 h1
    split at hf
    · rename_i m2 rest' h2
      split at hf
      · rename_i m3 h3
        split at hf
        · rename_i m4 h4
          cases hf
          obtain ⟨hr, q4⟩ := fitOw_ok h4 hr
          obtain ⟨hr, q3⟩ := fitRo_ok hB hh h3 hr
          obtain ⟨hr, q2⟩ := fitRw_ok hrw (fun x hx => hh.wf x hx) h2 hr
          obtain ⟨q0, q1, _⟩ := fitSRs_ok ht hw h1 hr
          exact ⟨q0, q1, q2, q3, q4⟩
        · cases hf
      · cases hf
    · cases hf
  · cases hf
theorem isNew_ge {r : Ref} (h : r.isNew = true) : B ≤ r.blk ρ B := by
  cases r <;> first | (cases h; done) | (simp only [Ref.blk]; omega)
theorem perm_cover {a b c : List Nat} (h : (a ++ b).Perm c) {i : Nat} (hi : i ∈ c) : i ∈ a ∨ i ∈ b := List.mem_append.1 (h.mem_iff.2 hi)
theorem perm_apart {a b c : List Nat} (h : (a ++ b).Perm c) (hn : c.Nodup) : a.Nodup ∧ ∀ x ∈ a, ∀ y ∈ b, x ≠ y := by
  have := h.nodup_iff.2 hn
  rw [List.nodup_append] at this
  exact ⟨this.1, fun x hx y hy => this.2.2 x hx y hy⟩
/-- In the same call: the state is the template's, for letters that suit. 'quiet': no block is new. -/
theorem fits_same {t : List SR} {th : Hp} {x : List SR} {h : Hp} {rest : List (Ref × Blk)} {w0 w : World} (hf : fits lo t th x h = some (m, rest)) (hm : Met S ρ (m.needs lo)) (hh : HpOk S ρ w0 h w) (hw : ∀ y ∈ x, y.wf S ρ)
    (ht : t.all (SR.okIn th.na) = true) (hrw : rwOk th.na th.rw = true) (hro : ∀ t ∈ th.ro, (∃ n, t.1 = .ro n ∧ n < lo) ∨ ∃ g, t.1 = .glob g) (hna : th.na ≤ h.na) (hrest : rest.all (fun x => x.1.isNew) = true) (quiet : Bool) (hq : quiet = true → th.na = h.na) :
    ∃ ρ', Agree2 lo (if quiet then th.na + 1000000000 else th.na) ρ ρ' ∧ (m.ts lo).Ok S ρ ρ' ∧ t.map (SR.den S ρ' w0.heap.size) = x.map (SR.den S ρ w0.heap.size) ∧ (∀ y ∈ t, y.wf S ρ') ∧ HpOk S ρ' w0 th w := by
  have hnb : ∀ k, k < (if quiet then th.na + 1000000000 else th.na) → (if quiet then ρ.nb k else if k < th.na then ρ.nb k else (w.heap.size - w0.heap.size) + (k - th.na)) = ρ.nb k := by
    intro k hk
    cases quiet with
    | true => rfl
    | false => simp only [Bool.false_eq_true, if_false] at hk ⊢; rw [if_pos hk]
  have hge : w0.heap.size ≤ w.heap.size := by have := hh.size; omega
  generalize hρ' : overE S lo m ρ w0.heap.size (fun k => if quiet then ρ.nb k else if k < th.na then ρ.nb k else (w.heap.size - w0.heap.size) + (k - th.na)) ρ.loose = ρ'
  have hA : Agree2 lo (if quiet then th.na + 1000000000 else th.na) ρ ρ' := by subst hρ'; exact over_agree hnb rfl
  have hts : (m.ts lo).Ok S ρ ρ' := by subst hρ'; exact ts_ok _ _ _ _ _ _
  have hnb' : ∀ k, ρ'.nb k = if quiet then ρ.nb k else if k < th.na then ρ.nb k else (w.heap.size - w0.heap.size) + (k - th.na) := by subst hρ'; intro k; rfl
  have hlo : ρ'.loose = ρ.loose := by subst hρ'; rfl
  have hr : Real S lo th.na ρ ρ' w0.heap.size w0.heap.size m := by
    subst hρ'
    refine over_real hm (fun k hk => ?_) (fun _ => rfl) (.inl rfl)
    show _ + (if quiet then ρ.nb k else if k < th.na then ρ.nb k else (w.heap.size - w0.heap.size) + (k - th.na)) = _
    rw [hnb k (by split <;> omega)]
  obtain ⟨q0, q1, ⟨p1, p2, p3⟩, q3, q4⟩ := fits_parts (na := th.na) hf rfl hr hh hw ht hrw
  obtain ⟨a1, a2⟩ := perm_apart p1 hh.nd
  rw [List.all_eq_true] at hrest
  have hroh : ∀ t ∈ th.ro, ∃ x ∈ h.ro, t.1.blk ρ' w0.heap.size = x.1.blk ρ w0.heap.size := by
    intro t ht
    rcases (q3 t ht).2 with ⟨⟨n, hn, hl⟩, _⟩ | hx
    · rcases hro t ht with ⟨n', hn', hl'⟩ | ⟨g, hg⟩
      · rw [hn] at hn'
        cases hn'
        omega
      · rw [hn] at hg; cases hg
    · exact hx
  refine ⟨ρ', hA, hts, q0, q1, ?_, ?_, ?_, a1, fun t ht => (q3 t ht).1, ?_, ?_, ?_, ?_, ?_, ?_, hh.os, hh.tape, hh.output⟩
  · intro t ht
    obtain ⟨y, hy, e1, _, e3, e4, _⟩ := p3 t ht
    rw [e1, hh.rw_ y hy, e3, e4]
  · intro t ht
    obtain ⟨y, hy, _, _, _, _, e5⟩ := p3 t ht
    exact e5
  · intro t ht
    obtain ⟨y, hy, _, e2, _⟩ := p3 t ht
    rcases e2 with e2 | e2
    · exact e2
    · rw [e2]; exact hh.off y hy
  · intro t ht y hy
    obtain ⟨x1, hx1, e1⟩ := hroh t ht
    obtain ⟨x2, hx2, e2, _⟩ := p3 y hy
    rw [e1, e2]; exact hh.apart x1 hx1 x2 hx2
  · intro t ht
    obtain ⟨x1, hx1, e1⟩ := hroh t ht
    rw [e1]; exact hh.rolt x1 hx1
  · rw [hnb']
    cases quiet with
    | true => rw [if_pos rfl, hq rfl]; exact hh.size
    | false => simp only [Bool.false_eq_true, if_false, Nat.lt_irrefl]; omega
  · intro k hk
    rw [hnb', hnb']
    cases quiet with
    | true => simp only [if_true]; exact hh.nbs k (by rw [← hq rfl]; exact hk)
    | false =>
      simp only [Bool.false_eq_true, if_false]
      rw [if_neg (by omega), if_neg (by omega)]; omega
  · intro i hi hil hne
    refine hh.frame i hi (by rw [hlo] at hil; exact hil) fun y hy e => ?_
    rcases perm_cover p1 (List.mem_map.2 ⟨y, hy, rfl⟩) with hc | hc
    · obtain ⟨t, ht, e'⟩ := List.mem_map.1 hc
      exact hne t ht (e'.trans e)
    · obtain ⟨z, hz, e'⟩ := List.mem_map.1 hc
      have := isNew_ge (ρ := ρ) (B := w0.heap.size) (hrest z hz)
      omega
  · intro o ho
    rcases q4 o ho with ⟨p, hp, v1, v2, v3, v4⟩ | ⟨v1, v2⟩
    · rcases hh.own p hp with ⟨u1, u2⟩ | ⟨b, cap, u1, u2, u3, u4, u5, u6⟩
      · exact .inl ⟨by rw [v1, u1], by rw [v4, u2]⟩
      · refine .inr ⟨b, cap, by rw [v1, v4]; exact u1, by rw [v4]; exact u2, by rw [v4, v2, v3]; exact u3, by rw [hlo]; exact u4, fun y hy => ?_, fun t ht => ?_⟩
        · obtain ⟨x2, hx2, e2, _⟩ := p3 y hy
          rw [e2]; exact u5 x2 hx2
        · obtain ⟨x1, hx1, e1⟩ := hroh t ht
          rw [e1]; exact u6 x1 hx1
    · exact .inl ⟨v1, v2⟩
end
end
end Go.Proofs.YtljjbikbfeigdaaGreatDoor
