/- Part of the proof of FnGrayCoefficientsCardSaid: A region that draws its order: every order comes to the end that the order of the text comes to. -/
import Derived.Test.YtljjbikbfeigdaaGreatDoorGc04
import Derived.Laws.AppendOwn
set_option linter.all false
namespace Go.Proofs.YtljjbikbfeigdaaGreatDoor
noncomputable section
open Go
def effsFrom (m : Nat) (es : List Ent) : List Nat := (es.zipIdx m).filterMap fun (e, i) => if isEff e then some i else none
/-- Each entry goes on from the memory that the one before it left. -/
def Chain : Hp → List Ent → Hp → Prop
  | h, [], hl => h = hl
  | h, e :: es, hl => e.heap = h ∧ (isEff e = false → e.r.heap = h) ∧ Chain e.r.heap es hl
theorem chain_heaps : ∀ {es : List Ent} {h hl : Hp} (m : Nat), Chain h es hl →
    (∀ k j, (effsFrom m es)[k]? = some j → ∃ e, es[j - m]? = some e ∧ m ≤ j ∧ isEff e = true ∧ (heapsOf h es)[k]? = some e.heap ∧ (heapsOf h es)[k + 1]? = some e.r.heap) ∧
    (heapsOf h es)[(effsFrom m es).length]? = some hl ∧ (heapsOf h es).length = (effsFrom m es).length + 1
  | [], h, hl, m, hc => by
    simp only [Chain] at hc
    subst hc
    exact ⟨fun k j hk => by simp [effsFrom] at hk, rfl, rfl⟩
  | e :: es, h, hl, m, hc => by
    obtain ⟨h1, h2, h3⟩ := hc
    obtain ⟨i1, i2, i3⟩ := chain_heaps (m + 1) h3
    by_cases he : isEff e = true
    · have e1 : effsFrom m (e :: es) = m :: effsFrom (m + 1) es := by simp [effsFrom, he]
      have e2 : heapsOf h (e :: es) = h :: heapsOf e.r.heap es := by simp [heapsOf, he]
      rw [e1, e2]
      refine ⟨fun k j hk => ?_, by simpa using i2, by simp [i3]⟩
      cases k with
      | zero =>
        simp only [List.getElem?_cons_zero, Option.some.injEq] at hk
        subst hk
        exact ⟨e, by simp, Nat.le_refl _, he, by simp [h1], by simp [heapsOf]⟩
      | succ k =>
        obtain ⟨e', q1, q2, q3, q4, q5⟩ := i1 k j (by simpa using hk)
        refine ⟨e', ?_, by omega, q3, by simpa using q4, by simpa using q5⟩
        rw [show j - m = (j - (m + 1)) + 1 from by omega, List.getElem?_cons_succ]; exact q1
    · have he : isEff e = false := by simpa using he
      have e1 : effsFrom m (e :: es) = effsFrom (m + 1) es := by simp [effsFrom, he]
      have e2 : heapsOf h (e :: es) = heapsOf e.r.heap es := by rw [h2 he]; simp [heapsOf, he]
      rw [e1, e2]
      refine ⟨fun k j hk => ?_, i2, i3⟩
      obtain ⟨e', q1, q2, q3, q4, q5⟩ := i1 k j hk
      refine ⟨e', ?_, by omega, q3, q4, q5⟩
      rw [show j - m = (j - (m + 1)) + 1 from by omega, List.getElem?_cons_succ]; exact q1
theorem filter_le_of_take {α : Type} (p : α → Bool) (l : List α) (t : Nat) (h : ∀ k x, l[k]? = some x → p x = true → k < t) : (l.filter p).length ≤ t := by
  have : (l.drop t).filter p = [] := by
    rw [List.filter_eq_nil_iff]
    intro x hx hp
    obtain ⟨k, hk⟩ := List.getElem?_of_mem hx
    rw [List.getElem?_drop] at hk
    have := h _ x hk hp
    omega
  have e : l.filter p = (l.take t).filter p := by
    conv => lhs; rw [← List.take_append_drop t l]
    rw [List.filter_append, this, List.append_nil]
  rw [e]
  exact Nat.le_trans (List.length_filter_le _ _) (List.length_take_le _ _)
theorem le_filter_of_take {α : Type} (p : α → Bool) (l : List α) (t : Nat) (ht : t ≤ l.length) (h : ∀ k x, l[k]? = some x → k < t → p x = true) : t ≤ (l.filter p).length := by
  have e : (l.take t).filter p = l.take t := by
    rw [List.filter_eq_self]
    intro x hx
    obtain ⟨k, hk⟩ := List.getElem?_of_mem hx
    rw [List.getElem?_take] at hk
    split at hk
    · rename_i hlt; exact h k x hk hlt
    · cases hk
  conv => rhs; rw [← List.take_append_drop t l]
  rw [List.filter_append, List.length_append, e, List.length_take]
  omega
section
variable {S : Sig} {ρ : Env} {w0 : World} {P : Program} {specs : Nat → Option Spec}
def pairsOf (S : Sig) (ρ : Env) (B : Nat) (es : List Ent) : List (Option Tmp × Value) := es.map fun e => (e.o.dst, e.r.val.den S ρ B)
theorem pairs_get {B : Nat} {es : List Ent} {i : Nat} {e : Ent} (h : es[i]? = some e) : (pairsOf S ρ B es)[i]? = some (e.o.dst, e.r.val.den S ρ B) := by simp [pairsOf, h]
theorem pairs_back {B : Nat} {es : List Ent} {i : Nat} {p : Option Tmp × Value} (h : (pairsOf S ρ B es)[i]? = some p) : ∃ e, es[i]? = some e ∧ p = (e.o.dst, e.r.val.den S ρ B) := by
  simp only [pairsOf, List.getElem?_map, Option.map_eq_some_iff] at h
  obtain ⟨e, h1, h2⟩ := h
  exact ⟨e, h1, h2.symm⟩
/-- What the symbolic walk of a region in the order of the text has shown. -/
structure Shown (P : Program) (specs : Nat → Option Spec) (S : Sig) (ρ : Env) (B : Nat) (h0 : Hp) (es : List Ent) (init : List Value) (hl : Hp) : Prop where
  fr : ∀ (j : Nat) (e : Ent), es[j]? = some e → e.fr.map (SR.den S ρ B) = frameD (fun i => decide (i < j)) 0 (pairsOf S ρ B es) init
  want : ∀ (j : Nat) (e : Ent), es[j]? = some e → Region.wanted e.o (yielded (es.map (·.o)).toArray (frameD (fun i => decide (i < j)) 0 (pairsOf S ρ B es) init).toArray) = e.want
  st : ∀ (j : Nat) (e : Ent), es[j]? = some e → e.want = true → step P specs (getSR e.fr) e.heap e.o = some e.r ∧ Met S ρ e.r.need ∧ ∀ x ∈ e.fr, x.wf S ρ
  no : ∀ (j : Nat) (e : Ent), es[j]? = some e → e.want = false → e.r.val = .v (.one .undef) ∧ e.r.need = []
  chain : Chain h0 es hl
theorem wanted_same {ops : Array Oper} {o : Oper} {l m : Array Value} (h : ∀ g b, o.guard = some (g, b) → ∀ d, (ops[g]?).bind (·.dst) = some d → l[d]? = m[d]?) : Region.wanted o (yielded ops l) = Region.wanted o (yielded ops m) := by
  unfold Region.wanted
  cases hg : o.guard with
  | none => rfl
  | some gb =>
    obtain ⟨g, b⟩ := gb
    simp only
    congr 1
    unfold yielded
    cases hd : (ops[g]?).bind (·.dst) with
    | none => rfl
    | some d => simp only [Option.bind_some]; rw [h g b hg d hd]
/-- The state in the midst of a region, the operations listed having been carried out. -/
structure Mid (S : Sig) (ρ : Env) (w0 : World) (h0 : Hp) (es : List Ent) (init : List Value) (listed : Array Bool) (a : Act) (w : World) : Prop where
  size : listed.size = es.length
  closed : Closed (es.map (·.o)) (fun i => listed.getD i false)
  fr : a.tmps.toList = frameD (fun i => listed.getD i false) 0 (pairsOf S ρ w0.heap.size es) init
  defers : a.defers = []
  heap : ∃ t h, t ≤ (effsFrom 0 es).length ∧ (∀ k i, (effsFrom 0 es)[k]? = some i → (listed.getD i false = true ↔ k < t)) ∧ (heapsOf h0 es)[t]? = some h ∧ HpOk S ρ w0 h w
theorem getD_set (l : Array Bool) (i j : Nat) (hi : i < l.size) : (l.setIfInBounds i true).getD j false = if j = i then true else l.getD j false := by
  simp only [Array.getD_eq_getD_getElem?, Array.getElem?_setIfInBounds]
  by_cases h : i = j
  · subst h; simp [hi]
  · rw [if_neg h, if_neg (fun e => h e.symm)]
theorem getD_tf (l : Array Bool) (i : Nat) (hi : i < l.size) : l.getD i true = l.getD i false := by
  simp [Array.getD_eq_getD_getElem?, hi]
theorem ready_spec {ops : Array Oper} {listed : Array Bool} {i : Nat} (h : i ∈ Region.ready .any ops listed) : i < ops.size ∧ listed.getD i true = false ∧ ∀ o, ops[i]? = some o → ∀ e ∈ o.after.toList, bindsAny e = true → listed.getD e.on false = true := by
  unfold Region.ready at h
  rw [List.mem_filter] at h
  obtain ⟨h1, h2⟩ := h
  simp only [Bool.and_eq_true, Bool.not_eq_true'] at h2
  obtain ⟨h2, h3⟩ := h2
  refine ⟨List.mem_range.1 h1, h2, fun o ho e he hb => ?_⟩
  simp only [ho, Option.map_some, Option.getD_some] at h3
  rw [Array.all_eq_true_iff_forall_mem] at h3
  have := h3 e (by simpa using he)
  unfold bindsAny at hb
  simpa [hb] using this
theorem ready_of {ops : Array Oper} {listed : Array Bool} {i : Nat} {o : Oper} (hi : ops[i]? = some o) (h2 : listed.getD i true = false) (h3 : ∀ e ∈ o.after.toList, bindsAny e = true → listed.getD e.on false = true) : i ∈ Region.ready .any ops listed := by
  unfold Region.ready
  rw [List.mem_filter]
  refine ⟨List.mem_range.2 (Array.getElem?_eq_some_iff.1 hi).1, ?_⟩
  simp only [h2, Bool.not_false, Bool.true_and, hi, Option.map_some, Option.getD_some]
  rw [Array.all_eq_true_iff_forall_mem]
  intro e he
  cases hb : Region.binds .any e with
  | false => simp
  | true => simp [h3 e (by simpa using he) hb]
theorem all_listed {ops : List Oper} {listed : Array Bool} (hs : listed.size = ops.length) (hb : backEdges ops = true) (hr : Region.ready .any ops.toArray listed = []) : ∀ i, i < ops.length → listed.getD i false = true := by
  intro i
  induction i using Nat.strongRecOn with
  | _ i ih =>
    intro hi
    cases hl : listed.getD i false with
    | true => rfl
    | false =>
      exfalso
      have ho : ops[i]? = some ops[i] := List.getElem?_eq_getElem hi
      have : i ∈ Region.ready .any ops.toArray listed := by
        refine ready_of (o := ops[i]) (by simp [ho]) (by rw [getD_tf _ _ (by omega)]; exact hl) (fun e he hbe => ?_)
        have hlt : e.on < i := by
          unfold backEdges at hb
          rw [List.all_eq_true] at hb
          have := hb (ops[i], i) (List.mem_zipIdx_iff_getElem?.2 ho)
          rw [List.all_eq_true] at this
          have := this e he
          simp only [hbe, Bool.not_true, Bool.false_or, decide_eq_true_eq] at this
          exact this
        exact ih e.on hlt (by omega)
      rw [hr] at this
      cases this
end
end
end Go.Proofs.YtljjbikbfeigdaaGreatDoor
namespace Go.Proofs.YtljjbikbfeigdaaGreatDoor
noncomputable section
open Go
section
variable {S : Sig} {ρ : Env} {w0 : World} {P : Program} {specs : Nat → Option Spec}
theorem effs_eq (es : List Ent) : (es.zipIdx.filterMap fun (e, i) => if isEff e then some i else none) = effsFrom 0 es := rfl
theorem ordered_pair {ops : List Oper} {ms : List Nat} (h : tmpsOrdered ops ms = true) {i j : Nat} {w o : Oper} {d : Tmp} (hi : ops[i]? = some w) (hj : ops[j]? = some o) (hd : w.dst = some d) (hne : i ≠ j)
    (hl : d ∈ looks ops o ∨ o.dst = some d) : if i < j then (ms.getD j 0).testBit i = true else (ms.getD i 0).testBit j = true := by
  unfold tmpsOrdered at h
  rw [List.all_eq_true] at h
  have h1 := h (w, i) (List.mem_zipIdx_iff_getElem?.2 hi)
  simp only [hd] at h1
  rw [List.all_eq_true] at h1
  have h2 := h1 (o, j) (List.mem_zipIdx_iff_getElem?.2 hj)
  have hc : ((looks ops o).contains d || o.dst == some d) = true := by
    rcases hl with hl | hl
    · simp [hl]
    · simp [hl]
  have hij : (i == j) = false := by simpa using hne
  simp only [hij, hc, Bool.not_true, Bool.or_false, Bool.false_or] at h2
  split at h2 <;> rename_i hlt
  · rw [if_pos hlt]; exact h2
  · rw [if_neg hlt]; exact h2
theorem chain_none : ∀ {es : List Ent} {h hl : Hp} (m : Nat), Chain h es hl → effsFrom m es = [] → hl = h ∧ ∀ (i : Nat) (e : Ent), es[i]? = some e → e.heap = h ∧ e.r.heap = h
  | [], h, hl, m, hc, _ => ⟨hc.symm, fun i e hi => by simp at hi⟩
  | e :: es, h, hl, m, hc, he => by
    obtain ⟨h1, h2, h3⟩ := hc
    have hne : isEff e = false := by
      cases hb : isEff e with
      | false => rfl
      | true => simp [effsFrom, hb] at he
    have he' : effsFrom (m + 1) es = [] := by simpa [effsFrom, hne] using he
    rw [h2 hne] at h3
    obtain ⟨i1, i2⟩ := chain_none (m + 1) h3 he'
    refine ⟨i1, fun i e' hi => ?_⟩
    cases i with
    | zero => simp at hi; subst hi; exact ⟨h1, h2 hne⟩
    | succ i => exact i2 i e' (by simpa using hi)
theorem Shown.met {B : Nat} {h0 : Hp} {es : List Ent} {init : List Value} {hl : Hp} (sh : Shown P specs S ρ B h0 es init hl) : Met S ρ (es.flatMap (·.r.need)) := by
  intro x hx
  rw [List.mem_flatMap] at hx
  obtain ⟨e', he', hxe⟩ := hx
  obtain ⟨j, hj⟩ := List.getElem?_of_mem he'
  cases hwj : e'.want with
  | true => exact (sh.st j e' hj hwj).2.1 x hxe
  | false => rw [(sh.no j e' hj hwj).2] at hxe; cases hxe
/-- One operation that is ready is carried out. -/
theorem mid_step' (hsp : ∀ f s, specs f = some s → SpecOk P S f s) {h0 : Hp} {es : List Ent} {init : List Value} {hl : Hp} (hst : staticOk (es.map (·.o)) = true) (hok : effsFrom 0 es = [] ∨ okStill P specs h0 es = true) (hchain : Chain h0 es hl)
    (hneed : Met S ρ (es.flatMap (·.r.need))) {i : Nat} {e : Ent} (hei : es[i]? = some e)
    (ffr : e.fr.map (SR.den S ρ w0.heap.size) = frameD (fun j => decide (j < i)) 0 (pairsOf S ρ w0.heap.size es) init)
    (fwant : Region.wanted e.o (yielded (es.map (·.o)).toArray (frameD (fun j => decide (j < i)) 0 (pairsOf S ρ w0.heap.size es) init).toArray) = e.want)
    (fst : e.want = true → step P specs (getSR e.fr) e.heap e.o = some e.r ∧ Met S ρ e.r.need ∧ ∀ x ∈ e.fr, x.wf S ρ) (fno : e.want = false → e.r.val = .v (.one .undef) ∧ e.r.need = [])
    {listed : Array Bool} {a : Act} {w : World} (he : isEff e = true → ∀ j ∈ effsFrom 0 es, j < i → ((masks (es.map (·.o))).getD i 0).testBit j = true ∨ listed.getD j false = true)
    (hm : Mid S ρ w0 h0 es init listed a w) (hi : i ∈ Region.ready .any (es.map (·.o)).toArray listed) {K : Act → World → Prop} {Q : Exit → Act → World → Prop}
    (hK : ∀ a' w', Mid S ρ w0 h0 es init (listed.setIfInBounds i true) a' w' → K a' w') : wpOp P (es.map (·.o)).toArray Q i K a w := by
  unfold staticOk at hst
  simp only [Bool.and_eq_true] at hst
  obtain ⟨hb, ht⟩ := hst
  unfold okStill at hok
  simp only [Bool.or_eq_true, Bool.and_eq_true] at hok
  obtain ⟨r1, r2, r3⟩ := ready_spec hi
  have r1' : i < es.length := by simpa using r1
  have hil : i < listed.size := by rw [hm.size]; exact r1'
  rw [getD_tf _ _ hil] at r2
  have hoi : (es.map (·.o))[i]? = some e.o := by simp [hei]
  have hoa : (es.map (·.o)).toArray[i]? = some e.o := by simpa using hoi
  have hpre := r3 e.o hoa
  have hmask := closed_mask hb hm.closed i e.o hoi hpre
  -- what the frame holds of what the operation looks at
  have hlook : ∀ d, d ∈ looks (es.map (·.o)) e.o → (frameD (fun i => listed.getD i false) 0 (pairsOf S ρ w0.heap.size es) init)[d]? = (frameD (fun j => decide (j < i)) 0 (pairsOf S ρ w0.heap.size es) init)[d]? := by
    intro d hd
    apply frameD_look _ _ _ _ rfl rfl
    intro j p hj hpd
    obtain ⟨e', hj', rfl⟩ := pairs_back hj
    simp only [Nat.zero_add] at hpd ⊢
    have hoj : (es.map (·.o))[j]? = some e'.o := by simp [hj']
    by_cases hij : j = i
    · subst hij
      simp [r2]
    · have hord := ordered_pair ht hoj hoi hpd hij (.inl hd)
      split at hord
      · rename_i hlt
        rw [hmask j hord]; simp [hlt]
      · rename_i hlt
        have hnl : listed.getD j false = false := by
          cases hl : listed.getD j false with
          | false => rfl
          | true =>
            exfalso
            have := closed_mask hb hm.closed j e'.o hoj (fun x h1 h2 => hm.closed j e'.o hoj hl x h1 h2) i hord
            rw [r2] at this; cases this
        rw [hnl]; simp; omega
  have hsizes : (frameD (fun i => listed.getD i false) 0 (pairsOf S ρ w0.heap.size es) init).length = (frameD (fun j => decide (j < i)) 0 (pairsOf S ρ w0.heap.size es) init).length := by
    rw [frameD_length, frameD_length]
  have hat : ∀ d : Nat, a.tmps[d]? = (frameD (fun i => listed.getD i false) 0 (pairsOf S ρ w0.heap.size es) init)[d]? := fun d => by rw [← hm.fr]; simp
  have hwant : Region.wanted e.o (yielded (es.map (·.o)).toArray a.tmps) = e.want := by
    rw [← fwant]
    apply wanted_same
    intro g b hg d hd
    rw [hat d, hlook d (by unfold looks; rw [hg]; simp only [List.mem_append]; right; simp at hd ⊢; exact hd)]
    simp
  -- the state behind it
  have hnext : ∀ (w' : World) (t : Nat) (h : Hp), t ≤ (effsFrom 0 es).length → (∀ k j, (effsFrom 0 es)[k]? = some j → ((listed.setIfInBounds i true).getD j false = true ↔ k < t)) → (heapsOf h0 es)[t]? = some h → HpOk S ρ w0 h w' →
      K (a.put e.o.dst (e.r.val.den S ρ w0.heap.size)) w' := by
    intro w' t h g1 g2 g3 g4
    apply hK
    · refine ⟨by simpa using hm.size, ?_, ?_, ?_, t, h, g1, g2, g3, g4⟩
      · intro j o hj hD x hx1 hx2
        simp only at hD ⊢
        rw [getD_set _ _ _ hil] at hD ⊢
        split at hD
        · rename_i hji
          subst hji
          rw [hoi] at hj; injection hj with hj; subst hj
          split
          · rfl
          · exact hpre x hx1 hx2
        · split
          · rfl
          · exact hm.closed j o hj hD x hx1 hx2
      · have hput : (a.put e.o.dst (e.r.val.den S ρ w0.heap.size)).tmps.toList = putV a.tmps.toList e.o.dst (e.r.val.den S ρ w0.heap.size) := by
          unfold Act.put putV
          cases e.o.dst <;> simp
        rw [hput, hm.fr]
        symm
        refine frameD_put (j := i) _ 0 init (e.o.dst, e.r.val.den S ρ w0.heap.size) (Nat.zero_le _) (by simpa using pairs_get hei) r2 (by rw [getD_set _ _ _ hil]; simp) (fun j hj => by rw [getD_set _ _ _ hil, if_neg hj]) ?_
        intro j p s hj hlt hs1 hs2
        obtain ⟨e', hj', rfl⟩ := pairs_back hj
        simp only [Nat.zero_add] at hlt hs1 hs2 ⊢
        have hoj : (es.map (·.o))[j]? = some e'.o := by simp [hj']
        have hord := ordered_pair ht hoj hoi hs2 (by omega) (.inr hs1)
        rw [if_neg (by omega)] at hord
        cases hl : listed.getD j false with
        | false => rfl
        | true =>
          exfalso
          have := closed_mask hb hm.closed j e'.o hoj (fun x h1 h2 => hm.closed j e'.o hoj hl x h1 h2) i hord
          rw [r2] at this; cases this
      · unfold Act.put
        cases e.o.dst <;> exact hm.defers
  obtain ⟨t, h, h1, h2, h3, h4⟩ := hm.heap
  have hch := chain_heaps 0 hchain
  unfold wpOp
  rw [hoa]
  simp only [hwant]
  -- an operation that turns no memory
  have hquiet : isEff e = false → ∀ w', HpOk S ρ w0 h w' → K (a.put e.o.dst (e.r.val.den S ρ w0.heap.size)) w' := by
    intro hne w' hw'
    refine hnext w' t h h1 (fun k j hk => ?_) h3 hw'
    rw [getD_set _ _ _ hil]
    split
    · rename_i hji
      subst hji
      obtain ⟨e', q1, q2, q3, _⟩ := hch.1 k j hk
      simp only [Nat.sub_zero] at q1
      rw [hei] at q1; injection q1 with q1; subst q1
      rw [hne] at q3; cases q3
    · exact h2 k j hk
  cases hw : e.want with
  | false =>
    simp only [Bool.false_eq_true, if_false]
    have hv : e.r.val.den S ρ w0.heap.size = undef := by rw [(fno hw).1]; rfl
    rw [← hv]
    exact hquiet (by simp [isEff, hw]) w h4
  | true =>
    simp only [if_true]
    left
    obtain ⟨s1, s2, s3'⟩ := fst hw
    have s3 := getSR_wf s3'
    have hagree : Agree S ρ w0.heap.size (getSR e.fr) a e.o.op.operands := by
      intro x hxo
      have hd : x ∈ looks (es.map (·.o)) e.o := by
        unfold looks
        rw [List.mem_append]; left
        rw [List.mem_filterMap]
        exact ⟨.tmp x, by simpa using hxo, rfl⟩
      have := hlook x hd
      rw [← hat x, ← ffr] at this
      rw [Array.getD_eq_getD_getElem?, this]
      unfold getSR
      rw [List.getElem?_map, List.getD_eq_getElem?_getD]
      cases e.fr[x]? <;> rfl
    by_cases hne : isEff e = true
    · -- it turns memory: it stands at its own place among those that do
      obtain ⟨k, hk⟩ : ∃ k, (effsFrom 0 es)[k]? = some i := by
        apply List.getElem?_of_mem
        rw [← effs_eq, List.mem_filterMap]
        exact ⟨(e, i), List.mem_zipIdx_iff_getElem?.2 hei, by simp [hne]⟩
      obtain ⟨e', q1, q2, q3, q4, q5⟩ := hch.1 k i hk
      simp only [Nat.sub_zero] at q1
      rw [hei] at q1; injection q1 with q1; subst q1
      have hkt : k = t := by
        have hnk : ¬ k < t := fun hlt => by have := (h2 k i hk).2 hlt; rw [r2] at this; cases this
        rcases Nat.lt_or_ge t k with hlt | hge
        · exfalso
          have hkl : k < (effsFrom 0 es).length := (List.getElem?_eq_some_iff.1 hk).1
          have htl : t < (effsFrom 0 es).length := by omega
          obtain ⟨j, hj⟩ : ∃ j, (effsFrom 0 es)[t]? = some j := ⟨_, List.getElem?_eq_getElem htl⟩
          have hji : j < i := by
            have : List.Pairwise (· < ·) (effsFrom 0 es) := by
              unfold effsFrom
              apply List.Pairwise.filterMap (R := fun a b => a.2 < b.2)
              · intro a b hab x hx y hy
                split at hx <;> simp at hx
                split at hy <;> simp at hy
                omega
              · rw [List.pairwise_iff_getElem]
                intro p q hp hq hpq
                simp; exact hpq
            rw [List.pairwise_iff_getElem] at this
            have := this t k htl hkl hlt
            rw [List.getElem?_eq_getElem htl] at hj
            rw [List.getElem?_eq_getElem hkl] at hk
            injection hj with hj; injection hk with hk
            omega
          have := he hne j (List.mem_of_getElem? hj) hji
          have := this.elim (hmask j) id
          have := (h2 t j hj).1 this
          omega
        · omega
      subst hkt
      rw [h3] at q4; injection q4 with q4
      subst q4
      obtain ⟨_, d2⟩ := step_ok hsp (o := e.o) (a := a) (w := w) (w0 := w0) s1 s2 s3 hagree h4
      refine d2 _ _ fun w' hw' => ?_
      refine hnext w' (k + 1) e.r.heap (by have := (List.getElem?_eq_some_iff.1 hk).1; omega) (fun k' j hk' => ?_) q5 hw'
      rw [getD_set _ _ _ hil]
      have hnd : (effsFrom 0 es)[k']? = some j → j = i → k' = k := by
        intro hk' hji
        subst hji
        have hnk : k' < k ∨ k' = k ∨ k < k' := by omega
        rcases hnk with hlt | rfl | hlt
        · exfalso
          have := (h2 k' j hk').2 hlt
          rw [r2] at this; cases this
        · rfl
        · exfalso
          have : List.Pairwise (· < ·) (effsFrom 0 es) := by
            unfold effsFrom
            apply List.Pairwise.filterMap (R := fun a b => a.2 < b.2)
            · intro a b hab x hx y hy
              split at hx <;> simp at hx
              split at hy <;> simp at hy
              omega
            · rw [List.pairwise_iff_getElem]
              intro p q hp hq hpq
              simp; exact hpq
          rw [List.pairwise_iff_getElem] at this
          have k1 := (List.getElem?_eq_some_iff.1 hk)
          have k2 := (List.getElem?_eq_some_iff.1 hk')
          have := this k k' k1.1 k2.1 hlt
          omega
      split
      · rename_i hji
        have := hnd hk' hji
        simp; omega
      · rename_i hji
        rw [h2 k' j hk']
        constructor
        · intro h; omega
        · intro h
          rcases Nat.lt_or_ge k' k with hlt | hge
          · exact hlt
          · exfalso
            have : k' = k := by omega
            subst this
            rw [hk] at hk'; injection hk' with hk'; exact hji hk'.symm
    · -- it turns none: at the memory as it stands there
      have hne : isEff e = false := by simpa using hne
      have hex : ∃ r', step P specs (getSR e.fr) h e.o = some r' ∧ r'.val = e.r.val ∧ r'.heap = h ∧ Met S ρ r'.need := by
        rcases hok with hok | hok
        · obtain ⟨c1, c2⟩ := chain_none 0 hchain hok
          have hh0 : h = h0 := by
            have ht0 : t = 0 := by rw [hok] at h1; simpa using h1
            rw [ht0] at h3
            unfold heapsOf at h3
            simpa using h3.symm
          obtain ⟨q1, q2, _⟩ := fst hw
          obtain ⟨q3, q4⟩ := c2 i e hei
          rw [hh0, ← q3]
          exact ⟨e.r, q1, rfl, by rw [q4, q3], q2⟩
        · have hx := hok
          rw [List.all_eq_true] at hx
          have hx1 := hx (e, i) (List.mem_zipIdx_iff_getElem?.2 hei)
          simp only [hw, hne, Bool.not_true, Bool.or_false, Bool.false_or] at hx1
          rw [List.all_eq_true] at hx1
          have hx2 := hx1 (h, t) (List.mem_zipIdx_iff_getElem?.2 h3)
          simp only [Bool.or_eq_true, decide_eq_true_eq, effs_eq] at hx2
          have hsame : sameAt P specs e (es.flatMap (·.r.need)) h = true := by
            rcases hx2 with (hlo | hhi) | hs
            · exfalso
              have hlo2 : t < ((effsFrom 0 es).filter (fun j => ((masks (es.map (·.o))).getD i 0).testBit j)).length := of_decide_eq_true hlo
              have := filter_le_of_take (fun j => ((masks (es.map (·.o))).getD i 0).testBit j) (effsFrom 0 es) t (fun k j hk hj => (h2 k j hk).1 (hmask j hj))
              omega
            · exfalso
              have hhi2 : ((effsFrom 0 es).filter (fun j => !((masks (es.map (·.o))).getD j 0).testBit i)).length < t := of_decide_eq_true hhi
              have := le_filter_of_take (fun j => !((masks (es.map (·.o))).getD j 0).testBit i) (effsFrom 0 es) t h1 (fun k j hk hkt => by
                have hjl := (h2 k j hk).2 hkt
                cases hbit : ((masks (es.map (·.o))).getD j 0).testBit i with
                | false => rfl
                | true =>
                  exfalso
                  obtain ⟨e', q1, _⟩ := hch.1 k j hk
                  simp only [Nat.sub_zero] at q1
                  have hoj : (es.map (·.o))[j]? = some e'.o := by simp [q1]
                  have := closed_mask hb hm.closed j e'.o hoj (fun x h1 h2 => hm.closed j e'.o hoj hjl x h1 h2) i hbit
                  rw [r2] at this; cases this)
              omega
            · exact hs
          unfold sameAt at hsame
          split at hsame
          · rename_i r' hr'
            simp only [Bool.and_eq_true, beq_iff_eq] at hsame
            obtain ⟨⟨v1, v2⟩, v3⟩ := hsame
            have hmet : Met S ρ r'.need := by
              intro x hx
              rw [List.all_eq_true] at v3
              exact hneed x (List.contains_iff_mem.1 (v3 x hx))
            exact ⟨r', hr', v1, v2, hmet⟩
          · cases hsame
      obtain ⟨r', hr', v1, v2, hmet⟩ := hex
      obtain ⟨_, d2⟩ := step_ok hsp (o := e.o) (a := a) (w := w) (w0 := w0) hr' hmet s3 hagree h4
      refine d2 _ _ fun w' hw' => ?_
      rw [v1]
      rw [v2] at hw'
      exact hquiet hne w' hw'
theorem mid_step (hsp : ∀ f s, specs f = some s → SpecOk P S f s) {h0 : Hp} {es : List Ent} {init : List Value} {hl : Hp} (hst : staticOk (es.map (·.o)) = true) (hok : okDraw P specs h0 es = true) (hchain : Chain h0 es hl)
    (hneed : Met S ρ (es.flatMap (·.r.need))) {i : Nat} {e : Ent} (hei : es[i]? = some e)
    (ffr : e.fr.map (SR.den S ρ w0.heap.size) = frameD (fun j => decide (j < i)) 0 (pairsOf S ρ w0.heap.size es) init)
    (fwant : Region.wanted e.o (yielded (es.map (·.o)).toArray (frameD (fun j => decide (j < i)) 0 (pairsOf S ρ w0.heap.size es) init).toArray) = e.want)
    (fst : e.want = true → step P specs (getSR e.fr) e.heap e.o = some e.r ∧ Met S ρ e.r.need ∧ ∀ x ∈ e.fr, x.wf S ρ) (fno : e.want = false → e.r.val = .v (.one .undef) ∧ e.r.need = [])
    {listed : Array Bool} {a : Act} {w : World} (hm : Mid S ρ w0 h0 es init listed a w) (hi : i ∈ Region.ready .any (es.map (·.o)).toArray listed) {K : Act → World → Prop} {Q : Exit → Act → World → Prop}
    (hK : ∀ a' w', Mid S ρ w0 h0 es init (listed.setIfInBounds i true) a' w' → K a' w') : wpOp P (es.map (·.o)).toArray Q i K a w := by
  unfold okDraw at hok
  simp only [Bool.or_eq_true, Bool.and_eq_true, List.isEmpty_iff] at hok
  rw [effs_eq] at hok
  refine mid_step' hsp hst (hok.imp id fun h => h.2) hchain hneed hei ffr fwant fst fno (fun hne j hj hji => .inl ?_) hm hi hK
  have hmem : i ∈ effsFrom 0 es := by
    rw [← effs_eq, List.mem_filterMap]
    exact ⟨(e, i), List.mem_zipIdx_iff_getElem?.2 hei, by simp [hne]⟩
  rcases hok with h | h
  · rw [h] at hj; cases hj
  · have he := List.all_eq_true.1 (List.all_eq_true.1 h.1 j hj) i hmem
    simpa [hji] using he
set_option maxHeartbeats 1000000 in
theorem any_ok (hsp : ∀ f s, specs f = some s → SpecOk P S f s) {h0 : Hp} {es : List Ent} {init : List Value} {hl : Hp} (sh : Shown P specs S ρ w0.heap.size h0 es init hl) (hst : staticOk (es.map (·.o)) = true) (hok : okDraw P specs h0 es = true)
    {Q : Exit → Act → World → Prop} (hQ : ∀ a w, a.tmps.toList = frameD (fun _ => true) 0 (pairsOf S ρ w0.heap.size es) init → a.defers = [] → HpOk S ρ w0 hl w → Q .normal a w) :
    ∀ (fuel : Nat) (listed : Array Bool) (a : Act) (w : World), Mid S ρ w0 h0 es init listed a w → ((List.range es.length).filter fun i => !listed.getD i false).length ≤ fuel →
      wpAny P .any (es.map (·.o)).toArray Q fuel listed a w := by
  have hst0 := hst
  have hok0 := hok
  unfold staticOk at hst
  simp only [Bool.and_eq_true] at hst
  obtain ⟨hb, ht⟩ := hst
  unfold okDraw at hok
  simp only [Bool.or_eq_true, Bool.and_eq_true, List.isEmpty_iff] at hok
  rw [effs_eq] at hok
  have he : ((effsFrom 0 es).all fun i => (effsFrom 0 es).all fun j => !(i < j) || ((masks (es.map (·.o))).getD j 0).testBit i) = true := by
    rcases hok with h | h
    · rw [h]; rfl
    · exact h.1
  have hstop : ∀ (listed : Array Bool) (a : Act) (w : World), Mid S ρ w0 h0 es init listed a w → Region.ready .any (es.map (·.o)).toArray listed = [] → Q .normal a w := by
    intro listed a w hm hr
    have hall := all_listed (ops := es.map (·.o)) (by simpa using hm.size) hb hr
    obtain ⟨t, h, h1, h2, h3, h4⟩ := hm.heap
    refine hQ a w ?_ hm.defers ?_
    · rw [hm.fr]
      apply List.ext_getElem?
      intro s
      apply frameD_look _ _ _ _ rfl rfl
      intro i e hi _
      obtain ⟨e', hi', _⟩ := pairs_back hi
      simp only [Nat.zero_add]
      exact hall i (by simpa using (List.getElem?_eq_some_iff.1 hi').1)
    · have htl : t = (effsFrom 0 es).length := by
        rcases Nat.lt_or_ge t (effsFrom 0 es).length with hlt | hge
        · have hi := h2 t _ (List.getElem?_eq_getElem hlt)
          obtain ⟨e', q1, _⟩ := (chain_heaps 0 sh.chain).1 t _ (List.getElem?_eq_getElem hlt)
          have := hi.1 (hall _ (by simpa using (List.getElem?_eq_some_iff.1 q1).1))
          omega
        · omega
      have := (chain_heaps 0 sh.chain).2.1
      rw [← htl, h3] at this
      injection this with this
      rw [← this]; exact h4
  intro fuel
  induction fuel with
  | zero =>
    intro listed a w hm hf
    have hr : Region.ready .any (es.map (·.o)).toArray listed = [] := by
      rw [List.eq_nil_iff_forall_not_mem]
      intro i hi
      obtain ⟨r1, r2, _⟩ := ready_spec hi
      have r1 : i < es.length := by simpa using r1
      rw [getD_tf _ _ (by rw [hm.size]; exact r1)] at r2
      have : i ∈ (List.range es.length).filter fun i => !listed.getD i false := by
        rw [List.mem_filter]; exact ⟨List.mem_range.2 r1, by rw [r2]; rfl⟩
      have := List.length_pos_of_mem this
      omega
    exact ⟨hr, hstop listed a w hm hr⟩
  | succ fuel ih =>
    intro listed a w hm hf
    refine ⟨hstop listed a w hm, fun i hi => ?_⟩
    obtain ⟨r1, r2, r3⟩ := ready_spec hi
    have r1' : i < es.length := by simpa using r1
    have hil : i < listed.size := by rw [hm.size]; exact r1'
    rw [getD_tf _ _ hil] at r2
    obtain ⟨e, hei⟩ : ∃ e, es[i]? = some e := ⟨_, List.getElem?_eq_getElem r1'⟩
    refine mid_step hsp hst0 hok0 sh.chain sh.met hei (sh.fr i e hei) (sh.want i e hei) (sh.st i e hei) (sh.no i e hei) hm hi fun a' w' hm' => ih _ _ _ hm' ?_
    have : ((List.range es.length).filter fun j => !(listed.setIfInBounds i true).getD j false).length < ((List.range es.length).filter fun j => !listed.getD j false).length := by
          have e1 : ((List.range es.length).filter fun j => !(listed.setIfInBounds i true).getD j false) = ((List.range es.length).filter fun j => !listed.getD j false).filter fun j => j != i := by
            rw [List.filter_filter]
            apply List.filter_congr
            intro j _
            rw [getD_set _ _ _ hil]
            by_cases hji : j = i
            · subst hji; simp
            · simp [hji]
          rw [e1]
          have hmem : i ∈ (List.range es.length).filter fun j => !listed.getD j false := by
            rw [List.mem_filter]; exact ⟨List.mem_range.2 r1', by rw [r2]; rfl⟩
          exact List.length_filter_lt_length_iff_exists.2 ⟨i, hmem, by simp⟩
    omega
end
end
end Go.Proofs.YtljjbikbfeigdaaGreatDoor
namespace Go.Proofs.YtljjbikbfeigdaaGreatDoor
noncomputable section
open Go
/-- Alike as to all names below ns, and as to the numbers of new blocks below na. -/
structure Agree2 (ns : Nat) (na : Nat) (ρ ρ' : Env) : Prop where
  i : ∀ k, k < ns → ρ'.i k = ρ.i k
  b : ∀ k, k < ns → ρ'.b k = ρ.b k
  a : ∀ k, k < ns → ρ'.a k = ρ.a k
  v : ∀ k, k < ns → ρ'.v k = ρ.v k
  j : ∀ k, k < ns → ρ'.j k = ρ.j k
  blk : ∀ k, k < ns → ρ'.blk k = ρ.blk k
  off : ∀ k, k < ns → ρ'.off k = ρ.off k
  vs : ∀ k, k < ns → ρ'.vs k = ρ.vs k
  nb : ∀ k, k < na → ρ'.nb k = ρ.nb k
  loose : ρ'.loose = ρ.loose
theorem Agree2.rfl' (ns na : Nat) (ρ : Env) : Agree2 ns na ρ ρ := ⟨fun _ _ => rfl, fun _ _ => rfl, fun _ _ => rfl, fun _ _ => rfl, fun _ _ => rfl, fun _ _ => rfl, fun _ _ => rfl, fun _ _ => rfl, fun _ _ => rfl, rfl⟩
theorem Agree2.trans {ns ms : Nat} {na nc : Nat} {ρ ρ1 ρ2 : Env} (h : Agree2 ns na ρ ρ1) (g : Agree2 ms nc ρ1 ρ2) (hm : ns ≤ ms) (hn : na ≤ nc) : Agree2 ns na ρ ρ2 :=
  ⟨fun k hk => (g.i k (by omega)).trans (h.i k hk), fun k hk => (g.b k (by omega)).trans (h.b k hk), fun k hk => (g.a k (by omega)).trans (h.a k hk), fun k hk => (g.v k (by omega)).trans (h.v k hk),
   fun k hk => (g.j k (by omega)).trans (h.j k hk), fun k hk => (g.blk k (by omega)).trans (h.blk k hk), fun k hk => (g.off k (by omega)).trans (h.off k hk), fun k hk => (g.vs k (by omega)).trans (h.vs k hk),
   fun k hk => (g.nb k (by omega)).trans (h.nb k hk), g.loose.trans h.loose⟩
theorem Agree2.weaken {ns ms : Nat} {na nc : Nat} {ρ ρ1 : Env} (h : Agree2 ns na ρ ρ1) (hm : ms ≤ ns) (hn : nc ≤ na) : Agree2 ms nc ρ ρ1 :=
  ⟨fun k hk => h.i k (by omega), fun k hk => h.b k (by omega), fun k hk => h.a k (by omega), fun k hk => h.v k (by omega), fun k hk => h.j k (by omega), fun k hk => h.blk k (by omega), fun k hk => h.off k (by omega), fun k hk => h.vs k (by omega), fun k hk => h.nb k (by omega), h.loose⟩
section
variable {S : Sig} {ρ ρ' : Env} {ns : Nat} {na : Nat} {B : Nat}
theorem T.clear_den (hA : Agree2 ns na ρ ρ') {t : T} (hc : t.clear ns = true) : t.I S ρ' = t.I S ρ ∧ t.B S ρ' = t.B S ρ ∧ t.A S ρ' = t.A S ρ := by
  rw [T.clear_eq] at hc
  induction t with
  | lit q0 => exact ⟨rfl, rfl, rfl⟩
  | tt => exact ⟨rfl, rfl, rfl⟩
  | ff => exact ⟨rfl, rfl, rfl⟩
  | iv q0 =>
    have hq : q0 < ns := Nat.le_of_ble_eq_true hc
    exact ⟨by simp only [T.I, hA.i q0 hq], by simp only [T.B], by simp only [T.A]⟩
  | bv q0 =>
    have hq : q0 < ns := Nat.le_of_ble_eq_true hc
    exact ⟨by simp only [T.I], by simp only [T.B, hA.b q0 hq], by simp only [T.A]⟩
  | av q0 =>
    have hq : q0 < ns := Nat.le_of_ble_eq_true hc
    exact ⟨by simp only [T.I], by simp only [T.B], by simp only [T.A, hA.a q0 hq]⟩
  | add a0 a1 h0 h1 =>
    simp only [T.clearI, Bool.and_eq_true] at hc
    obtain ⟨c0, c1⟩ := hc
    obtain ⟨i0, b0, l0⟩ := h0 c0
    obtain ⟨i1, b1, l1⟩ := h1 c1
    refine ⟨?_, ?_, ?_⟩ <;> simp only [T.I, T.B, T.A, i0, b0, l0, i1, b1, l1]
  | sub a0 a1 h0 h1 =>
    simp only [T.clearI, Bool.and_eq_true] at hc
    obtain ⟨c0, c1⟩ := hc
    obtain ⟨i0, b0, l0⟩ := h0 c0
    obtain ⟨i1, b1, l1⟩ := h1 c1
    refine ⟨?_, ?_, ?_⟩ <;> simp only [T.I, T.B, T.A, i0, b0, l0, i1, b1, l1]
  | mul a0 a1 h0 h1 =>
    simp only [T.clearI, Bool.and_eq_true] at hc
    obtain ⟨c0, c1⟩ := hc
    obtain ⟨i0, b0, l0⟩ := h0 c0
    obtain ⟨i1, b1, l1⟩ := h1 c1
    refine ⟨?_, ?_, ?_⟩ <;> simp only [T.I, T.B, T.A, i0, b0, l0, i1, b1, l1]
  | wrap q0 a0 h0 =>
    simp only [T.clearI, Bool.and_eq_true] at hc
    have c0 := hc
    obtain ⟨i0, b0, l0⟩ := h0 c0
    refine ⟨?_, ?_, ?_⟩ <;> simp only [T.I, T.B, T.A, i0, b0, l0]
  | tdiv a0 a1 h0 h1 =>
    simp only [T.clearI, Bool.and_eq_true] at hc
    obtain ⟨c0, c1⟩ := hc
    obtain ⟨i0, b0, l0⟩ := h0 c0
    obtain ⟨i1, b1, l1⟩ := h1 c1
    refine ⟨?_, ?_, ?_⟩ <;> simp only [T.I, T.B, T.A, i0, b0, l0, i1, b1, l1]
  | tmod a0 a1 h0 h1 =>
    simp only [T.clearI, Bool.and_eq_true] at hc
    obtain ⟨c0, c1⟩ := hc
    obtain ⟨i0, b0, l0⟩ := h0 c0
    obtain ⟨i1, b1, l1⟩ := h1 c1
    refine ⟨?_, ?_, ?_⟩ <;> simp only [T.I, T.B, T.A, i0, b0, l0, i1, b1, l1]
  | shl q0 a0 a1 h0 h1 =>
    simp only [T.clearI, Bool.and_eq_true] at hc
    obtain ⟨c0, c1⟩ := hc
    obtain ⟨i0, b0, l0⟩ := h0 c0
    obtain ⟨i1, b1, l1⟩ := h1 c1
    refine ⟨?_, ?_, ?_⟩ <;> simp only [T.I, T.B, T.A, i0, b0, l0, i1, b1, l1]
  | shr q0 a0 a1 h0 h1 =>
    simp only [T.clearI, Bool.and_eq_true] at hc
    obtain ⟨c0, c1⟩ := hc
    obtain ⟨i0, b0, l0⟩ := h0 c0
    obtain ⟨i1, b1, l1⟩ := h1 c1
    refine ⟨?_, ?_, ?_⟩ <;> simp only [T.I, T.B, T.A, i0, b0, l0, i1, b1, l1]
  | bits q0 q1 a0 a1 h0 h1 =>
    simp only [T.clearI, Bool.and_eq_true] at hc
    obtain ⟨c0, c1⟩ := hc
    obtain ⟨i0, b0, l0⟩ := h0 c0
    obtain ⟨i1, b1, l1⟩ := h1 c1
    refine ⟨?_, ?_, ?_⟩ <;> simp only [T.I, T.B, T.A, i0, b0, l0, i1, b1, l1]
  | mx a0 a1 h0 h1 =>
    simp only [T.clearI, Bool.and_eq_true] at hc
    obtain ⟨c0, c1⟩ := hc
    obtain ⟨i0, b0, l0⟩ := h0 c0
    obtain ⟨i1, b1, l1⟩ := h1 c1
    refine ⟨?_, ?_, ?_⟩ <;> simp only [T.I, T.B, T.A, i0, b0, l0, i1, b1, l1]
  | mn a0 a1 h0 h1 =>
    simp only [T.clearI, Bool.and_eq_true] at hc
    obtain ⟨c0, c1⟩ := hc
    obtain ⟨i0, b0, l0⟩ := h0 c0
    obtain ⟨i1, b1, l1⟩ := h1 c1
    refine ⟨?_, ?_, ?_⟩ <;> simp only [T.I, T.B, T.A, i0, b0, l0, i1, b1, l1]
  | eq a0 a1 h0 h1 =>
    simp only [T.clearI, Bool.and_eq_true] at hc
    obtain ⟨c0, c1⟩ := hc
    obtain ⟨i0, b0, l0⟩ := h0 c0
    obtain ⟨i1, b1, l1⟩ := h1 c1
    refine ⟨?_, ?_, ?_⟩ <;> simp only [T.I, T.B, T.A, i0, b0, l0, i1, b1, l1]
  | lt a0 a1 h0 h1 =>
    simp only [T.clearI, Bool.and_eq_true] at hc
    obtain ⟨c0, c1⟩ := hc
    obtain ⟨i0, b0, l0⟩ := h0 c0
    obtain ⟨i1, b1, l1⟩ := h1 c1
    refine ⟨?_, ?_, ?_⟩ <;> simp only [T.I, T.B, T.A, i0, b0, l0, i1, b1, l1]
  | le a0 a1 h0 h1 =>
    simp only [T.clearI, Bool.and_eq_true] at hc
    obtain ⟨c0, c1⟩ := hc
    obtain ⟨i0, b0, l0⟩ := h0 c0
    obtain ⟨i1, b1, l1⟩ := h1 c1
    refine ⟨?_, ?_, ?_⟩ <;> simp only [T.I, T.B, T.A, i0, b0, l0, i1, b1, l1]
  | beq a0 a1 h0 h1 =>
    simp only [T.clearI, Bool.and_eq_true] at hc
    obtain ⟨c0, c1⟩ := hc
    obtain ⟨i0, b0, l0⟩ := h0 c0
    obtain ⟨i1, b1, l1⟩ := h1 c1
    refine ⟨?_, ?_, ?_⟩ <;> simp only [T.I, T.B, T.A, i0, b0, l0, i1, b1, l1]
  | not a0 h0 =>
    simp only [T.clearI, Bool.and_eq_true] at hc
    have c0 := hc
    obtain ⟨i0, b0, l0⟩ := h0 c0
    refine ⟨?_, ?_, ?_⟩ <;> simp only [T.I, T.B, T.A, i0, b0, l0]
  | and a0 a1 h0 h1 =>
    simp only [T.clearI, Bool.and_eq_true] at hc
    obtain ⟨c0, c1⟩ := hc
    obtain ⟨i0, b0, l0⟩ := h0 c0
    obtain ⟨i1, b1, l1⟩ := h1 c1
    refine ⟨?_, ?_, ?_⟩ <;> simp only [T.I, T.B, T.A, i0, b0, l0, i1, b1, l1]
  | or a0 a1 h0 h1 =>
    simp only [T.clearI, Bool.and_eq_true] at hc
    obtain ⟨c0, c1⟩ := hc
    obtain ⟨i0, b0, l0⟩ := h0 c0
    obtain ⟨i1, b1, l1⟩ := h1 c1
    refine ⟨?_, ?_, ?_⟩ <;> simp only [T.I, T.B, T.A, i0, b0, l0, i1, b1, l1]
  | ite a0 a1 a2 h0 h1 h2 =>
    simp only [T.clearI, Bool.and_eq_true] at hc
    obtain ⟨c0, c1, c2⟩ := hc
    obtain ⟨i0, b0, l0⟩ := h0 c0
    obtain ⟨i1, b1, l1⟩ := h1 c1
    obtain ⟨i2, b2, l2⟩ := h2 c2
    refine ⟨?_, ?_, ?_⟩ <;> simp only [T.I, T.B, T.A, i0, b0, l0, i1, b1, l1, i2, b2, l2]
  | bite a0 a1 a2 h0 h1 h2 =>
    simp only [T.clearI, Bool.and_eq_true] at hc
    obtain ⟨c0, c1, c2⟩ := hc
    obtain ⟨i0, b0, l0⟩ := h0 c0
    obtain ⟨i1, b1, l1⟩ := h1 c1
    obtain ⟨i2, b2, l2⟩ := h2 c2
    refine ⟨?_, ?_, ?_⟩ <;> simp only [T.I, T.B, T.A, i0, b0, l0, i1, b1, l1, i2, b2, l2]
  | len a0 h0 =>
    simp only [T.clearI, Bool.and_eq_true] at hc
    have c0 := hc
    obtain ⟨i0, b0, l0⟩ := h0 c0
    refine ⟨?_, ?_, ?_⟩ <;> simp only [T.I, T.B, T.A, i0, b0, l0]
  | get a0 a1 h0 h1 =>
    simp only [T.clearI, Bool.and_eq_true] at hc
    obtain ⟨c0, c1⟩ := hc
    obtain ⟨i0, b0, l0⟩ := h0 c0
    obtain ⟨i1, b1, l1⟩ := h1 c1
    refine ⟨?_, ?_, ?_⟩ <;> simp only [T.I, T.B, T.A, i0, b0, l0, i1, b1, l1]
  | set a0 a1 a2 h0 h1 h2 =>
    simp only [T.clearI, Bool.and_eq_true] at hc
    obtain ⟨c0, c1, c2⟩ := hc
    obtain ⟨i0, b0, l0⟩ := h0 c0
    obtain ⟨i1, b1, l1⟩ := h1 c1
    obtain ⟨i2, b2, l2⟩ := h2 c2
    refine ⟨?_, ?_, ?_⟩ <;> simp only [T.I, T.B, T.A, i0, b0, l0, i1, b1, l1, i2, b2, l2]
  | rep a0 a1 h0 h1 =>
    simp only [T.clearI, Bool.and_eq_true] at hc
    obtain ⟨c0, c1⟩ := hc
    obtain ⟨i0, b0, l0⟩ := h0 c0
    obtain ⟨i1, b1, l1⟩ := h1 c1
    refine ⟨?_, ?_, ?_⟩ <;> simp only [T.I, T.B, T.A, i0, b0, l0, i1, b1, l1]
  | cut a0 a1 a2 h0 h1 h2 =>
    simp only [T.clearI, Bool.and_eq_true] at hc
    obtain ⟨c0, c1, c2⟩ := hc
    obtain ⟨i0, b0, l0⟩ := h0 c0
    obtain ⟨i1, b1, l1⟩ := h1 c1
    obtain ⟨i2, b2, l2⟩ := h2 c2
    refine ⟨?_, ?_, ?_⟩ <;> simp only [T.I, T.B, T.A, i0, b0, l0, i1, b1, l1, i2, b2, l2]
  | alit q0 => exact ⟨rfl, rfl, rfl⟩
  | splice a0 a1 a2 h0 h1 h2 =>
    simp only [T.clearI, Bool.and_eq_true] at hc
    obtain ⟨c0, c1, c2⟩ := hc
    obtain ⟨i0, b0, l0⟩ := h0 c0
    obtain ⟨i1, b1, l1⟩ := h1 c1
    obtain ⟨i2, b2, l2⟩ := h2 c2
    refine ⟨?_, ?_, ?_⟩ <;> simp only [T.I, T.B, T.A, i0, b0, l0, i1, b1, l1, i2, b2, l2]
  | aeq a0 a1 h0 h1 =>
    simp only [T.clearI, Bool.and_eq_true] at hc
    obtain ⟨c0, c1⟩ := hc
    obtain ⟨i0, b0, l0⟩ := h0 c0
    obtain ⟨i1, b1, l1⟩ := h1 c1
    refine ⟨?_, ?_, ?_⟩ <;> simp only [T.I, T.B, T.A, i0, b0, l0, i1, b1, l1]
  | fi q0 a0 a1 a2 a3 a4 a5 a6 a7 h0 h1 h2 h3 h4 h5 h6 h7 =>
    simp only [T.clearI, Bool.and_eq_true] at hc
    obtain ⟨c0, c1, c2, c3, c4, c5, c6, c7⟩ := hc
    obtain ⟨i0, b0, l0⟩ := h0 c0
    obtain ⟨i1, b1, l1⟩ := h1 c1
    obtain ⟨i2, b2, l2⟩ := h2 c2
    obtain ⟨i3, b3, l3⟩ := h3 c3
    obtain ⟨i4, b4, l4⟩ := h4 c4
    obtain ⟨i5, b5, l5⟩ := h5 c5
    obtain ⟨i6, b6, l6⟩ := h6 c6
    obtain ⟨i7, b7, l7⟩ := h7 c7
    refine ⟨?_, ?_, ?_⟩ <;> simp only [T.I, T.B, T.A, i0, b0, l0, i1, b1, l1, i2, b2, l2, i3, b3, l3, i4, b4, l4, i5, b5, l5, i6, b6, l6, i7, b7, l7]
  | fb q0 a0 a1 a2 a3 a4 a5 a6 a7 h0 h1 h2 h3 h4 h5 h6 h7 =>
    simp only [T.clearI, Bool.and_eq_true] at hc
    obtain ⟨c0, c1, c2, c3, c4, c5, c6, c7⟩ := hc
    obtain ⟨i0, b0, l0⟩ := h0 c0
    obtain ⟨i1, b1, l1⟩ := h1 c1
    obtain ⟨i2, b2, l2⟩ := h2 c2
    obtain ⟨i3, b3, l3⟩ := h3 c3
    obtain ⟨i4, b4, l4⟩ := h4 c4
    obtain ⟨i5, b5, l5⟩ := h5 c5
    obtain ⟨i6, b6, l6⟩ := h6 c6
    obtain ⟨i7, b7, l7⟩ := h7 c7
    refine ⟨?_, ?_, ?_⟩ <;> simp only [T.I, T.B, T.A, i0, b0, l0, i1, b1, l1, i2, b2, l2, i3, b3, l3, i4, b4, l4, i5, b5, l5, i6, b6, l6, i7, b7, l7]
  | fa q0 a0 a1 a2 a3 a4 a5 a6 a7 h0 h1 h2 h3 h4 h5 h6 h7 =>
    simp only [T.clearI, Bool.and_eq_true] at hc
    obtain ⟨c0, c1, c2, c3, c4, c5, c6, c7⟩ := hc
    obtain ⟨i0, b0, l0⟩ := h0 c0
    obtain ⟨i1, b1, l1⟩ := h1 c1
    obtain ⟨i2, b2, l2⟩ := h2 c2
    obtain ⟨i3, b3, l3⟩ := h3 c3
    obtain ⟨i4, b4, l4⟩ := h4 c4
    obtain ⟨i5, b5, l5⟩ := h5 c5
    obtain ⟨i6, b6, l6⟩ := h6 c6
    obtain ⟨i7, b7, l7⟩ := h7 c7
    refine ⟨?_, ?_, ?_⟩ <;> simp only [T.I, T.B, T.A, i0, b0, l0, i1, b1, l1, i2, b2, l2, i3, b3, l3, i4, b4, l4, i5, b5, l5, i6, b6, l6, i7, b7, l7]
theorem Ref.clear_den (hA : Agree2 ns na ρ ρ') {r : Ref} (hc : r.clear ns na = true) : r.blk ρ' B = r.blk ρ B ∧ r.off ρ' = r.off ρ := by
  cases r with
  | old n =>
    simp only [Ref.clear] at hc
    exact ⟨hA.blk n (Nat.le_of_ble_eq_true hc), rfl⟩
  | new k =>
    simp only [Ref.clear] at hc
    have := Nat.le_of_ble_eq_true hc
    exact ⟨by simp only [Ref.blk, hA.nb k this], rfl⟩
  | glob g => exact ⟨rfl, rfl⟩
  | ro n =>
    simp only [Ref.clear] at hc
    exact ⟨hA.blk n (Nat.le_of_ble_eq_true hc), hA.off n (Nat.le_of_ble_eq_true hc)⟩
  | own n =>
    simp only [Ref.clear] at hc
    exact ⟨by simp only [Ref.blk, hA.blk n (Nat.le_of_ble_eq_true hc)], rfl⟩
theorem Leaf.clear_den (hA : Agree2 ns na ρ ρ') : ∀ {l : Leaf}, l.clear ns na = true → l.den S ρ' B = l.den S ρ B
  | .int k t, hc => by simp only [Leaf.den, (T.clear_den (S := S) hA (t := t) hc).1]
  | .bool t, hc => by simp only [Leaf.den, (T.clear_den (S := S) hA (t := t) hc).2.1]
  | .ptr r s d, hc => by
    simp only [Leaf.clear, Bool.and_eq_true] at hc
    simp only [Leaf.den, addrOf, (Ref.clear_den hA hc.1).1, (Ref.clear_den hA (B := B) hc.1).2, (T.clear_den (S := S) hA hc.2).1]
  | .sl r s d n c, hc => by
    simp only [Leaf.clear, Bool.and_eq_true] at hc
    simp only [Leaf.den, addrOf, (Ref.clear_den hA hc.1).1, (Ref.clear_den hA (B := B) hc.1).2, (T.clear_den (S := S) hA hc.2.1).1, (T.clear_den (S := S) hA hc.2.2.1).1, (T.clear_den (S := S) hA hc.2.2.2).1]
  | .nilp, _ => rfl
  | .nils, _ => rfl
  | .nilI, _ => rfl
  | .str _, _ => rfl
  | .fn _, _ => rfl
  | .iface t x, hc => by simp only [Leaf.den]; rw [Leaf.clear_den hA (l := x) hc]
  | .undef, _ => rfl
  | .junk n, hc => by
    simp only [Leaf.clear] at hc
    exact hA.j n (Nat.le_of_ble_eq_true hc)
  | .val n, hc => by
    simp only [Leaf.clear] at hc
    exact hA.v n (Nat.le_of_ble_eq_true hc)
theorem Seg.clear_den (hA : Agree2 ns na ρ ρ') {g : Seg} (hc : g.clear ns na = true) : g.den S ρ' B = g.den S ρ B ∧ (g.wf S ρ' ↔ g.wf S ρ) := by
  cases g with
  | cells l =>
    simp only [Seg.clear, List.all_eq_true] at hc
    exact ⟨List.map_congr_left fun x hx => Leaf.clear_den hA (hc x hx), Iff.rfl⟩
  | arr k a n =>
    have := (T.clear_den (S := S) hA (t := a) hc).2.2
    exact ⟨by simp only [Seg.den, this], by simp only [Seg.wf, this]⟩
  | arrD k a =>
    have := (T.clear_den (S := S) hA (t := a) hc).2.2
    exact ⟨by simp only [Seg.den, this], Iff.rfl⟩
  | bar a n =>
    have := (T.clear_den (S := S) hA (t := a) hc).2.2
    exact ⟨by simp only [Seg.den, this], by simp only [Seg.wf, this]⟩
  | junk n =>
    simp only [Seg.clear] at hc
    exact ⟨hA.vs n (Nat.le_of_ble_eq_true hc), Iff.rfl⟩
  | tail z n =>
    simp only [Seg.clear, Bool.and_eq_true, List.all_eq_true] at hc
    refine ⟨?_, Iff.rfl⟩
    simp only [Seg.den, (T.clear_den (S := S) hA hc.2).1]
    rw [List.map_congr_left fun x hx => Leaf.clear_den (S := S) (B := B) hA (hc.1 x hx)]
theorem segs_clear (hA : Agree2 ns na ρ ρ') {l : List Seg} (hc : l.all (Seg.clear ns na) = true) : segsDen S ρ' B l = segsDen S ρ B l ∧ (segsWf S ρ l → segsWf S ρ' l) := by
  rw [List.all_eq_true] at hc
  constructor
  · unfold segsDen
    induction l with
    | nil => rfl
    | cons g l ih =>
      simp only [List.flatMap_cons]
      rw [(Seg.clear_den hA (hc g (by simp))).1, ih fun x hx => hc x (by simp [hx])]
  · intro h g hg
    exact (Seg.clear_den (B := B) hA (hc g hg)).2.2 (h g hg)
theorem SV.clear_den (hA : Agree2 ns na ρ ρ') {x : SV} (hc : x.clear ns na = true) : x.den S ρ' B = x.den S ρ B ∧ (x.wf S ρ → x.wf S ρ') := by
  cases x with
  | one l => exact ⟨Leaf.clear_den hA hc, fun h => h⟩
  | agg g => exact ⟨by simp only [SV.den, (segs_clear (S := S) (B := B) hA hc).1], (segs_clear (S := S) (B := B) hA hc).2⟩
theorem SR.clear_den (hA : Agree2 ns na ρ ρ') : ∀ {x : SR}, x.clear ns na = true → x.den S ρ' B = x.den S ρ B ∧ (x.wf S ρ → x.wf S ρ')
  | .v x, hc => SV.clear_den hA hc
  | .tup l, hc => by
    simp only [SR.clear, List.all_eq_true] at hc
    refine ⟨?_, fun h y hy => (SV.clear_den (B := B) hA (hc y hy)).2 (h y hy)⟩
    simp only [SR.den]
    rw [List.map_congr_left fun y hy => (SV.clear_den (S := S) (B := B) hA (hc y hy)).1]
  | .ite c x y, hc => by
    simp only [SR.clear, Bool.and_eq_true] at hc
    obtain ⟨c1, c2, c3⟩ := hc
    have h1 := (T.clear_den (S := S) hA c1).2.1
    have h2 := SR.clear_den hA (x := x) c2
    have h3 := SR.clear_den hA (x := y) c3
    refine ⟨by simp only [SR.den, h1, h2.1, h3.1], fun h => ⟨fun hb => h2.2 (h.1 (h1 ▸ hb)), fun hb => h3.2 (h.2 (h1 ▸ hb))⟩⟩
theorem met_clear (hA : Agree2 ns na ρ ρ') {l : List T} (hc : l.all (T.clear ns) = true) (h : Met S ρ l) : Met S ρ' l := by
  rw [List.all_eq_true] at hc
  intro t ht
  rw [(T.clear_den (S := S) hA (hc t ht)).2.1]; exact h t ht
end
end
end Go.Proofs.YtljjbikbfeigdaaGreatDoor
namespace Go.Proofs.YtljjbikbfeigdaaGreatDoor
noncomputable section
open Go
/-- In the midst of a loop. -/
def InLoop (P : Program) (c : Code) (Q : Exit → Act → World → Prop) (a : Act) (w : World) : Prop :=
  ∀ b k cs, ∃ e a' w', Q e a' w' ∧ Arrives P (lone (b.at a (.code c :: .inLoop c :: k)) cs w) b k cs e a' w'
theorem inLoop_of {P : Program} {c : Code} {Q : Exit → Act → World → Prop} {a : Act} {w : World} (h : c.wp P (Exit.then (InLoop P c Q) Q) a w) : InLoop P c Q a w := by
  intro b k cs
  obtain ⟨e, a₁, w₁, hq, harr⟩ := h b (.inLoop c :: k) cs
  cases e with
  | normal =>
    obtain ⟨e₂, a₂, w₂, hq₂, harr₂⟩ := hq b k cs
    exact ⟨e₂, a₂, w₂, hq₂, .of_steps (Steps.trans harr (.one step_inLoop)) harr₂⟩
  | exit id => exact ⟨_, a₁, w₁, hq, .pass (x := .inLoop c) rfl (fun _ _ => .inl (by simp)) harr⟩
  | goto l => exact ⟨_, a₁, w₁, hq, .pass (x := .inLoop c) rfl (fun _ _ => .inl (by simp)) harr⟩
  | ret => exact ⟨_, a₁, w₁, hq, .pass (x := .inLoop c) rfl (fun _ _ => .inl (by simp)) harr⟩
  | panic ch => exact ⟨_, a₁, w₁, hq, .pass (x := .inLoop c) rfl (fun _ _ => .inl (by simp)) harr⟩
  | outgrown => exact ⟨_, a₁, w₁, hq, .pass (x := .inLoop c) rfl (fun _ _ => .inl (by simp)) harr⟩
theorem wp_inLoop {P : Program} {c : Code} {Q : Exit → Act → World → Prop} {a : Act} {w : World} (h : InLoop P c Q a w) : (Code.loop c).wp P Q a w := by
  intro b k cs
  obtain ⟨e, a', w', hq, harr⟩ := h b k cs
  exact ⟨e, a', w', hq, .of_steps (.one step_loop) harr⟩
/-- What is asked of the exits of a piece of code, behind which ks stands. -/
def Qof (P : Program) (Q : Exit → Act → World → Prop) : List KF → Exit → Act → World → Prop
  | [] => Q
  | .again c :: ks => Exit.then (InLoop P c (Qof P Q ks)) (Qof P Q ks)
  | .inv _ _ c :: ks => Exit.then (InLoop P c (Qof P Q ks)) (Qof P Q ks)
  | .code c :: ks => Exit.then (c.wp P (Qof P Q ks)) (Qof P Q ks)
  | .blk id :: ks => Exit.inBlock id (Qof P Q ks)
/-- The frame is as the symbolic frame says. -/
structure FrOk (S : Sig) (ρ : Env) (B : Nat) (fr : List SR) (a : Act) : Prop where
  tmps : a.tmps.toList = fr.map (SR.den S ρ B)
  defers : a.defers = []
  wf : ∀ x ∈ fr, x.wf S ρ
def resOne (tmps : Array Value) : ResultVar → Sem Value
  | .tmp t => pure (tmps.getD t undef)
  | .cell a t => do loadVar t (← asAddr (tmps.getD a undef))
def resRun (rs : List ResultVar) (tmps : Array Value) : Sem Value := results { (default : Func) with results := rs.toArray } tmps
theorem results_resRun (fn : Func) (tmps : Array Value) : results fn tmps = resRun fn.results.toList tmps := by
  simp [resRun, results]
def Out.okA (P : Program) (S : Sig) (w0 : World) (rs : List ResultVar) (Q : Exit → Act → World → Prop) : Out → Env → Prop
  | .need c k, ρ => Met S ρ c ∧ k.okA P S w0 rs Q ρ
  | .cond c x y, ρ => (c.B S ρ = true → x.okA P S w0 rs Q ρ) ∧ (c.B S ρ = false → y.okA P S w0 rs Q ρ)
  | .any ns na facts k, ρ => ∀ ρ' : Env, Agree2 ns na ρ ρ' → Met S ρ' facts → k.okA P S w0 rs Q ρ'
  | .fail _, _ => False
  | .done, _ => True
  | .tight k, ρ => ρ.loose = [] ∧ k.okA P S w0 rs Q ρ
  | .ret v h, ρ => ∀ (a : Act) (w : World), v.wf S ρ → a.defers = [] → (resRun rs a.tmps).run P w = .ok (v.den S ρ w0.heap.size) w → HpOk S ρ w0 h w → Q .ret a w
  | .fall fr h, ρ => ∀ (a : Act) (w : World), FrOk S ρ w0.heap.size fr a → HpOk S ρ w0 h w → Q .normal a w
  | .out id fr h, ρ => ∀ (a : Act) (w : World), FrOk S ρ w0.heap.size fr a → HpOk S ρ w0 h w → Q (.exit id) a w
  | .stop rest all ks fr h, ρ => ∀ (a : Act) (w : World), FrOk S ρ w0.heap.size fr a → HpOk S ρ w0 h w → wpList P all.toArray (Qof P Q ks) rest a w
def Out.ok (P : Program) (S : Sig) (ρ : Env) (w0 : World) (rs : List ResultVar) (Q : Exit → Act → World → Prop) (o : Out) : Prop := o.okA P S w0 rs Q ρ
section
variable {S : Sig} {ρ : Env} {w0 : World} {P : Program} {specs : Nat → Option Spec} {rs : List ResultVar} {Q : Exit → Act → World → Prop} {B : Nat}
theorem FrOk.get {fr : List SR} {a : Act} (hf : FrOk S ρ B fr a) (t : Nat) : a.tmps.getD t undef = (getSR fr t).den S ρ B := by
  have h1 : a.tmps[t]? = (fr.map (SR.den S ρ B))[t]? := by rw [← hf.tmps]; simp
  rw [Array.getD_eq_getD_getElem?, h1]
  unfold getSR
  rw [List.getElem?_map, List.getD_eq_getElem?_getD]
  cases fr[t]? <;> rfl
theorem FrOk.agree {fr : List SR} {a : Act} (hf : FrOk S ρ B fr a) (xs : Array Operand) : Agree S ρ B (getSR fr) a xs := fun t _ => hf.get t
theorem FrOk.put {fr : List SR} {a : Act} (hf : FrOk S ρ B fr a) (d : Option Tmp) {x : SR} (hx : x.wf S ρ) : FrOk S ρ B (putSR fr d x) (a.put d (x.den S ρ B)) := by
  cases d with
  | none => exact hf
  | some d =>
    refine ⟨?_, hf.defers, ?_⟩
    · simp only [Act.put, putSR, Array.toList_setIfInBounds, List.map_set, hf.tmps]
    · intro y hy
      rcases List.mem_or_eq_of_mem_set hy with hy | rfl
      · exact hf.wf y hy
      · exact hx
theorem FrOk.truth {fr : List SR} {a : Act} (hf : FrOk S ρ B fr a) {s : Nat} {t : T} (hs : getSR fr s = .v (.one (.bool t))) {b : Bool} (hb : t.B S ρ = b) : FrOk S ρ B (setTruth fr s b) a := by
  refine ⟨?_, hf.defers, ?_⟩
  · rw [hf.tmps]
    unfold setTruth
    rw [List.map_set]
    apply List.ext_getElem?
    intro i
    rw [List.getElem?_set]
    split
    · rename_i his
      subst his
      split
      · rename_i hlt
        have hlt : s < fr.length := by simpa using hlt
        unfold getSR at hs
        rw [List.getD_eq_getElem?_getD, List.getElem?_eq_getElem hlt] at hs
        simp only [Option.getD_some] at hs
        rw [List.getElem?_map, List.getElem?_eq_getElem hlt, hs]
        simp [SR.den, SV.den, Leaf.den, ofBool_B, hb]
      · rename_i hge
        rw [List.getElem?_eq_none (by simpa using hge)]
    · rfl
  · intro y hy
    unfold setTruth at hy
    rcases List.mem_or_eq_of_mem_set hy with hy | rfl
    · exact hf.wf y hy
    · trivial
theorem qof_ret (ks : List KF) (a : Act) (w : World) (h : Q .ret a w) : Qof P Q ks .ret a w := by
  induction ks with
  | nil => exact h
  | cons k ks ih => cases k <;> exact ih
theorem qof_exit {id : Nat} : ∀ {ks : List KF} (a : Act) (w : World),
    (∀ ks', unwindS id ks = some ks' → Qof P Q ks' .normal a w → Qof P Q ks (.exit id) a w) ∧ (unwindS id ks = none → Q (.exit id) a w → Qof P Q ks (.exit id) a w)
  | [], a, w => ⟨fun ks' h => by simp [unwindS] at h, fun _ h => h⟩
  | .code c :: ks, a, w => qof_exit (ks := ks) a w
  | .again c :: ks, a, w => qof_exit (ks := ks) a w
  | .inv _ _ c :: ks, a, w => qof_exit (ks := ks) a w
  | .blk j :: ks, a, w => by
    constructor
    · intro ks' h hq
      unfold unwindS at h
      split at h
      · rename_i hij
        injection h with h
        subst h hij
        simp only [Qof, Exit.inBlock, if_true]; exact hq
      · rename_i hij
        simp only [Qof, Exit.inBlock, if_neg hij]
        exact (qof_exit (ks := ks) a w).1 ks' h hq
    · intro h hq
      unfold unwindS at h
      split at h
      · cases h
      · rename_i hij
        simp only [Qof, Exit.inBlock, if_neg hij]
        exact (qof_exit (ks := ks) a w).2 h hq
theorem resS_ok {hp : Hp} {w : World} (hh : HpOk S ρ w0 hp w) {fr : List SR} {a : Act} (hf : FrOk S ρ w0.heap.size fr a) : ∀ {rs : List ResultVar} {xs : List SV}, resS P (getSR fr) hp rs = some xs →
    (rs.mapM (resOne a.tmps)).run P w = .ok (xs.map (SV.den S ρ w0.heap.size)) w
  | [], xs, h => by simp [resS] at h; subst h; simp
  | r :: rs, xs, h => by
    unfold resS at h
    simp only [List.mapM_cons, Option.bind_eq_bind, Option.pure_def] at h
    cases r with
    | tmp t =>
      simp only at h
      split at h
      · rename_i x hx
        cases hr : resS P (getSR fr) hp rs with
        | none => unfold resS at hr; simp [hr] at h
        | some ys =>
          have hr' := hr
          unfold resS at hr
          simp [hr] at h
          subst h
          have ih := resS_ok hh hf hr'
          have e1 := hf.get t
          rw [hx] at e1
          simp only [List.mapM_cons, resOne, Sem.run_bind, Sem.run_pure, Result.andThen_ok, e1, ih]
          simp [SR.den]
      · simp at h
    | cell b t =>
      simp only at h
      split at h
      · rename_i r s d hx
        split at h
        · rename_i hu
          split at h
          · rename_i x hl
            cases hr : resS P (getSR fr) hp rs with
            | none => unfold resS at hr; simp [hr] at h
            | some ys =>
              have hr' := hr
              unfold resS at hr
              simp [hr] at h
              subst h
              have ih := resS_ok hh hf hr'
              have e1 := hf.get b
              rw [hx] at e1
              have h1 := (load_ok (P := P) hh (Option.isSome_iff_exists.1 hu) hl Met.nil).1
              simp only [Instr.loadAt, Leaf.den, Instr.sureAddr, Sem.run_bind, Sem.run_pure, Result.andThen_ok] at h1
              have h2 : (resOne a.tmps (.cell b t)).run P w = .ok (x.den S ρ w0.heap.size) w := by
                simp only [resOne, e1, SR.den, SV.den, Leaf.den, asAddr, Sem.run_bind, Sem.run_pure, Result.andThen_ok]
                exact h1
              simp only [List.mapM_cons, Sem.run_bind, Sem.run_pure, Result.andThen_ok, h2, ih]
              simp
          · simp at h
        · simp at h
      · simp at h
theorem resS_wf {hp : Hp} {w : World} (hh : HpOk S ρ w0 hp w) {g : Nat → SR} (hg : ∀ t, (g t).wf S ρ) : ∀ {rs : List ResultVar} {xs : List SV}, resS P g hp rs = some xs → ∀ x ∈ xs, x.wf S ρ
  | [], xs, h => by simp [resS] at h; subst h; simp
  | r :: rs, xs, h => by
    unfold resS at h
    simp only [List.mapM_cons, Option.bind_eq_bind, Option.pure_def] at h
    cases hr : resS P g hp rs with
    | none => unfold resS at hr; rw [hr] at h; cases r <;> simp at h
    | some ys =>
      have hr' := hr
      unfold resS at hr
      rw [hr] at h
      have ih := resS_wf hh hg hr'
      have key : ∃ y, xs = y :: ys ∧ y.wf S ρ := by
        cases r with
        | tmp t =>
          simp only at h
          split at h
          · rename_i x hx
            simp at h
            have := hg t
            rw [hx] at this
            exact ⟨x, h.symm, this⟩
          · simp at h
        | cell b t =>
          simp only at h
          split at h
          · split at h
            · rename_i hu
              split at h
              · rename_i x hl
                simp at h
                exact ⟨x, h.symm, (load_ok (P := P) hh (Option.isSome_iff_exists.1 hu) hl Met.nil).2⟩
              · simp at h
            · simp at h
          · simp at h
      obtain ⟨y, rfl, hy⟩ := key
      intro z hz
      rcases List.mem_cons.1 hz with rfl | hz
      · exact hy
      · exact ih z hz
theorem retS_wf {h : Hp} {w : World} (hh : HpOk S ρ w0 h w) {g : Nat → SR} (hg : ∀ t, (g t).wf S ρ) {v : SR} (hr : retS P g h rs = some v) : v.wf S ρ := by
  unfold retS at hr
  split at hr
  · rename_i x hx
    cases hr
    exact resS_wf hh hg hx x (by simp)
  · rename_i xs _ hx
    cases hr
    exact fun x hx' => resS_wf hh hg hx x hx'
  · cases hr
theorem retS_ok {h : Hp} {w : World} (hh : HpOk S ρ w0 h w) {fr : List SR} {a : Act} (hf : FrOk S ρ w0.heap.size fr a) {v : SR} (hr : retS P (getSR fr) h rs = some v) : (resRun rs a.tmps).run P w = .ok (v.den S ρ w0.heap.size) w := by
  unfold retS at hr
  have key : ∀ xs, resS P (getSR fr) h rs = some xs → (resRun rs a.tmps).run P w = .ok (if hx : (xs.map (SV.den S ρ w0.heap.size)).toArray.size = 1 then (xs.map (SV.den S ρ w0.heap.size)).toArray[0] else .tuple (xs.map (SV.den S ρ w0.heap.size)).toArray) w := by
    intro xs hx
    have := resS_ok (P := P) hh hf hx
    have e : resRun rs a.tmps = (do let vs ← rs.toArray.mapM (resOne a.tmps); pure (if h : vs.size = 1 then vs[0] else .tuple vs)) := rfl
    rw [e]
    simp only [Array.mapM_eq_mapM_toList, Sem.run_bind, Sem.run_map, this, Result.andThen_ok, Sem.run_pure]
  split at hr
  · rename_i x hx
    injection hr with hr
    subst hr
    rw [key _ hx]; simp [SR.den]
  · rename_i xs hne hx
    injection hr with hr
    subst hr
    rw [key _ hx]
    rw [dif_neg]
    · rfl
    · intro h1
      simp at h1
      obtain ⟨x, rfl⟩ := List.length_eq_one_iff.1 h1
      exact hne x rfl
  · cases hr
end
end
end Go.Proofs.YtljjbikbfeigdaaGreatDoor
namespace Go.Proofs.YtljjbikbfeigdaaGreatDoor
noncomputable section
open Go
section
variable {S : Sig} {ρ : Env} {w0 : World} {P : Program} {specs : Nat → Option Spec} {B : Nat}
theorem frameD_congr {D D' : Nat → Bool} : ∀ (l : List (Option Tmp × Value)) (k : Nat) (cur : List Value), (∀ i, i < l.length → D (k + i) = D' (k + i)) → frameD D k l cur = frameD D' k l cur
  | [], _, _, _ => rfl
  | e :: l, k, cur, h => by
    unfold frameD
    have h0 : D k = D' k := by simpa using h 0 (by simp)
    rw [h0]
    apply frameD_congr
    intro i hi
    have := h (i + 1) (by simpa using hi)
    rw [show k + 1 + i = k + (i + 1) from by omega]; exact this
theorem frameD_append {D : Nat → Bool} : ∀ (l : List (Option Tmp × Value)) (k : Nat) (p : Option Tmp × Value) (cur : List Value), frameD D k (l ++ [p]) cur = if D (k + l.length) then putV (frameD D k l cur) p.1 p.2 else frameD D k l cur
  | [], k, p, cur => by simp [frameD]
  | e :: l, k, p, cur => by
    simp only [List.cons_append, frameD]
    rw [frameD_append l]
    simp only [List.length_cons]
    rw [show k + 1 + l.length = k + (l.length + 1) from by omega]
theorem chain_append : ∀ {es : List Ent} {h0 h : Hp} {e : Ent}, Chain h0 es h → e.heap = h → (isEff e = false → e.r.heap = h) → Chain h0 (es ++ [e]) e.r.heap
  | [], h0, h, e, hc, h1, h2 => by
    simp only [Chain] at hc
    subst hc
    exact ⟨h1, h2, rfl⟩
  | x :: es, h0, h, e, hc, h1, h2 => by
    obtain ⟨c1, c2, c3⟩ := hc
    exact ⟨c1, c2, chain_append c3 h1 h2⟩
theorem pure_step {fr : Nat → SR} {h : Hp} {o : Oper} {r : Res} (hs : step P specs fr h o = some r) (he : opEff o.op = false) : r.heap = h := by
  obtain ⟨dst, op, type, pos, after, guard⟩ := o
  cases op <;> simp only [opEff, Bool.true_eq_false] at he <;> simp only [step, okRes, stMove, stPick, stAlloc, stBox, stBuild, stBuildSlice, stLoad, stStore, stNilCheck, stBinOp, stUnOp, stConvert, stMakeInterface, stMakeSlice, stSlice, stFieldAddr, stField, stIndexAddr, stIndex, stExtract, stTypeAssert, stCall] at hs <;>
    first
    | cases hs
    | (repeat' (split at hs)) <;> first
      | cases hs; rfl
      | cases hs
      | (rw [Option.map_eq_some_iff] at hs; obtain ⟨_, _, rfl⟩ := hs; rfl)
      | skip
theorem wantS_ok {all : List Oper} {fr : List SR} {o : Oper} {tmps : Array Value} (ht : tmps.toList = fr.map (SR.den S ρ B)) :
    (match wantS all fr o with
     | .yes => Region.wanted o (yielded all.toArray tmps) = true
     | .no => Region.wanted o (yielded all.toArray tmps) = false
     | .ask d t => getSR fr d = .v (.one (.bool t))
     | .lost => True) := by
  unfold wantS
  have hget : ∀ d, d < fr.length → tmps[d]? = some ((getSR fr d).den S ρ B) := by
    intro d hd
    have h1 : tmps[d]? = (fr.map (SR.den S ρ B))[d]? := by rw [← ht]; simp
    rw [h1, List.getElem?_map, List.getElem?_eq_getElem hd]
    unfold getSR
    rw [List.getD_eq_getElem?_getD, List.getElem?_eq_getElem hd]; rfl
  cases hg : o.guard with
  | none => simp [Region.wanted, hg]
  | some jw =>
    obtain ⟨j, want⟩ := jw
    simp only
    cases hd : (all[j]?).bind (·.dst) with
    | none => simp
    | some d =>
      simp only
      by_cases hlt : d < fr.length
      · rw [if_pos hlt]
        have hy : ∀ v, (getSR fr d).den S ρ B = v → yielded all.toArray tmps j = (match v with | .bool b => some b | _ => none) := by
          intro v hv
          unfold yielded
          have e1 : (all.toArray[j]?).bind (·.dst) = some d := by simpa using hd
          rw [e1]
          simp only [Option.bind_some]
          rw [hget d hlt, hv]
          cases v <;> rfl
        split
        all_goals rename_i heq
        all_goals (revert heq; split <;> intro heq)
        all_goals first
          | (rename_i hx; cases want <;> simp at heq <;> (have := hy _ rfl; rw [hx] at this; simp [Region.wanted, hg, this, SR.den, SV.den, Leaf.den, T.B, undef]))
          | (rename_i hx; simp at heq; obtain ⟨rfl, rfl⟩ := heq; exact hx)
          | (cases heq; done)
          | (cases heq; trivial)
          | trivial
      · rw [if_neg hlt]; simp
theorem mergeSR_den {c : T} {x y : SR} : (mergeSR c x y).den S ρ B = if c.B S ρ then x.den S ρ B else y.den S ρ B := by
  unfold mergeSR
  split
  · rename_i h; subst h; split <;> rfl
  · split
    · rename_i a b
      split
      · rename_i l hl
        unfold mergeLeaf at hl
        split at hl
        · split at hl
          · rename_i hk
            cases hl; subst hk
            simp only [SR.den, SV.den, Leaf.den, mkIte_I]
            split <;> rfl
          · cases hl
        · cases hl
          simp only [SR.den, SV.den, Leaf.den, mkBite_B]
          split <;> rfl
        · cases hl
      · rfl
    · rfl
theorem mergeSR_wf {c : T} {x y : SR} (h1 : c.B S ρ = true → x.wf S ρ) (h2 : c.B S ρ = false → y.wf S ρ) : (mergeSR c x y).wf S ρ := by
  unfold mergeSR
  split
  · rename_i h; subst h
    cases hc : c.B S ρ with
    | true => exact h1 hc
    | false => exact h2 hc
  · split
    · split
      · trivial
      · exact ⟨h1, h2⟩
    · exact ⟨h1, h2⟩
theorem mergeFr_true {c : T} (hc : c.B S ρ = true) : ∀ {l m : List SR}, l.length = m.length → (mergeFr c l m).map (SR.den S ρ B) = l.map (SR.den S ρ B)
  | [], [], _ => rfl
  | x :: l, y :: m, h => by
    simp only [mergeFr, List.map_cons, mergeSR_den, hc, if_true]
    rw [mergeFr_true hc (by simpa using h)]
  | [], _ :: _, h => by simp at h
  | _ :: _, [], h => by simp at h
theorem mergeFr_false {c : T} (hc : c.B S ρ = false) : ∀ {l m : List SR}, l.length = m.length → (mergeFr c l m).map (SR.den S ρ B) = m.map (SR.den S ρ B)
  | [], [], _ => rfl
  | x :: l, y :: m, h => by
    simp only [mergeFr, List.map_cons, mergeSR_den, hc]
    rw [mergeFr_false hc (by simpa using h)]
    rfl
  | [], _ :: _, h => by simp at h
  | _ :: _, [], h => by simp at h
theorem mergeFr_wf {c : T} : ∀ {l m : List SR}, (c.B S ρ = true → ∀ x ∈ l, x.wf S ρ) → (c.B S ρ = false → ∀ x ∈ m, x.wf S ρ) → ∀ x ∈ mergeFr c l m, x.wf S ρ
  | [], _, _, _, z, hz => by simp [mergeFr] at hz
  | _ :: _, [], _, _, z, hz => by simp [mergeFr] at hz
  | x :: l, y :: m, h1, h2, z, hz => by
    simp only [mergeFr, List.mem_cons] at hz
    rcases hz with rfl | hz
    · exact mergeSR_wf (fun h => h1 h x (by simp)) (fun h => h2 h y (by simp))
    · exact mergeFr_wf (fun h q hq => h1 h q (by simp [hq])) (fun h q hq => h2 h q (by simp [hq])) z hz
theorem FrOk.merge_true {c : T} (hc : c.B S ρ = true) {l m : List SR} (hl : l.length = m.length) {a : Act} (hf : FrOk S ρ B l a) : FrOk S ρ B (mergeFr c l m) a :=
  ⟨by rw [mergeFr_true hc hl]; exact hf.tmps, hf.defers, mergeFr_wf (fun _ => hf.wf) (fun h => by rw [hc] at h; cases h)⟩
theorem FrOk.merge_false {c : T} (hc : c.B S ρ = false) {l m : List SR} (hl : l.length = m.length) {a : Act} (hf : FrOk S ρ B m a) : FrOk S ρ B (mergeFr c l m) a :=
  ⟨by rw [mergeFr_false hc hl]; exact hf.tmps, hf.defers, mergeFr_wf (fun h => by rw [hc] at h; cases h) (fun _ => hf.wf)⟩
end
end
end Go.Proofs.YtljjbikbfeigdaaGreatDoor
namespace Go.Proofs.YtljjbikbfeigdaaGreatDoor
noncomputable section
open Go
/-- A summary of function f of which not all is known. -/
def RSpecOk (P : Program) (S : Sig) (f : FuncId) (s : RSpec) : Prop :=
  ∀ (ρ : Env) (w0 w : World) (h : Hp) (args : List SR) (r : RRes), s args h = some r → Met S ρ r.need → (∀ x ∈ args, x.wf S ρ) → HpOk S ρ w0 h w →
    Calls P f (args.map (SR.den S ρ w0.heap.size)).toArray w (fun e w' => ∃ ρ', Agree2 r.ns r.na ρ ρ' ∧ Met S ρ' r.facts ∧ r.val.wf S ρ' ∧ e = .returned (r.val.den S ρ' w0.heap.size) ∧ HpOk S ρ' w0 r.heap w')
/-- The operation yields what is told, for some choice of the new names. -/
def RDoes (P : Program) (S : Sig) (ρ : Env) (w0 : World) (a : Act) (w : World) (o : Oper) (r : RRes) : Prop :=
  ∀ (K : Act → World → Prop) (Q : Exit → Act → World → Prop), (∀ ρ' w', Agree2 r.ns r.na ρ ρ' → Met S ρ' r.facts → r.val.wf S ρ' → HpOk S ρ' w0 r.heap w' → K (a.put o.dst (r.val.den S ρ' w0.heap.size)) w') → o.wp P a w K Q
section
variable {S : Sig} {ρ : Env} {w0 w : World} {h : Hp} {P : Program} {B : Nat}
def upd {α : Type} (f : Nat → α) (n : Nat) (x : α) : Nat → α := fun k => if k = n then x else f k
theorem mem_delB : ∀ {l : List (Ref × Blk)} {r : Ref} {x : Ref × Blk}, x ∈ delB l r → x ∈ l
  | [], _, _, h => by simp [delB] at h
  | (q, b) :: l, r, x, h => by
    unfold delB at h
    split at h
    · exact List.mem_cons_of_mem _ h
    · rcases List.mem_cons.1 h with h | h
      · rw [h]; simp
      · exact List.mem_cons_of_mem _ (mem_delB h)
theorem delB_sub (f : Ref → Nat) : ∀ (l : List (Ref × Blk)) (r : Ref), ((delB l r).map fun x => f x.1).Sublist (l.map fun x => f x.1)
  | [], _ => List.Sublist.slnil
  | (q, b) :: l, r => by
    unfold delB
    split
    · exact List.Sublist.cons _ (List.Sublist.refl _)
    · exact List.Sublist.cons_cons _ (delB_sub f l r)
theorem delB_ne (f : Ref → Nat) : ∀ {l : List (Ref × Blk)} {r : Ref} {b : Blk} {x : Ref × Blk}, (l.map fun x => f x.1).Nodup → findB l r = some b → x ∈ delB l r → f x.1 ≠ f r
  | [], _, _, _, _, _, h => by simp [delB] at h
  | (q, c) :: l, r, b, x, hn, hf, h => by
    simp only [List.map_cons, List.nodup_cons] at hn
    unfold findB at hf
    unfold delB at h
    split at h
    · rename_i hq
      have := Ref.code_inj hq
      subst this
      intro e
      apply hn.1
      rw [← e]; exact List.mem_map.2 ⟨x, h, rfl⟩
    · rename_i hq
      rw [hq] at hf
      simp only [Bool.false_eq_true, if_false] at hf
      rcases List.mem_cons.1 h with h | h
      · subst h
        intro e
        apply hn.1
        rw [e]; exact List.mem_map.2 ⟨(r, b), findB_mem hf, rfl⟩
      · exact delB_ne f hn.2 hf h
theorem delB_or : ∀ {l : List (Ref × Blk)} {r : Ref} {x : Ref × Blk}, x ∈ l → x ∈ delB l r ∨ x.1 = r
  | [], _, _, h => by simp at h
  | (q, c) :: l, r, x, h => by
    unfold delB
    split
    · rename_i hq
      have := Ref.code_inj hq
      rcases List.mem_cons.1 h with h | h
      · right; rw [h]; exact this
      · left; exact h
    · rcases List.mem_cons.1 h with h | h
      · left; rw [h]; simp
      · rcases delB_or (r := r) h with h | h
        · left; simp [h]
        · right; exact h
theorem clearOw_den {S : Sig} {ρ ρ' : Env} {ns : Nat} {na : Nat} {ow : Option OW} (hA : Agree2 ns na ρ ρ') (hc : clearOw ns ow = true) {o : OW} (ho : ow = some o) : ρ'.v o.v = ρ.v o.v ∧ o.a.A S ρ' = o.a.A S ρ := by
  subst ho
  simp only [clearOw, Bool.and_eq_true] at hc
  exact ⟨hA.v _ (Nat.le_of_ble_eq_true hc.1), (T.clear_den (S := S) hA hc.2).2.2⟩
/-- The memory behind an append that found no room: a new block, under a new name. -/
theorem append_new (hh : HpOk S ρ w0 h w) {rw : List (Ref × Blk)} (hsub : ∀ x ∈ rw, x ∈ h.rw) (hnd : (rw.map fun x => x.1.blk ρ w0.heap.size).Nodup)
    (hdrop : ∀ x ∈ h.rw, x ∈ rw ∨ w0.heap.size ≤ x.1.blk ρ w0.heap.size) (c1 : clearRw h.nv h.na rw = true) (c2 : clearRo h.nv h.na h.ro = true) (c4 : clearOw h.nv h.ow = true)
    {pg : List Seg} (hpg : segsWf S ρ pg) (c3 : pg.all (Seg.clear h.nv h.na) = true) {e : Nat} {z : List Leaf} (hz : ∀ ρ', z.map (Leaf.den S ρ' w0.heap.size) = z.map (Leaf.den S ρ w0.heap.size)) {len cap : Nat} (hcap : len ≤ cap) :
    ∃ ρ', Agree2 h.nv h.na ρ ρ' ∧ ρ'.i h.nv = cap ∧ (Ref.own h.nv).blk ρ' w0.heap.size = w.heap.size ∧
      HpOk S ρ' w0 { h with rw := rw ++ [(.own h.nv, ⟨e, joinCells pg ++ [.tail z (.sub (.iv h.nv) (.lit (len : Nat)))]⟩)], nv := h.nv + 1 }
        (w.drew.alloc (.cells (segsDen S ρ w0.heap.size pg ++ (List.replicate (cap - len) (z.map (Leaf.den S ρ w0.heap.size))).flatten).toArray e)) := by
  have hA : Agree2 h.nv h.na ρ { ρ with i := upd ρ.i h.nv cap, blk := upd ρ.blk h.nv (ρ.nb h.na), nb := fun k => if k < h.na then ρ.nb k else ρ.nb k + 1 } := by
    refine ⟨?_, fun _ _ => rfl, fun _ _ => rfl, fun _ _ => rfl, fun _ _ => rfl, ?_, fun _ _ => rfl, fun _ _ => rfl, ?_, rfl⟩
    · intro k hk; simp only [upd]; rw [if_neg (by omega)]
    · intro k hk; simp only [upd]; rw [if_neg (by omega)]
    · intro k hk; simp only; rw [if_pos hk]
  have hown : (Ref.own h.nv).blk { ρ with i := upd ρ.i h.nv cap, blk := upd ρ.blk h.nv (ρ.nb h.na), nb := fun k => if k < h.na then ρ.nb k else ρ.nb k + 1 } w0.heap.size = w.heap.size := by
    simp only [Ref.blk, upd, if_true]; exact hh.size.symm
  refine ⟨{ ρ with i := upd ρ.i h.nv cap, blk := upd ρ.blk h.nv (ρ.nb h.na), nb := fun k => if k < h.na then ρ.nb k else ρ.nb k + 1 }, hA, by simp [upd], hown, ?_⟩
  generalize hρ : ({ ρ with i := upd ρ.i h.nv cap, blk := upd ρ.blk h.nv (ρ.nb h.na), nb := fun k => if k < h.na then ρ.nb k else ρ.nb k + 1 } : Env) = ρ' at hA hown
  have hi : ρ'.i h.nv = cap := by subst hρ; simp [upd]
  have hnb : ∀ k, h.na ≤ k → ρ'.nb k = ρ.nb k + 1 := by subst hρ; intro k hk; simp only; rw [if_neg (by omega)]
  unfold clearRw at c1
  unfold clearRo at c2
  rw [List.all_eq_true] at c1 c2
  have k1 : ∀ x ∈ rw, x.1.blk ρ' w0.heap.size = x.1.blk ρ w0.heap.size ∧ x.1.off ρ' = x.1.off ρ ∧ segsDen S ρ' w0.heap.size x.2.segs = segsDen S ρ w0.heap.size x.2.segs ∧ (segsWf S ρ x.2.segs → segsWf S ρ' x.2.segs) := by
    intro x hx
    have := c1 x hx
    simp only [Bool.and_eq_true] at this
    exact ⟨(Ref.clear_den hA this.1).1, (Ref.clear_den hA (B := w0.heap.size) this.1).2, (segs_clear hA this.2).1, (segs_clear (B := w0.heap.size) hA this.2).2⟩
  have k2 : ∀ x ∈ h.ro, x.1.blk ρ' w0.heap.size = x.1.blk ρ w0.heap.size ∧ x.1.off ρ' = x.1.off ρ ∧ x.2.2.A S ρ' = x.2.2.A S ρ := by
    intro x hx
    have := c2 x hx
    simp only [Bool.and_eq_true] at this
    exact ⟨(Ref.clear_den hA this.1).1, (Ref.clear_den hA (B := w0.heap.size) this.1).2, (T.clear_den hA this.2).2.2⟩
  have hd := hh.drew
  have hlt : ∀ x ∈ h.rw, x.1.blk ρ w0.heap.size < w.heap.size := fun x hx => (Array.getElem?_eq_some_iff.1 (hh.rw_ x hx)).1
  have hold : ∀ (o : Obj) (i : Nat), i < w.heap.size → (w.drew.alloc o).heap[i]? = w.heap[i]? := fun o i hi => heap_alloc_old w.drew o hi
  have hsegs : segsDen S ρ' w0.heap.size (joinCells pg ++ [.tail z (.sub (.iv h.nv) (.lit (len : Nat)))]) = segsDen S ρ w0.heap.size pg ++ (List.replicate (cap - len) (z.map (Leaf.den S ρ w0.heap.size))).flatten := by
    rw [segsDen_append, (joinCells_den (S := S) (ρ := ρ') (B := w0.heap.size) pg).1, (segs_clear hA c3).1, segsDen_cons, segsDen_nil, List.append_nil]
    simp only [Seg.den, T.I, hi, hz ρ']
    congr 3
    omega
  have hnew : ∀ x ∈ rw ++ [(Ref.own h.nv, (⟨e, joinCells pg ++ [.tail z (.sub (.iv h.nv) (.lit (len : Nat)))]⟩ : Blk))], x ∈ rw ∨ x = (Ref.own h.nv, (⟨e, joinCells pg ++ [.tail z (.sub (.iv h.nv) (.lit (len : Nat)))]⟩ : Blk)) := fun x hx => by
    simpa using hx
  refine ⟨?_, ?_, ?_, ?_, ?_, ?_, ?_, ?_, ?_, ?_, ?_, hd.os, hd.tape, hd.output⟩
  · intro x hx
    rcases hnew x hx with hx | rfl
    · rw [(k1 x hx).1, (k1 x hx).2.2.1, hold _ _ (hlt x (hsub x hx))]; exact hh.rw_ x (hsub x hx)
    · simp only [hown, hsegs]
      exact heap_alloc_new w.drew _
  · intro x hx
    rcases hnew x hx with hx | rfl
    · exact (k1 x hx).2.2.2 (hh.wf x (hsub x hx))
    · refine segsWf_append.2 ⟨(joinCells_den (S := S) (ρ := ρ') (B := w0.heap.size) pg).2 ((segs_clear (B := w0.heap.size) hA c3).2 hpg), fun g hg => ?_⟩
      simp only [List.mem_singleton] at hg
      subst hg; trivial
  · intro x hx
    rcases hnew x hx with hx | rfl
    · rw [(k1 x hx).2.1]; exact hh.off x (hsub x hx)
    · rfl
  · rw [List.map_append, List.nodup_append]
    refine ⟨?_, by simp, ?_⟩
    · rw [List.map_congr_left fun x hx => (k1 x hx).1]; exact hnd
    · intro p hp q hq e'
      obtain ⟨x, hx, rfl⟩ := List.mem_map.1 hp
      simp only [List.map_cons, List.map_nil, List.mem_singleton] at hq
      rw [(k1 x hx).1] at e'
      have := hlt x (hsub x hx)
      rw [hown] at hq
      omega
  · intro x hx j v hv
    rw [(k2 x hx).1, (k2 x hx).2.1]
    rw [(k2 x hx).2.2] at hv
    have hc := hh.ro x hx j v hv
    rw [World.cell?_alloc_lt w.drew _ _ (World.block_lt_of_cell? w _ hc)]
    exact hc
  · intro x hx y hy
    rw [(k2 x hx).1]
    rcases hnew y hy with hy | rfl
    · rw [(k1 y hy).1]; exact hh.apart x hx y (hsub y hy)
    · simp only [hown]
      have := hh.rolt x hx
      have := hh.size
      omega
  · intro x hx
    rw [(k2 x hx).1]; exact hh.rolt x hx
  · simp only [World.size_alloc]
    rw [hnb h.na (Nat.le_refl _)]
    have := hh.size
    show w.heap.size + 1 = _
    omega
  · intro k hk
    rw [hnb k hk, hnb (k + 1) (Nat.le_succ_of_le hk), hh.nbs k hk]
  · intro i hi' hlo hne
    have := hh.size
    rw [hold _ i (by omega)]
    refine hh.frame i hi' (by rw [hA.loose] at hlo; exact hlo) fun x hx e' => ?_
    rcases hdrop x hx with hx' | hge
    · exact hne x (List.mem_append.2 (.inl hx')) (by rw [(k1 x hx').1]; exact e')
    · omega
  · intro o ho
    have hcl := clearOw_den (S := S) hA c4 ho
    rcases hh.own o ho with h' | ⟨p, cp, q1, q2, q3, q4, q5, q6⟩
    · exact .inl ⟨by rw [hcl.1]; exact h'.1, by rw [hcl.2]; exact h'.2⟩
    · have hp : p < w.heap.size := (Array.getElem?_eq_some_iff.1 q3).1
      refine .inr ⟨p, cp, by rw [hcl.1, hcl.2]; exact q1, by rw [hcl.2]; exact q2, by rw [hcl.2, hold _ p hp]; exact q3, by rw [hA.loose]; exact q4, fun x hx => ?_, fun x hx => by rw [(k2 x hx).1]; exact q6 x hx⟩
      rcases hnew x hx with hx | rfl
      · rw [(k1 x hx).1]; exact q5 x (hsub x hx)
      · simp only [hown]; omega
/-- The memory behind an append that found room: the same block, under a new name. -/
theorem append_here (hh : HpOk S ρ w0 h w) {q : Nat} {b : Blk} (hb : findB h.rw (.own q) = some b) (c1 : clearRw h.nv h.na (delB h.rw (.own q)) = true) (c2 : clearRo h.nv h.na h.ro = true) (c4 : clearOw h.nv h.ow = true)
    {pg : List Seg} (hpg : segsWf S ρ pg) (c3 : pg.all (Seg.clear h.nv h.na) = true) {z : List Leaf} (hz : ∀ ρ', z.map (Leaf.den S ρ' w0.heap.size) = z.map (Leaf.den S ρ w0.heap.size)) {len cap : Nat} :
    ∃ ρ', Agree2 h.nv h.na ρ ρ' ∧ ρ'.i h.nv = cap ∧ (Ref.own h.nv).blk ρ' w0.heap.size = (Ref.own q).blk ρ w0.heap.size ∧
      HpOk S ρ' w0 { h with rw := delB h.rw (.own q) ++ [(.own h.nv, ⟨b.ty, joinCells pg ++ [.tail z (.sub (.iv h.nv) (.lit (len : Nat)))]⟩)], nv := h.nv + 1 }
        (w.setRow ((Ref.own q).blk ρ w0.heap.size) (segsDen S ρ w0.heap.size pg ++ (List.replicate (cap - len) (z.map (Leaf.den S ρ w0.heap.size))).flatten).toArray) := by
  have hA : Agree2 h.nv h.na ρ { ρ with i := upd ρ.i h.nv cap, blk := upd ρ.blk h.nv (ρ.blk q) } := by
    refine ⟨?_, fun _ _ => rfl, fun _ _ => rfl, fun _ _ => rfl, fun _ _ => rfl, ?_, fun _ _ => rfl, fun _ _ => rfl, fun _ _ => rfl, rfl⟩
    · intro k hk; simp only [upd]; rw [if_neg (by omega)]
    · intro k hk; simp only [upd]; rw [if_neg (by omega)]
  refine ⟨{ ρ with i := upd ρ.i h.nv cap, blk := upd ρ.blk h.nv (ρ.blk q) }, hA, by simp [upd], by simp [Ref.blk, upd], ?_⟩
  have hown : (Ref.own h.nv).blk { ρ with i := upd ρ.i h.nv cap, blk := upd ρ.blk h.nv (ρ.blk q) } w0.heap.size = (Ref.own q).blk ρ w0.heap.size := by simp [Ref.blk, upd]
  generalize hρ : ({ ρ with i := upd ρ.i h.nv cap, blk := upd ρ.blk h.nv (ρ.blk q) } : Env) = ρ' at hA hown
  have hi : ρ'.i h.nv = cap := by subst hρ; simp [upd]
  have hnb : ρ'.nb = ρ.nb := by subst hρ; rfl
  unfold clearRw at c1
  unfold clearRo at c2
  rw [List.all_eq_true] at c1 c2
  have hsub : ∀ x ∈ delB h.rw (.own q), x ∈ h.rw := fun x hx => mem_delB hx
  have hne : ∀ x ∈ delB h.rw (.own q), x.1.blk ρ w0.heap.size ≠ (Ref.own q).blk ρ w0.heap.size := fun x hx => delB_ne (fun r => r.blk ρ w0.heap.size) hh.nd hb hx
  have hmem := findB_mem hb
  have hrow := hh.rw_ _ hmem
  simp only at hrow
  have k1 : ∀ x ∈ delB h.rw (.own q), x.1.blk ρ' w0.heap.size = x.1.blk ρ w0.heap.size ∧ x.1.off ρ' = x.1.off ρ ∧ segsDen S ρ' w0.heap.size x.2.segs = segsDen S ρ w0.heap.size x.2.segs ∧ (segsWf S ρ x.2.segs → segsWf S ρ' x.2.segs) := by
    intro x hx
    have := c1 x hx
    simp only [Bool.and_eq_true] at this
    exact ⟨(Ref.clear_den hA this.1).1, (Ref.clear_den hA (B := w0.heap.size) this.1).2, (segs_clear hA this.2).1, (segs_clear (B := w0.heap.size) hA this.2).2⟩
  have k2 : ∀ x ∈ h.ro, x.1.blk ρ' w0.heap.size = x.1.blk ρ w0.heap.size ∧ x.1.off ρ' = x.1.off ρ ∧ x.2.2.A S ρ' = x.2.2.A S ρ := by
    intro x hx
    have := c2 x hx
    simp only [Bool.and_eq_true] at this
    exact ⟨(Ref.clear_den hA this.1).1, (Ref.clear_den hA (B := w0.heap.size) this.1).2, (T.clear_den hA this.2).2.2⟩
  have hsegs : segsDen S ρ' w0.heap.size (joinCells pg ++ [.tail z (.sub (.iv h.nv) (.lit (len : Nat)))]) = segsDen S ρ w0.heap.size pg ++ (List.replicate (cap - len) (z.map (Leaf.den S ρ w0.heap.size))).flatten := by
    rw [segsDen_append, (joinCells_den (S := S) (ρ := ρ') (B := w0.heap.size) pg).1, (segs_clear hA c3).1, segsDen_cons, segsDen_nil, List.append_nil]
    simp only [Seg.den, T.I, hi, hz ρ']
    congr 3
    omega
  have hnew : ∀ x ∈ delB h.rw (.own q) ++ [(Ref.own h.nv, (⟨b.ty, joinCells pg ++ [.tail z (.sub (.iv h.nv) (.lit (len : Nat)))]⟩ : Blk))], x ∈ delB h.rw (.own q) ∨ x = (Ref.own h.nv, (⟨b.ty, joinCells pg ++ [.tail z (.sub (.iv h.nv) (.lit (len : Nat)))]⟩ : Blk)) := fun x hx => by
    simpa using hx
  have hge : w0.heap.size ≤ (Ref.own q).blk ρ w0.heap.size := by simp only [Ref.blk]; omega
  refine ⟨?_, ?_, ?_, ?_, ?_, ?_, ?_, ?_, ?_, ?_, ?_, hh.os, hh.tape, hh.output⟩
  · intro x hx
    rcases hnew x hx with hx | rfl
    · rw [(k1 x hx).1, (k1 x hx).2.2.1, setRow_other w _ _ _ (hne x hx)]; exact hh.rw_ x (hsub x hx)
    · simp only [hown, hsegs]
      exact setRow_heap w _ _ _ _ _ hrow
  · intro x hx
    rcases hnew x hx with hx | rfl
    · exact (k1 x hx).2.2.2 (hh.wf x (hsub x hx))
    · refine segsWf_append.2 ⟨(joinCells_den (S := S) (ρ := ρ') (B := w0.heap.size) pg).2 ((segs_clear (B := w0.heap.size) hA c3).2 hpg), fun g hg => ?_⟩
      simp only [List.mem_singleton] at hg
      subst hg; trivial
  · intro x hx
    rcases hnew x hx with hx | rfl
    · rw [(k1 x hx).2.1]; exact hh.off x (hsub x hx)
    · rfl
  · rw [List.map_append, List.nodup_append]
    refine ⟨?_, by simp, ?_⟩
    · rw [List.map_congr_left fun x hx => (k1 x hx).1]
      exact List.Nodup.sublist (delB_sub (fun r => r.blk ρ w0.heap.size) h.rw (.own q)) hh.nd
    · intro p hp y hq e'
      obtain ⟨x, hx, rfl⟩ := List.mem_map.1 hp
      simp only [List.map_cons, List.map_nil, List.mem_singleton] at hq
      rw [(k1 x hx).1] at e'
      rw [hown] at hq
      exact hne x hx (e'.trans hq)
  · intro x hx j v hv
    rw [(k2 x hx).1, (k2 x hx).2.1]
    rw [(k2 x hx).2.2] at hv
    have hc := hh.ro x hx j v hv
    rw [World.cell?_of_block (w := w) (setRow_other w _ _ _ (hh.apart x hx _ hmem))]
    exact hc
  · intro x hx y hy
    rw [(k2 x hx).1]
    rcases hnew y hy with hy | rfl
    · rw [(k1 y hy).1]; exact hh.apart x hx y (hsub y hy)
    · simp only [hown]; exact hh.apart x hx _ hmem
  · intro x hx
    rw [(k2 x hx).1]; exact hh.rolt x hx
  · rw [hnb]
    have := hh.size
    simpa using this
  · rw [hnb]; exact hh.nbs
  · intro i hi' hlo hne'
    rw [setRow_other w _ _ _ (by omega)]
    refine hh.frame i hi' (by rw [hA.loose] at hlo; exact hlo) fun x hx e' => ?_
    rcases delB_or (r := .own q) hx with hx' | hx'
    · exact hne' x (List.mem_append.2 (.inl hx')) (by rw [(k1 x hx').1]; exact e')
    · rw [hx'] at e'; omega
  · intro o ho
    have hcl := clearOw_den (S := S) hA c4 ho
    rcases hh.own o ho with h' | ⟨p, cp, q1, q2, q3, q4, q5, q6⟩
    · exact .inl ⟨by rw [hcl.1]; exact h'.1, by rw [hcl.2]; exact h'.2⟩
    · refine .inr ⟨p, cp, by rw [hcl.1, hcl.2]; exact q1, by rw [hcl.2]; exact q2, by rw [hcl.2, setRow_other w _ _ _ (fun e => q5 _ hmem e.symm)]; exact q3, by rw [hA.loose]; exact q4, fun x hx => ?_, fun x hx => by rw [(k2 x hx).1]; exact q6 x hx⟩
      rcases hnew x hx with hx | rfl
      · rw [(k1 x hx).1]; exact q5 x (hsub x hx)
      · simp only [hown]; exact q5 _ hmem
end
end
end Go.Proofs.YtljjbikbfeigdaaGreatDoor
