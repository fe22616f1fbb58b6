/- Part of the proof of FnGrayEdgesCardSaid: The symbolic walk of a piece of code is sound: what its answer asks for is enough. -/
import Derived.Test.YtljjbikbfeigdaaGreatDoorGe07
set_option linter.all false
namespace Go.Proofs.YtljjbikbfeigdaaGreatDoor
noncomputable section
open Go
/-- The frame is as told whatever the new names stand for. -/
theorem FrOk.clear {S : Sig} {ρ ρ' : Env} {B : Nat} {ns : Nat} {na : Nat} {fr : List SR} {a : Act} (hf : FrOk S ρ B fr a) (hA : Agree2 ns na ρ ρ') (hc : fr.all (SR.clear ns na) = true) : FrOk S ρ' B fr a := by
  rw [List.all_eq_true] at hc
  refine ⟨?_, hf.defers, fun x hx => (SR.clear_den (B := B) hA (hc x hx)).2 (hf.wf x hx)⟩
  rw [hf.tmps]
  exact List.map_congr_left fun x hx => (SR.clear_den hA (hc x hx)).1.symm
/-- What has been shown of a region that draws its order, as far as the walk has come. -/
structure SoFar (P : Program) (specs : Nat → Option Spec) (S : Sig) (ρ : Env) (B : Nat) (h0 : Hp) (all : List Oper) (es : List Ent) (init : List Value) (fr : List SR) (h : Hp) (ex : Nat) : Prop where
  frs : ∀ (j : Nat) (e : Ent), es[j]? = some e → e.fr.map (SR.den S ρ B) = frameD (fun i => decide (i < j)) 0 (pairsOf S ρ B es) init
  want : ∀ (j : Nat) (e : Ent), es[j]? = some e → Region.wanted e.o (yielded all.toArray (frameD (fun i => decide (i < j)) 0 (pairsOf S ρ B es) init).toArray) = e.want
  st : ∀ (j : Nat) (e : Ent), es[j]? = some e → j ≠ ex → e.want = true → step P specs (getSR e.fr) e.heap e.o = some e.r ∧ Met S ρ e.r.need ∧ ∀ x ∈ e.fr, x.wf S ρ
  no : ∀ (j : Nat) (e : Ent), es[j]? = some e → e.want = false → e.r.val = .v (.one .undef) ∧ e.r.need = []
  chain : Chain h0 es h
  now : fr.map (SR.den S ρ B) = frameD (fun i => decide (i < es.length)) 0 (pairsOf S ρ B es) init
  wf : ∀ x ∈ fr, x.wf S ρ
section
variable {S : Sig} {ρ : Env} {w0 : World} {P : Program} {specs : Nat → Option Spec} {rs : List ResultVar} {B : Nat}
theorem pairsOf_append (es : List Ent) (e : Ent) : pairsOf S ρ B (es ++ [e]) = pairsOf S ρ B es ++ [(e.o.dst, e.r.val.den S ρ B)] := by simp [pairsOf]
theorem pairsOf_length (es : List Ent) : (pairsOf S ρ B es).length = es.length := by simp [pairsOf]
theorem SoFar.more {h0 h : Hp} {all : List Oper} {es : List Ent} {init : List Value} {fr : List SR} {ex : Nat} (sf : SoFar P specs S ρ B h0 all es init fr h ex) {e : Ent} (hfr : e.fr = fr) (hheap : e.heap = h)
    (hw : Region.wanted e.o (yielded all.toArray (fr.map (SR.den S ρ B)).toArray) = e.want)
    (hst : es.length ≠ ex → e.want = true → step P specs (getSR fr) h e.o = some e.r ∧ Met S ρ e.r.need) (hch : e.want = true → isEff e = false → e.r.heap = h) (hno : e.want = false → e.r.val = .v (.one .undef) ∧ e.r.need = [] ∧ e.r.heap = h) (hwf : e.r.val.wf S ρ) :
    SoFar P specs S ρ B h0 all (es ++ [e]) init (putSR fr e.o.dst e.r.val) e.r.heap ex := by
  have early : ∀ j, j ≤ es.length → frameD (fun i => decide (i < j)) 0 (pairsOf S ρ B (es ++ [e])) init = frameD (fun i => decide (i < j)) 0 (pairsOf S ρ B es) init := by
    intro j hj
    rw [pairsOf_append, frameD_append, pairsOf_length]
    rw [if_neg (by simp; omega)]
  have get : ∀ j x, (es ++ [e])[j]? = some x → (es[j]? = some x ∧ j < es.length) ∨ (j = es.length ∧ x = e) := by
    intro j x hx
    rcases Nat.lt_trichotomy j es.length with hlt | heq | hgt
    · left; rw [List.getElem?_append_left hlt] at hx; exact ⟨hx, hlt⟩
    · right; subst heq; simp at hx; exact ⟨rfl, hx.symm⟩
    · rw [List.getElem?_eq_none (by simp; omega)] at hx; cases hx
  refine ⟨?_, ?_, ?_, ?_, ?_, ?_, ?_⟩
  · intro j x hx
    rcases get j x hx with ⟨h1, h2⟩ | ⟨rfl, rfl⟩
    · rw [early j (by omega)]; exact sf.frs j x h1
    · rw [early _ (Nat.le_refl _), hfr]; exact sf.now
  · intro j x hx
    rcases get j x hx with ⟨h1, h2⟩ | ⟨rfl, rfl⟩
    · rw [early j (by omega)]; exact sf.want j x h1
    · rw [early _ (Nat.le_refl _), ← sf.now]; exact hw
  · intro j x hx hex hwt
    rcases get j x hx with ⟨h1, h2⟩ | ⟨rfl, rfl⟩
    · exact sf.st j x h1 hex hwt
    · rw [hfr, hheap]; exact ⟨(hst hex hwt).1, (hst hex hwt).2, sf.wf⟩
  · intro j x hx hwt
    rcases get j x hx with ⟨h1, h2⟩ | ⟨rfl, rfl⟩
    · exact sf.no j x h1 hwt
    · exact ⟨(hno hwt).1, (hno hwt).2.1⟩
  · refine chain_append sf.chain hheap fun he => ?_
    cases hwt : e.want with
    | false => exact (hno hwt).2.2
    | true => exact hch hwt he
  · rw [pairsOf_append, frameD_append, pairsOf_length]
    rw [if_pos (by simp)]
    have e1 : frameD (fun i => decide (i < (es ++ [e]).length)) 0 (pairsOf S ρ B es) init = frameD (fun i => decide (i < es.length)) 0 (pairsOf S ρ B es) init := by
      apply frameD_congr
      intro i hi
      rw [pairsOf_length] at hi
      simp; omega
    rw [e1, ← sf.now]
    unfold putSR putV
    cases e.o.dst with
    | none => rfl
    | some d => simp [List.map_set]
  · intro x hx
    unfold putSR at hx
    split at hx
    · rcases List.mem_or_eq_of_mem_set hx with hx | rfl
      · exact sf.wf x hx
      · exact hwf
    · exact sf.wf x hx
theorem eff_heap {fr : List SR} {h : Hp} {e : Ent} (hfr : e.heap = h) (hst : step P specs (getSR fr) h e.o = some e.r) (hwt : e.want = true) (he : isEff e = false) : e.r.heap = h := by
  unfold isEff at he
  rw [hwt] at he
  simp only [Bool.true_and, Bool.and_eq_false_iff] at he
  rcases he with he | he
  · exact pure_step hst he
  · rw [← hfr]; simpa using he
theorem SoFar.start {h : Hp} {all : List Oper} {fr : List SR} {ex : Nat} (hw : ∀ x ∈ fr, x.wf S ρ) : SoFar P specs S ρ B h all [] (fr.map (SR.den S ρ B)) fr h ex :=
  ⟨fun _ _ h => by simp at h, fun _ _ h => by simp at h, fun _ _ h => by simp at h, fun _ _ h => by simp at h, rfl, rfl, hw⟩
theorem SoFar.truth {h0 h : Hp} {all : List Oper} {es : List Ent} {init : List Value} {fr : List SR} {ex : Nat} (sf : SoFar P specs S ρ B h0 all es init fr h ex) {s : Nat} {t : T} (hs : getSR fr s = .v (.one (.bool t))) {b : Bool} (hb : t.B S ρ = b) :
    SoFar P specs S ρ B h0 all es init (setTruth fr s b) h ex := by
  have ht := FrOk.truth (B := B) (a := { tmps := (fr.map (SR.den S ρ B)).toArray, defers := [] }) ⟨by simp, rfl, sf.wf⟩ hs hb
  refine ⟨sf.frs, sf.want, sf.st, sf.no, sf.chain, ?_, ht.wf⟩
  rw [← ht.tmps]; exact sf.now
def Task.good : Task → Bool
  | .code c => drawsOk c
  | .pop => true
  | .ops _ _ => true
  | .draw _ all _ _ => staticOk all
def ksGood : List KF → Bool
  | [] => true
  | .code c :: ks => drawsOk c && ksGood ks
  | .again c :: ks => drawsOk c && ksGood ks
  | .inv _ _ c :: ks => drawsOk c && ksGood ks
  | .blk _ :: ks => ksGood ks
theorem ksGood_unwind {id : Nat} : ∀ {ks ks' : List KF}, ksGood ks = true → unwindS id ks = some ks' → ksGood ks' = true
  | [], _, _, h => by simp [unwindS] at h
  | .code c :: ks, ks', hg, h => by
    simp only [ksGood, Bool.and_eq_true] at hg
    exact ksGood_unwind hg.2 h
  | .again c :: ks, ks', hg, h => by
    simp only [ksGood, Bool.and_eq_true] at hg
    exact ksGood_unwind hg.2 h
  | .inv _ _ c :: ks, ks', hg, h => by
    simp only [ksGood, Bool.and_eq_true] at hg
    exact ksGood_unwind hg.2 h
  | .blk j :: ks, ks', hg, h => by
    unfold unwindS at h
    split at h
    · cases h; exact hg
    · exact ksGood_unwind (by simpa [ksGood] using hg) h
def Task.goal (P : Program) (specs : Nat → Option Spec) (S : Sig) (ρ : Env) (w0 : World) (Q : Exit → Act → World → Prop) : Task → List KF → List SR → Hp → Prop
  | .code c, ks, fr, h => ∀ (a : Act) (w : World), FrOk S ρ w0.heap.size fr a → HpOk S ρ w0 h w → c.wp P (Qof P Q ks) a w
  | .pop, ks, fr, h => ∀ (a : Act) (w : World), FrOk S ρ w0.heap.size fr a → HpOk S ρ w0 h w → Qof P Q ks .normal a w
  | .ops rest all, ks, fr, h => ∀ (a : Act) (w : World), FrOk S ρ w0.heap.size fr a → HpOk S ρ w0 h w → wpList P all.toArray (Qof P Q ks) rest a w
  | .draw rest all es h0, ks, fr, h => ∀ (init : List Value) (w : World), HpOk S ρ w0 h w → es.map (·.o) ++ rest = all → SoFar P specs S ρ w0.heap.size h0 all es init fr h all.length →
      ∀ (a : Act) (w : World), a.tmps.toList = init → a.defers = [] → HpOk S ρ w0 h0 w → wpAny P .any all.toArray (Qof P Q ks) all.length (Array.replicate all.length false) a w
/-- The loops that are still open go on from every state that their templates tell and that is nearer to their end. -/
def KsOk (P : Program) (S : Sig) (w0 : World) (Q : Exit → Act → World → Prop) (ρ : Env) : List KF → Prop
  | [] => True
  | .inv lo an c :: ks => (∀ (ρ2 : Env) (a : Act) (w : World), Agree2 lo an.na ρ ρ2 → FrOk S ρ2 w0.heap.size an.fr a → HpOk S ρ2 w0 an.h w → Met S ρ2 an.facts → an.meas.I S ρ2 < an.meas.I S ρ → 0 < an.meas.I S ρ → InLoop P c (Qof P Q ks) a w) ∧ KsOk P S w0 Q ρ ks
  | _ :: ks => KsOk P S w0 Q ρ ks
theorem KsOk.unwind {Q : Exit → Act → World → Prop} {id : Nat} : ∀ {ks ks' : List KF}, KsOk P S w0 Q ρ ks → unwindS id ks = some ks' → KsOk P S w0 Q ρ ks'
  | [], _, _, h => by simp [unwindS] at h
  | .code c :: ks, ks', hg, h => KsOk.unwind (ks := ks) hg h
  | .again c :: ks, ks', hg, h => KsOk.unwind (ks := ks) hg h
  | .inv _ _ c :: ks, ks', hg, h => KsOk.unwind (ks := ks) hg.2 h
  | .blk j :: ks, ks', hg, h => by
    unfold unwindS at h
    split at h
    · cases h; exact hg
    · exact KsOk.unwind (ks := ks) hg h
theorem KsOk.clear {Q : Exit → Act → World → Prop} {ρ' : Env} {ns na : Nat} (hA : Agree2 ns na ρ ρ') : ∀ {ks : List KF}, ksClear ns na ks = true → KsOk P S w0 Q ρ ks → KsOk P S w0 Q ρ' ks
  | [], _, _ => trivial
  | .code c :: ks, hc, h => KsOk.clear (ks := ks) hA hc h
  | .again c :: ks, hc, h => KsOk.clear (ks := ks) hA hc h
  | .blk c :: ks, hc, h => KsOk.clear (ks := ks) hA hc h
  | .inv lo an c :: ks, hc, h => by
    simp only [ksClear, Bool.and_eq_true] at hc
    obtain ⟨⟨c1, c2, c3⟩, c4⟩ := hc
    rw [ble_iff] at c1 c2
    have hm := (T.clear_den (S := S) hA c3).1
    refine ⟨fun ρ2 a w g1 g2 g3 g4 g5 g6 => ?_, KsOk.clear hA c4 h.2⟩
    rw [hm] at g5 g6
    exact h.1 ρ2 a w ((hA.weaken c1 c2).trans g1 (Nat.le_refl _) (Nat.le_refl _)) g2 g3 g4 g5 g6
theorem ok_needOut {Q : Exit → Act → World → Prop} {c : List T} {k : Out} (h : (needOut c k).ok P S ρ w0 rs Q) : Met S ρ c ∧ k.ok P S ρ w0 rs Q := by
  unfold needOut at h
  split at h
  · exact ⟨Met.nil, h⟩
  · exact h
def Task.pureT : Task → Bool
  | .code c => pureCode c
  | .pop => true
  | .ops rest _ => rest.all fun o => (opEff o.op).not
  | .draw .. => false
def pureKs : List KF → Bool
  | [] => true
  | .code c :: ks => (pureCode c).and (pureKs ks)
  | _ => false
theorem split_needOut {c : List T} {k : Out} {d : List T} {f : List SR} (h : (needOut c k).split = some (d, f)) : ∃ d', k.split = some (d', f) ∧ d = c ++ d' := by
  unfold needOut at h
  split at h
  · exact ⟨d, h, rfl⟩
  · simp only [Out.split] at h
    split at h
    · rename_i d' f' hk
      simp only [Option.some.injEq, Prod.mk.injEq] at h
      obtain ⟨rfl, rfl⟩ := h
      exact ⟨d', hk, rfl⟩
    · cases h
theorem okA_needOut {Q : Exit → Act → World → Prop} {c : List T} {k : Out} (h1 : Met S ρ c) (h2 : k.okA P S w0 rs Q ρ) : (needOut c k).okA P S w0 rs Q ρ := by
  unfold needOut
  split
  · exact h2
  · exact ⟨h1, h2⟩
theorem pure_ok {rsp : Nat → Option RSpec} {tab : Tab} {fc : FC} {Q : Exit → Act → World → Prop} {h : Hp} : ∀ (n : Nat) (task : Task) (ks : List KF) (fr : List SR) {c : List T} {f : List SR}, task.pureT = true → pureKs ks = true →
    (walk P specs rsp tab n fc task ks fr h).split = some (c, f) → Met S ρ c → (∀ (a : Act) (w : World), FrOk S ρ w0.heap.size f a → HpOk S ρ w0 h w → Q .normal a w) → (walk P specs rsp tab n fc task ks fr h).okA P S w0 rs Q ρ := by
  intro n
  induction n with
  | zero => intro task ks fr c f _ _ hs; simp [walk, Out.split] at hs
  | succ n ih =>
    intro task ks fr c f hp hk hs hm hq
    cases task with
    | pop =>
      cases ks with
      | nil =>
        simp only [walk, Out.split, Option.some.injEq, Prod.mk.injEq] at hs
        obtain ⟨rfl, rfl⟩ := hs
        exact hq
      | cons k ks =>
        cases k with
        | code x =>
          simp only [pureKs, Bool.and_eq_true] at hk
          exact ih (.code x) ks fr hk.1 hk.2 hs hm hq
        | again x => cases hk
        | blk x => cases hk
        | inv _ _ x => cases hk
    | code x =>
      cases x with
      | skip => exact ih .pop ks fr rfl hk hs hm hq
      | seq a b =>
        simp only [Task.pureT, pureCode, Bool.and_eq_true] at hp
        exact ih (.code a) (.code b :: ks) fr hp.1 (by simp only [pureKs, Bool.and_eq_true]; exact ⟨hp.2, hk⟩) hs hm hq
      | region id ops draw =>
        simp only [Task.pureT, pureCode, Bool.and_eq_true] at hp
        cases draw with
        | true => simp at hp
        | false =>
          simp only [walk] at hs ⊢
          cases hu : unowAt fc id fr h with
          | some u =>
            simp only [hu] at hs
            split at hs <;> cases hs
          | none =>
            simp only [hu, Bool.false_eq_true, if_false] at hs ⊢
            cases hc : castAt fc id fr h with
            | none =>
              simp only [hc] at hs ⊢
              exact ih (.ops ops.toList ops.toList) ks fr hp.2 hk hs hm hq
            | some u =>
              simp only [hc] at hs ⊢
              obtain ⟨d', e1, rfl⟩ := split_needOut hs
              exact okA_needOut (met_append.1 hm).1 (ih (.ops ops.toList ops.toList) ks u.2 hp.2 hk e1 (met_append.1 hm).2 hq)
      | cond x a b =>
        simp only [Task.pureT, pureCode, Bool.and_eq_true] at hp
        simp only [walk] at hs ⊢
        split at hs
        · exact ih (.code a) ks fr hp.1 hk hs hm hq
        · exact ih (.code b) ks fr hp.2 hk hs hm hq
        · split at hs
          · rename_i hpp
            split at hs
            · split at hs
              · obtain ⟨d', hs', rfl⟩ := split_needOut hs
                obtain ⟨m1, m2⟩ := met_append.1 hm
                rename_i s t _ _ _ _ _ _ _ _ e1 e2 hc
                simp only [hpp, e1, e2, if_pos hc, if_true]
                exact okA_needOut m1 (ih .pop ks _ rfl hk hs' m2 hq)
              · simp [Out.split] at hs
            · simp [Out.split] at hs
          · simp [Out.split] at hs
        · simp [Out.split] at hs
      | _ => cases hp
    | ops rest all =>
      cases rest with
      | nil => exact ih .pop ks fr rfl hk hs hm hq
      | cons o rest =>
        simp only [Task.pureT, List.all_cons, Bool.and_eq_true] at hp
        simp only [walk] at hs ⊢
        cases hw : wantS all fr o with
        | yes =>
          simp only [hw] at hs ⊢
          cases hst : step P specs (getSR fr) h o with
          | some r =>
            simp only [hst] at hs ⊢
            obtain ⟨d', hs', rfl⟩ := split_needOut hs
            obtain ⟨m1, m2⟩ := met_append.1 hm
            have hh := pure_step hst (by simpa using hp.1)
            rw [hh] at hs' ⊢
            exact okA_needOut m1 (ih (.ops rest all) ks _ hp.2 hk hs' m2 hq)
          | none =>
            simp only [hst] at hs
            have hnc : ∀ c, o.op ≠ .call c := by
              intro c hc
              rw [hc] at hp
              simp [opEff] at hp
            have hr : rstep P rsp (getSR fr) h o = none := by
              unfold rstep
              split
              · rename_i c hc; exact absurd hc (hnc c)
              · rfl
            simp only [hr] at hs
            simp [Out.split] at hs
        | no =>
          simp only [hw] at hs ⊢
          exact ih (.ops rest all) ks _ hp.2 hk hs hm hq
        | ask s t => simp only [hw] at hs; simp [Out.split] at hs
        | lost => simp only [hw] at hs; simp [Out.split] at hs
    | draw rest all es h0 => cases hp
theorem mid_start {h0 : Hp} {es : List Ent} {init : List Value} {a : Act} {w : World} {n : Nat} (hn : n = es.length) (ha : a.tmps.toList = init) (hd : a.defers = []) (hh : HpOk S ρ w0 h0 w) : Mid S ρ w0 h0 es init (Array.replicate n false) a w := by
  have hg : ∀ i : Nat, (Array.replicate n false).getD i false = false := by
    intro i
    rw [Array.getD_eq_getD_getElem?, Array.getElem?_replicate]
    split <;> rfl
  refine ⟨by simp [hn], ?_, ?_, hd, 0, h0, Nat.zero_le _, ?_, by simp [heapsOf], hh⟩
  · intro i o _ hD
    simp only [hg, Bool.false_eq_true] at hD
  · rw [ha]
    have : ∀ (l : List (Option Tmp × Value)) (k : Nat) (cur : List Value), frameD (fun i => (Array.replicate n false).getD i false) k l cur = cur := by
      intro l
      induction l with
      | nil => intro k cur; rfl
      | cons e l ih => intro k cur; unfold frameD; rw [if_neg (by simp [hg])]; exact ih _ _
    exact (this _ _ _).symm
  · intro k i hk
    simp [hg]
theorem exists_of_wp {o : Oper} {a : Act} {w : World} {K : Act → World → Prop} (h : o.wp P a w K (fun _ _ _ => False)) : ∃ a' w', K a' w' := by
  unfold Oper.wp at h
  generalize (execOp a.eval o).run P w = r at h
  unfold Oper.upon at h
  split at h
  · exact ⟨_, _, h⟩
  · exact ⟨_, _, h⟩
  · exact ⟨_, _, h⟩
  · obtain ⟨e, w', fr, hr, _⟩ := h []
    cases e with
    | returned v => exact ⟨_, _, hr⟩
    | panicked c => exact hr.elim
    | outgrown => obtain ⟨_, _, hf⟩ := hr; exact hf.elim
  · obtain ⟨v, w', hr, _⟩ := h default []
    exact ⟨_, _, hr⟩
  · exact h.elim
  · exact h.elim
/-- Behind an operation of which not all is known: what the rest of the region has shown. -/
theorem masks_length (ops : List Oper) : (masks ops).length = ops.length := by
  have : ∀ (l : List Oper) (pre : List Nat), (l.foldl (fun ms o => ms ++ [maskOf ms o]) pre).length = pre.length + l.length := by
    intro l
    induction l with
    | nil => intro pre; rfl
    | cons o l ih => intro pre; simp only [List.foldl_cons, ih, List.length_append, List.length_cons, List.length_nil]; omega
  unfold masks
  rw [this]; simp
theorem tail_ok (hsp : ∀ f s, specs f = some s → SpecOk P S f s) {h0 : Hp} {all : List Oper} {init : List Value} {ex : Nat} : ∀ {rest : List Oper} {es es' : List Ent} {fr fr' : List SR} {h h' : Hp} {w : World}, HpOk S ρ w0 h w → es.map (·.o) ++ rest = all →
    ex < es.length → SoFar P specs S ρ w0.heap.size h0 all es init fr h ex → tailRun P specs all rest es fr h = some (es', fr', h') →
    es'.map (·.o) = all ∧ SoFar P specs S ρ w0.heap.size h0 all es' init fr' h' ex ∧ (∀ (j : Nat) (e : Ent), es'[j]? = some e → es[j]? = some e ∨ (es.length ≤ j ∧ e.r.need = [])) ∧ (∀ (j : Nat) (e : Ent), es[j]? = some e → es'[j]? = some e)
  | [], es, es', fr, fr', h, h', w, hh, hall, hex, sf, ht => by
    simp only [tailRun, Option.some.injEq, Prod.mk.injEq] at ht
    obtain ⟨rfl, rfl, rfl⟩ := ht
    exact ⟨by simpa using hall, sf, fun j e h => .inl h, fun j e h => h⟩
  | o :: rest, es, es', fr, fr', h, h', w, hh, hall, hex, sf, ht => by
    have hw := wantS_ok (all := all) (o := o) (fr := fr) (S := S) (ρ := ρ) (B := w0.heap.size) (tmps := (fr.map (SR.den S ρ w0.heap.size)).toArray) (by simp)
    have fin : ∀ {x : Ent} {es' : List Ent}, x.r.need = [] → (∀ (j : Nat) (e : Ent), es'[j]? = some e → (es ++ [x])[j]? = some e ∨ ((es ++ [x]).length ≤ j ∧ e.r.need = [])) → (∀ (j : Nat) (e : Ent), (es ++ [x])[j]? = some e → es'[j]? = some e) →
        (∀ (j : Nat) (e : Ent), es'[j]? = some e → es[j]? = some e ∨ (es.length ≤ j ∧ e.r.need = [])) ∧ ∀ (j : Nat) (e : Ent), es[j]? = some e → es'[j]? = some e := by
      intro x es' hx h1 h2
      refine ⟨fun j e he => ?_, fun j e he => h2 j e (by rw [List.getElem?_append_left (List.getElem?_eq_some_iff.1 he).1]; exact he)⟩
      rcases h1 j e he with h | ⟨h3, h4⟩
      · by_cases hj : j < es.length
        · rw [List.getElem?_append_left hj] at h; exact .inl h
        · rw [List.getElem?_append_right (by omega)] at h
          right
          refine ⟨by omega, ?_⟩
          have : j - es.length = 0 := by
            have := (List.getElem?_eq_some_iff.1 h).1
            simp at this; omega
          rw [this] at h
          simp only [List.getElem?_cons_zero, Option.some.injEq] at h
          rw [← h]; exact hx
      · right
        simp only [List.length_append, List.length_cons, List.length_nil] at h3
        exact ⟨by omega, h4⟩
    simp only [tailRun] at ht
    split at ht
    · rename_i hwt
      rw [hwt] at hw
      split at ht
      · rename_i r hr
        split at ht
        · rename_i hn
          have o1 : Met S ρ r.need := by rw [hn]; exact Met.nil
          have hfr : FrOk S ρ w0.heap.size fr { tmps := (fr.map (SR.den S ρ w0.heap.size)).toArray, defers := [] } := ⟨by simp, rfl, sf.wf⟩
          obtain ⟨hwf, d2⟩ := step_ok hsp hr o1 (getSR_wf sf.wf) (hfr.agree _) hh
          obtain ⟨_, w', hw'⟩ := exists_of_wp (d2 (fun _ w' => HpOk S ρ w0 r.heap w') (fun _ _ _ => False) fun w' hw' => hw')
          obtain ⟨q1, q2, q3, q4⟩ := tail_ok hsp (rest := rest) hw' (by simpa using hall) (by simp; omega) (sf.more (e := ⟨o, true, fr, h, r⟩) rfl rfl hw (fun _ _ => ⟨hr, o1⟩) (fun hw he => eff_heap rfl hr hw he) (fun h => by cases h) hwf) ht
          obtain ⟨q5, q6⟩ := fin hn q3 q4
          exact ⟨q1, q2, q5, q6⟩
        · cases ht
      · cases ht
    · rename_i hwt
      rw [hwt] at hw
      obtain ⟨q1, q2, q3, q4⟩ := tail_ok hsp (rest := rest) hh (by simpa using hall) (by simp; omega) (sf.more (e := ⟨o, false, fr, h, ⟨[], .v (.one .undef), h⟩⟩) rfl rfl hw (fun _ h => by cases h) (fun h => by cases h) (fun _ => ⟨rfl, rfl, rfl⟩) trivial) ht
      obtain ⟨q5, q6⟩ := fin (x := ⟨o, false, fr, h, ⟨[], .v (.one .undef), h⟩⟩) rfl q3 q4
      exact ⟨q1, q2, q5, q6⟩
    · cases ht
theorem frame_early {init : List Value} {j : Nat} : ∀ (l es : List Ent), j ≤ es.length → frameD (fun i => decide (i < j)) 0 (pairsOf S ρ B (es ++ l)) init = frameD (fun i => decide (i < j)) 0 (pairsOf S ρ B es) init
  | [], es, _ => by rw [List.append_nil]
  | e :: l, es, hj => by
    rw [show es ++ e :: l = (es ++ [e]) ++ l from by simp, frame_early l (es ++ [e]) (by simp; omega), pairsOf_append, frameD_append, pairsOf_length, if_neg (by simp; omega)]
theorem now_more {es : List Ent} {fr : List SR} {init : List Value} (now : fr.map (SR.den S ρ B) = frameD (fun i => decide (i < es.length)) 0 (pairsOf S ρ B es) init) (e : Ent) :
    (putSR fr e.o.dst e.r.val).map (SR.den S ρ B) = frameD (fun i => decide (i < es.length + 1)) 0 (pairsOf S ρ B (es ++ [e])) init := by
  rw [pairsOf_append, frameD_append, pairsOf_length]
  rw [if_pos (by simp)]
  have e1 : frameD (fun i => decide (i < es.length + 1)) 0 (pairsOf S ρ B es) init = frameD (fun i => decide (i < es.length)) 0 (pairsOf S ρ B es) init := by
    apply frameD_congr
    intro i hi
    rw [pairsOf_length] at hi
    simp; omega
  rw [e1, ← now]
  unfold putSR putV
  cases e.o.dst with
  | none => rfl
  | some d => simp [List.map_set]
theorem effs_append : ∀ (l m : List Ent) (k : Nat), effsFrom k (l ++ m) = effsFrom k l ++ effsFrom (k + l.length) m
  | [], m, k => by simp [effsFrom]
  | e :: l, m, k => by
    have := effs_append l m (k + 1)
    unfold effsFrom at this ⊢
    simp only [List.cons_append, List.zipIdx_cons, List.filterMap_cons, List.length_cons]
    rw [show k + (l.length + 1) = k + 1 + l.length from by omega]
    split
    · exact this
    · rw [this]; rfl
theorem effs_none : ∀ {l : List Ent} {k : Nat}, (l.all fun e => (isEff e).not) = true → effsFrom k l = []
  | [], _, _ => rfl
  | e :: l, k, h => by
    simp only [List.all_cons, Bool.and_eq_true, Bool.not_eq_true'] at h
    have := effs_none (k := k + 1) h.2
    unfold effsFrom at this ⊢
    simp only [List.zipIdx_cons, List.filterMap_cons, h.1]
    exact this
theorem shiftEs_spec {hA : Hp} {all : List T} : ∀ {es l : List Ent}, shiftEs P specs hA all es = some l →
    l.length = es.length ∧ l.map (·.o) = es.map (·.o) ∧ (∀ ρ' : Env, pairsOf S ρ' B l = pairsOf S ρ' B es) ∧ Chain hA l hA ∧
    ∀ (j : Nat) (e : Ent), l[j]? = some e → ∃ e0, es[j]? = some e0 ∧ e.o = e0.o ∧ e.want = e0.want ∧ e.fr = e0.fr ∧ e.heap = hA ∧ (e.want = true → step P specs (getSR e.fr) hA e.o = some e.r ∧ ∀ x ∈ e.r.need, x ∈ all) ∧ (e.want = false → e.r.val = .v (.one .undef) ∧ e.r.need = [])
  | [], l, h => by
    simp only [shiftEs, Option.some.injEq] at h
    subst h
    exact ⟨rfl, rfl, fun _ => rfl, rfl, fun j e h => by simp at h⟩
  | e :: es, l, h => by
    simp only [shiftEs] at h
    split at h
    · rename_i x l' hx hl
      cases h
      obtain ⟨q1, q2, q3, q4, q5⟩ := shiftEs_spec hl
      have hx' : x.o = e.o ∧ x.want = e.want ∧ x.fr = e.fr ∧ x.r.val = e.r.val ∧ x.heap = hA ∧ x.r.heap = hA ∧ (x.want = true → step P specs (getSR x.fr) hA x.o = some x.r ∧ ∀ y ∈ x.r.need, y ∈ all) ∧ (x.want = false → x.r.val = .v (.one .undef) ∧ x.r.need = []) := by
        unfold shiftE at hx
        split at hx
        · rename_i hw
          split at hx
          · rename_i r hr
            split at hx
            · rename_i hc
              obtain ⟨c1, c2, c3⟩ := hc
              cases hx
              refine ⟨rfl, rfl, rfl, c1, rfl, c2, fun _ => ⟨hr, fun y hy => ?_⟩, fun h => absurd (hw.symm.trans h) (by simp)⟩
              rw [List.all_eq_true] at c3
              exact List.contains_iff_mem.1 (c3 y hy)
            · cases hx
          · cases hx
        · rename_i hw
          split at hx
          · rename_i hc
            cases hx
            refine ⟨rfl, rfl, rfl, rfl, rfl, rfl, ?_, fun _ => hc⟩
            intro h
            have h : e.want = true := h
            rw [hw] at h; cases h
          · cases hx
      obtain ⟨x1, x2, x3, x4, x5, x6, x7, x8⟩ := hx'
      refine ⟨by simp [q1], by simp [q2, x1], fun ρ' => ?_, ⟨x5, fun _ => x6, by rw [x6]; exact q4⟩, fun j y hy => ?_⟩
      · have := q3 ρ'
        unfold pairsOf at this ⊢
        rw [List.map_cons, List.map_cons, this, x1, x4]
      · cases j with
        | zero =>
          simp only [List.getElem?_cons_zero, Option.some.injEq] at hy
          subst hy
          exact ⟨e, by simp, x1, x2, x3, x5, x7, x8⟩
        | succ j => exact q5 j y (by simpa using hy)
    · cases h
theorem at_three {α : Type} {l : List α} {a b c : α} {j : Nat} {e : α} (h : (l ++ [a, b, c])[j]? = some e) : (j < l.length ∧ l[j]? = some e) ∨ (j = l.length ∧ e = a) ∨ (j = l.length + 1 ∧ e = b) ∨ (j = l.length + 2 ∧ e = c) := by
  by_cases hj : j < l.length
  · rw [List.getElem?_append_left hj] at h; exact .inl ⟨hj, h⟩
  · right
    rw [List.getElem?_append_right (by omega)] at h
    have hlt : j - l.length < 3 := by
      have := (List.getElem?_eq_some_iff.1 h).1
      simpa using this
    have e0 : j - l.length = 0 ∨ j - l.length = 1 ∨ j - l.length = 2 := by omega
    rcases e0 with e0 | e0 | e0 <;> rw [e0] at h <;> simp at h
    · exact .inl ⟨by omega, h.symm⟩
    · exact .inr (.inl ⟨by omega, h.symm⟩)
    · exact .inr (.inr ⟨by omega, h.symm⟩)
theorem wanted_none {o : Oper} (h : o.guard = none) (ys : Nat → Option Bool) : Region.wanted o ys = true := by
  unfold Region.wanted; rw [h]
set_option maxHeartbeats 1000000 in
theorem swap_ok (hsp : ∀ f s, specs f = some s → SpecOk P S f s) {rsp : Nat → Option RSpec} (hrsp : ∀ f s, rsp f = some s → RSpecOk P S f s) {h0 h : Hp} {all : List Oper} {es : List Ent} {init : List Value} {fr : List SR} {o oa oz : Oper} {rr : RRes} {s : Swap}
    (hall : es.map (·.o) ++ [o, oa, oz] = all) (hst : staticOk all = true) {ex : Nat} (hex : es.length ≤ ex) (sf : SoFar P specs S ρ w0.heap.size h0 all es init fr h ex)
    (hw : Region.wanted o (yielded all.toArray (fr.map (SR.den S ρ w0.heap.size)).toArray) = true) (hr : rstep P rsp (getSR fr) h o = some rr) (hs : swapE P specs rsp oa oz es o fr h rr = some s) (hok : s.ok oa oz o es fr h rr P specs = true) (o1 : Met S ρ (rr.need ++ s.r2.need))
    {Q : Exit → Act → World → Prop} (hQ : ∀ ρ' a w, Agree2 rr.ns rr.na ρ ρ' → Met S ρ' rr.facts → rr.val.wf S ρ' → FrOk S ρ' w0.heap.size (putSR (putSR fr o.dst rr.val) oa.dst s.ra.val) a → HpOk S ρ' w0 s.rz.heap w → Q .normal a w) :
    ∀ a w, a.tmps.toList = init → a.defers = [] → HpOk S ρ w0 h0 w → wpAny P .any all.toArray Q all.length (Array.replicate all.length false) a w := by
  unfold swapE at hs
  split at hs
  case h_2 => cases hs
  rename_i ra ra1 hra hra1
  split at hs
  case h_2 => cases hs
  rename_i r2 rz esA hr2 hrz hesA
  cases hs
  unfold Swap.ok at hok
  simp only [Bool.and_eq_true, decide_eq_true_eq, Option.isNone_iff_eq_none, List.isEmpty_iff] at hok
  obtain ⟨c1, c2, c3, c4, c5, c6, c7, c8, c8', c9, c10, c11, c12, c13, c14, c15, c16, c17, c18, c19, c20, c21, c22, c23, c24, c25, c26, c27, c28, c29, c30, c31, c32⟩ := hok
  have c10 := Nat.eq_of_beq_eq_true c10
  have c11 := Nat.le_of_ble_eq_true c11
  obtain ⟨rn1, rn2⟩ := met_append.1 o1
  obtain ⟨hh0, hhe⟩ := chain_none 0 sf.chain (effs_none c15)
  subst hh0
  obtain ⟨l1, l2, l3, l4, l5⟩ := shiftEs_spec (S := S) (B := w0.heap.size) hesA
  let s : Swap := ⟨ra, ra1, r2, rz, esA⟩
  have m1 : (s.es1 oa oz o es fr h rr).map (·.o) = all := by rw [← hall]; simp [Swap.es1, Swap.x1, Swap.a1, Swap.z1]
  have m2 : (s.es2 oa oz o fr rr).map (·.o) = all := by rw [← hall, ← l2]; simp [Swap.es2, Swap.x2, Swap.a2, Swap.z1, s]
  have m3 : (s.es3 oa oz o es fr h).map (·.o) = all := by rw [← hall]; simp [Swap.es3, Swap.x3, Swap.a3, Swap.z3]
  have len1 : (s.es1 oa oz o es fr h rr).length = es.length + 3 := by simp [Swap.es1]
  have pp : ∀ ρ', pairsOf S ρ' w0.heap.size (s.es2 oa oz o fr rr) = pairsOf S ρ' w0.heap.size (s.es1 oa oz o es fr h rr) := by
    intro ρ'
    have := l3 ρ'
    unfold pairsOf at this ⊢
    simp only [Swap.es1, Swap.es2, List.map_append, s, this, List.map_cons, List.map_nil, Swap.x1, Swap.x2, Swap.a1, Swap.a2, c13, c8]
  have ch1 : Chain h (s.es1 oa oz o es fr h rr) rz.heap := by
    have a1 := chain_append sf.chain (e := Swap.x1 o fr h rr) rfl (fun he => by rw [c17] at he; cases he)
    have a2 := chain_append a1 (e := s.a1 oa o fr rr) rfl (fun he => by rw [c18] at he; cases he)
    have a3 := chain_append a2 (e := s.z1 oa oz o fr rr) rfl (fun he => by rw [c19] at he; cases he)
    rw [List.append_assoc, List.append_assoc] at a3
    exact a3
  have ch2 : Chain ra.heap (s.es2 oa oz o fr rr) rz.heap := by
    have a1 := chain_append l4 (e := s.x2 o fr) rfl (fun he => by rw [c20] at he; cases he)
    have a2 := chain_append a1 (e := s.a2 oa o fr rr) c14.symm (fun _ => c14.symm)
    have a3 := chain_append a2 (e := s.z1 oa oz o fr rr) rfl (fun he => by rw [c19] at he; cases he)
    rw [List.append_assoc, List.append_assoc] at a3
    exact a3
  have ch3 : Chain h (s.es3 oa oz o es fr h) ra.heap := by
    have a1 := chain_append sf.chain (e := Swap.x3 o fr h) rfl (fun _ => rfl)
    have a2 := chain_append a1 (e := s.a3 oa o fr h) rfl (fun he => by rw [c21] at he; cases he)
    have a3 := chain_append a2 (e := s.z3 oz fr) rfl (fun _ => rfl)
    rw [List.append_assoc, List.append_assoc] at a3
    exact a3
  have f1 : effsFrom 0 (s.es1 oa oz o es fr h rr) = [es.length, es.length + 1, es.length + 2] := by
    unfold Swap.es1
    rw [effs_append, effs_none c15]
    simp [effsFrom, c17, c18, c19, s]
  have f2 : effsFrom 0 (s.es2 oa oz o fr rr) = [es.length, es.length + 2] := by
    unfold Swap.es2
    rw [effs_append, effs_none c16]
    have : isEff (s.a2 oa o fr rr) = false := by simp [isEff, Swap.a2]
    simp [effsFrom, c20, this, c19, s, l1]
  have f3 : effsFrom 0 (s.es3 oa oz o es fr h) = [es.length + 1] := by
    unfold Swap.es3
    rw [effs_append, effs_none c15]
    have g1 : isEff (Swap.x3 o fr h) = false := by simp [isEff, Swap.x3]
    have g2 : isEff (s.z3 oz fr) = false := by simp [isEff, Swap.z3]
    simp [effsFrom, g1, g2, c21, s]
  have g3 : (heapsOf h (s.es3 oa oz o es fr h))[1]? = some ra.heap := by
    have g0 : es.filter isEff = [] := by
      rw [List.filter_eq_nil_iff]
      intro e he
      have := List.all_eq_true.1 c15 e he
      simpa using this
    have g1 : isEff (Swap.x3 o fr h) = false := by simp [isEff, Swap.x3]
    have g2 : isEff (s.z3 oz fr) = false := by simp [isEff, Swap.z3]
    unfold heapsOf Swap.es3
    rw [List.filter_append, g0, List.nil_append, List.filter_cons, g1, List.filter_cons, c21, List.filter_cons, g2]
    rfl
  have hentc : ∀ e ∈ es, e.fr.all (SR.clear rr.ns rr.na) = true ∧ e.r.val.clear rr.ns rr.na = true ∧ e.r.need.all (T.clear rr.ns) = true := by
    intro e he
    unfold entsClear at c27
    rw [List.all_eq_true] at c27
    have := c27 e he
    simp only [Bool.and_eq_true] at this
    exact this
  have hpairs : ∀ ρ', Agree2 rr.ns rr.na ρ ρ' → pairsOf S ρ' w0.heap.size es = pairsOf S ρ w0.heap.size es := by
    intro ρ' hA
    unfold pairsOf
    apply List.map_congr_left
    intro e he
    rw [(SR.clear_den hA (hentc e he).2.1).1]
  have hden : ∀ ρ' (l : List SR), Agree2 rr.ns rr.na ρ ρ' → l.all (SR.clear rr.ns rr.na) = true → l.map (SR.den S ρ' w0.heap.size) = l.map (SR.den S ρ w0.heap.size) := by
    intro ρ' l hA hl
    rw [List.all_eq_true] at hl
    exact List.map_congr_left fun x hx => (SR.clear_den hA (hl x hx)).1
  have hwfs : ∀ ρ' (l : List SR), Agree2 rr.ns rr.na ρ ρ' → l.all (SR.clear rr.ns rr.na) = true → (∀ x ∈ l, x.wf S ρ) → ∀ x ∈ l, x.wf S ρ' := by
    intro ρ' l hA hl hw x hx
    rw [List.all_eq_true] at hl
    exact (SR.clear_den (B := w0.heap.size) hA (hl x hx)).2 (hw x hx)
  have sf' : ∀ ρ', Agree2 rr.ns rr.na ρ ρ' → SoFar P specs S ρ' w0.heap.size h all es init fr h es.length := by
    intro ρ' hA
    refine ⟨?_, ?_, ?_, sf.no, sf.chain, ?_, hwfs ρ' fr hA c28 sf.wf⟩
    · intro j e hj
      have he := List.mem_of_getElem? hj
      rw [hpairs ρ' hA, hden ρ' _ hA (hentc e he).1]; exact sf.frs j e hj
    · intro j e hj
      rw [hpairs ρ' hA]; exact sf.want j e hj
    · intro j e hj _ hwj
      have he := List.mem_of_getElem? hj
      obtain ⟨s1, s2, s3⟩ := sf.st j e hj (by have := (List.getElem?_eq_some_iff.1 hj).1; omega) hwj
      exact ⟨s1, met_clear hA (hentc e he).2.2 s2, hwfs ρ' _ hA (hentc e he).1 s3⟩
    · rw [hpairs ρ' hA, hden ρ' _ hA c28]; exact sf.now
  have needE : ∀ ρ', Agree2 rr.ns rr.na ρ ρ' → Met S ρ' (es.flatMap (·.r.need)) := by
    intro ρ' hA x hx
    rw [List.mem_flatMap] at hx
    obtain ⟨e, he, hxe⟩ := hx
    obtain ⟨j, hj⟩ := List.getElem?_of_mem he
    cases hwj : e.want with
    | true => exact ((sf' ρ' hA).st j e hj (by have := (List.getElem?_eq_some_iff.1 hj).1; omega) hwj).2.1 x hxe
    | false => rw [(sf.no j e hj hwj).2] at hxe; cases hxe
  have need1 : ∀ ρ', Agree2 rr.ns rr.na ρ ρ' → Met S ρ' ((s.es1 oa oz o es fr h rr).flatMap (·.r.need)) := by
    intro ρ' hA x hx
    simp only [Swap.es1, List.flatMap_append, List.flatMap_cons, List.flatMap_nil, List.append_nil, Swap.x1, Swap.a1, Swap.z1, s, c6, c7, List.mem_append] at hx
    rcases hx with hx | hx
    · exact needE ρ' hA x hx
    · exact met_clear hA c29 rn1 x hx
  have need2 : ∀ ρ', Agree2 rr.ns rr.na ρ ρ' → Met S ρ' ((s.es2 oa oz o fr rr).flatMap (·.r.need)) := by
    intro ρ' hA x hx
    simp only [Swap.es2, List.flatMap_append, List.flatMap_cons, List.flatMap_nil, List.append_nil, List.nil_append, Swap.x2, Swap.a2, Swap.z1, s, c7, List.mem_append] at hx
    rcases hx with hx | hx
    · rw [List.mem_flatMap] at hx
      obtain ⟨e, he, hxe⟩ := hx
      obtain ⟨j, hj⟩ := List.getElem?_of_mem he
      obtain ⟨e0, b1, b2, b3, b4, b5, b6, b7⟩ := l5 j e hj
      cases hwj : e.want with
      | true => exact needE ρ' hA x ((b6 hwj).2 x hxe)
      | false => rw [(b7 hwj).2] at hxe; cases hxe
    · exact met_clear hA c30 rn2 x hx
  have need3 : Met S ρ ((s.es3 oa oz o es fr h).flatMap (·.r.need)) := by
    intro x hx
    simp only [Swap.es3, List.flatMap_append, List.flatMap_cons, List.flatMap_nil, List.append_nil, Swap.x3, Swap.a3, Swap.z3, s, c5] at hx
    exact needE ρ (Agree2.rfl' _ _ _) x hx
  have raw : ∀ ρ', ra.val.wf S ρ' := fun ρ' => by rw [c9]; trivial
  -- all that stands behind the call, under its new names
  have more : ∀ ρ', Agree2 rr.ns rr.na ρ ρ' → rr.val.wf S ρ' → SoFar P specs S ρ' w0.heap.size h all (s.es1 oa oz o es fr h rr) init (putSR (putSR fr o.dst rr.val) oa.dst ra.val) rz.heap es.length := by
    intro ρ' hA hv
    have a1 := (sf' ρ' hA).more (e := Swap.x1 o fr h rr) rfl rfl (by show Region.wanted o _ = true; rw [hden ρ' _ hA c28]; exact hw) (fun h => absurd rfl h) (fun _ he => by rw [c17] at he; cases he) (fun h => by cases h) hv
    have a2 := a1.more (e := s.a1 oa o fr rr) rfl rfl (wanted_none c1 _) (fun _ _ => ⟨hra1, by show Met S ρ' ra1.need; rw [c6]; exact Met.nil⟩) (fun _ he => by rw [c18] at he; cases he) (fun h => by cases h) (by show ra1.val.wf S ρ'; rw [c8]; exact raw ρ')
    have a3 := a2.more (e := s.z1 oa oz o fr rr) (by show _ = putSR (putSR fr o.dst rr.val) oa.dst ra1.val; rw [c8]; rfl) rfl (wanted_none c2 _) (fun _ _ => ⟨by show step P specs (getSR (putSR (putSR fr o.dst rr.val) oa.dst ra1.val)) ra1.heap oz = some rz; rw [c8]; exact hrz, by show Met S ρ' rz.need; rw [c7]; exact Met.nil⟩) (fun _ he => by rw [c19] at he; cases he) (fun h => by cases h) (by show rz.val.wf S ρ'; rw [c8']; trivial)
    rw [List.append_assoc, List.append_assoc] at a3
    have e1 : putSR (putSR (putSR fr o.dst rr.val) oa.dst ra1.val) oz.dst rz.val = putSR (putSR fr o.dst rr.val) oa.dst ra.val := by rw [c3, c8]; rfl
    have a4 : SoFar P specs S ρ' w0.heap.size h all (es ++ ([Swap.x1 o fr h rr] ++ ([s.a1 oa o fr rr] ++ [s.z1 oa oz o fr rr]))) init (putSR (putSR (putSR fr o.dst rr.val) oa.dst ra1.val) oz.dst rz.val) rz.heap es.length := a3
    rw [e1] at a4
    exact a4
  have early1 : ∀ ρ' j, j ≤ es.length → frameD (fun i => decide (i < j)) 0 (pairsOf S ρ' w0.heap.size (s.es1 oa oz o es fr h rr)) init = frameD (fun i => decide (i < j)) 0 (pairsOf S ρ' w0.heap.size es) init := fun ρ' j hj => frame_early _ _ hj
  have at1 : ∀ j, j < es.length → (s.es1 oa oz o es fr h rr)[j]? = es[j]? := fun j hj => by unfold Swap.es1; rw [List.getElem?_append_left hj]
  have told1 : ∀ ρ', Agree2 rr.ns rr.na ρ ρ' → ∀ j e, es[j]? = some e → Told P specs S ρ' w0.heap.size (s.es1 oa oz o es fr h rr) init j e := by
    intro ρ' hA j e he
    have hj := (List.getElem?_eq_some_iff.1 he).1
    have q := sf' ρ' hA
    refine ⟨?_, ?_, fun hwj => q.st j e he (by omega) hwj, q.no j e he⟩
    · rw [early1 ρ' j (by omega)]; exact q.frs j e he
    · rw [early1 ρ' j (by omega), m1]; exact q.want j e he
  have told2 : ∀ ρ', Agree2 rr.ns rr.na ρ ρ' → ∀ j e, esA[j]? = some e → Told P specs S ρ' w0.heap.size (s.es2 oa oz o fr rr) init j e := by
    intro ρ' hA j e he
    obtain ⟨e0, b1, b2, b3, b4, b5, b6, b7⟩ := l5 j e he
    have q := told1 ρ' hA j e0 b1
    refine ⟨?_, ?_, fun hwj => ⟨?_, ?_, ?_⟩, fun hwj => b7 hwj⟩
    · rw [pp, b4]; exact q.fr
    · rw [pp, m2, ← m1, b2, b3]; exact q.want
    · rw [b5]; exact (b6 hwj).1
    · exact fun x hx => needE ρ' hA x ((b6 hwj).2 x hx)
    · rw [b4]; exact (q.st (by rw [← b3]; exact hwj)).2.2
  have agr := Agree2.rfl' rr.ns rr.na ρ
  intro a w ha hdf hh0
  have hlen : all.length = es.length + 3 := by rw [← hall]; simp
  have key := any_ok4 (es := s.es1 oa oz o es fr h rr) (es2 := s.es2 oa oz o fr rr) (es3 := s.es3 oa oz o es fr h) (k := es.length) (a := es.length + 1) (x := Swap.x1 o fr h rr) (x2 := s.x2 o fr) (a3 := s.a3 oa o fr h) (rr := rr) (r2 := r2) (init := init) (hl := rz.heap) (h3 := ra.heap) (hA := ra.heap) (h0 := h)
    hsp hrsp (by rw [m2, m1]) (by rw [m3, m1]) (pp ρ) ?_ (by rw [m1]; exact hst) c22 c23 c24 ch1 ch2 ch3 ?_ ?_ ?_ ?_ f3 g3 (need1 ρ agr) (need2 ρ agr) need3 (by omega) ?_ ?_ ?_ hr rfl c17 rn1 hr2 rfl c20 rn2 rfl rfl c10 c13 c12 c11 ?_ sf.wf ?_ ?_ ?_ ?_ ?_ ?_ ?_ ?_ (Q := Q) ?_ all.length (Array.replicate all.length false) a w ?_ ?_ ?_ ?_
  · rw [m1] at key; exact key
  · -- p3
    intro j hj
    unfold pairsOf Swap.es3 Swap.es1
    rcases hj with hj | rfl
    · rw [List.getElem?_map, List.getElem?_map, List.getElem?_append_left hj, List.getElem?_append_left hj]
    · rw [List.getElem?_map, List.getElem?_map, List.getElem?_append_right (by omega), List.getElem?_append_right (by omega)]
      simp [Swap.a1, Swap.a3, s, c8]
  · -- hord
    intro i hi j hj hji
    rw [f1] at hi hj
    simp only [List.mem_cons, List.not_mem_nil, or_false] at hi hj
    by_cases hjk : j = es.length
    · exact .inr hjk
    · left
      have e1 : j = es.length + 1 := by omega
      have e2 : i = es.length + 2 := by omega
      rw [e1, e2]; exact c26
  · intro j hj
    rw [f1] at hj
    simp only [List.mem_cons, List.not_mem_nil, or_false] at hj
    omega
  · intro i hi j hj hji
    rw [f2] at hi hj
    simp only [List.mem_cons, List.not_mem_nil, or_false] at hi hj
    right; omega
  · intro j hj
    rw [f2] at hj
    simp only [List.mem_cons, List.not_mem_nil, or_false] at hj
    omega
  · unfold Swap.es1; rw [List.getElem?_append_right (Nat.le_refl _), Nat.sub_self]; rfl
  · unfold Swap.es2; rw [← l1, List.getElem?_append_right (Nat.le_refl _), Nat.sub_self]; rfl
  · unfold Swap.es3; rw [List.getElem?_append_right (by omega), Nat.add_sub_cancel_left]; rfl
  · -- hxf
    rw [early1 ρ _ (Nat.le_refl _)]; exact sf.now
  · rw [early1 ρ _ (Nat.le_refl _), ← sf.now, m1]; exact hw
  · intro j e he hj
    rw [at1 j hj] at he
    exact told1 ρ agr j e he
  · intro j e he hj
    unfold Swap.es2 at he
    rw [List.getElem?_append_left (by rw [l1]; exact hj)] at he
    exact told2 ρ agr j e he
  · -- told3
    have e3 : s.es3 oa oz o es fr h = (es ++ [Swap.x3 o fr h]) ++ [s.a3 oa o fr h, s.z3 oz fr] := by simp [Swap.es3]
    have nm := now_more sf.now (Swap.x3 o fr h)
    refine ⟨?_, wanted_none c1 _, fun _ => ⟨hra, by show Met S ρ ra.need; rw [c5]; exact Met.nil, ?_⟩, fun h => by cases h⟩
    · rw [e3, frame_early _ _ (by simp)]
      exact nm
    · intro x hx
      have hx : x ∈ putSR fr o.dst undefSR := hx
      unfold putSR at hx
      split at hx
      · rcases List.mem_or_eq_of_mem_set hx with hx | rfl
        · exact sf.wf x hx
        · trivial
      · exact sf.wf x hx
  · -- hwait
    intro j h1 h2 h3
    rw [len1] at h3
    have : j = es.length + 2 := by omega
    rw [this]; exact c25
  · intro j e he hj
    rw [at1 j hj] at he
    exact (hentc e (List.mem_of_getElem? he)).2.1
  · intro j e he hj
    rcases hj with hj | rfl
    · unfold Swap.es2 at he
      rw [List.getElem?_append_left (by rw [l1]; exact hj)] at he
      exact List.all_eq_true.1 c32 e (List.mem_of_getElem? he)
    · unfold Swap.es2 at he
      rw [show es.length + 1 = s.esA.length + 1 from congrArg (· + 1) l1.symm, List.getElem?_append_right (by omega), Nat.add_sub_cancel_left] at he
      simp only [List.getElem?_cons_succ, List.getElem?_cons_zero, Option.some.injEq] at he
      subst he
      exact c31
  · -- hB
    intro ρ' g1 g2 g3'
    have mo := more ρ' g1 g3'
    have t1 : ∀ j e, (s.es1 oa oz o es fr h rr)[j]? = some e → j ≠ es.length → Told P specs S ρ' w0.heap.size (s.es1 oa oz o es fr h rr) init j e :=
      fun j e he hj => ⟨mo.frs j e he, by rw [m1]; exact mo.want j e he, mo.st j e he hj, mo.no j e he⟩
    refine ⟨⟨need1 ρ' g1, t1⟩, ⟨need2 ρ' g1, fun j e he hj hja => ?_⟩, pp ρ'⟩
    unfold Swap.es2 at he
    rcases at_three he with ⟨q1, q2⟩ | ⟨q1, _⟩ | ⟨q1, _⟩ | ⟨q1, q2⟩
    · exact told2 ρ' g1 j e q2
    · rw [l1] at q1; exact absurd q1 hj
    · rw [l1] at q1; exact absurd q1 hja
    · rw [l1] at q1
      subst q1
      subst q2
      have q := t1 (es.length + 2) (s.z1 oa oz o fr rr) (by unfold Swap.es1; rw [List.getElem?_append_right (by omega), Nat.add_sub_cancel_left]; rfl) (by omega)
      exact ⟨by rw [pp]; exact q.fr, by rw [pp, m2, ← m1]; exact q.want, q.st, q.no⟩
  · -- hQ
    intro ρ' b w' g1 g2 g3' g4 g5 g6
    have mo := more ρ' g1 g3'
    refine hQ ρ' b w' g1 g2 g3' ⟨?_, g5, mo.wf⟩ g6
    rw [g4, mo.now]
    apply frameD_congr
    intro i hi
    rw [pairsOf_length] at hi
    simp [hi]
  · exact mid_start (by rw [len1, hlen]) ha hdf hh0
  · rw [Array.getD_eq_getD_getElem?, Array.getElem?_replicate]; split <;> rfl
  · rw [Array.getD_eq_getD_getElem?, Array.getElem?_replicate]; split <;> rfl
  · refine Nat.le_trans (List.length_filter_le _ _) ?_
    rw [List.length_range, len1, hlen]; omega
/-- Entering a function. -/
theorem fr_start {args : List SR} (hw : ∀ x ∈ args, x.wf S ρ) (n : Nat) :
    FrOk S ρ B (args ++ List.replicate (n - args.length) (.v (.one .undef))) { tmps := (args.map (SR.den S ρ B)).toArray ++ Array.replicate (n - (args.map (SR.den S ρ B)).toArray.size) undef, defers := [] } := by
  refine ⟨?_, rfl, ?_⟩
  · simp [SR.den, SV.den, Leaf.den]
  · intro x hx
    rcases List.mem_append.1 hx with hx | hx
    · exact hw x hx
    · rw [List.mem_replicate] at hx
      rw [hx.2]; trivial
theorem Leaf.unv_den {B : Nat} {q : Nat} {l : Leaf} (hl : l.den S ρ B = ρ.v q) (x : Leaf) : (Leaf.unv q l x).den S ρ B = x.den S ρ B := by
  unfold Leaf.unv
  split
  · rename_i n
    split
    · rename_i hb; rw [Nat.eq_of_beq_eq_true hb]; exact hl
    · rfl
  · rfl
theorem Seg.unv_den {B : Nat} {q : Nat} {l : Leaf} (hl : l.den S ρ B = ρ.v q) (x : Seg) : (x.unv q l).den S ρ B = x.den S ρ B ∧ (x.wf S ρ → (x.unv q l).wf S ρ) := by
  unfold Seg.unv
  split
  · simp only [Seg.den, List.map_map]
    exact ⟨List.map_congr_left fun y _ => Leaf.unv_den hl y, fun _ => trivial⟩
  · exact ⟨rfl, id⟩
theorem segs_unv {B : Nat} {q : Nat} {l : Leaf} (hl : l.den S ρ B = ρ.v q) (g : List Seg) : segsDen S ρ B (g.map (Seg.unv q l)) = segsDen S ρ B g ∧ (segsWf S ρ g → segsWf S ρ (g.map (Seg.unv q l))) := by
  induction g with
  | nil => exact ⟨rfl, id⟩
  | cons x g ih =>
    rw [List.map_cons, segsDen_cons, segsDen_cons, (Seg.unv_den hl x).1, ih.1]
    exact ⟨rfl, fun h => segsWf_cons.2 ⟨(Seg.unv_den hl x).2 (segsWf_cons.1 h).1, ih.2 (segsWf_cons.1 h).2⟩⟩
theorem SV.unv_den {B : Nat} {q : Nat} {l : Leaf} (hl : l.den S ρ B = ρ.v q) (x : SV) : (x.unv q l).den S ρ B = x.den S ρ B ∧ (x.wf S ρ → (x.unv q l).wf S ρ) := by
  cases x with
  | one x => exact ⟨Leaf.unv_den hl x, fun _ => trivial⟩
  | agg g => exact ⟨by simp only [SV.unv, SV.den, (segs_unv hl g).1], (segs_unv (B := B) hl g).2⟩
theorem SR.unv_den {B : Nat} {q : Nat} {l : Leaf} (hl : l.den S ρ B = ρ.v q) (x : SR) : (x.unv q l).den S ρ B = x.den S ρ B ∧ (x.wf S ρ → (x.unv q l).wf S ρ) := by
  cases x with
  | v x => exact SV.unv_den hl x
  | tup xs =>
    constructor
    · simp only [SR.unv, SR.den, List.map_map]
      congr 2
      exact List.map_congr_left fun y _ => (SV.unv_den hl y).1
    · intro hw y hy
      simp only [SR.unv, List.mem_map] at hy
      obtain ⟨z, hz, rfl⟩ := hy
      exact (SV.unv_den (B := B) hl z).2 (hw z hz)
  | ite c x y => exact ⟨rfl, id⟩
/-- The slice that grows, laid down as a slice of a block of its own. -/
theorem unow_ok {fr fr' : List SR} {h h' : Hp} {t f : T} {a : Act} {w : World} (hu : unowS fr h = some (t, f, fr', h')) (hlo : ρ.loose = []) (hm : t.B S ρ = true) (hf : FrOk S ρ w0.heap.size fr a) (hh : HpOk S ρ w0 h w) :
    ∃ ρ', Agree2 h.nv h.na ρ ρ' ∧ f.B S ρ' = true ∧ FrOk S ρ' w0.heap.size fr' a ∧ HpOk S ρ' w0 h' w := by
  unfold unowS at hu
  split at hu
  · rename_i o ho
    split at hu
    · rename_i hc
      simp only [Bool.and_eq_true] at hc
      obtain ⟨c1, c2, ca, cf⟩ := hc
      simp only [Option.some.injEq, Prod.mk.injEq] at hu
      obtain ⟨rfl, rfl, rfl, rfl⟩ := hu
      have hm : (0 : Int) < ((o.a.A S ρ).length : Int) := by
        have := of_decide_eq_true (p := (0 : Int) < ((o.a.A S ρ).length : Int)) hm
        exact this
      rcases hh.own o ho with ⟨_, v2⟩ | ⟨b, cap, v1, v2, v3, v4, v5, v6⟩
      · rw [v2] at hm; simp at hm
      · rw [hlo] at v4
        have v4 : w0.heap.size ≤ b := by rcases v4 with v4 | v4; exact v4; simp at v4
        have hA : Agree2 h.nv h.na ρ { ρ with i := upd ρ.i h.nv (cap : Int), blk := upd ρ.blk h.nv (b - w0.heap.size) } := by
          refine ⟨?_, fun _ _ => rfl, fun _ _ => rfl, fun _ _ => rfl, fun _ _ => rfl, ?_, fun _ _ => rfl, fun _ _ => rfl, fun _ _ => rfl, rfl⟩
          · intro k hk; simp only [upd]; rw [if_neg (by omega)]
          · intro k hk; simp only [upd]; rw [if_neg (by omega)]
        generalize hρ : ({ ρ with i := upd ρ.i h.nv (cap : Int), blk := upd ρ.blk h.nv (b - w0.heap.size) } : Env) = ρ' at hA
        have hi : ρ'.i h.nv = (cap : Int) := by subst hρ; simp [upd]
        have hbk : ρ'.blk h.nv = b - w0.heap.size := by subst hρ; simp [upd]
        have hvv : ρ'.v = ρ.v := by subst hρ; rfl
        have hnb : ρ'.nb = ρ.nb := by subst hρ; rfl
        have ha := (T.clear_den (S := S) hA ca).2.2
        have hl : (Leaf.sl (.own h.nv) 0 (.lit 0) (.len o.a) (.iv h.nv)).den S ρ' w0.heap.size = ρ'.v o.v := by
          rw [hvv, v1]
          simp only [Leaf.den, addrOf, Ref.blk, Ref.off, T.I, hi, hbk, ha]
          rw [show w0.heap.size + (b - w0.heap.size) = b from by omega]
          simp
        unfold clearRw at c1
        unfold clearRo at c2
        rw [List.all_eq_true] at c1 c2
        have k1 : ∀ x ∈ h.rw, x.1.blk ρ' w0.heap.size = x.1.blk ρ w0.heap.size ∧ x.1.off ρ' = x.1.off ρ ∧ segsDen S ρ' w0.heap.size x.2.segs = segsDen S ρ w0.heap.size x.2.segs ∧ (segsWf S ρ x.2.segs → segsWf S ρ' x.2.segs) := by
          intro x hx
          have := c1 x hx
          simp only [Bool.and_eq_true] at this
          exact ⟨(Ref.clear_den hA this.1).1, (Ref.clear_den hA (B := w0.heap.size) this.1).2, (segs_clear hA this.2).1, (segs_clear (B := w0.heap.size) hA this.2).2⟩
        have k2 : ∀ x ∈ h.ro, x.1.blk ρ' w0.heap.size = x.1.blk ρ w0.heap.size ∧ x.1.off ρ' = x.1.off ρ ∧ x.2.2.A S ρ' = x.2.2.A S ρ := by
          intro x hx
          have := c2 x hx
          simp only [Bool.and_eq_true] at this
          exact ⟨(Ref.clear_den hA this.1).1, (Ref.clear_den hA (B := w0.heap.size) this.1).2, (T.clear_den hA this.2).2.2⟩
        have hnew : (Ref.own h.nv).blk ρ' w0.heap.size = b := by simp only [Ref.blk, hbk]; omega
        refine ⟨ρ', hA, ?_, ?_, ?_, ?_, ?_, ?_, ?_, ?_, ?_, ?_, ?_, ?_, ?_, hh.os, hh.tape, hh.output⟩
        · show decide (((o.a.A S ρ').length : Int) ≤ ρ'.i h.nv) = true
          rw [ha, hi]; exact decide_eq_true (by omega)
        · have hf' := hf.clear hA cf
          refine ⟨?_, hf'.defers, ?_⟩
          · rw [hf'.tmps, List.map_map]
            exact List.map_congr_left fun x _ => ((SR.unv_den hl x).1).symm
          · intro y hy
            obtain ⟨z, hz, rfl⟩ := List.mem_map.1 hy
            exact (SR.unv_den (B := w0.heap.size) hl z).2 (hf'.wf z hz)
        · intro x hx
          rcases List.mem_cons.1 hx with rfl | hx
          · rw [hnew, v3]
            simp only [segsDen_cons, segsDen_nil, List.append_nil, Seg.den, T.I, ha, hi, List.map_cons, List.map_nil, Leaf.den]
            congr 3
            rw [show ((cap : Int) - ((o.a.A S ρ).length : Int)).toNat = cap - (o.a.A S ρ).length from by omega]
            congr 1
            generalize cap - (o.a.A S ρ).length = n
            induction n with
            | zero => rfl
            | succ n ih => rw [List.replicate_succ, List.replicate_succ, List.flatten_cons, ← ih]; rfl
          · obtain ⟨y, hy, rfl⟩ := List.mem_map.1 hx
            show w.heap[y.1.blk ρ' w0.heap.size]? = some (.cells (segsDen S ρ' w0.heap.size (y.2.segs.map _)).toArray y.2.ty (0, 0))
            rw [(segs_unv hl _).1, (k1 y hy).1, (k1 y hy).2.2.1]; exact hh.rw_ y hy
        · intro x hx
          rcases List.mem_cons.1 hx with rfl | hx
          · exact segsWf_cons.2 ⟨trivial, segsWf_cons.2 ⟨trivial, fun _ h => nomatch h⟩⟩
          · obtain ⟨y, hy, rfl⟩ := List.mem_map.1 hx
            exact (segs_unv (B := w0.heap.size) hl _).2 ((k1 y hy).2.2.2 (hh.wf y hy))
        · intro x hx
          rcases List.mem_cons.1 hx with rfl | hx
          · rfl
          · obtain ⟨y, hy, rfl⟩ := List.mem_map.1 hx
            show y.1.off ρ' = 0
            rw [(k1 y hy).2.1]; exact hh.off y hy
        · show (List.map (fun x : Ref × Blk => x.1.blk ρ' w0.heap.size) (_ :: h.rw.map _)).Nodup
          rw [List.map_cons, List.map_map, List.nodup_cons]
          constructor
          · intro hmem
            obtain ⟨y, hy, e⟩ := List.mem_map.1 hmem
            have e : y.1.blk ρ' w0.heap.size = b := by rw [← hnew]; exact e
            rw [(k1 y hy).1] at e
            exact v5 y hy e
          · have : (List.map ((fun x : Ref × Blk => x.1.blk ρ' w0.heap.size) ∘ fun x => (x.1, ⟨x.2.ty, x.2.segs.map (Seg.unv o.v (.sl (.own h.nv) 0 (.lit 0) (.len o.a) (.iv h.nv)))⟩)) h.rw) = h.rw.map fun x => x.1.blk ρ w0.heap.size := List.map_congr_left fun y hy => (k1 y hy).1
            rw [this]; exact hh.nd
        · intro x hx j v hv
          rw [(k2 x hx).1, (k2 x hx).2.1]
          rw [(k2 x hx).2.2] at hv
          exact hh.ro x hx j v hv
        · intro x hx y hy
          rcases List.mem_cons.1 hy with rfl | hy
          · rw [hnew, (k2 x hx).1]; exact v6 x hx
          · obtain ⟨z, hz, rfl⟩ := List.mem_map.1 hy
            show x.1.blk ρ' w0.heap.size ≠ z.1.blk ρ' w0.heap.size
            rw [(k2 x hx).1, (k1 z hz).1]; exact hh.apart x hx z hz
        · intro x hx
          rw [(k2 x hx).1]; exact hh.rolt x hx
        · rw [hnb]; exact hh.size
        · rw [hnb]; exact hh.nbs
        · intro i hi' hlo' hne'
          refine hh.frame i hi' (by rw [hA.loose] at hlo'; exact hlo') fun x hx e' => ?_
          refine hne' (x.1, ⟨x.2.ty, x.2.segs.map (Seg.unv o.v (.sl (.own h.nv) 0 (.lit 0) (.len o.a) (.iv h.nv)))⟩) (List.mem_cons_of_mem _ (List.mem_map.2 ⟨x, hx, rfl⟩)) ?_
          show x.1.blk ρ' w0.heap.size = i
          rw [(k1 x hx).1]; exact e'
        · intro o' ho'; cases ho'
    · cases hu
  · cases hu
theorem unowAt_ok {fc : FC} {id : Nat} {fr fr' : List SR} {h h' : Hp} {t f : T} {a : Act} {w : World} (hu : unowAt fc id fr h = some (t, f, fr', h')) (hlo : ρ.loose = []) (hm : Met S ρ [t]) (hf : FrOk S ρ w0.heap.size fr a) (hh : HpOk S ρ w0 h w) :
    ∃ ρ', Agree2 h.nv h.na ρ ρ' ∧ f.B S ρ' = true ∧ FrOk S ρ' w0.heap.size fr' a ∧ HpOk S ρ' w0 h' w := by
  unfold unowAt at hu
  split at hu
  · exact unow_ok hu hlo (met_cons.1 hm).1 hf hh
  · cases hu
theorem castAt_ok {fc : FC} {id : Nat} {fr fr' : List SR} {h : Hp} {nd : List T} {B : Nat} {a : Act} (hc : castAt fc id fr h = some (nd, fr')) (hm : Met S ρ nd) (hf : FrOk S ρ B fr a) : FrOk S ρ B fr' a := by
  unfold castAt at hc
  split at hc
  · split at hc
    · rename_i an _
      split at hc
      · rename_i k t hs
        simp only [Option.some.injEq, Prod.mk.injEq] at hc
        obtain ⟨rfl, rfl⟩ := hc
        have he := (met_cons.1 (met_needs hm)).1
        have he : t.I S ρ = an.meas.I S ρ := eqT_ok he
        refine ⟨?_, hf.defers, ?_⟩
        · rw [hf.tmps, List.map_set]
          apply List.ext_getElem?
          intro i
          rw [List.getElem?_set]
          split
          · rename_i his
            subst his
            split
            · rename_i hlt
              have hlt : an.h.nv < fr.length := by simpa using hlt
              unfold getSR at hs
              rw [List.getD_eq_getElem?_getD, List.getElem?_eq_getElem hlt] at hs
              simp only [Option.getD_some] at hs
              rw [List.getElem?_map, List.getElem?_eq_getElem hlt, hs]
              simp [SR.den, SV.den, Leaf.den, he]
            · rename_i hge
              rw [List.getElem?_eq_none (by simpa using hge)]
          · rfl
        · intro y hy
          rcases List.mem_or_eq_of_mem_set hy with hy | rfl
          · exact hf.wf y hy
          · trivial
      · cases hc
    · cases hc
  · cases hc
/-- Every region that draws its order is, in its text, as it must be. -/
def DrawsOk (P : Program) : Prop := ∀ (f : Nat) (fn : Func) (c : Code), P.funcs[f]? = some fn → fn.body = some c → drawsOk c = true
theorem bindRet_ok {Q Qc : Exit → Act → World → Prop} {rs' : List ResultVar} {nv na : Nat} {ks : List KF} {k : SR → Hp → Out} : ∀ {o : Out} {ρ : Env}, (o.bindRet P rs nv na ks k).okA P S w0 rs' Q ρ → KsOk P S w0 Q ρ ks →
    (∀ (ρ' : Env) (v : SR) (h : Hp), Agree2 nv na ρ ρ' → KsOk P S w0 Q ρ' ks → (k v h).okA P S w0 rs' Q ρ' → ∀ (a : Act) (w : World), v.wf S ρ' → a.defers = [] → (resRun rs a.tmps).run P w = .ok (v.den S ρ' w0.heap.size) w → HpOk S ρ' w0 h w → Qc .ret a w ∧ Qc .normal a w) →
    o.okA P S w0 rs Qc ρ
  | .need c o, ρ, h, hk, hq => ⟨h.1, bindRet_ok h.2 hk hq⟩
  | .cond c x y, ρ, h, hk, hq => ⟨fun hc => bindRet_ok (h.1 hc) hk hq, fun hc => bindRet_ok (h.2 hc) hk hq⟩
  | .any ns na' facts o, ρ, h, hk, hq => by
    simp only [Out.bindRet] at h
    split at h
    · rename_i hc
      simp only [Bool.and_eq_true] at hc
      obtain ⟨c1, c2, c3⟩ := hc
      rw [ble_iff] at c1 c2
      intro ρ1 hA hf
      exact bindRet_ok (h ρ1 hA hf) (hk.clear hA c3) fun ρ' v h' g1 => hq ρ' v h' ((hA.weaken c1 c2).trans g1 (Nat.le_refl _) (Nat.le_refl _))
    · exact h.elim
  | .ret v h', ρ, h, hk, hq => fun a w g1 g2 g3 g4 => (hq ρ v h' (Agree2.rfl' _ _ _) hk h a w g1 g2 g3 g4).1
  | .fall fr h', ρ, h, hk, hq => by
    simp only [Out.bindRet] at h
    split at h
    · rename_i v hv
      exact fun a w hf hh => (hq ρ v h' (Agree2.rfl' _ _ _) hk h a w (retS_wf hh (getSR_wf hf.wf) hv) hf.defers (retS_ok hh hf hv) hh).2
    · exact h.elim
  | .done, ρ, h, hk, hq => trivial
  | .tight o, ρ, h, hk, hq => ⟨h.1, bindRet_ok h.2 hk hq⟩
  | .fail _, ρ, h, hk, hq => h.elim
  | .out .., ρ, h, hk, hq => h.elim
  | .stop .., ρ, h, hk, hq => h.elim
theorem roLow_spec {lo : Nat} {l : List (Ref × IntKind × T)} (h : roLow lo l = true) : ∀ t ∈ l, (∃ n, t.1 = .ro n ∧ n < lo) ∨ ∃ g, t.1 = .glob g := by
  unfold roLow at h
  rw [List.all_eq_true] at h
  intro t ht
  have := h t ht
  split at this
  · rename_i n hn; exact .inl ⟨n, hn, Nat.le_of_ble_eq_true this⟩
  · rename_i g hg; exact .inr ⟨g, hg⟩
  · cases this
/-- A state that fits a loop's template. -/
theorem fit_ann {lo : Nat} {an : Ann} {fr : List SR} {h : Hp} {m : Bd} {rest : List (Ref × Blk)} {a : Act} {w : World} (hf : fits lo an.fr an.h fr h = some (m, rest)) (ht : tmOk lo an.fr an.h h rest an.quiet = true) (hm : Met S ρ (m.needs lo)) (hfr : FrOk S ρ w0.heap.size fr a) (hh : HpOk S ρ w0 h w) :
    ∃ ρ', Agree2 lo an.na ρ ρ' ∧ (m.ts lo).Ok S ρ ρ' ∧ FrOk S ρ' w0.heap.size an.fr a ∧ HpOk S ρ' w0 an.h w := by
  unfold tmOk at ht
  simp only [Bool.and_eq_true] at ht
  obtain ⟨t1, t2, t3, t4, t5, t6⟩ := ht
  rw [ble_iff] at t5
  obtain ⟨ρ', h1, h2, h3, h4, h5⟩ := fits_same hf hm hh hfr.wf t1 t2 (roLow_spec t3) t5 t4 an.quiet (fun hq => by rw [hq] at t6; exact Nat.eq_of_beq_eq_true (by simpa using t6))
  exact ⟨ρ', h1, h2, ⟨by rw [hfr.tmps, h3], hfr.defers, h4⟩, h5⟩
theorem met_put {s : TS} {ρ' : Env} (hs : s.Ok S ρ ρ') {l : List T} (h : Met S ρ (l.map (T.put s))) : Met S ρ' l := by
  intro t ht
  rw [← (T.put_den hs t).2.1]
  exact h _ (List.mem_map.2 ⟨t, ht, rfl⟩)
set_option maxHeartbeats 2000000 in
theorem walk_ok (hm : P.follows .mixedOrders = true) (hD : DrawsOk P) {rsp : Nat → Option RSpec} {tab : Tab} (hsp : ∀ f s, specs f = some s → SpecOk P S f s) (hrsp : ∀ f s, rsp f = some s → RSpecOk P S f s) : ∀ (n : Nat) (fc : FC) (ρ : Env) (Q : Exit → Act → World → Prop) (task : Task) (ks : List KF) (fr : List SR) (h : Hp),
    task.good = true → ksGood ks = true → KsOk P S w0 Q ρ ks → (walk P specs rsp tab n fc task ks fr h).ok P S ρ w0 fc.rs Q → task.goal P specs S ρ w0 Q ks fr h := by
  intro n
  induction n with
  | zero => intro fc ρ Q task ks fr h _ _ _ hok; simp only [walk, Out.ok, Out.okA] at hok
  | succ n ih =>
    intro fc ρ Q task ks fr h hg hk hK hok
    cases task with
    | pop =>
      intro a w hf hh
      cases ks with
      | nil => exact hok a w hf hh
      | cons k ks =>
        cases k with
        | code c =>
          simp only [ksGood, Bool.and_eq_true] at hk
          exact ih fc ρ Q (.code c) ks fr h hk.1 hk.2 hK hok a w hf hh
        | again c =>
          have hk' := hk
          simp only [ksGood, Bool.and_eq_true] at hk
          exact inLoop_of (ih fc ρ Q (.code c) (.again c :: ks) fr h hk.1 hk' hK hok a w hf hh)
        | blk id => exact ih fc ρ Q .pop ks fr h rfl (by simpa [ksGood] using hk) hK hok a w hf hh
        | inv lo an c =>
          simp only [walk] at hok
          split at hok
          · rename_i m rest hfit
            split at hok
            · rename_i ht
              obtain ⟨o1, _⟩ := ok_needOut hok
              obtain ⟨n1, n2⟩ := met_append.1 o1
              obtain ⟨n2, n3⟩ := met_append.1 n2
              obtain ⟨ρ', g1, g2, g3, g4⟩ := fit_ann hfit ht n1 hf hh
              have b1 := (met_cons.1 n3).1
              have b2 := (met_cons.1 (met_cons.1 n3).2).1
              simp only [T.B, T.I] at b1 b2
              have b1 := of_decide_eq_true b1
              have b2 := of_decide_eq_true b2
              rw [(T.put_den g2 an.meas).1] at b2
              exact hK.1 ρ' a w g1 g3 g4 (met_put g2 n2) b2 b1
            · simp only [Out.ok, Out.okA] at hok
          · simp only [Out.ok, Out.okA] at hok
    | code c =>
      intro a w hf hh
      cases c with
      | skip => exact wp_skip (ih fc ρ Q .pop ks fr h rfl hk hK hok a w hf hh)
      | seq x y =>
        simp only [Task.good, drawsOk, Bool.and_eq_true] at hg
        exact wp_seq (ih fc ρ Q (.code x) (.code y :: ks) fr h hg.1 (by simp [ksGood, hg.2, hk]) hK hok a w hf hh)
      | block id b => exact wp_block (ih fc ρ Q (.code b) (.blk id :: ks) fr h hg (by simpa [ksGood] using hk) hK hok a w hf hh)
      | loop b =>
        simp only [walk] at hok
        split at hok
        · exact wp_inLoop (inLoop_of (ih fc ρ Q (.code b) (.again b :: ks) fr h hg (by simp only [ksGood, Bool.and_eq_true]; exact ⟨hg, hk⟩) hK hok a w hf hh))
        · split at hok
          · simp only [Out.ok, Out.okA] at hok
          · rename_i an _
            split at hok
            · rename_i m rest hfit
              split at hok
              · rename_i ht
                simp only [Bool.and_eq_true] at ht
                obtain ⟨ht, hkc⟩ := ht
                obtain ⟨o1, o2⟩ := ok_needOut hok
                obtain ⟨n1, n2⟩ := met_append.1 o1
                obtain ⟨ρ', g1, g2, g3, g4⟩ := fit_ann hfit ht n1 hf hh
                have key : ∀ (N : Nat) (ρ1 : Env) (a : Act) (w : World), Agree2 h.nv an.na ρ ρ1 → FrOk S ρ1 w0.heap.size an.fr a → HpOk S ρ1 w0 an.h w → Met S ρ1 an.facts → (an.meas.I S ρ1).toNat = N → InLoop P b (Qof P Q ks) a w := by
                  intro N
                  induction N using Nat.strongRecOn with
                  | _ N ihN =>
                    intro ρ1 a w k1 k2 k3 k4 k5
                    refine inLoop_of (ih fc ρ1 Q (.code b) (.inv h.nv an b :: ks) an.fr an.h hg (by simp only [ksGood, Bool.and_eq_true]; exact ⟨hg, hk⟩) ⟨?_, hK.clear k1 hkc⟩ (o2 ρ1 k1 k4) a w k2 k3)
                    intro ρ2 a w l1 l2 l3 l4 l5 l6
                    exact ihN (an.meas.I S ρ2).toNat (by omega) ρ2 a w (k1.trans l1 (Nat.le_refl _) (Nat.le_refl _)) l2 l3 l4 rfl
                exact wp_inLoop (key _ ρ' a w g1 g3 g4 (met_put g2 n2) rfl)
              · simp only [Out.ok, Out.okA] at hok
            · simp only [Out.ok, Out.okA] at hok
      | exit id =>
        refine wp_exit ?_
        simp only [walk] at hok
        split at hok
        · rename_i ks' hu
          exact (qof_exit a w).1 ks' hu (ih fc ρ Q .pop ks' fr h rfl (ksGood_unwind hk hu) (hK.unwind hu) hok a w hf hh)
        · rename_i hu
          exact (qof_exit a w).2 hu (hok a w hf hh)
      | ret =>
        refine wp_ret (qof_ret ks a w ?_)
        simp only [walk] at hok
        split at hok
        · rename_i v hv
          exact hok a w (retS_wf hh (getSR_wf hf.wf) hv) hf.defers (retS_ok hh hf hv) hh
        · simp only [Out.ok, Out.okA] at hok
      | cond x y z =>
        simp only [Task.good, drawsOk, Bool.and_eq_true] at hg
        simp only [walk] at hok
        have hev : ∀ {l : Leaf}, evL (getSR fr) x = some l → a.eval x = l.den S ρ w0.heap.size := fun hl => evL_den (xs := #[x]) (hf.agree _) (by simp) hl
        split at hok
        · rename_i hl
          refine wp_cond_true ?_ (ih fc ρ Q (.code y) ks fr h hg.1 hk hK hok a w hf hh)
          rw [hev hl]; simp [Leaf.den, T.B]
        · rename_i hl
          refine wp_cond_false ?_ (ih fc ρ Q (.code z) ks fr h hg.2 hk hK hok a w hf hh)
          rw [hev hl]; simp [Leaf.den, T.B]
        · rename_i s t _ _ hl
          have hs : getSR fr s = .v (.one (.bool t)) := by
            unfold evL at hl
            split at hl
            · rename_i l hr
              cases hl
              simpa [evS] using hr
            · cases hl
          have hfork : (Out.cond t (walk P specs rsp tab n fc (.code y) ks (setTruth fr s true) h) (walk P specs rsp tab n fc (.code z) ks (setTruth fr s false) h)).ok P S ρ w0 fc.rs Q → (Code.cond (.tmp s) y z).wp P (Qof P Q ks) a w := by
            intro hok
            obtain ⟨o1, o2⟩ := hok
            cases hb : t.B S ρ with
            | true => exact wp_cond_true (by rw [hev hl]; simp [Leaf.den, hb]) (ih fc ρ Q (.code y) ks _ h hg.1 hk hK (o1 hb) a w (hf.truth hs hb) hh)
            | false => exact wp_cond_false (by rw [hev hl]; simp [Leaf.den, hb]) (ih fc ρ Q (.code z) ks _ h hg.2 hk hK (o2 hb) a w (hf.truth hs hb) hh)
          split at hok
          · rename_i hpp
            simp only [Bool.and_eq_true] at hpp
            split at hok
            · rename_i c1 f1 c2 f2 e1 e2
              split at hok
              · rename_i hc
                obtain ⟨hc2, _⟩ := hc
                obtain ⟨o1, o2⟩ := ok_needOut hok
                have hp := ih fc ρ Q .pop ks _ _ rfl hk hK o2
                obtain ⟨m1, m2⟩ := met_append.1 o1
                cases hb : t.B S ρ with
                | true =>
                  refine wp_cond_true (by rw [hev hl]; simp [Leaf.den, hb]) ?_
                  have hm1 : Met S ρ c1 := fun q hq => by
                    have := m1 (.or (.not t) q) (List.mem_map.2 ⟨q, hq, rfl⟩)
                    simpa [T.B, hb] using this
                  have := ih fc ρ (Qof P Q ks) (.code y) [] (setTruth fr s true) h hg.1 rfl trivial (pure_ok n (.code y) [] _ hpp.1 rfl e1 hm1 fun a w hf hh => hp a w (hf.merge_true hb hc2) hh)
                  exact this a w (hf.truth hs hb) hh
                | false =>
                  refine wp_cond_false (by rw [hev hl]; simp [Leaf.den, hb]) ?_
                  have hm2 : Met S ρ c2 := fun q hq => by
                    have := m2 (.or t q) (List.mem_map.2 ⟨q, hq, rfl⟩)
                    simpa [T.B, hb] using this
                  have := ih fc ρ (Qof P Q ks) (.code z) [] (setTruth fr s false) h hg.2 rfl trivial (pure_ok n (.code z) [] _ hpp.2 rfl e2 hm2 fun a w hf hh => hp a w (hf.merge_false hb hc2) hh)
                  exact this a w (hf.truth hs hb) hh
              · exact hfork hok
            · exact hfork hok
          · exact hfork hok
        · simp only [Out.ok, Out.okA] at hok
      | region id ops draw =>
        simp only [walk] at hok
        cases hu : unowAt fc id fr h with
        | some u =>
          obtain ⟨t, f, fr', h'⟩ := u
          simp only [hu] at hok
          split at hok
          · rename_i hkc
            obtain ⟨hlo, hneed, hany⟩ := hok
            obtain ⟨ρ', u1, u2, u3, u4⟩ := unowAt_ok hu hlo hneed hf hh
            exact ih fc ρ' Q (.code (.region id ops draw)) ks fr' h' hg hk (hK.clear u1 hkc) (hany ρ' u1 (met_cons.2 ⟨u2, Met.nil⟩)) a w u3 u4
          · exact hok.elim
        | none =>
        simp only [hu] at hok
        have hmain : ∀ (fr : List SR), FrOk S ρ w0.heap.size fr a → (if draw = true then walk P specs rsp tab n fc (.draw ops.toList ops.toList [] h) ks fr h else walk P specs rsp tab n fc (.ops ops.toList ops.toList) ks fr h).ok P S ρ w0 fc.rs Q → Code.wp P (.region id ops draw) (Qof P Q ks) a w := by
          intro fr hf hok
          cases draw with
          | false =>
            simp only [Bool.false_eq_true, if_false] at hok
            exact wp_region_list (ih fc ρ Q (.ops ops.toList ops.toList) ks fr h rfl hk hK hok a w hf hh)
          | true =>
            simp only [if_true] at hok
            simp only [Task.good, drawsOk, Bool.not_true, Bool.false_or] at hg
            have := ih fc ρ Q (.draw ops.toList ops.toList [] h) ks fr h hg hk hK hok (fr.map (SR.den S ρ w0.heap.size)) w hh rfl (SoFar.start hf.wf) a { w with drawn := w.drawn + 1 } hf.tmps hf.defers hh.drew
            exact wp_region_any hm (by simpa using this)
        cases hc : castAt fc id fr h with
        | none =>
          simp only [hc] at hok
          exact hmain fr hf hok
        | some u =>
          simp only [hc] at hok
          obtain ⟨o1, o2⟩ := ok_needOut hok
          exact hmain u.2 (castAt_ok hc o1 hf) o2
      | _ => simp only [walk, Out.ok, Out.okA] at hok
    | ops rest all =>
      intro a w hf hh
      cases rest with
      | nil => exact ih fc ρ Q .pop ks fr h rfl hk hK hok a w hf hh
      | cons o rest =>
        simp only [walk] at hok
        have hw := wantS_ok (all := all) (o := o) hf.tmps
        split at hok
        · rename_i hwt
          rw [hwt] at hw
          split at hok
          · rename_i r hr
            obtain ⟨o1, o2⟩ := ok_needOut hok
            obtain ⟨d1, d2⟩ := step_ok hsp hr o1 (getSR_wf hf.wf) (hf.agree _) hh
            unfold wpList
            rw [if_pos hw]
            exact .inl (d2 _ _ fun w' hw' => ih fc ρ Q (.ops rest all) ks _ _ rfl hk hK o2 _ _ (hf.put o.dst d1) hw')
          · split at hok
            · rename_i rr hr
              split at hok
              · rename_i hcl
                simp only [Bool.and_eq_true] at hcl
                obtain ⟨hcl, hkc⟩ := hcl
                obtain ⟨o1, o2⟩ := ok_needOut hok
                have d2 := rstep_ok hrsp hr o1 (getSR_wf hf.wf) (hf.agree _) hh
                unfold wpList
                rw [if_pos hw]
                refine .inl (d2 _ _ fun ρ' w' b1 b2 b3 b4 => ?_)
                exact ih fc ρ' Q (.ops rest all) ks _ _ rfl hk (hK.clear b1 hkc) (o2 ρ' b1 b2) _ _ ((hf.clear b1 hcl).put o.dst b3) b4
              · exact hok a w hf hh
            · split at hok
              · rename_i c hop
                split at hok
                · rename_i f args hcall
                  split at hok
                  · rename_i fn hin hfn
                    simp only [Bool.and_eq_true] at hin
                    split at hok
                    · rename_i b hbody
                      have hops : o.op.operands = c.operands := by rw [hop]; rfl
                      obtain ⟨h1, h2⟩ := call_run (w := w) (t := o.type) (getSR_wf hf.wf) (hf.agree c.operands) hcall
                      unfold wpList
                      rw [if_pos hw]
                      left
                      unfold Oper.wp
                      obtain ⟨dst, op, type, pos, after, guard⟩ := o
                      simp only at hop
                      subst hop
                      simp only [execOp]
                      rw [h1, Oper.upon_enter]
                      refine (calls_of_wp hfn hbody (R := fun e w' => ∃ v, e = .returned v ∧ wpList P all.toArray (Qof P Q ks) rest (a.put dst v) w') ?_).mono ?_
                      · refine ih ⟨fn.results.toList, tab.lt f⟩ ρ (bodyPost P fn fun e w' => ∃ v, e = .returned v ∧ wpList P all.toArray (Qof P Q ks) rest (a.put dst v) w') (.code b) [] _ h (hD f fn b hfn hbody) rfl trivial ?_ _ w (fr_start h2 fn.ntmps) hh
                        refine bindRet_ok hok hK fun ρ' v h' g1 g2 g3 a' w' v1 v2 v3 v4 => ?_
                        have hp : bodyPost P fn (fun e w' => ∃ v, e = .returned v ∧ wpList P all.toArray (Qof P Q ks) rest (a.put dst v) w') .ret a' w' := by
                          refine ⟨v2, _, by rw [results_resRun]; exact v3, _, rfl, ?_⟩
                          exact ih fc ρ' Q (.ops rest all) ks _ _ rfl hk g2 g3 _ _ ((hf.clear g1 hin.2).put dst v1) v4
                        exact ⟨hp, hp⟩
                      · rintro e w' ⟨v, rfl, hv⟩
                        exact hv
                    · exact hok a w hf hh
                  · exact hok a w hf hh
                · exact hok a w hf hh
              · exact hok a w hf hh
        · rename_i hwt
          rw [hwt] at hw
          unfold wpList
          rw [if_neg (by rw [hw]; simp)]
          have := ih fc ρ Q (.ops rest all) ks _ _ rfl hk hK hok (a.put o.dst undef) w
          exact this (by simpa [SR.den, SV.den, Leaf.den] using hf.put o.dst (x := .v (.one .undef)) trivial) hh
        · rename_i s t hwt
          rw [hwt] at hw
          obtain ⟨o1, o2⟩ := hok
          cases hb : t.B S ρ with
          | true => exact ih fc ρ Q (.ops (o :: rest) all) ks _ h rfl hk hK (o1 hb) a w (hf.truth hw hb) hh
          | false => exact ih fc ρ Q (.ops (o :: rest) all) ks _ h rfl hk hK (o2 hb) a w (hf.truth hw hb) hh
        · simp only [Out.ok, Out.okA] at hok
    | draw rest all es h0 =>
      intro init w hh hall sf
      cases rest with
      | nil =>
        simp only [walk] at hok
        split at hok
        · rename_i hd
          have hp := ih fc ρ Q .pop ks fr h rfl hk hK hok
          have hall' : es.map (·.o) = all := by simpa using hall
          have hlen : es.length = all.length := by rw [← hall']; simp
          intro a w1 ha hdf hh0
          have hsh : Shown P specs S ρ w0.heap.size h0 es init h := ⟨sf.frs, fun j e hj => by rw [hall']; exact sf.want j e hj, fun j e hj => sf.st j e hj (by have := (List.getElem?_eq_some_iff.1 hj).1; omega), sf.no, sf.chain⟩
          have := any_ok hsp hsh (by rw [hall']; exact hg) hd (Q := Qof P Q ks) (fun a w ht hdf hh => hp a w ⟨by
            rw [ht, sf.now]
            apply frameD_congr
            intro i hi
            rw [pairsOf_length] at hi
            simp [hi], hdf, sf.wf⟩ hh) all.length (Array.replicate all.length false) a w1 (mid_start hlen.symm ha hdf hh0) (by
            refine Nat.le_trans (List.length_filter_le _ _) ?_
            simp [hlen])
          rw [hall'] at this
          exact this
        · split at hok
          · rename_i _ hd
            rw [Bool.and_eq_true] at hd
            obtain ⟨hd1, hd2⟩ := hd
            have hall' : es.map (·.o) = all := by simpa using hall
            have hlen : es.length = all.length := by rw [← hall']; simp
            have hsh : Shown P specs S ρ w0.heap.size h0 es init h := ⟨sf.frs, fun j e hj => by rw [hall']; exact sf.want j e hj, fun j e hj => sf.st j e hj (by have := (List.getElem?_eq_some_iff.1 hj).1; omega), sf.no, sf.chain⟩
            unfold looseOk at hd1
            split at hd1
            · cases hd1
            · rename_i e0 es0 _
              simp only at hd1
              split at hd1
              · rename_i H hH
                simp only [Bool.and_eq_true, Nat.ble_eq] at hd1
                obtain ⟨n1, n2, n3⟩ := hd1
                have lp := looseAt_spec n3
                have hne : looseAls (e0 :: es0) (looseIx (e0 :: es0)) ≠ [] := by
                  intro he; rw [he] at n1; cases n1
                have h0fr : e0.fr.map (SR.den S ρ w0.heap.size) = init := by
                  have := sf.frs 0 e0 rfl
                  rw [this, frameD_none _ _ _ (fun i _ => by simp)]
                have hi0 : ∀ f : Nat → Nat, (∀ k, k < H.na → f k = ρ.nb k) → e0.fr.map (SR.den S (ρ.nbs f) w0.heap.size) = init := by
                  intro f hf
                  rw [← h0fr]
                  exact List.map_congr_left fun x hx => (SR.clear_den (nbs_agree (ns := h0.nv) hf) (List.all_eq_true.1 lp.fr0c x hx)).1
                intro a w1 ha hdf hh0
                have := any_ok3 hsp lp hne (by rw [hall']; exact hg) hsh hi0 (Q := Qof P Q ks) (fun f a w hf ht hdf hh => by
                  have hA : Agree2 h0.nv h0.na ρ (ρ.nbs f) := nbs_agree fun k hk => hf k (by omega)
                  refine ih fc (ρ.nbs f) Q .pop ks fr h rfl hk (hK.clear hA hd2) (hok _ hA Met.nil) a w ⟨?_, hdf, fun x hx => SR.wf_nbs (sf.wf x hx)⟩ hh
                  rw [ht, (frames_ok (S := S) (ρ := ρ.nbs f) (B := w0.heap.size) 0 lp.frames).2, hi0 f hf]) all.length (Array.replicate all.length false) a w1 (.inl ⟨mid_start hlen.symm ha hdf hh0, fun x _ => by
                    rw [Array.getD_eq_getD_getElem?, Array.getElem?_replicate]; split <;> rfl⟩) (by
                  refine Nat.le_trans (List.length_filter_le _ _) ?_
                  simp [hlen])
                rw [hall'] at this
                exact this
              · cases hd1
          · simp only [Out.ok, Out.okA] at hok
      | cons o rest =>
        simp only [walk] at hok
        have hw := wantS_ok (all := all) (o := o) (fr := fr) (S := S) (ρ := ρ) (B := w0.heap.size) (tmps := (fr.map (SR.den S ρ w0.heap.size)).toArray) (by simp)
        split at hok
        · rename_i hwt
          rw [hwt] at hw
          split at hok
          · rename_i r hr
            obtain ⟨o1, o2⟩ := ok_needOut hok
            have hfr : FrOk S ρ w0.heap.size fr { tmps := (fr.map (SR.den S ρ w0.heap.size)).toArray, defers := [] } := ⟨by simp, rfl, sf.wf⟩
            obtain ⟨hwf, d2⟩ := step_ok hsp hr o1 (getSR_wf sf.wf) (hfr.agree _) hh
            obtain ⟨_, w', hw'⟩ := exists_of_wp (d2 (fun _ w' => HpOk S ρ w0 r.heap w') (fun _ _ _ => False) fun w' hw' => hw')
            exact ih fc ρ Q (.draw rest all (es ++ [⟨o, true, fr, h, r⟩]) h0) ks _ _ hg hk hK o2 init w' hw' (by simpa using hall) (sf.more (e := ⟨o, true, fr, h, r⟩) rfl rfl hw (fun _ _ => ⟨hr, o1⟩) (fun hw he => eff_heap rfl hr hw he) (fun h => by cases h) hwf)
          · split at hok
            · rename_i rr hr
              split at hok
              · rename_i es' fr' h' htail
                split at hok
                · rename_i hc
                  simp only [Bool.and_eq_true] at hc
                  obtain ⟨c1, c2, c3, c4, c5, c6, c7⟩ := hc
                  obtain ⟨o1, o2⟩ := ok_needOut hok
                  have hlen : es.length < all.length := by rw [← hall]; simp
                  have hfr : FrOk S ρ w0.heap.size fr { tmps := (fr.map (SR.den S ρ w0.heap.size)).toArray, defers := [] } := ⟨by simp, rfl, sf.wf⟩
                  have hentc : ∀ e ∈ es, e.fr.all (SR.clear rr.ns rr.na) = true ∧ e.r.val.clear rr.ns rr.na = true ∧ e.r.need.all (T.clear rr.ns) = true := by
                    intro e he
                    unfold entsClear at c4
                    rw [List.all_eq_true] at c4
                    have := c4 e he
                    simp only [Bool.and_eq_true] at this
                    exact this
                  -- what has been shown so far holds under every choice of the new names
                  have hpairs : ∀ ρ', Agree2 rr.ns rr.na ρ ρ' → pairsOf S ρ' w0.heap.size es = pairsOf S ρ w0.heap.size es := by
                    intro ρ' hA
                    unfold pairsOf
                    apply List.map_congr_left
                    intro e he
                    rw [(SR.clear_den hA (hentc e he).2.1).1]
                  have hden : ∀ ρ' (l : List SR), Agree2 rr.ns rr.na ρ ρ' → l.all (SR.clear rr.ns rr.na) = true → l.map (SR.den S ρ' w0.heap.size) = l.map (SR.den S ρ w0.heap.size) := by
                    intro ρ' l hA hl
                    rw [List.all_eq_true] at hl
                    exact List.map_congr_left fun x hx => (SR.clear_den hA (hl x hx)).1
                  have hwfs : ∀ ρ' (l : List SR), Agree2 rr.ns rr.na ρ ρ' → l.all (SR.clear rr.ns rr.na) = true → (∀ x ∈ l, x.wf S ρ) → ∀ x ∈ l, x.wf S ρ' := by
                    intro ρ' l hA hl hw x hx
                    rw [List.all_eq_true] at hl
                    exact (SR.clear_den (B := w0.heap.size) hA (hl x hx)).2 (hw x hx)
                  have sf' : ∀ ρ', Agree2 rr.ns rr.na ρ ρ' → SoFar P specs S ρ' w0.heap.size h0 all es init fr h es.length := by
                    intro ρ' hA
                    refine ⟨?_, ?_, ?_, sf.no, sf.chain, ?_, hwfs ρ' fr hA c5 sf.wf⟩
                    · intro j e hj
                      have he := List.mem_of_getElem? hj
                      rw [hpairs ρ' hA, hden ρ' _ hA (hentc e he).1]; exact sf.frs j e hj
                    · intro j e hj
                      rw [hpairs ρ' hA]; exact sf.want j e hj
                    · intro j e hj _ hwj
                      have he := List.mem_of_getElem? hj
                      obtain ⟨s1, s2, s3⟩ := sf.st j e hj (by have := (List.getElem?_eq_some_iff.1 hj).1; omega) hwj
                      exact ⟨s1, met_clear hA (hentc e he).2.2 s2, hwfs ρ' _ hA (hentc e he).1 s3⟩
                    · rw [hpairs ρ' hA, hden ρ' _ hA c5]; exact sf.now
                  -- the operation itself
                  have hX : ∃ ρ1 w1, Agree2 rr.ns rr.na ρ ρ1 ∧ Met S ρ1 rr.facts ∧ rr.val.wf S ρ1 ∧ HpOk S ρ1 w0 rr.heap w1 := by
                    have d2 := rstep_ok hrsp hr o1 (getSR_wf sf.wf) (hfr.agree _) hh
                    obtain ⟨_, w', ρ1, q1, q2, q3, q4⟩ := exists_of_wp (d2 (fun _ w' => ∃ ρ1, Agree2 rr.ns rr.na ρ ρ1 ∧ Met S ρ1 rr.facts ∧ rr.val.wf S ρ1 ∧ HpOk S ρ1 w0 rr.heap w') (fun _ _ _ => False) fun ρ' w' b1 b2 b3 b4 => ⟨ρ', b1, b2, b3, b4⟩)
                    exact ⟨ρ1, w', q1, q2, q3, q4⟩
                  have more : ∀ ρ', Agree2 rr.ns rr.na ρ ρ' → rr.val.wf S ρ' → SoFar P specs S ρ' w0.heap.size h0 all (es ++ [⟨o, true, fr, h, ⟨rr.need, rr.val, rr.heap⟩⟩]) init (putSR fr o.dst rr.val) rr.heap es.length := by
                    intro ρ' hA hv
                    exact (sf' ρ' hA).more (e := ⟨o, true, fr, h, ⟨rr.need, rr.val, rr.heap⟩⟩) rfl rfl (by rw [hden ρ' _ hA c5]; exact hw) (fun h => absurd rfl h) (fun _ he => by rw [c2] at he; cases he) (fun h => by cases h) hv
                  have tl : ∀ ρ' w', Agree2 rr.ns rr.na ρ ρ' → rr.val.wf S ρ' → HpOk S ρ' w0 rr.heap w' → _ := fun ρ' w' hA hv hh' => tail_ok hsp hh' (by simpa using hall) (by simp) (more ρ' hA hv) htail
                  obtain ⟨ρ1, w1, x1, x2, x3, x4⟩ := hX
                  obtain ⟨t1, _, t3, t4⟩ := tl ρ1 w1 x1 x3 x4
                  have hlen' : es'.length = all.length := by rw [← t1]; simp
                  have hk1 : es'[es.length]? = some ⟨o, true, fr, h, ⟨rr.need, rr.val, rr.heap⟩⟩ := t4 _ _ (by simp)
                  have hpre : ∀ j e, es'[j]? = some e → j < es.length → es[j]? = some e := by
                    intro j e he hj
                    rcases t3 j e he with h | ⟨h1, _⟩
                    · rw [List.getElem?_append_left hj] at h; exact h
                    · simp at h1; omega
                  have hneeds : ∀ ρ', Agree2 rr.ns rr.na ρ ρ' → Met S ρ' (es'.flatMap (·.r.need)) := by
                    intro ρ' hA x hx
                    rw [List.mem_flatMap] at hx
                    obtain ⟨e, he, hxe⟩ := hx
                    obtain ⟨j, hj⟩ := List.getElem?_of_mem he
                    rcases t3 j e hj with h | ⟨_, h2⟩
                    · by_cases hjl : j < es.length
                      · rw [List.getElem?_append_left hjl] at h
                        cases hwj : e.want with
                        | true => exact ((sf' ρ' hA).st j e h (by omega) hwj).2.1 x hxe
                        | false => rw [(sf.no j e h hwj).2] at hxe; cases hxe
                      · rw [List.getElem?_append_right (by omega)] at h
                        have hj0 : j - es.length = 0 := by
                          have := (List.getElem?_eq_some_iff.1 h).1
                          simp at this; omega
                        rw [hj0] at h
                        simp only [List.getElem?_cons_zero, Option.some.injEq] at h
                        subst h
                        exact met_clear hA c6 o1 x hxe
                    · rw [h2] at hxe; cases hxe
                  have pre : ∀ (ρ' : Env) (es'' : List Ent), (∀ j e, es''[j]? = some e → j < es.length → es[j]? = some e) → es.length ≤ es''.length → ∀ j, j ≤ es.length → frameD (fun i => decide (i < j)) 0 (pairsOf S ρ' w0.heap.size es'') init = frameD (fun i => decide (i < j)) 0 (pairsOf S ρ' w0.heap.size es) init := by
                    intro ρ' es'' h1 h2 j hj
                    have e1 : es'' = es ++ es''.drop es.length := by
                      apply List.ext_getElem?
                      intro i
                      by_cases hi : i < es.length
                      · rw [List.getElem?_append_left hi, h1 i (es''[i]'(by omega)) (List.getElem?_eq_getElem _) hi, List.getElem?_eq_getElem (by omega)]
                      · rw [List.getElem?_append_right (by omega), List.getElem?_drop]
                        congr 1; omega
                    have e2 : ∀ (l : List (Option Tmp × Value)) (k : Nat) (cur : List Value), j ≤ k → frameD (fun i => decide (i < j)) k l cur = cur := by
                      intro l
                      induction l with
                      | nil => intro k cur _; rfl
                      | cons e l ih => intro k cur hk; unfold frameD; rw [if_neg (by simp; omega)]; exact ih _ _ (by omega)
                    have e3 : ∀ (l m : List (Option Tmp × Value)) (k : Nat) (cur : List Value), frameD (fun i => decide (i < j)) k (l ++ m) cur = frameD (fun i => decide (i < j)) (k + l.length) m (frameD (fun i => decide (i < j)) k l cur) := by
                      intro l
                      induction l with
                      | nil => intro m k cur; rfl
                      | cons e l ih => intro m k cur; simp only [List.cons_append, frameD, List.length_cons]; rw [ih]; congr 1; omega
                    rw [e1]
                    unfold pairsOf
                    rw [List.map_append, e3, e2 _ _ _ (by simp; omega)]
                  intro a w2 ha hdf hh0
                  have := any_ok2 hsp hrsp (by rw [t1]; exact hg) c1 (hl := h') (init := init) (by exact (tl ρ1 w1 x1 x3 x4).2.1.chain) (hneeds ρ (Agree2.rfl' _ _ _)) hk1 hr rfl c2 o1
                    (by rw [pre ρ es' hpre (by omega) _ (Nat.le_refl _)]; rw [sf.now]) sf.wf
                    (by rw [pre ρ es' hpre (by omega) _ (Nat.le_refl _), t1]; rw [← sf.now]; exact hw)
                    (fun j e he hj => by
                      have he' := hpre j e he hj
                      refine ⟨?_, ?_, fun hwj => sf.st j e he' (by omega) hwj, sf.no j e he'⟩
                      · rw [pre ρ es' hpre (by omega) _ (by omega)]; exact sf.frs j e he'
                      · rw [pre ρ es' hpre (by omega) _ (by omega), t1]; exact sf.want j e he')
                    (fun j hj hjl => by
                      unfold laterWait at c3
                      rw [List.all_eq_true] at c3
                      have hml : (masks (es'.map (·.o))).length = es'.length := by
                        rw [masks_length]; simp
                      have := c3 ((masks (es'.map (·.o))).getD j 0, j) (List.mem_zipIdx_iff_getElem?.2 (by
                        rw [List.getD_eq_getElem?_getD, List.getElem?_eq_getElem (by omega)]; rfl))
                      simp only [Bool.or_eq_true] at this
                      rcases this with h | h
                      · rw [ble_iff] at h; omega
                      · exact h)
                    (fun j e he hj => (hentc e (List.mem_of_getElem? (hpre j e he hj))).2.1)
                    (fun ρ' g1 g2 g3 ⟨w', g4⟩ => ⟨hneeds ρ' g1, fun j e he hj => by
                      obtain ⟨_, s2, _, _⟩ := tl ρ' w' g1 g3 g4
                      exact ⟨s2.frs j e he, by rw [t1]; exact s2.want j e he, s2.st j e he hj, s2.no j e he⟩⟩)
                    (Q := Qof P Q ks) (fun ρ' a w g1 g2 g3 ⟨w', g4⟩ g5 g6 g7 => by
                      obtain ⟨_, s2, _, _⟩ := tl ρ' w' g1 g3 g4
                      refine ih fc ρ' Q .pop ks _ _ rfl hk (hK.clear g1 c7) (o2 ρ' g1 g2) a w ⟨?_, g6, s2.wf⟩ g7
                      rw [g5, s2.now]
                      apply frameD_congr
                      intro i hi
                      rw [pairsOf_length] at hi
                      simp [hi]) all.length (Array.replicate all.length false) a w2 (mid_start hlen'.symm ha hdf hh0) (by
                      rw [Array.getD_eq_getD_getElem?, Array.getElem?_replicate]; split <;> rfl) (by
                      refine Nat.le_trans (List.length_filter_le _ _) ?_
                      simp [hlen'])
                  rw [t1] at this
                  exact this
                · split at hok
                  · rename_i oa oz hnc htail2
                    split at hok
                    · rename_i s hsw
                      split at hok
                      · rename_i hc
                        rw [Bool.and_eq_true] at hc
                        obtain ⟨o1, o2⟩ := ok_needOut hok
                        exact swap_ok hsp hrsp (by simpa using hall) hg (by rw [← hall]; simp) sf hw hr hsw hc.1 o1 (Q := Qof P Q ks) fun ρ' a w g1 g2 g3 g4 g5 => ih fc ρ' Q .pop ks _ _ rfl hk (hK.clear g1 hc.2) (o2 ρ' g1 g2) a w g4 g5
                      · simp only [Out.ok, Out.okA] at hok
                    · simp only [Out.ok, Out.okA] at hok
                  · simp only [Out.ok, Out.okA] at hok
              · simp only [Out.ok, Out.okA] at hok
            · simp only [Out.ok, Out.okA] at hok
        · rename_i hwt
          rw [hwt] at hw
          exact ih fc ρ Q (.draw rest all (es ++ [⟨o, false, fr, h, ⟨[], .v (.one .undef), h⟩⟩]) h0) ks _ _ hg hk hK hok init w hh (by simpa using hall) (sf.more (e := ⟨o, false, fr, h, ⟨[], .v (.one .undef), h⟩⟩) rfl rfl hw (fun _ h => by cases h) (fun h => by cases h) (fun _ => ⟨rfl, rfl, rfl⟩) trivial)
        · rename_i s t hwt
          rw [hwt] at hw
          obtain ⟨o1, o2⟩ := hok
          cases hb : t.B S ρ with
          | true => exact ih fc ρ Q (.draw (o :: rest) all es h0) ks _ h hg hk hK (o1 hb) init w hh hall (sf.truth hw hb)
          | false => exact ih fc ρ Q (.draw (o :: rest) all es h0) ks _ h hg hk hK (o2 hb) init w hh hall (sf.truth hw hb)
        · simp only [Out.ok, Out.okA] at hok
end
end
end Go.Proofs.YtljjbikbfeigdaaGreatDoor
namespace Go.Proofs.YtljjbikbfeigdaaGreatDoor
noncomputable section
open Go
/-- What a function asks and gives. Letters below 100 are those of the state that it is given; from 100 on they are new. -/
structure Ctr where
  args : List SR
  hp : Hp
  pre : List T
  val : SR
  hp' : Hp
  post : List T
  quiet : Bool
def Ctr.na (c : Ctr) : Nat := if c.quiet then 1000000000 else 0
def CtrOk (P : Program) (S : Sig) (f : FuncId) (c : Ctr) : Prop :=
  ∀ (ρ : Env) (w0 w : World), HpOk S ρ w0 c.hp w → Met S ρ c.pre → (∀ x ∈ c.args, x.wf S ρ) → (c.hp.ow = none → ρ.loose = []) →
    Calls P f (c.args.map (SR.den S ρ w0.heap.size)).toArray w (fun e w' => ∃ ρ', Agree2 100 c.na ρ ρ' ∧ Met S ρ' c.post ∧ c.val.wf S ρ' ∧ e = .returned (c.val.den S ρ' w0.heap.size) ∧ HpOk S ρ' w0 c.hp' w')
/-- What stands for each letter, also for values and blocks. -/
structure OS where
  t : TS
  v : Nat → Leaf
  o : Nat → Ref
  w : Nat → Ref
  j : Nat → Nat
  s : Nat → List Seg
def Ref.put (s : OS) : Ref → Ref
  | .old n => s.o n
  | .own n => s.w n
  | r => r
def Leaf.put (s : OS) : Leaf → Leaf
  | .int k t => .int k (t.put s.t)
  | .bool t => .bool (t.put s.t)
  | .ptr r i d => .ptr (r.put s) i (d.put s.t)
  | .sl r i d l c => .sl (r.put s) i (d.put s.t) (l.put s.t) (c.put s.t)
  | .iface t x => .iface t (x.put s)
  | .val n => s.v n
  | .junk n => .junk (s.j n)
  | l => l
def Seg.put (s : OS) : Seg → List Seg
  | .cells l => [.cells (l.map (Leaf.put s))]
  | .arr k a n => [.arr k (a.put s.t) n]
  | .arrD k a => [.arrD k (a.put s.t)]
  | .bar a n => [.bar (a.put s.t) n]
  | .junk n => s.s n
  | .tail z n => [.tail z (n.put s.t)]
def SV.put (s : OS) : SV → SV
  | .one l => .one (l.put s)
  | .agg g => .agg (g.flatMap (Seg.put s))
def SR.put (s : OS) : SR → SR
  | .v x => .v (x.put s)
  | .tup l => .tup (l.map (SV.put s))
  | .ite c x y => .ite (c.put s.t) (x.put s) (y.put s)
/-- What may stand in what a contract gives. -/
def Ref.outOk : Ref → Bool
  | .new _ => false
  | .ro _ => false
  | _ => true
def Leaf.outOk : Leaf → Bool
  | .ptr r _ _ => r.outOk
  | .sl r _ _ _ _ => r.outOk
  | .iface _ x => x.outOk
  | .junk n => Nat.ble 100 n
  | _ => true
def Seg.outOk : Seg → Bool
  | .cells l => l.all Leaf.outOk
  | .tail z _ => z.all Leaf.fixed
  | _ => true
def SV.outOk : SV → Bool
  | .one l => l.outOk
  | .agg g => g.all Seg.outOk
def SR.outOk : SR → Bool
  | .v x => x.outOk
  | .tup l => l.all SV.outOk
  | .ite _ _ _ => false
/-- The letters' meaning in what a contract gives: those that are bound, and new names. -/
def Bd.os (m : Bd) (nv : Nat) : OS where
  t := { i := fun n => if Nat.ble 100 n then .iv (nv + n) else normI ((look m.i n).getD (.lit 0)), b := fun n => if Nat.ble 100 n then .bv (nv + n) else normB ((look m.b n).getD .ff), a := fun n => if Nat.ble 100 n then .av (nv + n) else normA ((look m.a n).getD (.alit [])) }
  v n := if Nat.ble 100 n then .val (nv + n) else (look m.v n).getD .undef
  o n := if Nat.ble 100 n then .old (nv + (2 * n + 1)) else match look m.r n with
    | some (.o r) => r
    | _ => .old (nv + (2 * n + 1))
  w n := .own (nv + 2 * n)
  j n := nv + n
  s n := [.junk (nv + n)]
def RB.clear (ns na : Nat) : RB → Bool
  | .o r => (r.clear ns na).and (match r with | .ro _ => false | _ => true)
  | .p _ => true
  | _ => false
def Bd.clear (ns na : Nat) (m : Bd) : Bool :=
  (m.i.all fun x => x.2.clear ns).and ((m.b.all fun x => x.2.clear ns).and ((m.a.all fun x => x.2.clear ns).and ((m.v.all fun x => x.2.clear ns na).and (m.r.all fun x => x.2.clear ns na))))
def memR (l : List (Ref × Blk)) (r : Ref) : Bool := l.any fun x => Nat.beq x.1.code r.code
def Ref.isOwn100 : Ref → Bool
  | .own n => Nat.ble 100 n
  | _ => false
def Ref.isIn : Ref → Bool
  | .old n => Nat.ble (n + 1) 100
  | .glob _ => true
  | _ => false
/-- What a contract must be, whatever the state. -/
def Ctr.good (c : Ctr) : Bool :=
  (Nat.beq c.hp.na 0).and ((Nat.beq c.hp'.na 0).and ((c.args.all (SR.okIn 0)).and ((rwOk 0 c.hp.rw).and ((c.val.outOk).and ((c.hp'.rw.all fun x => ((x.1.isOwn100).or ((x.1.isIn).and (memR c.hp.rw x.1))).and (x.2.segs.all Seg.outOk)).and
    ((c.hp.rw.all fun x => (x.1.isIn).and (memR c.hp'.rw x.1)).and (match c.hp.ow, c.hp'.ow with | none, none => true | some _, none => true | some _, some o => Nat.ble 100 o.v | none, some _ => false)))))))
def applyOk (c : Ctr) (m : Bd) (h : Hp) (rest : List (Ref × Blk)) : Bool :=
  (c.good).and ((m.clear h.nv h.na).and ((m.noNew).and ((clearRw h.nv h.na rest).and ((clearRo h.nv h.na h.ro).and (match c.hp.ow with | none => clearOw h.nv h.ow | some _ => true)))))
/-- A contract applied. -/
def applyR (c : Ctr) : RSpec := fun args h =>
  match fits 0 c.args c.hp args h with
  | some (m, rest) =>
    if applyOk c m h rest then
      let s := m.os h.nv
      some { need := m.needs 0 ++ c.pre.map (T.put (m.ts 0)), ns := h.nv, na := if c.quiet then h.na + 1000000000 else h.na, facts := c.post.map (T.put s.t), val := c.val.put s,
             heap := { rw := rest ++ c.hp'.rw.map (fun x => (x.1.put s, ⟨x.2.ty, x.2.segs.flatMap (Seg.put s)⟩)), ro := h.ro, na := h.na, nv := h.nv + 400, ow := match c.hp.ow with | none => h.ow | some _ => c.hp'.ow.map fun o => ⟨h.nv + o.v, o.e, o.k, o.a.put s.t⟩ } }
    else none
  | none => none
section
variable {S : Sig} {ρ ρt : Env} {B B' : Nat} {s : OS}
structure OS.Ok (S : Sig) (s : OS) (ρ ρt : Env) (B B' : Nat) : Prop where
  t : s.t.Ok S ρ ρt
  v : ∀ n, (s.v n).den S ρ B = ρt.v n
  o : ∀ n, (s.o n).blk ρ B = ρt.blk n ∧ (s.o n).off ρ = 0
  w : ∀ n, (s.w n).blk ρ B = B' + ρt.blk n ∧ (s.w n).off ρ = 0
  j : ∀ n, 100 ≤ n → ρ.j (s.j n) = ρt.j n
  s : ∀ n, segsDen S ρ B (s.s n) = ρt.vs n ∧ segsWf S ρ (s.s n)
theorem Ref.put_den (hs : s.Ok S ρ ρt B B') {r : Ref} (h : r.outOk = true) : (r.put s).blk ρ B = r.blk ρt B' ∧ (r.put s).off ρ = r.off ρt := by
  cases r with
  | old n => exact hs.o n
  | own n => exact hs.w n
  | new k => cases h
  | ro n => cases h
  | glob g => exact ⟨rfl, rfl⟩
theorem addr_put (hs : s.Ok S ρ ρt B B') {r : Ref} (h : r.outOk = true) (i : Nat) (d : T) : addrOf S ρ B (r.put s) i (d.put s.t) = addrOf S ρt B' r i d := by
  simp only [addrOf, (Ref.put_den hs h).1, (Ref.put_den hs h).2, (T.put_den hs.t d).1]
theorem Leaf.put_den (hs : s.Ok S ρ ρt B B') : ∀ {l : Leaf}, l.outOk = true → (l.put s).den S ρ B = l.den S ρt B'
  | .int k t, _ => by simp only [Leaf.put, Leaf.den, (T.put_den hs.t t).1]
  | .bool t, _ => by simp only [Leaf.put, Leaf.den, (T.put_den hs.t t).2.1]
  | .ptr r i d, h => by simp only [Leaf.put, Leaf.den, addr_put hs (r := r) h]
  | .sl r i d l c, h => by simp only [Leaf.put, Leaf.den, addr_put hs (r := r) h, (T.put_den hs.t l).1, (T.put_den hs.t c).1]
  | .iface t x, h => by simp only [Leaf.put, Leaf.den, Leaf.put_den hs (l := x) h]
  | .val n, _ => hs.v n
  | .junk n, h => hs.j n (Nat.le_of_ble_eq_true h)
  | .nilp, _ => rfl
  | .nils, _ => rfl
  | .nilI, _ => rfl
  | .str _, _ => rfl
  | .fn _, _ => rfl
  | .undef, _ => rfl
theorem Seg.put_den (hs : s.Ok S ρ ρt B B') {g : Seg} (h : g.outOk = true) : segsDen S ρ B (g.put s) = g.den S ρt B' ∧ (g.wf S ρt → segsWf S ρ (g.put s)) := by
  have one : ∀ {x : Seg}, segsDen S ρ B [x] = x.den S ρ B := by intro x; rw [segsDen_cons, segsDen_nil, List.append_nil]
  have wf1 : ∀ {x : Seg}, x.wf S ρ → segsWf S ρ [x] := fun hx => segsWf_cons.2 ⟨hx, fun _ h => nomatch h⟩
  cases g with
  | cells l =>
    refine ⟨?_, fun _ => wf1 trivial⟩
    simp only [Seg.put, one, Seg.den, List.map_map]
    simp only [Seg.outOk, List.all_eq_true] at h
    exact List.map_congr_left fun x hx => Leaf.put_den hs (h x hx)
  | arr k a n => exact ⟨by simp only [Seg.put, one, Seg.den, (T.put_den hs.t a).2.2], fun hw => wf1 (by show _ = n; rw [(T.put_den hs.t a).2.2]; exact hw)⟩
  | arrD k a => exact ⟨by simp only [Seg.put, one, Seg.den, (T.put_den hs.t a).2.2], fun _ => wf1 trivial⟩
  | bar a n => exact ⟨by simp only [Seg.put, one, Seg.den, (T.put_den hs.t a).2.2], fun hw => wf1 (by show _ = n; rw [(T.put_den hs.t a).2.2]; exact hw)⟩
  | junk n => exact ⟨(hs.s n).1, fun _ => (hs.s n).2⟩
  | tail z n =>
    refine ⟨?_, fun _ => wf1 trivial⟩
    simp only [Seg.put, one, Seg.den, (T.put_den hs.t n).1]
    rw [fixed_den (S := S) (ρ := ρt) (ρ' := ρ) (B := B') (B' := B) h]
theorem segs_put (hs : s.Ok S ρ ρt B B') : ∀ {g : List Seg}, g.all Seg.outOk = true → segsDen S ρ B (g.flatMap (Seg.put s)) = segsDen S ρt B' g ∧ (segsWf S ρt g → segsWf S ρ (g.flatMap (Seg.put s)))
  | [], _ => ⟨rfl, fun _ _ h => nomatch h⟩
  | x :: g, h => by
    simp only [List.all_cons, Bool.and_eq_true] at h
    obtain ⟨h1, h2⟩ := Seg.put_den hs h.1
    obtain ⟨h3, h4⟩ := segs_put hs h.2
    rw [List.flatMap_cons]
    exact ⟨by rw [segsDen_append, h1, h3, segsDen_cons], fun hw => segsWf_append.2 ⟨h2 (segsWf_cons.1 hw).1, h4 (segsWf_cons.1 hw).2⟩⟩
theorem SV.put_den (hs : s.Ok S ρ ρt B B') {x : SV} (h : x.outOk = true) : (x.put s).den S ρ B = x.den S ρt B' ∧ (x.wf S ρt → (x.put s).wf S ρ) := by
  cases x with
  | one l => exact ⟨Leaf.put_den hs h, fun _ => trivial⟩
  | agg g =>
    obtain ⟨h1, h2⟩ := segs_put hs h
    exact ⟨by simp only [SV.put, SV.den, h1], h2⟩
theorem SR.put_den (hs : s.Ok S ρ ρt B B') {x : SR} (h : x.outOk = true) : (x.put s).den S ρ B = x.den S ρt B' ∧ (x.wf S ρt → (x.put s).wf S ρ) := by
  cases x with
  | v x => exact SV.put_den hs h
  | tup l =>
    simp only [SR.outOk, List.all_eq_true] at h
    constructor
    · simp only [SR.put, SR.den, List.map_map]
      congr 2
      exact List.map_congr_left fun y hy => (SV.put_den hs (h y hy)).1
    · intro hw y hy
      simp only [List.mem_map] at hy
      obtain ⟨z, hz, rfl⟩ := hy
      exact (SV.put_den hs (h z hz)).2 (hw z hz)
  | ite c x y => cases h
end
end
end Go.Proofs.YtljjbikbfeigdaaGreatDoor
