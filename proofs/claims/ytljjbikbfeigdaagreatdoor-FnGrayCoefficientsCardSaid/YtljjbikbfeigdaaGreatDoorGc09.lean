/- Part of the proof of FnGrayCoefficientsCardSaid: A contract applied to a state that fits is sound. -/
import Derived.Test.YtljjbikbfeigdaaGreatDoorGc08
set_option linter.all false
namespace Go.Proofs.YtljjbikbfeigdaaGreatDoor
noncomputable section
open Go
theorem look_mem {α : Type} {l : List (Nat × α)} {n : Nat} {x : α} (h : look l n = some x) : ∃ k, (k, x) ∈ l := by
  induction l with
  | nil => simp [look] at h
  | cons y l ih =>
    unfold look at h
    split at h
    · cases h; exact ⟨_, List.mem_cons_self ..⟩
    · obtain ⟨k, hk⟩ := ih h; exact ⟨k, List.mem_cons_of_mem _ hk⟩
/-- The caller's names behind the call. -/
def backE (ρ ρt : Env) (nv na d : Nat) (nbf : Nat → Nat) : Env where
  i k := if k < nv then ρ.i k else ρt.i (k - nv)
  b k := if k < nv then ρ.b k else ρt.b (k - nv)
  a k := if k < nv then ρ.a k else ρt.a (k - nv)
  v k := if k < nv then ρ.v k else ρt.v (k - nv)
  j k := if k < nv then ρ.j k else ρt.j (k - nv)
  vs k := if k < nv then ρ.vs k else ρt.vs (k - nv)
  off k := ρ.off k
  blk k := if k < nv then ρ.blk k else if (k - nv) % 2 = 0 then d + ρt.blk ((k - nv) / 2) else ρt.blk ((k - nv) / 2)
  nb := nbf
  loose := ρ.loose
section
variable {S : Sig} {ρ : Env} {P : Program}
theorem back_agree {ρt : Env} {nv na d : Nat} {nbf : Nat → Nat} (h : ∀ k, k < na → nbf k = ρ.nb k) : Agree2 nv na ρ (backE ρ ρt nv na d nbf) := by
  refine ⟨?_, ?_, ?_, ?_, ?_, ?_, fun _ _ => rfl, ?_, h, rfl⟩ <;> intro k hk <;> simp only [backE] <;> rw [if_pos hk]
theorem norm_clear {ns : Nat} {l : List (Nat × T)} (h : l.all (fun x => x.2.clear ns) = true) (n : Nat) {z : T} (hz : z.clear ns = true) : ((look l n).getD z).clear ns = true := by
  cases hl : look l n with
  | none => exact hz
  | some x =>
    obtain ⟨k, hk⟩ := look_mem hl
    rw [List.all_eq_true] at h
    exact h _ hk
theorem normI_clear {ns : Nat} {x : T} (h : x.clear ns = true) : (normI x).clear ns = true := by
  unfold normI; split
  · exact h
  · rfl
theorem normB_clear {ns : Nat} {x : T} (h : x.clear ns = true) : (normB x).clear ns = true := by
  unfold normB; split
  · exact h
  · rfl
theorem normA_clear {ns : Nat} {x : T} (h : x.clear ns = true) : (normA x).clear ns = true := by
  unfold normA; split
  · exact h
  · rfl
/-- The letters' meaning behind the call. -/
theorem os_ok {m : Bd} {nv na B B' : Nat} {ρt ρt' : Env} {nbf nbt : Nat → Nat} {lo : List Nat} (hc : m.clear nv na = true) (hρt : ρt = overE S 0 m ρ B nbt lo) (hA : Agree2 100 0 ρt ρt') (hB : B ≤ B') (hnb : ∀ k, k < na → nbf k = ρ.nb k) :
    (m.os nv).Ok S (backE ρ ρt' nv na (B' - B) nbf) ρt' B B' := by
  have hback := back_agree (ρ := ρ) (ρt := ρt') (nv := nv) (na := na) (d := B' - B) (nbf := nbf) hnb
  unfold Bd.clear at hc
  simp only [Bool.and_eq_true] at hc
  obtain ⟨c1, c2, c3, c4, c6⟩ := hc
  have lt100 : ∀ {n : Nat}, ¬ Nat.ble 100 n = true → n < 100 := fun h => not_ble h
  have hlow : ∀ n, Nat.ble 0 n = true := fun n => by rw [ble_iff]; omega
  refine ⟨⟨fun n => ?_, fun n => ?_, fun n => ?_⟩, fun n => ?_, fun n => ?_, fun n => ?_, fun n hn => ?_, fun n => ?_⟩
  · simp only [Bd.os]
    split
    · refine ⟨?_, rfl⟩
      simp only [T.I, backE]
      rw [if_neg (by omega), Nat.add_sub_cancel_left]
    · rename_i hn
      refine ⟨?_, (normI_I (S := S) (ρ := ρ) _).2⟩
      rw [hA.i n (lt100 hn), hρt]
      simp only [overE, Bd.ts, hlow, if_true]
      exact (T.clear_den hback (normI_clear (norm_clear c1 n rfl))).1
  · simp only [Bd.os]
    split
    · refine ⟨?_, rfl⟩
      simp only [T.B, backE]
      rw [if_neg (by omega), Nat.add_sub_cancel_left]
    · rename_i hn
      refine ⟨?_, (normB_B (S := S) (ρ := ρ) _).2⟩
      rw [hA.b n (lt100 hn), hρt]
      simp only [overE, Bd.ts, hlow, if_true]
      exact (T.clear_den hback (normB_clear (norm_clear c2 n rfl))).2.1
  · simp only [Bd.os]
    split
    · refine ⟨?_, rfl⟩
      simp only [T.A, backE]
      rw [if_neg (by omega), Nat.add_sub_cancel_left]
    · rename_i hn
      refine ⟨?_, (normA_A (S := S) (ρ := ρ) _).2⟩
      rw [hA.a n (lt100 hn), hρt]
      simp only [overE, Bd.ts, hlow, if_true]
      exact (T.clear_den hback (normA_clear (norm_clear c3 n rfl))).2.2
  · simp only [Bd.os]
    split
    · simp only [Leaf.den, backE]
      rw [if_neg (by omega), Nat.add_sub_cancel_left]
    · rename_i hn
      rw [hA.v n (lt100 hn), hρt]
      simp only [overE, Nat.zero_le, if_true]
      cases hl : look m.v n with
      | none => rfl
      | some x =>
        obtain ⟨k, hk⟩ := look_mem hl
        rw [List.all_eq_true] at c4
        exact Leaf.clear_den hback (c4 _ hk)
  · have odd : ∀ n, (Ref.old (nv + (2 * n + 1))).blk (backE ρ ρt' nv na (B' - B) nbf) B = ρt'.blk n ∧ (Ref.old (nv + (2 * n + 1))).off (backE ρ ρt' nv na (B' - B) nbf) = 0 := by
      intro n
      refine ⟨?_, rfl⟩
      simp only [Ref.blk, backE]
      rw [if_neg (by omega), Nat.add_sub_cancel_left, if_neg (by omega)]
      congr 1; omega
    simp only [Bd.os]
    split
    · exact odd n
    · rename_i hn
      split
      · rename_i r hr
        obtain ⟨k, hk⟩ := look_mem hr
        rw [List.all_eq_true] at c6
        have := c6 _ hk
        simp only [RB.clear, Bool.and_eq_true] at this
        rw [hA.blk n (lt100 hn), hρt]
        simp only [overE, Nat.zero_le, if_true, hr]
        have h2 := Ref.clear_den (B := B) hback this.1
        refine ⟨h2.1, ?_⟩
        rw [h2.2]
        cases r <;> first | rfl | (exact absurd this.2 (by simp))
      · exact odd n
  · refine ⟨?_, rfl⟩
    simp only [Bd.os, Ref.blk, backE]
    rw [if_neg (by omega), Nat.add_sub_cancel_left, if_pos (by omega)]
    rw [show 2 * n / 2 = n from by omega]; omega
  · simp only [Bd.os, backE]
    rw [if_neg (by omega), Nat.add_sub_cancel_left]
  · refine ⟨?_, segsWf_cons.2 ⟨trivial, fun _ h => nomatch h⟩⟩
    simp only [Bd.os, segsDen_cons, segsDen_nil, List.append_nil, Seg.den, backE]
    rw [if_neg (by omega), Nat.add_sub_cancel_left]
theorem memR_spec {l : List (Ref × Blk)} {r : Ref} (h : memR l r = true) : ∃ x ∈ l, x.1 = r := by
  unfold memR at h
  rw [List.any_eq_true] at h
  obtain ⟨x, hx, h⟩ := h
  exact ⟨x, hx, Ref.code_inj h⟩
set_option maxHeartbeats 1000000 in
theorem applyR_ok {f : FuncId} {c : Ctr} (hc : CtrOk P S f c) : RSpecOk P S f (applyR c) := by
  intro ρ w0 w h args r hs hmet hw hh
  unfold applyR at hs
  split at hs
  · rename_i m rest hfit
    split at hs
    · rename_i hck
      unfold applyOk at hck
      simp only [Bool.and_eq_true] at hck
      obtain ⟨hgood, k1, k2, k3, k4, k5⟩ := hck
      unfold Ctr.good at hgood
      simp only [Bool.and_eq_true] at hgood
      obtain ⟨g1, g2, g3, g4, g5, g6, g7, g8⟩ := hgood
      have g1 := Nat.eq_of_beq_eq_true g1
      have g2 := Nat.eq_of_beq_eq_true g2
      simp only [Option.some.injEq] at hs
      subst hs
      obtain ⟨m1, m2⟩ := met_append.1 hmet
      have hge : w0.heap.size ≤ w.heap.size := by have := hh.size; omega
      -- the block of the slice that grows
      obtain ⟨lb, hlb⟩ : ∃ lb : List Nat, (∀ o, c.hp.ow = some o → ∀ p, h.ow = some p → (ρ.v p.v = .slice none 0 0 ∧ p.a.A S ρ = []) ∨ ∃ b cap, lb = [b] ∧ ρ.v p.v = .slice (some ⟨b, 0, none⟩) (p.a.A S ρ).length cap ∧ (p.a.A S ρ).length ≤ cap ∧
            w.heap[b]? = some (.cells ((p.a.A S ρ).map (Value.int p.k) ++ List.replicate (cap - (p.a.A S ρ).length) (Value.int p.k 0)).toArray p.e (0, 0)) ∧ (w0.heap.size ≤ b ∨ b ∈ ρ.loose) ∧ (∀ x ∈ h.rw, x.1.blk ρ w0.heap.size ≠ b) ∧ ∀ x ∈ h.ro, x.1.blk ρ w0.heap.size ≠ b) ∧
          (∀ b ∈ lb, (w0.heap.size ≤ b ∨ b ∈ ρ.loose) ∧ (∀ x ∈ h.rw, x.1.blk ρ w0.heap.size ≠ b) ∧ ∀ x ∈ h.ro, x.1.blk ρ w0.heap.size ≠ b) ∧ (c.hp.ow = none → lb = []) := by
        cases hco : c.hp.ow with
        | none => exact ⟨[], (fun _ h => nomatch h), (fun _ h => nomatch h), fun _ => rfl⟩
        | some o =>
          cases hho : h.ow with
          | none => exact ⟨[], (fun _ _ _ h => nomatch h), (fun _ h => nomatch h), (fun h => nomatch h)⟩
          | some p =>
            rcases hh.own p hho with u | ⟨b, cap, u1, u2, u3, u4, u5, u6⟩
            · exact ⟨[], fun _ _ p' hp' => by cases hp'; exact .inl u, (fun _ h => nomatch h), (fun h => nomatch h)⟩
            · refine ⟨[b], fun _ _ p' hp' => by cases hp'; exact .inr ⟨b, cap, rfl, u1, u2, u3, u4, u5, u6⟩, fun b' hb' => ?_, (fun h => nomatch h)⟩
              simp only [List.mem_singleton] at hb'
              subst hb'
              exact ⟨u4, u5, u6⟩
      obtain ⟨hlb1, hlb2, hlb3⟩ := hlb
      generalize hρt : overE S 0 m ρ w0.heap.size (fun k => k) lb = ρt
      have hr : Real S 0 0 ρ ρt w0.heap.size w.heap.size m := by
        rw [← hρt]
        exact over_real m1 (fun k hk => absurd hk (by omega)) (fun h => absurd h (by omega)) (.inr k2)
      have hts : (m.ts 0).Ok S ρ ρt := by rw [← hρt]; exact ts_ok _ _ _ _ _ _
      have htl : ρt.loose = lb := by rw [← hρt]; rfl
      have htn : ∀ k, ρt.nb k = k := by rw [← hρt]; intro k; rfl
      obtain ⟨q0, q1, ⟨p1, p2, p3⟩, q3, q4⟩ := fits_parts (na := 0) hfit rfl hr hh hw g3 g4
      obtain ⟨a1, a2⟩ := perm_apart p1 hh.nd
      have hex : ∀ x ∈ h.rw, x.1.blk ρ w0.heap.size < w.heap.size := fun x hx => (Array.getElem?_eq_some_iff.1 (hh.rw_ x hx)).1
      -- the callee's memory
      have hcal : HpOk S ρt w c.hp w := by
        refine ⟨?_, ?_, ?_, a1, fun t ht => (q3 t ht).1, ?_, ?_, ?_, ?_, fun i _ _ _ => rfl, ?_, rfl, rfl, rfl⟩
        · intro t ht
          obtain ⟨y, hy, e1, _, e3, e4, _⟩ := p3 t ht
          rw [e1, hh.rw_ y hy, e3, e4]
        · intro t ht
          obtain ⟨y, hy, _, _, _, _, e5⟩ := p3 t ht
          exact e5
        · intro t ht
          obtain ⟨y, hy, _, e2, _⟩ := p3 t ht
          rcases e2 with e2 | e2
          · exact e2
          · rw [e2]; exact hh.off y hy
        · intro t ht y hy
          rcases (q3 t ht).2 with ⟨_, x, hx, e⟩ | ⟨x, hx, e⟩
          · rw [e]; exact fun e' => a2 _ (List.mem_map.2 ⟨y, hy, rfl⟩) _ (List.mem_map.2 ⟨x, hx, rfl⟩) e'.symm
          · obtain ⟨x2, hx2, e2, _⟩ := p3 y hy
            rw [e, e2]; exact hh.apart x hx x2 hx2
        · intro t ht
          rcases (q3 t ht).2 with ⟨_, x, hx, e⟩ | ⟨x, hx, e⟩
          · rw [e]; exact hex x (p2 x hx)
          · rw [e]; have := hh.rolt x hx; omega
        · rw [g1, htn]; omega
        · intro k _; rw [htn, htn]
        · intro o ho
          rcases q4 o ho with ⟨p, hp, v1, v2, v3, v4⟩ | ⟨v1, v2⟩
          · rcases hlb1 o ho p hp with ⟨u1, u2⟩ | ⟨b, cap, u0, u1, u2, u3, u4, u5, u6⟩
            · exact .inl ⟨by rw [v1, u1], by rw [v4, u2]⟩
            · refine .inr ⟨b, cap, by rw [v1, v4]; exact u1, by rw [v4]; exact u2, by rw [v4, v2, v3]; exact u3, .inr (by rw [htl, u0]; simp), fun y hy => ?_, fun t ht => ?_⟩
              · obtain ⟨x2, hx2, e2, _⟩ := p3 y hy
                rw [e2]; exact u5 x2 hx2
              · rcases (q3 t ht).2 with ⟨_, x, hx, e⟩ | ⟨x, hx, e⟩
                · rw [e]; exact u5 x (p2 x hx)
                · rw [e]; exact u6 x hx
          · exact .inl ⟨v1, v2⟩
      have hcall := hc ρt w w hcal (met_put hts m2) q1 (fun hn => by rw [htl]; exact hlb3 hn)
      rw [q0] at hcall
      refine hcall.mono ?_
      rintro e w' ⟨ρt', hA, hpost, hvw, rfl, hh'⟩
      have hA0 : Agree2 100 0 ρt ρt' := hA.weaken (Nat.le_refl _) (Nat.zero_le _)
      -- the caller's names
      have hnb : ∀ k, k < (if c.quiet then h.na + 1000000000 else h.na) → (if c.quiet then ρ.nb k else if k < h.na then ρ.nb k else ρ.nb h.na + ρt'.nb 0 + (k - h.na)) = ρ.nb k := by
        intro k hk
        cases hq : c.quiet with
        | true => rfl
        | false => simp only [hq, Bool.false_eq_true, if_false] at hk ⊢; rw [if_pos hk]
      have hqz : c.quiet = true → ρt'.nb 0 = 0 := by
        intro hq
        rw [hA.nb 0 (by simp [Ctr.na, hq]), htn]
      generalize hρ' : backE ρ ρt' h.nv (if c.quiet then h.na + 1000000000 else h.na) (w.heap.size - w0.heap.size) (fun k => if c.quiet then ρ.nb k else if k < h.na then ρ.nb k else ρ.nb h.na + ρt'.nb 0 + (k - h.na)) = ρ'
      have hB : Agree2 h.nv (if c.quiet then h.na + 1000000000 else h.na) ρ ρ' := by rw [← hρ']; exact back_agree hnb
      have hB0 : Agree2 h.nv h.na ρ ρ' := hB.weaken (Nat.le_refl _) (by split <;> omega)
      have hos : (m.os h.nv).Ok S ρ' ρt' w0.heap.size w.heap.size := by
        rw [← hρ']
        have k1' : m.clear h.nv (if c.quiet then h.na + 1000000000 else h.na) = true := by
          have hr : ∀ {na na' : Nat}, na ≤ na' → ∀ {r : Ref}, r.clear h.nv na = true → r.clear h.nv na' = true := by
            intro na na' hle r hr
            cases r <;> simp only [Ref.clear] at hr ⊢ <;> try exact hr
            rw [ble_iff] at hr ⊢; omega
          have hl : ∀ {na na' : Nat}, na ≤ na' → ∀ {l : Leaf}, l.clear h.nv na = true → l.clear h.nv na' = true := by
            intro na na' hle l
            induction l with
            | ptr r s d => intro hl; simp only [Leaf.clear, Bool.and_eq_true] at hl ⊢; exact ⟨hr hle hl.1, hl.2⟩
            | sl r s d n k => intro hl; simp only [Leaf.clear, Bool.and_eq_true] at hl ⊢; exact ⟨hr hle hl.1, hl.2⟩
            | iface t x ih => intro hl; exact ih hl
            | _ => exact fun h => h
          have hle : h.na ≤ (if c.quiet then h.na + 1000000000 else h.na) := by split <;> omega
          unfold Bd.clear at k1 ⊢
          simp only [Bool.and_eq_true, List.all_eq_true] at k1 ⊢
          obtain ⟨c1, c2, c3, c4, c6⟩ := k1
          refine ⟨c1, c2, c3, fun x hx => hl hle (c4 x hx), fun x hx => ?_⟩
          have := c6 x hx
          revert this
          cases x.2 with
          | o r => intro h; simp only [RB.clear, Bool.and_eq_true] at h ⊢; exact ⟨hr hle h.1, h.2⟩
          | _ => exact fun h => h
        exact os_ok k1' hρt.symm hA0 hge hnb
      have hlo : ρ'.loose = ρ.loose := hB.loose
      have hnb' : ∀ k, ρ'.nb k = if c.quiet then ρ.nb k else if k < h.na then ρ.nb k else ρ.nb h.na + ρt'.nb 0 + (k - h.na) := by rw [← hρ']; intro k; rfl
      -- what the callee left alone
      have hsz : w'.heap.size = w.heap.size + ρt'.nb 0 := by have := hh'.size; rw [g2] at this; exact this
      rw [List.all_eq_true] at g6 g7
      have href : ∀ x ∈ c.hp'.rw, (x.1.outOk = true ∧ w.heap.size ≤ x.1.blk ρt' w.heap.size) ∨ (x.1.outOk = true ∧ ∃ y ∈ c.hp.rw, y.1 = x.1 ∧ x.1.blk ρt' w.heap.size = y.1.blk ρt w.heap.size) := by
        intro x hx
        have := g6 x hx
        simp only [Bool.and_eq_true, Bool.or_eq_true] at this
        rcases this.1 with h1 | ⟨h1, h2⟩
        · left
          cases hxr : x.1 <;> rw [hxr] at h1 <;> first | (cases h1; done) | skip
          exact ⟨rfl, by simp only [Ref.blk]; omega⟩
        · right
          obtain ⟨y, hy, e⟩ := memR_spec h2
          cases hxr : x.1 <;> rw [hxr] at h1 <;> first | (cases h1; done) | skip
          · rename_i n
            have := Nat.le_of_ble_eq_true h1
            refine ⟨rfl, y, hy, by rw [e, hxr], ?_⟩
            rw [e, hxr]
            exact hA.blk n (by omega)
          · exact ⟨rfl, y, hy, by rw [e, hxr], by rw [e, hxr]; rfl⟩
      have hold : ∀ i, i < w.heap.size → i ∉ lb → (∀ x ∈ c.hp.rw, x.1.blk ρt w.heap.size ≠ i) → w'.heap[i]? = w.heap[i]? := by
        intro i hi hil hne
        refine hh'.frame i hi (by rw [hA.loose, htl]; exact hil) fun x hx e => ?_
        rcases href x hx with ⟨_, h1⟩ | ⟨_, y, hy, _, h2⟩
        · omega
        · exact hne y hy (by rw [← h2]; exact e)
      have hnotin : ∀ x ∈ rest, ∀ y ∈ c.hp.rw, y.1.blk ρt w.heap.size ≠ x.1.blk ρ w0.heap.size := fun x hx y hy => a2 _ (List.mem_map.2 ⟨y, hy, rfl⟩) _ (List.mem_map.2 ⟨x, hx, rfl⟩)
      have hrold : ∀ x ∈ rest, w'.heap[x.1.blk ρ w0.heap.size]? = w.heap[x.1.blk ρ w0.heap.size]? := fun x hx =>
        hold _ (hex x (p2 x hx)) (fun hb => ((hlb2 _ hb).2.1 x (p2 x hx)) rfl) (hnotin x hx)
      unfold clearRw at k3
      unfold clearRo at k4
      rw [List.all_eq_true] at k3 k4
      have kr : ∀ x ∈ rest, x.1.blk ρ' w0.heap.size = x.1.blk ρ w0.heap.size ∧ x.1.off ρ' = x.1.off ρ ∧ segsDen S ρ' w0.heap.size x.2.segs = segsDen S ρ w0.heap.size x.2.segs ∧ (segsWf S ρ x.2.segs → segsWf S ρ' x.2.segs) := by
        intro x hx
        have := k3 x hx
        simp only [Bool.and_eq_true] at this
        exact ⟨(Ref.clear_den hB0 this.1).1, (Ref.clear_den hB0 (B := w0.heap.size) this.1).2, (segs_clear hB0 this.2).1, (segs_clear (B := w0.heap.size) hB0 this.2).2⟩
      have ko : ∀ x ∈ h.ro, x.1.blk ρ' w0.heap.size = x.1.blk ρ w0.heap.size ∧ x.1.off ρ' = x.1.off ρ ∧ x.2.2.A S ρ' = x.2.2.A S ρ := by
        intro x hx
        have := k4 x hx
        simp only [Bool.and_eq_true] at this
        exact ⟨(Ref.clear_den hB0 this.1).1, (Ref.clear_den hB0 (B := w0.heap.size) this.1).2, (T.clear_den hB0 this.2).2.2⟩
      have hout : ∀ x ∈ c.hp'.rw, (x.1.put (m.os h.nv)).blk ρ' w0.heap.size = x.1.blk ρt' w.heap.size ∧ (x.1.put (m.os h.nv)).off ρ' = x.1.off ρt' ∧ segsDen S ρ' w0.heap.size (x.2.segs.flatMap (Seg.put (m.os h.nv))) = segsDen S ρt' w.heap.size x.2.segs ∧ segsWf S ρ' (x.2.segs.flatMap (Seg.put (m.os h.nv))) := by
        intro x hx
        have h1 := g6 x hx
        simp only [Bool.and_eq_true] at h1
        have ho : x.1.outOk = true := by rcases href x hx with h | h <;> exact h.1
        obtain ⟨s1, s2⟩ := segs_put hos h1.2
        exact ⟨(Ref.put_den hos ho).1, (Ref.put_den hos ho).2, s1, s2 (hh'.wf x hx)⟩
      have hroOld : ∀ x ∈ h.ro, w'.heap[x.1.blk ρ w0.heap.size]? = w.heap[x.1.blk ρ w0.heap.size]? := by
        intro x hx
        refine hold _ (by have := hh.rolt x hx; omega) (fun hb => ((hlb2 _ hb).2.2 x hx) rfl) fun y hy => ?_
        obtain ⟨x2, hx2, e2, _⟩ := p3 y hy
        rw [e2]; exact fun e => hh.apart x hx x2 hx2 e.symm
      have hmem : ∀ x ∈ rest ++ c.hp'.rw.map (fun x => (x.1.put (m.os h.nv), (⟨x.2.ty, x.2.segs.flatMap (Seg.put (m.os h.nv))⟩ : Blk))), x ∈ rest ∨ ∃ y ∈ c.hp'.rw, x = (y.1.put (m.os h.nv), (⟨y.2.ty, y.2.segs.flatMap (Seg.put (m.os h.nv))⟩ : Blk)) := by
        intro x hx
        rcases List.mem_append.1 hx with hx | hx
        · exact .inl hx
        · obtain ⟨y, hy, e⟩ := List.mem_map.1 hx
          exact .inr ⟨y, hy, e.symm⟩
      -- where the callee's blocks lie
      have houtne : ∀ y ∈ c.hp'.rw, ∀ x ∈ rest, y.1.blk ρt' w.heap.size ≠ x.1.blk ρ w0.heap.size := by
        intro y hy x hx
        rcases href y hy with ⟨_, h1⟩ | ⟨_, z, hz, _, h2⟩
        · have := hex x (p2 x hx); omega
        · rw [h2]; exact hnotin x hx z hz
      refine ⟨ρ', hB, ?_, (SR.put_den hos g5).2 hvw, by rw [(SR.put_den hos g5).1], ?_, ?_, ?_, ?_, ?_, ?_, ?_, ?_, ?_, ?_, ?_, hh'.os.trans hh.os, hh'.tape.trans hh.tape, hh'.output.trans hh.output⟩
      · intro t ht
        obtain ⟨u, hu, rfl⟩ := List.mem_map.1 ht
        rw [(T.put_den hos.t u).2.1]; exact hpost u hu
      · intro x hx
        rcases hmem x hx with hx | ⟨y, hy, rfl⟩
        · rw [(kr x hx).1, (kr x hx).2.2.1, hrold x hx]; exact hh.rw_ x (p2 x hx)
        · obtain ⟨o1, o2, o3, o4⟩ := hout y hy
          simp only [o1, o3]
          exact hh'.rw_ y hy
      · intro x hx
        rcases hmem x hx with hx | ⟨y, hy, rfl⟩
        · exact (kr x hx).2.2.2 (hh.wf x (p2 x hx))
        · exact (hout y hy).2.2.2
      · intro x hx
        rcases hmem x hx with hx | ⟨y, hy, rfl⟩
        · rw [(kr x hx).2.1]; exact hh.off x (p2 x hx)
        · obtain ⟨o1, o2, o3, o4⟩ := hout y hy
          simp only [o2]
          exact hh'.off y hy
      · rw [List.map_append, List.map_map, List.nodup_append]
        refine ⟨?_, ?_, ?_⟩
        · rw [List.map_congr_left fun x hx => (kr x hx).1]
          have := p1.nodup_iff.2 hh.nd
          rw [List.nodup_append] at this
          exact this.2.1
        · have e : c.hp'.rw.map ((fun x : Ref × Blk => x.1.blk ρ' w0.heap.size) ∘ fun x : Ref × Blk => (x.1.put (m.os h.nv), (⟨x.2.ty, x.2.segs.flatMap (Seg.put (m.os h.nv))⟩ : Blk))) = c.hp'.rw.map fun x => x.1.blk ρt' w.heap.size :=
            List.map_congr_left fun x hx => (hout x hx).1
          rw [e]; exact hh'.nd
        · intro p hp q hq e
          obtain ⟨x, hx, rfl⟩ := List.mem_map.1 hp
          obtain ⟨y, hy, rfl⟩ := List.mem_map.1 hq
          simp only [Function.comp] at e
          rw [(kr x hx).1, (hout y hy).1] at e
          exact houtne y hy x hx e.symm
      · intro x hx j v hv
        rw [(ko x hx).1, (ko x hx).2.1]
        rw [(ko x hx).2.2] at hv
        rw [World.cell?_of_block (w := w) (hroOld x hx)]
        exact hh.ro x hx j v hv
      · intro x hx y hy
        rw [(ko x hx).1]
        rcases hmem y hy with hy | ⟨z, hz, rfl⟩
        · rw [(kr y hy).1]; exact hh.apart x hx y (p2 y hy)
        · simp only [(hout z hz).1]
          rcases href z hz with ⟨_, h1⟩ | ⟨_, u, hu, _, h2⟩
          · have := hh.rolt x hx; omega
          · obtain ⟨x2, hx2, e2, _⟩ := p3 u hu
            rw [h2, e2]; exact hh.apart x hx x2 hx2
      · intro x hx
        rw [(ko x hx).1]; exact hh.rolt x hx
      · have := hh.size
        show w'.heap.size = w0.heap.size + ρ'.nb h.na
        rw [hnb', hsz]
        cases hq : c.quiet with
        | true => simp only [if_true, hqz hq]; omega
        | false => simp only [Bool.false_eq_true, if_false, Nat.lt_irrefl]; omega
      · intro k hk
        show ρ'.nb (k + 1) = ρ'.nb k + 1
        rw [hnb', hnb']
        cases hq : c.quiet with
        | true => simp only [if_true]; exact hh.nbs k hk
        | false =>
          simp only [Bool.false_eq_true, if_false]
          have hk : h.na ≤ k := hk
          rw [if_neg (by omega), if_neg (by omega)]; omega
      · intro i hi hil hne
        rw [hlo] at hil
        have hne1 : ∀ x ∈ h.rw, x.1.blk ρ w0.heap.size ≠ i := by
          intro x hx e
          rcases perm_cover p1 (List.mem_map.2 ⟨x, hx, rfl⟩) with hc | hc
          · obtain ⟨t, ht, e'⟩ := List.mem_map.1 hc
            have h7 := g7 t ht
            simp only [Bool.and_eq_true] at h7
            obtain ⟨y, hy, e2⟩ := memR_spec h7.2
            have hyb : y.1.blk ρt' w.heap.size = t.1.blk ρt w.heap.size := by
              rw [e2]
              cases htr : t.1 <;> rw [htr] at h7 <;> first | (cases h7.1; done) | skip
              · rename_i n
                have := Nat.le_of_ble_eq_true h7.1
                exact hA.blk n (by omega)
              · rfl
            refine hne _ (List.mem_append.2 (.inr (List.mem_map.2 ⟨y, hy, rfl⟩))) ?_
            simp only [(hout y hy).1]
            rw [hyb, e', e]
          · obtain ⟨z, hz, e'⟩ := List.mem_map.1 hc
            exact hne z (List.mem_append.2 (.inl hz)) (by rw [(kr z hz).1, e', e])
        rw [hold i (by omega) (fun hb => by
          rcases (hlb2 i hb).1 with h1 | h1
          · omega
          · exact hil h1) fun y hy => by
          obtain ⟨x2, hx2, e2, _⟩ := p3 y hy
          rw [e2]; exact hne1 x2 hx2]
        exact hh.frame i hi hil hne1
      · intro o ho
        cases hco : c.hp.ow with
        | none =>
          simp only [hco] at ho k5
          have hcl := clearOw_den (S := S) hB0 k5 ho
          rcases hh.own o ho with h' | ⟨b, cp, u1, u2, u3, u4, u5, u6⟩
          · exact .inl ⟨by rw [hcl.1]; exact h'.1, by rw [hcl.2]; exact h'.2⟩
          · have hb : b < w.heap.size := (Array.getElem?_eq_some_iff.1 u3).1
            have hbo : w'.heap[b]? = w.heap[b]? := hold b hb (by rw [hlb3 hco]; simp) fun y hy => by
              obtain ⟨x2, hx2, e2, _⟩ := p3 y hy
              rw [e2]; exact u5 x2 hx2
            refine .inr ⟨b, cp, by rw [hcl.1, hcl.2]; exact u1, by rw [hcl.2]; exact u2, by rw [hcl.2, hbo]; exact u3, by rw [hlo]; exact u4, fun x hx => ?_, fun x hx => by rw [(ko x hx).1]; exact u6 x hx⟩
            rcases hmem x hx with hx | ⟨y, hy, rfl⟩
            · rw [(kr x hx).1]; exact u5 x (p2 x hx)
            · simp only [(hout y hy).1]
              rcases href y hy with ⟨_, h1⟩ | ⟨_, z, hz, _, h2⟩
              · omega
              · obtain ⟨x2, hx2, e2, _⟩ := p3 z hz
                rw [h2, e2]; exact u5 x2 hx2
        | some oc =>
          simp only [hco, Option.map_eq_some_iff] at ho g8
          obtain ⟨o', ho', rfl⟩ := ho
          rw [ho'] at g8
          have h100 := Nat.le_of_ble_eq_true g8
          have ev : ρ'.v (h.nv + o'.v) = ρt'.v o'.v := by
            rw [← hρ']; simp only [backE]; rw [if_neg (by omega), Nat.add_sub_cancel_left]
          have ea : (o'.a.put (m.os h.nv).t).A S ρ' = o'.a.A S ρt' := (T.put_den hos.t o'.a).2.2
          rcases hh'.own o' ho' with h' | ⟨b, cp, u1, u2, u3, u4, u5, u6⟩
          · exact .inl ⟨by simp only [ev]; exact h'.1, by simp only [ea]; exact h'.2⟩
          · have hbb : w.heap.size ≤ b ∨ b ∈ lb := by rw [hA.loose, htl] at u4; exact u4
            refine .inr ⟨b, cp, by simp only [ev, ea]; exact u1, by simp only [ea]; exact u2, by simp only [ea]; exact u3, ?_, fun x hx => ?_, fun x hx => ?_⟩
            · rcases hbb with h1 | h1
              · exact .inl (by omega)
              · rw [hlo]; exact (hlb2 b h1).1
            · rcases hmem x hx with hx | ⟨y, hy, rfl⟩
              · rw [(kr x hx).1]
                rcases hbb with h1 | h1
                · have := hex x (p2 x hx); omega
                · exact (hlb2 b h1).2.1 x (p2 x hx)
              · simp only [(hout y hy).1]; exact u5 y hy
            · rw [(ko x hx).1]
              rcases hbb with h1 | h1
              · have := hh.rolt x hx; omega
              · exact (hlb2 b h1).2.2 x hx
    · cases hs
  · cases hs
end
end
end Go.Proofs.YtljjbikbfeigdaaGreatDoor
namespace Go.Proofs.YtljjbikbfeigdaaGreatDoor
noncomputable section
open Go
/-- A contract of which all is known, applied. -/
def applyF (c : Ctr) : Spec := fun args h =>
  match applyR c args h with
  | some r => if c.quiet && r.facts.isEmpty && r.val.clear h.nv h.na && clearRw h.nv h.na r.heap.rw && clearRo h.nv h.na r.heap.ro && clearOw h.nv r.heap.ow then some ⟨r.need, r.val, { r.heap with nv := h.nv }⟩ else none
  | none => none
/-- What is asked in a walk. -/
inductive VC where
  | need (c : List T) (k : VC)
  | cond (c : T) (a b : VC)
  | any (ns na : Nat) (facts : List T) (k : VC)
  | done
  | fail (s : String)
  deriving Inhabited
def leafVC (c : Ctr) (v : SR) (h : Hp) : VC :=
  match fits 100 [c.val] c.hp' [v] h with
  | some (m, rest) => if tmOk 100 [c.val] c.hp' h rest c.quiet then .need (m.needs 100 ++ c.post.map (T.put (m.ts 100))) .done else .fail "leaf template"
  | none => .fail "leaf fit"
def Out.vc (P : Program) (rs : List ResultVar) (c : Ctr) : Out → VC
  | .need l k => .need l (k.vc P rs c)
  | .cond t x y => .cond t (x.vc P rs c) (y.vc P rs c)
  | .any ns na facts k => if (Nat.ble 100 ns).and (Nat.ble c.na na) then .any ns na facts (k.vc P rs c) else .fail "names"
  | .ret v h => leafVC c v h
  | .fall fr h => match retS P (getSR fr) h rs with
    | some v => leafVC c v h
    | none => .fail "result"
  | .done => .done
  | .tight k => match c.hp.ow with
    | none => k.vc P rs c
    | some _ => .fail "tight"
  | .fail s => .fail s
  | .out _ _ _ => .fail "out"
  | .stop (o :: _) _ _ _ _ => .fail ("stop " ++ o.pos)
  | .stop [] _ _ _ _ => .fail "stop"
section
variable (S : Sig)
def VC.ok : VC → Env → Prop
  | .need c k, ρ => Met S ρ c ∧ k.ok ρ
  | .cond c a b, ρ => (c.B S ρ = true → a.ok ρ) ∧ (c.B S ρ = false → b.ok ρ)
  | .any ns na facts k, ρ => ∀ ρ', Agree2 ns na ρ ρ' → Met S ρ' facts → k.ok ρ'
  | .done, _ => True
  | .fail _, _ => False
/-- Askings one by one, ahead of what follows. -/
def hyp (ρ : Env) : List T → Prop → Prop
  | [], p => p
  | t :: l, p => t.B S ρ = true → hyp ρ l p
/-- The same with one meaning of the names throughout. -/
def VC.sem (ρ : Env) : VC → Prop
  | .need c k => Met S ρ c ∧ hyp S ρ c (k.sem ρ)
  | .cond c a b => (c.B S ρ = true → a.sem ρ) ∧ (c.B S ρ = false → b.sem ρ)
  | .any _ _ facts k => hyp S ρ facts (k.sem ρ)
  | .done => True
  | .fail _ => False
end
def memT (l : List T) (t : T) : Bool := match l with
  | [] => false
  | x :: l => match x.same t with
    | true => true
    | false => memT l t
def notT (t : T) : T := match t with
  | .not u => u
  | t => .not t
def filterNot (hs : List T) : List T → List T
  | [] => []
  | t :: l => match memT hs t with
    | true => filterNot hs l
    | false => t :: filterNot hs l
def needVC (c : List T) (k : VC) : VC := match c with | [] => k | c => .need c k
/-- What is known already is left out; new names are new. -/
def VC.prep (hs : List T) : VC → Option VC
  | .need c k => match filterNot hs c with
    | [] => k.prep hs
    | c' => match k.prep (hs ++ c') with
      | some k' => some (.need c' k')
      | none => none
  | .cond c a b =>
    match memT hs c with
    | true => a.prep hs
    | false => match memT hs (notT c) with
      | true => b.prep hs
      | false => match a.prep (hs ++ [c]), b.prep (hs ++ [notT c]) with
        | some a', some b' => some (.cond c a' b')
        | _, _ => none
  | .any ns na facts k => match hs.all (T.clear ns) with
    | true => match k.prep (hs ++ facts) with
      | some k' => some (.any ns na facts k')
      | none => none
    | false => none
  | .done => some .done
  | .fail s => some (.fail s)
section
variable {S : Sig} {ρ : Env} {w0 : World} {P : Program}
theorem applyF_ok {f : FuncId} {c : Ctr} (hc : CtrOk P S f c) : SpecOk P S f (applyF c) := by
  intro ρ w0 w h args r hs hmet hw hh
  unfold applyF at hs
  split at hs
  · rename_i rr hr
    split at hs
    · rename_i hck
      simp only [Bool.and_eq_true, List.isEmpty_iff] at hck
      obtain ⟨⟨⟨⟨⟨hq, hf⟩, k1⟩, k2⟩, k3⟩, k4⟩ := hck
      cases hs
      have hcall := applyR_ok hc ρ w0 w h args rr hr hmet hw hh
      have hx : rr.ns = h.nv ∧ rr.na = h.na + 1000000000 ∧ rr.heap.na = h.na := by
        unfold applyR at hr
        split at hr
        · split at hr
          · cases hr; simp [hq]
          · cases hr
        · cases hr
      have key : ∀ (ρ' : Env) (w' : World), Agree2 rr.ns rr.na ρ ρ' → rr.val.wf S ρ' → HpOk S ρ' w0 rr.heap w' → rr.val.wf S ρ ∧ rr.val.den S ρ' w0.heap.size = rr.val.den S ρ w0.heap.size ∧ HpOk S ρ w0 { rr.heap with nv := h.nv } w' := by
        intro ρ' w' hA hv hh'
        have hA1 : Agree2 h.nv h.na ρ ρ' := hA.weaken (by omega) (by omega)
        have hA2 : Agree2 h.nv h.na ρ' ρ := ⟨fun k hk => (hA1.i k hk).symm, fun k hk => (hA1.b k hk).symm, fun k hk => (hA1.a k hk).symm, fun k hk => (hA1.v k hk).symm, fun k hk => (hA1.j k hk).symm, fun k hk => (hA1.blk k hk).symm, fun k hk => (hA1.off k hk).symm, fun k hk => (hA1.vs k hk).symm, fun k hk => (hA1.nb k hk).symm, hA1.loose.symm⟩
        obtain ⟨v1, v2⟩ := SR.clear_den (S := S) (B := w0.heap.size) hA2 k1
        unfold clearRw at k2
        unfold clearRo at k3
        rw [List.all_eq_true] at k2 k3
        have kr : ∀ x ∈ rr.heap.rw, x.1.blk ρ w0.heap.size = x.1.blk ρ' w0.heap.size ∧ x.1.off ρ = x.1.off ρ' ∧ segsDen S ρ w0.heap.size x.2.segs = segsDen S ρ' w0.heap.size x.2.segs ∧ (segsWf S ρ' x.2.segs → segsWf S ρ x.2.segs) := by
          intro x hx
          have := k2 x hx
          simp only [Bool.and_eq_true] at this
          exact ⟨(Ref.clear_den hA2 this.1).1, (Ref.clear_den hA2 (B := w0.heap.size) this.1).2, (segs_clear hA2 this.2).1, (segs_clear (B := w0.heap.size) hA2 this.2).2⟩
        have ko : ∀ x ∈ rr.heap.ro, x.1.blk ρ w0.heap.size = x.1.blk ρ' w0.heap.size ∧ x.1.off ρ = x.1.off ρ' ∧ x.2.2.A S ρ = x.2.2.A S ρ' := by
          intro x hx
          have := k3 x hx
          simp only [Bool.and_eq_true] at this
          exact ⟨(Ref.clear_den hA2 this.1).1, (Ref.clear_den hA2 (B := w0.heap.size) this.1).2, (T.clear_den hA2 this.2).2.2⟩
        refine ⟨v2 hv, v1.symm, ?_, ?_, ?_, ?_, ?_, ?_, ?_, ?_, ?_, ?_, ?_, hh'.os, hh'.tape, hh'.output⟩
        · intro x hx; rw [(kr x hx).1, (kr x hx).2.2.1]; exact hh'.rw_ x hx
        · intro x hx; exact (kr x hx).2.2.2 (hh'.wf x hx)
        · intro x hx; rw [(kr x hx).2.1]; exact hh'.off x hx
        · show (rr.heap.rw.map _).Nodup
          rw [List.map_congr_left fun x hx => (kr x hx).1]; exact hh'.nd
        · intro x hx j v hv
          rw [(ko x hx).1, (ko x hx).2.1]
          rw [(ko x hx).2.2] at hv
          exact hh'.ro x hx j v hv
        · intro x hx y hy; rw [(ko x hx).1, (kr y hy).1]; exact hh'.apart x hx y hy
        · intro x hx; rw [(ko x hx).1]; exact hh'.rolt x hx
        · have := hh'.size
          show _ = w0.heap.size + ρ.nb rr.heap.na
          rw [hx.2.2] at this ⊢
          rw [this, hA.nb h.na (by omega)]
        · intro k hk
          have hk : rr.heap.na ≤ k := hk
          rw [hx.2.2] at hk
          exact hh.nbs k hk
        · intro i hi hil hne
          exact hh'.frame i hi (by rw [hA1.loose]; exact hil) fun x hx => by rw [← (kr x hx).1]; exact hne x hx
        · intro o ho
          have hcl := clearOw_den (S := S) hA2 k4 ho
          rcases hh'.own o ho with u | ⟨b, cap, u1, u2, u3, u4, u5, u6⟩
          · exact .inl ⟨by rw [hcl.1]; exact u.1, by rw [hcl.2]; exact u.2⟩
          · exact .inr ⟨b, cap, by rw [hcl.1, hcl.2]; exact u1, by rw [hcl.2]; exact u2, by rw [hcl.2]; exact u3, by rw [hA2.loose]; exact u4, fun x hx => by rw [(kr x hx).1]; exact u5 x hx, fun x hx => by rw [(ko x hx).1]; exact u6 x hx⟩
      obtain ⟨e, w', fr, ⟨ρ', b1, b2, b3, b4, b5⟩, _⟩ := hcall []
      refine ⟨(key ρ' w' b1 b3 b5).1, hcall.mono ?_⟩
      rintro e w' ⟨ρ', b1, b2, b3, rfl, b5⟩
      obtain ⟨c1, c2, c3⟩ := key ρ' w' b1 b3 b5
      exact ⟨by rw [c2], c3⟩
    · cases hs
  · cases hs
theorem hyp_met : ∀ {l : List T} {p : Prop}, hyp S ρ l p → Met S ρ l → p
  | [], _, h, _ => h
  | t :: l, p, h, hm => hyp_met (l := l) (h (met_cons.1 hm).1) (met_cons.1 hm).2
theorem memT_spec : ∀ {l : List T} {t : T}, memT l t = true → t ∈ l
  | [], _, h => by cases h
  | x :: l, t, h => by
    unfold memT at h
    split at h
    · rename_i hs; rw [T.same_spec hs]; exact List.mem_cons_self ..
    · exact List.mem_cons_of_mem _ (memT_spec h)
theorem notT_B {t : T} : (notT t).B S ρ = true ↔ t.B S ρ = false := by
  unfold notT
  split
  · simp only [T.B]; simp
  · simp only [T.B]; simp
theorem filterNot_met {hs : List T} (h : Met S ρ hs) : ∀ {l : List T}, Met S ρ (filterNot hs l) → Met S ρ l
  | [], _ => Met.nil
  | t :: l, hm => by
    unfold filterNot at hm
    split at hm
    · rename_i hmem
      exact met_cons.2 ⟨h t (memT_spec hmem), filterNot_met h hm⟩
    · exact met_cons.2 ⟨(met_cons.1 hm).1, filterNot_met h (met_cons.1 hm).2⟩
theorem prep_ok : ∀ {vc vc' : VC} {hs : List T}, vc.prep hs = some vc' → (∀ ρ, Met S ρ hs → vc'.sem S ρ) → ∀ ρ, Met S ρ hs → vc.ok S ρ
  | .need c k, vc', hs, h, hq, ρ, hm => by
    simp only [VC.prep] at h
    split at h
    · rename_i he
      exact ⟨filterNot_met hm (by rw [he]; exact Met.nil), prep_ok h hq ρ hm⟩
    · rename_i c' _
      split at h
      · rename_i k' hk
        cases h
        have h1 := (hq ρ hm).1
        exact ⟨filterNot_met hm h1, prep_ok hk (fun ρ h => hyp_met (hq ρ (met_append.1 h).1).2 (met_append.1 h).2) ρ (met_append.2 ⟨hm, h1⟩)⟩
      · cases h
  | .cond c a b, vc', hs, h, hq, ρ, hm => by
    simp only [VC.prep] at h
    split at h
    · rename_i he
      have hc := hm c (memT_spec he)
      exact ⟨fun _ => prep_ok h hq ρ hm, fun hf => by rw [hc] at hf; cases hf⟩
    · split at h
      · rename_i he
        have hc := notT_B.1 (hm _ (memT_spec he))
        exact ⟨fun hf => (by rw [hc] at hf; cases hf), fun _ => prep_ok h hq ρ hm⟩
      · split at h
        · rename_i a' b' ha hb
          cases h
          constructor
          · intro hc
            exact prep_ok ha (fun ρ h => (hq ρ (met_append.1 h).1).1 ((met_append.1 h).2 _ (by simp))) ρ (met_append.2 ⟨hm, met_cons.2 ⟨hc, Met.nil⟩⟩)
          · intro hc
            exact prep_ok hb (fun ρ h => (hq ρ (met_append.1 h).1).2 (notT_B.1 ((met_append.1 h).2 _ (by simp)))) ρ (met_append.2 ⟨hm, met_cons.2 ⟨notT_B.2 hc, Met.nil⟩⟩)
        · cases h
  | .any ns na facts k, vc', hs, h, hq, ρ, hm => by
    simp only [VC.prep] at h
    split at h
    · rename_i hcl
      split at h
      · rename_i k' hk
        cases h
        intro ρ' hA hf
        exact prep_ok hk (fun ρ h => hyp_met (S := S) (ρ := ρ) (l := facts) (hq ρ (met_append.1 h).1) (met_append.1 h).2) ρ' (met_append.2 ⟨met_clear hA hcl hm, hf⟩)
      · cases h
    · cases h
  | .done, _, _, _, _, _, _ => trivial
  | .fail s, vc', hs, h, hq, ρ, hm => by
    simp only [VC.prep, Option.some.injEq] at h
    subst h
    exact hq ρ hm
theorem vc_ok {c : Ctr} {rs : List ResultVar} {Q : Exit → Act → World → Prop} {ρ0 : Env} (hna : c.hp'.na = 0) (hlo : c.hp.ow = none → ρ0.loose = []) : ∀ {o : Out} {ρ : Env}, (o.vc P rs c).ok S ρ → Agree2 100 c.na ρ0 ρ →
    (∀ (a : Act) (w : World) (v : Value), a.defers = [] → (resRun rs a.tmps).run P w = .ok v w → (∃ ρ', Agree2 100 c.na ρ0 ρ' ∧ Met S ρ' c.post ∧ c.val.wf S ρ' ∧ v = c.val.den S ρ' w0.heap.size ∧ HpOk S ρ' w0 c.hp' w) → Q .ret a w ∧ Q .normal a w) → o.okA P S w0 rs Q ρ := by
  have leaf : ∀ {ρ : Env} {v : SR} {h : Hp}, (leafVC c v h).ok S ρ → Agree2 100 c.na ρ0 ρ → ∀ w, v.wf S ρ → HpOk S ρ w0 h w → ∃ ρ', Agree2 100 c.na ρ0 ρ' ∧ Met S ρ' c.post ∧ c.val.wf S ρ' ∧ v.den S ρ w0.heap.size = c.val.den S ρ' w0.heap.size ∧ HpOk S ρ' w0 c.hp' w := by
    intro ρ v h hv hA w hw hh
    unfold leafVC at hv
    split at hv
    · rename_i m rest hfit
      split at hv
      · rename_i ht
        unfold tmOk at ht
        simp only [Bool.and_eq_true] at ht
        obtain ⟨t1, t2, t3, t4, t5, t6⟩ := ht
        rw [ble_iff] at t5
        obtain ⟨n1, n2⟩ := met_append.1 hv.1
        obtain ⟨ρ', h1, h2, h3, h4, h5⟩ := fits_same hfit n1 hh (fun y hy => by simp only [List.mem_singleton] at hy; subst hy; exact hw) t1 t2 (roLow_spec t3) t5 t4 c.quiet (fun hq => by rw [hq] at t6; exact Nat.eq_of_beq_eq_true (by simpa using t6))
        refine ⟨ρ', ?_, met_put h2 n2, h4 _ (by simp), ?_, h5⟩
        · refine hA.trans h1 (Nat.le_refl _) ?_
          rw [hna]; unfold Ctr.na; split <;> omega
        · simpa using h3.symm
      · exact hv.elim
    · exact hv.elim
  intro o
  induction o with
  | need l k ih => intro ρ h hA hq; exact ⟨h.1, ih h.2 hA hq⟩
  | cond t x y ih1 ih2 => intro ρ h hA hq; exact ⟨fun hc => ih1 (h.1 hc) hA hq, fun hc => ih2 (h.2 hc) hA hq⟩
  | any ns na facts k ih =>
    intro ρ h hA hq
    simp only [Out.vc] at h
    split at h
    · rename_i hc
      simp only [Bool.and_eq_true] at hc
      rw [ble_iff, ble_iff] at hc
      intro ρ' hA' hf
      exact ih (h ρ' hA' hf) (hA.trans hA' hc.1 hc.2 |>.weaken (Nat.le_refl _) (Nat.le_refl _)) hq
    · exact h.elim
  | ret v h' =>
    intro ρ h hA hq a w g1 g2 g3 g4
    exact (hq a w _ g2 g3 (leaf h hA w g1 g4)).1
  | fall fr h' =>
    intro ρ h hA hq
    simp only [Out.vc] at h
    split at h
    · rename_i v hv
      exact fun a w hf hh => (hq a w _ hf.defers (retS_ok hh hf hv) (leaf h hA w (retS_wf hh (getSR_wf hf.wf) hv) hh)).2
    · exact h.elim
  | done => intro ρ h hA hq; trivial
  | tight k ih =>
    intro ρ h hA hq
    simp only [Out.vc] at h
    split at h
    · rename_i hn; exact ⟨by rw [hA.loose]; exact hlo hn, ih h hA hq⟩
    · exact h.elim
  | fail s => intro ρ h hA hq; exact h.elim
  | out id fr h' => intro ρ h hA hq; exact h.elim
  | stop rest all ks fr h' => intro ρ h hA hq; cases rest <;> exact h.elim
end
/-- The lengths of a template's arrays. -/
def lenFacts (l : List (Ref × Blk)) : List T := l.flatMap fun x => x.2.segs.flatMap fun g => match g with | .arr _ a n => [.eq (.len a) (.lit n)] | _ => []
theorem lenFacts_met {S : Sig} {ρ : Env} {l : List (Ref × Blk)} (h : ∀ x ∈ l, segsWf S ρ x.2.segs) : Met S ρ (lenFacts l) := by
  intro t ht
  unfold lenFacts at ht
  rw [List.mem_flatMap] at ht
  obtain ⟨x, hx, ht⟩ := ht
  rw [List.mem_flatMap] at ht
  obtain ⟨g, hg, ht⟩ := ht
  have := h x hx g hg
  split at ht
  · simp only [List.mem_singleton] at ht
    subst ht
    rename_i k a n
    have this : (a.A S ρ).length = n := this
    show decide (((a.A S ρ).length : Int) = (n : Int)) = true
    exact decide_eq_true (by omega)
  · cases ht
/-- What a contract's walk asks. -/
def vcOf (P : Program) (specs : Nat → Option Spec) (rsp : Nat → Option RSpec) (tab : Tab) (fuel : Nat) (f : Nat) (c : Ctr) : Option VC :=
  match P.funcs[f]? with
  | some fn => match fn.body with
    | some b => if (Nat.beq c.hp.na 0).and (Nat.beq c.hp'.na 0) then
        ((walk P specs rsp tab fuel ⟨fn.results.toList, tab.lt f⟩ (.code b) [] (c.args ++ List.replicate (fn.ntmps - c.args.length) (.v (.one .undef))) c.hp).vc P fn.results.toList c).prep (c.pre ++ lenFacts c.hp.rw)
      else none
    | none => none
  | none => none
theorem ctr_ok {P : Program} {S : Sig} (hm : P.follows .mixedOrders = true) (hD : DrawsOk P) {specs : Nat → Option Spec} {rsp : Nat → Option RSpec} {tab : Tab} (hsp : ∀ f s, specs f = some s → SpecOk P S f s) (hrsp : ∀ f s, rsp f = some s → RSpecOk P S f s)
    {fuel f : Nat} {c : Ctr} {vc : VC} (h : vcOf P specs rsp tab fuel f c = some vc) (hv : ∀ ρ, Met S ρ (c.pre ++ lenFacts c.hp.rw) → vc.sem S ρ) : CtrOk P S f c := by
  unfold vcOf at h
  split at h
  · rename_i fn hfn
    split at h
    · rename_i b hb
      split at h
      · rename_i hna
        simp only [Bool.and_eq_true] at hna
        intro ρ w0 w hh hpre hw hlo
        refine calls_of_wp hfn hb ?_
        have hok := prep_ok h hv ρ (met_append.2 ⟨hpre, lenFacts_met hh.wf⟩)
        refine walk_ok (tab := tab) hm hD hsp hrsp fuel ⟨fn.results.toList, tab.lt f⟩ ρ _ (.code b) [] _ c.hp (hD f fn b hfn hb) rfl trivial ?_ _ w (fr_start hw fn.ntmps) hh
        refine vc_ok (Nat.eq_of_beq_eq_true hna.2) hlo hok (Agree2.rfl' _ _ ρ) ?_
        intro a w' v g1 g2 ⟨ρ', q1, q2, q3, q4, q5⟩
        have hp : bodyPost P fn (fun e w' => ∃ ρ', Agree2 100 c.na ρ ρ' ∧ Met S ρ' c.post ∧ c.val.wf S ρ' ∧ e = .returned (c.val.den S ρ' w0.heap.size) ∧ HpOk S ρ' w0 c.hp' w') .ret a w' := by
          refine ⟨g1, _, by rw [results_resRun]; exact g2, ρ', q1, q2, q3, by rw [q4], q5⟩
        exact ⟨hp, hp⟩
      · cases h
    · cases h
  · cases h
end
end Go.Proofs.YtljjbikbfeigdaaGreatDoor
namespace Go.Proofs.YtljjbikbfeigdaaGreatDoor
noncomputable section
open Go
section
variable {S : Sig} {ρ : Env} {w0 : World} {P : Program} {specs : Nat → Option Spec} {rs : List ResultVar}
theorem flat_ok {Q : Exit → Act → World → Prop} : ∀ {o : Out} {r : Res}, o.flat P rs = some r → Met S ρ r.need →
    (∀ (a : Act) (w : World), r.val.wf S ρ → a.defers = [] → (resRun rs a.tmps).run P w = .ok (r.val.den S ρ w0.heap.size) w → HpOk S ρ w0 r.heap w → Q .ret a w ∧ Q .normal a w) → o.ok P S ρ w0 rs Q
  | .need c k, r, h, hm, hq => by
    simp only [Out.flat] at h
    split at h
    · rename_i r' hr'
      cases h
      exact ⟨(met_append.1 hm).1, flat_ok hr' (met_append.1 hm).2 hq⟩
    · cases h
  | .ret v h', r, h, hm, hq => by
    simp only [Out.flat, Option.some.injEq] at h
    subst h
    exact fun a w h1 h2 h3 h4 => (hq a w h1 h2 h3 h4).1
  | .fall fr h', r, h, hm, hq => by
    simp only [Out.flat, Option.map_eq_some_iff] at h
    obtain ⟨v, hv, rfl⟩ := h
    exact fun a w hf hh => (hq a w (retS_wf hh (getSR_wf hf.wf) hv) hf.defers (retS_ok hh hf hv) hh).2
  | .cond c x y, r, h, hm, hq => by
    simp only [Out.flat] at h
    split at h
    · rename_i r' _ hr'
      cases h
      have hc := hm (.not c) (List.mem_cons_self)
      simp only [T.B, Bool.not_eq_true'] at hc
      exact ⟨fun h => absurd (h.symm.trans hc) (by simp), fun _ => flat_ok hr' (fun t ht => hm t (List.mem_cons_of_mem _ ht)) hq⟩
    · rename_i r' hr' _
      cases h
      have hc := hm c (List.mem_cons_self)
      exact ⟨fun _ => flat_ok hr' (fun t ht => hm t (List.mem_cons_of_mem _ ht)) hq, fun h => absurd (h.symm.trans hc) (by simp)⟩
    · cases h
  | .any .., _, h, _, _ => by cases h
  | .fail _, _, h, _, _ => by cases h
  | .out .., _, h, _, _ => by cases h
  | .stop .., _, h, _, _ => by cases h
  | .done, _, h, _, _ => by cases h
  | .tight _, _, h, _, _ => by cases h
theorem deep_ok (hm : P.follows .mixedOrders = true) (hD : DrawsOk P) {base : Nat → Option Spec} {ok : Nat → Bool} (hbase : ∀ f s, base f = some s → SpecOk P S f s) (fuel : Nat) : ∀ (n f : Nat) (s : Spec), deep P ok base fuel n f = some s → SpecOk P S f s := by
  intro n
  induction n with
  | zero => exact hbase
  | succ n ih =>
    intro f s hs
    simp only [deep] at hs
    split at hs
    · rename_i s' hb
      cases hs
      exact hbase f s hb
    · split at hs
      · unfold runSpec at hs
        split at hs
        · rename_i fn hfn
          split at hs
          · rename_i c hc
            cases hs
            intro ρ w0 w h args r hs hmet hw hh
            have hgoal : Calls P f (args.map (SR.den S ρ w0.heap.size)).toArray w (fun e w' => (e = .returned (r.val.den S ρ w0.heap.size) ∧ HpOk S ρ w0 r.heap w') ∧ r.val.wf S ρ) := by
              refine calls_of_wp hfn hc ?_
              have hok := flat_ok (w0 := w0) (Q := bodyPost P fn (fun e w' => (e = .returned (r.val.den S ρ w0.heap.size) ∧ HpOk S ρ w0 r.heap w') ∧ r.val.wf S ρ)) hs hmet (by
                intro a w' q1 q2 q3 q4
                have : bodyPost P fn (fun e w' => (e = .returned (r.val.den S ρ w0.heap.size) ∧ HpOk S ρ w0 r.heap w') ∧ r.val.wf S ρ) .ret a w' := by
                  refine ⟨q2, _, ?_, ⟨rfl, q4⟩, q1⟩
                  rw [results_resRun]; exact q3
                exact ⟨this, this⟩)
              exact walk_ok hm hD ih (rsp := fun _ => none) (fun _ _ h => by cases h) _ ⟨fn.results.toList, fun _ => none⟩ _ _ (.code c) [] _ h (hD f fn c hfn hc) rfl trivial hok _ w (fr_start hw fn.ntmps) hh
            obtain ⟨e, w', fr, hr, _⟩ := hgoal []
            exact ⟨hr.2, Calls.mono hgoal fun e w' h => h.1⟩
          · cases hs
        · cases hs
      · cases hs
end
end
end Go.Proofs.YtljjbikbfeigdaaGreatDoor
